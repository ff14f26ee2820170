import PyProof.Rows.All
import Wide.All
import OpenK.AllK
import Wide.FinOn
import Lean
import PySem.Challenge.RW_ta0073_01
set_option Elab.async false
set_option linter.all false
set_option maxRecDepth 100000
set_option maxHeartbeats 8000000
set_option tactic.hygienic false
namespace Mine
theorem uA {α : Type _} {a : α} {l : List α} : (a :: l).reverse = l.reverse ++ [a] := List.reverse_cons
theorem uB {α : Type _} : ([] : List α).reverse = [] := rfl
theorem uC {α : Type _} {l : List α} : [] ++ l = l := rfl
theorem uD {α : Type _} {a : α} {l r : List α} : a :: l ++ r = a :: (l ++ r) := rfl
theorem uE {α : Type _} {a : α} {l : List α} : (a :: l).length = l.length + 1 := rfl
theorem uF {α : Type _} : ([] : List α).length = 0 := rfl
theorem uG {α β : Type _} {a : α} {f : α → β} : (some a).map f = some (f a) := rfl
theorem uH {α : Type _} [BEq α] [ReflBEq α] {a : α} : (a == a) = true := beq_self_eq_true a
theorem uJ {a b : Nat} (h : a = b) : a ≤ b := Nat.le_of_eq h
set_option genSizeOf false in
set_option genInjectivity false in
inductive E where
 | n (k : Nat)
 | v (i : Nat)
 | a (x y : E)
 | m (k : Nat) (x : E)
 | r (x : E) (k : Nat)
set_option genSizeOf false in
set_option genInjectivity false in
inductive I where
 | n (k : Int)
 | c (x : E)
 | a (x y : I)
 | s (x y : I)
 | g (x : I)
 | m (k : Int) (x : I)
set_option genSizeOf false in
set_option genInjectivity false in
inductive Fa where
 | z
 | c (k : Nat) (x y : E) (f : Fa)
 | i (k : Nat) (x y : I) (f : Fa)
noncomputable def nthN (l : List Nat) : Nat → Nat := List.rec (fun _ => 0) (fun x _ h i => Nat.casesOn i x h) l
noncomputable def E.d (l : List Nat) (e : E) : Nat := E.rec (fun k => k) (nthN l) (fun _ _ a b => a + b) (fun k _ a => k * a) (fun _ k a => a * k) e
noncomputable def I.d (l : List Nat) (e : I) : Int := I.rec (fun k => k) (fun x => x.d l) (fun _ _ a b => a + b) (fun _ _ a b => a - b) (fun _ a => - a) (fun k _ a => k * a) e
noncomputable def one (k : Int) (j i : Nat) : Int := cond (Nat.beq i j) k 0
noncomputable def E.o (e : E) : Nat → Int := E.rec (fun k => one k 0) (fun j => one 1 (j + 1)) (fun _ _ a b i => a i + b i) (fun k _ a i => k * a i) (fun _ k a i => k * a i) e
noncomputable def I.o (e : I) : Nat → Int := I.rec (fun k => one k 0) (fun x => x.o) (fun _ _ a b i => a i + b i) (fun _ _ a b i => a i + -1 * b i) (fun _ a i => -1 * a i) (fun k _ a i => k * a i) e
noncomputable def Fa.o (f : Fa) : Nat → Int := Fa.rec (fun _ => 0) (fun k x y _ h i => k * (y.o i + -1 * x.o i) + h i) (fun k x y _ h i => k * (y.o i + -1 * x.o i) + h i) f
noncomputable def Fa.P (l : List Nat) (G : Prop) (f : Fa) : Prop := Fa.rec G (fun _ x y _ h => x.d l ≤ y.d l → h) (fun _ x y _ h => x.d l ≤ y.d l → h) f
noncomputable def chkO (f : Nat → Int) (n : Nat) : Bool := Nat.rec true (fun n h => decide (f (n + 1) ≤ 0) && h) n
noncomputable def dot (l : List Nat) : (Nat → Int) → Int := List.rec (fun _ => 0) (fun x _ h f => f 0 * (x : Int) + h fun i => f (i + 1)) l
theorem dot_add (l : List Nat) : ∀ f g : Nat → Int, dot l (fun i => f i + g i) = dot l f + dot l g := by
 induction l with
 | nil => exact fun _ _ => rfl
 | cons x r ih =>
  intro f g
  show (f 0 + g 0) * (x : Int) + dot r (fun i => f (i + 1) + g (i + 1)) = (f 0 * x + dot r fun i => f (i + 1)) + (g 0 * x + dot r fun i => g (i + 1))
  rw [ih, Int.add_mul, Int.add_assoc, Int.add_assoc, Int.add_left_comm (g 0 * (x : Int))]
theorem dot_mul (l : List Nat) (k : Int) : ∀ f : Nat → Int, dot l (fun i => k * f i) = k * dot l f := by
 induction l with
 | nil => exact fun _ => (Int.mul_zero k).symm
 | cons x r ih =>
  intro f
  show k * f 0 * (x : Int) + dot r (fun i => k * f (i + 1)) = k * (f 0 * x + dot r fun i => f (i + 1))
  rw [ih, Int.mul_add, Int.mul_assoc]
theorem dot_zero (l : List Nat) : dot l (fun _ => 0) = 0 := by
 induction l with
 | nil => rfl
 | cons x r ih => exact (congr (congrArg HAdd.hAdd (Int.zero_mul _)) ih).trans rfl
theorem dot_one (k : Int) (l : List Nat) : ∀ j : Nat, dot l (one k j) = k * (nthN l j : Nat) := by
 induction l with
 | nil => exact fun _ => (Int.mul_zero k).symm
 | cons x r ih =>
  intro j
  cases j with
  | zero => exact (congrArg (k * (x : Int) + ·) (dot_zero r)).trans (Int.add_zero _)
  | succ j => exact (congr (congrArg HAdd.hAdd (Int.zero_mul _)) (ih j)).trans (Int.zero_add _)
theorem dot_le (l : List Nat) : ∀ f : Nat → Int, (∀ i, i < l.length → f i ≤ 0) → dot l f ≤ 0 := by
 induction l with
 | nil => exact fun _ _ => Int.le_refl _
 | cons x r ih => exact fun f h => Int.add_le_add (Int.mul_nonpos_of_nonpos_of_nonneg (h 0 (Nat.zero_lt_succ _)) (Int.natCast_nonneg x)) (ih (fun i => f (i + 1)) fun i hi => h (i + 1) (Nat.succ_lt_succ hi))
theorem E.val (l : List Nat) (e : E) : ((e.d l : Nat) : Int) = dot (1 :: l) e.o := by
 induction e with
 | n k => exact ((dot_one k (1 :: l) 0).trans (Int.mul_one _)).symm
 | v i => exact ((dot_one 1 (1 :: l) (i + 1)).trans (Int.one_mul _)).symm
 | a x y hx hy => exact ((dot_add (1 :: l) x.o y.o).trans (congr (congrArg HAdd.hAdd hx.symm) hy.symm)).symm
 | m k x hx => exact ((dot_mul (1 :: l) k x.o).trans (congrArg ((k : Int) * ·) hx.symm)).symm
 | r x k hx => exact ((dot_mul (1 :: l) k x.o).trans ((congrArg ((k : Int) * ·) hx.symm).trans (Int.mul_comm _ _))).symm
theorem dot_sub (l : List Nat) (f g : Nat → Int) : dot l (fun i => f i + -1 * g i) = dot l f - dot l g := by
 rw [dot_add, dot_mul, Int.neg_mul, Int.one_mul]; rfl
theorem I.val (l : List Nat) (e : I) : e.d l = dot (1 :: l) e.o := by
 induction e with
 | n k => exact ((dot_one k (1 :: l) 0).trans (Int.mul_one _)).symm
 | c x => exact x.val l
 | a x y hx hy => exact ((dot_add (1 :: l) x.o y.o).trans (congr (congrArg HAdd.hAdd hx.symm) hy.symm)).symm
 | s x y hx hy => exact ((dot_sub (1 :: l) x.o y.o).trans (congr (congrArg HSub.hSub hx.symm) hy.symm)).symm
 | g x hx => exact ((dot_mul (1 :: l) (-1) x.o).trans ((Int.neg_mul _ _).trans (congrArg Neg.neg ((Int.one_mul _).trans hx.symm)))).symm
 | m k x hx => exact ((dot_mul (1 :: l) k x.o).trans (congrArg (k * ·) hx.symm)).symm
theorem Fa.add (l : List Nat) (k : Nat) (x y f : Nat → Int) (h : dot l x ≤ dot l y) (q : 0 ≤ dot l f) : 0 ≤ dot l (fun i => k * (y i + -1 * x i) + f i) := by
 rw [dot_add, dot_mul, dot_sub]
 exact Int.add_nonneg (Int.mul_nonneg (Int.natCast_nonneg k) (Int.sub_nonneg_of_le h)) q
theorem Fa.use (l : List Nat) {G : Prop} (f : Fa) : (0 ≤ dot (1 :: l) f.o → G) → f.P l G := by
 induction f with
 | z => exact fun h => h (Int.le_of_eq (dot_zero _).symm)
 | c k x y f ih => exact fun h hf => ih fun q => h (Fa.add (1 :: l) k x.o y.o f.o (by rw [← x.val, ← y.val]; exact Int.ofNat_le.mpr hf) q)
 | i k x y f ih => exact fun h hf => ih fun q => h (Fa.add (1 :: l) k x.o y.o f.o (by rw [← x.val, ← y.val]; exact hf) q)
noncomputable def chk (n m : Nat) (x y : I) (f : Fa) : Bool :=
 decide (0 < m) && (chkO (fun i => m * (x.o i + -1 * y.o i) + f.o i) n && decide (m * (x.o 0 + -1 * y.o 0) + f.o 0 < m))
theorem chkO_e {f : Nat → Int} (n : Nat) : chkO f n = true → ∀ i, i < n → f (i + 1) ≤ 0 := by
 induction n with
 | zero => exact fun _ i hi => absurd hi (Nat.not_lt_zero _)
 | succ n ih => exact fun h i hi => (Nat.lt_succ_iff_lt_or_eq.mp hi).elim (ih (Bool.and_eq_true_iff.mp h).2 i) fun q => q ▸ of_decide_eq_true (Bool.and_eq_true_iff.mp h).1
theorem jO (l : List Nat) (m : Nat) (x y : I) (f : Fa) (h : chk l.length m x y f = true) : f.P l (x.d l ≤ y.d l) := by
 refine f.use l fun q => ?_
 have h1 : 0 < m := of_decide_eq_true (Bool.and_eq_true_iff.mp h).1
 have h2 := dot_le l _ (chkO_e l.length (Bool.and_eq_true_iff.mp (Bool.and_eq_true_iff.mp h).2).1)
 have h3 := of_decide_eq_true (Bool.and_eq_true_iff.mp (Bool.and_eq_true_iff.mp h).2).2
 have h4 : dot (1 :: l) (fun i => m * (x.o i + -1 * y.o i) + f.o i) < m := Int.lt_of_le_of_lt (Int.add_le_add_left h2 _) (((Int.add_zero _).trans (Int.mul_one _)) ▸ h3)
 rw [dot_add, dot_mul, dot_sub, ← x.val, ← y.val] at h4
 have h5 : (m : Int) * (x.d l - y.d l) < m * 1 := (Int.mul_one (m : Int)).symm ▸ Int.lt_of_le_of_lt (Int.le_add_of_nonneg_right q) h4
 exact Int.le_of_sub_nonpos (Int.le_of_lt_add_one (Int.lt_of_mul_lt_mul_left h5 (Int.natCast_nonneg m)))
theorem Fa.imp {l : List Nat} {G H : Prop} (g : G → H) (f : Fa) : f.P l G → f.P l H := by
 induction f with
 | z => exact g
 | c k x y f ih => exact fun h q => ih (h q)
 | i k x y f ih => exact fun h q => ih (h q)
theorem qA (l : List Nat) (m : Nat) (x y : E) (f : Fa) (h : chk l.length m (.c x) (.c y) f = true) : f.P l (x.d l ≤ y.d l) := Fa.imp (fun q => Int.ofNat_le.mp q) f (jO l m (.c x) (.c y) f h)
theorem jY (l : List Nat) (f : Fa) (h : chk l.length 1 (.n 1) (.n 0) f = true) : f.P l False := Fa.imp (fun q => absurd q (show ¬ ((1 : Int) ≤ 0) by decide)) f (jO l 1 (.n 1) (.n 0) f h)
theorem jV (a b : Nat) : a ≤ a - b + b := Nat.le_add_of_sub_le (Nat.le_refl _)
theorem jL {a b : Nat} (h : b ≤ a) : a - b + b ≤ a := uJ (Nat.sub_add_cancel h)
theorem subZ {a b : Nat} (h : a ≤ b) : a - b ≤ 0 := uJ (Nat.sub_eq_zero_of_le h)
theorem modGe (a k : Nat) : a ≤ k * (a / k) + a % k := uJ (Nat.div_add_mod a k).symm
theorem modLe (a k : Nat) : k * (a / k) + a % k ≤ a := uJ (Nat.div_add_mod a k)
theorem dEA {α} {p q : α → Prop} {G : Prop} (h : ∃ a, p a ∧ q a) (g : ∀ a, p a → q a → G) : G := h.elim fun a h1 => g a h1.1 h1.2
theorem dEEAA {α} {β} {p q P : α → β → Prop} {G : Prop} (h : ∃ a b, p a b ∧ q a b ∧ P a b) (g : ∀ a b, p a b → q a b → P a b → G) : G := h.elim fun a h1 => h1.elim fun b h2 => g a b h2.1 h2.2.1 h2.2.2
theorem dEAA {α} {p q P : α → Prop} {G : Prop} (h : ∃ a, p a ∧ q a ∧ P a) (g : ∀ a, p a → q a → P a → G) : G := h.elim fun a h1 => g a h1.1 h1.2.1 h1.2.2
theorem dAA {p q P : Prop} {G : Prop} (h : p ∧ q ∧ P) (g : p → q → P → G) : G := g h.1 h.2.1 h.2.2
theorem dEEEAA {α} {β} {γ} {p q P : α → β → γ → Prop} {G : Prop} (h : ∃ a b c, p a b c ∧ q a b c ∧ P a b c) (g : ∀ a b c, p a b c → q a b c → P a b c → G) : G := h.elim fun a h1 => h1.elim fun b h2 => h2.elim fun c h3 => g a b c h3.1 h3.2.1 h3.2.2
theorem dEEA {α} {β} {p q : α → β → Prop} {G : Prop} (h : ∃ a b, p a b ∧ q a b) (g : ∀ a b, p a b → q a b → G) : G := h.elim fun a h1 => h1.elim fun b h2 => g a b h2.1 h2.2
theorem dEEAAA {α} {β} {p q P Q : α → β → Prop} {G : Prop} (h : ∃ a b, p a b ∧ q a b ∧ P a b ∧ Q a b) (g : ∀ a b, p a b → q a b → P a b → Q a b → G) : G := h.elim fun a h1 => h1.elim fun b h2 => g a b h2.1 h2.2.1 h2.2.2.1 h2.2.2.2
theorem dEAAA {α} {p q P Q : α → Prop} {G : Prop} (h : ∃ a, p a ∧ q a ∧ P a ∧ Q a) (g : ∀ a, p a → q a → P a → Q a → G) : G := h.elim fun a h1 => g a h1.1 h1.2.1 h1.2.2.1 h1.2.2.2
theorem dAEEEEAAAA {α} {β} {γ} {δ} {p : Prop} {q P Q R S : α → β → γ → δ → Prop} {G : Prop} (h : p ∧ ∃ a b c d, q a b c d ∧ P a b c d ∧ Q a b c d ∧ R a b c d ∧ S a b c d) (g : p → ∀ a b c d, q a b c d → P a b c d → Q a b c d → R a b c d → S a b c d → G) : G := h.2.elim fun a h1 => h1.elim fun b h2 => h2.elim fun c h3 => h3.elim fun d h4 => g h.1 a b c d h4.1 h4.2.1 h4.2.2.1 h4.2.2.2.1 h4.2.2.2.2
theorem dAEA {α} {p : Prop} {q P : α → Prop} {G : Prop} (h : p ∧ ∃ a, q a ∧ P a) (g : p → ∀ a, q a → P a → G) : G := h.2.elim fun a h1 => g h.1 a h1.1 h1.2
theorem dEEEEAAA {α} {β} {γ} {δ} {p q P Q : α → β → γ → δ → Prop} {G : Prop} (h : ∃ a b c d, p a b c d ∧ q a b c d ∧ P a b c d ∧ Q a b c d) (g : ∀ a b c d, p a b c d → q a b c d → P a b c d → Q a b c d → G) : G := h.elim fun a h1 => h1.elim fun b h2 => h2.elim fun c h3 => h3.elim fun d h4 => g a b c d h4.1 h4.2.1 h4.2.2.1 h4.2.2.2
theorem dEAAE {α} {β} {p q : α → Prop} {P : α → β → Prop} {G : Prop} (h : ∃ a, p a ∧ q a ∧ ∃ b, P a b) (g : ∀ a, p a → q a → ∀ b, P a b → G) : G := h.elim fun a h1 => h1.2.2.elim fun b h2 => g a h1.1 h1.2.1 b h2
theorem dAAA {p q P Q : Prop} {G : Prop} (h : p ∧ q ∧ P ∧ Q) (g : p → q → P → Q → G) : G := g h.1 h.2.1 h.2.2.1 h.2.2.2
theorem dEAEA {α} {β} {p : α → Prop} {q P : α → β → Prop} {G : Prop} (h : ∃ a, p a ∧ ∃ b, q a b ∧ P a b) (g : ∀ a, p a → ∀ b, q a b → P a b → G) : G := h.elim fun a h1 => h1.2.elim fun b h2 => g a h1.1 b h2.1 h2.2
theorem dAEEEEAAA {α} {β} {γ} {δ} {p : Prop} {q P Q R : α → β → γ → δ → Prop} {G : Prop} (h : p ∧ ∃ a b c d, q a b c d ∧ P a b c d ∧ Q a b c d ∧ R a b c d) (g : p → ∀ a b c d, q a b c d → P a b c d → Q a b c d → R a b c d → G) : G := h.2.elim fun a h1 => h1.elim fun b h2 => h2.elim fun c h3 => h3.elim fun d h4 => g h.1 a b c d h4.1 h4.2.1 h4.2.2.1 h4.2.2.2
theorem dEEEEEAAAAAAAA {α} {β} {γ} {δ} {ε} {p q P Q R S T U W : α → β → γ → δ → ε → Prop} {G : Prop} (h : ∃ a b c d e, p a b c d e ∧ q a b c d e ∧ P a b c d e ∧ Q a b c d e ∧ R a b c d e ∧ S a b c d e ∧ T a b c d e ∧ U a b c d e ∧ W a b c d e) (g : ∀ a b c d e, p a b c d e → q a b c d e → P a b c d e → Q a b c d e → R a b c d e → S a b c d e → T a b c d e → U a b c d e → W a b c d e → G) : G := h.elim fun a h1 => h1.elim fun b h2 => h2.elim fun c h3 => h3.elim fun d h4 => h4.elim fun e h5 => g a b c d e h5.1 h5.2.1 h5.2.2.1 h5.2.2.2.1 h5.2.2.2.2.1 h5.2.2.2.2.2.1 h5.2.2.2.2.2.2.1 h5.2.2.2.2.2.2.2.1 h5.2.2.2.2.2.2.2.2
theorem dAAEEEA {α} {β} {γ} {p q : Prop} {P Q : α → β → γ → Prop} {G : Prop} (h : p ∧ q ∧ ∃ a b c, P a b c ∧ Q a b c) (g : p → q → ∀ a b c, P a b c → Q a b c → G) : G := h.2.2.elim fun a h1 => h1.elim fun b h2 => h2.elim fun c h3 => g h.1 h.2.1 a b c h3.1 h3.2
theorem dAAE {α} {p q : Prop} {P : α → Prop} {G : Prop} (h : p ∧ q ∧ ∃ a, P a) (g : p → q → ∀ a, P a → G) : G := h.2.2.elim fun a h1 => g h.1 h.2.1 a h1
theorem dEEEAAA {α} {β} {γ} {p q P Q : α → β → γ → Prop} {G : Prop} (h : ∃ a b c, p a b c ∧ q a b c ∧ P a b c ∧ Q a b c) (g : ∀ a b c, p a b c → q a b c → P a b c → Q a b c → G) : G := h.elim fun a h1 => h1.elim fun b h2 => h2.elim fun c h3 => g a b c h3.1 h3.2.1 h3.2.2.1 h3.2.2.2
theorem dEEE {α} {β} {γ} {p : α → β → γ → Prop} {G : Prop} (h : ∃ a b c, p a b c) (g : ∀ a b c, p a b c → G) : G := h.elim fun a h1 => h1.elim fun b h2 => h2.elim fun c h3 => g a b c h3
theorem dEAEAA {α} {β} {p : α → Prop} {q P Q : α → β → Prop} {G : Prop} (h : ∃ a, p a ∧ ∃ b, q a b ∧ P a b ∧ Q a b) (g : ∀ a, p a → ∀ b, q a b → P a b → Q a b → G) : G := h.elim fun a h1 => h1.2.elim fun b h2 => g a h1.1 b h2.1 h2.2.1 h2.2.2
theorem dAE {α} {p : Prop} {q : α → Prop} {G : Prop} (h : p ∧ ∃ a, q a) (g : p → ∀ a, q a → G) : G := h.2.elim fun a h1 => g h.1 a h1
theorem dEAAAA {α} {p q P Q R : α → Prop} {G : Prop} (h : ∃ a, p a ∧ q a ∧ P a ∧ Q a ∧ R a) (g : ∀ a, p a → q a → P a → Q a → R a → G) : G := h.elim fun a h1 => g a h1.1 h1.2.1 h1.2.2.1 h1.2.2.2.1 h1.2.2.2.2
theorem dEEEA {α} {β} {γ} {p q : α → β → γ → Prop} {G : Prop} (h : ∃ a b c, p a b c ∧ q a b c) (g : ∀ a b c, p a b c → q a b c → G) : G := h.elim fun a h1 => h1.elim fun b h2 => h2.elim fun c h3 => g a b c h3.1 h3.2
theorem dEEAAAA {α} {β} {p q P Q R : α → β → Prop} {G : Prop} (h : ∃ a b, p a b ∧ q a b ∧ P a b ∧ Q a b ∧ R a b) (g : ∀ a b, p a b → q a b → P a b → Q a b → R a b → G) : G := h.elim fun a h1 => h1.elim fun b h2 => g a b h2.1 h2.2.1 h2.2.2.1 h2.2.2.2.1 h2.2.2.2.2
end Mine
namespace Mine
open PySem PySem.Calls PySem.W PyProof.Rows
theorem qC {G : Prop} (h : ∀ P : Prop, (G → P) → P) : G := h G id
noncomputable abbrev Fz := Addr → Option Obj
noncomputable def FLe (F F' : Fz) : Prop := ∀ a o, F a = some o → F' a = some o
noncomputable def FIn (F : Fz) (h : Heap) : Prop := ∀ a o, F a = some o → h.get? a = some o
theorem FLe.refl (F : Fz) : FLe F F := fun _ _ e => e
theorem FLe.trans {F G H : Fz} (x : FLe F G) (y : FLe G H) : FLe F H := fun a o e => y a o (x a o e)
mutual
inductive VR (F : Fz) : Value → PyData → Prop
 | none : VR F .none .none
 | bool (b) : VR F (.bool b) (.bool b)
 | int (i t) : VR F (.int i t) (.int i)
 | str (x t) : VR F (.str x t) (.str x)
 | list {a o vs n xs} : F a = some o → o.cls = .type "list" → o.data = .seq vs n → VRs F vs.toList xs → VR F (.ref a) (.list xs)
 | tuple {a o vs n xs} : F a = some o → o.cls = .type "tuple" → o.data = .seq vs n → VRs F vs.toList xs → VR F (.ref a) (.tuple xs)
inductive VRs (F : Fz) : List Value → List PyData → Prop
 | nil : VRs F [] []
 | cons {v vs d ds} : VR F v d → VRs F vs ds → VRs F (v :: vs) (d :: ds)
end
theorem VR.mono {F F' : Fz} (hF : FLe F F') {v d} (h : VR F v d) : VR F' v d :=
 VR.rec (motive_1 := fun v d _ => VR F' v d) (motive_2 := fun vs ds _ => VRs F' vs ds) .none .bool .int .str (fun e c q _ r => .list (hF _ _ e) c q r) (fun e c q _ r => .tuple (hF _ _ e) c q r) .nil (fun _ _ a b => .cons a b) h
theorem VRs.ind {F : Fz} {M : List Value → List PyData → Prop} {vs ds} (h : VRs F vs ds) (n : M [] []) (c : ∀ v vs d ds, VR F v d → VRs F vs ds → M vs ds → M (v :: vs) (d :: ds)) : M vs ds :=
 VRs.rec (motive_1 := fun _ _ _ => True) (motive_2 := fun vs ds _ => M vs ds) trivial (fun _ => trivial) (fun _ _ => trivial) (fun _ _ => trivial) (fun _ _ _ _ _ => trivial) (fun _ _ _ _ _ => trivial) n (fun a b _ m => c _ _ _ _ a b m) h
theorem VRs.mono {F F' : Fz} (hF : FLe F F') {v d} (h : VRs F v d) : VRs F' v d := h.ind .nil fun _ _ _ _ a _ m => .cons (a.mono hF) m
theorem VR.reads {F : Fz} {h : Heap} (hF : FIn F h) {v d} (r : VR F v d) : ∃ as, Reads h v d as :=
 VR.rec (motive_1 := fun v d _ => ∃ as, Reads h v d as) (motive_2 := fun vs ds _ => ∃ as, ReadsAll h vs ds as) ⟨_, .none⟩ (fun b => ⟨_, .bool b⟩) (fun i t => ⟨_, .int i t⟩) (fun x t => ⟨_, .str x t⟩) (fun e c q _ r => r.elim fun _ r => ⟨_, .list (hF _ _ e) c q r⟩)
  (fun e c q _ r => r.elim fun _ r => ⟨_, .tuple (hF _ _ e) c q r⟩) ⟨_, .nil⟩ (fun _ _ a b => a.elim fun _ a => b.elim fun _ b => ⟨_, .cons a b⟩) r
theorem VRs.reads {F : Fz} {h : Heap} (hF : FIn F h) {v d} (r : VRs F v d) : ∃ as, ReadsAll h v d as :=
 r.ind (M := fun vs ds => ∃ as, ReadsAll h vs ds as) ⟨_, .nil⟩ fun _ _ _ _ a _ b => (a.reads hF).elim fun _ a => b.elim fun _ b => ⟨_, .cons a b⟩
theorem VRs.append {F : Fz} {vs ds us es} (x : VRs F vs ds) (h : VRs F us es) : VRs F (vs ++ us) (ds ++ es) := x.ind (M := fun vs ds => VRs F (vs ++ us) (ds ++ es)) h fun _ _ _ _ a _ m => .cons a m
theorem VRs.length {F : Fz} {vs ds} (h : VRs F vs ds) : vs.length = ds.length := h.ind (M := fun vs ds => vs.length = ds.length) rfl fun _ _ _ _ _ _ m => congrArg Nat.succ m
theorem VRs.get {F : Fz} {vs ds} (h : VRs F vs ds) : ∀ (i : Nat) {d}, ds[i]? = some d → ∃ v, vs[i]? = some v ∧ VR F v d :=
 h.ind (M := fun vs ds => ∀ (i : Nat) {d}, ds[i]? = some d → ∃ v, vs[i]? = some v ∧ VR F v d) (fun _ _ e => nomatch e) fun v vs d ds a _ m i =>
  Nat.casesOn (motive := fun i => ∀ {d'}, (d :: ds)[i]? = some d' → ∃ u, (v :: vs)[i]? = some u ∧ VR F u d') i (fun e => ⟨v, rfl, Option.some.inj e ▸ a⟩) fun i _ e => m i e
theorem VRs.drop {F : Fz} {vs ds} (h : VRs F vs ds) : ∀ (i : Nat), VRs F (vs.drop i) (ds.drop i) :=
 h.ind (M := fun vs ds => ∀ (i : Nat), VRs F (vs.drop i) (ds.drop i)) (fun i => Nat.casesOn i .nil fun _ => .nil) fun _ _ _ _ a r m i => Nat.casesOn i (.cons a r) fun i => m i
theorem VRs.take {F : Fz} {vs ds} (h : VRs F vs ds) : ∀ (i : Nat), VRs F (vs.take i) (ds.take i) :=
 h.ind (M := fun vs ds => ∀ (i : Nat), VRs F (vs.take i) (ds.take i)) (fun i => Nat.casesOn i .nil fun _ => .nil) fun _ _ _ _ a _ m i => Nat.casesOn i .nil fun i => .cons a (m i)
structure PF where
 P : Fz → Addr → Prop
 mono : ∀ F F' a, FLe F F' → P F a → P F' a
inductive XV where
 | v (d : PyData)
 | own (i : Nat)
 | rng (a b c : Int)
 | pr (p : PF)
 | hdr (C : Addr) (i : Nat)
inductive MO where
 | list (xs : List PyData)
 | hdr (xs : List PyData)
 | tab (P : Addr) (qs : List ((Nat × Nat) × Str))
 | it (xs : List PyData)
 | dead
noncomputable abbrev Pl := List (Addr × Addr)
noncomputable abbrev Vars := List (String × XV)
noncomputable abbrev Sto := List MO
noncomputable def rngObj (a b c : Int) (t u v : Tok) : Obj := { cls := .type "range", data := .fields #[.int a t, .int b u, .int c v] }
noncomputable def NsF (F : Fz) (d : Addr) (m : Str → Option Value) : Prop := ∀ h : Heap, (∀ o, F d = some o → h.get? d = some o) → h.Ns1 d m
noncomputable def HdrI (F : Fz) (C x a : Addr) : Prop := ∃ o d od, F x = some o ∧ o.cls = .ref C ∧ (∀ c, o.data ≠ .cls c) ∧ o.dict = some d ∧ d ≠ x ∧ F d = some od ∧ NsF F d fun y => if y = Str.ofString "_headers" then some (.ref a) else none
theorem NsF.mono {F F' : Fz} (hF : FLe F F') {d m} (x : NsF F d m) {o : Obj} (e : F d = some o) : NsF F' d m := fun h k => x h fun o' e' => k o' (hF _ _ e')
theorem HdrI.mono {F F' : Fz} (hF : FLe F F') {C x a : Addr} (h : HdrI F C x a) : HdrI F' C x a := h.elim fun o h => h.elim fun d h => h.elim fun od h => ⟨o, d, od, hF _ _ h.1, h.2.1, h.2.2.1, h.2.2.2.1, h.2.2.2.2.1, hF _ _ h.2.2.2.2.2.1, h.2.2.2.2.2.2.mono hF h.2.2.2.2.2.1⟩
inductive XR (F : Fz) (ρ : Pl) : Value → XV → Prop
 | v {v d} : VR F v d → XR F ρ v (.v d)
 | own {i p} : ρ[i]? = some p → XR F ρ (.ref p.1) (.own i)
 | rng {r a b c t u v} : F r = some (rngObj a b c t u v) → XR F ρ (.ref r) (.rng a b c)
 | pr {a p} : p.P F a → XR F ρ (.ref a) (.pr p)
 | hdr {x C i p} : ρ[i]? = some p → HdrI F C x p.2 → XR F ρ (.ref x) (.hdr C i)
theorem pre_at {ρ ρ' : Pl} (x : ρ <+: ρ') {i : Nat} {p : Addr × Addr} (hp : ρ[i]? = some p) : ρ'[i]? = some p :=
 x.elim fun _ e => e ▸ (List.getElem?_append_left (List.getElem?_eq_some_iff.mp hp).1).trans hp
theorem XR.mono {F F' : Fz} {ρ ρ' : Pl} (hF : FLe F F') (hρ : ρ <+: ρ') {v x} (h : XR F ρ v x) : XR F' ρ' v x :=
 XR.casesOn (motive := fun v x _ => XR F' ρ' v x) h (fun h => .v (h.mono hF)) (fun h => .own (pre_at hρ h)) (fun h => .rng (hF _ _ h)) (fun {_ p} h => .pr (p.mono _ _ _ hF h)) fun h k => .hdr (pre_at hρ h) (k.mono hF)
structure HdrAt (F : Fz) (C : Addr) (p : Addr × Addr) : Prop where
 inst : ∃ d sl es n, F p.1 = some ({ cls := .ref C, dict := some d, data := .plain, slots := sl } : Obj) ∧
  F d = some ({ cls := .type "dict", data := .dict es n } : Obj) ∧ nsFind es (Str.ofString "_headers") = some (.ref p.2) ∧ StrKeys es
noncomputable def LstAt (h : Heap) (a : Addr) (items : Array Value) : Prop := ∃ o, h.get? a = some o ∧ (o.cls = .type "list" ∧ o.dict = none ∧ o.slots = #[]) ∧ ∃ n, o.data = .seq items n
theorem LstAt.isList {h : Heap} {a : Addr} {items : Array Value} (l : LstAt h a items) : h.IsList a items := l.elim fun o l => ⟨o, l.1, l.2.1.1, l.2.2⟩
theorem obj_eta {o : Obj} {cls : Value} {d : Data} (c : o.cls = cls) (c2 : o.dict = none) (c3 : o.slots = #[]) (q : o.data = d) : o = { cls := cls, data := d } := by
 cases o
 subst c c2 c3 q
 rfl
theorem LstAt.plain {h : Heap} {a : Addr} {items : Array Value} (l : LstAt h a items) : ∃ n, h.get? a = some { cls := .type "list", data := .seq items n } :=
 l.elim fun _ l => l.2.2.elim fun n q => ⟨n, l.1.trans (congrArg some (obj_eta l.2.1.1 l.2.1.2.1 l.2.1.2.2 q))⟩
theorem LstAt.of {h : Heap} {a : Addr} {items : Array Value} {n : Nat} (e : h.get? a = some { cls := .type "list", data := .seq items n }) : LstAt h a items := ⟨_, e, ⟨rfl, rfl, rfl⟩, n, rfl⟩
theorem LstAt.keep {h h' : Heap} {a : Addr} {items : Array Value} (k : h'.get? a = h.get? a) (l : LstAt h a items) : LstAt h' a items := l.elim fun o q => ⟨o, k.trans q.1, q.2⟩
theorem HdrAt.mono {F F' : Fz} {C : Addr} {p : Addr × Addr} (le : FLe F F') (r : HdrAt F C p) : HdrAt F' C p := ⟨r.inst.elim fun d r => r.elim fun sl r => r.elim fun es r => r.elim fun n r => ⟨d, sl, es, n, le _ _ r.1, le _ _ r.2.1, r.2.2⟩⟩
noncomputable def CodeF (F : Fz) (a : Addr) (q : Str) : Prop := ∃ o vs t, F a = some o ∧ o.data = .fields vs ∧ vs[1]? = some (.str q t)
inductive TabR (F : Fz) : List Value → List ((Nat × Nat) × Str) → Prop
 | nil : TabR F [] []
 | cons {l k : Nat} {q a vs qs} : CodeF F a q → TabR F vs qs → TabR F (rawInt l :: rawInt k :: .ref a :: vs) (((l, k), q) :: qs)
theorem CodeF.mono {F F' : Fz} (hF : FLe F F') {a q} (x : CodeF F a q) : CodeF F' a q := x.elim fun o x => x.elim fun vs x => x.elim fun t x => ⟨o, vs, t, hF _ _ x.1, x.2⟩
theorem TabR.ind {F : Fz} {M : List Value → List ((Nat × Nat) × Str) → Prop} {vs qs} (h : TabR F vs qs) (n : M [] []) (c : ∀ (l k : Nat) q a vs qs, CodeF F a q → TabR F vs qs → M vs qs → M (rawInt l :: rawInt k :: .ref a :: vs) (((l, k), q) :: qs)) : M vs qs :=
 TabR.rec (motive := fun vs qs _ => M vs qs) n (fun a b m => c _ _ _ _ _ _ a b m) h
theorem TabR.mono {F F' : Fz} (hF : FLe F F') {vs qs} (h : TabR F vs qs) : TabR F' vs qs := h.ind .nil fun _ _ _ _ _ _ a _ m => .cons (a.mono hF) m
theorem TabR.ok {F : Fz} {vs qs} (h : TabR F vs qs) : TriplesOk vs := h.ind (M := fun vs _ => TriplesOk vs) trivial fun _ _ _ _ _ _ _ _ m => m
theorem code_ne {pos : Pos} {l k : Nat} {v : Value} {vs : List Value} (h : ((pos.line, pos.col) == (l, k)) = false) : codeAmong pos (rawInt l :: rawInt k :: v :: vs) = codeAmong pos vs :=
 if_neg fun e => Bool.false_ne_true (h.symm.trans (by
  simp only [Bool.and_eq_true, beq_iff_eq, Int.ofNat_inj] at e
  rw [e.1, e.2]; exact beq_self_eq_true _))
theorem code_eq {pos : Pos} {l k : Nat} {v : Value} {vs : List Value} (h : ((pos.line, pos.col) == (l, k)) = true) : codeAmong pos (rawInt l :: rawInt k :: v :: vs) = some v :=
 if_pos (by cases eq_of_beq h; simp)
theorem TabR.none {F : Fz} {pos : Pos} {vs qs} (h : TabR F vs qs) : qs.lookup (pos.line, pos.col) = .none → codeAmong pos vs = .none :=
 h.ind (M := fun vs qs => qs.lookup (pos.line, pos.col) = .none → codeAmong pos vs = .none) (fun _ => rfl) fun l k q a vs qs _ _ m e => by
  cases hb : (pos.line, pos.col) == (l, k) with
  | true => rw [List.lookup_cons, hb] at e; cases e
  | false => rw [List.lookup_cons, hb] at e; exact (code_ne hb).trans (m e)
theorem TabR.some {F : Fz} {pos : Pos} {q : Str} {vs qs} (h : TabR F vs qs) : qs.lookup (pos.line, pos.col) = some q → ∃ a, codeAmong pos vs = some (.ref a) ∧ CodeF F a q :=
 h.ind (M := fun vs qs => qs.lookup (pos.line, pos.col) = .some q → ∃ a, codeAmong pos vs = .some (.ref a) ∧ CodeF F a q) (fun e => nomatch e) fun l k q' a vs qs x _ m e => by
  cases hb : (pos.line, pos.col) == (l, k) with
  | true => rw [List.lookup_cons, hb] at e; exact ⟨a, code_eq hb, Option.some.inj e ▸ x⟩
  | false => rw [List.lookup_cons, hb] at e; rw [code_ne hb]; exact m e
theorem TabR.snoc {F : Fz} {l k : Nat} {q : Str} {a : Addr} (c : CodeF F a q) {vs qs} (h : TabR F vs qs) : TabR F (vs ++ [rawInt l, rawInt k, .ref a]) (qs ++ [((l, k), q)]) :=
 h.ind (M := fun vs qs => TabR F (vs ++ [rawInt l, rawInt k, .ref a]) (qs ++ [((l, k), q)])) (.cons c .nil) fun _ _ _ _ _ _ x _ m => .cons x m
noncomputable def MRel (C : Addr) (F : Fz) (h : Heap) (p : Addr × Addr) : MO → Prop
 | .list xs => p.1 = p.2 ∧ ∃ vs : List Value, LstAt h p.2 vs.toArray ∧ VRs F vs xs
 | .hdr xs => HdrAt F C p ∧ ∃ vs : List Value, LstAt h p.2 vs.toArray ∧ VRs F vs xs
 | .tab P qs => ∃ ps, h.get? p.2 = some (tabObj ps) ∧ TabR F ps.toList qs ∧ p.2 = P
 | .it xs => p.1 = p.2 ∧ ∃ l i o vs n, h.IsListIter p.2 l i ∧ F l = some o ∧ o.cls = .type "list" ∧ o.data = .seq vs n ∧ VRs F (vs.toList.drop i) xs
 | .dead => ∃ o, F p.2 = some o ∧ ∀ v, o.data ≠ .cell v
theorem MRel.mono {C : Addr} {F F' : Fz} {h h' : Heap} {p : Addr × Addr} {m : MO} (le : FLe F F') (k : h'.get? p.2 = h.get? p.2) (r : MRel C F h p m) : MRel C F' h' p m := by
 cases m with
 | list xs => exact ⟨r.1, r.2.elim fun vs q => ⟨vs, q.1.keep k, q.2.mono le⟩⟩
 | hdr xs => exact ⟨r.1.mono le, r.2.elim fun vs q => ⟨vs, q.1.keep k, q.2.mono le⟩⟩
 | tab P qs => exact r.elim fun ps r => ⟨ps, k.trans r.1, r.2.1.mono le, r.2.2⟩
 | it xs => exact ⟨r.1, r.2.elim fun l r => r.elim fun i r => r.elim fun o r => r.elim fun vs r => r.elim fun n r => ⟨l, i, o, vs, n, r.1.elim fun o' q => ⟨o', k.trans q.1, q.2⟩, le _ _ r.2.1, r.2.2.1, r.2.2.2.1, r.2.2.2.2.mono le⟩⟩
 | dead => exact r.elim fun o r => ⟨o, le _ _ r.1, r.2⟩
theorem MRel.at {C : Addr} {F : Fz} {h : Heap} {p : Addr × Addr} {m : MO} (inn : ∀ a o, F a = some o → h.get? a = some o) (r : MRel C F h p m) : ∃ o, h.get? p.2 = some o := by
 cases m with
 | list xs => exact r.2.elim fun _ q => q.1.elim fun o q => ⟨o, q.1⟩
 | hdr xs => exact r.2.elim fun _ q => q.1.elim fun o q => ⟨o, q.1⟩
 | tab P qs => exact r.elim fun _ r => ⟨_, r.1⟩
 | it xs => exact r.2.elim fun _ r => r.elim fun _ r => r.elim fun _ r => r.elim fun _ r => r.elim fun _ r => r.1.elim fun o q => ⟨o, q.1⟩
 | dead => exact r.elim fun o r => ⟨o, inn _ _ r.1⟩
noncomputable def MO.live : MO → Bool
 | .dead => false
 | _ => true
structure SRel (base : Heap) (C : Addr) (F : Fz) (ρ : Pl) (h : Heap) (σ : Sto) : Prop where
 inn : FIn F h
 base : ∀ a o, base.get? a = some o → F a = some o
 len : ρ.length = σ.length
 obj : ∀ (i : Nat) p m, ρ[i]? = some p → σ[i]? = some m → MRel C F h p m
 nd : (ρ.map Prod.snd).Nodup
 out : ∀ (i : Nat) p m, ρ[i]? = some p → σ[i]? = some m → m.live = true → F p.2 = none
noncomputable def Kept (o : Obj) (r : Option Obj) : Prop := r = some o ∨ ((∃ es n, o.data = .dict es n) ∧ ∃ sl, r = some { o with slots := sl })
theorem Kept.data {o : Obj} {r : Option Obj} (k : Kept o r) : ∃ o', r = some o' ∧ o'.data = o.data ∧ o'.cls = o.cls ∧ o'.dict = o.dict := by
 rcases k with k | ⟨_, sl, k⟩
 ·exact ⟨o, k, rfl, rfl, rfl⟩
 ·exact ⟨_, k, rfl, rfl, rfl⟩
theorem Kept.trans {o : Obj} {r : Option Obj} {h : Heap} {a : Addr} (k : Kept o (h.get? a)) (k2 : ∀ o', h.get? a = some o' → Kept o' r) : Kept o r := by
 rcases k with k | ⟨hd, sl, k⟩
 ·exact k2 _ k
 ·rcases k2 _ k with q | ⟨_, sl2, q⟩
  ·exact .inr ⟨hd, sl, q⟩
  ·exact .inr ⟨hd, sl2, q⟩
structure Evo (X : Addr → Prop) (F : Fz) (h : Heap) (F' : Fz) (h' : Heap) : Prop where
 le : FLe F F'
 inn : FIn F' h'
 fresh : ∀ a o, F' a = some o → F a = some o ∨ h.get? a = none ∨ X a
 keep : ∀ a o, h.get? a = some o → ¬ X a → Kept o (h'.get? a)
theorem Evo.refl {X : Addr → Prop} {F : Fz} {h : Heap} (i : FIn F h) : Evo X F h F h :=
 ⟨FLe.refl F, i, fun _ _ e => .inl e, fun _ _ e _ => .inl e⟩
theorem Evo.none_back {X : Addr → Prop} {F F' : Fz} {h h' : Heap} (x : Evo X F h F' h') {a : Addr} (e : h'.get? a = none) : h.get? a = none ∨ X a := by
 cases q : h.get? a with
 | none => exact .inl rfl
 | some o =>
  by_cases hx : X a
  ·exact .inr hx
  ·obtain ⟨o', e', _⟩ := (x.keep a o q hx).data
   rw [e] at e'; cases e'
theorem Evo.trans {X Y : Addr → Prop} {F F' F'' : Fz} {h h' h'' : Heap} (x : Evo X F h F' h') (y : Evo Y F' h' F'' h'') (hY : ∀ a, Y a → X a ∨ h.get? a = none) : Evo X F h F'' h'' where
 le := x.le.trans y.le
 inn := y.inn
 fresh := fun a o e => by
  rcases y.fresh a o e with e | e | e
  ·exact x.fresh a o e
  ·exact .inr (x.none_back e)
  ·exact (hY a e).elim (fun q => .inr (.inr q)) fun q => .inr (.inl q)
 keep := fun a o e hx => by
  exact (x.keep a o e hx).trans fun o' e1 => y.keep a _ e1 fun q => (hY a q).elim hx fun q => by rw [e] at q; cases q
theorem Evo.weaken {X Y : Addr → Prop} {F F' : Fz} {h h' : Heap} (x : Evo X F h F' h') (hY : ∀ a, X a → Y a ∨ h.get? a = none) : Evo Y F h F' h' where
 le := x.le
 inn := x.inn
 fresh := fun a o e => (x.fresh a o e).imp id fun q => q.elim .inl fun q => (hY a q).symm
 keep := fun a o e hx => x.keep a o e fun q => (hY a q).elim hx fun q => by rw [e] at q; cases q
theorem Evo.none_of {X : Addr → Prop} {F F' : Fz} {h h' : Heap} (x : Evo X F h F' h') {a : Addr} (ha : F a = none) (hl : ∃ o, h.get? a = some o) (hx : ¬ X a) : F' a = none := by
 cases e : F' a with
 | none => rfl
 | some o => exact (x.fresh a o e).elim (fun q => nomatch ha.symm.trans q) fun q => q.elim (fun q => hl.elim fun o' hl => nomatch hl.symm.trans q) fun q => absurd q hx
noncomputable def Fup (F : Fz) (h h' : Heap) : Fz := fun a => match h.get? a with | some _ => F a | none => h'.get? a
noncomputable def Ext (h h' : Heap) : Prop := ∀ b o, h.get? b = some o → h'.get? b = some o
theorem Ext.refl (h : Heap) : Ext h h := fun _ _ e => e
theorem Ext.trans {h h' h'' : Heap} (x : Ext h h') (y : Ext h' h'') : Ext h h'' := fun b o e => y b o (x b o e)
theorem Ext.push (h : Heap) (o : Obj) : Ext h (h.push o) := fun _ _ e => Heap.get?_push_of_some _ e
theorem Ext.gone {h h' : Heap} (x : Ext h h') {a : Addr} (ha : h'.get? a = none) : h.get? a = none := by
 cases e : h.get? a with
 | none => rfl
 | some o => exact nomatch (x a o e).symm.trans ha
theorem get?_size (h : Heap) : h.get? h.objs.size = none := by
 cases e : h.get? h.objs.size with
 | none => rfl
 | some o => exact absurd (Heap.lt_size e) (Nat.lt_irrefl _)
theorem Fup_new {F : Fz} {h h' : Heap} {a : Addr} {o : Obj} (e : h'.get? a = some o) (ha : h.get? a = none) : Fup F h h' a = some o := by
 unfold Fup; rw [ha]; exact e
theorem Fup_le {F : Fz} {h h' : Heap} (i : FIn F h) : FLe F (Fup F h h') := fun a o e => by
 unfold Fup; rw [i a o e]; exact e
theorem Evo.ext {X : Addr → Prop} {F : Fz} {h h' : Heap} (i : FIn F h) (x : Ext h h') : Evo X F h (Fup F h h') h' where
 le := Fup_le i
 inn := fun a o e => by
  unfold Fup at e; split at e
  ·exact x a o (i a o e)
  ·exact e
 fresh := fun a o e => by
  unfold Fup at e; split at e
  ·exact .inl e
  ·rename_i q; exact .inr (.inl q)
 keep := fun a o e _ => .inl (x a o e)
theorem Evo.ext0 {X : Addr → Prop} {F : Fz} {h h' : Heap} (i : FIn F h) (x : Ext h h') : Evo X F h F h' :=
 ⟨FLe.refl F, fun a o e => x a o (i a o e), fun _ _ e => .inl e, fun a o e _ => .inl (x a o e)⟩
section
variable {X : Addr → Prop} {F F' : Fz} {h h' : Heap}
theorem Evo.isList (x : Evo X F h F' h') {a : Addr} {items : Array Value} (l : h.IsList a items) (hx : ¬ X a) : h'.IsList a items := by
 refine qC fun P kG => ?_
 obtain ⟨o, ho, hc, n, hd⟩ := l
 obtain ⟨o', e, d1, d2, _⟩ := (x.keep a o ho hx).data
 refine kG ?_
 clear kG P
 exact ⟨o', e, d2.trans hc, n, d1.trans hd⟩
theorem Evo.isNs (x : Evo X F h F' h') {a : Addr} {m : Str → Option Value} (l : h.Ns a m) (hx : ¬ X a) : h'.Ns a m := by
 refine qC fun P kG => ?_
 obtain ⟨o, es, ep, ho, hd, r⟩ := l
 obtain ⟨o', e, d1, d2, _⟩ := (x.keep a o ho hx).data
 refine kG ?_
 clear kG P
 exact ⟨o', es, ep, e, d1.trans hd, r⟩
theorem Evo.isCell (x : Evo X F h F' h') {a : Addr} {v : Option Value} (l : h.IsCell a v) (hx : ¬ X a) : h'.IsCell a v := by
 refine qC fun P kG => ?_
 obtain ⟨o, ho, hd⟩ := l
 obtain ⟨o', e, d1, _⟩ := (x.keep a o ho hx).data
 refine kG ?_
 clear kG P
 exact ⟨o', e, d1.trans hd⟩
end
noncomputable def Mut (ρ : Pl) (a : Addr) : Prop := ∃ p ∈ ρ, p.2 = a
theorem Mut.mono {ρ ρ' : Pl} (h : ρ <+: ρ') {a : Addr} (m : Mut ρ a) : Mut ρ' a := let ⟨p, hp, e⟩ := m; ⟨p, h.subset hp, e⟩
noncomputable def vget (x : String) : Vars → Option XV
 | [] => none
 | (y, v) :: r => cond (x == y) (some v) (vget x r)
noncomputable def vset (x : String) (v : XV) (η : Vars) : Vars := (x, v) :: η
theorem qD (x y : String) (v : XV) (η : Vars) : vget y (vset x v η) = cond (y == x) (some v) (vget y η) := rfl
theorem vget_hit {x : String} {v : XV} {η : Vars} : vget x ((x, v) :: η) = some v := by unfold vget; rw [beq_self_eq_true]; rfl
theorem kS {x y : String} {v : XV} {η : Vars} (h : y ≠ x) : vget y ((x, v) :: η) = vget y η := by
 show cond (y == x) _ _ = _
 rw [beq_eq_false_iff_ne.mpr h]; rfl
theorem kH {x y : String} {v u : XV} {η : Vars} (e : vget y ((x, v) :: η) = some u) : (y = x ∧ v = u) ∨ (y ≠ x ∧ vget y η = some u) := by
 by_cases q : y = x
 ·subst q; rw [vget_hit] at e; exact .inl ⟨rfl, Option.some.inj e⟩
 ·rw [kS q] at e; exact .inr ⟨q, e⟩
noncomputable def VLe (η' η : Vars) : Prop := ∀ x v, vget x η' = some v → vget x η = some v
theorem VLe.refl (η : Vars) : VLe η η := fun _ _ e => e
theorem VLe.append (η r : Vars) : VLe η (η ++ r) := fun x v e => by
 induction η with
 | nil => cases e
 | cons p t ih =>
  rcases kH e with ⟨rfl, rfl⟩ | ⟨q, e⟩
  ·exact vget_hit
  ·exact (kS q).trans (ih e)
theorem VLe.cons {x : String} {v : XV} {η r : Vars} (h : vget x η = some v) (l : VLe r η) : VLe ((x, v) :: r) η := fun y u e => by
 rcases kH e with ⟨rfl, rfl⟩ | ⟨_, e⟩
 ·exact h
 ·exact l y u e
noncomputable def celled (env : Env) (x : Str) : Prop := env.kindOf x = some .cell ∨ env.kindOf x = some .free
structure Rel (base : Heap) (C : Addr) (env : Env) (F : Fz) (ρ : Pl) (h : Heap) (η : Vars) (σ : Sto) : Prop where
 sto : SRel base C F ρ h σ
 kind : env.scope.kind = .function
 glob : env.globals = mainGlobals
 blt : env.builtins = builtinsNs
 ns : ∃ m, h.Ns env.locals m ∧ ∀ (x : String) xv, env.kindOf x = some .local → vget x η = some xv → ∃ v, m x = some v ∧ XR F ρ v xv
 nsF : F env.locals = none
 cellAll : ∀ x, celled env x → ∃ c, env.cells.lookup x = some c
 cells : ∀ x c, celled env x → env.cells.lookup x = some c → ∃ v, h.IsCell c v ∧ F c = none ∧ ∀ (y : String) xv, x = Str.ofString y → vget y η = some xv → ∃ v', v = some v' ∧ XR F ρ v' xv
 inj : ∀ x y c, env.cells.lookup x = some c → env.cells.lookup y = some c → x = y
noncomputable def NoNs (o : Obj) : Prop := (∀ es n, o.data ≠ .dict es n) ∧ (∀ v, o.data ≠ .cell v)
theorem NoNs.seq {x : Option Obj} {o o' : Obj} {vs n} (e1 : x = some o') (e : x = some o) (h : o'.data = .seq vs n) : NoNs o :=
 Option.some.inj (e1.symm.trans e) ▸ (⟨fun _ _ q => (nomatch h.symm.trans q), fun _ q => (nomatch h.symm.trans q)⟩ : NoNs o')
theorem NoNs.fields {x : Option Obj} {o o' : Obj} {vs} (e1 : x = some o') (e : x = some o) (h : o'.data = .fields vs) : NoNs o :=
 Option.some.inj (e1.symm.trans e) ▸ (⟨fun _ _ q => (nomatch h.symm.trans q), fun _ q => (nomatch h.symm.trans q)⟩ : NoNs o')
theorem MRel.notNs {C : Addr} {F : Fz} {h : Heap} {p : Addr × Addr} {m : MO} (r : MRel C F h p m) (hl : m.live = true) {o : Obj} (e : h.get? p.2 = some o) : NoNs o := by
 cases m with
 | list xs => exact r.2.elim fun _ q => q.1.elim fun _ q => q.2.2.elim fun _ d => .seq q.1 e d
 | hdr xs => exact r.2.elim fun _ q => q.1.elim fun _ q => q.2.2.elim fun _ d => .seq q.1 e d
 | tab P qs => exact r.elim fun _ r => .fields r.1 e rfl
 | it xs => exact r.2.elim fun _ r => r.elim fun _ r => r.elim fun _ r => r.elim fun _ r => r.elim fun _ r => r.1.elim fun _ q => .fields q.1 e q.2.2
 | dead => cases hl
theorem nd_inj : ∀ {l : Pl}, (l.map Prod.snd).Nodup → ∀ {p q : Addr × Addr}, p ∈ l → q ∈ l → p.2 = q.2 → p = q
 | x :: r, nd, p, q, hp, hq, e => by
  rw [List.map_cons, List.nodup_cons] at nd
  rcases List.mem_cons.mp hp with h1 | h1 <;> rcases List.mem_cons.mp hq with h2 | h2
  ·rw [h1, h2]
  ·exact absurd (List.mem_map.mpr ⟨q, h2, by rw [← h1, e]⟩) nd.1
  ·exact absurd (List.mem_map.mpr ⟨p, h1, by rw [← h2, e]⟩) nd.1
  ·exact nd_inj nd.2 h1 h2 e
structure Step (base : Heap) (C : Addr) (F : Fz) (ρ : Pl) (h : Heap) (F' : Fz) (ρ' : Pl) (h' : Heap) (σ' : Sto) : Prop where
 evo : Evo (Mut ρ) F h F' h'
 pre : ρ <+: ρ'
 new : ∀ p ∈ ρ', p ∈ ρ ∨ h.get? p.2 = none
 sto : SRel base C F' ρ' h' σ'
theorem Step.mut {base : Heap} {C : Addr} {F F' : Fz} {ρ ρ' : Pl} {h h' : Heap} {σ' : Sto} (x : Step base C F ρ h F' ρ' h' σ') : ∀ a, Mut ρ' a → Mut ρ a ∨ h.get? a = none :=
 fun a ⟨p, hp, e⟩ => (x.new p hp).imp (fun q => ⟨p, q, e⟩) fun q => e ▸ q
theorem Step.trans {base : Heap} {C : Addr} {F F' F'' : Fz} {ρ ρ' ρ'' : Pl} {h h' h'' : Heap} {σ' σ'' : Sto} (x : Step base C F ρ h F' ρ' h' σ') (y : Step base C F' ρ' h' F'' ρ'' h'' σ'') :
  Step base C F ρ h F'' ρ'' h'' σ'' where
 evo := x.evo.trans y.evo x.mut
 pre := x.pre.trans y.pre
 new := fun p hp => (y.new p hp).elim (x.new p) fun q => (x.evo.none_back q).elim .inr fun ⟨p', hp', e⟩ => .inl (by
  have h1 : p' ∈ ρ'' := y.pre.subset (x.pre.subset hp')
  have := y.sto.nd
  rw [show p = p' from nd_inj this hp h1 e.symm]; exact hp')
 sto := y.sto
section
variable {base : Heap} {C : Addr} {F F' : Fz} {ρ ρ' : Pl} {h h' : Heap} {σ σ' : Sto} {env : Env} {η : Vars}
theorem SRel.nth (S : SRel base C F ρ h σ) {p : Addr × Addr} (hp : p ∈ ρ) : ∃ (i : Nat) (m : MO), ρ[i]? = some p ∧ σ[i]? = some m ∧ MRel C F h p m := by
 refine qC fun P kG => ?_
 obtain ⟨i, hi, hpi⟩ := List.getElem_of_mem hp
 refine kG ?_
 clear kG P
 have h1 : ρ[i]? = some p := by rw [List.getElem?_eq_getElem hi, hpi]
 have h2 := List.getElem?_eq_getElem (show i < σ.length from S.len ▸ hi)
 exact ⟨i, _, h1, h2, S.obj i p _ h1 h2⟩
theorem MRel.dead_at {C : Addr} {p : Addr × Addr} {m : MO} (hl : ¬ m.live = true) (r : MRel C F h p m) : ∃ o, F p.2 = some o ∧ ∀ v, o.data ≠ .cell v := by
 cases m with
 | dead => exact r
 | _ => exact absurd rfl hl
theorem SRel.apart (S : SRel base C F ρ h σ) {a : Addr} (hF : F a = none) (hd : ∀ o, h.get? a = some o → (∃ es n, o.data = .dict es n) ∨ ∃ v, o.data = .cell v) (hh : ∃ o, h.get? a = some o) : ¬ Mut ρ a := fun hp =>
 hp.elim fun p hp => (S.nth hp.1).elim fun i w => w.elim fun m w => hh.elim fun o ho => by
  by_cases hl : m.live = true
  ·exact (hd o ho).elim (fun q => q.elim fun es q => q.elim fun n q => (w.2.2.notNs hl ((congrArg h.get? hp.2).trans ho)).1 es n q) fun q => q.elim fun v q => (w.2.2.notNs hl ((congrArg h.get? hp.2).trans ho)).2 v q
  ·exact (w.2.2.dead_at hl).elim fun o' q => nomatch hF.symm.trans ((congrArg F hp.2.symm).trans q.1)
theorem ns_at {m : Str → Option Value} {a : Addr} (n : h.Ns a m) : ∃ o es n', h.get? a = some o ∧ o.data = .dict es n' := n.elim fun o n => n.elim fun es n => n.elim fun ep n => ⟨o, es, ep, n.1, n.2.1⟩
theorem Rel.locals (R : Rel base C env F ρ h η σ) : ¬ Mut ρ env.locals ∧ ∃ o, h.get? env.locals = some o :=
 R.ns.elim fun _ q => (ns_at q.1).elim fun o q => q.elim fun es q => q.elim fun n q => ⟨R.sto.apart R.nsF (fun _ e => .inl ⟨es, n, Option.some.inj (q.1.symm.trans e) ▸ q.2⟩) ⟨o, q.1⟩, o, q.1⟩
theorem SRel.cell (S : SRel base C F ρ h σ) {c : Addr} {v : Option Value} (k : h.IsCell c v) (hF : F c = none) : ¬ Mut ρ c :=
 k.elim fun o k => S.apart hF (fun _ e => .inr ⟨_, Option.some.inj (k.1.symm.trans e) ▸ k.2⟩) ⟨o, k.1⟩
theorem Rel.step (R : Rel base C env F ρ h η σ) (x : Step base C F ρ h F' ρ' h' σ') : Rel base C env F' ρ' h' η σ' where
 sto := x.sto
 kind := R.kind
 glob := R.glob
 blt := R.blt
 ns := R.ns.elim fun m q => ⟨m, x.evo.isNs q.1 R.locals.1, fun y xv hk hy => (q.2 y xv hk hy).elim fun v w => ⟨v, w.1, w.2.mono x.evo.le x.pre⟩⟩
 nsF := x.evo.none_of R.nsF R.locals.2 R.locals.1
 cellAll := R.cellAll
 cells := fun y c hk hc => (R.cells y c hk hc).elim fun v w => ⟨v, x.evo.isCell w.1 (R.sto.cell w.1 w.2.1), x.evo.none_of w.2.1 (w.1.elim fun o q => ⟨o, q.1⟩) (R.sto.cell w.1 w.2.1), fun z xv ez hy => (w.2.2 z xv ez hy).elim fun v' q => ⟨v', q.1, q.2.mono x.evo.le x.pre⟩⟩
 inj := R.inj
theorem Rel.forget (R : Rel base C env F ρ h η σ) {η' : Vars} (l : VLe η' η) : Rel base C env F ρ h η' σ where
 sto := R.sto
 kind := R.kind
 glob := R.glob
 blt := R.blt
 ns := R.ns.imp fun _ q => ⟨q.1, fun y xv hk hy => q.2 y xv hk (l _ _ hy)⟩
 nsF := R.nsF
 cellAll := R.cellAll
 cells := fun y c hk hc => (R.cells y c hk hc).imp fun _ q => ⟨q.1, q.2.1, fun z xv ez hy => q.2.2 z xv ez (l _ _ hy)⟩
 inj := R.inj
theorem SRel.extL (S : SRel base C F ρ h σ) (le : FLe F F') (inn : FIn F' h') (keep : ∀ p ∈ ρ, h'.get? p.2 = h.get? p.2) (out : ∀ p ∈ ρ, F p.2 = none → F' p.2 = none) : SRel base C F' ρ h' σ where
 inn := inn
 base := fun a o e => le a o (S.base a o e)
 len := S.len
 obj := fun i p m h1 h2 => by
  have hp : p ∈ ρ := List.mem_of_getElem? h1
  exact (S.obj i p m h1 h2).mono le (keep p hp)
 nd := S.nd
 out := fun i p m h1 h2 hl => out p (List.mem_of_getElem? h1) (S.out i p m h1 h2 hl)
theorem SRel.ext (S : SRel base C F ρ h σ) (x : Evo (Mut ρ) F h F' h') (keep : ∀ p ∈ ρ, h'.get? p.2 = h.get? p.2) (out : ∀ p ∈ ρ, F p.2 = none → F' p.2 = none) : SRel base C F' ρ h' σ := S.extL x.le x.inn keep out
theorem snoc_at {α β : Type} {l : List α} {m : List β} (hl : l.length = m.length) {a x : α} {b y : β} {i : Nat} (h1 : (l ++ [a])[i]? = some x) (h2 : (m ++ [b])[i]? = some y) : (l[i]? = some x ∧ m[i]? = some y) ∨ (a = x ∧ b = y) :=
 (Nat.lt_trichotomy i l.length).elim (fun hi => .inl ⟨(List.getElem?_append_left hi).symm.trans h1, (List.getElem?_append_left (hl ▸ hi)).symm.trans h2⟩) fun hi => hi.elim
  (fun hi => .inr ⟨Option.some.inj (List.getElem?_concat_length.symm.trans (hi ▸ h1)), Option.some.inj (List.getElem?_concat_length.symm.trans (hi.trans hl ▸ h2))⟩)
  fun hi => nomatch (List.getElem?_eq_none_iff.mpr (Nat.le_trans (uJ List.length_append) hi)).symm.trans h1
theorem SRel.lt (S : SRel base C F ρ h σ) : ∀ p ∈ ρ, ∃ o, h.get? p.2 = some o := fun _ hp => (S.nth hp).elim fun _ w => w.elim fun _ w => w.2.2.at S.inn
theorem SRel.fresh (S : SRel base C F ρ h σ) {a : Addr} (ha : h.get? a = none) : F a = none := by
 cases q : F a with
 | none => rfl
 | some o => exact nomatch (S.inn _ _ q).symm.trans ha
theorem SRel.noMut (S : SRel base C F ρ h σ) {a : Addr} (ha : h.get? a = none) : ¬ Mut ρ a := fun ⟨p, hp, e⟩ =>
 let ⟨_, ho⟩ := S.lt p hp; nomatch ho.symm.trans ((congrArg h.get? e).trans ha)
theorem SRel.idx (S : SRel base C F ρ h σ) {i j : Nat} {p q : Addr × Addr} (hp : ρ[i]? = some p) (hq : ρ[j]? = some q) (e : q.2 = p.2) : i = j := by
 have e1 : (ρ.map Prod.snd)[i]? = some p.2 := by rw [List.getElem?_map, hp]; rfl
 have e2 : (ρ.map Prod.snd)[j]? = some q.2 := by rw [List.getElem?_map, hq]; rfl
 exact (List.getElem?_inj (List.getElem?_eq_some_iff.mp e1).1 S.nd).mp (e1.trans (e ▸ e2.symm))
theorem SRel.snoc (S : SRel base C F ρ h' σ) {q : Addr × Addr} {m : MO} (hq : ∀ p ∈ ρ, p.2 ≠ q.2) (hF : m.live = true → F q.2 = none) (r : MRel C F h' q m) : SRel base C F (ρ ++ [q]) h' (σ ++ [m]) where
 inn := S.inn
 base := S.base
 len := by rw [List.length_append, List.length_append, S.len]; rfl
 obj := fun i p mo h1 h2 => by
  rcases snoc_at S.len h1 h2 with ⟨h1, h2⟩ | ⟨rfl, rfl⟩
  ·exact S.obj i p mo h1 h2
  ·exact r
 nd := by
  rw [List.map_append, List.nodup_append]
  refine ⟨S.nd, List.pairwise_singleton _ _, fun a ha b hb => ?_⟩
  obtain ⟨p, hp, rfl⟩ := List.mem_map.mp ha
  exact List.mem_singleton.mp hb ▸ hq p hp
 out := fun i p mo h1 h2 hl => by
  rcases snoc_at S.len h1 h2 with ⟨h1, h2⟩ | ⟨rfl, rfl⟩
  ·exact S.out i p mo h1 h2 hl
  ·exact hF hl
theorem SRel.keepExt (S : SRel base C F ρ h σ) (x : Ext h h') : ∀ p ∈ ρ, h'.get? p.2 = h.get? p.2 := fun p hp => by
 obtain ⟨o, e⟩ := S.lt p hp
 rw [e]; exact x _ _ e
theorem Step.ext (S : SRel base C F ρ h σ) (x : Ext h h') : Step base C F ρ h (Fup F h h') ρ h' σ where
 evo := .ext S.inn x
 pre := List.prefix_refl _
 new := fun p hp => .inl hp
 sto := S.ext (.ext S.inn x) (S.keepExt x) fun p hp q => by
  obtain ⟨o, e⟩ := S.lt p hp
  unfold Fup; rw [e]; exact q
theorem Step.ext0 (S : SRel base C F ρ h σ) (x : Ext h h') : Step base C F ρ h F ρ h' σ where
 evo := .ext0 S.inn x
 pre := List.prefix_refl _
 new := fun p hp => .inl hp
 sto := S.ext (.ext0 S.inn x) (S.keepExt x) fun p hp q => q
theorem Step.newOwn (S : SRel base C F ρ h σ) (x : Ext h h') {p0 a : Addr} {m0 : MO} (ha : h.get? a = none) (hr : MRel C F h' (p0, a) m0) :
  Step base C F ρ h F (ρ ++ [(p0, a)]) h' (σ ++ [m0]) ∧ (ρ ++ [(p0, a)])[σ.length]? = some (p0, a) :=
 ⟨⟨.ext0 S.inn x, List.prefix_append _ _, fun p hp => (List.mem_append.mp hp).imp id fun hp => by rw [List.mem_singleton.mp hp]; exact ha,
  (Step.ext0 S x).sto.snoc (fun p hp e => S.noMut ha ⟨p, hp, e⟩) (fun _ => S.fresh ha) hr⟩, by rw [← S.len, List.getElem?_concat_length]⟩
theorem set_at {σ : Sto} {i j : Nat} {m mo : MO} (h : (σ.set i m)[j]? = some mo) : (i = j ∧ mo = m) ∨ (i ≠ j ∧ σ[j]? = some mo) := by
 rw [List.getElem?_set] at h
 by_cases hij : i = j
 ·rw [if_pos hij] at h
  split at h
  ·exact .inl ⟨hij, (Option.some.inj h).symm⟩
  ·cases h
 ·rw [if_neg hij] at h; exact .inr ⟨hij, h⟩
theorem Step.refl (S : SRel base C F ρ h σ) : Step base C F ρ h F ρ h σ := .ext0 S (Ext.refl h)
end
structure Cx where
 prog : Program
 w : World
 base : Heap
 C : Addr
 A : Around
noncomputable abbrev Cx.M (c : Cx) : Model := model c.prog c.w
structure Room (d : Nat) (A : Around) : Prop where
 hd : A.handled = none
 depth : A.depth + d < recursionLimit
 units : A.units + 60 * d + 100 < cLine
noncomputable abbrev EW := Vars → Sto → (XV → Sto → Prop) → Prop
noncomputable abbrev BW := Vars → Sto → (Bool → Sto → Prop) → Prop
noncomputable abbrev LW := Vars → Sto → (List XV → Sto → Prop) → Prop
noncomputable def Ret (c : Cx) (F : Fz) (ρ : Pl) (s : Shared) (Q : XV → Sto → Prop) (K : Value → Shared → Prop) : Prop :=
 ∀ v x F' ρ' σ' h' tk', XR F' ρ' v x → Step c.base c.C F ρ s.heap F' ρ' h' σ' → Q x σ' → K v { s with heap := h', toks := tk' }
noncomputable def RetT (c : Cx) (F : Fz) (ρ : Pl) (s : Shared) (Q : Bool → Sto → Prop) (K : Bool → Shared → Prop) : Prop :=
 ∀ b F' ρ' σ' h' tk', Step c.base c.C F ρ s.heap F' ρ' h' σ' → Q b σ' → K b { s with heap := h', toks := tk' }
noncomputable def EOK (c : Cx) (env : Env) (t : Sem Value) (W : EW) : Prop :=
 ∀ (E : Value → Shared → Prop) (K : Value → Shared → Prop) F ρ η σ (s : Shared) Q, Rel c.base c.C env F ρ s.heap η σ → W η σ Q → Ret c F ρ s Q K → wpAny c.M c.A t K E s
noncomputable def TOK (c : Cx) (env : Env) (t : Sem Bool) (W : BW) : Prop :=
 ∀ (E : Value → Shared → Prop) (K : Bool → Shared → Prop) F ρ η σ (s : Shared) Q, Rel c.base c.C env F ρ s.heap η σ → W η σ Q → RetT c F ρ s Q K → wpAny c.M c.A t K E s
noncomputable def wBin (W1 W2 : EW) (O : XV → XV → Sto → (XV → Sto → Prop) → Prop) : EW := fun η σ Q => W1 η σ fun a σ1 => W2 η σ1 fun b σ2 => O a b σ2 Q
noncomputable def wCmp (W1 W2 : EW) (O : XV → XV → Sto → (XV → Sto → Prop) → Prop) (T : XV → Sto → (Bool → Sto → Prop) → Prop) : BW := fun η σ Q => W1 η σ fun a σ1 => W2 η σ1 fun b σ2 => O a b σ2 fun r σ3 => T r σ3 Q
noncomputable def wPl (W : EW) (O : XV → Sto → (Bool → Sto → Prop) → Prop) : BW := fun η σ Q => W η σ fun a σ1 => O a σ1 Q
noncomputable def wUn (W : EW) (O : XV → Sto → (XV → Sto → Prop) → Prop) : EW := fun η σ Q => W η σ fun a σ1 => O a σ1 Q
noncomputable def wAnd (W1 W2 : BW) : BW := fun η σ Q => W1 η σ fun b σ1 => (b = true → W2 η σ1 Q) ∧ (b = false → Q false σ1)
noncomputable def wOr (W1 W2 : BW) : BW := fun η σ Q => W1 η σ fun b σ1 => (b = true → Q true σ1) ∧ (b = false → W2 η σ1 Q)
noncomputable def wIfE (T : BW) (W1 W2 : EW) : EW := fun η σ Q => T η σ fun b σ1 => (b = true → W1 η σ1 Q) ∧ (b = false → W2 η σ1 Q)
noncomputable def wEs (W : EW) (Ws : LW) : LW := fun η σ Q => W η σ fun x σ1 => Ws η σ1 fun xs σ2 => Q (x :: xs) σ2
inductive XRs (F : Fz) (ρ : Pl) : List Value → List XV → Prop
 | nil : XRs F ρ [] []
 | cons {v x vs xs} : XR F ρ v x → XRs F ρ vs xs → XRs F ρ (v :: vs) (x :: xs)
noncomputable def orS {α : Type} (o : Option α) (Q : α → Prop) (R : Prop) : Prop := match o with | some a => Q a | none => R
noncomputable abbrev ifS {α : Type} (o : Option α) (Q : α → Prop) : Prop := orS o Q False
theorem ifS_e {α : Type} {o : Option α} {Q : α → Prop} (h : ifS o Q) : ∃ a, o = some a ∧ Q a := by
 cases o with
 | none => exact h.elim
 | some a => exact ⟨a, rfl, h⟩
theorem qF {α : Type} {a : α} {Q : α → Prop} : ifS (some a) Q = Q a := rfl
noncomputable def XV.i? : XV → Option Int | .v (.int i) => some i | _ => none
noncomputable def XV.b? : XV → Option Bool | .v (.bool b) => some b | _ => none
noncomputable def XV.s? : XV → Option Str | .v (.str x) => some x | _ => none
noncomputable def XV.n? : XV → Option Unit | .v .none => some () | _ => none
noncomputable def XV.t? : XV → Option (List PyData) | .v (.tuple xs) => some xs | _ => none
noncomputable def XV.nn? : XV → Option Unit | .v (.int _) => some () | .v (.str _) => some () | .v (.list _) => some () | .own _ => some () | .pr _ => some () | _ => none
noncomputable def XV.r? : XV → Option (Int × Int × Int) | .rng a b k => some (a, b, k) | _ => none
section
variable {F : Fz} {ρ : Pl} {v : Value} {x : XV} {R : Prop} {G : Value → Prop}
theorem VR.ind {F : Fz} {M : Value → PyData → Prop} {v : Value} {d : PyData} (h : VR F v d) (n : M .none .none) (b : ∀ b, M (.bool b) (.bool b)) (i : ∀ i t, M (.int i t) (.int i)) (s : ∀ x t, M (.str x t) (.str x))
  (l : ∀ a o vs n xs, F a = some o → o.cls = .type "list" → (o.data = .seq vs n ∧ VRs F vs.toList xs) → M (.ref a) (.list xs)) (t : ∀ a o vs n xs, F a = some o → o.cls = .type "tuple" → (o.data = .seq vs n ∧ VRs F vs.toList xs) → M (.ref a) (.tuple xs)) : M v d :=
 VR.casesOn (motive_1 := fun v d _ => M v d) h n b i s (fun e c q r => l _ _ _ _ _ e c ⟨q, r⟩) (fun e c q r => t _ _ _ _ _ e c ⟨q, r⟩)
theorem XR.ind {F : Fz} {ρ : Pl} {M : Value → XV → Prop} {v : Value} {x : XV} (h : XR F ρ v x) (hv : ∀ {v d}, VR F v d → M v (.v d)) (ho : ∀ i p, ρ[i]? = some p → M (.ref p.1) (.own i)) (hr : ∀ r a b c t u v, F r = some (rngObj a b c t u v) → M (.ref r) (.rng a b c))
  (hp : ∀ a (p : PF), p.P F a → M (.ref a) (.pr p)) (hh : ∀ x C i p, ρ[i]? = some p → HdrI F C x p.2 → M (.ref x) (.hdr C i)) : M v x :=
 XR.casesOn (motive := fun v x _ => M v x) h hv (fun e => ho _ _ e) (fun e => hr _ _ _ _ _ _ _ e) (fun e => hp _ _ e) (fun e q => hh _ _ _ _ e q)
@[elab_as_elim] theorem XR.cI (X : XR F ρ v x) {Q : Int → Prop} (h : orS x.i? Q R) (k : ∀ i t, Q i → G (.int i t)) (k2 : R → G v) : G v :=
 X.ind (M := fun v x => orS x.i? Q R → (∀ i t, Q i → G (.int i t)) → (R → G v) → G v) (fun V => V.ind (M := fun v d => orS (XV.v d).i? Q R → (∀ i t, Q i → G (.int i t)) → (R → G v) → G v) (fun h _ k2 => k2 h) (fun _ h _ k2 => k2 h) (fun x0 x1 h k _ => k x0 x1 h) (fun _ _ h _ k2 => k2 h) (fun _ _ _ _ _ _ _ _ h _ k2 => k2 h) (fun _ _ _ _ _ _ _ _ h _ k2 => k2 h))
  (fun _ _ _ h _ k2 => k2 h) (fun _ _ _ _ _ _ _ _ h _ k2 => k2 h) (fun _ _ _ h _ k2 => k2 h) (fun _ _ _ _ _ _ h _ k2 => k2 h) h k k2
@[elab_as_elim] theorem XR.cB (X : XR F ρ v x) {Q : Bool → Prop} (h : orS x.b? Q R) (k : ∀ b, Q b → G (.bool b)) (k2 : R → G v) : G v :=
 X.ind (M := fun v x => orS x.b? Q R → (∀ b, Q b → G (.bool b)) → (R → G v) → G v) (fun V => V.ind (M := fun v d => orS (XV.v d).b? Q R → (∀ b, Q b → G (.bool b)) → (R → G v) → G v) (fun h _ k2 => k2 h) (fun x0 h k _ => k x0 h) (fun _ _ h _ k2 => k2 h) (fun _ _ h _ k2 => k2 h) (fun _ _ _ _ _ _ _ _ h _ k2 => k2 h) (fun _ _ _ _ _ _ _ _ h _ k2 => k2 h))
  (fun _ _ _ h _ k2 => k2 h) (fun _ _ _ _ _ _ _ _ h _ k2 => k2 h) (fun _ _ _ h _ k2 => k2 h) (fun _ _ _ _ _ _ h _ k2 => k2 h) h k k2
@[elab_as_elim] theorem XR.cS (X : XR F ρ v x) {Q : Str → Prop} (h : orS x.s? Q R) (k : ∀ a t, Q a → G (.str a t)) (k2 : R → G v) : G v :=
 X.ind (M := fun v x => orS x.s? Q R → (∀ a t, Q a → G (.str a t)) → (R → G v) → G v) (fun V => V.ind (M := fun v d => orS (XV.v d).s? Q R → (∀ a t, Q a → G (.str a t)) → (R → G v) → G v) (fun h _ k2 => k2 h) (fun _ h _ k2 => k2 h) (fun _ _ h _ k2 => k2 h) (fun x0 x1 h k _ => k x0 x1 h) (fun _ _ _ _ _ _ _ _ h _ k2 => k2 h) (fun _ _ _ _ _ _ _ _ h _ k2 => k2 h))
  (fun _ _ _ h _ k2 => k2 h) (fun _ _ _ _ _ _ _ _ h _ k2 => k2 h) (fun _ _ _ h _ k2 => k2 h) (fun _ _ _ _ _ _ h _ k2 => k2 h) h k k2
@[elab_as_elim] theorem XR.cN (X : XR F ρ v x) {Q : Unit → Prop} (h : orS x.n? Q R) (k : Q () → G .none) (k2 : R → G v) : G v :=
 X.ind (M := fun v x => orS x.n? Q R → (Q () → G .none) → (R → G v) → G v) (fun V => V.ind (M := fun v d => orS (XV.v d).n? Q R → (Q () → G .none) → (R → G v) → G v) (fun h k _ => k h) (fun _ h _ k2 => k2 h) (fun _ _ h _ k2 => k2 h) (fun _ _ h _ k2 => k2 h) (fun _ _ _ _ _ _ _ _ h _ k2 => k2 h) (fun _ _ _ _ _ _ _ _ h _ k2 => k2 h))
  (fun _ _ _ h _ k2 => k2 h) (fun _ _ _ _ _ _ _ _ h _ k2 => k2 h) (fun _ _ _ h _ k2 => k2 h) (fun _ _ _ _ _ _ h _ k2 => k2 h) h k k2
@[elab_as_elim] theorem XR.cT (X : XR F ρ v x) {Q : List PyData → Prop} (h : orS x.t? Q R) (k : ∀ a o vs n xs, F a = some o → o.cls = .type "tuple" → o.data = .seq vs n → VRs F vs.toList xs → Q xs → G (.ref a)) (k2 : R → G v) : G v :=
 X.ind (M := fun v x => orS x.t? Q R → (∀ a o vs n xs, F a = some o → o.cls = .type "tuple" → o.data = .seq vs n → VRs F vs.toList xs → Q xs → G (.ref a)) → (R → G v) → G v) (fun V => V.ind (M := fun v d => orS (XV.v d).t? Q R → (∀ a o vs n xs, F a = some o → o.cls = .type "tuple" → o.data = .seq vs n → VRs F vs.toList xs → Q xs → G (.ref a)) → (R → G v) → G v) (fun h _ k2 => k2 h) (fun _ h _ k2 => k2 h) (fun _ _ h _ k2 => k2 h) (fun _ _ h _ k2 => k2 h) (fun _ _ _ _ _ _ _ _ h _ k2 => k2 h) (fun x0 x1 x2 x3 x4 x5 x6 x7 h k _ => k x0 x1 x2 x3 x4 x5 x6 x7.1 x7.2 h))
  (fun _ _ _ h _ k2 => k2 h) (fun _ _ _ _ _ _ _ _ h _ k2 => k2 h) (fun _ _ _ h _ k2 => k2 h) (fun _ _ _ _ _ _ h _ k2 => k2 h) h k k2
@[elab_as_elim] theorem XR.gR (X : XR F ρ v x) {Q : Int × Int × Int → Prop} (h : ifS x.r? Q) (k : ∀ r a b c t u v, F r = some (rngObj a b c t u v) → Q (a, b, c) → G (.ref r)) : G v :=
 X.ind (M := fun v x => ifS x.r? Q → G v) (fun _ => False.elim) (fun _ _ _ => False.elim) (fun _ _ _ _ _ _ _ e h => k _ _ _ _ _ _ _ e h) (fun _ _ _ => False.elim) (fun _ _ _ _ _ _ => False.elim) h
@[elab_as_elim] theorem XR.gNN (X : XR F ρ v x) {Q : Unit → Prop} (h : ifS x.nn? Q) (k : (v == .none) = false → Q () → G v) : G v :=
 X.ind (M := fun v x => ifS x.nn? Q → ((v == .none) = false → Q () → G v) → G v) (fun V => V.ind (M := fun v d => ifS (XV.v d).nn? Q → ((v == .none) = false → Q () → G v) → G v) (fun h _ => h.elim) (fun _ h _ => h.elim) (fun _ _ h k => k rfl h) (fun _ _ h k => k rfl h) (fun _ _ _ _ _ _ _ _ h k => k rfl h) (fun _ _ _ _ _ _ _ _ h _ => h.elim))
  (fun _ _ _ h k => k rfl h) (fun _ _ _ _ _ _ _ _ h _ => h.elim) (fun _ _ _ h k => k rfl h) (fun _ _ _ _ _ _ h _ => h.elim) h k
@[elab_as_elim] theorem XR.gI (X : XR F ρ v x) {Q : Int → Prop} (h : ifS x.i? Q) (k : ∀ i t, Q i → G (.int i t)) : G v := X.cI h k False.elim
@[elab_as_elim] theorem XR.gB (X : XR F ρ v x) {Q : Bool → Prop} (h : ifS x.b? Q) (k : ∀ b, Q b → G (.bool b)) : G v := X.cB h k False.elim
@[elab_as_elim] theorem XR.gS (X : XR F ρ v x) {Q : Str → Prop} (h : ifS x.s? Q) (k : ∀ a t, Q a → G (.str a t)) : G v := X.cS h k False.elim
@[elab_as_elim] theorem XR.gN (X : XR F ρ v x) {Q : Unit → Prop} (h : ifS x.n? Q) (k : Q () → G .none) : G v := X.cN h k False.elim
@[elab_as_elim] theorem VR.eI {i : Int} (X : VR F v (.int i)) (k : ∀ t, G (.int i t)) : G v := XR.gI (G := G) (ρ := []) (x := .v (.int i)) (Q := fun j => j = i) (.v X) rfl fun _ t e => e ▸ k t
@[elab_as_elim] theorem VR.eS {a : Str} (X : VR F v (.str a)) (k : ∀ t, G (.str a t)) : G v := XR.gS (G := G) (ρ := []) (x := .v (.str a)) (Q := fun j => j = a) (.v X) rfl fun _ t e => e ▸ k t
@[elab_as_elim] theorem VR.eT {ds : List PyData} (X : VR F v (.tuple ds)) (k : ∀ a o vs n, F a = some o → o.cls = .type "tuple" → o.data = .seq vs n → VRs F vs.toList ds → G (.ref a)) : G v :=
 XR.cT (G := G) (ρ := []) (x := .v (.tuple ds)) (R := False) (Q := fun j => j = ds) (.v X) rfl (fun _ _ _ _ _ e c q r h => k _ _ _ _ e c q (h ▸ r)) False.elim
@[elab_as_elim] theorem VR.eL {ds : List PyData} (X : VR F v (.list ds)) (k : ∀ a o vs n, F a = some o → o.cls = .type "list" → o.data = .seq vs n → VRs F vs.toList ds → G (.ref a)) : G v :=
 X.ind (M := fun v d => PyData.list ds = d → G v) (fun h => nomatch h) (fun _ h => nomatch h) (fun _ _ h => nomatch h) (fun _ _ h => nomatch h) (fun _ _ _ _ _ e c q h => k _ _ _ _ e c q.1 (PyData.list.inj h ▸ q.2)) (fun _ _ _ _ _ _ _ _ h => nomatch h) rfl
noncomputable def XV.p? : XV → Option PF | .pr p => some p | _ => none
noncomputable def XV.h? : XV → Option (Addr × Nat) | .hdr a i => some (a, i) | _ => none
noncomputable def XV.o? : XV → Option Nat | .own i => some i | _ => none
noncomputable def XV.d? : XV → Option PyData | .v d => some d | _ => none
@[elab_as_elim] theorem XR.eP {p : PF} (X : XR F ρ v (.pr p)) (k : ∀ a, p.P F a → G (.ref a)) : G v :=
 X.ind (M := fun v x => x.p? = some p → G v) (fun _ h => nomatch h) (fun _ _ _ h => nomatch h) (fun _ _ _ _ _ _ _ _ h => nomatch h) (fun a _ q h => k a (Option.some.inj h ▸ q)) (fun _ _ _ _ _ _ h => nomatch h) rfl
@[elab_as_elim] theorem XR.eH {C : Addr} {i : Nat} (X : XR F ρ v (.hdr C i)) (k : ∀ y p, ρ[i]? = some p → HdrI F C y p.2 → G (.ref y)) : G v :=
 X.ind (M := fun v x => x.h? = some (C, i) → G v) (fun _ h => nomatch h) (fun _ _ _ h => nomatch h) (fun _ _ _ _ _ _ _ _ h => nomatch h) (fun _ _ _ h => nomatch h)
  (fun y _ j p e q h => k y p ((show j = i from congrArg Prod.snd (Option.some.inj h)) ▸ e) ((show _ = C from congrArg Prod.fst (Option.some.inj h)) ▸ q)) rfl
theorem XR.eV {d : PyData} (X : XR F ρ v (.v d)) : VR F v d :=
 X.ind (M := fun v x => x.d? = some d → VR F v d) (fun V h => Option.some.inj h ▸ V) (fun _ _ _ h => nomatch h) (fun _ _ _ _ _ _ _ _ h => nomatch h) (fun _ _ _ h => nomatch h) (fun _ _ _ _ _ _ h => nomatch h) rfl
@[elab_as_elim] theorem XR.eI {i : Int} (X : XR F ρ v (.v (.int i))) (k : ∀ t, G (.int i t)) : G v := X.eV.eI k
@[elab_as_elim] theorem XR.eS {a : Str} (X : XR F ρ v (.v (.str a))) (k : ∀ t, G (.str a t)) : G v := X.eV.eS k
@[elab_as_elim] theorem XR.eO {i : Nat} (X : XR F ρ v (.own i)) (k : ∀ p, ρ[i]? = some p → G (.ref p.1)) : G v :=
 X.ind (M := fun v x => x.o? = some i → G v) (fun _ h => nomatch h) (fun _ p q h => k p (Option.some.inj h ▸ q)) (fun _ _ _ _ _ _ _ _ h => nomatch h) (fun _ _ _ h => nomatch h) (fun _ _ _ _ _ _ h => nomatch h) rfl
end
theorem VRs.uncons {F : Fz} {v : Value} {vs : List Value} {x : PyData} {xs : List PyData} (X : VRs F (v :: vs) (x :: xs)) : VR F v x ∧ VRs F vs xs :=
 X.ind (M := fun vs xs => xs ≠ [] → VR F (vs.headD .none) (xs.headD .none) ∧ VRs F vs.tail xs.tail) (fun h => absurd rfl h) (fun _ _ _ _ a b _ _ => ⟨a, b⟩) fun h => nomatch h
theorem XRs.uncons {F : Fz} {ρ : Pl} {v : Value} {vs : List Value} {x : XV} {xs : List XV} (X : XRs F ρ (v :: vs) (x :: xs)) : XR F ρ v x ∧ XRs F ρ vs xs :=
 XRs.casesOn (motive := fun vs xs _ => xs ≠ [] → XR F ρ (vs.headD .none) (xs.headD (.own 0)) ∧ XRs F ρ vs.tail xs.tail) X (fun h => absurd rfl h) (fun a b _ => ⟨a, b⟩) fun h => nomatch h
noncomputable def ar1 (xs : List XV) (Q : XV → Prop) : Prop := match xs with | [x] => Q x | _ => False
noncomputable def ar2 (xs : List XV) (Q : XV → XV → Prop) : Prop := match xs with | [x, y] => Q x y | _ => False
section
variable {F : Fz} {ρ : Pl} {vs : List Value} {xs : List XV} {G : List Value → Prop}
@[elab_as_elim] theorem XRs.e0 (X : XRs F ρ vs []) (k : G []) : G vs := XRs.casesOn (motive := fun vs xs _ => xs = [] → G vs) X (fun _ => k) (fun _ _ h => nomatch h) rfl
@[elab_as_elim] theorem XRs.e1 {x : XV} (X : XRs F ρ vs (x :: xs)) (k : ∀ v vs', XR F ρ v x → XRs F ρ vs' xs → G (v :: vs')) : G vs :=
 XRs.casesOn (motive := fun vs xs _ => xs ≠ [] → (∀ v vs', XR F ρ v (xs.headD (.own 0)) → XRs F ρ vs' xs.tail → G (v :: vs')) → G vs) X (fun h => absurd rfl h) (fun a b _ k => k _ _ a b) (fun h => nomatch h) k
@[elab_as_elim] theorem XRs.l1 {x : XV} (X : XRs F ρ vs [x]) (k : ∀ v, XR F ρ v x → G [v]) : G vs := X.e1 fun v _ X Xr => Xr.e0 (G := fun r => G (v :: r)) (k v X)
@[elab_as_elim] theorem XRs.l2 {x y : XV} (X : XRs F ρ vs [x, y]) (k : ∀ v u, XR F ρ v x → XR F ρ u y → G [v, u]) : G vs := X.e1 fun v _ X Xr => Xr.l1 (G := fun r => G (v :: r)) fun u Y => k v u X Y
@[elab_as_elim] theorem XRs.l3 {x y z : XV} (X : XRs F ρ vs [x, y, z]) (k : ∀ v u w, XR F ρ v x → XR F ρ u y → XR F ρ w z → G [v, u, w]) : G vs := X.e1 fun v _ X Xr => Xr.l2 (G := fun r => G (v :: r)) fun u w Y Z => k v u w X Y Z
@[elab_as_elim] theorem XRs.l4 {x y z t : XV} (X : XRs F ρ vs [x, y, z, t]) (k : ∀ v u w q, XR F ρ v x → XR F ρ u y → XR F ρ w z → XR F ρ q t → G [v, u, w, q]) : G vs := X.e1 fun v _ X Xr => Xr.l3 (G := fun r => G (v :: r)) fun u w q Y Z T => k v u w q X Y Z T
theorem ar1_e {Q : XV → Prop} (h : ar1 xs Q) : ∃ x, xs = [x] ∧ Q x :=
 List.casesOn (motive := fun xs => ar1 xs Q → ∃ x, xs = [x] ∧ Q x) xs False.elim (fun x r => List.casesOn (motive := fun r => ar1 (x :: r) Q → ∃ x', x :: r = [x'] ∧ Q x') r (fun h => ⟨x, rfl, h⟩) fun _ _ => False.elim) h
theorem ar2_e {Q : XV → XV → Prop} (h : ar2 xs Q) : ∃ x y, xs = [x, y] ∧ Q x y :=
 List.casesOn (motive := fun xs => ar2 xs Q → ∃ x y, xs = [x, y] ∧ Q x y) xs False.elim (fun x r => List.casesOn (motive := fun r => ar2 (x :: r) Q → ∃ x' y, x :: r = [x', y] ∧ Q x' y) r False.elim fun y r =>
  List.casesOn (motive := fun r => ar2 (x :: y :: r) Q → ∃ x' y', x :: y :: r = [x', y'] ∧ Q x' y') r (fun h => ⟨x, y, rfl, h⟩) fun _ _ => False.elim) h
noncomputable def u1 {α β : Type} (k : α → List α → Option β) (xs : List α) : Option β := List.casesOn xs none k
noncomputable def u0 {α β : Type} (k : Option β) (xs : List α) : Option β := List.casesOn xs k fun _ _ => none
@[elab_as_elim] theorem XRs.b1 {β : Type} {f : XV → List XV → Option β} {b : β} (X : XRs F ρ vs xs) (e : u1 f xs = some b) (k : ∀ v vs' x xs', XR F ρ v x → XRs F ρ vs' xs' → f x xs' = some b → G (v :: vs')) : G vs :=
 XRs.casesOn (motive := fun vs xs _ => u1 f xs = some b → G vs) X (fun h => nomatch h) (fun a r e => k _ _ _ _ a r e) e
@[elab_as_elim] theorem XRs.b0 {β : Type} {f : Option β} {b : β} (X : XRs F ρ vs xs) (e : u0 f xs = some b) (k : f = some b → G []) : G vs :=
 XRs.casesOn (motive := fun vs xs _ => u0 f xs = some b → G vs) X k (fun _ _ h => nomatch h) e
theorem u1_e {α β : Type} {f : α → List α → Option β} {xs : List α} {b : β} (e : u1 f xs = some b) {G : Prop} (k : ∀ x r, f x r = some b → G) : G :=
 List.casesOn (motive := fun xs => u1 f xs = some b → G) xs (fun h => nomatch h) (fun x r e => k x r e) e
noncomputable def u01 {α β : Type} (f : Option β) (k : α → List α → Option β) (xs : List α) : Option β := List.casesOn xs f k
@[elab_as_elim] theorem XRs.b01 {β : Type} {f : Option β} {g : XV → List XV → Option β} {b : β} (X : XRs F ρ vs xs) (e : u01 f g xs = some b) (k0 : f = some b → G []) (k : ∀ v vs' x xs', XR F ρ v x → XRs F ρ vs' xs' → g x xs' = some b → G (v :: vs')) : G vs :=
 XRs.casesOn (motive := fun vs xs _ => u01 f g xs = some b → G vs) X k0 (fun a r e => k _ _ _ _ a r e) e
theorem u01_e {α β : Type} {f : Option β} {g : α → List α → Option β} {xs : List α} {b : β} (e : u01 f g xs = some b) {G : Prop} (k0 : f = some b → G) (k : ∀ x r, g x r = some b → G) : G :=
 List.casesOn (motive := fun xs => u01 f g xs = some b → G) xs k0 (fun x r e => k x r e) e
theorem kb0 {β : Type} {f : Option β} {b : β} {kv : List (Str × Value)} {kx : List (String × XV)} (hk : kv.map (·.1) = kx.map (fun n => (n.1 : Str))) (e : u0 f kx = some b) : kv = [] ∧ f = some b :=
 List.casesOn (motive := fun kx => kv.map (·.1) = kx.map (fun n => (n.1 : Str)) → u0 f kx = some b → kv = [] ∧ f = some b) kx (fun hk e => ⟨List.map_eq_nil_iff.mp hk, e⟩) (fun _ _ _ h => nomatch h) hk e
theorem kb1 {β : Type} {f : (String × XV) → List (String × XV) → Option β} {b : β} {kv : List (Str × Value)} {kx : List (String × XV)} (hk : kv.map (·.1) = kx.map (fun n => (n.1 : Str))) (XK : XRs F ρ (kv.map (·.2)) (kx.map (·.2))) (e : u1 f kx = some b)
  {G : Prop} (k : ∀ v r q s, kv = ((q.1 : Str), v) :: r → r.map (·.1) = s.map (fun n => (n.1 : Str)) → XR F ρ v q.2 → f q s = some b → G) : G := by
 cases kx with
 | nil => exact nomatch e
 | cons q s =>
  cases kv with
  | nil => exact nomatch hk
  | cons p r => exact k p.2 r q s (congrArg (fun z => (z, p.2) :: r) (List.cons.inj hk).1) (List.cons.inj hk).2 XK.uncons.1 e
theorem u0_e {α β : Type} {f : Option β} {xs : List α} {b : β} (e : u0 f xs = some b) : f = some b := List.casesOn (motive := fun xs => u0 f xs = some b → f = some b) xs id (fun _ _ h => nomatch h) e
@[elab_as_elim] theorem XRs.g1 (X : XRs F ρ vs xs) {Q : XV → Prop} (h : ar1 xs Q) (k : ∀ v x, XR F ρ v x → Q x → G [v]) : G vs := by
 obtain ⟨x, rfl, h⟩ := ar1_e h; exact X.l1 fun v X => k v x X h
@[elab_as_elim] theorem XRs.g2 (X : XRs F ρ vs xs) {Q : XV → XV → Prop} (h : ar2 xs Q) (k : ∀ v u x y, XR F ρ v x → XR F ρ u y → Q x y → G [v, u]) : G vs := by
 obtain ⟨x, y, rfl, h⟩ := ar2_e h; exact X.l2 fun v u X Y => k v u x y X Y h
end
noncomputable def RetL (c : Cx) (F : Fz) (ρ : Pl) (s : Shared) (Q : List XV → Sto → Prop) (K : List Value → Shared → Prop) : Prop :=
 ∀ vs xs F' ρ' σ' h' tk', XRs F' ρ' vs xs → Step c.base c.C F ρ s.heap F' ρ' h' σ' → Q xs σ' → K vs { s with heap := h', toks := tk' }
noncomputable def EsOK (c : Cx) (env : Env) (ts : List (Bool × Sem Value)) (W : LW) : Prop :=
 ∀ (E : Value → Shared → Prop) (K : List Value → Shared → Prop) F ρ η σ (s : Shared) Q, Rel c.base c.C env F ρ s.heap η σ → W η σ Q → RetL c F ρ s Q K → wpAny c.M c.A (spliced ts) K E s
theorem XRs.ind {F : Fz} {ρ : Pl} {M : List Value → List XV → Prop} {vs xs} (h : XRs F ρ vs xs) (n : M [] []) (c : ∀ v vs x xs, XR F ρ v x → XRs F ρ vs xs → M vs xs → M (v :: vs) (x :: xs)) : M vs xs :=
 XRs.rec (motive := fun vs xs _ => M vs xs) n (fun a b m => c _ _ _ _ a b m) h
theorem XRs.mono {F F' : Fz} {ρ ρ' : Pl} (hF : FLe F F') (hρ : ρ <+: ρ') {v x} (h : XRs F ρ v x) : XRs F' ρ' v x := h.ind .nil fun _ _ _ _ a _ m => .cons (a.mono hF hρ) m
noncomputable def Op1 (c : Cx) (f : Value → Sem Value) (O : XV → Sto → (XV → Sto → Prop) → Prop) : Prop :=
 ∀ (E : Value → Shared → Prop) (K : Value → Shared → Prop) F ρ σ (s : Shared) v x Q, SRel c.base c.C F ρ s.heap σ → XR F ρ v x → O x σ Q → Ret c F ρ s Q K → wpAny c.M c.A (f v) K E s
noncomputable def Op2 (c : Cx) (f : Value → Value → Sem Value) (O : XV → XV → Sto → (XV → Sto → Prop) → Prop) : Prop :=
 ∀ (E : Value → Shared → Prop) (K : Value → Shared → Prop) F ρ σ (s : Shared) v u x y Q, SRel c.base c.C F ρ s.heap σ → XR F ρ v x → XR F ρ u y → O x y σ Q → Ret c F ρ s Q K → wpAny c.M c.A (f v u) K E s
noncomputable def OpN (c : Cx) (f : List Value → Sem Value) (O : List XV → Sto → (XV → Sto → Prop) → Prop) : Prop :=
 ∀ (E : Value → Shared → Prop) (K : Value → Shared → Prop) F ρ σ (s : Shared) vs xs Q, SRel c.base c.C F ρ s.heap σ → XRs F ρ vs xs → O xs σ Q → Ret c F ρ s Q K → wpAny c.M c.A (f vs) K E s
noncomputable def Tru (c : Cx) (O : XV → Sto → (Bool → Sto → Prop) → Prop) : Prop :=
 ∀ (E : Value → Shared → Prop) (K : Bool → Shared → Prop) F ρ σ (s : Shared) v x Q, SRel c.base c.C F ρ s.heap σ → XR F ρ v x → O x σ Q → RetT c F ρ s Q K → wpAny c.M c.A (truthy v) K E s
section
variable {c : Cx} {env : Env}
theorem Rel.value {base : Heap} {C : Addr} {F : Fz} {ρ : Pl} {η : Vars} {σ : Sto} {A : Around} {M : Model} {s : Shared} {x : String} {xv : XV}
  (R : Rel base C env F ρ s.heap η σ) (hx : vget x η = some xv) (hk : env.kindOf x = some .local ∨ celled env x) (hn : ((x : Str) == ("__classdict__" : Str)) = false) :
  ∃ v, XR F ρ v xv ∧ ∀ {E : Value → Shared → Prop} {Q : Value → Shared → Prop}, Q v s → wpAny M A (loadName env x) Q E s := by
 rcases hk with hk | hk
 ·exact R.ns.elim fun m q => (q.2 x xv hk hx).elim fun v w => ⟨v, w.2, fun h => wpAny_loadName_local R.kind hk q.1 w.1 h⟩
 ·exact (R.cellAll x hk).elim fun a ha => (R.cells x a hk ha).elim fun v w => (w.2.2 x xv rfl hx).elim fun v' u =>
   ⟨v', u.2, fun h => hk.elim (fun hk => wpAny_loadName_cell R.kind hk ha (u.1 ▸ w.1) h) fun hk => wpAny_loadName_free R.kind hk ha (u.1 ▸ w.1) h hn⟩
theorem Rel.lookup {base : Heap} {C : Addr} {F : Fz} {ρ : Pl} {η : Vars} {σ : Sto} {A : Around} {E : Value → Shared → Prop} {M : Model} {s : Shared} {x : String} {xv : XV} {Q : Value → Shared → Prop}
  (R : Rel base C env F ρ s.heap η σ) (hx : vget x η = some xv) (hk : env.kindOf x = some .local ∨ celled env x) (hn : ((x : Str) == ("__classdict__" : Str)) = false)
  (h : ∀ v, XR F ρ v xv → Q v s) : wpAny M A (loadName env x) Q E s := (R.value hx hk hn).elim fun v q => q.2 (h v q.1)
noncomputable def held (o : Option NameKind) : Bool := o == some .local || (o == some .cell || o == some .free)
theorem held_spec {o : Option NameKind} (h : held o = true) : o = some .local ∨ o = some .cell ∨ o = some .free := by
 unfold held at h
 rcases Bool.or_eq_true_iff.mp h with h | h
 ·exact .inl (eq_of_beq h)
 ·exact .inr ((Bool.or_eq_true_iff.mp h).imp eq_of_beq eq_of_beq)
noncomputable def varNm (env : Env) (x : Str) : Bool := held (env.scope.names.lookup x) && !(x == ("__classdict__" : Str)) && !(x == ("__debug__" : Str))
theorem kQ {x : Str} (h : varNm env x = true) : (env.kindOf x = some .local ∨ celled env x) ∧ (x == ("__classdict__" : Str)) = false ∧ (x == ("__debug__" : Str)) = false :=
 ⟨held_spec (Bool.and_eq_true_iff.mp (Bool.and_eq_true_iff.mp h).1).1, (Bool.not_eq_true' _).mp (Bool.and_eq_true_iff.mp (Bool.and_eq_true_iff.mp h).1).2, (Bool.not_eq_true' _).mp (Bool.and_eq_true_iff.mp h).2⟩
theorem qB {x : String} {pos : Pos} (hk : varNm env x = true) : EOK c env (eval (.Name x pos) env) (fun η σ Q => ifS (vget x η) fun xv => Q xv σ) := by
 intro E K F ρ η σ s Q R hW hK
 obtain ⟨h1, h2, h3⟩ := kQ hk
 obtain ⟨xv, hx, hQ⟩ := ifS_e hW
 exact wpAny_Name (R.lookup hx h1 h2 fun v X => hK v xv F ρ σ s.heap s.toks X (.refl R.sto) hQ) h3
theorem jM {i k pos} : EOK c env (eval (.Constant (.int i) k pos) env) (fun _ σ Q => Q (.v (.int i)) σ) :=
 fun _ _ F ρ _ σ s _ R hW hK => wpAny_Constant_int (hK _ _ F ρ σ s.heap _ (.v (.int i _)) (.refl R.sto) hW)
theorem pQ {x k pos} : EOK c env (eval (.Constant (.str x) k pos) env) (fun _ σ Q => Q (.v (.str x)) σ) :=
 fun _ _ F ρ _ σ s _ R hW hK => Constant_str (hK _ _ F ρ σ s.heap _ (.v (.str x _)) (.refl R.sto) hW)
theorem pJ {b k pos} : EOK c env (eval (.Constant (.bool b) k pos) env) (fun _ σ Q => Q (.v (.bool b)) σ) :=
 fun _ _ F ρ _ σ s _ R hW hK => wpAny_pure (hK _ _ F ρ σ s.heap s.toks (.v (.bool b)) (.refl R.sto) hW)
theorem eok_none {k pos} : EOK c env (eval (.Constant .none k pos) env) (fun _ σ Q => Q (.v .none) σ) :=
 fun _ _ F ρ _ σ s _ R hW hK => wpAny_pure (hK _ _ F ρ σ s.heap s.toks (.v .none) (.refl R.sto) hW)
theorem jJ {l op r pos W1 W2 O} (h1 : EOK c env (eval l env) W1) (h2 : EOK c env (eval r env) W2) (ho : Op2 c (binaryOp op) O) :
  EOK c env (eval (.BinOp l op r pos) env) (wBin W1 W2 O) := by
 intro E K F ρ η σ s Q R hW hK
 refine wpAny_BinOp (h1 E _ F ρ η σ s _ R hW fun v1 x1 F1 ρ1 σ1 hp1 t1 X1 S1 hW1 => ?_)
 refine h2 E _ F1 ρ1 η σ1 _ _ (R.step S1) hW1 fun v2 x2 F2 ρ2 σ2 hp2 t2 X2 S2 hW2 => ?_
 refine ho E _ F2 ρ2 σ2 _ v1 v2 x1 x2 Q S2.sto (X1.mono S2.evo.le S2.pre) X2 hW2 fun v x F3 ρ3 σ3 h3 t3 X3 S3 hQ => ?_
 exact hK v x F3 ρ3 σ3 h3 t3 X3 ((S1.trans S2).trans S3) hQ
theorem kV {l op r pos W1 W2 O} (h1 : EOK c env (eval l env) W1) (h2 : EOK c env (eval r env) W2) (ho : Op2 c (compareOp op) O) (hm : behindInMarks op r = false := by with_unfolding_all rfl) :
  EOK c env (eval (.Compare l [op] [r] pos) env) (wBin W1 W2 O) := by
 intro E K F ρ η σ s Q R hW hK
 refine wpAny_Compare1 (h1 E _ F ρ η σ s _ R hW fun v1 x1 F1 ρ1 σ1 hp1 t1 X1 S1 hW1 => ?_) hm
 refine h2 E _ F1 ρ1 η σ1 _ _ (R.step S1) hW1 fun v2 x2 F2 ρ2 σ2 hp2 t2 X2 S2 hW2 => ?_
 refine ho E _ F2 ρ2 σ2 _ v1 v2 x1 x2 Q S2.sto (X1.mono S2.evo.le S2.pre) X2 hW2 fun v x F3 ρ3 σ3 h3 t3 X3 S3 hQ => ?_
 exact hK v x F3 ρ3 σ3 h3 t3 X3 ((S1.trans S2).trans S3) hQ
theorem vE {op x pos W O} (h : EOK c env (eval x env) W) (ho : Op1 c (unaryOp op) O) :
  EOK c env (eval (.UnaryOp op x pos) env) (wUn W O) := by
 intro E K F ρ η σ s Q R hW hK
 refine wpAny_UnaryOp (h E _ F ρ η σ s _ R hW fun v1 x1 F1 ρ1 σ1 hp1 t1 X1 S1 hW1 => ?_)
 refine ho E _ F1 ρ1 σ1 _ v1 x1 Q S1.sto X1 hW1 fun v x F3 ρ3 σ3 h3 t3 X3 S3 hQ => ?_
 exact hK v x F3 ρ3 σ3 h3 t3 X3 (S1.trans S3) hQ
theorem kT {e : Expr} {W O} (h : EOK c env (eval e env) W) (ht : Tru c O)
  (he : isTrue e env (eval e env) = (do let v ← eval e env; standAt e.pos; holding [v] (truthy v)) := by rfl) :
  TOK c env (isTrue e env (eval e env)) (wPl W O) := by
 intro E K F ρ η σ s Q R hW hK
 refine isTrue_plain (h E _ F ρ η σ s _ R hW fun v1 x1 F1 ρ1 σ1 hp1 t1 X1 S1 hW1 => ?_) he
 refine ht E _ F1 ρ1 σ1 _ v1 x1 Q S1.sto X1 hW1 fun b F3 ρ3 σ3 h3 t3 S3 hQ => ?_
 exact hK b F3 ρ3 σ3 h3 t3 (S1.trans S3) hQ
theorem jW {l op r pos W1 W2 O T} (h1 : EOK c env (eval l env) W1) (h2 : EOK c env (eval r env) W2) (ho : Op2 c (compareOp op) O) (ht : Tru c T) (hm : behindInMarks op r = false := by with_unfolding_all rfl) :
  TOK c env (isTrue (.Compare l [op] [r] pos) env (eval (.Compare l [op] [r] pos) env)) (wCmp W1 W2 O T) := by
 intro E K F ρ η σ s Q R hW hK
 refine wpAny_isTrue_Compare1 (h1 E _ F ρ η σ s _ R hW fun v1 x1 F1 ρ1 σ1 hp1 t1 X1 S1 hW1 => ?_) hm
 refine h2 E _ F1 ρ1 η σ1 _ _ (R.step S1) hW1 fun v2 x2 F2 ρ2 σ2 hp2 t2 X2 S2 hW2 => ?_
 refine ho E _ F2 ρ2 σ2 _ v1 v2 x1 x2 _ S2.sto (X1.mono S2.evo.le S2.pre) X2 hW2 fun v x F3 ρ3 σ3 h3 t3 X3 S3 hW3 => ?_
 refine ht E _ F3 ρ3 σ3 _ v x Q S3.sto X3 hW3 fun b F4 ρ4 σ4 h4 t4 S4 hQ => ?_
 exact hK b F4 ρ4 σ4 h4 t4 (((S1.trans S2).trans S3).trans S4) hQ
theorem tok_and_nil {pos whole} : TOK c env (isTrue (.BoolOp .And [] pos) env whole) (fun _ σ Q => Q true σ) :=
 fun _ _ F ρ _ σ s _ R hW hK => isTrue_and_nil (hK true F ρ σ s.heap s.toks (.refl R.sto) hW)
theorem tok_or_nil {pos whole} : TOK c env (isTrue (.BoolOp .Or [] pos) env whole) (fun _ σ Q => Q false σ) :=
 fun _ _ F ρ _ σ s _ R hW hK => isTrue_or_nil (hK false F ρ σ s.heap s.toks (.refl R.sto) hW)
theorem tok_and {x rest pos whole W1 W2} (h1 : TOK c env (isTrue x env (eval x env)) W1) (h2 : TOK c env (isTrue (.BoolOp .And rest pos) env whole) W2) :
  TOK c env (isTrue (.BoolOp .And (x :: rest) pos) env whole) (wAnd W1 W2) := by
 intro E K F ρ η σ s Q R hW hK
 refine isTrue_and (h1 E _ F ρ η σ s _ R hW fun b F1 ρ1 σ1 hp1 t1 S1 hQ => ?_)
 cases b with
 | true => exact h2 E _ F1 ρ1 η σ1 _ Q (R.step S1) (hQ.1 rfl) fun b F2 ρ2 σ2 hp2 t2 S2 hQ => hK b F2 ρ2 σ2 hp2 t2 (S1.trans S2) hQ
 | false => exact hK false F1 ρ1 σ1 hp1 t1 S1 (hQ.2 rfl)
theorem tok_or {x rest pos whole W1 W2} (h1 : TOK c env (isTrue x env (eval x env)) W1) (h2 : TOK c env (isTrue (.BoolOp .Or rest pos) env whole) W2) :
  TOK c env (isTrue (.BoolOp .Or (x :: rest) pos) env whole) (wOr W1 W2) := by
 intro E K F ρ η σ s Q R hW hK
 refine isTrue_or (h1 E _ F ρ η σ s _ R hW fun b F1 ρ1 σ1 hp1 t1 S1 hQ => ?_)
 cases b with
 | true => exact hK true F1 ρ1 σ1 hp1 t1 S1 (hQ.1 rfl)
 | false => exact h2 E _ F1 ρ1 η σ1 _ Q (R.step S1) (hQ.2 rfl) fun b F2 ρ2 σ2 hp2 t2 S2 hQ => hK b F2 ρ2 σ2 hp2 t2 (S1.trans S2) hQ
theorem eok_ifexp {test body orelse pos T W1 W2} (ht : TOK c env (isTrue test env (eval test env)) T) (h1 : EOK c env (eval body env) W1) (h2 : EOK c env (eval orelse env) W2) :
  EOK c env (eval (.IfExp test body orelse pos) env) (wIfE T W1 W2) := by
 intro E K F ρ η σ s Q R hW hK
 refine wpAny_IfExp (ht E _ F ρ η σ s _ R hW fun b F1 ρ1 σ1 hp1 t1 S1 hQ => ?_)
 cases b with
 | true => exact h1 E _ F1 ρ1 η σ1 _ Q (R.step S1) (hQ.1 rfl) fun v x F2 ρ2 σ2 hp2 t2 X2 S2 hQ => hK v x F2 ρ2 σ2 hp2 t2 X2 (S1.trans S2) hQ
 | false => exact h2 E _ F1 ρ1 η σ1 _ Q (R.step S1) (hQ.2 rfl) fun v x F2 ρ2 σ2 hp2 t2 X2 S2 hQ => hK v x F2 ρ2 σ2 hp2 t2 X2 (S1.trans S2) hQ
theorem jI : EsOK c env [] (fun _ σ Q => Q [] σ) :=
 fun _ _ F ρ _ σ s _ R hW hK => spliced_nil (hK [] [] F ρ σ s.heap s.toks .nil (.refl R.sto) hW)
theorem qG {t : Sem Value} {ts W Ws} (h : EOK c env t W) (hs : EsOK c env ts Ws) : EsOK c env ((false, t) :: ts) (wEs W Ws) := by
 intro E K F ρ η σ s Q R hW hK
 refine spliced_cons (h E _ F ρ η σ s _ R hW fun v1 x1 F1 ρ1 σ1 hp1 t1 X1 S1 hW1 => ?_)
 refine hs E _ F1 ρ1 η σ1 _ _ (R.step S1) hW1 fun vs xs F2 ρ2 σ2 hp2 t2 X2 S2 hW2 => ?_
 exact hK _ _ F2 ρ2 σ2 hp2 t2 (.cons (X1.mono S2.evo.le S2.pre) X2) (S1.trans S2) hW2
end
set_option tactic.hygienic true
noncomputable def lst? (σ : Sto) : XV → Option (List PyData)
 | .v (.list xs) => some xs
 | .own i => match σ[i]? with
  | some (.list xs) => some xs
  | _ => none
 | _ => none
theorem lst_spec {base : Heap} {C : Addr} {F : Fz} {ρ : Pl} {h : Heap} {σ : Sto} {v : Value} {x : XV} {xs : List PyData} (S : SRel base C F ρ h σ) (X : XR F ρ v x) (e : lst? σ x = some xs) :
  ∃ a vs, v = .ref a ∧ h.IsList a (List.toArray vs) ∧ VRs F vs xs := by
 cases X with
 | v X =>
  cases X with
  | @list a o vs n xs' e1 e2 e3 r =>
   simp only [lst?, Option.some.injEq] at e; subst e
   exact ⟨a, vs.toList, rfl, ⟨o, S.inn _ _ e1, e2, n, by simpa using e3⟩, r⟩
  | none => cases e
  | bool => cases e
  | int => cases e
  | str => cases e
  | tuple => cases e
 | @own i p hp =>
  simp only [lst?] at e
  split at e
  ·rename_i ys h2
   cases e
   refine dAEA (S.obj i p _ hp h2) fun q vs r1 r2 => ?_
   exact ⟨p.2, vs, by rw [q], r1.isList, r2⟩
  ·cases e
 | rng => cases e
 | pr => cases e
 | hdr => cases e
@[elab_as_elim] theorem lst_e {base : Heap} {C : Addr} {F : Fz} {ρ : Pl} {h : Heap} {σ : Sto} {v : Value} {x : XV} (S : SRel base C F ρ h σ) (X : XR F ρ v x) {P : List PyData → Prop} (hx : ∃ xs, lst? σ x = some xs ∧ P xs) {G : Value → Prop}
  (k : ∀ a vs xs, h.IsList a (List.toArray vs) → VRs F vs xs → P xs → G (.ref a)) : G v := by
 refine dEA hx fun xs e hp => ?_
 refine dEEAA (lst_spec S X e) fun a vs hR1 hl r => ?_
 subst hR1
 exact k a vs xs hl r hp
section
variable {c : Cx}
theorem pV {F : Fz} {ρ : Pl} {σ : Sto} {s : Shared} {Q : XV → Sto → Prop} {K : Value → Shared → Prop} (S : SRel c.base c.C F ρ s.heap σ) (hK : Ret c F ρ s Q K) {i : Int} {t : Tok} {tk : Nat} (hQ : Q (.v (.int i)) σ) : K (.int i t) { s with toks := tk } :=
 hK _ _ F ρ σ s.heap tk (.v (.int i t)) (.refl S) hQ
theorem ret_str {F : Fz} {ρ : Pl} {σ : Sto} {s : Shared} {Q : XV → Sto → Prop} {K : Value → Shared → Prop} (S : SRel c.base c.C F ρ s.heap σ) (hK : Ret c F ρ s Q K) {i : Str} {t : Tok} {tk : Nat} (hQ : Q (.v (.str i)) σ) : K (.str i t) { s with toks := tk } :=
 hK _ _ F ρ σ s.heap tk (.v (.str i t)) (.refl S) hQ
theorem kI {F : Fz} {ρ : Pl} {σ : Sto} {s : Shared} {Q : XV → Sto → Prop} {K : Value → Shared → Prop} (S : SRel c.base c.C F ρ s.heap σ) (hK : Ret c F ρ s Q K) {b : Bool} (hQ : Q (.v (.bool b)) σ) : K (.bool b) s :=
 hK _ _ F ρ σ s.heap s.toks (.v (.bool b)) (.refl S) hQ
theorem ret_list {F : Fz} {ρ : Pl} {σ : Sto} {s : Shared} {Q : XV → Sto → Prop} {K : Value → Shared → Prop} (S : SRel c.base c.C F ρ s.heap σ) (hK : Ret c F ρ s Q K) {h' : Heap} {tk : Nat} {a : Addr} {vs : List Value} {xs : List PyData}
  (x : Ext s.heap h') (hl : h'.IsList a vs.toArray) (ha : s.heap.get? a = none) (r : VRs F vs xs) (hQ : Q (.v (.list xs)) σ) : K (.ref a) { s with heap := h', toks := tk } := by
 refine dEAAE hl fun o e1 e2 n e3 => ?_
 exact hK _ _ (Fup F s.heap h') ρ σ h' tk (.v (.list (Fup_new e1 ha) e2 e3 (by simpa using r.mono (Fup_le S.inn)))) (.ext S x) hQ
noncomputable abbrev b2n (b : Bool) : Int := if b = true then 1 else 0
noncomputable abbrev addL (x y : XV) (σ : Sto) (Q : XV → Sto → Prop) : Prop := ∃ xs ys, lst? σ x = some xs ∧ lst? σ y = some ys ∧ xs.length + ys.length ≤ sizeLine ∧ Q (.v (.list (xs ++ ys))) σ
noncomputable def oAdd (x y : XV) (σ : Sto) (Q : XV → Sto → Prop) : Prop :=
 orS x.i? (fun a => ifS y.i? fun b => Q (.v (.int (a + b))) σ) <| orS x.b? (fun a => ifS y.b? fun b => Q (.v (.int (b2i a + b2i b))) σ) <|
 orS x.s? (fun a => ifS y.s? fun b => a.length + b.length ≤ sizeLine ∧ Q (.v (.str (a ++ b))) σ) <| addL x y σ Q
theorem isList_obj {h : Heap} {a : Addr} {vs : Array Value} (l : h.IsList a vs) : ∃ d n sl, h.get? a = some { cls := .type "list", dict := d, data := .seq vs n, slots := sl } := by
 refine dEAAE l fun hN2 ho hc n hd => ?_
 obtain ⟨cls, d, data, sl⟩ := hN2
 cases (hc : cls = _); cases (hd : data = _)
 exact ⟨d, n, sl, ho⟩
theorem op_add_lists {E : Value → Shared → Prop} {K : Value → Shared → Prop} {F : Fz} {ρ : Pl} {σ : Sto} {s : Shared} {v u : Value} {x y : XV} {Q : XV → Sto → Prop} (S : SRel c.base c.C F ρ s.heap σ) (X : XR F ρ v x) (Y : XR F ρ u y)
  (hQ : addL x y σ Q) (hK : Ret c F ρ s Q K) : wpAny c.M c.A (binaryOp .Add v u) K E s := by
 refine qC fun P kG => ?_
 refine dEEAAA hQ fun xs ys h1 h2 h3 h4 => ?_
 refine dEEAA (lst_spec S X h1) fun l vs hR3 hl r => ?_
 refine dEEAA (lst_spec S Y h2) fun b ws hR4 hb q => ?_
 refine dEEE (isList_obj hl) fun dd n sl ho => ?_
 refine dEEE (isList_obj hb) fun dd2 n2 sl2 ho2 => ?_
 refine kG ?_
 clear kG P
 subst hR3
 subst hR4
 refine concat_meets ⟨_, ho, rfl⟩ ⟨_, ho2, rfl⟩ noFill_list_add seq_list_add PySem.F.slot_list_add PySem.F.entry_list_add (PySem.F.args_list_add_2 _ _) (list_addW l b vs.toArray ws.toArray n n2 dd dd2 sl sl2 (by simpa [r.length, q.length] using h3)) ⟨ho, ho2, ?_⟩
 rw [show vs.toArray ++ ws.toArray = (vs ++ ws).toArray by simp]
 exact ret_list S hK (Ext.push _ _) ⟨_, Heap.get?_push_size _ rfl, rfl, 0, rfl⟩ (get?_size _) (r.append q) h4
theorem jU : Op2 c (binaryOp .Add) oAdd := by
 intro E K F ρ σ s v u x y Q S X Y hQ hK
 refine X.cI hQ (fun _ _ hQ => ?_) fun hQ => X.cB hQ (fun _ hQ => ?_) fun hQ => X.cS hQ (fun _ _ hQ => ?_) fun hQ => op_add_lists S X Y hQ hK
 ·exact Y.gI hQ fun _ _ hQ => add_int (pV S hK hQ)
 ·exact Y.gB hQ fun _ hQ => add_bool (pV S hK hQ)
 ·exact Y.gS hQ fun _ _ hQ => add_str (fun t' tk => ret_str S hK hQ.2) hQ.1
noncomputable abbrev int2 (x y : XV) (P : Int → Int → Prop) : Prop := ifS x.i? fun a => ifS y.i? fun b => P a b
@[elab_as_elim] theorem int2_e {F : Fz} {ρ : Pl} {v u : Value} {x y : XV} (X : XR F ρ v x) (Y : XR F ρ u y) {P : Int → Int → Prop} (h : int2 x y P) {G : Value → Value → Prop} (k : ∀ a t b q, P a b → G (.int a t) (.int b q)) : G v u :=
 X.gI h (G := fun v => G v u) fun a t h => Y.gI h fun b q h => k a t b q h
noncomputable def oSub (x y : XV) (σ : Sto) (Q : XV → Sto → Prop) : Prop := int2 x y fun a b => Q (.v (.int (a - b))) σ
theorem op_sub : Op2 c (binaryOp .Sub) oSub := fun _ K _ _ _ s v u _ _ _ S X Y hQ hK => int2_e X Y hQ fun _ _ _ _ hQ => sub_int (pV S hK hQ)
noncomputable def oMod (x y : XV) (σ : Sto) (Q : XV → Sto → Prop) : Prop := int2 x y fun a b => b ≠ 0 ∧ Q (.v (.int (a.fmod b))) σ
theorem op_mod : Op2 c (binaryOp .Mod) oMod := fun _ K _ _ _ s v u _ _ _ S X Y hQ hK => int2_e X Y hQ fun _ _ _ _ hQ => mod_int hQ.1 (pV S hK hQ.2)
noncomputable def oFdiv (x y : XV) (σ : Sto) (Q : XV → Sto → Prop) : Prop := int2 x y fun a b => (b ≠ 0 ∧ b.natAbs < 1073741824) ∧ Q (.v (.int (a.fdiv b))) σ
theorem op_fdiv : Op2 c (binaryOp .FloorDiv) oFdiv := fun _ K _ _ _ s v u _ _ _ S X Y hQ hK => int2_e X Y hQ fun _ _ _ _ hQ => floordiv_int hQ.1.1 (pV S hK hQ.2) (.inl (PyProof.noPylong_small hQ.1.2))
noncomputable def oAnd (x y : XV) (σ : Sto) (Q : XV → Sto → Prop) : Prop := int2 x y fun a b => Q (.v (.int (Builtin.bitAnd a b))) σ
theorem op_and : Op2 c (binaryOp .BitAnd) oAnd := fun _ K _ _ _ s v u _ _ _ S X Y hQ hK => int2_e X Y hQ fun _ _ _ _ hQ => and_int (pV S hK hQ)
noncomputable def oShr (x y : XV) (σ : Sto) (Q : XV → Sto → Prop) : Prop := int2 x y fun a b => 0 ≤ b ∧ Q (.v (.int (a.fdiv (2 ^ b.toNat)))) σ
theorem op_shr : Op2 c (binaryOp .RShift) oShr := fun _ K _ _ _ s v u _ _ _ S X Y hQ hK => int2_e X Y hQ fun _ _ _ _ hQ => rshift_int hQ.1 (pV S hK hQ.2)
noncomputable def oCmp (f : Int → Int → Bool) (x y : XV) (σ : Sto) (Q : XV → Sto → Prop) : Prop := int2 x y fun a b => Q (.v (.bool (f a b))) σ
theorem op_cmp {f : Int → Int → Bool} {op : CmpOp} (h : ∀ {E : Value → Shared → Prop} {K : Value → Shared → Prop} {s : Shared} {a b t u}, K (.bool (f a b)) s → wpAny c.M c.A (compareOp op (.int a t) (.int b u)) K E s) : Op2 c (compareOp op) (oCmp f) :=
 fun _ K _ _ _ s v u _ _ _ S X Y hQ hK => int2_e X Y hQ fun _ _ _ _ hQ => h (kI S hK hQ)
theorem op_lt : Op2 c (compareOp .Lt) (oCmp fun a b => decide (a < b)) := op_cmp lt_int
theorem op_gt : Op2 c (compareOp .Gt) (oCmp fun a b => decide (b < a)) := op_cmp gt_int
theorem op_le : Op2 c (compareOp .LtE) (oCmp fun a b => decide (a ≤ b)) := op_cmp le_int
theorem op_ge : Op2 c (compareOp .GtE) (oCmp fun a b => decide (b ≤ a)) := op_cmp ge_int
noncomputable def dat? (σ : Sto) : XV → Option PyData
 | .v d => some d
 | .own i => match σ[i]? with
  | some (.list xs) => some (.list xs)
  | _ => none
 | _ => none
theorem dat_spec {base : Heap} {C : Addr} {F : Fz} {ρ : Pl} {h : Heap} {σ : Sto} {v : Value} {x : XV} {d : PyData} (S : SRel base C F ρ h σ) (X : XR F ρ v x) (e : dat? σ x = some d) : ∃ as, Reads h v d as := by
 cases X with
 | v X => simp only [dat?, Option.some.injEq] at e; subst e; exact X.reads S.inn
 | @own i p hp =>
  simp only [dat?] at e
  split at e
  ·rename_i ys h2
   cases e
   refine qC fun P kG => ?_
   refine dAEA (S.obj i p _ hp h2) fun q vs hN5 r4 => ?_
   obtain ⟨o, r1, r2, n, r3⟩ := hN5
   obtain ⟨as, r5⟩ := r4.reads S.inn
   refine kG ?_
   clear kG P
   exact ⟨_, by rw [q]; exact Reads.list r1 r2.1 r3 r5⟩
  ·cases e
 | rng => cases e
 | pr => cases e
 | hdr => cases e
noncomputable def oEq (neg : Bool) (x y : XV) (σ : Sto) (Q : XV → Sto → Prop) : Prop :=
 ∃ d e, dat? σ x = some d ∧ dat? σ y = some e ∧ SeqAt.shaped d = true ∧ SeqAt.shaped e = true ∧ Q (.v (.bool (neg != PyData.eqv d e))) σ
theorem op_eq (hu : c.A.units + 64 < cLine) : Op2 c (compareOp .Eq) (oEq false) := by
 intro E K F ρ σ s v u x y Q S X Y hQ hK
 refine qC fun P kG => ?_
 refine dEEAAAA hQ fun d e h1 h2 h3 h4 h5 => ?_
 obtain ⟨_, r1⟩ := dat_spec S X h1
 obtain ⟨_, r2⟩ := dat_spec S Y h2
 refine kG ?_
 clear kG P
 exact SeqAt.compareEq_shaped r1 r2 h3 h4 hu (kI S hK (by simpa using h5))
theorem op_ne (hu : c.A.units + 64 < cLine) : Op2 c (compareOp .NotEq) (oEq true) := by
 intro E K F ρ σ s v u x y Q S X Y hQ hK
 refine qC fun P kG => ?_
 refine dEEAAAA hQ fun d e h1 h2 h3 h4 h5 => ?_
 obtain ⟨_, r1⟩ := dat_spec S X h1
 obtain ⟨_, r2⟩ := dat_spec S Y h2
 refine kG ?_
 clear kG P
 exact SeqAt.compareNe_shaped r1 r2 h3 h4 hu (kI S hK (by simpa using h5))
end
set_option tactic.hygienic false
theorem rmul_bool_str (b : Bool) (x : Str) (t : Tok) : Gives (Builtin.«int.__rmul__» ⟨[.bool b, .str x t], []⟩) (.val (Value.notImplemented)) :=
 .of_wp fun M A E s Q h => by obtain ⟨hp, g, d, tk, os⟩ := s; wp_walk; exact ⟨_, rfl, h⟩
theorem mul_str_true (x : Str) (t : Tok) : Gives (Builtin.«str.__mul__» ⟨[.str x t, .bool true], []⟩) (.val (.str x t)) :=
 .of_wp fun M A E s Q h => by obtain ⟨hp, g, d, tk, os⟩ := s; wp_walk; exact ⟨_, rfl, h⟩
theorem mul_str_false (x : Str) (t : Tok) : Gives (Builtin.«str.__mul__» ⟨[.str x t, .bool false], []⟩) (.str Str.empty) :=
 .of_wp fun M A E s Q h => by obtain ⟨hp, g, d, tk, os⟩ := s; wp_walk; exact ⟨_, rfl, h.2⟩
theorem rmul_bool_list (b : Bool) (l : Addr) (items : Array Value) (n : Nat) (d : Option Addr) (sl : Array (Option Value)) :
  Meets (Builtin.«int.__rmul__» ⟨[.bool b, .ref l], []⟩) (fun _ R s => s.heap.get? l = some { cls := .type "list", dict := d, data := .seq items n, slots := sl } ∧ R (.ok (.ret Value.notImplemented)) s) :=
 .of_wp fun prog w A R s h => by obtain ⟨hp, g, d, tk, os⟩ := s; obtain ⟨hl, h⟩ := h; wp_walk; exact ⟨_, rfl, h⟩
theorem mul_list_bool (b : Bool) (l : Addr) (items : Array Value) (n : Nat) (d : Option Addr) (sl : Array (Option Value)) (hsz : items.size ≤ sizeLine) :
  Meets (Builtin.«list.__mul__» ⟨[.ref l, .bool b], []⟩) (fun _ R s => s.heap.get? l = some { cls := .type "list", dict := d, data := .seq items n, slots := sl } ∧ R (.ok (.ret (Value.ref s.heap.objs.size))) { s with heap := s.heap.push { cls := .type "list", data := .seq (List.foldl (fun x1 x2 => x1 ++ x2) #[] (List.replicate (if items.isEmpty = true then 0 else (if b = true then (1 : Int) else 0).toNat) items)) } }) :=
 .of_wp fun prog w A R s h => by
  obtain ⟨hp, g, d, tk, os⟩ := s; obtain ⟨hl, h⟩ := h
  have hk : (if b = true then (1 : Int) else 0).toNat ≤ 1 := by cases b <;> decide
  have hm : items.size * (if b = true then (1 : Int) else 0).toNat ≤ sizeLine := Nat.le_trans (Nat.mul_le_mul_left _ hk) (by simpa using hsz)
  have hs : sizeLine = 2 ^ 24 := rfl
  have hc2 : ¬ Builtin.List.listTooLong (items.size * (if b = true then (1 : Int) else 0).toNat) = true := by simp [Builtin.List.listTooLong]; exact hm
  have hsz := AutoListH.joined_fits hc2
  have hc0 : ¬(!Builtin.List.listFitsIndex (if b = true then (1 : Int) else 0)) = true := by cases b <;> decide
  have hc1 : ¬ items.size * (if b = true then (1 : Int) else 0).toNat > (2 ^ 63 - 1) / 8 := by lia
  wp_walk; refine wpAny_ite_false (decide_eq_false (Nat.not_lt.mpr hsz)) ?_; wp_walk; exact ⟨_, rfl, h⟩
section
variable {c : Cx}
noncomputable def oMul (x y : XV) (σ : Sto) (Q : XV → Sto → Prop) : Prop :=
 orS y.b? (fun b => orS x.i? (fun a => Q (.v (.int (a * if b = true then (1 : Int) else 0))) σ) <| orS x.s? (fun a => a.length ≤ sizeLine ∧ Q (.v (.str (if b = true then a else Str.empty))) σ) <|
  ∃ xs, lst? σ x = some xs ∧ xs.length ≤ sizeLine ∧ Q (.v (.list (if b = true then xs else []))) σ) <|
 ifS y.i? fun n => orS x.i? (fun a => IntMulOk a n ∧ Q (.v (.int (a * n))) σ) <|
  ∃ xs, lst? σ x = some xs ∧ (0 ≤ n ∧ xs.length * n.toNat ≤ 256 ∧ n < 1000) ∧ Q (.v (.list (List.replicate n.toNat xs).flatten)) σ
theorem VRs.rep {F : Fz} {vs : List Value} {xs : List PyData} (r : VRs F vs xs) : ∀ k, VRs F (List.replicate k vs).flatten (List.replicate k xs).flatten
 | 0 => .nil
 | k + 1 => by
  rw [List.replicate_succ, List.replicate_succ, List.flatten_cons, List.flatten_cons]
  exact r.append (r.rep k)
theorem mul_lb {E : Value → Shared → Prop} {K : Value → Shared → Prop} {F : Fz} {ρ : Pl} {σ : Sto} {s : Shared} {v : Value} {x : XV} {b : Bool} {Q : XV → Sto → Prop} (S : SRel c.base c.C F ρ s.heap σ) (X : XR F ρ v x)
  (hQ : ∃ xs, lst? σ x = some xs ∧ xs.length ≤ sizeLine ∧ Q (.v (.list (if b = true then xs else []))) σ) (hK : Ret c F ρ s Q K) : wpAny c.M c.A (binaryOp .Mult v (.bool b)) K E s := by
 refine lst_e S X hQ fun l vs xs hl r hQ => ?_
 refine qC fun P kG => ?_
 obtain ⟨e2, e3⟩ := hQ
 obtain ⟨dd, n, sl, ho⟩ := isList_obj hl
 refine kG ?_
 clear kG P
 refine wpAny_binaryOp_repeat_ref (T := "list") (U := "bool") (by decide) ⟨_, ho, rfl⟩ (fun _ => rfl) noFill_list_mul PySem.F.fills_bool_mul PySem.F.slot_bool_rmul repeat_list PySem.F.slot_bool_index.lookup
  (call_meets PySem.F.slot_bool_rmul (show s.TypeIs (.bool b) "bool" from rfl) PySem.F.entry_int_rmul (PySem.F.args_int_rmul_2 _ _) (rmul_bool_list b l vs.toArray n dd sl)
   ⟨ho, rfl, ⟨_, ho, rfl⟩, call_meets PySem.F.slot_list_mul ⟨_, ho, rfl⟩ PySem.F.entry_list_mul (PySem.F.args_list_mul_2 _ _) (mul_list_bool b l vs.toArray n dd sl (by simpa [r.length] using e2)) ⟨ho, ?_⟩⟩)
 rw [listMul_foldl_if]
 refine ret_list S hK (Ext.push _ _) ⟨_, Heap.get?_push_size _ rfl, rfl, 0, rfl⟩ (get?_size _) (r.rep _) ?_
 cases b
 ·simpa using e3
 ·simpa using e3
theorem mul_ln {E : Value → Shared → Prop} {K : Value → Shared → Prop} {F : Fz} {ρ : Pl} {σ : Sto} {s : Shared} {v : Value} {x : XV} {n : Int} {u : Tok} {Q : XV → Sto → Prop} (S : SRel c.base c.C F ρ s.heap σ) (X : XR F ρ v x)
  (hQ : ∃ xs, lst? σ x = some xs ∧ (0 ≤ n ∧ xs.length * n.toNat ≤ 256 ∧ n < 1000) ∧ Q (.v (.list (List.replicate n.toNat xs).flatten)) σ) (hK : Ret c F ρ s Q K) : wpAny c.M c.A (binaryOp .Mult v (.int n u)) K E s := by
 refine lst_e S X hQ fun l vs xs hl r hQ => ?_
 refine qC fun P kG => ?_
 obtain ⟨⟨e2, e3, e4⟩, e5⟩ := hQ
 obtain ⟨dd, k, sl, ho⟩ := isList_obj hl
 refine kG ?_
 clear kG P
 have hsz' : vs.toArray.size * n.toNat ≤ 256 := by simpa [r.length] using e3
 have hsz2 : vs.length * n.toNat ≤ 256 := by simpa [r.length] using e3
 refine wpAny_binaryOp_repeat_ref (T := "list") (U := "int") (by decide) ⟨_, ho, rfl⟩ (fun s' => typeIs_int s' n u) noFill_list_mul PySem.F.fills_int_mul PySem.F.slot_int_rmul repeat_list PySem.F.slot_int_index.lookup
  (call_meets PySem.F.slot_int_rmul (typeIs_int s n u) PySem.F.entry_int_rmul (PySem.F.args_int_rmul_2 _ _) (lm_int_rmul_list_any n u l vs.toArray k dd sl)
   ⟨ho, rfl, ⟨_, ho, rfl⟩, call_meets PySem.F.slot_list_mul ⟨_, ho, rfl⟩ PySem.F.entry_list_mul (PySem.F.args_list_mul_2 _ _)
    (lm_list_mul_any l vs.toArray k dd sl n u (by simp [Builtin.List.listFitsIndex]; (clear hQ; lia)) (by lia) (by simp [Builtin.List.listTooLong, sizeLine]; exact Nat.le_trans ‹_› (Nat.le_add_left _ _))) ⟨ho, ?_⟩⟩)
 rw [listMul_foldl_if]
 exact ret_list S hK (Ext.push _ _) ⟨_, Heap.get?_push_size _ rfl, rfl, 0, rfl⟩ (get?_size _) (r.rep _) e5
theorem mul_sb {M : Program} {w : World} {A : Around} {E : Value → Shared → Prop} {Q : Value → Shared → Prop} {s : Shared} {a : Str} {t : Tok} {b : Bool} (hl : a.length ≤ sizeLine)
  (h : ∀ t tk, Q (.str (if b = true then a else Str.empty) t) { s with toks := tk }) : wpAny (model M w) A (binaryOp .Mult (.str a t) (.bool b)) Q E s := by
 refine wpAny_binaryOp_repeat (T := "str") (U := "bool") (by decide) (fun s' => typeIs_str s' a t) (fun _ => rfl) noFill_str_mul PySem.F.fills_bool_mul PySem.F.slot_bool_rmul repeat_str PySem.F.slot_bool_index.lookup
  (call_gives PySem.F.slot_bool_rmul (show s.TypeIs (.bool b) "bool" from rfl) PySem.F.entry_int_rmul (PySem.F.args_int_rmul_2 _ _) (rmul_bool_str b a t) ⟨rfl, ?_⟩)
 cases b
 ·exact call_gives PySem.F.slot_str_mul (typeIs_str s a t) PySem.F.entry_str_mul (PySem.F.args_str_mul_2 _ _) (mul_str_false a t) ⟨by decide, h _ _⟩
 ·exact call_gives PySem.F.slot_str_mul (typeIs_str s a t) PySem.F.entry_str_mul (PySem.F.args_str_mul_2 _ _) (mul_str_true a t) (h _ _)
theorem op_mul : Op2 c (binaryOp .Mult) oMul := by
 intro E K F ρ σ s v u x y Q S X Y hQ hK
 refine Y.cB hQ (fun b hQ => X.cI hQ (fun _ _ hQ => ?_) fun hQ => X.cS hQ (fun _ _ hQ => ?_) fun hQ => ?_) fun hQ => Y.gI hQ fun _ _ hQ => X.cI hQ (fun _ _ hQ => ?_) fun hQ => ?_
 ·exact IntBool.mul_int_bool (pV S hK hQ)
 ·exact mul_sb hQ.1 (fun t tk => ret_str S hK hQ.2)
 ·exact mul_lb S X hQ hK
 ·exact mul_int (pV S hK hQ.2) hQ.1
 ·exact mul_ln S X hQ hK
noncomputable def oIs (neg : Bool) (x y : XV) (σ : Sto) (Q : XV → Sto → Prop) : Prop :=
 orS x.b? (fun a => ifS y.b? fun b => Q (.v (.bool (neg != (a == b)))) σ) <| ifS y.n? fun _ => orS x.n? (fun _ => Q (.v (.bool (neg != true))) σ) <| ifS x.nn? fun _ => Q (.v (.bool (neg != false))) σ
theorem isNot_bool {M : Model} {A : Around} {E : Value → Shared → Prop} {s : Shared} {a b : Bool} {Q : Value → Shared → Prop} (h : Q (.bool (!(a == b))) s) : wpAny M A (compareOp .IsNot (.bool a) (.bool b)) Q E s := by
 show wpAny M A (do return .bool !(← isSame (.bool a) (.bool b))) Q E s
 exact wpAny_bind (wpAny_of_eq (show isSame (.bool a) (.bool b) = pure (a == b) from by cases a <;> cases b <;> rfl) (wpAny_pure h))
theorem op_is : Op2 c (compareOp .Is) (oIs false) := by
 intro E K F ρ σ s v u x y Q S X Y hQ hK
 refine X.cB hQ (fun _ hQ => Y.gB hQ fun _ hQ => is_bool (kI S hK (by simpa using hQ))) fun hQ => Y.gN hQ fun hQ => X.cN hQ (fun hQ => is_none (kI S hK (by simpa using hQ))) fun hQ => X.gNN hQ fun e hQ => is_none (kI S hK ?_)
 rw [e]; exact hQ
theorem op_isnot : Op2 c (compareOp .IsNot) (oIs true) := by
 intro E K F ρ σ s v u x y Q S X Y hQ hK
 refine X.cB hQ (fun _ hQ => Y.gB hQ fun _ hQ => isNot_bool (kI S hK (by simpa using hQ))) fun hQ => Y.gN hQ fun hQ => X.cN hQ (fun hQ => isNot_none (kI S hK (by simpa using hQ))) fun hQ => X.gNN hQ fun e hQ => isNot_none (kI S hK ?_)
 rw [e]; exact hQ
noncomputable def hasStr (y x : Str) : Bool := !(Builtin.Str.occurrences x y 0 x.length 1).isEmpty
noncomputable def oIn (neg : Bool) (x y : XV) (σ : Sto) (Q : XV → Sto → Prop) : Prop := ifS x.s? fun a => ifS y.s? fun b => Q (.v (.bool (neg != hasStr a b))) σ
theorem op_in : Op2 c (compareOp .In) (oIn false) := by
 intro E K F ρ σ s v u x y Q S X Y hQ hK
 exact X.gS hQ fun _ _ hQ => Y.gS hQ fun _ _ hQ => PyProof.Rows.in_str (kI S hK (by simpa [hasStr] using hQ))
theorem op_notin : Op2 c (compareOp .NotIn) (oIn true) := by
 intro E K F ρ σ s v u x y Q S X Y hQ hK
 exact X.gS hQ fun _ _ hQ => Y.gS hQ fun _ _ hQ => PyProof.Rows.notIn_str (kI S hK (by simpa [hasStr] using hQ))
noncomputable def oTru (x : XV) (σ : Sto) (Q : Bool → Sto → Prop) : Prop :=
 orS x.b? (fun b => Q b σ) <| orS x.i? (fun i => Q (i != 0) σ) <| ifS x.s? fun a => a.length < 2 ^ 62 ∧ Q ((a.length : Int) != 0) σ
theorem jT : Tru c oTru := by
 intro E K F ρ σ s v x Q S X hQ hK
 refine X.cB hQ (fun _ hQ => wpAny_truthy_bool (hK _ F ρ σ s.heap s.toks (.refl S) hQ)) fun hQ => X.cI hQ (fun _ _ hQ => PySem.P.truthy_int (hK _ F ρ σ s.heap _ (.refl S) hQ)) fun hQ =>
  X.gS hQ fun _ _ hQ => PySem.P.truthy_str ?_ (hK _ F ρ σ s.heap _ (.refl S) hQ.2)
 have := hQ.1; (clear hQ; lia)
end
noncomputable def oItem (x y : XV) (σ : Sto) (Q : XV → Sto → Prop) : Prop :=
 ifS y.i? fun k => orS x.s? (fun a => ∃ ch, (-1000 ≤ k ∧ k < 2 ^ 30) ∧ (seqIndex? k a.length).bind (a.cps[·]?) = some ch ∧ Q (.v (.str ⟨#[ch]⟩)) σ) <|
  orS x.t? (fun xs => ∃ j d, (-1000 ≤ k ∧ k < 2 ^ 30) ∧ seqIndex? k xs.length = some j ∧ xs[j]? = some d ∧ Q (.v d) σ) <|
  ∃ xs j d, lst? σ x = some xs ∧ (-1000 ≤ k ∧ k < 2 ^ 30) ∧ seqIndex? k xs.length = some j ∧ xs[j]? = some d ∧ Q (.v d) σ
section
variable {c : Cx} {env : Env}
theorem getItem_any {prog : Program} {w : World} {A : Around} {E : Value → Shared → Prop} {s : Shared} {l : Addr} {items : Array Value} {k : Int} {t : Tok} {j : Nat} {x : Value} {Q : Value → Shared → Prop} (hl : s.heap.IsList l items)
  (h0 : -1000 ≤ k) (h1 : k < 2 ^ 30) (hj : seqIndex? k items.size = some j) (hx : items[j]? = some x) (h : Q x s) : wpAny (model prog w) A (getItem (.ref l) (.int k t)) Q E s := by
 unfold seqIndex? at hj
 by_cases hk : k < 0
 ·simp only [hk, if_true] at hj
  split at hj
  ·rename_i hb
   simp only [Bool.and_eq_true, decide_eq_true_eq] at hb
   cases hj
   exact wpAny_getItem_list_neg hl hk (by lia) (by lia) hx h
  ·cases hj
 ·simp only [hk, if_false] at hj
  split at hj
  ·cases hj
   exact wpAny_getItem_list hl (by lia) (by lia) hx h
  ·cases hj
theorem op_item {value slice : Expr} (hs : ∀ o i, ∃ ops, subscripted slice false o i = operate ops (getItem o i)) : Op2 c (subscriptTail value slice) oItem := by
 intro E K F ρ σ s v u x y Q S X Y hQ hK
 refine Y.gI hQ fun k t hQ => ?_
 refine qC fun P kG => ?_
 obtain ⟨ops, ho⟩ := hs v (.int k t)
 refine kG ?_
 clear kG P
 revert ho
 refine X.cS hQ (fun a t hQ ho => ?_) fun hQ => X.cT hQ (fun a o vs n xs e1 e2 e3 r hQ ho => ?_) fun hQ ho => ?_
 ·refine qC fun P kG => ?_
  obtain ⟨ch, ⟨q1, q2⟩, q3, q4⟩ := hQ
  refine kG ?_
  clear kG P
  exact tail_any (typeIs_str s a _) PySem.F.slot_str_getitem.lookup (PySem.P.getItem_str (by rw [decide_eq_false (by lia), decide_eq_false (by lia)]; rfl) q3 (ret_str S hK q4)) ho
 ·refine qC fun P kG => ?_
  obtain ⟨j, d, ⟨q1, q2⟩, q3, q4, q5⟩ := hQ
  obtain ⟨v', r1, r2⟩ := r.get j q4
  refine kG ?_
  clear kG P
  have ht : IsTup s.heap a vs := ⟨o, S.inn _ _ e1, e2, n, e3⟩
  refine tail_any ht.typeIs PySem.F.slot_tuple_getitem.lookup (PyProof.Rows.getItem_tuple ht (by lia) (by lia) (j := j) ?_ (by simpa using r1) (hK _ _ F ρ σ s.heap s.toks (.v r2) (.refl S) q5)) ho
  rw [← Array.length_toList, r.length]; exact q3
 ·refine qC fun P kG => ?_
  obtain ⟨xs, j, d, e1, ⟨q1, q2⟩, q3, q4, q5⟩ := hQ
  obtain ⟨l, vs, rfl, hl, r⟩ := lst_spec S X e1
  obtain ⟨v', r1, r2⟩ := r.get j q4
  refine kG ?_
  clear kG P
  refine tail_any hl.typeIs slot_list_getitem.lookup (getItem_any hl q1 q2 (j := j) ?_ (by simpa using r1) (hK _ _ F ρ σ s.heap s.toks (.v r2) (.refl S) q5)) ho
  rw [List.size_toArray, r.length]; exact q3
theorem pI {value slice : Expr} {pos W1 W2} (h1 : EOK c env (eval value env) W1) (h2 : EOK c env (eval slice env) W2)
  (hs : ∀ o i, ∃ ops, subscripted slice false o i = operate ops (getItem o i) := by intro _ _; exact ⟨_, rfl⟩) :
  EOK c env (eval (.Subscript value slice pos) env) (wBin W1 W2 oItem) := by
 intro E K F ρ η σ s Q R hW hK
 refine Subscript_ (h1 E _ F ρ η σ s _ R hW fun v1 x1 F1 ρ1 σ1 hp1 t1 X1 S1 hW1 => ?_)
 refine h2 E _ F1 ρ1 η σ1 _ _ (R.step S1) hW1 fun v2 x2 F2 ρ2 σ2 hp2 t2 X2 S2 hW2 => ?_
 refine op_item hs E _ F2 ρ2 σ2 _ v1 v2 x1 x2 Q S2.sto (X1.mono S2.evo.le S2.pre) X2 hW2 fun v x F3 ρ3 σ3 h3 t3 X3 S3 hQ => ?_
 exact hK v x F3 ρ3 σ3 h3 t3 X3 ((S1.trans S2).trans S3) hQ
noncomputable abbrev PW := Vars → Sto → (Option Int → Sto → Prop) → Prop
noncomputable def POK (c : Cx) (env : Env) (e : Option Expr) (W : PW) : Prop :=
 ∀ (E : Value → Shared → Prop) (K : Value → Shared → Prop) F ρ η σ (s : Shared) Q, Rel c.base c.C env F ρ s.heap η σ → W η σ Q →
  (∀ v x F' ρ' σ' h' tk', IsPart v x → Step c.base c.C F ρ s.heap F' ρ' h' σ' → Q x σ' → K v { s with heap := h', toks := tk' }) → wpAny c.M c.A (evalPart e env) K E s
theorem pD : POK c env none (fun _ σ Q => Q none σ) :=
 fun _ _ F ρ _ σ s _ R hW hK => wpAny_evalPart_none (hK _ _ F ρ σ s.heap s.toks .none (.refl R.sto) hW)
theorem pK {e : Expr} {W} (h : EOK c env (eval e env) W) : POK c env (some e) (fun η σ Q => W η σ fun x σ1 => match x with | .v (.int i) => Q (some i) σ1 | _ => False) := by
 intro E K F ρ η σ s Q R hW hK
 refine wpAny_evalPart_some (h E _ F ρ η σ s _ R hW fun v x F1 ρ1 σ1 hp1 t1 X1 S1 hW1 => ?_)
 split at hW1
 ·cases X1 with | v X1 => cases X1; exact hK _ _ F1 ρ1 σ1 hp1 t1 (.int _ _) S1 hW1
 ·cases hW1
noncomputable def pickL (xs : List PyData) (lo hi st : Option Int) : List PyData :=
 (sliceRange (sliceBounds lo hi st xs.length).1 (sliceBounds lo hi st xs.length).2.1 (sliceBounds lo hi st xs.length).2.2).filterMap (xs[·]?)
theorem VRs.pick {F : Fz} {vs : List Value} {xs : List PyData} (r : VRs F vs xs) : ∀ is : List Nat, VRs F (is.filterMap (vs[·]?)) (is.filterMap (xs[·]?))
 | [] => .nil
 | i :: is => by
  rw [List.filterMap_cons, List.filterMap_cons]
  cases e : xs[i]? with
  | none =>
   have : vs[i]? = none := by
    rw [List.getElem?_eq_none_iff] at e ⊢; rw [r.length]; exact e
   rw [this]; exact r.pick is
  | some d =>
   refine qC fun P kG => ?_
   obtain ⟨v, e1, e2⟩ := r.get i e
   refine kG ?_
   clear kG P
   rw [e1]; exact .cons e2 (r.pick is)
noncomputable def oSlice (x : XV) (lo hi st : Option Int) (σ : Sto) (Q : XV → Sto → Prop) : Prop :=
 orS x.s? (fun a => st = none ∧ a.length ≤ sizeLine ∧ Q (.v (.str (Txt.slice a lo hi))) σ) <| ∃ xs, lst? σ x = some xs ∧ st ≠ some 0 ∧ xs.length ≤ sizeLine ∧ Q (.v (.list (pickL xs lo hi st))) σ
theorem isPart_slice {v : Value} {x : Option Int} (h : IsPart v x) : ∃ y : Option (Int × Tok), y.map (·.1) = x ∧ v = partValue y := by
 cases h with
 | none => exact ⟨none, rfl, rfl⟩
 | int i t => exact ⟨some (i, t), rfl, rfl⟩
theorem get?_old {h : Heap} {a : Addr} (ha : h.objs.size ≤ a) : h.get? a = none := by
 cases e : h.get? a with
 | none => rfl
 | some o => exact absurd (Heap.lt_size e) (Nat.not_lt.mpr ha)
theorem getItem_strslice {prog : Program} {w : World} {A : Around} {E : Value → Shared → Prop} {s : Shared} {x : Str} {t : Tok} {a : Addr} {l u : Option (Int × Tok)} {Q : Value → Shared → Prop} (hs : s.heap.IsSlice a l u none) (hsz : x.length ≤ sizeLine)
  (h : ∀ t' k, Q (.str (Txt.slice x (l.map (·.1)) (u.map (·.1))) t') { s with toks := k }) : wpAny (model prog w) A (getItem (.str x t) (.ref a)) Q E s := by
 refine wpAny_getItem_str_slice hs (by rfl) ?_
 have hz := Txt.slice_le x (l.map (·.1)) (u.map (·.1))
 unfold Txt.slice at h hz
 unfold sliceMade slicePicked
 exact post_val_or_str ⟨Nat.le_trans hz hsz, h⟩
theorem slice_end {value slice : Expr} {E K : Value → Shared → Prop} {F F' : Fz} {ρ ρ' : Pl} {σ' : Sto} {s : Shared} {h' : Heap} {tk : Nat} {x : XV} {v v2 v3 v4 : Value} {lo hi st : Option Int} {Q : XV → Sto → Prop} {ops : List Value} (X : XR F' ρ' v x) (P2 : IsPart v2 lo) (P3 : IsPart v3 hi) (P4 : IsPart v4 st)
  (S : Step c.base c.C F ρ s.heap F' ρ' h' σ') (hK : Ret c F ρ s Q K) (hQ : oSlice x lo hi st σ' Q) :
  subscripted slice false v (.ref h'.objs.size) = operate ops (getItem v (.ref h'.objs.size)) →
  wpAny c.M c.A (subscriptTail value slice v (.ref h'.objs.size)) K E { s with heap := h'.push { cls := .type "slice", data := .fields #[v2, v3, v4] }, toks := tk } := by
 refine X.cS hQ (fun a t hQ ho => ?_) fun hQ => lst_e S.sto X hQ fun l vs xs hl r hQ ho => ?_
 ·obtain ⟨q1, q2, q3⟩ := hQ
  subst q1
  cases P4
  obtain ⟨l, hl, rfl⟩ := isPart_slice P2
  obtain ⟨u, hu, rfl⟩ := isPart_slice P3
  subst hl hu
  exact tail_any (typeIs_str _ a _) PySem.F.slot_str_getitem.lookup (getItem_strslice (l := l) (u := u) ⟨_, Heap.get?_push_size _ rfl, rfl, rfl⟩ q2 fun t' k => hK _ _ F' ρ' σ' _ k (.v (.str _ t')) (S.trans (.ext0 S.sto (Ext.push _ _))) q3) ho
 ·obtain ⟨q1, q2, q3⟩ := hQ
  refine tail_any (hl.push _).typeIs slot_list_getitem.lookup (wpAny_getItem_list_slice (hl.push _) (Heap.IsSliceOf.new ..) P2 P3 P4 q1 ?_ (by rw [List.size_toArray, r.length]; exact q2)) ho
  refine hK _ (.v (.list (pickL xs lo hi st))) (Fup F' h' _) ρ' σ' _ _ (.v ?_) (S.trans (.ext S.sto ((Ext.push _ _).trans (Ext.push _ _)))) q3
  have r' := (r.pick (sliceRange (sliceBounds lo hi st xs.length).1 (sliceBounds lo hi st xs.length).2.1 (sliceBounds lo hi st xs.length).2.2)).mono (Fup_le (h' := (h'.push { cls := .type "slice", data := .fields #[v2, v3, v4] }).push { cls := .type "list", data := .seq (slicePick vs.toArray lo hi st) }) S.sto.inn)
  refine .list (n := 0) (vs := slicePick vs.toArray lo hi st) (Fup_new (Heap.get?_push_size _ rfl) (get?_old (by rw [Heap.size_push]; exact Nat.le_succ _))) rfl rfl ?_
  have e : (slicePick vs.toArray lo hi st).toList = (sliceRange (sliceBounds lo hi st xs.length).1 (sliceBounds lo hi st xs.length).2.1 (sliceBounds lo hi st xs.length).2.2).filterMap (vs[·]?) := by
   unfold slicePick; simp [r.length]
  rw [e]; exact r'
noncomputable def wSl (W : EW) (WL WU WS : PW) : EW := fun η σ Q => W η σ fun x σ1 => WL η σ1 fun lo σ2 => WU η σ2 fun hi σ3 => WS η σ3 fun st σ4 => oSlice x lo hi st σ4 Q
theorem pU {value : Expr} {lower upper step : Option Expr} {p pos : Pos} {W WL WU WS} (h1 : EOK c env (eval value env) W) (h2 : POK c env lower WL) (h3 : POK c env upper WU) (h4 : POK c env step WS)
  (hs : ∀ o i, ∃ ops, subscripted (.Slice lower upper step p) false o i = operate ops (getItem o i) := by intro _ _; exact ⟨_, rfl⟩) :
  EOK c env (eval (.Subscript value (.Slice lower upper step p) pos) env) (wSl W WL WU WS) := by
 intro E K F ρ η σ s Q R hW hK
 refine Subscript_ (h1 E _ F ρ η σ s _ R hW fun v1 x1 F1 ρ1 σ1 hp1 t1 X1 S1 hW1 => ?_)
 refine wpAny_Slice (h2 E _ F1 ρ1 η σ1 _ _ (R.step S1) hW1 fun v2 lo F2 ρ2 σ2 hp2 t2 P2 S2 hW2 => ?_)
 refine h3 E _ F2 ρ2 η σ2 _ _ (R.step (S1.trans S2)) hW2 fun v3 hi F3 ρ3 σ3 hp3 t3 P3 S3 hW3 => ?_
 refine h4 E _ F3 ρ3 η σ3 _ _ (R.step ((S1.trans S2).trans S3)) hW3 fun v4 st F4 ρ4 σ4 hp4 t4 P4 S4 hW4 => ?_
 have S' := ((S1.trans S2).trans S3).trans S4
 have S34 := (S2.trans S3).trans S4
 have X' := X1.mono S34.evo.le S34.pre
 obtain ⟨ops, ho⟩ := hs v1 (.ref hp4.objs.size)
 exact slice_end (s := s) (h' := hp4) X' P2 P3 P4 S' hK hW4 ho
end
noncomputable def fro (xs : List XV) : Option (List PyData) := match xs with
 | [] => some []
 | .v d :: r => (fro r).map (d :: ·)
 | _ :: _ => none
theorem fro_cons_e {x : XV} {r : List XV} {ds : List PyData} (e : fro (x :: r) = some ds) : ∃ d ds', x = .v d ∧ fro r = some ds' ∧ ds = d :: ds' := by
 cases x with
 | v d => obtain ⟨ds', e1, e2⟩ := Option.map_eq_some_iff.mp (show (fro r).map (d :: ·) = some ds from e); exact ⟨d, ds', rfl, e1, e2.symm⟩
 | _ => cases e
theorem fro_spec {F : Fz} {ρ : Pl} {vs xs} (X : XRs F ρ vs xs) : ∀ {ds}, fro xs = some ds → VRs F vs ds := by
 induction X with
 | nil => intro ds e; cases e; exact .nil
 | cons h _ ih =>
  intro ds e
  obtain ⟨d, ds', rfl, e1, rfl⟩ := fro_cons_e e
  exact .cons h.eV (ih e1)
section
variable {c : Cx} {env : Env}
theorem kM {elts : List Expr} {pos : Pos} {ts : List (Bool × Sem Value)} {W} (ht : backTo pos (starEach elts env) = ts) (hs : EsOK c env ts W) :
  EOK c env (eval (.List elts pos) env) (fun η σ Q => W η σ fun xs σ1 => ∃ ds, fro xs = some ds ∧ ds.length ≤ sizeLine ∧ Q (.own σ1.length) (σ1 ++ [.list ds])) := by
 intro E K F ρ η σ s Q R hW hK
 subst ht
 refine wpAny_List (hs E _ F ρ η σ s _ R hW fun vs xs F1 ρ1 σ1 hp1 t1 X1 S1 hW1 => ?_)
 refine qC fun P kG => ?_
 obtain ⟨ds, e1, e2, e3⟩ := hW1
 refine kG ?_
 clear kG P
 have r := fro_spec X1 e1
 refine ⟨by rw [r.length]; exact e2, ?_⟩
 refine qC fun P kG => ?_
 obtain ⟨S0, e0⟩ := Step.newOwn (p0 := hp1.objs.size) (m0 := .list ds) S1.sto (Ext.push hp1 { cls := .type "list", data := .seq vs.toArray }) (get?_size hp1) ⟨rfl, vs, .of (Heap.get?_push_size _ rfl), r⟩
 refine kG ?_
 clear kG P
 exact hK _ (.own σ1.length) F1 _ _ _ t1 (.own e0) (S1.trans S0) e3
theorem eok_tuple {elts : List Expr} {k : Nat} {pos : Pos} {ts : List (Bool × Sem Value)} {W} (ht : backTo pos (starEach elts env) = ts) (hs : EsOK c env ts W) :
  EOK c env (eval (.Tuple elts k pos) env) (fun η σ Q => W η σ fun xs σ1 => ∃ ds, fro xs = some ds ∧ ds.length ≤ sizeLine ∧ Q (.v (.tuple ds)) σ1) := by
 intro E K F ρ η σ s Q R hW hK
 subst ht
 refine wpAny_Tuple_spliced (hs E _ F ρ η σ s _ R hW fun vs xs F1 ρ1 σ1 hp1 t1 X1 S1 hW1 => ?_)
 refine qC fun P kG => ?_
 obtain ⟨ds, e1, e2, e3⟩ := hW1
 refine kG ?_
 clear kG P
 have r := fro_spec X1 e1
 refine ⟨by rw [r.length]; exact e2, ?_⟩
 refine hK _ (.v (.tuple ds)) (Fup F1 hp1 _) ρ1 σ1 _ t1 (.v (.tuple (Fup_new (Heap.get?_push_size _ rfl) (get?_size _)) rfl (n := 0) (vs := vs.toArray) rfl ?_)) (S1.trans (.ext S1.sto (Ext.push _ _))) e3
 exact (r.mono (Fup_le S1.sto.inn))
structure Gl (c : Cx) (mg : Str → Option Value) : Prop where
 g : c.base.Ns mainGlobals mg
 b : ∃ mb, c.base.Ns builtinsNs mb ∧ ∀ x : Str, x ≠ "__name__" → mb x = bootBuiltins x
 lim : c.base.NoLimit
theorem SRel.old {base : Heap} {C : Addr} {F : Fz} {ρ : Pl} {h : Heap} {σ : Sto} (S : SRel base C F ρ h σ) : ∀ b o, base.get? b = some o → h.get? b = some o := fun b o e => S.inn b o (S.base b o e)
theorem vF {mg : Str → Option Value} (G : Gl c mg) {x : Str} {pos : Pos} {v : Value} {F : Fz} {ρ : Pl} {η : Vars} {σ : Sto} {s : Shared} {E : Value → Shared → Prop} {K : Value → Shared → Prop} (R : Rel c.base c.C env F ρ s.heap η σ)
  (hk : env.kindOf x = some .globalImplicit) (hv : mg x = some v) (hd : (x == ("__debug__" : Str)) = false) (h : K v s) : wpAny c.M c.A (eval (.Name x pos) env) K E s :=
 Name_function_global R.kind hk (loadGlobal_global (mg := mg) (by rw [R.glob]; exact G.g.keeps R.sto.old) hv h) hd
theorem kW {mg : Str → Option Value} (G : Gl c mg) {x : Str} {pos : Pos} {v : Value} {F : Fz} {ρ : Pl} {η : Vars} {σ : Sto} {s : Shared} {E : Value → Shared → Prop} {K : Value → Shared → Prop} (R : Rel c.base c.C env F ρ s.heap η σ)
  (hk : env.kindOf x = some .globalImplicit) (hm : mg x = none) (hv : bootBuiltins x = some v) (hn : x ≠ "__name__") (hd : (x == ("__debug__" : Str)) = false) (h : K v s) : wpAny c.M c.A (eval (.Name x pos) env) K E s := by
 refine qC fun P kG => ?_
 obtain ⟨mb, hb, hbb⟩ := G.b
 refine kG ?_
 clear kG P
 exact Name_function_global R.kind hk (loadGlobal_builtin (mg := mg) (mb := mb) (by rw [R.glob]; exact G.g.keeps R.sto.old) hm (by rw [R.blt]; exact hb.keeps R.sto.old) ((hbb x hn).trans hv) h) hd
noncomputable def allPlain (ts : List (Bool × Sem Value)) : Prop := ts.any (·.1) = false
theorem kJ {M : Model} {A : Around} {E : Value → Shared → Prop} {s : Shared} {f : Value} {t : Sem Value} {ts : List (Bool × Sem Value)} {Q : Args → Shared → Prop}
  (h : wpAny M A (spliced ((false, t) :: ts)) (fun vs s' => Q ⟨vs, []⟩ s') E s) : wpAny M A (evalArgs f true ((false, t) :: ts) []) Q E s := evalArgs_plain h
theorem pR {mg : Str → Option Value} (G : Gl c mg) {f : Str} {p pos : Pos} {args : List Expr} {t : Sem Value} {ts : List (Bool × Sem Value)} {id : String} {W O} (hk : env.kindOf f = some .globalImplicit) (hm : mg f = none)
  (hb : bootBuiltins f = some (.builtin id)) (hn : f ≠ "__name__") (hd : (f == ("__debug__" : Str)) = false) (ht : backTo pos (starEach args env) = (false, t) :: ts) (hp : ts.any (·.1) = false)
  (hs : EsOK c env ((false, t) :: ts) W) (ho : OpN c (fun vs => call (.builtin id) vs) O) : EOK c env (eval (.Call (.Name f p) args [] pos) env) (fun η σ Q => W η σ fun xs σ1 => O xs σ1 Q) := by
 intro E K F ρ η σ s Q R hW hK
 refine wpAny_Call_NameR (kW G R hk hm hb hn hd ?_)
 rw [ht]
 refine callWith_builtin (by rw [List.any_cons, hp]; rfl) (kJ (hs E _ F ρ η σ s _ R hW fun vs xs F1 ρ1 σ1 hp1 t1 X1 S1 hW1 => ?_))
 exact ho E _ F1 ρ1 σ1 _ vs xs Q S1.sto X1 hW1 fun v x F2 ρ2 σ2 h2 t2 X2 S2 hQ => hK v x F2 ρ2 σ2 h2 t2 X2 (S1.trans S2) hQ
theorem kX {mg : Str → Option Value} (G : Gl c mg) {f : Str} {p pos : Pos} {args : List Expr} {t : Sem Value} {ts : List (Bool × Sem Value)} {T : String} {W O} (hk : env.kindOf f = some .globalImplicit) (hm : mg f = none)
  (hb : bootBuiltins f = some (.type T)) (hn : f ≠ "__name__") (hd : (f == ("__debug__" : Str)) = false) (ht : backTo pos (starEach args env) = (false, t) :: ts) (hp : ts.any (·.1) = false)
  (hs : EsOK c env ((false, t) :: ts) W) (ho : OpN c (fun vs => call (.type T) vs) O) : EOK c env (eval (.Call (.Name f p) args [] pos) env) (fun η σ Q => W η σ fun xs σ1 => O xs σ1 Q) := by
 intro E K F ρ η σ s Q R hW hK
 refine wpAny_Call_NameR (kW G R hk hm hb hn hd ?_)
 rw [ht]
 refine PyProof.Rows.callWith_type (by rw [List.any_cons, hp]; rfl) (kJ (hs E _ F ρ η σ s _ R hW fun vs xs F1 ρ1 σ1 hp1 t1 X1 S1 hW1 => ?_))
 exact ho E _ F1 ρ1 σ1 _ vs xs Q S1.sto X1 hW1 fun v x F2 ρ2 σ2 h2 t2 X2 S2 hQ => hK v x F2 ρ2 σ2 h2 t2 X2 (S1.trans S2) hQ
theorem pZ : bootBuiltins "len" = some (.builtin "len") := by decide +kernel
theorem boot_sum : bootBuiltins "sum" = some (.builtin "sum") := by decide +kernel
theorem boot_min : bootBuiltins "min" = some (.builtin "min") := by decide +kernel
theorem boot_chr : bootBuiltins "chr" = some (.builtin "chr") := by decide +kernel
theorem boot_ord : bootBuiltins "ord" = some (.builtin "ord") := by decide +kernel
theorem boot_list : bootBuiltins "list" = some (.type "list") := by decide +kernel
theorem vJ : bootBuiltins "range" = some (.type "range") := by decide +kernel
noncomputable def oLen (xs : List XV) (σ : Sto) (Q : XV → Sto → Prop) : Prop :=
 ar1 xs fun x => orS x.s? (fun a => a.length < 2 ^ 62 ∧ Q (.v (.int a.length)) σ) <| ∃ xs, lst? σ x = some xs ∧ xs.length < 2 ^ 62 ∧ Q (.v (.int xs.length)) σ
theorem kA : OpN c (fun vs => call (.builtin "len") vs) oLen := by
 intro E K F ρ σ s vs xs Q S X hQ hK
 refine X.g1 hQ fun v x X hQ => X.cS hQ (fun _ _ hQ => PySem.P.len_str (by have := hQ.1; (clear hQ; exact (fun q0 => (jY [_] (.i 1 (.n 9223372036854775808) (.c (.v 0)) (.c 1 (.a (.v 0) (.n 1)) (.n 4611686018427387904) .z)) rfl q0 this)))) (pV S hK hQ.2)) fun hQ => lst_e S X hQ fun a vs xs hl r hQ => ?_
 refine Calls.call_len_list hl (by rw [List.size_toArray, r.length]; exact (jO [_] 1 (.a (.c (.v 0)) (.n 1)) (.n 9223372036854775808) (.c 1 (.a (.v 0) (.n 1)) (.n 4611686018427387904) .z) rfl (And.left hQ))) ?_
 rw [List.size_toArray, r.length]
 exact pV S hK hQ.2
noncomputable def intsOf (xs : List PyData) : Option (List Int) := match xs with
 | [] => some []
 | .int i :: r => (intsOf r).map (i :: ·)
 | _ :: _ => none
theorem intsOf_cons_e {x : PyData} {r : List PyData} {ns : List Int} (e : intsOf (x :: r) = some ns) : ∃ i ns', x = .int i ∧ intsOf r = some ns' ∧ ns = i :: ns' := by
 cases x with
 | int i => obtain ⟨ds', e1, e2⟩ := Option.map_eq_some_iff.mp (show (intsOf r).map (i :: ·) = some ns from e); exact ⟨i, ds', rfl, e1, e2.symm⟩
 | _ => cases e
theorem intsOf_spec {F : Fz} : ∀ {vs xs ns}, VRs F vs xs → intsOf xs = some ns → ∃ its : List (Int × Tok), vs = its.map (fun p => Value.int p.1 p.2) ∧ its.map (·.1) = ns
 | [], _, _, X, e => by cases X; cases e; exact ⟨[], rfl, rfl⟩
 | _ :: vs, [], _, X, _ => nomatch X
 | _ :: vs, x :: xs, ns, X, e => by
  refine qC fun P kG => ?_
  obtain ⟨i, ns', rfl, e1, rfl⟩ := intsOf_cons_e e
  obtain ⟨h, r⟩ := X.uncons
  obtain ⟨its, h1, h2⟩ := intsOf_spec r e1
  refine kG ?_
  clear kG P
  exact h.eI (G := fun v => ∃ its : List (Int × Tok), v :: vs = its.map (fun p => Value.int p.1 p.2) ∧ its.map (·.1) = i :: ns') fun t => ⟨(i, t) :: its, by rw [h1]; rfl, by rw [← h2]; rfl⟩
theorem intsOf_map : ∀ ns : List Int, intsOf (ns.map .int) = some ns
 | [] => rfl
 | n :: r => by simp [intsOf, intsOf_map r]
noncomputable def oSum (xs : List XV) (σ : Sto) (Q : XV → Sto → Prop) : Prop := ar1 xs fun x => ∃ xs ns, lst? σ x = some xs ∧ intsOf xs = some ns ∧ Q (.v (.int ns.sum)) σ
@[elab_as_elim] theorem ints_e {F : Fz} {ρ : Pl} {h : Heap} {σ : Sto} {v : Value} {x : XV} (S : SRel c.base c.C F ρ h σ) (X : XR F ρ v x) {P : List Int → Prop} (hx : ∃ xs ns, lst? σ x = some xs ∧ intsOf xs = some ns ∧ P ns) {G : Value → Prop}
  (k : ∀ a (its : List (Int × Tok)), h.IsList a (intItems its.toArray) → P (its.map (·.1)) → G (.ref a)) : G v := by
 obtain ⟨xs, ns, e1, e2, e3⟩ := hx
 obtain ⟨l, vs, rfl, hl, r⟩ := lst_spec S X e1
 obtain ⟨its, rfl, rfl⟩ := intsOf_spec r e2
 refine k l its ?_ e3
 rw [show intItems its.toArray = (its.map fun p => Value.int p.1 p.2).toArray by unfold intItems; simp]; exact hl
theorem op_sum (hh : c.A.handled = none) : OpN c (fun vs => call (.builtin "sum") vs) oSum := by
 intro E K F ρ σ s vs xs Q S X hQ hK
 refine X.g1 hQ fun v x X hQ => ints_e S X hQ fun l its hl hQ => sum_intListG hh hl fun h' tk t' hk => hK _ (.v (.int (its.map (·.1)).sum)) F ρ σ h' tk ?_ (.ext0 S hk) hQ
 rw [preSum_eq, List.take_of_length_le (by simp)]
 simpa using XR.v (VR.int _ t')
noncomputable def oMin (xs : List XV) (σ : Sto) (Q : XV → Sto → Prop) : Prop :=
 ar1 xs fun x => ∃ xs ns, lst? σ x = some xs ∧ intsOf xs = some ns ∧ ns ≠ [] ∧ ∀ m, m ∈ ns → (∀ a, a ∈ ns → m ≤ a) → Q (.v (.int m)) σ
theorem op_min (hh : c.A.handled = none) : OpN c (fun vs => call (.builtin "min") vs) oMin := by
 intro E K F ρ σ s vs xs Q S X hQ hK
 refine X.g1 hQ fun v x X hQ => ints_e S X hQ fun l its hl hQ => ?_
 have hpos : 0 < its.toArray.size := by
  cases its with
  | nil => exact absurd rfl hQ.1
  | cons => simp
 refine min_intList hh hl hpos fun v h' tk hv hk => ?_
 obtain ⟨t, rfl⟩ := intItems_at hv
 obtain ⟨h1, h2⟩ := argBest_lt (numAt its.toArray) (its.toArray.size - 1)
 have hsz : its.toArray.size = its.length := by simp
 refine hK _ (.v (.int (numAt its.toArray (argBest _ (its.toArray.size - 1))))) F ρ σ h' tk (.v (.int _ t)) (.ext0 S hk) (hQ.2 _ ?_ fun a ha => ?_)
 ·rw [numAt_eq]; exact getD_mem (by rw [List.length_map]; exact (qA [_,_,_,_] 1 (.a (.v 0) (.n 1)) (.v 1) (.c 1 (.a (.v 2) (.n 1)) (.v 3) (.c 1 (.v 3) (.v 1) (.c 1 (.v 0) (.v 2) .z))) rfl (jL (qA [_] 1 (.n 1) (.v 0) (.c 1 (.a (.n 0) (.n 1)) (.v 0) .z) rfl hpos)) (uJ hsz) h1))
 ·obtain ⟨j, hj, rfl⟩ := mem_getD ha
  have hj' : j < its.length := by simpa using hj
  have := h2 j (by exact (qA [_,_,_,_] 1 (.v 0) (.v 1) (.c 1 (.v 2) (.a (.v 1) (.n 1)) (.c 1 (.a (.v 0) (.n 1)) (.v 3) (.c 1 (.v 3) (.v 2) .z))) rfl (jV _ _) hj' (uJ (Eq.symm hsz))))
  have e3 : numAt its.toArray j = (its.map (·.1)).getD j 0 := by rw [numAt_eq]
  rw [← e3]; exact this
noncomputable def oChr (xs : List XV) (σ : Sto) (Q : XV → Sto → Prop) : Prop := ar1 xs fun x => ifS x.i? fun i => (0 ≤ i ∧ i < 1000) ∧ Q (.v (.str ⟨#[i.toNat]⟩)) σ
theorem op_chr : OpN c (fun vs => call (.builtin "chr") vs) oChr := by
 intro E K F ρ σ s vs xs Q S X hQ hK
 exact X.g1 hQ fun v x X hQ => X.gI hQ fun _ _ hQ => PySem.P.chr_of_int (by rw [decide_eq_false (by lia), decide_eq_false (by lia)]; rfl) (ret_str S hK hQ.2)
noncomputable def chr1? (x : Str) : Option Nat := match x with | ⟨⟨[n]⟩⟩ => some n | _ => none
noncomputable def oOrd (xs : List XV) (σ : Sto) (Q : XV → Sto → Prop) : Prop := ar1 xs fun x => ifS x.s? fun a => ifS (chr1? a) fun n => Q (.v (.int n)) σ
theorem chr1_e {a : Str} {P : Nat → Prop} (h : ifS (chr1? a) P) : ∃ n : Nat, a = ⟨⟨[n]⟩⟩ ∧ P n := by
 obtain ⟨⟨l⟩⟩ := a
 match l, h with
 | [n], h => exact ⟨n, rfl, h⟩
theorem op_ord : OpN c (fun vs => call (.builtin "ord") vs) oOrd := by
 intro E K F ρ σ s vs xs Q S X hQ hK
 refine X.g1 hQ fun v x X hQ => X.gS hQ fun a _ hQ => ?_
 obtain ⟨n, rfl, hQ⟩ := chr1_e hQ
 exact PySem.P.ord_of_char (pV S hK hQ)
noncomputable def arR (xs : List XV) (Q1 : XV → Prop) (Q2 : XV → XV → Prop) (Q3 : XV → XV → XV → Prop) : Prop := match xs with | [x] => Q1 x | [x, y] => Q2 x y | [x, y, z] => Q3 x y z | _ => False
@[elab_as_elim] theorem arR_e {F : Fz} {ρ : Pl} {vs : List Value} {xs : List XV} (X : XRs F ρ vs xs) {Q1 Q2 Q3} (h : arR xs Q1 Q2 Q3) {G : List Value → Prop} (k1 : ∀ v x, XR F ρ v x → Q1 x → G [v]) (k2 : ∀ v u x y, XR F ρ v x → XR F ρ u y → Q2 x y → G [v, u])
  (k3 : ∀ v u w x y z, XR F ρ v x → XR F ρ u y → XR F ρ w z → Q3 x y z → G [v, u, w]) : G vs :=
 match xs, X, h with
 | [x], X, h => X.l1 fun v X => k1 v x X h
 | [x, y], X, h => X.l2 fun v u X Y => k2 v u x y X Y h
 | [x, y, z], X, h => X.l3 fun v u w X Y Z => k3 v u w x y z X Y Z h
noncomputable def oRange (xs : List XV) (σ : Sto) (Q : XV → Sto → Prop) : Prop :=
 arR xs (fun x => ifS x.i? fun n => Q (.rng 0 n 1) σ) (fun x y => int2 x y fun a b => Q (.rng a b 1) σ) fun x y z => int2 x y fun a b => ifS z.i? fun k => (k ≠ 0 ∧ k.natAbs < 1000) ∧ Q (.rng a b k) σ
theorem op_range : OpN c (fun vs => call (.type "range") vs) oRange := by
 intro E K F ρ σ s vs xs Q S X hQ hK
 have key : ∀ (a b k : Int) (t u v : Tok) (tk : Nat), Q (.rng a b k) σ → K (.ref s.heap.objs.size) { s with heap := s.heap.push { cls := .type "range", data := .fields #[.int a t, .int b u, .int k v] }, toks := tk } := fun a b k t u v tk q =>
  hK _ (.rng a b k) (Fup F s.heap _) ρ σ _ tk (.rng (t := t) (u := u) (v := v) (Fup_new (Heap.get?_push_size _ rfl) (get?_size _))) (.ext S (Ext.push _ _)) q
 refine arR_e X hQ (fun v x X hQ => X.gI hQ fun _ _ hQ => call_range_1 (key _ _ _ _ _ _ _ hQ)) (fun v u x y X Y hQ => X.gI hQ fun _ _ hQ => Y.gI hQ fun _ _ hQ => call_range_2 (key _ _ _ _ _ _ _ hQ)) fun v u w x y z X Y Z hQ =>
  X.gI hQ fun _ _ hQ => Y.gI hQ fun _ _ hQ => Z.gI hQ fun _ _ hQ => call_range_3 hQ.1.1 (key _ _ _ _ _ _ _ hQ.2) (.inl (PyProof.noPylong_small ?_))
 have := hQ.1.2; exact Nat.le_trans ‹_› (Nat.le_add_left _ _)
end
section
variable {c : Cx} {env : Env}
theorem kN {o : Expr} {name : Str} {apos pos : Pos} {args : List Expr} {ts : List (Bool × Sem Value)} {pl : Sem Bool} {id : String} {W Ws O}
  (hg : ∀ {M : Model} {A : Around} {E : Value → Shared → Prop} {s : Shared} {x : Str} {t : Tok} {pl : Sem Bool} {Q : Value × List Value → Shared → Prop}, Q (.builtin id, [.str x t]) s → wpAny M A (getMethod (.str x t) name pl) Q E s)
  (ht : backTo pos (starEach args env) = ts) (h1 : EOK c env (eval o env) W) (hs : EsOK c env ts Ws) (ho : OpN c (fun vs => call (.builtin id) vs) O) (hp : ts.any (·.1) = false := by rfl)
  (he : eval (.Call (.Attribute o name apos) args [] pos) env = (do
   let ov ← eval o env
   standAt apos.atName
   let (f, first) ← holding [ov] (getMethod ov name pl)
   callWith pos f first (backTo pos (starEach args env)) []) := by rfl) :
  EOK c env (eval (.Call (.Attribute o name apos) args [] pos) env) (fun η σ Q => W η σ fun x σ1 => ∃ a, x = .v (.str a) ∧ Ws η σ1 fun xs σ2 => O (x :: xs) σ2 Q) := by
 intro E K F ρ η σ s Q R hW hK
 refine MethodCall_ (h1 E _ F ρ η σ s _ R hW fun v1 x1 F1 ρ1 σ1 hp1 t1 X1 S1 hW1 => ?_) he
 refine dEA hW1 fun a hR1 hW2 => ?_
 subst hR1
 revert S1
 refine X1.eS fun tk0 S1 => hg ?_
 rw [ht]
 refine callWith_builtin hp ?_
 have key : wpAny c.M c.A (spliced ts) (fun vs s' => wpAny c.M c.A (call (.builtin id) ([.str a tk0] ++ vs) []) K E s') E { s with heap := hp1, toks := t1 } :=
  hs E _ F1 ρ1 η σ1 _ _ (R.step S1) hW2 fun vs xs F2 ρ2 σ2 hp2 t2 X2 S2 hW3 =>
   ho E _ F2 ρ2 σ2 _ _ _ Q S2.sto (.cons (.v (.str a tk0)) X2) hW3 fun v x F3 ρ3 σ3 h3 t3 X3 S3 hQ => hK v x F3 ρ3 σ3 h3 t3 X3 ((S1.trans S2).trans S3) hQ
 revert key
 match ts, hp with
 | [], _ => exact fun key => evalArgs_nil3 (fun Γ p hΓ => key Γ p hΓ Γ p hΓ)
 | (false, t) :: r, _ => exact fun key => kJ key
noncomputable def oStr1 (f : Str → PyData) (ok : Str → Prop) (xs : List XV) (σ : Sto) (Q : XV → Sto → Prop) : Prop := ar1 xs fun x => ifS x.s? fun a => ok a ∧ Q (.v (f a)) σ
theorem tooLong_of {n : Nat} (h : n ≤ sizeLine) : Builtin.Str.tooLong n = false := by
 have : ¬ n > 2 ^ 24 := by rw [sizeLine_eq] at h; exact (fun q0 => (jY [_] (.c 1 (.a (.n 16777216) (.n 1)) (.v 0) (.c 1 (.v 0) (.n 16777216) .z)) rfl q0 h))
 simpa [Builtin.Str.tooLong, sizeLine] using this
theorem op_upper : OpN c (fun vs => call (.builtin "str.upper") vs) (oStr1 (fun a => .str (Txt.upper a)) fun a => (Txt.upper a).length ≤ sizeLine) := by
 intro E K F ρ σ s vs xs Q S X hQ hK
 exact X.g1 hQ fun _ _ X hQ => X.gS hQ fun _ _ hQ => SC.upper (tooLong_of hQ.1) (ret_str S hK hQ.2)
theorem op_lower : OpN c (fun vs => call (.builtin "str.lower") vs) (oStr1 (fun a => .str (Txt.lower a)) fun a => (Txt.lower a).length ≤ sizeLine) := by
 intro E K F ρ σ s vs xs Q S X hQ hK
 exact X.g1 hQ fun _ _ X hQ => X.gS hQ fun _ _ hQ => SC.lower (tooLong_of hQ.1) (ret_str S hK hQ.2)
theorem op_swapcase : OpN c (fun vs => call (.builtin "str.swapcase") vs) (oStr1 (fun a => .str (Txt.swapcase a)) fun a => (Txt.swapcase a).length ≤ sizeLine) := by
 intro E K F ρ σ s vs xs Q S X hQ hK
 exact X.g1 hQ fun _ _ X hQ => X.gS hQ fun _ _ hQ => SC.swapcase (tooLong_of hQ.1) (ret_str S hK hQ.2)
noncomputable abbrev str2 (xs : List XV) (P : Str → Str → Prop) : Prop := ar2 xs fun x y => ifS x.s? fun a => ifS y.s? fun b => P a b
@[elab_as_elim] theorem str2_e {F : Fz} {ρ : Pl} {vs : List Value} {xs : List XV} (X : XRs F ρ vs xs) {P : Str → Str → Prop} (h : str2 xs P) {G : List Value → Prop} (k : ∀ a t b u, P a b → G [.str a t, .str b u]) : G vs :=
 X.g2 h fun v u x y X Y h => X.gS (G := fun v => G [v, u]) h fun a t h => Y.gS (G := fun u => G [.str a t, u]) h fun b u h => k a t b u h
noncomputable def oStr2 (f : Str → Str → PyData) (xs : List XV) (σ : Sto) (Q : XV → Sto → Prop) : Prop := str2 xs fun a b => Q (.v (f a b)) σ
theorem op_startswith : OpN c (fun vs => call (.builtin "str.startswith") vs) (oStr2 fun a b => .bool (Txt.startswith a b)) := by
 intro E K F ρ σ s vs xs Q S X hQ hK
 exact str2_e X hQ fun _ _ _ _ hQ => SC.startswith (kI S hK hQ)
theorem op_endswith : OpN c (fun vs => call (.builtin "str.endswith") vs) (oStr2 fun a b => .bool (Txt.endswith a b)) := by
 intro E K F ρ σ s vs xs Q S X hQ hK
 exact str2_e X hQ fun _ _ _ _ hQ => SC.endswith (kI S hK hQ)
noncomputable def findIn (x y : Str) (lo hi : Nat) : Int := match Builtin.Str.occurrences x y lo hi 1 with | i :: _ => (i : Int) | [] => -1
theorem gives_find4 (x y : Str) (i j : Nat) (t u v w : Tok) (hj : j ≤ x.length) : Gives (Builtin.«str.find» ⟨[.str x t, .str y u, .int i v, .int j w], []⟩) (.int (findIn x y i j)) := by
 show Gives (match Builtin.Str.occurrences x y (fromIndex x.length (i : Int)) (min (fromIndex x.length (j : Int)) x.length) 1 with | k :: _ => retInt k | [] => (do rule "str.find.not-found"; retInt (-1))) _
 have e1 : ∀ n : Nat, fromIndex x.length (n : Int) = n := fun n => by unfold fromIndex; rw [if_neg (by simp)]; exact Int.natAbs_natCast _
 rw [e1, e1, Nat.min_eq_left hj]
 unfold findIn
 cases Builtin.Str.occurrences x y i j 1 with
 | nil => exact .rule (.of_eq rfl)
 | cons k _ => exact .of_eq rfl
noncomputable def ar24 (xs : List XV) (Q2 : XV → XV → Prop) (Q4 : XV → XV → XV → XV → Prop) : Prop := match xs with | [x, y] => Q2 x y | [x, y, z, u] => Q4 x y z u | _ => False
@[elab_as_elim] theorem ar24_e {F : Fz} {ρ : Pl} {vs : List Value} {xs : List XV} (X : XRs F ρ vs xs) {Q2 Q4} (h : ar24 xs Q2 Q4) {G : List Value → Prop} (k2 : ∀ v u x y, XR F ρ v x → XR F ρ u y → Q2 x y → G [v, u])
  (k4 : ∀ v u w q x y z t, XR F ρ v x → XR F ρ u y → XR F ρ w z → XR F ρ q t → Q4 x y z t → G [v, u, w, q]) : G vs :=
 match xs, X, h with
 | [x, y], X, h => X.l2 fun v u X Y => k2 v u x y X Y h
 | [x, y, z, t], X, h => X.l4 fun v u w q X Y Z T => k4 v u w q x y z t X Y Z T h
noncomputable def oFind (xs : List XV) (σ : Sto) (Q : XV → Sto → Prop) : Prop :=
 ar24 xs (fun x y => ifS x.s? fun a => ifS y.s? fun b => Q (.v (.int (findIn a b 0 a.length))) σ) fun x y z u =>
  ifS x.s? fun a => ifS y.s? fun b => ifS z.i? fun i => ifS u.i? fun j => (0 ≤ i ∧ 0 ≤ j ∧ j ≤ a.length) ∧ Q (.v (.int (findIn a b i.toNat j.toNat))) σ
theorem op_find : OpN c (fun vs => call (.builtin "str.find") vs) oFind := by
 intro E K F ρ σ s vs xs Q S X hQ hK
 refine ar24_e X hQ (fun v u x y X Y hQ => X.gS hQ fun _ _ hQ => Y.gS hQ fun _ _ hQ => SC.find (pV S hK hQ)) fun v u w q x y z t X Y Z T hQ => X.gS hQ fun a _ hQ => Y.gS hQ fun b _ hQ => Z.gI hQ fun i _ hQ => T.gI hQ fun j _ hQ => ?_
 obtain ⟨⟨h1, h2, h3⟩, hQ⟩ := hQ
 obtain ⟨i, rfl⟩ := Int.eq_ofNat_of_zero_le h1
 obtain ⟨j, rfl⟩ := Int.eq_ofNat_of_zero_le h2
 exact call_gives PySem.F.slot_str_find (typeIs_str s a _) PySem.F.entry_str_find rfl (gives_find4 a b i j _ _ _ _ (by exact Int.ofNat_le.mp ‹_›)) (pV S hK hQ)
noncomputable def strsOf (xs : List PyData) : Option (List Str) := match xs with
 | [] => some []
 | .str i :: r => (strsOf r).map (i :: ·)
 | _ :: _ => none
theorem strsOf_cons_e {x : PyData} {r : List PyData} {ns : List Str} (e : strsOf (x :: r) = some ns) : ∃ i ns', x = .str i ∧ strsOf r = some ns' ∧ ns = i :: ns' := by
 cases x with
 | str i => obtain ⟨ds', e1, e2⟩ := Option.map_eq_some_iff.mp (show (strsOf r).map (i :: ·) = some ns from e); exact ⟨i, ds', rfl, e1, e2.symm⟩
 | _ => cases e
theorem strsOf_spec {F : Fz} : ∀ {vs xs ns}, VRs F vs xs → strsOf xs = some ns → ∃ its : List (Str × Tok), vs = strValues its ∧ its.map (·.1) = ns
 | [], _, _, X, e => by cases X; cases e; exact ⟨[], rfl, rfl⟩
 | _ :: vs, [], _, X, _ => nomatch X
 | _ :: vs, x :: xs, ns, X, e => by
  refine dEEAA (strsOf_cons_e e) fun i ns' hR2 e1 hR3 => ?_
  subst hR2
  subst hR3
  obtain ⟨h, r⟩ := X.uncons
  refine dEA (strsOf_spec r e1) fun its h1 h2 => ?_
  exact h.eS (G := fun v => ∃ its : List (Str × Tok), v :: vs = strValues its ∧ its.map (·.1) = i :: ns') fun t => ⟨(i, t) :: its, by rw [h1]; rfl, by rw [← h2]; rfl⟩
theorem strsOf_map : ∀ ns : List Str, strsOf (ns.map .str) = some ns
 | [] => rfl
 | n :: r => by simp [strsOf, strsOf_map r]
theorem strsVR {F : Fz} : ∀ its : List (Str × Tok), VRs F (strValues its) ((its.map (·.1)).map .str)
 | [] => .nil
 | (i, t) :: r => .cons (.str i t) (strsVR r)
noncomputable def oJoin (xs : List XV) (σ : Sto) (Q : XV → Sto → Prop) : Prop :=
 ar2 xs fun x y => ifS x.s? fun a => ∃ xs ys, lst? σ y = some xs ∧ strsOf xs = some ys ∧ JoinOk a ys = true ∧ Q (.v (.str (Txt.join a ys))) σ
theorem op_join : OpN c (fun vs => call (.builtin "str.join") vs) oJoin := by
 intro E K F ρ σ s vs xs Q S X hQ hK
 refine X.g2 hQ fun v u x y X Y hQ => X.gS hQ fun a t hQ => ?_
 refine qC fun P kG => ?_
 refine dEEAAA hQ fun xs ys e1 e2 e3 e4 => ?_
 refine dEEAA (lst_spec S Y e1) fun l vs hR4 hl r => ?_
 refine dEA (strsOf_spec r e2) fun its hR5 h2 => ?_
 refine kG ?_
 clear kG P
 subst hR4
 subst hR5
 exact SC.join hl h2 e3 fun t' k => ret_str S hK e4
theorem ret_own {F : Fz} {ρ : Pl} {σ : Sto} {s : Shared} {Q : XV → Sto → Prop} {K : Value → Shared → Prop} (S : SRel c.base c.C F ρ s.heap σ) (hK : Ret c F ρ s Q K) {h' : Heap} {tk : Nat} {a : Addr} {vs : List Value} {xs : List PyData}
  (x : Ext s.heap h') (hl : LstAt h' a vs.toArray) (ha : s.heap.get? a = none) (r : VRs F vs xs) (hQ : Q (.own σ.length) (σ ++ [.list xs])) : K (.ref a) { s with heap := h', toks := tk } := by
 obtain ⟨S0, e0⟩ := Step.newOwn (p0 := a) (m0 := .list xs) S x ha ⟨rfl, vs, hl, r⟩
 exact hK _ (.own σ.length) F _ _ h' tk (.own e0) S0 hQ
noncomputable def oSplit (xs : List XV) (σ : Sto) (Q : XV → Sto → Prop) : Prop :=
 str2 xs fun a b => ((b.length == 0) = false ∧ a.length ≤ sizeLine ∧ (Builtin.Str.partsBetween a (Builtin.Str.occurrences a b 0 a.length (a.length + 1)) b.length).length ≤ sizeLine) ∧ Q (.own σ.length) (σ ++ [.list ((Txt.split a b).map .str)])
theorem op_split : OpN c (fun vs => call (.builtin "str.split") vs) oSplit := by
 intro E K F ρ σ s vs xs Q S X hQ hK
 refine str2_e X hQ fun a t b u hQ => ?_
 refine qC fun P kG => ?_
 obtain ⟨⟨q1, q2, q3⟩, q4⟩ := hQ
 refine kG ?_
 clear kG P
 have one : Txt.split a b = [a] → K (.ref s.heap.objs.size) { s with heap := s.heap.push { cls := .type "list", data := .seq #[.str a t] } } := fun e =>
  ret_own S hK (vs := strValues [(a, t)]) (tk := s.toks) (Ext.push _ _) (.of (Heap.get?_push_size _ rfl)) (get?_size _) (strsVR [(a, t)]) (by rw [e] at q4; exact q4)
 cases h1 : (decide (a.length < b.length) || decide (Builtin.Str.strKind a < Builtin.Str.strKind b))
 ·cases hf : (Builtin.Str.occurrences a b 0 a.length (a.length + 1)).isEmpty
  ·refine call_meets PySem.F.slot_str_split (typeIs_str _ _ _) PySem.F.entry_str_split (PySem.F.args_str_split_2 _ _) (meets_str_split_sep a b t u h1 q1 hf q2 q3) ?_
   show wants K E _ { s with toks := _, heap := s.heap.push { cls := .type "list", data := .seq (strsFrom s.toks (Builtin.Str.partsBetween a (Builtin.Str.occurrences a b 0 a.length (a.length + 1)) b.length)).toArray } }
   rw [strsFrom_eq]
   have e : (numbered s.toks (Builtin.Str.partsBetween a (Builtin.Str.occurrences a b 0 a.length (a.length + 1)) b.length)).map (·.1) = Txt.split a b := (numbered_texts s.toks (Builtin.Str.partsBetween a (Builtin.Str.occurrences a b 0 a.length (a.length + 1)) b.length)).trans ((if_neg (ne_true_of_eq_false h1)).trans (if_neg (ne_true_of_eq_false hf))).symm
   refine ret_own S hK (Ext.push _ _) (.of (Heap.get?_push_size _ rfl)) (get?_size _) (strsVR _) ?_
   rw [e]; exact q4
  ·exact call_meets PySem.F.slot_str_split (typeIs_str _ _ _) PySem.F.entry_str_split (PySem.F.args_str_split_2 _ _) (meets_str_split_not_found a b t u h1 q1 hf) (one ((if_neg (ne_true_of_eq_false h1)).trans (if_pos hf)))
 ·exact call_meets PySem.F.slot_str_split (typeIs_str _ _ _) PySem.F.entry_str_split (PySem.F.args_str_split_2 _ _) (meets_str_split_cannot_occur a b t u h1) (one (if_pos h1))
end
theorem map_inj {α β : Type} {f : α → β} (hf : ∀ a b, f a = f b → a = b) : ∀ {l m : List α}, l.map f = m.map f → l = m
 | [], [], _ => rfl
 | [], _ :: _, h => by cases h
 | _ :: _, [], h => by cases h
 | a :: l, b :: m, h => by
  rw [List.map_cons, List.map_cons, List.cons.injEq] at h
  rw [hf a b h.1, map_inj hf h.2]
theorem qE (a b : String) : (Str.ofString a = Str.ofString b) = (a = b) := by
 refine propext ⟨fun h => ?_, fun h => by rw [h]⟩
 rw [Str.ofString_eq_toList, Str.ofString_eq_toList] at h
 have h1 : (a.toList.map Char.toNat).toArray = (b.toList.map Char.toNat).toArray := congrArg Str.cps h
 have h2 : a.toList.map Char.toNat = b.toList.map Char.toNat := by simpa using congrArg Array.toList h1
 exact String.toList_inj.mp (map_inj (fun x y e => Char.toNat_inj.mp e) h2)
theorem str_ne {a b : String} (h : a ≠ b) : (Str.ofString a = Str.ofString b) = False := by rw [qE]; exact eq_false h
theorem str_ne' {a b : String} (h : a ≠ b) : Str.ofString a ≠ Str.ofString b := fun e => h ((qE a b).mp e)
noncomputable def SX (env : Env) (P : Str → Prop) (ρ : Pl) (a : Addr) : Prop := Mut ρ a ∨ a = env.locals ∨ ∃ x, P x ∧ env.kindOf x = some .cell ∧ env.cells.lookup x = some a
structure SEvo (env : Env) (P : Str → Prop) (F : Fz) (ρ : Pl) (h : Heap) (F' : Fz) (ρ' : Pl) (h' : Heap) : Prop where
 evo : Evo (SX env P ρ) F h F' h'
 pre : ρ <+: ρ'
 new : ∀ p ∈ ρ', p ∈ ρ ∨ h.get? p.2 = none
section
variable {base : Heap} {C : Addr} {F F' F'' : Fz} {ρ ρ' ρ'' : Pl} {h h' h'' : Heap} {σ σ' : Sto} {env : Env} {η : Vars} {P : Str → Prop}
theorem Step.sevo (x : Step base C F ρ h F' ρ' h' σ') : SEvo env P F ρ h F' ρ' h' :=
 ⟨x.evo.weaken fun _ q => .inl (.inl q), x.pre, x.new⟩
theorem SEvo.trans (R : Rel base C env F' ρ' h' η σ) (x : SEvo env P F ρ h F' ρ' h') (y : SEvo env P F' ρ' h' F'' ρ'' h'') (nd : (ρ''.map Prod.snd).Nodup) : SEvo env P F ρ h F'' ρ'' h'' where
 evo := x.evo.trans y.evo fun a q => q.elim (fun ⟨p, hp, e⟩ => (x.new p hp).imp (fun q => .inl ⟨p, q, e⟩) fun q => e ▸ q) fun q => .inl (.inr q)
 pre := x.pre.trans y.pre
 new := fun p hp => by
  rcases y.new p hp with q | q0
  ·exact x.new p q
  rcases x.evo.none_back q0 with q | ⟨p', hp', e⟩ | q | ⟨z, _, hz, hc⟩
  ·exact .inr q
  ·have h1 : p' ∈ ρ'' := y.pre.subset (x.pre.subset hp')
   exact .inl (by rw [show p = p' from nd_inj nd hp h1 e.symm]; exact hp')
  ·obtain ⟨m, ⟨o, _, _, ho, _⟩, _⟩ := R.ns
   rw [q, ho] at q0; cases q0
  ·obtain ⟨v, ⟨o, ho, _⟩, _⟩ := R.cells z p.2 (.inl hz) hc
   rw [ho] at q0; cases q0
theorem SEvo.refl (i : FIn F h) : SEvo env P F ρ h F ρ h := ⟨.refl i, List.prefix_refl _, fun p hp => .inl hp⟩
theorem SEvo.mono {P' : Str → Prop} (x : SEvo env P F ρ h F' ρ' h') (hP : ∀ y, P y → P' y) : SEvo env P' F ρ h F' ρ' h' :=
 ⟨x.evo.weaken fun _ q => .inl (q.imp id fun q => q.imp id fun ⟨y, a, b⟩ => ⟨y, hP y a, b⟩), x.pre, x.new⟩
theorem Rel.storeL (R : Rel base C env F ρ h η σ) {x : String} {v : Value} {xv : XV} {m : Str → Option Value} (hk : env.kindOf x = some .local) (X : XR F ρ v xv)
  (hm : h.Ns env.locals m ∧ ∀ (x : String) xv, env.kindOf x = some .local → vget x η = some xv → ∃ v, m x = some v ∧ XR F ρ v xv)
  (hn : h'.Ns env.locals (fun y => if y = x then some v else m y)) (hs : Heap.SameBut env.locals h h') : Rel base C env F ρ h' (vset x xv η) σ ∧ SEvo env P F ρ h F ρ h' := by
 have evo : Evo (SX env P ρ) F h F h' := ⟨FLe.refl F, fun a o e => by
   have ha : a ≠ env.locals := fun q => by rw [q, R.nsF] at e; cases e
   rw [hs.2 a ha]; exact R.sto.inn a o e, fun _ _ e => .inl e, fun a o e hx => by
   have ha : a ≠ env.locals := fun q => hx (.inr (.inl q))
   exact .inl ((hs.2 a ha).trans e)⟩
 have mutL := R.locals.1
 have evo' : Evo (Mut ρ) F h F h' → True := fun _ => trivial
 refine ⟨⟨⟨evo.inn, R.sto.base, R.sto.len, fun i p mo h1 h2 => ?_, R.sto.nd, R.sto.out⟩, R.kind, R.glob, R.blt, ⟨_, hn, fun y yv hy hv => ?_⟩, R.nsF, R.cellAll, fun y a hy ha => ?_, R.inj⟩, ⟨evo, List.prefix_refl _, fun p hp => .inl hp⟩⟩
 ·have hp : p.2 ≠ env.locals := fun q => mutL ⟨p, List.mem_of_getElem? h1, q⟩
  exact (R.sto.obj i p mo h1 h2).mono (FLe.refl F) (hs.2 p.2 hp)
 ·rcases kH hv with ⟨rfl, rfl⟩ | ⟨q, hv⟩
  ·exact ⟨v, by simp only [if_true], X⟩
  ·obtain ⟨v', e1, e2⟩ := hm.2 y yv hy hv
   exact ⟨v', by simp only [str_ne q, if_false]; exact e1, e2⟩
 ·obtain ⟨v', h1, h2, h3⟩ := R.cells y a hy ha
  have hne : a ≠ env.locals := fun q => by
   obtain ⟨o, ho, hd⟩ := h1
   obtain ⟨o', es, ep, ho', hd', _⟩ := hm.1
   rw [q, ho'] at ho; cases ho; rw [hd'] at hd; cases hd
  refine ⟨v', h1.sameBut hs hne, h2, fun z xv' ez hx' => ?_⟩
  rcases kH hx' with ⟨rfl, rfl⟩ | ⟨_, hx'⟩
  ·subst ez; rcases hy with hy | hy <;> rw [hk] at hy <;> cases hy
  ·exact h3 z xv' ez hx'
theorem Rel.storeC (R : Rel base C env F ρ h η σ) {x : String} {v : Value} {xv : XV} {a : Addr} (hP : P x) (hk : env.kindOf x = some .cell) (hc : env.cells.lookup (x : Str) = some a) (X : XR F ρ v xv)
  (hn : h'.IsCell a (some v)) (hs : Heap.SameBut a h h') : Rel base C env F ρ h' (vset x xv η) σ ∧ SEvo env P F ρ h F ρ h' := by
 obtain ⟨v0, c1, c2, c3⟩ := R.cells x a (.inl hk) hc
 have evo : Evo (SX env P ρ) F h F h' := ⟨FLe.refl F, fun b o e => by
   have hb : b ≠ a := fun q => by rw [q, c2] at e; cases e
   rw [hs.2 b hb]; exact R.sto.inn b o e, fun _ _ e => .inl e, fun b o e hx => by
   have hb : b ≠ a := fun q => hx (.inr (.inr ⟨x, hP, hk, q ▸ hc⟩))
   exact .inl ((hs.2 b hb).trans e)⟩
 have mutC := R.sto.cell c1 c2
 refine ⟨⟨⟨evo.inn, R.sto.base, R.sto.len, fun i p mo h1 h2 => ?_, R.sto.nd, R.sto.out⟩, R.kind, R.glob, R.blt, ?_, R.nsF, R.cellAll, fun y b hy hb => ?_, R.inj⟩, ⟨evo, List.prefix_refl _, fun p hp => .inl hp⟩⟩
 ·have hp : p.2 ≠ a := fun q => mutC ⟨p, List.mem_of_getElem? h1, q⟩
  exact (R.sto.obj i p mo h1 h2).mono (FLe.refl F) (hs.2 p.2 hp)
 ·obtain ⟨m, hn', hv⟩ := R.ns
  have hne : env.locals ≠ a := fun q => by
   obtain ⟨o, ho, hd⟩ := c1
   obtain ⟨o', es, ep, ho', hd', _⟩ := hn'
   rw [← q, ho'] at ho; cases ho; rw [hd'] at hd; cases hd
  refine ⟨m, hn'.sameBut hs hne, fun y yv hy hyv => ?_⟩
  rcases kH hyv with ⟨rfl, rfl⟩ | ⟨_, hyv⟩
  ·rw [hk] at hy; cases hy
  ·exact hv y yv hy hyv
 ·by_cases q : y = x
  ·subst q
   rw [hc] at hb; cases hb
   refine ⟨some v, hn, c2, fun z xv' ez hx' => ?_⟩
   rcases kH hx' with ⟨rfl, rfl⟩ | ⟨q, _⟩
   ·exact ⟨v, rfl, X⟩
   ·exact absurd ez.symm (str_ne' q)
  ·obtain ⟨v', h1, h2, h3⟩ := R.cells y b hy hb
   have hne : b ≠ a := fun e => q (R.inj y x b hb (e ▸ hc))
   refine ⟨v', h1.sameBut hs hne, h2, fun z xv' ez hx' => ?_⟩
   rcases kH hx' with ⟨rfl, rfl⟩ | ⟨_, hx'⟩
   ·exact absurd ez q
   ·exact h3 z xv' ez hx'
noncomputable def stNm (env : Env) (x : Str) : Bool := match env.scope.names.lookup x with | some .local | some .cell => true | _ => false
theorem stNm_spec {x : Str} (e : stNm env x = true) : env.kindOf x = some .local ∨ env.kindOf x = some .cell := by
 unfold stNm at e
 unfold Env.kindOf
 revert e
 cases env.scope.names.lookup x with
 | none => simp
 | some k => cases k <;> simp
theorem Rel.store {M : Model} {A : Around} {E : Value → Shared → Prop} {s : Shared} (R : Rel base C env F ρ s.heap η σ) {x : String} {v : Value} {xv : XV} {Q : Unit → Shared → Prop} (hP : P x) (hk : stNm env x = true) (X : XR F ρ v xv)
  (hQ : ∀ h' tk, Rel base C env F ρ h' (vset x xv η) σ → SEvo env P F ρ s.heap F ρ h' → Q () { s with heap := h', toks := tk }) : wpAny M A (storeName env x v) Q E s := by
 rcases stNm_spec hk with hk | hk
 ·obtain ⟨m, hn, hv⟩ := R.ns
  refine wpAny_storeName_local hk hn (fun h' hn' hs' => ?_) (by rw [R.kind]; rfl)
  obtain ⟨R', x'⟩ := R.storeL (P := P) hk X ⟨hn, hv⟩ hn' hs'
  exact hQ h' _ R' x'
 ·obtain ⟨a, ha⟩ := R.cellAll x (.inl hk)
  obtain ⟨v0, c1, c2, c3⟩ := R.cells x a (.inl hk) ha
  refine wpAny_storeName_cell R.kind hk ha c1 fun h' hn' hs' => ?_
  obtain ⟨R', x'⟩ := R.storeC hP hk ha X hn' hs'
  exact hQ h' s.toks R' x'
end
set_option tactic.hygienic true
section
variable {base : Heap} {C : Addr} {X : Addr → Prop} {F F' : Fz} {ρ ρ' : Pl} {h h' : Heap} {σ σ' : Sto} {env : Env} {η : Vars}
theorem SRel.same (S : SRel base C F ρ h σ) (x : Evo X F h F' h') (hX : ∀ p ∈ ρ, ¬ X p.2) : ∀ p ∈ ρ, h'.get? p.2 = h.get? p.2 := fun p hp => by
 refine dEEAA (S.nth hp) fun i m h1 h2 r => ?_
 obtain ⟨o, ho⟩ := S.lt p hp
 rw [ho]
 rcases x.keep p.2 o ho (hX p hp) with k | ⟨⟨es, n, hd⟩, _⟩
 ·exact k
 ·by_cases hl : m.live = true
  ·exact absurd hd ((r.notNs hl ho).1 _ _)
  ·refine dEA (r.dead_at hl) fun o' q _ => ?_
   rw [← (S.inn _ _ q).symm.trans ho]
   exact x.inn _ _ (x.le _ _ q)
theorem SRel.along (S : SRel base C F ρ h σ) (x : Evo X F h F' h') (hX : ∀ p ∈ ρ, ¬ X p.2) : SRel base C F' ρ h' σ :=
 S.extL x.le x.inn (S.same x hX) fun p hp q => x.none_of q (S.lt p hp) (hX p hp)
structure Off (env : Env) (ρ : Pl) (X : Addr → Prop) : Prop where
 muts : ∀ p ∈ ρ, ¬ X p.2
 loc : ¬ X env.locals
 cel : ∀ x a, env.cells.lookup x = some a → ¬ X a
theorem Rel.along (R : Rel base C env F ρ h η σ) (x : Evo X F h F' h') (o : Off env ρ X) : Rel base C env F' ρ h' η σ where
 sto := R.sto.along x o.muts
 kind := R.kind
 glob := R.glob
 blt := R.blt
 ns := by
  refine dEA R.ns fun m hn hv => ?_
  refine ⟨m, x.isNs hn o.loc, fun y xv hk hy => ?_⟩
  refine dEA (hv y xv hk hy) fun v h1 h2 => ?_
  exact ⟨v, h1, h2.mono x.le (List.prefix_refl _)⟩
 nsF := x.none_of R.nsF R.locals.2 o.loc
 cellAll := R.cellAll
 cells := fun y c hk hc => by
  refine dEAA (R.cells y c hk hc) fun v h1 h2 h3 => ?_
  have hm := o.cel y c hc
  refine ⟨v, x.isCell h1 hm, x.none_of h2 (let ⟨o, ho, _⟩ := h1; ⟨o, ho⟩) hm, fun z xv ez hy => ?_⟩
  refine dEA (h3 z xv ez hy) fun v' q1 q2 => ?_
  exact ⟨v', q1, q2.mono x.le (List.prefix_refl _)⟩
 inj := R.inj
theorem Rel.off (R : Rel base C env F ρ h η σ) {it : Addr} {o : Obj} {vs : Array Value} (e : h.get? it = some o) (hd : o.data = .fields vs) (hF : F it = none) (hcl : ∀ x a, env.cells.lookup x = some a → celled env x) (hT : ¬ Mut ρ it) : Off env ρ (· = it) where
 muts := fun p hp q => hT ⟨p, hp, q⟩
 loc := fun q => by
  refine dEA R.ns fun m hN1 _ => ?_
  obtain ⟨o', es, ep, ho, hd', _⟩ := hN1
  rw [q, e] at ho; cases ho; rw [hd] at hd'; cases hd'
 cel := fun x a ha q => by
  refine dEA (R.cells x a (hcl x a ha) ha) fun v hN2 _ => ?_
  obtain ⟨o', ho, hd'⟩ := hN2
  rw [q, e] at ho; cases ho; rw [hd] at hd'; cases hd'
inductive ItR (F : Fz) (h : Heap) (it : Addr) : List PyData → Prop
 | list {l i o vs n xs} : h.IsListIter it l i → F l = some o → o.cls = .type "list" → o.data = .seq vs n → VRs F (vs.toList.drop i) xs → ItR F h it xs
 | tuple {l i o vs n xs} : h.IsTupleIter it l i → F l = some o → o.cls = .type "tuple" → o.data = .seq vs n → VRs F (vs.toList.drop i) xs → ItR F h it xs
 | range {x step : Int} {n : Nat} {xs} : IsRangeIter h it x n step → xs = (List.range n).map (fun k => .int (x + k * step)) → ItR F h it xs
 | wide {x t i xs} : h.IsStrIter it "str_iterator" x t i → xs = (x.cps.toList.drop i).map (fun ch => .str ⟨#[ch]⟩) → ItR F h it xs
 | ascii {x t i xs} : h.IsStrIter it "str_ascii_iterator" x t i → xs = (x.cps.toList.drop i).map (fun ch => .str ⟨#[ch]⟩) → ItR F h it xs
theorem ItR.obj {it : Addr} {xs : List PyData} (i : ItR F h it xs) : ∃ o vs, h.get? it = some o ∧ o.data = .fields vs ∧ ∀ ps, o ≠ tabObj ps := by
 cases i with
 | list a => obtain ⟨o, e, c, d⟩ := a; exact ⟨o, _, e, d, fun ps q => by rw [q] at c; cases c⟩
 | tuple a => obtain ⟨o, e, c, d⟩ := a; exact ⟨o, _, e, d, fun ps q => by rw [q] at c; cases c⟩
 | range a => exact ⟨_, _, a, rfl, fun ps q => by cases q⟩
 | wide a => obtain ⟨o, e, c, d⟩ := a; exact ⟨o, _, e, d, fun ps q => by rw [q] at c; cases c⟩
 | ascii a => obtain ⟨o, e, c, d⟩ := a; exact ⟨o, _, e, d, fun ps q => by rw [q] at c; cases c⟩
theorem Evo.fld (x : Evo X F h F' h') {a : Addr} {o : Obj} {vs : Array Value} (e : h.get? a = some o) (hd : o.data = .fields vs) (hx : ¬ X a) : h'.get? a = some o := by
 rcases x.keep a o e hx with k | ⟨⟨es, n, q⟩, _⟩
 ·exact k
 ·rw [hd] at q; cases q
theorem ItR.mono {it : Addr} {xs : List PyData} (i : ItR F h it xs) (x : Evo X F h F' h') (hx : ¬ X it) : ItR F' h' it xs := by
 cases i with
 | list a b c d r => obtain ⟨o, e, c', d'⟩ := a; exact .list ⟨o, x.fld e d' hx, c', d'⟩ (x.le _ _ b) c d (r.mono x.le)
 | tuple a b c d r => obtain ⟨o, e, c', d'⟩ := a; exact .tuple ⟨o, x.fld e d' hx, c', d'⟩ (x.le _ _ b) c d (r.mono x.le)
 | range a b => exact .range (x.fld a rfl hx) b
 | wide a b => obtain ⟨o, e, c', d'⟩ := a; exact .wide ⟨o, x.fld e d' hx, c', d'⟩ b
 | ascii a b => obtain ⟨o, e, c', d'⟩ := a; exact .ascii ⟨o, x.fld e d' hx, c', d'⟩ b
end
section
variable {prog : Program} {w : World} {A : Around} {F : Fz} {s : Shared}
theorem VRs.drop_cons {vs : List Value} {i : Nat} {d : PyData} {ds : List PyData} (r : VRs F (vs.drop i) (d :: ds)) : ∃ v, vs[i]? = some v ∧ VR F v d ∧ VRs F (vs.drop (i + 1)) ds := by
 cases h : vs.drop i with
 | nil => rw [h] at r; cases r
 | cons v t =>
  rw [h] at r
  cases r with
  | cons a b =>
   have e : vs[i]? = some v := by have := congrArg (·[0]?) h; simpa using this
   refine ⟨v, e, a, ?_⟩
   have : vs.drop (i + 1) = t := by rw [← List.drop_drop, h]; rfl
   rw [this]; exact b
theorem VRs.drop_nil {vs : List Value} {i : Nat} (r : VRs F (vs.drop i) []) : vs[i]? = none := by
 cases h : vs.drop i with
 | nil => rw [List.getElem?_eq_none_iff]; exact List.drop_eq_nil_iff.mp h
 | cons v t => rw [h] at r; cases r
theorem itr_item {it : Addr} {d : PyData} {xs : List PyData} {E : Value → Shared → Prop} {K : Option Value → Shared → Prop} (hF : FIn F s.heap) (i : ItR F s.heap it (d :: xs)) (hn : F it = none)
  (hK : ∀ v h' tk, VR F v d → ItR F h' it xs → (∀ b, b ≠ it → h'.get? b = s.heap.get? b) → K (some v) { s with heap := h', toks := tk }) : wpAny (model prog w) A (pyNext (.ref it)) K E s := by
 have ne : ∀ l o, F l = some o → l ≠ it := fun l o e q => by rw [q, hn] at e; cases e
 cases i with
 | list a b c e r =>
  refine dEAA r.drop_cons fun v e1 e2 e3 => ?_
  rename_i vs n
  exact wpAny_pyNext_list_item a ⟨_, hF _ _ b, c, n, e⟩ (x := v) (by simpa using e1) fun h' hi hs => hK v h' s.toks e2 (.list hi b c e e3) hs.2
 | tuple a b c e r =>
  refine dEAA r.drop_cons fun v e1 e2 e3 => ?_
  rename_i vs n
  exact wpAny_pyNext_tuple_item a ⟨_, hF _ _ b, c, n, e⟩ (x := v) (by simpa using e1) fun h' hi hs => hK v h' s.toks e2 (.tuple hi b c e e3) hs.2
 | range a e =>
  rename_i x step n
  cases n with
  | zero => cases e
  | succ n =>
   rw [List.range_succ_eq_map, List.map_cons, List.map_map] at e
   injection e with e1 e2
   refine wpAny_pyNext_range_item a (by simp) fun h' hi hs => ?_
   refine hK (.int x s.toks) h' _ ?_ (.range (x := x + step) (n := n) (step := step) ?_ ?_) hs.2
   ·rw [e1]; simpa using VR.int x s.toks
   ·have : ((n + 1 : Nat) : Int) - 1 = n := by simp
    rw [this] at hi; exact hi
   ·rw [e2]
    refine List.map_congr_left fun k _ => ?_
    simp only [Function.comp]
    have : x + ((k + 1 : Nat) : Int) * step = x + step + k * step := by rw [Int.natCast_add, Int.add_mul]; lia
    rw [← this]
 | wide a e =>
  rename_i x t i
  cases h : x.cps.toList.drop i with
  | nil => rw [h] at e; cases e
  | cons ch tl =>
   rw [h] at e; injection e with e1 e2
   have e3 : x.cps.toList[i]? = some ch := by have := congrArg (·[0]?) h; simpa using this
   refine wpAny_pyNext_wide_item a (c := ch) (by simpa using e3) fun h' hi hs => hK _ h' _ (by rw [e1]; exact .str _ _) (.wide hi ?_) hs.2
   rw [e2, ← List.drop_drop, h]; rfl
 | ascii a e =>
  rename_i x t i
  cases h : x.cps.toList.drop i with
  | nil => rw [h] at e; cases e
  | cons ch tl =>
   rw [h] at e; injection e with e1 e2
   have e3 : x.cps.toList[i]? = some ch := by have := congrArg (·[0]?) h; simpa using this
   refine wpAny_pyNext_ascii_item a (c := ch) (by simpa using e3) fun h' hi hs => hK _ h' _ (by rw [e1]; exact .str _ _) (.ascii hi ?_) hs.2
   rw [e2, ← List.drop_drop, h]; rfl
theorem itr_end {it : Addr} {E : Value → Shared → Prop} {K : Option Value → Shared → Prop} (hh : A.handled = none) (hF : FIn F s.heap) (i : ItR F s.heap it [])
  (hK : ∀ h', (∀ b o, b ≠ it → s.heap.get? b = some o → h'.get? b = some o) → K none { s with heap := h' }) : wpAny (model prog w) A (pyNext (.ref it)) K E s := by
 cases i with
 | list a b c e r => exact wpAny_pyNext_list_end hh a ⟨_, hF _ _ b, c, _, e⟩ (by simpa using r.drop_nil) fun h' hs => hK h' fun b o hb e => hs b o hb e
 | tuple a b c e r => exact wpAny_pyNext_tuple_end hh a ⟨_, hF _ _ b, c, _, e⟩ (by simpa using r.drop_nil) fun h' hs => hK h' fun b o hb e => hs b o hb e
 | range a e =>
  rename_i x step n
  cases n with
  | zero => exact wpAny_pyNext_range_end hh a (by exact Int.natCast_nonneg _) fun h' hs => hK h' fun b o hb e => hs b o hb e
  | succ n => rw [List.range_succ_eq_map] at e; cases e
 | wide a e =>
  rename_i x t i
  refine wpAny_pyNext_wide_end hh a ?_ fun h' hs => hK h' fun b o hb e => hs b o hb e
  have h1 : x.cps.toList.drop i = [] := by simpa using e.symm
  have h2 := List.drop_eq_nil_iff.mp h1
  rw [Array.getElem?_eq_none_iff]; simpa using h2
 | ascii a e =>
  rename_i x t i
  refine wpAny_pyNext_ascii_end hh a ?_ fun h' hs => hK h' fun b o hb e => hs b o hb e
  have h1 : x.cps.toList.drop i = [] := by simpa using e.symm
  have h2 := List.drop_eq_nil_iff.mp h1
  rw [Array.getElem?_eq_none_iff]; simpa using h2
theorem itr_again {it : Addr} {xs : List PyData} {E : Value → Shared → Prop} {K : Value → Shared → Prop} (i : ItR F s.heap it xs) (hK : K (.ref it) s) : wpAny (model prog w) A (pyIter (.ref it)) K E s := by
 cases i with
 | list a => exact wpAny_pyIter_listiter a hK
 | tuple a => exact wpAny_pyIter_tupleiter a hK
 | range a => exact wpAny_pyIter_rangeiter a hK
 | wide a => exact wpAny_pyIter_striter_wide a hK
 | ascii a => exact wpAny_pyIter_striter_ascii a hK
noncomputable def rngList (a b k : Int) : List PyData := (List.range (Builtin.Range.rangeSize a b k).toNat).map fun (i : Nat) => .int (a + i * k)
noncomputable def iterOf : XV → Option (List PyData)
 | .v (.list xs) => some xs
 | .v (.tuple xs) => some xs
 | .v (.str x) => some (x.cps.toList.map fun ch => .str ⟨#[ch]⟩)
 | .rng a b k => if Builtin.Range.small a b k = true ∧ 0 ≤ Builtin.Range.rangeSize a b k then some (rngList a b k) else none
 | _ => none
theorem iter_start {ρ : Pl} {v : Value} {x : XV} {xs : List PyData} {E : Value → Shared → Prop} {K : Value → Shared → Prop} (hF : FIn F s.heap) (X : XR F ρ v x) (e : iterOf x = some xs)
  (hK : ∀ it h', Ext s.heap h' → s.heap.get? it = none → ItR F h' it xs → K (.ref it) { s with heap := h' }) : wpAny (model prog w) A (pyIter v) K E s := by
 cases X with
 | v X =>
  cases X with
  | @list _ o vs n _ a b c r =>
   cases e
   exact wpAny_pyIter_list ⟨_, hF _ _ a, b, n, c⟩ (hK _ _ (Ext.push _ _) (get?_size _) (.list ⟨_, Heap.get?_push_size _ rfl, rfl, rfl⟩ a b c r))
  | @tuple _ o vs n _ a b c r =>
   cases e
   exact wpAny_pyIter_tuple ⟨_, hF _ _ a, b, n, c⟩ (hK _ _ (Ext.push _ _) (get?_size _) (.tuple ⟨_, Heap.get?_push_size _ rfl, rfl, rfl⟩ a b c r))
  | str x t =>
   cases e
   refine wpAny_pyIter_strU (hK _ _ (Ext.push _ _) (get?_size _) ?_)
   by_cases ha : x.cps.all (· < 128) = true
   ·exact .ascii ⟨_, Heap.get?_push_size _ rfl, by simp [strIterType, ha], rfl⟩ rfl
   ·exact .wide ⟨_, Heap.get?_push_size _ rfl, by simp [strIterType, ha], rfl⟩ rfl
  | _ => cases e
 | @rng _ x y z _ _ _ X =>
  obtain ⟨q, e⟩ := Option.ite_none_right_eq_some.mp e
  cases e
  refine wpAny_pyIter_range (hF _ _ X) q.1 (hK _ _ (Ext.push _ _) (get?_size _) (.range ?_ rfl))
  rw [Int.toNat_of_nonneg q.2]; exact Heap.get?_push_size _ rfl
 | _ => cases e
end
set_option tactic.hygienic false
section
variable {c : Cx} {env : Env}
noncomputable abbrev TW := XV → Vars → (Vars → Prop) → Prop
noncomputable def AOK (c : Cx) (env : Env) (P : Str → Prop) (tgt : Expr) (T : TW) : Prop :=
 ∀ (E : Value → Shared → Prop) (K : Unit → Shared → Prop) F ρ η σ (s : Shared) v x Q, Rel c.base c.C env F ρ s.heap η σ → XR F ρ v x → T x η Q →
  (∀ η' h' tk', Rel c.base c.C env F ρ h' η' σ → SEvo env P F ρ s.heap F ρ h' → Q η' → K () { s with heap := h', toks := tk' }) → wpAny c.M c.A (assign tgt env v) K E s
theorem pP {P : Str → Prop} {x : String} {pos : Pos} (hP : P x) (hk : stNm env x = true) : AOK c env P (.Name x pos) (fun v η Q => Q (vset x v η)) := by
 intro E K F ρ η σ s v xv Q R X hQ hK
 exact wpAny_assign_Name (R.store hP hk X fun h' tk R' x' => hK _ h' tk R' x' hQ)
noncomputable def vsets : List String → List PyData → Vars → Vars
 | n :: ns, d :: ds, η => vsets ns ds (vset n (.v d) η)
 | _, _, η => η
theorem assignNames {P : Str → Prop} {E : Value → Shared → Prop} {K : Unit → Shared → Prop} {F ρ σ} {vs ds} (D : VRs F vs ds) : ∀ (ns : List (String × Pos)) (η) (s : Shared), Rel c.base c.C env F ρ s.heap η σ → (∀ n ∈ ns, P n.1 ∧ stNm env n.1 = true) → ns.length = ds.length →
  (∀ h' tk', Rel c.base c.C env F ρ h' (vsets (ns.map (·.1)) ds η) σ → SEvo env P F ρ s.heap F ρ h' → K () { s with heap := h', toks := tk' }) →
  wpAny c.M c.A (assignInOrder (ns.map fun n => assign (.Name n.1 n.2) env) vs) K E s :=
 D.ind (M := fun vs ds => ∀ (ns : List (String × Pos)) (η) (s : Shared), Rel c.base c.C env F ρ s.heap η σ → (∀ n ∈ ns, P n.1 ∧ stNm env n.1 = true) → ns.length = ds.length →
  (∀ h' tk', Rel c.base c.C env F ρ h' (vsets (ns.map (·.1)) ds η) σ → SEvo env P F ρ s.heap F ρ h' → K () { s with heap := h', toks := tk' }) →
  wpAny c.M c.A (assignInOrder (ns.map fun n => assign (.Name n.1 n.2) env) vs) K E s)
  (fun ns => List.casesOn ns (fun _ s R _ _ hK => wpAny_assignInOrder_none (hK s.heap s.toks R (.refl R.sto.inn))) fun _ _ _ _ _ _ hl => nomatch hl)
  fun _ _ _ _ a _ ih ns => List.casesOn ns (fun _ _ _ _ hl => nomatch hl) fun n ns _ _ R hk hl hK =>
   wpAny_assignInOrder_more (wpAny_assign_Name (R.store (hk n List.mem_cons_self).1 (hk n List.mem_cons_self).2 (.v a) fun _ _ R' x' =>
    ih ns _ _ R' (fun m hm => hk m (List.mem_cons_of_mem _ hm)) (Nat.succ.inj hl) fun h2 tk2 R2 x2 => hK h2 tk2 R2 (x'.trans R' x2 R2.sto.nd)))
theorem ext_of_but {h h' : Heap} (x : Heap.ExtBut h.objs.size h h') : Ext h h' := fun b o e => x b o (fun q => by rw [q, get?_size] at e; cases e) e
theorem kY {P : Str → Prop} {elts : List Expr} {k : Nat} {pos : Pos} (hh : c.A.handled = none) (ns : List (String × Pos)) (he : elts = ns.map fun n => .Name n.1 n.2) (ha : (assignEach elts env).map (·.2) = ns.map fun n => assign (.Name n.1 n.2) env)
  (hs : (assignEach elts env).findIdx? (·.1) = none) (hk : ∀ n ∈ ns, P n.1 ∧ stNm env n.1 = true) :
  AOK c env P (.Tuple elts k pos) (fun v η Q => ∃ ds, v = .v (.tuple ds) ∧ ns.length = ds.length ∧ Q (vsets (ns.map (·.1)) ds η)) := by
 intro E K F ρ η σ s v xv Q R X hQ hK
 obtain ⟨ds, rfl, hl, hQ⟩ := hQ
 have hlen : (assignEach elts env).length = ns.length := (List.length_map _).symm.trans ((congrArg List.length ha).trans (List.length_map _))
 refine X.eV.eT fun a o vs n e1 e2 e3 r => ?_
 refine wpAny_assign_Tuple (items := vs) hh ⟨o, R.sto.inn _ _ e1, e2, n, e3⟩ (by rw [hlen, hl, ← r.length, Array.length_toList]) hs fun h' x => ?_
 have R' := R.step (.ext0 R.sto (ext_of_but x))
 rw [ha]
 exact assignNames r ns η _ R' hk hl fun h2 tk2 R2 x2 => hK _ h2 tk2 R2 (SEvo.trans R' (Step.ext0 R.sto (ext_of_but x)).sevo x2 R2.sto.nd) hQ
end
noncomputable def clo (env : Env) : List (Str × NameKind) → List (Str × Addr) → List (Str × Addr)
 | [], acc => acc
 | (n, k) :: r, acc => if k == .free then clo env r ((n, (env.cells.lookup n).getD 0) :: acc) else clo env r acc
theorem closure_eq {scope : Scope} {env : Env} (h : ∀ x ∈ scope.names, x.2 = .free → ∃ a, env.cells.lookup x.1 = some a) : closureFor scope env = pure (clo env scope.names []) := by
 have key : ∀ (names : List (Str × NameKind)) (acc : List (Str × Addr)) (f : Str × NameKind → List (Str × Addr) → Sem (ForInStep (List (Str × Addr)))),
   (∀ n k acc, f (n, k) acc = if k == .free then (do let a ← cellOf env n; pure (.yield ((n, a) :: acc))) else pure (.yield acc)) →
   (∀ x ∈ names, x.2 = .free → ∃ a, env.cells.lookup x.1 = some a) → forIn names acc f = pure (clo env names acc) := by
  intro names
  induction names with
  | nil => intro acc f _ _; rfl
  | cons x r ih =>
   obtain ⟨n, k⟩ := x
   intro acc f hf hn
   rw [List.forIn_cons, hf]
   unfold clo
   by_cases hk : (k == NameKind.free) = true
   ·rw [if_pos hk, if_pos hk]
    obtain ⟨a, ha⟩ := hn (n, k) List.mem_cons_self (by simpa using hk)
    have e : cellOf env n = pure a := by unfold cellOf; rw [ha]
    rw [e, ha]
    exact ih _ f hf fun y hy => hn y (List.mem_cons_of_mem _ hy)
   ·rw [if_neg hk, if_neg hk]
    exact ih _ f hf fun y hy => hn y (List.mem_cons_of_mem _ hy)
 unfold closureFor
 show (forIn scope.names ([] : List (Str × Addr)) _ >>= fun r => pure r) = _
 rw [key scope.names [] _ (fun n k acc => by by_cases hk : (k == NameKind.free) = true <;> simp [hk]) h]
 rfl
theorem clo_mem {env : Env} : ∀ (names : List (Str × NameKind)) (acc : List (Str × Addr)) (n : Str) (a : Addr), (n, a) ∈ clo env names acc → (n, a) ∈ acc ∨ ((n, NameKind.free) ∈ names ∧ a = (env.cells.lookup n).getD 0)
 | [], _, _, _, h => .inl h
 | (m, k) :: r, acc, n, a, h => by
  unfold clo at h
  split at h
  ·rename_i hk
   have hk' : k = .free := by simpa using hk
   subst hk'
   rcases clo_mem r _ n a h with h | ⟨h, e⟩
   ·rcases List.mem_cons.mp h with h | h
    ·cases h; exact .inr ⟨List.mem_cons_self, rfl⟩
    ·exact .inl h
   ·exact .inr ⟨List.mem_cons_of_mem _ h, e⟩
  ·rcases clo_mem r _ n a h with h | ⟨h, e⟩
   ·exact .inl h
   ·exact .inr ⟨List.mem_cons_of_mem _ h, e⟩
theorem clo_has {env : Env} : ∀ (names : List (Str × NameKind)) (acc : List (Str × Addr)) (n : Str), ((n, NameKind.free) ∈ names ∨ ∃ a, (n, a) ∈ acc) → ∃ a, (n, a) ∈ clo env names acc
 | [], _, _, h => h.elim (fun h => nomatch h) id
 | (m, k) :: r, acc, n, h => by
  unfold clo
  split
  ·refine clo_has r _ n ?_
   rcases h with h | ⟨a, h⟩
   ·rcases List.mem_cons.mp h with h | h
    ·cases h; exact .inr ⟨_, List.mem_cons_self⟩
    ·exact .inl h
   ·exact .inr ⟨a, List.mem_cons_of_mem _ h⟩
  ·rename_i hk
   refine clo_has r _ n ?_
   rcases h with h | h
   ·rcases List.mem_cons.mp h with h | h
    ·cases h; exact absurd rfl hk
    ·exact .inl h
   ·exact .inr h
theorem lookup_of_mem {α : Type} : ∀ {l : List (Str × α)} {n : Str} {a : α}, (n, a) ∈ l → ∃ b, l.lookup n = some b
 | (k, v) :: r, n, a, h => by
  rw [List.lookup_cons]
  cases hb : n == k with
  | true => exact ⟨v, rfl⟩
  | false =>
   rcases List.mem_cons.mp h with h | h
   ·cases h; rw [beq_self_eq_true] at hb; cases hb
   ·exact lookup_of_mem h
structure CellsW (h₀ h : Heap) (cl : List (Str × Addr)) (names : List (Str × NameKind)) (cells : List (Str × Addr)) : Prop where
 src : ∀ n a, (n, a) ∈ cells → (n, a) ∈ cl ∨ (h₀.get? a = none ∧ h.IsCell a none ∧ (n, NameKind.cell) ∈ names ∧ h₀.objs.size < a)
 one : ∀ n m a, (n, a) ∈ cells → (m, a) ∈ cells → n = m
theorem lays_cells {h₀ : Heap} {cl : List (Str × Addr)} {all : List (Str × NameKind)} (hcl : ∀ n a, (n, a) ∈ cl → a < h₀.objs.size) : ∀ (names : List (Str × NameKind)) (h : Heap) (cells : List (Str × Addr)),
  (∀ x ∈ names, x ∈ all) → h₀.objs.size < h.objs.size → CellsW h₀ h cl all cells → (∀ n a, (n, a) ∈ cells → a < h.objs.size) →
  CellsW h₀ (pushCells h names) cl all (cellsFrom h.objs.size names cells) ∧ (∀ p ∈ cells, p ∈ cellsFrom h.objs.size names cells) ∧ (∀ n, (n, NameKind.cell) ∈ names → ∃ a, (n, a) ∈ cellsFrom h.objs.size names cells)
 | [], h, cells, _, _, W, _ => ⟨W, fun _ h => h, fun _ h => nomatch h⟩
 | (n, k) :: r, h, cells, ha, hlt, W, hb => by
  unfold pushCells cellsFrom
  split
  ·rename_i hk
   have hk' : k = .cell := by simpa using hk
   subst hk'
   have W' : CellsW h₀ (h.push { cls := .type "cell", data := .cell none }) cl all ((n, h.objs.size) :: cells) := by
    refine ⟨fun m a hm => ?_, fun m m' a h1 h2 => ?_⟩
    ·rcases List.mem_cons.mp hm with hm | hm
     ·cases hm
      refine .inr ⟨?_, ⟨_, Heap.get?_push_size _ rfl, rfl⟩, ha _ List.mem_cons_self, hlt⟩
      cases e : h₀.get? h.objs.size with
      | none => rfl
      | some o => exact absurd (Heap.lt_size e) (Nat.not_lt.mpr (Nat.le_of_lt hlt))
     ·rcases W.src m a hm with q | ⟨q1, ⟨o, q2, q3⟩, q4⟩
      ·exact .inl q
      ·exact .inr ⟨q1, ⟨o, Heap.get?_push_of_some _ q2, q3⟩, q4⟩
    ·rcases List.mem_cons.mp h1 with e1 | e1 <;> rcases List.mem_cons.mp h2 with e2 | e2
     ·cases e1; cases e2; rfl
     ·cases e1; exact absurd (hb _ _ e2) (Nat.lt_irrefl _)
     ·cases e2; exact absurd (hb _ _ e1) (Nat.lt_irrefl _)
     ·exact W.one m m' a e1 e2
   have := lays_cells hcl r (h.push { cls := .type "cell", data := .cell none }) ((n, h.objs.size) :: cells) (fun x hx => ha x (List.mem_cons_of_mem _ hx)) (by rw [Heap.size_push]; exact Nat.lt_succ_of_lt ‹_›) W' (fun m a hm => by
    rw [Heap.size_push]
    rcases List.mem_cons.mp hm with hm | hm
    ·cases hm; exact Nat.lt_succ_self _
    ·exact Nat.lt_succ_of_lt (hb m a hm))
   rw [Heap.size_push] at this
   refine ⟨this.1, fun p hp => this.2.1 p (List.mem_cons_of_mem _ hp), fun m hm => ?_⟩
   rcases List.mem_cons.mp hm with hm | hm
   ·cases hm; exact ⟨_, this.2.1 _ List.mem_cons_self⟩
   ·exact this.2.2 m hm
  ·rename_i hk
   have := lays_cells hcl r h cells (fun x hx => ha x (List.mem_cons_of_mem _ hx)) hlt W hb
   refine ⟨this.1, this.2.1, fun m hm => ?_⟩
   rcases List.mem_cons.mp hm with hm | hm
   ·cases hm; exact absurd rfl hk
   ·exact this.2.2 m hm
theorem lookup_relabel {scope : Scope} {env : Env} (x : Str) : (relabel scope env).names.lookup x = (scope.names.lookup x).map fun k => if (k == .free && env.scope.kind == .function && env.kindOf x == some .cell) then .cell else k := by
 show (scope.names.map fun (n, k) => if (k == NameKind.free && env.scope.kind == .function && env.kindOf n == some .cell) then (n, NameKind.cell) else (n, k)).lookup x = _
 induction scope.names with
 | nil => rfl
 | cons p r ih =>
  obtain ⟨n, k⟩ := p
  rw [List.map_cons]
  show List.lookup x ((if (k == NameKind.free && env.scope.kind == .function && env.kindOf n == some .cell) = true then (n, NameKind.cell) else (n, k)) :: _) = _
  by_cases hx : x = n
  ·subst hx
   by_cases hc : (k == NameKind.free && env.scope.kind == .function && env.kindOf x == some .cell) = true
   ·rw [if_pos hc, List.lookup_cons, beq_self_eq_true, List.lookup_cons, beq_self_eq_true]
    exact congrArg some (if_pos hc).symm
   ·rw [if_neg hc, List.lookup_cons, beq_self_eq_true, List.lookup_cons, beq_self_eq_true]
    exact congrArg some (if_neg hc).symm
  ·have hb : (x == n) = false := by simpa using hx
   have e : ∀ q : NameKind, List.lookup x ((n, q) :: r) = List.lookup x r := fun q => by rw [List.lookup_cons, hb]
   rw [e]
   by_cases hc : (k == NameKind.free && env.scope.kind == .function && env.kindOf n == some .cell) = true
   ·rw [if_pos hc, List.lookup_cons, hb]; exact ih
   ·rw [if_neg hc, List.lookup_cons, hb]; exact ih
noncomputable def freeV (scope : Scope) (η : Vars) : Vars := η.filter fun p => scope.names.lookup (p.1 : Str) == some .free
theorem vK {scope : Scope} {x : String} {v : XV} : ∀ {η : Vars}, vget x (freeV scope η) = some v → scope.names.lookup (x : Str) = some .free ∧ vget x η = some v
 | [], h => nomatch h
 | (y, u) :: r, h => by
  unfold freeV at h
  rw [List.filter_cons] at h
  split at h
  ·rename_i hy
   rcases kH h with ⟨rfl, rfl⟩ | ⟨q, h⟩
   ·exact ⟨by simpa using hy, vget_hit⟩
   ·exact ⟨(vK h).1, (kS q).trans (vK h).2⟩
  ·rename_i hy
   have := vK (η := r) h
   refine ⟨this.1, (kS fun q => ?_).trans this.2⟩
   subst q
   exact absurd (by simpa using this.1) hy
structure CompSc (env : Env) (scope : Scope) : Prop where
 kind : scope.kind = .function
 free : ∀ x ∈ scope.names, x.2 = .free → celled env x.1
 uniq : ∀ x ∈ scope.names, scope.names.lookup x.1 = some x.2
noncomputable def compSc (env : Env) (scope : Scope) : Bool := decide (scope.kind = .function) && scope.names.all fun x => (x.2 != .free || (match env.scope.names.lookup x.1 with | some .cell | some .free => true | _ => false)) && decide (scope.names.lookup x.1 = some x.2)
theorem pL {env : Env} {scope : Scope} (h : compSc env scope = true) : CompSc env scope := by
 unfold compSc at h
 simp only [Bool.and_eq_true, decide_eq_true_eq, List.all_eq_true, Bool.or_eq_true, bne_iff_ne] at h
 refine ⟨h.1, fun x hx hf => ?_, fun x hx => (h.2 x hx).2⟩
 have := (h.2 x hx).1.resolve_left fun q => q hf
 unfold celled Env.kindOf
 revert this
 cases env.scope.names.lookup x.1 with
 | none => simp
 | some k => cases k <;> simp
section
variable {base : Heap} {C : Addr} {F : Fz} {ρ : Pl} {h : Heap} {σ : Sto} {env : Env} {η : Vars}
theorem Rel.frame (R : Rel base C env F ρ h η σ) {scope : Scope} (sc : CompSc env scope) {cls : String} {h1 h2 : Heap} {env' : Env} (hh1 : h1 = h.push { cls := .type cls, data := .dict #[] })
  (hh2 : h2 = pushCells h1 scope.names) (hc : env'.cells = cellsFrom h1.objs.size scope.names (clo env scope.names [])) (hL : env'.locals = h.objs.size) (hg : env'.globals = mainGlobals) (hb : env'.builtins = builtinsNs)
  (hkd : env'.scope.kind = .function) (hko : ∀ x, ∃ b : Bool, env'.kindOf x = (scope.names.lookup x).map fun k => if (k == .free && b) = true then .cell else k) :
  Rel base C env' F ρ h2 (freeV scope η) σ ∧ Ext h h2 ∧ (∀ x a, scope.names.lookup x = some .cell → env'.cells.lookup x = some a → h.get? a = none) ∧
   (∀ x a, env'.cells.lookup x = some a → celled env' x) := by
 subst hh1 hh2
 have hsz : (h.push { cls := .type cls, data := .dict #[] }).objs.size = h.objs.size + 1 := Heap.size_push ..
 have E1 : Ext h (h.push { cls := .type cls, data := .dict #[] }) := Ext.push _ _
 have E2 : Ext (h.push { cls := .type cls, data := .dict #[] }) (pushCells (h.push { cls := .type cls, data := .dict #[] }) scope.names) := fun b o e => pushCells_keeps _ _ b o e
 have E := E1.trans E2
 have cloOk : ∀ n a, (n, a) ∈ clo env scope.names [] → (n, NameKind.free) ∈ scope.names ∧ env.cells.lookup n = some a := fun n a hm => by
  rcases clo_mem _ _ _ _ hm with q | ⟨q1, q2⟩
  ·cases q
  ·obtain ⟨b, hb⟩ := R.cellAll n (sc.free _ q1 rfl)
   rw [hb] at q2; exact ⟨q1, by rw [q2]; exact hb⟩
 have cloLt : ∀ n a, (n, a) ∈ clo env scope.names [] → a < h.objs.size := fun n a hm => by
  obtain ⟨q1, q2⟩ := cloOk n a hm
  obtain ⟨v, ⟨o, ho, _⟩, _⟩ := R.cells n a (sc.free _ q1 rfl) q2
  exact Heap.lt_size ho
 obtain ⟨W, Wsub, Wall⟩ := lays_cells (h₀ := h) (cl := clo env scope.names []) (all := scope.names) cloLt scope.names (h.push { cls := .type cls, data := .dict #[] }) (clo env scope.names []) (fun _ hx => hx) (by rw [hsz]; exact Nat.lt_succ_self _)
  ⟨fun n a hm => .inl hm, fun n m a h1 h2 => R.inj n m a (cloOk n a h1).2 (cloOk m a h2).2⟩ (fun n a hm => by rw [hsz]; exact Nat.lt_succ_of_lt (cloLt n a hm))
 rw [← hc] at W Wsub Wall
 have kindOf := hko
 have srcOf : ∀ x a, env'.cells.lookup x = some a → (scope.names.lookup x = some .free ∧ env.cells.lookup x = some a) ∨ (scope.names.lookup x = some .cell ∧ h.get? a = none ∧ (pushCells (h.push { cls := .type cls, data := .dict #[] }) scope.names).IsCell a none ∧ h.objs.size < a) := fun x a hx => by
  have hm := mem_of_lookup hx
  rcases W.src x a hm with q | ⟨q1, q2, q3, q4⟩
  ·obtain ⟨r1, r2⟩ := cloOk x a q
   exact .inl ⟨sc.uniq _ r1, r2⟩
  ·exact .inr ⟨sc.uniq _ q3, q1, q2, q4⟩
 have Fnew : ∀ a, h.get? a = none → F a = none := fun a ha => R.sto.fresh ha
 refine ⟨⟨(Step.ext0 R.sto E).sto, hkd, hg, hb, ⟨fun _ => none, ?_, fun x xv hk hv => ?_⟩, by rw [hL]; exact Fnew _ (get?_size h), fun x hx => ?_, fun x a hx ha => ?_, fun x y a hx hy => W.one x y a (mem_of_lookup hx) (mem_of_lookup hy)⟩, E, fun x a hx ha => ?_, fun x a ha => ?_⟩
 ·rw [hL]; exact (Heap.Ns.new h (.type cls)).keeps E2
 ·exfalso
  have := (vK hv).1
  obtain ⟨b, kb⟩ := kindOf x
  rw [kb, this] at hk
  simp only [Option.map_some, Option.some.injEq] at hk
  split at hk <;> cases hk
 ·have hx' : scope.names.lookup x = some .cell ∨ scope.names.lookup x = some .free := by
   unfold celled at hx
   obtain ⟨b, kb⟩ := kindOf x
   rw [kb] at hx
   revert hx
   cases scope.names.lookup x with
   | none => simp
   | some k =>
    cases k <;> simp
  rcases hx' with hx' | hx'
  ·obtain ⟨a, ha⟩ := Wall x (mem_of_lookup hx')
   exact lookup_of_mem ha
  ·obtain ⟨a, ha⟩ := clo_has (env := env) scope.names [] x (.inl (mem_of_lookup hx'))
   exact lookup_of_mem (Wsub _ ha)
 ·rcases srcOf x a ha with ⟨q1, q2⟩ | ⟨q1, q2, q3, q4⟩
  ·obtain ⟨v, h1, h2, h3⟩ := R.cells x a (sc.free _ (mem_of_lookup q1) rfl) q2
   exact ⟨v, h1.keeps E, h2, fun z xv ez hv => h3 z xv ez (vK hv).2⟩
  ·refine ⟨none, q3, Fnew a q2, fun z xv ez hv => ?_⟩
   have := (vK hv).1
   rw [← ez, q1] at this; cases this
 ·rcases srcOf x a ha with ⟨q1, _⟩ | ⟨_, q2, _⟩
  ·rw [hx] at q1; cases q1
  ·exact q2
 ·unfold celled
  obtain ⟨b, kb⟩ := kindOf x
  rw [kb]
  rcases srcOf x a ha with ⟨q1, _⟩ | ⟨q1, _⟩
  ·rw [q1]
   simp only [Option.map_some, Option.some.injEq]
   split
   ·exact .inl rfl
   ·exact .inr rfl
  ·rw [q1]; exact .inl rfl
noncomputable abbrev compEnv (scope : Scope) (env : Env) (L : Addr) (cells : List (Str × Addr)) : Env :=
 { scope := relabel scope env, locals := L, globals := env.globals, cells := cells, qual := env.qual, func := none, code := env.code, frame := env.frame, builtins := env.builtins }
theorem Rel.comp (R : Rel base C env F ρ h η σ) {scope : Scope} (sc : CompSc env scope) {h1 h2 : Heap} {cells : List (Str × Addr)} (hh1 : h1 = h.push { cls := .type "dict", data := .dict #[] })
  (hh2 : h2 = pushCells h1 scope.names) (hc : cells = cellsFrom h1.objs.size scope.names (clo env scope.names [])) :
  Rel base C (compEnv scope env h.objs.size cells) F ρ h2 (freeV scope η) σ ∧ Ext h h2 ∧ (∀ x a, scope.names.lookup x = some .cell → cells.lookup x = some a → h.get? a = none) ∧
   (∀ x a, cells.lookup x = some a → celled (compEnv scope env h.objs.size cells) x) :=
 R.frame sc hh1 hh2 (env' := compEnv scope env h.objs.size cells) hc rfl R.glob R.blt sc.kind fun x => ⟨env.scope.kind == .function && env.kindOf x == some .cell, by
  refine (lookup_relabel x).trans (congrArg (fun f => Option.map f (scope.names.lookup x)) (funext fun k => ?_))
  rw [Bool.and_assoc]⟩
end
inductive CompAll (P : PyData → List PyData → Prop) : List PyData → List (List PyData) → Prop
 | nil : CompAll P [] []
 | cons {x r xs rs} : P x r → CompAll P xs rs → CompAll P (x :: xs) (r :: rs)
theorem CompAll.map {α : Type} {P : PyData → List PyData → Prop} {f : α → PyData} {g : α → List PyData} : ∀ {ys : List α}, (∀ y ∈ ys, P (f y) (g y)) → CompAll P (ys.map f) (ys.map g)
 | [], _ => .nil
 | y :: r, h => .cons (h y List.mem_cons_self) (CompAll.map fun z hz => h z (List.mem_cons_of_mem _ hz))
noncomputable def CB (scope : Scope) (η : Vars) (σ : Sto) (T : TW) (WT : BW) (WE : EW) (x : PyData) (r : List PyData) : Prop :=
 T (.v x) (freeV scope η) fun η1 => WT η1 σ fun b σ2 => (b = true → WE η1 σ2 fun y σ3 => ∃ d e, y = .v d ∧ r = [d] ∧ σ3 = σ ++ e) ∧ (b = false → r = [] ∧ ∃ e, σ2 = σ ++ e)
section
variable {base : Heap} {C : Addr} {F F' : Fz} {ρ ρ' : Pl} {h h' : Heap} {σ e : Sto}
theorem SRel.drop (S : SRel base C F ρ' h (σ ++ e)) (hp : ρ <+: ρ') (hl : ρ.length = σ.length) : SRel base C F ρ h σ where
 inn := S.inn
 base := S.base
 len := hl
 obj := fun i p m h1 h2 => by
  obtain ⟨r, rfl⟩ := hp
  refine S.obj i p m ?_ ?_
  ·rw [List.getElem?_append_left (List.getElem?_eq_some_iff.mp h1).1]; exact h1
  ·rw [List.getElem?_append_left (List.getElem?_eq_some_iff.mp h2).1]; exact h2
 nd := S.nd.sublist (hp.sublist.map _)
 out := fun i p m h1 h2 => by
  obtain ⟨r, rfl⟩ := hp
  refine S.out i p m ?_ ?_
  ·rw [List.getElem?_append_left (List.getElem?_eq_some_iff.mp h1).1]; exact h1
  ·rw [List.getElem?_append_left (List.getElem?_eq_some_iff.mp h2).1]; exact h2
theorem Step.drop (x : Step base C F ρ h F' ρ' h' (σ ++ e)) (hl : ρ.length = σ.length) : Step base C F ρ h F' ρ h' σ :=
 ⟨x.evo, List.prefix_refl _, fun p hp => .inl hp, x.sto.drop x.pre hl⟩
end
section
variable {prog : Program} {w : World} {A : Around} {E : Value → Shared → Prop} {R : Result → Shared → Prop} {s : Shared}
theorem goOwned {elts : List Expr} {x1} {pos : Pos} {I T : Addr} {cl : String} {vs : Array Value} {o : Obj} {Q : Unit → Shared → Prop} (ho : s.heap.get? I = some o) (hc : o.cls = .type cl) (hd : o.data = .fields vs)
  (hn : ["enumerate", "zip", "dict_itemiterator", "dict_reverseitemiterator", "odict_iterator", "itertools.zip_longest", "itertools.pairwise"].contains cl = false) (hQ : Q () s) :
  wpAny (model prog w) A (letOwnedTupleGo (.Tuple elts x1 pos) (.ref I) (.ref T)) Q E s := by
 unfold letOwnedTupleGo
 refine wpAny_bind (wpAny_load ho ?_)
 rw [hc, hd]
 show wpAny _ A (if (["enumerate", "zip", "dict_itemiterator", "dict_reverseitemiterator", "odict_iterator", "itertools.zip_longest", "itertools.pairwise"].contains cl && vs[0]? == some (rawInt T)) = true then _ else _) Q E s
 rw [if_neg (by rw [hn]; simp)]
 exact wpAny_pure hQ
noncomputable def goes (e : Expr) : Prop := Expr.casesOn e (fun _ _ _ => False) (fun _ _ _ => False) (fun _ _ _ _ => False) (fun _ _ _ => False) (fun _ _ _ _ => False) (fun _ _ _ _ => False) (fun _ _ _ => False) (fun _ _ _ => False) (fun _ _ _ _ => False) (fun _ _ _ _ => False) (fun _ _ _ _ _ => False) (fun _ _ _ _ => False) (fun _ _ => False) (fun _ _ => False) (fun _ _ => False) (fun _ _ _ _ => False) (fun _ _ _ _ => False) (fun _ _ _ _ => False) (fun _ _ => False) (fun _ _ _ => False) (fun _ _ _ => False) (fun _ _ _ => False) (fun _ _ => False) (fun _ _ => True) (fun _ _ => False) (fun _ _ _ => True) (fun _ _ _ _ => False)
theorem goes_e {e : Expr} (h : goes e) : (∃ x p, e = .Name x p) ∨ ∃ es k p, e = .Tuple es k p :=
 Expr.casesOn (motive_1 := fun e => goes e → (∃ x p, e = .Name x p) ∨ ∃ es k p, e = .Tuple es k p) e (fun _ _ _ => False.elim) (fun _ _ _ => False.elim) (fun _ _ _ _ => False.elim) (fun _ _ _ => False.elim) (fun _ _ _ _ => False.elim) (fun _ _ _ _ => False.elim) (fun _ _ _ => False.elim) (fun _ _ _ => False.elim) (fun _ _ _ _ => False.elim) (fun _ _ _ _ => False.elim) (fun _ _ _ _ _ => False.elim) (fun _ _ _ _ => False.elim) (fun _ _ => False.elim) (fun _ _ => False.elim) (fun _ _ => False.elim) (fun _ _ _ _ => False.elim) (fun _ _ _ _ => False.elim) (fun _ _ _ _ => False.elim) (fun _ _ => False.elim) (fun _ _ _ => False.elim) (fun _ _ _ => False.elim) (fun _ _ _ => False.elim) (fun _ _ => False.elim) (fun x p _ => Or.inl ⟨x, p, rfl⟩) (fun _ _ => False.elim) (fun e k p _ => Or.inr ⟨e, k, p, rfl⟩) (fun _ _ _ _ => False.elim) h
theorem go_any {target : Expr} (hg : goes target) {F : Fz} {it : Addr} {xs : List PyData} {v : Value} {Q : Unit → Shared → Prop} (i : ItR F s.heap it xs) (hQ : Q () s) : wpAny (model prog w) A (letOwnedTupleGo target (.ref it) v) Q E s := by
 rcases goes_e hg with ⟨x, p, rfl⟩ | ⟨elts, k, pos, rfl⟩
 ·exact wpAny_pure hQ
 ·cases v with
  | ref T =>
   cases i with
   | list a => exact a.elim fun o w => goOwned w.1 w.2.1 w.2.2 (by decide) hQ
   | tuple a => exact a.elim fun o w => goOwned w.1 w.2.1 w.2.2 (by decide) hQ
   | range a => exact goOwned a rfl rfl (by decide) hQ
   | wide a => exact a.elim fun o w => goOwned w.1 w.2.1 w.2.2 (by decide) hQ
   | ascii a => exact a.elim fun o w => goOwned w.1 w.2.1 w.2.2 (by decide) hQ
  | _ => exact wpAny_pure hQ
noncomputable def CompK (prog : Program) (w : World) (A : Around) (elt target : Expr) (ifs : List Expr) (it acc : Value) (env : Env) (R : Result → Shared → Prop) (T : Shared → Prop) (r : Option Value) (s₁ : Shared) : Prop := match r with
 | none => R (.ok .next) s₁
 | some v => wpAny (model prog w) A (letOwnedTupleGo target it v) (fun _ s₁' => wpAny (model prog w) A (assign target env v) (fun _ s₂ =>
     wpAny (model prog w) A (forIn ifs true fun c r => if r = true then do let ok ← isTrue c env (eval c env); pure (ForInStep.yield ok) else pure (ForInStep.yield r)) (fun ok s₃ =>
      if ok = true then wpAny (model prog w) A (eval elt env) (fun x s₄ =>
       wpAny (model prog w) A (call (.builtin "list.append") [acc, x]) (fun _ s₅ => T s₅) (notedBy (model prog w) A env fun e s' => R (.error e) s') s₄) (notedBy (model prog w) A env fun e s' => R (.error e) s') s₃
      else T s₃) (notedBy (model prog w) A env fun e s' => R (.error e) s') s₂) (notedBy (model prog w) A env fun e s' => R (.error e) s') s₁')
      (notedBy (model prog w) A env fun e s' => R (.error e) s') s₁
theorem compLoop_go {elt target iter : Expr} {ifs : List Expr} {scope : Scope} {pos : Pos} {it acc : Value} {env : Env} (I : Nat → Shared → Prop)
  (turn : ∀ n s, I n s → wpAny (model prog w) A (pyNext it) (CompK prog w A elt target ifs it acc env R fun s' => ∃ m, m < n ∧ I m s') (notedBy (model prog w) A env fun e s' => R (.error e) s') s)
  (n : Nat) (h : I n s) : codeAny (model prog w) A (.compLoop (.ListComp elt [⟨target, iter, ifs, 0⟩] scope pos) 0 it acc env) R s := by
 refine codeAny_loop rfl I (fun n s hI => ?_) n h
 show wpAny _ A ((compTurn (.ListComp elt [⟨target, iter, ifs, 0⟩] scope pos) 0 it acc env).onRaise (fun x => do noteFrame x env; theTreesLotGoes x)) _ _ s
 refine wpAny_noted ?_
 rw [compTurn_list]
 refine wpAny_bind (wpAny_standAt (wpAny_bind (wpAny_mono (turn n s hI) (fun r s₁ h₁ => ?_) fun _ _ h' => h')))
 cases r with
 | none => exact wpAny_pure h₁
 | some v =>
  refine wpAny_bind (wpAny_mono h₁ (fun _ s₁' h₁' => ?_) fun _ _ h' => h')
  refine wpAny_bind (wpAny_mono h₁' (fun _ s₂ h₂ => wpAny_bind (wpAny_mono h₂ (fun ok s₃ h₃ => ?_) fun _ _ h' => h')) fun _ _ h' => h')
  cases ok with
  | false => exact wpAny_pure ⟨rfl, h₃⟩
  | true =>
   exact wpAny_bind (wpAny_bind (wpAny_mono h₃ (fun x s₄ h₄ => wpAny_bind (wpAny_mono h₄ (fun _ s₅ h₅ => wpAny_pure (wpAny_pure ⟨rfl, h₅⟩)) fun _ _ h' => h')) fun _ _ h' => h'))
end
noncomputable def TsOK (c : Cx) (env : Env) (ifs : List Expr) (W : BW) : Prop :=
 ∀ (E : Value → Shared → Prop) (K : Bool → Shared → Prop) F ρ η σ (s : Shared) Q, Rel c.base c.C env F ρ s.heap η σ → W η σ Q →
  (∀ b F' ρ' σ' h' tk', Step c.base c.C F ρ s.heap F' ρ' h' σ' → Q b σ' → K b { s with heap := h', toks := tk' }) →
  wpAny c.M c.A (forIn ifs true fun c r => if r = true then do let ok ← isTrue c env (eval c env); pure (ForInStep.yield ok) else pure (ForInStep.yield r)) K E s
theorem pW {c : Cx} {env : Env} : TsOK c env [] (fun _ σ Q => Q true σ) :=
 fun _ _ F ρ _ σ s _ R hW hK => wpAny_tests_nil (hK true F ρ σ s.heap s.toks (.refl R.sto) hW)
theorem tsok_one {c : Cx} {env : Env} {e : Expr} {W} (h : TOK c env (isTrue e env (eval e env)) W) : TsOK c env [e] W :=
 fun E K F ρ η σ s Q R hW hK => wpAny_tests_one (h E K F ρ η σ s Q R hW hK)
section
variable {base : Heap} {C : Addr} {F F' F'' : Fz} {ρ ρ' : Pl} {h h' h'' : Heap} {σ σ' : Sto} {env : Env} {η : Vars} {P : Str → Prop} {X : Addr → Prop}
theorem Step.andThen (x : Step base C F ρ h F' ρ' h' σ') (y : Evo X F' h' F'' h'') (hX : ∀ a, X a → Mut ρ a ∨ h.get? a = none) (S : SRel base C F'' ρ' h'' σ') : Step base C F ρ h F'' ρ' h'' σ' :=
 ⟨x.evo.trans y hX, x.pre, x.new, S⟩
theorem Evo.but {a : Addr} (i : FIn F h) (hF : F a = none) (hs : ∀ b o, b ≠ a → h.get? b = some o → h'.get? b = some o) : Evo (· = a) F h F h' :=
 ⟨FLe.refl F, fun b o e => hs b o (fun q => by rw [q, hF] at e; cases e) (i b o e), fun _ _ e => .inl e, fun b o e hx => .inl (hs b o hx e)⟩
theorem Rel.offSeq (R : Rel base C env F ρ h η σ) {a : Addr} {vs : Array Value} (l : h.IsList a vs) (hm : ¬ Mut ρ a) (hcl : ∀ x a, env.cells.lookup x = some a → celled env x) : Off env ρ (· = a) where
 muts := fun p hp q => hm ⟨p, hp, q⟩
 loc := fun q => by
  refine dEAAE l fun o e _ n hd => ?_
  refine dEA R.ns fun m hN1 _ => ?_
  obtain ⟨o', es, ep, ho, hd', _⟩ := hN1
  rw [q, e] at ho; cases ho; rw [hd] at hd'; cases hd'
 cel := fun x b hb q => by
  refine dEAAE l fun o e _ n hd => ?_
  refine dEA (R.cells x b (hcl x b hb) hb) fun v hN2 _ => ?_
  obtain ⟨o', ho, hd'⟩ := hN2
  rw [q, e] at ho; cases ho; rw [hd] at hd'; cases hd'
theorem Off.sx {a : Addr} (o : Off env ρ (· = a)) : ¬ SX env P ρ a := by
 rintro (⟨p, hp, e⟩ | e | ⟨x, _, _, hc⟩)
 ·exact o.muts p hp e
 ·exact o.loc e.symm
 ·exact o.cel x a hc rfl
noncomputable def freeze (F : Fz) (a : Addr) (h : Heap) : Fz := fun b => if b = a then h.get? a else F b
theorem freeze_le {a : Addr} (hF : F a = none) : FLe F (freeze F a h) := fun b o e => by
 unfold freeze
 rw [if_neg (fun q => by rw [q, hF] at e; cases e)]; exact e
theorem freeze_in {a : Addr} (i : FIn F h) : FIn (freeze F a h) h := fun b o e => by
 unfold freeze at e
 split at e
 ·rename_i q; rw [q]; exact e
 ·exact i b o e
theorem Evo.freeze {a : Addr} (i : FIn F h) (hF : F a = none) : Evo (· = a) F h (Mine.freeze F a h) h :=
 ⟨freeze_le hF, freeze_in i, fun b o e => by
  unfold Mine.freeze at e
  split at e
  ·rename_i q; exact .inr (.inr q)
  ·exact .inl e, fun b o e _ => .inl e⟩
end
noncomputable def TKeep (scope : Scope) (T : TW) : Prop := ∀ x η0 Q, (∀ y v, vget y η0 = some v → scope.names.lookup (y : Str) = some .free) → T x η0 Q → T x η0 fun η1 => Q η1 ∧ VLe η0 η1
section
variable {c : Cx} {env : Env}
theorem comp_core (hh : c.A.handled = none) {elt target iter : Expr} {ifs : List Expr} {scope : Scope} {pos : Pos} {T : TW} {WT : BW} {WE : EW} {P : Str → Prop} (hg : goes target) (sc : CompSc env scope)
  (hP : ∀ x, P x → scope.names.lookup x = some .local ∨ scope.names.lookup x = some .cell)
  (hA : ∀ L cells, AOK c (compEnv scope env L cells) P target T) (hk : TKeep scope T)
  (hT : ∀ L cells, TsOK c (compEnv scope env L cells) ifs WT) (hE : ∀ L cells, EOK c (compEnv scope env L cells) (eval elt (compEnv scope env L cells)) WE)
  {E : Value → Shared → Prop} {F : Fz} {ρ : Pl} {η : Vars} {σ : Sto} {s : Shared} {v : Value} {x : XV} {xs : List PyData} {rs : List (List PyData)}
  (R : Rel c.base c.C env F ρ s.heap η σ) (X : XR F ρ v x) (hx : iterOf x = some xs) (hrs : CompAll (CB scope η σ T WT WE) xs rs) (hsz : rs.flatten.length ≤ sizeLine)
  {RR : Value → Addr → Result → Shared → Prop}
  (hRR : ∀ acc L F' h' tk m, VR F' acc (.list rs.flatten) → Step c.base c.C F ρ s.heap F' ρ h' σ → h'.Ns L m → s.heap.get? L = none → F' L = none → RR acc L (.ok .next) { s with heap := h', toks := tk }) :
  wpAny c.M c.A (pyIter v) (fun it s₂ => wpAny c.M c.A (newList []) (fun acc s₃ => wpAny c.M c.A (newFunctionEnv scope env.globals (clo env scope.names []) [] env.qual none .none (some env)) (fun cenv s₄ =>
   codeAny c.M c.A (.compStart (.ListComp elt [⟨target, iter, ifs, 0⟩] scope pos) 0 it acc { cenv with scope := relabel scope env }) (RR acc cenv.locals) s₄) E s₃) E s₂) E s := by
 refine iter_start R.sto.inn X hx fun it h1 x1 it0 I1 => ?_
 have S1 : Step c.base c.C F ρ s.heap F ρ h1 σ := .ext0 R.sto x1
 have R1 : Rel c.base c.C env F ρ h1 η σ := R.step S1
 refine wpAny_newObj_type ?_
 simp only [newFunctionEnv]
 refine wpAny_bind (wpAny_alloc ?_)
 refine wpAny_bind (wpAny_layCells _ (fun name kind cells => by cases hkc : kind == NameKind.cell <;> simp [hkc]) _ _ _ _ ?_)
 generalize hh2 : h1.push { cls := .type "list", dict := none, data := .seq ([] : List Value).toArray } = h2
 have x2 : Ext h1 h2 := hh2 ▸ Ext.push _ _
 have S2 : Step c.base c.C F ρ s.heap F ρ h2 σ := .ext0 R.sto (x1.trans x2)
 have R2 : Rel c.base c.C env F ρ h2 η σ := R.step S2
 dsimp only [Option.isSome_some, if_true]
 refine dAAA (R2.comp sc rfl rfl rfl) fun R3 x3 hnew hcl => ?_
 generalize hh3 : pushCells (h2.push { cls := .type "dict", data := .dict #[] }) scope.names = h3 at R3 x3 hnew hcl
 generalize hcells : cellsFrom (h2.push { cls := .type "dict", data := .dict #[] }).objs.size scope.names (clo env scope.names []) = cells at R3 x3 hnew hcl
 refine wpAny_bind (wpAny_pure (wpAny_pure ?_))
 have acc0 : h1.get? h1.objs.size = none := get?_size _
 have accL : h2.IsList h1.objs.size #[] := by
  rw [← hh2]; exact ⟨_, Heap.get?_push_size _ rfl, rfl, _, rfl⟩
 have back : ∀ a, h1.get? a = none → s.heap.get? a = none := fun _ => x1.gone
 have back2 : ∀ a, h2.get? a = none → s.heap.get? a = none := fun _ ha => x1.gone (x2.gone ha)
 have Fnew : ∀ a, s.heap.get? a = none → F a = none := fun _ => R.sto.fresh
 have mutNew : ∀ a, s.heap.get? a = none → ¬ Mut ρ a := fun _ => R.sto.noMut
 generalize hacc : h1.objs.size = acc at acc0 accL
 have loc0 : s.heap.get? h2.objs.size = none := back2 _ (get?_size _)
 generalize hloc : h2.objs.size = loc at loc0 R3 hnew hcl
 have S3 : Step c.base c.C F ρ s.heap F ρ h3 σ := .ext0 R.sto ((x1.trans x2).trans x3)
 have I3 : ItR F h3 it xs := (I1.mono (.ext0 (X := Mut ρ) R1.sto.inn x2) (mutNew it it0)).mono (.ext0 R2.sto.inn x3) (mutNew it it0)
 have accL3 : h3.IsList acc #[] := let ⟨o, e, r⟩ := accL; ⟨o, x3 _ _ e, r⟩
 have acc0s := back acc acc0
 have freeOnly : ∀ y u, vget y (freeV scope η) = some u → scope.names.lookup (y : Str) = some .free := fun y u e => (vK e).1
 have hSX : ∀ a, SX (compEnv scope env loc cells) P ρ a → Mut ρ a ∨ s.heap.get? a = none := by
  rintro a (q | q | ⟨y, hy, hyk, hc⟩)
  ·exact .inl q
  ·exact .inr (q ▸ loc0)
  ·refine .inr (back2 a (hnew y a ?_ hc))
   rcases hP y hy with q | q
   ·exfalso
    have : (compEnv scope env loc cells).kindOf y = some .local := lookup_relabel_local q
    rw [this] at hyk; cases hyk
   ·exact q
 -- the loop
 have start : codeAny c.M c.A (.compLoop (.ListComp elt [⟨target, iter, ifs, 0⟩] scope pos) 0 (.ref it) (.ref acc) (compEnv scope env loc cells)) (RR (.ref acc) loc) { s with heap := h3 } := by
  have hA' := hA loc cells
  have hT' := hT loc cells
  have hE' := hE loc cells
  have hcl' : ∀ x a, (compEnv scope env loc cells).cells.lookup x = some a → celled (compEnv scope env loc cells) x := hcl
  have hlc : (compEnv scope env loc cells).locals = loc := rfl
  clear hcl
  generalize compEnv scope env loc cells = ce at hA' hT' hE' hcl' hSX R3 hlc ⊢
  obtain ⟨J, hJ1, hJ2⟩ : ∃ J : Nat → Shared → Prop, (∀ n st, J n st → ∃ todo rtodo rdone Fi, todo.length = n ∧ CompAll (CB scope η σ T WT WE) todo rtodo ∧ rdone ++ rtodo = rs ∧ ∃ hi tk vs, st = { s with heap := hi, toks := tk } ∧ Rel c.base c.C ce Fi ρ hi (freeV scope η) σ ∧
    Step c.base c.C F ρ s.heap Fi ρ hi σ ∧ ItR Fi hi it todo ∧ Fi it = none ∧ Fi acc = none ∧ hi.IsList acc vs ∧ VRs Fi vs.toList rdone.flatten) ∧
    ∀ todo rtodo rdone Fi hi tk vs, CompAll (CB scope η σ T WT WE) todo rtodo → rdone ++ rtodo = rs → Rel c.base c.C ce Fi ρ hi (freeV scope η) σ → Step c.base c.C F ρ s.heap Fi ρ hi σ → ItR Fi hi it todo → Fi it = none → Fi acc = none → hi.IsList acc vs → VRs Fi vs.toList rdone.flatten → J todo.length { s with heap := hi, toks := tk } :=
   ⟨_, fun _ _ h => h, fun todo rtodo rdone Fi hi tk vs a1 a2 a3 a4 a5 a6 a7 a8 a9 => ⟨todo, rtodo, rdone, Fi, rfl, a1, a2, hi, tk, vs, rfl, a3, a4, a5, a6, a7, a8, a9⟩⟩
  refine compLoop_go J ?_ xs.length (hJ2 xs rs [] F h3 s.toks #[] hrs rfl R3 S3 I3 (Fnew _ it0) (Fnew _ acc0s) accL3 .nil)
  intro n st hI
  refine qC fun PP kG => ?_
  obtain ⟨todo, rtodo, rdone, Fi, hn, hall, hrs', hi, tki, vs, hst, Ri, Si, Ii, Fit, Facc, Lacc, Vacc⟩ := (hJ1 n st hI)
  clear hI
  subst hn hst
  refine dEEAA Ii.obj fun o ovs ho hod hoT => ?_
  have offI := Ri.off ho hod Fit hcl' (mutNew it it0)
  have offA := Ri.offSeq Lacc (mutNew _ acc0s) hcl'
  have hne : acc ≠ it := fun q => Lacc.elim fun o' w => w.2.2.elim fun n' d' => nomatch hod.symm.trans ((congrArg Obj.data (Option.some.inj (ho.symm.trans (q ▸ w.1)))).trans d')
  refine kG ?_
  clear kG PP
  cases hall with
  | nil =>
   refine itr_end hh Ri.sto.inn Ii fun h' hs => ?_
   have ev := Evo.but Ri.sto.inn Fit hs
   have Ra := Ri.along ev offI
   have Sa := Si.andThen ev (fun a e => .inr (e ▸ it0)) Ra.sto
   refine dEA Ra.ns fun m hm _ => ?_
   have La : h'.IsList acc vs := ev.isList Lacc hne
   have ef := Evo.freeze (a := acc) Ra.sto.inn Facc
   have Rf := Ra.along ef (Ra.offSeq La (mutNew _ acc0s) hcl')
   refine dEAAE La fun ol ho1 ho2 nn ho3 => ?_
   unfold CompK
   refine hRR _ _ _ _ _ m (VR.list (o := ol) (vs := vs) (n := nn) ?_ ho2 ho3 ?_) (Sa.andThen ef (fun a e => .inr (e ▸ acc0s)) Rf.sto) (hlc ▸ hm) loc0 (hlc ▸ Rf.nsF)
   ·unfold freeze; rw [if_pos rfl]; exact ho1
   ·rw [List.append_nil] at hrs'
    rw [← hrs']; exact Vacc.mono ef.le
  | @cons d r todo rtodo hd hall =>
   refine itr_item Ri.sto.inn Ii Fit fun v1 h1' tk1 V1 I1' hs1 => ?_
   have ev := Evo.but Ri.sto.inn Fit (fun b o hb e => (hs1 b hb).trans e)
   have Ra := Ri.along ev offI
   have Sa := Si.andThen ev (fun a e => .inr (e ▸ it0)) Ra.sto
   have La : h1'.IsList acc vs := ev.isList Lacc hne
   unfold CompK
   refine go_any (s := { s with heap := h1', toks := tk1 }) hg I1' ?_
   refine hA' _ _ _ _ _ _ _ _ _ _ Ra (.v V1) (hk _ _ _ freeOnly hd) fun η1 h2' tk2 Rb Vb hQb => ?_
   obtain ⟨hQb, hle⟩ := hQb
   have Sb := Sa.andThen Vb.evo hSX Rb.sto
   refine dEEAA I1'.obj fun o ovs ho hod hoT => ?_
   have Ib := I1'.mono Vb.evo (Ra.off ho hod Fit hcl' (mutNew it it0)).sx
   have Lb : h2'.IsList acc vs := Vb.evo.isList La (Ra.offSeq La (mutNew _ acc0s) hcl').sx
   refine hT' _ _ _ _ _ _ _ _ Rb hQb fun b F3 ρ3 σ3 h3' tk3 S3' hQ3 => ?_
   have fin : ∀ (F4 : Fz) (h4 : Heap) (tk4 : Tok) (rd : List (List PyData)) us, rd ++ rtodo = rs → Rel c.base c.C ce F4 ρ h4 η1 σ → Step c.base c.C F ρ s.heap F4 ρ h4 σ → ItR F4 h4 it todo → F4 it = none → F4 acc = none → h4.IsList acc us → VRs F4 us.toList rd.flatten →
     ∃ m, m < (d :: todo).length ∧ J m { s with heap := h4, toks := tk4 } :=
    fun F4 h4 tk4 rd us hrd R4 S4 I4 Fi4 Fa4 hl hv => ⟨todo.length, Nat.lt_succ_self _, hJ2 todo rtodo rd F4 h4 tk4 us hall hrd (R4.forget hle) S4 I4 Fi4 Fa4 hl hv⟩
   have It : ∀ F4 h4, Step c.base c.C Fi ρ h2' F4 ρ h4 σ → ItR F4 h4 it todo ∧ F4 it = none ∧ F4 acc = none ∧ h4.IsList acc vs := fun F4 h4 S4 => by
    exact ⟨Ib.mono S4.evo (mutNew _ it0), S4.evo.none_of Fit (Ib.obj.elim fun o w => w.elim fun _ w => ⟨o, w.1⟩) (mutNew _ it0), S4.evo.none_of Facc (Lb.elim fun o w => ⟨o, w.1⟩) (mutNew _ acc0s), S4.evo.isList Lb (mutNew _ acc0s)⟩
   cases b with
   | false =>
    refine dAE (hQ3.2 rfl) fun hR3 e hR4 => ?_
    subst hR3
    subst hR4
    have S4 := S3'.drop Rb.sto.len
    refine dAAA (It _ _ S4) fun q1 q2 q3 q4 => ?_
    rw [if_neg Bool.false_ne_true]
    refine fin F3 h3' tk3 (rdone ++ [[]]) vs (by simpa using hrs') (Rb.step S4) (Sb.trans S4) q1 q2 q3 q4 ?_
    simpa using Vacc.mono S4.evo.le
   | true =>
    rw [if_pos rfl]
    refine hE' _ _ _ _ _ _ _ _ (Rb.step S3') (hQ3.1 rfl) fun v4 x4 F4 ρ4 σ4 h4 tk4 X4 S4' hQ4 => ?_
    refine dEEAA hQ4 fun dd e hR5 hR6 hR7 => ?_
    subst hR5
    subst hR6
    subst hR7
    replace X4 := X4.eV
    have S4 := (S3'.trans S4').drop Rb.sto.len
    refine dAAA (It _ _ S4) fun q1 q2 q3 L4 => ?_
    have hlen : vs.size ≤ sizeLine := by
     have e1 := (Vacc).length
     have e2 : rdone.flatten.length ≤ rs.flatten.length := by rw [← hrs', List.flatten_append, List.length_append]; exact Nat.le_add_right _ _
     rw [Array.length_toList] at e1; exact (qA [_,_,_,_] 1 (.v 0) (.v 1) (.c 1 (.v 2) (.v 3) (.c 1 (.v 0) (.v 2) (.c 1 (.v 3) (.v 1) .z))) rfl e2 (uJ e1) hsz)
    refine wpAny_list_append (s := { s with heap := h4, toks := tk4 }) L4 (fun h5 L5 hs5 => ?_) hlen
    have ev5 := Evo.but S4.sto.inn q3 (fun b o hb e => (hs5.2 b hb).trans e)
    have R4 := Rb.step S4
    have R5 := R4.along ev5 (R4.offSeq L4 (mutNew _ acc0s) hcl')
    refine fin F4 h5 tk4 (rdone ++ [[dd]]) _ (by simpa using hrs') R5 ((Sb.trans S4).andThen ev5 (fun a e => .inr (e ▸ acc0s)) R5.sto) (q1.mono ev5 (Ne.symm hne)) q2 q3 L5 ?_
    rw [Array.toList_push, List.flatten_append]
    simpa using (Vacc.mono S4.evo.le).append (.cons X4 .nil)
 subst hcells hh3
 exact codeAny_compStart_list start (itr_again (s := { s with heap := _ }) I3 start)
end
noncomputable abbrev AnyNm : Str → Prop := fun _ => True
noncomputable abbrev SW := Vars → Sto → (Vars → Sto → Prop) → (XV → Sto → Prop) → Prop
noncomputable def wCons (W1 W2 : SW) : SW := fun η σ N Rt => W1 η σ (fun η1 σ1 => W2 η1 σ1 N Rt) Rt
noncomputable def wAsg (x : String) (W : EW) : SW := fun η σ N _ => W η σ fun y σ1 => N (vset x y η) σ1
noncomputable def wIf (WT : BW) (W1 W2 : SW) : SW := fun η σ N Rt => WT η σ fun b σ1 => (b = true → W1 η σ1 N Rt) ∧ (b = false → W2 η σ1 N Rt)
noncomputable def wRet (W : EW) : SW := fun η σ _ Rt => W η σ fun y σ1 => Rt y σ1
noncomputable def SOK (c : Cx) (env : Env) (t : Sem Flow) (W : SW) : Prop :=
 ∀ (E : Value → Shared → Prop) (K : Flow → Shared → Prop) F ρ η σ (s : Shared) N Rt, Rel c.base c.C env F ρ s.heap η σ → W η σ N Rt →
  (∀ F' ρ' η' σ' h' tk', Rel c.base c.C env F' ρ' h' η' σ' → SEvo env AnyNm F ρ s.heap F' ρ' h' → N η' σ' → K .next { s with heap := h', toks := tk' }) →
  (∀ v x F' ρ' η' σ' h' tk', Rel c.base c.C env F' ρ' h' η' σ' → SEvo env AnyNm F ρ s.heap F' ρ' h' → XR F' ρ' v x → Rt x σ' → K (.ret v) { s with heap := h', toks := tk' }) →
  wpAny c.M c.A t K E s
section
variable {c : Cx} {env : Env}
theorem SOK.weak {t : Sem Flow} {W W' : SW} (h : SOK c env t W) (hw : ∀ η σ N Rt, W' η σ N Rt → W η σ N Rt) : SOK c env t W' :=
 fun E K F ρ η σ s N Rt R hW hN hR => h E K F ρ η σ s N Rt R (hw _ _ _ _ hW) hN hR
theorem jP : SOK c env (execs [] env) (fun η σ N _ => N η σ) :=
 fun _ _ F ρ η σ s _ _ R hW hN _ => wpAny_execs_nil (hN F ρ η σ s.heap s.toks R (.refl R.sto.inn) hW)
theorem jK {st : Stmt} {rest : List Stmt} {W1 W2 : SW} (h1 : SOK c env (exec st env) W1) (h2 : SOK c env (execs rest env) W2) :
  SOK c env (execs (st :: rest) env) (wCons W1 W2) := by
 intro E K F ρ η σ s N Rt R hW hN hR
 refine wpAny_execs_cons (h1 E _ F ρ η σ s _ _ R hW (fun F1 ρ1 η1 σ1 h1 t1 R1 V1 hW1 => ?_) fun v x F1 ρ1 η1 σ1 h1 t1 R1 V1 X1 hQ => hR v x F1 ρ1 η1 σ1 h1 t1 R1 V1 X1 hQ)
 refine h2 E _ F1 ρ1 η1 σ1 _ _ _ R1 hW1 (fun F2 ρ2 η2 σ2 h2 t2 R2 V2 hQ => ?_) fun v x F2 ρ2 η2 σ2 h2 t2 R2 V2 X2 hQ => ?_
 ·exact hN F2 ρ2 η2 σ2 h2 t2 R2 (V1.trans R1 V2 R2.sto.nd) hQ
 ·exact hR v x F2 ρ2 η2 σ2 h2 t2 R2 (V1.trans R1 V2 R2.sto.nd) X2 hQ
theorem jZ {x : String} {p pos : Pos} {value : Expr} {W} (hk : stNm env x = true) (h : EOK c env (eval value env) W) (hs : swapsWith value (some (.Name x p)) pos.line env = pure false := by rfl) :
  SOK c env (exec (.Assign [.Name x p] value pos) env) (wAsg x W) := by
 intro E K F ρ η σ s N Rt R hW hN hR
 refine wpAny_Assign_Name (h E _ F ρ η σ s _ R hW fun v1 x1 F1 ρ1 σ1 hp1 t1 X1 S1 hW1 => ?_) hs
 have R1 := R.step S1
 refine (R1.store (s := { s with heap := hp1, toks := t1 }) (P := AnyNm) trivial hk X1) fun h2 t2 R2 V2 => ?_
 exact hN F1 ρ1 _ σ1 h2 t2 R2 (S1.sevo.trans R1 V2 R2.sto.nd) hW1
theorem sok_expr {e : Expr} {pos : Pos} {W} (h : EOK c env (eval e env) W) (hi : interactive env = false := by rfl) (hs : swapsWith e none pos.line env = pure false := by rfl) :
  SOK c env (exec (.Expr e pos) env) (fun η σ N _ => W η σ fun y σ1 => y = .v .none ∧ N η σ1) := by
 intro E K F ρ η σ s N Rt R hW hN hR
 refine wpAny_Expr (h E _ F ρ η σ s _ R hW fun v1 x1 F1 ρ1 σ1 hp1 t1 X1 S1 hW1 => ?_) hi hs
 obtain ⟨rfl, hW1⟩ := hW1
 cases X1 with
 | v X1 => cases X1; exact hN F1 ρ1 η σ1 hp1 t1 (R.step S1) S1.sevo hW1
theorem pS {test : Expr} {body orelse : List Stmt} {pos : Pos} {WT : BW} {W1 W2 : SW} (ht : TOK c env (isTrue test env (eval test env)) WT) (h1 : SOK c env (execs body env) W1) (h2 : SOK c env (execs orelse env) W2) :
  SOK c env (exec (.If test body orelse pos) env) (wIf WT W1 W2) := by
 intro E K F ρ η σ s N Rt R hW hN hR
 refine wpAny_If (ht E _ F ρ η σ s _ R hW fun b F1 ρ1 σ1 hp1 t1 S1 hW1 => ?_)
 have R1 := R.step S1
 cases b with
 | true =>
  rw [if_pos rfl]
  exact h1 E _ F1 ρ1 η σ1 _ N Rt R1 (hW1.1 rfl) (fun F2 ρ2 η2 σ2 h2 t2 R2 V2 hQ => hN F2 ρ2 η2 σ2 h2 t2 R2 (S1.sevo.trans R1 V2 R2.sto.nd) hQ)
   fun v x F2 ρ2 η2 σ2 h2 t2 R2 V2 X2 hQ => hR v x F2 ρ2 η2 σ2 h2 t2 R2 (S1.sevo.trans R1 V2 R2.sto.nd) X2 hQ
 | false =>
  rw [if_neg Bool.false_ne_true]
  exact h2 E _ F1 ρ1 η σ1 _ N Rt R1 (hW1.2 rfl) (fun F2 ρ2 η2 σ2 h2 t2 R2 V2 hQ => hN F2 ρ2 η2 σ2 h2 t2 R2 (S1.sevo.trans R1 V2 R2.sto.nd) hQ)
   fun v x F2 ρ2 η2 σ2 h2 t2 R2 V2 X2 hQ => hR v x F2 ρ2 η2 σ2 h2 t2 R2 (S1.sevo.trans R1 V2 R2.sto.nd) X2 hQ
theorem sok_assert {test : Expr} {pos : Pos} {WT : BW} (hh : c.A.handled = none) (ht : TOK c env (isTrue test env (eval test env)) WT) : SOK c env (exec (.Assert test none pos) env) (fun η σ N _ => WT η σ fun b σ1 => b = true ∧ N η σ1) := by
 intro E K F ρ η σ s N Rt R hW hN hR
 refine wpAny_Assert hh (ht E _ F ρ η σ s _ R hW fun b F1 ρ1 σ1 hp1 t1 S1 hW1 => ?_)
 obtain ⟨rfl, hW1⟩ := hW1
 rw [if_pos rfl]
 exact hN F1 ρ1 η σ1 hp1 t1 (R.step S1) S1.sevo hW1
theorem pC {e : Expr} {pos : Pos} {W} (h : EOK c env (eval e env) W) : SOK c env (exec (.Return (some e) pos) env) (wRet W) := by
 intro E K F ρ η σ s N Rt R hW hN hR
 exact wpAny_Return_some (h E _ F ρ η σ s _ R hW fun v1 x1 F1 ρ1 σ1 hp1 t1 X1 S1 hW1 => hR v1 x1 F1 ρ1 η σ1 hp1 t1 (R.step S1) S1.sevo X1 hW1)
theorem sok_aug {x : String} {p pos : Pos} {op : Operator} {value : Expr} {W O} (hk : stNm env x = true) (hv : varNm env x = true) (h : EOK c env (eval value env) W) (ho : Op2 c (inplaceOp op) O) :
  SOK c env (exec (.AugAssign (.Name x p) op value pos) env) (fun η σ N _ => ifS (vget x η) fun old => W η σ fun y σ1 => O old y σ1 fun z σ2 => N (vset x z η) σ2) := by
 intro E K F ρ η σ s N Rt R hW hN hR
 refine qC fun P kG => ?_
 obtain ⟨old, e1, hW⟩ := ifS_e hW
 obtain ⟨q1, q2, _⟩ := kQ hv
 refine kG ?_
 clear kG P
 refine wpAny_AugAssign_Name (R.lookup e1 q1 q2 fun v X => ?_)
 refine h E _ F ρ η σ s _ R hW fun v1 x1 F1 ρ1 σ1 hp1 t1 X1 S1 hW1 => ?_
 refine ho E _ F1 ρ1 σ1 _ v v1 old x1 _ S1.sto (X.mono S1.evo.le S1.pre) X1 hW1 fun v2 x2 F2 ρ2 σ2 hp2 t2 X2 S2 hQ => ?_
 have R2 := R.step (S1.trans S2)
 refine (R2.store (s := { s with heap := hp2, toks := t2 }) (P := AnyNm) trivial hk X2) fun h3 t3 R3 V3 => ?_
 exact hN F2 ρ2 _ σ2 h3 t3 R3 ((S1.trans S2).sevo.trans R2 V3 R3.sto.nd) hQ
noncomputable def vsetX : List String → List XV → Vars → Vars
 | n :: ns, d :: ds, η => vsetX ns ds (vset n d η)
 | _, _, η => η
theorem XRs.length {F : Fz} {ρ : Pl} : ∀ {vs xs}, XRs F ρ vs xs → vs.length = xs.length
 | _, _, .nil => rfl
 | _, _, .cons _ r => congrArg (· + 1) r.length
theorem XRs.append {F : Fz} {ρ : Pl} : ∀ {vs xs us ys}, XRs F ρ vs xs → XRs F ρ us ys → XRs F ρ (vs ++ us) (xs ++ ys)
 | _, _, _, _, .nil, h => h
 | _, _, _, _, .cons a r, h => .cons a (r.append h)
theorem XRs.reverse {F : Fz} {ρ : Pl} : ∀ {vs xs}, XRs F ρ vs xs → XRs F ρ vs.reverse xs.reverse
 | _, _, .nil => .nil
 | _, _, .cons a r => by rw [List.reverse_cons, List.reverse_cons]; exact r.reverse.append (.cons a .nil)
theorem storeXs {P : Str → Prop} : ∀ (ns : List (String × (Value → Sem Unit))) (E : Value → Shared → Prop) (K : Unit → Shared → Prop) F ρ η σ (s : Shared) vs xs, Rel c.base c.C env F ρ s.heap η σ → XRs F ρ vs xs →
  (∀ n ∈ ns, P n.1 ∧ stNm env n.1 = true ∧ ∀ (E : Value → Shared → Prop) (Q : Unit → Shared → Prop) v s, wpAny c.M c.A (storeName env n.1 v) Q E s → wpAny c.M c.A (n.2 v) Q E s) → ns.length = xs.length →
  (∀ h' tk', Rel c.base c.C env F ρ h' (vsetX (ns.map (·.1)) xs η) σ → SEvo env P F ρ s.heap F ρ h' → K () { s with heap := h', toks := tk' }) →
  wpAny c.M c.A (assignInOrder (ns.map (·.2)) vs) K E s
 := by
 intro ns
 induction ns with
 | nil =>
  intro E K F ρ η σ s vs xs R X _ hl hK
  cases X with
  | nil => exact wpAny_assignInOrder_none (hK s.heap s.toks R (.refl R.sto.inn))
  | cons a b => cases hl
 | cons n ns ih =>
  intro E K F ρ η σ s vs xs R X hk hl hK
  cases X with
  | nil => cases hl
  | cons a b =>
   obtain ⟨k1, k2, k3⟩ := hk n List.mem_cons_self
   refine wpAny_assignInOrder_more (k3 _ _ _ _ (R.store k1 k2 a fun h' tk R' x' => ?_))
   refine ih E K F ρ _ σ _ _ _ R' b (fun m hm => hk m (List.mem_cons_of_mem _ hm)) (by simpa using hl) fun h2 tk2 R2 x2 => hK h2 tk2 R2 (x'.trans R' x2 R2.sto.nd)
theorem tupDisplay {elts : List Expr} {k : Nat} {pos : Pos} {ts : List (Bool × Sem Value)} {W : LW} (hs : EsOK c env ts W) (ht : backTo pos (starEach elts env) = ts)
  (E : Value → Shared → Prop) (K : Value → Shared → Prop) (F : Fz) (ρ : Pl) (η : Vars) (σ : Sto) (s : Shared) (Q : List XV → Sto → Prop) (R : Rel c.base c.C env F ρ s.heap η σ) (hW : W η σ fun xs σ1 => xs.length ≤ sizeLine ∧ Q xs σ1)
  (hK : ∀ a items xs F' ρ' σ' h' tk', h'.IsTuple a items → XRs F' ρ' items.toList xs → Step c.base c.C F ρ s.heap F' ρ' h' σ' → Q xs σ' → K (.ref a) { s with heap := h', toks := tk' }) : wpAny c.M c.A (eval (.Tuple elts k pos) env) K E s := by
 subst ht
 refine wpAny_Tuple_spliced (hs E _ F ρ η σ s _ R hW fun vs xs F1 ρ1 σ1 hp1 t1 X1 S1 hW1 => ?_)
 refine ⟨by rw [X1.length]; exact hW1.1, ?_⟩
 refine hK _ vs.toArray xs F1 ρ1 σ1 _ _ ⟨_, Heap.get?_push_size _ rfl, rfl, _, rfl⟩ (by simpa using X1) (S1.trans (.ext0 S1.sto (Ext.push _ _))) hW1.2
theorem sok_tuple_fwd {elts vals : List Expr} {k k2 : Nat} {tpos vpos pos : Pos} {ts : List (Bool × Sem Value)} {W : LW} (hh : c.A.handled = none) (ns : List (String × Pos)) (he : elts = ns.map fun n => .Name n.1 n.2) (ha : (assignEach elts env).map (·.2) = ns.map fun n => assign (.Name n.1 n.2) env)
  (hst : (assignEach elts env).findIdx? (·.1) = none) (hk : ∀ n ∈ ns, stNm env n.1 = true) (ht : backTo vpos (starEach vals env) = ts) (h : EsOK c env ts W)
  (hs : swapsWithSole [.Tuple elts k tpos] (.Tuple vals k2 vpos) pos.line env = pure false) (hw : swappedStores [.Tuple elts k tpos] (.Tuple vals k2 vpos) env = pure none) :
  SOK c env (exec (.Assign [.Tuple elts k tpos] (.Tuple vals k2 vpos) pos) env) (fun η σ N _ => W η σ fun xs σ1 => xs.length ≤ sizeLine ∧ xs.length = ns.length ∧ N (vsetX (ns.map (·.1)) xs η) σ1) := by
 intro E K F ρ η σ s N Rt R hW hN hR
 refine Assign_Tuple (tupDisplay h ht E _ F ρ η σ s _ R hW fun a items xs F1 ρ1 σ1 hp1 t1 ht1 X1 S1 hQ => ?_) hs hw
 have hlen : (assignEach elts env).length = ns.length := by have := congrArg List.length ha; simpa using this
 refine wpAny_assign_Tuple (s := { s with heap := hp1, toks := t1 }) hh ht1 (by rw [hlen, ← hQ.1, ← X1.length, Array.length_toList]) hst fun h' x => ?_
 have x' := ext_of_but x
 have R1 := R.step S1
 have R' := R1.step (.ext0 R1.sto x')
 rw [ha]
 have e : (ns.map fun n => assign (.Name n.1 n.2) env) = (ns.map fun n => (n.1, assign (.Name n.1 n.2) env)).map (·.2) := by simp
 rw [e]
 refine storeXs (P := AnyNm) _ E _ F1 ρ1 η σ1 _ _ _ R' X1 (fun n hn => ?_) (by simpa using hQ.1.symm) fun h2 tk2 R2 x2 => ?_
 ·obtain ⟨m, hm, rfl⟩ := List.mem_map.mp hn
  exact ⟨trivial, hk m hm, fun E Q v s q => wpAny_assign_Name q⟩
 ·have e2 : (ns.map fun n => (n.1, assign (.Name n.1 n.2) env)).map (·.1) = ns.map (·.1) := by simp
  rw [e2] at R2
  exact hN _ _ _ _ h2 tk2 R2 ((S1.trans (.ext0 R1.sto x')).sevo.trans R' x2 R2.sto.nd) hQ.2
theorem vL {elts vals : List Expr} {k k2 : Nat} {tpos vpos pos : Pos} {ts : List (Bool × Sem Value)} {W : LW} (hh : c.A.handled = none) (names : List String) (hk : ∀ n ∈ names, stNm env n = true) (ht : backTo vpos (starEach vals env) = ts) (h : EsOK c env ts W)
  (hs : swapsWithSole [.Tuple elts k tpos] (.Tuple vals k2 vpos) pos.line env = pure false) (hw : swappedStores [.Tuple elts k tpos] (.Tuple vals k2 vpos) env = pure (some (names.map Str.ofString))) :
  SOK c env (exec (.Assign [.Tuple elts k tpos] (.Tuple vals k2 vpos) pos) env) (fun η σ N _ => W η σ fun xs σ1 => xs.length ≤ sizeLine ∧ xs.length = names.length ∧ N (vsetX names.reverse xs.reverse η) σ1) := by
 intro E K F ρ η σ s N Rt R hW hN hR
 refine Assign_Tuple_swapped (tupDisplay h ht E _ F ρ η σ s _ R hW fun a items xs F1 ρ1 σ1 hp1 t1 ht1 X1 S1 hQ => ?_) hs hw
 have hsz : names.length = items.size := by rw [← hQ.1, ← X1.length, Array.length_toList]
 rw [List.length_map, hsz, ← List.map_reverse, List.map_map]
 refine wpAny_unpackItems_tuple (s := { s with heap := hp1, toks := t1 }) hh ht1 fun h' x => ?_
 have x' := ext_of_but x
 have R1 := R.step S1
 have R' := R1.step (.ext0 R1.sto x')
 have e : names.reverse.map ((fun n => bindName env n) ∘ Str.ofString) = (names.reverse.map fun (n : String) => (n, bindName env n)).map (·.2) := by rw [List.map_map]; rfl
 rw [e]
 refine storeXs (P := AnyNm) _ E _ F1 ρ1 η σ1 _ _ _ R' X1.reverse (fun n hn => ?_) (by simpa using hQ.1.symm) fun h2 tk2 R2 x2 => ?_
 ·obtain ⟨m, hm, rfl⟩ := List.mem_map.mp hn
  exact ⟨trivial, hk m (List.mem_reverse.mp hm), fun E Q v s q => bindName_ q⟩
 ·have e2 : (names.reverse.map fun (n : String) => (n, bindName env n)).map (·.1) = names.reverse := by rw [List.map_map]; exact List.map_id _
  rw [e2] at R2
  exact hN _ _ _ _ h2 tk2 R2 ((S1.trans (.ext0 R1.sto x')).sevo.trans R' x2 R2.sto.nd) hQ.2
theorem sok_unpack {tgt : Expr} {value : Expr} {elts : List Expr} {k : Nat} {tpos pos : Pos} {W T} (htg : tgt = .Tuple elts k tpos) (h : EOK c env (eval value env) W) (hA : AOK c env AnyNm tgt T)
  (hs : swapsWithSole [tgt] value pos.line env = pure false) (hw : swappedStores [tgt] value env = pure none) :
  SOK c env (exec (.Assign [tgt] value pos) env) (fun η σ N _ => W η σ fun y σ1 => T y η fun η1 => N η1 σ1) := by
 intro E K F ρ η σ s N Rt R hW hN hR
 subst htg
 refine Assign_Tuple (h E _ F ρ η σ s _ R hW fun v1 x1 F1 ρ1 σ1 hp1 t1 X1 S1 hW1 => ?_) hs hw
 have R1 := R.step S1
 exact hA E _ F1 ρ1 η σ1 _ v1 x1 _ R1 X1 hW1 fun η2 h2 tk2 R2 V2 hQ => hN _ _ _ _ h2 tk2 R2 (S1.sevo.trans R1 V2 R2.sto.nd) hQ
end
section
variable {c : Cx} {env : Env}
theorem sok_while {test : Expr} {body : List Stmt} {pos : Pos} {WT : BW} {WB : SW} (ht : TOK c env (isTrue test env (eval test env)) WT) (hb : SOK c env (execs body env) WB) :
  SOK c env (exec (.While test body [] pos) env) (fun η σ N Rt => ∃ (n0 : Nat) (Inv : Nat → Vars → Sto → Prop), Inv n0 η σ ∧
   ∀ n η1 σ1, Inv n η1 σ1 → WT η1 σ1 fun b σ2 => (b = true → WB η1 σ2 (fun η3 σ3 => ∃ m, m < n ∧ ∃ η4, VLe η4 η3 ∧ Inv m η4 σ3) Rt) ∧ (b = false → N η1 σ2)) := by
 intro E K F ρ η σ s N Rt R hW hN hR
 refine dEEA hW fun n0 Inv h0 hI => ?_
 refine wpAny_While (codeAny_whileLoop (fun n st => ∃ F1 ρ1 η1 σ1, Rel c.base c.C env F1 ρ1 st.heap η1 σ1 ∧ SEvo env AnyNm F ρ s.heap F1 ρ1 st.heap ∧ (∃ h' tk, st = { s with heap := h', toks := tk }) ∧ Inv n η1 σ1) ?_ n0
  ⟨F, ρ, η, σ, R, .refl R.sto.inn, ⟨s.heap, s.toks, rfl⟩, h0⟩)
 intro n st hI0
 refine qC fun P kG => ?_
 refine dEEEEAAA hI0 fun F1 ρ1 η1 σ1 R1 V1 hN1 i1 => ?_
 obtain ⟨h1, t1, hR2⟩ := hN1
 refine kG ?_
 clear kG P
 subst hR2
 refine ht _ _ F1 ρ1 η1 σ1 _ _ R1 (hI n η1 σ1 i1) fun b F2 ρ2 σ2 h2 t2 S2 hQ => ?_
 have R2 := R1.step S2
 have V2 := V1.trans R1 (S2.sevo (P := AnyNm)) R2.sto.nd
 cases b with
 | true =>
  rw [if_pos rfl]
  refine hb _ _ F2 ρ2 η1 σ2 _ _ Rt R2 (hQ.1 rfl) (fun F3 ρ3 η3 σ3 h3 t3 R3 V3 hQ3 => ?_) fun v x F3 ρ3 η3 σ3 h3 t3 R3 V3 X3 hQ3 => ?_
  ·refine dEAEA hQ3 fun m hm η4 hle i4 => ?_
   exact ⟨m, hm, F3, ρ3, η4, σ3, R3.forget hle, V2.trans R2 V3 R3.sto.nd, ⟨h3, t3, rfl⟩, i4⟩
  ·exact hR v x F3 ρ3 η3 σ3 h3 t3 R3 (V2.trans R2 V3 R3.sto.nd) X3 hQ3
 | false =>
  rw [if_neg Bool.false_ne_true]
  exact wpAny_execs_nil (hN F2 ρ2 η1 σ2 h2 t2 R2 V2 (hQ.2 rfl))
noncomputable abbrev CellsOk (env : Env) : Prop := ∀ x a, env.cells.lookup x = some a → celled env x
theorem SEvo.mut {F F' : Fz} {ρ ρ' : Pl} {h h' : Heap} {P : Str → Prop} (x : SEvo env P F ρ h F' ρ' h') {a : Addr} (hm : ¬ Mut ρ a) (ha : ∃ o, h.get? a = some o) : ¬ Mut ρ' a := fun ⟨p, hp, e⟩ => by
 rcases x.new p hp with q | q
 ·exact hm ⟨p, q, e⟩
 ·obtain ⟨o, ho⟩ := ha
  rw [e, ho] at q; cases q
theorem sok_for {target iter : Expr} {body : List Stmt} {pos : Pos} {WI : EW} {T : TW} {WB : SW} (hh : c.A.handled = none) (hcl : CellsOk env) (hg : goes target) (hi : EOK c env (eval iter env) WI) (hA : AOK c env AnyNm target T) (hb : SOK c env (execs body env) WB)
  (hs : ∀ x, foldedSetIterable iter env x = pure x := by intro _; rfl) :
  SOK c env (exec (.For target iter body [] pos) env) (fun η σ N Rt => WI η σ fun x σ1 => ∃ xs, iterOf x = some xs ∧ ∃ (Inv : List PyData → Vars → Sto → Prop), Inv xs η σ1 ∧
   (∀ d ds η1 σ1, Inv (d :: ds) η1 σ1 → T (.v d) η1 fun η2 => WB η2 σ1 (fun η3 σ3 => ∃ η4, VLe η4 η3 ∧ Inv ds η4 σ3) Rt) ∧ (∀ η1 σ1, Inv [] η1 σ1 → N η1 σ1)) := by
 intro E K F ρ η σ s N Rt R hW hN hR
 refine wpAny_For (hi E _ F ρ η σ s _ R hW fun v0 x0 F0 ρ0 σ0 h0 t0 X0 S0 hW0 => ?_) hs
 refine dEAEAA hW0 fun xs hx Inv i0 hI hend => ?_
 have R0 := R.step S0
 refine iter_start (s := { s with heap := h0, toks := t0 }) R0.sto.inn X0 hx fun it h1 x1 it0 I1 => ?_
 have Sx := Step.ext0 R0.sto x1
 have R1 := R0.step Sx
 have Fit0 : F0 it = none := R0.sto.fresh it0
 refine codeAny_forLoop_any (fun n st => ∃ ds F1 ρ1 η1 σ1, ds.length = n ∧ Rel c.base c.C env F1 ρ1 st.heap η1 σ1 ∧ SEvo env AnyNm F ρ s.heap F1 ρ1 st.heap ∧ (∃ h' tk, st = { s with heap := h', toks := tk }) ∧
   ItR F1 st.heap it ds ∧ F1 it = none ∧ (s.heap.get? it = none) ∧ ¬ Mut ρ1 it ∧ Inv ds η1 σ1) ?_ xs.length
  ⟨xs, F0, ρ0, η, σ0, rfl, R1, (S0.trans Sx).sevo, ⟨_, _, rfl⟩, I1, Fit0, ?_, fun ⟨p, hp, e⟩ => (by
   refine qC fun P kG => ?_
   obtain ⟨o', ho'⟩ := R0.sto.lt p hp
   refine kG ?_
   clear kG P
   have it0' : h0.get? it = none := it0
   rw [e, it0'] at ho'; cases ho'), i0⟩
 rotate_left
 ·cases q : s.heap.get? it with
  | none => rfl
  | some o =>
   exfalso
   have it0' : h0.get? it = none := it0
   rcases S0.evo.none_back it0' with q1 | ⟨p, hp, e⟩
   ·rw [q] at q1; cases q1
   ·refine qC fun P kG => ?_
    obtain ⟨o', ho'⟩ := S0.sto.lt p (S0.pre.subset hp)
    refine kG ?_
    clear kG P
    rw [e, it0'] at ho'; cases ho'
 intro n st hI0
 refine dEEEEEAAAAAAAA hI0 fun ds F1 ρ1 η1 σ1 hR3 R1 V1 hN4 I1 Fit itN itM i1 => ?_
 obtain ⟨h1, t1, hR5⟩ := hN4
 subst hR3
 subst hR5
 dsimp only at R1 V1 I1
 refine dEEAA I1.obj fun o ovs ho hod hoT => ?_
 have offI := R1.off ho hod Fit hcl itM
 cases ds with
 | nil =>
  refine itr_end hh R1.sto.inn I1 fun h' hs => ?_
  have ev := Evo.but R1.sto.inn Fit hs
  have Ra := R1.along ev offI
  refine wpAny_execs_nil (hN F1 ρ1 η1 σ1 h' t1 Ra ⟨V1.evo.trans ev fun a e => .inr (e ▸ itN), V1.pre, V1.new⟩ (hend η1 σ1 i1))
 | cons d ds =>
  refine itr_item R1.sto.inn I1 Fit fun v1 h2 t2 X1 I2 hs2 => ?_
  have ev := Evo.but R1.sto.inn Fit (fun b o hb e => (hs2 b hb).trans e)
  have Ra := R1.along ev offI
  have Va : SEvo env AnyNm F ρ s.heap F1 ρ1 h2 := ⟨V1.evo.trans ev fun a e => .inr (e ▸ itN), V1.pre, V1.new⟩
  refine go_any (s := { s with heap := h2, toks := t2 }) hg I2 ?_
  refine hA _ _ F1 ρ1 η1 σ1 _ _ _ _ Ra (.v X1) (hI d ds η1 σ1 i1) fun η2 h3 t3 R3 V3 hQ => ?_
  have offI2 : Off env ρ1 (· = it) := offI
  have I3 := I2.mono V3.evo offI2.sx
  refine dEEAA I3.obj fun o3 ovs3 ho3 hod3 hoT3 => ?_
  have off3 := R3.off ho3 hod3 Fit hcl itM
  have V13 := Va.trans Ra V3 R3.sto.nd
  refine hb _ _ F1 ρ1 η2 σ1 _ _ Rt R3 hQ (fun F4 ρ4 η4 σ4 h4 t4 R4 V4 hQ4 => ?_) fun v x F4 ρ4 η4 σ4 h4 t4 R4 V4 X4 hQ4 => ?_
  ·refine dEA hQ4 fun η5 hle i5 => ?_
   exact ⟨ds.length, Nat.lt_succ_self _, ds, F4, ρ4, η5, σ4, rfl, R4.forget hle, V13.trans R3 V4 R4.sto.nd, ⟨h4, t4, rfl⟩, I3.mono V4.evo off3.sx, V4.evo.none_of Fit ⟨o3, ho3⟩ off3.sx, itN, fun ⟨p, hp, e⟩ => (V4.new p hp).elim (fun q => itM ⟨p, q, e⟩) fun q => (by rw [e, ho3] at q; cases q), i5⟩
  ·exact hR v x F4 ρ4 η4 σ4 h4 t4 R4 (V13.trans R3 V4 R4.sto.nd) X4 hQ4
theorem compSc_clo {scope : Scope} (sc : CompSc env scope) (hc : ∀ x, celled env x → ∃ a, env.cells.lookup x = some a) : closureFor scope env = pure (clo env scope.names []) := closure_eq fun x hx hf => hc _ (sc.free x hx hf)
theorem Step.locals {base : Heap} {C : Addr} {F F' : Fz} {ρ : Pl} {h h' h'' : Heap} {σ : Sto} (x : Step base C F ρ h F' ρ h' σ) {L : Addr} {m : Str → Option Value} (hm : h'.Ns L m) (hL : h.get? L = none) (hF : F' L = none) (hs : Heap.SameBut L h' h'') : Step base C F ρ h F' ρ h'' σ := by
 have ev := Evo.but x.sto.inn hF fun b o hb e => (hs.2 b hb).trans e
 refine x.andThen ev (fun a e => .inr (e ▸ hL)) (x.sto.along ev fun p hp e => ?_)
 have : ¬ Mut ρ L := x.sto.apart hF (fun o ho => .inl (by
  refine dEEEAA hm fun o' es n ho' hd _ => ?_
  rw [ho] at ho'; cases ho'; exact ⟨es, n, hd⟩)) (let ⟨o, _, _, ho, _⟩ := hm; ⟨o, ho⟩)
 exact this ⟨p, hp, e⟩
theorem pT (hh : c.A.handled = none) {elt target iter : Expr} {ifs : List Expr} {scope : Scope} {pos : Pos} {T : TW} {WT : BW} {WE WI : EW} {P : Str → Prop} (hi : EOK c env (eval iter env) WI) (hg : goes target) (sc : CompSc env scope)
  (hP : ∀ x, P x → scope.names.lookup x = some .local ∨ scope.names.lookup x = some .cell)
  (hA : ∀ L cells, AOK c (compEnv scope env L cells) P target T) (hk : TKeep scope T)
  (hT : ∀ L cells, TsOK c (compEnv scope env L cells) ifs WT) (hE : ∀ L cells, EOK c (compEnv scope env L cells) (eval elt (compEnv scope env L cells)) WE)
  (hs : ∀ x, foldedSetIterable iter env x = pure x := by intro _; rfl) :
  EOK c env (eval (.ListComp elt [⟨target, iter, ifs, 0⟩] scope pos) env) (fun η σ Q => WI η σ fun x σ1 => ∃ xs rs, iterOf x = some xs ∧ CompAll (CB scope η σ1 T (fun η σ Q => WT η σ Q) fun η σ Q => WE η σ Q) xs rs ∧ rs.flatten.length ≤ sizeLine ∧ Q (.v (.list rs.flatten)) σ1) := by
 intro E K F ρ η σ s Q R hW hK
 rw [eval_ListComp]
 refine wpAny_comprehension_free (use := none) rfl hs (compSc_clo sc R.cellAll) sc.kind (fun x hx hl => by rw [sc.uniq x hx, hl]) ?_
 refine hi E _ F ρ η σ s _ R hW fun v1 x1 F1 ρ1 σ1 h1 t1 X1 S1 hW1 => ?_
 refine dEEAAA hW1 fun xs rs hx hall hsz hQ => ?_
 refine comp_core (s := { s with heap := h1, toks := t1 }) hh hg sc hP hA hk hT hE (R.step S1) X1 hx hall hsz (RR := fun acc C => compPost c.M c.A E none K acc C) fun acc L F2 h2 t2 m V2 S2 hm hL hFL => ?_
 exact ⟨m, hm, fun h3 hs3 => hK acc _ F2 ρ1 σ1 h3 t2 (.v V2) (S1.trans (S2.locals hm hL hFL hs3)) hQ⟩
theorem vM (hh : c.A.handled = none) (hcl : CellsOk env) {y : String} {py spos : Pos} {elt target iter : Expr} {ifs : List Expr} {scope : Scope} {pos : Pos} {T : TW} {WT : BW} {WE WI : EW} {P : Str → Prop} (hky : env.kindOf y = some .local) (hi : EOK c env (eval iter env) WI) (hg : goes target) (sc : CompSc env scope)
  (hP : ∀ x, P x → scope.names.lookup x = some .local ∨ scope.names.lookup x = some .cell)
  (hA : ∀ L cells, AOK c (compEnv scope env L cells) P target T) (hk : TKeep scope T)
  (hT : ∀ L cells, TsOK c (compEnv scope env L cells) ifs WT) (hE : ∀ L cells, EOK c (compEnv scope env L cells) (eval elt (compEnv scope env L cells)) WE)
  (hsw : swapsWith (.ListComp elt [⟨target, iter, ifs, 0⟩] scope pos) (some (.Name y py)) spos.line env = pure true)
  (hs : ∀ x, foldedSetIterable iter env x = pure x := by intro _; rfl) :
  SOK c env (exec (.Assign [.Name y py] (.ListComp elt [⟨target, iter, ifs, 0⟩] scope pos) spos) env) (fun η σ N _ => WI η σ fun x σ1 => ∃ xs rs, iterOf x = some xs ∧ CompAll (CB scope η σ1 T (fun η σ Q => WT η σ Q) fun η σ Q => WE η σ Q) xs rs ∧ rs.flatten.length ≤ sizeLine ∧ N (vset y (.v (.list rs.flatten)) η) σ1) := by
 intro E K F ρ η σ s N Rt R hW hN hR
 rw [exec_Assign_Name_used _ _ _ _ hsw]
 refine wpAny_bind (wpAny_standAt (wpAny_bind ?_))
 show wpAny c.M c.A (do let _ ← comprehension (.ListComp elt [⟨target, iter, ifs, 0⟩] scope pos) scope env (firstIterPos [⟨target, iter, ifs, 0⟩] pos) (newList []) false (eval iter env) (some (assign (.Name y py) env))) _ _ s
 refine wpAny_bind (wpAny_comprehension_free (use := some _) rfl hs (compSc_clo sc R.cellAll) sc.kind (fun x hx hl => by rw [sc.uniq x hx, hl]) ?_)
 refine hi E _ F ρ η σ s _ R hW fun v1 x1 F1 ρ1 σ1 h1 t1 X1 S1 hW1 => ?_
 refine dEEAAA hW1 fun xs rs hx hall hsz hQ => ?_
 refine comp_core (s := { s with heap := h1, toks := t1 }) hh hg sc hP hA hk hT hE (R.step S1) X1 hx hall hsz (RR := fun acc C => compPost c.M c.A E (some (assign (.Name y py) env)) _ acc C) fun acc L F2 h2 t2 m V2 S2 hm hL hFL => ?_
 have R2 := (R.step S1).step S2
 refine wpAny_assign_Name (R2.store (s := { s with heap := h2, toks := t2 }) (P := AnyNm) trivial (by unfold stNm; rw [show env.scope.names.lookup (y : Str) = some .local from hky]) (.v V2) fun h3 t3 R3 V3 => ?_)
 have hLne : L ≠ env.locals := fun q => by
  refine qC fun P kG => ?_
  obtain ⟨o, ho⟩ := (R.step S1).locals.2
  refine kG ?_
  clear kG P
  rw [← q] at ho
  have hL' : h1.get? L = none := hL
  rw [hL'] at ho; cases ho
 obtain ⟨m3, hm3⟩ : ∃ m3, h3.Ns L m3 := by
  refine ⟨m, V3.evo.isNs hm ?_⟩
  rintro (q | q | ⟨z, _, hz, hc⟩)
  ·exact (S2.sto.apart hFL (fun o ho => .inl (by
    refine dEEEAA hm fun o' es n ho' hd _ => ?_
    rw [ho] at ho'; cases ho'; exact ⟨es, n, hd⟩)) (let ⟨o, _, _, ho, _⟩ := hm; ⟨o, ho⟩)) q
  ·exact hLne q
  ·refine dEA ((R.step S1).cells z L (.inl hz) hc) fun v' hN6 _ => ?_
   obtain ⟨o, ho, _⟩ := hN6
   have hL' : h1.get? L = none := hL
   rw [hL'] at ho; cases ho
 refine ⟨m3, hm3, fun h4 hs4 => ?_⟩
 -- the comprehension's frame is let go
 have hmu : ¬ Mut ρ1 L := S2.sto.apart hFL (fun o ho => .inl (by
  refine dEEEAA hm fun o' es n ho' hd _ => ?_
  rw [ho] at ho'; cases ho'; exact ⟨es, n, hd⟩)) (let ⟨o, _, _, ho, _⟩ := hm; ⟨o, ho⟩)
 have ev := Evo.but R3.sto.inn hFL fun b o hb e => (hs4.2 b hb).trans e
 have off : Off env ρ1 (· = L) := ⟨fun p hp e => hmu ⟨p, hp, e⟩, fun e => hLne e.symm, fun x a ha e => by
  refine dEA ((R.step S1).cells x a (hcl x a ha) ha) fun v' hN7 _ => ?_
  obtain ⟨o, ho, _⟩ := hN7
  have hL' : h1.get? L = none := hL
  rw [e, hL'] at ho; cases ho⟩
 have R4 := R3.along ev off
 have hL1 : h1.get? L = none := hL
 have V : SEvo env AnyNm F ρ s.heap F2 ρ1 h3 := (S1.trans S2).sevo.trans R2 V3 R3.sto.nd
 refine wpAny_pure (wpAny_pure (hN F2 ρ1 _ σ1 h4 t3 R4 ⟨V.evo.trans ev fun a e => ?_, V.pre, V.new⟩ hQ))
 subst e
 rcases S1.evo.none_back hL1 with q | ⟨p, hp, e⟩
 ·exact .inr q
 ·exact absurd ⟨p, S1.pre.subset hp, e⟩ hmu
end
noncomputable def RetP (σ : Sto) (x : XV) (σ' : Sto) (Q : XV → Sto → Prop) : Prop :=
 (∃ d σ1 e, x = .v d ∧ σ' = σ1 ++ e ∧ σ1.length = σ.length ∧ Q (.v d) σ1) ∨
 ∃ i xs σ1 e, x = .own i ∧ σ'[i]? = some (.list xs) ∧ σ.length ≤ i ∧ σ' = σ1 ++ e ∧ σ1.length = σ.length ∧ Q (.v (.list xs)) σ1
section
variable {base : Heap} {C : Addr} {F F' : Fz} {ρ ρ' : Pl} {h h' h3 : Heap} {σ σ' : Sto} {env : Env} {η η' : Vars}
theorem SEvo.step (R' : Rel base C env F' ρ' h' η' σ') (V : SEvo env AnyNm F ρ h3 F' ρ' h') (i : FIn F h) (x : Ext h h3) (hL : h.get? env.locals = none) (hC : ∀ x a, env.kindOf x = some .cell → env.cells.lookup x = some a → h.get? a = none) : Step base C F ρ h F' ρ' h' σ' where
 evo := (Evo.ext0 (X := Mut ρ) i x).trans V.evo fun a q => by
  rcases q with q | q | ⟨z, _, hz, hc⟩
  ·exact .inl q
  ·exact .inr (q ▸ hL)
  ·exact .inr (hC z a hz hc)
 pre := V.pre
 new := fun p hp => (V.new p hp).imp id fun q => by
  cases e : h.get? p.2 with
  | none => rfl
  | some o => rw [x _ _ e] at q; cases q
 sto := R'.sto
theorem Step.gone (S0 : SRel base C F ρ h σ) (S : Step base C F ρ h F' ρ' h' σ') : ∀ a, h'.get? a = none → h.get? a = none := fun a ha =>
 (S.evo.none_back ha).elim id fun ⟨p, hp, e⟩ => absurd ⟨p, S.pre.subset hp, e⟩ (S.sto.noMut ha)
theorem Step.thenS {F2 : Fz} {h2 : Heap} (S0 : SRel base C F ρ h σ) (S : Step base C F ρ h F2 ρ h2 σ) (V : SEvo env AnyNm F2 ρ h2 F' ρ' h') (R' : Rel base C env F' ρ' h' η' σ') (hL : h.get? env.locals = none) (hC : ∀ x a, env.kindOf x = some .cell → env.cells.lookup x = some a → h.get? a = none) : Step base C F ρ h F' ρ' h' σ' where
 evo := S.evo.trans V.evo fun a q => q.imp id fun q => q.elim (fun q => q ▸ hL) fun ⟨z, _, hz, hc⟩ => hC z a hz hc
 pre := V.pre
 new := fun p hp => (V.new p hp).imp id (S.gone S0 _)
 sto := R'.sto
theorem retp_out {v : Value} {x : XV} {Q : XV → Sto → Prop} (S0 : SRel base C F ρ h σ) (S : Step base C F ρ h F' ρ' h' σ') (X : XR F' ρ' v x) (hR : RetP σ x σ' Q) :
  ∃ F'' σ1 d, XR F'' ρ v (.v d) ∧ Step base C F ρ h F'' ρ h' σ1 ∧ Q (.v d) σ1 := by
 rcases hR with ⟨d, σ1, e, rfl, rfl, hl, hQ⟩ | ⟨i, xs, σ1, e, rfl, hi, hge, rfl, hl, hQ⟩
 ·exact ⟨F', σ1, d, .v X.eV, S.drop (S0.len.trans hl.symm), hQ⟩
 ·refine X.eO fun p hp => ?_
  have S1 := S.drop (S0.len.trans hl.symm)
  refine qC fun P kG => ?_
  refine dAEA (S.sto.obj i p _ hp hi) fun hpe vs hN1 hv => ?_
  obtain ⟨o, ho, hc, n, hd⟩ := hN1
  refine kG ?_
  clear kG P
  have hF := S.sto.out i p _ hp hi rfl
  have hmu : ∀ q ∈ ρ, q.2 ≠ p.2 := fun q hq e => by
   refine qC fun P kG => ?_
   obtain ⟨j, hj, hjq⟩ := List.getElem_of_mem hq
   refine kG ?_
   clear kG P
   have h1 : ρ[j]? = some q := by rw [List.getElem?_eq_getElem hj, hjq]
   have h2 := S.sto.idx hp (pre_at S.pre h1) e
   exact Nat.lt_irrefl _ (Nat.lt_of_lt_of_le (h2 ▸ hj) (S0.len ▸ hge))
  have hnew : h.get? p.2 = none := (S.new p (List.mem_of_getElem? hp)).elim (fun q => absurd rfl (hmu p q)) id
  have ef := Evo.freeze (a := p.2) S.sto.inn hF
  refine ⟨freeze F' p.2 h', σ1, .list xs, ?_, S1.andThen ef (fun a e => .inr (e ▸ hnew)) (S1.sto.along ef fun q hq e => hmu q hq e), hQ⟩
  rw [hpe]
  refine .v (.list (o := o) (vs := vs.toArray) (n := n) ?_ hc.1 hd (hv.mono ef.le))
  unfold freeze; rw [if_pos rfl]; exact ho
end
noncomputable abbrev defEnv (fd : FuncData) (a L : Addr) (cells : List (Str × Addr)) : Env :=
 { scope := fd.scope, locals := L, globals := mainGlobals, cells := cells, qual := fd.qualname ++ ".<locals>.", func := some a, code := fd.code, frame := some L, builtins := builtinsNs }
structure FdOK (c : Cx) (a : Addr) (fd : FuncData) (body : List Stmt) : Prop where
 obj : ∃ o, c.base.get? a = some o ∧ o.data = .func fd
 clo : fd.closure = []
 body : fd.body = .stmts body
 glob : fd.globals = mainGlobals
 blt : fd.builtins = builtinsNs
 code : c.base.CodeRec fd.code fd.qualname
 lim : c.base.NoLimit
 co : fd.scope.isCoroutine = false
 gen : fd.scope.isGenerator = false
 kind : fd.scope.kind = .function
 sc : (fd.scope.names.all fun x => x.2 != .free && decide (fd.scope.names.lookup x.1 = some x.2)) = true
theorem clo_none {env : Env} : ∀ (names : List (Str × NameKind)) (acc : List (Str × Addr)), (∀ x ∈ names, x.2 ≠ .free) → clo env names acc = acc
 | [], _, _ => rfl
 | (n, k) :: r, acc, h => by
  unfold clo
  rw [if_neg (by simpa using h (n, k) List.mem_cons_self)]
  exact clo_none r acc fun x hx => h x (List.mem_cons_of_mem _ hx)
section
variable {c : Cx}
theorem storeBinds {env : Env} : ∀ (bs : List (Str × Value)) (bx : List (String × XV)) (f : Str × Value → PUnit → Sem (ForInStep PUnit)) (_ : ∀ n v u, f (n, v) u = (do storeName env n v; pure (.yield ⟨⟩))) (E : Value → Shared → Prop) (K : PUnit → Shared → Prop) F ρ η σ (s : Shared),
  Rel c.base c.C env F ρ s.heap η σ → bs.map (·.1) = bx.map (fun n => (n.1 : Str)) → XRs F ρ (bs.map (·.2)) (bx.map (·.2)) → (∀ n ∈ bx, stNm env n.1 = true) →
  (∀ h' tk', Rel c.base c.C env F ρ h' (vsetX (bx.map (·.1)) (bx.map (·.2)) η) σ → SEvo env AnyNm F ρ s.heap F ρ h' → K ⟨⟩ { s with heap := h', toks := tk' }) → wpAny c.M c.A (forIn bs ⟨⟩ f) K E s
 | [], bx, f, hf, E, K, F, ρ, η, σ, s, R, e, _, _, hK => by
  cases bx with
  | nil => rw [List.forIn_nil]; exact wpAny_pure (hK s.heap s.toks R (.refl R.sto.inn))
  | cons => cases e
 | (n, v) :: bs, bx, f, hf, E, K, F, ρ, η, σ, s, R, e, X, hk, hK => by
  cases bx with
  | nil => cases e
  | cons m bx =>
   obtain ⟨e1, e2⟩ := List.cons.inj e
   obtain ⟨X1, X2⟩ := X.uncons
   rw [List.forIn_cons, hf, show n = m.1 from e1]
   refine wpAny_bind (wpAny_bind (R.store (P := AnyNm) trivial (hk _ List.mem_cons_self) X1 fun h1 t1 R1 V1 => wpAny_pure ?_))
   exact storeBinds bs bx f hf E K F ρ _ σ _ R1 e2 X2 (fun n hn => hk n (List.mem_cons_of_mem _ hn)) fun h2 t2 R2 V2 => hK h2 t2 R2 (V1.trans R1 V2 R2.sto.nd)
theorem FdOK.nofree {a : Addr} {fd : FuncData} {body : List Stmt} (D : FdOK c a fd body) : ∀ x ∈ fd.scope.names, x.2 ≠ .free := fun x hx => by
 have := List.all_eq_true.mp D.sc x hx; simp only [Bool.and_eq_true, bne_iff_ne] at this; exact this.1
theorem FdOK.comp {a : Addr} {fd : FuncData} {body : List Stmt} (D : FdOK c a fd body) {env : Env} : CompSc env fd.scope :=
 ⟨D.kind, fun x hx hf => absurd hf (D.nofree x hx), fun x hx => by have := List.all_eq_true.mp D.sc x hx; simp only [Bool.and_eq_true, decide_eq_true_eq] at this; exact this.2⟩
theorem stNm_of {env : Env} {n : Str} (h : env.scope.names.lookup n = some .local ∨ env.scope.names.lookup n = some .cell) : stNm env n = true := by
 unfold stNm
 rcases h with q | q <;> rw [q]
theorem op_frame {a : Addr} {fd : FuncData} {body : List Stmt} (D : FdOK c a fd body) {bx : List (String × XV)} {bs : List (Str × Value)}
  (hnm : ∀ n ∈ bx, fd.scope.names.lookup (n.1 : Str) = some .local ∨ fd.scope.names.lookup (n.1 : Str) = some .cell)
  {env : Env} {E : Value → Shared → Prop} {K : Value → Shared → Prop} {F : Fz} {ρ : Pl} {η : Vars} {σ : Sto} {s : Shared} (R : Rel c.base c.C env F ρ s.heap η σ)
  (hn1 : bs.map (·.1) = bx.map (fun n => (n.1 : Str))) (hX1 : XRs F ρ (bs.map (·.2)) (bx.map (·.2)))
  (hW : ∀ L cells h2 t2, CellsOk (defEnv fd a L cells) → Rel c.base c.C (defEnv fd a L cells) F ρ h2 (vsetX (bx.map (·.1)) (bx.map (·.2)) []) σ → Step c.base c.C F ρ s.heap F ρ h2 σ → s.heap.get? L = none → (∀ x b, (defEnv fd a L cells).kindOf x = some .cell → cells.lookup x = some b → s.heap.get? b = none) →
   wpAny c.M (c.A.deeper (defEnv fd a L cells)) (execs body (defEnv fd a L cells)) (fun f s' => K (match f with | .ret v => v | _ => .none) s') (fun e s' => wpAny c.M (c.A.deeper (defEnv fd a L cells)) (leaving (defEnv fd a L cells) e) (fun _ s'' => E e s'') (fun e' s'' => E e' s'') s') { s with heap := h2, toks := t2 }) : wpAny c.M c.A.in1 (newFunctionEnv fd.scope fd.globals fd.closure bs (fd.qualname ++ ".<locals>.") (some a) fd.code none fd.builtins)
   (fun env' s₂ => s₂.heap.NoLimit ∧ codeAny c.M c.A (.func body env') (fun r s' => match r with | .ok (.ret v) => K v s' | .ok _ => False | .error e => E e s') s₂) E s := by
 rw [D.clo, D.glob, D.blt]
 simp only [newFunctionEnv, Option.isSome_none, Bool.false_eq_true, if_false]
 refine wpAny_bind (wpAny_alloc ?_)
 refine wpAny_bind (wpAny_layCells _ (fun name kind cells => by cases hkc : kind == NameKind.cell <;> simp [hkc]) _ _ _ _ ?_)
 obtain ⟨R1, x1, hnew, hcl⟩ := R.frame D.comp (env' := defEnv fd a s.heap.objs.size (cellsFrom (s.heap.push { cls := .type "frame", data := .dict #[] }).objs.size fd.scope.names [])) (cls := "frame") rfl rfl (by rw [clo_none _ _ D.nofree]) rfl rfl rfl D.kind fun x => ⟨false, by
  show fd.scope.names.lookup x = _
  cases fd.scope.names.lookup x <;> simp⟩
 generalize cellsFrom (s.heap.push { cls := .type "frame", data := .dict #[] }).objs.size fd.scope.names [] = cells at R1 hnew hcl
 rw [show freeV fd.scope η = [] from List.filter_eq_nil_iff.mpr fun p _ q => D.nofree _ (mem_of_lookup (show fd.scope.names.lookup (p.1 : Str) = some .free by simpa using q)) rfl] at R1
 refine wpAny_bind ?_
 refine storeBinds (c := { c with A := c.A.in1 }) (env := defEnv fd a s.heap.objs.size cells) bs bx _ (fun _ _ _ => rfl) _ _ F ρ [] σ _ R1 hn1 hX1 (fun n hn => stNm_of (hnm n hn)) fun h2 t2 R2 V2 => ?_
 refine wpAny_pure ⟨D.lim.keeps R2.sto.old, codeAny_func ?_⟩
 exact hW s.heap.objs.size cells h2 t2 hcl R2 (V2.step R2 R.sto.inn x1 (get?_size _) fun x b hx hb => hnew x b hx hb) (get?_size _) fun x b hx hb => hnew x b hx hb
theorem op_cont0 {a : Addr} {fd : FuncData} {body : List Stmt} {W : SW} (D : FdOK c a fd body) {bx : List (String × XV)} {bs : List (Str × Value)}
  (hnm : ∀ n ∈ bx, fd.scope.names.lookup (n.1 : Str) = some .local ∨ fd.scope.names.lookup (n.1 : Str) = some .cell)
  (hb : ∀ L cells, CellsOk (defEnv fd a L cells) → SOK { c with A := c.A.deeper (defEnv fd a L cells) } (defEnv fd a L cells) (execs body (defEnv fd a L cells)) W)
  {env : Env} {E : Value → Shared → Prop} {K : Value → Shared → Prop} {F : Fz} {ρ : Pl} {η : Vars} {σ : Sto} {s : Shared} {Q : XV → Sto → Prop} (R : Rel c.base c.C env F ρ s.heap η σ)
  (hn1 : bs.map (·.1) = bx.map (fun n => (n.1 : Str))) (hX1 : XRs F ρ (bs.map (·.2)) (bx.map (·.2)))
  (hW : W (vsetX (bx.map (·.1)) (bx.map (·.2)) []) σ (fun _ σ' => RetP σ (.v .none) σ' Q) (fun x σ' => RetP σ x σ' Q)) (hK : Ret c F ρ s Q K) : wpAny c.M c.A.in1 (newFunctionEnv fd.scope fd.globals fd.closure bs (fd.qualname ++ ".<locals>.") (some a) fd.code none fd.builtins)
   (fun env' s₂ => s₂.heap.NoLimit ∧ codeAny c.M c.A (.func body env') (fun r s' => match r with | .ok (.ret v) => K v s' | .ok _ => False | .error e => E e s') s₂) E s := by
 refine op_frame D hnm R hn1 hX1 fun L cells h2 t2 hcl R2 S2 hL hcell => ?_
 refine hb L cells hcl _ _ F ρ _ σ { s with heap := h2, toks := t2 } (fun _ σ' => RetP σ (.v .none) σ' Q) (fun x σ' => RetP σ x σ' Q) R2 hW (fun F3 ρ3 η3 σ3 h3 t3 R3 V3 hQ => ?_) fun v x F3 ρ3 η3 σ3 h3 t3 R3 V3 X3 hQ => ?_
 ·refine dEEEAA (retp_out R.sto (S2.thenS R.sto V3 R3 hL hcell) (.v .none : XR F3 ρ3 .none (.v .none)) hQ) fun F4 σ4 d X4 S4 hQ4 => ?_
  exact hK _ _ F4 ρ σ4 h3 t3 X4 S4 hQ4
 ·refine dEEEAA (retp_out R.sto (S2.thenS R.sto V3 R3 hL hcell) X3 hQ) fun F4 σ4 d X4 S4 hQ4 => ?_
  exact hK _ _ F4 ρ σ4 h3 t3 X4 S4 hQ4
theorem op_def1 {a : Addr} {fd : FuncData} {body : List Stmt} {W : SW} (D : FdOK c a fd body) (hroom : c.A.depth < recursionLimit) {kw : List (Str × Value)} {bx : List (String × XV)} {bs : List (Str × Value)}
  (hnm : ∀ n ∈ bx, fd.scope.names.lookup (n.1 : Str) = some .local ∨ fd.scope.names.lookup (n.1 : Str) = some .cell)
  (hb : ∀ L cells, CellsOk (defEnv fd a L cells) → SOK { c with A := c.A.deeper (defEnv fd a L cells) } (defEnv fd a L cells) (execs body (defEnv fd a L cells)) W)
  {env : Env} {E : Value → Shared → Prop} {K : Value → Shared → Prop} {F : Fz} {ρ : Pl} {η : Vars} {σ : Sto} {s : Shared} {vs : List Value} {Q : XV → Sto → Prop} (R : Rel c.base c.C env F ρ s.heap η σ)
  (hB : BindsTo s fd ⟨vs, kw⟩ bs) (hn1 : bs.map (·.1) = bx.map (fun n => (n.1 : Str))) (hX1 : XRs F ρ (bs.map (·.2)) (bx.map (·.2)))
  (hW : W (vsetX (bx.map (·.1)) (bx.map (·.2)) []) σ (fun _ σ' => RetP σ (.v .none) σ' Q) (fun x σ' => RetP σ x σ' Q)) (hK : Ret c F ρ s Q K) : wpAny c.M c.A (call (.ref a) vs kw) K E s := by
 refine dEA D.obj fun o ho hfd => ?_
 exact wpAny_call (codeAny_call_function hroom (R.sto.old _ _ ho) hfd D.co D.gen D.body (D.code.keeps R.sto.old) (hB _ _ _ _ (op_cont0 D hnm hb R hn1 hX1 hW hK)))
theorem op_def {a : Addr} {fd : FuncData} {body : List Stmt} {W : SW} (D : FdOK c a fd body) (hroom : c.A.depth < recursionLimit) (kw : List (Str × Value)) (bind : List XV → Option (List (String × XV)))
  (hbind : ∀ F ρ (s : Shared) σ vs xs bx, SRel c.base c.C F ρ s.heap σ → XRs F ρ vs xs → bind xs = some bx → ∃ bs : List (Str × Value), BindsTo s fd ⟨vs, kw⟩ bs ∧ bs.map (·.1) = bx.map (fun n => (n.1 : Str)) ∧ XRs F ρ (bs.map (·.2)) (bx.map (·.2)))
  (hnm : ∀ xs bx, bind xs = some bx → ∀ n ∈ bx, fd.scope.names.lookup (n.1 : Str) = some .local ∨ fd.scope.names.lookup (n.1 : Str) = some .cell)
  (hb : ∀ L cells, CellsOk (defEnv fd a L cells) → SOK { c with A := c.A.deeper (defEnv fd a L cells) } (defEnv fd a L cells) (execs body (defEnv fd a L cells)) W)
  {env : Env} {E : Value → Shared → Prop} {K : Value → Shared → Prop} {F : Fz} {ρ : Pl} {η : Vars} {σ : Sto} {s : Shared} {vs : List Value} {xs : List XV} {Q : XV → Sto → Prop} (R : Rel c.base c.C env F ρ s.heap η σ) (X : XRs F ρ vs xs)
  (hW : ∃ bx, bind xs = some bx ∧ W (vsetX (bx.map (·.1)) (bx.map (·.2)) []) σ (fun _ σ' => RetP σ (.v .none) σ' Q) (fun x σ' => RetP σ x σ' Q)) (hK : Ret c F ρ s Q K) : wpAny c.M c.A (call (.ref a) vs kw) K E s := by
 refine dEA hW fun bx hbx hW => ?_
 refine dEAA (hbind F ρ s σ vs xs bx R.sto X hbx) fun bs hB hn1 hX1 => ?_
 exact op_def1 D hroom (hnm xs bx hbx) hb R hB hn1 hX1 hW hK
end
section
variable {c : Cx} {env : Env}
noncomputable def oNeg (x : XV) (σ : Sto) (Q : XV → Sto → Prop) : Prop := ifS x.i? fun a => Q (.v (.int (-a))) σ
theorem op_neg : Op1 c (unaryOp .USub) oNeg := by
 intro E K F ρ σ s v x Q S X hQ hK
 exact X.gI hQ fun _ _ hQ => neg_int (pV S hK hQ)
noncomputable def oNot (x : XV) (σ : Sto) (Q : XV → Sto → Prop) : Prop := oTru x σ fun b σ1 => Q (.v (.bool (!b))) σ1
theorem op_not : Op1 c (unaryOp .Not) oNot := by
 intro E K F ρ σ s v x Q S X hQ hK
 exact not_of (jT E _ F ρ σ s v x _ S X hQ fun b F' ρ' σ' h' tk' S' q => hK _ _ F' ρ' σ' h' tk' (.v (.bool _)) S' q)
noncomputable def oIAdd (x y : XV) (σ : Sto) (Q : XV → Sto → Prop) : Prop := int2 x y fun a b => Q (.v (.int (a + b))) σ
theorem op_iadd : Op2 c (inplaceOp .Add) oIAdd := fun _ _ _ _ _ _ _ _ _ _ _ S X Y hQ hK => int2_e X Y hQ fun _ _ _ _ hQ => iadd_int (pV S hK hQ)
noncomputable def oISub (x y : XV) (σ : Sto) (Q : XV → Sto → Prop) : Prop := int2 x y fun a b => Q (.v (.int (a - b))) σ
theorem op_isub : Op2 c (inplaceOp .Sub) oISub := fun _ _ _ _ _ _ _ _ _ _ _ S X Y hQ hK => int2_e X Y hQ fun _ _ _ _ hQ => isub_int (pV S hK hQ)
noncomputable def oMax (xs : List XV) (σ : Sto) (Q : XV → Sto → Prop) : Prop := ar2 xs fun x y => int2 x y fun a b => Q (.v (.int (if b > a then b else a))) σ
theorem op_max (hh : c.A.handled = none) : OpN c (fun vs => call (.builtin "max") vs) oMax := by
 intro E K F ρ σ s vs xs Q S X hQ hK
 refine X.g2 hQ fun v u x y X Y hQ => int2_e X Y hQ fun a t b q hQ => max_two_ints hh fun h' tk hk => hK _ _ F ρ σ h' tk ?_ (.ext0 S hk) hQ
 split <;> exact .v (.int _ _)
theorem boot_max : bootBuiltins "max" = some (.builtin "max") := by decide +kernel
noncomputable def oList (xs : List XV) (σ : Sto) (Q : XV → Sto → Prop) : Prop :=
 ar1 xs fun x => ifS x.r? fun r => (Builtin.Range.small r.1 r.2.1 r.2.2 = true ∧ 0 ≤ Builtin.Range.rangeSize r.1 r.2.1 r.2.2 ∧ Builtin.Range.rangeSize r.1 r.2.1 r.2.2 ≤ 2 ^ 24) ∧ Q (.own σ.length) (σ ++ [.list (rngList r.1 r.2.1 r.2.2)])
theorem vrs_of {F : Fz} : ∀ (vs : List Value) (ds : List PyData), vs.length = ds.length → (∀ (i : Nat) v d, vs[i]? = some v → ds[i]? = some d → VR F v d) → VRs F vs ds
 | [], [], _, _ => .nil
 | [], _ :: _, h, _ => by cases h
 | _ :: _, [], h, _ => by cases h
 | v :: vs, d :: ds, h, hi => .cons (hi 0 v d rfl rfl) (vrs_of vs ds (by simpa using h) fun i v' d' a b => hi (i + 1) v' d' (by simpa using a) (by simpa using b))
theorem rng_at {a b k : Int} {i : Nat} {d : PyData} (h : (rngList a b k)[i]? = some d) : d = .int (a + i * k) := by
 unfold rngList at h
 rw [List.getElem?_map] at h
 refine qC fun P kG => ?_
 obtain ⟨j, h1, h2⟩ := Option.map_eq_some_iff.mp h
 obtain ⟨h3, h4⟩ := List.getElem?_eq_some_iff.mp h1
 refine kG ?_
 clear kG P
 rw [List.getElem_range] at h4
 rw [← h2, ← h4]
theorem op_list (hh : c.A.handled = none) : OpN c (fun vs => call (.type "list") vs) oList := by
 intro E K F ρ σ s vs xs Q S X hQ hK
 refine X.g1 hQ fun v x X hQ => X.gR hQ fun r a b k _ _ _ X hQ => ?_
 obtain ⟨⟨h1, h2, h3⟩, hQ⟩ := hQ
 dsimp only at h1 h2 h3 hQ
 refine call_list_range (n := (Builtin.Range.rangeSize a b k).toNat) hh (S.inn _ _ X) h1 (Int.toNat_of_nonneg h2).symm (by lia) fun h' tk acc' c' hk hl hi => ?_
 obtain ⟨hsz, hit⟩ := hi
 refine ret_own S hK hk (a := s.heap.objs.size) (vs := acc'.toList) (xs := rngList a b k) (.of (n := c') (by simpa using hl)) (get?_size _) (vrs_of _ _ (by unfold rngList; simp [hsz]) fun i v d hv hd => ?_) hQ
 obtain ⟨t, rfl⟩ := hit i v (by simpa using hv)
 rw [rng_at hd]; exact .int _ _
end
end Mine
set_option tactic.hygienic true
open PySem PySem.W PyProof.Rows
namespace Mine
open_top hd for PySem.Challenge.rw_ta0073_01.row
theorem law_said (h : PySem.Challenge.rw_ta0073_01.row.wellSaid = true) : PySem.Challenge.rw_ta0073_01.wellSaid = true := by
 delta OpenLaw.wellSaid
 repeat' with_reducible apply look_both
 all_goals first | with_reducible exact h | decide +kernel
end Mine
namespace Mine
open PySem PySem.Calls PySem.W PyProof.Rows
theorem vget_vsets_none : ∀ (ns : List String) (ds : List PyData) (η : Vars) (y : String) (v : XV), vget y η = some v → (∀ n ∈ ns, n ≠ y) → vget y (vsets ns ds η) = some v
 | [], _, _, _, _, h, _ => h
 | _ :: _, [], _, _, _, h, _ => h
 | n :: ns, d :: ds, η, y, v, h, hn => by
  unfold vsets
  refine vget_vsets_none ns ds _ y v ?_ fun m hm => hn m (List.mem_cons_of_mem _ hm)
  exact (kS (Ne.symm (hn n List.mem_cons_self))).trans h
noncomputable def notFree (scope : Scope) (x : Str) : Bool := !(scope.names.lookup x == some .free)
theorem pY {scope : Scope} {x : String} (h : notFree scope x = true) : TKeep scope (fun v η Q => Q (vset x v η)) := fun v η0 Q hf hQ => ⟨hQ, fun y u e => by
 refine (kS fun q => ?_).trans e
 subst q
 have := hf _ u e
 unfold notFree at h; rw [this] at h; cases h⟩
theorem vG {scope : Scope} (ns : List (String × Pos)) (h : (ns.all fun n => notFree scope n.1) = true) : TKeep scope (fun v η Q => ∃ ds, v = .v (.tuple ds) ∧ ns.length = ds.length ∧ Q (vsets (ns.map (·.1)) ds η)) := by
 intro v η0 Q hf hQ
 obtain ⟨ds, h1, h2, h3⟩ := hQ
 refine ⟨ds, h1, h2, h3, fun y u e => vget_vsets_none _ _ _ _ _ e fun n hn q => ?_⟩
 subst q
 have := hf _ u e
 rw [List.all_eq_true] at h
 obtain ⟨m, hm, rfl⟩ := List.mem_map.mp hn
 have h' := h m hm
 unfold notFree at h'; rw [this] at h'; cases h'
noncomputable def lc (scope : Scope) (x : Str) : Bool := match scope.names.lookup x with | some .local | some .cell => true | _ => false
theorem pM {scope : Scope} {x : Str} (h : lc scope x = true) : scope.names.lookup x = some .local ∨ scope.names.lookup x = some .cell := by
 unfold lc at h
 revert h
 cases scope.names.lookup x with
 | none => simp
 | some k => cases k <;> simp
theorem nmsOkC {scope : Scope} {env : Env} (ns : List (String × Pos)) (h : (ns.all fun n => lc scope n.1 && stNm env n.1) = true) : ∀ n ∈ ns, (scope.names.lookup (n.1 : Str) = some .local ∨ scope.names.lookup (n.1 : Str) = some .cell) ∧ stNm env n.1 = true := fun n hn => by
 rw [List.all_eq_true] at h
 have := h n hn
 simp only [Bool.and_eq_true] at this
 exact ⟨pM this.1, this.2⟩
theorem nmsOk {env : Env} (ns : List (String × Pos)) (h : (ns.all fun n => stNm env n.1) = true) : ∀ n ∈ ns, AnyNm n.1 ∧ stNm env n.1 = true := fun n hn => ⟨trivial, List.all_eq_true.mp h n hn⟩
theorem nms1 {env : Env} (ns : List (String × Pos)) (h : (ns.all fun n => stNm env n.1) = true) : ∀ n ∈ ns, stNm env n.1 = true := fun n hn => List.all_eq_true.mp h n hn
theorem nms0 {env : Env} (ns : List String) (h : (ns.all fun n => stNm env n) = true) : ∀ n ∈ ns, stNm env n = true := fun n hn => List.all_eq_true.mp h n hn
noncomputable def kfd (P : Params) (a : Addr) : FuncData := match (hd.heap_1 P).lookup a with | some ⟨_, _, .func fd, _⟩ => fd | _ => default
noncomputable def kbody (P : Params) (a : Addr) : List Stmt := match (kfd P a).body with | .stmts b => b | _ => []
noncomputable def kok (P : Params) (a : Addr) : Bool := match (hd.heap_1 P).lookup a with
 | some ⟨_, _, .func fd, _⟩ => fd.closure.isEmpty && (match fd.body with | .stmts _ => true | _ => false) && decide (fd.globals = mainGlobals) && decide (fd.builtins = builtinsNs) && codeIn (hd.heap_1 P) fd.code fd.qualname && !fd.scope.isCoroutine && !fd.scope.isGenerator && decide (fd.scope.kind = .function) &&
   (fd.scope.names.all fun x => x.2 != .free && decide (fd.scope.names.lookup x.1 = some x.2))
 | _ => false
structure Yes (c : Cx) (P : Params) (mg : Str → Option Value) : Prop where
 K : (hd.heap_1 P).In c.base
 G : Gl c mg
theorem Yes.none {c : Cx} {P : Params} {mg : Str → Option Value} (Y : Yes c P mg) {x : Str} (e : nsIn (hd.heap_1 P) mainGlobals x = some none) : mg x = none := mg_none_of Y.K Y.G.g e
theorem Yes.some {c : Cx} {P : Params} {mg : Str → Option Value} (Y : Yes c P mg) {x : Str} {v : Value} (e : nsIn (hd.heap_1 P) mainGlobals x = some (some v)) : mg x = some v := mg_of Y.K Y.G.g e
theorem Yes.deep {c : Cx} {P : Params} {mg : Str → Option Value} (Y : Yes c P mg) (A : Around) : Yes { c with A := A } P mg := ⟨Y.K, Y.G.g, Y.G.b, Y.G.lim⟩
theorem Yes.fd {c : Cx} {P : Params} {mg : Str → Option Value} (Y : Yes c P mg) {a : Addr} (h : kok P a = true) : FdOK c a (kfd P a) (kbody P a) := by
 unfold kok at h
 split at h
 ·rename_i oc od fd osl ho
  have e1 : kfd P a = fd := by unfold kfd; rw [ho]
  simp only [Bool.and_eq_true, decide_eq_true_eq, List.isEmpty_iff, Bool.not_eq_true'] at h
  refine qC fun P kG => ?_
  obtain ⟨⟨⟨⟨⟨⟨⟨⟨h1, h2⟩, h3⟩, h4⟩, h5⟩, h6⟩, h7⟩, h8⟩, h9⟩ := h
  refine kG ?_
  clear kG P
  rw [← e1] at h1 h2 h3 h4 h5 h6 h7 h8 h9
  refine ⟨⟨_, Y.K _ _ ho, by rw [e1]⟩, h1, ?_, h3, h4, codeRec_of Y.K h5, Y.G.lim, h6, h7, h8, h9⟩
  unfold kbody
  revert h2
  cases (kfd P a).body <;> simp
 ·cases h
theorem Room.deeper {d : Nat} {A : Around} (r : Room (d + 1) A) (env : Env) : Room d (A.deeper env) := ⟨r.hd, by have := r.depth; show A.depth + 1 + d < _; exact (qA [_,_,_] 1 (.a (.a (.a (.v 0) (.n 1)) (.v 1)) (.n 1)) (.v 2) (.c 1 (.a (.a (.v 0) (.a (.v 1) (.n 1))) (.n 1)) (.v 2) .z) rfl this), by have := r.units; show A.units + 3 + 60 * d + 100 < _; exact (qA [_,_,_] 1 (.a (.a (.a (.a (.v 0) (.n 3)) (.m 60 (.v 1))) (.n 100)) (.n 1)) (.v 2) (.c 1 (.a (.a (.a (.v 0) (.m 60 (.a (.v 1) (.n 1)))) (.n 100)) (.n 1)) (.v 2) .z) rfl this)⟩
theorem Room.less {d e : Nat} {A : Around} (r : Room d A) (h : e ≤ d) : Room e A := ⟨r.hd, by have := r.depth; exact (qA [_,_,_,_] 1 (.a (.a (.v 0) (.v 1)) (.n 1)) (.v 2) (.c 1 (.a (.a (.v 0) (.v 3)) (.n 1)) (.v 2) (.c 1 (.v 1) (.v 3) .z)) rfl this h), by have := r.units; exact (qA [_,_,_,_] 1 (.a (.a (.a (.v 0) (.m 60 (.v 1))) (.n 100)) (.n 1)) (.v 2) (.c 1 (.a (.a (.a (.v 0) (.m 60 (.v 3))) (.n 100)) (.n 1)) (.v 2) (.c 60 (.v 1) (.v 3) .z)) rfl this h)⟩
theorem Room.eq {d : Nat} {A : Around} (r : Room d A) : A.units + 64 < cLine := by have := r.units; exact (qA [_,_,_] 1 (.a (.a (.v 0) (.n 64)) (.n 1)) (.v 1) (.c 1 (.a (.a (.a (.v 0) (.m 60 (.v 2))) (.n 100)) (.n 1)) (.v 1) .z) rfl this)
theorem Room.dep {d : Nat} {A : Around} (r : Room d A) : A.depth < recursionLimit := by have := r.depth; exact (qA [_,_,_] 1 (.a (.v 0) (.n 1)) (.v 1) (.c 1 (.a (.a (.v 0) (.v 2)) (.n 1)) (.v 1) .z) rfl this)
noncomputable def xk0 (d : (List Expr × Scope) × Pos × List Comprehension × Operator) (e : Expr) : (List Expr × Scope) × Pos × List Comprehension × Operator := Expr.casesOn e (fun _ _ _ => d) (fun _ _ _ => d) (fun l o r p => (([l, r], default), p, [], o)) (fun _ _ _ => d) (fun _ b s p => (([b], s), p, [], .Add)) (fun _ _ _ _ => d) (fun _ _ _ => d) (fun _ _ _ => d) (fun e g s p => (([e], s), p, g, .Add)) (fun _ _ _ _ => d) (fun _ _ _ _ _ => d) (fun _ _ _ _ => d) (fun _ _ => d) (fun _ _ => d) (fun _ _ => d) (fun _ _ _ _ => d) (fun f _ ks p => ((f :: ks.map (·.value), default), p, [], .Add)) (fun _ _ _ _ => d) (fun _ _ => d) (fun _ _ _ => d) (fun _ _ _ => d) (fun v s p => (([v, s], default), p, [], .Add)) (fun _ _ => d) (fun _ _ => d) (fun es p => ((es, default), p, [], .Add)) (fun _ _ _ => d) (fun _ _ _ _ => d)
noncomputable def xk (e : Expr) : (List Expr × Scope) × Pos × List Comprehension × Operator := xk0 (([], default), default, [], .Add) e
noncomputable def xd : Expr := .List [] default
noncomputable def sk0 (d : Expr) (s : Stmt) : List Stmt × List Expr × Expr × Pos := Stmt.casesOn s (fun _ _ _ _ _ _ _ _ _ _ => ([], [], d, default)) (fun _ _ _ _ _ _ _ _ _ _ => ([], [], d, default)) (fun _ _ _ _ _ _ _ _ _ _ _ => ([], [], d, default)) (fun _ _ => ([], [], d, default)) (fun _ _ => ([], [], d, default)) (fun t v p => ([], t, v, p)) (fun _ _ _ _ _ _ _ => ([], [], d, default)) (fun _ _ _ _ => ([], [], d, default)) (fun _ _ _ _ _ => ([], [], d, default)) (fun _ i b _ p => (b, [], i, p)) (fun _ _ _ _ _ => ([], [], d, default)) (fun t b _ p => (b, [], t, p)) (fun t b _ p => (b, [], t, p)) (fun _ _ _ => ([], [], d, default)) (fun _ _ _ => ([], [], d, default)) (fun _ _ _ => ([], [], d, default)) (fun _ _ _ => ([], [], d, default)) (fun _ _ _ _ _ => ([], [], d, default)) (fun _ _ _ _ _ => ([], [], d, default)) (fun _ _ _ => ([], [], d, default)) (fun _ _ => ([], [], d, default)) (fun _ _ _ _ => ([], [], d, default)) (fun _ _ => ([], [], d, default)) (fun _ _ => ([], [], d, default)) (fun _ _ => ([], [], d, default)) (fun _ => ([], [], d, default)) (fun _ => ([], [], d, default)) (fun _ => ([], [], d, default))
noncomputable def sk (s : Stmt) : List Stmt × List Expr × Expr × Pos := sk0 xd s
noncomputable def xh (e : Expr) : Expr := (xk e).1.1.headD xd
set_option tactic.hygienic false
section
variable {base : Heap} {C : Addr} {F : Fz} {ρ : Pl} {h h' : Heap} {σ : Sto}
theorem Step.mutate (S : SRel base C F ρ h σ) {i : Nat} {p : Addr × Addr} {m m' : MO} (hp : ρ[i]? = some p) (hm : σ[i]? = some m) (hl : m.live = true) (hs : ∀ b, b ≠ p.2 → h'.get? b = h.get? b) (hr : MRel C F h' p m') (hl' : m'.live = true) :
  Step base C F ρ h F ρ h' (σ.set i m') := by
 have hF : F p.2 = none := S.out i p m hp hm hl
 have inn : FIn F h' := fun b o e => by
  have hb : b ≠ p.2 := fun q => by rw [q, hF] at e; cases e
  rw [hs b hb]; exact S.inn b o e
 have hmem : Mut ρ p.2 := ⟨p, List.mem_of_getElem? hp, rfl⟩
 refine ⟨⟨FLe.refl F, inn, fun _ _ e => .inl e, fun b o e hx => .inl ((hs b fun q => hx (q ▸ hmem)).trans e)⟩, List.prefix_refl _, fun q hq => .inl hq, ⟨inn, S.base, by rw [List.length_set]; exact S.len, fun j q mo h1 h2 => ?_, S.nd, fun j q mo h1 h2 hlv => ?_⟩⟩
 ·rcases set_at h2 with ⟨rfl, rfl⟩ | ⟨hij, h2⟩
  ·exact Option.some.inj (hp.symm.trans h1) ▸ hr
  ·exact (S.obj j q mo h1 h2).mono (FLe.refl F) (hs _ fun e => hij (S.idx hp h1 e))
 ·rcases set_at h2 with ⟨rfl, rfl⟩ | ⟨hij, h2⟩
  ·exact Option.some.inj (hp.symm.trans h1) ▸ hF
  ·exact S.out j q mo h1 h2 hlv
theorem Step.frozen (S : SRel base C F ρ h σ) {i : Nat} {p : Addr × Addr} {xs : List PyData} (hp : ρ[i]? = some p) (hm : σ[i]? = some (.list xs)) :
  ∃ F', VR F' (.ref p.1) (.list xs) ∧ Step base C F ρ h F' ρ h (σ.set i .dead) := by
 refine qC fun P kG => ?_
 refine dAEA (S.obj i p _ hp hm) fun hpe vs hN1 hv => ?_
 obtain ⟨o, ho, hc, n, hd⟩ := hN1
 refine kG ?_
 clear kG P
 have hF : F p.2 = none := S.out i p _ hp hm rfl
 have le := freeze_le (h := h) hF
 have inn := freeze_in (a := p.2) S.inn
 have at_ : freeze F p.2 h p.2 = some o := by unfold freeze; rw [if_pos rfl]; exact ho
 refine ⟨freeze F p.2 h, by rw [hpe]; exact .list (o := o) (vs := vs.toArray) (n := n) at_ hc.1 hd (hv.mono le), ⟨⟨le, inn, fun b o' e => ?_, fun b o e _ => .inl e⟩, List.prefix_refl _, fun q hq => .inl hq, ⟨inn, fun a o e => le _ _ (S.base a o e), by rw [List.length_set]; exact S.len, fun j q mo h1 h2 => ?_, S.nd, fun j q mo h1 h2 hlv => ?_⟩⟩⟩
 ·unfold freeze at e
  split at e
  ·rename_i q; exact .inr (.inr ⟨p, List.mem_of_getElem? hp, q.symm⟩)
  ·exact .inl e
 ·rcases set_at h2 with ⟨rfl, rfl⟩ | ⟨hij, h2⟩
  ·exact Option.some.inj (hp.symm.trans h1) ▸ ⟨o, at_, fun v q => nomatch hd.symm.trans q⟩
  ·exact (S.obj j q mo h1 h2).mono le rfl
 ·rcases set_at h2 with ⟨rfl, rfl⟩ | ⟨hij, h2⟩
  ·cases hlv
  ·unfold freeze
   rw [if_neg fun e => hij (S.idx hp h1 e)]; exact S.out j q mo h1 h2 hlv
end
section
variable {c : Cx} {env : Env}
theorem eok_froze {t : Sem Value} {W : EW} (h : EOK c env t W) : EOK c env t (fun η σ Q => W η σ fun x σ1 => ∃ i xs, x = .own i ∧ σ1[i]? = some (.list xs) ∧ Q (.v (.list xs)) (σ1.set i .dead)) := by
 intro E K F ρ η σ s Q R hW hK
 refine h E _ F ρ η σ s _ R hW fun v1 x1 F1 ρ1 σ1 hp1 t1 X1 S1 hW1 => ?_
 refine dEEAA hW1 fun i xs hR2 hm hQ => ?_
 subst hR2
 refine X1.eO fun p hp => ?_
 refine dEA (Step.frozen S1.sto hp hm) fun F2 V S2 => ?_
 exact hK _ _ F2 ρ1 _ hp1 t1 (.v V) (S1.trans S2) hQ
noncomputable def Op2m (c : Cx) (f : Value → Value → Sem Value) (O : Nat → List PyData → XV → Sto → (XV → Sto → Prop) → Prop) : Prop :=
 ∀ (E : Value → Shared → Prop) (K : Value → Shared → Prop) F ρ σ (s : Shared) i p xs u y Q, SRel c.base c.C F ρ s.heap σ → ρ[i]? = some p → σ[i]? = some (.list xs) → XR F ρ u y → O i xs y σ Q → Ret c F ρ s Q K → wpAny c.M c.A (f (.ref p.2) u) K E s
theorem eok_lmeth {o : Expr} {name : Str} {apos pos : Pos} {args : List Expr} {t : Sem Value} {pl : Sem Bool} {id : String} {W Wa O} (slot : Slot "list" name id) (hty : typeOf (.builtin id) = pure (.type "method_descriptor"))
  (ht : backTo pos (starEach args env) = [(false, t)]) (h1 : EOK c env (eval o env) W) (ha : EOK c env t Wa) (ho : Op2m c (fun l x => call (.builtin id) [l, x]) O)
  (he : eval (.Call (.Attribute o name apos) args [] pos) env = (do
   let ov ← eval o env
   standAt apos.atName
   let (f, first) ← holding [ov] (getMethod ov name pl)
   callWith pos f first (backTo pos (starEach args env)) []) := by rfl) :
  EOK c env (eval (.Call (.Attribute o name apos) args [] pos) env) (fun η σ Q => W η σ fun x σ1 => ∃ i, x = .own i ∧ (∃ xs, σ1[i]? = some (.list xs)) ∧ Wa η σ1 fun y σ2 => ∃ xs, σ2[i]? = some (.list xs) ∧ O i xs y σ2 Q) := by
 intro E K F ρ η σ s Q R hW hK
 refine MethodCall_ (h1 E _ F ρ η σ s _ R hW fun v1 x1 F1 ρ1 σ1 hp1 t1 X1 S1 hW1 => ?_) he
 refine dEAA hW1 fun i hR3 hN4 hW2 => ?_
 obtain ⟨xs, hm⟩ := hN4
 subst hR3
 refine X1.eO fun p hp => ?_
 ·refine dAEA (S1.sto.obj i p _ hp hm) fun hpe vs l hv => ?_
  have hl : hp1.IsList p.2 vs.toArray := l.isList
  rw [hpe]
  refine getMethod_list_of (s := { s with heap := hp1, toks := t1 }) slot hty hl (let ⟨o, e, ⟨_, c2, _⟩, _⟩ := l; ⟨o, e, c2⟩) ?_
  rw [ht]
  refine callWith_builtin rfl ?_
  have key : wpAny c.M c.A (spliced [(false, t)]) (fun vs s' => wpAny c.M c.A (call (.builtin id) ([.ref p.2] ++ vs) []) K E s') E { s with heap := hp1, toks := t1 } := by
   refine spliced_cons (ha E _ F1 ρ1 η σ1 _ _ (R.step S1) hW2 fun v2 y F2 ρ2 σ2 hp2 t2 X2 S2 hW3 => spliced_nil ?_)
   refine dEA hW3 fun ys hm2 hO => ?_
   exact ho E _ F2 ρ2 σ2 _ i p ys _ y Q S2.sto (pre_at S2.pre hp) hm2 X2 hO fun v x F3 ρ3 σ3 h3 t3 X3 S3 hQ => hK v x F3 ρ3 σ3 h3 t3 X3 ((S1.trans S2).trans S3) hQ
  exact kJ key
noncomputable def oAppend (i : Nat) (xs : List PyData) (y : XV) (σ : Sto) (Q : XV → Sto → Prop) : Prop := ∃ d, y = .v d ∧ xs.length ≤ sizeLine ∧ Q (.v .none) (σ.set i (.list (xs ++ [d])))
theorem op_append : Op2m c (fun l x => call (.builtin "list.append") [l, x]) oAppend := by
 intro E K F ρ σ s i p xs u y Q S hp hm X hQ hK
 refine qC fun P kG => ?_
 obtain ⟨d, rfl, hsz, hQ⟩ := hQ
 obtain ⟨hpe, vs, l, hv⟩ := S.obj i p _ hp hm
 obtain ⟨n, ho⟩ := l.plain
 refine kG ?_
 clear kG P
 ·refine wpAny_list_append_plain ⟨n, ho⟩ (fun h' ⟨n', e'⟩ hs => ?_) (by rw [List.size_toArray, hv.length]; exact hsz)
  have e'' : h'.get? p.2 = some { cls := .type "list", data := .seq (vs ++ [u]).toArray n' } := by
   rw [e']; congr 2; simp
  exact hK _ _ F ρ _ h' s.toks (.v .none) (Step.mutate S hp hm rfl hs.2 (m' := .list (xs ++ [d])) ⟨hpe, vs ++ [u], .of e'', hv.append (.cons X.eV .nil)⟩ rfl) hQ
theorem VRs.eraseIdx {F : Fz} : ∀ {vs : List Value} {ds : List PyData} (_ : VRs F vs ds) (k : Nat), VRs F (vs.eraseIdx k) (ds.eraseIdx k)
 | _, _, .nil, _ => .nil
 | _, _, .cons a b, 0 => b
 | _, _, .cons a b, k + 1 => .cons a (VRs.eraseIdx b k)
theorem sok_del {o i : Expr} {p pos : Pos} {W Wi} (h1 : EOK c env (eval o env) W) (h2 : EOK c env (eval i env) Wi) :
  SOK c env (exec (.Delete [.Subscript o i p] pos) env) (fun η σ N _ => W η σ fun x σ1 => ∃ a, x = .own a ∧ Wi η σ1 fun y σ2 => ∃ xs k j, σ2[a]? = some (.list xs) ∧ y = .v (.int k) ∧ (-1000 ≤ k ∧ k < 2 ^ 30) ∧ seqIndex? k xs.length = some j ∧ xs.length ≤ sizeLine ∧ N η (σ2.set a (.list (xs.eraseIdx j)))) := by
 intro E K F ρ η σ s N Rt R hW hN hR
 refine wpAny_Delete (wpAny_deleteEach_cons ?_)
 rw [arm_delete_Subscript]
 refine wpAny_bind (h1 E _ F ρ η σ s _ R hW fun v1 x1 F1 ρ1 σ1 hp1 t1 X1 S1 hW1 => ?_)
 refine qC fun P kG => ?_
 obtain ⟨a, rfl, hW1⟩ := hW1
 refine kG ?_
 clear kG P
 refine X1.eO fun q hq => ?_
 ·refine wpAny_bind (wpAny_holding (h2 E _ F1 ρ1 η σ1 _ _ (R.step S1) hW1 fun v2 x2 F2 ρ2 σ2 hp2 t2 X2 S2 hW2 => ?_))
  refine qC fun P kG => ?_
  obtain ⟨xs, k, j, hm, rfl, hk, hj, hsz, hQ⟩ := hW2
  have hq2 : ρ2[a]? = some q := pre_at S2.pre hq
  obtain ⟨hqe, vs, l, hv⟩ := S2.sto.obj a q _ hq2 hm
  obtain ⟨n, ho⟩ := l.plain
  refine kG ?_
  clear kG P
  refine X2.eI fun tk2 => ?_
  ·rw [hqe]
   refine wpAny_bind (wpAny_standAt (wpAny_bind (wpAny_holding (wpAny_delItem_plain (s := { s with heap := hp2, toks := t2 }) ⟨n, ho⟩ (k := j) ?_ (by rw [List.size_toArray, hv.length]; exact hj) (fun h' ⟨n', e'⟩ hs => ?_) (by rw [List.size_toArray, hv.length]; exact hsz)))))
   ·unfold Builtin.List.listFitsIndex; simp; lia
   ·refine wpAny_release (wpAny_deleteEach_nil ?_)
    have e'' : h'.get? q.2 = some { cls := .type "list", data := .seq (vs.eraseIdx j).toArray n' } := by
     rw [e']
     have e3 : vs.toArray.eraseIdxIfInBounds j = (vs.eraseIdx j).toArray := by
      unfold Array.eraseIdxIfInBounds
      split
      ·simp
      ·rename_i hlt
       rw [List.eraseIdx_of_length_le (by simpa using hlt)]
     rw [e3]
    have S3 := Step.mutate S2.sto hq2 hm rfl hs.2 (m' := .list (xs.eraseIdx j)) ⟨hqe, vs.eraseIdx j, .of e'', hv.eraseIdx j⟩ rfl
    have S := (S1.trans S2).trans S3
    exact hN F2 ρ2 η _ h' t2 (R.step S) S.sevo hQ
end
section
variable {c : Cx} {env : Env} {P : Params} {mg : Str → Option Value}
theorem eok_gstr (Y : Yes c P mg) {x a : Str} {t : Tok} {pos : Pos} (hk : env.kindOf x = some .globalImplicit) (hm : nsIn (hd.heap_1 P) mainGlobals x = some (some (.str a t))) (hd : (x == ("__debug__" : Str)) = false) :
  EOK c env (eval (.Name x pos) env) (fun _ σ Q => Q (.v (.str a)) σ) := fun E K F ρ η σ s Q R hW hK =>
 vF Y.G R hk (Y.some hm) hd (hK _ _ F ρ σ s.heap s.toks (.v (.str a t)) (.refl R.sto) hW)
theorem eok_fn (Y : Yes c P mg) {f : Str} {p pos : Pos} {args : List Expr} {t : Sem Value} {ts : List (Bool × Sem Value)} {a : Addr} {W : LW} {WB : SW} (hroom : c.A.depth < recursionLimit) (hk : env.kindOf f = some .globalImplicit)
  (hm : nsIn (hd.heap_1 P) mainGlobals f = some (some (.ref a))) (hok : kok P a = true) (hd : (f == ("__debug__" : Str)) = false) (ht : backTo pos (starEach args env) = (false, t) :: ts) (hs : EsOK c env ((false, t) :: ts) W) (params : List String)
  (hbind : ∀ vs : List Value, vs.length = params.length → bindArgs (kfd P a) ⟨vs, []⟩ = pure ((params.map Str.ofString).zip vs)) (hnm : (params.all fun n => lc (kfd P a).scope n) = true)
  (hb : ∀ L cells, CellsOk (defEnv (kfd P a) a L cells) → SOK { c with A := c.A.deeper (defEnv (kfd P a) a L cells) } (defEnv (kfd P a) a L cells) (execs (kbody P a) (defEnv (kfd P a) a L cells)) WB) :
  EOK c env (eval (.Call (.Name f p) args [] pos) env) (fun η σ Q => W η σ fun xs σ1 => xs.length = params.length ∧ WB (vsetX params xs []) σ1 (fun _ σ' => RetP σ1 (.v .none) σ' Q) (fun x σ' => RetP σ1 x σ' Q)) := by
 intro E K F ρ η σ s Q R hW hK
 have D := Y.fd hok
 obtain ⟨o, ho, hfd⟩ := D.obj
 refine wpAny_Call_NameR (vF Y.G R hk (Y.some hm) hd ?_)
 rw [ht]
 refine callWith_function (o := o) (fd := kfd P a) (kJ (hs E _ F ρ η σ s _ R hW fun vs xs F1 ρ1 σ1 hp1 t1 X1 S1 hW1 => ⟨⟨S1.sto.old _ _ ho, hfd⟩, ?_⟩))
 refine op_def D hroom [] (fun xs => if xs.length = params.length then some (params.zip xs) else none) (fun F ρ s σ vs xs bx S X e => ?_) (fun xs bx e n hn => ?_) hb (env := env) (η := η) (σ := σ1) (s := { s with heap := hp1, toks := t1 }) (R.step S1) X1 ⟨params.zip xs, if_pos hW1.1, ?_⟩ fun v x F2 ρ2 σ2 h2 t2 X2 S2 hQ => hK v x F2 ρ2 σ2 h2 t2 X2 (S1.trans S2) hQ
 ·split at e
  ·rename_i hl
   cases e
   have hv : vs.length = params.length := by rw [X.length]; exact hl
   have hv' : vs.length = (params.map Str.ofString).length := by rw [List.length_map]; exact hv
   refine ⟨(params.map Str.ofString).zip vs, .of_eq (hbind vs hv), ?_, ?_⟩
   ·rw [List.map_fst_zip (by exact (qA [_,_] 1 (.v 0) (.v 1) (.c 1 (.v 0) (.v 1) .z) rfl (uJ (Eq.symm hv')))), show (fun n : String × XV => Str.ofString n.1) = Str.ofString ∘ Prod.fst from rfl, ← List.map_map, List.map_fst_zip (by exact (qA [_,_] 1 (.v 0) (.v 1) (.c 1 (.v 0) (.v 1) .z) rfl (uJ (Eq.symm hl))))]
   ·rw [List.map_snd_zip (by exact (qA [_,_] 1 (.v 0) (.v 1) (.c 1 (.v 0) (.v 1) .z) rfl (uJ hv'))), List.map_snd_zip (by exact (qA [_,_] 1 (.v 0) (.v 1) (.c 1 (.v 0) (.v 1) .z) rfl (uJ hl)))]; exact X
  ·cases e
 ·split at e
  ·cases e
   have hp := List.of_mem_zip hn
   rw [List.all_eq_true] at hnm
   exact pM (hnm _ hp.1)
  ·cases e
 ·rw [List.map_fst_zip (by exact (qA [_,_] 1 (.v 0) (.v 1) (.c 1 (.v 0) (.v 1) .z) rfl (uJ (Eq.symm (And.left hW1))))), List.map_snd_zip (by exact (qA [_,_] 1 (.v 0) (.v 1) (.c 1 (.v 0) (.v 1) .z) rfl (uJ (And.left hW1))))]; exact hW1.2
theorem len1 {α : Type} {l : List α} (h : l.length = 1) : ∃ a, l = [a] := match l, h with | [a], _ => ⟨a, rfl⟩
theorem len2 {α : Type} {l : List α} (h : l.length = 2) : ∃ a b, l = [a, b] := match l, h with | [a, b], _ => ⟨a, b, rfl⟩
end
theorem qK (x : String) : vget x [] = none := rfl
theorem qL (x y : String) (v : XV) (η : Vars) : vget y ((x, v) :: η) = cond (y == x) (some v) (vget y η) := rfl
theorem qT (scope : Scope) (x : String) : ∀ η : Vars, vget x (freeV scope η) = if (scope.names.lookup (x : Str) == some .free) = true then vget x η else none
 | [] => by unfold freeV; simp [qK]
 | (y, v) :: η => by
  have ih := qT scope x η
  unfold freeV at ih ⊢
  rw [List.filter_cons]
  by_cases hx : x = y
  ·subst hx
   rw [vget_hit]
   by_cases hy : (scope.names.lookup (x : Str) == some .free) = true
   ·rw [if_pos hy, if_pos hy, vget_hit]
   ·rw [if_neg hy, if_neg hy, ih, if_neg hy]
  ·rw [kS hx]
   split
   ·rw [kS hx]; exact ih
   ·exact ih
theorem qH (n : String) (ns : List String) (d : XV) (ds : List XV) (η : Vars) : vsetX (n :: ns) (d :: ds) η = vsetX ns ds (vset n d η) := rfl
theorem qI (ds : List XV) (η : Vars) : vsetX [] ds η = η := rfl
theorem qM (n : String) (ns : List String) (d : PyData) (ds : List PyData) (η : Vars) : vsets (n :: ns) (d :: ds) η = vsets ns ds (vset n (.v d) η) := rfl
theorem qN (ds : List PyData) (η : Vars) : vsets [] ds η = η := rfl
theorem qJ {α : Type} {a : α} {Q : α → Prop} : (∃ x, some a = some x ∧ Q x) = Q a := by simp
theorem qY (x : Str) (k : NameKind) (n : Str) (r : List (Str × NameKind)) : List.lookup x ((n, k) :: r) = if x = n then some k else List.lookup x r := by
 rw [List.lookup_cons]
 by_cases h : x = n
 ·subst h; simp
 ·rw [if_neg h, beq_eq_false_iff_ne.mpr h]
theorem qZ (x : Str) : List.lookup x ([] : List (Str × NameKind)) = none := rfl
noncomputable def octL (n : Nat) : List Nat := if n > 4095 then [n / 4096 % 64 + 64, n / 64 % 64 + 64, n % 64] else if n > 63 then [n / 64 % 64 + 64, n % 64] else [n % 64]
noncomputable def nlist (l : List Nat) : List PyData := l.map fun (k : Nat) => PyData.int (k : Int)
theorem and63 (n : Nat) : Builtin.bitAnd (n : Int) 63 = ((n % 64 : Nat) : Int) := by
 rw [show Builtin.bitAnd (n : Int) 63 = ((n &&& 63 : Nat) : Int) from by simp [Builtin.bitAnd]]
 rw [show (63 : Nat) = 2 ^ 6 - 1 from rfl, Nat.and_two_pow_sub_one_eq_mod]
section
variable {σ : Sto} {Q : XV → Sto → Prop} {T : Bool → Sto → Prop} {a b k : Int} {p q : Bool} {x y : Str} {f : Int → Int → Bool}
theorem zA : oAdd (.v (.int a)) (.v (.int b)) σ Q = Q (.v (.int (a + b))) σ := rfl
theorem zB : oAdd (.v (.bool p)) (.v (.bool q)) σ Q = Q (.v (.int (b2i p + b2i q))) σ := rfl
theorem zC : oAdd (.v (.str x)) (.v (.str y)) σ Q = (x.length + y.length ≤ sizeLine ∧ Q (.v (.str (x ++ y))) σ) := rfl
theorem zD : oSub (.v (.int a)) (.v (.int b)) σ Q = Q (.v (.int (a - b))) σ := rfl
theorem zE : oMod (.v (.int a)) (.v (.int b)) σ Q = (b ≠ 0 ∧ Q (.v (.int (a.fmod b))) σ) := rfl
theorem zF : oFdiv (.v (.int a)) (.v (.int b)) σ Q = ((b ≠ 0 ∧ b.natAbs < 1073741824) ∧ Q (.v (.int (a.fdiv b))) σ) := rfl
theorem qP : oAnd (.v (.int a)) (.v (.int b)) σ Q = Q (.v (.int (Builtin.bitAnd a b))) σ := rfl
theorem zG : oShr (.v (.int a)) (.v (.int b)) σ Q = (0 ≤ b ∧ Q (.v (.int (a.fdiv (2 ^ b.toNat)))) σ) := rfl
theorem qQ : oCmp f (.v (.int a)) (.v (.int b)) σ Q = Q (.v (.bool (f a b))) σ := rfl
theorem zH : oMul (.v (.int a)) (.v (.int b)) σ Q = (IntMulOk a b ∧ Q (.v (.int (a * b))) σ) := rfl
theorem zI : oMul (.v (.int a)) (.v (.bool p)) σ Q = Q (.v (.int (a * if p = true then (1 : Int) else 0))) σ := rfl
theorem zJ : oMul (.v (.str x)) (.v (.bool p)) σ Q = (x.length ≤ sizeLine ∧ Q (.v (.str (if p = true then x else Str.empty))) σ) := rfl
theorem zK (i : Nat) : oMul (.own i) (.v (.int b)) σ Q = ∃ xs, lst? σ (.own i) = some xs ∧ (0 ≤ b ∧ xs.length * b.toNat ≤ 256 ∧ b < 1000) ∧ Q (.v (.list (List.replicate b.toNat xs).flatten)) σ := rfl
theorem zL : oNeg (.v (.int a)) σ Q = Q (.v (.int (-a))) σ := rfl
theorem qR (n : Bool) : oIs n (.v (.bool p)) (.v (.bool q)) σ Q = Q (.v (.bool (n != (p == q)))) σ := rfl
theorem qU (n : Bool) : oIs n (.v .none) (.v .none) σ Q = Q (.v (.bool (n != true))) σ := rfl
theorem zM (n : Bool) : oIs n (.v (.int a)) (.v .none) σ Q = Q (.v (.bool (n != false))) σ := rfl
theorem zN (n : Bool) : oIn n (.v (.str x)) (.v (.str y)) σ Q = Q (.v (.bool (n != hasStr x y))) σ := rfl
theorem qO : oTru (.v (.bool p)) σ T = T p σ := rfl
theorem zO : oTru (.v (.int a)) σ T = T (a != 0) σ := rfl
theorem zP : oTru (.v (.str x)) σ T = (x.length < 2 ^ 62 ∧ T ((x.length : Int) != 0) σ) := rfl
theorem zQ : oNot (.v (.bool p)) σ Q = Q (.v (.bool (!p))) σ := rfl
theorem zR : oLen [.v (.str x)] σ Q = (x.length < 2 ^ 62 ∧ Q (.v (.int x.length)) σ) := rfl
theorem zS (ds : List PyData) : oLen [.v (.list ds)] σ Q = ∃ xs, some ds = some xs ∧ xs.length < 2 ^ 62 ∧ Q (.v (.int xs.length)) σ := rfl
theorem zT (i : Nat) : oLen [.own i] σ Q = ∃ xs, lst? σ (.own i) = some xs ∧ xs.length < 2 ^ 62 ∧ Q (.v (.int xs.length)) σ := rfl
theorem qV : oRange [.v (.int a)] σ Q = Q (.rng 0 a 1) σ := rfl
theorem zU : oRange [.v (.int a), .v (.int b)] σ Q = Q (.rng a b 1) σ := rfl
theorem zV : oRange [.v (.int a), .v (.int b), .v (.int k)] σ Q = ((k ≠ 0 ∧ k.natAbs < 1000) ∧ Q (.rng a b k) σ) := rfl
theorem zW : oFind [.v (.str x), .v (.str y)] σ Q = Q (.v (.int (findIn x y 0 x.length))) σ := rfl
theorem zX : oFind [.v (.str x), .v (.str y), .v (.int a), .v (.int b)] σ Q = ((0 ≤ a ∧ 0 ≤ b ∧ b ≤ x.length) ∧ Q (.v (.int (findIn x y a.toNat b.toNat))) σ) := rfl
theorem zY (g : Str → Str → PyData) : oStr2 g [.v (.str x), .v (.str y)] σ Q = Q (.v (g x y)) σ := rfl
theorem qW (g : Str → PyData) (ok : Str → Prop) : oStr1 g ok [.v (.str x)] σ Q = (ok x ∧ Q (.v (g x)) σ) := rfl
theorem zZ : oSplit [.v (.str x), .v (.str y)] σ Q = (((y.length == 0) = false ∧ x.length ≤ sizeLine ∧ (Builtin.Str.partsBetween x (Builtin.Str.occurrences x y 0 x.length (x.length + 1)) y.length).length ≤ sizeLine) ∧ Q (.own σ.length) (σ ++ [.list ((Txt.split x y).map .str)])) := rfl
theorem jA (lo hi st : Option Int) : oSlice (.v (.str x)) lo hi st σ Q = (st = none ∧ x.length ≤ sizeLine ∧ Q (.v (.str (Txt.slice x lo hi))) σ) := rfl
theorem jB (ds : List PyData) (lo hi st : Option Int) : oSlice (.v (.list ds)) lo hi st σ Q = ∃ xs, some ds = some xs ∧ st ≠ some 0 ∧ xs.length ≤ sizeLine ∧ Q (.v (.list (pickL xs lo hi st))) σ := rfl
theorem jR (ds : List PyData) : oItem (.v (.tuple ds)) (.v (.int k)) σ Q = ∃ j d, (-1000 ≤ k ∧ k < 2 ^ 30) ∧ seqIndex? k ds.length = some j ∧ ds[j]? = some d ∧ Q (.v d) σ := rfl
theorem jQ (ds : List PyData) : oItem (.v (.list ds)) (.v (.int k)) σ Q = ∃ xs j d, some ds = some xs ∧ (-1000 ≤ k ∧ k < 2 ^ 30) ∧ seqIndex? k xs.length = some j ∧ xs[j]? = some d ∧ Q (.v d) σ := rfl
theorem jS (i : Nat) : oItem (.own i) (.v (.int k)) σ Q = ∃ xs j d, lst? σ (.own i) = some xs ∧ (-1000 ≤ k ∧ k < 2 ^ 30) ∧ seqIndex? k xs.length = some j ∧ xs[j]? = some d ∧ Q (.v d) σ := rfl
theorem jC : oISub (.v (.int a)) (.v (.int b)) σ Q = Q (.v (.int (a - b))) σ := rfl
theorem jD : oIAdd (.v (.int a)) (.v (.int b)) σ Q = Q (.v (.int (a + b))) σ := rfl
theorem jE : oMax [.v (.int a), .v (.int b)] σ Q = Q (.v (.int (if b > a then b else a))) σ := rfl
theorem jF : oChr [.v (.int a)] σ Q = ((0 ≤ a ∧ a < 1000) ∧ Q (.v (.str ⟨#[a.toNat]⟩)) σ) := rfl
theorem qX : fro [] = some [] := rfl
theorem jG (d : PyData) (r : List XV) : fro (.v d :: r) = (fro r).map (d :: ·) := rfl
theorem jH (n : Bool) : oEq n (.v (.int a)) (.v (.int b)) σ Q = Q (.v (.bool (n != decide (a = b)))) σ := by
 refine propext ⟨?_, fun h => ⟨_, _, rfl, rfl, rfl, rfl, ?_⟩⟩
 ·intro hI0
  refine qC fun P kG => ?_
  obtain ⟨d, e, h1, h2, _, _, h⟩ := hI0
  refine kG ?_
  clear kG P
  cases h1; cases h2
  exact h
 ·exact h
theorem qS (n : Bool) : oEq n (.v (.str x)) (.v (.str y)) σ Q = ((SeqAt.shaped (.str x) = true ∧ SeqAt.shaped (.str y) = true) ∧ Q (.v (.bool (n != decide (x = y)))) σ) := by
 refine propext ⟨?_, fun ⟨⟨h1, h2⟩, h⟩ => ⟨_, _, rfl, rfl, h1, h2, ?_⟩⟩
 ·intro hI0
  refine qC fun P kG => ?_
  obtain ⟨d, e, h1, h2, h3, h4, h⟩ := hI0
  refine kG ?_
  clear kG P
  cases h1; cases h2
  exact ⟨⟨h3, h4⟩, h⟩
 ·exact h
theorem iter_up {a b : Int} (h1 : -1000 ≤ a) (h2 : a ≤ b) (h3 : b < 100000) : iterOf (.rng a b 1) = some ((List.range (b - a).toNat).map fun (i : Nat) => PyData.int (a + i)) := by
 have e : Builtin.Range.rangeSize a b 1 = b - a := by
  unfold Builtin.Range.rangeSize
  simp
  lia
 unfold iterOf
 dsimp only
 have hs : Builtin.Range.small a b 1 = true := by
  have fits : ∀ i : Int, -1000 ≤ i → i < 200000 → Builtin.Range.rangeFitsLong i = true := fun i h1 h2 => by
   unfold Builtin.Range.rangeFitsLong; simp; lia
  unfold Builtin.Range.small
  rw [e, fits a (by assumption) (by lia), fits b (by lia) (by lia), fits 1 (by exact Int.natCast_nonneg _) (by exact Int.natCast_nonneg _), fits _ (by lia) (by lia), if_pos (by exact Int.natCast_nonneg _), fits _ (by lia) (by lia)]
  simp
 rw [if_pos ⟨hs, by rw [e]; lia⟩]
 unfold rngList
 rw [e]
 simp
end
theorem pA {α β : Type} (f : α → β) : ∀ l : List α, (l.map fun x => [f x]).flatten = l.map f
 | [] => rfl
 | x :: l => by rw [List.map_cons, List.flatten_cons, pA f l]; rfl
theorem mulOk {a b : Int} (h1 : -1000000 ≤ a) (h2 : a ≤ 1000000) : IntMulOk a b := IntMulOk.of_left (PySem.intBits_le_64 (by lia) (by lia))
theorem fdivNat (n k : Nat) : Int.fdiv (n : Int) (k : Int) = ((n / k : Nat) : Int) := by
 rw [Int.fdiv_eq_ediv_of_nonneg _ (by lia)]; rfl
theorem fmodNat (n k : Nat) : Int.fmod (n : Int) (k : Int) = ((n % k : Nat) : Int) := by
 rw [Int.fmod_eq_emod_of_nonneg _ (by lia)]; rfl
end Mine
namespace Mine
open PySem PySem.Calls PySem.W PyProof.Rows PySem.StrLaws
noncomputable def S (l : List Nat) : Str := ⟨l.toArray⟩
theorem jN (l : List Nat) : (S l).length = l.length := by simp [S, Str.length]
theorem S_app (a b : List Nat) : S a ++ S b = S (a ++ b) := by
 apply Str.ext'
 show a.toArray ++ b.toArray = (a ++ b).toArray
 simp
theorem S_inj (a b : List Nat) : (S a = S b) = (a = b) := by
 refine propext ⟨fun h => ?_, fun h => by rw [h]⟩
 have : a.toArray = b.toArray := congrArg Str.cps h
 simpa using congrArg Array.toList this
theorem vA (l : List Nat) : (S l).cps.toList = l := by simp [S]
theorem S_empty : Str.empty = S [] := rfl
noncomputable def atL (l p : List Nat) (i : Nat) : Bool := decide ((l.drop i).take p.length = p)
theorem S_subAt (l p : List Nat) (i : Nat) : Builtin.Str.subAt (S l) (S p) i = atL l p i := by
 rw [subAt_eq, vA, vA, jN]
 unfold atL
 by_cases h : (l.drop i).take p.length = p
 ·rw [h]; simp
 ·rw [decide_eq_false h]; exact beq_eq_false_iff_ne.mpr h
noncomputable abbrev At' (l p : List Nat) (hi i : Nat) : Prop := i + p.length ≤ hi ∧ atL l p i = true
theorem S_At (l p : List Nat) (hi i : Nat) : At (S l) (S p) hi i ↔ At' l p hi i := by
 unfold At At'
 rw [jN, S_subAt]
noncomputable def lfind (l p : List Nat) (lo hi : Nat) : Option Nat := (List.range' lo (hi + 1 - lo)).find? fun i => decide (At' l p hi i)
theorem S_find (l p : List Nat) (lo hi : Nat) : findIn (S l) (S p) lo hi = match lfind l p lo hi with | some i => (i : Int) | none => -1 := by
 unfold findIn lfind
 rw [occ_eq]
 rcases occ_first (S l) (S p) hi 1 (Nat.le_refl _) (List.range' lo (hi + 1 - lo)) lo (fun i h => by rw [List.mem_range'_1] at h; exact h.1) with ⟨h1, h2⟩ | ⟨pre, a, post, e, h1, h2, h3⟩
 ·have : (List.range' lo (hi + 1 - lo)).find? (fun i => decide (At' l p hi i)) = none := by
   rw [List.find?_eq_none]
   intro i hi'
   simpa [← S_At] using h2 i hi'
  rw [h1, this]
 ·have hf : (List.range' lo (hi + 1 - lo)).find? (fun i => decide (At' l p hi i)) = some a := by
   rw [e, List.find?_append]
   have : pre.find? (fun i => decide (At' l p hi i)) = none := by
    rw [List.find?_eq_none]
    intro i hi'
    simpa [← S_At] using h3 i hi'
   rw [this]
   simp [List.find?_cons, (S_At l p hi a).mp h2]
  rw [hf]
  generalize (forIn (List.range' lo (hi + 1 - lo)) ((#[] : Array Nat), lo) (occBody (S l) (S p) hi 1)).run.fst = arr at h1
  have h4 : arr.toList[0]? = some a := by simpa using h1
  cases hL : arr.toList with
  | nil => rw [hL] at h4; cases h4
  | cons b t => rw [hL] at h4; simp at h4; rw [h4]
theorem vB {l p : List Nat} {lo hi i : Nat} (h : lfind l p lo hi = some i) : lo ≤ i ∧ At' l p hi i ∧ ∀ j, lo ≤ j → j < i → ¬ At' l p hi j := by
 unfold lfind at h
 rw [List.find?_range'_eq_some] at h
 obtain ⟨h1, h2, h3⟩ := h
 rw [List.mem_range'_1] at h2
 exact ⟨h2.1, of_decide_eq_true h1, fun j h4 h5 => of_decide_eq_false ((Bool.not_eq_true' _).mp (h3 j h4 h5))⟩
theorem lfind_none {l p : List Nat} {lo hi : Nat} (h : lfind l p lo hi = none) : ∀ j, lo ≤ j → ¬ At' l p hi j := fun j hj ha => by
 unfold lfind at h
 rw [List.find?_eq_none] at h
 exact h j (by rw [List.mem_range'_1]; have := ha.1; exact ⟨(qA [_,_] 1 (.v 0) (.v 1) (.c 1 (.v 0) (.v 1) .z) rfl hj), (qA [_,_,_,_,_] 1 (.a (.v 0) (.n 1)) (.a (.v 1) (.v 2)) (.c 1 (.a (.v 3) (.n 1)) (.a (.v 2) (.v 1)) (.c 1 (.a (.v 0) (.v 4)) (.v 3) .z)) rfl (jV _ _) this)⟩) (decide_eq_true ha)
theorem lfind_eq {l p : List Nat} {lo hi i : Nat} (h1 : lo ≤ i) (h2 : At' l p hi i) (h3 : ∀ j, lo ≤ j → j < i → ¬ At' l p hi j) : lfind l p lo hi = some i := by
 cases h : lfind l p lo hi with
 | none => exact absurd h2 (lfind_none h i h1)
 | some j =>
  obtain ⟨a, b, d⟩ := vB h
  rcases Nat.lt_trichotomy i j with q | q | q
  ·exact absurd h2 (d i h1 q)
  ·rw [q]
  ·exact absurd b (h3 j a q)
noncomputable def hasL (l p : List Nat) : Bool := (lfind l p 0 l.length).isSome
theorem S_has (l p : List Nat) : hasStr (S p) (S l) = hasL l p := by
 unfold hasStr hasL
 have h := S_find l p 0 l.length
 unfold findIn at h
 rw [jN]
 have key : ∀ (o : List Nat) (f : Option Nat), (match o with | i :: _ => (i : Int) | [] => -1) = (match f with | some i => (i : Int) | none => -1) → (!o.isEmpty) = f.isSome := by
  intro o f h
  cases o with
  | nil =>
   cases f with
   | none => rfl
   | some i => exfalso; have h' : (-1 : Int) = (i : Int) := h; exact (jY [_] (.i 1 (.c (.v 0)) (.g (.n 1)) .z) rfl (Int.le_of_eq (Eq.symm h')))
  | cons a r =>
   cases f with
   | none => exfalso; have h' : (a : Int) = -1 := h; exact (jY [_] (.i 1 (.c (.v 0)) (.g (.n 1)) .z) rfl (Int.le_of_eq h'))
   | some i => rfl
 exact key _ _ h
theorem hasL_iff (l p : List Nat) : hasL l p = true ↔ ∃ i, At' l p l.length i := by
 unfold hasL
 cases h : lfind l p 0 l.length with
 | none => exact ⟨fun q => (nomatch q), fun ⟨i, hi⟩ => absurd hi (lfind_none h i (Nat.zero_le _))⟩
 | some i => exact ⟨fun _ => ⟨i, (vB h).2.1⟩, fun _ => rfl⟩
theorem S_starts (l p : List Nat) : Txt.startswith (S l) (S p) = decide (At' l p l.length 0) := by
 unfold Txt.startswith
 rw [jN, jN, S_subAt, Bool.eq_iff_iff, decide_eq_true_iff]
 unfold At'
 simp
theorem S_ends (l p : List Nat) : Txt.endswith (S l) (S p) = decide (p.length ≤ l.length ∧ At' l p l.length (l.length - p.length)) := by
 unfold Txt.endswith
 rw [jN, jN, S_subAt, Nat.zero_add, Bool.eq_iff_iff, decide_eq_true_iff]
 unfold At'
 by_cases h : p.length ≤ l.length
 ·simp [h]
 ·simp [h]
theorem mm (a n : Nat) : max (0 : Int) (min (a : Int) n) = ((min a n : Nat) : Int) := by omega
theorem slice_idx (a b n : Nat) : Builtin.Str.strSliceIndices (some (a : Int)) (some (b : Int)) 1 n = Builtin.Str.strSliceIndices (some ((min a n : Nat) : Int)) (some ((min b n : Nat) : Int)) 1 n := by
 unfold Builtin.Str.strSliceIndices
 have h1 : ¬ ((a : Int) < 0) := by simp
 have h2 : ¬ ((b : Int) < 0) := by exact (fun q0 => (jY [_] (.i 1 (.a (.c (.v 0)) (.n 1)) (.n 0) .z) rfl q0))
 have h3 : ¬ (((min a n : Nat) : Int) < 0) := by simp
 have h4 : ¬ (((min b n : Nat) : Int) < 0) := by exact (fun q0 => (jY [_] (.i 1 (.a (.c (.v 0)) (.n 1)) (.n 0) .z) rfl q0))
 simp only [h1, h2, h3, h4, if_false, show (1 : Int) > 0 by decide, if_true]
 congr 1 <;> rw [mm, mm, Nat.min_assoc, Nat.min_self]
theorem slice_eq (x : Str) (l u : Option Int) : Txt.slice x l u = sliceText x l u := rfl
theorem S_slice (l : List Nat) (a b : Nat) : Txt.slice (S l) (some (a : Int)) (some (b : Int)) = S ((l.take b).drop a) := by
 have e : Txt.slice (S l) (some (a : Int)) (some (b : Int)) = Txt.slice (S l) (some ((min a l.length : Nat) : Int)) (some ((min b l.length : Nat) : Int)) := by
  unfold Txt.slice
  rw [jN, slice_idx]
 rw [e]
 have hd : (l.take b).drop a = (l.take (min b l.length)).drop (min a l.length) := by
  rw [List.take_eq_take_min]
  by_cases ha : a ≤ l.length
  ·rw [Nat.min_eq_left ha]
  ·have ea : min a l.length = l.length := by exact (Nat.le_antisymm (qA [_,_] 1 (.v 0) (.v 1) (.c 1 (.v 0) (.v 1) .z) rfl (Nat.min_le_right _ _)) (qA [_,_] 1 (.v 0) (.v 1) (.c 1 (.v 0) (.v 1) .z) rfl (uJ (Eq.symm (Nat.min_eq_right (qA [_,_] 1 (.v 0) (.v 1) (.c 1 (.a (.v 0) (.n 1)) (.v 1) .z) rfl (Nat.not_le.mp ha)))))))
   rw [ea, List.drop_eq_nil_of_le (by rw [List.length_take]; (clear ea; exact (qA [_,_,_] 1 (.v 0) (.v 1) (.c 1 (.v 0) (.v 2) (.c 1 (.a (.v 2) (.n 1)) (.v 1) .z)) rfl (Nat.min_le_right _ _) (Nat.not_le.mp ha)))), List.drop_eq_nil_of_le (by rw [List.length_take]; exact Nat.min_le_right _ _)]
 rw [hd]
 have hb : min b l.length ≤ l.length := Nat.min_le_right _ _
 generalize min b l.length = b' at hb
 generalize min a l.length = a'
 by_cases hab : a' ≤ b'
 ·rw [slice_eq, sliceText_nat _ hab (by rw [jN]; exact hb), vA]
  show S _ = S _
  congr 1
  rw [List.drop_take]
 ·have h0 : Builtin.Str.strSliceIndices (some (a' : Int)) (some (b' : Int)) 1 l.length = [] := by
   unfold Builtin.Str.strSliceIndices sliceRange
   have h1 : ¬ ((a' : Int) < 0) := by (clear hab; lia)
   have h2 : ¬ ((b' : Int) < 0) := by lia
   simp only [h1, h2, if_false, show (1 : Int) > 0 by decide, if_true]
   rw [mm, mm, if_neg fun q => Nat.not_lt.mpr (Nat.le_min.mpr ⟨Nat.le_trans (Nat.min_le_left _ _) (Nat.le_of_lt (Nat.not_le.mp hab)), Nat.min_le_right _ _⟩) (Int.ofNat_lt.mp q)]
   simp
  unfold Txt.slice
  rw [jN, h0]
  have e2 : (l.take b').drop a' = [] := List.drop_eq_nil_of_le (by rw [List.length_take]; exact (qA [_,_,_] 1 (.v 0) (.v 1) (.c 1 (.v 0) (.v 2) (.c 1 (.a (.v 2) (.n 1)) (.v 1) .z)) rfl (Nat.min_le_left _ _) (Nat.not_le.mp hab)))
  rw [e2]
  split
  ·rename_i h
   have hl : l = [] := List.length_eq_zero_iff.mp (by have h2 : (0 : Nat) = l.length := (by simpa using h); exact Eq.symm ‹_›)
   rw [hl]
  ·rfl
theorem S_sliceTo (l : List Nat) (b : Nat) : Txt.slice (S l) none (some (b : Int)) = S (l.take b) := by
 have e : Txt.slice (S l) none (some (b : Int)) = Txt.slice (S l) (some ((0 : Nat) : Int)) (some (b : Int)) := by unfold Txt.slice; rw [sliceIdx_none_lo]; rfl
 rw [e, S_slice, List.drop_zero]
theorem S_sliceFrom (l : List Nat) (a : Nat) : Txt.slice (S l) (some (a : Int)) none = S (l.drop a) := by
 have e : Txt.slice (S l) (some (a : Int)) none = Txt.slice (S l) (some (a : Int)) (some ((l.length : Nat) : Int)) := by unfold Txt.slice; rw [sliceIdx_none_hi, jN]
 rw [e, S_slice, List.take_length]
theorem S_shaped (l : List Nat) (h2 : ∀ c ∈ l, c < 1000) : SeqAt.shaped (.str (S l)) = true := by
 have h : PyData.strOk (S l) = true := by
  unfold PyData.strOk
  rw [Array.all_eq_true]
  intro i hi
  have : (S l).cps[i] ∈ l := by
   have := Array.getElem_mem hi
   rw [← Array.mem_toList_iff, vA] at this; exact this
  have := h2 _ this
  simp; exact Nat.le_trans ‹_› (Nat.le_add_left _ _)
 unfold SeqAt.shaped
 show (PyData.strOk (S l) && _) = true
 rw [h]; rfl
noncomputable def MK : List Nat := [46, 46, 46]
noncomputable def jn : List (List Nat) → List Nat
 | [] => []
 | [p] => p
 | p :: q :: r => p ++ MK ++ jn (q :: r)
noncomputable def dotless (p : List Nat) : Prop := 46 ∉ p
theorem atL_head {l p : List Nat} {i c : Nat} {r : List Nat} (hp : p = c :: r) (h : atL l p i = true) : l[i]? = some c := by
 subst hp
 unfold atL at h
 have h := of_decide_eq_true h
 have h1 := congrArg (fun z => z[0]?) h
 rw [List.length_cons] at h1
 rw [List.getElem?_take_of_lt (by exact Nat.succ_pos _), List.getElem?_drop] at h1
 simpa using h1
theorem at_mid (a p b : List Nat) : At' (a ++ p ++ b) p (a ++ p ++ b).length a.length := by
 refine ⟨by simp only [List.length_append]; exact Nat.le_add_right _ _, ?_⟩
 unfold atL
 rw [decide_eq_true_iff, List.append_assoc, List.drop_left, List.take_left]
theorem no_dot {pre p rest : List Nat} (hp : dotless p) {k hi : Nat} (h1 : pre.length ≤ k) (h2 : k < pre.length + p.length) : ¬ At' (pre ++ p ++ rest) MK hi k := fun ⟨_, h⟩ => by
 have := atL_head rfl h
 rw [List.append_assoc, List.getElem?_append_right h1, List.getElem?_append_left (by exact (qA [_,_,_,_] 1 (.a (.v 0) (.n 1)) (.v 1) (.c 1 (.a (.v 0) (.v 2)) (.v 3) (.c 1 (.a (.v 3) (.n 1)) (.a (.v 2) (.v 1)) .z)) rfl (jL (qA [_,_] 1 (.v 0) (.v 1) (.c 1 (.v 0) (.v 1) .z) rfl h1)) h2))] at this
 exact hp (List.mem_of_getElem? this)
theorem strSub_S (l : List Nat) (i j : Nat) : Builtin.Str.strSub (S l) i j = S ((l.drop i).take (j - i)) := by
 apply Str.ext'
 have := strSub_toList (S l) i j
 rw [vA] at this
 have h2 : (Builtin.Str.strSub (S l) i j).cps = ((Builtin.Str.strSub (S l) i j).cps.toList).toArray := by simp
 rw [h2, this]; rfl
theorem parts_jn : ∀ (ps : List (List Nat)) (pre : List Nat) (cuts : List Nat) (f : Nat), ps ≠ [] → (∀ p ∈ ps, dotless p) → ChainG (S (pre ++ jn ps)) (S MK) (pre ++ jn ps).length pre.length cuts f →
  (∀ k, f ≤ k → ¬ At' (pre ++ jn ps) MK (pre ++ jn ps).length k) → partsFrom (S (pre ++ jn ps)) 3 pre.length cuts = ps.map S
 | [], _, _, _, h, _, _, _ => absurd rfl h
 | [p], pre, cuts, f, _, hd, hc, hn => by
  have no : ∀ k, pre.length ≤ k → ¬ At' (pre ++ p) MK (pre ++ p).length k := fun k hk ha => by
   by_cases h : k < pre.length + p.length
   ·have := no_dot (rest := []) (hi := (pre ++ p).length) (hd p (by simp)) hk h
    rw [List.append_nil] at this
    exact this ha
   ·have := ha.1
    rw [List.length_append] at this
    simp [MK] at this
    exact (jY [_,_,_] (.c 1 (.a (.v 0) (.n 3)) (.a (.v 1) (.v 2)) (.c 1 (.a (.v 1) (.v 2)) (.v 0) .z)) rfl this (Nat.not_lt.mp h))
  cases cuts with
  | nil =>
   show [Builtin.Str.strSub (S (pre ++ p)) pre.length (S (pre ++ p)).length] = _
   rw [strSub_S, jN, List.drop_left]
   simp
  | cons c r =>
   exact absurd ((S_At _ _ _ _).mp hc.2.1) (no c hc.1)
 | p :: q :: r, pre, cuts, f, _, hd, hc, hn => by
  have e0 : pre ++ jn (p :: q :: r) = pre ++ p ++ MK ++ jn (q :: r) := by
   show pre ++ (p ++ MK ++ jn (q :: r)) = _
   simp only [List.append_assoc]
  rw [e0] at hc hn ⊢
  have yes : At' (pre ++ p ++ MK ++ jn (q :: r)) MK (pre ++ p ++ MK ++ jn (q :: r)).length (pre ++ p).length := at_mid (pre ++ p) MK (jn (q :: r))
  have no : ∀ k, pre.length ≤ k → k < pre.length + p.length → ¬ At' (pre ++ p ++ MK ++ jn (q :: r)) MK (pre ++ p ++ MK ++ jn (q :: r)).length k := fun k h1 h2 => by
   rw [List.append_assoc (pre ++ p)]
   exact no_dot (hd p (by simp)) h1 h2
  cases cuts with
  | nil =>
   have hf : f = pre.length := hc
   exact absurd yes (hn _ (by rw [hf, List.length_append]; exact Nat.le_add_right _ _))
  | cons c cs =>
   obtain ⟨h1, h2, h3, h4⟩ := hc
   have hc' : c = (pre ++ p).length := by
    rcases Nat.lt_trichotomy c (pre ++ p).length with q1 | q1 | q1
    ·rw [List.length_append] at q1
     exact absurd ((S_At _ _ _ _).mp h2) (no c h1 q1)
    ·exact q1
    ·exact absurd ((S_At _ _ _ _).mpr yes) (h3 _ (by rw [List.length_append]; exact (qA [_,_] 1 (.v 0) (.a (.v 0) (.v 1)) .z rfl )) q1)
   subst hc'
   show Builtin.Str.strSub _ pre.length (pre ++ p).length :: partsFrom _ 3 ((pre ++ p).length + 3) cs = _
   have h5 : (pre ++ p).length + 3 = (pre ++ p ++ MK).length := by simp [MK]; exact Nat.add_assoc _ _ _
   have h4' : ChainG (S (pre ++ p ++ MK ++ jn (q :: r))) (S MK) (pre ++ p ++ MK ++ jn (q :: r)).length (pre ++ p ++ MK).length cs f := by
    rw [← h5]; exact h4
   rw [h5, parts_jn (q :: r) (pre ++ p ++ MK) cs f (by simp) (fun x hx => hd x (List.mem_cons_of_mem _ hx)) h4' hn, strSub_S]
   rw [List.map_cons]
   congr 2
   rw [List.append_assoc, List.append_assoc, List.drop_left, List.length_append, Nat.add_sub_cancel_left, List.take_left]
theorem kind_MK (x : List Nat) : Builtin.Str.strKind (S MK) = 1 := by decide +kernel
theorem kind_ge (x : Str) : 1 ≤ Builtin.Str.strKind x := by unfold Builtin.Str.strKind; split <;> (try split) <;> exact Nat.succ_pos _
theorem jn_has : ∀ {ps : List (List Nat)}, 2 ≤ ps.length → ∃ a b, jn ps = a ++ MK ++ b ∧ a = ps.headD []
 | p :: q :: r, _ => ⟨p, jn (q :: r), rfl, rfl⟩
theorem split_jn (ps : List (List Nat)) (h2 : 2 ≤ ps.length) (hd : ∀ p ∈ ps, dotless p) : Txt.split (S (jn ps)) (S MK) = ps.map S := by
 refine qC fun P kG => ?_
 obtain ⟨a, b, e, _⟩ := jn_has h2
 obtain ⟨f, h1, hn⟩ := occ_tight (S (jn ps)) (S MK) (by rw [jN]; decide)
 refine kG ?_
 clear kG P
 rw [jN] at h1
 have key := parts_jn ps [] _ f (by rintro rfl; simp at h2) hd h1 (fun k hk ha => hn k hk (by rw [jN]; exact (S_At _ _ _ _).mpr ha))
 unfold Txt.split
 have hl : 3 ≤ (jn ps).length := by rw [e]; simp [MK]; exact Nat.le_add_left _ _
 rw [if_neg, if_neg, partsBetween_eq]
 ·rw [jN]; exact key
 ·intro q
  have q := List.isEmpty_iff.mp q
  rw [jN] at q
  rw [q] at h1
  have hf : f = 0 := h1
  subst hf
  have := at_mid a MK b
  rw [← e] at this
  exact hn _ (Nat.zero_le _) (by rw [jN]; exact (S_At _ _ _ _).mpr this)
 ·rw [jN, jN, kind_MK []]
  have := kind_ge (S (jn ps))
  simp [MK]
  exact ⟨(qA [_] 1 (.n 3) (.v 0) (.c 1 (.n 3) (.v 0) .z) rfl hl), (fun q0 => (jY [_] (.c 1 (.v 0) (.n 0) (.c 1 (.n 1) (.v 0) .z)) rfl (uJ q0) this))⟩
noncomputable def scan (g : List Nat) (e : Nat) : List (List Nat) → Nat → Bool
 | [], _ => true
 | w :: ws, s => match lfind g w s e with
  | some i => scan g e ws (i + w.length)
  | none => false
noncomputable def ellEnd (g : List Nat) (ws : List (List Nat)) (s : Nat) : Bool :=
 let w := ws.getLastD []
 if w = [] then decide (s ≤ g.length) && scan g g.length ws s
 else if w.length ≤ g.length ∧ At' g w g.length (g.length - w.length) then decide (s ≤ g.length - w.length) && scan g (g.length - w.length) ws.dropLast s
 else false
noncomputable def ellM (ps : List (List Nat)) (g : List Nat) : Bool :=
 let w := ps.headD []
 if w = [] then ellEnd g ps 0
 else if At' g w g.length 0 then ellEnd g ps.tail w.length
 else false
end Mine
namespace Mine
open PySem PySem.Calls PySem.W PyProof.Rows
noncomputable def octW : SW := fun η σ _ Rt => ∃ n : Nat, vget "number" η = some (.v (.int n)) ∧ n < 262144 ∧ Rt (.v (.list (nlist (octL n)))) σ
theorem oct_iter : ∀ t : Nat, t ≤ 2 → iterOf (.rng t (-1) (-1)) = some ((List.range (t + 1)).reverse.map fun (k : Nat) => PyData.int (k : Int))
 | 0, _ => rfl
 | 1, _ => rfl
 | 2, _ => rfl
noncomputable def octT (n : Nat) : Nat := if 4095 < n then 2 else if 63 < n then 1 else 0
noncomputable def octK (n k : Nat) : Nat := n / 2 ^ (6 * k) % 64 + (if 0 < k then 64 else 0)
theorem octT_eq (n : Nat) : b2i (decide ((63 : Int) < n)) + b2i (decide ((4095 : Int) < n)) = ((octT n : Nat) : Int) := by
 unfold octT b2i
 by_cases h1 : 63 < n <;> by_cases h2 : 4095 < n
 ·simp [h1, h2]; lia
 ·simp [h1, h2]; lia
 ·omega
 ·simp [h1, h2]; lia
theorem octL_eq (n : Nat) (h : n < 262144) : ((List.range (octT n + 1)).reverse.map fun k => octK n k) = octL n := by
 unfold octT octL octK
 by_cases h1 : 4095 < n
 ·rw [if_pos h1, if_pos h1]
  simp [List.range_succ]
 ·rw [if_neg h1, if_neg h1]
  by_cases h2 : 63 < n
  ·rw [if_pos h2, if_pos h2]; simp [List.range_succ]
  ·rw [if_neg h2, if_neg h2]; simp
theorem oct_walk {c : Cx} {P : Params} {mg : Str → Option Value} (Y : Yes c P mg) (rm : Room 0 c.A) (L : Addr) (cells : List (Str × Addr)) (hcl : CellsOk (defEnv (kfd P 223) 223 L cells)) :
  SOK c (defEnv (kfd P 223) 223 L cells) (execs (kbody P 223) (defEnv (kfd P 223) 223 L cells)) octW := by
 have hh := rm.hd
 have heq := rm.eq
 refine SOK.weak (jK (jZ (by kernel_rfl) (jJ (kV (qB (by kernel_rfl)) jM op_gt (by kernel_rfl)) (kV (qB (by kernel_rfl)) jM op_gt (by kernel_rfl)) jU))
 (jK (pC (pT hh (kX Y.G (by kernel_rfl) (Y.none (by kernel_rfl)) vJ (by decide) (by decide) rfl rfl (qG (qB (by kernel_rfl)) (qG (vE jM op_neg) (qG (vE jM op_neg) jI))) op_range) (by exact trivial) (pL (by kernel_rfl)) (fun _ q => q) (fun L cells => (pP (pM (by kernel_rfl)) (by kernel_rfl))) (pY (by kernel_rfl)) (fun L cells => pW) (fun L cells => (jJ (jJ (jJ (qB (by kernel_rfl)) (jJ jM (qB (by kernel_rfl)) op_mul) op_shr) jM op_and) (jJ jM (kV (qB (by kernel_rfl)) jM op_gt (by kernel_rfl)) op_mul) jU))))
 jP)) ?_
 intro η σ N Rt h
 dsimp only [wCons, wAsg, wIf, wRet, wBin, wCmp, wPl, wUn, wAnd, wOr, wIfE, wEs, wSl]
 refine qC fun P kG => ?_
 obtain ⟨n, hn, hlt, hR⟩ := h
 refine kG ?_
 clear kG P
 simp only [hn, qJ, qF, qD, qK, qL, qT, qH, qI, qM, qN, qY, qZ, qE, String.reduceEq, String.reduceBEq, cond_true, cond_false, uH, if_true, if_false, reduceIte, ite_true, ite_false, zA, zB, zC, zD, zE, zF, qP, zG, qQ, zH, zI, zJ, zK, zL, qR, qU, zM, zN, qO, zO, zP, zQ, zR, zS, zT, qV, zU, zV, zW, zX, zY, qW, zZ, jA, jB, jR, jQ, jS, jC, jD, jE, jF, qX, jG, jH, qS, uA, uB, uC, uD, uE, uF, uG]
 refine ⟨by decide, ?_⟩
 rw [octT_eq]
 have h1 : octT n ≤ 2 := by
  unfold octT
  repeat' split
  all_goals exact Nat.le_add_left _ _
 refine ⟨_, (List.range (octT n + 1)).reverse.map (fun k => [PyData.int (octK n k : Nat)]), oct_iter (octT n) h1, CompAll.map (fun k hk => ?_), ?_, ?_⟩
 ·unfold CB
  simp only [hn, qJ, qF, qD, qK, qL, qT, qH, qI, qM, qN, qY, qZ, qE, String.reduceEq, String.reduceBEq, cond_true, cond_false, uH, if_true, if_false, reduceIte, ite_true, ite_false, zA, zB, zC, zD, zE, zF, qP, zG, qQ, zH, zI, zJ, zK, zL, qR, qU, zM, zN, qO, zO, zP, zQ, zR, zS, zT, qV, zU, zV, zW, zX, zY, qW, zZ, jA, jB, jR, jQ, jS, jC, jD, jE, jF, qX, jG, jH, qS, uA, uB, uC, uD, uE, uF, uG]
  have hk3 : k < 3 := by
   have h2 : k < octT n + 1 := by simpa using hk
   exact (qA [_,_] 1 (.a (.v 0) (.n 1)) (.n 3) (.c 1 (.a (.v 0) (.n 1)) (.a (.v 1) (.n 1)) (.c 1 (.v 1) (.n 2) .z)) rfl h2 h1)
  refine ⟨fun _ => ⟨mulOk (by exact Int.natCast_nonneg _) (by exact Int.natCast_nonneg _), by exact Int.natCast_nonneg _, ?_⟩, fun q => by cases q⟩
  have e1 : (6 * (k : Int)).toNat = 6 * k := by exact Nat.add_zero _
  rw [e1, show (2 : Int) ^ (6 * k) = ((2 ^ (6 * k) : Nat) : Int) from by simp, fdivNat, and63]
  refine ⟨_, [], rfl, ?_, by simp⟩
  unfold octK
  rcases Nat.eq_zero_or_pos k with h0 | h0
  ·subst h0; simp
  ·simp [h0]
 ·rw [pA, List.length_map, List.length_reverse, List.length_range, sizeLine_eq]; exact Nat.lt_of_le_of_lt ‹_› (by decide)
 ·rw [pA]
  have e : ((List.range (octT n + 1)).reverse.map (fun k => PyData.int (octK n k : Nat))) = nlist (octL n) := by
   rw [← octL_eq n hlt]
   unfold nlist
   rw [List.map_map]; rfl
  rw [e]; exact hR
noncomputable def slist (ps : List (List Nat)) : List PyData := ps.map fun p => .str (S p)
noncomputable def ell8 : SW := fun η σ _ Rt => ∃ (s e : Nat) (ps : List (List Nat)) (g : List Nat) (σ0 : Sto), vget "startpos" η = some (.v (.int s)) ∧ vget "endpos" η = some (.v (.int e)) ∧ vget "ws" η = some (.own σ0.length) ∧ σ = σ0 ++ [.list (slist ps)] ∧
 vget "got" η = some (.v (.str (S g))) ∧ e ≤ g.length ∧ g.length < 100000 ∧ (∀ p ∈ ps, p.length < 100000) ∧ ∀ x, Rt (.v (.bool (decide (s ≤ e) && scan g e ps s))) (σ0 ++ [x])
theorem scan_cons (g : List Nat) (e : Nat) (w : List Nat) (ws : List (List Nat)) (s : Nat) : scan g e (w :: ws) s = match lfind g w s e with | some i => scan g e ws (i + w.length) | none => false := rfl
theorem kO (σ0 : Sto) (m : MO) : (σ0 ++ [m])[σ0.length]? = some m := by simp
theorem set_last (σ0 : Sto) (m m' : MO) : List.set (σ0 ++ [m]) σ0.length m' = σ0 ++ [m'] := by simp
theorem slist_cons {d : PyData} {ds : List PyData} {ps : List (List Nat)} (h : d :: ds = slist ps) : ∃ p qs, ps = p :: qs ∧ d = .str (S p) ∧ ds = slist qs := by
 cases ps with
 | nil => cases h
 | cons p qs =>
  unfold slist at h
  rw [List.map_cons, List.cons.injEq] at h
  exact ⟨p, qs, rfl, h.1, h.2⟩
theorem ell8_walk {c : Cx} {P : Params} {mg : Str → Option Value} (Y : Yes c P mg) (rm : Room 0 c.A) (L : Addr) (cells : List (Str × Addr)) (hcl : CellsOk (defEnv (kfd P 70) 70 L cells)) :
  SOK c (defEnv (kfd P 70) 70 L cells) (execs ((kbody P 70).drop 8) (defEnv (kfd P 70) 70 L cells)) ell8 := by
 have hh := rm.hd
 have heq := rm.eq
 refine SOK.weak (jK (pS (jW (qB (by kernel_rfl)) (qB (by kernel_rfl)) op_gt jT (by kernel_rfl)) (jK (pC pJ)
 jP) jP)
 (jK (sok_for hh hcl (by exact trivial) (eok_froze (qB (by kernel_rfl))) (pP trivial (by kernel_rfl)) (jK (jZ (by kernel_rfl) (kN GM.find rfl (qB (by kernel_rfl)) (qG (qB (by kernel_rfl)) (qG (qB (by kernel_rfl)) (qG (qB (by kernel_rfl)) jI))) op_find))
 (jK (pS (jW (qB (by kernel_rfl)) jM op_lt jT (by kernel_rfl)) (jK (pC pJ)
 jP) jP)
 (jK (sok_aug (by kernel_rfl) (by kernel_rfl) (pR Y.G (by kernel_rfl) (Y.none (by kernel_rfl)) pZ (by decide) (by decide) rfl rfl (qG (qB (by kernel_rfl)) jI) kA) op_iadd)
 jP))))
 (jK (pC pJ)
 jP))) ?_
 intro η σ N Rt h
 dsimp only [wCons, wAsg, wIf, wRet, wBin, wCmp, wPl, wUn, wAnd, wOr, wIfE, wEs, wSl]
 refine qC fun P kG => ?_
 obtain ⟨s, e, ps, g, σ0, h1, h2, h3, rfl, h4, h5, h6, h7, hR⟩ := h
 refine kG ?_
 clear kG P
 simp only [h1, h2, h3, h4, qJ, qF, qD, qK, qL, qT, qH, qI, qM, qN, qY, qZ, qE, String.reduceEq, String.reduceBEq, cond_true, cond_false, uH, if_true, if_false, reduceIte, ite_true, ite_false, zA, zB, zC, zD, zE, zF, qP, zG, qQ, zH, zI, zJ, zK, zL, qR, qU, zM, zN, qO, zO, zP, zQ, zR, zS, zT, qV, zU, zV, zW, zX, zY, qW, zZ, jA, jB, jR, jQ, jS, jC, jD, jE, jF, qX, jG, jH, qS, uA, uB, uC, uD, uE, uF, uG]
 refine ⟨fun q => ?_, fun q => ⟨_, _, rfl, kO σ0 _, _, rfl, fun ds η' σ' => ∃ (ps' : List (List Nat)) (s' : Nat), ds = slist ps' ∧ vget "startpos" η' = some (.v (.int s')) ∧ vget "endpos" η' = some (.v (.int e)) ∧ vget "got" η' = some (.v (.str (S g))) ∧ σ' = σ0 ++ [.dead] ∧ (∀ p ∈ ps', p.length < 100000) ∧ scan g e ps' s' = scan g e ps s, ?_, ?_, ?_⟩⟩
 ·have e1 : decide (s ≤ e) = false := by have := of_decide_eq_true q; exact decide_eq_false (by (clear q; exact (fun q0 => (jY [_,_] (.c 1 (.v 0) (.v 1) (.i 1 (.a (.c (.v 1)) (.n 1)) (.c (.v 0)) .z)) rfl q0 this))))
  have := hR (.list (slist ps))
  rw [e1] at this; exact this
 ·exact ⟨ps, s, rfl, h1, h2, h4, by rw [set_last], h7, rfl⟩
 ·intro d ds η1 σ1 hI0
  refine qC fun P kG => ?_
  obtain ⟨ps', s', hd, g1, g2, g3, rfl, g5, g6⟩ := hI0
  refine kG ?_
  clear kG P
  refine qC fun P kG => ?_
  obtain ⟨p, qs, rfl, rfl, rfl⟩ := slist_cons hd
  refine kG ?_
  clear kG P
  have hse : s ≤ e := by have := of_decide_eq_false q; (clear q; exact (qA [_,_] 1 (.v 0) (.v 1) (.i 1 (.c (.v 0)) (.c (.v 1)) .z) rfl (Int.not_lt.mp this)))
  simp only [g1, g2, g3, qJ, qF, qD, qK, qL, qT, qH, qI, qM, qN, qY, qZ, qE, String.reduceEq, String.reduceBEq, cond_true, cond_false, uH, if_true, if_false, reduceIte, ite_true, ite_false, zA, zB, zC, zD, zE, zF, qP, zG, qQ, zH, zI, zJ, zK, zL, qR, qU, zM, zN, qO, zO, zP, zQ, zR, zS, zT, qV, zU, zV, zW, zX, zY, qW, zZ, jA, jB, jR, jQ, jS, jC, jD, jE, jF, qX, jG, jH, qS, uA, uB, uC, uD, uE, uF, uG, jN, S_find, Int.toNat_natCast]
  refine ⟨_, rfl, ⟨by exact (jO [_] 1 (.n 0) (.c (.v 0)) .z rfl ), by lia, by exact (jO [_,_] 1 (.c (.v 0)) (.c (.v 1)) (.c 1 (.v 0) (.v 1) .z) rfl h5)⟩, ?_⟩
  rw [scan_cons] at g6
  cases hf : lfind g p s' e with
  | none =>
   rw [hf] at g6
   dsimp only
   refine ⟨fun _ => ?_, fun q => by simp at q⟩
   have := hR .dead
   rw [← g6] at this
   simpa using this
  | some i =>
   rw [hf] at g6
   dsimp only
   refine ⟨fun q => absurd (of_decide_eq_true q) (Int.not_lt.mpr (Int.natCast_nonneg i)), fun _ => ⟨by have := g5 p (by simp); exact Nat.lt_of_lt_of_le ‹_› (by decide), ?_⟩⟩
   refine ⟨_, VLe.refl _, qs, i + p.length, rfl, ?_, ?_, ?_, trivial, fun r hr => g5 r (List.mem_cons_of_mem _ hr), g6⟩
   ·simp only [qJ, qF, qD, qK, qL, qH, qI, qM, qN, qE, String.reduceEq, String.reduceBEq, cond_true, cond_false, reduceIte, if_true, if_false, uA, uB, uC, uD, List.map_cons, List.map_nil]; rw [Int.natCast_add]
   ·exact Eq.trans (by kernel_rfl) g2
   ·exact Eq.trans (by kernel_rfl) g3
 ·intro η1 σ1 hI0
  refine qC fun P kG => ?_
  obtain ⟨ps', s', hd, g1, g2, g3, rfl, g5, g6⟩ := hI0
  refine kG ?_
  clear kG P
  have hps : ps' = [] := by cases ps' with | nil => rfl | cons a b => cases hd
  subst hps
  have hse : s ≤ e := by have := of_decide_eq_false q; exact (qA [_,_] 1 (.v 0) (.v 1) (.i 1 (.c (.v 0)) (.c (.v 1)) .z) rfl (Int.not_lt.mp this))
  have := hR .dead
  rw [← g6, decide_eq_true hse] at this
  exact this
noncomputable def ell6 : SW := fun η σ _ Rt => ∃ (s : Nat) (ps : List (List Nat)) (g : List Nat) (σ0 : Sto), vget "startpos" η = some (.v (.int s)) ∧ vget "endpos" η = some (.v (.int g.length)) ∧ vget "ws" η = some (.own σ0.length) ∧ σ = σ0 ++ [.list (slist ps)] ∧
 vget "got" η = some (.v (.str (S g))) ∧ ps ≠ [] ∧ ps.length < 1000 ∧ g.length < 100000 ∧ (∀ p ∈ ps, p.length < 100000) ∧ ∀ x, Rt (.v (.bool (ellEnd g ps s))) (σ0 ++ [x])
noncomputable def ellW : SW := fun η σ _ Rt => ∃ (w g : List Nat), vget "want" η = some (.v (.str (S w))) ∧ vget "got" η = some (.v (.str (S g))) ∧ g.length < 100000 ∧ w.length < 900 ∧ (∀ c ∈ w, c < 1000) ∧ (∀ c ∈ g, c < 1000) ∧
 ((hasL w MK = false ∧ Rt (.v (.bool (decide (w = g)))) σ) ∨ ∃ ps, w = jn ps ∧ 2 ≤ ps.length ∧ (∀ p ∈ ps, dotless p) ∧ ∀ x, Rt (.v (.bool (ellM ps g))) (σ ++ [x]))
theorem S_lt (l : List Nat) (h : l.length < 100000) : (S l).length < 2 ^ 62 := by rw [jN]; exact Nat.lt_of_lt_of_le ‹_› (by decide)
theorem vC (ps : List (List Nat)) : (slist ps).length = ps.length := by unfold slist; rw [List.length_map]
theorem last_ix (n : Nat) (h : 0 < n) : seqIndex? (-1) n = some (n - 1) := by
 unfold seqIndex?
 simp
 lia
theorem zero_ix (n : Nat) (h : 0 < n) : seqIndex? 0 n = some 0 := by
 unfold seqIndex?
 simp
 exact Nat.ne_of_gt ‹_›
theorem kZ (σ0 : Sto) (xs : List PyData) : lst? (σ0 ++ [.list xs]) (.own σ0.length) = some xs := by
 unfold lst?
 dsimp only
 rw [kO]
theorem slist_get (ps : List (List Nat)) (i : Nat) : (slist ps)[i]? = (ps[i]?).map fun p => .str (S p) := by unfold slist; rw [List.getElem?_map]
theorem ell6_walk {c : Cx} {P : Params} {mg : Str → Option Value} (Y : Yes c P mg) (rm : Room 0 c.A) (L : Addr) (cells : List (Str × Addr)) (hcl : CellsOk (defEnv (kfd P 70) 70 L cells)) :
  SOK c (defEnv (kfd P 70) 70 L cells) (execs ((kbody P 70).drop 6) (defEnv (kfd P 70) 70 L cells)) ell6 := by
 have hh := rm.hd
 have heq := rm.eq
 refine SOK.weak (jK (jZ (by kernel_rfl) (pI (qB (by kernel_rfl)) (vE jM op_neg)))
 (jK (pS (kT (qB (by kernel_rfl)) jT) (jK (pS (kT (kN GM.endswith rfl (qB (by kernel_rfl)) (qG (qB (by kernel_rfl)) jI) op_endswith) jT) (jK (sok_aug (by kernel_rfl) (by kernel_rfl) (pR Y.G (by kernel_rfl) (Y.none (by kernel_rfl)) pZ (by decide) (by decide) rfl rfl (qG (qB (by kernel_rfl)) jI) kA) op_isub)
 (jK (sok_del (qB (by kernel_rfl)) (vE jM op_neg))
 jP)) (jK (pC pJ)
 jP))
 jP) jP)
 (ell8_walk Y rm L cells hcl))) ?_
 intro η σ N Rt h
 dsimp only [wCons, wAsg, wIf, wRet, wBin, wCmp, wPl, wUn, wAnd, wOr, wIfE, wEs, wSl]
 refine qC fun P kG => ?_
 obtain ⟨s, ps, g, σ0, h1, h2, h3, rfl, h4, hne, hlen, h6, h7, hR⟩ := h
 refine kG ?_
 clear kG P
 have hpos : 0 < ps.length := List.length_pos_iff.mpr hne
 have hlast : (slist ps)[ps.length - 1]? = some (.str (S (ps.getLastD []))) := by
  rw [slist_get, List.getLastD_eq_getLast?, List.getLast?_eq_getElem?]
  rcases h : ps[ps.length - 1]? with _ | p
  ·rw [List.getElem?_eq_none_iff] at h; lia
  ·rfl
 have hmem : ps.getLastD [] ∈ ps := by
  have : ps[ps.length - 1]? = some (ps.getLastD []) := by
   rw [slist_get] at hlast
   rcases h : ps[ps.length - 1]? with _ | p
   ·rw [h] at hlast; cases hlast
   ·rw [h] at hlast
    simp only [Option.map_some, Option.some.injEq, PyData.str.injEq, S_inj] at hlast
    rw [hlast]
  exact List.mem_of_getElem? this
 simp only [h3, h4, qJ, qF, qD, qK, qL, qT, qH, qI, qM, qN, qY, qZ, qE, String.reduceEq, String.reduceBEq, cond_true, cond_false, uH, if_true, if_false, reduceIte, ite_true, ite_false, zA, zB, zC, zD, zE, zF, qP, zG, qQ, zH, zI, zJ, zK, zL, qR, qU, zM, zN, qO, zO, zP, zQ, zR, zS, zT, qV, zU, zV, zW, zX, zY, qW, zZ, jA, jB, jR, jQ, jS, jC, jD, jE, jF, qX, jG, jH, qS, uA, uB, uC, uD, uE, uF, uG, kZ]
 refine ⟨_, ps.length - 1, _, rfl, by decide, by rw [vC]; exact last_ix _ hpos, hlast, ?_⟩
 have hw : (ps.getLastD []).length < 100000 := h7 _ hmem
 have her : (slist ps).eraseIdx (ps.length - 1) = slist ps.dropLast := by
  rw [← vC ps, List.eraseIdx_length_sub_one]
  unfold slist; rw [List.map_dropLast]
 unfold ellEnd at hR
 dsimp only at hR
 generalize ps.getLastD [] = w at hw hR hlast
 simp only [h2, qJ, qF, qD, qK, qL, qT, qH, qI, qM, qN, qY, qZ, qE, String.reduceEq, String.reduceBEq, cond_true, cond_false, uH, if_true, if_false, reduceIte, ite_true, ite_false, zA, zB, zC, zD, zE, zF, qP, zG, qQ, zH, zI, zJ, zK, zL, qR, qU, zM, zN, qO, zO, zP, zQ, zR, zS, zT, qV, zU, zV, zW, zX, zY, qW, zZ, jA, jB, jR, jQ, jS, jC, jD, jE, jF, qX, jG, jH, qS, uA, uB, uC, uD, uE, uF, uG, S_ends, jN]
 refine ⟨by exact (qA [_] 1 (.a (.v 0) (.n 1)) (.n 4611686018427387904) (.c 1 (.a (.v 0) (.n 1)) (.n 100000) .z) rfl hw), fun q => ⟨_, rfl, fun q2 => ⟨by (clear h6; lia), _, rfl, _, _, ps.length - 1, kO σ0 _, rfl, by exact ⟨(jO [] 1 (.g (.n 1000)) (.g (.n 1)) .z rfl ), (jO [] 1 (.a (.g (.n 1)) (.n 1)) (.n 1073741824) .z rfl )⟩, by rw [vC]; exact last_ix _ hpos, by rw [vC, sizeLine_eq]; exact Nat.le_of_lt (Nat.lt_of_lt_of_le ‹_› (by decide)), ?_⟩, fun q2 => ?_⟩, fun q => ?_⟩
 ·have hne : w ≠ [] := fun e => by subst e; simp at q
  have q2 := of_decide_eq_true q2
  rw [if_neg hne, if_pos q2] at hR
  refine ⟨s, g.length - w.length, ps.dropLast, g, σ0, ?_, ?_, ?_, ?_, ?_, by exact Nat.sub_le _ _, h6, fun p hp => h7 p ((List.dropLast_sublist ps).subset hp), hR⟩
  ·exact Eq.trans (by kernel_rfl) h1
  ·simp only [qJ, qF, qD, qK, qL, qH, qI, qM, qN, qE, String.reduceEq, String.reduceBEq, cond_true, cond_false, reduceIte, if_true, if_false, uA, uB, uC, uD, List.map_cons, List.map_nil]; rw [Int.natCast_sub q2.1]
  ·exact Eq.trans (by kernel_rfl) h3
  ·rw [set_last, her]
  ·exact Eq.trans (by kernel_rfl) h4
 ·have hne : w ≠ [] := fun e => by subst e; simp at q
  have q2 := of_decide_eq_false q2
  rw [if_neg hne, if_neg q2] at hR
  exact hR _
 ·have he : w = [] := by
   have : (w.length : Int) = 0 := by simpa using q
   exact List.length_eq_zero_iff.mp (by exact (Nat.le_antisymm (qA [_] 1 (.v 0) (.n 0) (.i 1 (.c (.v 0)) (.n 0) .z) rfl (Int.le_of_eq this)) (qA [_] 1 (.n 0) (.v 0) .z rfl )))
  rw [if_pos he] at hR
  refine ⟨s, g.length, ps, g, σ0, ?_, ?_, ?_, rfl, ?_, by exact Nat.le_refl _, h6, h7, hR⟩
  ·exact Eq.trans (by kernel_rfl) h1
  ·exact Eq.trans (by kernel_rfl) h2
  ·exact Eq.trans (by kernel_rfl) h3
  ·exact Eq.trans (by kernel_rfl) h4
theorem jn_len : ∀ (ps : List (List Nat)) (p : List Nat), p ∈ ps → p.length ≤ (jn ps).length
 | [q], p, h => by rw [List.mem_singleton] at h; subst h; exact Nat.le_refl _
 | q :: r :: t, p, h => by
  show _ ≤ (q ++ MK ++ jn (r :: t)).length
  rw [List.length_append, List.length_append]
  rcases List.mem_cons.mp h with h | h
  ·subst h; exact (qA [_,_,_] 1 (.v 0) (.a (.a (.v 0) (.v 1)) (.v 2)) .z rfl )
  ·have := jn_len (r :: t) p h; exact Nat.le_trans ‹_› (Nat.le_add_left _ _)
theorem jn_count : ∀ (ps : List (List Nat)), ps.length ≤ (jn ps).length + 1
 | [] => by simp
 | [q] => by simp
 | q :: r :: t => by
  show _ ≤ (q ++ MK ++ jn (r :: t)).length + 1
  have := jn_count (r :: t)
  rw [List.length_append, List.length_append, List.length_cons]
  simp only [MK, List.length_cons, List.length_nil] at this ⊢
  exact (qA [_,_,_] 1 (.a (.a (.v 0) (.n 1)) (.n 1)) (.a (.a (.a (.v 1) (.a (.a (.a (.n 0) (.n 1)) (.n 1)) (.n 1))) (.v 2)) (.n 1)) (.c 1 (.a (.v 0) (.n 1)) (.a (.v 2) (.n 1)) .z) rfl this)
theorem hasL_jn (ps : List (List Nat)) (h : 2 ≤ ps.length) : hasL (jn ps) MK = true := by
 obtain ⟨a, b, e, _⟩ := jn_has h
 rw [hasL_iff]
 exact ⟨a.length, by rw [e]; exact at_mid a MK b⟩
theorem parts_len (x : Str) (cuts : List Nat) (w : Nat) : (Builtin.Str.partsBetween x cuts w).length = cuts.length + 1 := by
 unfold Builtin.Str.partsBetween
 simp
theorem MK_S : (⟨#[46, 46, 46]⟩ : Str) = S MK := rfl
theorem ell_walk {c : Cx} {P : Params} {mg : Str → Option Value} (Y : Yes c P mg) (rm : Room 0 c.A) (L : Addr) (cells : List (Str × Addr)) (hcl : CellsOk (defEnv (kfd P 70) 70 L cells)) :
  SOK c (defEnv (kfd P 70) 70 L cells) (execs (kbody P 70) (defEnv (kfd P 70) 70 L cells)) ellW := by
 have hh := rm.hd
 have heq := rm.eq
 refine SOK.weak (jK (pS (jW (eok_gstr Y (a := ⟨#[46, 46, 46]⟩) (t := 332) (by kernel_rfl) (by kernel_rfl) (by kernel_rfl)) (qB (by kernel_rfl)) op_notin jT (by kernel_rfl)) (jK (pC (kV (qB (by kernel_rfl)) (qB (by kernel_rfl)) (op_eq heq) (by kernel_rfl)))
 jP) jP)
 (jK (jZ (by kernel_rfl) (kN GM.split rfl (qB (by kernel_rfl)) (qG (eok_gstr Y (a := ⟨#[46, 46, 46]⟩) (t := 332) (by kernel_rfl) (by kernel_rfl) (by kernel_rfl)) jI) op_split))
 (jK (sok_assert hh (jW (pR Y.G (by kernel_rfl) (Y.none (by kernel_rfl)) pZ (by decide) (by decide) rfl rfl (qG (qB (by kernel_rfl)) jI) kA) jM op_ge jT (by kernel_rfl)))
 (jK (vL hh ["startpos", "endpos"] (nms0 _ (by kernel_rfl)) rfl (qG (jM (k := 0) (pos := default)) (qG (pR Y.G (by kernel_rfl) (Y.none (by kernel_rfl)) pZ (by decide) (by decide) rfl rfl (qG (qB (by kernel_rfl)) jI) kA) jI)) (by kernel_rfl) (by kernel_rfl))
 (jK (jZ (by kernel_rfl) (pI (qB (by kernel_rfl)) jM))
 (jK (pS (kT (qB (by kernel_rfl)) jT) (jK (pS (kT (kN GM.startswith rfl (qB (by kernel_rfl)) (qG (qB (by kernel_rfl)) jI) op_startswith) jT) (jK (jZ (by kernel_rfl) (pR Y.G (by kernel_rfl) (Y.none (by kernel_rfl)) pZ (by decide) (by decide) rfl rfl (qG (qB (by kernel_rfl)) jI) kA))
 (jK (sok_del (qB (by kernel_rfl)) jM)
 jP)) (jK (pC pJ)
 jP))
 jP) jP)
 (ell6_walk Y rm L cells hcl))))))) ?_
 intro η σ N Rt h
 dsimp only [wCons, wAsg, wIf, wRet, wBin, wCmp, wPl, wUn, wAnd, wOr, wIfE, wEs, wSl]
 refine qC fun P kG => ?_
 obtain ⟨w, g, h1, h2, h3, h4, h5, h5g, hor⟩ := h
 refine kG ?_
 clear kG P
 simp only [h1, h2, qJ, qF, qD, qK, qL, qT, qH, qI, qM, qN, qY, qZ, qE, String.reduceEq, String.reduceBEq, cond_true, cond_false, uH, if_true, if_false, reduceIte, ite_true, ite_false, zA, zB, zC, zD, zE, zF, qP, zG, qQ, zH, zI, zJ, zK, zL, qR, qU, zM, zN, qO, zO, zP, zQ, zR, zS, zT, qV, zU, zV, zW, zX, zY, qW, zZ, jA, jB, jR, jQ, jS, jC, jD, jE, jF, qX, jG, jH, qS, uA, uB, uC, uD, uE, uF, uG, MK_S, S_has]
 rcases hor with ⟨hno, hR⟩ | ⟨ps, rfl, hps, hd, hR⟩
 ·rw [hno]
  refine ⟨fun _ => ⟨⟨S_shaped _ h5, S_shaped _ h5g⟩, by simpa [S_inj] using hR⟩, fun q => by simp at q⟩
 ·rw [hasL_jn ps hps]
  refine ⟨fun q => by simp at q, fun _ => ⟨_, rfl, ?_⟩⟩
  have hsp : List.map PyData.str (Txt.split (S (jn ps)) (S MK)) = slist ps := by
   rw [split_jn ps hps hd]; unfold slist; rw [List.map_map]; rfl
  rw [hsp]
  have hcnt := jn_count ps
  cases ps with
  | nil => simp at hps
  | cons w rest =>
   have hrest : rest ≠ [] := fun e => by subst e; simp at hps
   have hw : w.length < 100000 := by have := jn_len (w :: rest) w (by simp); exact (qA [_,_] 1 (.a (.v 0) (.n 1)) (.n 100000) (.c 1 (.v 0) (.v 1) (.c 1 (.a (.v 1) (.n 1)) (.n 900) .z)) rfl this h4)
   have hall : ∀ p ∈ w :: rest, p.length < 100000 := fun p hp => by have := jn_len (w :: rest) p hp; exact (qA [_,_] 1 (.a (.v 0) (.n 1)) (.n 100000) (.c 1 (.v 0) (.v 1) (.c 1 (.a (.v 1) (.n 1)) (.n 900) .z)) rfl this h4)
   refine ⟨⟨by rw [jN]; rfl, by rw [jN, sizeLine_eq]; exact Nat.le_trans (Nat.le_of_lt ‹_›) (by decide), ?_⟩, slist (w :: rest), kZ _ _, by rw [vC]; exact (qA [_,_] 1 (.a (.v 0) (.n 1)) (.n 4611686018427387904) (.c 1 (.v 0) (.a (.v 1) (.n 1)) (.c 1 (.a (.v 1) (.n 1)) (.n 900) .z)) rfl hcnt h4), decide_eq_true (by rw [vC]; exact Int.ofNat_le.mpr ‹_›), S_lt g h3, by rw [sizeLine_eq]; exact Nat.le_add_left _ _, trivial, slist (w :: rest), 0, .str (S w), kZ _ _, by decide, zero_ix _ (by rw [vC]; simp), rfl, ?_⟩
   ·rw [parts_len, sizeLine_eq]
    have := StrLaws.occ_length_le (S (jn (w :: rest))) (S MK) 0 (S (jn (w :: rest))).length ((S (jn (w :: rest))).length + 1)
    rw [jN] at this ⊢
    exact (qA [_,_] 1 (.a (.v 0) (.n 1)) (.n 16777216) (.c 1 (.v 0) (.a (.v 1) (.n 1)) (.c 1 (.a (.v 1) (.n 1)) (.n 900) .z)) rfl this h4)
   ·unfold ellM at hR
    dsimp only [List.headD, List.tail_cons] at hR
    simp only [qJ, qF, qD, qK, qL, qT, qH, qI, qM, qN, qY, qZ, qE, String.reduceEq, String.reduceBEq, cond_true, cond_false, uH, if_true, if_false, reduceIte, ite_true, ite_false, zA, zB, zC, zD, zE, zF, qP, zG, qQ, zH, zI, zJ, zK, zL, qR, qU, zM, zN, qO, zO, zP, zQ, zR, zS, zT, qV, zU, zV, zW, zX, zY, qW, zZ, jA, jB, jR, jQ, jS, jC, jD, jE, jF, qX, jG, jH, qS, uA, uB, uC, uD, uE, uF, uG, S_starts, jN]
    refine ⟨by lia, fun q => ⟨_, rfl, fun q2 => ⟨by lia, _, rfl, _, _, 0, kO σ _, rfl, by exact ⟨(jO [] 1 (.g (.n 1000)) (.n 0) .z rfl ), (jO [] 1 (.a (.n 0) (.n 1)) (.n 1073741824) .z rfl )⟩, zero_ix _ (by rw [vC]; simp), by rw [vC, sizeLine_eq]; exact (qA [_,_] 1 (.v 0) (.n 16777216) (.c 1 (.v 0) (.a (.v 1) (.n 1)) (.c 1 (.a (.v 1) (.n 1)) (.n 900) .z)) rfl hcnt h4), ?_⟩, fun q2 => ?_⟩, fun q => ?_⟩
    ·have hne : w ≠ [] := fun e => by subst e; simp at q
     have q2 := of_decide_eq_true q2
     rw [if_neg hne, if_pos q2] at hR
     refine ⟨w.length, rest, g, σ, ?_, ?_, ?_, ?_, ?_, hrest, by simp at hcnt; exact (qA [_,_] 1 (.a (.v 0) (.n 1)) (.n 1000) (.c 1 (.v 0) (.v 1) (.c 1 (.a (.v 1) (.n 1)) (.n 900) .z)) rfl hcnt h4), h3, fun p hp => hall p (List.mem_cons_of_mem _ hp), hR⟩
     ·kernel_rfl
     ·kernel_rfl
     ·kernel_rfl
     ·rw [set_last]; rfl
     ·exact Eq.trans (by kernel_rfl) h2
    ·have hne : w ≠ [] := fun e => by subst e; simp at q
     have q2 := of_decide_eq_false q2
     rw [if_neg hne, if_neg q2] at hR
     exact hR _
    ·have he : w = [] := by
      have : (w.length : Int) = 0 := by simpa using q
      exact List.length_eq_zero_iff.mp (by lia)
     rw [if_pos he] at hR
     refine ⟨0, w :: rest, g, σ, ?_, ?_, ?_, rfl, ?_, by simp, by exact (qA [_,_] 1 (.a (.v 0) (.n 1)) (.n 1000) (.c 1 (.v 0) (.a (.v 1) (.n 1)) (.c 1 (.a (.v 1) (.n 1)) (.n 900) .z)) rfl hcnt h4), h3, hall, hR⟩
     ·simp only [qJ, qF, qD, qK, qL, qT, qH, qI, qM, qN, qY, qZ, qE, String.reduceEq, String.reduceBEq, cond_true, cond_false, uH, if_true, if_false, reduceIte, ite_true, ite_false, zA, zB, zC, zD, zE, zF, qP, zG, qQ, zH, zI, zJ, zK, zL, qR, qU, zM, zN, qO, zO, zP, zQ, zR, zS, zT, qV, zU, zV, zW, zX, zY, qW, zZ, jA, jB, jR, jQ, jS, jC, jD, jE, jF, qX, jG, jH, qS, uA, uB, uC, uD, uE, uF, uG]; rfl
     ·kernel_rfl
     ·kernel_rfl
     ·exact Eq.trans (by kernel_rfl) h2
noncomputable def fewOk (t : List Nat) (s e : Nat) : Bool := decide (s + 1 = e) || (match lfind t ((t.take e).drop s) 0 t.length with | some i => decide (i < s) | none => true)
noncomputable def minL (l : List Nat) : Nat := (l.min?).getD 0
noncomputable def leastL (t : List Nat) : Nat → List Nat
 | 0 => [0]
 | n + 1 => leastL t n ++ [1 + minL (((List.range (n + 1)).filter fun s => fewOk t s (n + 1)).map fun s => (leastL t n).getD s 0)]
theorem vD (t : List Nat) : ∀ n, (leastL t n).length = n + 1
 | 0 => rfl
 | n + 1 => by rw [leastL, List.length_append, vD t n]; rfl
noncomputable def fewW : SW := fun η σ _ Rt => ∃ (t : List Nat), vget "text" η = some (.v (.str (S t))) ∧ t.length ≤ 100 ∧ ∀ x, Rt (.v (.int ((leastL t t.length).getD t.length 0 : Nat))) (σ ++ [x])
theorem kD (l : List Nat) : (nlist l).length = l.length := by unfold nlist; rw [List.length_map]
theorem nlist_get (l : List Nat) (i : Nat) : (nlist l)[i]? = (l[i]?).map fun k => .int (k : Int) := by unfold nlist; rw [List.getElem?_map]
theorem nlist_cons {d : PyData} {ds : List PyData} {l : List Nat} (h : d :: ds = nlist l) : ∃ k r, l = k :: r ∧ d = .int (k : Int) ∧ ds = nlist r := by
 cases l with
 | nil => cases h
 | cons p qs =>
  unfold nlist at h
  rw [List.map_cons, List.cons.injEq] at h
  exact ⟨p, qs, rfl, h.1, h.2⟩
theorem iter_n (n : Nat) (h : n < 100000) : iterOf (.rng 0 (n : Int) 1) = some (nlist (List.range n)) := by
 rw [iter_up (by exact (jO [] 1 (.g (.n 1000)) (.n 0) .z rfl )) (by exact (jO [_] 1 (.n 0) (.c (.v 0)) .z rfl )) (by exact (jO [_] 1 (.a (.c (.v 0)) (.n 1)) (.n 100000) (.c 1 (.a (.v 0) (.n 1)) (.n 100000) .z) rfl h))]
 have e : ((n : Int) - 0).toNat = n := by lia
 rw [e]; unfold nlist
 congr 1
 refine List.map_congr_left fun i _ => ?_
 rw [Int.zero_add]
theorem iter_ab (a b : Nat) (h1 : a ≤ b) (h : b < 100000) : iterOf (.rng (a : Int) (b : Int) 1) = some (nlist (List.range' a (b - a))) := by
 rw [iter_up (by exact (jO [_] 1 (.g (.n 1000)) (.c (.v 0)) .z rfl )) (by exact (jO [_,_] 1 (.c (.v 0)) (.c (.v 1)) (.c 1 (.v 0) (.v 1) .z) rfl h1)) (by lia)]
 have e : ((b : Int) - (a : Int)).toNat = b - a := by lia
 rw [e]; unfold nlist
 rw [List.range'_eq_map_range, List.map_map]
 congr 1
theorem flatIf {α β : Type} (p : α → Bool) (f : α → β) : ∀ l : List α, (l.map fun x => if p x = true then [f x] else []).flatten = (l.filter p).map f
 | [] => rfl
 | x :: l => by
  rw [List.map_cons, List.flatten_cons, flatIf p f l, List.filter_cons]
  cases h : p x <;> simp
theorem intsOf_n : ∀ l : List Nat, intsOf (nlist l) = some (l.map fun (k : Nat) => (k : Int))
 | [] => rfl
 | k :: r => by
  have := intsOf_n r
  show (intsOf (nlist r)).map _ = _
  rw [this]; rfl
theorem minL_spec {l : List Nat} (h : l ≠ []) : minL l ∈ l ∧ ∀ a ∈ l, minL l ≤ a := by
 unfold minL
 cases hm : l.min? with
 | none => rw [List.min?_eq_none_iff] at hm; exact absurd hm h
 | some m =>
  rw [List.min?_eq_some_iff] at hm
  exact hm
theorem oMin_n {l : List Nat} {σ : Sto} {Q : XV → Sto → Prop} (h : l ≠ []) (hQ : Q (.v (.int (minL l : Nat))) σ) : oMin [.v (.list (nlist l))] σ Q := by
 obtain ⟨h1, h2⟩ := minL_spec h
 refine ⟨_, _, rfl, intsOf_n l, by simpa using h, fun m hm hle => ?_⟩
 obtain ⟨k, hk, rfl⟩ := List.mem_map.mp hm
 have e : k = minL l := Nat.le_antisymm (by
  have := hle (minL l : Nat) (List.mem_map.mpr ⟨_, h1, rfl⟩)
  exact Int.ofNat_le.mp ‹_›) (h2 k hk)
 rw [e]; exact hQ
theorem few_walk {c : Cx} {P : Params} {mg : Str → Option Value} (Y : Yes c P mg) (rm : Room 0 c.A) (L : Addr) (cells : List (Str × Addr)) (hcl : CellsOk (defEnv (kfd P 256) 256 L cells)) :
  SOK c (defEnv (kfd P 256) 256 L cells) (execs (kbody P 256) (defEnv (kfd P 256) 256 L cells)) fewW := by
 have hh := rm.hd
 have heq := rm.eq
 refine SOK.weak (jK (jZ (by kernel_rfl) (kM rfl (qG (jM (k := 0) (pos := default)) jI)))
 (jK (sok_for hh hcl (by exact trivial) (kX Y.G (by kernel_rfl) (Y.none (by kernel_rfl)) vJ (by decide) (by decide) rfl rfl (qG (jM (k := 0) (pos := default)) (qG (jJ (pR Y.G (by kernel_rfl) (Y.none (by kernel_rfl)) pZ (by decide) (by decide) rfl rfl (qG (qB (by kernel_rfl)) jI) kA) jM jU) jI)) op_range) (pP trivial (by kernel_rfl)) (jK (sok_expr (eok_lmeth PySem.F.slot_list_append PySem.F.type_list_append rfl (qB (by kernel_rfl)) (jJ jM (pR Y.G (by kernel_rfl) (Y.none (by kernel_rfl)) boot_min (by decide) (by decide) rfl rfl (qG (pT hh (kX Y.G (by kernel_rfl) (Y.none (by kernel_rfl)) vJ (by decide) (by decide) rfl rfl (qG (qB (by kernel_rfl)) jI) op_range) (by exact trivial) (pL (by kernel_rfl)) (fun _ q => q) (fun L cells => (pP (pM (by kernel_rfl)) (by kernel_rfl))) (pY (by kernel_rfl)) (fun L cells => (tsok_one (tok_or (jW (qB (by kernel_rfl)) (jJ (qB (by kernel_rfl)) jM op_sub) (op_eq heq) jT (by kernel_rfl)) (tok_or (jW (kN GM.find rfl (qB (by kernel_rfl)) (qG (pU (qB (by kernel_rfl)) (pK (qB (by kernel_rfl))) (pK (qB (by kernel_rfl))) pD) jI) op_find) (qB (by kernel_rfl)) op_lt jT (by kernel_rfl)) tok_or_nil)))) (fun L cells => (pI (qB (by kernel_rfl)) (qB (by kernel_rfl))))) jI) (op_min hh)) jU) op_append))
 jP))
 (jK (pC (pI (qB (by kernel_rfl)) (vE jM op_neg)))
 jP))) ?_
 intro η σ N Rt h
 dsimp only [wCons, wAsg, wIf, wRet, wBin, wCmp, wPl, wUn, wAnd, wOr, wIfE, wEs, wSl]
 obtain ⟨t, h1, h2, hR⟩ := h
 simp only [h1, qJ, qF, qD, qK, qL, qT, qH, qI, qM, qN, qY, qZ, qE, String.reduceEq, String.reduceBEq, cond_true, cond_false, uH, if_true, if_false, reduceIte, ite_true, ite_false, zA, zB, zC, zD, zE, zF, qP, zG, qQ, zH, zI, zJ, zK, zL, qR, qU, zM, zN, qO, zO, zP, zQ, zR, zS, zT, qV, zU, zV, zW, zX, zY, qW, zZ, jA, jB, jR, jQ, jS, jC, jD, jE, jF, qX, jG, jH, qS, uA, uB, uC, uD, uE, uF, uG, jN, kZ]
 have it0 : iterOf (.rng 1 ((t.length : Int) + 1) 1) = some (nlist (List.range' 1 (t.length + 1 - 1))) := by
  have := iter_ab 1 (t.length + 1) (by exact Nat.succ_pos _) (by exact (qA [_] 1 (.a (.a (.v 0) (.n 1)) (.n 1)) (.n 100000) (.c 1 (.v 0) (.n 100) .z) rfl h2))
  rw [Int.natCast_add] at this; exact this
 refine ⟨by rw [sizeLine_eq]; exact (qA [] 1 (.a (.n 0) (.n 1)) (.n 16777216) .z rfl ), by exact (qA [_] 1 (.a (.v 0) (.n 1)) (.n 4611686018427387904) (.c 1 (.v 0) (.n 100) .z) rfl h2), _, it0, fun ds η' σ' => ∃ k, k ≤ t.length ∧ ds = nlist (List.range' (k + 1) (t.length - k)) ∧ vget "text" η' = some (.v (.str (S t))) ∧ vget "least" η' = some (.own σ.length) ∧ σ' = σ ++ [.list (nlist (leastL t k))], ?_, ?_, ?_⟩
 ·refine ⟨0, by exact (qA [_] 1 (.n 0) (.v 0) .z rfl ), ?_, ?_, ?_, rfl⟩
  ·rw [Nat.add_sub_cancel]; rfl
  ·exact Eq.trans (by kernel_rfl) h1
  ·kernel_rfl
 ·intro d ds η1 σ1 hI0
  refine qC fun P kG => ?_
  obtain ⟨k, hk, hd, g1, g2, rfl⟩ := hI0
  refine kG ?_
  clear kG P
  obtain ⟨e, r, he, rfl, rfl⟩ := nlist_cons hd
  have hlt : k < t.length := by
   rcases Nat.lt_or_ge k t.length with q | q
   ·exact q
   ·rw [show t.length - k = 0 by exact (Nat.le_antisymm (qA [_,_,_] 1 (.v 0) (.n 0) (.c 1 (.a (.v 0) (.v 1)) (.v 2) (.c 1 (.v 2) (.v 1) .z)) rfl (jL (qA [_,_] 1 (.v 0) (.v 1) (.c 1 (.v 0) (.v 1) .z) rfl hk)) q) (qA [_] 1 (.n 0) (.v 0) .z rfl ))] at he; cases he
  rw [show t.length - k = (t.length - (k + 1)) + 1 by exact (Nat.le_antisymm (qA [_,_,_,_] 1 (.v 0) (.a (.v 1) (.n 1)) (.c 1 (.v 2) (.a (.v 1) (.a (.v 3) (.n 1))) (.c 1 (.a (.v 0) (.v 3)) (.v 2) .z)) rfl (jV _ _) (jL (qA [_,_] 1 (.v 0) (.v 1) (.c 1 (.a (.v 0) (.n 1)) (.v 1) .z) rfl hlt))) (qA [_,_,_,_] 1 (.a (.v 0) (.n 1)) (.v 1) (.c 1 (.a (.v 0) (.a (.v 2) (.n 1))) (.v 3) (.c 1 (.v 3) (.a (.v 1) (.v 2)) .z)) rfl (jL (qA [_,_] 1 (.a (.v 0) (.n 1)) (.v 1) (.c 1 (.a (.v 0) (.n 1)) (.v 1) .z) rfl hlt)) (jV _ _))), List.range'_succ] at he
  injection he with he1 he2
  subst he1 he2
  simp only [g1, g2, qJ, qF, qD, qK, qL, qT, qH, qI, qM, qN, qY, qZ, qE, String.reduceEq, String.reduceBEq, cond_true, cond_false, uH, if_true, if_false, reduceIte, ite_true, ite_false, zA, zB, zC, zD, zE, zF, qP, zG, qQ, zH, zI, zJ, zK, zL, qR, qU, zM, zN, qO, zO, zP, zQ, zR, zS, zT, qV, zU, zV, zW, zX, zY, qW, zZ, jA, jB, jR, jQ, jS, jC, jD, jE, jF, qX, jG, jH, qS, uA, uB, uC, uD, uE, uF, uG]
  refine ⟨_, rfl, ⟨_, kO σ _⟩, _, (List.range (k + 1)).map (fun s => if fewOk t s (k + 1) = true then [PyData.int (((leastL t k).getD s 0 : Nat) : Int)] else []), iter_n (k + 1) (by exact (qA [_,_] 1 (.a (.a (.v 0) (.n 1)) (.n 1)) (.n 100000) (.c 1 (.a (.v 0) (.n 1)) (.v 1) (.c 1 (.v 1) (.n 100) .z)) rfl hlt h2)), CompAll.map (fun s hs => ?_), ?_⟩
  ·have hs' : s < k + 1 := by simpa using hs
   have hl : lst? (σ ++ [.list (nlist (leastL t k))]) (.own σ.length) = some (nlist (leastL t k)) := kZ σ _
   have hget : (nlist (leastL t k))[s]? = some (.int (((leastL t k).getD s 0 : Nat) : Int)) := by
    rw [nlist_get, List.getD_eq_getElem?_getD, List.getElem?_eq_getElem (by rw [vD]; exact (qA [_,_] 1 (.a (.v 0) (.n 1)) (.a (.v 1) (.n 1)) (.c 1 (.a (.v 0) (.n 1)) (.a (.v 1) (.n 1)) .z) rfl hs'))]; rfl
   have item : ∀ Q : XV → Sto → Prop, Q (.v (.int (((leastL t k).getD s 0 : Nat) : Int))) (σ ++ [.list (nlist (leastL t k))]) → oItem (.own σ.length) (.v (.int (s : Int))) (σ ++ [.list (nlist (leastL t k))]) Q := fun Q hQ => by
    rw [jS]
    refine ⟨_, s, _, hl, by exact ⟨(jO [_] 1 (.g (.n 1000)) (.c (.v 0)) .z rfl ), (jO [_,_,_] 1 (.a (.c (.v 0)) (.n 1)) (.n 1073741824) (.c 1 (.a (.v 0) (.n 1)) (.a (.v 1) (.n 1)) (.c 1 (.v 1) (.v 2) (.c 1 (.v 2) (.n 100) .z))) rfl hs' hk h2)⟩, ?_, hget, hQ⟩
    rw [kD, vD]
    exact StrLaws.seqIndex_nonneg (by lia) (by exact (jO [_,_] 1 (.a (.c (.v 0)) (.n 1)) (.c (.a (.v 1) (.n 1))) (.c 1 (.a (.v 0) (.n 1)) (.a (.v 1) (.n 1)) .z) rfl hs'))
   unfold CB
   simp only [g1, g2, qJ, qF, qD, qK, qL, qT, qH, qI, qM, qN, qY, qZ, qE, String.reduceEq, String.reduceBEq, cond_true, cond_false, uH, if_true, if_false, reduceIte, ite_true, ite_false, zA, zB, zC, zD, zE, zF, qP, zG, qQ, zH, zI, zJ, zK, zL, qR, qU, zM, zN, qO, zO, zP, zQ, zR, zS, zT, qV, zU, zV, zW, zX, zY, qW, zZ, jA, jB, jR, jQ, jC, jD, jE, jF, qX, jG, jH, qS, uA, uB, uC, uD, uE, uF, uG, S_slice, S_find, jN]
   have e1 : ((k + 1 : Nat) : Int) - 1 = (k : Int) := by exact (Int.le_antisymm (jO [_] 1 (.s (.c (.a (.v 0) (.n 1))) (.n 1)) (.c (.v 0)) .z rfl ) (jO [_] 1 (.c (.v 0)) (.s (.c (.a (.v 0) (.n 1))) (.n 1)) .z rfl ))
   by_cases hk1 : s = k
   ·have hok : fewOk t s (k + 1) = true := by unfold fewOk; rw [decide_eq_true (by exact (Nat.le_antisymm (qA [_,_] 1 (.a (.v 0) (.n 1)) (.a (.v 1) (.n 1)) (.c 1 (.v 0) (.v 1) .z) rfl (uJ hk1)) (qA [_,_] 1 (.a (.v 0) (.n 1)) (.a (.v 1) (.n 1)) (.c 1 (.v 0) (.v 1) .z) rfl (uJ (Eq.symm hk1)))))]; rfl
    rw [if_pos hok]
    refine ⟨fun _ => ⟨fun _ => item _ ⟨_, [], rfl, rfl, by simp⟩, fun q => by cases q⟩, fun q => ?_⟩
    rw [e1, hk1] at q
    simp at q
   ·refine ⟨fun q => ?_, fun _ => ⟨_, rfl, trivial, by rw [sizeLine_eq]; exact (qA [_] 1 (.v 0) (.n 16777216) (.c 1 (.v 0) (.n 100) .z) rfl h2), ?_⟩⟩
    ·exfalso
     rw [e1] at q
     have : (s : Int) = (k : Int) := by simpa using q
     exact (Or.elim (Nat.lt_or_gt_of_ne hk1) (fun q0 => (jY [_,_] (.c 1 (.a (.v 0) (.n 1)) (.v 1) (.i 1 (.c (.v 1)) (.c (.v 0)) .z)) rfl q0 (Int.le_of_eq (Eq.symm this)))) fun q0 => (jY [_,_] (.c 1 (.a (.v 0) (.n 1)) (.v 1) (.i 1 (.c (.v 1)) (.c (.v 0)) .z)) rfl q0 (Int.le_of_eq this)))
    ·cases hf : lfind t ((t.take (k + 1)).drop s) 0 t.length with
     | none =>
      have hok : fewOk t s (k + 1) = true := by unfold fewOk; rw [hf]; simp
      rw [if_pos hok]
      dsimp only
      refine ⟨fun _ => ⟨fun _ => item _ ⟨_, [], rfl, rfl, by simp⟩, fun q => by cases q⟩, fun q => ?_⟩
      have q := of_decide_eq_false q
      lia
     | some i =>
      by_cases his : i < s
      ·have hok : fewOk t s (k + 1) = true := by unfold fewOk; rw [hf]; simp [his]
       rw [if_pos hok]
       dsimp only
       refine ⟨fun _ => ⟨fun _ => item _ ⟨_, [], rfl, rfl, by simp⟩, fun q => by cases q⟩, fun q => ?_⟩
       exact absurd (Int.ofNat_lt.mpr his) (of_decide_eq_false q)
      ·have hok : fewOk t s (k + 1) = false := by
        unfold fewOk; rw [hf, decide_eq_false (by exact (fun q0 => (Or.elim (Nat.lt_or_gt_of_ne hk1) (fun q1 => (jY [_,_] (.c 1 (.a (.v 0) (.n 1)) (.v 1) (.c 1 (.a (.v 1) (.n 1)) (.a (.v 0) (.n 1)) .z)) rfl q1 (uJ (Eq.symm q0)))) fun q1 => (jY [_,_] (.c 1 (.a (.v 0) (.n 1)) (.v 1) (.c 1 (.a (.v 1) (.n 1)) (.a (.v 0) (.n 1)) .z)) rfl q1 (uJ q0)))) : ¬ s + 1 = k + 1), Bool.false_or]
        exact decide_eq_false his
       rw [if_neg (by rw [hok]; simp)]
       dsimp only
       refine ⟨fun q => ?_, fun _ => ⟨(fun q => by cases q), fun _ => ⟨rfl, [], by simp⟩⟩⟩
       exact absurd (Int.ofNat_lt.mp (of_decide_eq_true q)) his
  ·have hm : k ∈ (List.range (k + 1)).filter fun s => fewOk t s (k + 1) := by
    rw [List.mem_filter]
    exact ⟨by simp, by unfold fewOk; rw [decide_eq_true rfl]; rfl⟩
   rw [flatIf]
   have e : ((List.range (k + 1)).filter fun s => fewOk t s (k + 1)).map (fun s => PyData.int (((leastL t k).getD s 0 : Nat) : Int)) = nlist (((List.range (k + 1)).filter fun s => fewOk t s (k + 1)).map fun s => (leastL t k).getD s 0) := by
    unfold nlist; rw [List.map_map]; rfl
   rw [e]
   refine ⟨?_, oMin_n (fun q => ?_) ?_⟩
   ·rw [kD, List.length_map]
    have := List.length_filter_le (fun s => fewOk t s (k + 1)) (List.range (k + 1))
    rw [List.length_range] at this
    rw [sizeLine_eq]; exact (qA [_,_,_] 1 (.v 0) (.n 16777216) (.c 1 (.v 0) (.a (.v 1) (.n 1)) (.c 1 (.v 1) (.v 2) (.c 1 (.v 2) (.n 100) .z))) rfl this hk h2)
   ·rw [List.map_eq_nil_iff] at q
    rw [q] at hm; cases hm
   ·simp only [qJ, qF, qD, qK, qL, qT, qH, qI, qM, qN, qY, qZ, qE, String.reduceEq, String.reduceBEq, cond_true, cond_false, uH, if_true, if_false, reduceIte, ite_true, ite_false, zA, zB, zC, zD, zE, zF, qP, zG, qQ, zH, zI, zJ, zK, zL, qR, qU, zM, zN, qO, zO, zP, zQ, zR, zS, zT, qV, zU, zV, zW, zX, zY, qW, zZ, jA, jB, jR, jQ, jS, jC, jD, jE, jF, qX, jG, jH, qS, uA, uB, uC, uD, uE, uF, uG]
    refine ⟨_, kO σ _, _, rfl, by rw [kD, vD, sizeLine_eq]; exact (qA [_,_] 1 (.a (.v 0) (.n 1)) (.n 16777216) (.c 1 (.a (.v 0) (.n 1)) (.v 1) (.c 1 (.v 1) (.n 100) .z)) rfl hlt h2), rfl, _, VLe.refl _, k + 1, by exact (qA [_,_] 1 (.a (.v 0) (.n 1)) (.v 1) (.c 1 (.a (.v 0) (.n 1)) (.v 1) .z) rfl hlt), rfl, ?_, ?_, ?_⟩
    ·exact Eq.trans (by kernel_rfl) g1
    ·exact Eq.trans (by kernel_rfl) g2
    ·rw [set_last]
     have e3 : nlist (leastL t k) ++ [PyData.int (1 + ((minL (((List.range (k + 1)).filter fun s => fewOk t s (k + 1)).map fun s => (leastL t k).getD s 0) : Nat) : Int))] = nlist (leastL t (k + 1)) := by
      rw [leastL]
      unfold nlist
      rw [List.map_append, List.map_singleton, Int.natCast_add]; rfl
     rw [e3]
 ·intro η1 σ1 hI0
  refine qC fun P kG => ?_
  obtain ⟨k, hk, hd, g1, g2, rfl⟩ := hI0
  refine kG ?_
  clear kG P
  have hk' : k = t.length := by
   have := congrArg List.length hd
   rw [kD, List.length_range'] at this
   simp at this; exact (Nat.le_antisymm (qA [_,_] 1 (.v 0) (.v 1) (.c 1 (.v 0) (.v 1) .z) rfl hk) (qA [_,_,_] 1 (.v 0) (.v 1) (.c 1 (.v 0) (.a (.v 2) (.v 1)) (.c 1 (.v 2) (.n 0) .z)) rfl (jV _ _) (uJ (Eq.symm this))))
  subst hk'
  simp only [g2, qJ, qF, qD, qK, qL, qT, qH, qI, qM, qN, qY, qZ, qE, String.reduceEq, String.reduceBEq, cond_true, cond_false, uH, if_true, if_false, reduceIte, ite_true, ite_false, zA, zB, zC, zD, zE, zF, qP, zG, qQ, zH, zI, zJ, zK, zL, qR, qU, zM, zN, qO, zO, zP, zQ, zR, zS, zT, qV, zU, zV, zW, zX, zY, qW, zZ, jA, jB, jR, jQ, jS, jC, jD, jE, jF, qX, jG, jH, qS, uA, uB, uC, uD, uE, uF, uG, kZ]
  refine ⟨_, t.length, _, rfl, by exact ⟨(jO [] 1 (.g (.n 1000)) (.g (.n 1)) .z rfl ), (jO [] 1 (.a (.g (.n 1)) (.n 1)) (.n 1073741824) .z rfl )⟩, ?_, ?_, hR _⟩
  ·rw [kD, vD]
   exact last_ix (t.length + 1) (by exact (qA [_] 1 (.a (.n 0) (.n 1)) (.a (.v 0) (.n 1)) .z rfl ))
  ·rw [nlist_get, List.getD_eq_getElem?_getD, List.getElem?_eq_getElem (by rw [vD]; exact (qA [_] 1 (.a (.v 0) (.n 1)) (.a (.v 0) (.n 1)) .z rfl ))]; rfl
noncomputable def cpy (back : Nat) : Nat → List Nat → List Nat
 | 0, t => t
 | k + 1, t => cpy back k (t ++ (t.take (t.length - back + 1)).drop (t.length - back))
noncomputable def ABC : List Nat := [97, 98, 99]
noncomputable def spell0 (size back : Nat) (t : List Nat) : List Nat := t ++ if size = 0 then (ABC.take (back + 1)).drop back else []
noncomputable def spell1 (size back : Nat) (t : List Nat) : List Nat := cpy back size (spell0 size back t)
noncomputable def spell (u : Nat) : List Nat → List Nat → List Nat
 | t, [] => t
 | t, n :: ns => spell u (spell1 (n / u / 16) (n / u % 16) t) ns
noncomputable def spOk (u : Nat) : List Nat → List Nat → Prop
 | _, [] => True
 | t, n :: ns => ((n / u / 16 = 0 ∨ n / u % 16 ≤ t.length) ∧ t.length + n / u / 16 ≤ 10000) ∧ spOk u (spell1 (n / u / 16) (n / u % 16) t) ns
noncomputable def spelW : SW := fun η σ _ Rt => ∃ (ns : List Nat) (u : Nat), vget "numbers" η = some (.v (.list (nlist ns))) ∧ vget "unit" η = some (.v (.int u)) ∧ 0 < u ∧ u < 1000 ∧ spOk u [] ns ∧ Rt (.v (.str (S (spell u [] ns)))) σ
theorem S_nil : Str.ofString "" = S [] := by decide +kernel
theorem S_abc : Str.ofString "abc" = S ABC := by decide +kernel
theorem spel_walk {c : Cx} {P : Params} {mg : Str → Option Value} (Y : Yes c P mg) (rm : Room 0 c.A) (L : Addr) (cells : List (Str × Addr)) (hcl : CellsOk (defEnv (kfd P 251) 251 L cells)) :
  SOK c (defEnv (kfd P 251) 251 L cells) (execs (kbody P 251) (defEnv (kfd P 251) 251 L cells)) spelW := by
 have hh := rm.hd
 have heq := rm.eq
 refine SOK.weak (jK (jZ (by kernel_rfl) pQ)
 (jK (sok_for hh hcl (by exact trivial) (qB (by kernel_rfl)) (pP trivial (by kernel_rfl)) (jK (vL hh ["size", "back"] (nms0 _ (by kernel_rfl)) rfl (qG (jJ (jJ (qB (by kernel_rfl)) (qB (by kernel_rfl)) op_fdiv) jM op_fdiv) (qG (jJ (jJ (qB (by kernel_rfl)) (qB (by kernel_rfl)) op_fdiv) jM op_mod) jI)) (by kernel_rfl) (by kernel_rfl))
 (jK (jZ (by kernel_rfl) (jJ (qB (by kernel_rfl)) (jJ (pU pQ (pK (qB (by kernel_rfl))) (pK (jJ (qB (by kernel_rfl)) jM jU)) pD) (kV (qB (by kernel_rfl)) jM (op_eq heq) (by kernel_rfl)) op_mul) jU))
 (jK (sok_for hh hcl (by exact trivial) (kX Y.G (by kernel_rfl) (Y.none (by kernel_rfl)) vJ (by decide) (by decide) rfl rfl (qG (qB (by kernel_rfl)) jI) op_range) (pP trivial (by kernel_rfl)) (jK (jZ (by kernel_rfl) (jJ (qB (by kernel_rfl)) (pU (qB (by kernel_rfl)) (pK (jJ (pR Y.G (by kernel_rfl) (Y.none (by kernel_rfl)) pZ (by decide) (by decide) rfl rfl (qG (qB (by kernel_rfl)) jI) kA) (qB (by kernel_rfl)) op_sub)) (pK (jJ (jJ (pR Y.G (by kernel_rfl) (Y.none (by kernel_rfl)) pZ (by decide) (by decide) rfl rfl (qG (qB (by kernel_rfl)) jI) kA) (qB (by kernel_rfl)) op_sub) jM jU)) pD) jU))
 jP))
 jP))))
 (jK (pC (qB (by kernel_rfl)))
 jP))) ?_
 intro η σ N Rt h
 dsimp only [wCons, wAsg, wIf, wRet, wBin, wCmp, wPl, wUn, wAnd, wOr, wIfE, wEs, wSl]
 refine qC fun P kG => ?_
 obtain ⟨ns, u, h1, h2, hu, hu2, hok, hR⟩ := h
 refine kG ?_
 clear kG P
 simp only [h1, qJ, qF, qD, qK, qL, qT, qH, qI, qM, qN, qY, qZ, qE, String.reduceEq, String.reduceBEq, cond_true, cond_false, uH, if_true, if_false, reduceIte, ite_true, ite_false, zA, zB, zC, zD, zE, zF, qP, zG, qQ, zH, zI, zJ, zK, zL, qR, qU, zM, zN, qO, zO, zP, zQ, zR, zS, zT, qV, zU, zV, zW, zX, zY, qW, zZ, jA, jB, jR, jQ, jS, jC, jD, jE, jF, qX, jG, jH, qS, uA, uB, uC, uD, uE, uF, uG, S_nil, S_abc]
 refine ⟨_, rfl, fun ds η' σ' => ∃ (ms t : List Nat), ds = nlist ms ∧ vget "text" η' = some (.v (.str (S t))) ∧ vget "unit" η' = some (.v (.int u)) ∧ σ' = σ ∧ spOk u t ms ∧ spell u t ms = spell u [] ns, ?_, ?_, ?_⟩
 ·refine ⟨ns, [], rfl, ?_, ?_, rfl, hok, rfl⟩
  ·kernel_rfl
  ·exact Eq.trans (by kernel_rfl) h2
 ·intro d ds η1 σ1 hI0
  refine qC fun P kG => ?_
  obtain ⟨ms, t, hd, g1, g2, rfl, g3, g4⟩ := hI0
  refine kG ?_
  clear kG P
  refine qC fun P kG => ?_
  obtain ⟨n, ms, rfl, rfl, rfl⟩ := nlist_cons hd
  obtain ⟨⟨k1, k2⟩, k3⟩ := g3
  refine kG ?_
  clear kG P
  rw [spell] at g4
  have e16 : ((16 : Nat) : Int) = 16 := rfl
  simp only [g1, g2, qJ, qF, qD, qK, qL, qT, qH, qI, qM, qN, qY, qZ, qE, String.reduceEq, String.reduceBEq, cond_true, cond_false, uH, if_true, if_false, reduceIte, ite_true, ite_false, zA, zB, zC, zD, zE, zF, qP, zG, qQ, zH, zI, zJ, zK, zL, qR, qU, zM, zN, qO, zO, zP, zQ, zR, zS, zT, qV, zU, zV, zW, zX, zY, qW, zZ, jA, jB, jR, jQ, jS, jC, jD, jE, jF, qX, jG, jH, qS, uA, uB, uC, uD, uE, uF, uG, fdivNat, ← e16, fmodNat]
  have hu0 : (u : Int) ≠ 0 := by exact Int.ofNat_ne_zero.mpr (Nat.ne_of_gt ‹_›)
  refine ⟨⟨hu0, by exact Nat.le_trans ‹_› (Nat.le_add_left _ _)⟩, ⟨by simp, by exact Nat.le_add_left _ _⟩, ⟨hu0, by lia⟩, by exact (fun q0 => (jY [] (.i 1 (.c (.n 16)) (.n 0) .z) rfl (Int.le_of_eq q0))), by rw [sizeLine_eq]; exact Nat.le_add_left _ _, trivial, ?_⟩
  generalize n / u / 16 = sz at k1 k2 k3 g4
  generalize n / u % 16 = bk at k1 k3 g4
  have eb : (bk : Int) + 1 = ((bk + 1 : Nat) : Int) := by exact Int.natCast_add _ _
  have eif : (if (false != decide ((sz : Int) = 0)) = true then S ((ABC.take (bk + 1)).drop bk) else Str.empty) = S (if sz = 0 then (ABC.take (bk + 1)).drop bk else []) := by
   by_cases h : sz = 0
   ·subst h; simp
   ·rw [if_neg h, if_neg (by simp; assumption)]; rfl
  rw [eb, S_slice, eif, S_app]
  have hab : ((ABC.take (bk + 1)).drop bk).length ≤ 3 := by rw [List.length_drop, List.length_take]; simp [ABC]; exact (qA [_,_] 1 (.v 0) (.a (.n 3) (.v 1)) (.c 1 (.v 0) (.a (.v 1) (.n 1)) .z) rfl (Nat.min_le_left _ _))
  have h0 : (if sz = 0 then (ABC.take (bk + 1)).drop bk else []).length ≤ 3 := by split; exact hab; simp
  refine ⟨trivial, by rw [jN, sizeLine_eq]; simp [ABC], by rw [jN, sizeLine_eq]; exact Nat.le_trans ‹_› (Nat.le_add_left _ _), by rw [jN, jN, sizeLine_eq]; exact (qA [_,_,_] 1 (.a (.v 0) (.v 1)) (.n 16777216) (.c 1 (.v 1) (.n 3) (.c 1 (.a (.v 0) (.v 2)) (.n 10000) .z)) rfl h0 k2), _, iter_n sz (by exact Nat.lt_of_le_of_lt (Nat.le_trans (Nat.le_add_left _ _) ‹_›) (by decide)),
   fun ds η' σ' => ∃ (l : List Nat) (t' : List Nat), ds = nlist l ∧ vget "text" η' = some (.v (.str (S t'))) ∧ vget "unit" η' = some (.v (.int u)) ∧ vget "back" η' = some (.v (.int bk)) ∧ σ' = σ1 ∧ cpy bk l.length t' = spell1 sz bk t ∧ (l = [] ∨ bk ≤ t'.length) ∧ t'.length + l.length ≤ 20000, ?_, ?_, ?_⟩
  ·refine ⟨List.range sz, t ++ (if sz = 0 then (ABC.take (bk + 1)).drop bk else []), rfl, ?_, ?_, ?_, rfl, ?_, ?_, ?_⟩
   ·kernel_rfl
   ·exact Eq.trans (by kernel_rfl) g2
   ·kernel_rfl
   ·rw [List.length_range]; rfl
   ·rcases k1 with k1 | k1
    ·exact .inl (by rw [k1]; rfl)
    ·exact .inr (by rw [List.length_append]; exact Nat.le_trans ‹_› (Nat.le_add_right _ _))
   ·rw [List.length_range, List.length_append]; exact (qA [_,_,_] 1 (.a (.a (.v 0) (.v 1)) (.v 2)) (.n 20000) (.c 1 (.v 1) (.n 3) (.c 1 (.a (.v 0) (.v 2)) (.n 10000) .z)) rfl h0 k2)
  ·intro d ds η2 σ2 hI0
   refine qC fun P kG => ?_
   obtain ⟨l, t', hd2, f1, f2, f3, rfl, f4, f5, f6⟩ := hI0
   refine kG ?_
   clear kG P
   refine qC fun P kG => ?_
   obtain ⟨n2, l, rfl, rfl, rfl⟩ := nlist_cons hd2
   refine kG ?_
   clear kG P
   have hbk : bk ≤ t'.length := f5.resolve_left (by simp)
   rw [List.length_cons] at f4 f6
   have e1 : (t'.length : Int) - (bk : Int) = ((t'.length - bk : Nat) : Int) := by exact (Int.ofNat_sub ‹_›).symm
   have e2 : ((t'.length - bk : Nat) : Int) + 1 = ((t'.length - bk + 1 : Nat) : Int) := by exact Int.natCast_add _ _
   simp only [f1, f3, qJ, qF, qD, qK, qL, qT, qH, qI, qM, qN, qY, qZ, qE, String.reduceEq, String.reduceBEq, cond_true, cond_false, uH, if_true, if_false, reduceIte, ite_true, ite_false, zA, zB, zC, zD, zE, zF, qP, zG, qQ, zH, zI, zJ, zK, zL, qR, qU, zM, zN, qO, zO, zP, zQ, zR, zS, zT, qV, zU, zV, zW, zX, zY, qW, zZ, jA, jB, jR, jQ, jS, jC, jD, jE, jF, qX, jG, jH, qS, uA, uB, uC, uD, uE, uF, uG, jN, e1, e2, S_slice]
   refine ⟨by exact Nat.lt_of_le_of_lt (Nat.le_trans (Nat.le_add_right _ _) ‹_›) (by decide), by exact (qA [_,_] 1 (.a (.v 0) (.n 1)) (.n 4611686018427387904) (.c 1 (.a (.v 0) (.a (.v 1) (.n 1))) (.n 20000) .z) rfl f6), trivial, by rw [sizeLine_eq]; exact Nat.le_trans (Nat.le_trans (Nat.le_add_right _ _) ‹_›) (by decide), ?_, _, VLe.refl _, l, _, rfl, ?_, ?_, ?_, trivial, f4, ?_, ?_⟩
   ·rw [List.length_drop, List.length_take, sizeLine_eq]; exact (qA [_,_,_,_] 1 (.a (.v 0) (.v 1)) (.n 16777216) (.c 1 (.v 2) (.v 0) (.c 1 (.v 1) (.v 2) (.c 2 (.a (.v 0) (.a (.v 3) (.n 1))) (.n 20000) .z))) rfl (Nat.min_le_right _ _) (Nat.sub_le _ _) f6)
   ·simp only [qJ, qF, qD, qK, qL, qH, qI, qM, qN, qE, String.reduceEq, String.reduceBEq, cond_true, cond_false, reduceIte, if_true, if_false, uA, uB, uC, uD, List.map_cons, List.map_nil, S_app]
   ·exact Eq.trans (by kernel_rfl) f2
   ·exact Eq.trans (by kernel_rfl) f3
   ·right; rw [List.length_append]; exact Nat.le_trans ‹_› (Nat.le_add_right _ _)
   ·rw [List.length_append, List.length_drop, List.length_take]; exact (Or.elim f5 (fun q0 => (Or.elim (Nat.le_total (min (t'.length - bk + 1) t'.length) (t'.length - bk)) (fun q2 => (qA [_,_,_] 1 (.a (.a (.v 0) (.v 1)) (.v 2)) (.n 20000) (.c 1 (.v 1) (.n 0) (.c 1 (.a (.v 0) (.a (.v 2) (.n 1))) (.n 20000) .z)) rfl (subZ (qA [_,_] 1 (.v 0) (.v 1) (.c 1 (.v 0) (.v 1) .z) rfl q2)) f6)) fun q2 => (qA [_,_,_,_,_] 1 (.a (.a (.v 0) (.v 1)) (.v 2)) (.n 20000) (.c 1 (.v 3) (.a (.v 4) (.n 1)) (.c 1 (.a (.v 1) (.v 4)) (.v 3) (.c 1 (.a (.v 0) (.a (.v 2) (.n 1))) (.n 20000) .z))) rfl (Nat.min_le_left _ _) (jL (qA [_,_] 1 (.v 0) (.v 1) (.c 1 (.v 0) (.v 1) .z) rfl q2)) f6))) fun q0 => (Or.elim (Nat.le_total (min (t'.length - bk + 1) t'.length) (t'.length - bk)) (fun q4 => (qA [_,_,_] 1 (.a (.a (.v 0) (.v 1)) (.v 2)) (.n 20000) (.c 1 (.v 1) (.n 0) (.c 1 (.a (.v 0) (.a (.v 2) (.n 1))) (.n 20000) .z)) rfl (subZ (qA [_,_] 1 (.v 0) (.v 1) (.c 1 (.v 0) (.v 1) .z) rfl q4)) f6)) fun q4 => (qA [_,_,_,_,_] 1 (.a (.a (.v 0) (.v 1)) (.v 2)) (.n 20000) (.c 1 (.v 3) (.a (.v 4) (.n 1)) (.c 1 (.a (.v 1) (.v 4)) (.v 3) (.c 1 (.a (.v 0) (.a (.v 2) (.n 1))) (.n 20000) .z))) rfl (Nat.min_le_left _ _) (jL (qA [_,_] 1 (.v 0) (.v 1) (.c 1 (.v 0) (.v 1) .z) rfl q4)) f6)))
  ·intro η2 σ2 hI0
   refine qC fun P kG => ?_
   obtain ⟨l, t', hd2, f1, f2, f3, rfl, f4, f5, f6⟩ := hI0
   refine kG ?_
   clear kG P
   have hl : l = [] := by cases l with | nil => rfl | cons a b => cases hd2
   subst hl
   refine ⟨_, VLe.refl _, ms, t', rfl, f1, f2, rfl, ?_, ?_⟩
   ·rw [show t' = spell1 sz bk t from f4]; exact k3
   ·rw [show t' = spell1 sz bk t from f4]; exact g4
 ·intro η1 σ1 hI0
  refine qC fun P kG => ?_
  obtain ⟨ms, t, hd, g1, g2, rfl, g3, g4⟩ := hI0
  refine kG ?_
  clear kG P
  have hl : ms = [] := by cases ms with | nil => rfl | cons a b => cases hd
  subst hl
  simp only [g1, qJ, qF, qD, qK, qL, qT, qH, qI, qM, qN, qY, qZ, qE, String.reduceEq, String.reduceBEq, cond_true, cond_false, uH, if_true, if_false, reduceIte, ite_true, ite_false, zA, zB, zC, zD, zE, zF, qP, zG, qQ, zH, zI, zJ, zK, zL, qR, qU, zM, zN, qO, zO, zP, zQ, zR, zS, zT, qV, zU, zV, zW, zX, zY, qW, zZ, jA, jB, jR, jQ, jS, jC, jD, jE, jF, qX, jG, jH, qS, uA, uB, uC, uD, uE, uF, uG]
  rw [show t = spell u [] ns from g4]; exact hR
theorem sok_never {c : Cx} {env : Env} {t : Sem Flow} : SOK c env t (fun _ _ _ _ => False) := fun _ _ _ _ _ _ _ _ _ _ h _ _ => h.elim
noncomputable def bsrW : SW := fun η σ _ Rt => ∃ (l : List Nat) (v : Nat), vget "a" η = some (.v (.list (nlist l))) ∧ vget "x" η = some (.v (.int v)) ∧ vget "lo" η = some (.v (.int 0)) ∧ vget "hi" η = some (.v .none) ∧ vget "key" η = some (.v .none) ∧
 l.length < 1000 ∧ l.Pairwise (· < ·) ∧ Rt (.v (.int ((l.filter fun e => decide (e ≤ v)).length : Nat))) σ
theorem bsr_walk {c : Cx} {P : Params} {mg : Str → Option Value} (Y : Yes c P mg) (rm : Room 0 c.A) (L : Addr) (cells : List (Str × Addr)) (hcl : CellsOk (defEnv (kfd P 54) 54 L cells)) :
  SOK c (defEnv (kfd P 54) 54 L cells) (execs (kbody P 54) (defEnv (kfd P 54) 54 L cells)) bsrW := by
 have hh := rm.hd
 have heq := rm.eq
 refine SOK.weak (jK (pS (jW (qB (by kernel_rfl)) jM op_lt jT (by kernel_rfl)) (jK sok_never
 jP) jP)
 (jK (pS (jW (qB (by kernel_rfl)) eok_none op_is jT (by kernel_rfl)) (jK (jZ (by kernel_rfl) (pR Y.G (by kernel_rfl) (Y.none (by kernel_rfl)) pZ (by decide) (by decide) rfl rfl (qG (qB (by kernel_rfl)) jI) kA))
 jP) jP)
 (jK (pS (jW (qB (by kernel_rfl)) eok_none op_is jT (by kernel_rfl)) (jK (sok_while (jW (qB (by kernel_rfl)) (qB (by kernel_rfl)) op_lt jT (by kernel_rfl)) (jK (jZ (by kernel_rfl) (jJ (jJ (qB (by kernel_rfl)) (qB (by kernel_rfl)) jU) jM op_fdiv))
 (jK (pS (jW (qB (by kernel_rfl)) (pI (qB (by kernel_rfl)) (qB (by kernel_rfl))) op_lt jT (by kernel_rfl)) (jK (jZ (by kernel_rfl) (qB (by kernel_rfl)))
 jP) (jK (jZ (by kernel_rfl) (jJ (qB (by kernel_rfl)) jM jU))
 jP))
 jP)))
 jP) (jK (sok_while (jW (qB (by kernel_rfl)) (qB (by kernel_rfl)) op_lt jT (by kernel_rfl)) (jK (jZ (by kernel_rfl) (jJ (jJ (qB (by kernel_rfl)) (qB (by kernel_rfl)) jU) jM op_fdiv))
 (jK sok_never
 jP)))
 jP))
 (jK (pC (qB (by kernel_rfl)))
 jP)))) ?_
 intro η σ N Rt h
 dsimp only [wCons, wAsg, wIf, wRet, wBin, wCmp, wPl, wUn, wAnd, wOr, wIfE, wEs, wSl]
 refine qC fun P kG => ?_
 obtain ⟨l, v, h1, h2, h3, h4, h5, hl, hs, hR⟩ := h
 refine kG ?_
 clear kG P
 simp only [h1, h2, h3, h4, h5, qJ, qF, qD, qK, qL, qT, qH, qI, qM, qN, qY, qZ, qE, String.reduceEq, String.reduceBEq, cond_true, cond_false, uH, if_true, if_false, reduceIte, ite_true, ite_false, zA, zB, zC, zD, zE, zF, qP, zG, qQ, zH, zI, zJ, zK, zL, qR, qU, zM, zN, qO, zO, zP, zQ, zR, zS, zT, qV, zU, zV, zW, zX, zY, qW, zZ, jA, jB, jR, jQ, jS, jC, jD, jE, jF, qX, jG, jH, qS, uA, uB, uC, uD, uE, uF, uG]
 have fl : ∀ (l : List Nat) (k : Nat), k ≤ l.length → (∀ (i x : Nat), i < k → l[i]? = some x → x ≤ v) → (∀ (i x : Nat), k ≤ i → l[i]? = some x → v < x) → (l.filter fun e => decide (e ≤ v)).length = k := by
  intro l
  induction l with
  | nil => intro k hk _ _; simp at hk; simp [hk]
  | cons a r ih =>
   intro k hk hlo hhi
   cases k with
   | zero =>
    have ha := hhi 0 a (Nat.le_refl _) rfl
    rw [List.filter_cons, if_neg (by simp; assumption)]
    exact ih 0 (Nat.zero_le _) (fun i x h _ => absurd h (Nat.not_lt_zero _)) fun i x _ hx => hhi (i + 1) x (Nat.zero_le _) (by simpa using hx)
   | succ k =>
    have ha := hlo 0 a (Nat.zero_lt_succ _) rfl
    rw [List.filter_cons, if_pos (by simpa using ha), List.length_cons]
    rw [ih k (by simpa using hk) (fun i x h hx => hlo (i + 1) x (by exact Nat.add_lt_add_right ‹_› _) (by simpa using hx)) fun i x h hx => hhi (i + 1) x (by exact Nat.lt_succ_of_le ‹_›) (by simpa using hx)]
 have mono : ∀ (i j x y : Nat), i ≤ j → l[i]? = some x → l[j]? = some y → x ≤ y := fun i j x y hij hx hy => by
  refine qC fun P kG => ?_
  obtain ⟨hi, rfl⟩ := List.getElem?_eq_some_iff.mp hx
  obtain ⟨hj, rfl⟩ := List.getElem?_eq_some_iff.mp hy
  refine kG ?_
  clear kG P
  rcases Nat.lt_or_ge i j with q | q
  ·exact Nat.le_of_lt (List.pairwise_iff_getElem.mp hs i j hi hj q)
  ·have : i = j := by exact Nat.le_antisymm ‹_› ‹_›
   subst this; exact Nat.le_refl _
 refine ⟨fun q => by simp at q, fun _ => ⟨fun _ => ⟨by rw [kD]; exact Nat.lt_of_lt_of_le ‹_› (by decide), fun _ => ?_, fun q => by simp at q⟩, fun q => by simp at q⟩⟩
 refine ⟨l.length, fun n η' σ' => ∃ lo hi : Nat, n = hi - lo ∧ lo ≤ hi ∧ hi ≤ l.length ∧ vget "a" η' = some (.v (.list (nlist l))) ∧ vget "x" η' = some (.v (.int v)) ∧ vget "lo" η' = some (.v (.int lo)) ∧ vget "hi" η' = some (.v (.int hi)) ∧ σ' = σ ∧
  (∀ (i x : Nat), i < lo → l[i]? = some x → x ≤ v) ∧ (∀ (i x : Nat), hi ≤ i → l[i]? = some x → v < x), ?_, ?_⟩
 ·refine ⟨0, l.length, rfl, Nat.zero_le _, Nat.le_refl _, ?_, ?_, ?_, ?_, rfl, fun i x h _ => absurd h (Nat.not_lt_zero _), fun i x h hx => ?_⟩
  ·exact Eq.trans (by kernel_rfl) h1
  ·exact Eq.trans (by kernel_rfl) h2
  ·simp only [h3, qJ, qF, qD, qK, qL, qT, qH, qI, qM, qN, qY, qZ, qE, String.reduceEq, String.reduceBEq, cond_true, cond_false, uH, if_true, if_false, reduceIte, ite_true, ite_false, zA, zB, zC, zD, zE, zF, qP, zG, qQ, zH, zI, zJ, zK, zL, qR, qU, zM, zN, qO, zO, zP, zQ, zR, zS, zT, qV, zU, zV, zW, zX, zY, qW, zZ, jA, jB, jR, jQ, jS, jC, jD, jE, jF, qX, jG, jH, qS, uA, uB, uC, uD, uE, uF, uG]; rfl
  ·simp only [kD, qJ, qF, qD, qK, qL, qH, qI, qM, qN, qE, String.reduceEq, String.reduceBEq, cond_true, cond_false, reduceIte, if_true, if_false, uA, uB, uC, uD, List.map_cons, List.map_nil]
  ·rw [List.getElem?_eq_none h] at hx; cases hx
 ·intro n η1 σ1 hI0
  refine qC fun P kG => ?_
  obtain ⟨lo, hi, rfl, g1, g2, g3, g4, g5, g6, rfl, g7, g8⟩ := hI0
  refine kG ?_
  clear kG P
  have e2 : ((2 : Nat) : Int) = 2 := rfl
  have e1 : (lo : Int) + (hi : Int) = ((lo + hi : Nat) : Int) := by exact Int.natCast_add _ _
  simp only [g3, g4, g5, g6, qJ, qF, qD, qK, qL, qT, qH, qI, qM, qN, qY, qZ, qE, String.reduceEq, String.reduceBEq, cond_true, cond_false, uH, if_true, if_false, reduceIte, ite_true, ite_false, zA, zB, zC, zD, zE, zF, qP, zG, qQ, zH, zI, zJ, zK, zL, qR, qU, zM, zN, qO, zO, zP, zQ, zR, zS, zT, qV, zU, zV, zW, zX, zY, qW, zZ, jA, jB, jR, jQ, jS, jC, jD, jE, jF, qX, jG, jH, qS, uA, uB, uC, uD, uE, uF, uG, ← e2, e1, fdivNat]
  refine ⟨fun q => ?_, fun q => ?_⟩
  ·have hlt : lo < hi := by have := of_decide_eq_true q; exact Int.ofNat_lt.mp ‹_›
   have hm1 : lo ≤ (lo + hi) / 2 := by (clear q hlt; exact (qA [_,_,_,_] 2 (.v 0) (.v 1) (.c 1 (.a (.v 0) (.v 2)) (.a (.m 2 (.v 1)) (.v 3)) (.c 1 (.a (.v 3) (.n 1)) (.n 2) (.c 1 (.v 0) (.v 2) .z))) rfl (modGe (lo + hi) 2) (Nat.mod_lt _ (by decide)) g1))
   have hm2 : (lo + hi) / 2 < hi := by (clear g1 q; exact (qA [_,_,_,_] 2 (.a (.v 0) (.n 1)) (.v 1) (.c 1 (.a (.m 2 (.v 0)) (.v 2)) (.a (.v 3) (.v 1)) (.c 1 (.a (.v 3) (.n 1)) (.v 1) .z)) rfl (modLe (lo + hi) 2) hlt))
   refine ⟨⟨by simp, by decide⟩, _, (lo + hi) / 2, .int (l[(lo + hi) / 2]'(by exact Nat.lt_of_lt_of_le ‹_› ‹_›) : Nat), rfl, by exact ⟨(jO [_] 1 (.g (.n 1000)) (.c (.v 0)) .z rfl ), (jO [_,_,_] 1 (.a (.c (.v 0)) (.n 1)) (.n 1073741824) (.c 1 (.a (.v 0) (.n 1)) (.v 1) (.c 1 (.v 1) (.v 2) (.c 1 (.a (.v 2) (.n 1)) (.n 1000) .z))) rfl hm2 g2 hl)⟩, ?_, ?_, ?_⟩
   ·rw [kD]; exact StrLaws.seqIndex_nonneg (by exact Int.natCast_nonneg _) (by exact (jO [_,_,_] 1 (.a (.c (.v 0)) (.n 1)) (.c (.v 1)) (.c 1 (.a (.v 0) (.n 1)) (.v 2) (.c 1 (.v 2) (.v 1) .z)) rfl hm2 g2))
   ·rw [nlist_get, List.getElem?_eq_getElem (by exact (qA [_,_,_] 1 (.a (.v 0) (.n 1)) (.v 1) (.c 1 (.a (.v 0) (.n 1)) (.v 2) (.c 1 (.v 2) (.v 1) .z)) rfl hm2 g2))]; rfl
   ·have hget : l[(lo + hi) / 2]? = some (l[(lo + hi) / 2]'(by lia)) := List.getElem?_eq_getElem (by lia)
    simp only [qJ, qF, qD, qK, qL, qT, qH, qI, qM, qN, qY, qZ, qE, String.reduceEq, String.reduceBEq, cond_true, cond_false, uH, if_true, if_false, reduceIte, ite_true, ite_false, zA, zB, zC, zD, zE, zF, qP, zG, qQ, zH, zI, zJ, zK, zL, qR, qU, zM, zN, qO, zO, zP, zQ, zR, zS, zT, qV, zU, zV, zW, zX, zY, qW, zZ, jA, jB, jR, jQ, jS, jC, jD, jE, jF, qX, jG, jH, qS, uA, uB, uC, uD, uE, uF, uG]
    refine ⟨fun q2 => ⟨(lo + hi) / 2 - lo, by (clear hlt; exact (qA [_,_,_,_,_] 1 (.a (.v 0) (.n 1)) (.v 1) (.c 1 (.v 2) (.a (.v 1) (.v 3)) (.c 1 (.a (.v 0) (.v 3)) (.v 4) (.c 1 (.a (.v 4) (.n 1)) (.v 2) .z))) rfl (jV _ _) (jL (qA [_,_] 1 (.v 0) (.v 1) (.c 1 (.v 0) (.v 1) .z) rfl hm1)) hm2)), _, VLe.refl _, lo, (lo + hi) / 2, rfl, hm1, by exact (qA [_,_,_] 1 (.v 0) (.v 1) (.c 1 (.a (.v 0) (.n 1)) (.v 2) (.c 1 (.v 2) (.v 1) .z)) rfl hm2 g2), ?_, ?_, ?_, ?_, trivial, g7, fun i x h hx => ?_⟩, fun q2 => ⟨hi - ((lo + hi) / 2 + 1), by (clear hlt; exact (qA [_,_,_,_,_] 1 (.a (.v 0) (.n 1)) (.v 1) (.c 1 (.v 2) (.a (.v 1) (.v 3)) (.c 1 (.a (.v 0) (.a (.v 4) (.n 1))) (.v 2) (.c 1 (.v 3) (.v 4) .z))) rfl (jV _ _) (jL (qA [_,_] 1 (.a (.v 0) (.n 1)) (.v 1) (.c 1 (.a (.v 0) (.n 1)) (.v 1) .z) rfl hm2)) hm1)), _, VLe.refl _, (lo + hi) / 2 + 1, hi, rfl, by assumption, g2, ?_, ?_, ?_, ?_, trivial, fun i x h hx => ?_, g8⟩⟩
    ·exact Eq.trans (by kernel_rfl) g3
    ·exact Eq.trans (by kernel_rfl) g4
    ·exact Eq.trans (by kernel_rfl) g5
    ·kernel_rfl
    ·have := of_decide_eq_true q2
     have := mono _ _ _ _ h hget hx
     (clear q2; lia)
    ·exact Eq.trans (by kernel_rfl) g3
    ·exact Eq.trans (by kernel_rfl) g4
    ·simp only [qJ, qF, qD, qK, qL, qT, qH, qI, qM, qN, qY, qZ, qE, String.reduceEq, String.reduceBEq, cond_true, cond_false, uH, if_true, if_false, reduceIte, ite_true, ite_false, zA, zB, zC, zD, zE, zF, qP, zG, qQ, zH, zI, zJ, zK, zL, qR, qU, zM, zN, qO, zO, zP, zQ, zR, zS, zT, qV, zU, zV, zW, zX, zY, qW, zZ, jA, jB, jR, jQ, jS, jC, jD, jE, jF, qX, jG, jH, qS, uA, uB, uC, uD, uE, uF, uG]; rw [Int.natCast_add]; rfl
    ·exact Eq.trans (by kernel_rfl) g6
    ·have := of_decide_eq_false q2
     have := mono i ((lo + hi) / 2) _ _ (by exact Nat.le_of_lt_succ ‹_›) hx hget
     (clear q2; lia)
  ·have heq : lo = hi := by have := of_decide_eq_false q; (clear q; exact (Nat.le_antisymm (qA [_,_] 1 (.v 0) (.v 1) (.c 1 (.v 0) (.v 1) .z) rfl g1) (qA [_,_] 1 (.v 0) (.v 1) (.i 1 (.c (.v 0)) (.c (.v 1)) .z) rfl (Int.not_lt.mp this))))
   subst heq
   rw [fl l lo g2 g7 g8] at hR
   exact hR
set_option tactic.hygienic true
theorem ns_some_of {K : Frag} {h : Heap} {N : Addr} {mg : Str → Option Value} {n : Str} {v : Value} (X : K.In h) (G : h.Ns N mg) (e : nsIn K N n = some (some v)) : mg n = some v := by
 refine qC fun P kG => ?_
 obtain ⟨o, es, ep, ho, hd, _, hf⟩ := G
 refine kG ?_
 clear kG P
 unfold nsIn at e
 split at e
 ·rename_i c d es' n' sl q
  have := X _ _ q
  rw [ho] at this
  cases this
  cases hd
  split at e
  ·rename_i x he
   cases e
   rw [← hf]
   unfold nsFind findBy
   rw [← Array.find?_toList, he]
   rfl
  ·split at e <;> cases e
 ·cases e
theorem eok_fnB {c : Cx} {env : Env} {P : Params} {mg : Str → Option Value} (Y : Yes c P mg) {f : Str} {p pos : Pos} {args : List Expr} {t : Sem Value} {ts : List (Bool × Sem Value)} {a : Addr} {W : LW} {WB : SW} (hroom : c.A.depth < recursionLimit) (hk : env.kindOf f = some .globalImplicit)
  (hm : nsIn (hd.heap_1 P) mainGlobals f = some (some (.ref a))) (hok : kok P a = true) (hd : (f == ("__debug__" : Str)) = false) (ht : backTo pos (starEach args env) = (false, t) :: ts) (hs : EsOK c env ((false, t) :: ts) W)
  (bind : List XV → Option (List (String × XV)))
  (hbind : ∀ F ρ (s : Shared) σ vs xs bx, SRel c.base c.C F ρ s.heap σ → XRs F ρ vs xs → bind xs = some bx → ∃ bs : List (Str × Value), BindsTo s (kfd P a) ⟨vs, []⟩ bs ∧ bs.map (·.1) = bx.map (fun n => (n.1 : Str)) ∧ XRs F ρ (bs.map (·.2)) (bx.map (·.2)))
  (hnm : ∀ xs bx, bind xs = some bx → (bx.all fun n => lc (kfd P a).scope n.1) = true)
  (hb : ∀ L cells, CellsOk (defEnv (kfd P a) a L cells) → SOK { c with A := c.A.deeper (defEnv (kfd P a) a L cells) } (defEnv (kfd P a) a L cells) (execs (kbody P a) (defEnv (kfd P a) a L cells)) WB) :
  EOK c env (eval (.Call (.Name f p) args [] pos) env) (fun η σ Q => W η σ fun xs σ1 => ∃ bx, bind xs = some bx ∧ WB (vsetX (bx.map (·.1)) (bx.map (·.2)) []) σ1 (fun _ σ' => RetP σ1 (.v .none) σ' Q) (fun x σ' => RetP σ1 x σ' Q)) := by
 intro E K F ρ η σ s Q R hW hK
 have D := Y.fd hok
 obtain ⟨o, ho, hfd⟩ := D.obj
 refine wpAny_Call_NameR (vF Y.G R hk (Y.some hm) hd ?_)
 rw [ht]
 refine callWith_function (o := o) (fd := kfd P a) (kJ (hs E _ F ρ η σ s _ R hW fun vs xs F1 ρ1 σ1 hp1 t1 X1 S1 hW1 => ⟨⟨S1.sto.old _ _ ho, hfd⟩, ?_⟩))
 exact op_def D hroom [] bind hbind (fun xs bx e n hn => pM (List.all_eq_true.mp (hnm xs bx e) n hn)) hb (env := env) (η := η) (σ := σ1) (s := { s with heap := hp1, toks := t1 }) (R.step S1) X1 hW1 fun v x F2 ρ2 σ2 h2 t2 X2 S2 hQ => hK v x F2 ρ2 σ2 h2 t2 X2 (S1.trans S2) hQ
noncomputable def bsrBind (xs : List XV) : Option (List (String × XV)) := u1 (fun a => u1 fun x => u0 (some [("a", a), ("x", x), ("lo", .v (.int 0)), ("hi", .v .none), ("key", .v .none)])) xs
theorem bsr_bind {c : Cx} {P : Params} {mg : Str → Option Value} (Y : Yes c P mg) (F : Fz) (ρ : Pl) (s : Shared) (σ : Sto) (vs : List Value) (xs : List XV) (bx : List (String × XV)) (S0 : SRel c.base c.C F ρ s.heap σ) (X : XRs F ρ vs xs) (e : bsrBind xs = some bx) :
  ∃ bs : List (Str × Value), BindsTo s (kfd P 54) ⟨vs, []⟩ bs ∧ bs.map (·.1) = bx.map (fun n => (n.1 : Str)) ∧ XRs F ρ (bs.map (·.2)) (bx.map (·.2)) := by
 have X0 : (hd.heap_1 P).In s.heap := Y.K.keeps S0.old
 have hN : s.heap.Ns 47 (s.heap.nsMap 47) := .of_isNs (isNs_of_in X0 (by kernel_rfl))
 have hkey : s.heap.nsMap 47 "key" = some .none := ns_some_of X0 hN (by kernel_rfl)
 obtain ⟨t0, ht0⟩ : ∃ t0 : Tok, (hd.heap_1 P).lookup 46 = some { cls := .type "tuple", data := .seq #[.int 0 t0, .none] 0 } := ⟨_, rfl⟩
 have hB : ∀ v u : Value, BindsTo s (kfd P 54) ⟨[v, u], []⟩ [("a", v), ("x", u), ("lo", .int 0 t0), ("hi", .none), ("key", .none)] := by
  intro v u M A E Q hq
  have hd : (kfd P 54).defaults = .ref 46 := by kernel_rfl
  refine (show wpAny M A (seqItems? (kfd P 54).defaults >>= _) Q E s from ?_)
  rw [hd]
  refine wpAny_bind (wpAny_seqItems (X0 _ _ ht0) rfl ?_)
  refine (show wpAny M A ((((nsGet 47 "key") >>= fun x => _) >>= fun x => _) >>= fun x => _) Q E s from ?_)
  refine wpAny_bind (wpAny_bind (wpAny_bind (wpAny_nsGet hN ?_)))
  rw [hkey]
  refine (show wpAny M A (pure _) _ E s from wpAny_pure ?_)
  refine (show wpAny M A (pure _) _ E s from wpAny_pure ?_)
  exact (show wpAny M A (pure _) _ E s from wpAny_pure hq)
 exact X.b1 (show u1 _ xs = some bx from e) fun v _ _ _ X1 X e => X.b1 e fun u _ _ _ X2 X e => X.b0 e fun e => Option.some.inj e ▸ ⟨_, hB v u, rfl, .cons X1 (.cons X2 (.cons (.v (.int 0 t0)) (.cons (.v .none) (.cons (.v .none) .nil))))⟩
set_option tactic.hygienic false
noncomputable def thaw (cs : List Addr) (F : Fz) : Fz := fun a => if a ∈ cs then none else F a
noncomputable def ice (cs : List Addr) (h : Heap) (F : Fz) : Fz := fun a => if a ∈ cs then h.get? a else F a
noncomputable def SubC (F F' : Fz) : Prop := ∀ a o, F a = some o → (∀ v, o.data ≠ .cell v) → F' a = some o
mutual
theorem VR.sub {F F' : Fz} (hs : SubC F F') : ∀ {v d}, VR F v d → VR F' v d
 | _, _, .none => .none
 | _, _, .bool b => .bool b
 | _, _, .int i t => .int i t
 | _, _, .str x t => .str x t
 | _, _, .list e c d r => .list (hs _ _ e (fun v q => by rw [d] at q; cases q)) c d (VRs.sub hs r)
 | _, _, .tuple e c d r => .tuple (hs _ _ e (fun v q => by rw [d] at q; cases q)) c d (VRs.sub hs r)
theorem VRs.sub {F F' : Fz} (hs : SubC F F') : ∀ {v d}, VRs F v d → VRs F' v d
 | _, _, .nil => .nil
 | _, _, .cons a b => .cons (VR.sub hs a) (VRs.sub hs b)
end
theorem CodeF.sub {F F' : Fz} (hs : SubC F F') {a q} (x : CodeF F a q) : CodeF F' a q := let ⟨o, vs, t, e, d, r⟩ := x; ⟨o, vs, t, hs _ _ e (fun v q => by rw [d] at q; cases q), d, r⟩
theorem TabR.sub {F F' : Fz} (hs : SubC F F') : ∀ {vs qs}, TabR F vs qs → TabR F' vs qs
 | _, _, .nil => .nil
 | _, _, .cons a b => .cons (a.sub hs) (TabR.sub hs b)
theorem MRel.sub {C : Addr} {F F' : Fz} {h : Heap} (hs : SubC F F') {p : Addr × Addr} {m : MO} (r : MRel C F h p m) : MRel C F' h p m := by
 cases m with
 | list xs => obtain ⟨e, vs, a, b⟩ := r; exact ⟨e, vs, a, b.sub hs⟩
 | hdr xs =>
  refine qC fun P kG => ?_
  refine dAEA r fun hN1 vs a b => ?_
  obtain ⟨d, sl, es, n, b1, b2, b3, b4⟩ := hN1
  refine kG ?_
  clear kG P
  exact ⟨⟨d, sl, es, n, hs _ _ b1 (fun v q => by cases q), hs _ _ b2 (fun v q => by cases q), b3, b4⟩, vs, a, b.sub hs⟩
 | tab P qs => obtain ⟨ps, a, b, e⟩ := r; exact ⟨ps, a, b.sub hs, e⟩
 | it xs => obtain ⟨q, l, i, o, vs, n, a, b1, b2, b3, b4⟩ := r; exact ⟨q, l, i, o, vs, n, a, hs _ _ b1 (fun v q => by rw [b3] at q; cases q), b2, b3, b4.sub hs⟩
 | dead => obtain ⟨o, a, b⟩ := r; exact ⟨o, hs _ _ a b, b⟩
section
variable {base : Heap} {C : Addr} {F F' : Fz} {ρ ρ' : Pl} {h h' : Heap} {σ σ' : Sto} {cs : List Addr}
structure Cs (base : Heap) (F : Fz) (cs : List Addr) : Prop where
 new : ∀ c ∈ cs, base.get? c = none
 cell : ∀ c ∈ cs, ∃ o v, F c = some o ∧ o.data = .cell v
theorem Cs.sub (x : Cs base F cs) : SubC F (thaw cs F) := fun a o e hn => by
 unfold thaw; rw [if_neg]; · exact e
 intro hm
 refine dEEA (x.cell a hm) fun o' v e' d => ?_
 rw [e] at e'; cases e'; exact hn v d
theorem thaw_le : FLe (thaw cs F) F := fun a o e => by
 unfold thaw at e; split at e
 ·cases e
 ·exact e
theorem Cs.apart (x : Cs base F cs) (S : SRel base C F ρ h σ) {c : Addr} (hc : c ∈ cs) : ¬ Mut ρ c := by
 rintro ⟨p, hp, e⟩
 refine dEEA (x.cell c hc) fun o v e1 d => ?_
 refine dEEAA (S.nth hp) fun i m h1 h2 r => ?_
 by_cases hl : m.live = true
 ·have q := S.out i p _ h1 h2 hl
  rw [e, e1] at q; cases q
 ·refine dEA (r.dead_at hl) fun o' r1 r2 => ?_
  rw [e, e1] at r1; cases r1; exact r2 v d
theorem Cs.thaw (x : Cs base F cs) (S : SRel base C F ρ h σ) : SRel base C (thaw cs F) ρ h σ where
 inn := fun a o e => S.inn a o (thaw_le a o e)
 base := fun a o e => by
  unfold Mine.thaw; rw [if_neg]
  ·exact S.base a o e
  ·intro hm; rw [x.new a hm] at e; cases e
 len := S.len
 obj := fun i p m h1 h2 => (S.obj i p m h1 h2).sub x.sub
 nd := S.nd
 out := fun i p m h1 h2 hl => by
  cases q : Mine.thaw cs F p.2 with
  | none => rfl
  | some o => have := thaw_le _ _ q; rw [S.out i p m h1 h2 hl] at this; cases this
theorem ice_le (i : FIn F h) : FLe F (ice cs h F) := fun a o e => by
 unfold ice; split
 ·exact i a o e
 ·exact e
theorem ice_in (i : FIn F h) : FIn (ice cs h F) h := fun a o e => by
 unfold ice at e; split at e
 ·exact e
 ·exact i a o e
theorem SRel.ice (S : SRel base C F ρ h σ) (hc : ∀ c ∈ cs, ¬ Mut ρ c) : SRel base C (ice cs h F) ρ h σ :=
 S.extL (ice_le S.inn) (ice_in S.inn) (fun _ _ => rfl) fun p hp e => by
  unfold Mine.ice; rw [if_neg fun hm => hc _ hm ⟨p, hp, rfl⟩]; exact e
theorem Cs.step (x : Cs base F cs) (S0 : SRel base C F ρ h σ) (S : Step base C (Mine.thaw cs F) ρ h F' ρ' h' σ') : Step base C F ρ h (Mine.ice cs h' F') ρ' h' σ' ∧ FLe F' (Mine.ice cs h' F') := by
 have stay : ∀ c ∈ cs, ∀ o, F c = some o → h'.get? c = some o := fun c hc o e => by
  refine dEEA (x.cell c hc) fun o' v e1 d => ?_
  rw [e] at e1; cases e1
  rcases S.evo.keep c o (S0.inn _ _ e) (x.apart S0 hc) with k | ⟨⟨es, n, q⟩, _⟩
  ·exact k
  ·rw [d] at q; cases q
 have mu : ∀ c ∈ cs, ¬ Mut ρ' c := fun c hc ⟨p, hp, e⟩ => by
  rcases S.new p hp with q | q
  ·exact x.apart S0 hc ⟨p, q, e⟩
  ·refine dEEA (x.cell c hc) fun o v e1 d => ?_
   have := S0.inn _ _ e1
   rw [← e, q] at this; cases this
 refine ⟨⟨⟨fun a o e => ?_, ice_in S.evo.inn, fun a o e => ?_, S.evo.keep⟩, S.pre, S.new, S.sto.ice mu⟩, ice_le S.evo.inn⟩
 ·unfold Mine.ice
  split
  ·rename_i hm; exact stay a hm o e
  ·rename_i hm; refine S.evo.le a o ?_; unfold Mine.thaw; rw [if_neg hm]; exact e
 ·unfold Mine.ice at e
  split at e
  ·rename_i hm
   refine dEEA (x.cell a hm) fun o' v e1 d => ?_
   have := stay a hm o' e1
   rw [e] at this; cases this; exact .inl e1
  ·rcases S.evo.fresh a o e with q | q | q
   ·exact .inl (thaw_le _ _ q)
   ·exact .inr (.inl q)
   ·exact .inr (.inr q)
end
inductive CloL (F : Fz) : List (Str × Addr) → List (String × PyData) → Prop
 | nil : CloL F [] []
 | cons {x : String} {a o v d cl ds} : F a = some o → o.data = .cell (some v) → VR F v d → CloL F cl ds → CloL F (((x : Str), a) :: cl) ((x, d) :: ds)
theorem CloL.mono {F F' : Fz} (hF : FLe F F') : ∀ {cl ds}, CloL F cl ds → CloL F' cl ds
 | _, _, .nil => .nil
 | _, _, .cons a b c r => .cons (hF _ _ a) b (c.mono hF) (CloL.mono hF r)
noncomputable abbrev dsV (ds : List (String × PyData)) : Vars := ds.map fun q => (q.1, XV.v q.2)
theorem CloL.cell {F : Fz} : ∀ {cl ds}, CloL F cl ds → ∀ q ∈ cl, ∃ o v, F q.2 = some o ∧ o.data = .cell v
 | _, _, .nil, q, h => nomatch h
 | _, _, .cons a b c r, q, h => by
  rcases List.mem_cons.mp h with rfl | h
  ·exact ⟨_, _, a, b⟩
  ·exact CloL.cell r q h
theorem CloL.get {F : Fz} {x : Str} : ∀ {cl ds}, CloL F cl ds → (∀ c, cl.lookup x = some c → ∃ o v d, F c = some o ∧ o.data = .cell (some v) ∧ VR F v d ∧ ∀ z : String, x = z → vget z (dsV ds) = some (.v d)) ∧ (cl.lookup x = none → ∀ z : String, x = z → vget z (dsV ds) = none)
 | _, _, .nil => ⟨fun c e => (nomatch e), fun _ _ _ => rfl⟩
 | _, _, .cons (x := y) (a := a) (o := o) (v := v) (d := d) (cl := cl) (ds := ds) e1 e2 e3 r => by
  have ih := CloL.get (x := x) r
  rw [List.lookup_cons]
  unfold dsV
  rw [List.map_cons]
  by_cases hx : x = (y : Str)
  ·subst hx
   rw [beq_self_eq_true]
   refine ⟨fun c e => ?_, fun e => nomatch e⟩
   cases e
   refine ⟨o, v, d, e1, e2, e3, fun z q => ?_⟩
   rw [show z = y from ((qE y z).mp q).symm]
   exact vget_hit
  ·rw [show (x == (y : Str)) = false by simpa using hx]
   refine ⟨fun c e => ?_, fun e z q => (kS fun q2 => hx (q.trans (congrArg Str.ofString q2))).trans (ih.2 e z q)⟩
   refine dEEEAAA (ih.1 c e) fun o' v' d' f1 f2 f3 f4 => ?_
   exact ⟨o', v', d', f1, f2, f3, fun z q => (kS fun q2 => hx (q.trans (congrArg Str.ofString q2))).trans (f4 z q)⟩
structure Clo (fd : FuncData) (ds : List (String × PyData)) (F : Fz) (a : Addr) : Prop where
 obj : ∃ o, F a = some o ∧ o.data = .func fd
 code : ∃ k, fd.code = .ref k ∧ CodeF F k fd.qualname
 clo : CloL F fd.closure ds
noncomputable def CloP (fd : FuncData) (ds : List (String × PyData)) : PF where
 P := Clo fd ds
 mono := fun _ _ _ hF x => ⟨let ⟨o, e, d⟩ := x.obj; ⟨o, hF _ _ e, d⟩, let ⟨k, e, d⟩ := x.code; ⟨k, e, d.mono hF⟩, x.clo.mono hF⟩
structure LamOK (base : Heap) (fd : FuncData) (scope : Scope) (p : Str) (body : Expr) : Prop where
 sc : fd.scope = scope
 body : fd.body = .expr body
 glob : fd.globals = mainGlobals
 blt : fd.builtins = builtinsNs
 co : scope.isCoroutine = false
 gen : scope.isGenerator = false
 kind : scope.kind = .function
 cell : ∀ x ∈ scope.names, x.2 ≠ .cell
 loc : scope.names.lookup p = some .local
 bind : ∀ v, bindArgs fd ⟨[v], []⟩ = pure [(p, v)]
 free : ∀ x, scope.names.lookup x = some .free ↔ ∃ a, fd.closure.lookup x = some a
 inj : ∀ x y a, fd.closure.lookup x = some a → fd.closure.lookup y = some a → x = y
 fresh : ∀ q ∈ fd.closure, base.get? q.2 = none
section
variable {c : Cx} {env : Env}
theorem eok_key {P : Params} {mg : Str → Option Value} (Y : Yes c P mg) {f : String} {p pos : Pos} {args : List Expr} {t : Sem Value} {Wa : EW} {WB : EW} {scope : Scope} {prm : String} {body : Expr} (hroom : c.A.depth < recursionLimit) (hk : varNm env f = true)
  (ht : backTo pos (starEach args env) = [(false, t)]) (ha : EOK c env t Wa)
  (hb : ∀ cn L a ccd cl, EOK { c with A := c.A.deeper (envX cn scope L a ccd cl) } (envX cn scope L a ccd cl) (eval body (envX cn scope L a ccd cl)) WB) :
  EOK c env (eval (.Call (.Name f p) args [] pos) env) (fun η σ Q => ∃ fd ds, vget f η = some (.pr (CloP fd ds)) ∧ LamOK c.base fd scope prm body ∧ Wa η σ fun x σ1 => ∃ d, x = .v d ∧ WB ((prm, .v d) :: dsV ds) σ1 Q) := by
 intro E K F ρ η σ s Q R hW hK
 refine dEEAA hW fun fd ds h1 D hW => ?_
 refine dAA (kQ hk) fun k1 k2 k3 => ?_
 refine wpAny_Call_NameR (wpAny_Name (R.lookup h1 k1 k2 fun v X => ?_) k3)
 refine X.eP fun a X => ?_
 ·refine dEA X.obj fun o ho hfd => ?_
  rw [ht]
  refine callWith_function (o := o) (fd := fd) (kJ (spliced_cons (ha E _ F ρ η σ s _ R hW fun v x F1 ρ1 σ1 hp1 t1 X1 S1 hW1 => spliced_nil ⟨⟨S1.evo.inn _ _ (S1.evo.le _ _ ho), hfd⟩, ?_⟩)))
  refine qC fun P kG => ?_
  obtain ⟨dx, rfl, hW1⟩ := hW1
  refine kG ?_
  clear kG P
  have X' : Clo fd ds F1 a := (CloP fd ds).mono _ _ _ S1.evo.le X
  have cs : Cs c.base F1 (fd.closure.map (·.2)) := ⟨fun b hb => by
   obtain ⟨q, hq, rfl⟩ := List.mem_map.mp hb; exact D.fresh q hq, fun b hb => by
   obtain ⟨q, hq, rfl⟩ := List.mem_map.mp hb; exact X'.clo.cell q hq⟩
  have St := cs.thaw S1.sto
  refine qC fun P kG => ?_
  obtain ⟨k, hk1, oc, vs, tt, q1, q2, q3⟩ := X'.code
  refine kG ?_
  clear kG P
  refine wpAny_call (kla_callFunE hroom (S1.sto.inn _ _ (S1.evo.le _ _ ho)) hfd (by rw [D.sc]; exact D.co) (by rw [D.sc]; exact D.gen) D.body ⟨k, oc, vs, tt, hk1, S1.sto.inn _ _ q1, q2, q3⟩ ?_)
  rw [show (⟨[] ++ [v], []⟩ : Args) = ⟨[v], []⟩ from rfl, D.bind]
  rw [D.sc, D.glob, D.blt]
  refine wpAny_pure (wpAny_newFunctionEnv D.cell (fun x hx => ?_) (fun h2 hns hsb => ?_) D.kind)
  ·rw [List.mem_singleton] at hx; subst hx; exact D.loc
  have hk2 : Ext hp1 h2 := fun b o e => hsb.extBut b o (Nat.ne_of_lt (Heap.lt_size e)) (Heap.get?_push_of_some _ e)
  have Sx := Step.ext0 St hk2
  have hLn : thaw (fd.closure.map (·.2)) F1 hp1.objs.size = none := St.fresh (get?_size _)
  have ldef : ∀ x, (envX fd.qualname scope hp1.objs.size a fd.code fd.closure).kindOf x = scope.names.lookup x := fun x => rfl
  have nc : ∀ x, scope.names.lookup x ≠ some .cell := fun x e => D.cell _ (mem_of_lookup e) rfl
  have R2 : Rel c.base c.C (envX fd.qualname scope hp1.objs.size a fd.code fd.closure) (thaw (fd.closure.map (·.2)) F1) ρ1 h2 ((prm, .v dx) :: dsV ds) σ1 := by
   refine ⟨Sx.sto, D.kind, rfl, rfl, ⟨_, hns, fun y xv hy hv => ?_⟩, hLn, fun y hy => ?_, fun y b hy hb => ?_, fun x y b h1 h2 => D.inj x y b h1 h2⟩
   ·rw [ldef] at hy
    rcases kH hv with ⟨rfl, rfl⟩ | ⟨_, hv⟩
    ·refine ⟨v, by show List.lookup _ [_] = _; rw [List.lookup_cons, beq_self_eq_true], ?_⟩
     exact .v (X1.eV.sub cs.sub)
    ·exfalso
     cases hl : fd.closure.lookup (y : Str) with
     | none => rw [X'.clo.get.2 hl y rfl] at hv; cases hv
     | some b =>
      have := (D.free y).mpr ⟨b, hl⟩
      rw [hy] at this; cases this
   ·unfold celled at hy
    rw [ldef] at hy
    rcases hy with hy | hy
    ·exact absurd hy (nc y)
    ·exact (D.free y).mp hy
   ·refine qC fun P kG => ?_
    obtain ⟨o', v', d, e1, e2, e3, e4⟩ := X'.clo.get.1 b hb
    refine kG ?_
    clear kG P
    refine ⟨some v', ⟨o', hk2 _ _ (S1.sto.inn _ _ e1), e2⟩, ?_, fun z xv ez hv => ?_⟩
    ·unfold thaw; rw [if_pos (List.mem_map.mpr ⟨(y, b), mem_of_lookup hb, rfl⟩)]
    ·refine ⟨v', rfl, ?_⟩
     rcases kH hv with ⟨rfl, rfl⟩ | ⟨_, hv⟩
     ·have := (D.free y).mpr ⟨b, hb⟩
      rw [ez, D.loc] at this; cases this
     ·rw [e4 z ez] at hv; cases hv; exact .v (e3.sub cs.sub)
  refine ⟨Y.G.lim.keeps Sx.sto.old, kla_codeExpr (hb fd.qualname hp1.objs.size a fd.code fd.closure _ _ _ _ _ _ { s with heap := h2, toks := t1 + 1 } Q R2 hW1 fun v3 x3 F3 ρ3 σ3 h3 t3 X3 S3 hQ => ?_)⟩
  refine qC fun P kG => ?_
  obtain ⟨S4, le4⟩ := cs.step S1.sto (Sx.trans S3)
  refine kG ?_
  clear kG P
  exact hK v3 x3 _ ρ3 σ3 h3 t3 (X3.mono le4 (List.prefix_refl _)) (S1.trans S4) hQ
end
set_option tactic.hygienic true
noncomputable def bslW (base : Heap) (scope : Scope) (prm : String) (body : Expr) (WB : EW) : SW := fun η σ _ Rt => ∃ (l : List Nat) (f : Nat → Bool) (lo hi m : Nat) (fd : FuncData) (ds : List (String × PyData)),
 vget "a" η = some (.v (.list (nlist l))) ∧ vget "x" η = some (.v (.bool true)) ∧ vget "lo" η = some (.v (.int lo)) ∧ ((vget "hi" η = some (.v .none) ∧ hi = l.length) ∨ vget "hi" η = some (.v (.int hi))) ∧ vget "key" η = some (.pr (CloP fd ds)) ∧
 LamOK base fd scope prm body ∧ l.length < 1000 ∧ lo ≤ m ∧ m ≤ hi ∧ hi ≤ l.length ∧ (∀ i, lo ≤ i → i < hi → f i = decide (m ≤ i)) ∧
 (∀ (i e : Nat), lo ≤ i → i < hi → l[i]? = some e → ∀ Q : XV → Sto → Prop, Q (.v (.bool (f i))) σ → WB ((prm, .v (.int e)) :: dsV ds) σ Q) ∧ Rt (.v (.int m)) σ
theorem op_ltb {c : Cx} : Op2 c (compareOp .Lt) (fun x y σ Q => match x, y with | .v (.bool a), .v (.bool b) => Q (.v (.bool (!a && b))) σ | _, _ => False) := by
 intro E K F ρ σ s v u x y Q S X Y hQ hK
 split at hQ
 ·rename_i a b
  cases X with
  | v X => cases X; cases Y with | v Y => cases Y; exact lt_bool (kI S hK (by cases a <;> cases b <;> exact hQ))
 ·cases hQ
theorem oIs_pn {b : Bool} {p : PF} {σ : Sto} {Q : XV → Sto → Prop} : oIs b (.pr p) (.v .none) σ Q = Q (.v (.bool (b != false))) σ := rfl
theorem bsl_walk {c : Cx} {P : Params} {mg : Str → Option Value} (Y : Yes c P mg) {scope : Scope} {prm : String} {body : Expr} {WB : EW} (rm : Room 0 c.A) (hkey : ∀ cn L a ccd cl, EOK { c with A := c.A.deeper (envX cn scope L a ccd cl) } (envX cn scope L a ccd cl) (eval body (envX cn scope L a ccd cl)) WB) (L : Addr) (cells : List (Str × Addr)) (hcl : CellsOk (defEnv (kfd P 63) 63 L cells)) :
  SOK c (defEnv (kfd P 63) 63 L cells) (execs (kbody P 63) (defEnv (kfd P 63) 63 L cells)) (bslW c.base scope prm body WB) := by
 have hh := rm.hd
 have heq := rm.eq
 refine SOK.weak (jK (pS (jW (qB (by kernel_rfl)) jM op_lt jT (by kernel_rfl)) (jK sok_never
 jP) jP)
 (jK (pS (jW (qB (by kernel_rfl)) eok_none op_is jT (by kernel_rfl)) (jK (jZ (by kernel_rfl) (pR Y.G (by kernel_rfl) (Y.none (by kernel_rfl)) pZ (by decide) (by decide) rfl rfl (qG (qB (by kernel_rfl)) jI) kA))
 jP) jP)
 (jK (pS (jW (qB (by kernel_rfl)) eok_none op_is jT (by kernel_rfl)) (jK (sok_while (jW (qB (by kernel_rfl)) (qB (by kernel_rfl)) op_lt jT (by kernel_rfl)) (jK (jZ (by kernel_rfl) (jJ (jJ (qB (by kernel_rfl)) (qB (by kernel_rfl)) jU) jM op_fdiv))
 (jK (pS (jW (pI (qB (by kernel_rfl)) (qB (by kernel_rfl))) (qB (by kernel_rfl)) op_lt jT (by kernel_rfl)) (jK (jZ (by kernel_rfl) (jJ (qB (by kernel_rfl)) jM jU))
 jP) (jK (jZ (by kernel_rfl) (qB (by kernel_rfl)))
 jP))
 jP)))
 jP) (jK (sok_while (jW (qB (by kernel_rfl)) (qB (by kernel_rfl)) op_lt jT (by kernel_rfl)) (jK (jZ (by kernel_rfl) (jJ (jJ (qB (by kernel_rfl)) (qB (by kernel_rfl)) jU) jM op_fdiv))
 (jK (pS (jW (eok_key (prm := prm) Y rm.dep (by kernel_rfl) rfl (pI (qB (by kernel_rfl)) (qB (by kernel_rfl))) hkey) (qB (by kernel_rfl)) op_ltb jT (by kernel_rfl)) (jK (jZ (by kernel_rfl) (jJ (qB (by kernel_rfl)) jM jU))
 jP) (jK (jZ (by kernel_rfl) (qB (by kernel_rfl)))
 jP))
 jP)))
 jP))
 (jK (pC (qB (by kernel_rfl)))
 jP)))) ?_
 intro η σ N Rt h
 dsimp only [wCons, wAsg, wIf, wRet, wBin, wCmp, wPl, wUn, wAnd, wOr, wIfE, wEs, wSl]
 refine qC fun P kG => ?_
 obtain ⟨l, f, lo0, hi0, m, fd, ds, h1, h2, h3, h4, h5, D, hl, hm1, hm2, hm3, hf, hB, hR⟩ := h
 refine kG ?_
 clear kG P
 simp only [h1, h2, h3, h5, qJ, qF, qD, qK, qL, qT, qH, qI, qM, qN, qY, qZ, qE, String.reduceEq, String.reduceBEq, cond_true, cond_false, uH, if_true, if_false, reduceIte, ite_true, ite_false, zA, zB, zC, zD, zE, zF, qP, zG, qQ, zH, zI, zJ, zK, zL, qR, qU, zM, zN, qO, zO, zP, zQ, zR, zS, zT, qV, zU, zV, zW, zX, zY, qW, zZ, jA, jB, jR, jQ, jS, jC, jD, jE, jF, qX, jG, jH, qS, uA, uB, uC, uD, uE, uF, uG]
 refine ⟨fun q => by have := of_decide_eq_true q; exact (jY [_] (.i 1 (.a (.c (.v 0)) (.n 1)) (.n 0) .z) rfl this), fun _ => ?_⟩
 rcases h4 with ⟨h4, he0⟩ | h4
 ·simp only [h4, oIs_pn, qJ, qF, qD, qK, qL, qH, qI, qM, qN, qE, String.reduceEq, String.reduceBEq, cond_true, cond_false, reduceIte, if_true, if_false, uA, uB, uC, uD, List.map_cons, List.map_nil]
  refine ⟨fun _ => ⟨by rw [kD]; exact (qA [_] 1 (.a (.v 0) (.n 1)) (.n 4611686018427387904) (.c 1 (.a (.v 0) (.n 1)) (.n 1000) .z) rfl hl), fun q => by simp at q, fun _ => ?_⟩, fun q => by simp at q⟩
  refine ⟨hi0 - lo0, fun n η' σ' => ∃ lo hi : Nat, n = hi - lo ∧ lo0 ≤ lo ∧ hi ≤ hi0 ∧ lo ≤ m ∧ m ≤ hi ∧ vget "a" η' = some (.v (.list (nlist l))) ∧ vget "x" η' = some (.v (.bool true)) ∧ vget "lo" η' = some (.v (.int lo)) ∧ vget "hi" η' = some (.v (.int hi)) ∧ vget "key" η' = some (.pr (CloP fd ds)) ∧ σ' = σ, ?_, ?_⟩
  ·refine ⟨lo0, hi0, rfl, Nat.le_refl _, Nat.le_refl _, hm1, hm2, ?_, ?_, ?_, ?_, ?_, rfl⟩
   ·exact Eq.trans (by kernel_rfl) h1
   ·exact Eq.trans (by kernel_rfl) h2
   ·exact Eq.trans (by kernel_rfl) h3
   ·simp only [kD, ← he0, qJ, qF, qD, qK, qL, qH, qI, qM, qN, qE, String.reduceEq, String.reduceBEq, cond_true, cond_false, reduceIte, if_true, if_false, uA, uB, uC, uD, List.map_cons, List.map_nil]
   ·exact Eq.trans (by kernel_rfl) h5
  ·intro n η1 σ1 hI0
   refine qC fun P kG => ?_
   obtain ⟨lo, hi, rfl, b1, b2, b3, b4, g1, g2, g3, g4, g5, rfl⟩ := hI0
   refine kG ?_
   clear kG P
   have e2 : ((2 : Nat) : Int) = 2 := rfl
   have e1 : (lo : Int) + (hi : Int) = ((lo + hi : Nat) : Int) := by lia
   simp only [g1, g2, g3, g4, g5, qJ, qF, qD, qK, qL, qT, qH, qI, qM, qN, qY, qZ, qE, String.reduceEq, String.reduceBEq, cond_true, cond_false, uH, if_true, if_false, reduceIte, ite_true, ite_false, zA, zB, zC, zD, zE, zF, qP, zG, qQ, zH, zI, zJ, zK, zL, qR, qU, zM, zN, qO, zO, zP, zQ, zR, zS, zT, qV, zU, zV, zW, zX, zY, qW, zZ, jA, jB, jR, jQ, jS, jC, jD, jE, jF, qX, jG, jH, qS, uA, uB, uC, uD, uE, uF, uG, ← e2, e1, fdivNat]
   refine ⟨fun q => ?_, fun q => ?_⟩
   ·have hlt : lo < hi := by have := of_decide_eq_true q; exact (qA [_,_] 1 (.a (.v 0) (.n 1)) (.v 1) (.i 1 (.a (.c (.v 0)) (.n 1)) (.c (.v 1)) .z) rfl this)
    have c1 : lo ≤ (lo + hi) / 2 := by exact (qA [_,_,_,_] 2 (.v 0) (.v 1) (.c 1 (.a (.v 0) (.v 2)) (.a (.m 2 (.v 1)) (.v 3)) (.c 1 (.a (.v 3) (.n 1)) (.n 2) (.c 1 (.a (.v 0) (.n 1)) (.v 2) .z))) rfl (modGe (lo + hi) 2) (Nat.mod_lt _ (by decide)) hlt)
    have c2 : (lo + hi) / 2 < hi := by exact (qA [_,_,_,_] 2 (.a (.v 0) (.n 1)) (.v 1) (.c 1 (.a (.m 2 (.v 0)) (.v 2)) (.a (.v 3) (.v 1)) (.c 1 (.a (.v 3) (.n 1)) (.v 1) .z)) rfl (modLe (lo + hi) 2) hlt)
    have hget : l[(lo + hi) / 2]? = some (l[(lo + hi) / 2]'(by exact (qA [_,_,_,_] 1 (.a (.v 0) (.n 1)) (.v 1) (.c 1 (.a (.v 0) (.n 1)) (.v 2) (.c 1 (.v 2) (.v 3) (.c 1 (.v 3) (.v 1) .z))) rfl c2 b2 (uJ he0)))) := List.getElem?_eq_getElem (by lia)
    refine ⟨⟨by exact (fun q0 => (jY [] (.i 1 (.c (.n 2)) (.n 0) .z) rfl (Int.le_of_eq q0))), by decide⟩, fd, ds, rfl, D, _, (lo + hi) / 2, .int (l[(lo + hi) / 2]'(by lia) : Nat), rfl, by exact ⟨(jO [_] 1 (.g (.n 1000)) (.c (.v 0)) .z rfl ), (jO [_,_,_,_] 1 (.a (.c (.v 0)) (.n 1)) (.n 1073741824) (.c 1 (.a (.v 0) (.n 1)) (.v 1) (.c 1 (.v 1) (.v 2) (.c 1 (.v 2) (.v 3) (.c 1 (.a (.v 3) (.n 1)) (.n 1000) .z)))) rfl c2 b2 (uJ he0) hl)⟩, ?_, ?_, _, rfl, ?_⟩
    ·rw [kD]; exact StrLaws.seqIndex_nonneg (by exact (jO [_] 1 (.n 0) (.c (.v 0)) .z rfl )) (by exact (jO [_,_,_,_] 1 (.a (.c (.v 0)) (.n 1)) (.c (.v 1)) (.c 1 (.a (.v 0) (.n 1)) (.v 2) (.c 1 (.v 2) (.v 3) (.c 1 (.v 3) (.v 1) .z))) rfl c2 b2 (uJ he0)))
    ·rw [nlist_get, List.getElem?_eq_getElem (by lia)]; rfl
    ·refine hB ((lo + hi) / 2) _ (by exact (qA [_,_,_] 1 (.v 0) (.v 1) (.c 1 (.v 2) (.v 1) (.c 1 (.v 0) (.v 2) .z)) rfl c1 b1)) (by exact (qA [_,_,_] 1 (.a (.v 0) (.n 1)) (.v 1) (.c 1 (.a (.v 0) (.n 1)) (.v 2) (.c 1 (.v 2) (.v 1) .z)) rfl c2 b2)) hget _ ?_
     rw [hf _ (by lia) (by lia)]
     simp only [qJ, qF, qD, qK, qL, qT, qH, qI, qM, qN, qY, qZ, qE, String.reduceEq, String.reduceBEq, cond_true, cond_false, uH, if_true, if_false, reduceIte, ite_true, ite_false, zA, zB, zC, zD, zE, zF, qP, zG, qQ, zH, zI, zJ, zK, zL, qR, qU, zM, zN, qO, zO, zP, zQ, zR, zS, zT, qV, zU, zV, zW, zX, zY, qW, zZ, jA, jB, jR, jQ, jS, jC, jD, jE, jF, qX, jG, jH, qS, uA, uB, uC, uD, uE, uF, uG]
     refine ⟨fun q2 => ⟨hi - ((lo + hi) / 2 + 1), by exact (qA [_,_,_,_,_] 1 (.a (.v 0) (.n 1)) (.v 1) (.c 1 (.v 2) (.a (.v 1) (.v 3)) (.c 1 (.a (.v 0) (.a (.v 4) (.n 1))) (.v 2) (.c 1 (.v 3) (.v 4) .z))) rfl (jV _ _) (jL (qA [_,_] 1 (.a (.v 0) (.n 1)) (.v 1) (.c 1 (.a (.v 0) (.n 1)) (.v 1) .z) rfl c2)) c1), _, VLe.refl _, (lo + hi) / 2 + 1, hi, rfl, by exact (qA [_,_,_] 1 (.v 0) (.a (.v 1) (.n 1)) (.c 1 (.v 2) (.v 1) (.c 1 (.v 0) (.v 2) .z)) rfl c1 b1), b2, ?_, b4, ?_, ?_, ?_, ?_, ?_, trivial⟩, fun q2 => ⟨(lo + hi) / 2 - lo, by exact (qA [_,_,_,_,_] 1 (.a (.v 0) (.n 1)) (.v 1) (.c 1 (.v 2) (.a (.v 1) (.v 3)) (.c 1 (.a (.v 0) (.v 3)) (.v 4) (.c 1 (.a (.v 4) (.n 1)) (.v 2) .z))) rfl (jV _ _) (jL (qA [_,_] 1 (.v 0) (.v 1) (.c 1 (.v 0) (.v 1) .z) rfl c1)) c2), _, VLe.refl _, lo, (lo + hi) / 2, rfl, b1, by exact (qA [_,_,_] 1 (.v 0) (.v 1) (.c 1 (.a (.v 0) (.n 1)) (.v 2) (.c 1 (.v 2) (.v 1) .z)) rfl c2 b2), b3, ?_, ?_, ?_, ?_, ?_, ?_, trivial⟩⟩
     ·simp at q2; exact (qA [_,_] 1 (.a (.v 0) (.n 1)) (.v 1) (.c 1 (.a (.v 0) (.n 1)) (.v 1) .z) rfl q2)
     ·exact Eq.trans (by kernel_rfl) g1
     ·exact Eq.trans (by kernel_rfl) g2
     ·simp only [qJ, qF, qD, qK, qL, qT, qH, qI, qM, qN, qY, qZ, qE, String.reduceEq, String.reduceBEq, cond_true, cond_false, uH, if_true, if_false, reduceIte, ite_true, ite_false, zA, zB, zC, zD, zE, zF, qP, zG, qQ, zH, zI, zJ, zK, zL, qR, qU, zM, zN, qO, zO, zP, zQ, zR, zS, zT, qV, zU, zV, zW, zX, zY, qW, zZ, jA, jB, jR, jQ, jS, jC, jD, jE, jF, qX, jG, jH, qS, uA, uB, uC, uD, uE, uF, uG]; rw [Int.natCast_add]; rfl
     ·exact Eq.trans (by kernel_rfl) g4
     ·exact Eq.trans (by kernel_rfl) g5
     ·simp at q2; exact (qA [_,_] 1 (.v 0) (.v 1) (.c 1 (.v 0) (.v 1) .z) rfl q2)
     ·exact Eq.trans (by kernel_rfl) g1
     ·exact Eq.trans (by kernel_rfl) g2
     ·exact Eq.trans (by kernel_rfl) g3
     ·kernel_rfl
     ·exact Eq.trans (by kernel_rfl) g5
   ·have : m = lo := by have := of_decide_eq_false q; exact (Nat.le_antisymm (qA [_,_,_] 1 (.v 0) (.v 1) (.i 1 (.c (.v 2)) (.c (.v 1)) (.c 1 (.v 0) (.v 2) .z)) rfl (Int.not_lt.mp this) b4) (qA [_,_] 1 (.v 0) (.v 1) (.c 1 (.v 0) (.v 1) .z) rfl b3))
    subst this
    exact hR
 ·simp only [h4, oIs_pn, qJ, qF, qD, qK, qL, qH, qI, qM, qN, qE, String.reduceEq, String.reduceBEq, cond_true, cond_false, reduceIte, if_true, if_false, uA, uB, uC, uD, List.map_cons, List.map_nil]
  refine ⟨fun q => by simp at q, fun _ => ⟨fun q => by simp at q, fun _ => ?_⟩⟩
  refine ⟨hi0 - lo0, fun n η' σ' => ∃ lo hi : Nat, n = hi - lo ∧ lo0 ≤ lo ∧ hi ≤ hi0 ∧ lo ≤ m ∧ m ≤ hi ∧ vget "a" η' = some (.v (.list (nlist l))) ∧ vget "x" η' = some (.v (.bool true)) ∧ vget "lo" η' = some (.v (.int lo)) ∧ vget "hi" η' = some (.v (.int hi)) ∧ vget "key" η' = some (.pr (CloP fd ds)) ∧ σ' = σ, ?_, ?_⟩
  ·refine ⟨lo0, hi0, rfl, Nat.le_refl _, Nat.le_refl _, hm1, hm2, ?_, ?_, ?_, ?_, ?_, rfl⟩
   ·exact Eq.trans (by kernel_rfl) h1
   ·exact Eq.trans (by kernel_rfl) h2
   ·exact Eq.trans (by kernel_rfl) h3
   ·exact Eq.trans (by kernel_rfl) h4
   ·exact Eq.trans (by kernel_rfl) h5
  ·intro n η1 σ1 hI0
   refine qC fun P kG => ?_
   obtain ⟨lo, hi, rfl, b1, b2, b3, b4, g1, g2, g3, g4, g5, rfl⟩ := hI0
   refine kG ?_
   clear kG P
   have e2 : ((2 : Nat) : Int) = 2 := rfl
   have e1 : (lo : Int) + (hi : Int) = ((lo + hi : Nat) : Int) := by lia
   simp only [g1, g2, g3, g4, g5, qJ, qF, qD, qK, qL, qT, qH, qI, qM, qN, qY, qZ, qE, String.reduceEq, String.reduceBEq, cond_true, cond_false, uH, if_true, if_false, reduceIte, ite_true, ite_false, zA, zB, zC, zD, zE, zF, qP, zG, qQ, zH, zI, zJ, zK, zL, qR, qU, zM, zN, qO, zO, zP, zQ, zR, zS, zT, qV, zU, zV, zW, zX, zY, qW, zZ, jA, jB, jR, jQ, jS, jC, jD, jE, jF, qX, jG, jH, qS, uA, uB, uC, uD, uE, uF, uG, ← e2, e1, fdivNat]
   refine ⟨fun q => ?_, fun q => ?_⟩
   ·have hlt : lo < hi := by have := of_decide_eq_true q; lia
    have c1 : lo ≤ (lo + hi) / 2 := by lia
    have c2 : (lo + hi) / 2 < hi := by lia
    have hget : l[(lo + hi) / 2]? = some (l[(lo + hi) / 2]'(by exact (qA [_,_,_,_] 1 (.a (.v 0) (.n 1)) (.v 1) (.c 1 (.a (.v 0) (.n 1)) (.v 2) (.c 1 (.v 2) (.v 3) (.c 1 (.v 3) (.v 1) .z))) rfl c2 b2 hm3))) := List.getElem?_eq_getElem (by lia)
    refine ⟨⟨by lia, by decide⟩, fd, ds, rfl, D, _, (lo + hi) / 2, .int (l[(lo + hi) / 2]'(by lia) : Nat), rfl, by exact ⟨(jO [_] 1 (.g (.n 1000)) (.c (.v 0)) .z rfl ), (jO [_,_,_,_] 1 (.a (.c (.v 0)) (.n 1)) (.n 1073741824) (.c 1 (.a (.v 0) (.n 1)) (.v 1) (.c 1 (.v 1) (.v 2) (.c 1 (.v 2) (.v 3) (.c 1 (.a (.v 3) (.n 1)) (.n 1000) .z)))) rfl c2 b2 hm3 hl)⟩, ?_, ?_, _, rfl, ?_⟩
    ·rw [kD]; exact StrLaws.seqIndex_nonneg (by lia) (by exact (jO [_,_,_,_] 1 (.a (.c (.v 0)) (.n 1)) (.c (.v 1)) (.c 1 (.a (.v 0) (.n 1)) (.v 2) (.c 1 (.v 2) (.v 3) (.c 1 (.v 3) (.v 1) .z))) rfl c2 b2 hm3))
    ·rw [nlist_get, List.getElem?_eq_getElem (by lia)]; rfl
    ·refine hB ((lo + hi) / 2) _ (by lia) (by exact (qA [_,_,_] 1 (.a (.v 0) (.n 1)) (.v 1) (.c 1 (.a (.v 0) (.n 1)) (.v 2) (.c 1 (.v 2) (.v 1) .z)) rfl c2 b2)) hget _ ?_
     rw [hf _ (by lia) (by lia)]
     simp only [qJ, qF, qD, qK, qL, qT, qH, qI, qM, qN, qY, qZ, qE, String.reduceEq, String.reduceBEq, cond_true, cond_false, uH, if_true, if_false, reduceIte, ite_true, ite_false, zA, zB, zC, zD, zE, zF, qP, zG, qQ, zH, zI, zJ, zK, zL, qR, qU, zM, zN, qO, zO, zP, zQ, zR, zS, zT, qV, zU, zV, zW, zX, zY, qW, zZ, jA, jB, jR, jQ, jS, jC, jD, jE, jF, qX, jG, jH, qS, uA, uB, uC, uD, uE, uF, uG]
     refine ⟨fun q2 => ⟨hi - ((lo + hi) / 2 + 1), by lia, _, VLe.refl _, (lo + hi) / 2 + 1, hi, rfl, by lia, b2, ?_, b4, ?_, ?_, ?_, ?_, ?_, trivial⟩, fun q2 => ⟨(lo + hi) / 2 - lo, by lia, _, VLe.refl _, lo, (lo + hi) / 2, rfl, b1, by exact (qA [_,_,_] 1 (.v 0) (.v 1) (.c 1 (.a (.v 0) (.n 1)) (.v 2) (.c 1 (.v 2) (.v 1) .z)) rfl c2 b2), b3, ?_, ?_, ?_, ?_, ?_, ?_, trivial⟩⟩
     ·simp at q2; lia
     ·exact Eq.trans (by kernel_rfl) g1
     ·exact Eq.trans (by kernel_rfl) g2
     ·simp only [qJ, qF, qD, qK, qL, qT, qH, qI, qM, qN, qY, qZ, qE, String.reduceEq, String.reduceBEq, cond_true, cond_false, uH, if_true, if_false, reduceIte, ite_true, ite_false, zA, zB, zC, zD, zE, zF, qP, zG, qQ, zH, zI, zJ, zK, zL, qR, qU, zM, zN, qO, zO, zP, zQ, zR, zS, zT, qV, zU, zV, zW, zX, zY, qW, zZ, jA, jB, jR, jQ, jS, jC, jD, jE, jF, qX, jG, jH, qS, uA, uB, uC, uD, uE, uF, uG]; rw [Int.natCast_add]; rfl
     ·exact Eq.trans (by kernel_rfl) g4
     ·exact Eq.trans (by kernel_rfl) g5
     ·simp at q2; lia
     ·exact Eq.trans (by kernel_rfl) g1
     ·exact Eq.trans (by kernel_rfl) g2
     ·exact Eq.trans (by kernel_rfl) g3
     ·kernel_rfl
     ·exact Eq.trans (by kernel_rfl) g5
   ·have : m = lo := by have := of_decide_eq_false q; lia
    subst this
    exact hR
set_option tactic.hygienic false
noncomputable def addQ (pos : Pos) (q : Str) (qs : List ((Nat × Nat) × Str)) : List ((Nat × Nat) × Str) := match qs.lookup (pos.line, pos.col) with
 | some _ => qs
 | none => qs ++ [((pos.line, pos.col), q)]
noncomputable abbrev lamFd (qual : Str) (params : Arguments) (body : Expr) (scope : Scope) (cl : List (Str × Addr)) (pm : Value) (k : Addr) (ct : Value) : FuncData := kla_fn "<lambda>" qual params body scope cl pm (.ref k) ct
section
variable {c : Cx} {env : Env} {mg : Str → Option Value} {P0 : Addr}
theorem lam_made (G : Gl c mg) {k0 : Addr} (C0 : CodeHd c.base k0 P0) (hc0 : env.code = .ref k0) (hb : c.base.BuiltinsAt mg P0) (hgP : mainGlobals ≠ P0) {params : Arguments} {body : Expr} {scope : Scope} {pos : Pos} (sc : CompSc env scope) (hdef : defaultsOf params env = ([], []))
  {E : Value → Shared → Prop} {K : Value → Shared → Prop} {F : Fz} {ρ : Pl} {η : Vars} {σ : Sto} {s : Shared} (R : Rel c.base c.C env F ρ s.heap η σ) {i : Nat} {qs : List ((Nat × Nat) × Str)} (hm : σ[i]? = some (.tab P0 qs))
  (hq : ∀ q, qs.lookup (pos.line, pos.col) = some q → q = env.qual ++ "<lambda>")
  (hK : ∀ f k pm ct F' h' tk', Step c.base c.C F ρ s.heap F' ρ h' (σ.set i (.tab P0 (addQ pos (env.qual ++ "<lambda>") qs))) → F' f = some (kla_obj "<lambda>" (env.qual ++ "<lambda>") params body scope (clo env scope.names []) pm k ct) → CodeF F' k (env.qual ++ "<lambda>") →
   K (.ref f) { s with heap := h', toks := tk' }) : wpAny c.M c.A (eval (.Lambda params body scope pos) env) K E s := by
 refine kla_eval hdef ?_
 have hlen := R.sto.len
 have hi : i < σ.length := (List.getElem?_eq_some_iff.mp hm).1
 have hp : ρ[i]? = some (ρ[i]'(hlen ▸ hi)) := List.getElem?_eq_getElem _
 generalize ρ[i]'(hlen ▸ hi) = p at hp
 have ho := R.sto.out i p _ hp hm rfl
 refine qC fun P kG => ?_
 obtain ⟨ps, hP, ht, hpe⟩ := R.sto.obj i p _ hp hm
 refine kG ?_
 clear kG P
 rw [hpe] at hP ho
 have hcl := closure_eq (scope := scope) (env := env) fun x hx hf => R.cellAll x.1 (sc.free x hx hf)
 have hg := G.g.keeps R.sto.old
 have hC := C0.keeps R.sto.old
 have hb' : s.heap.BuiltinsAt mg P0 := let ⟨bm, o, b1, b2, b3, b4, b5, b6⟩ := hb; ⟨bm, o, b1, b2, b3, b4, R.sto.old _ _ b5, b6⟩
 cases hl : qs.lookup (pos.line, pos.col) with
 | some q =>
  have e := hq q hl
  subst e
  refine qC fun P kG => ?_
  obtain ⟨k, hk1, hk2⟩ := ht.some (pos := pos) hl
  refine kG ?_
  clear kG P
  refine kla_makeFunctionHit (mg := mg) hcl R.glob hg hc0 hC hP ht.ok hk1 hb' fun ctv h' tk hx hsz => ?_
  have x : Ext s.heap (h'.push (kla_obj "<lambda>" (env.qual ++ "<lambda>") params body scope (clo env scope.names []) ((mg "__name__").getD .none) k ctv)) := fun b o e => Heap.get?_push_of_some _ (hx b o e)
  have S := Step.ext R.sto x
  have hset : σ.set i (.tab P0 (addQ pos (env.qual ++ "<lambda>") qs)) = σ := by
   have : addQ pos (env.qual ++ "<lambda>") qs = qs := by unfold addQ; rw [hl]
   rw [this]
   refine List.ext_getElem? fun j => ?_
   rw [List.getElem?_set]
   split
   ·rename_i e; subst e; exact hm.symm
   ·rfl
  refine hK h'.objs.size k ((mg "__name__").getD .none) ctv _ _ tk (by rw [hset]; exact S) ?_ (hk2.mono S.evo.le)
  refine Fup_new (Heap.get?_push_size _ rfl) ?_
  cases q : s.heap.get? h'.objs.size with
  | none => rfl
  | some o => exact absurd (Heap.lt_size q) (Nat.not_lt.mpr hsz)
 | none =>
  refine kla_makeFunction (mg := mg) hcl R.glob hg hc0 hC hP ht.ok (ht.none (pos := pos) hl) hgP hb' fun k ctv h' tk hx hge hlt hrec htb => ?_
  generalize hfo : kla_obj "<lambda>" (env.qual ++ "<lambda>") params body scope (clo env scope.names []) ((mg "__name__").getD .none) k ctv = fo
  have hPlt : P0 < h'.objs.size := Heap.lt_size htb
  have htb2 : (h'.push fo).get? P0 = some (tabObj (ps ++ #[rawInt pos.line, rawInt pos.col, .ref k])) := Heap.get?_push_of_some _ htb
  -- the heap between: all that is new, the table as it was
  generalize hmid : (h'.push fo).update P0 (fun _ => tabObj ps) = hm'
  have hmP : hm'.get? P0 = some (tabObj ps) := by rw [← hmid]; exact Heap.get?_update_self _ htb2 rfl
  have hmO : ∀ b, b ≠ P0 → hm'.get? b = (h'.push fo).get? b := fun b hb => by rw [← hmid]; exact (Heap.SameBut.update ..).2 b hb
  have x : Ext s.heap hm' := fun b o e => by
   by_cases hb : b = P0
   ·subst hb; rw [hP] at e; cases e; exact hmP
   ·rw [hmO b hb]; exact Heap.get?_push_of_some _ (hx b o hb e)
  have S1 := Step.ext R.sto x
  have nk : s.heap.get? k = none := Heap.get?_none_of_le hge
  have nf : s.heap.get? h'.objs.size = none := Heap.get?_none_of_le (by exact (qA [_,_,_] 1 (.v 0) (.v 1) (.c 1 (.a (.v 2) (.n 1)) (.v 1) (.c 1 (.v 0) (.v 2) .z)) rfl hlt hge))
  have kne : k ≠ P0 := fun e => by rw [e, hP] at nk; cases nk
  have fne : h'.objs.size ≠ P0 := fun e => by rw [e, hP] at nf; cases nf
  refine qC fun P kG => ?_
  obtain ⟨k', oc, vs, tt, e1, e2, e3, e4⟩ := hrec
  refine kG ?_
  clear kG P
  cases e1
  have hCF : CodeF (Fup F s.heap hm') k (env.qual ++ "<lambda>") := ⟨oc, vs, tt, Fup_new (by rw [hmO k kne]; exact Heap.get?_push_of_some _ e2) nk, e3, e4⟩
  have S2 := Step.mutate S1.sto (m' := .tab P0 (qs ++ [((pos.line, pos.col), env.qual ++ "<lambda>")])) hp hm rfl (h' := h'.push fo) (fun b hb => (hmO b (by rw [← hpe]; exact hb)).symm) ⟨_, by rw [hpe]; exact htb2, by
   have := (ht.mono (F' := Fup F s.heap hm') S1.evo.le).snoc (l := pos.line) (k := pos.col) hCF
   simpa using this, hpe⟩ rfl
  have hadd : addQ pos (env.qual ++ "<lambda>") qs = qs ++ [((pos.line, pos.col), env.qual ++ "<lambda>")] := by unfold addQ; rw [hl]
  refine hK h'.objs.size k ((mg "__name__").getD .none) ctv _ _ tk (by rw [hadd]; exact S1.trans S2) ?_ hCF
  refine Fup_new ?_ nf
  rw [hmO _ fne, hfo]; exact Heap.get?_push_size _ (by rw [← hfo]; rfl)
noncomputable def lamSc (scope : Scope) (prm : String) : Bool := !scope.isCoroutine && !scope.isGenerator && decide (scope.kind = .function) && (scope.names.all fun x => x.2 != .cell) && decide (scope.names.lookup (prm : Str) = some .local)
theorem cloL_of {F3 : Fz} {h : Heap} {ρ : Pl} {F2 : Fz} {η : Vars} {cs : List Addr} (hin : SubC F2 F3) (hF : ∀ c ∈ cs, F3 c = h.get? c) : ∀ (cl : List (Str × Addr)) (ds : List (String × PyData)), ds.map (fun q => (q.1 : Str)) = cl.map (·.1) →
  (∀ q ∈ cl, q.2 ∈ cs ∧ ∃ v, h.IsCell q.2 v ∧ ∀ (z : String) xv, q.1 = z → vget z η = some xv → ∃ v', v = some v' ∧ XR F2 ρ v' xv) → (∀ q ∈ ds, vget q.1 η = some (.v q.2)) → CloL F3 cl ds
 | [], ds, e, _, _ => by
  cases ds with
  | nil => exact .nil
  | cons => cases e
 | (x, a) :: cl, ds, e, h1, h2 => by
  cases ds with
  | nil => cases e
  | cons y ds =>
   obtain ⟨e1, e2⟩ := List.cons.inj e
   have e1 : (y.1 : Str) = x := e1
   subst e1
   obtain ⟨hc, v, ⟨o, ho, hd⟩, hv⟩ := h1 _ List.mem_cons_self
   obtain ⟨v', rfl, X⟩ := hv y.1 _ rfl (h2 _ List.mem_cons_self)
   exact .cons (by rw [hF a hc]; exact ho) hd (X.eV.sub hin) (cloL_of hin hF cl ds e2 (fun q hq => h1 q (List.mem_cons_of_mem _ hq)) fun q hq => h2 q (List.mem_cons_of_mem _ hq))
noncomputable abbrev dq (Q : XV → Sto → Prop) : XV → Sto → Prop := fun x σ => ∃ d, x = .v d ∧ Q x σ
theorem eok_fnKey {P : Params} (Y : Yes c P mg) {k0 : Addr} (C0 : CodeHd c.base k0 P0) (hc0 : env.code = .ref k0) (hbt : c.base.BuiltinsAt mg P0) (hgP : mainGlobals ≠ P0)
  {f : Str} {p pos kp : Pos} {args : List Expr} {t : Sem Value} {ts : List (Bool × Sem Value)} {a : Addr} {W : LW} {WB : SW} (hroom : c.A.depth < recursionLimit) (hk : env.kindOf f = some .globalImplicit)
  (hm : nsIn (hd.heap_1 P) mainGlobals f = some (some (.ref a))) (hok : kok P a = true) (hd : (f == ("__debug__" : Str)) = false) (ht : backTo pos (starEach args env) = (false, t) :: ts) (hs : EsOK c env ((false, t) :: ts) W)
  {params : Arguments} {body : Expr} {scope : Scope} {lpos : Pos} {prm : String} (sc : CompSc env scope) (hdef : defaultsOf params env = ([], [])) (hls : lamSc scope prm = true)
  (hbd : ∀ qual cl pm k ct v, bindArgs (lamFd qual params body scope cl pm k ct) ⟨[v], []⟩ = pure [((prm : Str), v)]) (names : List String) (hnames : (clo env scope.names []).map (·.1) = names.map Str.ofString)
  (bind : List XV → XV → Option (List (String × XV)))
  (hbind : ∀ F ρ (s : Shared) σ vs xs v x bx, SRel c.base c.C F ρ s.heap σ → XRs F ρ vs xs → XR F ρ v x → bind xs x = some bx → ∃ bs : List (Str × Value), BindsTo s (kfd P a) ⟨vs, [("key", v)]⟩ bs ∧ bs.map (·.1) = bx.map (fun n => (n.1 : Str)) ∧ XRs F ρ (bs.map (·.2)) (bx.map (·.2)))
  (hnm : ∀ xs x bx, bind xs x = some bx → (bx.all fun n => lc (kfd P a).scope n.1) = true)
  (hb : ∀ L cells, CellsOk (defEnv (kfd P a) a L cells) → SOK { c with A := c.A.deeper (defEnv (kfd P a) a L cells) } (defEnv (kfd P a) a L cells) (execs (kbody P a) (defEnv (kfd P a) a L cells)) WB) :
  EOK c env (eval (.Call (.Name f p) args [⟨some "key", .Lambda params body scope lpos, kp⟩] pos) env) (fun η σ Q => W η σ fun xs σ1 => ∃ i qs ds, σ1[i]? = some (.tab P0 qs) ∧
   (∀ q, qs.lookup (lpos.line, lpos.col) = some q → q = env.qual ++ "<lambda>") ∧ ds.map (·.1) = names ∧ (∀ q ∈ ds, vget q.1 η = some (.v q.2)) ∧
   ∀ fd, LamOK c.base fd scope prm body → ∃ bx, bind xs (.pr (CloP fd ds)) = some bx ∧
    WB (vsetX (bx.map (·.1)) (bx.map (·.2)) []) (σ1.set i (.tab P0 (addQ lpos (env.qual ++ "<lambda>") qs)))
     (fun _ σ' => RetP (σ1.set i (.tab P0 (addQ lpos (env.qual ++ "<lambda>") qs))) (.v .none) σ' (dq Q)) (fun x σ' => RetP (σ1.set i (.tab P0 (addQ lpos (env.qual ++ "<lambda>") qs))) x σ' (dq Q))) := by
 intro E K F ρ η σ s Q R hW hK
 have D := Y.fd hok
 refine qC fun P kG => ?_
 obtain ⟨o, ho, hfd⟩ := D.obj
 refine kG ?_
 clear kG P
 refine wpAny_Call_Name_kw (vF Y.G R hk (Y.some hm) hd ?_)
 rw [ht]
 refine callWith_function_kw (o := o) (fd := kfd P a) (evalArgs_kw rfl (hs E _ F ρ η σ s _ R hW fun vs xs F1 ρ1 σ1 hp1 t1 X1 S1 hW1 => ?_))
 refine qC fun P kG => ?_
 obtain ⟨i, qs, ds, hmi, hq, hn, hds, hW2⟩ := hW1
 refine kG ?_
 clear kG P
 have R1 := R.step S1
 refine wpAny_evalAll_cons (wpAny_bind (lam_made (s := { s with heap := hp1, toks := t1 }) Y.G C0 hc0 hbt hgP sc hdef R1 hmi hq fun fa k pm ct F2 h2 t2 S2 hf hcf => wpAny_bind (wpAny_standAt (wpAny_pure (wpAny_evalAll_nil (And.intro ⟨S2.sto.old _ _ ho, hfd⟩ ?_))))))
 generalize hσ2 : σ1.set i (.tab P0 (addQ lpos (env.qual ++ "<lambda>") qs)) = σ2 at S2 hW2
 have R2 := R1.step S2
 have cloOk : ∀ q ∈ clo env scope.names [], scope.names.lookup q.1 = some .free ∧ env.cells.lookup q.1 = some q.2 := fun q hq => by
  refine qC fun P kG => ?_
  obtain ⟨n, b⟩ := q
  refine kG ?_
  clear kG P
  rcases clo_mem _ _ _ _ hq with q | ⟨q1, q2⟩
  ·cases q
  ·refine qC fun P kG => ?_
   obtain ⟨b', hb'⟩ := R.cellAll n (sc.free _ q1 rfl)
   refine kG ?_
   clear kG P
   rw [hb'] at q2; exact ⟨sc.uniq _ q1, by rw [q2]; exact hb'⟩
 have cellOk : ∀ q ∈ clo env scope.names [], ∃ v, h2.IsCell q.2 v ∧ F2 q.2 = none ∧ ∀ (z : String) xv, q.1 = z → vget z η = some xv → ∃ v', v = some v' ∧ XR F2 ρ1 v' xv := fun q hq => by
  refine qC fun P kG => ?_
  obtain ⟨q1, q2⟩ := cloOk q hq
  refine kG ?_
  clear kG P
  exact R2.cells q.1 q.2 (sc.free _ (mem_of_lookup q1) rfl) q2
 generalize hcl : clo env scope.names [] = cl at hf hnames cloOk cellOk
 have hmut : ∀ b ∈ cl.map (·.2), ¬ Mut ρ1 b := fun b hb => by
  refine qC fun P kG => ?_
  obtain ⟨q, hq, rfl⟩ := List.mem_map.mp hb
  obtain ⟨v, v1, v2, _⟩ := cellOk q hq
  refine kG ?_
  clear kG P
  exact R2.sto.cell v1 v2
 have S3 := R2.sto.ice hmut
 have le3 : FLe F2 (ice (cl.map (·.2)) h2 F2) := ice_le R2.sto.inn
 have X3 : Clo (lamFd (env.qual ++ "<lambda>") params body scope cl pm k ct) ds (ice (cl.map (·.2)) h2 F2) fa := by
  refine ⟨⟨_, le3 _ _ hf, rfl⟩, ⟨k, rfl, hcf.mono le3⟩, ?_⟩
  refine cloL_of (h := h2) (F2 := F2) (ρ := ρ1) (η := η) (cs := cl.map (·.2)) (fun a o e _ => le3 a o e) (fun b hb => by unfold ice; rw [if_pos hb]) cl ds ((List.map_map (f := Prod.fst) (g := Str.ofString)).symm.trans ((congrArg (List.map Str.ofString) hn).trans hnames.symm)) (fun q hq => ⟨List.mem_map_of_mem hq, ?_⟩) hds
  refine qC fun P kG => ?_
  obtain ⟨v, v1, v2, v3⟩ := cellOk q hq
  refine kG ?_
  clear kG P
  exact ⟨v, v1, v3⟩
 have hls' := hls
 unfold lamSc at hls'
 simp only [Bool.and_eq_true, Bool.not_eq_true', decide_eq_true_eq, List.all_eq_true, bne_iff_ne] at hls'
 refine qC fun P kG => ?_
 obtain ⟨⟨⟨⟨l1, l2⟩, l3⟩, l4⟩, l5⟩ := hls'
 refine kG ?_
 clear kG P
 have basenone : ∀ q ∈ cl, c.base.get? q.2 = none := fun q hq => by
  refine qC fun P kG => ?_
  obtain ⟨v, v1, v2, v3⟩ := cellOk q hq
  refine kG ?_
  clear kG P
  cases e : c.base.get? q.2 with
  | none => rfl
  | some o => rw [R2.sto.base _ _ e] at v2; cases v2
 have Lm : LamOK c.base (lamFd (env.qual ++ "<lambda>") params body scope cl pm k ct) scope prm body := by
  refine ⟨rfl, rfl, rfl, rfl, l1, l2, l3, l4, l5, hbd _ _ _ _ _, fun x => ⟨fun e => ?_, fun ⟨b, e⟩ => (cloOk _ (mem_of_lookup e)).1⟩, fun x y b h1 h2 => ?_, basenone⟩
  ·refine qC fun P kG => ?_
   obtain ⟨b, hb⟩ := clo_has (env := env) scope.names [] x (.inl (mem_of_lookup e))
   refine kG ?_
   clear kG P
   rw [hcl] at hb
   exact lookup_of_mem hb
  ·exact R.inj x y b (cloOk _ (mem_of_lookup h1)).2 (cloOk _ (mem_of_lookup h2)).2
 refine qC fun P kG => ?_
 obtain ⟨bx, hbx, hW3⟩ := hW2 _ Lm
 obtain ⟨bs, hB, hn1, hX1⟩ := hbind _ ρ1 { s with heap := h2, toks := t2 } σ2 vs xs (.ref fa) _ bx S3 (X1.mono (FLe.trans S2.evo.le le3) S2.pre |> fun x => x) (.pr (p := CloP _ ds) X3) hbx
 refine kG ?_
 clear kG P
 have R0 : Rel c.base c.C { env with scope := { env.scope with names := [] }, cells := [] } (ice (cl.map (·.2)) h2 F2) ρ1 h2 [] σ2 := by
  refine ⟨S3, R.kind, R.glob, R.blt, ?_, ?_, fun x hx => ?_, fun x b hx _ => ?_, fun x y b e _ => by cases e⟩
  ·refine qC fun P kG => ?_
   obtain ⟨m, hm', _⟩ := R2.ns
   refine kG ?_
   clear kG P
   exact ⟨m, hm', fun y xv _ hv => by cases hv⟩
  ·unfold ice
   rw [if_neg]
   ·exact R2.nsF
   ·intro hb
    refine qC fun P kG => ?_
    obtain ⟨q, hq, e⟩ := List.mem_map.mp hb
    obtain ⟨v, ⟨o1, v1, v1'⟩, v2, _⟩ := cellOk q hq
    obtain ⟨m, ⟨o2, es, ep, w1, w2, _⟩, _⟩ := R2.ns
    refine kG ?_
    clear kG P
    have e' : q.2 = env.locals := e
    rw [e', w1] at v1
    cases v1
    rw [w2] at v1'; cases v1'
  ·rcases hx with hx | hx <;> cases hx
  ·rcases hx with hx | hx <;> cases hx
 refine op_def1 D hroom (fun n hn => pM (List.all_eq_true.mp (hnm xs _ bx hbx) n hn)) hb R0 (s := { s with heap := h2, toks := t2 }) hB hn1 hX1 (Q := dq Q) hW3 fun v x F4 ρ4 σ4 h4 t4 X4 S4 hQ => ?_
 refine qC fun P kG => ?_
 obtain ⟨d, rfl, hQ⟩ := hQ
 refine kG ?_
 clear kG P
 cases X4 with
 | v V4 =>
  have cs4 : Cs c.base F4 (cl.map (·.2)) := by
   refine ⟨fun b hb => ?_, fun b hb => ?_⟩
   ·obtain ⟨q, hq, rfl⟩ := List.mem_map.mp hb; exact basenone q hq
   ·refine qC fun P kG => ?_
    obtain ⟨q, hq, rfl⟩ := List.mem_map.mp hb
    obtain ⟨v, ⟨o1, v1, v1'⟩, v2, _⟩ := cellOk q hq
    refine kG ?_
    clear kG P
    exact ⟨o1, v, S4.evo.le _ _ (by unfold ice; rw [if_pos hb]; exact v1), v1'⟩
  have Sf : Step c.base c.C F2 ρ1 h2 (thaw (cl.map (·.2)) F4) ρ4 h4 σ4 := by
   have inn4 : FIn (thaw (cl.map (·.2)) F4) h4 := fun b o e => S4.evo.inn b o (thaw_le b o e)
   refine ⟨⟨fun b o e => ?_, inn4, fun b o e => ?_, S4.evo.keep⟩, S4.pre, S4.new, cs4.thaw S4.sto⟩
   ·unfold thaw; rw [if_neg]
    ·exact S4.evo.le _ _ (le3 _ _ e)
    ·intro hb
     refine qC fun P kG => ?_
     obtain ⟨q, hq, rfl⟩ := List.mem_map.mp hb
     obtain ⟨v, v1, v2, _⟩ := cellOk q hq
     refine kG ?_
     clear kG P
     rw [v2] at e; cases e
   ·unfold thaw at e
    split at e
    ·cases e
    ·rename_i hb
     rcases S4.evo.fresh b o e with q | q | q
     ·unfold ice at q; rw [if_neg hb] at q; exact .inl q
     ·exact .inr (.inl q)
     ·exact .inr (.inr q)
  exact hK v (.v d) _ ρ4 σ4 h4 t4 (.v (V4.sub cs4.sub)) ((S1.trans S2).trans Sf) hQ
end
theorem EOK.weak {c : Cx} {env : Env} {t : Sem Value} {W W' : EW} (h : EOK c env t W) (hw : ∀ η σ Q, W' η σ Q → W η σ Q) : EOK c env t W' := fun E K F ρ η σ s Q R hW hK => h E K F ρ η σ s Q R (hw _ _ _ hW) hK
theorem XRs.unl {F : Fz} {ρ : Pl} {vs : List Value} {x : XV} {xs : List XV} (h : XRs F ρ vs (x :: xs)) : ∃ v r, vs = v :: r ∧ XR F ρ v x ∧ XRs F ρ r xs := by
 cases h with
 | cons a b => exact ⟨_, _, rfl, a, b⟩
theorem wpAny_is {α : Type} {M : Model} {A : Around} {E : Value → Shared → Prop} {s : Shared} {t : Sem α} {b : α} {Q : α → Shared → Prop} (e : t = pure b) (h : Q b s) : wpAny M A t Q E s := e ▸ wpAny_pure h
noncomputable def bslBind (xs : List XV) (k : XV) : Option (List (String × XV)) :=
 u1 (fun a => u1 fun x => u1 fun lo => u01 (some [("a", a), ("x", x), ("lo", lo), ("hi", .v .none), ("key", k)]) fun hi => u0 (some [("a", a), ("x", x), ("lo", lo), ("hi", hi), ("key", k)])) xs
theorem binds_dflt {s : Shared} {fd : FuncData} {args : Args} {bs : List (Str × Value)} {T : Addr} {o : Obj} {items : Array Value} {n : Nat} {k : Option (Array Value) → Sem (List (Str × Value))} (h1 : bindArgs fd args = seqItems? fd.defaults >>= k) (hd : fd.defaults = .ref T) (ho : s.heap.get? T = some o) (hs : o.data = .seq items n)
  (h2 : k (some items) = pure bs) : BindsTo s fd args bs := fun _ _ _ _ hq => by
 rw [h1, hd]
 exact wpAny_bind (wpAny_seqItems ho hs (wpAny_is h2 hq))
theorem bsl_bind {c : Cx} {P : Params} {mg : Str → Option Value} (Y : Yes c P mg) (F : Fz) (ρ : Pl) (s : Shared) (σ : Sto) (vs : List Value) (xs : List XV) (v0 : Value) (x0 : XV) (bx : List (String × XV)) (S0 : SRel c.base c.C F ρ s.heap σ) (X : XRs F ρ vs xs) (X0 : XR F ρ v0 x0) (e : bslBind xs x0 = some bx) :
  ∃ bs : List (Str × Value), BindsTo s (kfd P 63) ⟨vs, [("key", v0)]⟩ bs ∧ bs.map (·.1) = bx.map (fun n => (n.1 : Str)) ∧ XRs F ρ (bs.map (·.2)) (bx.map (·.2)) := by
 have XK : (hd.heap_1 P).In s.heap := Y.K.keeps S0.old
 obtain ⟨t0, ht0⟩ : ∃ t0 : Tok, (hd.heap_1 P).lookup 55 = some { cls := .type "tuple", data := .seq #[.int 0 t0, .none] 0 } := ⟨_, rfl⟩
 have hd : (kfd P 63).defaults = .ref 55 := by kernel_rfl
 have h4 : ∀ v1 v2 v3 v4 : Value, BindsTo s (kfd P 63) ⟨[v1, v2, v3, v4], [("key", v0)]⟩ [("a", v1), ("x", v2), ("lo", v3), ("hi", v4), ("key", v0)] := fun v1 v2 v3 v4 => binds_dflt rfl hd (XK _ _ ht0) rfl (by kernel_rfl)
 have h3 : ∀ v1 v2 v3 : Value, BindsTo s (kfd P 63) ⟨[v1, v2, v3], [("key", v0)]⟩ [("a", v1), ("x", v2), ("lo", v3), ("hi", .none), ("key", v0)] := fun v1 v2 v3 => binds_dflt rfl hd (XK _ _ ht0) rfl (by kernel_rfl)
 exact X.b1 (show u1 _ xs = some bx from e) fun v1 _ _ _ X1 X e => X.b1 e fun v2 _ _ _ X2 X e => X.b1 e fun v3 _ _ _ X3 X e => X.b01 e (fun e => Option.some.inj e ▸ ⟨_, h3 v1 v2 v3, rfl, .cons X1 (.cons X2 (.cons X3 (.cons (.v .none) (.cons X0 .nil))))⟩)
  fun v4 _ _ _ X4 X e => X.b0 e fun e => Option.some.inj e ▸ ⟨_, h4 v1 v2 v3 v4, rfl, .cons X1 (.cons X2 (.cons X3 (.cons X4 (.cons X0 .nil))))⟩
theorem bslNm {P : Params} (xs : List XV) (x : XV) (bx : List (String × XV)) (e : bslBind xs x = some bx) : (bx.all fun n => lc (kfd P 63).scope n.1) = true :=
 u1_e e fun _ _ e => u1_e e fun _ _ e => u1_e e fun _ _ e => u01_e e (fun e => Option.some.inj e ▸ (by kernel_rfl)) fun _ _ e => Option.some.inj (u0_e e) ▸ (by kernel_rfl)
theorem S_dots : Str.ofString "..." = S MK := by decide +kernel
theorem at_nil (g : List Nat) (hi i : Nat) (h : i ≤ hi) : At' g [] hi i := ⟨by simpa using h, by simp [atL]⟩
theorem ellM_mid (w g : List Nat) : ellM [[], w, []] g = hasL g w := by
 have h0 : lfind g [] 0 g.length = some 0 := lfind_eq (Nat.le_refl _) (at_nil g _ _ (Nat.zero_le _)) fun j _ h => absurd h (Nat.not_lt_zero _)
 unfold ellM ellEnd hasL
 simp only [List.headD_cons, List.getLastD_cons, List.getLastD_nil, if_true, scan, h0, List.length_nil, Nat.add_zero, Nat.zero_le, decide_true, Bool.true_and]
 cases h : lfind g w 0 g.length with
 | none => rfl
 | some i =>
  refine qC fun P kG => ?_
  obtain ⟨_, ⟨h1, _⟩, _⟩ := vB h
  refine kG ?_
  clear kG P
  have : lfind g [] (i + w.length) g.length = some (i + w.length) := lfind_eq (Nat.le_refl _) (at_nil g _ _ h1) fun j h2 h3 => absurd h3 (Nat.not_lt.mpr h2)
  simp only [this]
  rfl
theorem mk_lt : ∀ c ∈ MK, c < 1000 := by decide
theorem jn_mid (w : List Nat) : Str.ofString "..." ++ S w ++ Str.ofString "..." = S (jn [[], w, []]) := by
 rw [S_dots, S_app, S_app]; simp [jn]
theorem mid_len (w : List Nat) : (jn [[], w, []]).length = w.length + 6 := by simp [jn, MK]
theorem mid_mem (w : List Nat) (h : ∀ c ∈ w, c < 1000) : ∀ c ∈ jn [[], w, []], c < 1000 := by
 intro c hc
 simp only [jn, List.nil_append, List.append_nil, List.mem_append] at hc
 rcases hc with hc | hc | hc
 ·exact mk_lt c hc
 ·exact h c hc
 ·exact mk_lt c hc
theorem dots_len : (Str.ofString "...").length = 3 := by rw [S_dots, jN]; rfl
theorem retp_v {σ : Sto} {d : PyData} {y : MO} {Q : XV → Sto → Prop} (h : Q (.v d) σ) : RetP σ (.v d) (σ ++ [y]) Q := .inl ⟨d, σ, [y], rfl, rfl, rfl, h⟩
theorem retp_n {σ : Sto} {d : PyData} {Q : XV → Sto → Prop} (h : Q (.v d) σ) : RetP σ (.v d) σ Q := .inl ⟨d, σ, [], rfl, by simp, rfl, h⟩
noncomputable def lam1W : EW := fun η σ Q => ∃ (t : List Nat) (st e : Nat), vget "text" η = some (.v (.str (S t))) ∧ vget "start" η = some (.v (.int st)) ∧ vget "size" η = some (.v (.int e)) ∧ 1 ≤ e ∧ t.length < 100 ∧ (∀ c ∈ t, c < 1000) ∧ dotless t ∧
 Q (.v (.bool (!hasL (t.take (st + e - 1)) ((t.take (st + e)).drop st)))) σ
noncomputable def lam2W : EW := fun η σ Q => ∃ (t p : List Nat) (e : Nat), vget "text" η = some (.v (.str (S t))) ∧ vget "piece" η = some (.v (.str (S p))) ∧ vget "size" η = some (.v (.int e)) ∧ t.length < 100 ∧ (∀ c ∈ t, c < 1000) ∧ p.length < 100 ∧ (∀ c ∈ p, c < 1000) ∧ dotless p ∧
 Q (.v (.bool (hasL (t.take e) p))) σ
noncomputable def lamIn (s : Stmt) : Expr × Scope := (xh ((xk (sk s).2.2.1).1.1.tail.headD xd), (xk ((xk (sk s).2.2.1).1.1.tail.headD xd)).1.2)
noncomputable def wst (P : Params) (k : Nat) : Stmt := ((sk ((kbody P 244).tail.headD (.Pass default))).1.drop k).headD (.Pass default)
noncomputable def lamK (P : Params) (k : Nat) : Expr × Scope := if k = 0 then lamIn (wst P 0) else lamIn ((sk (wst P k)).1.headD (.Pass default))
theorem lam1_ok {c : Cx} {P : Params} {mg : Str → Option Value} (Y : Yes c P mg) {A : Around} (rm2 : ∀ cn L a ccd cl, Room 1 (A.deeper (envX cn (lamK P 0).2 L a ccd cl))) : ∀ cn L a ccd cl, EOK { c with A := A.deeper (envX cn (lamK P 0).2 L a ccd cl) } (envX cn (lamK P 0).2 L a ccd cl) (eval (lamK P 0).1 (envX cn (lamK P 0).2 L a ccd cl)) lam1W := by
 intro cn L a ccd cl
 have rm2 := rm2 cn L a ccd cl
 refine EOK.weak (kV (eok_fn (Y.deep _) rm2.dep (by kernel_rfl) (by kernel_rfl) (by kernel_rfl) (by decide) rfl (qG (jJ (jJ pQ (pU (qB (by kernel_rfl)) (pK (qB (by kernel_rfl))) (pK (jJ (qB (by kernel_rfl)) (qB (by kernel_rfl)) jU)) pD) jU) pQ jU) (qG (pU (qB (by kernel_rfl)) pD (pK (jJ (jJ (qB (by kernel_rfl)) (qB (by kernel_rfl)) jU) jM op_sub)) pD) jI)) ["want", "got"] (fun vs hv => by obtain ⟨a, b, rfl⟩ := len2 hv; kernel_rfl) (by kernel_rfl) (fun L cells hcl => ell_walk (Y.deep _) (rm2.deeper _) L cells hcl)) pJ op_is (by kernel_rfl)) ?_
 intro η σ Q h
 dsimp only [wCons, wAsg, wIf, wRet, wBin, wCmp, wPl, wUn, wAnd, wOr, wIfE, wEs, wSl]
 refine qC fun P kG => ?_
 obtain ⟨t, st, e, h1, h2, h3, h4, h5, h6, h7, hQ⟩ := h
 refine kG ?_
 clear kG P
 simp only [h1, h2, h3, qJ, qF, qD, qK, qL, qT, qH, qI, qM, qN, qY, qZ, qE, String.reduceEq, String.reduceBEq, cond_true, cond_false, uH, if_true, if_false, reduceIte, ite_true, ite_false, zA, zB, zC, zD, zE, zF, qP, zG, qQ, zH, zI, zJ, zK, zL, qR, qU, zM, zN, qO, zO, zP, zQ, zR, zS, zT, qV, zU, zV, zW, zX, zY, qW, zZ, jA, jB, jR, jQ, jS, jC, jD, jE, jF, qX, jG, jH, qS, uA, uB, uC, uD, uE, uF, uG]
 have e1 : (st : Int) + (e : Int) = ((st + e : Nat) : Int) := by lia
 have e2 : ((st + e : Nat) : Int) - 1 = ((st + e - 1 : Nat) : Int) := by exact (Int.le_antisymm (jO [_,_,_] 1 (.s (.c (.a (.v 0) (.v 1))) (.n 1)) (.c (.v 2)) (.c 1 (.a (.v 0) (.v 1)) (.a (.v 2) (.n 1)) .z) rfl (jV _ _)) (jO [_,_,_] 1 (.c (.v 0)) (.s (.c (.a (.v 1) (.v 2))) (.n 1)) (.c 1 (.a (.v 0) (.n 1)) (.a (.v 1) (.v 2)) .z) rfl (jL (qA [_,_] 1 (.n 1) (.a (.v 0) (.v 1)) (.c 1 (.n 1) (.v 1) .z) rfl h4))))
 rw [e1, e2, S_slice, S_sliceTo, jn_mid]
 have hw : ((t.take (st + e)).drop st).length ≤ t.length := by rw [List.length_drop, List.length_take]; exact (qA [_,_,_] 1 (.v 0) (.v 1) (.c 1 (.v 2) (.v 1) (.c 1 (.v 0) (.v 2) .z)) rfl (Nat.min_le_right _ _) (Nat.sub_le _ _))
 have hm : ∀ c ∈ (t.take (st + e)).drop st, c ∈ t := fun c hc => List.mem_of_mem_take (List.mem_of_mem_drop hc)
 have hs : (2 : Nat) ^ 20 ≤ sizeLine := by decide
 refine ⟨trivial, by rw [jN]; exact (qA [_,_] 1 (.v 0) (.v 1) (.c 1 (.n 1048576) (.v 1) (.c 1 (.a (.v 0) (.n 1)) (.n 100) .z)) rfl hs h5), by rw [jN, dots_len]; exact (qA [_,_,_] 1 (.a (.n 3) (.v 0)) (.v 1) (.c 1 (.n 1048576) (.v 1) (.c 1 (.v 0) (.v 2) (.c 1 (.a (.v 2) (.n 1)) (.n 100) .z))) rfl hs hw h5), by rw [S_dots, S_app, jN, List.length_append]; show 3 + _ + 3 ≤ _; exact (qA [_,_,_] 1 (.a (.a (.n 3) (.v 0)) (.n 3)) (.v 1) (.c 1 (.n 1048576) (.v 1) (.c 1 (.v 0) (.v 2) (.c 1 (.a (.v 2) (.n 1)) (.n 100) .z))) rfl hs hw h5), trivial, by rw [jN]; lia, trivial, ?_⟩
 refine ⟨jn [[], (t.take (st + e)).drop st, []], t.take (st + e - 1), by simp only [qD, qE, String.reduceEq, String.reduceBEq, cond_true, cond_false, if_false, if_true], by simp only [qD, if_true, String.reduceBEq, uH, cond_true, cond_false, qF], by rw [List.length_take]; exact (qA [_,_] 1 (.a (.v 0) (.n 1)) (.n 100000) (.c 1 (.v 0) (.v 1) (.c 1 (.a (.v 1) (.n 1)) (.n 100) .z)) rfl (Nat.min_le_right _ _) h5), by rw [mid_len]; exact (qA [_,_] 1 (.a (.a (.v 0) (.n 6)) (.n 1)) (.n 900) (.c 1 (.v 0) (.v 1) (.c 1 (.a (.v 1) (.n 1)) (.n 100) .z)) rfl hw h5), mid_mem _ fun c hc => h6 c (hm c hc), fun c hc => h6 c (List.mem_of_mem_take hc), .inr ⟨_, rfl, Nat.le_succ_of_le (Nat.le_refl _), fun p hp => ?_, fun x => retp_v ?_⟩⟩
 ·simp only [List.mem_cons, List.not_mem_nil, or_false] at hp
  rcases hp with rfl | rfl | rfl
  ·exact List.not_mem_nil
  ·exact fun hc => h7 (hm _ hc)
  ·exact List.not_mem_nil
 ·rw [ellM_mid, qR]
  simpa using hQ
theorem lam2_ok {c : Cx} {P : Params} {mg : Str → Option Value} (Y : Yes c P mg) {A : Around} (rm2 : ∀ cn L a ccd cl, Room 1 (A.deeper (envX cn (lamK P 3).2 L a ccd cl))) : ∀ cn L a ccd cl, EOK { c with A := A.deeper (envX cn (lamK P 3).2 L a ccd cl) } (envX cn (lamK P 3).2 L a ccd cl) (eval (lamK P 3).1 (envX cn (lamK P 3).2 L a ccd cl)) lam2W := by
 intro cn L a ccd cl
 have rm2 := rm2 cn L a ccd cl
 refine EOK.weak (kV (eok_fn (Y.deep _) rm2.dep (by kernel_rfl) (by kernel_rfl) (by kernel_rfl) (by decide) rfl (qG (jJ (jJ pQ (qB (by kernel_rfl)) jU) pQ jU) (qG (pU (qB (by kernel_rfl)) pD (pK (qB (by kernel_rfl))) pD) jI)) ["want", "got"] (fun vs hv => by obtain ⟨a, b, rfl⟩ := len2 hv; kernel_rfl) (by kernel_rfl) (fun L cells hcl => ell_walk (Y.deep _) (rm2.deeper _) L cells hcl)) pJ op_is (by kernel_rfl)) ?_
 intro η σ Q h
 dsimp only [wCons, wAsg, wIf, wRet, wBin, wCmp, wPl, wUn, wAnd, wOr, wIfE, wEs, wSl]
 refine qC fun P kG => ?_
 obtain ⟨t, p, e, h1, h2, h3, h4, h5, h6, h7, h8, hQ⟩ := h
 refine kG ?_
 clear kG P
 simp only [h1, h2, h3, qJ, qF, qD, qK, qL, qT, qH, qI, qM, qN, qY, qZ, qE, String.reduceEq, String.reduceBEq, cond_true, cond_false, uH, if_true, if_false, reduceIte, ite_true, ite_false, zA, zB, zC, zD, zE, zF, qP, zG, qQ, zH, zI, zJ, zK, zL, qR, qU, zM, zN, qO, zO, zP, zQ, zR, zS, zT, qV, zU, zV, zW, zX, zY, qW, zZ, jA, jB, jR, jQ, jS, jC, jD, jE, jF, qX, jG, jH, qS, uA, uB, uC, uD, uE, uF, uG]
 rw [S_sliceTo, jn_mid]
 have hs : (2 : Nat) ^ 20 ≤ sizeLine := by decide
 refine ⟨by rw [jN, dots_len]; exact (qA [_,_] 1 (.a (.n 3) (.v 0)) (.v 1) (.c 1 (.n 1048576) (.v 1) (.c 1 (.a (.v 0) (.n 1)) (.n 100) .z)) rfl hs h6), by rw [S_dots, S_app, jN, List.length_append]; show 3 + _ + 3 ≤ _; exact (qA [_,_] 1 (.a (.a (.n 3) (.v 0)) (.n 3)) (.v 1) (.c 1 (.n 1048576) (.v 1) (.c 1 (.a (.v 0) (.n 1)) (.n 100) .z)) rfl hs h6), trivial, by rw [jN]; lia, trivial, ?_⟩
 refine ⟨jn [[], p, []], t.take e, by simp only [qD, qE, String.reduceEq, String.reduceBEq, cond_true, cond_false, if_false, if_true], by simp only [qD, if_true, String.reduceBEq, uH, cond_true, cond_false, qF], by rw [List.length_take]; exact (qA [_,_] 1 (.a (.v 0) (.n 1)) (.n 100000) (.c 1 (.v 0) (.v 1) (.c 1 (.a (.v 1) (.n 1)) (.n 100) .z)) rfl (Nat.min_le_right _ _) h4), by rw [mid_len]; exact (qA [_] 1 (.a (.a (.v 0) (.n 6)) (.n 1)) (.n 900) (.c 1 (.a (.v 0) (.n 1)) (.n 100) .z) rfl h6), mid_mem _ fun c hc => h7 c hc, fun c hc => h5 c (List.mem_of_mem_take hc), .inr ⟨_, rfl, Nat.le_succ_of_le (Nat.le_refl _), fun p hp => ?_, fun x => retp_v ?_⟩⟩
 ·simp only [List.mem_cons, List.not_mem_nil, or_false] at hp
  rcases hp with rfl | rfl | rfl
  ·exact List.not_mem_nil
  ·exact h8
  ·exact List.not_mem_nil
 ·rw [ellM_mid, qR]
  simpa using hQ
noncomputable def fac (t : List Nat) (s l : Nat) : List Nat := (t.drop s).take l
theorem sl_fac (t : List Nat) (s l : Nat) : (t.take (s + l)).drop s = fac t s l := by
 unfold fac; rw [List.drop_take]; congr 1; simp
theorem kR {t : List Nat} {s l : Nat} (h : s + l ≤ t.length) : (fac t s l).length = l := by
 unfold fac; rw [List.length_take, List.length_drop]; exact (Or.elim (Nat.le_total (l) (t.length - s)) (fun q0 => (Nat.le_antisymm (qA [_,_] 1 (.v 0) (.v 1) (.c 1 (.v 0) (.v 1) .z) rfl (Nat.min_le_left _ _)) (qA [_,_] 1 (.v 0) (.v 1) (.c 1 (.v 0) (.v 1) .z) rfl (uJ (Eq.symm (Nat.min_eq_left (qA [_,_] 1 (.v 0) (.v 1) (.c 1 (.v 0) (.v 1) .z) rfl q0))))))) fun q0 => (Nat.le_antisymm (qA [_,_] 1 (.v 0) (.v 1) (.c 1 (.v 0) (.v 1) .z) rfl (Nat.min_le_left _ _)) (qA [_,_,_,_,_] 1 (.v 0) (.v 1) (.c 1 (.v 2) (.a (.v 3) (.v 4)) (.c 1 (.v 3) (.v 1) (.c 1 (.a (.v 4) (.v 0)) (.v 2) .z))) rfl (jV _ _) (uJ (Eq.symm (Nat.min_eq_right (qA [_,_] 1 (.v 0) (.v 1) (.c 1 (.v 0) (.v 1) .z) rfl q0)))) h)))
theorem fac_len_le (t : List Nat) (s l : Nat) : (fac t s l).length ≤ l := by
 unfold fac; rw [List.length_take]; exact Nat.min_le_left _ _
theorem fac_take {t : List Nat} {e i k : Nat} (h : i + k ≤ e) : fac (t.take e) i k = fac t i k := by
 unfold fac; rw [List.drop_take, List.take_take, Nat.min_eq_left (by exact (qA [_,_,_,_] 1 (.v 0) (.v 1) (.c 1 (.v 2) (.a (.v 1) (.v 3)) (.c 1 (.a (.v 3) (.v 0)) (.v 2) .z)) rfl (jV _ _) h))]
theorem fac_pre (t : List Nat) (s l k : Nat) (h : k ≤ l) : (fac t s l).take k = fac t s k := by
 unfold fac; rw [List.take_take, Nat.min_eq_left h]
theorem fac_suf (t : List Nat) (s l k : Nat) (h : k ≤ l) : (fac t s l).drop k = fac t (s + k) (l - k) := by
 unfold fac; rw [List.drop_take, List.drop_drop]
theorem fac_sub (t : List Nat) (s l a k : Nat) (h : a + k ≤ l) : fac (fac t s l) a k = fac t (s + a) k := by
 unfold fac; rw [List.drop_take, List.drop_drop, List.take_take, Nat.min_eq_left (by lia)]
theorem kB (t p : List Nat) (hi i : Nat) : At' t p hi i ↔ i + p.length ≤ hi ∧ fac t i p.length = p := by
 unfold At' atL fac; rw [decide_eq_true_iff]
theorem has_take {t p : List Nat} {e : Nat} (he : e ≤ t.length) : hasL (t.take e) p = true ↔ ∃ i, i + p.length ≤ e ∧ fac t i p.length = p := by
 rw [hasL_iff]
 have hl : (t.take e).length = e := by rw [List.length_take]; lia
 constructor
 ·rintro ⟨i, h⟩
  rw [kB, hl] at h
  exact ⟨i, h.1, by rw [← fac_take (e := e) h.1]; exact h.2⟩
 ·rintro ⟨i, h1, h2⟩
  exact ⟨i, by rw [kB, hl]; exact ⟨h1, by rw [fac_take h1]; exact h2⟩⟩
noncomputable def occB (t : List Nat) (s l : Nat) : Bool := hasL (t.take (s + l - 1)) (fac t s l)
theorem occB_iff {t : List Nat} {s l : Nat} (h1 : 1 ≤ l) (h : s + l ≤ t.length) : occB t s l = true ↔ ∃ j, j < s ∧ fac t j l = fac t s l := by
 unfold occB
 rw [has_take (by exact Nat.le_trans (Nat.sub_le _ _) ‹_›)]
 rw [kR h]
 constructor
 ·rintro ⟨i, a, b⟩; exact ⟨i, by exact (qA [_,_,_,_] 1 (.a (.v 0) (.n 1)) (.v 1) (.c 1 (.a (.v 2) (.n 1)) (.a (.v 1) (.v 3)) (.c 1 (.a (.v 0) (.v 3)) (.v 2) .z)) rfl (jL (qA [_,_] 1 (.n 1) (.a (.v 0) (.v 1)) (.c 1 (.n 1) (.v 1) .z) rfl h1)) a), b⟩
 ·rintro ⟨i, a, b⟩; exact ⟨i, by exact (qA [_,_,_,_] 1 (.a (.v 0) (.v 1)) (.v 2) (.c 1 (.a (.v 3) (.v 1)) (.a (.v 2) (.n 1)) (.c 1 (.a (.v 0) (.n 1)) (.v 3) .z)) rfl (jV _ _) a), b⟩
theorem occB_down {t : List Nat} {s l k : Nat} (h1 : 1 ≤ k) (hk : k ≤ l) (h : s + l ≤ t.length) (ho : occB t s l = true) : occB t s k = true := by
 obtain ⟨j, a, b⟩ := (occB_iff (by exact Nat.le_trans ‹_› ‹_›) h).mp ho
 refine (occB_iff h1 (by exact (qA [_,_,_,_] 1 (.a (.v 0) (.v 1)) (.v 2) (.c 1 (.a (.v 0) (.v 3)) (.v 2) (.c 1 (.v 1) (.v 3) .z)) rfl h hk))).mpr ⟨j, a, ?_⟩
 rw [← fac_pre t j l k hk, b, fac_pre t s l k hk]
noncomputable def stood (t : List Nat) (s : Nat) : Nat := ((List.range (t.length - s)).takeWhile fun i => occB t s (i + 1)).length
theorem tw_len {α : Type} (p : α → Bool) : ∀ l : List α, (l.takeWhile p).length ≤ l.length
 | [] => Nat.le_refl _
 | a :: l => by
  rw [List.takeWhile_cons]; split
  ·simpa using tw_len p l
  ·simp
theorem tw_true {α : Type} (p : α → Bool) : ∀ (l : List α) (i : Nat) (x : α), i < (l.takeWhile p).length → l[i]? = some x → p x = true
 | a :: l, i, x, h, e => by
  rw [List.takeWhile_cons] at h
  split at h
  ·rename_i q
   cases i with
   | zero => simp at e; subst e; exact q
   | succ i => exact tw_true p l i x (by simpa using h) (by simpa using e)
  ·simp at h
theorem tw_false {α : Type} (p : α → Bool) : ∀ (l : List α) (x : α), l[(l.takeWhile p).length]? = some x → p x = false
 | a :: l, x, e => by
  rw [List.takeWhile_cons] at e
  split at e
  ·exact tw_false p l x (by simpa using e)
  ·rename_i q
   simp at e; subst e; simpa using q
theorem stood_le (t : List Nat) (s : Nat) : stood t s ≤ t.length - s := by
 have := tw_len (fun i => occB t s (i + 1)) (List.range (t.length - s))
 rwa [List.length_range] at this
theorem stood_spec (t : List Nat) (s i : Nat) (hi : i < t.length - s) : occB t s (i + 1) = decide (i < stood t s) := by
 have hget : ∀ j, j < t.length - s → (List.range (t.length - s))[j]? = some j := fun j hj => by rw [List.getElem?_range hj]
 by_cases h : i < stood t s
 ·rw [decide_eq_true h]
  exact tw_true (fun i => occB t s (i + 1)) _ i i h (hget i hi)
 ·rw [decide_eq_false h]
  have h0 := tw_false (fun i => occB t s (i + 1)) (List.range (t.length - s)) (stood t s) (hget (stood t s) (by have := stood_le t s; (clear this; exact (qA [_,_,_] 1 (.a (.v 0) (.n 1)) (.v 1) (.c 1 (.v 0) (.v 2) (.c 1 (.a (.v 2) (.n 1)) (.v 1) .z)) rfl (Nat.not_lt.mp h) hi))))
  cases hb : occB t s (i + 1) with
  | false => rfl
  | true =>
   have := occB_down (k := stood t s + 1) (by exact Nat.succ_pos _) (by exact Nat.lt_of_not_le ‹_›) (by exact (Or.elim (Nat.le_total (t.length) (s)) (fun q0 => (False.elim (jY [_,_] (.c 1 (.v 0) (.n 0) (.c 1 (.a (.v 1) (.n 1)) (.v 0) .z)) rfl (subZ (qA [_,_] 1 (.v 0) (.v 1) (.c 1 (.v 0) (.v 1) .z) rfl q0)) hi))) fun q0 => (qA [_,_,_,_] 1 (.a (.v 0) (.a (.v 1) (.n 1))) (.v 2) (.c 1 (.a (.v 3) (.v 0)) (.v 2) (.c 1 (.a (.v 1) (.n 1)) (.v 3) .z)) rfl (jL (qA [_,_] 1 (.v 0) (.v 1) (.c 1 (.v 0) (.v 1) .z) rfl q0)) hi))) hb
   rw [this] at h0; cases h0
theorem vH (t : List Nat) (s l : Nat) (h1 : 1 ≤ l) (h : s + l ≤ t.length) : (∃ j, j < s ∧ fac t j l = fac t s l) ↔ l ≤ stood t s := by
 rw [← occB_iff h1 h]
 have := stood_spec t s (l - 1) (by exact (qA [_,_,_,_,_] 1 (.a (.v 0) (.n 1)) (.v 1) (.c 1 (.v 2) (.a (.v 1) (.v 3)) (.c 1 (.a (.v 0) (.n 1)) (.v 4) (.c 1 (.a (.v 3) (.v 4)) (.v 2) .z))) rfl (jV _ _) (jL (qA [_] 1 (.n 1) (.v 0) (.c 1 (.n 1) (.v 0) .z) rfl h1)) h))
 rw [Nat.sub_add_cancel h1] at this
 rw [this, decide_eq_true_iff]; exact ⟨fun q0 => (qA [_,_,_] 1 (.v 0) (.v 1) (.c 1 (.v 0) (.a (.v 2) (.n 1)) (.c 1 (.a (.v 2) (.n 1)) (.v 1) .z)) rfl (jV _ _) q0), fun q0 => (qA [_,_,_] 1 (.a (.v 0) (.n 1)) (.v 1) (.c 1 (.a (.v 0) (.n 1)) (.v 2) (.c 1 (.v 2) (.v 1) .z)) rfl (jL (qA [_] 1 (.n 1) (.v 0) (.c 1 (.n 1) (.v 0) .z) rfl h1)) q0)⟩
noncomputable def first (t p : List Nat) : Nat := (lfind t p 0 t.length).getD 0
theorem first_spec {t p : List Nat} {i : Nat} (h : i + p.length ≤ t.length) (e : fac t i p.length = p) : first t p ≤ i ∧ fac t (first t p) p.length = p ∧ (∀ j, j + p.length ≤ t.length → fac t j p.length = p → first t p ≤ j) ∧ lfind t p 0 t.length = some (first t p) := by
 unfold first
 cases hl : lfind t p 0 t.length with
 | none => exact absurd ((kB t p t.length i).mpr ⟨h, e⟩) (lfind_none hl i (Nat.zero_le _))
 | some j =>
  obtain ⟨_, a, b⟩ := vB hl
  rw [kB] at a
  have c : ∀ k, k + p.length ≤ t.length → fac t k p.length = p → j ≤ k := fun k h1 h2 => by
   rcases Nat.lt_or_ge k j with q | q
   ·exact absurd ((kB t p t.length k).mpr ⟨h1, h2⟩) (b k (Nat.zero_le _) q)
   ·exact q
  exact ⟨c i h e, a.2, c, rfl⟩
theorem has_first {t p : List Nat} {i e : Nat} (h : i + p.length ≤ t.length) (ei : fac t i p.length = p) (he : e ≤ t.length) : hasL (t.take e) p = decide (first t p + p.length ≤ e) := by
 refine qC fun P kG => ?_
 obtain ⟨a, b, c, _⟩ := first_spec h ei
 refine kG ?_
 clear kG P
 rw [Bool.eq_iff_iff, has_take he, decide_eq_true_iff]
 constructor
 ·rintro ⟨j, h1, h2⟩
  have := c j (by exact Nat.le_trans ‹_› ‹_›) h2
  exact (qA [_,_,_,_] 1 (.a (.v 0) (.v 1)) (.v 2) (.c 1 (.v 0) (.v 3) (.c 1 (.a (.v 3) (.v 1)) (.v 2) .z)) rfl this h1)
 ·intro h1; exact ⟨_, h1, b⟩
noncomputable def codeOf (t : List Nat) (s : Nat) : Nat := if stood t s = 0 then t.getD s 97 - 97 else 16 * stood t s + (s - first t (fac t s (stood t s)))
noncomputable def cutsF (t : List Nat) : Nat → Nat → List (Nat × Nat × Nat)
 | 0, _ => []
 | f + 1, s => if s < t.length then (s, max (stood t s) 1, codeOf t s) :: cutsF t f (s + max (stood t s) 1) else []
noncomputable def cutD (t : List Nat) (x : Nat × Nat × Nat) : PyData := .tuple [.int x.1, .str (S (fac t x.1 x.2.1)), .int x.2.2]
noncomputable def abc3 (t : List Nat) : Prop := ∀ c ∈ t, c = 97 ∨ c = 98 ∨ c = 99
theorem abc_find {c : Nat} (h : c = 97 ∨ c = 98 ∨ c = 99) : lfind ABC [c] 0 3 = some (c - 97) := by
 rcases h with rfl | rfl | rfl <;> decide
noncomputable def cutW : SW := fun η σ _ Rt => ∃ (t : List Nat), vget "text" η = some (.v (.str (S t))) ∧ t.length < 100 ∧ abc3 t ∧ σ = [.tab 239 []] ∧ ∀ qs junk, Rt (.own 1) ([.tab 239 qs, .list ((cutsF t t.length 0).map (cutD t))] ++ junk)
theorem oList_ab {a b : Nat} {σ : Sto} {Q : XV → Sto → Prop} (h : a ≤ b) (h2 : b < 100000) (hQ : Q (.own σ.length) (σ ++ [.list (nlist (List.range' a (b - a)))])) : oList [.rng (a : Int) (b : Int) 1] σ Q := by
 have h3 := iter_ab a b h h2
 unfold iterOf at h3
 dsimp only at h3
 split at h3
 ·rename_i hc
  rw [Option.some.injEq] at h3
  show (_ ∧ _ ∧ _) ∧ Q (.own σ.length) (σ ++ [.list (rngList a b 1)])
  rw [h3]
  refine ⟨⟨hc.1, hc.2, ?_⟩, hQ⟩
  unfold Builtin.Range.rangeSize
  simp
  lia
 ·cases h3
theorem oAdd_lo {ds : List PyData} {i : Nat} {σ : Sto} {Q : XV → Sto → Prop} : oAdd (.v (.list ds)) (.own i) σ Q = ∃ xs ys, some ds = some xs ∧ lst? σ (.own i) = some ys ∧ xs.length + ys.length ≤ sizeLine ∧ Q (.v (.list (xs ++ ys))) σ := rfl
theorem repD (k n : Nat) (l : List Nat) : (List.replicate k [PyData.int n]).flatten ++ nlist l = nlist (List.replicate k n ++ l) := by
 unfold nlist
 rw [List.map_append, List.map_replicate]
 congr 1
 induction k with
 | zero => rfl
 | succ k ih => rw [List.replicate_succ, List.flatten_cons, ih]; rfl
theorem repGet (k n s i e : Nat) (h1 : k ≤ i) (h : (List.replicate k n ++ List.range' k s)[i]? = some e) : e = i := by
 rw [List.getElem?_append_right (by rw [List.length_replicate]; exact h1), List.length_replicate] at h
 obtain ⟨h3, h4⟩ := List.getElem?_eq_some_iff.mp h
 rw [List.getElem_range'] at h4
 exact (Nat.le_antisymm (qA [_,_,_,_] 1 (.v 0) (.v 1) (.c 1 (.a (.v 2) (.v 3)) (.v 1) (.c 1 (.v 0) (.a (.v 3) (.m 1 (.v 2))) .z)) rfl (jL (qA [_,_] 1 (.v 0) (.v 1) (.c 1 (.v 0) (.v 1) .z) rfl h1)) (uJ (Eq.symm h4))) (qA [_,_,_,_] 1 (.v 0) (.v 1) (.c 1 (.v 0) (.a (.v 2) (.v 3)) (.c 1 (.a (.v 3) (.m 1 (.v 2))) (.v 1) .z)) rfl (jV _ _) (uJ h4)))
theorem addQ_ok {pos : Pos} {q : Str} {qs : List ((Nat × Nat) × Str)} (h : ∀ k x, qs.lookup k = some x → x = q) : ∀ k x, (addQ pos q qs).lookup k = some x → x = q := by
 intro k x e
 unfold addQ at e
 split at e
 ·exact h k x e
 ·rw [List.lookup_append] at e
  cases hl : qs.lookup k with
  | some y => rw [hl] at e; cases e; exact h k _ hl
  | none =>
   rw [hl, Option.none_or, List.lookup_cons] at e
   split at e
   ·cases e; rfl
   ·cases e
theorem fac_one {t : List Nat} {s : Nat} (h : s < t.length) : fac t s 1 = [t.getD s 97] := by
 unfold fac
 rw [List.drop_eq_getElem_cons h, List.getD_eq_getElem?_getD, List.getElem?_eq_getElem h]
 rfl
noncomputable abbrev cutI (Q0 : Str) (t : List Nat) (n : Nat) (η : Vars) (σ : Sto) : Prop := ∃ (s f : Nat) (done : List PyData) (qs : List ((Nat × Nat) × Str)) (junk : Sto), n = t.length - s ∧ s ≤ t.length ∧ t.length - s ≤ f ∧ done.length ≤ s ∧ done ++ (cutsF t f s).map (cutD t) = (cutsF t t.length 0).map (cutD t) ∧
  vget "cuts" η = some (.own 1) ∧ vget "text" η = some (.v (.str (S t))) ∧ vget "start" η = some (.v (.int s)) ∧ σ = [.tab 239 qs, .list done] ++ junk ∧ (∀ k x, qs.lookup k = some x → x = Q0)
noncomputable abbrev cutB (Q0 : Str) (E : List Nat → Nat → Vars → Prop) : SW := fun η σ N _ => ∃ (t : List Nat) (s f : Nat) (done : List PyData) (qs : List ((Nat × Nat) × Str)) (junk : Sto), t.length < 100 ∧ abc3 t ∧ s < t.length ∧ t.length - s ≤ f ∧ done.length ≤ s ∧ done ++ (cutsF t f s).map (cutD t) = (cutsF t t.length 0).map (cutD t) ∧
  vget "cuts" η = some (.own 1) ∧ vget "text" η = some (.v (.str (S t))) ∧ vget "start" η = some (.v (.int s)) ∧ σ = [.tab 239 qs, .list done] ++ junk ∧ (∀ k x, qs.lookup k = some x → x = Q0) ∧ E t s η ∧ ∀ m η' σ', m < t.length - s → cutI Q0 t m η' σ' → N η' σ'
noncomputable abbrev cut1 (t : List Nat) (s : Nat) (η : Vars) : Prop := vget "stood" η = some (.v (.int (stood t s)))
noncomputable abbrev cut2 (t : List Nat) (s : Nat) (η : Vars) : Prop := vget "piece" η = some (.v (.str (S (fac t s (max (stood t s) 1))))) ∧ vget "code" η = some (.v (.int (codeOf t s)))
theorem cut_walk {c : Cx} {P : Params} {mg : Str → Option Value} (Y : Yes c P mg) (C0 : CodeHd c.base 243 239) (hbt : c.base.BuiltinsAt mg 239) (hgP : mainGlobals ≠ 239) (rm : Room 3 c.A) (L : Addr) (cells : List (Str × Addr)) (hcl : CellsOk (defEnv (kfd P 244) 244 L cells)) :
  SOK c (defEnv (kfd P 244) 244 L cells) (execs (kbody P 244) (defEnv (kfd P 244) 244 L cells)) cutW := by
 have hh := rm.hd
 have heq := rm.eq
 generalize hQ0 : (kfd P 244).qualname ++ Str.ofString ".<locals>." ++ Str.ofString "<lambda>" = Q0
 refine SOK.weak (jK (sok_tuple_fwd hh [("cuts", _), ("start", _)] rfl rfl rfl (nms1 _ (by kernel_rfl)) rfl (qG (kM rfl jI) (qG (jM (k := 0) (pos := default)) jI)) (by kernel_rfl) (by kernel_rfl))
 (jK (sok_while (WB := cutB Q0 fun _ _ _ => True) (jW (qB (by kernel_rfl)) (pR Y.G (by kernel_rfl) (Y.none (by kernel_rfl)) pZ (by decide) (by decide) rfl rfl (qG (qB (by kernel_rfl)) jI) kA) op_lt jT (by kernel_rfl)) ?hb)
 (jK (pC (qB (by kernel_rfl)))
 jP))) ?_
 case hb =>
  refine SOK.weak (jK (W2 := cutB Q0 cut1) (jZ (by kernel_rfl) (eok_fnKey (WB := bslW c.base (lamK P 0).2 "size" (lamK P 0).1 lam1W) Y C0 (by kernel_rfl) hbt hgP rm.dep (by kernel_rfl) (by kernel_rfl) (by kernel_rfl) (by decide) rfl (qG (eok_froze (kX Y.G (by kernel_rfl) (Y.none (by kernel_rfl)) boot_list (by decide) (by decide) rfl rfl (qG (kX Y.G (by kernel_rfl) (Y.none (by kernel_rfl)) vJ (by decide) (by decide) rfl rfl (qG (jM (k := 0) (pos := default)) (qG (jJ (pR Y.G (by kernel_rfl) (Y.none (by kernel_rfl)) pZ (by decide) (by decide) rfl rfl (qG (qB (by kernel_rfl)) jI) kA) jM jU) jI)) op_range) jI) (op_list hh))) (qG (pJ (k := 0) (pos := default)) (qG (jM (k := 0) (pos := default)) (qG (jJ (pR Y.G (by kernel_rfl) (Y.none (by kernel_rfl)) pZ (by decide) (by decide) rfl rfl (qG (qB (by kernel_rfl)) jI) kA) (qB (by kernel_rfl)) op_sub) jI)))) (pL (by kernel_rfl)) rfl (by kernel_rfl) (fun _ _ _ _ _ _ => rfl) ["text", "start"] rfl bslBind (bsl_bind Y) bslNm (fun L2 cells2 hcl2 => bsl_walk (c := { c with A := c.A.deeper (defEnv (kfd P 63) 63 L2 cells2) }) (Y.deep _) ((rm.deeper (defEnv (kfd P 63) 63 L2 cells2)).less (Nat.zero_le _)) (lam1_ok Y (fun _ _ _ _ _ => (rm.deeper (defEnv (kfd P 63) 63 L2 cells2)).deeper _)) L2 cells2 hcl2))) ?h2) ?_
  case h2 =>
   refine SOK.weak (jK (jZ (by kernel_rfl) (pU (qB (by kernel_rfl)) (pK (qB (by kernel_rfl))) (pK (jJ (qB (by kernel_rfl)) (pR Y.G (by kernel_rfl) (Y.none (by kernel_rfl)) boot_max (by decide) (by decide) rfl rfl (qG (qB (by kernel_rfl)) (qG (jM (k := 0) (pos := default)) jI)) (op_max hh)) jU)) pD))
   (jK (jZ (by kernel_rfl) (kN GM.find rfl pQ (qG (qB (by kernel_rfl)) jI) op_find))
   (jK (W2 := cutB Q0 cut2) (pS (jW (qB (by kernel_rfl)) jM op_gt jT (by kernel_rfl)) (jK (jZ (by kernel_rfl) (eok_fnKey (WB := bslW c.base (lamK P 3).2 "size" (lamK P 3).1 lam2W) Y C0 (by kernel_rfl) hbt hgP rm.dep (by kernel_rfl) (by kernel_rfl) (by kernel_rfl) (by decide) rfl (qG (jJ (jJ (kM rfl (qG (pR Y.G (by kernel_rfl) (Y.none (by kernel_rfl)) pZ (by decide) (by decide) rfl rfl (qG (qB (by kernel_rfl)) jI) kA) jI)) (qB (by kernel_rfl)) op_mul) (kX Y.G (by kernel_rfl) (Y.none (by kernel_rfl)) boot_list (by decide) (by decide) rfl rfl (qG (kX Y.G (by kernel_rfl) (Y.none (by kernel_rfl)) vJ (by decide) (by decide) rfl rfl (qG (qB (by kernel_rfl)) (qG (jJ (qB (by kernel_rfl)) (qB (by kernel_rfl)) jU) jI)) op_range) jI) (op_list hh)) jU) (qG (pJ (k := 0) (pos := default)) (qG (qB (by kernel_rfl)) jI))) (pL (by kernel_rfl)) rfl (by kernel_rfl) (fun _ _ _ _ _ _ => rfl) ["text", "piece"] rfl bslBind (bsl_bind Y) bslNm (fun L2 cells2 hcl2 => bsl_walk (c := { c with A := c.A.deeper (defEnv (kfd P 63) 63 L2 cells2) }) (Y.deep _) ((rm.deeper (defEnv (kfd P 63) 63 L2 cells2)).less (Nat.zero_le _)) (lam2_ok Y (fun _ _ _ _ _ => (rm.deeper (defEnv (kfd P 63) 63 L2 cells2)).deeper _)) L2 cells2 hcl2)))
   (jK (jZ (by kernel_rfl) (jJ (jJ (jJ (jJ jM (qB (by kernel_rfl)) op_mul) (qB (by kernel_rfl)) jU) (qB (by kernel_rfl)) jU) (qB (by kernel_rfl)) op_sub))
   jP)) jP) ?h4))) ?_
   case h4 =>
    refine SOK.weak (jK (sok_expr (eok_lmeth PySem.F.slot_list_append PySem.F.type_list_append rfl (qB (by kernel_rfl)) (eok_tuple (k := 0) rfl (qG (qB (by kernel_rfl)) (qG (qB (by kernel_rfl)) (qG (qB (by kernel_rfl)) jI)))) op_append))
    (jK (jZ (by kernel_rfl) (jJ (qB (by kernel_rfl)) (pR Y.G (by kernel_rfl) (Y.none (by kernel_rfl)) pZ (by decide) (by decide) rfl rfl (qG (qB (by kernel_rfl)) jI) kA) jU)) jP)) ?_
    intro η σ N Rt h
    dsimp only [wCons, wAsg, wIf, wRet, wBin, wCmp, wPl, wUn, wAnd, wOr, wIfE, wEs, wSl]
    refine qC fun P kG => ?_
    obtain ⟨t, s, f, done, qs, junk, h2, h3, hlt, b2, b3, b4, g1, g2, g3, hσ, g4, ⟨g5, g6⟩, hR⟩ := h
    refine kG ?_
    clear kG P
    subst hσ
    have hs : (2 : Nat) ^ 20 ≤ sizeLine := by decide
    have hsl := stood_le t s
    obtain ⟨f', rfl⟩ : ∃ f', f = f' + 1 := ⟨f - 1, by exact (Nat.le_antisymm (qA [_,_] 1 (.v 0) (.a (.v 1) (.n 1)) (.c 1 (.v 0) (.a (.v 1) (.n 1)) .z) rfl (jV _ _)) (qA [_,_] 1 (.a (.v 0) (.n 1)) (.v 1) (.c 1 (.a (.v 0) (.n 1)) (.v 1) .z) rfl (jL (qA [_,_,_,_] 1 (.n 1) (.v 0) (.c 1 (.v 1) (.a (.v 2) (.v 3)) (.c 1 (.v 2) (.v 0) (.c 1 (.a (.v 3) (.n 1)) (.v 1) .z))) rfl (jV _ _) b2 hlt))))⟩
    have hcut : cutsF t (f' + 1) s = (s, max (stood t s) 1, codeOf t s) :: cutsF t f' (s + max (stood t s) 1) := by rw [cutsF, if_pos hlt]
    generalize hm : max (stood t s) 1 = m at hcut g5
    have e1 : (s : Int) + (m : Int) = ((s + m : Nat) : Int) := by exact Int.natCast_add _ _
    simp only [g1, g2, g3, g5, g6, qJ, qF, qD, qK, qL, qT, qH, qI, qM, qN, qY, qZ, qE, String.reduceEq, String.reduceBEq, cond_true, cond_false, uH, if_true, if_false, reduceIte, ite_true, ite_false, zA, zB, zC, zD, zE, zF, qP, zG, qQ, zH, zI, zJ, zK, zL, qR, qU, zM, zN, qO, zO, zP, zQ, zR, zS, zT, qV, zU, zV, zW, zX, zY, qW, zZ, jA, jB, jR, jQ, jS, jC, jD, jE, jF, qX, jG, jH, qS, uA, uB, uC, uD, uE, uF, uG, jN]
    refine ⟨1, rfl, ⟨_, rfl⟩, by exact Nat.le_add_left _ _, done, rfl, _, rfl, by exact (qA [_,_,_,_,_] 1 (.v 0) (.v 1) (.c 1 (.a (.v 2) (.v 3)) (.v 4) (.c 1 (.n 1048576) (.v 1) (.c 1 (.v 0) (.v 3) (.c 1 (.a (.v 4) (.n 1)) (.n 100) .z)))) rfl (jL (qA [_,_] 1 (.v 0) (.v 1) (.c 1 (.a (.v 0) (.n 1)) (.v 1) .z) rfl hlt)) hs b3 h2), rfl, by rw [kR (by exact (Or.elim (Nat.le_total (stood t s) (1)) (fun q0 => (qA [_,_,_,_] 1 (.a (.v 0) (.v 1)) (.v 2) (.c 1 (.v 3) (.n 1) (.c 1 (.v 1) (.v 3) (.c 1 (.a (.v 0) (.n 1)) (.v 2) .z))) rfl (uJ (Nat.max_eq_right (qA [_] 1 (.v 0) (.n 1) (.c 1 (.v 0) (.n 1) .z) rfl q0))) (uJ (Eq.symm hm)) hlt)) fun q0 => (qA [_,_,_,_,_,_] 1 (.a (.v 0) (.v 1)) (.v 2) (.c 1 (.v 3) (.v 4) (.c 1 (.a (.v 5) (.v 0)) (.v 2) (.c 1 (.v 1) (.v 3) (.c 1 (.v 4) (.v 5) .z)))) rfl (uJ (Nat.max_eq_left (qA [_] 1 (.n 1) (.v 0) (.c 1 (.n 1) (.v 0) .z) rfl q0))) (jL (qA [_,_] 1 (.v 0) (.v 1) (.c 1 (.a (.v 0) (.n 1)) (.v 1) .z) rfl hlt)) (uJ (Eq.symm hm)) hsl)))]; exact (Or.elim (Nat.le_total (stood t s) (1)) (fun q0 => (qA [_,_] 1 (.a (.v 0) (.n 1)) (.n 4611686018427387904) (.c 1 (.v 1) (.n 1) (.c 1 (.v 0) (.v 1) .z)) rfl (uJ (Nat.max_eq_right (qA [_] 1 (.v 0) (.n 1) (.c 1 (.v 0) (.n 1) .z) rfl q0))) (uJ (Eq.symm hm)))) fun q0 => (qA [_,_,_,_,_] 1 (.a (.v 0) (.n 1)) (.n 4611686018427387904) (.c 1 (.v 1) (.v 2) (.c 1 (.v 3) (.v 4) (.c 1 (.v 0) (.v 1) (.c 1 (.v 2) (.v 3) (.c 1 (.a (.v 4) (.n 1)) (.n 100) .z))))) rfl (uJ (Nat.max_eq_left (qA [_] 1 (.n 1) (.v 0) (.c 1 (.n 1) (.v 0) .z) rfl q0))) (Nat.sub_le _ _) (uJ (Eq.symm hm)) hsl h2)), hR (t.length - (s + m)) _ _ (by exact (Or.elim (Nat.le_total (stood t s) (1)) (fun q0 => (qA [_,_,_,_,_,_] 1 (.a (.v 0) (.n 1)) (.v 1) (.c 1 (.a (.v 0) (.a (.v 2) (.v 3))) (.v 4) (.c 1 (.n 1) (.v 5) (.c 1 (.v 4) (.a (.v 1) (.v 2)) (.c 1 (.v 5) (.v 3) .z)))) rfl (jL (qA [_,_,_,_] 1 (.a (.v 0) (.v 1)) (.v 2) (.c 1 (.v 3) (.n 1) (.c 1 (.v 1) (.v 3) (.c 1 (.a (.v 0) (.n 1)) (.v 2) .z))) rfl (uJ (Nat.max_eq_right (qA [_] 1 (.v 0) (.n 1) (.c 1 (.v 0) (.n 1) .z) rfl q0))) (uJ (Eq.symm hm)) hlt)) (Nat.le_max_right _ _) (jV _ _) (uJ hm))) fun q0 => (qA [_,_,_,_,_,_,_] 1 (.a (.v 0) (.n 1)) (.v 1) (.c 1 (.a (.v 0) (.a (.v 2) (.v 3))) (.v 4) (.c 1 (.v 5) (.v 6) (.c 1 (.v 4) (.a (.v 1) (.v 2)) (.c 1 (.n 1) (.v 5) (.c 1 (.v 6) (.v 3) .z))))) rfl (jL (qA [_,_,_,_,_,_] 1 (.a (.v 0) (.v 1)) (.v 2) (.c 1 (.v 3) (.v 4) (.c 1 (.a (.v 5) (.v 0)) (.v 2) (.c 1 (.v 1) (.v 3) (.c 1 (.v 4) (.v 5) .z)))) rfl (uJ (Nat.max_eq_left (qA [_] 1 (.n 1) (.v 0) (.c 1 (.n 1) (.v 0) .z) rfl q0))) (jL (qA [_,_] 1 (.v 0) (.v 1) (.c 1 (.a (.v 0) (.n 1)) (.v 1) .z) rfl hlt)) (uJ (Eq.symm hm)) hsl)) (Nat.le_max_left _ _) (jV _ _) q0 (uJ hm)))) ⟨s + m, f', done ++ [cutD t (s, m, codeOf t s)], qs, junk, rfl, by lia, by exact (Or.elim (Nat.le_total (stood t s) (1)) (fun q0 => (qA [_,_,_,_,_,_,_] 1 (.v 0) (.v 1) (.c 1 (.a (.v 0) (.a (.v 2) (.v 3))) (.v 4) (.c 1 (.n 1) (.v 5) (.c 1 (.v 4) (.a (.v 6) (.v 2)) (.c 1 (.v 5) (.v 3) (.c 1 (.v 6) (.a (.v 1) (.n 1)) .z))))) rfl (jL (qA [_,_,_,_] 1 (.a (.v 0) (.v 1)) (.v 2) (.c 1 (.v 3) (.n 1) (.c 1 (.v 1) (.v 3) (.c 1 (.a (.v 0) (.n 1)) (.v 2) .z))) rfl (uJ (Nat.max_eq_right (qA [_] 1 (.v 0) (.n 1) (.c 1 (.v 0) (.n 1) .z) rfl q0))) (uJ (Eq.symm hm)) hlt)) (Nat.le_max_right _ _) (jV _ _) (uJ hm) b2)) fun q0 => (qA [_,_,_,_,_,_,_] 1 (.v 0) (.v 1) (.c 1 (.a (.v 0) (.a (.v 2) (.v 3))) (.v 4) (.c 1 (.n 1) (.v 5) (.c 1 (.v 4) (.a (.v 6) (.v 2)) (.c 1 (.v 5) (.v 3) (.c 1 (.v 6) (.a (.v 1) (.n 1)) .z))))) rfl (jL (qA [_,_,_,_,_,_] 1 (.a (.v 0) (.v 1)) (.v 2) (.c 1 (.v 3) (.v 4) (.c 1 (.a (.v 5) (.v 0)) (.v 2) (.c 1 (.v 1) (.v 3) (.c 1 (.v 4) (.v 5) .z)))) rfl (uJ (Nat.max_eq_left (qA [_] 1 (.n 1) (.v 0) (.c 1 (.n 1) (.v 0) .z) rfl q0))) (jL (qA [_,_] 1 (.v 0) (.v 1) (.c 1 (.a (.v 0) (.n 1)) (.v 1) .z) rfl hlt)) (uJ (Eq.symm hm)) hsl)) (Nat.le_max_right _ _) (jV _ _) (uJ hm) b2)), by simp; exact (qA [_,_,_,_] 1 (.a (.v 0) (.n 1)) (.a (.v 1) (.v 2)) (.c 1 (.n 1) (.v 3) (.c 1 (.v 3) (.v 2) (.c 1 (.v 0) (.v 1) .z))) rfl (Nat.le_max_right _ _) (uJ hm) b3), ?_, ?_, ?_, ?_, ?_, g4⟩⟩
    ·rw [← b4, hcut, List.map_cons, List.append_assoc]; rfl
    ·exact Eq.trans (by kernel_rfl) g1
    ·exact Eq.trans (by kernel_rfl) g2
    ·rw [kR (by lia), e1]; kernel_rfl
    ·unfold cutD; rfl
   intro η σ N Rt h
   dsimp only [wCons, wAsg, wIf, wRet, wBin, wCmp, wPl, wUn, wAnd, wOr, wIfE, wEs, wSl]
   refine qC fun P kG => ?_
   obtain ⟨t, s, f, done, qs1, junk1, h2, h3, hlt, b2, b3, b4, g1, g2, g3, hσ, g5, g6, hR⟩ := h
   refine kG ?_
   clear kG P
   subst hσ
   have hs : (2 : Nat) ^ 20 ≤ sizeLine := by decide
   have hsl := stood_le t s
   have hmx : (if (1 : Int) > (stood t s : Int) then (1 : Int) else (stood t s : Int)) = ((max (stood t s) 1 : Nat) : Int) := by
    split <;> lia
   have hfin : ∀ (η' : Vars) (qs2 : List ((Nat × Nat) × Str)) (junk2 : Sto), (∀ k x, qs2.lookup k = some x → x = Q0) → vget "cuts" η' = vget "cuts" η → vget "text" η' = vget "text" η → vget "start" η' = vget "start" η → cut2 t s η' → cutB Q0 cut2 η' ([.tab 239 qs2, .list done] ++ junk2) N Rt := fun η' qs2 junk2 q e1 e2 e3 e4 => ⟨t, s, f, done, qs2, junk2, h2, h3, hlt, b2, b3, b4, e1.trans g1, e2.trans g2, e3.trans g3, rfl, q, e4, hR⟩
   unfold cut2 at hfin
   generalize hm : max (stood t s) 1 = m at hmx hfin
   have e1 : (s : Int) + (m : Int) = ((s + m : Nat) : Int) := by lia
   generalize cutB Q0 cut2 = B4 at hfin ⊢
   simp only [g1, g2, g3, g6, hmx, hQ0, qJ, qF, qD, qK, qL, qT, qH, qI, qM, qN, qY, qZ, qE, String.reduceEq, String.reduceBEq, cond_true, cond_false, uH, if_true, if_false, reduceIte, ite_true, ite_false, zA, zB, zC, zD, zE, zF, qP, zG, qQ, zH, zI, zJ, zK, zL, qR, qU, zM, zN, qO, zO, zP, zQ, zR, zS, zT, qV, zU, zV, zW, zX, zY, qW, zZ, jA, jB, jR, jQ, jS, jC, jD, jE, jF, qX, jG, jH, qS, uA, uB, uC, uD, uE, uF, uG, jN, e1, S_slice, sl_fac]
   refine ⟨trivial, by exact Nat.le_trans (Nat.le_of_lt ‹_›) (by decide), _, rfl, fun hq => ?_, fun hq => ?_⟩
   ·have hst : 0 < stood t s := by have := of_decide_eq_true hq; exact Int.ofNat_lt.mp ‹_›
    have hm' : m = stood t s := by (clear hmx hq; exact (Nat.le_antisymm (qA [_,_,_] 1 (.v 0) (.v 1) (.c 1 (.v 2) (.v 1) (.c 1 (.v 0) (.v 2) .z)) rfl (uJ (Nat.max_eq_left (qA [_] 1 (.n 1) (.v 0) (.c 1 (.a (.n 0) (.n 1)) (.v 0) .z) rfl hst))) (uJ (Eq.symm hm))) (qA [_,_,_] 1 (.v 0) (.v 1) (.c 1 (.v 0) (.v 2) (.c 1 (.v 2) (.v 1) .z)) rfl (Nat.le_max_left _ _) (uJ hm))))
    have e2 : (s : Int) + (stood t s : Int) = ((s + stood t s : Nat) : Int) := by exact Int.natCast_add _ _
    have e3 : s + stood t s - stood t s = s := by simp
    have e4 : ((stood t s : Nat) : Int).toNat = stood t s := by exact Int.natAbs_natCast _
    refine qC fun P kG => ?_
    obtain ⟨j0, hj1, hj2⟩ := (vH t s (stood t s) hst (by (clear hlt hmx hm' e3 e4 hm kG; exact (Or.elim (Nat.le_total (t.length) (s)) (fun q0 => (False.elim (jY [_,_] (.c 1 (.v 0) (.n 0) (.c 1 (.a (.n 0) (.n 1)) (.v 1) (.c 1 (.v 1) (.v 0) .z))) rfl (subZ (qA [_,_] 1 (.v 0) (.v 1) (.c 1 (.v 0) (.v 1) .z) rfl q0)) hst hsl))) fun q0 => (qA [_,_,_,_] 1 (.a (.v 0) (.v 1)) (.v 2) (.c 1 (.a (.v 3) (.v 0)) (.v 2) (.c 1 (.v 1) (.v 3) .z)) rfl (jL (qA [_,_] 1 (.v 0) (.v 1) (.c 1 (.v 0) (.v 1) .z) rfl q0)) hsl))))).mpr (Nat.le_refl _)
    refine kG ?_
    clear kG P
    have hfl : (fac t s (stood t s)).length = stood t s := kR (by (clear hq; exact (qA [_,_,_,_] 1 (.a (.v 0) (.v 1)) (.v 2) (.c 1 (.a (.v 3) (.v 0)) (.v 2) (.c 1 (.v 1) (.v 3) .z)) rfl (jL (qA [_,_] 1 (.v 0) (.v 1) (.c 1 (.a (.v 0) (.n 1)) (.v 1) .z) rfl hlt)) hsl)))
    have hfs := first_spec (t := t) (p := fac t s (stood t s)) (i := j0) (by rw [hfl]; (clear hq; exact (qA [_,_,_,_,_] 1 (.a (.v 0) (.v 1)) (.v 2) (.c 1 (.a (.v 3) (.v 4)) (.v 2) (.c 1 (.a (.v 0) (.n 1)) (.v 4) (.c 1 (.v 1) (.v 3) .z))) rfl (jL (qA [_,_] 1 (.v 0) (.v 1) (.c 1 (.a (.v 0) (.n 1)) (.v 1) .z) rfl hlt)) hj1 hsl))) (by rw [hfl]; exact hj2)
    refine ⟨by exact Nat.lt_of_lt_of_le ‹_› (by decide), by exact Nat.succ_pos _, _, kZ _ _, ⟨by exact Int.natCast_nonneg _, by rw [e4]; simp; (clear hj1; exact (qA [_,_,_] 1 (.v 0) (.n 256) (.c 1 (.v 1) (.v 2) (.c 1 (.v 0) (.v 1) (.c 1 (.a (.v 2) (.n 1)) (.n 100) .z))) rfl (Nat.sub_le _ _) hsl h2)), by (clear hj1; exact (jO [_,_,_] 1 (.a (.c (.v 0)) (.n 1)) (.n 1000) (.c 1 (.v 1) (.v 2) (.c 1 (.v 0) (.v 1) (.c 1 (.a (.v 2) (.n 1)) (.n 100) .z))) rfl (Nat.sub_le _ _) hsl h2))⟩, ?_⟩
    rw [e2, e4]
    refine oList_ab (by exact Nat.le_add_left _ _) (by (clear hq; exact (qA [_,_,_,_] 1 (.a (.a (.v 0) (.v 1)) (.n 1)) (.n 100000) (.c 1 (.a (.v 2) (.v 0)) (.v 3) (.c 1 (.v 1) (.v 2) (.c 1 (.a (.v 3) (.n 1)) (.n 100) .z))) rfl (jL (qA [_,_] 1 (.v 0) (.v 1) (.c 1 (.a (.v 0) (.n 1)) (.v 1) .z) rfl hlt)) hsl h2))) ?_
    rw [e3, oAdd_lo]
    refine ⟨_, _, rfl, kZ _ _, ?_, 0, qs1, [("text", .str (S t)), ("piece", .str (S (fac t s m)))], rfl, fun q e => g5 _ _ e, rfl, fun q hq => ?_, fun fd2 hD2 => ⟨_, rfl, ?_⟩⟩
    ·simp [kD]; (clear hq; exact (qA [_,_,_,_,_] 1 (.a (.v 0) (.v 1)) (.v 2) (.c 1 (.a (.v 3) (.v 1)) (.v 4) (.c 1 (.v 0) (.v 3) (.c 1 (.n 1048576) (.v 2) (.c 1 (.a (.v 4) (.n 1)) (.n 100) .z)))) rfl (jL (qA [_,_] 1 (.v 0) (.v 1) (.c 1 (.a (.v 0) (.n 1)) (.v 1) .z) rfl hlt)) hsl hs h2))
    ·simp only [List.mem_cons, List.not_mem_nil, or_false] at hq
     rcases hq with rfl | rfl
     ·simp only [qJ, qF, qD, qK, qL, qT, qH, qI, qM, qN, qY, qZ, qE, String.reduceEq, String.reduceBEq, cond_true, cond_false, uH, if_true, if_false, reduceIte, ite_true, ite_false, zA, zB, zC, zD, zE, zF, qP, zG, qQ, zH, zI, zJ, zK, zL, qR, qU, zM, zN, qO, zO, zP, zQ, zR, zS, zT, qV, zU, zV, zW, zX, zY, qW, zZ, jA, jB, jR, jQ, jS, jC, jD, jE, jF, qX, jG, jH, qS, uA, uB, uC, uD, uE, uF, uG]; exact g2
     ·kernel_rfl
    rw [repD]
    generalize hqs2 : addQ _ Q0 qs1 = qs2
    have g6' : ∀ k x, qs2.lookup k = some x → x = Q0 := hqs2 ▸ addQ_ok g5
    simp only [List.cons_append, List.set_cons_zero, List.append_assoc]
    generalize junk1 ++ _ = junk2
    refine ⟨List.replicate (stood t s) t.length ++ List.range' (stood t s) s, fun i => hasL (t.take i) (fac t s m), stood t s, s + stood t s, first t (fac t s (stood t s)) + stood t s, fd2, [("text", .str (S t)), ("piece", .str (S (fac t s m)))], ?_, ?_, ?_, .inl ⟨?_, ?_⟩, ?_, hD2, ?_, by exact Nat.le_add_left _ _, ?_, ?_, fun i _ hi => ?_, fun i e hi hi2 he Q hQ => ?_, retp_n ⟨_, rfl, ?_⟩⟩
    ·kernel_rfl
    ·kernel_rfl
    ·kernel_rfl
    ·kernel_rfl
    ·simp; exact Nat.add_comm _ _
    ·kernel_rfl
    ·simp; (clear hq; exact (qA [_,_,_,_] 1 (.a (.a (.v 0) (.v 1)) (.n 1)) (.n 1000) (.c 1 (.a (.v 2) (.v 1)) (.v 3) (.c 1 (.v 0) (.v 2) (.c 1 (.a (.v 3) (.n 1)) (.n 100) .z))) rfl (jL (qA [_,_] 1 (.v 0) (.v 1) (.c 1 (.a (.v 0) (.n 1)) (.v 1) .z) rfl hlt)) hsl h2))
    ·have := hfs.1; (clear hfs; exact (qA [_,_,_,_] 1 (.a (.v 0) (.v 1)) (.a (.v 2) (.v 1)) (.c 1 (.v 0) (.v 3) (.c 1 (.a (.v 3) (.n 1)) (.v 2) .z)) rfl this hj1))
    ·simp; exact (qA [_,_] 1 (.a (.v 0) (.v 1)) (.a (.v 1) (.v 0)) .z rfl )
    ·dsimp only
     rw [hm', has_first (i := j0) (by rw [hfl]; exact (qA [_,_,_,_,_] 1 (.a (.v 0) (.v 1)) (.v 2) (.c 1 (.a (.v 3) (.v 4)) (.v 2) (.c 1 (.a (.v 0) (.n 1)) (.v 4) (.c 1 (.v 1) (.v 3) .z))) rfl (jL (qA [_,_] 1 (.v 0) (.v 1) (.c 1 (.a (.v 0) (.n 1)) (.v 1) .z) rfl hlt)) hj1 hsl)) (by rw [hfl]; exact hj2) (by (clear hq; exact (qA [_,_,_,_,_] 1 (.v 0) (.v 1) (.c 1 (.a (.v 2) (.v 3)) (.v 1) (.c 1 (.a (.v 0) (.n 1)) (.a (.v 3) (.v 4)) (.c 1 (.v 4) (.v 2) .z))) rfl (jL (qA [_,_] 1 (.v 0) (.v 1) (.c 1 (.a (.v 0) (.n 1)) (.v 1) .z) rfl hlt)) hi hsl))), hfl]
    ·have := repGet _ _ _ _ _ hi he
     subst this
     refine ⟨t, fac t s m, e, ?_, ?_, ?_, by assumption, fun c hc => by rcases h3 c hc with h | h | h <;> (first | exact (qA [_] 1 (.a (.v 0) (.n 1)) (.n 1000) (.c 1 (.v 0) (.n 97) .z) rfl (uJ h)) | exact (qA [_] 1 (.a (.v 0) (.n 1)) (.n 1000) (.c 1 (.v 0) (.n 98) .z) rfl (uJ h)) | exact (qA [_] 1 (.a (.v 0) (.n 1)) (.n 1000) (.c 1 (.v 0) (.n 99) .z) rfl (uJ h))), by have := fac_len_le t s m; (clear hfl hq; exact (qA [_,_,_,_,_] 1 (.a (.v 0) (.n 1)) (.n 100) (.c 1 (.v 1) (.v 2) (.c 1 (.v 0) (.v 3) (.c 1 (.v 3) (.v 4) (.c 1 (.v 4) (.v 1) (.c 1 (.a (.v 2) (.n 1)) (.n 100) .z))))) rfl (Nat.sub_le _ _) this (uJ hm') hsl h2)), fun c hc => by rcases h3 c (List.mem_of_mem_drop (List.mem_of_mem_take hc)) with h | h | h <;> lia, fun hc => by rcases h3 _ (List.mem_of_mem_drop (List.mem_of_mem_take hc)) with h | h | h <;> lia, hQ⟩
     ·kernel_rfl
     ·kernel_rfl
     ·kernel_rfl
    ·simp only [qJ, qF, qD, qK, qL, qT, qH, qI, qM, qN, qY, qZ, qE, String.reduceEq, String.reduceBEq, cond_true, cond_false, uH, if_true, if_false, reduceIte, ite_true, ite_false, zA, zB, zC, zD, zE, zF, qP, zG, qQ, zH, zI, zJ, zK, zL, qR, qU, zM, zN, qO, zO, zP, zQ, zR, zS, zT, qV, zU, zV, zW, zX, zY, qW, zZ, jA, jB, jR, jQ, jS, jC, jD, jE, jF, qX, jG, jH, qS, uA, uB, uC, uD, uE, uF, uG]
     have hcode : (16 * (stood t s : Int) + (s : Int) + (stood t s : Int) - ((first t (fac t s (stood t s)) + stood t s : Nat) : Int)) = ((codeOf t s : Nat) : Int) := by
      unfold codeOf
      rw [if_neg (by exact Nat.ne_of_gt ‹_›)]
      have := hfs.1
      (clear hfs; exact (Int.le_antisymm (jO [_,_,_,_] 1 (.s (.a (.a (.m 16 (.c (.v 0))) (.c (.v 1))) (.c (.v 0))) (.c (.a (.v 2) (.v 0)))) (.c (.a (.m 16 (.v 0)) (.v 3))) (.c 1 (.v 1) (.a (.v 3) (.v 2)) .z) rfl (jV _ _)) (jO [_,_,_,_] 1 (.c (.a (.m 16 (.v 0)) (.v 1))) (.s (.a (.a (.m 16 (.c (.v 0))) (.c (.v 2))) (.c (.v 0))) (.c (.a (.v 3) (.v 0)))) (.c 1 (.a (.v 1) (.v 3)) (.v 2) .z) rfl (jL (qA [_,_,_] 1 (.v 0) (.v 1) (.c 1 (.v 0) (.v 2) (.c 1 (.a (.v 2) (.n 1)) (.v 1) .z)) rfl this hj1)))))
     rw [hcode]
     refine ⟨mulOk (by exact Int.natCast_nonneg _) (by exact Int.natCast_nonneg _), ?_⟩
     refine hfin _ _ _ g6' ?_ ?_ ?_ ⟨?_, ?_⟩
     ·kernel_rfl
     ·kernel_rfl
     ·kernel_rfl
     ·kernel_rfl
     ·kernel_rfl
   ·have hst : stood t s = 0 := by have := of_decide_eq_false hq; (clear hq; exact (Nat.le_antisymm (qA [_] 1 (.v 0) (.n 0) (.i 1 (.c (.v 0)) (.n 0) .z) rfl (Int.not_lt.mp this)) (qA [_] 1 (.n 0) (.v 0) .z rfl )))
    have hm' : m = 1 := by (clear hmx hq; exact (Nat.le_antisymm (qA [_,_] 1 (.v 0) (.n 1) (.c 1 (.v 1) (.n 1) (.c 1 (.v 0) (.v 1) .z)) rfl (uJ (Nat.max_eq_right (qA [_] 1 (.v 0) (.n 1) (.c 1 (.v 0) (.n 0) .z) rfl (uJ hst)))) (uJ (Eq.symm hm))) (qA [_,_] 1 (.n 1) (.v 0) (.c 1 (.n 1) (.v 1) (.c 1 (.v 1) (.v 0) .z)) rfl (Nat.le_max_right _ _) (uJ hm))))
    have hcode : findIn (Str.ofString "abc") (S (fac t s m)) 0 (Str.ofString "abc").length = ((codeOf t s : Nat) : Int) := by
     rw [S_abc, jN, hm', fac_one hlt, S_find]
     have hmem : t.getD s 97 ∈ t := by
      rw [List.getD_eq_getElem?_getD, List.getElem?_eq_getElem hlt]; exact List.getElem_mem hlt
     rw [show ABC.length = 3 from rfl, abc_find (h3 _ hmem)]
     unfold codeOf
     rw [if_pos hst]
    rw [hcode]
    refine hfin _ _ _ g5 ?_ ?_ ?_ ⟨?_, ?_⟩
    ·kernel_rfl
    ·kernel_rfl
    ·kernel_rfl
    ·kernel_rfl
    ·kernel_rfl
  intro η σ N Rt h
  dsimp only [wCons, wAsg, wIf, wRet, wBin, wCmp, wPl, wUn, wAnd, wOr, wIfE, wEs, wSl]
  refine qC fun P kG => ?_
  obtain ⟨t, s, f, done, qs, junk, h2, h3, hlt, b2, b3, b4, g1, g2, g3, hσ, g4, _, hR⟩ := h
  refine kG ?_
  clear kG P
  subst hσ
  have hs : (2 : Nat) ^ 20 ≤ sizeLine := by decide
  have hsl := stood_le t s
  have k1 : (t.length : Int) + 1 = ((t.length + 1 : Nat) : Int) := by exact Int.natCast_add _ _
  have k2 : (t.length : Int) - (s : Int) = ((t.length - s : Nat) : Int) := by exact (Int.ofNat_sub (Nat.le_of_lt ‹_›)).symm
  have hfin : ∀ (η' : Vars) (qs2 : List ((Nat × Nat) × Str)) (junk2 : Sto), (∀ k x, qs2.lookup k = some x → x = Q0) → vget "cuts" η' = vget "cuts" η → vget "text" η' = vget "text" η → vget "start" η' = vget "start" η → cut1 t s η' → cutB Q0 cut1 η' ([.tab 239 qs2, .list done] ++ junk2) N Rt := fun η' qs2 junk2 q e1 e2 e3 e4 => ⟨t, s, f, done, qs2, junk2, h2, h3, hlt, b2, b3, b4, e1.trans g1, e2.trans g2, e3.trans g3, rfl, q, e4, hR⟩
  generalize cutB Q0 cut1 = B1 at hfin ⊢
  simp only [g1, g2, g3, hQ0, qJ, qF, qD, qK, qL, qT, qH, qI, qM, qN, qY, qZ, qE, String.reduceEq, String.reduceBEq, cond_true, cond_false, uH, if_true, if_false, reduceIte, ite_true, ite_false, zA, zB, zC, zD, zE, zF, qP, zG, qQ, zH, zI, zJ, zK, zL, qR, qU, zM, zN, qO, zO, zP, zQ, zR, zS, zT, qV, zU, zV, zW, zX, zY, qW, zZ, jA, jB, jR, jQ, jS, jC, jD, jE, jF, qX, jG, jH, qS, uA, uB, uC, uD, uE, uF, uG, jN]
  rw [k1]
  refine ⟨by exact (qA [_] 1 (.a (.v 0) (.n 1)) (.n 4611686018427387904) (.c 1 (.a (.v 0) (.n 1)) (.n 100) .z) rfl h2), oList_ab (a := 1) (by exact Nat.succ_pos _) (by exact Nat.lt_of_le_of_lt ‹_› (by decide)) ⟨_, _, rfl, kO _ _, by lia, 0, qs, [("text", .str (S t)), ("start", .int s)], ?_, fun q e => g4 _ _ e, rfl, fun q hq => ?_, fun fd hD => ⟨_, rfl, ?_⟩⟩⟩
  ·rw [set_last]; rfl
  ·simp only [List.mem_cons, List.not_mem_nil, or_false] at hq
   rcases hq with rfl | rfl
   ·exact g2
   ·exact g3
  rw [set_last, k2]
  generalize hqs : addQ _ Q0 qs = qs1
  have g5 : ∀ k x, qs1.lookup k = some x → x = Q0 := hqs ▸ addQ_ok g4
  show bslW _ _ _ _ _ _ (MO.tab 239 qs1 :: MO.list done :: (junk ++ [.dead])) _ _
  refine ⟨List.range' 1 (t.length + 1 - 1), fun i => !occB t s (i + 1), 0, t.length - s, stood t s, fd, [("text", .str (S t)), ("start", .int s)], ?_, ?_, ?_, .inr ?_, ?_, hD, by rw [List.length_range']; exact Nat.le_trans ‹_› (Nat.le_add_left _ _), Nat.zero_le _, hsl, by rw [List.length_range']; exact Nat.sub_le _ _, fun i _ hi => ?_, fun i e _ hi he Q hQ => ?_, retp_n ⟨_, rfl, ?_⟩⟩
  ·kernel_rfl
  ·kernel_rfl
  ·simp only [qJ, qF, qD, qK, qL, qT, qH, qI, qM, qN, qY, qZ, qE, String.reduceEq, String.reduceBEq, cond_true, cond_false, uH, if_true, if_false, reduceIte, ite_true, ite_false, zA, zB, zC, zD, zE, zF, qP, zG, qQ, zH, zI, zJ, zK, zL, qR, qU, zM, zN, qO, zO, zP, zQ, zR, zS, zT, qV, zU, zV, zW, zX, zY, qW, zZ, jA, jB, jR, jQ, jS, jC, jD, jE, jF, qX, jG, jH, qS, uA, uB, uC, uD, uE, uF, uG, List.map_cons, List.map_nil]; rfl
  ·kernel_rfl
  ·kernel_rfl
  ·dsimp only
   rw [stood_spec t s i hi]
   by_cases hx : i < stood t s
   ·rw [decide_eq_true hx, decide_eq_false (by exact (fun q0 => (jY [_,_] (.c 1 (.v 0) (.v 1) (.c 1 (.a (.v 1) (.n 1)) (.v 0) .z)) rfl q0 hx)))]; rfl
   ·rw [decide_eq_false hx, decide_eq_true (by exact Nat.le_of_not_lt ‹_›)]; rfl
  ·have he' : e = i + 1 := by
    rw [List.getElem?_range' (by exact (qA [_,_,_,_] 1 (.a (.v 0) (.n 1)) (.v 1) (.c 1 (.a (.v 2) (.n 1)) (.a (.v 1) (.n 1)) (.c 1 (.v 3) (.v 2) (.c 1 (.a (.v 0) (.n 1)) (.v 3) .z))) rfl (jV _ _) (Nat.sub_le _ _) hi))] at he
    cases he; exact (Nat.le_antisymm (qA [_] 1 (.a (.n 1) (.m 1 (.v 0))) (.a (.v 0) (.n 1)) .z rfl ) (qA [_] 1 (.a (.v 0) (.n 1)) (.a (.n 1) (.m 1 (.v 0))) .z rfl ))
   subst he'
   refine ⟨t, s, i + 1, ?_, ?_, ?_, by exact Nat.succ_pos _, by exact (qA [_] 1 (.a (.v 0) (.n 1)) (.n 100) (.c 1 (.a (.v 0) (.n 1)) (.n 100) .z) rfl h2), fun c hc => by rcases h3 c hc with h | h | h <;> lia, fun hc => by rcases h3 _ hc with h | h | h <;> lia, ?_⟩
   ·kernel_rfl
   ·kernel_rfl
   ·kernel_rfl
   ·rw [sl_fac]; exact hQ
  exact hfin _ _ _ g5 (by kernel_rfl) (by kernel_rfl) (by kernel_rfl) (by kernel_rfl)
 intro η σ N Rt h
 dsimp only [wCons, wAsg, wIf, wRet, wBin, wCmp, wPl, wUn, wAnd, wOr, wIfE, wEs, wSl]
 refine qC fun P kG => ?_
 obtain ⟨t, h1, h2, h3, hσ, hR⟩ := h
 refine kG ?_
 clear kG P
 subst hσ
 have hs : (2 : Nat) ^ 20 ≤ sizeLine := by decide
 simp only [h1, qJ, qF, qD, qK, qL, qT, qH, qI, qM, qN, qY, qZ, qE, String.reduceEq, String.reduceBEq, cond_true, cond_false, uH, if_true, if_false, reduceIte, ite_true, ite_false, zA, zB, zC, zD, zE, zF, qP, zG, qQ, zH, zI, zJ, zK, zL, qR, qU, zM, zN, qO, zO, zP, zQ, zR, zS, zT, qV, zU, zV, zW, zX, zY, qW, zZ, jA, jB, jR, jQ, jS, jC, jD, jE, jF, qX, jG, jH, qS, uA, uB, uC, uD, uE, uF, uG]
 refine ⟨by exact Nat.zero_le _, by exact Nat.le_add_left _ _, trivial, t.length, cutI Q0 t, ⟨0, t.length, [], [], [], by simp, Nat.zero_le _, by exact Nat.sub_le _ _, Nat.le_refl _, by simp, ?_, ?_, ?_, rfl, fun k x e => by cases e⟩, ?_⟩
 ·kernel_rfl
 ·exact Eq.trans (by kernel_rfl) h1
 ·kernel_rfl
 ·intro n η1 σ1 hI0
  refine qC fun P kG => ?_
  obtain ⟨s, f, done, qs, junk, hn, b1, b2, b3, b4, g1, g2, g3, hσ, g4⟩ := hI0
  refine kG ?_
  clear kG P
  subst hσ hn
  simp only [g1, g2, g3, qJ, qF, qD, qK, qL, qT, qH, qI, qM, qN, qY, qZ, qE, String.reduceEq, String.reduceBEq, cond_true, cond_false, uH, if_true, if_false, reduceIte, ite_true, ite_false, zA, zB, zC, zD, zE, zF, qP, zG, qQ, zH, zI, zJ, zK, zL, qR, qU, zM, zN, qO, zO, zP, zQ, zR, zS, zT, qV, zU, zV, zW, zX, zY, qW, zZ, jA, jB, jR, jQ, jS, jC, jD, jE, jF, qX, jG, jH, qS, uA, uB, uC, uD, uE, uF, uG, jN]
  refine ⟨by lia, fun hlt => ?_, fun hge => ?_⟩
  ·have hlt : s < t.length := by have := of_decide_eq_true hlt; exact Int.ofNat_lt.mp ‹_›
   exact ⟨t, s, f, done, qs, junk, h2, h3, hlt, b2, b3, b4, g1, g2, g3, rfl, g4, trivial, fun m η2 σ2 hm hI => ⟨m, hm, η2, VLe.refl _, hI⟩⟩
  ·have : s = t.length := by have := of_decide_eq_false hge; (clear hge; exact (Nat.le_antisymm (qA [_,_] 1 (.v 0) (.v 1) (.c 1 (.v 0) (.v 1) .z) rfl b1) (qA [_,_] 1 (.v 0) (.v 1) (.i 1 (.c (.v 0)) (.c (.v 1)) .z) rfl (Int.not_lt.mp this))))
   subst this
   have e0 : ∀ f, cutsF t f t.length = [] := fun f => by
    cases f with
    | zero => rfl
    | succ f => unfold cutsF; rw [if_neg (Nat.lt_irrefl _)]
   rw [e0] at b4
   simp only [List.map_nil, List.append_nil] at b4
   rw [b4]
   exact hR qs junk
noncomputable def StkO (F : Fz) (ρ : Pl) (h : Heap) (l : List Env) : Prop := ∀ env ∈ l, env.scope.kind ≠ .module ∧ ∃ L o es n, env.frame = some L ∧ F L = none ∧ ¬ Mut ρ L ∧ h.get? L = some o ∧ o.data = .dict es n
structure Stk (A : Around) (env : Env) (outer : List Env) (F : Fz) (ρ : Pl) (h : Heap) : Prop where
 fr : A.frames = some (env :: outer)
 own : env.frame = some env.locals
 ne : ∀ e ∈ outer, e.frame ≠ some env.locals
 out : StkO F ρ h outer
section
variable {base : Heap} {C : Addr} {F F' : Fz} {ρ ρ' : Pl} {h h' : Heap} {σ σ' : Sto} {env : Env} {η η' : Vars} {l outer : List Env} {A : Around}
theorem StkO.evo {X : Addr → Prop} (K : StkO F ρ h l) (x : Evo X F h F' h') (new : ∀ p ∈ ρ', p ∈ ρ ∨ h.get? p.2 = none) (hX : ∀ env ∈ l, ∀ L, env.frame = some L → ¬ X L) : StkO F' ρ' h' l := fun env he => by
 refine dAEEEEAAAA (K env he) fun k L o es n hf hF hM ho hd => ?_
 refine dEAA ((x.keep L o ho (hX env he L hf)).data) fun o' ho' hd' _ => ?_
 refine ⟨k, L, o', es, n, hf, x.none_of hF ⟨o, ho⟩ (hX env he L hf), fun ⟨p, hp, e⟩ => ?_, ho', hd'.trans hd⟩
 rcases new p hp with q | q
 ·exact hM ⟨p, q, e⟩
 ·rw [e, ho] at q; cases q
theorem Stk.step (K : Stk A env outer F ρ h) (S : Step base C F ρ h F' ρ' h' σ') : Stk A env outer F' ρ' h' where
 fr := K.fr
 own := K.own
 ne := K.ne
 out := K.out.evo S.evo S.new fun e he L hL hm => by
  refine dAEEEEAAA (K.out e he) fun _ L' o es n hf _ hM _ => ?_
  rw [hf] at hL; cases hL; exact hM hm
theorem Stk.sevo {P : Str → Prop} (K : Stk A env outer F ρ h) (R : Rel base C env F ρ h η σ) (V : SEvo env P F ρ h F' ρ' h') : Stk A env outer F' ρ' h' where
 fr := K.fr
 own := K.own
 ne := K.ne
 out := K.out.evo V.evo V.new fun e he L hL hm => by
  refine dAEEEEAAAA (K.out e he) fun _ L' o es n hf _ hM ho hd => ?_
  rw [hf] at hL; cases hL
  rcases hm with hm | hm | ⟨y, _, hk, hc⟩
  ·exact hM hm
  ·exact K.ne e he (by rw [hf, hm])
  ·refine dEA (R.cells y _ (.inl hk) hc) fun v hN1 _ => ?_
   obtain ⟨o', ho', hd'⟩ := hN1
   rw [ho] at ho'; cases ho'; rw [hd] at hd'; cases hd'
theorem Stk.all (K : Stk A env outer F ρ h) (R : Rel base C env F ρ h η σ) : StkO F ρ h (env :: outer) := fun e he => by
 rcases List.mem_cons.mp he with rfl | he
 ·refine qC fun P kG => ?_
  refine dEA R.ns fun m hN2 _ => ?_
  obtain ⟨o, es, n, ho, hd, _⟩ := hN2
  refine kG ?_
  clear kG P
  exact ⟨by rw [R.kind]; decide, e.locals, o, es, n, K.own, R.nsF, R.locals.1, ho, hd⟩
 ·exact K.out e he
structure Flies (h0 : Heap) (F : Fz) (ρ : Pl) (h : Heap) (e : Addr) (cls : String) (d : PyData) (tr : Option Value) : Prop where
 new : h0.get? e = none
 fe : F e = none
 me : ¬ Mut ρ e
 obj : ∃ oe vs a0, h.get? e = some oe ∧ oe.cls = .type cls ∧ oe.data = .fields vs ∧ vs[0]? = some a0 ∧ VR F a0 d ∧
  ((tr = none ∧ vs[1]? = some .none) ∨ ∃ fl, tr = some fl ∧ ∃ T oT ts, vs[1]? = some (.ref T) ∧ T ≠ e ∧ h.get? T = some oT ∧ oT.data = .fields ts ∧ ts[3]? = some fl ∧ h0.get? T = none ∧ F T = none ∧ ¬ Mut ρ T)
theorem Flies.back {h0 h1 : Heap} {e : Addr} {cls : String} {d : PyData} {tr : Option Value} (x : Flies h1 F ρ h e cls d tr) (b : ∀ a, h1.get? a = none → h0.get? a = none) : Flies h0 F ρ h e cls d tr := by
 refine qC fun P kG => ?_
 obtain ⟨n, f, m, oe, vs, a0, e1, e2, e3, e4, e5, e6⟩ := x
 refine kG ?_
 clear kG P
 refine ⟨b _ n, f, m, oe, vs, a0, e1, e2, e3, e4, e5, e6.imp id ?_⟩
 intro hI0
 obtain ⟨fl, q, T, oT, ts, t1, t2, t3, t4, t5, t6, t7⟩ := hI0
 exact ⟨fl, q, T, oT, ts, t1, t2, t3, t4, t5, b _ t6, t7⟩
theorem SEvo.gone {P : Str → Prop} (R : Rel base C env F ρ h η σ) (R' : Rel base C env F' ρ' h' η' σ') (V : SEvo env P F ρ h F' ρ' h') : ∀ a, h'.get? a = none → h.get? a = none := fun a ha => by
 rcases V.evo.none_back ha with q | q | q | ⟨y, _, hk, hc⟩
 ·exact q
 ·refine dEA q fun p hp e => ?_
  obtain ⟨o, ho⟩ := R'.sto.lt p (V.pre.subset hp)
  rw [e, ha] at ho; cases ho
 ·obtain ⟨o, ho⟩ := R'.locals.2
  rw [q] at ha; rw [ha] at ho; cases ho
 ·refine dEA (R'.cells y a (.inl hk) hc) fun v hN3 _ => ?_
  obtain ⟨o', ho', _⟩ := hN3
  rw [ha] at ho'; cases ho'
theorem StkO.frames (K : StkO F ρ h l) {hid : List Addr} (hh : ∀ env ∈ l, ∀ L, env.frame = some L → L ∈ hid) : h.FunFrames (hideAll h hid) l := by
 induction l with
 | nil => trivial
 | cons env r ih =>
  refine dAEEEEAAAA (K env List.mem_cons_self) fun k L o es n hf hF hM ho hd => ?_
  exact ⟨k, ⟨L, o, hf, hideAll_none _ (hh env List.mem_cons_self L hf), ho, fun vs q => by rw [hd] at q; cases q⟩, ih (fun e he => K e (List.mem_cons_of_mem _ he)) fun e he => hh e (List.mem_cons_of_mem _ he)⟩
noncomputable def frs (l : List Env) : List Addr := l.filterMap (·.frame)
theorem fly_pack (S : SRel base C F ρ h σ) (K : StkO F ρ h l) {h0 : Heap} {e : Addr} {cls : String} {d : PyData} {a0 fl : Value} {more : List Addr} (gone : ∀ a, h.get? a = none → h0.get? a = none) (new : h0.get? e = none) (fe : F e = none) (me : ¬ Mut ρ e) (hv : VR F a0 d)
  (hmore : ∀ T ∈ more, F T = none ∧ ¬ Mut ρ T ∧ h0.get? T = none) (st : (hideAll h (frs l ++ e :: more)).StaysIn h') (tr : h'.TracedAtW (hideAll h (frs l ++ e :: more)) e (.type cls) a0 fl)
  (up : ∀ b o, h.get? b = some o → (∀ vs, o.data ≠ .fields vs) → ∃ sl, h'.get? b = some { o with slots := sl }) :
  Flies h0 F ρ h' e cls d (some fl) ∧ Evo (fun a => a ∈ e :: more) F h F h' ∧ SRel base C F ρ h' σ := by
 have frL : ∀ b ∈ frs l, F b = none ∧ ¬ Mut ρ b ∧ ∃ o es n, h.get? b = some o ∧ o.data = .dict es n := fun b hb => by
  refine dEA (List.mem_filterMap.mp hb) fun env he hf => ?_
  refine dAEEEEAAAA (K env he) fun _ L o es n hf' hF hM ho hd => ?_
  rw [hf] at hf'; cases hf'
  exact ⟨hF, hM, o, es, n, ho, hd⟩
 have hidN : ∀ b ∈ frs l ++ e :: more, F b = none ∧ ¬ Mut ρ b := fun b hb => by
  rcases List.mem_append.mp hb with q | q
  ·exact ⟨(frL b q).1, (frL b q).2.1⟩
  ·rcases List.mem_cons.mp q with rfl | q
   ·exact ⟨fe, me⟩
   ·exact ⟨(hmore b q).1, (hmore b q).2.1⟩
 have keep : ∀ b o, h.get? b = some o → b ∉ frs l ++ e :: more → h'.get? b = some o := fun b o ho hb => st b o (hideAll_get _ ho hb)
 have ev : Evo (fun a => a ∈ e :: more) F h F h' := by
  refine ⟨FLe.refl F, fun b o hb => keep b o (S.inn b o hb) fun hm => ?_, fun _ _ e => .inl e, fun b o ho hx => ?_⟩
  ·rw [(hidN b hm).1] at hb; cases hb
  ·by_cases hb : b ∈ frs l
   ·refine dAAEEEA (frL b hb) fun _ _ o' es n ho' hd => ?_
    rw [ho] at ho'; cases ho'
    refine qC fun P kG => ?_
    obtain ⟨sl, hs⟩ := up b o ho fun vs q => by rw [hd] at q; cases q
    refine kG ?_
    clear kG P
    exact .inr ⟨⟨es, n, hd⟩, sl, hs⟩
   ·exact .inl (keep b o ho fun hm => (List.mem_append.mp hm).elim hb hx)
 refine ⟨?_, ev, S.extL (FLe.refl F) ev.inn (fun p hp => ?_) fun _ _ q => q⟩
 ·refine dEEEEEAAAAAAAA tr fun oe vs T oT ts e1 hN4 e4 e5 e6 e7 e8 e9 e10 => ?_
  obtain ⟨e2, e3⟩ := hN4
  refine ⟨new, fe, me, oe, vs, a0, e1, e2, e4, e3, hv, .inr ⟨fl, rfl, T, oT, ts, e5, e7, e8, e9, e10, ?_⟩⟩
  cases hT : h.get? T with
  | none =>
   exact ⟨gone T hT, S.fresh hT, S.noMut hT⟩
  | some o =>
   have hm : T ∈ frs l ++ e :: more := by
    by_cases hm : T ∈ frs l ++ e :: more
    ·exact hm
    ·rw [hideAll_get _ hT hm] at e6; cases e6
   rcases List.mem_append.mp hm with q | q
   ·refine dAAEEEA (frL T q) fun _ _ o' es n ho' hd => ?_
    rw [hT] at ho'; cases ho'
    refine qC fun P kG => ?_
    obtain ⟨sl, hs⟩ := up T o hT fun vs q => by rw [hd] at q; cases q
    refine kG ?_
    clear kG P
    rw [hs] at e8; cases e8
    rw [show ({ o with slots := sl } : Obj).data = o.data from rfl, hd] at e9; cases e9
   ·rcases List.mem_cons.mp q with q | q
    ·exact absurd q e7
    ·refine dAA (hmore T q) fun q1 q2 q3 => ?_
     exact ⟨q3, q1, q2⟩
 ·refine qC fun P kG => ?_
  obtain ⟨o, ho⟩ := S.lt p hp
  refine kG ?_
  clear kG P
  rw [ho]
  exact keep _ _ ho fun hm => (hidN _ hm).2 ⟨p, hp, rfl⟩
theorem frs_mem {env : Env} {L : Addr} (he : env ∈ l) (hf : env.frame = some L) {r : List Addr} : L ∈ frs l ++ r := List.mem_append_left _ (List.mem_filterMap.mpr ⟨env, he, hf⟩)
noncomputable abbrev LotQ (h0 : Heap) (F : Fz) (ρ : Pl) (base : Heap) (C : Addr) (σ : Sto) (h : Heap) (e : Addr) (cls : String) (d : PyData) (tr : Option Value) (K : Heap → Prop) : Prop :=
 ∀ h' X', (∀ a, X' a → h0.get? a = none ∧ ¬ Mut ρ a) → Flies h0 F ρ h' e cls d tr → Evo X' F h F h' → SRel base C F ρ h' σ → K h'
theorem note_env {M : Model} {E : Value → Shared → Prop} {s : Shared} {Q : Unit → Shared → Prop} {L : Addr} (S : SRel base C F ρ s.heap σ) (K : StkO F ρ s.heap (env :: outer)) (hfr : A.frames = some (env :: outer)) (hf : env.frame = some L)
  {h0 : Heap} {e : Addr} {cls : String} {d : PyData} {tr : Option Value} (gone : ∀ a, s.heap.get? a = none → h0.get? a = none) (X : Flies h0 F ρ s.heap e cls d tr) (htr : tr = none ∨ tr = some .none ∨ tr = some (rawInt L))
  (hQ : LotQ h0 F ρ base C σ s.heap e cls d (some (rawInt L)) fun h' => Q () { s with heap := h' }) : wpAny M A (noteFrame (.ref e) env) Q E s := by
 have X0 := X
 refine qC fun P kG => ?_
 obtain ⟨n, f, m, oe, vs, a0, e1, e2, e3, e4, e5, e6⟩ := X
 refine kG ?_
 clear kG P
 rcases e6 with ⟨rfl, e6⟩ | ⟨fl, rfl, T, oT, ts, t1, t2, t3, t4, t5, t6, t7, t8⟩
 ·unfold noteFrame
  simp only [hf]
  refine wpAny_bind (wpAny_field e1 e3 e6 ?_)
  rw [if_neg (by decide)]
  refine wpAny_entryW (base := hideAll s.heap (frs (env :: outer) ++ e :: [])) hfr (K.frames fun e' he L hL => frs_mem he hL) hf e1 (fun b o q => of_hideAll _ q) (hideAll_none _ (List.mem_append_right _ List.mem_cons_self)) e3 (Array.getElem?_eq_some_iff.mp e6).1 e4 fun h' ⟨x1, x2, x3, x4⟩ => ?_
  refine dAA (fly_pack S K gone n f m e5 (fun T hT => absurd hT List.not_mem_nil) x1 (e2 ▸ x3) x4) fun p1 p2 p3 => ?_
  exact hQ h' _ (fun a ha => by rw [List.mem_singleton] at ha; rw [ha]; exact ⟨n, m⟩) p1 p2 p3
 ·rcases htr with q | q | q
  ·cases q
  ·cases q
   have hb : (hideAll s.heap (frs (env :: outer) ++ e :: [T])).get? T = none := hideAll_none _ (List.mem_append_right _ (List.mem_cons_of_mem _ List.mem_cons_self))
   have he : (hideAll s.heap (frs (env :: outer) ++ e :: [T])).get? e = none := hideAll_none _ (List.mem_append_right _ List.mem_cons_self)
   refine wpAny_noteFrame_onW (base := hideAll s.heap (frs (env :: outer) ++ e :: [T])) hfr (K.frames fun e' he L hL => frs_mem he hL) hf ⟨oe, vs, T, oT, ts, e1, ⟨e2, e4⟩, e3, t1, hb, t2, t3, t4, t5⟩ (fun b o q => of_hideAll _ q) he fun h' ⟨x1, x2, x3, x4⟩ => ?_
   refine dAA (fly_pack S K gone n f m e5 (fun T' hT => by rw [List.mem_singleton] at hT; subst hT; exact ⟨t7, t8, t6⟩) x1 x3 x4) fun p1 p2 p3 => ?_
   refine hQ h' _ (fun a ha => ?_) p1 p2 p3
   rcases List.mem_cons.mp ha with rfl | ha
   ·exact ⟨n, m⟩
   ·rw [List.mem_singleton] at ha; rw [ha]; exact ⟨t6, t8⟩
  ·cases q
   refine wpAny_noteFrame_againW (base := hideAll s.heap [T]) hf ⟨oe, vs, T, oT, ts, e1, ⟨e2, e4⟩, e3, t1, hideAll_none _ List.mem_cons_self, t2, t3, t4, t5⟩ ?_
   exact hQ s.heap (fun _ => False) (fun _ q => q.elim) X0 (.refl S.inn) S
theorem set_fl {M : Model} {E : Value → Shared → Prop} {s : Shared} {Q : Unit → Shared → Prop} {fr : Option Addr} {fl : Value} (S : SRel base C F ρ s.heap σ)
  {h0 : Heap} {e : Addr} {cls : String} {d : PyData} (X : Flies h0 F ρ s.heap e cls d (some fl))
  (hQ : LotQ h0 F ρ base C σ s.heap e cls d (some (fr.elim .none fun f => rawInt f)) fun h' => Q () { s with heap := h' }) : wpAny M A (setFlight (.ref e) fr) Q E s := by
 refine qC fun P kG => ?_
 obtain ⟨n, f, m, oe, vs, a0, e1, e2, e3, e4, e5, e6⟩ := X
 refine kG ?_
 clear kG P
 rcases e6 with ⟨q, _⟩ | ⟨fl', q, T, oT, ts, t1, t2, t3, t4, t5, t6, t7, t8⟩
 ·cases q
 ·have hsz3 : 3 < ts.size := (Array.getElem?_eq_some_iff.mp t5).1
  have other : ∀ b, b ≠ T → (s.heap.update T (Obj.mapFields (·.setIfInBounds 3 (fr.elim Value.none fun f => rawInt f)))).get? b = s.heap.get? b :=
   fun b hb => Heap.get?_update_other _ _ (Ne.symm hb)
  have hT := Heap.get?_update_self (Obj.mapFields (·.setIfInBounds 3 (fr.elim Value.none fun f => rawInt f))) t3 (Obj.isFreed_of_fields (Obj.data_mapFields t4 _))
  unfold setFlight
  refine wpAny_bind (wpAny_field e1 e3 t1 ?_)
  rw [if_pos (show (Value.ref T != Value.none) = true from by simp)]
  refine wpAny_setField t3 t4 hsz3 ?_
  generalize hg : s.heap.update T (Obj.mapFields (·.setIfInBounds 3 (fr.elim Value.none fun f => rawInt f))) = h' at other hT
  have ev : Evo (fun a => a = T) F s.heap F h' := ⟨FLe.refl F, fun b o hb => by
   rw [other b fun q => by rw [q, t7] at hb; cases hb]; exact S.inn b o hb, fun _ _ e => .inl e, fun b o ho hx => .inl ((other b hx).trans ho)⟩
  refine hQ h' (fun a => a = T) (fun a ha => ha ▸ ⟨t6, t8⟩) ⟨n, f, m, oe, vs, a0, (other e (Ne.symm t2)).trans e1, e2, e3, e4, e5, .inr ⟨_, rfl, T, _, _, t1, t2, hT, Obj.data_mapFields t4 _, by simp [hsz3], t6, t7, t8⟩⟩ ev
   (S.extL (FLe.refl F) ev.inn (fun p hp => other _ fun q => t8 ⟨p, hp, q⟩) fun _ _ q => q)
theorem LotQ.both {h0 h : Heap} {e : Addr} {cls : String} {d : PyData} {tr : Option Value} {K : Heap → Prop} (hQ : LotQ h0 F ρ base C σ h e cls d tr K) {h' : Heap} {X' : Addr → Prop} (hX : ∀ a, X' a → h0.get? a = none ∧ ¬ Mut ρ a) (ev : Evo X' F h F h') : LotQ h0 F ρ base C σ h' e cls d tr K :=
 fun h2 X2 hX2 x2 ev2 S2 => hQ h2 (fun a => X' a ∨ X2 a) (fun a q => q.elim (hX a) (hX2 a)) x2 ((ev.weaken fun a q => .inl (.inl q)).trans ev2 fun a q => .inl (.inr q)) S2
theorem leave_env {M : Model} {E : Value → Shared → Prop} {s : Shared} {Q : Unit → Shared → Prop} {L : Addr} (S : SRel base C F ρ s.heap σ) (K : StkO F ρ s.heap (env :: outer)) (hfr : A.frames = some (env :: outer)) (hf : env.frame = some L)
  {h0 : Heap} {e : Addr} {cls : String} {d : PyData} {tr : Option Value} (gone : ∀ a, s.heap.get? a = none → h0.get? a = none) (X : Flies h0 F ρ s.heap e cls d tr) (htr : tr = none ∨ tr = some .none ∨ tr = some (rawInt L))
  (hQ : LotQ h0 F ρ base C σ s.heap e cls d (some .none) fun h' => Q () { s with heap := h' }) : wpAny M A (leaving env (.ref e)) Q E s := by
 unfold leaving
 exact wpAny_bind (note_env S K hfr hf gone X htr fun h1 X1 hX1 x1 ev1 S1 => set_fl (s := { s with heap := h1 }) S1 x1 (hQ.both hX1 ev1))
theorem look_env {M : Model} {E : Value → Shared → Prop} {s : Shared} {Q : Unit → Shared → Prop} {L : Addr} (S : SRel base C F ρ s.heap σ) (K : StkO F ρ s.heap (env :: outer)) (hfr : A.frames = some (env :: outer)) (hf : env.frame = some L)
  {h0 : Heap} {e : Addr} {cls : String} {d : PyData} {tr : Option Value} (gone : ∀ a, s.heap.get? a = none → h0.get? a = none) (X : Flies h0 F ρ s.heap e cls d tr) (htr : tr = none ∨ tr = some .none ∨ tr = some (rawInt L))
  (hQ : LotQ h0 F ρ base C σ s.heap e cls d (some .none) fun h' => Q () { s with heap := h' }) :
  wpAny M A (noteFrame (.ref e) env) (fun _ s₂ => wpAny M A (setFlight (.ref e) none) Q E s₂) E s :=
 note_env S K hfr hf gone X htr fun h1 X1 hX1 x1 ev1 S1 => set_fl (s := { s with heap := h1 }) S1 x1 (hQ.both hX1 ev1)
theorem loop_env {M : Model} {E E' : Value → Shared → Prop} {s : Shared} {L : Addr} (S : SRel base C F ρ s.heap σ) (K : StkO F ρ s.heap (env :: outer)) (hfr : A.frames = some (env :: outer)) (hf : env.frame = some L)
  {h0 : Heap} {e : Addr} {cls : String} {d : PyData} {tr : Option Value} (gone : ∀ a, s.heap.get? a = none → h0.get? a = none) (X : Flies h0 F ρ s.heap e cls d tr) (htr : tr = none ∨ tr = some .none ∨ tr = some (rawInt L))
  (he : ∀ s', cameBackBy M A env E (.ref e) s' → E' (.ref e) s')
  (hQ : LotQ h0 F ρ base C σ s.heap e cls d (some (rawInt L)) fun h' => E (.ref e) { s with heap := h' }) :
  notedBy M A env E' (.ref e) s := by
 unfold notedBy
 refine note_env S K hfr hf gone X htr fun h1 X1 hX1 x1 ev1 S1 => he _ ?_
 unfold cameBackBy
 refine qC fun P kG => ?_
 obtain ⟨n, f, m, oe, vs, a0, e1, e2, e3, e4, e5, e6⟩ := id x1
 refine kG ?_
 clear kG P
 rcases e6 with ⟨q, _⟩ | ⟨fl', q, T, oT, ts, t1, t2, t3, t4, t5, t6, t7, t8⟩
 ·cases q
 ·refine wpAny_bind (wpAny_field e1 e3 t1 ?_)
  rw [if_neg (show ¬ ((Value.ref T == Value.none) = true) from by simp)]
  rw [hf]
  first
   | exact set_fl (fr := some L) (s := { s with heap := h1 }) S1 x1 (hQ.both hX1 ev1)
   | exact wpAny_bind (wpAny_pure (set_fl (fr := some L) (s := { s with heap := h1 }) S1 x1 (hQ.both hX1 ev1)))
end
noncomputable abbrev XQ := String → PyData → Sto → Prop
noncomputable abbrev TrOk (env : Env) (tr : Option Value) : Prop := tr = none ∨ tr = some .none ∨ tr = some (rawInt env.locals)
noncomputable abbrev XW := Vars → Sto → (XV → Sto → Prop) → XQ → Prop
noncomputable abbrev XSW := Vars → Sto → (Vars → Sto → Prop) → (XV → Sto → Prop) → (String → PyData → Vars → Sto → Prop) → Prop
noncomputable def XEOK (c : Cx) (env : Env) (t : Sem Value) (W : XW) : Prop :=
 ∀ (E : Value → Shared → Prop) (K : Value → Shared → Prop) F ρ η σ (s : Shared) outer Q QE, Rel c.base c.C env F ρ s.heap η σ → Stk c.A env outer F ρ s.heap → W η σ Q QE →
  (∀ v x F' ρ' σ' h' tk', XR F' ρ' v x → Step c.base c.C F ρ s.heap F' ρ' h' σ' → Q x σ' → K v { s with heap := h', toks := tk' }) →
  (∀ e tr cls d F' ρ' σ' h' tk', TrOk env tr → Flies s.heap F' ρ' h' e cls d tr → Step c.base c.C F ρ s.heap F' ρ' h' σ' → QE cls d σ' → E (.ref e) { s with heap := h', toks := tk' }) → wpAny c.M c.A t K E s
noncomputable def XSOK (c : Cx) (env : Env) (t : Sem Flow) (W : XSW) : Prop :=
 ∀ (E : Value → Shared → Prop) (K : Flow → Shared → Prop) F ρ η σ (s : Shared) outer N Rt QE, Rel c.base c.C env F ρ s.heap η σ → Stk c.A env outer F ρ s.heap → W η σ N Rt QE →
  (∀ F' ρ' η' σ' h' tk', Rel c.base c.C env F' ρ' h' η' σ' → SEvo env AnyNm F ρ s.heap F' ρ' h' → N η' σ' → K .next { s with heap := h', toks := tk' }) →
  (∀ v x F' ρ' η' σ' h' tk', Rel c.base c.C env F' ρ' h' η' σ' → SEvo env AnyNm F ρ s.heap F' ρ' h' → XR F' ρ' v x → Rt x σ' → K (.ret v) { s with heap := h', toks := tk' }) →
  (∀ e tr cls d F' ρ' η' σ' h' tk', TrOk env tr → Flies s.heap F' ρ' h' e cls d tr → Rel c.base c.C env F' ρ' h' η' σ' → SEvo env AnyNm F ρ s.heap F' ρ' h' → QE cls d η' σ' → E (.ref e) { s with heap := h', toks := tk' }) →
  wpAny c.M c.A t K E s
section
variable {c : Cx} {env : Env}
theorem XSOK.weak {t : Sem Flow} {W W' : XSW} (h : XSOK c env t W) (hw : ∀ η σ N Rt QE, W' η σ N Rt QE → W η σ N Rt QE) : XSOK c env t W' :=
 fun E K F ρ η σ s outer N Rt QE R k hW hN hR hE => h E K F ρ η σ s outer N Rt QE R k (hw _ _ _ _ _ hW) hN hR hE
noncomputable def xwCons (W1 W2 : XSW) : XSW := fun η σ N Rt QE => W1 η σ (fun η1 σ1 => W2 η1 σ1 N Rt QE) Rt QE
noncomputable def xwIf (WT : BW) (W1 W2 : XSW) : XSW := fun η σ N Rt QE => WT η σ fun b σ1 => (b = true → W1 η σ1 N Rt QE) ∧ (b = false → W2 η σ1 N Rt QE)
theorem kK {t : Sem Flow} {W : SW} (h : SOK c env t W) : XSOK c env t (fun η σ N Rt _ => W η σ N Rt) := fun E K F ρ η σ s _ N Rt _ R _ hW hN hR _ => h E K F ρ η σ s N Rt R hW hN hR
theorem pN {st : Stmt} {rest : List Stmt} {W1 W2 : XSW} (h1 : XSOK c env (exec st env) W1) (h2 : XSOK c env (execs rest env) W2) :
  XSOK c env (execs (st :: rest) env) (xwCons W1 W2) := by
 intro E K F ρ η σ s outer N Rt QE R k hW hN hR hE
 refine wpAny_execs_cons (h1 E _ F ρ η σ s outer _ _ _ R k hW (fun F1 ρ1 η1 σ1 h1 t1 R1 V1 hW1 => ?_) (fun v x F1 ρ1 η1 σ1 h1 t1 R1 V1 X1 hQ => hR v x F1 ρ1 η1 σ1 h1 t1 R1 V1 X1 hQ) hE)
 refine h2 E _ F1 ρ1 η1 σ1 _ outer _ _ _ R1 (k.sevo R V1) hW1 (fun F2 ρ2 η2 σ2 h2 t2 R2 V2 hQ => ?_) (fun v x F2 ρ2 η2 σ2 h2 t2 R2 V2 X2 hQ => ?_) fun e tr cls d F2 ρ2 η2 σ2 h2 t2 tk2 X2 R2 V2 hQ => ?_
 ·exact hN F2 ρ2 η2 σ2 h2 t2 R2 (V1.trans R1 V2 R2.sto.nd) hQ
 ·exact hR v x F2 ρ2 η2 σ2 h2 t2 R2 (V1.trans R1 V2 R2.sto.nd) X2 hQ
 ·exact hE e tr cls d F2 ρ2 η2 σ2 h2 t2 tk2 (X2.back (V1.gone R R1)) R2 (V1.trans R1 V2 R2.sto.nd) hQ
theorem kE : XSOK c env (execs [] env) (fun η σ N _ _ => N η σ) := kK jP
theorem xsok_assign {x : String} {p pos : Pos} {value : Expr} {W : XW} (hk : stNm env x = true) (h : XEOK c env (eval value env) W) (hs : swapsWith value (some (.Name x p)) pos.line env = pure false := by rfl) :
  XSOK c env (exec (.Assign [.Name x p] value pos) env) (fun η σ N _ QE => W η σ (fun y σ1 => N (vset x y η) σ1) (fun cls d σ1 => QE cls d η σ1)) := by
 intro E K F ρ η σ s outer N Rt QE R k hW hN hR hE
 refine wpAny_Assign_Name (h E _ F ρ η σ s outer _ _ R k hW (fun v1 x1 F1 ρ1 σ1 hp1 t1 X1 S1 hW1 => ?_) fun e tr cls d F1 ρ1 σ1 hp1 t1 tk1 X1 S1 hW1 => hE e tr cls d F1 ρ1 η σ1 hp1 t1 tk1 X1 (R.step S1) S1.sevo hW1) hs
 have R1 := R.step S1
 refine (R1.store (s := { s with heap := hp1, toks := t1 }) (P := AnyNm) trivial hk X1) fun h2 t2 R2 V2 => ?_
 exact hN F1 ρ1 _ σ1 h2 t2 R2 (S1.sevo.trans R1 V2 R2.sto.nd) hW1
theorem xsok_expr {e : Expr} {pos : Pos} {W : XW} (h : XEOK c env (eval e env) W) (hi : interactive env = false := by rfl) (hs : swapsWith e none pos.line env = pure false := by rfl) :
  XSOK c env (exec (.Expr e pos) env) (fun η σ N _ QE => W η σ (fun y σ1 => y = .v .none ∧ N η σ1) (fun cls d σ1 => QE cls d η σ1)) := by
 intro E K F ρ η σ s outer N Rt QE R k hW hN hR hE
 refine wpAny_Expr (h E _ F ρ η σ s outer _ _ R k hW (fun v1 x1 F1 ρ1 σ1 hp1 t1 X1 S1 hW1 => ?_) fun e tr cls d F1 ρ1 σ1 hp1 t1 tk1 X1 S1 hW1 => hE e tr cls d F1 ρ1 η σ1 hp1 t1 tk1 X1 (R.step S1) S1.sevo hW1) hi hs
 obtain ⟨rfl, hW1⟩ := hW1
 cases X1 with
 | v X1 => cases X1; exact hN F1 ρ1 η σ1 hp1 t1 (R.step S1) S1.sevo hW1
theorem xsok_if {test : Expr} {body orelse : List Stmt} {pos : Pos} {WT : BW} {W1 W2 : XSW} (ht : TOK c env (isTrue test env (eval test env)) WT) (h1 : XSOK c env (execs body env) W1) (h2 : XSOK c env (execs orelse env) W2) :
  XSOK c env (exec (.If test body orelse pos) env) (xwIf WT W1 W2) := by
 intro E K F ρ η σ s outer N Rt QE R k hW hN hR hE
 refine wpAny_If (ht E _ F ρ η σ s _ R hW fun b F1 ρ1 σ1 hp1 t1 S1 hW1 => ?_)
 have R1 := R.step S1
 cases b with
 | true =>
  rw [if_pos rfl]
  exact h1 E _ F1 ρ1 η σ1 _ outer N Rt QE R1 (k.step S1) (hW1.1 rfl) (fun F2 ρ2 η2 σ2 h2 t2 R2 V2 hQ => hN F2 ρ2 η2 σ2 h2 t2 R2 (S1.sevo.trans R1 V2 R2.sto.nd) hQ)
   (fun v x F2 ρ2 η2 σ2 h2 t2 R2 V2 X2 hQ => hR v x F2 ρ2 η2 σ2 h2 t2 R2 (S1.sevo.trans R1 V2 R2.sto.nd) X2 hQ)
   fun e tr cls d F2 ρ2 η2 σ2 h2 t2 tk2 X2 R2 V2 hQ => hE e tr cls d F2 ρ2 η2 σ2 h2 t2 tk2 (X2.back (S1.gone R.sto)) R2 (S1.sevo.trans R1 V2 R2.sto.nd) hQ
 | false =>
  rw [if_neg Bool.false_ne_true]
  exact h2 E _ F1 ρ1 η σ1 _ outer N Rt QE R1 (k.step S1) (hW1.2 rfl) (fun F2 ρ2 η2 σ2 h2 t2 R2 V2 hQ => hN F2 ρ2 η2 σ2 h2 t2 R2 (S1.sevo.trans R1 V2 R2.sto.nd) hQ)
   (fun v x F2 ρ2 η2 σ2 h2 t2 R2 V2 X2 hQ => hR v x F2 ρ2 η2 σ2 h2 t2 R2 (S1.sevo.trans R1 V2 R2.sto.nd) X2 hQ)
   fun e tr cls d F2 ρ2 η2 σ2 h2 t2 tk2 X2 R2 V2 hQ => hE e tr cls d F2 ρ2 η2 σ2 h2 t2 tk2 (X2.back (S1.gone R.sto)) R2 (S1.sevo.trans R1 V2 R2.sto.nd) hQ
theorem off_new {base : Heap} {C : Addr} {F F' : Fz} {ρ ρ' : Pl} {h h' : Heap} {σ σ' : Sto} {η η' : Vars} {P : Str → Prop} {X : Addr → Prop} (R : Rel base C env F ρ h η σ) (R' : Rel base C env F' ρ' h' η' σ') (V : SEvo env P F ρ h F' ρ' h') (hX : ∀ a, X a → h.get? a = none ∧ ¬ Mut ρ' a) (hcl : ∀ x a, env.cells.lookup x = some a → celled env x := by assumption) : Off env ρ' X where
 muts := fun p hp q => (hX _ q).2 ⟨p, hp, rfl⟩
 loc := fun q => by
  obtain ⟨o, ho⟩ := R.locals.2
  rw [(hX _ q).1] at ho; cases ho
 cel := fun x a ha q => by
  refine dEA (R.cells x a (hcl x a ha) ha) fun v hN1 _ => ?_
  obtain ⟨o, ho, _⟩ := hN1
  rw [(hX _ q).1] at ho; cases ho
theorem xsok_while {test : Expr} {body : List Stmt} {pos : Pos} {WT : BW} {WB : XSW} (hcl : CellsOk env) (ht : TOK c env (isTrue test env (eval test env)) WT) (hb : XSOK c env (execs body env) WB) :
  XSOK c env (exec (.While test body [] pos) env) (fun η σ N Rt QE => ∃ (n0 : Nat) (Inv : Nat → Vars → Sto → Prop), Inv n0 η σ ∧
   ∀ n η1 σ1, Inv n η1 σ1 → WT η1 σ1 fun b σ2 => (b = true → WB η1 σ2 (fun η3 σ3 => ∃ m, m < n ∧ ∃ η4, VLe η4 η3 ∧ Inv m η4 σ3) Rt QE) ∧ (b = false → N η1 σ2)) := by
 intro E K F ρ η σ s outer N Rt QE R k hW hN hR hE
 refine dEEA hW fun n0 Inv h0 hI => ?_
 refine wpAny_While (codeAny_whileLoop (fun n st => ∃ F1 ρ1 η1 σ1, Rel c.base c.C env F1 ρ1 st.heap η1 σ1 ∧ SEvo env AnyNm F ρ s.heap F1 ρ1 st.heap ∧ (∃ h' tk, st = { s with heap := h', toks := tk }) ∧ Inv n η1 σ1) ?_ n0
  ⟨F, ρ, η, σ, R, .refl R.sto.inn, ⟨s.heap, s.toks, rfl⟩, h0⟩)
 intro n st hI0
 refine qC fun P kG => ?_
 refine dEEEEAAA hI0 fun F1 ρ1 η1 σ1 R1 V1 hN2 i1 => ?_
 obtain ⟨h1, t1, hR3⟩ := hN2
 refine kG ?_
 clear kG P
 subst hR3
 refine ht _ _ F1 ρ1 η1 σ1 _ _ R1 (hI n η1 σ1 i1) fun b F2 ρ2 σ2 h2 t2 S2 hQ => ?_
 have R2 := R1.step S2
 have V2 := V1.trans R1 (S2.sevo (P := AnyNm)) R2.sto.nd
 cases b with
 | true =>
  rw [if_pos rfl]
  refine hb _ _ F2 ρ2 η1 σ2 _ outer _ Rt QE R2 (k.sevo R V2) (hQ.1 rfl) (fun F3 ρ3 η3 σ3 h3 t3 R3 V3 hQ3 => ?_) (fun v x F3 ρ3 η3 σ3 h3 t3 R3 V3 X3 hQ3 => ?_) fun e tr cls d F3 ρ3 η3 σ3 h3 t3 tk3 X3 R3 V3 hQ3 => ?_
  ·refine dEAEA hQ3 fun m hm η4 hle i4 => ?_
   exact ⟨m, hm, F3, ρ3, η4, σ3, R3.forget hle, V2.trans R2 V3 R3.sto.nd, ⟨h3, t3, rfl⟩, i4⟩
  ·exact hR v x F3 ρ3 η3 σ3 h3 t3 R3 (V2.trans R2 V3 R3.sto.nd) X3 hQ3
  ·have k3 := (k.sevo R V2).sevo R2 V3
   have V23 := V2.trans R2 V3 R3.sto.nd
   refine loop_env (E := E) (s := { s with heap := h3, toks := t3 }) (h0 := s.heap) R3.sto (k3.all R3) k3.fr k3.own (V23.gone R R3) (X3.back (V2.gone R R2)) tk3 (fun s' q => q) fun h4 X' hX' X4 ev S4 => ?_
   have R4 := R3.along ev (off_new R R3 V23 hX')
   exact hE e _ cls d F3 ρ3 η3 σ3 h4 t3 (.inr (.inr rfl)) X4 R4 ⟨V23.evo.trans ev fun a q => .inr (hX' a q).1, V23.pre, V23.new⟩ hQ3
 | false =>
  rw [if_neg Bool.false_ne_true]
  exact wpAny_execs_nil (hN F2 ρ2 η1 σ2 h2 t2 R2 V2 (hQ.2 rfl))
theorem Flies.sub {F : Fz} {ρ ρ' : Pl} {h0 h : Heap} {e : Addr} {cls : String} {d : PyData} {tr : Option Value} (x : Flies h0 F ρ' h e cls d tr) (p : ρ <+: ρ') : Flies h0 F ρ h e cls d tr := by
 refine qC fun P kG => ?_
 obtain ⟨n, f, m, oe, vs, a0, e1, e2, e3, e4, e5, e6⟩ := x
 refine kG ?_
 clear kG P
 refine ⟨n, f, fun q => m (q.mono p), oe, vs, a0, e1, e2, e3, e4, e5, e6.imp id ?_⟩
 intro hI0
 obtain ⟨fl, q, T, oT, ts, t1, t2, t3, t4, t5, t6, t7, t8⟩ := hI0
 exact ⟨fl, q, T, oT, ts, t1, t2, t3, t4, t5, t6, t7, fun q => t8 (q.mono p)⟩
noncomputable def XP (σ : Sto) (QE : XQ) : String → PyData → Vars → Sto → Prop := fun cls d _ σ' => ∃ σ2 e, σ' = σ2 ++ e ∧ σ2.length = σ.length ∧ QE cls d σ2
theorem op_cont {a : Addr} {fd : FuncData} {body : List Stmt} {W : XSW} (D : FdOK c a fd body) {bx : List (String × XV)} {bs : List (Str × Value)}
  (hnm : ∀ n ∈ bx, fd.scope.names.lookup (n.1 : Str) = some .local ∨ fd.scope.names.lookup (n.1 : Str) = some .cell)
  (hb : ∀ L cells, CellsOk (defEnv fd a L cells) → XSOK { c with A := c.A.deeper (defEnv fd a L cells) } (defEnv fd a L cells) (execs body (defEnv fd a L cells)) W)
  {E : Value → Shared → Prop} {K : Value → Shared → Prop} {F : Fz} {ρ : Pl} {η : Vars} {σ : Sto} {s : Shared} {Q : XV → Sto → Prop} {QE : XQ} {outer : List Env} (R : Rel c.base c.C env F ρ s.heap η σ) (k : Stk c.A env outer F ρ s.heap)
  (hn1 : bs.map (·.1) = bx.map (fun n => (n.1 : Str))) (hX1 : XRs F ρ (bs.map (·.2)) (bx.map (·.2)))
  (hW : W (vsetX (bx.map (·.1)) (bx.map (·.2)) []) σ (fun _ σ' => RetP σ (.v .none) σ' Q) (fun x σ' => RetP σ x σ' Q) (XP σ QE)) (hK : Ret c F ρ s Q K)
  (hE : ∀ e tr cls d F' ρ' σ' h' tk', TrOk env tr → Flies s.heap F' ρ' h' e cls d tr → Step c.base c.C F ρ s.heap F' ρ' h' σ' → QE cls d σ' → E (.ref e) { s with heap := h', toks := tk' }) : wpAny c.M c.A.in1 (newFunctionEnv fd.scope fd.globals fd.closure bs (fd.qualname ++ ".<locals>.") (some a) fd.code none fd.builtins)
   (fun env' s₂ => s₂.heap.NoLimit ∧ codeAny c.M c.A (.func body env') (fun r s' => match r with | .ok (.ret v) => K v s' | .ok _ => False | .error e => E e s') s₂) E s := by
 refine op_frame D hnm R hn1 hX1 fun L cells h2 t2 hcl R2 S2 hL hcell => ?_
 have k2 : Stk (c.A.deeper (defEnv fd a L cells)) (defEnv fd a L cells) (env :: outer) F ρ h2 := by
  refine ⟨?_, rfl, fun e he q => ?_, (k.all R).evo S2.evo S2.new fun e he L hL hm => ?_⟩
  ·show (c.A.frames.map _) = _
   rw [k.fr]; rfl
  ·refine dAEEEEAAAA (k.all R e he) fun _ L' o es n hf _ _ ho _ => ?_
   rw [hf] at q; cases q
   exact nomatch ho.symm.trans hL
  ·refine dAEEEEAAA (k.all R e he) fun _ L' o es n hf _ hM _ => ?_
   rw [hf] at hL; cases hL; exact hM hm
 refine hb L cells hcl _ _ F ρ _ σ { s with heap := h2, toks := t2 } (env :: outer) (fun _ σ' => RetP σ (.v .none) σ' Q) (fun x σ' => RetP σ x σ' Q) (XP σ QE) R2 k2 hW (fun F3 ρ3 η3 σ3 h3 t3 R3 V3 hQ => ?_) (fun v x F3 ρ3 η3 σ3 h3 t3 R3 V3 X3 hQ => ?_) fun e tr cls d F3 ρ3 η3 σ3 h3 t3 tk3 X3 R3 V3 hQ => ?_
 ·refine dEEEAA (retp_out R.sto (S2.thenS R.sto V3 R3 hL hcell) (.v .none : XR F3 ρ3 .none (.v .none)) hQ) fun F4 σ4 d X4 S4 hQ4 => ?_
  exact hK _ _ F4 ρ σ4 h3 t3 X4 S4 hQ4
 ·refine dEEEAA (retp_out R.sto (S2.thenS R.sto V3 R3 hL hcell) X3 hQ) fun F4 σ4 d X4 S4 hQ4 => ?_
  exact hK _ _ F4 ρ σ4 h3 t3 X4 S4 hQ4
 ·have S3 := S2.thenS R.sto V3 R3 hL hcell
  have k3 := k2.sevo R2 V3
  refine dEEAA hQ fun σ4 ex hR4 hl hQ4 => ?_
  subst hR4
  refine leave_env (s := { s with heap := h3, toks := t3 }) (h0 := s.heap) R3.sto (k3.all R3) k3.fr rfl (S3.gone R.sto) (X3.back (S2.gone R.sto)) tk3 fun h4 X' hX' X4 ev S4 => ?_
  have S5 := S3.andThen ev (fun b hb => .inr (hX' b hb).1) S4
  exact hE e _ cls d F3 ρ σ4 h4 t3 (.inr (.inl rfl)) (X4.sub S3.pre) (S5.drop (R.sto.len.trans hl.symm)) hQ4
theorem op_defX {a : Addr} {fd : FuncData} {body : List Stmt} {W : XSW} (D : FdOK c a fd body) (hroom : c.A.depth < recursionLimit) {kw : List (Str × Value)} {bx : List (String × XV)} {bs : List (Str × Value)}
  (hnm : ∀ n ∈ bx, fd.scope.names.lookup (n.1 : Str) = some .local ∨ fd.scope.names.lookup (n.1 : Str) = some .cell)
  (hb : ∀ L cells, CellsOk (defEnv fd a L cells) → XSOK { c with A := c.A.deeper (defEnv fd a L cells) } (defEnv fd a L cells) (execs body (defEnv fd a L cells)) W)
  {E : Value → Shared → Prop} {K : Value → Shared → Prop} {F : Fz} {ρ : Pl} {η : Vars} {σ : Sto} {s : Shared} {vs : List Value} {Q : XV → Sto → Prop} {QE : XQ} {outer : List Env} (R : Rel c.base c.C env F ρ s.heap η σ) (k : Stk c.A env outer F ρ s.heap)
  (hB : BindsTo s fd ⟨vs, kw⟩ bs) (hn1 : bs.map (·.1) = bx.map (fun n => (n.1 : Str))) (hX1 : XRs F ρ (bs.map (·.2)) (bx.map (·.2)))
  (hW : W (vsetX (bx.map (·.1)) (bx.map (·.2)) []) σ (fun _ σ' => RetP σ (.v .none) σ' Q) (fun x σ' => RetP σ x σ' Q) (XP σ QE)) (hK : Ret c F ρ s Q K)
  (hE : ∀ e tr cls d F' ρ' σ' h' tk', TrOk env tr → Flies s.heap F' ρ' h' e cls d tr → Step c.base c.C F ρ s.heap F' ρ' h' σ' → QE cls d σ' → E (.ref e) { s with heap := h', toks := tk' }) : wpAny c.M c.A (call (.ref a) vs kw) K E s := by
 refine dEA D.obj fun o ho hfd => ?_
 exact wpAny_call (codeAny_call_function hroom (R.sto.old _ _ ho) hfd D.co D.gen D.body (D.code.keeps R.sto.old) (hB _ _ _ _ (op_cont D hnm hb R k hn1 hX1 hW hK hE)))
theorem op_defY {a : Addr} {fd : FuncData} {body : List Stmt} {W : XSW} (D : FdOK c a fd body) (hroom : c.A.depth < recursionLimit) {kw : List (Str × Value)} {bx : List (String × XV)} {bs : List (Str × Value)}
  (hnm : ∀ n ∈ bx, fd.scope.names.lookup (n.1 : Str) = some .local ∨ fd.scope.names.lookup (n.1 : Str) = some .cell)
  (hb : ∀ L cells, CellsOk (defEnv fd a L cells) → XSOK { c with A := c.A.deeper (defEnv fd a L cells) } (defEnv fd a L cells) (execs body (defEnv fd a L cells)) W)
  {E : Value → Shared → Prop} {K : Value → Shared → Prop} {F : Fz} {ρ : Pl} {η : Vars} {σ : Sto} {s : Shared} {vs : List Value} {Q : XV → Sto → Prop} {QE : XQ} {outer : List Env} (R : Rel c.base c.C env F ρ s.heap η σ) (k : Stk c.A env outer F ρ s.heap)
  {F0 : Fz} {h0 : Heap} {tk0 : Nat} (S0 : Step c.base c.C F ρ s.heap F0 ρ h0 σ) (hB : ∀ (M : Model) (A : Around) (E : Value → Shared → Prop) (Q : List (Str × Value) → Shared → Prop), Q bs { s with heap := h0, toks := tk0 } → wpAny M A (bindArgs fd ⟨vs, kw⟩) Q E s) (hn1 : bs.map (·.1) = bx.map (fun n => (n.1 : Str))) (hX1 : XRs F0 ρ (bs.map (·.2)) (bx.map (·.2)))
  (hW : W (vsetX (bx.map (·.1)) (bx.map (·.2)) []) σ (fun _ σ' => RetP σ (.v .none) σ' Q) (fun x σ' => RetP σ x σ' Q) (XP σ QE)) (hK : Ret c F ρ s Q K)
  (hE : ∀ e tr cls d F' ρ' σ' h' tk', TrOk env tr → Flies s.heap F' ρ' h' e cls d tr → Step c.base c.C F ρ s.heap F' ρ' h' σ' → QE cls d σ' → E (.ref e) { s with heap := h', toks := tk' }) : wpAny c.M c.A (call (.ref a) vs kw) K E s := by
 refine dEA D.obj fun o ho hfd => ?_
 refine wpAny_call (codeAny_call_function hroom (R.sto.old _ _ ho) hfd D.co D.gen D.body (D.code.keeps R.sto.old) (hB _ _ _ _ (op_cont (s := { s with heap := h0, toks := tk0 }) D hnm hb (R.step S0) (k.step S0) hn1 hX1 hW
  (fun v x F2 ρ2 σ2 h2 t2 X2 S2 hQ => hK v x F2 ρ2 σ2 h2 t2 X2 (S0.trans S2) hQ) fun e tr cls d F2 ρ2 σ2 h2 t2 tk2 X2 S2 hQ => hE e tr cls d F2 ρ2 σ2 h2 t2 tk2 (X2.back (S0.gone R.sto)) (S0.trans S2) hQ)))
theorem xeok_fn {P : Params} {mg : Str → Option Value} (Y : Yes c P mg) {f : Str} {p pos : Pos} {args : List Expr} {t : Sem Value} {ts : List (Bool × Sem Value)} {a : Addr} {W : LW} {WB : XSW} (hroom : c.A.depth < recursionLimit) (hk : env.kindOf f = some .globalImplicit)
  (hm : nsIn (hd.heap_1 P) mainGlobals f = some (some (.ref a))) (hok : kok P a = true) (hd : (f == ("__debug__" : Str)) = false) (ht : backTo pos (starEach args env) = (false, t) :: ts) (hs : EsOK c env ((false, t) :: ts) W) (params : List String)
  (hbind : ∀ vs : List Value, vs.length = params.length → bindArgs (kfd P a) ⟨vs, []⟩ = pure ((params.map Str.ofString).zip vs)) (hnm : (params.all fun n => lc (kfd P a).scope n) = true)
  (hb : ∀ L cells, CellsOk (defEnv (kfd P a) a L cells) → XSOK { c with A := c.A.deeper (defEnv (kfd P a) a L cells) } (defEnv (kfd P a) a L cells) (execs (kbody P a) (defEnv (kfd P a) a L cells)) WB) :
  XEOK c env (eval (.Call (.Name f p) args [] pos) env) (fun η σ Q QE => W η σ fun xs σ1 => xs.length = params.length ∧ WB (vsetX params xs []) σ1 (fun _ σ' => RetP σ1 (.v .none) σ' Q) (fun x σ' => RetP σ1 x σ' Q) (XP σ1 QE)) := by
 intro E K F ρ η σ s outer Q QE R k hW hK hE
 have D := Y.fd hok
 refine dEA D.obj fun o ho hfd => ?_
 refine wpAny_Call_NameR (vF Y.G R hk (Y.some hm) hd ?_)
 rw [ht]
 refine callWith_function (o := o) (fd := kfd P a) (kJ (hs E _ F ρ η σ s _ R hW fun vs xs F1 ρ1 σ1 hp1 t1 X1 S1 hW1 => ⟨⟨S1.sto.old _ _ ho, hfd⟩, ?_⟩))
 have hv : vs.length = params.length := by rw [X1.length]; exact hW1.1
 refine op_defX D hroom (bx := params.zip xs) (bs := (params.map Str.ofString).zip vs) (fun n hn => ?_) hb (env := env) (η := η) (σ := σ1) (s := { s with heap := hp1, toks := t1 }) (QE := QE) (R.step S1) (k.step S1) (.of_eq (hbind vs hv)) ?_ ?_ ?_ (fun v x F2 ρ2 σ2 h2 t2 X2 S2 hQ => hK v x F2 ρ2 σ2 h2 t2 X2 (S1.trans S2) hQ)
  fun e tr cls d F2 ρ2 σ2 h2 t2 tk2 X2 S2 hQ => hE e tr cls d F2 ρ2 σ2 h2 t2 tk2 (X2.back (S1.gone R.sto)) (S1.trans S2) hQ
 ·have hp := List.of_mem_zip hn
  rw [List.all_eq_true] at hnm
  exact pM (hnm _ hp.1)
 ·rw [List.map_fst_zip (by rw [List.length_map]; exact (qA [_,_] 1 (.v 0) (.v 1) (.c 1 (.v 0) (.v 1) .z) rfl (uJ (Eq.symm hv)))), show (fun n : String × XV => Str.ofString n.1) = Str.ofString ∘ Prod.fst from rfl, ← List.map_map, List.map_fst_zip (by rw [hW1.1]; exact (qA [_] 1 (.v 0) (.v 0) .z rfl ))]
 ·rw [List.map_snd_zip (by rw [List.length_map]; exact (qA [_,_] 1 (.v 0) (.v 1) (.c 1 (.v 0) (.v 1) .z) rfl (uJ hv))), List.map_snd_zip (by rw [hW1.1]; lia)]; exact X1
 ·rw [List.map_fst_zip (by rw [hW1.1]; lia), List.map_snd_zip (by rw [hW1.1]; lia)]; exact hW1.2
theorem eok_of_x {t : Sem Value} {W : XW} (h : XEOK c env t W) (hfr : c.A.frames = some [env]) (hown : env.frame = some env.locals) : EOK c env t (fun η σ Q => W η σ Q fun _ _ _ => False) := fun E K F ρ η σ s Q R hW hK =>
 h E K F ρ η σ s [] Q _ R ⟨hfr, hown, fun e he => (nomatch he), fun e he => (nomatch he)⟩ hW hK fun _ _ _ _ _ _ _ _ _ _ _ _ q => q.elim
end
section
variable {base : Heap} {C : Addr} {F F' : Fz} {ρ ρ' : Pl} {h h' : Heap} {σ σ' : Sto}
theorem Step.kill (S : SRel base C F ρ h σ) {i : Nat} {p : Addr × Addr} {m : MO} (hp : ρ[i]? = some p) (hm : σ[i]? = some m) (hl : m.live = true) (hs : ∀ b, b ≠ p.2 → h'.get? b = h.get? b) {o : Obj} (ho : h'.get? p.2 = some o) (hc : ∀ v, o.data ≠ .cell v) :
  Step base C F ρ h (freeze F p.2 h') ρ h' (σ.set i .dead) := by
 have hF : F p.2 = none := S.out i p m hp hm hl
 have le := freeze_le (h := h') hF
 have inn0 : FIn F h' := fun b o e => by
  have hb : b ≠ p.2 := fun q => by rw [q, hF] at e; cases e
  rw [hs b hb]; exact S.inn b o e
 have inn := freeze_in (a := p.2) inn0
 have hmem : Mut ρ p.2 := ⟨p, List.mem_of_getElem? hp, rfl⟩
 refine ⟨⟨le, inn, fun b o' e => ?_, fun b o e hx => .inl ((hs b fun q => hx (q ▸ hmem)).trans e)⟩, List.prefix_refl _, fun q hq => .inl hq, ⟨inn, fun a o e => le _ _ (S.base a o e), by rw [List.length_set]; exact S.len, fun j q mo h1 h2 => ?_, S.nd, fun j q mo h1 h2 hlv => ?_⟩⟩
 ·unfold freeze at e
  split at e
  ·rename_i q; exact .inr (.inr (q ▸ hmem))
  ·exact .inl e
 ·rcases set_at h2 with ⟨rfl, rfl⟩ | ⟨hij, h2⟩
  ·exact Option.some.inj (hp.symm.trans h1) ▸ ⟨o, by unfold freeze; rw [if_pos rfl]; exact ho, hc⟩
  ·exact (S.obj j q mo h1 h2).mono le (hs _ fun e => hij (S.idx hp h1 e))
 ·rcases set_at h2 with ⟨rfl, rfl⟩ | ⟨hij, h2⟩
  ·cases hlv
  ·unfold freeze
   rw [if_neg fun e => hij (S.idx hp h1 e)]; exact S.out j q mo h1 h2 hlv
end
section
variable {c : Cx} {env : Env}
theorem boot_next0 : bootBuiltins "next" = some (.builtin "next") := by decide +kernel
theorem boot_iter0 : bootBuiltins "iter" = some (.builtin "iter") := by decide +kernel
noncomputable def oIter (xs : List XV) (σ : Sto) (Q : XV → Sto → Prop) : Prop := ∃ ds, xs = [.v (.list ds)] ∧ Q (.own σ.length) (σ ++ [.it ds])
theorem op_iter : OpN c (fun vs => call (.builtin "iter") vs) oIter := by
 intro E K F ρ σ s vs xs Q S X hQ hK
 obtain ⟨ds, rfl, hQ⟩ := hQ
 refine X.l1 fun v X => X.eV.eL fun a o vs n e1 e2 e3 r => ?_
 ···refine call_function_entry (by decide +kernel) (by decide +kernel) kdk_entry_iter (kdk_args_iter _) ?_
    unfold Builtin.«iter»
    refine wpAny_bind (m := someArgs "iter" 1 2 _) (wpAny_of_eq (a := [Value.ref a]) (by first | rfl | kernel_rfl!) ?_)
    show wpAny _ _ (pyIter (.ref a) >>= _) _ _ _
    refine wpAny_bind (wpAny_pyIter_list ⟨_, S.inn _ _ e1, e2, n, e3⟩ ?_)
    obtain ⟨S1, hp⟩ := Step.newOwn (m0 := .it ds) S (Ext.push s.heap ({ cls := .type "list_iterator", data := .fields #[.ref a, .int 0 0] } : Obj)) (get?_size s.heap) (p0 := s.heap.objs.size) ⟨rfl, a, 0, o, vs, n, ⟨_, Heap.get?_push_size _ rfl, rfl, rfl⟩, e1, e2, e3, by simpa using r⟩
    exact wpAny_pure ⟨_, rfl, hK _ _ F _ _ _ s.toks (.own hp) S1 hQ⟩
theorem xeok_next {mg : Str → Option Value} (G : Gl c mg) {p q pos : Pos} {x : String} (hh : c.A.handled = none) (hk : env.kindOf "next" = some .globalImplicit) (hm : mg "next" = none) (hv : varNm env x = true) :
  XEOK c env (eval (.Call (.Name "next" p) [.Name x q] [] pos) env) (fun η σ Q QE => ∃ i xs, vget x η = some (.own i) ∧ σ[i]? = some (.it xs) ∧
   (∀ d r, xs = d :: r → Q (.v d) (σ.set i (.it r))) ∧ (xs = [] → QE "StopIteration" (.tuple []) (σ.set i .dead))) := by
 intro E K F ρ η σ s outer Q QE R k hW hK hE
 refine dEEAAA hW fun i xs h1 h2 hQ hQE => ?_
 refine dAA (kQ hv) fun k1 k2 k3 => ?_
 refine wpAny_Call_NameR (kW G R hk hm boot_next0 (by decide) (by decide) ?_)
 refine callWith_builtin rfl (kJ (spliced_cons (wpAny_Name (R.lookup h1 k1 k2 fun v X => spliced_nil ?_) k3)))
 refine X.eO fun pp hp => ?_
 ·have S := R.sto
  obtain ⟨hpe, l, j, ol, vs, n, hit, b1, b2, b3, b4⟩ := (S.obj i pp _ hp h2)
  have hl : s.heap.IsList l vs := ⟨ol, S.inn _ _ b1, b2, n, b3⟩
  rw [hpe]
  refine dEAA (id hit) fun o ho hc hd => ?_
  refine dEAAE (id hl) fun ol' hol _ nl hdl => ?_
  refine call_function_entry (by decide +kernel) (by decide +kernel) kdk_entry_next (kdk_args_next _) ?_
  unfold Builtin.«next»
  refine wpAny_bind (m := someArgs "next" 1 2 _) (wpAny_of_eq (a := [Value.ref pp.2]) (by first | rfl | kernel_rfl!) ?_)
  dsimp only
  refine wpAny_bind (wpAny_specialOf (name := Str.ofString "__next__") hit.typeIs slot_listiter_next.lookup ?_)
  refine wpAny_ite_split (fun hab => absurd hab (by decide)) (fun _ => ?_)
  refine wpAny_bind (wpAny_callSpecial?_slot (name := Str.ofString "__next__") hit.typeIs slot_listiter_next
   (wpAny_call_entry slot_listiter_next hit.typeIs entry_listiter_next ?_ (args_listiter_next _)))
  show wpAny _ _ (field (.ref pp.2) 0 >>= _) _ _ s
  refine wpAny_bind (wpAny_field ho hd (x := .ref l) rfl ?_)
  show wpAny _ _ (if (Value.ref l == Value.none) = true then _ else _) _ _ s
  rw [if_neg (show ¬ ((Value.ref l == Value.none) = true) from Bool.false_ne_true)]
  show wpAny _ _ (field (.ref pp.2) 1 >>= _) _ _ s
  refine wpAny_bind (wpAny_field ho hd (x := .int j 0) rfl ?_)
  show wpAny _ _ (seqItems? (.ref l) >>= _) _ _ s
  refine wpAny_bind (wpAny_seqItems hol hdl ?_)
  cases xs with
  | cons d r =>
   refine dEAA (VRs.drop_cons b4) fun v1 hv1 V1 V2 => ?_
   have hx : vs[j]? = some v1 := by simpa using hv1
   simp only [Int.toNat_natCast, hx]
   refine wpAny_bind (wpAny_setField ho hd (by simp) (wpAny_pure ⟨v1, rfl, wpAny_pure ⟨_, rfl, ?_⟩⟩))
   have hit' : (s.heap.update pp.2 (Obj.mapFields (·.setIfInBounds 1 (rawInt ((j : Int) + 1))))).IsListIter pp.2 l (j + 1) :=
    ⟨_, Heap.get?_update_self _ ho (Obj.isFreed_of_fields (Obj.data_mapFields hd _)), (Obj.cls_mapFields ..).trans hc, by rw [Obj.data_mapFields hd]; simp [rawInt]⟩
   have S1 := Step.mutate S hp h2 rfl (Heap.SameBut.update (h := s.heap) (a := pp.2) (f := Obj.mapFields (·.setIfInBounds 1 (rawInt ((j : Int) + 1))))).2 (m' := .it r) ⟨hpe, l, j + 1, ol, vs, n, hit', b1, b2, b3, V2⟩ rfl
   exact hK _ _ F ρ _ _ s.toks (.v V1) S1 (hQ d r rfl)
  | nil =>
   have hx : vs[j]? = none := by
    have h4 := b4.length
    rw [List.length_drop] at h4
    simp only [List.length_nil, Array.length_toList] at h4
    rw [Array.getElem?_eq_none_iff]; exact (qA [_,_,_] 1 (.v 0) (.v 1) (.c 1 (.v 2) (.n 0) (.c 1 (.v 0) (.a (.v 2) (.v 1)) .z)) rfl (subZ (qA [_,_,_] 1 (.v 0) (.v 1) (.c 1 (.v 0) (.a (.v 2) (.v 1)) (.c 1 (.v 2) (.n 0) .z)) rfl (jV _ _) (uJ h4))) (jV _ _))
   simp only [Int.toNat_natCast, hx]
   refine wpAny_bind (wpAny_rule (wpAny_bind (wpAny_setField ho hd (by simp) ?_)))
   show wpAny _ _ (newExc (.type "StopIteration") [] >>= _) _ _ _
   refine wpAny_bind ?_
   simp only [newExc, newTuple]
   refine wpAny_bind (wpAny_newObj_type ?_ (by size_fits))
   refine wpAny_bind (m := firstArgMember _ _) (wpAny_of_eq (a := Value.none) (by first | rfl | (simp only [firstArgMember]; rfl)) ?_)
   refine wpAny_newObj_type ?_ (by size_fits)
   simp only [raiseNew]
   refine wpAny_bind (wpAny_handled ?_)
   first | rw [show c.A.in1.handled = none from hh] | rw [hh]
   refine wpAny_bind (wpAny_pure (wpAny_throw ?_))
   have ho' := Heap.get?_update_self (Obj.mapFields (·.setIfInBounds 0 Value.none)) ho (Obj.isFreed_of_fields (Obj.data_mapFields hd _))
   have S1 := Step.kill S hp h2 rfl (Heap.SameBut.update (h := s.heap) (a := pp.2) (f := Obj.mapFields (·.setIfInBounds 0 Value.none))).2 ho' (fun v q => by rw [Obj.data_mapFields hd] at q; cases q)
   generalize hh1 : s.heap.update pp.2 (Obj.mapFields (·.setIfInBounds 0 Value.none)) = g1 at S1
   have S2 := Step.ext S1.sto (Ext.push g1 ({ cls := .type "tuple", data := .seq ([] : List Value).toArray } : Obj))
   generalize hg2 : g1.push ({ cls := .type "tuple", data := .seq ([] : List Value).toArray } : Obj) = g2 at S2
   have hsz2 : g2.objs.size = g1.objs.size + 1 := by rw [← hg2, Heap.size_push]
   refine hE g2.objs.size none "StopIteration" (.tuple []) _ ρ _ (g2.push _) s.toks (.inl rfl) ?_ ((S1.trans S2).trans (Step.ext0 S2.sto (Ext.push g2 _))) (hQE rfl)
   have gone := Step.gone S (S1.trans S2)
   refine ⟨gone _ (get?_size g2), ?_, fun ⟨p', hp', e'⟩ => ?_, _, _, .ref g1.objs.size, Heap.get?_push_size _ rfl, rfl, rfl, rfl, ?_, .inl ⟨rfl, rfl⟩⟩
   ·cases q : Fup (freeze F pp.2 g1) g1 g2 g2.objs.size with
    | none => rfl
    | some o => have := S2.sto.inn _ _ q; rw [get?_size] at this; cases this
   ·refine qC fun P kG => ?_
    obtain ⟨o, ho⟩ := S2.sto.lt p' hp'
    refine kG ?_
    clear kG P
    rw [e', get?_size] at ho; cases ho
   ·refine .tuple (o := { cls := .type "tuple", data := .seq ([] : List Value).toArray }) (n := 0) (vs := #[]) (Fup_new ?_ (get?_size g1)) rfl rfl .nil
    rw [← hg2]; exact Heap.get?_push_size _ rfl
end
section
variable {c : Cx} {env : Env}
theorem op_ilsh : Op2 c (inplaceOp .LShift) (fun x y σ Q => ∃ a n : Nat, x = .v (.int a) ∧ y = .v (.int n) ∧ a < 2 ^ 60 ∧ n < 1000 ∧ Q (.v (.int ((a * 2 ^ n : Nat) : Int))) σ) := by
 intro E K F ρ σ s v u x y Q S X Y hQ hK
 refine qC fun P kG => ?_
 obtain ⟨a, n, rfl, rfl, h1, h2, hQ⟩ := hQ
 refine kG ?_
 clear kG P
 refine X.eI fun _ => Y.eI fun _ => ilshift_int (by exact Int.natCast_nonneg _) ?_ (pV S hK ?_)
 ·have := intBits_le_64 (k := (a : Int)) (by exact Int.natCast_nonneg _) (by exact (jO [_] 1 (.a (.c (.v 0)) (.n 1)) (.n 18446744073709551616) (.c 1 (.a (.v 0) (.n 1)) (.n 1152921504606846976) .z) rfl h1))
  exact (jO [_,_] 1 (.a (.c (.v 0)) (.c (.v 1))) (.n 134217728) (.c 1 (.v 0) (.n 64) (.c 1 (.a (.v 1) (.n 1)) (.n 1000) .z)) rfl this h2)
 ·have e : (a : Int) * 2 ^ ((n : Int).toNat) = ((a * 2 ^ n : Nat) : Int) := by
   rw [Int.toNat_natCast]; simp
  rw [e]; exact hQ
theorem op_ior : Op2 c (inplaceOp .BitOr) (fun x y σ Q => ∃ a b : Int, x = .v (.int a) ∧ y = .v (.int b) ∧ Q (.v (.int (Builtin.bitOr a b))) σ) := by
 intro E K F ρ σ s v u x y Q S X Y hQ hK
 refine qC fun P kG => ?_
 obtain ⟨a, b, rfl, rfl, hQ⟩ := hQ
 refine kG ?_
 clear kG P
 exact X.eI fun _ => Y.eI fun _ => ior_int (pV S hK hQ)
theorem xeok_lmeth {o : Expr} {name : Str} {apos pos : Pos} {args : List Expr} {t : Sem Value} {pl : Sem Bool} {id : String} {W : EW} {Wa : XW} {O} (slot : Slot "list" name id) (hty : typeOf (.builtin id) = pure (.type "method_descriptor"))
  (ht : backTo pos (starEach args env) = [(false, t)]) (h1 : EOK c env (eval o env) W) (ha : XEOK c env t Wa) (ho : Op2m c (fun l x => call (.builtin id) [l, x]) O)
  (he : eval (.Call (.Attribute o name apos) args [] pos) env = (do
   let ov ← eval o env
   standAt apos.atName
   let (f, first) ← holding [ov] (getMethod ov name pl)
   callWith pos f first (backTo pos (starEach args env)) []) := by rfl) :
  XEOK c env (eval (.Call (.Attribute o name apos) args [] pos) env) (fun η σ Q QE => W η σ fun x σ1 => ∃ i, x = .own i ∧ (∃ xs, σ1[i]? = some (.list xs)) ∧ Wa η σ1 (fun y σ2 => ∃ xs, σ2[i]? = some (.list xs) ∧ O i xs y σ2 Q) QE) := by
 intro E K F ρ η σ s outer Q QE R k hW hK hE
 refine MethodCall_ (h1 E _ F ρ η σ s _ R hW fun v1 x1 F1 ρ1 σ1 hp1 t1 X1 S1 hW1 => ?_) he
 refine dEAA hW1 fun i hR1 hN2 hW2 => ?_
 obtain ⟨xs, hm⟩ := hN2
 subst hR1
 refine X1.eO fun p hp => ?_
 ·refine dAEA (S1.sto.obj i p _ hp hm) fun hpe vs l hv => ?_
  have hl : hp1.IsList p.2 vs.toArray := l.isList
  rw [hpe]
  refine getMethod_list_of (s := { s with heap := hp1, toks := t1 }) slot hty hl (let ⟨o, e, ⟨_, c2, _⟩, _⟩ := l; ⟨o, e, c2⟩) ?_
  rw [ht]
  refine callWith_builtin rfl ?_
  have key : wpAny c.M c.A (spliced [(false, t)]) (fun vs s' => wpAny c.M c.A (call (.builtin id) ([.ref p.2] ++ vs) []) K E s') E { s with heap := hp1, toks := t1 } := by
   refine spliced_cons (ha E _ F1 ρ1 η σ1 _ outer _ _ (R.step S1) (k.step S1) hW2 (fun v2 y F2 ρ2 σ2 hp2 t2 X2 S2 hW3 => spliced_nil ?_) fun e tr cls d F2 ρ2 σ2 h2 t2 tk2 X2 S2 hQ => hE e tr cls d F2 ρ2 σ2 h2 t2 tk2 (X2.back (S1.gone R.sto)) (S1.trans S2) hQ)
   refine dEA hW3 fun ys hm2 hO => ?_
   exact ho E _ F2 ρ2 σ2 _ i p ys _ y Q S2.sto (pre_at S2.pre hp) hm2 X2 hO fun v x F3 ρ3 σ3 h3 t3 X3 S3 hQ => hK v x F3 ρ3 σ3 h3 t3 X3 ((S1.trans S2).trans S3) hQ
  exact kJ key
theorem Flies.typeIs {h0 : Heap} {F : Fz} {ρ : Pl} {s : Shared} {e : Addr} {cls : String} {d : PyData} {tr : Option Value} (x : Flies h0 F ρ s.heap e cls d tr) : s.TypeIs (.ref e) cls := by
 refine qC fun P kG => ?_
 obtain ⟨_, _, _, oe, vs, a0, e1, e2, _⟩ := x
 refine kG ?_
 clear kG P
 exact ⟨oe, e1, e2⟩
theorem Gl.deep {mg : Str → Option Value} (G : Gl c mg) (A : Around) : Gl { c with A := A } mg := ⟨G.g, G.b, G.lim⟩
theorem xsok_try {mg : Str → Option Value} (G : Gl c mg) {body : List Stmt} {X : Str} {T : String} {np hp pos : Pos} {b₀ : Stmt} {suite : List Stmt} {WB : XSW} {WS : SW} (hcl : CellsOk env)
  (hk : env.kindOf X = some .globalImplicit) (hm : mg X = none) (hbt : bootBuiltins X = some (.type T)) (hn : X ≠ "__name__") (hd : (X == ("__debug__" : Str)) = false)
  (hexc : isSubtype (.type T) (.type "BaseException") = pure true) (hnt : isSubtype (.type ((Manifest.find? T).elim "type" fun x => x.metatype)) (.type "tuple") = pure false) (hsub : isSubtype (.type T) (.type T) = pure true)
  (hb : XSOK c env (execs body env) WB) (hs : ∀ e, SOK { c with A := c.A.mark (some e) } env (execs (b₀ :: suite) env) WS) :
  XSOK c env (exec (.Try body [.ExceptHandler (some (.Name X np)) none (b₀ :: suite) hp] [] [] pos) env) (fun η σ N Rt _ => WB η σ N Rt (fun cls _ η1 σ1 => cls = T ∧ WS η1 σ1 N Rt)) := by
 intro E K F ρ η σ s outer N Rt QE R k hW hN hR hE
 refine wpAny_Try_except (hb _ _ F ρ η σ s outer N Rt _ R k hW (fun F1 ρ1 η1 σ1 h1 t1 R1 V1 hQ => wpAny_execs_nil (hN F1 ρ1 η1 σ1 h1 t1 R1 V1 hQ)) (fun v x F1 ρ1 η1 σ1 h1 t1 R1 V1 X1 hQ => hR v x F1 ρ1 η1 σ1 h1 t1 R1 V1 X1 hQ) fun e tr cls d F1 ρ1 η1 σ1 h1 t1 tk1 X1 R1 V1 hQ => ?_)
 obtain ⟨rfl, hQ⟩ := hQ
 have k1 := k.sevo R V1
 refine look_env (s := { s with heap := h1, toks := t1 }) (h0 := s.heap) R1.sto (k1.all R1) k1.fr k1.own (V1.gone R R1) X1 tk1 fun h2 X' hX' X2 ev2 S2 => ?_
 have R2 := R1.along ev2 (off_new R R1 V1 hX')
 have V2 : SEvo env AnyNm F ρ s.heap F1 ρ1 h2 := ⟨V1.evo.trans ev2 fun a q => .inr (hX' a q).1, V1.pre, V1.new⟩
 refine wpAny_handleBy_builtin (X := cls) (T := cls) (b := true) hexc hnt hsub (kW (c := { c with A := c.A.mark (some (.ref e)) }) (G.deep _) R2 hk hm hbt hn hd ⟨rfl, X2.typeIs, ?_⟩)
 rw [if_pos rfl]
 refine set_fl (fr := none) (s := { s with heap := h2, toks := t1 }) R2.sto X2 fun h3 X'' hX'' X3 ev3 S3 => ?_
 have R3 := R2.along ev3 (off_new R R2 V2 hX'')
 have V3 : SEvo env AnyNm F ρ s.heap F1 ρ1 h3 := ⟨V2.evo.trans ev3 fun a q => .inr (hX'' a q).1, V2.pre, V2.new⟩
 exact hs (.ref e) _ _ F1 ρ1 η1 σ1 { s with heap := h3, toks := t1 } N Rt R3 hQ (fun F4 ρ4 η4 σ4 h4 t4 R4 V4 hQ4 => hN F4 ρ4 η4 σ4 h4 t4 R4 (V3.trans R3 V4 R4.sto.nd) hQ4) fun v x F4 ρ4 η4 σ4 h4 t4 R4 V4 X4 hQ4 => hR v x F4 ρ4 η4 σ4 h4 t4 R4 (V3.trans R3 V4 R4.sto.nd) X4 hQ4
structure ExcF (cls : String) (d : PyData) (F : Fz) (a : Addr) : Prop where
 obj : ∃ oe vs a0, F a = some oe ∧ oe.cls = .type cls ∧ oe.data = .fields vs ∧ vs[0]? = some a0 ∧ VR F a0 d
noncomputable def ExcP (cls : String) (d : PyData) : PF where
 P := ExcF cls d
 mono := fun _ _ _ hF x => ⟨let ⟨oe, vs, a0, e1, e2, e3, e4, e5⟩ := x.obj; ⟨oe, vs, a0, hF _ _ e1, e2, e3, e4, e5.mono hF⟩⟩
theorem exc_arg {F : Fz} {h : Heap} {oe : Obj} {ws : Array Value} {a0 : Value} {m : Str} {G : Prop} (inn : FIn F h) (e4 : ws[0]? = some a0) (x : VR F a0 (.tuple [.str m])) (k : ∀ t tk, ws[0]? = some (.ref t) → h.TupAt t [.str m tk] → G) : G := by
 revert e4
 refine x.eT (G := fun a0 => ws[0]? = some a0 → G) fun t o us n f1 f2 f3 f4 e4 => ?_
 obtain ⟨ul⟩ := us
 match ul, f4 with
 | [u], f4 => exact f4.uncons.1.eS (G := fun u => (h.TupAt t [u]) → G) (fun tk ht => k t tk e4 ht) ⟨o, n, inn _ _ f1, f2, f3⟩
 | _ :: _ :: _, f4 => exact nomatch f4.uncons.2
theorem op_strexc {X n : String} (FX : ExcStrFacts X n) (hu : c.A.units + 64 < cLine) : OpN c (fun vs => call (.type "str") vs) (fun xs σ Q => ∃ m, xs = [.pr (ExcP X (.tuple [.str m]))] ∧ Q (.v (.str m)) σ) := by
 intro E K F ρ σ s vs xs Q S X hQ hK
 refine qC fun P kG => ?_
 obtain ⟨m, rfl, hQ⟩ := hQ
 refine kG ?_
 clear kG P
 refine X.l1 fun v X => X.eP fun a X => ?_
 refine qC fun P kG => ?_
 obtain ⟨oe, ws, a0, e1, e2, e3, e4, e5⟩ := X.obj
 refine kG ?_
 clear kG P
 refine exc_arg S.inn (oe := oe) (ws := ws) e4 e5 fun t tk e4 htup => P.str_of_exc_one FX (by exact (qA [_,_] 1 (.a (.a (.v 0) (.n 2)) (.n 1)) (.v 1) (.c 1 (.a (.a (.v 0) (.n 64)) (.n 1)) (.v 1) .z) rfl hu)) ⟨oe, ws, S.inn _ _ e1, e2, e3, e4⟩ htup (hK _ _ F ρ σ s.heap s.toks (.v (.str m tk)) (.refl S) hQ)
theorem xsok_try_as {mg : Str → Option Value} (G : Gl c mg) {body : List Stmt} {X : Str} {n : String} {T : String} {np hp pos : Pos} {b₀ : Stmt} {suite : List Stmt} {WB : XSW} {WS : SW} (hcl : CellsOk env)
  (hk : env.kindOf X = some .globalImplicit) (hm : mg X = none) (hbt : bootBuiltins X = some (.type T)) (hn : X ≠ "__name__") (hd : (X == ("__debug__" : Str)) = false) (hloc : env.kindOf n = some .local)
  (hexc : isSubtype (.type T) (.type "BaseException") = pure true) (hnt : isSubtype (.type ((Manifest.find? T).elim "type" fun x => x.metatype)) (.type "tuple") = pure false) (hsub : isSubtype (.type T) (.type T) = pure true)
  (hb : XSOK c env (execs body env) WB) (hs : ∀ e, SOK { c with A := c.A.mark (some e) } env (execs (b₀ :: suite) env) WS) :
  XSOK c env (exec (.Try body [.ExceptHandler (some (.Name X np)) (some n) (b₀ :: suite) hp] [] [] pos) env) (fun η σ N Rt _ => WB η σ N Rt (fun cls d η1 σ1 => cls = T ∧ WS (vset n (.pr (ExcP T d)) η1) σ1 (fun _ _ => False) Rt)) := by
 intro E K F ρ η σ s outer N Rt QE R k hW hN hR hE
 refine wpAny_Try_except (hb _ _ F ρ η σ s outer N Rt _ R k hW (fun F1 ρ1 η1 σ1 h1 t1 R1 V1 hQ => wpAny_execs_nil (hN F1 ρ1 η1 σ1 h1 t1 R1 V1 hQ)) (fun v x F1 ρ1 η1 σ1 h1 t1 R1 V1 X1 hQ => hR v x F1 ρ1 η1 σ1 h1 t1 R1 V1 X1 hQ) fun e tr cls d F1 ρ1 η1 σ1 h1 t1 tk1 X1 R1 V1 hQ => ?_)
 obtain ⟨hR3, hQ⟩ := hQ
 subst hR3
 have k1 := k.sevo R V1
 refine look_env (s := { s with heap := h1, toks := t1 }) (h0 := s.heap) R1.sto (k1.all R1) k1.fr k1.own (V1.gone R R1) X1 tk1 fun h2 X' hX' X2 ev2 S2 => ?_
 have R2 := R1.along ev2 (off_new R R1 V1 hX')
 have V2 : SEvo env AnyNm F ρ s.heap F1 ρ1 h2 := ⟨V1.evo.trans ev2 fun a q => .inr (hX' a q).1, V1.pre, V1.new⟩
 refine wpAny_handleBy_builtin_as (X := cls) (T := cls) (b := true) hexc hnt hsub (kW (c := { c with A := c.A.mark (some (.ref e)) }) (G.deep _) R2 hk hm hbt hn hd ⟨rfl, X2.typeIs, ?_⟩)
 rw [if_pos rfl]
 refine set_fl (fr := none) (s := { s with heap := h2, toks := t1 }) R2.sto X2 fun h3 X'' hX'' X3 ev3 S3 => ?_
 have R3 := R2.along ev3 (off_new R R2 V2 hX'')
 have V3 : SEvo env AnyNm F ρ s.heap F1 ρ1 h3 := ⟨V2.evo.trans ev3 fun a q => .inr (hX'' a q).1, V2.pre, V2.new⟩
 -- the exception is frozen
 refine qC fun P kG => ?_
 obtain ⟨x1, x2, x3, oe, vs, a0, e1, e2, e3, e4, e5, _⟩ := X3
 refine kG ?_
 clear kG P
 have ef := Evo.freeze (a := e) R3.sto.inn x2
 have R4 := R3.along ef (off_new (X := (· = e)) R R3 V3 fun a q => q ▸ ⟨x1, x3⟩)
 have V4 : SEvo env AnyNm F ρ s.heap (freeze F1 e h3) ρ1 h3 := ⟨V3.evo.trans ef fun a q => .inr (q ▸ x1), V3.pre, V3.new⟩
 have XX : XR (freeze F1 e h3) ρ1 (.ref e) (.pr (ExcP cls d)) := .pr (p := ExcP cls d) ⟨oe, vs, a0, by unfold freeze; rw [if_pos rfl]; exact e1, e2, e3, e4, e5.mono ef.le⟩
 have hst : stNm env n = true := by unfold stNm; unfold Env.kindOf at hloc; rw [hloc]
 refine (R4.store (s := { s with heap := h3, toks := t1 }) (P := AnyNm) trivial hst XX) fun h5 t5 R5 V5 => ?_
 have V5' := V4.trans R4 V5 R5.sto.nd
 refine hs (.ref e) _ _ _ ρ1 _ σ1 { s with heap := h5, toks := t5 } (fun _ _ => False) Rt R5 hQ (fun F4 ρ4 η4 σ4 h4 t4 R4 V4 hQ4 => hQ4.elim) fun v x F6 ρ6 η6 σ6 h6 t6 R6 V6 X6 hQ6 => ?_
 refine dEA R6.ns fun m hm6 _ => ?_
 refine wpAny_nameGoes hloc hm6 (by rw [R6.kind]; rfl) fun h7 m' hn7 hs7 => ?_
 have V6' := V5'.trans R5 V6 R6.sto.nd
 have hL := R6.locals
 have ev7 : Evo (· = env.locals) F6 h6 F6 h7 := Evo.but R6.sto.inn R6.nsF fun b o hb e => (hs7.2 b hb).trans e
 have S7 : SRel c.base c.C F6 ρ6 h7 σ6 := R6.sto.along ev7 fun p hp q => hL.1 ⟨p, hp, q⟩
 refine hR v x F6 ρ6 [] σ6 h7 _ ⟨S7, R6.kind, R6.glob, R6.blt, ⟨m', hn7, fun y xv _ hv => by cases hv⟩, R6.nsF, R6.cellAll, fun y a hy ha => ?_, R6.inj⟩ ⟨V6'.evo.trans ev7 fun a q => .inl (.inr (.inl q)), V6'.pre, V6'.new⟩ X6 hQ6
 refine dEAA (R6.cells y a hy ha) fun v' c1 c2 _ => ?_
 refine ⟨v', ev7.isCell c1 fun q => ?_, c2, fun _ _ _ hv => nomatch hv⟩
 refine dEA c1 fun o' ho' hd' => ?_
 refine dEEEAA hm6 fun o'' es ep w1 w2 _ => ?_
 have q' : a = env.locals := q
 rw [q', w1] at ho'; cases ho'; rw [w2] at hd'; cases hd'
end
noncomputable def pv1 (v b : Nat) : List Nat → Option (Nat × List Nat)
 | [] => if b % 128 < 64 then some (v, []) else none
 | b' :: r => if b % 128 < 64 then some (v, b' :: r) else pv1 (v * 64 + b' % 64) b' r
noncomputable def pv : List Nat → Option (Nat × List Nat)
 | [] => none
 | b :: r => pv1 (b % 64) b r
noncomputable def run (b : Nat) : List Nat → Nat
 | [] => 0
 | b' :: r => if b % 128 < 64 then 0 else run b' r + 1
noncomputable def runs : List Nat → Nat
 | [] => 0
 | b :: r => run b r
noncomputable def pvW : XSW := fun η σ _ Rt QE => ∃ i xs, vget "iterator" η = some (.own i) ∧ σ[i]? = some (.it (nlist xs)) ∧ (∀ x ∈ xs, x < 256) ∧ runs xs ≤ 6 ∧
 (∀ v r, pv xs = some (v, r) → Rt (.v (.int v)) (σ.set i (.it (nlist r)))) ∧ (pv xs = none → ∀ η', QE "StopIteration" (.tuple []) η' (σ.set i .dead))
theorem boot_stop : bootBuiltins "StopIteration" = some (.type "StopIteration") := by decide +kernel
theorem sub_stop1 : isSubtype (.type "StopIteration") (.type "BaseException") = pure true := by rw [isSubtype_type]; kernel_rfl
theorem sub_stop2 : isSubtype (.type ((Manifest.find? "StopIteration").elim "type" fun x => x.metatype)) (.type "tuple") = pure false := by rw [isSubtype_type]; kernel_rfl
theorem sub_stop3 : isSubtype (.type "StopIteration") (.type "StopIteration") = pure true := by rw [isSubtype_type]; kernel_rfl
theorem and64 (n : Nat) (h : n < 256) : Builtin.bitAnd (n : Int) 64 = ((if n % 128 < 64 then 0 else 64 : Nat) : Int) := by
 rw [show Builtin.bitAnd (n : Int) 64 = ((n &&& 64 : Nat) : Int) from by simp [Builtin.bitAnd]]
 congr 1
 revert n
 decide +kernel
theorem or_lo (v r : Nat) (h : r < 64) : Builtin.bitOr ((v * 2 ^ 6 : Nat) : Int) (r : Int) = ((v * 64 + r : Nat) : Int) := by
 have e : Builtin.bitOr ((v * 2 ^ 6 : Nat) : Int) (r : Int) = ((v * 2 ^ 6 ||| r : Nat) : Int) := by
  have n1 : ¬ (0 ≤ -((v * 2 ^ 6 : Nat) : Int) - 1) := by exact (fun q0 => (jY [_] (.i 1 (.n 0) (.s (.g (.c (.v 0))) (.n 1)) .z) rfl q0))
  have n2 : ¬ (0 ≤ -(r : Int) - 1) := by exact (fun q0 => (jY [_] (.i 1 (.n 0) (.s (.g (.c (.v 0))) (.n 1)) .z) rfl q0))
  unfold Builtin.bitOr Builtin.bitAnd Builtin.bitNot
  rw [decide_eq_false n1, decide_eq_false n2]
  dsimp only
  rw [show (-(-((v * 2 ^ 6 : Nat) : Int) - 1) - 1) = ((v * 2 ^ 6 : Nat) : Int) from by exact (Int.le_antisymm (jO [_] 1 (.s (.g (.s (.g (.c (.v 0))) (.n 1))) (.n 1)) (.c (.v 0)) .z rfl ) (jO [_] 1 (.c (.v 0)) (.s (.g (.s (.g (.c (.v 0))) (.n 1))) (.n 1)) .z rfl )), show (-(-(r : Int) - 1) - 1) = (r : Int) from by exact (Int.le_antisymm (jO [_] 1 (.s (.g (.s (.g (.c (.v 0))) (.n 1))) (.n 1)) (.c (.v 0)) .z rfl ) (jO [_] 1 (.c (.v 0)) (.s (.g (.s (.g (.c (.v 0))) (.n 1))) (.n 1)) .z rfl )), Int.toNat_natCast, Int.toNat_natCast]
  exact (Int.le_antisymm (jO [_] 1 (.s (.g (.s (.g (.c (.v 0))) (.n 1))) (.n 1)) (.c (.v 0)) .z rfl ) (jO [_] 1 (.c (.v 0)) (.s (.g (.s (.g (.c (.v 0))) (.n 1))) (.n 1)) .z rfl ))
 rw [e, Nat.mul_comm, ← Nat.two_pow_add_eq_or_of_lt (by exact h)]
theorem pv_walk {c : Cx} {P : Params} {mg : Str → Option Value} (Y : Yes c P mg) (rm : Room 0 c.A) (L : Addr) (cells : List (Str × Addr)) (hcl : CellsOk (defEnv (kfd P 45) 45 L cells)) :
  XSOK c (defEnv (kfd P 45) 45 L cells) (execs (kbody P 45) (defEnv (kfd P 45) 45 L cells)) pvW := by
 have hh := rm.hd
 have heq := rm.eq
 refine XSOK.weak (pN (xsok_assign (by kernel_rfl) (xeok_next Y.G hh (by kernel_rfl) (Y.none (by kernel_rfl)) (by kernel_rfl)))
 (pN (kK (jZ (by kernel_rfl) (jJ (qB (by kernel_rfl)) jM op_and)))
 (pN (xsok_while hcl (kT (jJ (qB (by kernel_rfl)) jM op_and) jT)
  (pN (kK (sok_aug (by kernel_rfl) (by kernel_rfl) jM op_ilsh)) (pN (xsok_assign (by kernel_rfl) (xeok_next Y.G hh (by kernel_rfl) (Y.none (by kernel_rfl)) (by kernel_rfl))) (pN (kK (sok_aug (by kernel_rfl) (by kernel_rfl) (jJ (qB (by kernel_rfl)) jM op_and) op_ior)) kE))))
 (pN (kK (pC (qB (by kernel_rfl)))) kE)))) ?_
 intro η σ N Rt QE h
 dsimp only [wCons, wAsg, wIf, wRet, wBin, wCmp, wPl, wUn, wAnd, wOr, wIfE, wEs, wSl, xwCons, xwIf]
 refine qC fun P kG => ?_
 obtain ⟨i, xs, h1, h2, h3, h4, hR, hE⟩ := h
 refine kG ?_
 clear kG P
 simp only [h1, h2, qJ, qF, qD, qK, qL, qT, qH, qI, qM, qN, qY, qZ, qE, String.reduceEq, String.reduceBEq, cond_true, cond_false, uH, if_true, if_false, reduceIte, ite_true, ite_false, zA, zB, zC, zD, zE, zF, qP, zG, qQ, zH, zI, zJ, zK, zL, qR, qU, zM, zN, qO, zO, zP, zQ, zR, zS, zT, qV, zU, zV, zW, zX, zY, qW, zZ, jA, jB, jR, jQ, jS, jC, jD, jE, jF, qX, jG, jH, qS, uA, uB, uC, uD, uE, uF, uG]
 have hi : i < σ.length := (List.getElem?_eq_some_iff.mp h2).1
 have hget : ∀ m : MO, (σ.set i m)[i]? = some m := fun m => by rw [List.getElem?_set, if_pos rfl, if_pos hi]
 refine ⟨i, _, rfl, h2, fun d r e => ?_, fun e => ?_⟩
 ·refine qC fun P kG => ?_
  obtain ⟨b0, ys, rfl, rfl, rfl⟩ := nlist_cons e.symm
  refine kG ?_
  clear kG P
  simp only [qP, and63]
  refine ⟨ys.length, fun n η' σ' => ∃ v b r k : _, n = (r : List Nat).length ∧ vget "b" η' = some (.v (.int ((b : Nat) : Int))) ∧ vget "val" η' = some (.v (.int ((v : Nat) : Int))) ∧ vget "iterator" η' = some (.own i) ∧ σ' = σ.set i (.it (nlist r)) ∧ b < 256 ∧ (∀ x ∈ r, x < 256) ∧
   k + run b r ≤ 7 ∧ v < 64 ^ k ∧ pv1 v b r = pv (b0 :: ys), ?_, ?_⟩
  ·refine ⟨b0 % 64, b0, ys, 1, rfl, ?_, ?_, ?_, rfl, h3 _ List.mem_cons_self, fun x hx => h3 x (List.mem_cons_of_mem _ hx), ?_, by exact (qA [_] 1 (.a (.v 0) (.n 1)) (.n 64) (.c 1 (.a (.v 0) (.n 1)) (.n 64) .z) rfl (Nat.mod_lt _ (by decide))), rfl⟩
   ·kernel_rfl
   ·kernel_rfl
   ·exact Eq.trans (by kernel_rfl) h1
   ·have : run b0 ys ≤ 6 := h4
    exact (qA [_] 1 (.a (.n 1) (.v 0)) (.n 7) (.c 1 (.v 0) (.n 6) .z) rfl this)
  ·intro n η1 σ1 hI0
   refine qC fun P kG => ?_
   obtain ⟨v, b, r, k, rfl, g1, g2, g3, rfl, g4, g5, g6, g7, g8⟩ := hI0
   refine kG ?_
   clear kG P
   have hp : (64 : Nat) ^ k ≤ 64 ^ 7 := Nat.pow_le_pow_right (by exact Nat.succ_pos _) (by exact Nat.le_trans (Nat.le_trans (Nat.le_add_right _ _) ‹_›) (by decide))
   simp only [g1, g2, g3, qP, and64 b g4, qJ, qF, qD, qK, qL, qT, qH, qI, qM, qN, qY, qZ, qE, String.reduceEq, String.reduceBEq, cond_true, cond_false, uH, if_true, if_false, reduceIte, ite_true, ite_false, zA, zB, zC, zD, zE, zF, qP, zG, qQ, zH, zI, zJ, zK, zL, qR, qU, zM, zN, qO, zO, zP, zQ, zR, zS, zT, qV, zU, zV, zW, zX, zY, qW, zZ, jA, jB, jR, jQ, jS, jC, jD, jE, jF, qX, jG, jH, qS, uA, uB, uC, uD, uE, uF, uG]
   refine ⟨fun q => ?_, fun q => ?_⟩
   ·have hb : ¬ b % 128 < 64 := fun hb => by rw [if_pos hb] at q; simp at q
    refine ⟨v, 6, rfl, rfl, by exact (qA [_,_] 1 (.a (.v 0) (.n 1)) (.n 1152921504606846976) (.c 1 (.v 1) (.n 4398046511104) (.c 1 (.a (.v 0) (.n 1)) (.v 1) .z)) rfl hp g7), by exact Nat.le_add_left _ _, i, nlist r, rfl, hget _, fun d r' e => ?_, fun e => ?_⟩
    ·refine qC fun P kG => ?_
     obtain ⟨b', r', rfl, rfl, rfl⟩ := nlist_cons e.symm
     refine kG ?_
     clear kG P
     simp only [qP, and63, List.set_set, qJ, qF, qD, qK, qL, qT, qH, qI, qM, qN, qY, qZ, qE, String.reduceEq, String.reduceBEq, cond_true, cond_false, uH, if_true, if_false, reduceIte, ite_true, ite_false, zA, zB, zC, zD, zE, zF, qP, zG, qQ, zH, zI, zJ, zK, zL, qR, qU, zM, zN, qO, zO, zP, zQ, zR, zS, zT, qV, zU, zV, zW, zX, zY, qW, zZ, jA, jB, jR, jQ, jS, jC, jD, jE, jF, qX, jG, jH, qS, uA, uB, uC, uD, uE, uF, uG]
     have hrun : run b (b' :: r') = run b' r' + 1 := by
      show (if b % 128 < 64 then 0 else run b' r' + 1) = _
      rw [if_neg hb]
     have hlt : b' % 64 < 64 := Nat.mod_lt _ (by exact (qA [] 1 (.a (.n 0) (.n 1)) (.n 64) .z rfl ))
     refine ⟨_, _, rfl, rfl, r'.length, Nat.lt_succ_self _, _, VLe.refl _, v * 64 + b' % 64, b', r', k + 1, rfl, ?_, ?_, ?_, rfl, g5 _ List.mem_cons_self, fun x hx => g5 x (List.mem_cons_of_mem _ hx), by exact (qA [_,_,_] 1 (.a (.a (.v 0) (.n 1)) (.v 1)) (.n 7) (.c 1 (.a (.v 1) (.n 1)) (.v 2) (.c 1 (.a (.v 0) (.v 2)) (.n 7) .z)) rfl (uJ (Eq.symm hrun)) g6), ?_, ?_⟩
     ·kernel_rfl
     ·simp only [qJ, qF, qD, qK, qL, qH, qI, qM, qN, qE, String.reduceEq, String.reduceBEq, cond_true, cond_false, reduceIte, if_true, if_false, uA, uB, uC, uD, List.map_cons, List.map_nil, or_lo _ _ hlt]
     ·exact Eq.trans (by kernel_rfl) g3
     ·rw [Nat.pow_succ]; (clear hlt; exact (qA [_,_,_] 1 (.a (.a (.r (.v 0) 64) (.v 1)) (.n 1)) (.r (.v 2) 64) (.c 1 (.a (.v 1) (.n 1)) (.n 64) (.c 64 (.a (.v 0) (.n 1)) (.v 2) .z)) rfl (Nat.mod_lt _ (by decide)) g7))
     ·rw [← g8]
      show _ = if b % 128 < 64 then _ else _
      rw [if_neg hb]
    ·rw [List.set_set]
     refine hE ?_ _
     rw [← g8]
     cases r with
     | nil => unfold pv1; rw [if_neg hb]
     | cons x y => cases e
   ·have hb : b % 128 < 64 := by
     rcases Nat.lt_or_ge (b % 128) 64 with h | h
     ·exact h
     ·rw [if_neg (by exact (fun q0 => (jY [_] (.c 1 (.a (.v 0) (.n 1)) (.n 64) (.c 1 (.n 64) (.v 0) .z)) rfl q0 h)))] at q; simp at q
    refine hR v r ?_
    rw [← g8]
    cases r with
    | nil => unfold pv1; rw [if_pos hb]
    | cons x y => unfold pv1; rw [if_pos hb]
 ·refine hE ?_ _
  cases xs with
  | nil => rfl
  | cons x y => cases e
noncomputable def reads : Nat → List Nat → List Nat
 | 0, _ => []
 | f + 1, xs => match pv xs with
  | some (v, r) => v :: reads f r
  | none => []
theorem pv1_drop : ∀ (r : List Nat) (v b v' : Nat) (r' : List Nat), pv1 v b r = some (v', r') → ∃ k, r' = r.drop k
 | [], v, b, v', r', h => by
  unfold pv1 at h
  split at h
  ·cases h; exact ⟨0, rfl⟩
  ·cases h
 | x :: r, v, b, v', r', h => by
  unfold pv1 at h
  split at h
  ·cases h; exact ⟨0, rfl⟩
  ·obtain ⟨k, hk⟩ := pv1_drop r _ _ _ _ h
   exact ⟨k + 1, by simpa using hk⟩
theorem pv_drop {xs : List Nat} {v : Nat} {r : List Nat} (h : pv xs = some (v, r)) : r.length < xs.length ∧ ∃ k, r = xs.drop k := by
 cases xs with
 | nil => cases h
 | cons b ys =>
  obtain ⟨k, hk⟩ := pv1_drop ys _ _ _ _ h
  refine ⟨?_, k + 1, by simpa using hk⟩
  rw [hk, List.length_drop, List.length_cons]; exact (qA [_,_] 1 (.a (.v 0) (.n 1)) (.a (.v 1) (.n 1)) (.c 1 (.v 0) (.v 1) .z) rfl (Nat.sub_le _ _))
theorem reads_fuel : ∀ (f g : Nat) (xs : List Nat), xs.length < f → xs.length < g → reads f xs = reads g xs
 | 0, _, _, h, _ => absurd h (Nat.not_lt_zero _)
 | _, 0, _, _, h => absurd h (Nat.not_lt_zero _)
 | f + 1, g + 1, xs, h1, h2 => by
  rw [reads, reads]
  cases hv : pv xs with
  | none => rfl
  | some p =>
   obtain ⟨v, r⟩ := p
   have := (pv_drop hv).1
   dsimp only
   rw [reads_fuel f g r (by exact (qA [_,_,_] 1 (.a (.v 0) (.n 1)) (.v 1) (.c 1 (.a (.v 0) (.n 1)) (.v 2) (.c 1 (.a (.v 2) (.n 1)) (.a (.v 1) (.n 1)) .z)) rfl this h1)) (by lia)]
noncomputable def runsOk (xs : List Nat) : Prop := ∀ k, runs (xs.drop k) ≤ 6
noncomputable def readW : XSW := fun η σ _ Rt _ => ∃ xs, vget "octets" η = some (.v (.list (nlist xs))) ∧ (∀ x ∈ xs, x < 256) ∧ runsOk xs ∧ xs.length < 1000 ∧ Rt (.own (σ.length + 1)) (σ ++ [.dead, .list (nlist (reads (xs.length + 1) xs))])
theorem get_l2 (σ : Sto) (a b : MO) : (σ ++ [a, b])[σ.length]? = some a ∧ (σ ++ [a, b])[σ.length + 1]? = some b := by simp
theorem set_l2 (σ : Sto) (a b x : MO) : (σ ++ [a, b]).set σ.length x = σ ++ [x, b] ∧ (σ ++ [a, b]).set (σ.length + 1) x = σ ++ [a, x] := by
 constructor
 ·rw [List.set_append_right _ _ (Nat.le_refl _)]; simp
 ·rw [List.set_append_right _ _ (by exact Nat.le_add_right _ _)]; simp
theorem retp_at {σ σ' : Sto} {d : PyData} {Q : XV → Sto → Prop} (hl : σ'.length = σ.length) (h : Q (.v d) σ') : RetP σ (.v d) σ' Q := .inl ⟨d, σ', [], rfl, by simp, hl, h⟩
theorem read_walk {c : Cx} {P : Params} {mg : Str → Option Value} (Y : Yes c P mg) (rm : Room 1 c.A) (L : Addr) (cells : List (Str × Addr)) (hcl : CellsOk (defEnv (kfd P 230) 230 L cells)) :
  XSOK c (defEnv (kfd P 230) 230 L cells) (execs (kbody P 230) (defEnv (kfd P 230) 230 L cells)) readW := by
 have hh := rm.hd
 have heq := rm.eq
 refine XSOK.weak (pN (kK (vL hh ["tape", "told"] (nms0 _ (by kernel_rfl)) rfl (qG (pR Y.G (by kernel_rfl) (Y.none (by kernel_rfl)) boot_iter0 (by decide) (by decide) rfl rfl (qG (qB (by kernel_rfl)) jI) op_iter) (qG (kM rfl jI) jI)) (by kernel_rfl) (by kernel_rfl)))
 (pN (xsok_try Y.G hcl (by kernel_rfl) (Y.none (by kernel_rfl)) boot_stop (by decide) (by decide) sub_stop1 sub_stop2 sub_stop3 (pN (xsok_while hcl (kT pJ jT) (pN (xsok_expr (xeok_lmeth PySem.F.slot_list_append PySem.F.type_list_append rfl (qB (by kernel_rfl))
  (xeok_fn Y rm.dep (by kernel_rfl) (by kernel_rfl) (by kernel_rfl) (by decide) rfl (qG (qB (by kernel_rfl)) jI) ["iterator"] (fun vs hv => by obtain ⟨a, rfl⟩ := len1 hv; kernel_rfl) (by kernel_rfl) (fun L cells hcl => pv_walk (Y.deep _) (rm.deeper _) L cells hcl)) op_append)) kE)) kE)
  (fun e => jK (pC (qB (by kernel_rfl))) jP)) kE)) ?_
 intro η σ N Rt QE h
 dsimp only [wCons, wAsg, wIf, wRet, wBin, wCmp, wPl, wUn, wAnd, wOr, wIfE, wEs, wSl, xwCons, xwIf]
 obtain ⟨xs, h1, h2, h3, h4, hR⟩ := h
 simp only [h1, qJ, qF, qD, qK, qL, qT, qH, qI, qM, qN, qY, qZ, qE, String.reduceEq, String.reduceBEq, cond_true, cond_false, uH, if_true, if_false, reduceIte, ite_true, ite_false, zA, zB, zC, zD, zE, zF, qP, zG, qQ, zH, zI, zJ, zK, zL, qR, qU, zM, zN, qO, zO, zP, zQ, zR, zS, zT, qV, zU, zV, zW, zX, zY, qW, zZ, jA, jB, jR, jQ, jS, jC, jD, jE, jF, qX, jG, jH, qS, uA, uB, uC, uD, uE, uF, uG]
 unfold oIter
 have hs : (2 : Nat) ^ 20 ≤ sizeLine := by decide
 refine ⟨_, rfl, Nat.zero_le _, by exact Nat.le_add_left _ _, trivial, xs.length, fun n η' σ' => ∃ r done : List Nat, n = r.length ∧ (∃ k, r = xs.drop k) ∧ vget "told" η' = some (.own (σ.length + 1)) ∧ vget "tape" η' = some (.own σ.length) ∧ σ' = σ ++ [.it (nlist r), .list (nlist done)] ∧
  done.length + r.length ≤ xs.length ∧ done ++ reads (r.length + 1) r = reads (xs.length + 1) xs, ?_, ?_⟩
 ·refine ⟨xs, [], rfl, ⟨0, rfl⟩, ?_, ?_, by simp [nlist], by simp, rfl⟩
  ·simp only [qJ, qF, qD, qK, qL, qT, qH, qI, qM, qN, qY, qZ, qE, String.reduceEq, String.reduceBEq, cond_true, cond_false, uH, if_true, if_false, reduceIte, ite_true, ite_false, zA, zB, zC, zD, zE, zF, qP, zG, qQ, zH, zI, zJ, zK, zL, qR, qU, zM, zN, qO, zO, zP, zQ, zR, zS, zT, qV, zU, zV, zW, zX, zY, qW, zZ, jA, jB, jR, jQ, jS, jC, jD, jE, jF, qX, jG, jH, qS, uA, uB, uC, uD, uE, uF, uG, List.length_append]
  ·kernel_rfl
 ·intro n η1 σ1 hI0
  refine qC fun P kG => ?_
  obtain ⟨r, done, rfl, ⟨k, hk⟩, g1, g2, rfl, g3, g4⟩ := hI0
  refine kG ?_
  clear kG P
  obtain ⟨q1, q2⟩ := get_l2 σ (.it (nlist r)) (.list (nlist done))
  simp only [g1, g2, qJ, qF, qD, qK, qL, qT, qH, qI, qM, qN, qY, qZ, qE, String.reduceEq, String.reduceBEq, cond_true, cond_false, uH, if_true, if_false, reduceIte, ite_true, ite_false, zA, zB, zC, zD, zE, zF, qP, zG, qQ, zH, zI, zJ, zK, zL, qR, qU, zM, zN, qO, zO, zP, zQ, zR, zS, zT, qV, zU, zV, zW, zX, zY, qW, zZ, jA, jB, jR, jQ, jS, jC, jD, jE, jF, qX, jG, jH, qS, uA, uB, uC, uD, uE, uF, uG]
  refine ⟨fun _ => ⟨_, rfl, ⟨_, q2⟩, trivial, σ.length, r, ?_, q1, fun x hx => h2 x (by rw [hk] at hx; exact List.mem_of_mem_drop hx), by rw [hk]; exact h3 k, fun v r' hv => ?_, fun hv η' => ?_⟩, fun q => by cases q⟩
  ·kernel_rfl
  ·obtain ⟨p1, k', p2⟩ := pv_drop hv
   rw [(set_l2 σ (.it (nlist r)) (.list (nlist done)) (.it (nlist r'))).1]
   refine retp_at (by simp) ⟨_, (get_l2 σ (.it (nlist r')) (.list (nlist done))).2, _, rfl, ?_, rfl, r'.length, p1, _, VLe.refl _, r', done ++ [v], rfl, ⟨k + k', by rw [p2, hk, List.drop_drop]⟩, g1, g2, ?_, by simp; exact (qA [_,_,_,_] 1 (.a (.a (.v 0) (.n 1)) (.v 1)) (.v 2) (.c 1 (.a (.v 1) (.n 1)) (.v 3) (.c 1 (.a (.v 0) (.v 3)) (.v 2) .z)) rfl p1 g3), ?_⟩
   ·unfold nlist; rw [List.length_map]; exact (qA [_,_,_,_] 1 (.v 0) (.v 1) (.c 1 (.a (.v 0) (.v 2)) (.v 3) (.c 1 (.n 1048576) (.v 1) (.c 1 (.a (.v 3) (.n 1)) (.n 1000) .z))) rfl g3 hs h4)
   ·rw [(set_l2 σ (.it (nlist r')) (.list (nlist done)) _).2]
    unfold nlist; simp
   ·rw [← g4]
    rw [show reads (r.length + 1) r = v :: reads r.length r' from by rw [reads, hv]]
    rw [List.append_assoc, reads_fuel (r'.length + 1) r.length r' (Nat.lt_succ_self _) p1]
    rfl
  ·rw [(set_l2 σ (.it (nlist r)) (.list (nlist done)) .dead).1]
   refine ⟨σ ++ [.dead, .list (nlist done)], [], by simp, by simp, rfl, ?_⟩
   have : reads (r.length + 1) r = [] := by rw [reads, hv]
   rw [this, List.append_nil] at g4
   rw [g4]; exact hR
end Mine
namespace Mine
open PySem PySem.Sre
theorem sre_adm {m : M} {bad : Nat → Bool} (hset : ∀ c seen, ∃ seen', inSet m.code c m.code.size 5 true seen = .ok (bad c, seen')) (fuel : Nat) :
  ∀ (s : Nat) (seen : Sre.Seen), m.lim < s + fuel → ((∃ j seen', M.admitted m fuel s seen = .ok (some j, seen') ∧ j < m.lim ∧ bad (m.text.getD j 0) = true) ∨
   ((∃ seen', M.admitted m fuel s seen = .ok (none, seen')) ∧ ∀ j, s ≤ j → j < m.lim → bad (m.text.getD j 0) = false)) := by
 induction fuel with
 | zero => exact fun s seen h => .inr ⟨⟨seen, rfl⟩, fun j h1 h2 => absurd (Nat.lt_of_lt_of_le h2 (Nat.le_of_lt h)) (Nat.not_lt.mpr h1)⟩
 | succ fuel ih =>
  intro s seen h
  by_cases hs : s ≥ m.lim
  ·exact .inr ⟨⟨seen, if_pos hs⟩, fun j h1 h2 => absurd (Nat.lt_of_lt_of_le h2 hs) (Nat.not_lt.mpr h1)⟩
  ·obtain ⟨seen', e⟩ := hset (m.text.getD s 0) seen
   cases hb : bad (m.text.getD s 0) with
   | true => exact .inl ⟨s, seen', (if_neg hs).trans (by rw [e, hb]), Nat.lt_of_not_le hs, hb⟩
   | false =>
    have e1 : M.admitted m (fuel + 1) s seen = M.admitted m fuel (s + 1) seen' := (if_neg hs).trans (by rw [e, hb])
    rw [e1]
    refine (ih (s + 1) seen' (Nat.lt_of_lt_of_eq h (Nat.add_right_comm s fuel 1))).imp id fun q => ⟨q.1, fun j h1 h3 => ?_⟩
    rcases Nat.lt_or_ge s j with w | w
    ·exact q.2 j w h3
    ·rw [Nat.le_antisymm w h1]; exact hb
theorem from_some {m : M} (h : m.hasFirstSet = true) {s j : Nat} {f : Bool} {s' : Sre.Seen} (e : M.admitted m (m.lim + 1 - s) s m.seen = .ok (some j, s')) : M.attemptFrom m s f = M.attemptAt { m with mustAdvance := false, seen := s' } j f := by
 unfold M.attemptFrom; rw [h, e]; rfl
theorem from_none {m : M} (h : m.hasFirstSet = true) {s : Nat} {f : Bool} {s' : Sre.Seen} (e : M.admitted m (m.lim + 1 - s) s m.seen = .ok (none, s')) : M.attemptFrom m s f = M.say { m with seen := s' } false := by
 unfold M.attemptFrom; rw [h, e]; rfl
theorem anyG (text : Array Nat) (bad : Nat → Bool) : text.toList.any bad = true ↔ ∃ j, j < text.size ∧ bad (text.getD j 0) = true := by
 rw [List.any_eq_true]
 constructor
 ·rintro ⟨x, hx, hbx⟩
  obtain ⟨j, hj, rfl⟩ := List.getElem_of_mem hx
  exact ⟨j, hj, (congrArg bad (dif_pos (show j < text.size from hj))).trans hbx⟩
 ·rintro ⟨j, hj, hbx⟩
  have e : text.getD j 0 = text[j] := dif_pos hj
  rw [e] at hbx
  exact ⟨text[j], Array.getElem_mem_toList hj, hbx⟩
abbrev mst (code text : Array Nat) (start pc pos handed : Nat) (lm : Int) (fr : List Sre.Frame) (wt : Nat) (ans : Option Bool) (seen : Sre.Seen) : M :=
 { code, text, lim := text.size, start, lastStart := text.size, wholeText := false, mustAdvance := false, pc, pos, handed, outermost := true, marks := #[], lastmark := lm, lastindex := -1, loops := #[], inner := none, frames := fr, weight := wt, answer := ans, seen, outcome := none }
end Mine
namespace Mine
open PySem PySem.Calls PySem.W PyProof.Rows PySem.Builtin.Re
theorem slot_search : Slot "re.Pattern" "search" "re.Pattern.search" :=
 .of (owner := "re.Pattern") (n := "search") (by rw [typeLookup_type, builtinLookup_eq_fast]; kernel_rfl) (by decide +kernel) (by decide +kernel) (by decide +kernel)
  (by first | exact .inl (by decide +kernel) | exact .inr (by decide +kernel)) (by rw [isSubtype_type]; kernel_rfl)
theorem entry_search : entryFor table "re.Pattern.search" = some Builtin.«re.Pattern.search» := by first | exact entryFor_of_fast (by kernel_rfl) | exact entryFor_of_tree (by kernel_rfl)
theorem args_search (a b : Value) : argsOk "re.Pattern.search" ⟨[a, b], []⟩ := by unfold argsOk; kernel_rfl
theorem attrs_pat : PlainAttrs "re.Pattern" :=
 ⟨⟨"object.__getattribute__", by rw [typeLookup_type, builtinLookup_eq_fast]; kernel_rfl, by decide +kernel⟩, by rw [typeLookup_type, builtinLookup_eq_fast]; kernel_rfl⟩
theorem type_search : typeOf (.builtin "re.Pattern.search") = pure (.type "method_descriptor") := by kernel_rfl
theorem nobool_m : typeLookup (.type "re.Match") "__bool__" = pure none := by rw [typeLookup_type, builtinLookup_eq_fast]; kernel_rfl
theorem nolen_m : typeLookup (.type "re.Match") "__len__" = pure none := by rw [typeLookup_type, builtinLookup_eq_fast]; kernel_rfl
section
variable {prog : Program} {w : World} {A : Around} {E : Value → Shared → Prop} {s : Shared}
theorem truthy_match {a : Addr} {Q : Bool → Shared → Prop} (h : s.TypeIs (.ref a) "re.Match") (hq : Q true s) : wpAny (model prog w) A (truthy (.ref a)) Q E s := by
 unfold truthy callSpecial?
 dsimp only
 refine wpAny_bind (wpAny_bind (wpAny_specialOf h nobool_m (wpAny_pure ?_)))
 dsimp only
 refine wpAny_bind (wpAny_specialOf h nolen_m ?_)
 exact wpAny_pure hq
theorem wpAny_rules {α : Type} {c : α → Bool} {r : α → String} : ∀ (l : List α) (f : α → PUnit → Sem (ForInStep PUnit)) (_ : ∀ i u, f i u = if c i = true then (rule (r i) >>= fun _ => pure (.yield ⟨⟩)) else pure (.yield ⟨⟩)) {Q : PUnit → Shared → Prop}, Q ⟨⟩ s → wpAny (model prog w) A (forIn l ⟨⟩ f) Q E s
 | [], f, hf, Q, h => by rw [List.forIn_nil]; exact wpAny_pure h
 | i :: l, f, hf, Q, h => by
  rw [List.forIn_cons, hf]
  refine wpAny_bind ?_
  cases c i with
  | true => rw [if_pos rfl]; exact wpAny_bind (wpAny_rule (wpAny_pure (wpAny_rules l f hf h)))
  | false => rw [if_neg Bool.false_ne_true]; exact wpAny_pure (wpAny_rules l f hf h)
theorem wpAny_runEnd {m0 : Sre.M} {b : Bool} (h : (m0.runFor 4).outcome = some (if b then .matched else .failed)) {Q : Option Sre.M → Shared → Prop} (hq : ∀ m, Q (if b then some m else none) s) : wpAny (model prog w) A (reRunToEnd m0) Q E s := by
 unfold reRunToEnd
 have e : reDrive (2 ^ 64) m0 = pure (m0.runFor 4) := by
  rw [show (2 : Nat) ^ 64 = 18446744073709551615 + 1 from rfl, reDrive]
  show (if (m0.runFor 4).outcome.isSome = true then pure (m0.runFor 4) else _) = _
  rw [if_pos (by rw [h]; rfl)]
 rw [e]
 refine wpAny_bind (wpAny_pure ?_)
 refine wpAny_bind (wpAny_rules (c := fun i => (m0.runFor 4).seen.has i) (r := fun i => Sre.names.getD i "") _ _ (fun i u => ?_) ?_)
 ·rfl
 ·rw [h]
  cases b with
  | true => exact wpAny_pure (hq _)
  | false => exact wpAny_pure (hq (m0.runFor 4))
theorem search_call {a T : Addr} {o oT : Obj} {fs ts : Array Value} {n : Nat} {bad : Nat → Bool} {x : Str} {t : Tok} {Q : Value → Shared → Prop} (ho : s.heap.get? a = some o) (hc : o.cls = .type "re.Pattern") (hd : o.data = .fields fs) (h5 : fs.getD 5 .none = .ref T) (h6 : reRawNat (fs.getD 6 .none) = 0) (h2 : reRawNat (fs.getD 2 .none) = 0)
  (hT : s.heap.get? T = some oT) (hdT : oT.data = .seq ts n)
  (hsearch : ∀ text, ((Sre.forSearch ((ts.map reRawOf).map (·.toNat)) text 0 0 text.size false).runFor 4).outcome = some (if text.toList.any bad then .matched else .failed)) (hsz : x.length < 2 ^ 62)
  (hQ1 : x.cps.toList.any bad = false → Q .none s) (hQ2 : x.cps.toList.any bad = true → ∀ h' m, (∀ b o, s.heap.get? b = some o → h'.get? b = some o) → (∃ o, h'.get? m = some o ∧ o.cls = .type "re.Match") → Q (.ref m) { s with heap := h' }) :
  wpAny (model prog w) A (call (.builtin "re.Pattern.search") [.ref a, .str x t]) Q E s := by
 have hT0 : s.TypeIs (.ref a) "re.Pattern" := ⟨o, ho, hc⟩
 refine wpAny_call_entry slot_search hT0 entry_search ?_ (args_search _ _)
 unfold Builtin.«re.Pattern.search» reTarget
 dsimp only
 refine wpAny_bind (wpAny_bind (m := reNamed "re.Pattern.search" "search" ["string", "pos", "endpos"] 1 [.str x t] []) (wpAny_of_eq (a := [some (.str x t), none, none]) (by kernel_rfl) ?_))
 dsimp only
 refine wpAny_bind (wpAny_pure ?_)
 refine wpAny_bind (wpAny_pure ?_)
 refine wpAny_bind (wpAny_fieldsOf ho hd ?_)
 refine wpAny_bind (m := reTextOf (.str x t)) (wpAny_of_eq (a := (x.cps, 0)) (by rfl) ?_)
 dsimp only
 rw [h6, h2, h5]
 rw [if_neg (by decide), if_neg (by decide)]
 refine wpAny_bind (m := reNoCollectionInside (.str x t) 0) (wpAny_of_eq (a := ()) (by rfl) ?_)
 unfold reRawItems
 refine wpAny_bind (wpAny_bind (wpAny_seqItems hT hdT ?_))
 dsimp only [Option.getD_some]
 refine wpAny_pure (wpAny_pure ?_)
 have elim : min (2 ^ 63 - 1 : Int).toNat x.cps.size = x.cps.size := by
  have : x.length = x.cps.size := rfl
  lia
 dsimp only
 rw [elim, show min (Int.toNat 0) x.cps.size = 0 from by simp]
 unfold reAnswer
 refine wpAny_bind (wpAny_runEnd (hsearch x.cps) fun m => ?_)
 cases hb : x.cps.toList.any bad with
 | false =>
  rw [if_neg Bool.false_ne_true]
  exact wpAny_pure ⟨_, rfl, hQ1 hb⟩
 | true =>
  rw [if_pos rfl]
  dsimp only
  unfold reNewMatch newFields newTuple
  dsimp only [List.range_zero, List.flatMap_nil, List.any_nil]
  refine wpAny_bind (wpAny_ite_split (fun h => absurd h (by decide)) fun _ => ?_)
  refine wpAny_bind (wpAny_newObj_type ?_ (by show (2 : Nat) ≤ _; decide))
  refine wpAny_newObj_type ?_ (by size_fits)
  exact wpAny_pure ⟨_, rfl, hQ2 hb _ _ (fun b o e => Heap.get?_push_of_some _ (Heap.get?_push_of_some _ e)) ⟨_, Heap.get?_push_size _ rfl, rfl⟩⟩
end
noncomputable def patT (P : Params) (T : Addr) : Array Value := match (hd.heap_1 P).lookup T with
 | some ⟨_, _, .seq ts _, _⟩ => ts
 | _ => #[]
noncomputable def patC (P : Params) (T : Addr) : Array Nat := ((patT P T).map reRawOf).map (·.toNat)
noncomputable def badN (c : Nat) : Bool := decide (c ≤ 31) || c == 127
noncomputable def badV (c : Nat) : Bool := (decide (c ≤ 31) && c != 9) || c == 127
noncomputable def codeN : Array Nat := #[14, 10, 4, 1, 1, 22, 0, 31, 16, 127, 0, 13, 7, 22, 0, 31, 16, 127, 0, 1]
noncomputable def codeV : Array Nat := #[14, 14, 4, 1, 1, 9, 4294966783, 0, 0, 2147483648, 0, 0, 0, 0, 0, 13, 11, 9, 4294966783, 0, 0, 2147483648, 0, 0, 0, 0, 0, 1]
theorem badN1 {c : Nat} (h : (decide (0 ≤ c) && decide (c ≤ 31)) = true) : true = badN c := (congrArg (· || c == 127) (Bool.and_eq_true_iff.mp h).2).symm
theorem badN2 {c : Nat} (h : (c == 127) = true) : true = badN c := ((congrArg (decide (c ≤ 31) || ·) h).trans (Bool.or_true _)).symm
theorem badN3 {c : Nat} (h1 : ¬ (decide (0 ≤ c) && decide (c ≤ 31)) = true) (h2 : ¬ (c == 127) = true) : false = badN c := by
 have h3 : decide (c ≤ 31) = false := Bool.eq_false_iff.mpr fun h => h1 (Bool.and_eq_true_iff.mpr ⟨decide_eq_true (Nat.zero_le _), h⟩)
 unfold badN
 rw [h3, Bool.eq_false_iff.mpr h2]; rfl
abbrev okS (s : Sre.Seen) (b : Bool) : Except String (Bool × Sre.Seen) := .ok (b, s)
theorem setN5 (c n : Nat) (seen : Sre.Seen) : ∃ seen', Sre.inSet codeN c (n + 3) 5 true seen = .ok (badN c, seen') := by
 by_cases h1 : (decide (0 ≤ c) && decide (c ≤ 31)) = true
 ·exact ⟨_, (if_pos h1).trans (congrArg (okS _) (badN1 h1))⟩
 ·by_cases h2 : (c == 127) = true
  ·exact ⟨_, (if_neg h1).trans ((if_pos h2).trans (congrArg (okS _) (badN2 h2)))⟩
  ·exact ⟨_, (if_neg h1).trans ((if_neg h2).trans (congrArg (okS _) (badN3 h1 h2)))⟩
theorem setN13 (c n : Nat) (seen : Sre.Seen) : ∃ seen', Sre.inSet codeN c (n + 3) 13 true seen = .ok (badN c, seen') := by
 by_cases h1 : (decide (0 ≤ c) && decide (c ≤ 31)) = true
 ·exact ⟨_, (if_pos h1).trans (congrArg (okS _) (badN1 h1))⟩
 ·by_cases h2 : (c == 127) = true
  ·exact ⟨_, (if_neg h1).trans ((if_pos h2).trans (congrArg (okS _) (badN2 h2)))⟩
  ·exact ⟨_, (if_neg h1).trans ((if_neg h2).trans (congrArg (okS _) (badN3 h1 h2)))⟩
theorem badV_of {c i : Nat} (h : ((List.range 256).all fun c => (codeV.getD (i + (1 + c / 32)) 0).testBit (c % 32) == badV c) = true) : (decide (c < 256) && (codeV.getD (i + (1 + c / 32)) 0).testBit (c % 32)) = badV c := by
 by_cases hc : c < 256
 ·exact (congrArg (· && _) (decide_eq_true hc)).trans (eq_of_beq (List.all_eq_true.mp h c (List.mem_range.mpr hc)))
 ·have h1 : ¬ c ≤ 31 := by exact (fun q0 => (jY [_] (.c 1 (.v 0) (.n 31) (.c 1 (.n 256) (.v 0) .z)) rfl q0 (Nat.not_lt.mp hc)))
  have h2 : c ≠ 127 := by exact (fun q0 => (jY [_] (.c 1 (.v 0) (.n 127) (.c 1 (.n 256) (.v 0) .z)) rfl (uJ q0) (Nat.not_lt.mp hc)))
  unfold badV
  simp only [hc, h1, h2, decide_false, Bool.false_and, beq_eq_false_iff_ne.mpr h2, Bool.or_false]
theorem setV5 (c n : Nat) (seen : Sre.Seen) : ∃ seen', Sre.inSet codeV c (n + 2) 5 true seen = .ok (badV c, seen') := by
 by_cases h1 : (decide (c < 256) && (codeV.getD (5 + (1 + c / 32)) 0).testBit (c % 32)) = true
 ·exact ⟨_, (if_pos h1).trans (congrArg (okS _) (h1.symm.trans (badV_of (by kernel_rfl))))⟩
 ·exact ⟨_, (if_neg h1).trans (congrArg (okS _) ((Bool.eq_false_iff.mpr h1).symm.trans (badV_of (by kernel_rfl))))⟩
theorem setV17 (c n : Nat) (seen : Sre.Seen) : ∃ seen', Sre.inSet codeV c (n + 2) 17 true seen = .ok (badV c, seen') := by
 by_cases h1 : (decide (c < 256) && (codeV.getD (17 + (1 + c / 32)) 0).testBit (c % 32)) = true
 ·exact ⟨_, (if_pos h1).trans (congrArg (okS _) (h1.symm.trans (badV_of (by kernel_rfl))))⟩
 ·exact ⟨_, (if_neg h1).trans (congrArg (okS _) ((Bool.eq_false_iff.mpr h1).symm.trans (badV_of (by kernel_rfl))))⟩
theorem stepN1 (text : Array Nat) (j : Nat) (hj : j < text.size) (hb : badN (text.getD j 0) = true) (fr : List Sre.Frame) (wt : Nat) (seen : Sre.Seen) :
  ∃ seen', Sre.M.step (mst codeN text j 11 j j (-1) fr wt none seen) = mst codeN text j 19 (j + 1) j (-1) fr wt none seen' := by
 obtain ⟨seen1, e1⟩ := setN13 (text.getD j 0) 17 (seen.add 13)
 rw [hb] at e1
 refine ⟨seen1, (show Sre.M.exec (mst codeN text j 11 j j (-1) fr wt none seen) = _ from (if_neg (Nat.not_le.mpr hj)).trans ?_)⟩
 dsimp only
 rw [show Sre.accepts codeN 11 (text.getD j 0) (seen.add (Sre.M.word (mst codeN text j 11 j j (-1) fr wt none seen) 0)) = .ok (true, seen1) from e1]
 rfl
theorem goN (text : Array Nat) (j : Nat) (hj : j < text.size) (hb : badN (text.getD j 0) = true) (seen : Sre.Seen) (p h : Nat) (lm : Int) : ((Sre.M.attemptAt (mst codeN text 0 11 p h lm [] 0 none seen) j true).runFor 4).outcome = some .matched :=
 (stepN1 text j hj hb [{ wait := .nextStart, pc := 11, pos := j, outermost := true }] 1 seen).elim fun s1 e => (congrArg (fun m => (Sre.M.runFor 3 m).outcome) e).trans rfl
theorem searchN0 (text : Array Nat) : ((Sre.forSearch codeN text 0 0 text.size false).runFor 4).outcome = some (if text.toList.any badN then .matched else .failed) := by
 by_cases hz : (decide (0 > text.size) || decide (text.size - 0 < 1)) = true
 ·have e : Sre.forSearch codeN text 0 0 text.size false = Sre.M.say _ false := if_pos hz
  have hn : text.toList.any badN = false := Bool.eq_false_iff.mpr fun h => (anyG text badN).mp h |>.elim fun j q => by
   rcases Bool.or_eq_true_iff.mp hz with w | w
   ·exact absurd (of_decide_eq_true w) (Nat.not_lt_zero _)
   ·exact absurd (Nat.lt_of_le_of_lt (Nat.zero_le _) q.1) (Nat.not_lt.mpr (Nat.le_of_lt_succ (of_decide_eq_true w)))
  rw [e, hn]; rfl
 ·have e : Sre.forSearch codeN text 0 0 text.size false = Sre.M.attemptFrom (mst codeN text 0 11 0 0 (-1) [] 0 none (({} : Sre.Seen).add 14)) 0 true := if_neg hz
  rw [e]
  rcases sre_adm (m := mst codeN text 0 11 0 0 (-1) [] 0 none (({} : Sre.Seen).add 14)) (bad := badN) (fun c seen => setN5 c 17 seen) (text.size + 1) 0 (({} : Sre.Seen).add 14) (by show text.size < 0 + (text.size + 1); exact (qA [_] 1 (.a (.v 0) (.n 1)) (.a (.n 0) (.a (.v 0) (.n 1))) .z rfl )) with ⟨j, s', ea, hj, hb⟩ | ⟨⟨s', ea⟩, hall⟩
  ·rw [from_some rfl ea, (anyG text badN).mpr ⟨j, hj, hb⟩]
   exact goN text j hj hb s' 0 0 (-1)
  ·have hn : text.toList.any badN = false := Bool.eq_false_iff.mpr fun h => (anyG text badN).mp h |>.elim fun j q => Bool.false_ne_true ((hall j (Nat.zero_le _) q.1).symm.trans q.2)
   rw [from_none rfl ea, hn]; rfl
theorem stepV1 (text : Array Nat) (j : Nat) (hj : j < text.size) (hb : badV (text.getD j 0) = true) (fr : List Sre.Frame) (wt : Nat) (seen : Sre.Seen) :
  ∃ seen', Sre.M.step (mst codeV text j 15 j j (-1) fr wt none seen) = mst codeV text j 27 (j + 1) j (-1) fr wt none seen' := by
 obtain ⟨seen1, e1⟩ := setV17 (text.getD j 0) 26 (seen.add 13)
 rw [hb] at e1
 refine ⟨seen1, (show Sre.M.exec (mst codeV text j 15 j j (-1) fr wt none seen) = _ from (if_neg (Nat.not_le.mpr hj)).trans ?_)⟩
 dsimp only
 rw [show Sre.accepts codeV 15 (text.getD j 0) (seen.add (Sre.M.word (mst codeV text j 15 j j (-1) fr wt none seen) 0)) = .ok (true, seen1) from e1]
 rfl
theorem goV (text : Array Nat) (j : Nat) (hj : j < text.size) (hb : badV (text.getD j 0) = true) (seen : Sre.Seen) (p h : Nat) (lm : Int) : ((Sre.M.attemptAt (mst codeV text 0 15 p h lm [] 0 none seen) j true).runFor 4).outcome = some .matched :=
 (stepV1 text j hj hb [{ wait := .nextStart, pc := 15, pos := j, outermost := true }] 1 seen).elim fun s1 e => (congrArg (fun m => (Sre.M.runFor 3 m).outcome) e).trans rfl
theorem searchV0 (text : Array Nat) : ((Sre.forSearch codeV text 0 0 text.size false).runFor 4).outcome = some (if text.toList.any badV then .matched else .failed) := by
 by_cases hz : (decide (0 > text.size) || decide (text.size - 0 < 1)) = true
 ·have e : Sre.forSearch codeV text 0 0 text.size false = Sre.M.say _ false := if_pos hz
  have hn : text.toList.any badV = false := Bool.eq_false_iff.mpr fun h => (anyG text badV).mp h |>.elim fun j q => by
   rcases Bool.or_eq_true_iff.mp hz with w | w
   ·exact absurd (of_decide_eq_true w) (Nat.not_lt_zero _)
   ·exact absurd (Nat.lt_of_le_of_lt (Nat.zero_le _) q.1) (Nat.not_lt.mpr (Nat.le_of_lt_succ (of_decide_eq_true w)))
  rw [e, hn]; rfl
 ·have e : Sre.forSearch codeV text 0 0 text.size false = Sre.M.attemptFrom (mst codeV text 0 15 0 0 (-1) [] 0 none (({} : Sre.Seen).add 14)) 0 true := if_neg hz
  rw [e]
  rcases sre_adm (m := mst codeV text 0 15 0 0 (-1) [] 0 none (({} : Sre.Seen).add 14)) (bad := badV) (fun c seen => setV5 c 26 seen) (text.size + 1) 0 (({} : Sre.Seen).add 14) (by show text.size < 0 + (text.size + 1); lia) with ⟨j, s', ea, hj, hb⟩ | ⟨⟨s', ea⟩, hall⟩
  ·rw [from_some rfl ea, (anyG text badV).mpr ⟨j, hj, hb⟩]
   exact goV text j hj hb s' 0 0 (-1)
  ·have hn : text.toList.any badV = false := Bool.eq_false_iff.mpr fun h => (anyG text badV).mp h |>.elim fun j q => Bool.false_ne_true ((hall j (Nat.zero_le _) q.1).symm.trans q.2)
   rw [from_none rfl ea, hn]; rfl
theorem searchN (P : Params) (text : Array Nat) : ((Sre.forSearch (patC P 79) text 0 0 text.size false).runFor 4).outcome = some (if text.toList.any badN then .matched else .failed) := by
 rw [show patC P 79 = codeN by kernel_rfl]; exact searchN0 text
theorem searchV (P : Params) (text : Array Nat) : ((Sre.forSearch (patC P 84) text 0 0 text.size false).runFor 4).outcome = some (if text.toList.any badV then .matched else .failed) := by
 rw [show patC P 84 = codeV by kernel_rfl]; exact searchV0 text
set_option tactic.hygienic true
theorem boot_type0 : bootBuiltins "type" = some (.type "type") := by decide +kernel
theorem boot_str0 : bootBuiltins "str" = some (.type "str") := by decide +kernel
theorem boot_list0 : bootBuiltins "list" = some (.type "list") := by decide +kernel
theorem boot_value0 : bootBuiltins "ValueError" = some (.type "ValueError") := by decide +kernel
section
variable {prog : Program} {w : World} {A : Around} {E : Value → Shared → Prop}
theorem call_type_str {h : Heap} {g : Array GenState} {d : Drawn} {t : Nat} {os : OsState} {x : Str} {tk : Tok} {Q : Value → Shared → Prop} (hq : Q (.type "str") ⟨h, g, d, t, os⟩) :
  wpAny (model prog w) A (call (.type "type") [.str x tk]) Q E ⟨h, g, d, t, os⟩ := by
 refine wpAny_call (codeAny_of_tree ?_)
 show wpAny _ _ (callAny (.type "type") ⟨[.str x tk], []⟩) _ _ _
 simp only [callAny]
 refine wpAny_pure ⟨Code.quiet_builtin _ (by decide +kernel), codeAny_builtin entry_type_call ?_⟩
 unfold Builtin.«type.__call__»
 dsimp only
 unfold shownTypeOf
 repeat (first | wp_step)
 exact hq
end
section
variable {c : Cx} {env : Env}
theorem tok_isstr {mg : Str → Option Value} (G : Gl c mg) {x : String} {p1 p2 p3 p4 p5 : Pos} (hk1 : env.kindOf "type" = some .globalImplicit) (hm1 : mg "type" = none) (hk2 : env.kindOf "str" = some .globalImplicit) (hm2 : mg "str" = none) (hv : varNm env x = true)
  (hm : behindInMarks .Is (.Name "str" p4) = false := by with_unfolding_all rfl) :
  TOK c env (isTrue (.Compare (.Call (.Name "type" p1) [.Name x p2] [] p3) [.Is] [.Name "str" p4] p5) env (eval (.Compare (.Call (.Name "type" p1) [.Name x p2] [] p3) [.Is] [.Name "str" p4] p5) env)) (fun η σ Q => ∃ d, vget x η = some (.v (.str d)) ∧ Q true σ) := by
 intro E K F ρ η σ s Q R hW hK
 refine dEA hW fun d hx hQ => ?_
 refine dAA (kQ hv) fun k1 k2 k3 => ?_
 refine wpAny_isTrue_Compare1 ?_ hm
 refine wpAny_Call_NameR (kW G R hk1 hm1 boot_type0 (by decide) (by decide) ?_)
 refine PyProof.Rows.callWith_type rfl (kJ (spliced_cons (wpAny_Name (R.lookup hx k1 k2 fun v X => spliced_nil ?_) k3)))
 revert R hK
 refine X.eS fun t R hK => ?_
 ··obtain ⟨h, g, dd, tk, os⟩ := s
   refine call_type_str ?_
   refine kW G R hk2 hm2 boot_str0 (by decide) (by decide) ?_
   refine wpAny_pure (a := Value.bool (Value.type "str" == Value.type "str")) ?_
   rw [show (Value.type "str" == Value.type "str") = true from by simp]
   exact wpAny_truthy_bool (hK true F ρ σ h tk (.refl R.sto) hQ)
structure PatF (bad : Nat → Bool) (F : Fz) (a : Addr) : Prop where
 obj : ∃ o fs T oT ts n, F a = some o ∧ o.cls = .type "re.Pattern" ∧ o.dict = none ∧ o.data = .fields fs ∧ fs.getD 5 .none = .ref T ∧ reRawNat (fs.getD 6 .none) = 0 ∧ reRawNat (fs.getD 2 .none) = 0 ∧ F T = some oT ∧ oT.data = .seq ts n ∧
  ∀ text, ((Sre.forSearch ((ts.map reRawOf).map (·.toNat)) text 0 0 text.size false).runFor 4).outcome = some (if text.toList.any bad then .matched else .failed)
noncomputable def PatP (bad : Nat → Bool) : PF where
 P := PatF bad
 mono := fun _ _ _ hF x => ⟨let ⟨o, fs, T, oT, ts, n, e1, e2, e3, e4, e5, e6, e7, e8, r⟩ := x.obj; ⟨o, fs, T, oT, ts, n, hF _ _ e1, e2, e3, e4, e5, e6, e7, hF _ _ e8, r⟩⟩
noncomputable def patOk (P : Params) (a T : Addr) : Bool := match (hd.heap_1 P).lookup a, (hd.heap_1 P).lookup T with
 | some ⟨.type cl, none, .fields fs, _⟩, some ⟨_, _, .seq _ _, _⟩ => (cl == "re.Pattern") && decide (fs.getD 5 .none = .ref T) && decide (reRawNat (fs.getD 6 .none) = 0) && decide (reRawNat (fs.getD 2 .none) = 0)
 | _, _ => false
theorem pat_of {P : Params} {F : Fz} {a T : Addr} {bad : Nat → Bool} (hF : ∀ b o, (hd.heap_1 P).lookup b = some o → F b = some o) (hok : patOk P a T = true) (hs : ∀ text, ((Sre.forSearch (patC P T) text 0 0 text.size false).runFor 4).outcome = some (if text.toList.any bad then .matched else .failed)) : PatF bad F a := by
 unfold patOk at hok
 split at hok
 ·rename_i cl fs sl1 c2 d2 ts n sl2 h1 h2
  simp only [Bool.and_eq_true, beq_iff_eq, decide_eq_true_eq] at hok
  obtain ⟨⟨⟨q1, q2⟩, q3⟩, q4⟩ := hok
  refine ⟨_, fs, T, _, ts, n, hF _ _ h1, by rw [q1], rfl, rfl, q2, q3, q4, hF _ _ h2, rfl, ?_⟩
  have : patC P T = (ts.map reRawOf).map (·.toNat) := by unfold patC patT; rw [h2]
  rw [← this]; exact hs
 ·cases hok
theorem eok_gpat {P : Params} {mg : Str → Option Value} (Y : Yes c P mg) {x : Str} {a T : Addr} {bad : Nat → Bool} {pos : Pos} (hk : env.kindOf x = some .globalImplicit) (hm : nsIn (hd.heap_1 P) mainGlobals x = some (some (.ref a))) (hd : (x == ("__debug__" : Str)) = false)
  (hok : patOk P a T = true) (hs : ∀ text, ((Sre.forSearch (patC P T) text 0 0 text.size false).runFor 4).outcome = some (if text.toList.any bad then .matched else .failed)) :
  EOK c env (eval (.Name x pos) env) (fun _ σ Q => Q (.pr (PatP bad)) σ) := fun E K F ρ η σ s Q R hW hK =>
 vF Y.G R hk (Y.some hm) hd (hK _ _ F ρ σ s.heap s.toks (.pr (p := PatP bad) (pat_of (fun b o e => R.sto.base b o (Y.K b o e)) hok hs)) (.refl R.sto) hW)
theorem tok_search {r x : String} {p1 p2 apos pos : Pos} {pl : Sem Bool} (hr : varNm env r = true) (hv : varNm env x = true)
  (he : eval (.Call (.Attribute (.Name r p1) "search" apos) [.Name x p2] [] pos) env = (do
   let ov ← eval (.Name r p1) env
   standAt apos.atName
   let (f, first) ← holding [ov] (getMethod ov "search" pl)
   callWith pos f first (backTo pos (starEach [.Name x p2] env)) []) := by rfl)
  (hi : isTrue (.Call (.Attribute (.Name r p1) "search" apos) [.Name x p2] [] pos) env (eval (.Call (.Attribute (.Name r p1) "search" apos) [.Name x p2] [] pos) env) = (do let v ← eval (.Call (.Attribute (.Name r p1) "search" apos) [.Name x p2] [] pos) env; standAt (PySem.Expr.pos (.Call (.Attribute (.Name r p1) "search" apos) [.Name x p2] [] pos)); holding [v] (truthy v)) := by rfl) :
  TOK c env (isTrue (.Call (.Attribute (.Name r p1) "search" apos) [.Name x p2] [] pos) env (eval (.Call (.Attribute (.Name r p1) "search" apos) [.Name x p2] [] pos) env))
   (fun η σ Q => ∃ bad d, vget r η = some (.pr (PatP bad)) ∧ vget x η = some (.v (.str d)) ∧ d.length < 2 ^ 62 ∧ Q (d.cps.toList.any bad) σ) := by
 intro E K F ρ η σ s Q R hW hK
 refine dEEAAA hW fun bad d hrr hxx hsz hQ => ?_
 refine dAA (kQ hr) fun k1 k2 k3 => ?_
 refine dAA (kQ hv) fun j1 j2 j3 => ?_
 rw [hi]
 refine wpAny_bind (MethodCall_ (wpAny_Name (R.lookup hrr k1 k2 fun v X => ?_) k3) he)
 refine X.eP fun a X => ?_
 ·obtain ⟨o, fs, T, oT, ts, n, e1, e2, e3, e4, e5, e6, e7, e8, e9, hs⟩ := X.obj
  have hT : s.TypeIs (.ref a) "re.Pattern" := ⟨o, R.sto.inn _ _ e1, e2⟩
  refine getMethod_builtin hT attrs_pat slot_search type_search (fun b hb => by cases hb; exact ⟨o, R.sto.inn _ _ e1, e3⟩) ?_
  refine callWith_builtin rfl ?_
  refine kJ (spliced_cons (wpAny_Name (R.lookup hxx j1 j2 fun v X2 => spliced_nil ?_) j3))
  refine X2.eS fun t => ?_
  ··refine search_call (R.sto.inn _ _ e1) e2 e4 e5 e6 e7 (R.sto.inn _ _ e8) e9 hs hsz (fun hb => ?_) fun hb h' m hx hmm => ?_
    ·refine wpAny_bind (wpAny_standAt (wpAny_holding (wpAny_pure ?_)))
     rw [hb] at hQ
     exact hK false F ρ σ s.heap s.toks (.refl R.sto) hQ
    ·refine wpAny_bind (wpAny_standAt (wpAny_holding (truthy_match hmm ?_)))
     rw [hb] at hQ
     exact hK true F ρ σ h' s.toks (.ext0 R.sto hx) hQ
theorem xsok_raise {mg : Str → Option Value} (G : Gl c mg) {m : Str} {k : Nat} {np cpos pos p4 : Pos} (hh : c.A.handled = none) (hcl : CellsOk env) (hk : env.kindOf "ValueError" = some .globalImplicit) (hm : mg "ValueError" = none) :
  XSOK c env (exec (.Raise (some (.Call (.Name "ValueError" np) [.Constant (.str m) k p4] [] cpos)) none pos) env) (fun η σ _ _ QE => QE "ValueError" (.tuple [.str m]) η σ) := by
 intro E K F ρ η σ s outer N Rt QE R kst hW hN hR hE
 refine Raise_madeB PySem.F.excCall_ValueError PySem.F.excRaise_ValueError hh (kW G R hk hm boot_value0 (by decide) (by decide) ⟨rfl, ?_⟩)
 refine spliced_cons (Constant_str (k := k) (pos := p4) (spliced_nil ⟨by show (1 : Nat) ≤ _; decide, fun h' e x => ?_⟩))
 refine qC fun P kG => ?_
 obtain ⟨kk, ne, t, he, nt, ht⟩ := x
 refine kG ?_
 clear kG P
 have kk' : Ext s.heap h' := kk
 have S0 := Step.ext0 R.sto kk'
 have Fn : ∀ b, s.heap.get? b = none → F b = none := fun _ => R.sto.fresh
 have mn : ∀ b, s.heap.get? b = none → ¬ Mut ρ b := fun _ => R.sto.noMut
 have ef := Evo.freeze (a := t) S0.sto.inn (Fn t nt)
 have V0 : SEvo env AnyNm F ρ s.heap F ρ h' := S0.sevo
 have R1 := (R.step S0).along ef (off_new (X := (· = t)) R (R.step S0) V0 fun a q => q ▸ ⟨nt, mn t nt⟩)
 have V1 : SEvo env AnyNm F ρ s.heap (freeze F t h') ρ h' := ⟨V0.evo.trans ef fun a q => .inr (q ▸ nt), V0.pre, V0.new⟩
 have te : e ≠ t := fun q => by rw [q, ht] at he; simp at he
 refine hE e none "ValueError" (.tuple [.str m]) _ ρ η σ h' _ (.inl rfl) ⟨ne, ?_, mn e ne, _, _, .ref t, he, rfl, rfl, rfl, ?_, .inl ⟨rfl, rfl⟩⟩ R1 V1 hW
 ·unfold freeze; rw [if_neg te]; exact Fn e ne
 ·refine .tuple (o := { cls := .type "tuple", data := .seq [Value.str m s.toks].toArray }) (n := 0) (vs := #[.str m s.toks]) ?_ rfl rfl (.cons (.str m _) .nil)
  unfold freeze; rw [if_pos rfl]; exact ht
end
end Mine
namespace Mine
open PySem PySem.Calls PySem.W PyProof.Rows
theorem vI {K : Frag} {h : Heap} {N : Addr} {mg : Str → Option Value} {n : Str} (X : K.In h) (G : h.Ns N mg) (e : nsIn K N n = some none) : mg n = none := by
 refine dEEEAAA G fun o es ep ho hd _ hf => ?_
 unfold nsIn at e
 split at e
 ·rename_i c d es' n' sl q
  have := X _ _ q
  rw [ho] at this
  cases this
  cases hd
  split at e
  ·cases e
  ·rename_i hn
   rw [← hf]
   unfold nsFind findBy
   rw [← Array.find?_toList, hn]
   rfl
 ·cases e
noncomputable def InstV (x0 : XV) : Prop := ∀ F ρ v, XR F ρ v x0 → ∃ x a, v = .ref x ∧ HdrI F 214 x a
theorem instV_hdr {i : Nat} : InstV (.hdr 214 i) := fun F ρ v X => by
 exact X.eH fun y p _ k => ⟨y, p.2, rfl, k⟩
structure FHdrF (xs : List PyData) (F : Fz) (x : Addr) : Prop where
 obj : ∃ a, HdrI F 214 x a ∧ VR F (.ref a) (.list xs)
noncomputable def FHdr (xs : List PyData) : PF where
 P := FHdrF xs
 mono := fun _ _ _ hF x => ⟨x.obj.imp fun _ q => ⟨q.1.mono hF, q.2.mono hF⟩⟩
theorem instV_fh {xs : List PyData} : InstV (.pr (FHdr xs)) := fun F ρ v X => by
 exact X.eP fun y h => h.obj.elim fun a q => ⟨y, a, rfl, q.1⟩
theorem HdrI.inst {F : Fz} {h : Heap} {x a : Addr} (k : HdrI F 214 x a) (i : FIn F h) : h.Inst x 214 fun y => if y = Str.ofString "_headers" then some (.ref a) else none := by
 exact k.elim fun o k => k.elim fun d k => k.elim fun od k => ⟨o, i _ _ k.1, k.2.1, k.2.2.1, .inr ⟨d, k.2.2.2.1, k.2.2.2.2.1, k.2.2.2.2.2.2 h fun o' e' => i _ _ e'⟩⟩
noncomputable def clsO (P : Params) : Obj := ((hd.heap_1 P).lookup 214).getD { cls := .none, data := .plain }
theorem cls_at {P : Params} {h : Heap} (X : (hd.heap_1 P).In h) : h.get? 214 = some (clsO P) ∧ h.Ns 213 (h.nsMap 213) := ⟨X _ _ (by kernel_rfl), .of_isNs (isNs_of_in X (by kernel_rfl))⟩
theorem fn_cls {K : Frag} {h : Heap} (X : K.In h) {f : Addr} {v : Value} (hfn : (K.lookup f).map (·.cls) = some v) {o : Obj} (ho : h.get? f = some o) : o.cls = v := by
 cases hl : K.lookup f with
 | none => exact nomatch (congrArg (Option.map _) hl).symm.trans hfn
 | some o' => exact (congrArg Obj.cls (Option.some.inj (ho.symm.trans (X _ _ hl)))).trans (Option.some.inj ((congrArg (Option.map _) hl).symm.trans hfn))
section
variable {c : Cx} {env : Env}
theorem SRel.frag {P : Params} {mg : Str → Option Value} (Y : Yes c P mg) {F : Fz} {ρ : Pl} {h : Heap} {σ : Sto} (S : SRel c.base c.C F ρ h σ) : (hd.heap_1 P).In h := Y.K.keeps S.old
theorem attr_ok {P : Params} {mg : Str → Option Value} (Y : Yes c P mg) {x : String} {np pos : Pos} {x0 : XV} {E K : Value → Shared → Prop} {F : Fz} {ρ : Pl} {η : Vars} {σ : Sto} {s : Shared} (R : Rel c.base c.C env F ρ s.heap η σ) (hv : varNm env x = true) (hx : vget x η = some x0)
  (h : ∀ v tk, XR F ρ v x0 → ∃ xa a, v = .ref xa ∧ HdrI F 214 xa a ∧ K (.ref a) { s with toks := tk }) : wpAny c.M c.A (eval (.Attribute (.Name x np) "_headers" pos) env) K E s := by
 refine dAA (kQ hv) fun k1 k2 k3 => ?_
 refine Attribute_name (wpAny_Name (R.lookup hx k1 k2 fun v X => ?_) k3)
 refine dEEAA (h v (s.toks + 1) X) fun xa a hR1 hI hK => ?_
 subst hR1
 have XK := R.sto.frag Y
 have hC := (cls_at XK).1
 have hN := (cls_at XK).2
 exact load_attr hC hN (vI XK hN (by kernel_rfl)) (vI XK hN (by kernel_rfl)) (by rw [typeLookup_type, builtinLookup_eq_fast]; kernel_rfl) (hI.inst R.sto.inn) (by rw [if_pos rfl]) rfl hK
theorem eok_attr_own {P : Params} {mg : Str → Option Value} (Y : Yes c P mg) {x : String} {np pos : Pos} (hv : varNm env x = true) :
  EOK c env (eval (.Attribute (.Name x np) "_headers" pos) env) (fun η σ Q => ∃ i xs, vget x η = some (.hdr 214 i) ∧ σ[i]? = some (.list xs) ∧ Q (.own i) σ) := by
 intro E K F ρ η σ s Q R hW hK
 refine dEEAA hW fun i xs hx hm hQ => ?_
 refine attr_ok Y R hv hx fun v tk X => ?_
 refine X.eH fun xa p hp hI => ?_
 ·have hpe := (R.sto.obj i p _ hp hm).1
  exact ⟨xa, p.2, rfl, hI, hpe ▸ hK (.ref p.1) (.own i) F ρ σ s.heap tk (.own hp) (.refl R.sto) hQ⟩
theorem eok_attr_fh {P : Params} {mg : Str → Option Value} (Y : Yes c P mg) {x : String} {np pos : Pos} (hv : varNm env x = true) :
  EOK c env (eval (.Attribute (.Name x np) "_headers" pos) env) (fun η σ Q => ∃ xs, vget x η = some (.pr (FHdr xs)) ∧ Q (.v (.list xs)) σ) := by
 intro E K F ρ η σ s Q R hW hK
 refine dEA hW fun xs hx hQ => ?_
 refine attr_ok Y R hv hx fun v tk X => ?_
 refine X.eP fun xa h => ?_
 ·refine dEA h.obj fun a h1 h2 => ?_
  exact ⟨_, a, rfl, h1, hK (.ref a) (.v (.list xs)) F ρ σ s.heap tk (.v h2) (.refl R.sto) hQ⟩
noncomputable abbrev AW := Vars → Sto → (List XV → List (String × XV) → Sto → Prop) → Prop
noncomputable def ArgsOK (c : Cx) (env : Env) (args : List (Bool × Sem Value)) (kws : List (Option Str × Sem Value)) (W : AW) : Prop :=
 ∀ (E : Value → Shared → Prop) (K : Args → Shared → Prop) (f : Value) F ρ η σ (s : Shared) Q, Rel c.base c.C env F ρ s.heap η σ → W η σ Q →
  (∀ vs xs kv kx F' ρ' σ' h' tk', XRs F' ρ' vs xs → kv.map (·.1) = kx.map (fun n => (n.1 : Str)) → XRs F' ρ' (kv.map (·.2)) (kx.map (·.2)) → Step c.base c.C F ρ s.heap F' ρ' h' σ' → Q xs kx σ' → K ⟨vs, kv⟩ { s with heap := h', toks := tk' }) → wpAny c.M c.A (evalArgs f true args kws) K E s
theorem args_none : ArgsOK c env [] [] (fun _ σ Q => Q [] [] σ) := fun E K f F ρ η σ s Q R hW hK =>
 PyProof.Rows.evalArgs_none (hK [] [] [] [] F ρ σ s.heap s.toks .nil rfl .nil (.refl R.sto) hW)
theorem args_pos {t : Sem Value} {ts : List (Bool × Sem Value)} {W : LW} (h : EsOK c env ((false, t) :: ts) W) : ArgsOK c env ((false, t) :: ts) [] (fun η σ Q => W η σ fun xs σ1 => Q xs [] σ1) := fun E K f F ρ η σ s Q R hW hK =>
 kJ (h E _ F ρ η σ s _ R hW fun vs xs F1 ρ1 σ1 h1 t1 X1 S1 hQ => hK vs xs [] [] F1 ρ1 σ1 h1 t1 X1 rfl .nil S1 hQ)
theorem args_kw {t : Sem Value} {ts : List (Bool × Sem Value)} {W : LW} {nm : String} {b : Bool} {k : Nat} {p1 p2 : Pos} (h : EsOK c env ((false, t) :: ts) W) : ArgsOK c env ((false, t) :: ts) (backToKw p2 [(some (nm : Str), eval (.Constant (.bool b) k p1) env)]) (fun η σ Q => W η σ fun xs σ1 => Q xs [(nm, .v (.bool b))] σ1) := fun E K f F ρ η σ s Q R hW hK =>
 evalArgs_kw rfl (h E _ F ρ η σ s _ R hW fun vs xs F1 ρ1 σ1 h1 t1 X1 S1 hQ => by
  refine wpAny_evalAll_cons (wpAny_bind (m := eval (.Constant (.bool b) k p1) env) (wpAny_pure (wpAny_bind (wpAny_standAt (wpAny_pure (wpAny_evalAll_nil ?_))))))
  exact hK vs xs [((nm : Str), .bool b)] [(nm, .v (.bool b))] F1 ρ1 σ1 h1 t1 X1 rfl (.cons (.v (.bool b)) .nil) S1 hQ)
theorem MethodCallK_ {M : Model} {A : Around} {E : Value → Shared → Prop} {s : Shared} {o : Expr} {name : Str} {apos pos : Pos} {args : List Expr} {kws : List Keyword} {pl : Sem Bool} {Q : Value → Shared → Prop}
  (h : wpAny M A (eval o env) (fun ov s₁ => wpAny M A (getMethod ov name pl) (fun fx s₂ => wpAny M A (callWith pos fx.1 fx.2 (backTo pos (starEach args env)) (backToKw pos (keywordEach kws env))) Q E s₂) E s₁) E s)
  (he : eval (.Call (.Attribute o name apos) args kws pos) env = (do
   let ov ← eval o env
   standAt apos.atName
   let (f, first) ← holding [ov] (getMethod ov name pl)
   callWith pos f first (backTo pos (starEach args env)) (backToKw pos (keywordEach kws env)))) :
  wpAny M A (eval (.Call (.Attribute o name apos) args kws pos) env) Q E s := by
 rw [he]
 refine wpAny_bind (wpAny_mono h (fun ov s₁ h₁ => wpAny_bind (wpAny_standAt (wpAny_bind (wpAny_holding (wpAny_mono h₁ (fun fx s₂ h₂ => ?_) fun _ _ x => x))))) fun _ _ x => x)
 exact h₂
noncomputable abbrev Binder := List XV → List (String × XV) → Option (List (String × XV))
noncomputable def BindOK (c : Cx) (fd : FuncData) (bind : Binder) : Prop := ∀ F ρ (s : Shared) σ vs xs kv kx bx, SRel c.base c.C F ρ s.heap σ → XRs F ρ vs xs → kv.map (·.1) = kx.map (fun n => (n.1 : Str)) → XRs F ρ (kv.map (·.2)) (kx.map (·.2)) → bind xs kx = some bx →
 ∃ (bs : List (Str × Value)) (F0 : Fz) (h0 : Heap) (tk0 : Nat), Step c.base c.C F ρ s.heap F0 ρ h0 σ ∧ (∀ (M : Model) (A : Around) (E : Value → Shared → Prop) (Q : List (Str × Value) → Shared → Prop), Q bs { s with heap := h0, toks := tk0 } → wpAny M A (bindArgs fd ⟨vs, kv⟩) Q E s) ∧
  bs.map (·.1) = bx.map (fun n => (n.1 : Str)) ∧ XRs F0 ρ (bs.map (·.2)) (bx.map (·.2))
theorem xeok_meth {P : Params} {mg : Str → Option Value} (Y : Yes c P mg) {o : Expr} {name : Str} {apos pos : Pos} {args : List Expr} {kws : List Keyword} {pl : Sem Bool} {f : Addr} {Wo : EW} {Wa : AW} {WB : XSW} (hroom : c.A.depth < recursionLimit)
  (hf : nsIn (hd.heap_1 P) 213 name = some (some (.ref f))) (hok : kok P f = true) (hfn : ((hd.heap_1 P).lookup f).map (·.cls) = some (.type "function")) (hB : ∃ y, typeLookup (.type "object") name = pure y) (hne : (name == Str.ofString "_headers") = false) (ho : EOK c env (eval o env) Wo)
  (ha : ArgsOK c env (backTo pos (starEach args env)) (backToKw pos (keywordEach kws env)) Wa) (bind : Binder) (hbind : BindOK c (kfd P f) bind) (hnm : ∀ xs kx bx, bind xs kx = some bx → (bx.all fun n => lc (kfd P f).scope n.1) = true)
  (hb : ∀ L cells, CellsOk (defEnv (kfd P f) f L cells) → XSOK { c with A := c.A.deeper (defEnv (kfd P f) f L cells) } (defEnv (kfd P f) f L cells) (execs (kbody P f) (defEnv (kfd P f) f L cells)) WB)
  (he : eval (.Call (.Attribute o name apos) args kws pos) env = (do
   let ov ← eval o env
   standAt apos.atName
   let (f, first) ← holding [ov] (getMethod ov name pl)
   callWith pos f first (backTo pos (starEach args env)) (backToKw pos (keywordEach kws env))) := by rfl) :
  XEOK c env (eval (.Call (.Attribute o name apos) args kws pos) env) (fun η σ Q QE => Wo η σ fun x0 σ1 => InstV x0 ∧ Wa η σ1 fun xs kx σ2 => ∃ bx, bind (x0 :: xs) kx = some bx ∧
   WB (vsetX (bx.map (·.1)) (bx.map (·.2)) []) σ2 (fun _ σ' => RetP σ2 (.v .none) σ' Q) (fun x σ' => RetP σ2 x σ' Q) (XP σ2 QE)) := by
 intro E K F ρ η σ s outer Q QE R k hW hK hE
 have D := Y.fd hok
 refine dEA D.obj fun of hof hfd => ?_
 obtain ⟨y, hB⟩ := hB
 refine MethodCallK_ (ho E _ F ρ η σ s _ R hW fun v1 x0 F1 ρ1 σ1 hp1 t1 X1 S1 hW1 => ?_) he
 obtain ⟨hI, hW1⟩ := hW1
 refine dEEA (hI _ _ _ X1) fun xa a hR2 hIa => ?_
 subst hR2
 have XK := S1.sto.frag Y
 have hC := (cls_at XK).1
 have hN := (cls_at XK).2
 have hfc := fn_cls Y.K hfn hof
 refine method_of hC hN (vI XK hN (by kernel_rfl)) (vI XK hN (by kernel_rfl)) (ns_some_of XK hN hf) (S1.sto.old _ _ hof) hfc hB (hIa.inst S1.sto.inn) (by rw [if_neg (by simpa using hne)]) ?_
 refine callWith_function_kw (o := of) (fd := kfd P f) (ha E _ _ F1 ρ1 η σ1 { s with heap := hp1, toks := t1 } _ (R.step S1) hW1 fun vs xs kv kx F2 ρ2 σ2 hp2 t2 X2 hkv XK2 S2 hW2 => ⟨⟨S2.sto.old _ _ hof, hfd⟩, ?_⟩)
 refine dEA hW2 fun bx hbx hW2 => ?_
 have S12 := S1.trans S2
 refine dEEEEAAA (hbind F2 ρ2 { s with heap := hp2, toks := t2 } σ2 (.ref xa :: vs) (x0 :: xs) kv kx bx S2.sto (.cons (X1.mono S2.evo.le S2.pre) X2) hkv XK2 hbx) fun bs' F3 h3 t3 S3 hB3 hn3 X3 => ?_
 refine op_defY D hroom (fun n hn => pM (List.all_eq_true.mp (hnm _ _ bx hbx) n hn)) hb (env := env) (s := { s with heap := hp2, toks := t2 }) (vs := .ref xa :: vs) (QE := QE) (R.step S12) (k.step S12) S3 hB3 hn3 X3 hW2 (fun v x F4 ρ4 σ4 h4 t4 X4 S4 hQ => hK v x F4 ρ4 σ4 h4 t4 X4 (S12.trans S4) hQ)
  fun e tr cls d F4 ρ4 σ4 h4 t4 tk4 X4 S4 hQ => hE e tr cls d F4 ρ4 σ4 h4 t4 tk4 (X4.back (S12.gone R.sto)) (S12.trans S4) hQ
end
set_option tactic.hygienic false
section
variable {c : Cx} {env : Env}
theorem op_defY0 {a : Addr} {fd : FuncData} {body : List Stmt} {W : SW} (D : FdOK c a fd body) (hroom : c.A.depth < recursionLimit) {kw : List (Str × Value)} {bx : List (String × XV)} {bs : List (Str × Value)}
  (hnm : ∀ n ∈ bx, fd.scope.names.lookup (n.1 : Str) = some .local ∨ fd.scope.names.lookup (n.1 : Str) = some .cell)
  (hb : ∀ L cells, CellsOk (defEnv fd a L cells) → SOK { c with A := c.A.deeper (defEnv fd a L cells) } (defEnv fd a L cells) (execs body (defEnv fd a L cells)) W)
  {env : Env} {E : Value → Shared → Prop} {K : Value → Shared → Prop} {F : Fz} {ρ : Pl} {η : Vars} {σ : Sto} {s : Shared} {vs : List Value} {Q : XV → Sto → Prop} (R : Rel c.base c.C env F ρ s.heap η σ)
  {F0 : Fz} {h0 : Heap} {tk0 : Nat} (S0 : Step c.base c.C F ρ s.heap F0 ρ h0 σ) (hB : ∀ (M : Model) (A : Around) (E : Value → Shared → Prop) (Q : List (Str × Value) → Shared → Prop), Q bs { s with heap := h0, toks := tk0 } → wpAny M A (bindArgs fd ⟨vs, kw⟩) Q E s) (hn1 : bs.map (·.1) = bx.map (fun n => (n.1 : Str))) (hX1 : XRs F0 ρ (bs.map (·.2)) (bx.map (·.2)))
  (hW : W (vsetX (bx.map (·.1)) (bx.map (·.2)) []) σ (fun _ σ' => RetP σ (.v .none) σ' Q) (fun x σ' => RetP σ x σ' Q)) (hK : Ret c F ρ s Q K) : wpAny c.M c.A (call (.ref a) vs kw) K E s := by
 refine dEA D.obj fun o ho hfd => ?_
 exact wpAny_call (codeAny_call_function hroom (R.sto.old _ _ ho) hfd D.co D.gen D.body (D.code.keeps R.sto.old) (hB _ _ _ _ (op_cont0 (s := { s with heap := h0, toks := tk0 }) D hnm hb (R.step S0) hn1 hX1 hW
  (fun v x F2 ρ2 σ2 h2 t2 X2 S2 hQ => hK v x F2 ρ2 σ2 h2 t2 X2 (S0.trans S2) hQ))))
theorem eok_meth {P : Params} {mg : Str → Option Value} (Y : Yes c P mg) {o : Expr} {name : Str} {apos pos : Pos} {args : List Expr} {kws : List Keyword} {pl : Sem Bool} {f : Addr} {Wo : EW} {Wa : AW} {WB : SW} (hroom : c.A.depth < recursionLimit)
  (hf : nsIn (hd.heap_1 P) 213 name = some (some (.ref f))) (hok : kok P f = true) (hfn : ((hd.heap_1 P).lookup f).map (·.cls) = some (.type "function")) (hB : ∃ y, typeLookup (.type "object") name = pure y) (hne : (name == Str.ofString "_headers") = false) (ho : EOK c env (eval o env) Wo)
  (ha : ArgsOK c env (backTo pos (starEach args env)) (backToKw pos (keywordEach kws env)) Wa) (bind : Binder) (hbind : BindOK c (kfd P f) bind) (hnm : ∀ xs kx bx, bind xs kx = some bx → (bx.all fun n => lc (kfd P f).scope n.1) = true)
  (hb : ∀ L cells, CellsOk (defEnv (kfd P f) f L cells) → SOK { c with A := c.A.deeper (defEnv (kfd P f) f L cells) } (defEnv (kfd P f) f L cells) (execs (kbody P f) (defEnv (kfd P f) f L cells)) WB)
  (he : eval (.Call (.Attribute o name apos) args kws pos) env = (do
   let ov ← eval o env
   standAt apos.atName
   let (f, first) ← holding [ov] (getMethod ov name pl)
   callWith pos f first (backTo pos (starEach args env)) (backToKw pos (keywordEach kws env))) := by rfl) :
  EOK c env (eval (.Call (.Attribute o name apos) args kws pos) env) (fun η σ Q => Wo η σ fun x0 σ1 => InstV x0 ∧ Wa η σ1 fun xs kx σ2 => ∃ bx, bind (x0 :: xs) kx = some bx ∧
   WB (vsetX (bx.map (·.1)) (bx.map (·.2)) []) σ2 (fun _ σ' => RetP σ2 (.v .none) σ' Q) (fun x σ' => RetP σ2 x σ' Q)) := by
 intro E K F ρ η σ s Q R hW hK
 have D := Y.fd hok
 refine dEA D.obj fun of hof hfd => ?_
 obtain ⟨y, hB⟩ := hB
 refine MethodCallK_ (ho E _ F ρ η σ s _ R hW fun v1 x0 F1 ρ1 σ1 hp1 t1 X1 S1 hW1 => ?_) he
 obtain ⟨hI, hW1⟩ := hW1
 refine dEEA (hI _ _ _ X1) fun xa a hR1 hIa => ?_
 subst hR1
 have XK := S1.sto.frag Y
 have hC := (cls_at XK).1
 have hN := (cls_at XK).2
 have hfc := fn_cls Y.K hfn hof
 refine method_of hC hN (vI XK hN (by kernel_rfl)) (vI XK hN (by kernel_rfl)) (ns_some_of XK hN hf) (S1.sto.old _ _ hof) hfc hB (hIa.inst S1.sto.inn) (by rw [if_neg (by simpa using hne)]) ?_
 refine callWith_function_kw (o := of) (fd := kfd P f) (ha E _ _ F1 ρ1 η σ1 { s with heap := hp1, toks := t1 } _ (R.step S1) hW1 fun vs xs kv kx F2 ρ2 σ2 hp2 t2 X2 hkv XK2 S2 hW2 => ⟨⟨S2.sto.old _ _ hof, hfd⟩, ?_⟩)
 refine dEA hW2 fun bx hbx hW2 => ?_
 have S12 := S1.trans S2
 refine dEEEEAAA (hbind F2 ρ2 { s with heap := hp2, toks := t2 } σ2 (.ref xa :: vs) (x0 :: xs) kv kx bx S2.sto (.cons (X1.mono S2.evo.le S2.pre) X2) hkv XK2 hbx) fun bs' F3 h3 t3 S3 hB3 hn3 X3 => ?_
 exact op_defY0 D hroom (fun n hn => pM (List.all_eq_true.mp (hnm _ _ bx hbx) n hn)) hb (env := env) (s := { s with heap := hp2, toks := t2 }) (vs := .ref xa :: vs) (R.step S12) S3 hB3 hn3 X3 hW2 (fun v x F4 ρ4 σ4 h4 t4 X4 S4 hQ => hK v x F4 ρ4 σ4 h4 t4 X4 (S12.trans S4) hQ)
structure EmpF (F : Fz) (a : Addr) : Prop where
 obj : F a = some { cls := .type "dict", data := .dict #[] } ∧ (a == sysModules) = false
noncomputable def EmpP : PF where
 P := EmpF
 mono := fun _ _ _ hF x => ⟨hF _ _ x.obj.1, x.obj.2⟩
theorem sok_items0 {n xk xv : String} {np pk pv pt pos apos cpos : Pos} {x1} {body : List Stmt} (hh : c.A.handled = none) (hv : varNm env n = true) (hxk : env.kindOf xk = some .local) (hxv : env.kindOf xv = some .local) (hline : (apos.endLine == cpos.line) = true)
  (hbase : attributeBase (.Name n np) "items" env (eval (.Name n np) env) = eval (.Name n np) env := by rfl)
  (hs : ∀ x, foldedSetIterable (.Call (.Attribute (.Name n np) "items" apos) [] [] cpos) env x = pure x := by intro _; rfl) :
  SOK c env (exec (.For (.Tuple [.Name xk pk, .Name xv pv] x1 pt) (.Call (.Attribute (.Name n np) "items" apos) [] [] cpos) body [] pos) env) (fun η σ N _ => vget n η = some (.pr EmpP) ∧ N η σ) := by
 intro E K F ρ η σ s N Rt R hW hN hR
 obtain ⟨hx, hQ⟩ := hW
 refine dAA (kQ hv) fun k1 k2 k3 => ?_
 have key : ∀ a, EmpF F a → (∀ (E : Value → Shared → Prop) Q', Q' (.ref a) s → wpAny c.M c.A (eval (.Name n np) env) Q' E s) → wpAny c.M c.A (exec (.For (.Tuple [.Name xk pk, .Name xv pv] x1 pt) (.Call (.Attribute (.Name n np) "items" apos) [] [] cpos) body [] pos) env) K E s := by
  intro a ha ho
  refine dEA R.ns fun m hn hvv => ?_
  have hm : s.heap.DictAt (PySem.strKind c.prog c.w) a [] 0 := ⟨_, #[], R.sto.inn _ _ ha.obj.1, ⟨rfl, rfl, rfl⟩, rfl, fun e he => absurd he (by simp), .nil, .nil⟩
  have hne : a ≠ env.locals := fun q => by
   have := ha.obj.1
   rw [q, R.nsF] at this; cases this
  refine wpAny_mono (E := fun _ _ => False) (wpAny_For_items_locals (knd := PySem.strKind c.prog c.w) (kvs := []) (d := a) (ep := 0) (m := m) hh hxk hxv (by rw [R.kind]; rfl) hne ha.obj.2 hm hn hbase hline (fun Q' hq => ho _ Q' hq) (fun _ m' => m' = m) rfl (fun i k v key m₁ s₁ h => by cases h) (fun h' tk m' hn' hm' hk => ?_) hs) (fun _ _ q => q) fun _ _ q => q.elim
  subst hm'
  have ev : Evo (· = env.locals) F s.heap F h' := Evo.but R.sto.inn R.nsF fun b o hb e => hk b o hb e
  have S' : SRel c.base c.C F ρ h' σ := R.sto.along ev fun p hp q => R.locals.1 ⟨p, hp, q⟩
  refine hN F ρ η σ h' tk ⟨S', R.kind, R.glob, R.blt, ⟨m', hn', hvv⟩, R.nsF, R.cellAll, fun y b hy hb => ?_, R.inj⟩ ⟨ev.weaken fun b q => .inl (.inr (.inl q)), List.prefix_refl _, fun p hp => .inl hp⟩ hQ
  refine dEAA (R.cells y b hy hb) fun v' c1 c2 c3 => ?_
  refine ⟨v', ev.isCell c1 fun q => ?_, c2, c3⟩
  refine dEA c1 fun o' ho' hd' => ?_
  refine dEEEAA hn fun o'' es ep w1 w2 _ => ?_
  have q' : b = env.locals := q
  rw [q', w1] at ho'; cases ho'; rw [w2] at hd'; cases hd'
 refine dEA (R.value (M := c.M) (A := c.A) hx k1 k2) fun v X ho => ?_
 revert ho
 exact X.eP fun a X ho => key a X fun E' Q' hq => wpAny_Name (ho hq) k3
end
set_option tactic.hygienic true
noncomputable def ctl : Str := "Control characters not allowed in headers"
noncomputable def cstBind : Binder := fun xs kx => u1 (fun a => u1 fun v => u0 (u1 (fun n => u0 (if n.1 = "name" then some [("self", a), ("value", v), ("name", n.2)] else none)) kx)) xs
theorem cst_bind {c : Cx} {P : Params} : BindOK c (kfd P 115) cstBind := by
 intro F ρ s σ vs xs kv kx bx S0 X hk XK e
 refine X.b1 (show u1 _ xs = some bx from e) fun v0 _ _ _ X1 X e => X.b1 e fun v1 _ _ _ X2 X e => X.b0 e fun e => kb1 hk XK e fun v r q _ hv hr Xq e => ?_
 have e2 := (kb0 hr e).2
 rw [hv, (kb0 hr e).1]
 split at e2
 ·rename_i hn
  rw [hn]
  exact Option.some.inj e2 ▸ ⟨[("self", v0), ("value", v1), ("name", v)], F, s.heap, s.toks, .refl S0, fun M A E Q hq => wpAny_is (by kernel_rfl) hq, rfl, .cons X1 (.cons X2 (.cons Xq .nil))⟩
 ·exact nomatch e2
noncomputable def cstX : XSW := fun η σ _ Rt QE => ∃ (l : List Nat) (b : Bool), vget "value" η = some (.v (.str (S l))) ∧ vget "name" η = some (.v (.bool b)) ∧ l.length < 2 ^ 60 ∧
 (l.any (if b then badN else badV) = false → Rt (.v (.str (S l))) σ) ∧ (l.any (if b then badN else badV) = true → ∀ η', QE "ValueError" (.tuple [.str ctl]) η' σ)
noncomputable def cstW : SW := fun η σ _ Rt => ∃ (l : List Nat) (b : Bool), vget "value" η = some (.v (.str (S l))) ∧ vget "name" η = some (.v (.bool b)) ∧ l.length < 2 ^ 60 ∧ l.any (if b then badN else badV) = false ∧ Rt (.v (.str (S l))) σ
theorem cstX_walk {c : Cx} {P : Params} {mg : Str → Option Value} (Y : Yes c P mg) (rm : Room 0 c.A) (L : Addr) (cells : List (Str × Addr)) (hcl : CellsOk (defEnv (kfd P 115) 115 L cells)) :
  XSOK c (defEnv (kfd P 115) 115 L cells) (execs (kbody P 115) (defEnv (kfd P 115) 115 L cells)) cstX := by
 have hh := rm.hd
 have heq := rm.eq
 refine XSOK.weak (pN (xsok_if (tok_isstr Y.G (by kernel_rfl) (Y.none (by kernel_rfl)) (by kernel_rfl) (Y.none (by kernel_rfl)) (by kernel_rfl))
  (pN (kK (jZ (by kernel_rfl) (eok_ifexp (kT (qB (by kernel_rfl)) jT) (eok_gpat (a := 80) (T := 79) Y (by kernel_rfl) (by kernel_rfl) (by decide) (by kernel_rfl) (searchN P)) (eok_gpat (a := 85) (T := 84) Y (by kernel_rfl) (by kernel_rfl) (by decide) (by kernel_rfl) (searchV P)))))
  (pN (xsok_if (tok_search (by kernel_rfl) (by kernel_rfl)) (pN (xsok_raise Y.G hh hcl (by kernel_rfl) (Y.none (by kernel_rfl))) kE) kE)
  (pN (kK (pC (qB (by kernel_rfl)))) kE))) kE)
 (pN (kK sok_never) kE)) ?_
 intro η σ N Rt QE h
 dsimp only [wCons, wAsg, wIf, wRet, wBin, wCmp, wPl, wUn, wAnd, wOr, wIfE, wEs, wSl, xwCons, xwIf]
 refine qC fun P kG => ?_
 obtain ⟨l, b, h1, h2, h3, hR, hE⟩ := h
 refine kG ?_
 clear kG P
 have hs : (S l).length < 2 ^ 62 := by rw [jN]; lia
 simp only [h1, h2, qJ, qF, qD, qK, qL, qT, qH, qI, qM, qN, qY, qZ, qE, String.reduceEq, String.reduceBEq, cond_true, cond_false, uH, if_true, if_false, reduceIte, ite_true, ite_false, zA, zB, zC, zD, zE, zF, qP, zG, qQ, zH, zI, zJ, zK, zL, qR, qU, zM, zN, qO, zO, zP, zQ, zR, zS, zT, qV, zU, zV, zW, zX, zY, qW, zZ, jA, jB, jR, jQ, jS, jC, jD, jE, jF, qX, jG, jH, qS, uA, uB, uC, uD, uE, uF, uG]
 cases b with
 | true =>
  refine ⟨_, rfl, fun _ => ⟨fun _ => ⟨_, _, rfl, rfl, hs, ?_⟩, fun q => (by cases q)⟩, fun q => (by cases q)⟩
  rw [vA]
  exact ⟨fun q => hE q _, fun q => hR q⟩
 | false =>
  refine ⟨_, rfl, fun _ => ⟨fun q => (by cases q), fun _ => ⟨_, _, rfl, rfl, hs, ?_⟩⟩, fun q => (by cases q)⟩
  rw [vA]
  exact ⟨fun q => hE q _, fun q => hR q⟩
theorem cst_walk {c : Cx} {P : Params} {mg : Str → Option Value} (Y : Yes c P mg) (rm : Room 0 c.A) (L : Addr) (cells : List (Str × Addr)) (hcl : CellsOk (defEnv (kfd P 115) 115 L cells)) :
  SOK c (defEnv (kfd P 115) 115 L cells) (execs (kbody P 115) (defEnv (kfd P 115) 115 L cells)) cstW := by
 have hh := rm.hd
 have heq := rm.eq
 refine SOK.weak (jK (pS (tok_isstr Y.G (by kernel_rfl) (Y.none (by kernel_rfl)) (by kernel_rfl) (Y.none (by kernel_rfl)) (by kernel_rfl))
  (jK (jZ (by kernel_rfl) (eok_ifexp (kT (qB (by kernel_rfl)) jT) (eok_gpat (a := 80) (T := 79) Y (by kernel_rfl) (by kernel_rfl) (by decide) (by kernel_rfl) (searchN P)) (eok_gpat (a := 85) (T := 84) Y (by kernel_rfl) (by kernel_rfl) (by decide) (by kernel_rfl) (searchV P))))
  (jK (pS (tok_search (by kernel_rfl) (by kernel_rfl)) (jK sok_never jP) jP)
  (jK (pC (qB (by kernel_rfl))) jP))) jP)
 (jK sok_never jP)) ?_
 intro η σ N Rt h
 dsimp only [wCons, wAsg, wIf, wRet, wBin, wCmp, wPl, wUn, wAnd, wOr, wIfE, wEs, wSl, xwCons, xwIf]
 refine qC fun P kG => ?_
 obtain ⟨l, b, h1, h2, h3, h4, hR⟩ := h
 refine kG ?_
 clear kG P
 have hs : (S l).length < 2 ^ 62 := by rw [jN]; lia
 simp only [h1, h2, qJ, qF, qD, qK, qL, qT, qH, qI, qM, qN, qY, qZ, qE, String.reduceEq, String.reduceBEq, cond_true, cond_false, uH, if_true, if_false, reduceIte, ite_true, ite_false, zA, zB, zC, zD, zE, zF, qP, zG, qQ, zH, zI, zJ, zK, zL, qR, qU, zM, zN, qO, zO, zP, zQ, zR, zS, zT, qV, zU, zV, zW, zX, zY, qW, zZ, jA, jB, jR, jQ, jS, jC, jD, jE, jF, qX, jG, jH, qS, uA, uB, uC, uD, uE, uF, uG]
 cases b with
 | true =>
  refine ⟨_, rfl, fun _ => ⟨fun _ => ⟨_, _, rfl, rfl, hs, ?_⟩, fun q => (by cases q)⟩, fun q => (by cases q)⟩
  rw [vA]
  exact ⟨fun q => (by rw [if_pos rfl] at h4; rw [h4] at q; cases q), fun _ => hR⟩
 | false =>
  refine ⟨_, rfl, fun _ => ⟨fun q => (by cases q), fun _ => ⟨_, _, rfl, rfl, hs, ?_⟩⟩, fun q => (by cases q)⟩
  rw [vA]
  exact ⟨fun q => (by rw [if_neg Bool.false_ne_true] at h4; rw [h4] at q; cases q), fun _ => hR⟩
set_option tactic.hygienic false
theorem cstNm {P : Params} (xs : List XV) (kx bx : List (String × XV)) (e : cstBind xs kx = some bx) : (bx.all fun n => lc (kfd P 115).scope n.1) = true :=
 u1_e e fun _ _ e => u1_e e fun _ _ e => u1_e (u0_e e) fun _ _ e => by
  have e := u0_e e
  split at e
  ·exact Option.some.inj e ▸ (by kernel_rfl)
  ·exact nomatch e
noncomputable def ahBind : Binder := fun xs kx => u1 (fun a => u1 fun n => u1 fun v => u0 (u0 (some [("self", a), ("_name", n), ("_value", v), ("_params", .pr EmpP)]) kx)) xs
theorem ahNm {P : Params} (xs : List XV) (kx bx : List (String × XV)) (e : ahBind xs kx = some bx) : (bx.all fun n => lc (kfd P 211).scope n.1) = true :=
 u1_e e fun _ _ e => u1_e e fun _ _ e => u1_e e fun _ _ e => Option.some.inj (u0_e (u0_e e)) ▸ (by kernel_rfl)
theorem ah_bind {c : Cx} {P : Params} {mg : Str → Option Value} (Y : Yes c P mg) : BindOK c (kfd P 211) ahBind := by
 intro F ρ s σ vs xs kv kx bx S0 X hk XK e
 refine X.b1 (show u1 _ xs = some bx from e) fun v0 _ _ _ X1 X e => X.b1 e fun v1 _ _ _ X2 X e => X.b1 e fun v2 _ _ _ X3 X e => X.b0 e fun e => ?_
 rw [(kb0 hk e).1]
 refine Option.some.inj (kb0 hk e).2 ▸ ?_
 clear e
 have hx : Ext s.heap (s.heap.push ({ cls := .type "dict", data := .dict #[] } : Obj)) := Ext.push _ _
 have S1 := Step.ext S0 hx
 have hsz : 214 < s.heap.objs.size := Heap.lt_size (cls_at (SRel.frag Y S0)).1
 refine ⟨[("self", v0), ("_name", v1), ("_value", v2), ("_params", .ref s.heap.objs.size)], Fup F s.heap _, _, s.toks, S1, fun M A E Q hq => ?_, rfl,
  .cons (X1.mono S1.evo.le (List.prefix_refl _)) (.cons (X2.mono S1.evo.le (List.prefix_refl _)) (.cons (X3.mono S1.evo.le (List.prefix_refl _)) (.cons (.pr (p := EmpP) ⟨Fup_new (Heap.get?_push_size _ rfl) (get?_size _), ?_⟩) .nil)))⟩
 ·have e : bindArgs (kfd P 211) ⟨[v0, v1, v2], []⟩ = (alloc { cls := .type "dict", data := .dict #[] } >>= fun d => pure [(Str.ofString "self", v0), (Str.ofString "_name", v1), (Str.ofString "_value", v2), (Str.ofString "_params", .ref d)]) := by kernel_rfl
  rw [e]
  exact wpAny_bind (wpAny_alloc (wpAny_pure hq))
 ·have : s.heap.objs.size ≠ sysModules := by show _ ≠ 1; exact (fun q0 => (jY [_] (.c 1 (.v 0) (.n 1) (.c 1 (.a (.n 214) (.n 1)) (.v 0) .z)) rfl (uJ q0) hsz))
  simpa using this
noncomputable def ahX : XSW := fun η σ N _ QE => ∃ (i : Nat) (xs : List PyData) (n v : List Nat), vget "self" η = some (.hdr 214 i) ∧ vget "_name" η = some (.v (.str (S n))) ∧ vget "_value" η = some (.v (.str (S v))) ∧ vget "_params" η = some (.pr EmpP) ∧
 σ[i]? = some (.list xs) ∧ n.length < 1000 ∧ v.length < 1000 ∧ n.any badN = false ∧ xs.length < 1000 ∧
 (v.any badV = false → ∀ η' junk, N η' (σ.set i (.list (xs ++ [.tuple [.str (S n), .str (S v)]])) ++ junk)) ∧ (v.any badV = true → ∀ η' junk, QE "ValueError" (.tuple [.str ctl]) η' (σ ++ junk))
theorem oJoin_2 {a : Str} {x : XV} {σ : Sto} {Q : XV → Sto → Prop} : oJoin [.v (.str a), x] σ Q = ∃ xs ys, lst? σ x = some xs ∧ strsOf xs = some ys ∧ JoinOk a ys = true ∧ Q (.v (.str (Txt.join a ys))) σ := rfl
theorem ah_walk {c : Cx} {P : Params} {mg : Str → Option Value} (Y : Yes c P mg) (rm : Room 1 c.A) (L : Addr) (cells : List (Str × Addr)) (hcl : CellsOk (defEnv (kfd P 211) 211 L cells)) :
  XSOK c (defEnv (kfd P 211) 211 L cells) (execs (kbody P 211) (defEnv (kfd P 211) 211 L cells)) ahX := by
 have hh := rm.hd
 have heq := rm.eq
 refine XSOK.weak (pN (kK (jZ (by kernel_rfl) (kM rfl jI)))
 (pN (xsok_if (jW (qB (by kernel_rfl)) eok_none op_isnot jT (by kernel_rfl))
   (pN (xsok_assign (by kernel_rfl) (xeok_meth (name := Str.ofString "_convert_string_type") Y rm.dep (by kernel_rfl) (by kernel_rfl) (by kernel_rfl) ⟨none, by rw [typeLookup_type, builtinLookup_eq_fast]; kernel_rfl⟩ (by decide) (qB (by kernel_rfl)) (args_kw (qG (qB (by kernel_rfl)) jI)) cstBind cst_bind cstNm (fun L cells hcl => cstX_walk (Y.deep _) (rm.deeper _) L cells hcl)))
   (pN (kK (sok_expr (eok_lmeth PySem.F.slot_list_append PySem.F.type_list_append rfl (qB (by kernel_rfl)) (qB (by kernel_rfl)) op_append))) kE)) kE)
 (pN (kK (sok_items0 hh (by kernel_rfl) (by kernel_rfl) (by kernel_rfl) (by kernel_rfl)))
 (pN (kK (sok_expr (eok_lmeth PySem.F.slot_list_append PySem.F.type_list_append rfl (eok_attr_own Y (by kernel_rfl)) (eok_tuple (k := 0) rfl (qG (eok_meth (name := Str.ofString "_convert_string_type") Y rm.dep (by kernel_rfl) (by kernel_rfl) (by kernel_rfl) ⟨none, by rw [typeLookup_type, builtinLookup_eq_fast]; kernel_rfl⟩ (by decide) (qB (by kernel_rfl)) (args_kw (qG (qB (by kernel_rfl)) jI)) cstBind cst_bind cstNm (fun L cells hcl => cst_walk (Y.deep _) (rm.deeper _) L cells hcl)) (qG (kN GM.join rfl pQ (qG (qB (by kernel_rfl)) jI) op_join) jI))) op_append)))
 kE)))) ?_
 intro η σ N Rt QE h
 dsimp only [wCons, wAsg, wIf, wRet, wBin, wCmp, wPl, wUn, wAnd, wOr, wIfE, wEs, wSl, xwCons, xwIf]
 refine qC fun P kG => ?_
 obtain ⟨i, xs, n, v, h1, h2, h3, h4, h5, h6, h7, h8, h9, hR, hE⟩ := h
 refine kG ?_
 clear kG P
 simp only [h1, h2, h3, h4, qJ, qF, qD, qK, qL, qT, qH, qI, qM, qN, qY, qZ, qE, String.reduceEq, String.reduceBEq, cond_true, cond_false, uH, if_true, if_false, reduceIte, ite_true, ite_false, zA, zB, zC, zD, zE, zF, qP, zG, qQ, zH, zI, zJ, zK, zL, qR, qU, zM, zN, qO, zO, zP, zQ, zR, zS, zT, qV, zU, zV, zW, zX, zY, qW, zZ, jA, jB, jR, jQ, jS, jC, jD, jE, jF, qX, jG, jH, qS, uA, uB, uC, uD, uE, uF, uG]
 have hs : (2 : Nat) ^ 20 ≤ sizeLine := by decide
 have hi : i < σ.length := (List.getElem?_eq_some_iff.mp h5).1
 have hg : ∀ m : MO, (σ ++ [m])[i]? = some (.list xs) := fun m => by rw [List.getElem?_append_left hi]; exact h5
 refine ⟨Nat.zero_le _, ?_⟩
 rw [show ∀ Q, oIs true (.v (.str (S v))) (.v .none) (σ ++ [.list []]) Q = Q (.v (.bool true)) (σ ++ [.list []]) from fun _ => rfl]
 simp only [qO]
 refine ⟨fun _ => ⟨instV_hdr, _, rfl, v, false, ?_, ?_, by exact Nat.lt_of_lt_of_le ‹_› (by decide), fun hv => retp_n ⟨σ.length, rfl, ⟨_, kO _ _⟩, _, kO _ _, _, rfl, Nat.zero_le _, rfl, trivial, ?_⟩, fun hv η' => ⟨σ ++ [.list []], [], by simp, rfl, ?_⟩⟩, fun q => (by cases q)⟩
 ·kernel_rfl
 ·kernel_rfl
 ·rw [set_last]
  refine ⟨i, xs, rfl, hg _, i, rfl, ⟨_, hg _⟩, instV_hdr, _, rfl, n, true, ?_, ?_, by exact (qA [_] 1 (.a (.v 0) (.n 1)) (.n 1152921504606846976) (.c 1 (.a (.v 0) (.n 1)) (.n 1000) .z) rfl h6), h8, retp_n ?_⟩
  ·kernel_rfl
  ·kernel_rfl
  ·refine ⟨_, rfl, ?_⟩
   rw [oJoin_2]
   refine ⟨_, [S v], kZ _ _, rfl, ?_, _, rfl, by show (2 : Nat) ≤ _; exact Nat.le_add_left _ _, xs, hg _, _, rfl, by exact Nat.le_trans (Nat.le_of_lt ‹_›) (by decide), rfl, ?_⟩
   ·unfold JoinOk
    have : (S v).length = v.length := jN v
    have h2 : (Str.ofString "; ").length = 2 := by decide +kernel
    simp [h2, this, Builtin.Str.tooLong]
    exact Nat.lt_of_le_of_lt ‹_› (by decide)
   ·rw [List.set_append_left _ _ hi]
    exact hR hv _ _
 ·exact hE hv _ _
theorem sub_val1 : isSubtype (.type "ValueError") (.type "BaseException") = pure true := by rw [isSubtype_type]; kernel_rfl
theorem sub_val2 : isSubtype (.type ((Manifest.find? "ValueError").elim "type" fun x => x.metatype)) (.type "tuple") = pure false := by rw [isSubtype_type]; kernel_rfl
theorem sub_val3 : isSubtype (.type "ValueError") (.type "ValueError") = pure true := by rw [isSubtype_type]; kernel_rfl
noncomputable def laidW : XSW := fun η σ _ Rt _ => ∃ (i : Nat) (xs : List PyData) (n v : List Nat), vget "table" η = some (.hdr 214 i) ∧ vget "name" η = some (.v (.str (S n))) ∧ vget "value" η = some (.v (.str (S v))) ∧
 σ[i]? = some (.list xs) ∧ n.length < 1000 ∧ v.length < 1000 ∧ n.any badN = false ∧ xs.length < 1000 ∧
 (v.any badV = false → Rt (.v (.str (Str.ofString ""))) (σ.set i (.list (xs ++ [.tuple [.str (S n), .str (S v)]])))) ∧ (v.any badV = true → Rt (.v (.str ctl)) σ)
theorem laid_walk {c : Cx} {P : Params} {mg : Str → Option Value} (Y : Yes c P mg) (rm : Room 2 c.A) (L : Addr) (cells : List (Str × Addr)) (hcl : CellsOk (defEnv (kfd P 237) 237 L cells)) :
  XSOK c (defEnv (kfd P 237) 237 L cells) (execs (kbody P 237) (defEnv (kfd P 237) 237 L cells)) laidW := by
 have hh := rm.hd
 have heq := rm.eq
 refine XSOK.weak (pN (xsok_try_as Y.G hcl (by kernel_rfl) (Y.none (by kernel_rfl)) boot_value0 (by decide) (by decide) (by kernel_rfl) sub_val1 sub_val2 sub_val3
  (pN (xsok_expr (xeok_meth (name := Str.ofString "add_header") Y rm.dep (by kernel_rfl) (by kernel_rfl) (by kernel_rfl) ⟨none, by rw [typeLookup_type, builtinLookup_eq_fast]; kernel_rfl⟩ (by decide) (qB (by kernel_rfl)) (args_pos (qG (qB (by kernel_rfl)) (qG (qB (by kernel_rfl)) jI))) ahBind (ah_bind Y) ahNm (fun L cells hcl => ah_walk (Y.deep _) (rm.deeper _) L cells hcl))) (pN (kK (pC pQ)) kE))
  (fun e => jK (pC (kX (Gl.deep Y.G _) (by kernel_rfl) (Y.none (by kernel_rfl)) boot_str0 (by decide) (by decide) rfl rfl (qG (qB (by kernel_rfl)) jI) (op_strexc PySem.F.excStr_ValueError heq))) jP)) kE) ?_
 intro η σ N Rt QE h
 dsimp only [wCons, wAsg, wIf, wRet, wBin, wCmp, wPl, wUn, wAnd, wOr, wIfE, wEs, wSl, xwCons, xwIf]
 refine qC fun P kG => ?_
 obtain ⟨i, xs, n, v, h1, h2, h3, h5, h6, h7, h8, h9, hR, hE⟩ := h
 refine kG ?_
 clear kG P
 simp only [h1, h2, h3, qJ, qF, qD, qK, qL, qT, qH, qI, qM, qN, qY, qZ, qE, String.reduceEq, String.reduceBEq, cond_true, cond_false, uH, if_true, if_false, reduceIte, ite_true, ite_false, zA, zB, zC, zD, zE, zF, qP, zG, qQ, zH, zI, zJ, zK, zL, qR, qU, zM, zN, qO, zO, zP, zQ, zR, zS, zT, qV, zU, zV, zW, zX, zY, qW, zZ, jA, jB, jR, jQ, jS, jC, jD, jE, jF, qX, jG, jH, qS, uA, uB, uC, uD, uE, uF, uG]
 refine ⟨instV_hdr, _, rfl, i, xs, n, v, ?_, ?_, ?_, ?_, h5, h6, h7, h8, h9, fun hv η' junk => .inl ⟨.none, _, junk, rfl, rfl, by simp, rfl, hR hv⟩, fun hv η' junk => ⟨σ, junk, rfl, rfl, rfl, ctl, rfl, hE hv⟩⟩
 ·kernel_rfl
 ·kernel_rfl
 ·kernel_rfl
 ·kernel_rfl
noncomputable def rowD (p : Str × Str) : PyData := .tuple [.str p.1, .str p.2]
noncomputable def rowsW (f : Str × Str → PyData) : SW := fun η σ _ Rt => ∃ ps : List (Str × Str), vget "self" η = some (.pr (FHdr (ps.map rowD))) ∧ ps.length < 1000 ∧ Rt (.v (.list (ps.map f))) σ
noncomputable def allW : SW := fun η σ _ Rt => ∃ (ps : List (Str × Str)) (n0 n : List Nat), vget "self" η = some (.pr (FHdr (ps.map rowD))) ∧ ps.length < 1000 ∧ vget "name" η = some (.v (.str (S n0))) ∧ n.length < 1000 ∧ Txt.lower (S n0) = S n ∧ n.any badN = false ∧ (∀ c ∈ n, c < 1000) ∧ (∀ p ∈ ps, SeqAt.shaped (.str (Txt.lower p.1)) = true ∧ (Txt.lower p.1).length < 100000) ∧
 Rt (.v (.list ((ps.filter fun p => decide (Txt.lower p.1 = S n)).map fun p => .str p.2))) σ
theorem fm_take {α : Type} (xs : List α) : ∀ k, (List.range k).filterMap (xs[·]?) = xs.take k
 | 0 => by simp
 | k + 1 => by
  rw [List.range_succ, List.filterMap_append, fm_take xs k, List.take_succ]
  congr 1
theorem pick_all (xs : List PyData) : pickL xs none none none = xs := by
 unfold pickL
 have e : sliceBounds none none none xs.length = (((0 : Nat) : Int), (xs.length : Int), 1) := rfl
 rw [e]
 dsimp only
 rw [sliceRange_one, List.filterMap_map]
 have : ((fun x => xs[x]?) ∘ fun x => 0 + x) = fun x => xs[x]? := by funext i; simp
 rw [this, Nat.sub_zero, fm_take, List.take_length]
theorem keys_walk {c : Cx} {P : Params} {mg : Str → Option Value} (Y : Yes c P mg) (rm : Room 0 c.A) (L : Addr) (cells : List (Str × Addr)) (hcl : CellsOk (defEnv (kfd P 166) 166 L cells)) :
  SOK c (defEnv (kfd P 166) 166 L cells) (execs (kbody P 166) (defEnv (kfd P 166) 166 L cells)) (rowsW fun p => .str p.1) := by
 have hh := rm.hd
 have heq := rm.eq
 refine SOK.weak (jK (pC (pT hh (eok_attr_fh Y (by kernel_rfl)) (by exact trivial) (pL (by kernel_rfl)) (fun _ q => q) (fun L cells => (kY hh [("k", _), ("v", _)] rfl rfl rfl (nmsOkC _ (by kernel_rfl)))) (vG _ (by kernel_rfl)) (fun L cells => pW) (fun L cells => (qB (by kernel_rfl)))))
 jP) ?_
 intro η σ N Rt h
 dsimp only [wCons, wAsg, wIf, wRet, wBin, wCmp, wPl, wUn, wAnd, wOr, wIfE, wEs, wSl]
 refine qC fun P kG => ?_
 obtain ⟨ps, h1, h2, hR⟩ := h
 refine kG ?_
 clear kG P
 simp only [h1, qJ, qF, qD, qK, qL, qT, qH, qI, qM, qN, qY, qZ, qE, String.reduceEq, String.reduceBEq, cond_true, cond_false, uH, if_true, if_false, reduceIte, ite_true, ite_false, zA, zB, zC, zD, zE, zF, qP, zG, qQ, zH, zI, zJ, zK, zL, qR, qU, zM, zN, qO, zO, zP, zQ, zR, zS, zT, qV, zU, zV, zW, zX, zY, qW, zZ, jA, jB, jR, jQ, jS, jC, jD, jE, jF, qX, jG, jH, qS, uA, uB, uC, uD, uE, uF, uG]
 refine ⟨_, rfl, _, ps.map (fun p => [PyData.str p.1]), rfl, CompAll.map (f := rowD) fun p hp => ?_, ?_, ?_⟩
 ·refine ⟨[.str p.1, .str p.2], rfl, rfl, fun _ => ?_, fun q => (by cases q)⟩
  simp only [qJ, qF, qD, qK, qL, qT, qH, qI, qM, qN, qY, qZ, qE, String.reduceEq, String.reduceBEq, cond_true, cond_false, uH, if_true, if_false, reduceIte, ite_true, ite_false, zA, zB, zC, zD, zE, zF, qP, zG, qQ, zH, zI, zJ, zK, zL, qR, qU, zM, zN, qO, zO, zP, zQ, zR, zS, zT, qV, zU, zV, zW, zX, zY, qW, zZ, jA, jB, jR, jQ, jS, jC, jD, jE, jF, qX, jG, jH, qS, uA, uB, uC, uD, uE, uF, uG, List.map_cons, List.map_nil]
  exact ⟨_, [], rfl, rfl, by simp⟩
 ·rw [pA, List.length_map]; have : (2 : Nat) ^ 20 ≤ sizeLine := by decide
  exact Nat.le_trans (Nat.le_of_lt ‹_›) (by decide)
 ·rw [pA]; exact hR
theorem values_walk {c : Cx} {P : Params} {mg : Str → Option Value} (Y : Yes c P mg) (rm : Room 0 c.A) (L : Addr) (cells : List (Str × Addr)) (hcl : CellsOk (defEnv (kfd P 171) 171 L cells)) :
  SOK c (defEnv (kfd P 171) 171 L cells) (execs (kbody P 171) (defEnv (kfd P 171) 171 L cells)) (rowsW fun p => .str p.2) := by
 have hh := rm.hd
 have heq := rm.eq
 refine SOK.weak (jK (pC (pT hh (eok_attr_fh Y (by kernel_rfl)) (by exact trivial) (pL (by kernel_rfl)) (fun _ q => q) (fun L cells => (kY hh [("k", _), ("v", _)] rfl rfl rfl (nmsOkC _ (by kernel_rfl)))) (vG _ (by kernel_rfl)) (fun L cells => pW) (fun L cells => (qB (by kernel_rfl)))))
 jP) ?_
 intro η σ N Rt h
 dsimp only [wCons, wAsg, wIf, wRet, wBin, wCmp, wPl, wUn, wAnd, wOr, wIfE, wEs, wSl]
 refine qC fun P kG => ?_
 obtain ⟨ps, h1, h2, hR⟩ := h
 refine kG ?_
 clear kG P
 simp only [h1, qJ, qF, qD, qK, qL, qT, qH, qI, qM, qN, qY, qZ, qE, String.reduceEq, String.reduceBEq, cond_true, cond_false, uH, if_true, if_false, reduceIte, ite_true, ite_false, zA, zB, zC, zD, zE, zF, qP, zG, qQ, zH, zI, zJ, zK, zL, qR, qU, zM, zN, qO, zO, zP, zQ, zR, zS, zT, qV, zU, zV, zW, zX, zY, qW, zZ, jA, jB, jR, jQ, jS, jC, jD, jE, jF, qX, jG, jH, qS, uA, uB, uC, uD, uE, uF, uG]
 refine ⟨_, rfl, _, ps.map (fun p => [PyData.str p.2]), rfl, CompAll.map (f := rowD) fun p hp => ?_, ?_, ?_⟩
 ·refine ⟨[.str p.1, .str p.2], rfl, rfl, fun _ => ?_, fun q => (by cases q)⟩
  simp only [qJ, qF, qD, qK, qL, qT, qH, qI, qM, qN, qY, qZ, qE, String.reduceEq, String.reduceBEq, cond_true, cond_false, uH, if_true, if_false, reduceIte, ite_true, ite_false, zA, zB, zC, zD, zE, zF, qP, zG, qQ, zH, zI, zJ, zK, zL, qR, qU, zM, zN, qO, zO, zP, zQ, zR, zS, zT, qV, zU, zV, zW, zX, zY, qW, zZ, jA, jB, jR, jQ, jS, jC, jD, jE, jF, qX, jG, jH, qS, uA, uB, uC, uD, uE, uF, uG, List.map_cons, List.map_nil]
  exact ⟨_, [], rfl, rfl, by simp⟩
 ·rw [pA, List.length_map]; have : (2 : Nat) ^ 20 ≤ sizeLine := by decide
  exact (qA [_,_] 1 (.v 0) (.v 1) (.c 1 (.n 1048576) (.v 1) (.c 1 (.a (.v 0) (.n 1)) (.n 1000) .z)) rfl this h2)
 ·rw [pA]; exact hR
theorem items_walk {c : Cx} {P : Params} {mg : Str → Option Value} (Y : Yes c P mg) (rm : Room 0 c.A) (L : Addr) (cells : List (Str × Addr)) (hcl : CellsOk (defEnv (kfd P 178) 178 L cells)) :
  SOK c (defEnv (kfd P 178) 178 L cells) (execs (kbody P 178) (defEnv (kfd P 178) 178 L cells)) (rowsW rowD) := by
 have hh := rm.hd
 have heq := rm.eq
 refine SOK.weak (jK (pC (pU (eok_attr_fh Y (by kernel_rfl)) pD pD pD))
 jP) ?_
 intro η σ N Rt h
 dsimp only [wCons, wAsg, wIf, wRet, wBin, wCmp, wPl, wUn, wAnd, wOr, wIfE, wEs, wSl]
 refine qC fun P kG => ?_
 obtain ⟨ps, h1, h2, hR⟩ := h
 refine kG ?_
 clear kG P
 simp only [h1, qJ, qF, qD, qK, qL, qT, qH, qI, qM, qN, qY, qZ, qE, String.reduceEq, String.reduceBEq, cond_true, cond_false, uH, if_true, if_false, reduceIte, ite_true, ite_false, zA, zB, zC, zD, zE, zF, qP, zG, qQ, zH, zI, zJ, zK, zL, qR, qU, zM, zN, qO, zO, zP, zQ, zR, zS, zT, qV, zU, zV, zW, zX, zY, qW, zZ, jA, jB, jR, jQ, jS, jC, jD, jE, jF, qX, jG, jH, qS, uA, uB, uC, uD, uE, uF, uG]
 refine ⟨_, rfl, by simp, by rw [List.length_map]; have : (2 : Nat) ^ 20 ≤ sizeLine := (by decide); lia, ?_⟩
 rw [pick_all]; exact hR
theorem all_walk {c : Cx} {P : Params} {mg : Str → Option Value} (Y : Yes c P mg) (rm : Room 1 c.A) (L : Addr) (cells : List (Str × Addr)) (hcl : CellsOk (defEnv (kfd P 153) 153 L cells)) :
  SOK c (defEnv (kfd P 153) 153 L cells) (execs (kbody P 153) (defEnv (kfd P 153) 153 L cells)) allW := by
 have hh := rm.hd
 have heq := rm.eq
 refine SOK.weak (jK (jZ (by kernel_rfl) (eok_meth (name := Str.ofString "_convert_string_type") Y rm.dep (by kernel_rfl) (by kernel_rfl) (by kernel_rfl) ⟨none, by rw [typeLookup_type, builtinLookup_eq_fast]; kernel_rfl⟩ (by decide) (qB (by kernel_rfl)) (args_kw (qG (kN GM.lower rfl (qB (by kernel_rfl)) jI op_lower) jI)) cstBind cst_bind cstNm (fun L cells hcl => cst_walk (Y.deep _) (rm.deeper _) L cells hcl)))
 (jK (pC (pT hh (eok_attr_fh Y (by kernel_rfl)) (by exact trivial) (pL (by kernel_rfl)) (fun _ q => q) (fun L cells => (pP (pM (by kernel_rfl)) (by kernel_rfl))) (pY (by kernel_rfl)) (fun L cells => (tsok_one (jW (kN GM.lower rfl (pI (qB (by kernel_rfl)) jM) jI op_lower) (qB (by kernel_rfl)) (op_eq heq) jT (by kernel_rfl)))) (fun L cells => (pI (qB (by kernel_rfl)) jM))))
 jP)) ?_
 intro η σ N Rt h
 dsimp only [wCons, wAsg, wIf, wRet, wBin, wCmp, wPl, wUn, wAnd, wOr, wIfE, wEs, wSl]
 refine qC fun P kG => ?_
 obtain ⟨ps, n0, n, h1, h2, h3, h4, h5, h6, hn, h7, hR⟩ := h
 refine kG ?_
 clear kG P
 have hs : (2 : Nat) ^ 20 ≤ sizeLine := by decide
 simp only [h1, h3, qJ, qF, qD, qK, qL, qT, qH, qI, qM, qN, qY, qZ, qE, String.reduceEq, String.reduceBEq, cond_true, cond_false, uH, if_true, if_false, reduceIte, ite_true, ite_false, zA, zB, zC, zD, zE, zF, qP, zG, qQ, zH, zI, zJ, zK, zL, qR, qU, zM, zN, qO, zO, zP, zQ, zR, zS, zT, qV, zU, zV, zW, zX, zY, qW, zZ, jA, jB, jR, jQ, jS, jC, jD, jE, jF, qX, jG, jH, qS, uA, uB, uC, uD, uE, uF, uG]
 refine ⟨instV_fh, _, rfl, by rw [h5, jN]; exact Nat.le_trans (Nat.le_of_lt ‹_›) (by decide), _, rfl, n, true, ?_, ?_, by exact Nat.lt_of_lt_of_le ‹_› (by decide), h6, retp_n ?_⟩
 ·simp only [qJ, qF, qD, qK, qL, qH, qI, qM, qN, qE, String.reduceEq, String.reduceBEq, cond_true, cond_false, reduceIte, if_true, if_false, uA, uB, uC, uD, List.map_cons, List.map_nil, h5]
 ·kernel_rfl
 ·refine ⟨_, rfl, _, ps.map (fun p => if decide (Txt.lower p.1 = S n) = true then [PyData.str p.2] else []), rfl, CompAll.map (f := rowD) fun p hp => ?_, ?_, ?_⟩
  ·refine qC fun P kG => ?_
   obtain ⟨q1, q2⟩ := h7 p hp
   refine kG ?_
   clear kG P
   unfold CB
   simp only [qJ, qF, qD, qK, qL, qT, qH, qI, qM, qN, qY, qZ, qE, String.reduceEq, String.reduceBEq, cond_true, cond_false, uH, if_true, if_false, reduceIte, ite_true, ite_false, zA, zB, zC, zD, zE, zF, qP, zG, qQ, zH, zI, zJ, zK, zL, qR, qU, zM, zN, qO, zO, zP, zQ, zR, zS, zT, qV, zU, zV, zW, zX, zY, qW, zZ, jA, jB, jR, jQ, jS, jC, jD, jE, jF, qX, jG, jH, qS, uA, uB, uC, uD, uE, uF, uG, rowD]
   refine ⟨0, _, by decide, rfl, rfl, _, rfl, by exact Nat.le_trans (Nat.le_of_lt ‹_›) (by decide), ?_⟩
   show oEq false (.v (.str (Txt.lower p.1))) (.v (.str (S n))) σ _
   rw [qS]
   simp only [qO]
   refine ⟨⟨q1, S_shaped n hn⟩, fun q => ⟨1, _, by decide, rfl, rfl, _, [], rfl, ?_, by simp⟩, fun q => ⟨?_, [], by simp⟩⟩
   ·rw [if_pos (by simpa using q)]
   ·rw [if_neg (by simpa using q)]
  ·rw [flatIf, List.length_map]
   have := List.length_filter_le (fun p : Str × Str => decide (Txt.lower p.1 = S n)) ps
   exact (qA [_,_,_] 1 (.v 0) (.v 1) (.c 1 (.v 0) (.v 2) (.c 1 (.n 1048576) (.v 1) (.c 1 (.a (.v 2) (.n 1)) (.n 1000) .z))) rfl this hs h2)
  ·rw [flatIf]; exact hR
section
variable {c : Cx} {env : Env}
theorem tok_isnotlist {mg : Str → Option Value} (G : Gl c mg) {x : String} {p1 p2 p3 p4 p5 : Pos} (hk1 : env.kindOf "type" = some .globalImplicit) (hm1 : mg "type" = none) (hk2 : env.kindOf "list" = some .globalImplicit) (hm2 : mg "list" = none) (hv : varNm env x = true)
  (hm : behindInMarks .IsNot (.Name "list" p4) = false := by with_unfolding_all rfl) :
  TOK c env (isTrue (.Compare (.Call (.Name "type" p1) [.Name x p2] [] p3) [.IsNot] [.Name "list" p4] p5) env (eval (.Compare (.Call (.Name "type" p1) [.Name x p2] [] p3) [.IsNot] [.Name "list" p4] p5) env)) (fun η σ Q => ∃ i xs, vget x η = some (.own i) ∧ σ[i]? = some (.list xs) ∧ Q false σ) := by
 intro E K F ρ η σ s Q R hW hK
 refine qC fun P kG => ?_
 obtain ⟨i, xs, hx, hmm, hQ⟩ := hW
 obtain ⟨k1, k2, k3⟩ := kQ hv
 refine kG ?_
 clear kG P
 refine wpAny_isTrue_Compare1 ?_ hm
 refine wpAny_Call_NameR (kW G R hk1 hm1 boot_type0 (by decide) (by decide) ?_)
 refine PyProof.Rows.callWith_type rfl (kJ (spliced_cons (wpAny_Name (R.lookup hx k1 k2 fun v X => spliced_nil ?_) k3)))
 refine X.eO fun p hp => ?_
 ·refine qC fun P kG => ?_
  obtain ⟨hpe, vs, ⟨o, ho, ⟨hc, _⟩, _⟩, _⟩ := R.sto.obj i p _ hp hmm
  refine kG ?_
  clear kG P
  rw [hpe]
  refine qC fun P kG => ?_
  obtain ⟨h, g, dd, tk, os⟩ := s
  refine kG ?_
  clear kG P
  refine call_type_obj ho (by rw [hc]; decide) ?_
  rw [hc]
  refine kW G R hk2 hm2 boot_list0 (by decide) (by decide) ?_
  refine isnot_type_same ?_
  exact wpAny_truthy_bool (hK false F ρ σ h tk (.refl R.sto) hQ)
theorem sok_for_own0 {x : String} {np pos : Pos} {target : Expr} {body : List Stmt} (hh : c.A.handled = none) (hcl : CellsOk env) (hv : varNm env x = true) (hs : ∀ y, foldedSetIterable (.Name x np) env y = pure y := by intro _; rfl) :
  SOK c env (exec (.For target (.Name x np) body [] pos) env) (fun η σ N _ => ∃ i, vget x η = some (.own i) ∧ σ[i]? = some (.list []) ∧ N η σ) := by
 intro E K F ρ η σ s N Rt R hW hN hR
 refine qC fun P kG => ?_
 obtain ⟨i, hx, hm, hQ⟩ := hW
 obtain ⟨k1, k2, k3⟩ := kQ hv
 refine kG ?_
 clear kG P
 refine wpAny_For (wpAny_Name (R.lookup hx k1 k2 fun v X => ?_) k3) hs
 refine X.eO fun p hp => ?_
 ·refine qC fun P kG => ?_
  obtain ⟨hpe, vs, l, hvs⟩ := R.sto.obj i p _ hp hm
  refine kG ?_
  clear kG P
  cases hvs
  rw [hpe]
  refine wpAny_pyIter_list l.isList ?_
  have hx1 : Ext s.heap (s.heap.push ({ cls := .type "list_iterator", data := .fields #[.ref p.2, .int 0 0] } : Obj)) := Ext.push _ _
  have R1 := R.step (Step.ext0 R.sto hx1)
  have l1 : (s.heap.push ({ cls := .type "list_iterator", data := .fields #[.ref p.2, .int 0 0] } : Obj)).IsList p.2 #[] := let ⟨o, e, r⟩ := l.isList; ⟨o, hx1 _ _ e, r⟩
  refine codeAny_forLoop_any (fun n st => n = 0 ∧ st = { s with heap := s.heap.push ({ cls := .type "list_iterator", data := .fields #[.ref p.2, .int 0 0] } : Obj) }) ?_ 0 ⟨rfl, rfl⟩
  rintro n st ⟨rfl, rfl⟩
  refine wpAny_pyNext_list_end (i := 0) hh ⟨_, Heap.get?_push_size _ rfl, rfl, rfl⟩ l1 rfl fun h' hb => wpAny_execs_nil ?_
  have nit := get?_size s.heap
  have Fn : F s.heap.objs.size = none := R.sto.fresh nit
  have ev : Evo (· = s.heap.objs.size) F (s.heap.push ({ cls := .type "list_iterator", data := .fields #[.ref p.2, .int 0 0] } : Obj)) F h' := Evo.but R1.sto.inn Fn fun b o hne e => hb b o hne e
  have V1 : SEvo env AnyNm F ρ s.heap F ρ (s.heap.push ({ cls := .type "list_iterator", data := .fields #[.ref p.2, .int 0 0] } : Obj)) := (Step.ext0 R.sto hx1).sevo
  have R2 := R1.along ev (off_new (X := (· = s.heap.objs.size)) R R1 V1 fun a q => q ▸ ⟨nit, R.sto.noMut nit⟩)
  exact hN F ρ η σ h' _ R2 ⟨V1.evo.trans ev fun a q => .inr (q ▸ nit), V1.pre, V1.new⟩ hQ
end
noncomputable def AtP (x : Addr) : PF where
 P := fun _ a => a = x
 mono := fun _ _ _ _ h => h
noncomputable def initBx (x : Addr) (h0 : XV) : List (String × XV) := [("self", .pr (AtP x)), ("headers", h0)]
theorem init_bind {P : Params} {s : Shared} (X0 : (hd.heap_1 P).In s.heap) (v0 : Value) (rest : List Value) (hr : rest = [] ∨ ∃ v, rest = [v]) : BindsTo s (kfd P 108) ⟨v0 :: rest, []⟩ [("self", v0), ("headers", rest.headD .none)] := by
 have hdf : (kfd P 108).defaults = .ref 101 := by kernel_rfl
 have ht0 : (hd.heap_1 P).lookup 101 = some { cls := .type "tuple", data := .seq #[.none] 0 } := by kernel_rfl
 rcases hr with rfl | ⟨v, rfl⟩
 ·intro M A E Q hq
  refine (show wpAny M A (seqItems? (kfd P 108).defaults >>= _) Q E s from ?_)
  rw [hdf]
  refine wpAny_bind (wpAny_seqItems (X0 _ _ ht0) rfl ?_)
  refine wpAny_is ?_ hq
  kernel_rfl
 ·intro M A E Q hq
  refine (show wpAny M A (seqItems? (kfd P 108).defaults >>= _) Q E s from ?_)
  rw [hdf]
  refine wpAny_bind (wpAny_seqItems (X0 _ _ ht0) rfl ?_)
  refine wpAny_is ?_ hq
  kernel_rfl
theorem inst_kept {h h' : Heap} {x C : Addr} {m : Str → Option Value} (I : h.Inst x C m) (hx : ∀ o, h.get? x = some o → Kept o (h'.get? x)) (hd : ∀ o d od, h.get? x = some o → o.dict = some d → h.get? d = some od → Kept od (h'.get? d)) : h'.Inst x C m := by
 refine dEAAA I fun o e c nc hdd => ?_
 refine dEAAA ((hx o e).data) fun o' e' d' c' di' => ?_
 refine ⟨o', e', c'.trans c, fun cc => by rw [d']; exact nc cc, ?_⟩
 rcases hdd with ⟨hn, hm⟩ | ⟨d, h1, h2, ⟨od, es, ep, q1, q2, q3⟩⟩
 ·exact .inl ⟨di'.trans hn, hm⟩
 ·refine dEAA ((hd o d od e h1 q1).data) fun od' f1 f2 _ => ?_
  exact .inr ⟨d, di'.trans h1, h2, od', es, ep, f1, f2.trans q2, q3⟩
section
variable {c : Cx} {env : Env}
theorem hdr_call {P : Params} {mg : Str → Option Value} (Y : Yes c P mg) (rm : Room 2 c.A) {rest : List Value} {h0 : XV} {i0 : Nat} {E K : Value → Shared → Prop} {F : Fz} {ρ : Pl} {η : Vars} {σ : Sto} {s : Shared} {Q : XV → Sto → Prop} (R : Rel c.base c.C env F ρ s.heap η σ)
  (hr : (rest = [] ∧ h0 = .v .none ∧ Q (.hdr 214 σ.length) (σ ++ [.list []])) ∨ ∃ v, rest = [v] ∧ h0 = .own i0 ∧ σ[i0]? = some (.list []) ∧ XR F ρ v (.own i0) ∧ Q (.hdr 214 i0) σ) (hK : Ret c F ρ s Q K) : wpAny c.M c.A (call (.ref 214) rest) K E s := by
 have XK := R.sto.frag Y
 have hC := (cls_at XK).1
 have hN := (cls_at XK).2
 have hok : kok P 108 = true := by kernel_rfl
 have D0 := Y.fd hok
 refine dEA D0.obj fun of hof hfd => ?_
 have hfn : ((hd.heap_1 P).lookup 108).map (·.cls) = some (.type "function") := by kernel_rfl
 have hfc := fn_cls Y.K hfn hof
 obtain ⟨h, g, d, t, os⟩ := s
 refine wpAny_call_obj_init PySem.F.objNew hC hN (ns_some_of XK hN (by kernel_rfl)) (R.sto.old _ _ hof) hfc fun h' x dx Mk => ?_
 generalize hA : c.A.under (.builtin "type.__call__" ⟨.ref 214 :: rest, []⟩) = A1
 have hdep : A1.depth = c.A.depth + 1 := by rw [← hA]; rfl
 have hh1 : A1.handled = none := by rw [← hA]; exact rm.hd
 have S1 : Step c.base c.C F ρ h F ρ h' σ := .ext0 R.sto Mk.keeps
 have R1 := R.step S1
 have D : FdOK { c with A := A1 } 108 (kfd P 108) (kbody P 108) := (Y.deep A1).fd hok
 have hrest : rest = [] ∨ ∃ v, rest = [v] := hr.imp (fun h => h.1) fun ⟨v, h, _⟩ => ⟨v, h⟩
 have hX0 : XR F ρ (rest.headD .none) h0 := by
  rcases hr with ⟨rfl, rfl, _⟩ | ⟨v, rfl, rfl, _, X, _⟩
  ·exact .v .none
  ·exact X
 have hroom : A1.depth < recursionLimit := by rw [hdep]; have := rm.depth; exact Nat.le_of_lt ‹_›
 refine wpAny_call (codeAny_call_function hroom (R1.sto.old _ _ hof) hfd D.co D.gen D.body (D.code.keeps R1.sto.old) (init_bind (R1.sto.frag Y) (.ref x) rest hrest _ _ _ _
  (op_frame (c := { c with A := A1 }) (env := env) D (bx := initBx x h0) ?_ (s := ⟨h', g, d, t, os⟩) R1 rfl (.cons (.pr (p := AtP x) rfl) (.cons hX0 .nil)) fun L cells h2 t2 hcl R2 S2 hL hcell => ?_)))
 ·intro n hn
  have : (lc (kfd P 108).scope "self" && lc (kfd P 108).scope "headers") = true := by kernel_rfl
  simp only [Bool.and_eq_true] at this
  unfold initBx at hn
  simp only [List.mem_cons, List.not_mem_nil, or_false] at hn
  rcases hn with rfl | rfl
  ·exact pM this.1
  ·exact pM this.2
 have YA := Y.deep (A1.deeper (defEnv (kfd P 108) 108 L cells))
 -- what the frame holds
 have g1 : vget "self" (vsetX ((initBx x h0).map (·.1)) ((initBx x h0).map (·.2)) []) = some (.pr (AtP x)) := by
  simp only [initBx, List.map_cons, List.map_nil, qH, qI, qD, qE, String.reduceEq, String.reduceBEq, cond_true, cond_false, if_false, if_true, reduceIte]
 have g2 : vget "headers" (vsetX ((initBx x h0).map (·.1)) ((initBx x h0).map (·.2)) []) = some h0 := by
  simp only [initBx, List.map_cons, List.map_nil, qH, qI, qD, qE, String.reduceEq, String.reduceBEq, cond_true, cond_false, if_false, if_true, reduceIte]
 generalize vsetX ((initBx x h0).map (·.1)) ((initBx x h0).map (·.2)) [] = η2 at R2 g1 g2
 generalize hE' : (fun (e : Value) (s' : Shared) => wpAny c.M (A1.deeper (defEnv (kfd P 108) 108 L cells)) (leaving (defEnv (kfd P 108) 108 L cells) e) (fun _ s'' => E e s'') (fun e' s'' => E e' s'') s') = E'
 refine wpAny_execs_cons ((jZ (c := { c with A := A1.deeper (defEnv (kfd P 108) 108 L cells) }) (by kernel_rfl) (eok_ifexp (jW (qB (by kernel_rfl)) eok_none op_isnot jT (by kernel_rfl)) (qB (by kernel_rfl)) (kM rfl jI))) E' _ F ρ η2 σ _
  (fun η3 σ3 => ∃ i, vget "headers" η3 = some (.own i) ∧ vget "self" η3 = some (.pr (AtP x)) ∧ σ3[i]? = some (.list []) ∧ Q (.hdr 214 i) σ3) (fun _ _ => False) R2 ?_ (fun F3 ρ3 η3 σ3 h3 t3 R3 V3 hN3 => ?_) fun _ _ _ _ _ _ _ _ _ _ _ q => q.elim)
 ·rcases hr with ⟨rfl, rfl, hq⟩ | ⟨v, rfl, rfl, hm, X, hq⟩
  ·dsimp only [wCons, wAsg, wIf, wIfE, wBin, wCmp, wPl, wEs]
   simp only [g2, qJ, qF, qU, qO, qX]
   refine ⟨fun q => (by simp at q), fun _ => ⟨by simp, σ.length, ?_, ?_, kO _ _, hq⟩⟩
   ·simp only [qD, if_true, String.reduceBEq, uH, cond_true, cond_false, qF]
   ·simp only [qD, qE, String.reduceEq, String.reduceBEq, cond_true, cond_false, if_false, reduceIte]; exact g1
  ·dsimp only [wCons, wAsg, wIf, wIfE, wBin, wCmp, wPl, wEs]
   simp only [g2, qJ, qF]
   rw [show ∀ Q, oIs true (.own i0) (.v .none) σ Q = Q (.v (.bool true)) σ from fun _ => rfl]
   simp only [qO]
   refine ⟨fun _ => ⟨i0, ?_, ?_, hm, hq⟩, fun q => (by simp at q)⟩
   ·simp only [qD, if_true, String.reduceBEq, uH, cond_true, cond_false, qF]
   ·simp only [qD, qE, String.reduceEq, String.reduceBEq, cond_true, cond_false, if_false, reduceIte]; exact g1
 dsimp only [wCons, wAsg, wIf, wIfE, wBin, wCmp, wPl, wEs]
 refine dEAAA hN3 fun i f1 f2 f3 f4 => ?_
 refine wpAny_execs_cons ((pS (c := { c with A := A1.deeper (defEnv (kfd P 108) 108 L cells) }) (tok_isnotlist YA.G (by kernel_rfl) (YA.none (by kernel_rfl)) (by kernel_rfl) (YA.none (by kernel_rfl)) (by kernel_rfl)) (jK sok_never jP) jP) E' _ F3 ρ3 η3 σ3 _
  (fun η4 σ4 => η4 = η3 ∧ σ4 = σ3) (fun _ _ => False) R3 ⟨i, [], f1, f3, fun q => (by cases q), fun _ => ⟨rfl, rfl⟩⟩ (fun F4 ρ4 η4 σ4 h4 t4 R4 V4 hN4 => ?_) fun _ _ _ _ _ _ _ _ _ _ _ q => q.elim)
 dsimp only [wCons, wAsg, wIf, wIfE, wBin, wCmp, wPl, wEs]
 obtain ⟨rfl, rfl⟩ := hN4
 refine qC fun PP kG => ?_
 have V24 := V3.trans R3 V4 R4.sto.nd
 refine dEAAA (id Mk.inst) fun ox hx hxc hxn hxd => ?_
 have hdx := Mk.dict ox hx
 obtain ⟨hne, hns⟩ : dx ≠ x ∧ h'.Ns1 dx fun _ => none := by
  rcases hxd with ⟨hn0, _⟩ | ⟨d', hd', hne', hns'⟩
  ·rw [hn0] at hdx; cases hdx
  ·obtain rfl := Option.some.inj (hd'.symm.trans hdx); exact ⟨hne', hns'⟩
 refine dEEEAA (id hns) fun od esd epd hdo hdd _ => ?_
 have newF : ∀ b, h.get? b = none → F b = none ∧ ¬ Mut ρ b := fun b hb => by
  refine ⟨?_, fun ⟨p, hp, e⟩ => ?_⟩
  ·cases q : F b with
   | none => rfl
   | some o => have := R.sto.inn _ _ q; rw [hb] at this; cases this
  ·obtain ⟨o, ho⟩ := R.sto.lt p hp
   rw [e, hb] at ho; cases ho
 have noCell : ∀ (y : Str) (b : Addr), cells.lookup y = some b → h'.get? b = none := fun y b hb => by
  rcases hcl y b hb with q | q
  ·exact hcell y b q hb
  ·exfalso
   have hsc := D.sc
   rw [List.all_eq_true] at hsc
   have := hsc _ (mem_of_lookup (show (kfd P 108).scope.names.lookup y = some .free from q))
   simp at this
 have offS : ∀ b, h.get? b = none → (∃ o, h'.get? b = some o) → ¬ SX (defEnv (kfd P 108) 108 L cells) AnyNm ρ b := by
  rintro b hb ⟨o, ho⟩ (q | q | ⟨y, _, _, hc⟩)
  ·exact (newF b hb).2 q
  ·have q' : b = L := q
   have hL' : h'.get? L = none := hL
   rw [q', hL'] at ho; cases ho
  ·rw [noCell y b hc] at ho; cases ho
 have kept4 : ∀ b o, h.get? b = none → h'.get? b = some o → Kept o (h4.get? b) := fun b o hb ho =>
  (S2.evo.keep b o ho (newF b hb).2).trans fun o' e' => by
   refine V24.evo.keep b o' e' (offS b hb ⟨o, ho⟩)
 have none4 : ∀ b o, h.get? b = none → h'.get? b = some o → F4 b = none ∧ ¬ Mut ρ4 b ∧ ∃ o', h4.get? b = some o' := fun b o hb ho => by
  have n2 := S2.evo.none_of (newF b hb).1 ⟨o, ho⟩ (newF b hb).2
  refine dEA ((S2.evo.keep b o ho (newF b hb).2).data) fun o2 e2 _ => ?_
  refine ⟨V24.evo.none_of n2 ⟨o2, e2⟩ (offS b hb ⟨o, ho⟩), V24.mut (newF b hb).2 ⟨o2, e2⟩, ?_⟩
  refine dEA ((kept4 b o hb ho).data) fun o4 e4 _ => ?_
  exact ⟨o4, e4⟩
 have I4 : h4.Inst x 214 fun _ => none := inst_kept Mk.inst (fun o e => kept4 x o Mk.newX e) fun o d' od' e1 e2 e3 => by
  rw [hx] at e1; cases e1
  rw [hdx] at e2; cases e2
  exact kept4 dx od' Mk.newD e3
 refine dAAE (none4 x ox Mk.newX hx) fun nx1 nx2 ox4 hx4 => ?_
 refine dAAE (none4 dx od Mk.newD hdo) fun nd1 nd2 od4 hd4 => ?_
 have XK4 := R4.sto.frag Y
 have hC4 := (cls_at XK4).1
 have hN4 := (cls_at XK4).2
 have hxC : x ≠ 214 := fun e => by
  have h214 := hC
  have nx := Mk.newX
  rw [e] at nx
  have : h.get? 214 = none := nx
  rw [this] at h214; cases h214
 have vn : ∀ y, varNm (defEnv (kfd P 108) 108 L cells) y = true → _ := fun y hy => kQ hy
 refine dAA (vn "headers" (by kernel_rfl)) fun a1 a2 a3 => ?_
 refine dAA (vn "self" (by kernel_rfl)) fun b1 b2 b3 => ?_
 refine kG ?_
 clear kG PP
 refine wpAny_execs_cons (plainObj_wpAny_Assign_Attribute (wpAny_Name (R4.lookup f1 a1 a2 fun v X => ?_) a3))
 cases X with
 | @own _ p hp =>
 refine wpAny_Name (R4.lookup f2 b1 b2 fun v X => ?_) b3
 cases X with
 | @pr xx _ hxx =>
 have hxx' : xx = x := hxx
 subst hxx'
 have hpe := (R4.sto.obj i p _ hp f3).1
 rw [hpe]
 refine store_attr (ns := []) PySem.F.store_object hC4 hN4 (vI XK4 hN4 (by kernel_rfl)) (vI XK4 hN4 (by kernel_rfl)) (by rw [typeLookup_type, builtinLookup_eq_fast]; kernel_rfl) hxC I4 (fun h5 tk5 I5 hk5 hsame5 => ?_) Within.nil (by decide)
 dsimp only [wCons, wAsg, wIf, wIfE, wBin, wCmp, wPl, wEs]
 refine qC fun PP kG => ?_
 refine dEAAAA (hsame5 ox4 hx4) fun ox5 hx5 q1 q2 q3 q4 => ?_
 have kx4 := (kept4 xx ox Mk.newX hx).data
 refine dEAAA kx4 fun ox4' hx4' r1 r2 r3 => ?_
 have e44 : ox4' = ox4 := Option.some.inj (hx4'.symm.trans hx4)
 subst e44
 have hdx4 : ox4'.dict = some dx := r3.trans hdx
 have hdx5 : ox5.dict = some dx := q4 dx hdx4
 have hxe : ox5 = ox4' := by
  obtain ⟨c5, d5, da5, sl5⟩ := ox5
  obtain ⟨c4, d4, da4, sl4⟩ := ox4'
  simp only at q1 q2 q3 hdx4 hdx5
  subst q1 q2 q3 hdx4 hdx5
  rfl
 subst hxe
 have keep5 : ∀ b o, b ≠ dx → h4.get? b = some o → h5.get? b = some o := fun b o hb ho => by
  by_cases hbx : b = xx
  ·subst hbx
   rw [hx4] at ho; cases ho; exact hx5
  ·refine hk5 b o hbx (fun o₀ d' e ed => ?_) ho
   have e1 : o₀ = ox5 := Option.some.inj (e.symm.trans hx4)
   subst e1
   rw [hdx4] at ed; cases ed; exact hb
 have ev5 : Evo (· = dx) F4 h4 F4 h5 := Evo.but R4.sto.inn nd1 keep5
 have notL : ∀ b, (∃ o, h'.get? b = some o) → b ≠ L := fun b ⟨o, ho⟩ q => by
  have hL' : h'.get? L = none := hL
  rw [q, hL'] at ho; cases ho
 have offD : ∀ b, (∃ o, h'.get? b = some o) → ¬ Mut ρ4 b → Off (defEnv (kfd P 108) 108 L cells) ρ4 (· = b) := fun b hb hm =>
  ⟨fun p hp q => hm ⟨p, hp, q⟩, fun q => notL b hb q.symm, fun y a ha q => by
   have q' : a = b := q
   obtain ⟨o, ho⟩ := hb
   rw [← q', noCell y a ha] at ho; cases ho⟩
 have R5 := R4.along ev5 (offD dx ⟨od, hdo⟩ nd2)
 have ef6 := Evo.freeze (a := xx) R5.sto.inn nx1
 have R6 := R5.along ef6 (offD xx ⟨ox, hx⟩ nx2)
 have nd6 : freeze F4 xx h5 dx = none := by unfold freeze; rw [if_neg hne]; exact nd1
 have ef7 := Evo.freeze (a := dx) R6.sto.inn nd6
 have R7 := R6.along ef7 (offD dx ⟨od, hdo⟩ nd2)
 refine dEAAA I5 fun o5 e5 c5 nc5 hd5 => ?_
 have e5' : o5 = ox5 := Option.some.inj (e5.symm.trans hx5)
 subst e5'
 have ns5 : h5.Ns1 dx fun y => if y = Str.ofString "_headers" then some (.ref p.2) else none := by
  rcases hd5 with ⟨hn0, _⟩ | ⟨d', hd', _, hns'⟩
  ·rw [hdx5] at hn0; cases hn0
  ·obtain rfl := Option.some.inj (hd'.symm.trans hdx5); exact hns'
 refine dEEEA (id ns5) fun odd es5 ep5 ho5 _ => ?_
 have hI : HdrI (freeze (freeze F4 xx h5) dx h5) 214 xx p.2 := by
  refine ⟨o5, dx, odd, ?_, c5, nc5, hdx5, hne, ?_, fun hh hk => ns5.at fun o e => hk o ?_⟩
  ·unfold freeze; rw [if_neg (Ne.symm hne), if_pos rfl]; exact hx5
  ·unfold freeze; rw [if_pos rfl]; exact ho5
  ·unfold freeze; rw [if_pos rfl]; exact e
 refine kG ?_
 clear kG PP
 refine wpAny_execs_cons ((pS (c := { c with A := A1.deeper (defEnv (kfd P 108) 108 L cells) }) (kT pJ jT) (jK (sok_for_own0 hh1 hcl (by kernel_rfl)) jP) jP) E' _ _ ρ4 η4 σ4 ⟨h5, g, d, tk5, os⟩
  (fun η8 σ8 => σ8 = σ4) (fun _ _ => False) R7 ?_ (fun F8 ρ8 η8 σ8 h8 t8 R8 V8 hN8 => wpAny_execs_nil ?_) fun _ _ _ _ _ _ _ _ _ _ _ q => q.elim)
 ·dsimp only [wCons, wAsg, wIf, wIfE, wBin, wCmp, wPl, wEs]
  simp only [qO]
  exact ⟨fun _ => ⟨i, f1, f3, by first | trivial | rfl⟩, fun q => (by cases q)⟩
 have hN8' : σ8 = σ4 := hN8
 subst hN8'
 refine ⟨rfl, ?_⟩
 have back2 : ∀ a, h2.get? a = none → h'.get? a = none := S2.gone R1.sto
 have back0 : ∀ a, h'.get? a = none → h.get? a = none := S1.gone R.sto
 have new4 : ∀ a, Mut ρ4 a → Mut ρ a ∨ h2.get? a = none := fun a ⟨pp, hpp, e⟩ => (V24.new pp hpp).imp (fun q => ⟨pp, q, e⟩) fun q => e ▸ q
 have evA : Evo (fun a => SX (defEnv (kfd P 108) 108 L cells) AnyNm ρ a ∨ a = dx ∨ a = xx) F h2 (freeze (freeze F4 xx h5) dx h5) h5 := by
  have e1 : Evo (fun a => SX (defEnv (kfd P 108) 108 L cells) AnyNm ρ a ∨ a = dx ∨ a = xx) F h2 F4 h4 := V24.evo.weaken fun a q => .inl (.inl q)
  have e2 := e1.trans ev5 fun a q => .inl (.inr (.inl q))
  have e3 := e2.trans ef6 fun a q => .inl (.inr (.inr q))
  exact e3.trans ef7 fun a q => .inl (.inr (.inl q))
 have evB := evA.trans V8.evo fun a q => by
  rcases q with q | q | ⟨y, hy, hk, hc⟩
  ·exact (new4 a q).imp (fun q => .inl (.inl q)) id
  ·exact .inl (.inl (.inr (.inl q)))
  ·exact .inl (.inl (.inr (.inr ⟨y, hy, hk, hc⟩)))
 have evC := (S1.evo.trans S2.evo fun a q => .inl q).trans evB fun a q => by
  rcases q with (q | q | ⟨y, _, _, hc⟩) | q | q
  ·exact .inl q
  ·have hL' : h'.get? L = none := hL
   exact .inr (back0 a ((show a = L from q) ▸ hL'))
  ·exact .inr (back0 a (noCell y a hc))
  ·exact .inr (q ▸ Mk.newD)
  ·exact .inr (q ▸ Mk.newX)
 have hp8 : ρ8[i]? = some p := by
  obtain ⟨r, rfl⟩ := V8.pre
  rw [List.getElem?_append_left (List.getElem?_eq_some_iff.mp hp).1]; exact hp
 have gone5 : ∀ a, h5.get? a = none → h.get? a = none := fun a ha => by
  rcases evA.none_back ha with q | (q | q | ⟨y, _, _, hc⟩) | q | q
  ·exact back0 a (back2 a q)
  ·refine dEA q fun pp hpp e => ?_
   obtain ⟨o, ho⟩ := R7.sto.lt pp (V24.pre.subset hpp)
   rw [e, ha] at ho; cases ho
  ·have hL' : h'.get? L = none := hL
   exact back0 a ((show a = L from q) ▸ hL')
  ·exact back0 a (noCell y a hc)
  ·exact q ▸ Mk.newD
  ·exact q ▸ Mk.newX
 refine hK (.ref xx) (.hdr 214 i) F8 ρ8 σ8 h8 t8 (.hdr hp8 (hI.mono V8.evo.le)) ⟨evC, V24.pre.trans V8.pre, fun pp hpp => ?_, R8.sto⟩ f4
 rcases V8.new pp hpp with q | q
 ·rcases V24.new pp q with q | q
  ·exact .inl q
  ·exact .inr (back0 _ (back2 _ q))
 ·exact .inr (gone5 _ q)
end
set_option tactic.hygienic true
section
variable {c : Cx} {env : Env} {P : Params} {mg : Str → Option Value}
theorem clsAt_of {h : Heap} (X : (hd.heap_1 P).In h) : ∃ mN, ClsAt h 214 213 mN := ⟨_, ⟨_, _, _, _, _, _, _, _, _, _, _, _, (cls_at X).1⟩, (cls_at X).2⟩
theorem eok_hdr0 (Y : Yes c P mg) (rm : Room 2 c.A) {f : Str} {p pos : Pos} (hk : env.kindOf f = some .globalImplicit)
  (hm : nsIn (hd.heap_1 P) mainGlobals f = some (some (.ref 214))) (hd : (f == ("__debug__" : Str)) = false) :
  EOK c env (eval (.Call (.Name f p) [] [] pos) env) (fun η σ Q => Q (.hdr 214 σ.length) (σ ++ [.list []])) := by
 intro E K F ρ η σ s Q R hW hK
 obtain ⟨mN, X⟩ := clsAt_of (R.sto.frag Y)
 refine wpAny_Call_NameR (vF Y.G R hk (Y.some hm) hd ?_)
 refine callWith_cls0 X (fun _ _ e => e) ?_
 exact hdr_call Y rm (env := env) (i0 := 0) (s := { s with toks := s.toks }) R (.inl ⟨rfl, rfl, hW⟩) hK
theorem eok_hdr1 (Y : Yes c P mg) (rm : Room 2 c.A) {f : Str} {p pos lp : Pos} (hk : env.kindOf f = some .globalImplicit)
  (hm : nsIn (hd.heap_1 P) mainGlobals f = some (some (.ref 214))) (hd : (f == ("__debug__" : Str)) = false) :
  EOK c env (eval (.Call (.Name f p) [.List [] lp] [] pos) env) (fun η σ Q => Q (.hdr 214 σ.length) (σ ++ [.list []])) := by
 intro E K F ρ η σ s Q R hW hK
 obtain ⟨mN, X⟩ := clsAt_of Y.K
 refine wpAny_Call_NameR (vF Y.G R hk (Y.some hm) hd ?_)
 refine callWith_cls X ?_
 refine (qG (c := c) (env := env) (kM (pos := lp) rfl jI) jI) E _ F ρ η σ s (fun xs σ1 => xs = [.own σ.length] ∧ σ1 = σ ++ [.list []]) R ?_ fun vs xs F1 ρ1 σ1 hp1 t1 X1 S1 hW1 => ?_
 ·dsimp only
  exact ⟨[], rfl, Nat.zero_le _, rfl, rfl⟩
 obtain ⟨rfl, rfl⟩ := hW1
 refine ⟨S1.sto.old, ?_⟩
 cases X1 with
 | cons X1 X2 =>
  cases X2
  rename_i v
  exact hdr_call Y rm (env := env) (i0 := σ.length) (rest := [v]) (s := { s with heap := hp1, toks := t1 }) (R.step S1) (.inr ⟨v, rfl, rfl, kO _ _, X1, hW⟩) (fun v2 x F2 ρ2 σ2 h2 t2 X2 S2 hQ => hK v2 x F2 ρ2 σ2 h2 t2 X2 (S1.trans S2) hQ)
end
set_option tactic.hygienic false
theorem Rel.better {base : Heap} {C : Addr} {env : Env} {F : Fz} {ρ : Pl} {h : Heap} {η : Vars} {σ : Sto} (R : Rel base C env F ρ h η σ) {x : String} {a b : XV} (hx : vget x η = some a) (hb : ∀ v, XR F ρ v a → XR F ρ v b) : Rel base C env F ρ h (vset x b η) σ where
 sto := R.sto
 kind := R.kind
 glob := R.glob
 blt := R.blt
 ns := by
  obtain ⟨m, hm, H⟩ := R.ns
  refine ⟨m, hm, fun y xv hk hy => ?_⟩
  rcases kH hy with ⟨rfl, rfl⟩ | ⟨_, hy⟩
  ·obtain ⟨v, h1, h2⟩ := H _ _ hk hx
   exact ⟨v, h1, hb _ h2⟩
  ·exact H _ _ hk hy
 nsF := R.nsF
 cellAll := R.cellAll
 cells := fun y a' hc hl => by
  obtain ⟨v, h1, h2, h3⟩ := R.cells y a' hc hl
  refine ⟨v, h1, h2, fun z xv ez hy => ?_⟩
  rcases kH hy with ⟨rfl, rfl⟩ | ⟨_, hy⟩
  ·obtain ⟨v', h1, h2⟩ := h3 _ _ ez hx
   exact ⟨v', h1, hb _ h2⟩
  ·exact h3 z _ ez hy
 inj := R.inj
section
variable {c : Cx} {env : Env}
theorem sok_frz (x : String) {t : Sem Flow} {W : SW} (h : SOK c env t W) : SOK c env t (fun η σ N Rt => ∃ i xs, vget x η = some (.own i) ∧ σ[i]? = some (.list xs) ∧ W (vset x (.v (.list xs)) η) (σ.set i .dead) N Rt) := by
 intro E K F ρ η σ s N Rt R hW hN hR
 refine qC fun P kG => ?_
 obtain ⟨i, xs, hx, hm, hW⟩ := hW
 have hi : i < ρ.length := R.sto.len ▸ (List.getElem?_eq_some_iff.mp hm).1
 obtain ⟨F1, V1, S1⟩ := Step.frozen R.sto (List.getElem?_eq_getElem hi) hm
 refine kG ?_
 clear kG P
 have R1 := (R.step S1).better hx (b := .v (.list xs)) fun v X => by
  cases X with
  | @own _ p hp =>
   rw [List.getElem?_eq_getElem hi] at hp; cases hp
   exact .v V1
 exact h E K F1 ρ _ _ s N Rt R1 hW (fun F2 ρ2 η2 σ2 h2 t2 R2 x2 => hN F2 ρ2 η2 σ2 h2 t2 R2 (SEvo.trans (R.step S1) S1.sevo x2 R2.sto.nd))
  fun v y F2 ρ2 η2 σ2 h2 t2 R2 x2 => hR v y F2 ρ2 η2 σ2 h2 t2 R2 (SEvo.trans (R.step S1) S1.sevo x2 R2.sto.nd)
theorem sok_frzH (x : String) {t : Sem Flow} {W : SW} (h : SOK c env t W) : SOK c env t (fun η σ N Rt => ∃ i xs, vget x η = some (.hdr 214 i) ∧ σ[i]? = some (.list xs) ∧ W (vset x (.pr (FHdr xs)) η) (σ.set i .dead) N Rt) := by
 intro E K F ρ η σ s N Rt R hW hN hR
 refine qC fun P kG => ?_
 obtain ⟨i, xs, hx, hm, hW⟩ := hW
 have hi : i < ρ.length := R.sto.len ▸ (List.getElem?_eq_some_iff.mp hm).1
 obtain ⟨F1, V1, S1⟩ := Step.frozen R.sto (List.getElem?_eq_getElem hi) hm
 refine kG ?_
 clear kG P
 have R1 := (R.step S1).better hx (b := .pr (FHdr xs)) fun v X => by
  cases X with
  | @hdr xa _ _ p hp hI =>
   rw [List.getElem?_eq_getElem hi] at hp; cases hp
   have := (R.sto.obj i _ _ (List.getElem?_eq_getElem hi) hm).1
   exact .pr ⟨_, hI, this ▸ V1⟩
 exact h E K F1 ρ _ _ s N Rt R1 hW (fun F2 ρ2 η2 σ2 h2 t2 R2 x2 => hN F2 ρ2 η2 σ2 h2 t2 R2 (SEvo.trans (R.step S1) S1.sevo x2 R2.sto.nd))
  fun v y F2 ρ2 η2 σ2 h2 t2 R2 x2 => hR v y F2 ρ2 η2 σ2 h2 t2 R2 (SEvo.trans (R.step S1) S1.sevo x2 R2.sto.nd)
end
end Mine
namespace Mine
open PySem PySem.Calls PySem.W PyProof.Rows PySem.AutoSeq1
theorem extend_any (l : Addr) (items : Array Value) (n : Nat) (b : Addr) (items2 : Array Value) (n2 : Nat) (dd : Option Addr) (sl : Array (Option Value)) (hc0 : ¬(!items.isEmpty && Builtin.List.listTooLong (items.size + items2.size)) = true) (hc1 : items.size ≤ sizeLine) (hs2 : items.size + items2.size ≤ sizeLine + 1) :
  Meets (Builtin.«list.extend» ⟨[.ref l, .ref b], []⟩) (fun _ R s => s.heap.get? l = some { cls := .type "list", dict := none, data := .seq items n, slots := #[] } ∧ s.heap.get? b = some { cls := .type "list", dict := dd, data := .seq items2 n2, slots := sl } ∧ R (.ok (.ret Value.none)) { s with heap := s.heap.update l (Obj.mapSeq fun x => x ++ items2), toks := s.toks }) :=
 .of_wp fun prog w A R s h => by
  obtain ⟨hp, g, d, tk, os⟩ := s
  obtain ⟨hl, hb, h⟩ := h
  have f1 := idx_int; have f2 := PySem.AutoSeq1.sub_tuple_tuple; have f3 := PySem.AutoSeq1.sub_list_list; have f4 := PySem.AutoSeq1.sub_tuple_list; have f5 := PySem.AutoSeq1.sub_list_tuple
  have hz' : (items ++ items2).size ≤ sizeLine + 1 := by rw [Array.size_append]; exact hs2
  wp_walk using (wpAny_updateSeq hl rfl (hz := hc1) (_hz' := hz')), wpAny_loadPart' hl, wpAny_loadPart' hb
  exact ⟨_, rfl, h⟩
section
variable {c : Cx}
noncomputable def oExtendV (i : Nat) (xs : List PyData) (y : XV) (σ : Sto) (Q : XV → Sto → Prop) : Prop := ∃ ys, y = .v (.list ys) ∧ xs.length + ys.length ≤ sizeLine ∧ Q (.v .none) (σ.set i (.list (xs ++ ys)))
theorem op_extendV : Op2m c (fun l x => call (.builtin "list.extend") [l, x]) oExtendV := by
 intro E K F ρ σ s i p xs u y Q S hp hm X hQ hK
 refine qC fun P kG => ?_
 obtain ⟨ys, rfl, hsz, hQ⟩ := hQ
 obtain ⟨hpe, vs, l, hv⟩ := S.obj i p _ hp hm
 obtain ⟨n, ho⟩ := l.plain
 refine kG ?_
 clear kG P
 cases X with
 | v X =>
  cases X with
  | @list a o ws n2 _ ho2 hc2 hd2 hw =>
   have ho2 := S.inn _ _ ho2
   refine qC fun P kG => ?_
   obtain ⟨cc, dd, da, sl⟩ := o
   refine kG ?_
   clear kG P
   dsimp only at hc2 hd2
   subst hc2 hd2
   have hsz' : vs.toArray.size + ws.size ≤ sizeLine := by rw [List.size_toArray, hv.length, ← Array.length_toList, hw.length]; exact hsz
   refine call_meets PySem.F.slot_list_extend ⟨_, ho, rfl⟩ PySem.F.entry_list_extend (PySem.F.args_list_extend_2 _ _) (extend_any p.2 vs.toArray n a ws n2 dd sl (extend_door hsz') (by exact Nat.le_trans (Nat.le_trans (Nat.le_add_right _ _) ‹_›) (by decide)) (by exact Nat.le_trans ‹_› (Nat.le_add_right _ _))) ⟨ho, ho2, ?_⟩
   have ho' : (s.heap.update p.2 (Obj.mapSeq fun x => x ++ ws)).get? p.2 = some { cls := .type "list", data := .seq (vs ++ ws.toList).toArray (if (vs.toArray ++ ws).size == vs.toArray.size then n else n + 1) } := by
    rw [Heap.get?_update_self _ ho (by rw [mapSeq_app]; rfl), mapSeq_app]; congr 2; simp
   exact hK _ _ F ρ _ _ s.toks (.v .none) (Step.mutate S hp hm rfl (Heap.SameBut.update ..).2 (m' := .list (xs ++ ys)) ⟨hpe, vs ++ ws.toList, .of ho', hv.append hw⟩ rfl) hQ
end
end Mine
namespace Mine
open PySem PySem.Calls PySem.W PyProof.Rows
noncomputable def selfBind : Binder := fun xs kx => u1 (fun a => u0 (u0 (some [("self", a)]) kx)) xs
noncomputable def nameBind : Binder := fun xs kx => u1 (fun a => u1 fun n => u0 (u0 (some [("self", a), ("name", n)]) kx)) xs
theorem self_bind {c : Cx} {fd : FuncData} (h : ∀ v, bindArgs fd ⟨[v], []⟩ = pure [(("self" : Str), v)]) : BindOK c fd selfBind := by
 intro F ρ s σ vs xs kv kx bx S0 X hk XK e
 refine X.b1 (show u1 _ xs = some bx from e) fun v0 _ _ _ X1 X e => X.b0 e fun e => ?_
 rw [(kb0 hk e).1]
 exact Option.some.inj (kb0 hk e).2 ▸ ⟨[("self", v0)], F, s.heap, s.toks, .refl S0, fun M A E Q hq => wpAny_is (h v0) hq, rfl, .cons X1 .nil⟩
theorem name_bind {c : Cx} {fd : FuncData} (h : ∀ v u, bindArgs fd ⟨[v, u], []⟩ = pure [(("self" : Str), v), (("name" : Str), u)]) : BindOK c fd nameBind := by
 intro F ρ s σ vs xs kv kx bx S0 X hk XK e
 refine X.b1 (show u1 _ xs = some bx from e) fun v0 _ _ _ X1 X e => X.b1 e fun v1 _ _ _ X2 X e => X.b0 e fun e => ?_
 rw [(kb0 hk e).1]
 exact Option.some.inj (kb0 hk e).2 ▸ ⟨[("self", v0), ("name", v1)], F, s.heap, s.toks, .refl S0, fun M A E Q hq => wpAny_is (h v0 v1) hq, rfl, .cons X1 (.cons X2 .nil)⟩
theorem self_nm {sc : Scope} (h : lc sc "self" = true) (xs : List XV) (kx bx : List (String × XV)) (e : selfBind xs kx = some bx) : (bx.all fun n => lc sc n.1) = true :=
 u1_e e fun _ _ e => Option.some.inj (u0_e (u0_e e)) ▸ (Bool.and_true _).trans h
theorem name_nm {sc : Scope} (h : lc sc "self" = true) (h2 : lc sc "name" = true) (xs : List XV) (kx bx : List (String × XV)) (e : nameBind xs kx = some bx) : (bx.all fun n => lc sc n.1) = true :=
 u1_e e fun _ _ e => u1_e e fun _ _ e => Option.some.inj (u0_e (u0_e e)) ▸ Bool.and_eq_true_iff.mpr ⟨h, (Bool.and_true _).trans h2⟩
theorem bsrNm {P : Params} (xs : List XV) (bx : List (String × XV)) (e : bsrBind xs = some bx) : (bx.all fun n => lc (kfd P 54).scope n.1) = true :=
 u1_e e fun _ _ e => u1_e e fun _ _ e => Option.some.inj (u0_e e) ▸ (by kernel_rfl)
theorem len3 {α : Type} {l : List α} (h : l.length = 3) : ∃ a b c, l = [a, b, c] := by
 cases l with
 | nil => exact nomatch h
 | cons a l => cases l with
  | nil => exact nomatch h
  | cons b l => cases l with
   | nil => exact nomatch h
   | cons d l => exact ⟨a, b, d, congrArg (fun l => a :: b :: d :: l) (List.eq_nil_of_length_eq_zero (Nat.succ.inj (Nat.succ.inj (Nat.succ.inj h))))⟩
structure SS (c : Cx) (env : Env) (t : Sem Flow) (W : SW) : Prop where
 h : SOK c env t W
section
variable {c : Cx} {env : Env}
theorem pG : SS c env (execs [] env) (fun η σ N _ => N η σ) := ⟨jP⟩
theorem jX {st : Stmt} {rest : List Stmt} {W1 W2 : SW} (h1 : SS c env (exec st env) W1) (h2 : SS c env (execs rest env) W2) :
  SS c env (execs (st :: rest) env) (wCons W1 W2) := ⟨jK h1.h h2.h⟩
theorem pE {t : Sem Flow} {W : SW} (h : SOK c env t W) : SS c env t W := ⟨h⟩
theorem ss_tail {l l' : List Stmt} {W : SW} (h : SS c env (execs l env) W) (e : l' = l) : SS c env (execs l' env) W := e ▸ h
theorem pF {t : Sem Flow} {W W' : SW} (h : SS c env t W) (hw : ∀ η σ N Rt, W' η σ N Rt → W η σ N Rt) : SS c env t W' := ⟨h.h.weak hw⟩
theorem ss_frz (x : String) {t : Sem Flow} {W : SW} (h : SS c env t W) : SS c env t (fun η σ N Rt => ∃ i xs, vget x η = some (.own i) ∧ σ[i]? = some (.list xs) ∧ W (vset x (.v (.list xs)) η) (σ.set i .dead) N Rt) := ⟨sok_frz x h.h⟩
theorem ss_frzH (x : String) {t : Sem Flow} {W : SW} (h : SS c env t W) : SS c env t (fun η σ N Rt => ∃ i xs, vget x η = some (.hdr 214 i) ∧ σ[i]? = some (.list xs) ∧ W (vset x (.pr (FHdr xs)) η) (σ.set i .dead) N Rt) := ⟨sok_frzH x h.h⟩
theorem ss_if {test : Expr} {body orelse : List Stmt} {pos : Pos} {WT : BW} {W1 W2 : SW} (ht : TOK c env (isTrue test env (eval test env)) WT) (h1 : SS c env (execs body env) W1) (h2 : SS c env (execs orelse env) W2) :
  SS c env (exec (.If test body orelse pos) env) (wIf WT W1 W2) := ⟨pS ht h1.h h2.h⟩
theorem ss_for {target iter : Expr} {body : List Stmt} {pos : Pos} {WI : EW} {T : TW} {WB : SW} (hh : c.A.handled = none) (hcl : CellsOk env) (hg : goes target) (hi : EOK c env (eval iter env) WI) (hA : AOK c env AnyNm target T) (hb : SS c env (execs body env) WB)
  (hs : ∀ x, foldedSetIterable iter env x = pure x := by intro _; rfl) : SS c env (exec (.For target iter body [] pos) env) (fun η σ N Rt => WI η σ fun x σ1 => ∃ xs, iterOf x = some xs ∧ ∃ (Inv : List PyData → Vars → Sto → Prop), Inv xs η σ1 ∧
   (∀ d ds η1 σ1, Inv (d :: ds) η1 σ1 → T (.v d) η1 fun η2 => WB η2 σ1 (fun η3 σ3 => ∃ η4, VLe η4 η3 ∧ Inv ds η4 σ3) Rt) ∧ (∀ η1 σ1, Inv [] η1 σ1 → N η1 σ1)) := ⟨sok_for hh hcl hg hi hA hb.h hs⟩
end
section
variable {c : Cx} {env : Env} {P : Params} {mg : Str → Option Value}
theorem l_len (Y : Yes c P mg) {p pos : Pos} {args : List Expr} {t : Sem Value} {ts : List (Bool × Sem Value)} {W : LW} (hk : env.kindOf "len" = some .globalImplicit) (ht : backTo pos (starEach args env) = (false, t) :: ts) (hp : ts.any (·.1) = false) (hs : EsOK c env ((false, t) :: ts) W) :
  EOK c env (eval (.Call (.Name "len" p) args [] pos) env) (fun η σ Q => W η σ fun xs σ1 => oLen xs σ1 Q) := pR Y.G hk (Y.none (by kernel_rfl)) pZ (by decide) (by decide) ht hp hs kA
theorem l_sum (Y : Yes c P mg) (hh : c.A.handled = none) {p pos : Pos} {args : List Expr} {t : Sem Value} {ts : List (Bool × Sem Value)} {W : LW} (hk : env.kindOf "sum" = some .globalImplicit) (ht : backTo pos (starEach args env) = (false, t) :: ts) (hp : ts.any (·.1) = false) (hs : EsOK c env ((false, t) :: ts) W) :
  EOK c env (eval (.Call (.Name "sum" p) args [] pos) env) (fun η σ Q => W η σ fun xs σ1 => oSum xs σ1 Q) := pR Y.G hk (Y.none (by kernel_rfl)) boot_sum (by decide) (by decide) ht hp hs (op_sum hh)
theorem l_chr (Y : Yes c P mg) {p pos : Pos} {args : List Expr} {t : Sem Value} {ts : List (Bool × Sem Value)} {W : LW} (hk : env.kindOf "chr" = some .globalImplicit) (ht : backTo pos (starEach args env) = (false, t) :: ts) (hp : ts.any (·.1) = false) (hs : EsOK c env ((false, t) :: ts) W) :
  EOK c env (eval (.Call (.Name "chr" p) args [] pos) env) (fun η σ Q => W η σ fun xs σ1 => oChr xs σ1 Q) := pR Y.G hk (Y.none (by kernel_rfl)) boot_chr (by decide) (by decide) ht hp hs op_chr
theorem l_ord (Y : Yes c P mg) {p pos : Pos} {args : List Expr} {t : Sem Value} {ts : List (Bool × Sem Value)} {W : LW} (hk : env.kindOf "ord" = some .globalImplicit) (ht : backTo pos (starEach args env) = (false, t) :: ts) (hp : ts.any (·.1) = false) (hs : EsOK c env ((false, t) :: ts) W) :
  EOK c env (eval (.Call (.Name "ord" p) args [] pos) env) (fun η σ Q => W η σ fun xs σ1 => oOrd xs σ1 Q) := pR Y.G hk (Y.none (by kernel_rfl)) boot_ord (by decide) (by decide) ht hp hs op_ord
theorem l_range (Y : Yes c P mg) {p pos : Pos} {args : List Expr} {t : Sem Value} {ts : List (Bool × Sem Value)} {W : LW} (hk : env.kindOf "range" = some .globalImplicit) (ht : backTo pos (starEach args env) = (false, t) :: ts) (hp : ts.any (·.1) = false) (hs : EsOK c env ((false, t) :: ts) W) :
  EOK c env (eval (.Call (.Name "range" p) args [] pos) env) (fun η σ Q => W η σ fun xs σ1 => oRange xs σ1 Q) := kX Y.G hk (Y.none (by kernel_rfl)) vJ (by decide) (by decide) ht hp hs op_range
theorem l_upper {o : Expr} {apos pos : Pos} {args : List Expr} {ts : List (Bool × Sem Value)} {W : EW} {Ws : LW} (h1 : EOK c env (eval o env) W) (ht : backTo pos (starEach args env) = ts) (hs : EsOK c env ts Ws) (hp : ts.any (·.1) = false) {pl : Sem Bool}
  (he : eval (.Call (.Attribute o "upper" apos) args [] pos) env = (do
   let ov ← eval o env
   standAt apos.atName
   let (f, first) ← holding [ov] (getMethod ov "upper" pl)
   callWith pos f first (backTo pos (starEach args env)) [])) :
  EOK c env (eval (.Call (.Attribute o "upper" apos) args [] pos) env) (fun η σ Q => W η σ fun x σ1 => ∃ a, x = .v (.str a) ∧ Ws η σ1 fun xs σ2 => oStr1 (fun a => .str (Txt.upper a)) (fun a => (Txt.upper a).length ≤ sizeLine) (x :: xs) σ2 Q) := kN GM.upper ht h1 hs op_upper hp he
theorem l_swapcase {o : Expr} {apos pos : Pos} {args : List Expr} {ts : List (Bool × Sem Value)} {W : EW} {Ws : LW} (h1 : EOK c env (eval o env) W) (ht : backTo pos (starEach args env) = ts) (hs : EsOK c env ts Ws) (hp : ts.any (·.1) = false) {pl : Sem Bool}
  (he : eval (.Call (.Attribute o "swapcase" apos) args [] pos) env = (do
   let ov ← eval o env
   standAt apos.atName
   let (f, first) ← holding [ov] (getMethod ov "swapcase" pl)
   callWith pos f first (backTo pos (starEach args env)) [])) :
  EOK c env (eval (.Call (.Attribute o "swapcase" apos) args [] pos) env) (fun η σ Q => W η σ fun x σ1 => ∃ a, x = .v (.str a) ∧ Ws η σ1 fun xs σ2 => oStr1 (fun a => .str (Txt.swapcase a)) (fun a => (Txt.swapcase a).length ≤ sizeLine) (x :: xs) σ2 Q) := kN GM.swapcase ht h1 hs op_swapcase hp he
theorem l_find {o : Expr} {apos pos : Pos} {args : List Expr} {ts : List (Bool × Sem Value)} {W : EW} {Ws : LW} (h1 : EOK c env (eval o env) W) (ht : backTo pos (starEach args env) = ts) (hs : EsOK c env ts Ws) (hp : ts.any (·.1) = false) {pl : Sem Bool}
  (he : eval (.Call (.Attribute o "find" apos) args [] pos) env = (do
   let ov ← eval o env
   standAt apos.atName
   let (f, first) ← holding [ov] (getMethod ov "find" pl)
   callWith pos f first (backTo pos (starEach args env)) [])) :
  EOK c env (eval (.Call (.Attribute o "find" apos) args [] pos) env) (fun η σ Q => W η σ fun x σ1 => ∃ a, x = .v (.str a) ∧ Ws η σ1 fun xs σ2 => oFind (x :: xs) σ2 Q) := kN GM.find ht h1 hs op_find hp he
theorem l_join {o : Expr} {apos pos : Pos} {args : List Expr} {ts : List (Bool × Sem Value)} {W : EW} {Ws : LW} (h1 : EOK c env (eval o env) W) (ht : backTo pos (starEach args env) = ts) (hs : EsOK c env ts Ws) (hp : ts.any (·.1) = false) {pl : Sem Bool}
  (he : eval (.Call (.Attribute o "join" apos) args [] pos) env = (do
   let ov ← eval o env
   standAt apos.atName
   let (f, first) ← holding [ov] (getMethod ov "join" pl)
   callWith pos f first (backTo pos (starEach args env)) [])) :
  EOK c env (eval (.Call (.Attribute o "join" apos) args [] pos) env) (fun η σ Q => W η σ fun x σ1 => ∃ a, x = .v (.str a) ∧ Ws η σ1 fun xs σ2 => oJoin (x :: xs) σ2 Q) := kN GM.join ht h1 hs op_join hp he
theorem l_oct (Y : Yes c P mg) (rm : Room 4 c.A) {p pos : Pos} {args : List Expr} {t : Sem Value} {ts : List (Bool × Sem Value)} {W : LW} (hk : env.kindOf "_law_octets" = some .globalImplicit) (ht : backTo pos (starEach args env) = (false, t) :: ts) (hs : EsOK c env ((false, t) :: ts) W) :
  EOK c env (eval (.Call (.Name "_law_octets" p) args [] pos) env) (fun η σ Q => W η σ fun xs σ1 => xs.length = 1 ∧ octW (vsetX ["number"] xs []) σ1 (fun _ σ' => RetP σ1 (.v .none) σ' Q) (fun x σ' => RetP σ1 x σ' Q)) := (eok_fn Y rm.dep hk (by kernel_rfl) (by kernel_rfl) (by decide) ht hs ["number"] (fun vs hv => by obtain ⟨a, rfl⟩ := len1 hv; kernel_rfl) (by kernel_rfl) (fun L cells hcl => oct_walk (Y.deep _) ((rm.less (e := 1) (by decide)).deeper _) L cells hcl))
theorem l_ell (Y : Yes c P mg) (rm : Room 4 c.A) {p pos : Pos} {args : List Expr} {t : Sem Value} {ts : List (Bool × Sem Value)} {W : LW} (hk : env.kindOf "_ellipsis_match" = some .globalImplicit) (ht : backTo pos (starEach args env) = (false, t) :: ts) (hs : EsOK c env ((false, t) :: ts) W) :
  EOK c env (eval (.Call (.Name "_ellipsis_match" p) args [] pos) env) (fun η σ Q => W η σ fun xs σ1 => xs.length = 2 ∧ ellW (vsetX ["want", "got"] xs []) σ1 (fun _ σ' => RetP σ1 (.v .none) σ' Q) (fun x σ' => RetP σ1 x σ' Q)) := (eok_fn Y rm.dep hk (by kernel_rfl) (by kernel_rfl) (by decide) ht hs ["want", "got"] (fun vs hv => by obtain ⟨a, b, rfl⟩ := len2 hv; kernel_rfl) (by kernel_rfl) (fun L cells hcl => ell_walk (Y.deep _) ((rm.less (e := 1) (by decide)).deeper _) L cells hcl))
theorem l_few (Y : Yes c P mg) (rm : Room 4 c.A) {p pos : Pos} {args : List Expr} {t : Sem Value} {ts : List (Bool × Sem Value)} {W : LW} (hk : env.kindOf "_law_fewest" = some .globalImplicit) (ht : backTo pos (starEach args env) = (false, t) :: ts) (hs : EsOK c env ((false, t) :: ts) W) :
  EOK c env (eval (.Call (.Name "_law_fewest" p) args [] pos) env) (fun η σ Q => W η σ fun xs σ1 => xs.length = 1 ∧ fewW (vsetX ["text"] xs []) σ1 (fun _ σ' => RetP σ1 (.v .none) σ' Q) (fun x σ' => RetP σ1 x σ' Q)) := (eok_fn Y rm.dep hk (by kernel_rfl) (by kernel_rfl) (by decide) ht hs ["text"] (fun vs hv => by obtain ⟨a, rfl⟩ := len1 hv; kernel_rfl) (by kernel_rfl) (fun L cells hcl => few_walk (Y.deep _) ((rm.less (e := 1) (by decide)).deeper _) L cells hcl))
theorem l_spel (Y : Yes c P mg) (rm : Room 4 c.A) {p pos : Pos} {args : List Expr} {t : Sem Value} {ts : List (Bool × Sem Value)} {W : LW} (hk : env.kindOf "_law_spelled" = some .globalImplicit) (ht : backTo pos (starEach args env) = (false, t) :: ts) (hs : EsOK c env ((false, t) :: ts) W) :
  EOK c env (eval (.Call (.Name "_law_spelled" p) args [] pos) env) (fun η σ Q => W η σ fun xs σ1 => xs.length = 2 ∧ spelW (vsetX ["numbers", "unit"] xs []) σ1 (fun _ σ' => RetP σ1 (.v .none) σ' Q) (fun x σ' => RetP σ1 x σ' Q)) := (eok_fn Y rm.dep hk (by kernel_rfl) (by kernel_rfl) (by decide) ht hs ["numbers", "unit"] (fun vs hv => by obtain ⟨a, b, rfl⟩ := len2 hv; kernel_rfl) (by kernel_rfl) (fun L cells hcl => spel_walk (Y.deep _) ((rm.less (e := 1) (by decide)).deeper _) L cells hcl))
theorem l_cut (Y : Yes c P mg) (C0 : CodeHd c.base 243 239) (hbt : c.base.BuiltinsAt mg 239) (hgP : mainGlobals ≠ 239) (rm : Room 4 c.A) {p pos : Pos} {args : List Expr} {t : Sem Value} {ts : List (Bool × Sem Value)} {W : LW} (hk : env.kindOf "_law_cut" = some .globalImplicit) (ht : backTo pos (starEach args env) = (false, t) :: ts) (hs : EsOK c env ((false, t) :: ts) W) :
  EOK c env (eval (.Call (.Name "_law_cut" p) args [] pos) env) (fun η σ Q => W η σ fun xs σ1 => xs.length = 1 ∧ cutW (vsetX ["text"] xs []) σ1 (fun _ σ' => RetP σ1 (.v .none) σ' Q) (fun x σ' => RetP σ1 x σ' Q)) := (eok_fn Y rm.dep hk (by kernel_rfl) (by kernel_rfl) (by decide) ht hs ["text"] (fun vs hv => by obtain ⟨a, rfl⟩ := len1 hv; kernel_rfl) (by kernel_rfl) (fun L cells hcl => cut_walk (c := { c with A := c.A.deeper (defEnv (kfd P 244) 244 L cells) }) (Y.deep _) C0 hbt hgP (Room.deeper rm _) L cells hcl))
theorem l_read (Y : Yes c P mg) (rm : Room 4 c.A) (hfr : c.A.frames = some [env]) (hown : env.frame = some env.locals) {p pos : Pos} {args : List Expr} {t : Sem Value} {ts : List (Bool × Sem Value)} {W : LW} (hk : env.kindOf "_law_read" = some .globalImplicit) (ht : backTo pos (starEach args env) = (false, t) :: ts) (hs : EsOK c env ((false, t) :: ts) W) :
  EOK c env (eval (.Call (.Name "_law_read" p) args [] pos) env) (fun η σ Q => W η σ fun xs σ1 => xs.length = 1 ∧ readW (vsetX ["octets"] xs []) σ1 (fun _ σ' => RetP σ1 (.v .none) σ' Q) (fun x σ' => RetP σ1 x σ' Q) (XP σ1 fun _ _ _ => False)) := (eok_of_x (xeok_fn Y rm.dep hk (by kernel_rfl) (by kernel_rfl) (by decide) ht hs ["octets"] (fun vs hv => by obtain ⟨a, rfl⟩ := len1 hv; kernel_rfl) (by kernel_rfl) (fun L cells hcl => read_walk (Y.deep _) ((rm.less (e := 2) (by decide)).deeper _) L cells hcl)) hfr hown)
theorem l_laid (Y : Yes c P mg) (rm : Room 4 c.A) (hfr : c.A.frames = some [env]) (hown : env.frame = some env.locals) {p pos : Pos} {args : List Expr} {t : Sem Value} {ts : List (Bool × Sem Value)} {W : LW} (hk : env.kindOf "_law_laid" = some .globalImplicit) (ht : backTo pos (starEach args env) = (false, t) :: ts) (hs : EsOK c env ((false, t) :: ts) W) :
  EOK c env (eval (.Call (.Name "_law_laid" p) args [] pos) env) (fun η σ Q => W η σ fun xs σ1 => xs.length = 3 ∧ laidW (vsetX ["table", "name", "value"] xs []) σ1 (fun _ σ' => RetP σ1 (.v .none) σ' Q) (fun x σ' => RetP σ1 x σ' Q) (XP σ1 fun _ _ _ => False)) := (eok_of_x (xeok_fn Y rm.dep hk (by kernel_rfl) (by kernel_rfl) (by decide) ht hs ["table", "name", "value"] (fun vs hv => by obtain ⟨a, b, d, rfl⟩ := len3 hv; kernel_rfl) (by kernel_rfl) (fun L cells hcl => laid_walk (Y.deep _) ((rm.less (e := 3) (by decide)).deeper _) L cells hcl)) hfr hown)
theorem l_bsr (Y : Yes c P mg) (rm : Room 4 c.A) {p pos : Pos} {args : List Expr} {t : Sem Value} {ts : List (Bool × Sem Value)} {W : LW} (hk : env.kindOf "bisect_right" = some .globalImplicit) (ht : backTo pos (starEach args env) = (false, t) :: ts) (hs : EsOK c env ((false, t) :: ts) W) :
  EOK c env (eval (.Call (.Name "bisect_right" p) args [] pos) env) (fun η σ Q => W η σ fun xs σ1 => ∃ bx, bsrBind xs = some bx ∧ bsrW (vsetX (bx.map (·.1)) (bx.map (·.2)) []) σ1 (fun _ σ' => RetP σ1 (.v .none) σ' Q) (fun x σ' => RetP σ1 x σ' Q)) :=
 eok_fnB Y rm.dep hk (by kernel_rfl) (by kernel_rfl) (by decide) ht hs bsrBind (bsr_bind Y) bsrNm (fun L cells hcl => bsr_walk (Y.deep _) ((rm.less (e := 1) (by decide)).deeper _) L cells hcl)
theorem l_values (Y : Yes c P mg) (rm : Room 4 c.A) {o : Expr} {apos pos : Pos} {args : List Expr} {pl : Sem Bool} {Wo : EW} {Wa : AW} (ho : EOK c env (eval o env) Wo) (ha : ArgsOK c env (backTo pos (starEach args env)) (backToKw pos (keywordEach [] env)) Wa)
  (he : eval (.Call (.Attribute o "values" apos) args [] pos) env = (do
   let ov ← eval o env
   standAt apos.atName
   let (f, first) ← holding [ov] (getMethod ov "values" pl)
   callWith pos f first (backTo pos (starEach args env)) (backToKw pos (keywordEach [] env)))) :
  EOK c env (eval (.Call (.Attribute o "values" apos) args [] pos) env) (fun η σ Q => Wo η σ fun x0 σ1 => InstV x0 ∧ Wa η σ1 fun xs kx σ2 => ∃ bx, selfBind (x0 :: xs) kx = some bx ∧ (rowsW fun p => .str p.2) (vsetX (bx.map (·.1)) (bx.map (·.2)) []) σ2 (fun _ σ' => RetP σ2 (.v .none) σ' Q) (fun x σ' => RetP σ2 x σ' Q)) :=
 eok_meth (name := Str.ofString "values") Y rm.dep (by kernel_rfl) (by kernel_rfl) (by kernel_rfl) ⟨none, by rw [typeLookup_type, builtinLookup_eq_fast]; kernel_rfl⟩ (by decide) ho ha selfBind (self_bind (fun _ => by kernel_rfl)) (self_nm (by kernel_rfl)) (fun L cells hcl => values_walk (Y.deep _) ((rm.less (e := 1) (by decide)).deeper _) L cells hcl) he
theorem l_keys (Y : Yes c P mg) (rm : Room 4 c.A) {o : Expr} {apos pos : Pos} {args : List Expr} {pl : Sem Bool} {Wo : EW} {Wa : AW} (ho : EOK c env (eval o env) Wo) (ha : ArgsOK c env (backTo pos (starEach args env)) (backToKw pos (keywordEach [] env)) Wa)
  (he : eval (.Call (.Attribute o "keys" apos) args [] pos) env = (do
   let ov ← eval o env
   standAt apos.atName
   let (f, first) ← holding [ov] (getMethod ov "keys" pl)
   callWith pos f first (backTo pos (starEach args env)) (backToKw pos (keywordEach [] env)))) :
  EOK c env (eval (.Call (.Attribute o "keys" apos) args [] pos) env) (fun η σ Q => Wo η σ fun x0 σ1 => InstV x0 ∧ Wa η σ1 fun xs kx σ2 => ∃ bx, selfBind (x0 :: xs) kx = some bx ∧ (rowsW fun p => .str p.1) (vsetX (bx.map (·.1)) (bx.map (·.2)) []) σ2 (fun _ σ' => RetP σ2 (.v .none) σ' Q) (fun x σ' => RetP σ2 x σ' Q)) :=
 eok_meth (name := Str.ofString "keys") Y rm.dep (by kernel_rfl) (by kernel_rfl) (by kernel_rfl) ⟨none, by rw [typeLookup_type, builtinLookup_eq_fast]; kernel_rfl⟩ (by decide) ho ha selfBind (self_bind (fun _ => by kernel_rfl)) (self_nm (by kernel_rfl)) (fun L cells hcl => keys_walk (Y.deep _) ((rm.less (e := 1) (by decide)).deeper _) L cells hcl) he
theorem l_items (Y : Yes c P mg) (rm : Room 4 c.A) {o : Expr} {apos pos : Pos} {args : List Expr} {pl : Sem Bool} {Wo : EW} {Wa : AW} (ho : EOK c env (eval o env) Wo) (ha : ArgsOK c env (backTo pos (starEach args env)) (backToKw pos (keywordEach [] env)) Wa)
  (he : eval (.Call (.Attribute o "items" apos) args [] pos) env = (do
   let ov ← eval o env
   standAt apos.atName
   let (f, first) ← holding [ov] (getMethod ov "items" pl)
   callWith pos f first (backTo pos (starEach args env)) (backToKw pos (keywordEach [] env)))) :
  EOK c env (eval (.Call (.Attribute o "items" apos) args [] pos) env) (fun η σ Q => Wo η σ fun x0 σ1 => InstV x0 ∧ Wa η σ1 fun xs kx σ2 => ∃ bx, selfBind (x0 :: xs) kx = some bx ∧ (rowsW rowD) (vsetX (bx.map (·.1)) (bx.map (·.2)) []) σ2 (fun _ σ' => RetP σ2 (.v .none) σ' Q) (fun x σ' => RetP σ2 x σ' Q)) :=
 eok_meth (name := Str.ofString "items") Y rm.dep (by kernel_rfl) (by kernel_rfl) (by kernel_rfl) ⟨none, by rw [typeLookup_type, builtinLookup_eq_fast]; kernel_rfl⟩ (by decide) ho ha selfBind (self_bind (fun _ => by kernel_rfl)) (self_nm (by kernel_rfl)) (fun L cells hcl => items_walk (Y.deep _) ((rm.less (e := 1) (by decide)).deeper _) L cells hcl) he
theorem l_get_all (Y : Yes c P mg) (rm : Room 4 c.A) {o : Expr} {apos pos : Pos} {args : List Expr} {pl : Sem Bool} {Wo : EW} {Wa : AW} (ho : EOK c env (eval o env) Wo) (ha : ArgsOK c env (backTo pos (starEach args env)) (backToKw pos (keywordEach [] env)) Wa)
  (he : eval (.Call (.Attribute o "get_all" apos) args [] pos) env = (do
   let ov ← eval o env
   standAt apos.atName
   let (f, first) ← holding [ov] (getMethod ov "get_all" pl)
   callWith pos f first (backTo pos (starEach args env)) (backToKw pos (keywordEach [] env)))) :
  EOK c env (eval (.Call (.Attribute o "get_all" apos) args [] pos) env) (fun η σ Q => Wo η σ fun x0 σ1 => InstV x0 ∧ Wa η σ1 fun xs kx σ2 => ∃ bx, nameBind (x0 :: xs) kx = some bx ∧ allW (vsetX (bx.map (·.1)) (bx.map (·.2)) []) σ2 (fun _ σ' => RetP σ2 (.v .none) σ' Q) (fun x σ' => RetP σ2 x σ' Q)) :=
 eok_meth (name := Str.ofString "get_all") Y rm.dep (by kernel_rfl) (by kernel_rfl) (by kernel_rfl) ⟨none, by rw [typeLookup_type, builtinLookup_eq_fast]; kernel_rfl⟩ (by decide) ho ha nameBind (name_bind (fun _ _ => by kernel_rfl)) (name_nm (by kernel_rfl) (by kernel_rfl)) (fun L cells hcl => all_walk (Y.deep _) ((rm.less (e := 2) (by decide)).deeper _) L cells hcl) he
theorem l_add_header (Y : Yes c P mg) (rm : Room 4 c.A) (hfr : c.A.frames = some [env]) (hown : env.frame = some env.locals) {o : Expr} {apos pos : Pos} {args : List Expr} {pl : Sem Bool} {Wo : EW} {Wa : AW} (ho : EOK c env (eval o env) Wo) (ha : ArgsOK c env (backTo pos (starEach args env)) (backToKw pos (keywordEach [] env)) Wa)
  (he : eval (.Call (.Attribute o "add_header" apos) args [] pos) env = (do
   let ov ← eval o env
   standAt apos.atName
   let (f, first) ← holding [ov] (getMethod ov "add_header" pl)
   callWith pos f first (backTo pos (starEach args env)) (backToKw pos (keywordEach [] env)))) :
  EOK c env (eval (.Call (.Attribute o "add_header" apos) args [] pos) env) (fun η σ Q => Wo η σ fun x0 σ1 => InstV x0 ∧ Wa η σ1 fun xs kx σ2 => ∃ bx, ahBind (x0 :: xs) kx = some bx ∧ ahX (vsetX (bx.map (·.1)) (bx.map (·.2)) []) σ2 (fun _ σ' => RetP σ2 (.v .none) σ' Q) (fun x σ' => RetP σ2 x σ' Q) (XP σ2 fun _ _ _ => False)) :=
 eok_of_x (xeok_meth (name := Str.ofString "add_header") Y rm.dep (by kernel_rfl) (by kernel_rfl) (by kernel_rfl) ⟨none, by rw [typeLookup_type, builtinLookup_eq_fast]; kernel_rfl⟩ (by decide) ho ha ahBind (ah_bind Y) ahNm (fun L cells hcl => ah_walk (Y.deep _) ((rm.less (e := 2) (by decide)).deeper _) L cells hcl) he) hfr hown
theorem l_extend {o : Expr} {apos pos : Pos} {args : List Expr} {t : Sem Value} {pl : Sem Bool} {W Wa : EW} (ht : backTo pos (starEach args env) = [(false, t)]) (h1 : EOK c env (eval o env) W) (ha : EOK c env t Wa)
  (he : eval (.Call (.Attribute o "extend" apos) args [] pos) env = (do
   let ov ← eval o env
   standAt apos.atName
   let (f, first) ← holding [ov] (getMethod ov "extend" pl)
   callWith pos f first (backTo pos (starEach args env)) [])) :
  EOK c env (eval (.Call (.Attribute o "extend" apos) args [] pos) env) (fun η σ Q => W η σ fun x σ1 => ∃ i, x = .own i ∧ (∃ xs, σ1[i]? = some (.list xs)) ∧ Wa η σ1 fun y σ2 => ∃ xs, σ2[i]? = some (.list xs) ∧ oExtendV i xs y σ2 Q) :=
 eok_lmeth PySem.F.slot_list_extend PySem.F.type_list_extend ht h1 ha op_extendV he
end
section
variable {c : Cx} {env : Env} {P : Params} {mg : Str → Option Value}
theorem esok_ints {pos : Pos} : ∀ is : List (Int × Nat × Pos), EsOK c env (backTo pos (starEach (is.map fun x => .Constant (.int x.1) x.2.1 x.2.2) env)) (fun _ σ Q => Q (is.map fun x => .v (.int x.1)) σ)
 | [] => jI
 | x :: is => qG (jM (k := x.2.1) (pos := x.2.2)) (esok_ints is)
theorem fro_ints : ∀ is : List (Int × Nat × Pos), fro (is.map fun x => .v (.int x.1)) = some (is.map fun x => .int x.1)
 | [] => rfl
 | x :: is => by rw [List.map_cons, fro, fro_ints is]; rfl
theorem eok_ints (is : List (Int × Nat × Pos)) {elts : List Expr} {pos : Pos} (he : elts = is.map fun x => .Constant (.int x.1) x.2.1 x.2.2) :
  EOK c env (eval (.List elts pos) env) (fun η σ Q => is.length ≤ sizeLine ∧ Q (.own σ.length) (σ ++ [.list (is.map fun x => .int x.1)])) := by
 subst he
 intro E K F ρ η σ s Q R hW hK
 refine kM rfl (esok_ints is) E K F ρ η σ s Q R ?_ hK
 exact ⟨_, fro_ints is, by rw [List.length_map]; exact hW.1, hW.2⟩
end
noncomputable def lawEnv (P : Params) (fa : Addr) (cd : Value) (L : Addr) (cells : List (Str × Addr)) : Env :=
 { scope := (kfd P 261).scope, locals := L, globals := mainGlobals, cells := cells, qual := (kfd P 261).qualname ++ ".<locals>.", func := some fa, code := cd, frame := some L, builtins := builtinsNs }
noncomputable def Chain (t : List Nat) : Nat → List (Nat × Nat × Nat) → Prop
 | s, [] => s = t.length
 | s, c :: r => s < t.length ∧ c = (s, max (stood t s) 1, codeOf t s) ∧ Chain t (s + max (stood t s) 1) r
theorem max_le (t : List Nat) {s : Nat} (h : s < t.length) : s + max (stood t s) 1 ≤ t.length := by
 have := stood_le t s; exact (Or.elim (Nat.le_total (stood t s) (1)) (fun q0 => (qA [_,_,_] 1 (.a (.v 0) (.v 1)) (.v 2) (.c 1 (.v 1) (.n 1) (.c 1 (.a (.v 0) (.n 1)) (.v 2) .z)) rfl (uJ (Nat.max_eq_right (qA [_] 1 (.v 0) (.n 1) (.c 1 (.v 0) (.n 1) .z) rfl q0))) h)) fun q0 => (qA [_,_,_,_,_] 1 (.a (.v 0) (.v 1)) (.v 2) (.c 1 (.v 1) (.v 3) (.c 1 (.a (.v 4) (.v 0)) (.v 2) (.c 1 (.v 3) (.v 4) .z))) rfl (uJ (Nat.max_eq_left (qA [_] 1 (.n 1) (.v 0) (.c 1 (.n 1) (.v 0) .z) rfl q0))) (jL (qA [_,_] 1 (.v 0) (.v 1) (.c 1 (.a (.v 0) (.n 1)) (.v 1) .z) rfl h)) this))
theorem cuts_chain (t : List Nat) : ∀ f s, t.length - s ≤ f → s ≤ t.length → Chain t s (cutsF t f s)
 | 0, s, h, h2 => by unfold cutsF Chain; exact (Nat.le_antisymm (qA [_,_] 1 (.v 0) (.v 1) (.c 1 (.v 0) (.v 1) .z) rfl h2) (qA [_,_,_] 1 (.v 0) (.v 1) (.c 1 (.v 0) (.a (.v 2) (.v 1)) (.c 1 (.v 2) (.n 0) .z)) rfl (jV _ _) h))
 | f + 1, s, h, h2 => by
  rw [cutsF]
  split
  ·rename_i q
   exact ⟨q, rfl, cuts_chain t f _ (by (clear q h2; exact (Or.elim (Nat.le_total (t.length) (s)) (fun q0 => (qA [_,_] 1 (.v 0) (.v 1) (.c 1 (.v 0) (.n 0) .z) rfl (subZ (qA [_,_,_] 1 (.v 0) (.a (.v 1) (.v 2)) (.c 1 (.v 0) (.v 1) .z) rfl q0)))) fun q0 => (Or.elim (Nat.le_total (t.length) (s + max (stood t s) 1)) (fun q1 => (qA [_,_] 1 (.v 0) (.v 1) (.c 1 (.v 0) (.n 0) .z) rfl (subZ (qA [_,_,_] 1 (.v 0) (.a (.v 1) (.v 2)) (.c 1 (.v 0) (.a (.v 1) (.v 2)) .z) rfl q1)))) fun q1 => (qA [_,_,_,_,_,_] 1 (.v 0) (.v 1) (.c 1 (.n 1) (.v 2) (.c 1 (.a (.v 0) (.a (.v 3) (.v 2))) (.v 4) (.c 1 (.v 4) (.a (.v 5) (.v 3)) (.c 1 (.v 5) (.a (.v 1) (.n 1)) .z)))) rfl (Nat.le_max_right _ _) (jL (qA [_,_,_] 1 (.a (.v 0) (.v 1)) (.v 2) (.c 1 (.a (.v 0) (.v 1)) (.v 2) .z) rfl q1)) (jV _ _) h))))) (max_le t q)⟩
  ·show s = t.length
   lia
theorem chain_mem {t : List Nat} : ∀ {cs : List (Nat × Nat × Nat)} {s : Nat}, Chain t s cs → ∀ c ∈ cs, s ≤ c.1 ∧ c.1 < t.length ∧ c.2.1 = max (stood t c.1) 1 ∧ c.2.2 = codeOf t c.1
 | [], _, _, c, hc => by cases hc
 | x :: r, s, ⟨h1, h2, h3⟩, c, hc => by
  rcases List.mem_cons.mp hc with rfl | hc
  ·rw [h2]; exact ⟨Nat.le_refl _, h1, rfl, rfl⟩
  ·have := chain_mem h3 c hc
   exact ⟨by exact (qA [_,_,_] 1 (.v 0) (.v 1) (.c 1 (.a (.v 0) (.v 2)) (.v 1) .z) rfl (And.left this)), this.2⟩
theorem chain_len {t : List Nat} : ∀ {cs : List (Nat × Nat × Nat)} {s : Nat}, Chain t s cs → cs.length + s ≤ t.length
 | [], s, h => by have : s = t.length := h; simp; exact (qA [_,_] 1 (.v 0) (.v 1) (.c 1 (.v 0) (.v 1) .z) rfl (uJ this))
 | x :: r, s, ⟨h1, h2, h3⟩ => by
  have := chain_len h3
  rw [List.length_cons]; exact (qA [_,_,_,_] 1 (.a (.a (.v 0) (.n 1)) (.v 1)) (.v 2) (.c 1 (.n 1) (.v 3) (.c 1 (.a (.v 0) (.a (.v 1) (.v 3))) (.v 2) .z)) rfl (Nat.le_max_right _ _) this)
theorem few_iff {t : List Nat} {s e : Nat} (h : s < e) (he : e ≤ t.length) : fewOk t s e = true ↔ e ≤ s + max (stood t s) 1 := by
 have e1 : (t.take e).drop s = fac t s (e - s) := by rw [← sl_fac]; congr 2; exact (Nat.le_antisymm (qA [_,_,_] 1 (.v 0) (.a (.v 1) (.v 2)) (.c 1 (.v 0) (.a (.v 2) (.v 1)) .z) rfl (jV _ _)) (qA [_,_,_] 1 (.a (.v 0) (.v 1)) (.v 2) (.c 1 (.a (.v 1) (.v 0)) (.v 2) .z) rfl (jL (qA [_,_] 1 (.v 0) (.v 1) (.c 1 (.a (.v 0) (.n 1)) (.v 1) .z) rfl h))))
 have hl : (fac t s (e - s)).length = e - s := kR (by exact (qA [_,_,_,_] 1 (.a (.v 0) (.v 1)) (.v 2) (.c 1 (.a (.v 1) (.v 0)) (.v 3) (.c 1 (.v 3) (.v 2) .z)) rfl (jL (qA [_,_] 1 (.v 0) (.v 1) (.c 1 (.a (.v 0) (.n 1)) (.v 1) .z) rfl h)) he))
 refine qC fun P kG => ?_
 obtain ⟨a, b, c, d⟩ := first_spec (t := t) (p := fac t s (e - s)) (i := s) (by exact (qA [_,_,_,_,_] 1 (.a (.v 0) (.v 1)) (.v 2) (.c 1 (.a (.v 3) (.v 0)) (.v 4) (.c 1 (.v 1) (.v 3) (.c 1 (.v 4) (.v 2) .z))) rfl (jL (qA [_,_] 1 (.v 0) (.v 1) (.c 1 (.a (.v 0) (.n 1)) (.v 1) .z) rfl h)) (uJ hl) he)) (by rw [hl])
 refine kG ?_
 clear kG P
 rw [hl] at b c
 have key : first t (fac t s (e - s)) < s ↔ e - s ≤ stood t s := by
  rw [← vH t s (e - s) (by exact Nat.sub_pos_of_lt ‹_›) (by lia)]
  constructor
  ·intro q; exact ⟨_, q, b⟩
  ·rintro ⟨j, q1, q2⟩
   have := c j (by exact (qA [_,_,_,_,_] 1 (.a (.v 0) (.v 1)) (.v 2) (.c 1 (.a (.v 1) (.v 3)) (.v 4) (.c 1 (.a (.v 0) (.n 1)) (.v 3) (.c 1 (.v 4) (.v 2) .z))) rfl (jL (qA [_,_] 1 (.v 0) (.v 1) (.c 1 (.a (.v 0) (.n 1)) (.v 1) .z) rfl h)) q1 he)) q2
   exact Nat.lt_of_le_of_lt ‹_› ‹_›
 unfold fewOk
 rw [e1, d]
 simp only [Bool.or_eq_true, decide_eq_true_iff]
 rw [key]; (clear a key; omega)
theorem few_her {t : List Nat} {s s' e : Nat} (he : e ≤ t.length) (h : e ≤ s + max (stood t s) 1) (h1 : s ≤ s') (h2 : s' < e) : e ≤ s' + max (stood t s') 1 := by
 by_cases q : e = s' + 1
 ·exact (qA [_,_,_] 1 (.v 0) (.a (.v 1) (.v 2)) (.c 1 (.n 1) (.v 2) (.c 1 (.v 0) (.a (.v 1) (.n 1)) .z)) rfl (Nat.le_max_right _ _) (uJ q))
 ·have h3 : e - s ≤ stood t s := by exact (Or.elim (Nat.lt_or_gt_of_ne q) (fun q0 => (False.elim (jY [_,_] (.c 1 (.a (.v 0) (.n 1)) (.a (.v 1) (.n 1)) (.c 1 (.a (.v 1) (.n 1)) (.v 0) .z)) rfl q0 h2))) fun q0 => (Or.elim (Nat.le_total (stood t s) (1)) (fun q1 => (False.elim (jY [_,_,_,_] (.c 1 (.v 0) (.n 1) (.c 1 (.a (.a (.v 1) (.n 1)) (.n 1)) (.v 2) (.c 1 (.v 3) (.v 1) (.c 1 (.v 2) (.a (.v 3) (.v 0)) .z)))) rfl (uJ (Nat.max_eq_right (qA [_] 1 (.v 0) (.n 1) (.c 1 (.v 0) (.n 1) .z) rfl q1))) q0 h1 h))) fun q1 => (qA [_,_,_,_,_] 1 (.v 0) (.v 1) (.c 1 (.a (.v 0) (.v 2)) (.v 3) (.c 1 (.v 4) (.v 1) (.c 1 (.v 3) (.a (.v 2) (.v 4)) .z))) rfl (jL (qA [_,_,_] 1 (.v 0) (.v 1) (.c 1 (.a (.v 2) (.n 1)) (.v 1) (.c 1 (.v 0) (.v 2) .z)) rfl h2 h1)) (uJ (Nat.max_eq_left (qA [_] 1 (.n 1) (.v 0) (.c 1 (.n 1) (.v 0) .z) rfl q1))) h)))
  obtain ⟨j, j1, j2⟩ := (vH t s (e - s) (by (clear q; exact (qA [_,_,_,_] 1 (.n 1) (.v 0) (.c 1 (.v 1) (.a (.v 0) (.v 2)) (.c 1 (.a (.v 3) (.n 1)) (.v 1) (.c 1 (.v 2) (.v 3) .z))) rfl (jV _ _) h2 h1))) (by (clear q; exact (qA [_,_,_,_] 1 (.a (.v 0) (.v 1)) (.v 2) (.c 1 (.a (.v 1) (.v 0)) (.v 3) (.c 1 (.v 3) (.v 2) .z)) rfl (jL (qA [_,_,_] 1 (.v 0) (.v 1) (.c 1 (.a (.v 2) (.n 1)) (.v 1) (.c 1 (.v 0) (.v 2) .z)) rfl h2 h1)) he)))).mpr h3
  have h4 := congrArg (fun l => l.drop (s' - s)) j2
  simp only [fac_suf _ _ _ _ (show s' - s ≤ e - s by (clear q; exact (qA [_,_,_,_,_] 1 (.v 0) (.v 1) (.c 1 (.a (.v 0) (.v 2)) (.v 3) (.c 1 (.v 4) (.a (.v 1) (.v 2)) (.c 1 (.a (.v 3) (.n 1)) (.v 4) .z))) rfl (jL (qA [_,_] 1 (.v 0) (.v 1) (.c 1 (.v 0) (.v 1) .z) rfl h1)) (jV _ _) h2)))] at h4
  have e1 : s + (s' - s) = s' := by exact Nat.add_sub_of_le ‹_›
  have e2 : e - s - (s' - s) = e - s' := by lia
  rw [e1, e2] at h4
  have := (vH t s' (e - s') (by exact Nat.sub_pos_of_lt ‹_›) (by (clear q e2; exact (qA [_,_,_,_] 1 (.a (.v 0) (.v 1)) (.v 2) (.c 1 (.a (.v 1) (.v 0)) (.v 3) (.c 1 (.v 3) (.v 2) .z)) rfl (jL (qA [_,_] 1 (.v 0) (.v 1) (.c 1 (.a (.v 0) (.n 1)) (.v 1) .z) rfl h2)) he)))).mp ⟨j + (s' - s), by exact (qA [_,_,_,_] 1 (.a (.a (.v 0) (.v 1)) (.n 1)) (.v 2) (.c 1 (.a (.v 1) (.v 3)) (.v 2) (.c 1 (.a (.v 0) (.n 1)) (.v 3) .z)) rfl (jL (qA [_,_] 1 (.v 0) (.v 1) (.c 1 (.v 0) (.v 1) .z) rfl h1)) j1), h4⟩
  (clear e2; exact (qA [_,_,_,_,_] 1 (.v 0) (.a (.v 1) (.v 2)) (.c 1 (.v 3) (.v 2) (.c 1 (.v 0) (.a (.v 4) (.v 1)) (.c 1 (.v 4) (.v 3) .z))) rfl (Nat.le_max_left _ _) (jV _ _) this))
theorem cutsF_end (t : List Nat) (f s : Nat) (h : t.length ≤ s) : cutsF t f s = [] := by
 cases f with
 | zero => rfl
 | succ f => rw [cutsF, if_neg (by exact (fun q0 => (jY [_,_] (.c 1 (.a (.v 0) (.n 1)) (.v 1) (.c 1 (.v 1) (.v 0) .z)) rfl q0 h)))]
theorem cuts_mono (t : List Nat) : ∀ f s f' s', t.length - s ≤ f → t.length - s' ≤ f' → s ≤ s' → s' ≤ t.length → (cutsF t f' s').length ≤ (cutsF t f s).length
 | 0, s, f', s', h1, h2, h3, h4 => by rw [cutsF_end t f' s' (by exact (qA [_,_,_,_] 1 (.v 0) (.v 1) (.c 1 (.v 0) (.a (.v 2) (.v 3)) (.c 1 (.v 3) (.v 1) (.c 1 (.v 2) (.n 0) .z))) rfl (jV _ _) h3 h1))]; exact Nat.zero_le _
 | f + 1, s, f', s', h1, h2, h3, h4 => by
  by_cases q : t.length ≤ s'
  ·rw [cutsF_end t f' s' q]; exact Nat.zero_le _
  ·have hs := max_le t (s := s) (by exact (qA [_,_,_] 1 (.a (.v 0) (.n 1)) (.v 1) (.c 1 (.a (.v 2) (.n 1)) (.v 1) (.c 1 (.v 0) (.v 2) .z)) rfl (Nat.not_le.mp q) h3))
   have hs' := max_le t (s := s') (by exact Nat.lt_of_not_le ‹_›)
   rw [cutsF, if_pos (by lia)]
   obtain ⟨f'', rfl⟩ : ∃ f'', f' = f'' + 1 := ⟨f' - 1, by exact (Nat.le_antisymm (qA [_,_] 1 (.v 0) (.a (.v 1) (.n 1)) (.c 1 (.v 0) (.a (.v 1) (.n 1)) .z) rfl (jV _ _)) (qA [_,_] 1 (.a (.v 0) (.n 1)) (.v 1) (.c 1 (.a (.v 0) (.n 1)) (.v 1) .z) rfl (jL (qA [_,_,_,_] 1 (.n 1) (.v 0) (.c 1 (.v 1) (.a (.v 2) (.v 3)) (.c 1 (.a (.v 3) (.n 1)) (.v 1) (.c 1 (.v 2) (.v 0) .z))) rfl (jV _ _) (Nat.not_le.mp q) h2))))⟩
   by_cases q2 : s' < s + max (stood t s) 1
   ·have := few_her hs (Nat.le_refl _) h3 q2
    rw [cutsF, if_pos (by exact (qA [_,_] 1 (.a (.v 0) (.n 1)) (.v 1) (.c 1 (.a (.v 0) (.n 1)) (.v 1) .z) rfl (Nat.not_le.mp q))), List.length_cons, List.length_cons]
    have := cuts_mono t f (s + max (stood t s) 1) f'' (s' + max (stood t s') 1) (by exact (qA [_,_,_,_,_,_] 1 (.v 0) (.v 1) (.c 1 (.a (.v 0) (.a (.v 2) (.v 3))) (.v 4) (.c 1 (.n 1) (.v 3) (.c 1 (.v 4) (.a (.v 5) (.v 2)) (.c 1 (.v 5) (.a (.v 1) (.n 1)) .z)))) rfl (jL (qA [_,_,_] 1 (.a (.v 0) (.v 1)) (.v 2) (.c 1 (.a (.v 0) (.v 1)) (.v 2) .z) rfl hs)) (Nat.le_max_right _ _) (jV _ _) h1)) (by exact (qA [_,_,_,_,_,_] 1 (.v 0) (.v 1) (.c 1 (.a (.v 0) (.a (.v 2) (.v 3))) (.v 4) (.c 1 (.v 4) (.a (.v 5) (.v 2)) (.c 1 (.n 1) (.v 3) (.c 1 (.v 5) (.a (.v 1) (.n 1)) .z)))) rfl (jL (qA [_,_,_] 1 (.a (.v 0) (.v 1)) (.v 2) (.c 1 (.a (.v 0) (.v 1)) (.v 2) .z) rfl hs')) (jV _ _) (Nat.le_max_right _ _) h2)) this hs'
    exact Nat.lt_succ_of_le ‹_›
   ·have := cuts_mono t f (s + max (stood t s) 1) (f'' + 1) s' (by exact (qA [_,_,_,_,_,_] 1 (.v 0) (.v 1) (.c 1 (.a (.v 0) (.a (.v 2) (.v 3))) (.v 4) (.c 1 (.n 1) (.v 3) (.c 1 (.v 4) (.a (.v 5) (.v 2)) (.c 1 (.v 5) (.a (.v 1) (.n 1)) .z)))) rfl (jL (qA [_,_,_] 1 (.a (.v 0) (.v 1)) (.v 2) (.c 1 (.a (.v 0) (.v 1)) (.v 2) .z) rfl hs)) (Nat.le_max_right _ _) (jV _ _) h1)) (by assumption) (by exact Nat.le_of_not_lt ‹_›) h4
    rw [List.length_cons]; exact Nat.le_trans ‹_› (Nat.le_add_right _ _)
noncomputable def dl (t : List Nat) (e : Nat) : Nat := (leastL t e).getD e 0
theorem leastL_get (t : List Nat) : ∀ n e, e ≤ n → (leastL t n)[e]? = (leastL t e)[e]?
 | 0, e, h => by
  obtain rfl : e = 0 := by exact Nat.eq_zero_of_le_zero ‹_›
  rfl
 | n + 1, e, h => by
  by_cases q : e = n + 1
  ·rw [q]
  ·rw [leastL, List.getElem?_append_left (by rw [vD]; exact (Or.elim (Nat.lt_or_gt_of_ne q) (fun q0 => (qA [_,_] 1 (.a (.v 0) (.n 1)) (.a (.v 1) (.n 1)) (.c 1 (.a (.v 0) (.n 1)) (.a (.v 1) (.n 1)) .z) rfl q0)) fun q0 => (False.elim (jY [_,_] (.c 1 (.a (.a (.v 0) (.n 1)) (.n 1)) (.v 1) (.c 1 (.v 1) (.a (.v 0) (.n 1)) .z)) rfl q0 h))))]
   exact leastL_get t n e (by exact (Or.elim (Nat.lt_or_gt_of_ne q) (fun q0 => (qA [_,_] 1 (.v 0) (.v 1) (.c 1 (.a (.v 0) (.n 1)) (.a (.v 1) (.n 1)) .z) rfl q0)) fun q0 => (False.elim (jY [_,_] (.c 1 (.a (.a (.v 0) (.n 1)) (.n 1)) (.v 1) (.c 1 (.v 1) (.a (.v 0) (.n 1)) .z)) rfl q0 h))))
theorem dl_succ (t : List Nat) (e : Nat) : dl t (e + 1) = 1 + minL (((List.range (e + 1)).filter fun s => fewOk t s (e + 1)).map (dl t)) := by
 have h1 : dl t (e + 1) = 1 + minL (((List.range (e + 1)).filter fun s => fewOk t s (e + 1)).map fun s => (leastL t e).getD s 0) := by
  unfold dl
  rw [leastL, List.getD_eq_getElem?_getD, List.getElem?_append_right (by rw [vD]; exact Nat.lt_succ_self _), vD]
  simp
 rw [h1]
 congr 2
 refine List.map_congr_left fun s hs => ?_
 have := (List.mem_filter.mp hs).1
 rw [List.mem_range] at this
 unfold dl
 rw [List.getD_eq_getElem?_getD, List.getD_eq_getElem?_getD, leastL_get t e s (by exact Nat.le_of_lt_succ ‹_›)]
theorem dl_pick (t : List Nat) (e : Nat) (he : e + 1 ≤ t.length) : ∃ s, s ≤ e ∧ e + 1 ≤ s + max (stood t s) 1 ∧ dl t (e + 1) = 1 + dl t s := by
 rw [dl_succ]
 have hne : ((List.range (e + 1)).filter fun s => fewOk t s (e + 1)).map (dl t) ≠ [] := by
  intro q
  rw [List.map_eq_nil_iff, List.filter_eq_nil_iff] at q
  exact q e (by simp) ((few_iff (by exact Nat.lt_succ_self _) he).mpr (by exact (qA [_,_] 1 (.a (.v 0) (.n 1)) (.a (.v 0) (.v 1)) (.c 1 (.n 1) (.v 1) .z) rfl (Nat.le_max_right _ _))))
 obtain ⟨h1, _⟩ := minL_spec hne
 rw [List.mem_map] at h1
 obtain ⟨s, hs, h2⟩ := h1
 rw [List.mem_filter, List.mem_range] at hs
 exact ⟨s, by exact (qA [_,_] 1 (.v 0) (.v 1) (.c 1 (.a (.v 0) (.n 1)) (.a (.v 1) (.n 1)) .z) rfl (And.left hs)), (few_iff (by exact (qA [_,_] 1 (.a (.v 0) (.n 1)) (.a (.v 1) (.n 1)) (.c 1 (.a (.v 0) (.n 1)) (.a (.v 1) (.n 1)) .z) rfl (And.left hs))) he).mp hs.2, by rw [h2]⟩
theorem dl_least (t : List Nat) (s e : Nat) (h : s < e) (he : e ≤ t.length) (hf : e ≤ s + max (stood t s) 1) : dl t e ≤ 1 + dl t s := by
 obtain ⟨e, rfl⟩ : ∃ x, e = x + 1 := ⟨e - 1, by exact (Nat.le_antisymm (qA [_,_] 1 (.v 0) (.a (.v 1) (.n 1)) (.c 1 (.v 0) (.a (.v 1) (.n 1)) .z) rfl (jV _ _)) (qA [_,_] 1 (.a (.v 0) (.n 1)) (.v 1) (.c 1 (.a (.v 0) (.n 1)) (.v 1) .z) rfl (jL (qA [_,_] 1 (.n 1) (.v 0) (.c 1 (.a (.v 1) (.n 1)) (.v 0) .z) rfl h))))⟩
 rw [dl_succ]
 have hm : dl t s ∈ ((List.range (e + 1)).filter fun s => fewOk t s (e + 1)).map (dl t) :=
  List.mem_map_of_mem (List.mem_filter.mpr ⟨by rw [List.mem_range]; assumption, (few_iff h he).mpr hf⟩)
 have := (minL_spec (List.ne_nil_of_mem hm)).2 _ hm
 exact (qA [_,_] 1 (.a (.n 1) (.v 0)) (.a (.n 1) (.v 1)) (.c 1 (.v 0) (.v 1) .z) rfl this)
theorem dl_chain {t : List Nat} : ∀ {cs : List (Nat × Nat × Nat)} {s : Nat}, Chain t s cs → dl t t.length ≤ dl t s + cs.length
 | [], s, h => by rw [show s = t.length from h]; exact Nat.le_add_right _ _
 | x :: r, s, ⟨h1, h2, h3⟩ => by
  have := dl_chain h3
  have := dl_least t s (s + max (stood t s) 1) (by exact (qA [_,_] 1 (.a (.v 0) (.n 1)) (.a (.v 0) (.v 1)) (.c 1 (.n 1) (.v 1) .z) rfl (Nat.le_max_right _ _))) (max_le t h1) (Nat.le_refl _)
  rw [List.length_cons]; lia
theorem dl_ge (t : List Nat) : ∀ N e, e ≤ N → e ≤ t.length → (cutsF t t.length 0).length ≤ dl t e + (cutsF t t.length e).length
 | 0, e, h, he => by
  obtain rfl : e = 0 := by exact (Nat.le_antisymm (qA [_] 1 (.v 0) (.n 0) (.c 1 (.v 0) (.n 0) .z) rfl h) (qA [_] 1 (.n 0) (.v 0) .z rfl ))
  exact Nat.le_add_left _ _
 | N + 1, e, h, he => by
  rcases Nat.eq_zero_or_pos e with rfl | hp
  ·exact Nat.le_add_left _ _
  ·obtain ⟨e, rfl⟩ : ∃ x, e = x + 1 := ⟨e - 1, by exact (Nat.le_antisymm (qA [_,_] 1 (.v 0) (.a (.v 1) (.n 1)) (.c 1 (.v 0) (.a (.v 1) (.n 1)) .z) rfl (jV _ _)) (qA [_,_] 1 (.a (.v 0) (.n 1)) (.v 1) (.c 1 (.a (.v 0) (.n 1)) (.v 1) .z) rfl (jL (qA [_] 1 (.n 1) (.v 0) (.c 1 (.a (.n 0) (.n 1)) (.v 0) .z) rfl hp))))⟩
   obtain ⟨s, h1, h2, h3⟩ := dl_pick t e he
   have := dl_ge t N s (by exact (qA [_,_,_] 1 (.v 0) (.v 1) (.c 1 (.v 0) (.v 2) (.c 1 (.a (.v 2) (.n 1)) (.a (.v 1) (.n 1)) .z)) rfl h1 h)) (by exact (qA [_,_,_] 1 (.v 0) (.v 1) (.c 1 (.v 0) (.v 2) (.c 1 (.a (.v 2) (.n 1)) (.v 1) .z)) rfl h1 he))
   have hm := max_le t (s := s) (by exact Nat.lt_of_le_of_lt ‹_› ‹_›)
   have : (cutsF t t.length s).length ≤ 1 + (cutsF t t.length (e + 1)).length := by
    obtain ⟨f, hf⟩ : ∃ f, t.length = f + 1 := ⟨t.length - 1, by exact (Nat.le_antisymm (qA [_,_] 1 (.v 0) (.a (.v 1) (.n 1)) (.c 1 (.v 0) (.a (.v 1) (.n 1)) .z) rfl (jV _ _)) (qA [_,_] 1 (.a (.v 0) (.n 1)) (.v 1) (.c 1 (.a (.v 0) (.n 1)) (.v 1) .z) rfl (jL (qA [_,_] 1 (.n 1) (.v 0) (.c 1 (.a (.v 1) (.n 1)) (.v 0) .z) rfl he))))⟩
    have e1 : cutsF t t.length s = (s, max (stood t s) 1, codeOf t s) :: cutsF t f (s + max (stood t s) 1) := by
     rw [hf, cutsF, if_pos (by exact (qA [_,_,_] 1 (.a (.v 0) (.n 1)) (.v 1) (.c 1 (.v 0) (.v 2) (.c 1 (.a (.v 2) (.n 1)) (.v 1) .z)) rfl h1 he))]
    rw [e1, List.length_cons]
    have := cuts_mono t t.length (e + 1) f (s + max (stood t s) 1) (by exact Nat.sub_le _ _) (by (clear h1 hm; exact (Or.elim (Nat.le_total (stood t s) (1)) (fun q0 => (Or.elim (Nat.le_total (t.length) (s + max (stood t s) 1)) (fun q1 => (qA [_,_] 1 (.v 0) (.v 1) (.c 1 (.v 0) (.n 0) .z) rfl (subZ (qA [_,_,_] 1 (.v 0) (.a (.v 1) (.v 2)) (.c 1 (.v 0) (.a (.v 1) (.v 2)) .z) rfl q1)))) fun q1 => (qA [_,_,_,_,_,_] 1 (.v 0) (.v 1) (.c 1 (.a (.v 0) (.a (.v 2) (.v 3))) (.v 4) (.c 1 (.v 4) (.a (.v 1) (.n 1)) (.c 1 (.a (.v 5) (.n 1)) (.a (.v 2) (.v 3)) .z))) rfl (jL (qA [_,_,_] 1 (.a (.v 0) (.v 1)) (.v 2) (.c 1 (.a (.v 0) (.v 1)) (.v 2) .z) rfl q1)) (uJ hf) h2))) fun q0 => (Or.elim (Nat.le_total (t.length) (s + max (stood t s) 1)) (fun q2 => (qA [_,_] 1 (.v 0) (.v 1) (.c 1 (.v 0) (.n 0) .z) rfl (subZ (qA [_,_,_] 1 (.v 0) (.a (.v 1) (.v 2)) (.c 1 (.v 0) (.a (.v 1) (.v 2)) .z) rfl q2)))) fun q2 => (qA [_,_,_,_,_,_] 1 (.v 0) (.v 1) (.c 1 (.a (.v 0) (.a (.v 2) (.v 3))) (.v 4) (.c 1 (.v 4) (.a (.v 1) (.n 1)) (.c 1 (.a (.v 5) (.n 1)) (.a (.v 2) (.v 3)) .z))) rfl (jL (qA [_,_,_] 1 (.a (.v 0) (.v 1)) (.v 2) (.c 1 (.a (.v 0) (.v 1)) (.v 2) .z) rfl q2)) (uJ hf) h2))))) (by assumption) hm
    exact (qA [_,_] 1 (.a (.v 0) (.n 1)) (.a (.n 1) (.v 1)) (.c 1 (.v 0) (.v 1) .z) rfl this)
   lia
theorem fewest (t : List Nat) : (cutsF t t.length 0).length = (leastL t t.length).getD t.length 0 := by
 have h1 := dl_chain (cuts_chain t t.length 0 (by exact Nat.sub_le _ _) (Nat.zero_le _))
 have h2 := dl_ge t t.length t.length (Nat.le_refl _) (Nat.le_refl _)
 rw [cutsF_end t t.length t.length (Nat.le_refl _)] at h2
 have h0 : dl t 0 = 0 := rfl
 rw [h0] at h1
 have : dl t t.length = (leastL t t.length).getD t.length 0 := rfl
 simp only [List.length_nil] at h2
 exact (Nat.le_antisymm (qA [_,_,_] 1 (.v 0) (.v 1) (.c 1 (.v 2) (.v 1) (.c 1 (.v 0) (.a (.v 2) (.n 0)) .z)) rfl (uJ this) h2) (qA [_,_,_] 1 (.v 0) (.v 1) (.c 1 (.v 0) (.v 2) (.c 1 (.v 2) (.a (.n 0) (.v 1)) .z)) rfl (uJ (Eq.symm this)) h1))
theorem code_lt {t : List Nat} {s : Nat} (hn : t.length ≤ 10) (ha : abc3 t) (h : s < t.length) : codeOf t s < 160 := by
 unfold codeOf
 split
 ·rw [List.getD_eq_getElem?_getD, List.getElem?_eq_getElem h]
  have := ha _ (List.getElem_mem h)
  simp only [Option.getD_some]; exact (Or.elim this (fun q0 => (qA [_,_] 1 (.a (.v 0) (.n 1)) (.n 160) (.c 1 (.a (.v 0) (.n 97)) (.v 1) (.c 1 (.v 1) (.n 97) .z)) rfl (jL (qA [_] 1 (.n 97) (.v 0) (.c 1 (.n 97) (.v 0) .z) rfl (uJ (Eq.symm q0)))) (uJ q0))) fun q0 => (Or.elim q0 (fun q1 => (qA [_,_] 1 (.a (.v 0) (.n 1)) (.n 160) (.c 1 (.a (.v 0) (.n 97)) (.v 1) (.c 1 (.v 1) (.n 98) .z)) rfl (jL (qA [_] 1 (.n 97) (.v 0) (.c 1 (.n 98) (.v 0) .z) rfl (uJ (Eq.symm q1)))) (uJ q1))) fun q1 => (qA [_,_] 1 (.a (.v 0) (.n 1)) (.n 160) (.c 1 (.a (.v 0) (.n 97)) (.v 1) (.c 1 (.v 1) (.n 99) .z)) rfl (jL (qA [_] 1 (.n 97) (.v 0) (.c 1 (.n 99) (.v 0) .z) rfl (uJ (Eq.symm q1)))) (uJ q1))))
 ·rename_i q
  have hl := stood_le t s
  obtain ⟨j, h1, h2⟩ := (vH t s 1 (by exact Nat.lt_succ_self _) (by assumption)).mpr (by exact Nat.pos_of_ne_zero ‹_›)
  exact (qA [_,_,_,_,_,_] 1 (.a (.a (.m 16 (.v 0)) (.v 1)) (.n 1)) (.n 160) (.c 1 (.v 1) (.v 2) (.c 16 (.a (.v 3) (.v 2)) (.v 4) (.c 15 (.a (.v 5) (.n 1)) (.v 2) (.c 16 (.v 0) (.v 3) (.c 16 (.v 4) (.n 10) .z))))) rfl (Nat.sub_le _ _) (jL (qA [_,_] 1 (.v 0) (.v 1) (.c 1 (.a (.v 0) (.n 1)) (.v 1) .z) rfl h)) h1 hl hn)
theorem take_step {t : List Nat} {a : Nat} (h : a < t.length) : t.take (a + 1) = t.take a ++ [t[a]] := by
 rw [List.take_succ, List.getElem?_eq_getElem h]; rfl
theorem cpy_take {t : List Nat} {b : Nat} : ∀ k a, 1 ≤ b → b ≤ a → a + k ≤ t.length → (∀ i, i < k → t[a + i]? = t[a + i - b]?) → cpy b k (t.take a) = t.take (a + k)
 | 0, a, _, _, _, _ => rfl
 | k + 1, a, h1, h2, h3, h4 => by
  rw [cpy]
  have hl : (t.take a).length = a := by rw [List.length_take]; exact (Nat.le_antisymm (qA [_,_] 1 (.v 0) (.v 1) (.c 1 (.v 0) (.v 1) .z) rfl (Nat.min_le_left _ _)) (qA [_,_] 1 (.v 0) (.v 1) (.c 1 (.v 0) (.v 1) .z) rfl (uJ (Eq.symm (Nat.min_eq_left (qA [_,_,_] 1 (.v 0) (.v 1) (.c 1 (.a (.v 0) (.a (.v 2) (.n 1))) (.v 1) .z) rfl h3))))))
  have e1 : ((t.take a).take ((t.take a).length - b + 1)).drop ((t.take a).length - b) = [t[a]'(by lia)] := by
   rw [hl, List.take_take, Nat.min_eq_left (by (clear hl; omega))]
   have h5 := h4 0 (by exact Nat.succ_pos _)
   rw [Nat.add_zero, List.getElem?_eq_getElem (show a < t.length by lia), List.getElem?_eq_getElem (show a - b < t.length by (clear h1; lia))] at h5
   rw [take_step (by lia), List.drop_append, List.drop_of_length_le (by rw [List.length_take]; exact Nat.min_le_left _ _), List.length_take, Nat.min_eq_left (by lia), Nat.sub_self, List.nil_append, List.drop_zero]
   congr 1
   exact (Option.some.inj h5).symm
  rw [e1, ← take_step (by lia), cpy_take k (a + 1) h1 (by exact Nat.le_trans ‹_› (Nat.le_add_right _ _)) (by exact (qA [_,_,_] 1 (.a (.a (.v 0) (.n 1)) (.v 1)) (.v 2) (.c 1 (.a (.v 0) (.a (.v 1) (.n 1))) (.v 2) .z) rfl h3)) fun i hi => ?_]
  ·congr 1; exact (Nat.le_antisymm (qA [_,_] 1 (.a (.a (.v 0) (.n 1)) (.v 1)) (.a (.v 0) (.a (.v 1) (.n 1))) .z rfl ) (qA [_,_] 1 (.a (.v 0) (.a (.v 1) (.n 1))) (.a (.a (.v 0) (.n 1)) (.v 1)) .z rfl ))
  ·have := h4 (i + 1) (by exact Nat.add_lt_add_right ‹_› _)
   rw [show a + 1 + i = a + (i + 1) by exact (Nat.le_antisymm (qA [_,_] 1 (.a (.a (.v 0) (.n 1)) (.v 1)) (.a (.v 0) (.a (.v 1) (.n 1))) .z rfl ) (qA [_,_] 1 (.a (.v 0) (.a (.v 1) (.n 1))) (.a (.a (.v 0) (.n 1)) (.v 1)) .z rfl ))]; exact this
theorem fac_get {t : List Nat} {s l i : Nat} (hi : i < l) : (fac t s l)[i]? = t[s + i]? := by
 unfold fac
 rw [List.getElem?_take_of_lt hi, List.getElem?_drop]
theorem spell_step {t : List Nat} {s : Nat} (hn : t.length ≤ 10) (ha : abc3 t) (h : s < t.length) :
  (codeOf t s / 16 = 0 ∨ codeOf t s % 16 ≤ s) ∧ codeOf t s / 16 ≤ 10 ∧ spell1 (codeOf t s / 16) (codeOf t s % 16) (t.take s) = t.take (s + max (stood t s) 1) := by
 unfold codeOf
 split
 ·rename_i q
  rw [List.getD_eq_getElem?_getD, List.getElem?_eq_getElem h]
  have hc := ha _ (List.getElem_mem h)
  simp only [Option.getD_some]
  rw [q, Nat.div_eq_of_lt (by exact (Or.elim hc (fun q0 => (qA [_,_] 1 (.a (.v 0) (.n 1)) (.n 16) (.c 1 (.a (.v 0) (.n 97)) (.v 1) (.c 1 (.v 1) (.n 97) .z)) rfl (jL (qA [_] 1 (.n 97) (.v 0) (.c 1 (.n 97) (.v 0) .z) rfl (uJ (Eq.symm q0)))) (uJ q0))) fun q0 => (Or.elim q0 (fun q1 => (qA [_,_] 1 (.a (.v 0) (.n 1)) (.n 16) (.c 1 (.a (.v 0) (.n 97)) (.v 1) (.c 1 (.v 1) (.n 98) .z)) rfl (jL (qA [_] 1 (.n 97) (.v 0) (.c 1 (.n 98) (.v 0) .z) rfl (uJ (Eq.symm q1)))) (uJ q1))) fun q1 => (qA [_,_] 1 (.a (.v 0) (.n 1)) (.n 16) (.c 1 (.a (.v 0) (.n 97)) (.v 1) (.c 1 (.v 1) (.n 99) .z)) rfl (jL (qA [_] 1 (.n 97) (.v 0) (.c 1 (.n 99) (.v 0) .z) rfl (uJ (Eq.symm q1)))) (uJ q1))))), Nat.mod_eq_of_lt (by exact (Or.elim hc (fun q0 => (qA [_,_] 1 (.a (.v 0) (.n 1)) (.n 16) (.c 1 (.a (.v 0) (.n 97)) (.v 1) (.c 1 (.v 1) (.n 97) .z)) rfl (jL (qA [_] 1 (.n 97) (.v 0) (.c 1 (.n 97) (.v 0) .z) rfl (uJ (Eq.symm q0)))) (uJ q0))) fun q0 => (Or.elim q0 (fun q1 => (qA [_,_] 1 (.a (.v 0) (.n 1)) (.n 16) (.c 1 (.a (.v 0) (.n 97)) (.v 1) (.c 1 (.v 1) (.n 98) .z)) rfl (jL (qA [_] 1 (.n 97) (.v 0) (.c 1 (.n 98) (.v 0) .z) rfl (uJ (Eq.symm q1)))) (uJ q1))) fun q1 => (qA [_,_] 1 (.a (.v 0) (.n 1)) (.n 16) (.c 1 (.a (.v 0) (.n 97)) (.v 1) (.c 1 (.v 1) (.n 99) .z)) rfl (jL (qA [_] 1 (.n 97) (.v 0) (.c 1 (.n 99) (.v 0) .z) rfl (uJ (Eq.symm q1)))) (uJ q1)))))]
  refine ⟨.inl rfl, by exact Nat.zero_le _, ?_⟩
  show spell0 0 _ _ = _
  unfold spell0
  rw [if_pos rfl, Nat.zero_max, take_step h]
  congr 1
  rcases hc with e | e | e <;> rw [e] <;> rfl
 ·rename_i q
  have hl := stood_le t s
  have hfl : (fac t s (stood t s)).length = stood t s := kR (by exact (qA [_,_,_,_] 1 (.a (.v 0) (.v 1)) (.v 2) (.c 1 (.a (.v 3) (.v 0)) (.v 2) (.c 1 (.v 1) (.v 3) .z)) rfl (jL (qA [_,_] 1 (.v 0) (.v 1) (.c 1 (.a (.v 0) (.n 1)) (.v 1) .z) rfl h)) hl))
  obtain ⟨j, h1, h2⟩ := (vH t s (stood t s) (by exact (Or.elim (Nat.lt_or_gt_of_ne q) (fun q0 => (False.elim (jY [_] (.c 1 (.a (.v 0) (.n 1)) (.n 0) .z) rfl q0))) fun q0 => (qA [_] 1 (.n 1) (.v 0) (.c 1 (.a (.n 0) (.n 1)) (.v 0) .z) rfl q0))) (by lia)).mpr (Nat.le_refl _)
  obtain ⟨f1, f2, f3, f4⟩ := first_spec (t := t) (p := fac t s (stood t s)) (i := j) (by (clear q; exact (qA [_,_,_,_,_,_] 1 (.a (.v 0) (.v 1)) (.v 2) (.c 1 (.a (.v 3) (.v 4)) (.v 2) (.c 1 (.a (.v 0) (.n 1)) (.v 4) (.c 1 (.v 1) (.v 5) (.c 1 (.v 5) (.v 3) .z)))) rfl (jL (qA [_,_] 1 (.v 0) (.v 1) (.c 1 (.a (.v 0) (.n 1)) (.v 1) .z) rfl h)) h1 (uJ hfl) hl))) (by rw [hfl]; exact h2)
  rw [hfl] at f2
  generalize first t (fac t s (stood t s)) = p at f1 f2 f3 f4
  generalize stood t s = l at q hl f2 hfl
  have e1 : (16 * l + (s - p)) / 16 = l := by exact (Nat.le_antisymm (qA [_,_,_,_,_,_] 16 (.v 0) (.v 1) (.c 1 (.v 2) (.v 3) (.c 1 (.a (.m 16 (.v 0)) (.v 4)) (.a (.m 16 (.v 1)) (.v 2)) (.c 1 (.a (.v 3) (.n 1)) (.v 5) (.c 1 (.v 5) (.n 10) .z)))) rfl (Nat.sub_le _ _) (modLe (16 * l + (s - p)) 16) h hn) (qA [_,_,_,_] 16 (.v 0) (.v 1) (.c 1 (.a (.m 16 (.v 0)) (.v 2)) (.a (.m 16 (.v 1)) (.v 3)) (.c 1 (.a (.v 3) (.n 1)) (.n 16) .z)) rfl (modGe (16 * l + (s - p)) 16) (Nat.mod_lt _ (by decide))))
  have e2 : (16 * l + (s - p)) % 16 = s - p := by exact (Nat.le_antisymm (qA [_,_,_,_] 1 (.v 0) (.v 1) (.c 1 (.a (.m 16 (.v 2)) (.v 0)) (.a (.m 16 (.v 3)) (.v 1)) (.c 16 (.v 3) (.v 2) .z)) rfl (modLe (16 * l + (s - p)) 16) (uJ (Eq.symm e1))) (qA [_,_,_,_] 1 (.v 0) (.v 1) (.c 1 (.a (.m 16 (.v 2)) (.v 0)) (.a (.m 16 (.v 3)) (.v 1)) (.c 16 (.v 3) (.v 2) .z)) rfl (modGe (16 * l + (s - p)) 16) (uJ e1)))
  rw [e1, e2]
  refine ⟨.inr (by exact Nat.sub_le _ _), by (clear h1; exact (qA [_,_,_] 1 (.v 0) (.n 10) (.c 1 (.v 1) (.v 2) (.c 1 (.v 0) (.v 1) (.c 1 (.v 2) (.n 10) .z))) rfl (Nat.sub_le _ _) hl hn)), ?_⟩
  unfold spell1 spell0
  rw [if_neg (by assumption), List.append_nil, Nat.max_eq_left (by exact Nat.pos_of_ne_zero ‹_›)]
  refine cpy_take l s (by exact (qA [_,_,_,_] 1 (.n 1) (.v 0) (.c 1 (.v 1) (.a (.v 0) (.v 2)) (.c 1 (.v 2) (.v 3) (.c 1 (.a (.v 3) (.n 1)) (.v 1) .z))) rfl (jV _ _) f1 h1)) (by exact (qA [_,_] 1 (.v 0) (.v 1) (.c 1 (.v 0) (.v 1) .z) rfl (Nat.sub_le _ _))) (by (clear q; exact (qA [_,_,_,_] 1 (.a (.v 0) (.v 1)) (.v 2) (.c 1 (.a (.v 3) (.v 0)) (.v 2) (.c 1 (.v 1) (.v 3) .z)) rfl (jL (qA [_,_] 1 (.v 0) (.v 1) (.c 1 (.a (.v 0) (.n 1)) (.v 1) .z) rfl h)) hl))) fun i hi => ?_
  have := congrArg (fun z => z[i]?) f2
  simp only [fac_get hi] at this
  rw [← this]; congr 1; exact (Nat.le_antisymm (qA [_,_,_,_,_] 1 (.a (.v 0) (.v 1)) (.v 2) (.c 1 (.a (.v 3) (.v 1)) (.a (.v 2) (.v 4)) (.c 1 (.a (.v 4) (.v 0)) (.v 3) .z)) rfl (jV _ _) (jL (qA [_,_,_] 1 (.v 0) (.v 1) (.c 1 (.v 0) (.v 2) (.c 1 (.a (.v 2) (.n 1)) (.v 1) .z)) rfl f1 h1))) (qA [_,_,_,_,_] 1 (.v 0) (.a (.v 1) (.v 2)) (.c 1 (.a (.v 0) (.v 3)) (.a (.v 4) (.v 2)) (.c 1 (.v 4) (.a (.v 3) (.v 1)) .z)) rfl (jL (qA [_,_,_] 1 (.v 0) (.a (.v 1) (.v 2)) (.c 1 (.v 0) (.v 1) .z) rfl (Nat.sub_le _ _))) (jV _ _)))
theorem spell_chain {t : List Nat} {u : Nat} (hn : t.length ≤ 10) (ha : abc3 t) (hu : 0 < u) : ∀ {cs : List (Nat × Nat × Nat)} {s : Nat}, Chain t s cs → spOk u (t.take s) (cs.map fun c => c.2.2 * u) ∧ spell u (t.take s) (cs.map fun c => c.2.2 * u) = t
 | [], s, h => by
  rw [show s = t.length from h, List.take_length]
  exact ⟨trivial, rfl⟩
 | x :: r, s, ⟨h1, h2, h3⟩ => by
  obtain ⟨a, b, c⟩ := spell_step hn ha h1
  have ih := spell_chain hn ha hu h3
  rw [List.map_cons, spell, spOk, h2]
  dsimp only
  rw [Nat.mul_div_cancel _ hu, c]
  have hl : (t.take s).length = s := by rw [List.length_take]; exact (Nat.le_antisymm (qA [_,_] 1 (.v 0) (.v 1) (.c 1 (.v 0) (.v 1) .z) rfl (Nat.min_le_left _ _)) (qA [_,_] 1 (.v 0) (.v 1) (.c 1 (.v 0) (.v 1) .z) rfl (uJ (Eq.symm (Nat.min_eq_left (qA [_,_] 1 (.v 0) (.v 1) (.c 1 (.a (.v 0) (.n 1)) (.v 1) .z) rfl h1))))))
  rw [hl]
  exact ⟨⟨⟨a, by exact (qA [_,_,_] 1 (.a (.v 0) (.v 1)) (.n 10000) (.c 1 (.v 1) (.n 10) (.c 1 (.a (.v 0) (.n 1)) (.v 2) (.c 1 (.v 2) (.n 10) .z))) rfl b h1 hn)⟩, ih.1⟩, ih.2⟩
theorem first_at {t : List Nat} {s l : Nat} (h : s + l ≤ t.length) : first t (fac t s l) ≤ s ∧ fac t (first t (fac t s l)) l = fac t s l ∧ (∀ j, j + l ≤ t.length → fac t j l = fac t s l → first t (fac t s l) ≤ j) ∧ lfind t (fac t s l) 0 t.length = some (first t (fac t s l)) := by
 have hl := kR h
 have := first_spec (t := t) (p := fac t s l) (i := s) (by exact (qA [_,_,_,_] 1 (.a (.v 0) (.v 1)) (.v 2) (.c 1 (.v 1) (.v 3) (.c 1 (.a (.v 0) (.v 3)) (.v 2) .z)) rfl (uJ hl) h)) (by rw [hl])
 rw [hl] at this
 exact this
theorem first_lt {t : List Nat} {s l : Nat} (h1 : 1 ≤ l) (h : s + l ≤ t.length) : first t (fac t s l) < s ↔ l ≤ stood t s := by
 obtain ⟨a, b, c, d⟩ := first_at h
 rw [← vH t s l h1 h]
 constructor
 ·intro q; exact ⟨_, q, b⟩
 ·rintro ⟨j, q1, q2⟩
  have := c j (by exact (qA [_,_,_,_] 1 (.a (.v 0) (.v 1)) (.v 2) (.c 1 (.a (.v 0) (.n 1)) (.v 3) (.c 1 (.a (.v 3) (.v 1)) (.v 2) .z)) rfl q1 h)) q2
  exact Nat.lt_of_le_of_lt ‹_› ‹_›
noncomputable def endsOf (cs : List (Nat × Nat × Nat)) : List Nat := cs.map fun c => c.1 + c.2.1
theorem ends_up {t : List Nat} : ∀ {cs : List (Nat × Nat × Nat)} {s : Nat}, Chain t s cs → (endsOf cs).Pairwise (· < ·) ∧ ∀ e ∈ endsOf cs, s < e
 | [], s, h => ⟨.nil, fun e he => by cases he⟩
 | x :: r, s, ⟨h1, h2, h3⟩ => by
  obtain ⟨a, b⟩ := ends_up h3
  have hx : x.1 + x.2.1 = s + max (stood t s) 1 := by rw [h2]
  refine ⟨.cons (fun e he => by have := b e he; show x.1 + x.2.1 < e; (clear h2; exact (qA [_,_,_,_,_] 1 (.a (.a (.v 0) (.v 1)) (.n 1)) (.v 2) (.c 1 (.a (.a (.v 3) (.v 4)) (.n 1)) (.v 2) (.c 1 (.a (.v 0) (.v 1)) (.a (.v 3) (.v 4)) .z)) rfl this (uJ hx)))) a, fun e he => ?_⟩
  rcases List.mem_cons.mp he with rfl | he
  ·show s < x.1 + x.2.1; exact (qA [_,_,_,_] 1 (.a (.v 0) (.n 1)) (.a (.v 1) (.v 2)) (.c 1 (.n 1) (.v 3) (.c 1 (.a (.v 0) (.v 3)) (.a (.v 1) (.v 2)) .z)) rfl (Nat.le_max_right _ _) (uJ (Eq.symm hx)))
  ·have := b e he; exact (qA [_,_,_] 1 (.a (.v 0) (.n 1)) (.v 1) (.c 1 (.a (.a (.v 0) (.v 2)) (.n 1)) (.v 1) .z) rfl this)
theorem cover {t : List Nat} : ∀ {cs : List (Nat × Nat × Nat)} {s x : Nat}, Chain t s cs → s ≤ x → x < t.length → ∃ c ∈ cs, c.1 ≤ x ∧ x < c.1 + c.2.1
 | [], s, x, h, h1, h2 => by have : s = t.length := h; omega
 | y :: r, s, x, ⟨h1, h2, h3⟩, h4, h5 => by
  by_cases q : x < s + max (stood t s) 1
  ·exact ⟨y, List.mem_cons_self, by rw [h2]; exact h4, by rw [h2]; exact q⟩
  ·obtain ⟨c, hc, h6⟩ := cover h3 (by exact Nat.le_of_not_lt ‹_›) h5
   exact ⟨c, List.mem_cons_of_mem _ hc, h6⟩
noncomputable def cntLe (l : List Nat) (v : Nat) : Nat := (l.filter fun e => decide (e ≤ v)).length
theorem cnt_mono (l : List Nat) {v w : Nat} (h : v ≤ w) : cntLe l v ≤ cntLe l w := by
 unfold cntLe
 induction l with
 | nil => exact Nat.le_refl _
 | cons x l ih =>
  rw [List.filter_cons, List.filter_cons]
  by_cases q : x ≤ v
  ·rw [if_pos (by simpa using q), if_pos (by simpa using (by exact Nat.le_trans ‹_› ‹_› : x ≤ w))]; simpa using ih
  ·rw [if_neg (by simpa using q)]
   split
   ·rw [List.length_cons]; exact Nat.le_trans ‹_› (Nat.le_add_right _ _)
   ·exact ih
theorem cnt_lt : ∀ (l : List Nat) {v w e : Nat}, e ∈ l → v < e → e ≤ w → cntLe l v < cntLe l w
 | x :: l, v, w, e, he, h1, h2 => by
  have hm := cnt_mono l (show v ≤ w by exact (qA [_,_,_] 1 (.v 0) (.v 1) (.c 1 (.v 2) (.v 1) (.c 1 (.a (.v 0) (.n 1)) (.v 2) .z)) rfl h2 h1))
  rcases List.mem_cons.mp he with rfl | he
  ·unfold cntLe at hm ⊢
   rw [List.filter_cons, List.filter_cons, if_neg (by simpa using h1), if_pos (by simpa using h2), List.length_cons]
   exact Nat.lt_succ_of_le ‹_›
  ·have ih := cnt_lt l he h1 h2
   unfold cntLe at ih ⊢
   rw [List.filter_cons, List.filter_cons]
   by_cases q : x ≤ v
   ·rw [if_pos (by simpa using q), if_pos (by simpa using (by exact (qA [_,_,_,_] 1 (.v 0) (.v 1) (.c 1 (.v 0) (.v 2) (.c 1 (.v 3) (.v 1) (.c 1 (.a (.v 2) (.n 1)) (.v 3) .z))) rfl q h2 h1) : x ≤ w))]; simpa using ih
   ·rw [if_neg (by simpa using q)]
    split
    ·rw [List.length_cons]; exact Nat.lt_succ_of_lt ‹_›
    ·exact ih
theorem behind_lt {t : List Nat} {cs : List (Nat × Nat × Nat)} (hc : Chain t 0 cs) {a b : Nat} (h : a < b) (hb : b ≤ t.length) :
  cntLe (endsOf cs) (first t (fac t a (b - a))) < cntLe (endsOf cs) (first t (fac t a (b - a)) + b - a) := by
 refine qC fun P kG => ?_
 obtain ⟨f1, f2, f3, f4⟩ := first_at (t := t) (s := a) (l := b - a) (by exact (qA [_,_,_,_] 1 (.a (.v 0) (.v 1)) (.v 2) (.c 1 (.a (.v 1) (.v 0)) (.v 3) (.c 1 (.v 3) (.v 2) .z)) rfl (jL (qA [_,_] 1 (.v 0) (.v 1) (.c 1 (.a (.v 0) (.n 1)) (.v 1) .z) rfl h)) hb))
 refine kG ?_
 clear kG P
 generalize first t (fac t a (b - a)) = p at f1 f2 f3 f4
 refine qC fun P kG => ?_
 obtain ⟨c, hm, c1, c2⟩ := cover hc (Nat.zero_le p) (by exact (qA [_,_,_,_] 1 (.a (.v 0) (.n 1)) (.v 1) (.c 1 (.v 0) (.v 2) (.c 1 (.v 3) (.v 1) (.c 1 (.a (.v 2) (.n 1)) (.v 3) .z))) rfl f1 hb h))
 obtain ⟨m1, m2, m3, m4⟩ := chain_mem hc c hm
 refine kG ?_
 clear kG P
 by_cases q : c.1 + c.2.1 ≤ p + (b - a)
 ·exact cnt_lt (endsOf cs) (e := c.1 + c.2.1) (List.mem_map_of_mem (f := fun c => c.1 + c.2.1) hm) c2 (by (clear c2; exact (qA [_,_,_,_,_,_,_] 1 (.a (.v 0) (.v 1)) (.v 2) (.c 1 (.a (.v 3) (.v 4)) (.a (.v 2) (.v 5)) (.c 1 (.a (.v 6) (.v 5)) (.v 4) (.c 1 (.a (.v 0) (.v 1)) (.a (.v 3) (.v 6)) .z))) rfl (jV _ _) (jL (qA [_,_] 1 (.v 0) (.v 1) (.c 1 (.a (.v 0) (.n 1)) (.v 1) .z) rfl h)) q)))
 ·exfalso
  have hle := max_le t m2
  have hst : c.2.1 ≤ stood t c.1 := by (clear c2; exact (Or.elim (Nat.le_total (stood t c.fst) (1)) (fun q0 => (False.elim (jY [_,_,_,_,_,_,_] (.c 1 (.v 0) (.a (.v 1) (.v 2)) (.c 1 (.v 3) (.n 1) (.c 1 (.a (.a (.v 4) (.v 1)) (.n 1)) (.a (.v 5) (.v 6)) (.c 1 (.v 6) (.v 3) (.c 1 (.v 5) (.v 4) (.c 1 (.a (.v 2) (.n 1)) (.v 0) .z)))))) rfl (jV _ _) (uJ (Nat.max_eq_right (qA [_] 1 (.v 0) (.n 1) (.c 1 (.v 0) (.n 1) .z) rfl q0))) (Nat.not_le.mp q) (uJ m3) c1 h))) fun q0 => (qA [_,_,_] 1 (.v 0) (.v 1) (.c 1 (.v 2) (.v 1) (.c 1 (.v 0) (.v 2) .z)) rfl (uJ (Nat.max_eq_left (qA [_] 1 (.n 1) (.v 0) (.c 1 (.n 1) (.v 0) .z) rfl q0))) (uJ m3))))
  refine qC fun P kG => ?_
  obtain ⟨j, j1, j2⟩ := (vH t c.1 c.2.1 (by exact (qA [_,_,_,_] 1 (.n 1) (.v 0) (.c 1 (.a (.a (.v 1) (.v 2)) (.n 1)) (.a (.v 3) (.v 0)) (.c 1 (.v 3) (.v 1) .z)) rfl (Nat.not_le.mp q) c1)) (by exact (qA [_,_,_,_] 1 (.a (.v 0) (.v 1)) (.v 2) (.c 1 (.a (.v 0) (.v 3)) (.v 2) (.c 1 (.v 1) (.v 3) .z)) rfl hle (uJ m3)))).mpr hst
  refine kG ?_
  clear kG P
  have h4 := congrArg (fun l => fac l (p - c.1) (b - a)) j2
  simp only [fac_sub _ _ _ _ _ (show p - c.1 + (b - a) ≤ c.2.1 by exact (qA [_,_,_,_,_] 1 (.a (.v 0) (.v 1)) (.v 2) (.c 1 (.a (.v 0) (.v 3)) (.v 4) (.c 1 (.a (.a (.v 4) (.v 1)) (.n 1)) (.a (.v 3) (.v 2)) .z)) rfl (jL (qA [_,_] 1 (.v 0) (.v 1) (.c 1 (.v 0) (.v 1) .z) rfl c1)) (Nat.not_le.mp q)))] at h4
  rw [show c.1 + (p - c.1) = p by exact Nat.add_sub_of_le ‹_›, f2] at h4
  have := f3 (j + (p - c.1)) (by exact (qA [_,_,_,_,_,_,_,_] 1 (.a (.a (.v 0) (.v 1)) (.v 2)) (.v 3) (.c 1 (.a (.v 1) (.v 4)) (.v 5) (.c 1 (.a (.v 0) (.n 1)) (.v 4) (.c 1 (.a (.v 4) (.v 6)) (.v 3) (.c 1 (.a (.a (.v 5) (.v 2)) (.n 1)) (.a (.v 4) (.v 7)) (.c 1 (.v 7) (.v 6) .z))))) rfl (jL (qA [_,_] 1 (.v 0) (.v 1) (.c 1 (.v 0) (.v 1) .z) rfl c1)) j1 hle (Nat.not_le.mp q) (uJ m3))) h4
  exact (jY [_,_,_,_] (.c 1 (.a (.v 0) (.v 1)) (.v 2) (.c 1 (.v 2) (.a (.v 3) (.v 0)) (.c 1 (.a (.v 3) (.n 1)) (.v 1) .z))) rfl (jL (qA [_,_] 1 (.v 0) (.v 1) (.c 1 (.v 0) (.v 1) .z) rfl c1)) this j1)
theorem at_pre (a b : List Nat) : At' (a ++ b) a (a ++ b).length 0 := by
 rw [kB]
 refine ⟨by simp, ?_⟩
 unfold fac
 simp
theorem at_suf (a b : List Nat) : At' (a ++ b) b (a ++ b).length ((a ++ b).length - b.length) := by
 rw [kB]
 refine ⟨by simp, ?_⟩
 unfold fac
 simp
theorem ellEnd_eq (g : List Nat) (ws : List (List Nat)) (w : List Nat) (s : Nat) (h : ws.getLastD [] = w) : ellEnd g ws s = if w = [] then decide (s ≤ g.length) && scan g g.length ws s
  else if w.length ≤ g.length ∧ At' g w g.length (g.length - w.length) then decide (s ≤ g.length - w.length) && scan g (g.length - w.length) ws.dropLast s else false := by
 subst h; rfl
theorem scan_hd {g w : List Nat} {e i s : Nat} {ws : List (List Nat)} (h : lfind g w s e = some i) : scan g e (w :: ws) s = scan g e ws (i + w.length) := by
 rw [scan, h]
theorem nil_find (t : List Nat) {s e : Nat} (h1 : s ≤ e) : lfind t [] s e = some s :=
 lfind_eq (Nat.le_refl _) ((kB _ _ _ _).mpr ⟨by simpa using h1, by unfold fac; rfl⟩) fun j h3 h4 => by exact absurd ‹_› (Nat.not_lt_of_le ‹_›)
theorem ell_true (a p b : List Nat) : ellM [a, b] (a ++ p ++ b) = true := by
 have hb : b.length ≤ (a ++ p ++ b).length ∧ At' (a ++ p ++ b) b (a ++ p ++ b).length ((a ++ p ++ b).length - b.length) := ⟨by simp only [List.length_append]; exact Nat.le_add_left _ _, at_suf (a ++ p) b⟩
 have hlen : (a ++ p ++ b).length = a.length + p.length + b.length := by simp only [List.length_append]
 have ha : At' (a ++ p ++ b) a (a ++ p ++ b).length 0 := by rw [List.append_assoc]; exact at_pre a (p ++ b)
 have h0 : ellM [a, b] (a ++ p ++ b) = if a = [] then ellEnd (a ++ p ++ b) [a, b] 0 else if At' (a ++ p ++ b) a (a ++ p ++ b).length 0 then ellEnd (a ++ p ++ b) [b] a.length else false := rfl
 rw [h0]
 generalize a ++ p ++ b = t at hb hlen ha
 split
 ·rename_i q
  rw [ellEnd_eq t [a, b] b 0 rfl]
  split
  ·rename_i q2
   rw [decide_eq_true (Nat.zero_le _), Bool.true_and, q, q2, scan_hd (nil_find t (Nat.zero_le _))]
   show scan t _ [[]] 0 = true
   rw [scan_hd (nil_find t (Nat.zero_le _))]
   rfl
  ·rw [decide_eq_true (Nat.zero_le _), Bool.true_and, q]
   show scan t _ [[]] 0 = true
   rw [scan_hd (nil_find t (Nat.zero_le _))]
   rfl
 ·rw [ellEnd_eq t [b] b _ rfl]
  split
  ·rename_i q2
   rw [decide_eq_true (by exact (qA [_,_,_,_] 1 (.v 0) (.v 1) (.c 1 (.a (.a (.v 0) (.v 2)) (.v 3)) (.v 1) .z) rfl (uJ (Eq.symm hlen)))), Bool.true_and, q2, scan_hd (nil_find t (by lia))]
   rfl
  ·rw [decide_eq_true (by exact (qA [_,_,_,_,_] 1 (.v 0) (.v 1) (.c 1 (.v 2) (.a (.v 1) (.v 3)) (.c 1 (.a (.a (.v 0) (.v 4)) (.v 3)) (.v 2) .z)) rfl (jV _ _) (uJ (Eq.symm hlen)))), Bool.true_and]
   rfl
theorem ell_false (a b t : List Nat) (ha : a ≠ []) (hb : b ≠ []) (hl : t.length < a.length + b.length) : ellM [a, b] t = false := by
 have h0 : ellM [a, b] t = if a = [] then ellEnd t [a, b] 0 else if At' t a t.length 0 then ellEnd t [b] a.length else false := rfl
 rw [h0, if_neg ha]
 split
 ·rw [ellEnd_eq t [b] b _ rfl, if_neg hb]
  split
  ·rename_i q
   rw [decide_eq_false (by exact (fun q0 => (jY [_,_,_,_] (.c 1 (.a (.v 0) (.v 1)) (.v 2) (.c 1 (.v 3) (.v 0) (.c 1 (.a (.v 2) (.n 1)) (.a (.v 3) (.v 1)) .z))) rfl (jL (qA [_,_] 1 (.v 0) (.v 1) (.c 1 (.v 0) (.v 1) .z) rfl (And.left q))) q0 hl))), Bool.false_and]
  ·rfl
 ·rfl
theorem lfind_iff {t p : List Nat} {lo hi : Nat} (hh : hi ≤ t.length) : (∃ i, lfind t p lo hi = some i) ↔ ∃ i, lo ≤ i ∧ i + p.length ≤ hi ∧ fac t i p.length = p := by
 constructor
 ·rintro ⟨i, h⟩
  obtain ⟨a, b, _⟩ := vB h
  rw [kB] at b
  exact ⟨i, a, b⟩
 ·rintro ⟨i, a, b⟩
  cases h : lfind t p lo hi with
  | some j => exact ⟨j, rfl⟩
  | none => exact absurd ((kB t p hi i).mpr b) (lfind_none h i a)
theorem has_drop {t q : List Nat} {s : Nat} (hs : s ≤ t.length) : hasL (t.drop s) q = true ↔ ∃ i, s ≤ i ∧ i + q.length ≤ t.length ∧ fac t i q.length = q := by
 rw [hasL_iff]
 have hl : (t.drop s).length = t.length - s := List.length_drop
 have hf : ∀ i k, fac (t.drop s) i k = fac t (s + i) k := fun i k => by unfold fac; rw [List.drop_drop]
 constructor
 ·rintro ⟨i, h⟩
  rw [kB, hl, hf] at h
  exact ⟨s + i, by exact Nat.le_add_right _ _, by exact (qA [_,_,_,_,_] 1 (.a (.a (.v 0) (.v 1)) (.v 2)) (.v 3) (.c 1 (.a (.v 4) (.v 0)) (.v 3) (.c 1 (.a (.v 1) (.v 2)) (.v 4) .z)) rfl (jL (qA [_,_] 1 (.v 0) (.v 1) (.c 1 (.v 0) (.v 1) .z) rfl hs)) (And.left h)), h.2⟩
 ·rintro ⟨i, h1, h2, h3⟩
  refine ⟨i - s, ?_⟩
  rw [kB, hl, hf, show s + (i - s) = i by exact Nat.add_sub_of_le ‹_›]
  exact ⟨by exact (qA [_,_,_,_,_,_] 1 (.a (.v 0) (.v 1)) (.v 2) (.c 1 (.a (.v 0) (.v 3)) (.v 4) (.c 1 (.v 5) (.a (.v 2) (.v 3)) (.c 1 (.a (.v 4) (.v 1)) (.v 5) .z))) rfl (jL (qA [_,_] 1 (.v 0) (.v 1) (.c 1 (.v 0) (.v 1) .z) rfl h1)) (jV _ _) h2), h3⟩
theorem ell_two (p q t : List Nat) (hp : p ≠ []) (hq : q ≠ []) :
  ellM [[], p, q, []] t = decide (((List.range t.length).filter fun x => hasL (t.take x) p && hasL (t.drop x) q) ≠ []) := by
 have hpl := List.length_pos_iff.mpr hp
 have hql := List.length_pos_iff.mpr hq
 have e0 : ellM [[], p, q, []] t = scan t t.length [[], p, q, []] 0 := by
  have h0 : ellM [[], p, q, []] t = ellEnd t [[], p, q, []] 0 := rfl
  rw [h0, ellEnd_eq t [[], p, q, []] [] 0 rfl, if_pos rfl, decide_eq_true (Nat.zero_le _), Bool.true_and]
 rw [e0, scan_hd (nil_find t (Nat.zero_le _)), Bool.eq_iff_iff, decide_eq_true_iff]
 have hright : ((List.range t.length).filter fun x => hasL (t.take x) p && hasL (t.drop x) q) ≠ [] ↔ ∃ x, x < t.length ∧ (∃ i, i + p.length ≤ x ∧ fac t i p.length = p) ∧ ∃ j, x ≤ j ∧ j + q.length ≤ t.length ∧ fac t j q.length = q := by
  rw [ne_eq, List.filter_eq_nil_iff]
  constructor
  ·intro h
   refine Classical.byContradiction fun hc => h fun x hx hb => hc ⟨x, ?_⟩
   rw [List.mem_range] at hx
   rw [Bool.and_eq_true, has_take (by exact Nat.le_of_lt ‹_›), has_drop (by exact (qA [_,_] 1 (.v 0) (.v 1) (.c 1 (.a (.v 0) (.n 1)) (.v 1) .z) rfl hx))] at hb
   exact ⟨hx, hb⟩
  ·rintro ⟨x, hx, hb⟩ h
   refine h x (by rw [List.mem_range]; exact hx) ?_
   rw [Bool.and_eq_true, has_take (by exact Nat.le_of_lt ‹_›), has_drop (by exact (qA [_,_] 1 (.v 0) (.v 1) (.c 1 (.a (.v 0) (.n 1)) (.v 1) .z) rfl hx))]
   exact hb
 rw [hright]
 constructor
 ·intro h
  rw [scan] at h
  cases h1 : lfind t p (0 + ([] : List Nat).length) t.length with
  | none => rw [h1] at h; cases h
  | some i =>
   rw [h1] at h
   dsimp only at h
   rw [scan] at h
   cases h2 : lfind t q (i + p.length) t.length with
   | none => rw [h2] at h; cases h
   | some j =>
    refine qC fun P kG => ?_
    obtain ⟨a1, a2, _⟩ := vB h1
    obtain ⟨b1, b2, _⟩ := vB h2
    refine kG ?_
    clear kG P
    rw [kB] at a2 b2
    exact ⟨i + p.length, by (clear a2; exact (qA [_,_,_,_,_] 1 (.a (.a (.v 0) (.v 1)) (.n 1)) (.v 2) (.c 1 (.a (.v 3) (.v 4)) (.v 2) (.c 1 (.a (.v 0) (.v 1)) (.v 3) (.c 1 (.a (.n 0) (.n 1)) (.v 4) .z))) rfl (And.left b2) b1 hql)), ⟨i, Nat.le_refl _, a2.2⟩, j, b1, b2.1, b2.2⟩
 ·rintro ⟨x, hx, ⟨i, i1, i2⟩, j, j1, j2, j3⟩
  refine qC fun P kG => ?_
  obtain ⟨i', h1⟩ := (lfind_iff (t := t) (p := p) (lo := 0 + ([] : List Nat).length) (Nat.le_refl _)).mpr ⟨i, Nat.zero_le _, by exact (qA [_,_,_,_] 1 (.a (.v 0) (.v 1)) (.v 2) (.c 1 (.a (.v 0) (.v 1)) (.v 3) (.c 1 (.a (.v 3) (.n 1)) (.v 2) .z)) rfl i1 hx), i2⟩
  obtain ⟨a1, a2, a3⟩ := vB h1
  refine kG ?_
  clear kG P
  rw [kB] at a2
  have hle : i' ≤ i := by
   rcases Nat.lt_or_ge i i' with h | h
   ·exact absurd ((kB t p t.length i).mpr ⟨by lia, i2⟩) (a3 i (Nat.zero_le _) h)
   ·exact h
  refine qC fun P kG => ?_
  obtain ⟨j', h2⟩ := (lfind_iff (t := t) (p := q) (lo := i' + p.length) (Nat.le_refl _)).mpr ⟨j, by exact (qA [_,_,_,_,_] 1 (.a (.v 0) (.v 1)) (.v 2) (.c 1 (.v 0) (.v 3) (.c 1 (.v 4) (.v 2) (.c 1 (.a (.v 3) (.v 1)) (.v 4) .z))) rfl hle j1 i1), j2, j3⟩
  obtain ⟨b1, b2, b3⟩ := vB h2
  refine kG ?_
  clear kG P
  rw [kB] at b2
  rw [scan_hd h1, scan_hd h2, scan_hd (nil_find t (by exact (qA [_,_,_] 1 (.a (.v 0) (.v 1)) (.v 2) (.c 1 (.a (.v 0) (.v 1)) (.v 2) .z) rfl (And.left b2))))]
  rfl
noncomputable def oct128 (n : Nat) : List Nat := (octL n).map (· + 128)
noncomputable def octs (ns : List Nat) : List Nat := (ns.map oct128).flatten
theorem octL_lt (n : Nat) : ∀ x ∈ octL n, x < 128 := by
 intro x hx
 unfold octL at hx
 split at hx
 ·simp only [List.mem_cons, List.not_mem_nil, or_false] at hx; exact (Or.elim hx (fun q0 => (qA [_,_] 1 (.a (.v 0) (.n 1)) (.n 128) (.c 1 (.a (.v 1) (.n 1)) (.n 64) (.c 1 (.v 0) (.a (.v 1) (.n 64)) .z)) rfl (Nat.mod_lt _ (by decide)) (uJ q0))) fun q0 => (Or.elim q0 (fun q1 => (qA [_,_] 1 (.a (.v 0) (.n 1)) (.n 128) (.c 1 (.a (.v 1) (.n 1)) (.n 64) (.c 1 (.v 0) (.a (.v 1) (.n 64)) .z)) rfl (Nat.mod_lt _ (by decide)) (uJ q1))) fun q1 => (qA [_,_] 1 (.a (.v 0) (.n 1)) (.n 128) (.c 1 (.a (.v 1) (.n 1)) (.n 64) (.c 1 (.v 0) (.v 1) .z)) rfl (Nat.mod_lt _ (by decide)) (uJ q1))))
 ·split at hx <;> simp only [List.mem_cons, List.not_mem_nil, or_false] at hx <;> (first | exact (Or.elim hx (fun q0 => (qA [_,_] 1 (.a (.v 0) (.n 1)) (.n 128) (.c 1 (.a (.v 1) (.n 1)) (.n 64) (.c 1 (.v 0) (.a (.v 1) (.n 64)) .z)) rfl (Nat.mod_lt _ (by decide)) (uJ q0))) fun q0 => (qA [_,_] 1 (.a (.v 0) (.n 1)) (.n 128) (.c 1 (.a (.v 1) (.n 1)) (.n 64) (.c 1 (.v 0) (.v 1) .z)) rfl (Nat.mod_lt _ (by decide)) (uJ q0))) | exact (qA [_,_] 1 (.a (.v 0) (.n 1)) (.n 128) (.c 1 (.a (.v 1) (.n 1)) (.n 64) (.c 1 (.v 0) (.v 1) .z)) rfl (Nat.mod_lt _ (by decide)) (uJ hx)))
theorem octL_len (n : Nat) : 1 ≤ (octL n).length ∧ (octL n).length ≤ 3 := by
 unfold octL
 split
 ·simp
 ·split <;> simp
theorem pv1_stop {v b : Nat} (h : b % 128 < 64) (r : List Nat) : pv1 v b r = some (v, r) := by
 cases r with
 | nil => unfold pv1; rw [if_pos h]
 | cons x r => unfold pv1; rw [if_pos h]
theorem q64 : ∀ {x : Nat}, x < 64 → (x + 128) % 64 = x ∧ (x + 128) % 128 < 64 ∧ (x + 64 + 128) % 64 = x ∧ ¬ (x + 64 + 128) % 128 < 64 := fun {x} h =>
 (show ∀ x, x < 64 → (x + 128) % 64 = x ∧ (x + 128) % 128 < 64 ∧ (x + 64 + 128) % 64 = x ∧ ¬ (x + 64 + 128) % 128 < 64 by decide +kernel) x h
theorem q64m (n : Nat) : n % 64 < 64 := Nat.mod_lt _ (by decide)
theorem q64d {n : Nat} (h : n < 4096) : n / 64 % 64 * 64 + n % 64 = n := by
 rw [Nat.mod_eq_of_lt (Nat.div_lt_of_lt_mul h : n / 64 < 64), Nat.mul_comm, Nat.div_add_mod]
theorem q64e {n : Nat} (h : n < 262144) : (n / 4096 % 64 * 64 + n / 64 % 64) * 64 + n % 64 = n := by
 have e1 : n / 4096 % 64 = n / 64 / 64 := (Nat.mod_eq_of_lt (Nat.div_lt_of_lt_mul h : n / 4096 < 64)).trans (Nat.div_div_eq_div_mul n 64 64).symm
 rw [e1, Nat.mul_comm (n / 64 / 64), Nat.div_add_mod, Nat.mul_comm, Nat.div_add_mod]
theorem pv_oct {n : Nat} (h : n < 262144) (r : List Nat) : pv (oct128 n ++ r) = some (n, r) := by
 have a := q64 (q64m n)
 have b := q64 (q64m (n / 64))
 have d := q64 (q64m (n / 4096))
 unfold oct128 octL
 split
 ·simp only [List.map_cons, List.map_nil, List.cons_append, List.nil_append, pv]
  rw [pv1, if_neg d.2.2.2, pv1, if_neg b.2.2.2, pv1_stop a.2.1, a.1, b.2.2.1, d.2.2.1, q64e h]
 ·rename_i h1
  split
  ·simp only [List.map_cons, List.map_nil, List.cons_append, List.nil_append, pv]
   rw [pv1, if_neg b.2.2.2, pv1_stop a.2.1, a.1, b.2.2.1, q64d (Nat.lt_succ_of_le (Nat.le_of_not_lt h1))]
  ·rename_i h2
   simp only [List.map_cons, List.map_nil, List.cons_append, List.nil_append, pv]
   rw [pv1_stop a.2.1, a.1, Nat.mod_eq_of_lt (Nat.lt_succ_of_le (Nat.le_of_not_lt h2))]
theorem pv_octD {n : Nat} (h : n < 262144) : pv (oct128 n).dropLast = none := by
 have b := q64 (q64m (n / 64))
 have d := q64 (q64m (n / 4096))
 unfold oct128 octL
 split
 ·simp only [List.map_cons, List.map_nil, List.dropLast, pv]
  rw [pv1, if_neg d.2.2.2, pv1, if_neg b.2.2.2]
 ·split
  ·simp only [List.map_cons, List.map_nil, List.dropLast, pv]
   rw [pv1, if_neg b.2.2.2]
  ·simp only [List.map_cons, List.map_nil, List.dropLast, pv]
theorem oct128_len (n : Nat) : 1 ≤ (oct128 n).length ∧ (oct128 n).length ≤ 3 := by
 unfold oct128; rw [List.length_map]; exact octL_len n
theorem reads_oct {tail : List Nat} (ht : pv tail = none) : ∀ (ns : List Nat) (f : Nat), (∀ n ∈ ns, n < 262144) → (octs ns ++ tail).length < f → reads f (octs ns ++ tail) = ns
 | [], f + 1, _, _ => by
  show reads (f + 1) tail = []
  rw [reads, ht]
 | n :: ns, f + 1, h, hl => by
  have e : octs (n :: ns) ++ tail = oct128 n ++ (octs ns ++ tail) := by
   unfold octs; rw [List.map_cons, List.flatten_cons, List.append_assoc]
  rw [e] at hl ⊢
  rw [reads, pv_oct (h n List.mem_cons_self)]
  have := (oct128_len n).1
  rw [List.length_append] at hl
  show n :: reads f (octs ns ++ tail) = _
  rw [reads_oct ht ns f (fun m hm => h m (List.mem_cons_of_mem _ hm)) (by exact (qA [_,_,_] 1 (.a (.v 0) (.n 1)) (.v 1) (.c 1 (.n 1) (.v 2) (.c 1 (.a (.a (.v 2) (.v 0)) (.n 1)) (.a (.v 1) (.n 1)) .z)) rfl this hl))]
theorem octs_snoc (ns : List Nat) (n : Nat) : octs (ns ++ [n]) = octs ns ++ oct128 n := by
 unfold octs; simp
theorem reads_all (ns : List Nat) (h : ∀ n ∈ ns, n < 262144) : reads ((octs ns).length + 1) (octs ns) = ns := by
 have := reads_oct (tail := []) rfl ns ((octs ns).length + 1) h (by simp)
 simpa using this
theorem reads_drop (ns : List Nat) (h : ∀ n ∈ ns, n < 262144) : reads ((octs ns).dropLast.length + 1) (octs ns).dropLast = ns.dropLast := by
 rcases List.eq_nil_or_concat ns with rfl | ⟨m, n, e⟩
 ·rfl
 ·rw [List.concat_eq_append] at e
  subst e
  have hne : oct128 n ≠ [] := by
   intro q
   have := (oct128_len n).1
   rw [q] at this; simp at this
  rw [octs_snoc, List.dropLast_append_of_ne_nil hne, List.dropLast_concat]
  exact reads_oct (pv_octD (h n (by simp))) m _ (fun k hk => h k (by simp [hk])) (by exact Nat.lt_succ_self _)
theorem octs_lt (ns : List Nat) : ∀ x ∈ octs ns, x < 256 := by
 intro x hx
 unfold octs oct128 at hx
 simp only [List.mem_flatten, List.mem_map] at hx
 obtain ⟨l, ⟨n, _, rfl⟩, hx⟩ := hx
 simp only [List.mem_map] at hx
 obtain ⟨y, hy, rfl⟩ := hx
 have := octL_lt n y hy
 exact Nat.add_lt_add_right ‹_› _
theorem octs_len : ∀ ns : List Nat, (octs ns).length ≤ 3 * ns.length
 | [] => Nat.le_refl _
 | n :: ns => by
  have e : octs (n :: ns) = oct128 n ++ octs ns := rfl
  rw [e, List.length_append, List.length_cons]
  have := octs_len ns
  have := (oct128_len n).2
  lia
theorem run_take : ∀ (r : List Nat) (b m : Nat), run b (r.take m) ≤ run b r
 | [], b, m => by simp
 | x :: r, b, 0 => by simp [run]
 | x :: r, b, m + 1 => by
  rw [List.take_succ_cons]
  unfold run
  split
  ·exact Nat.le_refl _
  ·exact Nat.succ_le_succ (run_take r x m)
theorem runs_take (l : List Nat) (m : Nat) : runs (l.take m) ≤ runs l := by
 cases l with
 | nil => simp
 | cons b r =>
  cases m with
  | zero => simp [runs]
  | succ m => rw [List.take_succ_cons]; exact run_take r b m
theorem run_stop {b : Nat} (h : b % 128 < 64) (r : List Nat) : run b r = 0 := by
 cases r with
 | nil => rfl
 | cons x r => unfold run; rw [if_pos h]
theorem run_go (b x : Nat) (r : List Nat) : run b (x :: r) ≤ run x r + 1 := by
 show (if b % 128 < 64 then 0 else run x r + 1) ≤ _
 split <;> simp
theorem runs_oct (n : Nat) (r : List Nat) (hr : ∀ k, runs (r.drop k) ≤ 6) : ∀ k, runs ((oct128 n ++ r).drop k) ≤ 6 := by
 intro k
 have hk : (oct128 n).length ≤ k → runs ((oct128 n ++ r).drop k) ≤ 6 := fun q => by
  rw [List.drop_append, List.drop_of_length_le q, List.nil_append]; exact hr _
 unfold oct128 octL at hk ⊢
 split at hk
 ·rename_i q
  rw [if_pos q]
  simp only [List.map_cons, List.map_nil, List.cons_append, List.nil_append, List.length_cons, List.length_nil] at hk ⊢
  match k with
  | 0 =>
   have a := run_go (n / 4096 % 64 + 64 + 128) (n / 64 % 64 + 64 + 128) ((n % 64 + 128) :: r)
   have b := run_go (n / 64 % 64 + 64 + 128) (n % 64 + 128) r
   have d := run_stop (q64 (q64m n)).2.1 r
   show run _ _ ≤ 6
   exact (qA [_,_,_] 1 (.v 0) (.n 6) (.c 1 (.v 1) (.n 0) (.c 1 (.v 2) (.a (.v 1) (.n 1)) (.c 1 (.v 0) (.a (.v 2) (.n 1)) .z))) rfl (uJ d) b a)
  | 1 =>
   have b := run_go (n / 64 % 64 + 64 + 128) (n % 64 + 128) r
   have d := run_stop (q64 (q64m n)).2.1 r
   show run _ _ ≤ 6
   exact (qA [_,_] 1 (.v 0) (.n 6) (.c 1 (.v 1) (.n 0) (.c 1 (.v 0) (.a (.v 1) (.n 1)) .z)) rfl (uJ d) b)
  | 2 =>
   have d := run_stop (q64 (q64m n)).2.1 r
   show run _ _ ≤ 6
   exact (qA [_] 1 (.v 0) (.n 6) (.c 1 (.v 0) (.n 0) .z) rfl (uJ d))
  | k + 3 => exact hk (by exact Nat.le_add_left _ _)
 ·rename_i q0
  split at hk
  ·rename_i q
   rw [if_neg q0, if_pos q]
   simp only [List.map_cons, List.map_nil, List.cons_append, List.nil_append, List.length_cons, List.length_nil] at hk ⊢
   match k with
   | 0 =>
    have b := run_go (n / 64 % 64 + 64 + 128) (n % 64 + 128) r
    have d := run_stop (q64 (q64m n)).2.1 r
    show run _ _ ≤ 6
    exact Nat.le_trans b (by rw [d]; decide)
   | 1 =>
    have d := run_stop (q64 (q64m n)).2.1 r
    show run _ _ ≤ 6
    exact (qA [_] 1 (.v 0) (.n 6) (.c 1 (.v 0) (.n 0) .z) rfl (uJ d))
   | k + 2 => exact hk (by exact Nat.le_add_left _ _)
  ·rename_i q
   rw [if_neg q0, if_neg q]
   simp only [List.map_cons, List.map_nil, List.cons_append, List.nil_append, List.length_cons, List.length_nil] at hk ⊢
   match k with
   | 0 =>
    have d := run_stop (q64 (q64m n)).2.1 r
    show run _ _ ≤ 6
    rw [d]; decide
   | k + 1 => exact hk (by exact Nat.succ_pos _)
theorem runs_octs : ∀ ns : List Nat, runsOk (octs ns)
 | [] => fun k => by simp [octs, runs]
 | n :: ns => fun k => by
  have e : octs (n :: ns) = oct128 n ++ octs ns := rfl
  rw [e]; exact runs_oct n _ (runs_octs ns) k
theorem runs_dropLast {l : List Nat} (h : runsOk l) : runsOk l.dropLast := fun k => by
 rw [List.dropLast_eq_take, List.drop_take]
 exact Nat.le_trans (runs_take _ _) (h k)
theorem placed_S (l : List Nat) (f : Nat → Nat → List Nat) (g : Nat → Nat) (h : ∀ i c, l[i]? = some c → f i c = [g c]) : (⟨placed (S l) f⟩ : Str) = S (l.map g) := by
 apply Str.ext'
 show placed (S l) f = (l.map g).toArray
 unfold placed
 have e : (S l).cps.mapIdx (fun i c => (f i c).toArray) = (l.map fun c => #[g c]).toArray := by
  apply Array.ext
  ·simp [S]
  ·intro i h1 h2
   have h3 : i < l.length := by simpa [S] using h1
   have h4 : l[i]? = some l[i] := List.getElem?_eq_getElem h3
   simp [S, h i _ h4]
 rw [e]
 clear h e
 apply Array.ext'
 rw [Array.toList_flatten]
 induction l with
 | nil => rfl
 | cons c l ih => simpa using ih
noncomputable def upc (c : Nat) : Nat := c - 32
noncomputable def AB (l : List Nat) : Prop := ∀ c ∈ l, c = 65 ∨ c = 66 ∨ c = 67
theorem S_upper {l : List Nat} (h : abc3 l) : Txt.upper (S l) = S (l.map upc) :=
 placed_S l (fun _ c => Unicode.upperOf c) upc fun i c e => by
  rcases h c (List.mem_of_getElem? e) with rfl | rfl | rfl <;> decide +kernel
theorem S_swap {l : List Nat} (h : abc3 l) : Txt.swapcase (S l) = S (l.map upc) :=
 placed_S l (fun i c => if Unicode.isUpper c then Unicode.lowerAt (S l).cps i else if Unicode.isLower c then Unicode.upperOf c else [c]) upc fun i c e => by
  have k : ∀ (L : List Nat), c = 97 ∨ c = 98 ∨ c = 99 → (if Unicode.isUpper c then L else if Unicode.isLower c then Unicode.upperOf c else [c]) = [upc c] := by
   intro L hc
   rcases hc with rfl | rfl | rfl
   ·rw [if_neg (by decide +kernel), if_pos (by decide +kernel)]; decide +kernel
   ·rw [if_neg (by decide +kernel), if_pos (by decide +kernel)]; decide +kernel
   ·rw [if_neg (by decide +kernel), if_pos (by decide +kernel)]; decide +kernel
  exact k _ (h c (List.mem_of_getElem? e))
theorem lowAt (l : List Nat) (i c d : Nat) (e : l[i]? = some c) (hc : (c == 0x3A3) = false) (hd : Unicode.lowerOf c = [d]) : Unicode.lowerAt (S l).cps i = [d] := by
 unfold Unicode.lowerAt
 have e2 : (S l).cps[i]? = some c := by simpa [S] using e
 rw [e2]
 dsimp only
 rw [hc, Bool.false_and, if_neg (by decide), hd]
theorem S_lowerA {l : List Nat} (h : abc3 l) : Txt.lower (S l) = S l := by
 have := placed_S l (fun i _ => Unicode.lowerAt (S l).cps i) id fun i c e => by
  refine lowAt l i c _ e ?_ ?_
  ·rcases h c (List.mem_of_getElem? e) with rfl | rfl | rfl <;> decide
  ·rcases h c (List.mem_of_getElem? e) with rfl | rfl | rfl <;> decide +kernel
 rw [List.map_id] at this
 exact this
theorem S_lowerB {l : List Nat} (h : abc3 l) : Txt.lower (S (l.map upc)) = S l := by
 have := placed_S (l.map upc) (fun i _ => Unicode.lowerAt (S (l.map upc)).cps i) (· + 32) fun i c e => by
  have hm := List.mem_of_getElem? e
  rw [List.mem_map] at hm
  obtain ⟨a, ha, rfl⟩ := hm
  refine lowAt _ i _ _ e ?_ ?_
  ·rcases h a ha with rfl | rfl | rfl <;> decide
  ·rcases h a ha with rfl | rfl | rfl <;> decide +kernel
 have e2 : (l.map upc).map (· + 32) = l := by
  rw [List.map_map]
  refine (List.map_congr_left fun a ha => ?_).trans (List.map_id _)
  rcases h a ha with rfl | rfl | rfl <;> rfl
 rw [e2] at this
 exact this
theorem abc_take {t : List Nat} (h : abc3 t) (k : Nat) : abc3 (t.take k) := fun c hc => h c (List.mem_of_mem_take hc)
theorem abc_drop {t : List Nat} (h : abc3 t) (k : Nat) : abc3 (t.drop k) := fun c hc => h c (List.mem_of_mem_drop hc)
theorem abc_fac {t : List Nat} (h : abc3 t) (s l : Nat) : abc3 (fac t s l) := abc_take (abc_drop h s) l
theorem abc_app {a b : List Nat} (h : abc3 a) (k : abc3 b) : abc3 (a ++ b) := fun c hc => (List.mem_append.mp hc).elim (h c) (k c)
theorem pO {t : List Nat} (h : abc3 t) : ∀ c ∈ t, c < 1000 := fun c hc => by rcases h c hc with e | e | e <;> (first | exact (qA [_] 1 (.a (.v 0) (.n 1)) (.n 1000) (.c 1 (.v 0) (.n 97) .z) rfl (uJ e)) | exact (qA [_] 1 (.a (.v 0) (.n 1)) (.n 1000) (.c 1 (.v 0) (.n 98) .z) rfl (uJ e)) | exact (qA [_] 1 (.a (.v 0) (.n 1)) (.n 1000) (.c 1 (.v 0) (.n 99) .z) rfl (uJ e)))
theorem abc_dot {t : List Nat} (h : abc3 t) : dotless t := by
 unfold dotless
 intro q
 rcases h _ q with e | e | e <;> cases e
theorem abc_bad {t : List Nat} (h : abc3 t) : t.any badN = false := by
 rw [List.any_eq_false]
 intro c hc
 rcases h c hc with rfl | rfl | rfl <;> decide
theorem up_bad {t : List Nat} (h : abc3 t) : (t.map upc).any badN = false := by
 rw [List.any_eq_false]
 intro c hc
 rw [List.mem_map] at hc
 obtain ⟨a, ha, rfl⟩ := hc
 rcases h a ha with rfl | rfl | rfl <;> decide
theorem three (t : List Nat) (s l : Nat) (h : s + l ≤ t.length) : t = t.take s ++ fac t s l ++ t.drop (s + l) := by
 unfold fac
 rw [List.append_assoc, ← List.drop_drop, List.take_append_drop, List.take_append_drop]
theorem longest {t : List Nat} {s : Nat} (h : s + max (stood t s) 1 < t.length) : ¬ first t (fac t s (max (stood t s) 1 + 1)) < s := by
 intro q
 have := (first_lt (by exact Nat.succ_pos _) (by assumption)).mp q
 exact (jY [_,_] (.c 1 (.v 0) (.v 1) (.c 1 (.a (.v 1) (.n 1)) (.v 0) .z)) rfl (Nat.le_max_left _ _) this)
theorem code_is {t : List Nat} {s : Nat} (ha : abc3 t) (h : s < t.length) :
  (codeOf t s : Int) = if first t (fac t s (max (stood t s) 1)) = s then ((match lfind ABC (fac t s (max (stood t s) 1)) 0 3 with | some i => (i : Int) | none => (-1 : Int)) : Int) else 16 * (max (stood t s) 1 : Nat) + s - (first t (fac t s (max (stood t s) 1)) : Nat) := by
 have hm := max_le t h
 obtain ⟨f1, _⟩ := first_at (t := t) (s := s) (l := max (stood t s) 1) (by omega)
 have hf := first_lt (t := t) (s := s) (l := max (stood t s) 1) (by exact (qA [_] 1 (.n 1) (.v 0) (.c 1 (.n 1) (.v 0) .z) rfl (Nat.le_max_right _ _))) (by omega)
 unfold codeOf
 by_cases q : stood t s = 0
 ·rw [if_pos q, if_pos (by lia), q, Nat.zero_max, fac_one h]
  have hc : t.getD s 97 ∈ t := by
   rw [List.getD_eq_getElem?_getD, List.getElem?_eq_getElem h]; exact List.getElem_mem h
  rw [abc_find (ha _ hc)]
 ·have e : max (stood t s) 1 = stood t s := by (clear hf; exact (Or.elim (Nat.lt_or_gt_of_ne q) (fun q0 => (Nat.le_antisymm (False.elim (jY [_] (.c 1 (.a (.v 0) (.n 1)) (.n 0) .z) rfl q0)) (False.elim (jY [_] (.c 1 (.a (.v 0) (.n 1)) (.n 0) .z) rfl q0)))) fun q0 => (Nat.le_antisymm (qA [_,_] 1 (.v 0) (.v 1) (.c 1 (.v 0) (.v 1) .z) rfl (uJ (Nat.max_eq_left (qA [_] 1 (.n 1) (.v 0) (.c 1 (.a (.n 0) (.n 1)) (.v 0) .z) rfl q0)))) (qA [_,_] 1 (.v 0) (.v 1) (.c 1 (.v 0) (.v 1) .z) rfl (Nat.le_max_left _ _)))))
  rw [e] at f1 hf ⊢
  rw [if_neg q, if_neg (by lia)]
  exact (Int.le_antisymm (jO [_,_,_,_] 1 (.c (.a (.m 16 (.v 0)) (.v 1))) (.s (.a (.m 16 (.c (.v 0))) (.c (.v 2))) (.c (.v 3))) (.c 1 (.a (.v 1) (.v 3)) (.v 2) .z) rfl (jL (qA [_,_] 1 (.v 0) (.v 1) (.c 1 (.v 0) (.v 1) .z) rfl f1))) (jO [_,_,_,_] 1 (.s (.a (.m 16 (.c (.v 0))) (.c (.v 1))) (.c (.v 2))) (.c (.a (.m 16 (.v 0)) (.v 3))) (.c 1 (.v 1) (.a (.v 3) (.v 2)) .z) rfl (jV _ _)))
section
variable {σ : Sto} {N : Vars → Sto → Prop} {Q : XV → Sto → Prop}
theorem oct_use {n : Nat} (h : n < 262144) (hQ : Q (.v (.list (nlist (octL n)))) σ) : octW (vsetX ["number"] [.v (.int n)] []) σ N (fun x σ' => RetP σ x σ' Q) := by
 refine ⟨n, ?_, h, retp_at rfl hQ⟩
 simp only [qJ, qF, qD, qK, qL, qT, qH, qI, qM, qN, qY, qZ, qE, String.reduceEq, String.reduceBEq, cond_true, cond_false, uH, if_true, if_false, reduceIte, ite_true, ite_false, zA, zB, zC, zD, zE, zF, qP, zG, qQ, zH, zI, zJ, zK, zL, qR, qU, zM, zN, qO, zO, zP, zQ, zR, zS, zT, qV, zU, zV, zW, zX, zY, qW, zZ, jA, jB, jR, jQ, jS, jC, jD, jE, jF, qX, jG, jH, qS, uA, uB, uC, uD, uE, uF, uG]
theorem ell_no {w g : List Nat} (h1 : g.length < 1000) (h2 : w.length < 900) (h3 : ∀ c ∈ w, c < 1000) (h4 : ∀ c ∈ g, c < 1000) (h5 : hasL w MK = false) (hQ : Q (.v (.bool (decide (w = g)))) σ) : ellW (vsetX ["want", "got"] [.v (.str (S w)), .v (.str (S g))] []) σ N (fun x σ' => RetP σ x σ' Q) := by
 refine ⟨w, g, ?_, ?_, by lia, h2, h3, h4, .inl ⟨h5, retp_at rfl hQ⟩⟩
 ·kernel_rfl
 ·kernel_rfl
theorem ell_yes {w g : List Nat} (ps : List (List Nat)) (h1 : g.length < 1000) (h2 : w.length < 900) (h3 : ∀ c ∈ w, c < 1000) (h4 : ∀ c ∈ g, c < 1000) (h5 : w = jn ps) (h6 : 2 ≤ ps.length) (h7 : ∀ p ∈ ps, dotless p) (hQ : Q (.v (.bool (ellM ps g))) σ) : ellW (vsetX ["want", "got"] [.v (.str (S w)), .v (.str (S g))] []) σ N (fun x σ' => RetP σ x σ' Q) := by
 refine ⟨w, g, ?_, ?_, by lia, h2, h3, h4, .inr ⟨ps, h5, h6, h7, fun x => .inl ⟨_, σ, [x], rfl, rfl, rfl, hQ⟩⟩⟩
 ·kernel_rfl
 ·kernel_rfl
theorem few_use {t : List Nat} (h : t.length ≤ 100) (hQ : Q (.v (.int ((leastL t t.length).getD t.length 0 : Nat))) σ) : fewW (vsetX ["text"] [.v (.str (S t))] []) σ N (fun x σ' => RetP σ x σ' Q) := by
 refine ⟨t, ?_, h, fun x => .inl ⟨_, σ, [x], rfl, rfl, rfl, hQ⟩⟩
 simp only [qJ, qF, qD, qK, qL, qT, qH, qI, qM, qN, qY, qZ, qE, String.reduceEq, String.reduceBEq, cond_true, cond_false, uH, if_true, if_false, reduceIte, ite_true, ite_false, zA, zB, zC, zD, zE, zF, qP, zG, qQ, zH, zI, zJ, zK, zL, qR, qU, zM, zN, qO, zO, zP, zQ, zR, zS, zT, qV, zU, zV, zW, zX, zY, qW, zZ, jA, jB, jR, jQ, jS, jC, jD, jE, jF, qX, jG, jH, qS, uA, uB, uC, uD, uE, uF, uG]
theorem spel_use {ns : List Nat} {u : Nat} (h1 : 0 < u) (h2 : u < 1000) (h3 : spOk u [] ns) (hQ : Q (.v (.str (S (spell u [] ns)))) σ) : spelW (vsetX ["numbers", "unit"] [.v (.list (nlist ns)), .v (.int u)] []) σ N (fun x σ' => RetP σ x σ' Q) := by
 refine ⟨ns, u, ?_, ?_, h1, h2, h3, retp_at rfl hQ⟩
 ·kernel_rfl
 ·kernel_rfl
theorem bsr_use {l : List Nat} {v : Nat} (h1 : l.length < 1000) (h2 : l.Pairwise (· < ·)) (hQ : Q (.v (.int (cntLe l v : Nat))) σ) :
  ∃ bx, bsrBind [.v (.list (nlist l)), .v (.int v)] = some bx ∧ bsrW (vsetX (bx.map (·.1)) (bx.map (·.2)) []) σ N (fun x σ' => RetP σ x σ' Q) := by
 refine ⟨_, rfl, l, v, ?_, ?_, ?_, ?_, ?_, h1, h2, retp_at rfl hQ⟩
 ·kernel_rfl
 ·kernel_rfl
 ·kernel_rfl
 ·kernel_rfl
 ·kernel_rfl
theorem cut_use {t : List Nat} (h1 : t.length < 100) (h2 : abc3 t) (hQ : ∀ qs, Q (.v (.list ((cutsF t t.length 0).map (cutD t)))) [.tab 239 qs]) : cutW (vsetX ["text"] [.v (.str (S t))] []) [.tab 239 []] N (fun x σ' => RetP [.tab 239 []] x σ' Q) := by
 refine ⟨t, ?_, h1, h2, rfl, fun qs junk => .inr ⟨1, _, [.tab 239 qs], .list ((cutsF t t.length 0).map (cutD t)) :: junk, rfl, rfl, Nat.le_refl _, rfl, rfl, hQ qs⟩⟩
 simp only [qJ, qF, qD, qK, qL, qT, qH, qI, qM, qN, qY, qZ, qE, String.reduceEq, String.reduceBEq, cond_true, cond_false, uH, if_true, if_false, reduceIte, ite_true, ite_false, zA, zB, zC, zD, zE, zF, qP, zG, qQ, zH, zI, zJ, zK, zL, qR, qU, zM, zN, qO, zO, zP, zQ, zR, zS, zT, qV, zU, zV, zW, zX, zY, qW, zZ, jA, jB, jR, jQ, jS, jC, jD, jE, jF, qX, jG, jH, qS, uA, uB, uC, uD, uE, uF, uG]
theorem read_use {xs : List Nat} {QE : XQ} (h1 : ∀ x ∈ xs, x < 256) (h2 : runsOk xs) (h3 : xs.length < 1000) (hQ : Q (.v (.list (nlist (reads (xs.length + 1) xs)))) σ) : readW (vsetX ["octets"] [.v (.list (nlist xs))] []) σ N (fun x σ' => RetP σ x σ' Q) (XP σ QE) := by
 refine ⟨xs, ?_, h1, h2, h3, .inr ⟨_, _, σ, [.dead, _], rfl, (get_l2 _ _ _).2, Nat.le_succ _, rfl, rfl, hQ⟩⟩
 simp only [qJ, qF, qD, qK, qL, qT, qH, qI, qM, qN, qY, qZ, qE, String.reduceEq, String.reduceBEq, cond_true, cond_false, uH, if_true, if_false, reduceIte, ite_true, ite_false, zA, zB, zC, zD, zE, zF, qP, zG, qQ, zH, zI, zJ, zK, zL, qR, qU, zM, zN, qO, zO, zP, zQ, zR, zS, zT, qV, zU, zV, zW, zX, zY, qW, zZ, jA, jB, jR, jQ, jS, jC, jD, jE, jF, qX, jG, jH, qS, uA, uB, uC, uD, uE, uF, uG]
theorem laid_use {i : Nat} {xs : List PyData} {n v : List Nat} {QE : XQ} (h1 : σ[i]? = some (.list xs)) (h2 : n.length < 1000) (h3 : v.length < 1000) (h4 : n.any badN = false) (h5 : xs.length < 1000)
  (h6 : v.any badV = false → Q (.v (.str (Str.ofString ""))) (σ.set i (.list (xs ++ [.tuple [.str (S n), .str (S v)]])))) (h7 : v.any badV = true → Q (.v (.str ctl)) σ) :
  laidW (vsetX ["table", "name", "value"] [.hdr 214 i, .v (.str (S n)), .v (.str (S v))] []) σ N (fun x σ' => RetP σ x σ' Q) (XP σ QE) := by
 refine ⟨i, xs, n, v, ?_, ?_, ?_, h1, h2, h3, h4, h5, fun hv => .inl ⟨_, _, [], rfl, (List.append_nil _).symm, by simp, h6 hv⟩, fun hv => retp_at rfl (h7 hv)⟩
 ·kernel_rfl
 ·kernel_rfl
 ·kernel_rfl
theorem rows_use {ps : List (Str × Str)} {f : Str × Str → PyData} (h1 : ps.length < 1000) (hQ : Q (.v (.list (ps.map f))) σ) :
  InstV (.pr (FHdr (ps.map rowD))) ∧ ∃ bx, selfBind [.pr (FHdr (ps.map rowD))] [] = some bx ∧ rowsW f (vsetX (bx.map (·.1)) (bx.map (·.2)) []) σ N (fun x σ' => RetP σ x σ' Q) := by
 refine ⟨instV_fh, _, rfl, ps, ?_, h1, retp_at rfl hQ⟩
 simp only [qJ, qF, qD, qK, qL, qT, qH, qI, qM, qN, qY, qZ, qE, String.reduceEq, String.reduceBEq, cond_true, cond_false, uH, if_true, if_false, reduceIte, ite_true, ite_false, zA, zB, zC, zD, zE, zF, qP, zG, qQ, zH, zI, zJ, zK, zL, qR, qU, zM, zN, qO, zO, zP, zQ, zR, zS, zT, qV, zU, zV, zW, zX, zY, qW, zZ, jA, jB, jR, jQ, jS, jC, jD, jE, jF, qX, jG, jH, qS, uA, uB, uC, uD, uE, uF, uG, List.map_cons, List.map_nil]
theorem all_use {ps : List (Str × Str)} {n0 n : List Nat} (h1 : ps.length < 1000) (h2 : n.length < 1000) (h3 : Txt.lower (S n0) = S n) (h4 : n.any badN = false) (h5 : ∀ c ∈ n, c < 1000) (h6 : ∀ p ∈ ps, SeqAt.shaped (.str (Txt.lower p.1)) = true ∧ (Txt.lower p.1).length < 100000)
  (hQ : Q (.v (.list ((ps.filter fun p => decide (Txt.lower p.1 = S n)).map fun p => .str p.2))) σ) :
  ∃ bx, nameBind [.pr (FHdr (ps.map rowD)), .v (.str (S n0))] [] = some bx ∧ allW (vsetX (bx.map (·.1)) (bx.map (·.2)) []) σ N (fun x σ' => RetP σ x σ' Q) := by
 refine ⟨_, rfl, ps, n0, n, ?_, h1, ?_, h2, h3, h4, h5, h6, retp_at rfl hQ⟩
 ·kernel_rfl
 ·kernel_rfl
theorem ah_use {i : Nat} {xs : List PyData} {n v : List Nat} {R : XV → Sto → Prop} {QE : XQ} (h1 : σ[i]? = some (.list xs)) (h2 : n.length < 1000) (h3 : v.length < 1000) (h4 : n.any badN = false) (h5 : xs.length < 1000) (hv : v.any badV = false)
  (hQ : Q (.v .none) (σ.set i (.list (xs ++ [.tuple [.str (S n), .str (S v)]])))) :
  ∃ bx, ahBind [.hdr 214 i, .v (.str (S n)), .v (.str (S v))] [] = some bx ∧ ahX (vsetX (bx.map (·.1)) (bx.map (·.2)) []) σ (fun _ σ' => RetP σ (.v .none) σ' Q) R (XP σ QE) := by
 refine ⟨_, rfl, i, xs, n, v, ?_, ?_, ?_, ?_, h1, h2, h3, h4, h5, fun _ η' junk => .inl ⟨_, _, junk, rfl, rfl, by simp, hQ⟩, fun q => by rw [hv] at q; cases q⟩
 ·kernel_rfl
 ·kernel_rfl
 ·kernel_rfl
 ·kernel_rfl
end
noncomputable def lst (P : Params) (k : Nat) : Stmt := ((kbody P 261).drop k).headD (.Pass default)
noncomputable def intL (l : List Int) : List PyData := l.map .int
theorem intL_len (l : List Int) : (intL l).length = l.length := by unfold intL; rw [List.length_map]
theorem intL_get (l : List Int) (i : Nat) : (intL l)[i]? = (l[i]?).map .int := by unfold intL; rw [List.getElem?_map]
noncomputable def allI (xs : List PyData) : Prop := ∀ d ∈ xs, ∃ i, d = .int i
theorem allI_intL (l : List Int) : allI (intL l) := by
 intro d hd
 unfold intL at hd
 rw [List.mem_map] at hd
 obtain ⟨i, _, rfl⟩ := hd
 exact ⟨i, rfl⟩
theorem allI_of : ∀ {xs : List PyData}, allI xs → ∃ l, xs = intL l
 | [], _ => ⟨[], rfl⟩
 | d :: xs, h => by
  obtain ⟨i, rfl⟩ := h d List.mem_cons_self
  obtain ⟨l, rfl⟩ := allI_of (fun d hd => h d (List.mem_cons_of_mem _ hd))
  exact ⟨i :: l, rfl⟩
theorem allI_pick {xs : List PyData} (h : allI xs) (a b d : Option Int) : ∃ l, pickL xs a b d = intL l := by
 refine allI_of fun x hx => ?_
 unfold pickL at hx
 rw [List.mem_filterMap] at hx
 obtain ⟨i, _, hi⟩ := hx
 exact h x (List.mem_of_getElem? hi)
theorem intsOf_L : ∀ l : List Int, intsOf (intL l) = some l
 | [] => rfl
 | i :: l => by
  have := intsOf_L l
  show (intsOf (intL l)).map _ = _
  rw [this]; rfl
theorem pH : (2 : Nat) ^ 20 ≤ sizeLine := by decide
theorem oSum_l (ds : List PyData) (σ : Sto) (Q : XV → Sto → Prop) : oSum [.v (.list ds)] σ Q = ∃ xs ns, some ds = some xs ∧ intsOf xs = some ns ∧ Q (.v (.int ns.sum)) σ := rfl
theorem oJoin_l {a : Str} {ds : List PyData} {σ : Sto} {Q : XV → Sto → Prop} : oJoin [.v (.str a), .v (.list ds)] σ Q = ∃ xs ys, some ds = some xs ∧ strsOf xs = some ys ∧ JoinOk a ys = true ∧ Q (.v (.str (Txt.join a ys))) σ := rfl
noncomputable def s0W : SW := fun η σ N _ => ∃ ns : List Int, vget "script" η = some (.v (.list (intL ns))) ∧ ns.length ≤ 100 ∧ ∀ ms : List Int, ms.length ≤ 100 → N (vset "taken" (.v (.list (intL ms))) η) σ
noncomputable def s2W : SW := fun η σ N _ => ∃ ns : List Int, vget "sums" η = some (.v (.list (intL ns))) ∧ ns.length = 11 ∧ ∀ u : Nat, 1 ≤ u → u ≤ 250 → N (vset "unit" (.v (.int u)) η) σ
noncomputable def hiOf (hi : Option Int) (n : Nat) : Nat := match hi with | none => n | some i => clipAt n i
theorem pick_take (xs : List PyData) (hi : Option Int) : pickL xs none hi none = xs.take (hiOf hi xs.length) := by
 unfold pickL
 have e : sliceBounds none hi none xs.length = (((0 : Nat) : Int), ((hiOf hi xs.length : Nat) : Int), 1) := by
  rw [sliceBounds_plain]
  cases hi <;> rfl
 rw [e]
 dsimp only
 rw [sliceRange_one, List.filterMap_map]
 have : ((fun x => xs[x]?) ∘ fun x => 0 + x) = fun x => xs[x]? := by funext i; simp
 rw [this, Nat.sub_zero, fm_take]
theorem hi_nat (k n : Nat) : hiOf (some (k : Int)) n = min k n := by
 have := clipAt_cast n (k : Int)
 show clipAt _ _ = _
 rw [if_neg (by simp)] at this
 omega
theorem pick_drop (xs : List PyData) : pickL xs none (some (-1)) none = xs.dropLast := by
 rw [pick_take, List.dropLast_eq_take]
 congr 1
 have := clipAt_cast xs.length (-1)
 show clipAt _ _ = _
 rw [if_pos (by decide)] at this
 lia
section
variable {σ : Sto} {Q : XV → Sto → Prop}
theorem kP {ds : List PyData} {j : Nat} {d : PyData} (h : ds[j]? = some d) (hj : j < 1000) (hQ : Q (.v d) σ) : oItem (.v (.list ds)) (.v (.int (j : Int))) σ Q := by
 rw [jQ]
 exact ⟨_, j, d, rfl, by exact ⟨(jO [_] 1 (.g (.n 1000)) (.c (.v 0)) .z rfl ), (jO [_] 1 (.a (.c (.v 0)) (.n 1)) (.n 1073741824) (.c 1 (.a (.v 0) (.n 1)) (.n 1000) .z) rfl hj)⟩, StrLaws.seqIndex_nonneg (by exact Int.natCast_nonneg _) (by have := (List.getElem?_eq_some_iff.mp h).1; exact Int.ofNat_lt.mpr ‹_›), h, hQ⟩
theorem item_useT {ds : List PyData} {j : Nat} {d : PyData} (h : ds[j]? = some d) (hj : j < 1000) (hQ : Q (.v d) σ) : oItem (.v (.tuple ds)) (.v (.int (j : Int))) σ Q := by
 rw [jR]
 exact ⟨j, d, by lia, StrLaws.seqIndex_nonneg (by exact (jO [_] 1 (.n 0) (.c (.v 0)) .z rfl )) (by have := (List.getElem?_eq_some_iff.mp h).1; exact (jO [_,_] 1 (.a (.c (.v 0)) (.n 1)) (.c (.v 1)) (.c 1 (.a (.v 0) (.n 1)) (.v 1) .z) rfl this)), h, hQ⟩
theorem item_own {i : Nat} {ds : List PyData} {j : Nat} {d : PyData} (hl : σ[i]? = some (.list ds)) (h : ds[j]? = some d) (hj : j < 1000) (hQ : Q (.v d) σ) : oItem (.own i) (.v (.int (j : Int))) σ Q := by
 rw [jS]
 refine ⟨ds, j, d, ?_, by lia, StrLaws.seqIndex_nonneg (by lia) (by have := (List.getElem?_eq_some_iff.mp h).1; lia), h, hQ⟩
 show (match σ[i]? with | some (.list xs) => some xs | _ => none) = _
 rw [hl]
theorem join_use {ds : List PyData} {ls : List (List Nat)} (e : ds = ls.map fun l => .str (S l)) (hl : ls.flatten.length ≤ 10000) (hl2 : ls.length ≤ 10000) (hQ : Q (.v (.str (S ls.flatten))) σ) : oJoin [.v (.str (Str.ofString "")), .v (.list ds)] σ Q := by
 subst e
 rw [oJoin_l]
 have e1 : strsOf (ls.map fun l => PyData.str (S l)) = some (ls.map S) := by
  rw [show ls.map (fun l => PyData.str (S l)) = (ls.map S).map .str by rw [List.map_map]; rfl]
  exact strsOf_map _
 have hs := pH
 have hlen : ∀ ls : List (List Nat), ((ls.map S).map (·.length)).sum = ls.flatten.length := fun ls => by
  induction ls with
  | nil => rfl
  | cons l ls ih => rw [List.map_cons, List.map_cons, List.sum_cons, ih, jN, List.flatten_cons, List.length_append]
 have hj : ∀ ls : List (List Nat), Str.join (Str.ofString "") (ls.map S) = S ls.flatten := fun ls => by
  induction ls with
  | nil => rfl
  | cons l ls ih =>
   cases ls with
   | nil =>
    show S l = S _
    simp
   | cons l2 ls =>
    show S l ++ Str.ofString "" ++ Str.join (Str.ofString "") ((l2 :: ls).map S) = _
    rw [ih, S_nil, S_app, S_app, List.append_nil]; rfl
 refine ⟨_, _, rfl, e1, PyProof.Rows.joinOk_of_weight ?_ (by decide), ?_⟩
 ·rw [hlen, List.length_map]; exact (qA [_,_] 1 (.a (.v 0) (.v 1)) (.n 1048576) (.c 1 (.v 1) (.n 10000) (.c 1 (.v 0) (.n 10000) .z)) rfl hl2 hl)
 ·rw [show Txt.join (Str.ofString "") (ls.map S) = Str.join (Str.ofString "") (ls.map S) from StrLaws.glued_eq_join _ _, hj]; exact hQ
end
section
variable {c : Cx} {P : Params} {mg : Str → Option Value} (Y : Yes c P mg) (C0 : CodeHd c.base 243 239) (hbt : c.base.BuiltinsAt mg 239) (hgP : mainGlobals ≠ 239) (rm : Room 4 c.A) (L : Addr) (cells : List (Str × Addr)) {fa : Addr} {cd : Value} {env : Env} (henv : env = (lawEnv P fa cd L cells)) (hcl : CellsOk env) (hfr : c.A.frames = some [env])
include Y C0 hbt hgP rm henv hcl hfr
theorem s0 :
  SS c env (exec (lst P 0) env) s0W := by
 have hh := rm.hd
 have heq := rm.eq
 refine pF (pE (jZ (by subst henv; kernel_rfl) (pT hh (pU (qB (by subst henv; kernel_rfl)) pD (pK jM) pD) (by exact trivial) (pL (by subst henv; kernel_rfl)) (fun _ q => q) (fun L cells => (pP (pM (by subst henv; kernel_rfl)) (by subst henv; kernel_rfl))) (pY (by subst henv; kernel_rfl)) (fun L cells => pW) (fun L cells => (jJ (qB (by subst henv; kernel_rfl)) jM op_mod))) (by subst henv; kernel_rfl))) ?_
 intro η σ N Rt h
 dsimp only [wCons, wAsg, wIf, wRet, wBin, wCmp, wPl, wUn, wAnd, wOr, wIfE, wEs, wSl]
 refine qC fun P kG => ?_
 obtain ⟨ns, h1, h2, hN⟩ := h
 refine kG ?_
 clear kG P
 have hs := pH
 simp only [h1, qJ, qF, qD, qK, qL, qT, qH, qI, qM, qN, qY, qZ, qE, String.reduceEq, String.reduceBEq, cond_true, cond_false, uH, if_true, if_false, reduceIte, ite_true, ite_false, zA, zB, zC, zD, zE, zF, qP, zG, qQ, zH, zI, zJ, zK, zL, qR, qU, zM, zN, qO, zO, zP, zQ, zR, zS, zT, qV, zU, zV, zW, zX, zY, qW, zZ, jA, jB, jC, jD, jE, jF, qX, jG, jH, qS, uA, uB, uC, uD, uE, uF, uG, intL_len]
 refine qC fun P kG => ?_
 obtain ⟨ms, e⟩ := allI_pick (allI_intL ns) none (some 60) none
 refine kG ?_
 clear kG P
 have hl : ms.length ≤ 100 := by
  have := congrArg List.length e
  rw [pick_take, List.length_take, intL_len, intL_len] at this
  exact (qA [_,_,_] 1 (.v 0) (.n 100) (.c 1 (.v 1) (.v 2) (.c 1 (.v 0) (.v 1) (.c 1 (.v 2) (.n 100) .z))) rfl (Nat.min_le_right _ _) (uJ (Eq.symm this)) h2)
 rw [e]
 refine ⟨by decide, by exact Nat.le_trans ‹_› (by decide), _, ms.map (fun m => [PyData.int (m.fmod 1000000)]), rfl, CompAll.map (f := PyData.int) fun m _ => ?_, ?_, ?_⟩
 ·unfold CB
  simp only [qJ, qF, qD, qK, qL, qT, qH, qI, qM, qN, qY, qZ, qE, String.reduceEq, String.reduceBEq, cond_true, cond_false, uH, if_true, if_false, reduceIte, ite_true, ite_false, zA, zB, zC, zD, zE, zF, qP, zG, qQ, zH, zI, zJ, zK, zL, qR, qU, zM, zN, qO, zO, zP, zQ, zR, zS, zT, qV, zU, zV, zW, zX, zY, qW, zZ, jA, jB, jC, jD, jE, jF, qX, jG, jH, qS, uA, uB, uC, uD, uE, uF, uG]
  exact ⟨fun _ => ⟨by decide, _, [], rfl, rfl, by simp⟩, fun q => by cases q⟩
 ·rw [pA, List.length_map]; exact Nat.le_trans ‹_› (by decide)
 ·rw [pA, show ms.map (fun m => PyData.int (m.fmod 1000000)) = intL (ms.map fun m => m.fmod 1000000) by unfold intL; rw [List.map_map]; rfl]
  exact hN _ (by rw [List.length_map]; exact hl)
theorem s2 :
  SS c env (exec (lst P 2) env) s2W := by
 have hh := rm.hd
 have heq := rm.eq
 refine pF (pE (jZ (by subst henv; kernel_rfl) (jJ jM (jJ (pI (qB (by subst henv; kernel_rfl)) jM) jM op_mod) jU) (by subst henv; kernel_rfl))) ?_
 intro η σ N Rt h
 dsimp only [wCons, wAsg, wIf, wRet, wBin, wCmp, wPl, wUn, wAnd, wOr, wIfE, wEs, wSl]
 refine qC fun P kG => ?_
 obtain ⟨ns, h1, h2, hN⟩ := h
 have hs := pH
 obtain ⟨a, ha⟩ : ∃ a, ns[10]? = some a := ⟨_, List.getElem?_eq_getElem (by exact (qA [_] 1 (.a (.n 10) (.n 1)) (.v 0) (.c 1 (.n 11) (.v 0) .z) rfl (uJ (Eq.symm h2))))⟩
 refine kG ?_
 clear kG P
 have h3 := Int.fmod_nonneg_of_pos a (show (0 : Int) < 250 by decide)
 have h4 := Int.fmod_lt_of_pos a (show (0 : Int) < 250 by decide)
 simp only [h1, qJ, qF, qD, qK, qL, qT, qH, qI, qM, qN, qY, qZ, qE, String.reduceEq, String.reduceBEq, cond_true, cond_false, uH, if_true, if_false, reduceIte, ite_true, ite_false, zA, zB, zC, zD, zE, zF, qP, zG, qQ, zH, zI, zJ, zK, zL, qR, qU, zM, zN, qO, zO, zP, zQ, zR, zS, zT, qV, zU, zV, zW, zX, zY, qW, zZ, jA, jB, jC, jD, jE, jF, qX, jG, jH, qS, uA, uB, uC, uD, uE, uF, uG, intL_len]
 refine kP (j := 10) (by rw [intL_get, ha]; rfl) (by decide) ?_
 simp only [qJ, qF, qD, qK, qL, qT, qH, qI, qM, qN, qY, qZ, qE, String.reduceEq, String.reduceBEq, cond_true, cond_false, uH, if_true, if_false, reduceIte, ite_true, ite_false, zA, zB, zC, zD, zE, zF, qP, zG, qQ, zH, zI, zJ, zK, zL, qR, qU, zM, zN, qO, zO, zP, zQ, zR, zS, zT, qV, zU, zV, zW, zX, zY, qW, zZ, jA, jB, jC, jD, jE, jF, qX, jG, jH, qS, uA, uB, uC, uD, uE, uF, uG]
 refine ⟨by decide, ?_⟩
 have := hN (1 + (a.fmod 250).toNat) (by exact Nat.le_add_right _ _) (by lia)
 rw [show ((1 + (a.fmod 250).toNat : Nat) : Int) = 1 + a.fmod 250 by (clear h3; lia)] at this
 exact this
noncomputable def xcs (d : Stmt) (e : Expr) (lc : Expr → List Comprehension → Scope → Pos → Stmt) (bo : Expr → Operator → Expr → Pos → Stmt) (su : Expr → Expr → Pos → Stmt) (li : List Expr → Pos → Stmt) : Stmt := Expr.casesOn e (fun _ _ _ => d) (fun _ _ _ => d) (fun l o r p => bo l o r p) (fun _ _ _ => d) (fun _ _ _ _ => d) (fun _ _ _ _ => d) (fun _ _ _ => d) (fun _ _ _ => d) (fun e g s p => lc e g s p) (fun _ _ _ _ => d) (fun _ _ _ _ _ => d) (fun _ _ _ _ => d) (fun _ _ => d) (fun _ _ => d) (fun _ _ => d) (fun _ _ _ _ => d) (fun _ _ _ _ => d) (fun _ _ _ _ => d) (fun _ _ => d) (fun _ _ _ => d) (fun _ _ _ => d) (fun v s p => su v s p) (fun _ _ => d) (fun _ _ => d) (fun es p => li es p) (fun _ _ _ => d) (fun _ _ _ _ => d)
noncomputable def scs (d : Stmt) (s : Stmt) (f : List Expr → Expr → Pos → Stmt) : Stmt := Stmt.casesOn s (fun _ _ _ _ _ _ _ _ _ _ => d) (fun _ _ _ _ _ _ _ _ _ _ => d) (fun _ _ _ _ _ _ _ _ _ _ _ => d) (fun _ _ => d) (fun _ _ => d) (fun t v p => f t v p) (fun _ _ _ _ _ _ _ => d) (fun _ _ _ _ => d) (fun _ _ _ _ _ => d) (fun _ _ _ _ _ => d) (fun _ _ _ _ _ => d) (fun _ _ _ _ => d) (fun _ _ _ _ => d) (fun _ _ _ => d) (fun _ _ _ => d) (fun _ _ _ => d) (fun _ _ _ => d) (fun _ _ _ _ _ => d) (fun _ _ _ _ _ => d) (fun _ _ _ => d) (fun _ _ => d) (fun _ _ _ _ => d) (fun _ _ => d) (fun _ _ => d) (fun _ _ => d) (fun _ => d) (fun _ => d) (fun _ => d)
noncomputable def s1e (P : Params) : List Expr := (xk (xh (xh (xh (sk (lst P 1)).2.2.1)))).1.1
noncomputable def s1f (P : Params) (e : List Expr) : Stmt := let d : Stmt := .Pass default; let n4 := fun _ _ _ _ => d; let m4 := fun _ _ _ _ => d; let n3 := fun _ _ _ => d; let n2 := fun _ _ => d
 scs d (lst P 1) fun tg v p5 => xcs d v (fun b gens sc p4 => xcs d b n4 (fun u op r p3 => xcs d u n4 m4 (fun l i p2 => xcs d l n4 m4 n3 fun _ p1 => .Assign tg (.ListComp (.BinOp (.Subscript (.List e p1) i p2) op r p3) gens sc p4) p5) n2) n3 n2) m4 n3 n2
end
theorem s1_open (P : Params) : ∃ (e : List Expr) (is : List (Int × Nat × Pos)), lst P 1 = s1f P e ∧ e = is.map (fun x => .Constant (.int x.1) x.2.1 x.2.2) ∧ is.map (fun x => x.1) = [0, 0, 1, 0, 1, 0, 1, 2, 0, 1, 130] :=
 ⟨s1e P, [(0, _, _), (0, _, _), (1, _, _), (0, _, _), (1, _, _), (0, _, _), (1, _, _), (2, _, _), (0, _, _), (1, _, _), (130, _, _)], by kernel_rfl, rfl, rfl⟩
noncomputable def s1W : SW := fun η σ N _ => ∃ ns : List Int, vget "taken" η = some (.v (.list (intL ns))) ∧ ns.length ≤ 100 ∧ ∀ L : List Int, L.length = 11 → N (vset "sums" (.v (.list (intL L))) η) σ
section
variable {c : Cx} {P : Params} {mg : Str → Option Value} (Y : Yes c P mg) (C0 : CodeHd c.base 243 239) (hbt : c.base.BuiltinsAt mg 239) (hgP : mainGlobals ≠ 239) (rm : Room 4 c.A) (L : Addr) (cells : List (Str × Addr)) {fa : Addr} {cd : Value} {env : Env} (henv : env = (lawEnv P fa cd L cells)) (hcl : CellsOk env) (hfr : c.A.frames = some [env])
include Y C0 hbt hgP rm henv hcl hfr
theorem s1 :
  SS c env (exec (lst P 1) env) s1W := by
 have hh := rm.hd
 have heq := rm.eq
 obtain ⟨e, is, hl, he, hi⟩ := s1_open P
 rw [hl]
 clear hl
 refine pF (pE (vM hh hcl (by subst henv; kernel_rfl) (l_range Y (by subst henv; kernel_rfl) rfl rfl (qG (jM (k := 0) (pos := default)) jI)) (by exact trivial) (pL (by subst henv; kernel_rfl)) (fun _ q => q) (fun L cells => (pP (pM (by subst henv; kernel_rfl)) (by subst henv; kernel_rfl))) (pY (by subst henv; kernel_rfl)) (fun L cells => pW) (fun L cells => (jJ (pI (eok_ints is he) (qB (by subst henv; kernel_rfl))) (l_sum Y hh (by subst henv; kernel_rfl) rfl rfl (qG (pU (qB (by subst henv; kernel_rfl)) (pK (qB (by subst henv; kernel_rfl))) pD (pK jM)) jI)) jU)) (by subst henv; kernel_rfl))) ?_
 intro η σ N Rt h
 dsimp only [wCons, wAsg, wIf, wRet, wBin, wCmp, wPl, wUn, wAnd, wOr, wIfE, wEs, wSl]
 obtain ⟨ns, h1, h2, hN⟩ := h
 have hs := pH
 have hil : is.length = 11 := by
  have := congrArg List.length hi
  rw [List.length_map] at this
  exact this
 have hii : is.map (fun x => PyData.int x.1) = intL [0, 0, 1, 0, 1, 0, 1, 2, 0, 1, 130] := by
  rw [← hi]; unfold intL; rw [List.map_map]; rfl
 rw [hii]
 have key : ∀ k : Nat, k < 11 → ∃ i, (intL [0, 0, 1, 0, 1, 0, 1, 2, 0, 1, 130])[k]? = some (.int i) := fun k hk => by
  rw [intL_get, List.getElem?_eq_getElem hk]; exact ⟨_, rfl⟩
 let val : Nat → Int := fun k => (match (intL [0, 0, 1, 0, 1, 0, 1, 2, 0, 1, 130])[k]? with | some (.int i) => i | _ => 0) + (match intsOf (pickL (intL ns) (some (k : Int)) none (some 11)) with | some l => l.sum | none => 0)
 rw [qV]
 refine ⟨_, (List.range 11).map (fun k => [PyData.int (val k)]), iter_n 11 (by decide), CompAll.map (f := fun (k : Nat) => PyData.int (k : Int)) fun k hk => ?_, ?_, ?_⟩
 ·have hk : k < 11 := by simpa using hk
  obtain ⟨i, hki⟩ := key k hk
  obtain ⟨l, hl⟩ := allI_pick (allI_intL ns) (some (k : Int)) none (some 11)
  unfold CB
  simp only [h1, qJ, qF, qD, qK, qL, qT, qH, qI, qM, qN, qY, qZ, qE, String.reduceEq, String.reduceBEq, cond_true, cond_false, uH, if_true, if_false, reduceIte, ite_true, ite_false, zA, zB, zC, zD, zE, zF, qP, zG, qQ, zH, zI, zJ, zK, zL, qR, qU, zM, zN, qO, zO, zP, zQ, zR, zS, zT, qV, zU, zV, zW, zX, zY, qW, zZ, jA, jB, jC, jD, jE, jF, qX, jG, jH, qS, uA, uB, uC, uD, uE, uF, uG, intL_len]
  refine ⟨fun _ => ⟨by exact (qA [_,_] 1 (.v 0) (.v 1) (.c 1 (.v 0) (.n 11) (.c 1 (.n 1048576) (.v 1) .z)) rfl (uJ hil) hs), item_own (kO _ _) hki (by exact Nat.le_trans ‹_› (Nat.le_add_left _ _)) ⟨by decide, by exact (qA [_,_] 1 (.v 0) (.v 1) (.c 1 (.n 1048576) (.v 1) (.c 1 (.v 0) (.n 100) .z)) rfl hs h2), ?_⟩⟩, fun q => by cases q⟩
  rw [hl, oSum_l]
  refine ⟨_, l, rfl, intsOf_L l, _, [_], rfl, ?_, rfl⟩
  show [PyData.int (val k)] = _
  simp only [val]
  rw [hki, hl, intsOf_L]
 ·rw [pA, List.length_map]; exact Nat.le_trans (by decide) hs
 ·rw [pA, show (List.range 11).map (fun k => PyData.int (val k)) = intL ((List.range 11).map val) by unfold intL; rw [List.map_map]; rfl]
  exact hN _ (by rw [List.length_map, List.length_range])
noncomputable def s3W : SW := fun η σ N _ => ∃ ns : List Int, vget "sums" η = some (.v (.list (intL ns))) ∧ ns.length = 11 ∧ ∀ t, t.length ≤ 10 → abc3 t → N (vset "text" (.v (.str (S t))) η) σ
theorem s3 :
  SS c env (exec (lst P 3) env) s3W := by
 have hh := rm.hd
 have heq := rm.eq
 refine pF (pE (jZ (by subst henv; kernel_rfl) (pU (l_join pQ rfl (qG (pT hh (pU (qB (by subst henv; kernel_rfl)) pD (pK jM) pD) (by exact trivial) (pL (by subst henv; kernel_rfl)) (fun _ q => q) (fun L cells => (pP (pM (by subst henv; kernel_rfl)) (by subst henv; kernel_rfl))) (pY (by subst henv; kernel_rfl)) (fun L cells => pW) (fun L cells => (pI pQ (jJ (qB (by subst henv; kernel_rfl)) jM op_mod)))) jI) rfl rfl) pD (pK (jJ jM (jJ (jJ (pI (qB (by subst henv; kernel_rfl)) jM) jM op_fdiv) jM op_mod) op_sub)) pD) (by subst henv; kernel_rfl))) ?_
 intro η σ N Rt h
 dsimp only [wCons, wAsg, wIf, wRet, wBin, wCmp, wPl, wUn, wAnd, wOr, wIfE, wEs, wSl]
 refine qC fun P kG => ?_
 obtain ⟨ns, h1, h2, hN⟩ := h
 have hs := pH
 obtain ⟨a, ha⟩ : ∃ a, ns[10]? = some a := ⟨_, List.getElem?_eq_getElem (by lia)⟩
 have h3 := Int.fmod_nonneg_of_pos (a.fdiv 250) (show (0 : Int) < 4 by decide)
 have h4 := Int.fmod_lt_of_pos (a.fdiv 250) (show (0 : Int) < 4 by decide)
 obtain ⟨l, e⟩ := allI_pick (allI_intL ns) none (some 10) none
 refine kG ?_
 clear kG P
 have hl : l.length ≤ 10 := by
  have := congrArg List.length e
  have q := hi_nat 10 ns.length
  rw [pick_take, List.length_take, intL_len, intL_len, show (10 : Int) = ((10 : Nat) : Int) from rfl, q] at this
  exact (qA [_,_,_] 1 (.v 0) (.n 10) (.c 1 (.v 1) (.n 10) (.c 1 (.v 2) (.v 1) (.c 1 (.v 0) (.v 2) .z))) rfl (Nat.min_le_left _ _) (Nat.min_le_left _ _) (uJ (Eq.symm this)))
 have hlet : ∀ m : Int, abc3 [97 + (m.fmod 3).toNat] := fun m => by
  have h5 := Int.fmod_nonneg_of_pos m (show (0 : Int) < 3 by decide)
  have h6 := Int.fmod_lt_of_pos m (show (0 : Int) < 3 by decide)
  intro c hc
  rw [List.mem_singleton] at hc
  lia
 have habc : ∀ ls : List Int, abc3 (ls.map fun m => [97 + (m.fmod 3).toNat]).flatten := fun ls => by
  induction ls with
  | nil => intro c hc; cases hc
  | cons m ls ih => rw [List.map_cons, List.flatten_cons]; exact abc_app (hlet m) ih
 have hflen : ∀ ls : List Int, (ls.map fun m => [97 + (m.fmod 3).toNat]).flatten.length = ls.length := fun ls => by
  rw [pA, List.length_map]
 simp only [h1, qJ, qF, qD, qK, qL, qT, qH, qI, qM, qN, qY, qZ, qE, String.reduceEq, String.reduceBEq, cond_true, cond_false, uH, if_true, if_false, reduceIte, ite_true, ite_false, zA, zB, zC, zD, zE, zF, qP, zG, qQ, zH, zI, zJ, zK, zL, qR, qU, zM, zN, qO, zO, zP, zQ, zR, zS, zT, qV, zU, zV, zW, zX, zY, qW, zZ, jA, jB, jC, jD, jE, jF, qX, jG, jH, qS, uA, uB, uC, uD, uE, uF, uG, intL_len]
 rw [e]
 refine ⟨_, rfl, by decide, by exact (qA [_,_] 1 (.v 0) (.v 1) (.c 1 (.n 1048576) (.v 1) (.c 1 (.v 0) (.n 11) .z)) rfl hs (uJ h2)), _, l.map (fun m => [PyData.str (S [97 + (m.fmod 3).toNat])]), rfl, CompAll.map (f := PyData.int) fun m _ => ?_, ?_, ?_⟩
 ·have h5 := Int.fmod_nonneg_of_pos m (show (0 : Int) < 3 by decide)
  have h6 := Int.fmod_lt_of_pos m (show (0 : Int) < 3 by decide)
  unfold CB
  simp only [qJ, qF, qD, qK, qL, qT, qH, qI, qM, qN, qY, qZ, qE, String.reduceEq, String.reduceBEq, cond_true, cond_false, uH, if_true, if_false, reduceIte, ite_true, ite_false, zA, zB, zC, zD, zE, zF, qP, zG, qQ, zH, zI, zJ, zK, zL, qR, qU, zM, zN, qO, zO, zP, zQ, zR, zS, zT, qV, zU, zV, zW, zX, zY, qW, zZ, jA, jB, jC, jD, jE, jF, qX, jG, jH, qS, uA, uB, uC, uD, uE, uF, uG]
  refine ⟨fun _ => ⟨by decide, 97 + (m.fmod 3).toNat, by lia, ?_, _, [], rfl, rfl, by simp⟩, fun q => by cases q⟩
  obtain ⟨k, hk⟩ : ∃ k : Nat, m.fmod 3 = (k : Int) := ⟨(m.fmod 3).toNat, by (clear h5; lia)⟩
  rw [hk] at h6 ⊢
  have : k = 0 ∨ k = 1 ∨ k = 2 := by (clear h5; lia)
  rcases this with rfl | rfl | rfl <;> rfl
 ·rw [pA, List.length_map]; exact Nat.le_trans ‹_› (by decide)
 ·rw [pA]
  refine join_use (ls := l.map fun m => [97 + (m.fmod 3).toNat]) (by rw [List.map_map]; rfl) (by rw [hflen]; exact Nat.le_trans ‹_› (Nat.le_add_left _ _)) (by rw [List.length_map]; exact (qA [_] 1 (.v 0) (.n 10000) (.c 1 (.v 0) (.n 10) .z) rfl hl)) ?_
  refine kP (j := 10) (by rw [intL_get, ha]; rfl) (by decide) ?_
  simp only [qJ, qF, qD, qK, qL, qT, qH, qI, qM, qN, qY, qZ, qE, String.reduceEq, String.reduceBEq, cond_true, cond_false, uH, if_true, if_false, reduceIte, ite_true, ite_false, zA, zB, zC, zD, zE, zF, qP, zG, qQ, zH, zI, zJ, zK, zL, qR, qU, zM, zN, qO, zO, zP, zQ, zR, zS, zT, qV, zU, zV, zW, zX, zY, qW, zZ, jA, jB, jC, jD, jE, jF, qX, jG, jH, qS, uA, uB, uC, uD, uE, uF, uG]
  refine ⟨by decide, by decide, trivial, by rw [jN, hflen]; exact (qA [_,_] 1 (.v 0) (.v 1) (.c 1 (.v 0) (.n 10) (.c 1 (.n 1048576) (.v 1) .z)) rfl hl hs), ?_⟩
  obtain ⟨k, hk⟩ : ∃ k : Nat, 10 - (a.fdiv 250).fmod 4 = (k : Int) := ⟨(10 - (a.fdiv 250).fmod 4).toNat, by lia⟩
  rw [hk, S_sliceTo]
  exact hN _ (by rw [List.length_take, hflen]; (clear h3 hk; exact (qA [_,_] 1 (.v 0) (.n 10) (.c 1 (.v 0) (.v 1) (.c 1 (.v 1) (.n 10) .z)) rfl (Nat.min_le_right _ _) hl))) (abc_take (habc l) k)
structure Good (t : List Nat) (u : Nat) : Prop where
 len : t.length ≤ 10
 abc : abc3 t
 u1 : 1 ≤ u
 u2 : u ≤ 250
noncomputable abbrev csOf (t : List Nat) := cutsF t t.length 0
end
theorem cs_chain (t : List Nat) : Chain t 0 (csOf t) := cuts_chain t t.length 0 (by exact Nat.sub_le _ _) (Nat.zero_le _)
theorem kF {t : List Nat} {u : Nat} (G : Good t u) : (csOf t).length ≤ 10 := by
 have := chain_len (cs_chain t)
 have := G.len
 exact Nat.le_trans ‹_› ‹_›
theorem cs_mem {t : List Nat} {u : Nat} (G : Good t u) {c : Nat × Nat × Nat} (h : c ∈ csOf t) : c.1 < t.length ∧ c.2.1 = max (stood t c.1) 1 ∧ c.1 + c.2.1 ≤ t.length ∧ c.2.2 = codeOf t c.1 ∧ c.2.2 < 160 ∧ c.2.2 * u < 262144 := by
 refine qC fun P kG => ?_
 obtain ⟨_, h1, h2, h3⟩ := chain_mem (cs_chain t) c h
 refine kG ?_
 clear kG P
 have h4 := max_le t h1
 have h5 := code_lt G.len G.abc h1
 refine ⟨h1, h2, by exact (qA [_,_,_,_] 1 (.a (.v 0) (.v 1)) (.v 2) (.c 1 (.a (.v 0) (.v 3)) (.v 2) (.c 1 (.v 1) (.v 3) .z)) rfl h4 (uJ h2)), h3, by exact (qA [_,_] 1 (.a (.v 0) (.n 1)) (.n 160) (.c 1 (.a (.v 1) (.n 1)) (.n 160) (.c 1 (.v 0) (.v 1) .z)) rfl h5 (uJ h3)), ?_⟩
 have : c.2.2 * u ≤ 160 * 250 := Nat.mul_le_mul (by exact (qA [_,_] 1 (.v 0) (.n 160) (.c 1 (.a (.v 1) (.n 1)) (.n 160) (.c 1 (.v 0) (.v 1) .z)) rfl h5 (uJ h3))) G.u2
 exact Nat.lt_of_le_of_lt ‹_› (by decide)
noncomputable def cutsV (t : List Nat) : XV := .v (.list ((csOf t).map (cutD t)))
noncomputable def rowsV (t : List Nat) (u : Nat) : XV := .v (.list ((csOf t).map fun c => .list (nlist (octL (c.2.2 * u)))))
noncomputable def signsV (t : List Nat) (u : Nat) : XV := .v (.list ((csOf t).map fun c => .str (S (oct128 (c.2.2 * u)))))
noncomputable def s4W : SW := fun η σ N _ => ∃ t u, Good t u ∧ vget "text" η = some (.v (.str (S t))) ∧ σ = [.tab 239 []] ∧ ∀ qs, N (vset "cuts" (cutsV t) η) [.tab 239 qs]
noncomputable def s5W : SW := fun η σ N _ => ∃ t u, Good t u ∧ vget "unit" η = some (.v (.int u)) ∧ vget "cuts" η = some (cutsV t) ∧ N (vset "rows" (rowsV t u) η) σ
noncomputable def s6W : SW := fun η σ N _ => ∃ t u, Good t u ∧ vget "rows" η = some (rowsV t u) ∧ N (vset "signs" (signsV t u) η) σ
theorem nat_ii (n m : Nat) : (n : Int) * (m : Int) = ((n * m : Nat) : Int) := (Int.natCast_mul n m).symm
section
variable {c : Cx} {P : Params} {mg : Str → Option Value} (Y : Yes c P mg) (C0 : CodeHd c.base 243 239) (hbt : c.base.BuiltinsAt mg 239) (hgP : mainGlobals ≠ 239) (rm : Room 4 c.A) (L : Addr) (cells : List (Str × Addr)) {fa : Addr} {cd : Value} {env : Env} (henv : env = (lawEnv P fa cd L cells)) (hcl : CellsOk env) (hfr : c.A.frames = some [env])
include Y C0 hbt hgP rm henv hcl hfr
theorem s4 :
  SS c env (exec (lst P 4) env) s4W := by
 have hh := rm.hd
 have heq := rm.eq
 refine pF (pE (jZ (by subst henv; kernel_rfl) (l_cut Y C0 hbt hgP rm (by subst henv; kernel_rfl) rfl (qG (qB (by subst henv; kernel_rfl)) jI)) (by subst henv; kernel_rfl))) ?_
 intro η σ N Rt h
 dsimp only [wCons, wAsg, wIf, wRet, wBin, wCmp, wPl, wUn, wAnd, wOr, wIfE, wEs, wSl]
 refine qC fun P kG => ?_
 obtain ⟨t, u, G, h1, rfl, hN⟩ := h
 refine kG ?_
 clear kG P
 have hl := G.len
 simp only [h1, qJ, qF, qD, qK, qL, qT, qH, qI, qM, qN, qY, qZ, qE, String.reduceEq, String.reduceBEq, cond_true, cond_false, uH, if_true, if_false, reduceIte, ite_true, ite_false, zA, zB, zC, zD, zE, zF, qP, zG, qQ, zH, zI, zJ, zK, zL, qR, qU, zM, zN, qO, zO, zP, zQ, zR, zS, zT, qV, zU, zV, zW, zX, zY, qW, zZ, jA, jB, jC, jD, jE, jF, qX, jG, jH, qS, uA, uB, uC, uD, uE, uF, uG]
 exact ⟨trivial, cut_use (by exact Nat.lt_of_le_of_lt ‹_› (by decide)) G.abc hN⟩
theorem s5 :
  SS c env (exec (lst P 5) env) s5W := by
 have hh := rm.hd
 have heq := rm.eq
 refine pF (pE (vM hh hcl (by subst henv; kernel_rfl) (qB (by subst henv; kernel_rfl)) (by exact trivial) (pL (by subst henv; kernel_rfl)) (fun _ q => q) (fun L cells => (kY hh [("start", _), ("piece", _), ("code", _)] rfl rfl rfl (nmsOkC _ (by subst henv; kernel_rfl)))) (vG _ (by subst henv; kernel_rfl)) (fun L cells => pW) (fun L cells => (l_oct Y rm (by subst henv; kernel_rfl) rfl (qG (jJ (qB (by subst henv; kernel_rfl)) (qB (by subst henv; kernel_rfl)) op_mul) jI))) (by subst henv; kernel_rfl))) ?_
 intro η σ N Rt h
 dsimp only [wCons, wAsg, wIf, wRet, wBin, wCmp, wPl, wUn, wAnd, wOr, wIfE, wEs, wSl]
 refine qC fun P kG => ?_
 obtain ⟨t, u, G, h1, h2, hN⟩ := h
 refine kG ?_
 clear kG P
 have hs := pH
 have hl := kF G
 simp only [h2, cutsV, qJ, qF, qD, qK, qL, qT, qH, qI, qM, qN, qY, qZ, qE, String.reduceEq, String.reduceBEq, cond_true, cond_false, uH, if_true, if_false, reduceIte, ite_true, ite_false, zA, zB, zC, zD, zE, zF, qP, zG, qQ, zH, zI, zJ, zK, zL, qR, qU, zM, zN, qO, zO, zP, zQ, zR, zS, zT, qV, zU, zV, zW, zX, zY, qW, zZ, jA, jB, jC, jD, jE, jF, qX, jG, jH, qS, uA, uB, uC, uD, uE, uF, uG]
 refine ⟨_, (csOf t).map (fun c => [PyData.list (nlist (octL (c.2.2 * u)))]), rfl, CompAll.map (f := cutD t) fun c hc => ?_, ?_, ?_⟩
 ·refine qC fun P kG => ?_
  obtain ⟨c1, c2, c3, c4, c5, c6⟩ := cs_mem G hc
  refine kG ?_
  clear kG P
  refine ⟨[.int c.1, .str (S (fac t c.1 c.2.1)), .int c.2.2], rfl, rfl, fun _ => ?_, fun q => by cases q⟩
  simp only [h1, qJ, qF, qD, qK, qL, qT, qH, qI, qM, qN, qY, qZ, qE, String.reduceEq, String.reduceBEq, cond_true, cond_false, uH, if_true, if_false, reduceIte, ite_true, ite_false, zA, zB, zC, zD, zE, zF, qP, zG, qQ, zH, zI, zJ, zK, zL, qR, qU, zM, zN, qO, zO, zP, zQ, zR, zS, zT, qV, zU, zV, zW, zX, zY, qW, zZ, jA, jB, jC, jD, jE, jF, qX, jG, jH, qS, uA, uB, uC, uD, uE, uF, uG, List.map_cons, List.map_nil]
  refine ⟨mulOk (by exact (jO [_] 1 (.g (.n 1000000)) (.c (.v 0)) .z rfl )) (by exact (jO [_] 1 (.c (.v 0)) (.n 1000000) (.c 1 (.a (.v 0) (.n 1)) (.n 160) .z) rfl c5)), trivial, ?_⟩
  rw [nat_ii]
  exact oct_use c6 ⟨_, [], rfl, rfl, by simp⟩
 ·rw [pA, List.length_map]; exact Nat.le_trans ‹_› (by decide)
 ·rw [pA]; exact hN
theorem s6 :
  SS c env (exec (lst P 6) env) s6W := by
 have hh := rm.hd
 have heq := rm.eq
 refine pF (pE (jZ (by subst henv; kernel_rfl) (pT hh (qB (by subst henv; kernel_rfl)) (by exact trivial) (pL (by subst henv; kernel_rfl)) (fun _ q => q) (fun L cells => (pP (pM (by subst henv; kernel_rfl)) (by subst henv; kernel_rfl))) (pY (by subst henv; kernel_rfl)) (fun L cells => pW) (fun L cells => (l_join pQ rfl (qG (pT hh (qB (by subst henv; kernel_rfl)) (by exact trivial) (pL (by subst henv; kernel_rfl)) (fun _ q => q) (fun L cells => (pP (pM (by subst henv; kernel_rfl)) (by subst henv; kernel_rfl))) (pY (by subst henv; kernel_rfl)) (fun L cells => pW) (fun L cells => (l_chr Y (by subst henv; kernel_rfl) rfl rfl (qG (jJ (qB (by subst henv; kernel_rfl)) jM jU) jI)))) jI) rfl rfl))) (by subst henv; kernel_rfl))) ?_
 intro η σ N Rt h
 dsimp only [wCons, wAsg, wIf, wRet, wBin, wCmp, wPl, wUn, wAnd, wOr, wIfE, wEs, wSl]
 refine qC fun P kG => ?_
 obtain ⟨t, u, G, h1, hN⟩ := h
 refine kG ?_
 clear kG P
 have hs := pH
 have hl := kF G
 simp only [h1, rowsV, qJ, qF, qD, qK, qL, qT, qH, qI, qM, qN, qY, qZ, qE, String.reduceEq, String.reduceBEq, cond_true, cond_false, uH, if_true, if_false, reduceIte, ite_true, ite_false, zA, zB, zC, zD, zE, zF, qP, zG, qQ, zH, zI, zJ, zK, zL, qR, qU, zM, zN, qO, zO, zP, zQ, zR, zS, zT, qV, zU, zV, zW, zX, zY, qW, zZ, jA, jB, jC, jD, jE, jF, qX, jG, jH, qS, uA, uB, uC, uD, uE, uF, uG]
 refine ⟨_, (csOf t).map (fun c => [PyData.str (S (oct128 (c.2.2 * u)))]), rfl, CompAll.map (f := fun c : Nat × Nat × Nat => PyData.list (nlist (octL (c.2.2 * u)))) fun c hc => ?_, ?_, ?_⟩
 ·have h5 := octL_len (c.2.2 * u)
  have h6 := octL_lt (c.2.2 * u)
  unfold CB
  simp only [qJ, qF, qD, qK, qL, qT, qH, qI, qM, qN, qY, qZ, qE, String.reduceEq, String.reduceBEq, cond_true, cond_false, uH, if_true, if_false, reduceIte, ite_true, ite_false, zA, zB, zC, zD, zE, zF, qP, zG, qQ, zH, zI, zJ, zK, zL, qR, qU, zM, zN, qO, zO, zP, zQ, zR, zS, zT, qV, zU, zV, zW, zX, zY, qW, zZ, jA, jB, jC, jD, jE, jF, qX, jG, jH, qS, uA, uB, uC, uD, uE, uF, uG]
  refine ⟨fun _ => ⟨_, rfl, _, (octL (c.2.2 * u)).map (fun x => [PyData.str (S [x + 128])]), rfl, CompAll.map (f := fun (x : Nat) => PyData.int (x : Int)) fun x hx => ?_, ?_, ?_⟩, fun q => by cases q⟩
  ·have := h6 x hx
   simp only [qJ, qF, qD, qK, qL, qT, qH, qI, qM, qN, qY, qZ, qE, String.reduceEq, String.reduceBEq, cond_true, cond_false, uH, if_true, if_false, reduceIte, ite_true, ite_false, zA, zB, zC, zD, zE, zF, qP, zG, qQ, zH, zI, zJ, zK, zL, qR, qU, zM, zN, qO, zO, zP, zQ, zR, zS, zT, qV, zU, zV, zW, zX, zY, qW, zZ, jA, jB, jC, jD, jE, jF, qX, jG, jH, qS, uA, uB, uC, uD, uE, uF, uG]
   refine ⟨fun _ => ⟨by exact ⟨(jO [_] 1 (.n 0) (.a (.c (.v 0)) (.n 128)) .z rfl ), (jO [_] 1 (.a (.a (.c (.v 0)) (.n 128)) (.n 1)) (.n 1000) (.c 1 (.a (.v 0) (.n 1)) (.n 128) .z) rfl this)⟩, _, [], rfl, ?_, by simp⟩, fun q => by cases q⟩
   rw [show ((x : Int) + 128).toNat = x + 128 by exact Int.natAbs_natCast _]
   rfl
  ·rw [pA, List.length_map]; exact (qA [_,_] 1 (.v 0) (.v 1) (.c 1 (.v 0) (.n 3) (.c 1 (.n 1048576) (.v 1) .z)) rfl (And.right h5) hs)
  ·rw [pA]
   refine join_use (ls := (octL (c.2.2 * u)).map fun x => [x + 128]) (by rw [List.map_map]; rfl) (by rw [pA, List.length_map]; exact (qA [_] 1 (.v 0) (.n 10000) (.c 1 (.v 0) (.n 3) .z) rfl (And.right h5))) (by rw [List.length_map]; lia) ?_
   rw [pA]
   exact ⟨_, [], rfl, rfl, by simp⟩
 ·rw [pA, List.length_map]; exact (qA [_,_] 1 (.v 0) (.v 1) (.c 1 (.v 0) (.n 10) (.c 1 (.n 1048576) (.v 1) .z)) rfl hl hs)
 ·rw [pA]; exact hN
end
noncomputable def sh (d : PyData) (k : Nat) : Prop := d.canLay0 = true ∧ d.depth ≤ k
theorem sh_int (i : Int) : sh (.int i) 0 := ⟨rfl, Nat.le_refl _⟩
theorem sh_str {l : List Nat} (h : ∀ c ∈ l, c < 1000) : sh (.str (S l)) 0 := ⟨SeqAt.canLay_of_shaped (S_shaped l h), Nat.le_refl _⟩
theorem sh_all {k : Nat} : ∀ {xs : List PyData}, (∀ d ∈ xs, sh d k) → PyData.canLayAll0 xs = true ∧ PyData.depthAll xs ≤ k
 | [], _ => ⟨rfl, Nat.zero_le _⟩
 | d :: xs, h => by
  obtain ⟨a, b⟩ := h d List.mem_cons_self
  obtain ⟨e, f⟩ := sh_all fun y hy => h y (List.mem_cons_of_mem _ hy)
  refine ⟨by unfold PyData.canLayAll0; rw [a, e]; rfl, by unfold PyData.depthAll; exact (Or.elim (Nat.le_total (d.depth) (PyData.depthAll xs)) (fun q0 => (qA [_,_,_] 1 (.v 0) (.v 1) (.c 1 (.v 0) (.v 2) (.c 1 (.v 2) (.v 1) .z)) rfl (uJ (Nat.max_eq_right (qA [_,_] 1 (.v 0) (.v 1) (.c 1 (.v 0) (.v 1) .z) rfl q0))) f)) fun q0 => (qA [_,_,_] 1 (.v 0) (.v 1) (.c 1 (.v 0) (.v 2) (.c 1 (.v 2) (.v 1) .z)) rfl (uJ (Nat.max_eq_left (qA [_,_] 1 (.v 0) (.v 1) (.c 1 (.v 0) (.v 1) .z) rfl q0))) b))⟩
theorem sh_list {k : Nat} {xs : List PyData} (h : ∀ d ∈ xs, sh d k) : sh (.list xs) (k + 1) := by
 obtain ⟨a, b⟩ := sh_all h
 exact ⟨by unfold PyData.canLay0; exact a, by unfold PyData.depth; exact (qA [_,_] 1 (.a (.v 0) (.n 1)) (.a (.v 1) (.n 1)) (.c 1 (.v 0) (.v 1) .z) rfl b)⟩
theorem sh_tuple {k : Nat} {xs : List PyData} (h : ∀ d ∈ xs, sh d k) : sh (.tuple xs) (k + 1) := by
 obtain ⟨a, b⟩ := sh_all h
 exact ⟨by unfold PyData.canLay0; exact a, by unfold PyData.depth; lia⟩
theorem shaped_of {d : PyData} {k : Nat} (h : sh d k) (hk : k ≤ 64) : SeqAt.shaped d = true := by
 unfold SeqAt.shaped
 rw [h.1, decide_eq_true (Nat.le_trans h.2 hk)]; rfl
theorem sh_nlist (l : List Nat) : sh (.list (nlist l)) 1 := sh_list fun d hd => by
 unfold nlist at hd
 rw [List.mem_map] at hd
 obtain ⟨k, _, rfl⟩ := hd
 exact sh_int _
section
variable {σ : Sto} {Q : XV → Sto → Prop}
theorem kU {n : Bool} {d e : PyData} {k : Nat} (h : sh d k) (hk : k ≤ 64) (he : d = e) (hQ : Q (.v (.bool (n != true))) σ) : oEq n (.v d) (.v e) σ Q := by
 subst he
 refine ⟨d, d, rfl, rfl, shaped_of h hk, shaped_of h hk, ?_⟩
 rw [SeqAt.eqv_refl d h.1]; exact hQ
theorem ne_nil {xs : List PyData} {k : Nat} (h : sh (.list xs) k) (hk : k ≤ 64) (hQ : Q (.v (.bool (!xs.isEmpty))) (σ ++ [.list []])) : oEq true (.v (.list xs)) (.own σ.length) (σ ++ [.list []]) Q := by
 refine ⟨.list xs, .list [], rfl, ?_, shaped_of h hk, rfl, ?_⟩
 ·show (match (σ ++ [MO.list []])[σ.length]? with | some (.list xs) => some (PyData.list xs) | _ => none) = _
  rw [kO]
 ·cases xs with
  | nil => exact hQ
  | cons d xs => exact hQ
end
noncomputable def s7W : SW := fun η σ N _ => ∃ qs, σ = [.tab 239 qs] ∧ ∀ η', (∀ y, vget y η' = bif y == "table" then some (.hdr 214 1) else bif y == "plain" then some (.hdr 214 2) else bif y == "kept" then some (.own 3) else vget y η) → N η' [.tab 239 qs, .list [], .list [], .list []]
section
variable {c : Cx} {P : Params} {mg : Str → Option Value} (Y : Yes c P mg) (C0 : CodeHd c.base 243 239) (hbt : c.base.BuiltinsAt mg 239) (hgP : mainGlobals ≠ 239) (rm : Room 4 c.A) (L : Addr) (cells : List (Str × Addr)) {fa : Addr} {cd : Value} {env : Env} (henv : env = (lawEnv P fa cd L cells)) (hcl : CellsOk env) (hfr : c.A.frames = some [env])
include Y C0 hbt hgP rm henv hcl hfr
theorem s7 :
  SS c env (exec (lst P 7) env) s7W := by
 have hh := rm.hd
 have heq := rm.eq
 refine pF (pE (vL hh ["table", "plain", "kept"] (nms0 _ (by subst henv; kernel_rfl)) rfl (qG (eok_hdr0 Y (rm.less (by decide)) (by subst henv; kernel_rfl) (by kernel_rfl) (by decide)) (qG (eok_hdr1 Y (rm.less (by decide)) (by subst henv; kernel_rfl) (by kernel_rfl) (by decide)) (qG (kM rfl jI) jI))) (by subst henv; kernel_rfl) (by subst henv; kernel_rfl))) ?_
 intro η σ N Rt h
 dsimp only [wCons, wAsg, wIf, wRet, wBin, wCmp, wPl, wUn, wAnd, wOr, wIfE, wEs, wSl]
 obtain ⟨qs, rfl, hN⟩ := h
 simp only [qJ, qF, qD, qK, qL, qT, qH, qI, qM, qN, qY, qZ, qE, String.reduceEq, String.reduceBEq, cond_true, cond_false, uH, if_true, if_false, reduceIte, ite_true, ite_false, zA, zB, zC, zD, zE, zF, qP, zG, qQ, zH, zI, zJ, zK, zL, qR, qU, zM, zN, qO, zO, zP, zQ, zR, zS, zT, qV, zU, zV, zW, zX, zY, qW, zZ, jA, jB, jC, jD, jE, jF, qX, jG, jH, qS, uA, uB, uC, uD, uE, uF, uG]
 refine ⟨by decide, by decide, trivial, hN _ fun y => ?_⟩
 simp only [qJ, qF, qD, qK, qL, qT, qH, qI, qM, qN, qY, qZ, qE, String.reduceEq, String.reduceBEq, cond_true, cond_false, uH, if_true, if_false, reduceIte, ite_true, ite_false, zA, zB, zC, zD, zE, zF, qP, zG, qQ, zH, zI, zJ, zK, zL, qR, qU, zM, zN, qO, zO, zP, zQ, zR, zS, zT, qV, zU, zV, zW, zX, zY, qW, zZ, jA, jB, jC, jD, jE, jF, qX, jG, jH, qS, uA, uB, uC, uD, uE, uF, uG]
end
noncomputable def fbody (P : Params) : List Stmt := (sk (lst P 8)).1
noncomputable def fb (P : Params) (k : Nat) : Stmt := ((fbody P).drop k).headD (.Pass default)
noncomputable def pc (t : List Nat) (c : Nat × Nat × Nat) : List Nat := fac t c.1 c.2.1
noncomputable def nm (t : List Nat) (k : Nat) (c : Nat × Nat × Nat) : List Nat := if k % 2 = 1 then (pc t c).map upc else pc t c
noncomputable def tabR (t : List Nat) (u k : Nat) (c : Nat × Nat × Nat) : Str × Str := (S (nm t k c), S (oct128 (c.2.2 * u)))
noncomputable def tabP (t : List Nat) (u : Nat) : List (Str × Str) := (csOf t).mapIdx (tabR t u)
noncomputable def bad (u : Nat) (c : Nat × Nat × Nat) : Bool := (octL (c.2.2 * u)).any badV
noncomputable def plR (t : List Nat) (u : Nat) (c : Nat × Nat × Nat) : Str × Str := (S (pc t c), S (octL (c.2.2 * u)))
noncomputable def plP (t : List Nat) (u : Nat) (cs : List (Nat × Nat × Nat)) : List (Str × Str) := (cs.filter fun c => !bad u c).map (plR t u)
theorem k_lt {t : List Nat} {u k : Nat} {c : Nat × Nat × Nat} (G : Good t u) (h : (csOf t)[k]? = some c) : k < 10 := by
 have := (List.getElem?_eq_some_iff.mp h).1
 have := kF G
 exact Nat.lt_of_lt_of_le ‹_› ‹_›
theorem mul_ob {i : Nat} {b : Bool} {σ : Sto} {Q : XV → Sto → Prop} : oMul (.own i) (.v (.bool b)) σ Q = ∃ xs, lst? σ (.own i) = some xs ∧ xs.length ≤ sizeLine ∧ Q (.v (.list (if b = true then xs else []))) σ := rfl
structure Turn (t : List Nat) (u k : Nat) (c : Nat × Nat × Nat) : Prop where
 G : Good t u
 hk : (csOf t)[k]? = some c
theorem Turn.mem {t : List Nat} {u k : Nat} {c : Nat × Nat × Nat} (T : Turn t u k c) : c ∈ csOf t := List.mem_of_getElem? T.hk
theorem Turn.lt {t : List Nat} {u k : Nat} {c : Nat × Nat × Nat} (T : Turn t u k c) : k < 10 := k_lt T.G T.hk
theorem Turn.pcLen {t : List Nat} {u k : Nat} {c : Nat × Nat × Nat} (T : Turn t u k c) : (pc t c).length = c.2.1 ∧ 1 ≤ c.2.1 ∧ c.2.1 ≤ 10 ∧ c.1 + c.2.1 ≤ t.length := by
 refine qC fun P kG => ?_
 obtain ⟨c1, c2, c3, c4, c5, c6⟩ := cs_mem T.G T.mem
 refine kG ?_
 clear kG P
 have := T.G.len
 exact ⟨kR c3, by exact (qA [_,_] 1 (.n 1) (.v 0) (.c 1 (.n 1) (.v 1) (.c 1 (.v 1) (.v 0) .z)) rfl (Nat.le_max_right _ _) (uJ (Eq.symm c2))), by exact (qA [_,_,_] 1 (.v 0) (.n 10) (.c 1 (.v 1) (.n 10) (.c 1 (.a (.v 2) (.v 0)) (.v 1) .z)) rfl this c3), c3⟩
theorem pX {t : List Nat} {u : Nat} (G : Good t u) (c : Nat × Nat × Nat) : abc3 (pc t c) := abc_fac G.abc _ _
theorem oct128_ok (n : Nat) : (oct128 n).any badV = false := by
 rw [List.any_eq_false]
 intro x hx
 unfold oct128 at hx
 rw [List.mem_map] at hx
 obtain ⟨y, hy, rfl⟩ := hx
 unfold badV
 rw [decide_eq_false (by simp), Bool.false_and, Bool.false_or]
 simp
theorem nm_ok {t : List Nat} {u k : Nat} {c : Nat × Nat × Nat} (T : Turn t u k c) : (nm t k c).length < 1000 ∧ (nm t k c).any badN = false := by
 refine qC fun P kG => ?_
 obtain ⟨h1, h2, h3, h4⟩ := T.pcLen
 refine kG ?_
 clear kG P
 unfold nm
 split
 ·rw [List.length_map]; exact ⟨by exact (qA [_,_] 1 (.a (.v 0) (.n 1)) (.n 1000) (.c 1 (.v 1) (.n 10) (.c 1 (.v 0) (.v 1) .z)) rfl h3 (uJ h1)), up_bad (pX T.G c)⟩
 ·exact ⟨by lia, abc_bad (pX T.G c)⟩
noncomputable def b0W : SW := fun η σ N _ => ∃ t u k c, Turn t u k c ∧ vget "k" η = some (.v (.int (k : Nat))) ∧ vget "cuts" η = some (cutsV t) ∧ N (vset "code" (.v (.int (c.2.2 : Nat))) (vset "piece" (.v (.str (S (pc t c)))) (vset "start" (.v (.int (c.1 : Nat))) η))) σ
noncomputable def b1W : SW := fun η σ N _ => ∃ t u k c xs, Turn t u k c ∧ vget "k" η = some (.v (.int (k : Nat))) ∧ vget "piece" η = some (.v (.str (S (pc t c)))) ∧ vget "signs" η = some (signsV t u) ∧ vget "table" η = some (.hdr 214 1) ∧ σ[1]? = some (.list xs) ∧ xs.length < 1000 ∧
 N η (σ.set 1 (MO.list (xs ++ [rowD (tabR t u k c)])))
noncomputable def b2W : SW := fun η σ N _ => ∃ t u k c, Turn t u k c ∧ vget "k" η = some (.v (.int (k : Nat))) ∧ vget "rows" η = some (rowsV t u) ∧ N (vset "bare" (.v (.str (S (octL (c.2.2 * u))))) η) σ
noncomputable def b3W : SW := fun η σ N _ => ∃ t u k c, Turn t u k c ∧ vget "k" η = some (.v (.int (k : Nat))) ∧ vget "rows" η = some (rowsV t u) ∧ N (vset "barred" (.v (.bool (bad u c))) η) (σ ++ [.list []])
noncomputable def b4W : SW := fun η σ N _ => ∃ t u k c xs, Turn t u k c ∧ vget "plain" η = some (.hdr 214 2) ∧ vget "piece" η = some (.v (.str (S (pc t c)))) ∧ vget "bare" η = some (.v (.str (S (octL (c.2.2 * u))))) ∧ vget "barred" η = some (.v (.bool (bad u c))) ∧ σ[2]? = some (.list xs) ∧ xs.length < 1000 ∧
 ∀ σ4, σ4 = (if bad u c = true then σ else σ.set 2 (MO.list (xs ++ [rowD (plR t u c)]))) → N η σ4
noncomputable def b5W : SW := fun η σ N _ => ∃ t u k c xs, Turn t u k c ∧ vget "kept" η = some (.own 3) ∧ vget "piece" η = some (.v (.str (S (pc t c)))) ∧ vget "bare" η = some (.v (.str (S (octL (c.2.2 * u))))) ∧ vget "barred" η = some (.v (.bool (bad u c))) ∧ σ[3]? = some (.list xs) ∧ xs.length < 1000 ∧
 N η ((σ ++ [MO.list [rowD (plR t u c)]]).set 3 (MO.list (xs ++ if bad u c = true then [] else [rowD (plR t u c)])))
noncomputable def b6W : SW := fun η σ N _ => ∃ t u k c, Turn t u k c ∧ vget "text" η = some (.v (.str (S t))) ∧ vget "start" η = some (.v (.int (c.1 : Nat))) ∧ vget "piece" η = some (.v (.str (S (pc t c)))) ∧
 N (vset "front" (.v (.str (S (t.take c.1)))) (vset "back" (.v (.str (S (t.drop (c.1 + c.2.1))))) η)) σ
noncomputable def b7W : SW := fun η σ N _ => ∃ t u k c, Turn t u k c ∧ vget "text" η = some (.v (.str (S t))) ∧ vget "front" η = some (.v (.str (S (t.take c.1)))) ∧ vget "piece" η = some (.v (.str (S (pc t c)))) ∧ vget "back" η = some (.v (.str (S (t.drop (c.1 + c.2.1))))) ∧ N η σ
section
variable {c : Cx} {P : Params} {mg : Str → Option Value} (Y : Yes c P mg) (C0 : CodeHd c.base 243 239) (hbt : c.base.BuiltinsAt mg 239) (hgP : mainGlobals ≠ 239) (rm : Room 4 c.A) (L : Addr) (cells : List (Str × Addr)) {fa : Addr} {cd : Value} {env : Env} (henv : env = (lawEnv P fa cd L cells)) (hcl : CellsOk env) (hfr : c.A.frames = some [env])
include Y C0 hbt hgP rm henv hcl hfr
theorem b0 :
  SS c env (exec (fb P 0) env) b0W := by
 have hh := rm.hd
 have heq := rm.eq
 refine pF (pE (sok_unpack rfl (pI (qB (by subst henv; kernel_rfl)) (qB (by subst henv; kernel_rfl))) (kY hh [("start", _), ("piece", _), ("code", _)] rfl rfl rfl (nmsOk _ (by subst henv; kernel_rfl))) (by subst henv; kernel_rfl) (by subst henv; kernel_rfl))) ?_
 intro η σ N Rt h
 dsimp only [wCons, wAsg, wIf, wRet, wBin, wCmp, wPl, wUn, wAnd, wOr, wIfE, wEs, wSl]
 refine qC fun P kG => ?_
 obtain ⟨t, u, k, c, T, h1, h2, hN⟩ := h
 refine kG ?_
 clear kG P
 have hk := T.lt
 simp only [h1, h2, cutsV, qJ, qF, qD, qK, qL, qT, qH, qI, qM, qN, qY, qZ, qE, String.reduceEq, String.reduceBEq, cond_true, cond_false, uH, if_true, if_false, reduceIte, ite_true, ite_false, zA, zB, zC, zD, zE, zF, qP, zG, qQ, zH, zI, zJ, zK, zL, qR, qU, zM, zN, qO, zO, zP, zQ, zR, zS, zT, qV, zU, zV, zW, zX, zY, qW, zZ, jA, jB, jC, jD, jE, jF, qX, jG, jH, qS, uA, uB, uC, uD, uE, uF, uG]
 refine kP (d := cutD t c) (by rw [List.getElem?_map, T.hk]; rfl) (by exact Nat.le_trans ‹_› (Nat.le_add_left _ _)) ⟨[.int c.1, .str (S (fac t c.1 c.2.1)), .int c.2.2], rfl, rfl, ?_⟩
 simp only [qJ, qF, qD, qK, qL, qT, qH, qI, qM, qN, qY, qZ, qE, String.reduceEq, String.reduceBEq, cond_true, cond_false, uH, if_true, if_false, reduceIte, ite_true, ite_false, zA, zB, zC, zD, zE, zF, qP, zG, qQ, zH, zI, zJ, zK, zL, qR, qU, zM, zN, qO, zO, zP, zQ, zR, zS, zT, qV, zU, zV, zW, zX, zY, qW, zZ, jA, jB, jC, jD, jE, jF, qX, jG, jH, qS, uA, uB, uC, uD, uE, uF, uG, List.map_cons, List.map_nil]
 exact hN
theorem b1 :
  SS c env (exec (fb P 1) env) b1W := by
 have hh := rm.hd
 have heq := rm.eq
 refine pF (pE (sok_expr (l_add_header Y rm hfr (by subst henv; rfl) (qB (by subst henv; kernel_rfl)) (args_pos (qG (eok_ifexp (pos := default) (kT (jJ (qB (by subst henv; kernel_rfl)) jM op_mod) jT) (l_upper (qB (by subst henv; kernel_rfl)) rfl jI rfl rfl) (qB (by subst henv; kernel_rfl))) (qG (pI (qB (by subst henv; kernel_rfl)) (qB (by subst henv; kernel_rfl))) jI))) rfl) (by subst henv; kernel_rfl) (by subst henv; kernel_rfl))) ?_
 intro η σ N Rt h
 dsimp only [wCons, wAsg, wIf, wRet, wBin, wCmp, wPl, wUn, wAnd, wOr, wIfE, wEs, wSl]
 refine qC fun P kG => ?_
 obtain ⟨t, u, k, c, xs, T, h1, h2, h3, h4, h5, h6, hN⟩ := h
 have hk := T.lt
 have hs := pH
 obtain ⟨p1, p2, p3, p4⟩ := T.pcLen
 obtain ⟨n1, n2⟩ := nm_ok T
 refine kG ?_
 clear kG P
 have o1 := oct128_len (c.2.2 * u)
 have hsg : ((csOf t).map fun c => PyData.str (S (oct128 (c.2.2 * u))))[k]? = some (.str (S (oct128 (c.2.2 * u)))) := by rw [List.getElem?_map, T.hk]; rfl
 simp only [h1, h2, h3, h4, signsV, qJ, qF, qD, qK, qL, qT, qH, qI, qM, qN, qY, qZ, qE, String.reduceEq, String.reduceBEq, cond_true, cond_false, uH, if_true, if_false, reduceIte, ite_true, ite_false, zA, zB, zC, zD, zE, zF, qP, zG, qQ, zH, zI, zJ, zK, zL, qR, qU, zM, zN, qO, zO, zP, zQ, zR, zS, zT, qV, zU, zV, zW, zX, zY, qW, zZ, jA, jB, jC, jD, jE, jF, qX, jG, jH, qS, uA, uB, uC, uD, uE, uF, uG]
 refine ⟨instV_hdr, by decide, fun hb => ?_, fun hb => ?_⟩
 ·have e : nm t k c = (pc t c).map upc := by
   unfold nm; rw [if_pos]
   rw [show (k : Int).fmod 2 = ((k % 2 : Nat) : Int) from fmodNat k 2] at hb
   have : ¬ ((k % 2 : Nat) : Int) = 0 := by simpa using hb
   (clear hb; lia)
  rw [S_upper (pX T.G c), ← e]
  exact ⟨_, rfl, by rw [jN]; exact Nat.le_trans (Nat.le_of_lt ‹_›) (by decide), kP hsg (by (clear hb; exact (qA [_] 1 (.a (.v 0) (.n 1)) (.n 1000) (.c 1 (.a (.v 0) (.n 1)) (.n 10) .z) rfl hk))) (ah_use h5 n1 (by exact (qA [_] 1 (.a (.v 0) (.n 1)) (.n 1000) (.c 1 (.v 0) (.n 3) .z) rfl (And.right o1))) n2 h6 (oct128_ok _) ⟨rfl, hN⟩)⟩
 ·have e : nm t k c = pc t c := by
   unfold nm; rw [if_neg]
   rw [show (k : Int).fmod 2 = ((k % 2 : Nat) : Int) from fmodNat k 2] at hb
   have : ((k % 2 : Nat) : Int) = 0 := by simpa using hb
   (clear hb; exact (fun q0 => (jY [_] (.c 1 (.n 1) (.v 0) (.i 1 (.c (.v 0)) (.n 0) .z)) rfl (uJ (Eq.symm q0)) (Int.le_of_eq this))))
  rw [← e]
  exact kP hsg (by (clear hb; lia)) (ah_use h5 n1 (by lia) n2 h6 (oct128_ok _) ⟨rfl, hN⟩)
theorem b2 :
  SS c env (exec (fb P 2) env) b2W := by
 have hh := rm.hd
 have heq := rm.eq
 refine pF (pE (jZ (by subst henv; kernel_rfl) (l_join pQ rfl (qG (pT hh (pI (qB (by subst henv; kernel_rfl)) (qB (by subst henv; kernel_rfl))) (by exact trivial) (pL (by subst henv; kernel_rfl)) (fun _ q => q) (fun L cells => (pP (pM (by subst henv; kernel_rfl)) (by subst henv; kernel_rfl))) (pY (by subst henv; kernel_rfl)) (fun L cells => pW) (fun L cells => (l_chr Y (by subst henv; kernel_rfl) rfl rfl (qG (qB (by subst henv; kernel_rfl)) jI)))) jI) rfl rfl) (by subst henv; kernel_rfl))) ?_
 intro η σ N Rt h
 dsimp only [wCons, wAsg, wIf, wRet, wBin, wCmp, wPl, wUn, wAnd, wOr, wIfE, wEs, wSl]
 refine qC fun P kG => ?_
 obtain ⟨t, u, k, c, T, h1, h2, hN⟩ := h
 refine kG ?_
 clear kG P
 have hk := T.lt
 have hs := pH
 have o1 := octL_len (c.2.2 * u)
 have o2 := octL_lt (c.2.2 * u)
 simp only [h1, h2, rowsV, qJ, qF, qD, qK, qL, qT, qH, qI, qM, qN, qY, qZ, qE, String.reduceEq, String.reduceBEq, cond_true, cond_false, uH, if_true, if_false, reduceIte, ite_true, ite_false, zA, zB, zC, zD, zE, zF, qP, zG, qQ, zH, zI, zJ, zK, zL, qR, qU, zM, zN, qO, zO, zP, zQ, zR, zS, zT, qV, zU, zV, zW, zX, zY, qW, zZ, jA, jB, jC, jD, jE, jF, qX, jG, jH, qS, uA, uB, uC, uD, uE, uF, uG]
 refine ⟨_, rfl, kP (d := .list (nlist (octL (c.2.2 * u)))) (by rw [List.getElem?_map, T.hk]; rfl) (by lia) ⟨_, (octL (c.2.2 * u)).map (fun x => [PyData.str (S [x])]), rfl, CompAll.map (f := fun (x : Nat) => PyData.int (x : Int)) fun x hx => ?_, ?_, ?_⟩⟩
 ·have := o2 x hx
  unfold CB
  simp only [qJ, qF, qD, qK, qL, qT, qH, qI, qM, qN, qY, qZ, qE, String.reduceEq, String.reduceBEq, cond_true, cond_false, uH, if_true, if_false, reduceIte, ite_true, ite_false, zA, zB, zC, zD, zE, zF, qP, zG, qQ, zH, zI, zJ, zK, zL, qR, qU, zM, zN, qO, zO, zP, zQ, zR, zS, zT, qV, zU, zV, zW, zX, zY, qW, zZ, jA, jB, jC, jD, jE, jF, qX, jG, jH, qS, uA, uB, uC, uD, uE, uF, uG]
  exact ⟨fun _ => ⟨by exact ⟨(jO [_] 1 (.n 0) (.c (.v 0)) .z rfl ), (jO [_] 1 (.a (.c (.v 0)) (.n 1)) (.n 1000) (.c 1 (.a (.v 0) (.n 1)) (.n 128) .z) rfl this)⟩, _, [], rfl, rfl, by simp⟩, fun q => by cases q⟩
 ·rw [pA, List.length_map]; exact (qA [_,_] 1 (.v 0) (.v 1) (.c 1 (.v 0) (.n 3) (.c 1 (.n 1048576) (.v 1) .z)) rfl (And.right o1) hs)
 ·rw [pA]
  refine join_use (ls := (octL (c.2.2 * u)).map fun x => [x]) (by rw [List.map_map]; rfl) (by rw [pA, List.length_map]; exact (qA [_] 1 (.v 0) (.n 10000) (.c 1 (.v 0) (.n 3) .z) rfl (And.right o1))) (by rw [List.length_map]; lia) ?_
  rw [pA, List.map_id']
  exact hN
theorem b3 :
  SS c env (exec (fb P 3) env) b3W := by
 have hh := rm.hd
 have heq := rm.eq
 refine pF (pE (jZ (by subst henv; kernel_rfl) (kV (pT hh (pI (qB (by subst henv; kernel_rfl)) (qB (by subst henv; kernel_rfl))) (by exact trivial) (pL (by subst henv; kernel_rfl)) (fun _ q => q) (fun L cells => (pP (pM (by subst henv; kernel_rfl)) (by subst henv; kernel_rfl))) (pY (by subst henv; kernel_rfl)) (fun L cells => (tsok_one (tok_or (tok_and (jW (qB (by subst henv; kernel_rfl)) jM op_lt jT (by subst henv; kernel_rfl)) (tok_and (jW (qB (by subst henv; kernel_rfl)) jM (op_ne heq) jT (by subst henv; kernel_rfl)) tok_and_nil)) (tok_or (jW (qB (by subst henv; kernel_rfl)) jM (op_eq heq) jT (by subst henv; kernel_rfl)) tok_or_nil)))) (fun L cells => (qB (by subst henv; kernel_rfl)))) (kM rfl jI) (op_ne heq) (by subst henv; kernel_rfl)) (by subst henv; kernel_rfl))) ?_
 intro η σ N Rt h
 dsimp only [wCons, wAsg, wIf, wRet, wBin, wCmp, wPl, wUn, wAnd, wOr, wIfE, wEs, wSl]
 refine qC fun P kG => ?_
 obtain ⟨t, u, k, c, T, h1, h2, hN⟩ := h
 refine kG ?_
 clear kG P
 have hk := T.lt
 have hs := pH
 have o1 := octL_len (c.2.2 * u)
 have o2 := octL_lt (c.2.2 * u)
 have flen := List.length_filter_le badV (octL (c.2.2 * u))
 simp only [h1, h2, rowsV, qJ, qF, qD, qK, qL, qT, qH, qI, qM, qN, qY, qZ, qE, String.reduceEq, String.reduceBEq, cond_true, cond_false, uH, if_true, if_false, reduceIte, ite_true, ite_false, zA, zB, zC, zD, zE, zF, qP, zG, qQ, zH, zI, zJ, zK, zL, qR, qU, zM, zN, qO, zO, zP, zQ, zR, zS, zT, qV, zU, zV, zW, zX, zY, qW, zZ, jA, jB, jC, jD, jE, jF, qX, jG, jH, qS, uA, uB, uC, uD, uE, uF, uG]
 refine kP (d := .list (nlist (octL (c.2.2 * u)))) (by rw [List.getElem?_map, T.hk]; rfl) (by lia) ⟨_, (octL (c.2.2 * u)).map (fun x => if badV x = true then [PyData.int (x : Nat)] else []), rfl, CompAll.map (f := fun (x : Nat) => PyData.int (x : Int)) fun x hx => ?_, ?_, ?_⟩
 ·have := o2 x hx
  have hb : badV x = ((decide ((x : Int) < 32) && !decide ((x : Int) = 9)) || decide ((x : Int) = 127)) := by
   unfold badV
   rw [Bool.eq_iff_iff]
   simp
   (clear this; lia)
  unfold CB
  simp only [qJ, qF, qD, qK, qL, qT, qH, qI, qM, qN, qY, qZ, qE, String.reduceEq, String.reduceBEq, cond_true, cond_false, uH, if_true, if_false, reduceIte, ite_true, ite_false, zA, zB, zC, zD, zE, zF, qP, zG, qQ, zH, zI, zJ, zK, zL, qR, qU, zM, zN, qO, zO, zP, zQ, zR, zS, zT, qV, zU, zV, zW, zX, zY, qW, zZ, jA, jB, jC, jD, jE, jF, qX, jG, jH, qS, uA, uB, uC, uD, uE, uF, uG]
  rw [hb]
  generalize decide ((x : Int) < 32) = d1
  generalize decide ((x : Int) = 9) = d2
  generalize decide ((x : Int) = 127) = d3
  cases d1 <;> cases d2 <;> cases d3 <;> simp
 ·rw [flatIf, List.length_map]; exact (qA [_,_,_] 1 (.v 0) (.v 1) (.c 1 (.v 0) (.v 2) (.c 1 (.v 2) (.n 3) (.c 1 (.n 1048576) (.v 1) .z))) rfl flen (And.right o1) hs)
 ·rw [flatIf]
  refine ⟨Nat.zero_le _, ne_nil (k := 1) (sh_list fun d hd => ?_) (by decide) ?_⟩
  ·rw [List.mem_map] at hd
   refine qC fun P kG => ?_
   obtain ⟨x, _, rfl⟩ := hd
   refine kG ?_
   clear kG P
   exact sh_int _
  ·have e : bad u c = !(((octL (c.2.2 * u)).filter badV).map fun (x : Nat) => PyData.int (x : Nat)).isEmpty := by
    unfold bad
    generalize octL (c.2.2 * u) = l
    induction l with
    | nil => rfl
    | cons x l ih =>
     rw [List.any_cons, List.filter_cons]
     cases badV x with
     | true => rfl
     | false => rw [Bool.false_or, ih]; rfl
   rw [← e]
   exact hN
theorem b4 :
  SS c env (exec (fb P 4) env) b4W := by
 have hh := rm.hd
 have heq := rm.eq
 refine pF (ss_if (jW (l_laid Y rm hfr (by subst henv; rfl) (by subst henv; kernel_rfl) rfl (qG (qB (by subst henv; kernel_rfl)) (qG (qB (by subst henv; kernel_rfl)) (qG (qB (by subst henv; kernel_rfl)) jI)))) (jJ pQ (qB (by subst henv; kernel_rfl)) op_mul) (op_ne heq) jT (by subst henv; kernel_rfl)) (jX (pE (pC pJ))
 pG) pG) ?_
 intro η σ N Rt h
 dsimp only [wCons, wAsg, wIf, wRet, wBin, wCmp, wPl, wUn, wAnd, wOr, wIfE, wEs, wSl]
 refine qC fun P kG => ?_
 obtain ⟨t, u, k, c, xs, T, h1, h2, h3, h4, h5, h6, hN⟩ := h
 have hN := hN _ rfl
 have hk := T.lt
 have hs := pH
 obtain ⟨p1, p2, p3, p4⟩ := T.pcLen
 refine kG ?_
 clear kG P
 have o1 := octL_len (c.2.2 * u)
 have hbd : bad u c = (octL (c.2.2 * u)).any badV := rfl
 simp only [h1, h2, h3, h4, qJ, qF, qD, qK, qL, qT, qH, qI, qM, qN, qY, qZ, qE, String.reduceEq, String.reduceBEq, cond_true, cond_false, uH, if_true, if_false, reduceIte, ite_true, ite_false, zA, zB, zC, zD, zE, zF, qP, zG, qQ, zH, zI, zJ, zK, zL, qR, qU, zM, zN, qO, zO, zP, zQ, zR, zS, zT, qV, zU, zV, zW, zX, zY, qW, zZ, jA, jB, jC, jD, jE, jF, qX, jG, jH, qS, uA, uB, uC, uD, uE, uF, uG]
 refine ⟨trivial, laid_use h5 (by lia) (by exact (qA [_] 1 (.a (.v 0) (.n 1)) (.n 1000) (.c 1 (.v 0) (.n 3) .z) rfl (And.right o1))) (abc_bad (pX T.G c)) h6 (fun q => ?_) fun q => ?_⟩
 ·rw [← hbd] at q
  rw [q, if_neg (by decide)] at hN
  rw [q]
  refine ⟨by decide, kU (k := 0) ?_ (by decide) (by rw [if_neg (by decide), S_nil, S_empty]) ⟨fun q => absurd q (by decide), fun _ => hN⟩⟩
  rw [S_nil]; exact sh_str fun c hc => by cases hc
 ·rw [← hbd] at q
  rw [q, if_pos rfl] at hN
  rw [q]
  refine ⟨by decide, kU (k := 0) ?_ (by decide) (by rw [if_pos rfl]; rfl) ⟨fun q => absurd q (by decide), fun _ => hN⟩⟩
  exact ⟨by decide +kernel, Nat.le_refl _⟩
theorem b5 :
  SS c env (exec (fb P 5) env) b5W := by
 have hh := rm.hd
 have heq := rm.eq
 refine pF (pE (sok_expr (l_extend rfl (qB (by subst henv; kernel_rfl)) (jJ (kM rfl (qG (eok_tuple (k := 0) rfl (qG (qB (by subst henv; kernel_rfl)) (qG (qB (by subst henv; kernel_rfl)) jI))) jI)) (vE (qB (by subst henv; kernel_rfl)) op_not) op_mul) rfl) (by subst henv; kernel_rfl) (by subst henv; kernel_rfl))) ?_
 intro η σ N Rt h
 dsimp only [wCons, wAsg, wIf, wRet, wBin, wCmp, wPl, wUn, wAnd, wOr, wIfE, wEs, wSl]
 refine qC fun P kG => ?_
 obtain ⟨t, u, k, c, xs, T, h1, h2, h3, h4, h5, h6, hN⟩ := h
 refine kG ?_
 clear kG P
 have hs := pH
 have h3' : (σ ++ [MO.list [rowD (plR t u c)]])[3]? = some (.list xs) := by
  rw [List.getElem?_append_left (List.getElem?_eq_some_iff.mp h5).1]; exact h5
 simp only [h1, h2, h3, h4, qJ, qF, qD, qK, qL, qT, qH, qI, qM, qN, qY, qZ, qE, String.reduceEq, String.reduceBEq, cond_true, cond_false, uH, if_true, if_false, reduceIte, ite_true, ite_false, zA, zB, zC, zD, zE, zF, qP, zG, qQ, zH, zI, zJ, zK, zL, qR, qU, zM, zN, qO, zO, zP, zQ, zR, zS, zT, qV, zU, zV, zW, zX, zY, qW, zZ, jA, jB, jC, jD, jE, jF, qX, jG, jH, qS, uA, uB, uC, uD, uE, uF, uG]
 refine ⟨3, rfl, ⟨_, h5⟩, by exact Nat.le_add_left _ _, by exact Nat.succ_pos _, ?_⟩
 rw [mul_ob]
 refine ⟨_, kZ _ _, by simp; exact Nat.succ_pos _, xs, h3', _, rfl, ?_, rfl, ?_⟩
 ·split <;> simp <;> (first | exact (qA [_,_] 1 (.a (.v 0) (.n 1)) (.v 1) (.c 1 (.n 1048576) (.v 1) (.c 1 (.a (.v 0) (.n 1)) (.n 1000) .z)) rfl hs h6) | exact (qA [_,_] 1 (.v 0) (.v 1) (.c 1 (.n 1048576) (.v 1) (.c 1 (.a (.v 0) (.n 1)) (.n 1000) .z)) rfl hs h6))
 ·have e : (if (!bad u c) = true then [rowD (plR t u c)] else []) = if bad u c = true then [] else [rowD (plR t u c)] := by cases bad u c <;> rfl
  rw [← e] at hN
  exact hN
theorem b6 :
  SS c env (exec (fb P 6) env) b6W := by
 have hh := rm.hd
 have heq := rm.eq
 refine pF (pE (vL hh ["front", "back"] (nms0 _ (by subst henv; kernel_rfl)) rfl (qG (pU (qB (by subst henv; kernel_rfl)) pD (pK (qB (by subst henv; kernel_rfl))) pD) (qG (pU (qB (by subst henv; kernel_rfl)) (pK (jJ (qB (by subst henv; kernel_rfl)) (l_len Y (by subst henv; kernel_rfl) rfl rfl (qG (qB (by subst henv; kernel_rfl)) jI)) jU)) pD pD) jI)) (by subst henv; kernel_rfl) (by subst henv; kernel_rfl))) ?_
 intro η σ N Rt h
 dsimp only [wCons, wAsg, wIf, wRet, wBin, wCmp, wPl, wUn, wAnd, wOr, wIfE, wEs, wSl]
 refine qC fun P kG => ?_
 obtain ⟨t, u, k, c, T, h1, h2, h3, hN⟩ := h
 have hs := pH
 have hl := T.G.len
 obtain ⟨p1, p2, p3, p4⟩ := T.pcLen
 refine kG ?_
 clear kG P
 simp only [h1, h2, h3, qJ, qF, qD, qK, qL, qT, qH, qI, qM, qN, qY, qZ, qE, String.reduceEq, String.reduceBEq, cond_true, cond_false, uH, if_true, if_false, reduceIte, ite_true, ite_false, zA, zB, zC, zD, zE, zF, qP, zG, qQ, zH, zI, zJ, zK, zL, qR, qU, zM, zN, qO, zO, zP, zQ, zR, zS, zT, qV, zU, zV, zW, zX, zY, qW, zZ, jA, jB, jC, jD, jE, jF, qX, jG, jH, qS, uA, uB, uC, uD, uE, uF, uG, jN, S_sliceTo]
 refine ⟨trivial, by exact Nat.le_trans ‹_› (by decide), by exact (qA [_,_] 1 (.a (.v 0) (.n 1)) (.n 4611686018427387904) (.c 1 (.v 1) (.n 10) (.c 1 (.v 0) (.v 1) .z)) rfl p3 (uJ p1)), trivial, by exact (qA [_,_] 1 (.v 0) (.v 1) (.c 1 (.v 0) (.n 10) (.c 1 (.n 1048576) (.v 1) .z)) rfl hl hs), by exact (qA [_] 1 (.a (.a (.n 0) (.n 1)) (.n 1)) (.v 0) (.c 1 (.n 1048576) (.v 0) .z) rfl hs), trivial, ?_⟩
 rw [show (c.1 : Int) + ((pc t c).length : Int) = ((c.1 + c.2.1 : Nat) : Int) by exact (Int.le_antisymm (jO [_,_,_] 1 (.a (.c (.v 0)) (.c (.v 1))) (.c (.a (.v 0) (.v 2))) (.c 1 (.v 1) (.v 2) .z) rfl (uJ p1)) (jO [_,_,_] 1 (.c (.a (.v 0) (.v 1))) (.a (.c (.v 0)) (.c (.v 2))) (.c 1 (.v 1) (.v 2) .z) rfl (uJ (Eq.symm p1)))), S_sliceFrom]
 exact hN
end
theorem bit_f {X Y : Prop} (h : Y) : ((true != (true == true)) = true → X) ∧ ((true != (true == true)) = false → Y) := ⟨fun q => absurd q (by decide), fun _ => h⟩
theorem bit_g {X Y : Prop} (h : Y) : ((true != (false == false)) = true → X) ∧ ((true != (false == false)) = false → Y) := ⟨fun q => absurd q (by decide), fun _ => h⟩
theorem MK_lt : ∀ c ∈ MK, c < 1000 := by decide
theorem kL {a b : List Nat} (h : ∀ c ∈ a, c < 1000) (k : ∀ c ∈ b, c < 1000) : ∀ c ∈ a ++ b, c < 1000 := fun c hc => (List.mem_append.mp hc).elim (h c) (k c)
theorem has_none {w : List Nat} (h : dotless w) : hasL w MK = false := by
 cases e : hasL w MK with
 | false => rfl
 | true =>
  rw [hasL_iff] at e
  obtain ⟨i, hi⟩ := e
  have := no_dot (pre := []) (rest := []) h (Nat.zero_le i) (k := i) (hi := w.length) (by have := hi.1; have : MK.length = 3 := rfl; simp; lia)
  simp only [List.nil_append, List.append_nil] at this
  exact absurd hi this
theorem Turn.text {t : List Nat} {u k : Nat} {c : Nat × Nat × Nat} (T : Turn t u k c) : t = t.take c.1 ++ pc t c ++ t.drop (c.1 + c.2.1) := three t c.1 c.2.1 T.pcLen.2.2.2
theorem Turn.lens {t : List Nat} {u k : Nat} {c : Nat × Nat × Nat} (T : Turn t u k c) : (t.take c.1).length + c.2.1 + (t.drop (c.1 + c.2.1)).length = t.length := by
 have h := congrArg List.length T.text
 rw [List.length_append, List.length_append, T.pcLen.1] at h
 exact Eq.symm ‹_›
section
variable {c : Cx} {P : Params} {mg : Str → Option Value} (Y : Yes c P mg) (C0 : CodeHd c.base 243 239) (hbt : c.base.BuiltinsAt mg 239) (hgP : mainGlobals ≠ 239) (rm : Room 4 c.A) (L : Addr) (cells : List (Str × Addr)) {fa : Addr} {cd : Value} {env : Env} (henv : env = (lawEnv P fa cd L cells)) (hcl : CellsOk env) (hfr : c.A.frames = some [env])
include Y C0 hbt hgP rm henv hcl hfr
theorem b7 :
  SS c env (exec (fb P 7) env) b7W := by
 have hh := rm.hd
 have heq := rm.eq
 refine pF (ss_if (tok_or (jW (l_ell Y rm (by subst henv; kernel_rfl) rfl (qG (jJ (jJ (qB (by subst henv; kernel_rfl)) pQ jU) (qB (by subst henv; kernel_rfl)) jU) (qG (qB (by subst henv; kernel_rfl)) jI))) pJ op_isnot jT (by subst henv; kernel_rfl)) (tok_or (jW (l_ell Y rm (by subst henv; kernel_rfl) rfl (qG (jJ (qB (by subst henv; kernel_rfl)) (qB (by subst henv; kernel_rfl)) jU) (qG (qB (by subst henv; kernel_rfl)) jI))) pJ op_isnot jT (by subst henv; kernel_rfl)) tok_or_nil)) (jX (pE (pC pJ))
 pG) pG) ?_
 intro η σ N Rt h
 dsimp only [wCons, wAsg, wIf, wRet, wBin, wCmp, wPl, wUn, wAnd, wOr, wIfE, wEs, wSl]
 refine qC fun P kG => ?_
 obtain ⟨t, u, k, c, T, h1, h2, h3, h4, hN⟩ := h
 have hs := pH
 have hl := T.G.len
 obtain ⟨p1, p2, p3, p4⟩ := T.pcLen
 refine kG ?_
 clear kG P
 have htx := T.text
 have hln := T.lens
 have hm : MK.length = 3 := rfl
 have a1 := abc_take T.G.abc c.1
 have a2 := pX T.G c
 have a3 := abc_drop T.G.abc (c.1 + c.2.1)
 generalize t.take c.1 = f at *
 generalize t.drop (c.1 + c.2.1) = b at *
 generalize pc t c = p at *
 have e1 : ellM [f, b] t = true := by rw [htx]; exact ell_true f p b
 have e2 : decide (f ++ b = t) = false := decide_eq_false fun q => by
  have := congrArg List.length q
  rw [List.length_append] at this
  exact (jY [_,_,_,_] (.c 1 (.v 0) (.a (.v 1) (.v 2)) (.c 1 (.a (.a (.v 1) (.v 3)) (.v 2)) (.v 0) (.c 1 (.n 1) (.v 3) .z))) rfl (uJ (Eq.symm this)) (uJ hln) p2)
 simp only [h1, h2, h4, qJ, qF, qD, qK, qL, qT, qH, qI, qM, qN, qY, qZ, qE, String.reduceEq, String.reduceBEq, cond_true, cond_false, uH, if_true, if_false, reduceIte, ite_true, ite_false, zA, zB, zC, zD, zE, zF, qP, zG, qQ, zH, zI, zJ, zK, zL, qR, qU, zM, zN, qO, zO, zP, zQ, zR, zS, zT, qV, zU, zV, zW, zX, zY, qW, zZ, jA, jB, jC, jD, jE, jF, qX, jG, jH, qS, uA, uB, uC, uD, uE, uF, uG, S_dots, S_app, jN, List.length_append]
 refine ⟨by (clear p2; exact (qA [_,_,_,_,_,_] 1 (.a (.v 0) (.v 1)) (.v 2) (.c 1 (.a (.a (.v 0) (.v 3)) (.v 4)) (.v 5) (.c 1 (.v 1) (.n 3) (.c 1 (.v 5) (.n 10) (.c 1 (.n 1048576) (.v 2) .z)))) rfl (uJ hln) (uJ hm) hl hs)), by (clear p2; exact (qA [_,_,_,_,_,_] 1 (.a (.a (.v 0) (.v 1)) (.v 2)) (.v 3) (.c 1 (.a (.a (.v 0) (.v 4)) (.v 2)) (.v 5) (.c 1 (.v 1) (.n 3) (.c 1 (.v 5) (.n 10) (.c 1 (.n 1048576) (.v 3) .z)))) rfl (uJ hln) (uJ hm) hl hs)), trivial, ell_yes [f, b] (by exact Nat.lt_of_le_of_lt ‹_› (by decide)) (by simp only [List.length_append]; (clear p2; exact (qA [_,_,_,_,_] 1 (.a (.a (.a (.v 0) (.v 1)) (.v 2)) (.n 1)) (.n 900) (.c 1 (.a (.a (.v 0) (.v 3)) (.v 2)) (.v 4) (.c 1 (.v 1) (.n 3) (.c 1 (.v 4) (.n 10) .z))) rfl (uJ hln) (uJ hm) hl))) (kL (kL (pO a1) MK_lt) (pO a3)) (pO T.G.abc) rfl (Nat.le_refl _) ?_ ?_⟩
 ·intro p hp
  rcases List.mem_cons.mp hp with rfl | hp
  ·exact abc_dot a1
  ·rw [List.mem_singleton] at hp; subst hp; exact abc_dot a3
 ·rw [e1]
  refine bit_f ?_
  refine ⟨by (clear p2; exact (qA [_,_,_,_,_] 1 (.a (.v 0) (.v 1)) (.v 2) (.c 1 (.a (.a (.v 0) (.v 3)) (.v 1)) (.v 4) (.c 1 (.v 4) (.n 10) (.c 1 (.n 1048576) (.v 2) .z))) rfl (uJ hln) hl hs)), trivial, ell_no (by exact (qA [_] 1 (.a (.v 0) (.n 1)) (.n 1000) (.c 1 (.v 0) (.n 10) .z) rfl hl)) (by rw [List.length_append]; (clear p2; exact (qA [_,_,_,_] 1 (.a (.a (.v 0) (.v 1)) (.n 1)) (.n 900) (.c 1 (.a (.a (.v 0) (.v 2)) (.v 1)) (.v 3) (.c 1 (.v 3) (.n 10) .z)) rfl (uJ hln) hl))) (kL (pO a1) (pO a3)) (pO T.G.abc) (has_none (abc_dot (abc_app a1 a3))) ?_⟩
  rw [e2]
  refine bit_g ?_
  exact ⟨fun q => (by cases q), fun _ => hN⟩
theorem b8 :
  SS c env (exec (fb P 8) env) b7W := by
 have hh := rm.hd
 have heq := rm.eq
 refine pF (ss_if (jW (l_ell Y rm (by subst henv; kernel_rfl) rfl (qG (jJ (jJ (jJ (qB (by subst henv; kernel_rfl)) (qB (by subst henv; kernel_rfl)) jU) pQ jU) (qB (by subst henv; kernel_rfl)) jU) (qG (qB (by subst henv; kernel_rfl)) jI))) pJ op_isnot jT (by subst henv; kernel_rfl)) (jX (pE (pC pJ))
 pG) pG) ?_
 intro η σ N Rt h
 dsimp only [wCons, wAsg, wIf, wRet, wBin, wCmp, wPl, wUn, wAnd, wOr, wIfE, wEs, wSl]
 refine qC fun P kG => ?_
 obtain ⟨t, u, k, c, T, h1, h2, h3, h4, hN⟩ := h
 have hs := pH
 have hl := T.G.len
 obtain ⟨p1, p2, p3, p4⟩ := T.pcLen
 refine kG ?_
 clear kG P
 have htx := T.text
 have hln := T.lens
 have hm : MK.length = 3 := rfl
 have a1 := abc_take T.G.abc c.1
 have a2 := pX T.G c
 have a3 := abc_drop T.G.abc (c.1 + c.2.1)
 generalize t.take c.1 = f at *
 generalize t.drop (c.1 + c.2.1) = b at *
 generalize pc t c = p at *
 have e1 : ellM [f ++ p, b] t = true := by
  have := ell_true (f ++ p) [] b
  rw [List.append_nil, ← htx] at this; exact this
 simp only [h1, h2, h3, h4, qJ, qF, qD, qK, qL, qT, qH, qI, qM, qN, qY, qZ, qE, String.reduceEq, String.reduceBEq, cond_true, cond_false, uH, if_true, if_false, reduceIte, ite_true, ite_false, zA, zB, zC, zD, zE, zF, qP, zG, qQ, zH, zI, zJ, zK, zL, qR, qU, zM, zN, qO, zO, zP, zQ, zR, zS, zT, qV, zU, zV, zW, zX, zY, qW, zZ, jA, jB, jC, jD, jE, jF, qX, jG, jH, qS, uA, uB, uC, uD, uE, uF, uG, S_dots, S_app, jN, List.length_append]
 refine ⟨by exact (qA [_,_,_,_,_,_] 1 (.a (.v 0) (.v 1)) (.v 2) (.c 1 (.v 1) (.v 3) (.c 1 (.a (.a (.v 0) (.v 3)) (.v 4)) (.v 5) (.c 1 (.v 5) (.n 10) (.c 1 (.n 1048576) (.v 2) .z)))) rfl (uJ p1) (uJ hln) hl hs), by exact (qA [_,_,_,_,_,_,_] 1 (.a (.a (.v 0) (.v 1)) (.v 2)) (.v 3) (.c 1 (.v 1) (.v 4) (.c 1 (.a (.a (.v 0) (.v 4)) (.v 5)) (.v 6) (.c 1 (.v 2) (.n 3) (.c 1 (.v 6) (.n 10) (.c 1 (.n 1048576) (.v 3) .z))))) rfl (uJ p1) (uJ hln) (uJ hm) hl hs), by exact (qA [_,_,_,_,_,_,_] 1 (.a (.a (.a (.v 0) (.v 1)) (.v 2)) (.v 3)) (.v 4) (.c 1 (.v 1) (.v 5) (.c 1 (.a (.a (.v 0) (.v 5)) (.v 3)) (.v 6) (.c 1 (.v 2) (.n 3) (.c 1 (.v 6) (.n 10) (.c 1 (.n 1048576) (.v 4) .z))))) rfl (uJ p1) (uJ hln) (uJ hm) hl hs), trivial, ell_yes [f ++ p, b] (by lia) (by simp only [List.length_append]; exact (qA [_,_,_,_,_,_] 1 (.a (.a (.a (.a (.v 0) (.v 1)) (.v 2)) (.v 3)) (.n 1)) (.n 900) (.c 1 (.v 1) (.v 4) (.c 1 (.a (.a (.v 0) (.v 4)) (.v 3)) (.v 5) (.c 1 (.v 2) (.n 3) (.c 1 (.v 5) (.n 10) .z)))) rfl (uJ p1) (uJ hln) (uJ hm) hl)) (kL (kL (kL (pO a1) (pO a2)) MK_lt) (pO a3)) (pO T.G.abc) rfl (Nat.le_refl _) ?_ ?_⟩
 ·intro p hp
  rcases List.mem_cons.mp hp with rfl | hp
  ·exact abc_dot (abc_app a1 a2)
  ·rw [List.mem_singleton] at hp; subst hp; exact abc_dot a3
 ·rw [e1]
  exact bit_f hN
theorem b9 :
  SS c env (exec (fb P 9) env) b7W := by
 have hh := rm.hd
 have heq := rm.eq
 refine pF (ss_if (jW (l_ell Y rm (by subst henv; kernel_rfl) rfl (qG (jJ (jJ (jJ (jJ (qB (by subst henv; kernel_rfl)) (qB (by subst henv; kernel_rfl)) jU) pQ jU) (qB (by subst henv; kernel_rfl)) jU) (qB (by subst henv; kernel_rfl)) jU) (qG (qB (by subst henv; kernel_rfl)) jI))) pJ op_isnot jT (by subst henv; kernel_rfl)) (jX (pE (pC pJ))
 pG) pG) ?_
 intro η σ N Rt h
 dsimp only [wCons, wAsg, wIf, wRet, wBin, wCmp, wPl, wUn, wAnd, wOr, wIfE, wEs, wSl]
 refine qC fun P kG => ?_
 obtain ⟨t, u, k, c, T, h1, h2, h3, h4, hN⟩ := h
 have hs := pH
 have hl := T.G.len
 obtain ⟨p1, p2, p3, p4⟩ := T.pcLen
 refine kG ?_
 clear kG P
 have htx := T.text
 have hln := T.lens
 have hm : MK.length = 3 := rfl
 have a1 := abc_take T.G.abc c.1
 have a2 := pX T.G c
 have a3 := abc_drop T.G.abc (c.1 + c.2.1)
 generalize t.take c.1 = f at *
 generalize t.drop (c.1 + c.2.1) = b at *
 generalize pc t c = p at *
 have e1 : ellM [f ++ p, p ++ b] t = false := by
  refine ell_false (f ++ p) (p ++ b) t (fun q => ?_) (fun q => ?_) ?_
  ·have := congrArg List.length q
   rw [List.length_append, List.length_nil] at this; exact (jY [_,_,_] (.c 1 (.a (.v 0) (.v 1)) (.n 0) (.c 1 (.v 2) (.v 1) (.c 1 (.n 1) (.v 2) .z))) rfl (uJ this) (uJ (Eq.symm p1)) p2)
  ·have := congrArg List.length q
   rw [List.length_append, List.length_nil] at this; (clear hln; exact (jY [_,_,_] (.c 1 (.a (.v 0) (.v 1)) (.n 0) (.c 1 (.v 2) (.v 0) (.c 1 (.n 1) (.v 2) .z))) rfl (uJ this) (uJ (Eq.symm p1)) p2))
  ·rw [List.length_append, List.length_append]; exact (qA [_,_,_,_,_] 1 (.a (.v 0) (.n 1)) (.a (.a (.v 1) (.v 2)) (.a (.v 2) (.v 3))) (.c 2 (.v 4) (.v 2) (.c 1 (.v 0) (.a (.a (.v 1) (.v 4)) (.v 3)) (.c 1 (.n 1) (.v 4) .z))) rfl (uJ (Eq.symm p1)) (uJ (Eq.symm hln)) p2)
 simp only [h1, h2, h3, h4, qJ, qF, qD, qK, qL, qT, qH, qI, qM, qN, qY, qZ, qE, String.reduceEq, String.reduceBEq, cond_true, cond_false, uH, if_true, if_false, reduceIte, ite_true, ite_false, zA, zB, zC, zD, zE, zF, qP, zG, qQ, zH, zI, zJ, zK, zL, qR, qU, zM, zN, qO, zO, zP, zQ, zR, zS, zT, qV, zU, zV, zW, zX, zY, qW, zZ, jA, jB, jC, jD, jE, jF, qX, jG, jH, qS, uA, uB, uC, uD, uE, uF, uG, S_dots, S_app, jN, List.length_append]
 refine ⟨by lia, by lia, by (clear p4 p3; exact (qA [_,_,_,_,_,_,_] 1 (.a (.a (.a (.v 0) (.v 1)) (.v 2)) (.v 1)) (.v 3) (.c 2 (.v 1) (.v 4) (.c 2 (.a (.a (.v 0) (.v 4)) (.v 5)) (.v 6) (.c 1 (.v 2) (.n 3) (.c 2 (.v 6) (.n 10) (.c 1 (.n 1048576) (.v 3) .z))))) rfl (uJ p1) (uJ hln) (uJ hm) hl hs)), by exact (qA [_,_,_,_,_,_,_] 1 (.a (.a (.a (.a (.v 0) (.v 1)) (.v 2)) (.v 1)) (.v 3)) (.v 4) (.c 2 (.v 1) (.v 5) (.c 2 (.a (.a (.v 0) (.v 5)) (.v 3)) (.v 6) (.c 1 (.v 2) (.n 3) (.c 2 (.v 6) (.n 10) (.c 1 (.n 1048576) (.v 4) .z))))) rfl (uJ p1) (uJ hln) (uJ hm) hl hs), trivial, ell_yes [f ++ p, p ++ b] (by lia) (by simp only [List.length_append]; exact (qA [_,_,_,_,_,_] 1 (.a (.a (.a (.a (.a (.v 0) (.v 1)) (.v 2)) (.v 1)) (.v 3)) (.n 1)) (.n 900) (.c 2 (.v 1) (.v 4) (.c 2 (.a (.a (.v 0) (.v 4)) (.v 3)) (.v 5) (.c 1 (.v 2) (.n 3) (.c 2 (.v 5) (.n 10) .z)))) rfl (uJ p1) (uJ hln) (uJ hm) hl)) (kL (kL (kL (kL (pO a1) (pO a2)) MK_lt) (pO a2)) (pO a3)) (pO T.G.abc) (by simp only [jn, List.append_assoc]) (Nat.le_refl _) ?_ ?_⟩
 ·intro p hp
  rcases List.mem_cons.mp hp with rfl | hp
  ·exact abc_dot (abc_app a1 a2)
  ·rw [List.mem_singleton] at hp; subst hp; exact abc_dot (abc_app a2 a3)
 ·rw [e1]
  exact bit_g hN
noncomputable def b10W : SW := fun η σ N _ => ∃ t u k c, Turn t u k c ∧ vget "text" η = some (.v (.str (S t))) ∧ vget "cuts" η = some (cutsV t) ∧ vget "piece" η = some (.v (.str (S (pc t c)))) ∧ vget "k" η = some (.v (.int (k : Nat))) ∧
 ∀ η' junk, (∀ y : String, y ≠ "other" → y ≠ "due" → vget y η' = vget y η) → N η' (σ ++ junk)
end
theorem pB {a b : String} (h : a ≠ b) : a ≠ b := h
theorem kC {x y : String} {v : XV} {η : Vars} (h : y ≠ x) : vget y (vset x v η) = vget y η := kS h
theorem bit_e {X Y : Prop} {p q : Bool} (e : p = q) (h : Y) : ((true != (p == q)) = true → X) ∧ ((true != (p == q)) = false → Y) := by subst e; cases p <;> exact ⟨fun q => absurd q (by decide), fun _ => h⟩
theorem prev_idx {k n : Nat} (h : k < n) : ∃ j, j < n ∧ seqIndex? ((k : Int) - 1) n = some j := by
 by_cases q : k = 0
 ·refine ⟨n - 1, by (clear q; exact (qA [_,_] 1 (.a (.v 0) (.n 1)) (.v 1) (.c 1 (.a (.v 0) (.n 1)) (.v 1) .z) rfl (jL (qA [_,_] 1 (.n 1) (.v 0) (.c 1 (.a (.v 1) (.n 1)) (.v 0) .z) rfl h)))), ?_⟩
  subst q
  exact last_ix n h
 ·refine ⟨k - 1, by exact Nat.lt_of_le_of_lt (Nat.sub_le _ _) ‹_›, ?_⟩
  have := StrLaws.seqIndex_nonneg (i := (k : Int) - 1) (n := n) (by exact (Or.elim (Nat.lt_or_gt_of_ne q) (fun q0 => (False.elim (jY [_] (.c 1 (.a (.v 0) (.n 1)) (.n 0) .z) rfl q0))) fun q0 => (jO [_] 1 (.n 0) (.s (.c (.v 0)) (.n 1)) (.c 1 (.a (.n 0) (.n 1)) (.v 0) .z) rfl q0))) (by exact (jO [_,_] 1 (.a (.s (.c (.v 0)) (.n 1)) (.n 1)) (.c (.v 1)) (.c 1 (.a (.v 0) (.n 1)) (.v 1) .z) rfl h))
  rw [this]
  congr 1; simp
section
variable {c : Cx} {P : Params} {mg : Str → Option Value} (Y : Yes c P mg) (C0 : CodeHd c.base 243 239) (hbt : c.base.BuiltinsAt mg 239) (hgP : mainGlobals ≠ 239) (rm : Room 4 c.A) (L : Addr) (cells : List (Str × Addr)) {fa : Addr} {cd : Value} {env : Env} (henv : env = (lawEnv P fa cd L cells)) (hcl : CellsOk env) (hfr : c.A.frames = some [env])
include Y C0 hbt hgP rm henv hcl hfr
theorem b10 :
  SS c env (exec (fb P 10) env) b10W := by
 have hh := rm.hd
 have heq := rm.eq
 refine pF (ss_for hh hcl (by exact trivial) (eok_tuple rfl (qG (qB (by subst henv; kernel_rfl)) (qG (pI (pI (qB (by subst henv; kernel_rfl)) (jJ (qB (by subst henv; kernel_rfl)) jM op_sub)) jM) jI))) (pP trivial (by subst henv; kernel_rfl)) (jX (pE (jZ (by subst henv; kernel_rfl) (kV (pT hh (l_range Y (by subst henv; kernel_rfl) rfl rfl (qG (l_len Y (by subst henv; kernel_rfl) rfl rfl (qG (qB (by subst henv; kernel_rfl)) jI)) jI)) (by exact trivial) (pL (by subst henv; kernel_rfl)) (fun _ q => q) (fun L cells => (pP (pM (by subst henv; kernel_rfl)) (by subst henv; kernel_rfl))) (pY (by subst henv; kernel_rfl)) (fun L cells => (tsok_one (tok_and (jW (qB (by subst henv; kernel_rfl)) (pU (qB (by subst henv; kernel_rfl)) pD (pK (qB (by subst henv; kernel_rfl))) pD) op_in jT (by subst henv; kernel_rfl)) (tok_and (jW (qB (by subst henv; kernel_rfl)) (pU (qB (by subst henv; kernel_rfl)) (pK (qB (by subst henv; kernel_rfl))) pD pD) op_in jT (by subst henv; kernel_rfl)) tok_and_nil)))) (fun L cells => (qB (by subst henv; kernel_rfl)))) (kM rfl jI) (op_ne heq) (by subst henv; kernel_rfl)) (by subst henv; kernel_rfl)))
 (jX (ss_if (jW (l_ell Y rm (by subst henv; kernel_rfl) rfl (qG (jJ (jJ (jJ (jJ pQ (qB (by subst henv; kernel_rfl)) jU) pQ jU) (qB (by subst henv; kernel_rfl)) jU) pQ jU) (qG (qB (by subst henv; kernel_rfl)) jI))) (qB (by subst henv; kernel_rfl)) op_isnot jT (by subst henv; kernel_rfl)) (jX (pE (pC pJ))
 pG) pG)
 pG))) ?_
 intro η σ N Rt h
 dsimp only [wCons, wAsg, wIf, wRet, wBin, wCmp, wPl, wUn, wAnd, wOr, wIfE, wEs, wSl]
 refine qC fun P kG => ?_
 obtain ⟨t, u, k, c, T, h1, h2, h3, h4, hN⟩ := h
 have hs := pH
 have hl := T.G.len
 have hm : MK.length = 3 := rfl
 have hkk := (List.getElem?_eq_some_iff.mp T.hk).1
 obtain ⟨j, hj, hji⟩ := prev_idx hkk
 obtain ⟨c2, hc2⟩ : ∃ c2, (csOf t)[j]? = some c2 := ⟨_, List.getElem?_eq_getElem hj⟩
 have hklt := T.lt
 obtain ⟨p1, p2, p3, p4⟩ := T.pcLen
 refine kG ?_
 clear kG P
 have a2 := pX T.G c
 simp only [h1, h2, h3, h4, cutsV, qJ, qF, qD, qK, qL, qT, qH, qI, qM, qN, qY, qZ, qE, String.reduceEq, String.reduceBEq, cond_true, cond_false, uH, if_true, if_false, reduceIte, ite_true, ite_false, zA, zB, zC, zD, zE, zF, qP, zG, qQ, zH, zI, zJ, zK, zL, qR, qU, zM, zN, qO, zO, zP, zQ, zR, zS, zT, qV, zU, zV, zW, zX, zY, qW, zZ, jA, jB, jC, jD, jE, jF, qX, jG, jH, qS, uA, uB, uC, uD, uE, uF, uG]
 rw [jQ]
 refine ⟨_, j, cutD t c2, rfl, by exact ⟨(jO [_] 1 (.g (.n 1000)) (.s (.c (.v 0)) (.n 1)) .z rfl ), (jO [_] 1 (.a (.s (.c (.v 0)) (.n 1)) (.n 1)) (.n 1073741824) (.c 1 (.a (.v 0) (.n 1)) (.n 10) .z) rfl hklt)⟩, by rw [List.length_map]; exact hji, by rw [List.getElem?_map, hc2]; rfl, item_useT (j := 1) (d := .str (S (pc t c2))) rfl (by decide) ⟨_, rfl, by show 2 ≤ _; exact Nat.le_add_left _ _, _, rfl,
  fun ds η' σ' => (∀ d ∈ ds, ∃ k2 c2, Turn t u k2 c2 ∧ d = .str (S (pc t c2))) ∧ (∀ y : String, y ≠ "other" → y ≠ "due" → vget y η' = vget y η) ∧ ∃ junk, σ' = σ ++ junk, ?_, ?_, ?_⟩⟩
 ·refine ⟨fun d hd => ?_, fun y _ _ => rfl, [], by simp⟩
  rcases List.mem_cons.mp hd with rfl | hd
  ·exact ⟨k, c, T, rfl⟩
  ·rw [List.mem_singleton] at hd
   exact ⟨j, c2, ⟨T.G, hc2⟩, hd⟩
 ·intro d ds η1 σ1 hI0
  refine qC fun P kG => ?_
  obtain ⟨g1, g2, junk, rfl⟩ := hI0
  refine kG ?_
  clear kG P
  refine qC fun P kG => ?_
  obtain ⟨k3, c3, T3, rfl⟩ := g1 d List.mem_cons_self
  obtain ⟨q1, q2, q3, q4⟩ := T3.pcLen
  refine kG ?_
  clear kG P
  have a3 := pX T.G c3
  have g3 := (g2 "text" (pB (by decide)) (pB (by decide))).trans h1
  have g4 := (g2 "piece" (pB (by decide)) (pB (by decide))).trans h3
  have e1 := ell_two (pc t c) (pc t c3) t (fun q => by rw [q] at p1; simp at p1; exact (jY [_] (.c 1 (.n 1) (.v 0) (.c 1 (.v 0) (.n 0) .z)) rfl p2 (uJ (Eq.symm p1)))) (fun q => by rw [q] at q1; simp at q1; lia)
  simp only [g3, g4, qJ, qF, qD, qK, qL, qT, qH, qI, qM, qN, qY, qZ, qE, String.reduceEq, String.reduceBEq, cond_true, cond_false, uH, if_true, if_false, reduceIte, ite_true, ite_false, zA, zB, zC, zD, zE, zF, qP, zG, qQ, zH, zI, zJ, zK, zL, qR, qU, zM, zN, qO, zO, zP, zQ, zR, zS, zT, qV, zU, zV, zW, zX, zY, qW, zZ, jA, jB, jC, jD, jE, jF, qX, jG, jH, qS, uA, uB, uC, uD, uE, uF, uG, jN]
  generalize pc t c = p at *
  generalize pc t c3 = q at *
  have hfl := List.length_filter_le (fun x => hasL (t.take x) p && hasL (t.drop x) q) (List.range t.length)
  refine ⟨by exact Nat.lt_of_le_of_lt ‹_› (by decide), _, (List.range t.length).map (fun x => if (hasL (t.take x) p && hasL (t.drop x) q) = true then [PyData.int (x : Nat)] else []), iter_n t.length (by exact Nat.lt_of_le_of_lt ‹_› (by decide)), CompAll.map (f := fun (x : Nat) => PyData.int (x : Int)) fun x hx => ?_, ?_, ?_⟩
  ·unfold CB
   simp only [g3, g4, qJ, qF, qD, qK, qL, qT, qH, qI, qM, qN, qY, qZ, qE, String.reduceEq, String.reduceBEq, cond_true, cond_false, uH, if_true, if_false, reduceIte, ite_true, ite_false, zA, zB, zC, zD, zE, zF, qP, zG, qQ, zH, zI, zJ, zK, zL, qR, qU, zM, zN, qO, zO, zP, zQ, zR, zS, zT, qV, zU, zV, zW, zX, zY, qW, zZ, jA, jB, jC, jD, jE, jF, qX, jG, jH, qS, uA, uB, uC, uD, uE, uF, uG, jN, S_sliceTo, S_sliceFrom, S_has]
   generalize hasL (t.take x) p = d1
   generalize hasL (t.drop x) q = d2
   have : t.length ≤ sizeLine := by lia
   cases d1 <;> cases d2 <;> simp [this]
  ·rw [flatIf, List.length_map]; rw [List.length_range] at hfl; exact (qA [_,_,_] 1 (.v 0) (.v 1) (.c 1 (.v 0) (.v 2) (.c 1 (.v 2) (.n 10) (.c 1 (.n 1048576) (.v 1) .z))) rfl hfl hl hs)
  ·rw [flatIf]
   refine ⟨Nat.zero_le _, ne_nil (k := 1) (sh_list fun d hd => ?_) (by decide) ?_⟩
   ·rw [List.mem_map] at hd
    refine qC fun P kG => ?_
    obtain ⟨x, _, rfl⟩ := hd
    refine kG ?_
    clear kG P
    exact sh_int _
   ·have e2 : decide (List.filter (fun x => hasL (List.take x t) p && hasL (List.drop x t) q) (List.range t.length) ≠ []) = !(List.map (fun (x : Nat) => PyData.int (x : Nat)) (List.filter (fun x => hasL (List.take x t) p && hasL (List.drop x t) q) (List.range t.length))).isEmpty := by
     generalize List.filter (fun x => hasL (List.take x t) p && hasL (List.drop x t) q) (List.range t.length) = l
     cases l <;> simp
    simp only [S_dots, S_app, jN, List.length_append]
    refine ⟨by exact (qA [_,_,_,_] 1 (.a (.v 0) (.v 1)) (.v 2) (.c 1 (.v 1) (.v 3) (.c 1 (.v 3) (.n 10) (.c 1 (.v 0) (.n 3) (.c 1 (.n 1048576) (.v 2) .z)))) rfl (uJ p1) p3 (uJ hm) hs), by exact (qA [_,_,_,_] 1 (.a (.a (.v 0) (.v 1)) (.v 0)) (.v 2) (.c 1 (.v 1) (.v 3) (.c 1 (.v 3) (.n 10) (.c 2 (.v 0) (.n 3) (.c 1 (.n 1048576) (.v 2) .z)))) rfl (uJ p1) p3 (uJ hm) hs), by (clear hl; exact (qA [_,_,_,_,_,_] 1 (.a (.a (.a (.v 0) (.v 1)) (.v 0)) (.v 2)) (.v 3) (.c 1 (.v 2) (.v 4) (.c 1 (.v 1) (.v 5) (.c 1 (.v 4) (.n 10) (.c 1 (.v 5) (.n 10) (.c 2 (.v 0) (.n 3) (.c 1 (.n 1048576) (.v 3) .z)))))) rfl (uJ q1) (uJ p1) q3 p3 (uJ hm) hs)), by (clear hl; exact (qA [_,_,_,_,_,_] 1 (.a (.a (.a (.a (.v 0) (.v 1)) (.v 0)) (.v 2)) (.v 0)) (.v 3) (.c 1 (.v 2) (.v 4) (.c 1 (.v 1) (.v 5) (.c 1 (.v 4) (.n 10) (.c 1 (.v 5) (.n 10) (.c 3 (.v 0) (.n 3) (.c 1 (.n 1048576) (.v 3) .z)))))) rfl (uJ q1) (uJ p1) q3 p3 (uJ hm) hs)), trivial, ell_yes [[], p, q, []] (by lia) (by simp only [List.length_append]; (clear hl; exact (qA [_,_,_,_,_] 1 (.a (.a (.a (.a (.a (.v 0) (.v 1)) (.v 0)) (.v 2)) (.v 0)) (.n 1)) (.n 900) (.c 1 (.v 2) (.v 3) (.c 1 (.v 1) (.v 4) (.c 1 (.v 3) (.n 10) (.c 1 (.v 4) (.n 10) (.c 3 (.v 0) (.n 3) .z))))) rfl (uJ q1) (uJ p1) q3 p3 (uJ hm)))) (kL (kL (kL (kL MK_lt (pO a2)) MK_lt) (pO a3)) MK_lt) (pO T.G.abc) (by simp only [jn, List.append_assoc, List.append_nil, List.nil_append]) (by show 2 ≤ 4; decide) ?_ ?_⟩
    ·intro x hx
     simp only [List.mem_cons, List.not_mem_nil, or_false] at hx
     rcases hx with rfl | rfl | rfl | rfl
     ·exact fun h => by cases h
     ·exact abc_dot a2
     ·exact abc_dot a3
     ·exact fun h => by cases h
    ·refine bit_e (e1.trans e2) ⟨_, VLe.refl _, fun d hd => g1 d (List.mem_cons_of_mem _ hd), fun y n1 n2 => ?_, junk ++ [.list []], by simp⟩
     rw [kC n2, kC n1]
     exact g2 y n1 n2
 ·intro η1 σ1 hI0
  refine qC fun P kG => ?_
  obtain ⟨_, g2, junk, rfl⟩ := hI0
  refine kG ?_
  clear kG P
  exact hN η1 junk g2
end
structure FX (t : List Nat) (u : Nat) (η : Vars) : Prop where
 text : vget "text" η = some (.v (.str (S t)))
 unit : vget "unit" η = some (.v (.int u))
 cuts : vget "cuts" η = some (cutsV t)
 rows : vget "rows" η = some (rowsV t u)
 signs : vget "signs" η = some (signsV t u)
 table : vget "table" η = some (.hdr 214 1)
 plain : vget "plain" η = some (.hdr 214 2)
 kept : vget "kept" η = some (.own 3)
noncomputable def tabL (t : List Nat) (u : Nat) (qs : List ((Nat × Nat) × Str)) (k : Nat) (junk : Sto) : Sto :=
 [.tab 239 qs, .list (((tabP t u).take k).map rowD), .list ((plP t u ((csOf t).take k)).map rowD), .list ((plP t u ((csOf t).take k)).map rowD)] ++ junk
theorem tab_step {t : List Nat} {u k : Nat} {c : Nat × Nat × Nat} (T : Turn t u k c) : (tabP t u).take (k + 1) = (tabP t u).take k ++ [tabR t u k c] := by
 have : (tabP t u)[k]? = some (tabR t u k c) := by unfold tabP; rw [List.getElem?_mapIdx, T.hk]; rfl
 rw [List.take_succ, this]; rfl
theorem pl_step {t : List Nat} {u k : Nat} {c : Nat × Nat × Nat} (T : Turn t u k c) : (plP t u ((csOf t).take (k + 1))).map rowD = (plP t u ((csOf t).take k)).map rowD ++ if bad u c = true then [] else [rowD (plR t u c)] := by
 rw [List.take_succ, T.hk]
 unfold plP
 rw [List.filter_append, List.map_append, List.map_append]
 congr 1
 show List.map rowD (List.map (plR t u) (List.filter (fun c => !bad u c) [c])) = _
 rw [List.filter_cons, List.filter_nil]
 cases bad u c <;> rfl
theorem tabP_len (t : List Nat) (u : Nat) : (tabP t u).length = (csOf t).length := by unfold tabP; rw [List.length_mapIdx]
theorem plP_len (t : List Nat) (u : Nat) (cs : List (Nat × Nat × Nat)) : (plP t u cs).length ≤ cs.length := by unfold plP; rw [List.length_map]; exact List.length_filter_le _ _
noncomputable def s8W : SW := fun η σ N _ => ∃ t u qs, Good t u ∧ FX t u η ∧ σ = tabL t u qs 0 [] ∧ ∀ η' junk, FX t u η' → N η' (tabL t u qs (csOf t).length junk)
section
variable {c : Cx} {P : Params} {mg : Str → Option Value} (Y : Yes c P mg) (C0 : CodeHd c.base 243 239) (hbt : c.base.BuiltinsAt mg 239) (hgP : mainGlobals ≠ 239) (rm : Room 4 c.A) (L : Addr) (cells : List (Str × Addr)) {fa : Addr} {cd : Value} {env : Env} (henv : env = (lawEnv P fa cd L cells)) (hcl : CellsOk env) (hfr : c.A.frames = some [env])
include Y C0 hbt hgP rm henv hcl hfr
theorem body8 :
  SS c env (execs (fbody P) env) (fun η σ N Rt => b0W η σ (fun η σ => b1W η σ (fun η σ => b2W η σ (fun η σ => b3W η σ (fun η σ => b4W η σ (fun η σ => b5W η σ (fun η σ => b6W η σ (fun η σ => b7W η σ (fun η σ => b7W η σ (fun η σ => b7W η σ (fun η σ => b10W η σ N Rt) Rt) Rt) Rt) Rt) Rt) Rt) Rt) Rt) Rt) Rt) :=
 ss_tail (jX (b0 Y C0 hbt hgP rm L cells henv hcl hfr) (jX (b1 Y C0 hbt hgP rm L cells henv hcl hfr) (jX (b2 Y C0 hbt hgP rm L cells henv hcl hfr) (jX (b3 Y C0 hbt hgP rm L cells henv hcl hfr) (jX (b4 Y C0 hbt hgP rm L cells henv hcl hfr) (jX (b5 Y C0 hbt hgP rm L cells henv hcl hfr) (jX (b6 Y C0 hbt hgP rm L cells henv hcl hfr) (jX (b7 Y C0 hbt hgP rm L cells henv hcl hfr) (jX (b8 Y C0 hbt hgP rm L cells henv hcl hfr) (jX (b9 Y C0 hbt hgP rm L cells henv hcl hfr) (jX (b10 Y C0 hbt hgP rm L cells henv hcl hfr) (pG)))))))))))) (by kernel_rfl)
theorem s8 :
  SS c env (exec (lst P 8) env) s8W := by
 have hh := rm.hd
 have heq := rm.eq
 refine pF (ss_for hh hcl (by exact trivial) (l_range Y (by subst henv; kernel_rfl) rfl rfl (qG (l_len Y (by subst henv; kernel_rfl) rfl rfl (qG (qB (by subst henv; kernel_rfl)) jI)) jI)) (pP trivial (by subst henv; kernel_rfl)) (body8 Y C0 hbt hgP rm L cells henv hcl hfr)) ?_
 intro η σ N Rt h
 dsimp only [wCons, wAsg, wIf, wRet, wBin, wCmp, wPl, wUn, wAnd, wOr, wIfE, wEs, wSl]
 refine qC fun P kG => ?_
 obtain ⟨t, u, qs, G, fx, rfl, hN⟩ := h
 refine kG ?_
 clear kG P
 have hs := pH
 have hl := G.len
 have hcl := kF G
 simp only [fx.cuts, cutsV, qJ, qF, qD, qK, qL, qT, qH, qI, qM, qN, qY, qZ, qE, String.reduceEq, String.reduceBEq, cond_true, cond_false, uH, if_true, if_false, reduceIte, ite_true, ite_false, zA, zB, zC, zD, zE, zF, qP, zG, qQ, zH, zI, zJ, zK, zL, qR, qU, zM, zN, qO, zO, zP, zQ, zR, zS, zT, qV, zU, zV, zW, zX, zY, qW, zZ, jA, jB, jC, jD, jE, jF, qX, jG, jH, qS, uA, uB, uC, uD, uE, uF, uG, List.length_map]
 refine ⟨by exact Nat.lt_of_le_of_lt ‹_› (by decide), _, iter_n _ (by exact Nat.lt_of_le_of_lt ‹_› (by decide)), fun ds η' σ' => ∃ k junk, k ≤ (csOf t).length ∧ ds = nlist (List.range' k ((csOf t).length - k)) ∧ FX t u η' ∧ σ' = tabL t u qs k junk, ?_, ?_, ?_⟩
 ·exact ⟨0, [], Nat.zero_le _, by rw [Nat.sub_zero, List.range_eq_range'], fx, rfl⟩
 ·intro d ds η1 σ1 hI0
  refine qC fun P kG => ?_
  obtain ⟨k, junk, hk, hd, gx, rfl⟩ := hI0
  refine kG ?_
  clear kG P
  refine qC fun P kG => ?_
  obtain ⟨e, r, he, rfl, rfl⟩ := nlist_cons hd
  refine kG ?_
  clear kG P
  have hlt : k < (csOf t).length := by
   rcases Nat.lt_or_ge k (csOf t).length with q | q
   ·exact q
   ·rw [show (csOf t).length - k = 0 by exact (Nat.le_antisymm (qA [_,_,_] 1 (.v 0) (.n 0) (.c 1 (.a (.v 0) (.v 1)) (.v 2) (.c 1 (.v 2) (.v 1) .z)) rfl (jL (qA [_,_] 1 (.v 0) (.v 1) (.c 1 (.v 0) (.v 1) .z) rfl hk)) q) (qA [_] 1 (.n 0) (.v 0) .z rfl ))] at he; cases he
  rw [show (csOf t).length - k = ((csOf t).length - (k + 1)) + 1 by exact (Nat.le_antisymm (qA [_,_,_,_] 1 (.v 0) (.a (.v 1) (.n 1)) (.c 1 (.v 2) (.a (.v 1) (.a (.v 3) (.n 1))) (.c 1 (.a (.v 0) (.v 3)) (.v 2) .z)) rfl (jV _ _) (jL (qA [_,_] 1 (.v 0) (.v 1) (.c 1 (.a (.v 0) (.n 1)) (.v 1) .z) rfl hlt))) (qA [_,_,_,_] 1 (.a (.v 0) (.n 1)) (.v 1) (.c 1 (.a (.v 0) (.a (.v 2) (.n 1))) (.v 3) (.c 1 (.v 3) (.a (.v 1) (.v 2)) .z)) rfl (jL (qA [_,_] 1 (.a (.v 0) (.n 1)) (.v 1) (.c 1 (.a (.v 0) (.n 1)) (.v 1) .z) rfl hlt)) (jV _ _))), List.range'_succ] at he
  injection he with he1 he2
  subst he1 he2
  obtain ⟨c, hc⟩ : ∃ c, (csOf t)[k]? = some c := ⟨_, List.getElem?_eq_getElem hlt⟩
  have T : Turn t u k c := ⟨G, hc⟩
  have t1 : (((tabP t u).take k).map rowD).length < 1000 := by rw [List.length_map, List.length_take, tabP_len]; (clear hlt; exact (qA [_,_] 1 (.a (.v 0) (.n 1)) (.n 1000) (.c 1 (.v 0) (.v 1) (.c 1 (.v 1) (.n 10) .z)) rfl (Nat.min_le_right _ _) hcl))
  have t2 : ((plP t u ((csOf t).take k)).map rowD).length < 1000 := by
   have := plP_len t u ((csOf t).take k)
   rw [List.length_take] at this
   rw [List.length_map]; (clear hlt; exact (qA [_,_,_] 1 (.a (.v 0) (.n 1)) (.n 1000) (.c 1 (.v 1) (.v 2) (.c 1 (.v 0) (.v 1) (.c 1 (.v 2) (.n 10) .z))) rfl (Nat.min_le_right _ _) this hcl))
  have hR : ∀ (xs : List PyData) (a b e : MO) (j : Sto), (if bad u c = true then [a, b, MO.list xs, e] ++ j else List.set ([a, b, MO.list xs, e] ++ j) 2 (MO.list (xs ++ [rowD (plR t u c)]))) = [a, b, MO.list (xs ++ if bad u c = true then [] else [rowD (plR t u c)]), e] ++ j := by
   intro xs a b e j
   cases bad u c
   ·rfl
   ·simp
  refine ⟨t, u, k, c, T, ?_, ?_, ?_⟩
  ·kernel_rfl
  ·exact Eq.trans (by kernel_rfl) gx.cuts
  refine ⟨t, u, k, c, _, T, ?_, ?_, ?_, ?_, rfl, t1, ?_⟩
  ·kernel_rfl
  ·kernel_rfl
  ·exact Eq.trans (by kernel_rfl) gx.signs
  ·exact Eq.trans (by kernel_rfl) gx.table
  refine ⟨t, u, k, c, T, ?_, ?_, ?_⟩
  ·kernel_rfl
  ·exact Eq.trans (by kernel_rfl) gx.rows
  refine ⟨t, u, k, c, T, ?_, ?_, ?_⟩
  ·kernel_rfl
  ·exact Eq.trans (by kernel_rfl) gx.rows
  refine ⟨t, u, k, c, _, T, ?_, ?_, ?_, ?_, rfl, t2, ?_⟩
  ·exact Eq.trans (by kernel_rfl) gx.plain
  ·kernel_rfl
  ·kernel_rfl
  ·kernel_rfl
  intro σ4 e4
  have e4 := e4.trans (hR ((plP t u ((csOf t).take k)).map rowD) (.tab 239 qs) (.list (((tabP t u).take k).map rowD ++ [rowD (tabR t u k c)])) (.list ((plP t u ((csOf t).take k)).map rowD)) (junk ++ [.list []]))
  subst e4
  refine ⟨t, u, k, c, _, T, ?_, ?_, ?_, ?_, rfl, t2, ?_⟩
  ·exact Eq.trans (by kernel_rfl) gx.kept
  ·kernel_rfl
  ·kernel_rfl
  ·kernel_rfl
  refine ⟨t, u, k, c, T, ?_, ?_, ?_, ?_⟩
  ·exact Eq.trans (by kernel_rfl) gx.text
  ·kernel_rfl
  ·kernel_rfl
  refine ⟨t, u, k, c, T, ?_, ?_, ?_, ?_, ?_⟩
  ·exact Eq.trans (by kernel_rfl) gx.text
  ·kernel_rfl
  ·kernel_rfl
  ·kernel_rfl
  refine ⟨t, u, k, c, T, ?_, ?_, ?_, ?_, ?_⟩
  ·exact Eq.trans (by kernel_rfl) gx.text
  ·kernel_rfl
  ·kernel_rfl
  ·kernel_rfl
  refine ⟨t, u, k, c, T, ?_, ?_, ?_, ?_, ?_⟩
  ·exact Eq.trans (by kernel_rfl) gx.text
  ·kernel_rfl
  ·kernel_rfl
  ·kernel_rfl
  refine ⟨t, u, k, c, T, ?_, ?_, ?_, ?_, ?_⟩
  ·exact Eq.trans (by kernel_rfl) gx.text
  ·exact Eq.trans (by kernel_rfl) gx.cuts
  ·kernel_rfl
  ·kernel_rfl
  intro η5 junk5 h5
  have mv : ∀ y xv, vget y η1 = some xv → y ≠ "other" → y ≠ "due" → y ≠ "front" → y ≠ "back" → y ≠ "barred" → y ≠ "bare" → y ≠ "code" → y ≠ "piece" → y ≠ "start" → y ≠ "k" → vget y η5 = some xv := by
   intro y xv e n1 n2 n3 n4 n5 n6 n7 n8 n9 n10
   rw [h5 y n1 n2, kC n3, kC n4, kC n5, kC n6, kC n7, kC n8, kC n9, kC n10]
   exact e
  have mw : ∀ (y : String) xv, vget y η1 = some xv → (["other", "due", "front", "back", "barred", "bare", "code", "piece", "start", "k"].all fun z => decide (y ≠ z)) = true → vget y η5 = some xv := by
   intro y xv e n
   simp only [List.all_cons, List.all_nil, Bool.and_true, Bool.and_eq_true, decide_eq_true_eq] at n
   refine qC fun P kG => ?_
   obtain ⟨n1, n2, n3, n4, n5, n6, n7, n8, n9, n10⟩ := n
   refine kG ?_
   clear kG P
   exact mv _ _ e (pB n1) (pB n2) (pB n3) (pB n4) (pB n5) (pB n6) (pB n7) (pB n8) (pB n9) (pB n10)
  refine ⟨η5, VLe.refl _, k + 1, junk ++ [.list []] ++ [.list [rowD (plR t u c)]] ++ junk5, by assumption, rfl, ⟨mw _ _ gx.text (by decide), mw _ _ gx.unit (by decide), mw _ _ gx.cuts (by decide), mw _ _ gx.rows (by decide), mw _ _ gx.signs (by decide), mw _ _ gx.table (by decide), mw _ _ gx.plain (by decide), mw _ _ gx.kept (by decide)⟩, ?_⟩
  unfold tabL
  rw [tab_step T, pl_step T, List.map_append]
  rfl
 ·intro η1 σ1 hI0
  refine qC fun P kG => ?_
  obtain ⟨k, junk, hk, hd, gx, rfl⟩ := hI0
  refine kG ?_
  clear kG P
  have : k = (csOf t).length := by
   have := congrArg List.length hd
   rw [kD, List.length_range', List.length_nil] at this
   exact (Nat.le_antisymm (qA [_,_] 1 (.v 0) (.v 1) (.c 1 (.v 0) (.v 1) .z) rfl hk) (qA [_,_,_] 1 (.v 0) (.v 1) (.c 1 (.v 0) (.a (.v 2) (.v 1)) (.c 1 (.v 2) (.n 0) .z)) rfl (jV _ _) (uJ (Eq.symm this))))
  subst this
  exact hN η1 junk gx
end
noncomputable def cds (t : List Nat) (u : Nat) : List Nat := (csOf t).map fun c => c.2.2 * u
theorem cds_lt {t : List Nat} {u : Nat} (G : Good t u) : ∀ n ∈ cds t u, n < 262144 := by
 intro n hn
 unfold cds at hn
 rw [List.mem_map] at hn
 obtain ⟨c, hc, rfl⟩ := hn
 exact (cs_mem G hc).2.2.2.2.2
theorem cds_len {t : List Nat} {u : Nat} (G : Good t u) : (cds t u).length ≤ 10 := by unfold cds; rw [List.length_map]; exact kF G
theorem octs_cds {t : List Nat} {u : Nat} (G : Good t u) : (octs (cds t u)).length ≤ 30 := by
 have := octs_len (cds t u)
 have := cds_len G
 lia
theorem tab_vals (t : List Nat) (u : Nat) : (tabP t u).map (fun p => PyData.str p.2) = (csOf t).map fun c => .str (S (oct128 (c.2.2 * u))) := by
 unfold tabP
 apply List.ext_getElem?
 intro i
 rw [List.getElem?_map, List.getElem?_mapIdx, List.getElem?_map]
 cases (csOf t)[i]? <;> rfl
theorem nlist_drop (l : List Nat) : (nlist l).dropLast = nlist l.dropLast := by unfold nlist; rw [List.map_dropLast]
theorem bit_n {X Y : Prop} (h : Y) : ((true != true) = true → X) ∧ ((true != true) = false → Y) := ⟨fun q => absurd q (by decide), fun _ => h⟩
theorem oOrd_i {n : Nat} {σ : Sto} {Q : XV → Sto → Prop} : oOrd [.v (.str ⟨#[n]⟩)] σ Q = Q (.v (.int n)) σ := rfl
noncomputable def s9W : SW := fun η σ N _ => ∃ t u, Good t u ∧ vget "table" η = some (.pr (FHdr ((tabP t u).map rowD))) ∧ N (vset "octets" (.v (.list (nlist (octs (cds t u))))) η) σ
noncomputable def s10W : SW := fun η σ N _ => ∃ t u, Good t u ∧ vget "octets" η = some (.v (.list (nlist (octs (cds t u))))) ∧ N (vset "read" (.v (.list (nlist (cds t u)))) η) σ
noncomputable def s11W : SW := fun η σ N _ => ∃ t u, Good t u ∧ vget "text" η = some (.v (.str (S t))) ∧ vget "unit" η = some (.v (.int u)) ∧ vget "octets" η = some (.v (.list (nlist (octs (cds t u))))) ∧ vget "read" η = some (.v (.list (nlist (cds t u)))) ∧ N η σ
noncomputable def s12W : SW := fun η σ N _ => ∃ t u, Good t u ∧ vget "text" η = some (.v (.str (S t))) ∧ vget "unit" η = some (.v (.int u)) ∧ vget "cuts" η = some (cutsV t) ∧ vget "read" η = some (.v (.list (nlist (cds t u)))) ∧ N η σ
noncomputable def s13W : SW := fun η σ N _ => ∃ t u, Good t u ∧ vget "text" η = some (.v (.str (S t))) ∧ vget "cuts" η = some (cutsV t) ∧ ∀ junk, N η (σ ++ junk)
noncomputable def s14W : SW := fun η σ N _ => ∃ t u, Good t u ∧ vget "text" η = some (.v (.str (S t))) ∧ vget "cuts" η = some (cutsV t) ∧ N η σ
noncomputable def s15W : SW := fun η σ N _ => ∃ t u, Good t u ∧ vget "cuts" η = some (cutsV t) ∧ N (vset "ends" (.v (.list (nlist (endsOf (csOf t))))) η) σ
section
variable {c : Cx} {P : Params} {mg : Str → Option Value} (Y : Yes c P mg) (C0 : CodeHd c.base 243 239) (hbt : c.base.BuiltinsAt mg 239) (hgP : mainGlobals ≠ 239) (rm : Room 4 c.A) (L : Addr) (cells : List (Str × Addr)) {fa : Addr} {cd : Value} {env : Env} (henv : env = (lawEnv P fa cd L cells)) (hcl : CellsOk env) (hfr : c.A.frames = some [env])
include Y C0 hbt hgP rm henv hcl hfr
theorem s9 :
  SS c env (exec (lst P 9) env) s9W := by
 have hh := rm.hd
 have heq := rm.eq
 refine pF (pE (vM hh hcl (by subst henv; kernel_rfl) (l_join pQ rfl (qG (l_values Y rm (qB (by subst henv; kernel_rfl)) args_none rfl) jI) rfl rfl) (by exact trivial) (pL (by subst henv; kernel_rfl)) (fun _ q => q) (fun L cells => (pP (pM (by subst henv; kernel_rfl)) (by subst henv; kernel_rfl))) (pY (by subst henv; kernel_rfl)) (fun L cells => pW) (fun L cells => (l_ord Y (by subst henv; kernel_rfl) rfl rfl (qG (qB (by subst henv; kernel_rfl)) jI))) (by subst henv; kernel_rfl))) ?_
 intro η σ N Rt h
 dsimp only [wCons, wAsg, wIf, wRet, wBin, wCmp, wPl, wUn, wAnd, wOr, wIfE, wEs, wSl]
 refine qC fun P kG => ?_
 obtain ⟨t, u, G, h1, hN⟩ := h
 refine kG ?_
 clear kG P
 have hs := pH
 have hl := kF G
 have ho := octs_cds G
 simp only [h1, qJ, qF, qD, qK, qL, qT, qH, qI, qM, qN, qY, qZ, qE, String.reduceEq, String.reduceBEq, cond_true, cond_false, uH, if_true, if_false, reduceIte, ite_true, ite_false, zA, zB, zC, zD, zE, zF, qP, zG, qQ, zH, zI, zJ, zK, zL, qR, qU, zM, zN, qO, zO, zP, zQ, zR, zS, zT, qV, zU, zV, zW, zX, zY, qW, zZ, jA, jB, jC, jD, jE, jF, qX, jG, jH, qS, uA, uB, uC, uD, uE, uF, uG]
 refine ⟨_, rfl, rows_use (by rw [tabP_len]; exact Nat.lt_of_le_of_lt ‹_› (by decide)) ?_⟩
 rw [tab_vals]
 have e : ((csOf t).map fun c => oct128 (c.2.2 * u)).flatten = octs (cds t u) := by unfold octs cds; rw [List.map_map]; rfl
 refine join_use (ls := (csOf t).map fun c => oct128 (c.2.2 * u)) (by rw [List.map_map]; rfl) (by rw [e]; exact Nat.le_trans ‹_› (Nat.le_add_left _ _)) (by rw [List.length_map]; exact Nat.le_trans ‹_› (Nat.le_add_left _ _)) ?_
 rw [e]
 refine ⟨_, (octs (cds t u)).map (fun x => [PyData.int (x : Nat)]), rfl, CompAll.map (f := fun x => PyData.str ⟨#[x]⟩) fun x hx => ?_, ?_, ?_⟩
 ·unfold CB
  simp only [qJ, qF, qD, qK, qL, qT, qH, qI, qM, qN, qY, qZ, qE, String.reduceEq, String.reduceBEq, cond_true, cond_false, uH, if_true, if_false, reduceIte, ite_true, ite_false, zA, zB, zC, zD, zE, zF, qP, zG, qQ, zH, zI, zJ, zK, zL, qR, qU, zM, zN, qO, zO, zP, zQ, zR, zS, zT, qV, zU, zV, zW, zX, zY, qW, zZ, jA, jB, jC, jD, jE, jF, qX, jG, jH, qS, uA, uB, uC, uD, uE, uF, uG, oOrd_i]
  exact ⟨fun _ => ⟨_, [], rfl, rfl, by simp⟩, fun q => by cases q⟩
 ·rw [pA, List.length_map]; exact Nat.le_trans ‹_› (by decide)
 ·rw [pA]; exact hN
theorem s10 :
  SS c env (exec (lst P 10) env) s10W := by
 have hh := rm.hd
 have heq := rm.eq
 refine pF (pE (jZ (by subst henv; kernel_rfl) (l_read Y rm hfr (by subst henv; rfl) (by subst henv; kernel_rfl) rfl (qG (qB (by subst henv; kernel_rfl)) jI)) (by subst henv; kernel_rfl))) ?_
 intro η σ N Rt h
 dsimp only [wCons, wAsg, wIf, wRet, wBin, wCmp, wPl, wUn, wAnd, wOr, wIfE, wEs, wSl]
 refine qC fun P kG => ?_
 obtain ⟨t, u, G, h1, hN⟩ := h
 refine kG ?_
 clear kG P
 have ho := octs_cds G
 simp only [h1, qJ, qF, qD, qK, qL, qT, qH, qI, qM, qN, qY, qZ, qE, String.reduceEq, String.reduceBEq, cond_true, cond_false, uH, if_true, if_false, reduceIte, ite_true, ite_false, zA, zB, zC, zD, zE, zF, qP, zG, qQ, zH, zI, zJ, zK, zL, qR, qU, zM, zN, qO, zO, zP, zQ, zR, zS, zT, qV, zU, zV, zW, zX, zY, qW, zZ, jA, jB, jC, jD, jE, jF, qX, jG, jH, qS, uA, uB, uC, uD, uE, uF, uG]
 refine ⟨trivial, read_use (octs_lt _) (runs_octs _) (by exact Nat.lt_of_le_of_lt ‹_› (by decide)) ?_⟩
 rw [reads_all _ (cds_lt G)]
 exact hN
theorem s11 :
  SS c env (exec (lst P 11) env) s11W := by
 have hh := rm.hd
 have heq := rm.eq
 refine pF (ss_if (tok_or (jW (l_spel Y rm (by subst henv; kernel_rfl) rfl (qG (qB (by subst henv; kernel_rfl)) (qG (qB (by subst henv; kernel_rfl)) jI))) (qB (by subst henv; kernel_rfl)) (op_ne heq) jT (by subst henv; kernel_rfl)) (tok_or (jW (l_read Y rm hfr (by subst henv; rfl) (by subst henv; kernel_rfl) rfl (qG (pU (qB (by subst henv; kernel_rfl)) pD (pK (vE jM op_neg)) pD) jI)) (pU (qB (by subst henv; kernel_rfl)) pD (pK (vE jM op_neg)) pD) (op_ne heq) jT (by subst henv; kernel_rfl)) tok_or_nil)) (jX (pE (pC pJ))
 pG) pG) ?_
 intro η σ N Rt h
 dsimp only [wCons, wAsg, wIf, wRet, wBin, wCmp, wPl, wUn, wAnd, wOr, wIfE, wEs, wSl]
 refine qC fun P kG => ?_
 obtain ⟨t, u, G, h1, h2, h3, h4, hN⟩ := h
 have hs := pH
 have ho := octs_cds G
 have hc := cds_len G
 have u1 := G.u1
 have u2 := G.u2
 obtain ⟨sp1, sp2⟩ := spell_chain G.len G.abc u1 (cs_chain t)
 refine kG ?_
 clear kG P
 simp only [List.take_zero] at sp1 sp2
 simp only [h1, h2, h3, h4, qJ, qF, qD, qK, qL, qT, qH, qI, qM, qN, qY, qZ, qE, String.reduceEq, String.reduceBEq, cond_true, cond_false, uH, if_true, if_false, reduceIte, ite_true, ite_false, zA, zB, zC, zD, zE, zF, qP, zG, qQ, zH, zI, zJ, zK, zL, qR, qU, zM, zN, qO, zO, zP, zQ, zR, zS, zT, qV, zU, zV, zW, zX, zY, qW, zZ, jA, jB, jC, jD, jE, jF, qX, jG, jH, qS, uA, uB, uC, uD, uE, uF, uG]
 refine ⟨trivial, spel_use (by assumption) (by exact Nat.lt_of_le_of_lt ‹_› (by decide)) sp1 ?_⟩
 show oEq true (.v (.str (S (spell u [] (cds t u))))) _ _ _
 rw [show spell u [] (cds t u) = t from sp2]
 refine kU (k := 0) (sh_str (pO G.abc)) (by decide) rfl (bit_n ?_)
 simp only [pick_drop, nlist_drop, kD]
 refine ⟨by decide, by exact (qA [_,_] 1 (.v 0) (.v 1) (.c 1 (.v 0) (.n 30) (.c 1 (.n 1048576) (.v 1) .z)) rfl ho hs), trivial, read_use (xs := (octs (cds t u)).dropLast) (fun x hx => octs_lt _ x ((List.dropLast_sublist _).subset hx)) (runs_dropLast (runs_octs _)) (by rw [List.length_dropLast]; exact (qA [_,_] 1 (.a (.v 0) (.n 1)) (.n 1000) (.c 1 (.v 0) (.v 1) (.c 1 (.v 1) (.n 30) .z)) rfl (Nat.sub_le _ _) ho)) ?_⟩
 rw [reads_drop _ (cds_lt G)]
 exact ⟨by decide, by exact Nat.le_trans ‹_› (by decide), kU (k := 1) (sh_nlist _) (by decide) rfl (bit_n ⟨fun q => (by cases q), fun _ => hN⟩)⟩
theorem s12 :
  SS c env (exec (lst P 12) env) s12W := by
 have hh := rm.hd
 have heq := rm.eq
 refine pF (ss_if (tok_or (jW (l_len Y (by subst henv; kernel_rfl) rfl rfl (qG (qB (by subst henv; kernel_rfl)) jI)) (l_few Y rm (by subst henv; kernel_rfl) rfl (qG (qB (by subst henv; kernel_rfl)) jI)) (op_ne heq) jT (by subst henv; kernel_rfl)) (tok_or (jW (qB (by subst henv; kernel_rfl)) (pT hh (qB (by subst henv; kernel_rfl)) (by exact trivial) (pL (by subst henv; kernel_rfl)) (fun _ q => q) (fun L cells => (kY hh [("start", _), ("piece", _), ("code", _)] rfl rfl rfl (nmsOkC _ (by subst henv; kernel_rfl)))) (vG _ (by subst henv; kernel_rfl)) (fun L cells => pW) (fun L cells => (jJ (qB (by subst henv; kernel_rfl)) (qB (by subst henv; kernel_rfl)) op_mul))) (op_ne heq) jT (by subst henv; kernel_rfl)) tok_or_nil)) (jX (pE (pC pJ))
 pG) pG) ?_
 intro η σ N Rt h
 dsimp only [wCons, wAsg, wIf, wRet, wBin, wCmp, wPl, wUn, wAnd, wOr, wIfE, wEs, wSl]
 refine qC fun P kG => ?_
 obtain ⟨t, u, G, h1, h2, h3, h4, hN⟩ := h
 refine kG ?_
 clear kG P
 have hs := pH
 have hl := G.len
 have hc := kF G
 simp only [h1, h2, h3, h4, cutsV, qJ, qF, qD, qK, qL, qT, qH, qI, qM, qN, qY, qZ, qE, String.reduceEq, String.reduceBEq, cond_true, cond_false, uH, if_true, if_false, reduceIte, ite_true, ite_false, zA, zB, zC, zD, zE, zF, qP, zG, qQ, zH, zI, zJ, zK, zL, qR, qU, zM, zN, qO, zO, zP, zQ, zR, zS, zT, qV, zU, zV, zW, zX, zY, qW, zZ, jA, jB, jC, jD, jE, jF, qX, jG, jH, qS, uA, uB, uC, uD, uE, uF, uG, List.length_map]
 refine ⟨by exact Nat.lt_of_le_of_lt ‹_› (by decide), trivial, few_use (by exact Nat.le_trans ‹_› (Nat.le_add_left _ _)) ?_⟩
 refine kU (k := 0) (sh_int _) (by decide) (by rw [fewest]) (bit_n ?_)
 refine ⟨_, (csOf t).map (fun c => [PyData.int (c.2.2 * u : Nat)]), rfl, CompAll.map (f := cutD t) fun c hc => ?_, ?_, ?_⟩
 ·refine qC fun P kG => ?_
  obtain ⟨c1, c2, c3, c4, c5, c6⟩ := cs_mem G hc
  refine kG ?_
  clear kG P
  refine ⟨[.int c.1, .str (S (fac t c.1 c.2.1)), .int c.2.2], rfl, rfl, fun _ => ?_, fun q => by cases q⟩
  simp only [h2, qJ, qF, qD, qK, qL, qT, qH, qI, qM, qN, qY, qZ, qE, String.reduceEq, String.reduceBEq, cond_true, cond_false, uH, if_true, if_false, reduceIte, ite_true, ite_false, zA, zB, zC, zD, zE, zF, qP, zG, qQ, zH, zI, zJ, zK, zL, qR, qU, zM, zN, qO, zO, zP, zQ, zR, zS, zT, qV, zU, zV, zW, zX, zY, qW, zZ, jA, jB, jC, jD, jE, jF, qX, jG, jH, qS, uA, uB, uC, uD, uE, uF, uG, List.map_cons, List.map_nil]
  refine ⟨mulOk (by exact (jO [_] 1 (.g (.n 1000000)) (.c (.v 0)) .z rfl )) (by exact (jO [_] 1 (.c (.v 0)) (.n 1000000) (.c 1 (.a (.v 0) (.n 1)) (.n 160) .z) rfl c5)), ?_⟩
  rw [nat_ii]
  exact ⟨_, [], rfl, rfl, by simp⟩
 ·rw [pA, List.length_map]; exact Nat.le_trans ‹_› (by decide)
 ·rw [pA]
  exact kU (k := 1) (sh_nlist _) (by decide) (by unfold nlist cds; rw [List.map_map]; rfl) (bit_n ⟨fun q => (by cases q), fun _ => hN⟩)
theorem s13 :
  SS c env (exec (lst P 13) env) s13W := by
 have hh := rm.hd
 have heq := rm.eq
 refine pF (ss_if (jW (pT hh (qB (by subst henv; kernel_rfl)) (by exact trivial) (pL (by subst henv; kernel_rfl)) (fun _ q => q) (fun L cells => (kY hh [("start", _), ("piece", _), ("code", _)] rfl rfl rfl (nmsOkC _ (by subst henv; kernel_rfl)))) (vG _ (by subst henv; kernel_rfl)) (fun L cells => (tsok_one (tok_and (jW (jJ (qB (by subst henv; kernel_rfl)) (l_len Y (by subst henv; kernel_rfl) rfl rfl (qG (qB (by subst henv; kernel_rfl)) jI)) jU) (l_len Y (by subst henv; kernel_rfl) rfl rfl (qG (qB (by subst henv; kernel_rfl)) jI)) op_lt jT (by subst henv; kernel_rfl)) (tok_and (jW (l_find (qB (by subst henv; kernel_rfl)) rfl (qG (pU (qB (by subst henv; kernel_rfl)) (pK (qB (by subst henv; kernel_rfl))) (pK (jJ (jJ (qB (by subst henv; kernel_rfl)) (l_len Y (by subst henv; kernel_rfl) rfl rfl (qG (qB (by subst henv; kernel_rfl)) jI)) jU) jM jU)) pD) jI) rfl rfl) (qB (by subst henv; kernel_rfl)) op_lt jT (by subst henv; kernel_rfl)) tok_and_nil)))) (fun L cells => (qB (by subst henv; kernel_rfl)))) (kM rfl jI) (op_ne heq) jT (by subst henv; kernel_rfl)) (jX (pE (pC pJ))
 pG) pG) ?_
 intro η σ N Rt h
 dsimp only [wCons, wAsg, wIf, wRet, wBin, wCmp, wPl, wUn, wAnd, wOr, wIfE, wEs, wSl]
 refine qC fun P kG => ?_
 obtain ⟨t, u, G, h1, h2, hN⟩ := h
 refine kG ?_
 clear kG P
 have hs := pH
 have hl := G.len
 have hc := kF G
 have hnil : ∀ l : List (Nat × Nat × Nat), (l.map fun _ => ([] : List PyData)).flatten = [] := fun l => by
  induction l with
  | nil => rfl
  | cons c l ih => rw [List.map_cons, List.flatten_cons, ih]; rfl
 simp only [h2, cutsV, qJ, qF, qD, qK, qL, qT, qH, qI, qM, qN, qY, qZ, qE, String.reduceEq, String.reduceBEq, cond_true, cond_false, uH, if_true, if_false, reduceIte, ite_true, ite_false, zA, zB, zC, zD, zE, zF, qP, zG, qQ, zH, zI, zJ, zK, zL, qR, qU, zM, zN, qO, zO, zP, zQ, zR, zS, zT, qV, zU, zV, zW, zX, zY, qW, zZ, jA, jB, jC, jD, jE, jF, qX, jG, jH, qS, uA, uB, uC, uD, uE, uF, uG, List.length_map]
 refine ⟨_, (csOf t).map (fun c => []), rfl, CompAll.map (f := cutD t) fun c hc => ?_, ?_, ?_⟩
 ·refine qC fun P kG => ?_
  obtain ⟨c1, c2, c3, c4, c5, c6⟩ := cs_mem G hc
  refine kG ?_
  clear kG P
  have hp : (fac t c.1 c.2.1).length = c.2.1 := kR c3
  refine ⟨[.int c.1, .str (S (fac t c.1 c.2.1)), .int c.2.2], rfl, rfl, ?_⟩
  have e : Txt.slice (S t) (some (c.1 : Int)) (some ((c.1 : Int) + (c.2.1 : Int) + 1)) = S (fac t c.1 (c.2.1 + 1)) := by
   rw [show (c.1 : Int) + (c.2.1 : Int) + 1 = ((c.1 + (c.2.1 + 1) : Nat) : Int) by exact (Int.le_antisymm (jO [_,_] 1 (.a (.a (.c (.v 0)) (.c (.v 1))) (.n 1)) (.c (.a (.v 0) (.a (.v 1) (.n 1)))) .z rfl ) (jO [_,_] 1 (.c (.a (.v 0) (.a (.v 1) (.n 1)))) (.a (.a (.c (.v 0)) (.c (.v 1))) (.n 1)) .z rfl )), S_slice, sl_fac]
  simp only [h1, qJ, qF, qD, qK, qL, qT, qH, qI, qM, qN, qY, qZ, qE, String.reduceEq, String.reduceBEq, cond_true, cond_false, uH, if_true, if_false, reduceIte, ite_true, ite_false, zA, zB, zC, zD, zE, zF, qP, zG, qQ, zH, zI, zJ, zK, zL, qR, qU, zM, zN, qO, zO, zP, zQ, zR, zS, zT, qV, zU, zV, zW, zX, zY, qW, zZ, jA, jB, jC, jD, jE, jF, qX, jG, jH, qS, uA, uB, uC, uD, uE, uF, uG, List.map_cons, List.map_nil, jN, hp, e, S_find]
  refine ⟨by exact (qA [_,_,_] 1 (.a (.v 0) (.n 1)) (.n 4611686018427387904) (.c 1 (.a (.v 1) (.v 0)) (.v 2) (.c 1 (.v 2) (.n 10) .z)) rfl c3 hl), by exact Nat.lt_of_le_of_lt ‹_› (by decide), fun q => ?_, fun q => ⟨fun q => (by cases q), fun _ => ⟨trivial, [], by simp⟩⟩⟩
  have q := of_decide_eq_true q
  have hlt : c.1 + c.2.1 < t.length := by exact Int.ofNat_lt.mp ‹_›
  rw [(first_at (t := t) (s := c.1) (l := c.2.1 + 1) (by assumption)).2.2.2]
  refine ⟨_, rfl, by exact (qA [_,_,_] 1 (.a (.v 0) (.n 1)) (.n 4611686018427387904) (.c 1 (.a (.a (.v 1) (.v 0)) (.n 1)) (.v 2) (.c 1 (.v 2) (.n 10) .z)) rfl hlt hl), trivial, by exact Nat.le_trans ‹_› (by decide), fun q2 => ?_, fun q2 => ⟨fun q => (by cases q), fun _ => ⟨trivial, [], by simp⟩⟩⟩
  exfalso
  have q2 := of_decide_eq_true q2
  dsimp only at q2
  rw [c2] at hlt q2
  exact longest hlt (by exact Int.ofNat_lt.mp ‹_›)
 ·rw [hnil]; exact Nat.zero_le _
 ·rw [hnil]
  refine ⟨Nat.zero_le _, ne_nil (k := 1) (sh_list fun d hd => by cases hd) (by decide) ?_⟩
  exact ⟨fun q => (by cases q), fun _ => hN _⟩
theorem s14 :
  SS c env (exec (lst P 14) env) s14W := by
 have hh := rm.hd
 have heq := rm.eq
 refine pF (ss_if (jW (pT hh (qB (by subst henv; kernel_rfl)) (by exact trivial) (pL (by subst henv; kernel_rfl)) (fun _ q => q) (fun L cells => (kY hh [("start", _), ("piece", _), ("code", _)] rfl rfl rfl (nmsOkC _ (by subst henv; kernel_rfl)))) (vG _ (by subst henv; kernel_rfl)) (fun L cells => pW) (fun L cells => (qB (by subst henv; kernel_rfl)))) (pT hh (qB (by subst henv; kernel_rfl)) (by exact trivial) (pL (by subst henv; kernel_rfl)) (fun _ q => q) (fun L cells => (kY hh [("start", _), ("piece", _), ("code", _)] rfl rfl rfl (nmsOkC _ (by subst henv; kernel_rfl)))) (vG _ (by subst henv; kernel_rfl)) (fun L cells => pW) (fun L cells => (eok_ifexp (jW (l_find (qB (by subst henv; kernel_rfl)) rfl (qG (qB (by subst henv; kernel_rfl)) jI) rfl rfl) (qB (by subst henv; kernel_rfl)) (op_eq heq) jT (by subst henv; kernel_rfl)) (l_find pQ rfl (qG (qB (by subst henv; kernel_rfl)) jI) rfl rfl) (jJ (jJ (jJ jM (l_len Y (by subst henv; kernel_rfl) rfl rfl (qG (qB (by subst henv; kernel_rfl)) jI)) op_mul) (qB (by subst henv; kernel_rfl)) jU) (l_find (qB (by subst henv; kernel_rfl)) rfl (qG (qB (by subst henv; kernel_rfl)) jI) rfl rfl) op_sub)))) (op_ne heq) jT (by subst henv; kernel_rfl)) (jX (pE (pC pJ))
 pG) pG) ?_
 intro η σ N Rt h
 dsimp only [wCons, wAsg, wIf, wRet, wBin, wCmp, wPl, wUn, wAnd, wOr, wIfE, wEs, wSl]
 refine qC fun P kG => ?_
 obtain ⟨t, u, G, h1, h2, hN⟩ := h
 refine kG ?_
 clear kG P
 have hs := pH
 have hl := G.len
 have hc := kF G
 simp only [h2, cutsV, qJ, qF, qD, qK, qL, qT, qH, qI, qM, qN, qY, qZ, qE, String.reduceEq, String.reduceBEq, cond_true, cond_false, uH, if_true, if_false, reduceIte, ite_true, ite_false, zA, zB, zC, zD, zE, zF, qP, zG, qQ, zH, zI, zJ, zK, zL, qR, qU, zM, zN, qO, zO, zP, zQ, zR, zS, zT, qV, zU, zV, zW, zX, zY, qW, zZ, jA, jB, jC, jD, jE, jF, qX, jG, jH, qS, uA, uB, uC, uD, uE, uF, uG, List.length_map]
 refine ⟨_, (csOf t).map (fun c => [PyData.int (c.2.2 : Nat)]), rfl, CompAll.map (f := cutD t) fun c hc => ?_, ?_, ?_⟩
 ·refine ⟨[.int c.1, .str (S (fac t c.1 c.2.1)), .int c.2.2], rfl, rfl, fun _ => ?_, fun q => by cases q⟩
  simp only [qJ, qF, qD, qK, qL, qT, qH, qI, qM, qN, qY, qZ, qE, String.reduceEq, String.reduceBEq, cond_true, cond_false, uH, if_true, if_false, reduceIte, ite_true, ite_false, zA, zB, zC, zD, zE, zF, qP, zG, qQ, zH, zI, zJ, zK, zL, qR, qU, zM, zN, qO, zO, zP, zQ, zR, zS, zT, qV, zU, zV, zW, zX, zY, qW, zZ, jA, jB, jC, jD, jE, jF, qX, jG, jH, qS, uA, uB, uC, uD, uE, uF, uG, List.map_cons, List.map_nil]
  exact ⟨_, [], rfl, rfl, by simp⟩
 ·rw [pA, List.length_map]; exact (qA [_,_] 1 (.v 0) (.v 1) (.c 1 (.v 0) (.n 10) (.c 1 (.n 1048576) (.v 1) .z)) rfl hc hs)
 refine ⟨_, (csOf t).map (fun c => [PyData.int (c.2.2 : Nat)]), rfl, CompAll.map (f := cutD t) fun c hc => ?_, ?_, ?_⟩
 ·refine qC fun P kG => ?_
  obtain ⟨c1, c2, c3, c4, c5, c6⟩ := cs_mem G hc
  refine kG ?_
  clear kG P
  have hp : (fac t c.1 c.2.1).length = c.2.1 := kR c3
  have hci := code_is G.abc c1
  rw [← c2, ← c4] at hci
  refine ⟨[.int c.1, .str (S (fac t c.1 c.2.1)), .int c.2.2], rfl, rfl, fun _ => ?_, fun q => by cases q⟩
  simp only [h1, qJ, qF, qD, qK, qL, qT, qH, qI, qM, qN, qY, qZ, qE, String.reduceEq, String.reduceBEq, cond_true, cond_false, uH, if_true, if_false, reduceIte, ite_true, ite_false, zA, zB, zC, zD, zE, zF, qP, zG, qQ, zH, zI, zJ, zK, zL, qR, qU, zM, zN, qO, zO, zP, zQ, zR, zS, zT, qV, zU, zV, zW, zX, zY, qW, zZ, jA, jB, jC, jD, jE, jF, qX, jG, jH, qS, uA, uB, uC, uD, uE, uF, uG, List.map_cons, List.map_nil, jN, hp, S_find]
  rw [(first_at (t := t) (s := c.1) (l := c.2.1) c3).2.2.2]
  dsimp only
  rw [S_abc, S_find, jN, show ABC.length = 3 from rfl]
  refine ⟨_, rfl, fun q => ⟨_, rfl, _, [], rfl, ?_, by simp⟩, fun q => ⟨by lia, mulOk (by exact (jO [] 1 (.g (.n 1000000)) (.n 16) .z rfl )) (by exact Int.natCast_nonneg _), _, rfl, _, [], rfl, ?_, by simp⟩⟩
  ·have q : (first t (fac t c.1 c.2.1) : Int) = (c.1 : Int) := by simpa using q
   rw [if_pos (by exact (Nat.le_antisymm (qA [_,_] 1 (.v 0) (.v 1) (.i 1 (.c (.v 0)) (.c (.v 1)) .z) rfl (Int.le_of_eq q)) (qA [_,_] 1 (.v 0) (.v 1) (.i 1 (.c (.v 0)) (.c (.v 1)) .z) rfl (Int.le_of_eq (Eq.symm q)))))] at hci
   exact congrArg (fun z : Int => [PyData.int z]) hci
  ·have q : ¬ (first t (fac t c.1 c.2.1) : Int) = (c.1 : Int) := by simpa using q
   rw [if_neg (by lia)] at hci
   rw [hci]
 ·rw [pA, List.length_map]; lia
 ·rw [pA]
  refine kU (k := 1) (sh_list fun d hd => ?_) (by decide) rfl (bit_n hN)
  rw [List.mem_map] at hd
  refine qC fun P kG => ?_
  obtain ⟨c, _, rfl⟩ := hd
  refine kG ?_
  clear kG P
  exact sh_int _
theorem s15 :
  SS c env (exec (lst P 15) env) s15W := by
 have hh := rm.hd
 have heq := rm.eq
 refine pF (pE (jZ (by subst henv; kernel_rfl) (pT hh (qB (by subst henv; kernel_rfl)) (by exact trivial) (pL (by subst henv; kernel_rfl)) (fun _ q => q) (fun L cells => (kY hh [("start", _), ("piece", _), ("code", _)] rfl rfl rfl (nmsOkC _ (by subst henv; kernel_rfl)))) (vG _ (by subst henv; kernel_rfl)) (fun L cells => pW) (fun L cells => (jJ (qB (by subst henv; kernel_rfl)) (l_len Y (by subst henv; kernel_rfl) rfl rfl (qG (qB (by subst henv; kernel_rfl)) jI)) jU))) (by subst henv; kernel_rfl))) ?_
 intro η σ N Rt h
 dsimp only [wCons, wAsg, wIf, wRet, wBin, wCmp, wPl, wUn, wAnd, wOr, wIfE, wEs, wSl]
 refine qC fun P kG => ?_
 obtain ⟨t, u, G, h1, hN⟩ := h
 refine kG ?_
 clear kG P
 have hs := pH
 have hc := kF G
 simp only [h1, cutsV, qJ, qF, qD, qK, qL, qT, qH, qI, qM, qN, qY, qZ, qE, String.reduceEq, String.reduceBEq, cond_true, cond_false, uH, if_true, if_false, reduceIte, ite_true, ite_false, zA, zB, zC, zD, zE, zF, qP, zG, qQ, zH, zI, zJ, zK, zL, qR, qU, zM, zN, qO, zO, zP, zQ, zR, zS, zT, qV, zU, zV, zW, zX, zY, qW, zZ, jA, jB, jC, jD, jE, jF, qX, jG, jH, qS, uA, uB, uC, uD, uE, uF, uG, List.length_map]
 refine ⟨_, (csOf t).map (fun c => [PyData.int (c.1 + c.2.1 : Nat)]), rfl, CompAll.map (f := cutD t) fun c hc => ?_, ?_, ?_⟩
 ·refine qC fun P kG => ?_
  obtain ⟨c1, c2, c3, c4, c5, c6⟩ := cs_mem G hc
  refine kG ?_
  clear kG P
  have hp : (fac t c.1 c.2.1).length = c.2.1 := kR c3
  have hl := G.len
  refine ⟨[.int c.1, .str (S (fac t c.1 c.2.1)), .int c.2.2], rfl, rfl, fun _ => ?_, fun q => by cases q⟩
  simp only [qJ, qF, qD, qK, qL, qT, qH, qI, qM, qN, qY, qZ, qE, String.reduceEq, String.reduceBEq, cond_true, cond_false, uH, if_true, if_false, reduceIte, ite_true, ite_false, zA, zB, zC, zD, zE, zF, qP, zG, qQ, zH, zI, zJ, zK, zL, qR, qU, zM, zN, qO, zO, zP, zQ, zR, zS, zT, qV, zU, zV, zW, zX, zY, qW, zZ, jA, jB, jC, jD, jE, jF, qX, jG, jH, qS, uA, uB, uC, uD, uE, uF, uG, List.map_cons, List.map_nil, jN, hp]
  exact ⟨by exact (qA [_,_,_] 1 (.a (.v 0) (.n 1)) (.n 4611686018427387904) (.c 1 (.v 1) (.n 10) (.c 1 (.a (.v 2) (.v 0)) (.v 1) .z)) rfl hl c3), _, [], rfl, by rw [Int.natCast_add], by simp⟩
 ·rw [pA, List.length_map]; lia
 ·rw [pA, show (csOf t).map (fun c => PyData.int (c.1 + c.2.1 : Nat)) = nlist (endsOf (csOf t)) by unfold nlist endsOf; rw [List.map_map]; rfl]
  exact hN
end
noncomputable def behL (t : List Nat) : List Nat := (List.range (t.length + 1)).map (cntLe (endsOf (csOf t)))
theorem behL_get {t : List Nat} {i : Nat} (h : i ≤ t.length) : (nlist (behL t))[i]? = some (.int (cntLe (endsOf (csOf t)) i : Nat)) := by
 rw [nlist_get]
 unfold behL
 rw [List.getElem?_map, List.getElem?_range (by exact Nat.lt_succ_of_le ‹_›)]; rfl
theorem endsOf_len (cs : List (Nat × Nat × Nat)) : (endsOf cs).length = cs.length := by unfold endsOf; rw [List.length_map]
theorem cnt_le_len (l : List Nat) (v : Nat) : cntLe l v ≤ l.length := List.length_filter_le _ _
theorem tabK (t : List Nat) (u : Nat) : tabP t u = (List.range (csOf t).length).map fun k => tabR t u k ((csOf t).getD k default) := by
 apply List.ext_getElem?
 intro i
 unfold tabP
 rw [List.getElem?_mapIdx, List.getElem?_map]
 rcases Nat.lt_or_ge i (csOf t).length with h | h
 ·rw [List.getElem?_range h, List.getElem?_eq_getElem h]
  show _ = some (tabR t u i ((csOf t).getD i default))
  rw [List.getD_eq_getElem?_getD, List.getElem?_eq_getElem h]; rfl
 ·rw [List.getElem?_eq_none h, List.getElem?_eq_none (by rw [List.length_range]; exact h)]; rfl
theorem csD {t : List Nat} {k : Nat} (h : k < (csOf t).length) : (csOf t)[k]? = some ((csOf t).getD k default) := by
 rw [List.getD_eq_getElem?_getD, List.getElem?_eq_getElem h]; rfl
theorem nm_low {t : List Nat} {u : Nat} (G : Good t u) (k : Nat) (c : Nat × Nat × Nat) : Txt.lower (S (nm t k c)) = S (pc t c) := by
 unfold nm
 split
 ·exact S_lowerB (pX G c)
 ·exact S_lowerA (pX G c)
noncomputable def s16W : SW := fun η σ N _ => ∃ t u, Good t u ∧ vget "text" η = some (.v (.str (S t))) ∧ vget "ends" η = some (.v (.list (nlist (endsOf (csOf t))))) ∧ N (vset "behind" (.v (.list (nlist (behL t)))) η) σ
noncomputable def s17W : SW := fun η σ N _ => ∃ t u, Good t u ∧ vget "text" η = some (.v (.str (S t))) ∧ vget "behind" η = some (.v (.list (nlist (behL t)))) ∧ ∀ η', (∀ y : String, y ≠ "start" → y ≠ "end" → y ≠ "first" → vget y η' = vget y η) → N η' σ
noncomputable def s18W : SW := fun η σ N _ => ∃ t u, Good t u ∧ vget "text" η = some (.v (.str (S t))) ∧ vget "ends" η = some (.v (.list (nlist (endsOf (csOf t))))) ∧ vget "behind" η = some (.v (.list (nlist (behL t)))) ∧
 vget "plain" η = some (.pr (FHdr ((plP t u (csOf t)).map rowD))) ∧ vget "kept" η = some (.v (.list ((plP t u (csOf t)).map rowD))) ∧ N η σ
noncomputable def s19W : SW := fun η σ N _ => ∃ t u, Good t u ∧ vget "cuts" η = some (cutsV t) ∧ vget "signs" η = some (signsV t u) ∧ vget "table" η = some (.pr (FHdr ((tabP t u).map rowD))) ∧ ∀ η', (∀ y : String, y ≠ "start" → y ≠ "piece" → y ≠ "code" → vget y η' = vget y η) → N η' σ
noncomputable def s20W : SW := fun η σ _ Rt => ∃ t u, Good t u ∧ vget "cuts" η = some (cutsV t) ∧ vget "table" η = some (.pr (FHdr ((tabP t u).map rowD))) ∧ Rt (.v (.bool true)) σ
section
variable {c : Cx} {P : Params} {mg : Str → Option Value} (Y : Yes c P mg) (C0 : CodeHd c.base 243 239) (hbt : c.base.BuiltinsAt mg 239) (hgP : mainGlobals ≠ 239) (rm : Room 4 c.A) (L : Addr) (cells : List (Str × Addr)) {fa : Addr} {cd : Value} {env : Env} (henv : env = (lawEnv P fa cd L cells)) (hcl : CellsOk env) (hfr : c.A.frames = some [env])
include Y C0 hbt hgP rm henv hcl hfr
theorem s16 :
  SS c env (exec (lst P 16) env) s16W := by
 have hh := rm.hd
 have heq := rm.eq
 refine pF (pE (vM hh hcl (by subst henv; kernel_rfl) (l_range Y (by subst henv; kernel_rfl) rfl rfl (qG (jJ (l_len Y (by subst henv; kernel_rfl) rfl rfl (qG (qB (by subst henv; kernel_rfl)) jI)) jM jU) jI)) (by exact trivial) (pL (by subst henv; kernel_rfl)) (fun _ q => q) (fun L cells => (pP (pM (by subst henv; kernel_rfl)) (by subst henv; kernel_rfl))) (pY (by subst henv; kernel_rfl)) (fun L cells => pW) (fun L cells => (l_bsr Y rm (by subst henv; kernel_rfl) rfl (qG (qB (by subst henv; kernel_rfl)) (qG (qB (by subst henv; kernel_rfl)) jI)))) (by subst henv; kernel_rfl))) ?_
 intro η σ N Rt h
 dsimp only [wCons, wAsg, wIf, wRet, wBin, wCmp, wPl, wUn, wAnd, wOr, wIfE, wEs, wSl]
 refine qC fun P kG => ?_
 obtain ⟨t, u, G, h1, h2, hN⟩ := h
 refine kG ?_
 clear kG P
 have hs := pH
 have hl := G.len
 have hc := kF G
 simp only [h1, qJ, qF, qD, qK, qL, qT, qH, qI, qM, qN, qY, qZ, qE, String.reduceEq, String.reduceBEq, cond_true, cond_false, uH, if_true, if_false, reduceIte, ite_true, ite_false, zA, zB, zC, zD, zE, zF, qP, zG, qQ, zH, zI, zJ, zK, zL, qR, qU, zM, zN, qO, zO, zP, zQ, zR, zS, zT, qV, zU, zV, zW, zX, zY, qW, zZ, jA, jB, jC, jD, jE, jF, qX, jG, jH, qS, uA, uB, uC, uD, uE, uF, uG, jN]
 refine ⟨by exact Nat.lt_of_le_of_lt ‹_› (by decide), _, (List.range (t.length + 1)).map (fun k => [PyData.int (cntLe (endsOf (csOf t)) k : Nat)]), by rw [show (t.length : Int) + 1 = ((t.length + 1 : Nat) : Int) by exact Int.natCast_add _ _]; exact iter_n _ (by exact (qA [_] 1 (.a (.a (.v 0) (.n 1)) (.n 1)) (.n 100000) (.c 1 (.v 0) (.n 10) .z) rfl hl)), CompAll.map (f := fun (k : Nat) => PyData.int (k : Int)) fun k hk => ?_, ?_, ?_⟩
 ·unfold CB
  simp only [h2, qJ, qF, qD, qK, qL, qT, qH, qI, qM, qN, qY, qZ, qE, String.reduceEq, String.reduceBEq, cond_true, cond_false, uH, if_true, if_false, reduceIte, ite_true, ite_false, zA, zB, zC, zD, zE, zF, qP, zG, qQ, zH, zI, zJ, zK, zL, qR, qU, zM, zN, qO, zO, zP, zQ, zR, zS, zT, qV, zU, zV, zW, zX, zY, qW, zZ, jA, jB, jC, jD, jE, jF, qX, jG, jH, qS, uA, uB, uC, uD, uE, uF, uG]
  exact ⟨fun _ => bsr_use (by rw [endsOf_len]; exact Nat.lt_of_le_of_lt ‹_› (by decide)) (ends_up (cs_chain t)).1 ⟨_, [], rfl, rfl, by simp⟩, fun q => by cases q⟩
 ·rw [pA, List.length_map, List.length_range]; exact Nat.lt_of_le_of_lt ‹_› (by decide)
 ·rw [pA, show (List.range (t.length + 1)).map (fun k => PyData.int (cntLe (endsOf (csOf t)) k : Nat)) = nlist (behL t) by unfold nlist behL; rw [List.map_map]; rfl]
  exact hN
theorem s17 :
  SS c env (exec (lst P 17) env) s17W := by
 have hh := rm.hd
 have heq := rm.eq
 refine pF (ss_for hh hcl (by exact trivial) (l_range Y (by subst henv; kernel_rfl) rfl rfl (qG (l_len Y (by subst henv; kernel_rfl) rfl rfl (qG (qB (by subst henv; kernel_rfl)) jI)) jI)) (pP trivial (by subst henv; kernel_rfl)) (jX (ss_for hh hcl (by exact trivial) (l_range Y (by subst henv; kernel_rfl) rfl rfl (qG (jJ (qB (by subst henv; kernel_rfl)) jM jU) (qG (jJ (l_len Y (by subst henv; kernel_rfl) rfl rfl (qG (qB (by subst henv; kernel_rfl)) jI)) jM jU) jI))) (pP trivial (by subst henv; kernel_rfl)) (jX (pE (jZ (by subst henv; kernel_rfl) (l_find (qB (by subst henv; kernel_rfl)) rfl (qG (pU (qB (by subst henv; kernel_rfl)) (pK (qB (by subst henv; kernel_rfl))) (pK (qB (by subst henv; kernel_rfl))) pD) jI) rfl rfl) (by subst henv; kernel_rfl)))
 (jX (ss_if (jW (pI (qB (by subst henv; kernel_rfl)) (qB (by subst henv; kernel_rfl))) (pI (qB (by subst henv; kernel_rfl)) (jJ (jJ (qB (by subst henv; kernel_rfl)) (qB (by subst henv; kernel_rfl)) jU) (qB (by subst henv; kernel_rfl)) op_sub)) op_ge jT (by subst henv; kernel_rfl)) (jX (pE (pC pJ))
 pG) pG)
 pG)))
 pG)) ?_
 intro η σ N Rt h
 dsimp only [wCons, wAsg, wIf, wRet, wBin, wCmp, wPl, wUn, wAnd, wOr, wIfE, wEs, wSl]
 refine qC fun P kG => ?_
 obtain ⟨t, u, G, h1, h2, hN⟩ := h
 refine kG ?_
 clear kG P
 have hs := pH
 have hl := G.len
 have hc := kF G
 simp only [h1, qJ, qF, qD, qK, qL, qT, qH, qI, qM, qN, qY, qZ, qE, String.reduceEq, String.reduceBEq, cond_true, cond_false, uH, if_true, if_false, reduceIte, ite_true, ite_false, zA, zB, zC, zD, zE, zF, qP, zG, qQ, zH, zI, zJ, zK, zL, qR, qU, zM, zN, qO, zO, zP, zQ, zR, zS, zT, qV, zU, zV, zW, zX, zY, qW, zZ, jA, jB, jC, jD, jE, jF, qX, jG, jH, qS, uA, uB, uC, uD, uE, uF, uG, jN]
 refine ⟨by exact (qA [_] 1 (.a (.v 0) (.n 1)) (.n 4611686018427387904) (.c 1 (.v 0) (.n 10) .z) rfl hl), _, iter_n _ (by exact Nat.lt_of_le_of_lt ‹_› (by decide)), fun ds η' σ' => (∀ d ∈ ds, ∃ a : Nat, a < t.length ∧ d = .int a) ∧ (∀ y : String, y ≠ "start" → y ≠ "end" → y ≠ "first" → vget y η' = vget y η) ∧ σ' = σ, ?_, ?_, ?_⟩
 ·refine ⟨fun d hd => ?_, fun y _ _ _ => rfl, rfl⟩
  unfold nlist at hd
  rw [List.mem_map] at hd
  refine qC fun P kG => ?_
  obtain ⟨a, ha, rfl⟩ := hd
  refine kG ?_
  clear kG P
  rw [List.mem_range] at ha
  exact ⟨a, ha, rfl⟩
 ·rintro d ds η1 σ1 ⟨g1, g2, rfl⟩
  refine qC fun P kG => ?_
  obtain ⟨a, ha, rfl⟩ := g1 d List.mem_cons_self
  refine kG ?_
  clear kG P
  have g3 := (g2 "text" (pB (by decide)) (pB (by decide)) (pB (by decide))).trans h1
  simp only [g3, qJ, qF, qD, qK, qL, qT, qH, qI, qM, qN, qY, qZ, qE, String.reduceEq, String.reduceBEq, cond_true, cond_false, uH, if_true, if_false, reduceIte, ite_true, ite_false, zA, zB, zC, zD, zE, zF, qP, zG, qQ, zH, zI, zJ, zK, zL, qR, qU, zM, zN, qO, zO, zP, zQ, zR, zS, zT, qV, zU, zV, zW, zX, zY, qW, zZ, jA, jB, jC, jD, jE, jF, qX, jG, jH, qS, uA, uB, uC, uD, uE, uF, uG, jN]
  refine ⟨by lia, _, by rw [show (a : Int) + 1 = ((a + 1 : Nat) : Int) by exact Int.natCast_add _ _, show (t.length : Int) + 1 = ((t.length + 1 : Nat) : Int) by exact (Int.le_antisymm (jO [_] 1 (.a (.c (.v 0)) (.n 1)) (.c (.a (.v 0) (.n 1))) .z rfl ) (jO [_] 1 (.c (.a (.v 0) (.n 1))) (.a (.c (.v 0)) (.n 1)) .z rfl ))]; exact iter_ab _ _ (by exact Nat.lt_succ_of_lt ‹_›) (by lia), fun ds η' σ' => (∀ d ∈ ds, ∃ b : Nat, a < b ∧ b ≤ t.length ∧ d = .int b) ∧ (∀ y : String, y ≠ "start" → y ≠ "end" → y ≠ "first" → vget y η' = vget y η) ∧ vget "start" η' = some (.v (.int a)) ∧ σ' = σ1, ?_, ?_, ?_⟩
  ·refine ⟨fun d hd => ?_, fun y n1 n2 n3 => ?_, ?_, rfl⟩
   ·unfold nlist at hd
    rw [List.mem_map] at hd
    refine qC fun P kG => ?_
    obtain ⟨b, hb, rfl⟩ := hd
    refine kG ?_
    clear kG P
    rw [List.mem_range'_1] at hb
    exact ⟨b, by exact (qA [_,_] 1 (.a (.v 0) (.n 1)) (.v 1) (.c 1 (.a (.v 0) (.n 1)) (.v 1) .z) rfl (And.left hb)), by exact (qA [_,_,_,_] 1 (.v 0) (.v 1) (.c 1 (.a (.v 2) (.a (.v 3) (.n 1))) (.a (.v 1) (.n 1)) (.c 1 (.a (.v 0) (.n 1)) (.a (.a (.v 3) (.n 1)) (.v 2)) .z)) rfl (jL (qA [_,_] 1 (.a (.v 0) (.n 1)) (.a (.v 1) (.n 1)) (.c 1 (.a (.v 0) (.n 1)) (.v 1) .z) rfl ha)) (And.right hb)), rfl⟩
   ·rw [kC n1]; exact g2 y n1 n2 n3
   ·kernel_rfl
  ·rintro d ds2 η2 σ2 ⟨k1, k2, k3, rfl⟩
   refine qC fun P kG => ?_
   obtain ⟨b, hb1, hb2, rfl⟩ := k1 d List.mem_cons_self
   have k4 := (k2 "text" (pB (by decide)) (pB (by decide)) (pB (by decide))).trans h1
   have k5 := (k2 "behind" (pB (by decide)) (pB (by decide)) (pB (by decide))).trans h2
   have hlt := behind_lt (cs_chain t) hb1 hb2
   obtain ⟨f1, f2, f3, f4⟩ := first_at (t := t) (s := a) (l := b - a) (by exact (qA [_,_,_,_] 1 (.a (.v 0) (.v 1)) (.v 2) (.c 1 (.a (.v 1) (.v 0)) (.v 3) (.c 1 (.v 3) (.v 2) .z)) rfl (jL (qA [_,_] 1 (.v 0) (.v 1) (.c 1 (.a (.v 0) (.n 1)) (.v 1) .z) rfl hb1)) hb2))
   refine kG ?_
   clear kG P
   have hsl : (t.take b).drop a = fac t a (b - a) := by rw [← sl_fac]; congr 2; exact (Nat.le_antisymm (qA [_,_,_] 1 (.v 0) (.a (.v 1) (.v 2)) (.c 1 (.v 0) (.a (.v 2) (.v 1)) .z) rfl (jV _ _)) (qA [_,_,_] 1 (.a (.v 0) (.v 1)) (.v 2) (.c 1 (.a (.v 1) (.v 0)) (.v 2) .z) rfl (jL (qA [_,_] 1 (.v 0) (.v 1) (.c 1 (.a (.v 0) (.n 1)) (.v 1) .z) rfl hb1))))
   have hcl := cnt_le_len (endsOf (csOf t))
   simp only [k3, k4, k5, qJ, qF, qD, qK, qL, qT, qH, qI, qM, qN, qY, qZ, qE, String.reduceEq, String.reduceBEq, cond_true, cond_false, uH, if_true, if_false, reduceIte, ite_true, ite_false, zA, zB, zC, zD, zE, zF, qP, zG, qQ, zH, zI, zJ, zK, zL, qR, qU, zM, zN, qO, zO, zP, zQ, zR, zS, zT, qV, zU, zV, zW, zX, zY, qW, zZ, jA, jB, jC, jD, jE, jF, qX, jG, jH, qS, uA, uB, uC, uD, uE, uF, uG, jN, S_slice, hsl, S_find, f4]
   refine ⟨_, rfl, trivial, by exact Nat.le_trans ‹_› (by decide), kP (behL_get (by exact (qA [_,_,_] 1 (.v 0) (.v 1) (.c 1 (.v 0) (.v 2) (.c 1 (.a (.v 2) (.n 1)) (.v 1) .z)) rfl f1 ha))) (by exact (qA [_,_,_] 1 (.a (.v 0) (.n 1)) (.n 1000) (.c 1 (.v 0) (.v 1) (.c 1 (.a (.v 1) (.n 1)) (.v 2) (.c 1 (.v 2) (.n 10) .z))) rfl f1 ha hl)) ?_⟩
   rw [show ((first t (fac t a (b - a)) : Nat) : Int) + (b : Int) - (a : Int) = ((first t (fac t a (b - a)) + b - a : Nat) : Int) by exact (Int.le_antisymm (jO [_,_,_,_] 1 (.s (.a (.c (.v 0)) (.c (.v 1))) (.c (.v 2))) (.c (.v 3)) (.c 1 (.a (.v 0) (.v 1)) (.a (.v 3) (.v 2)) .z) rfl (jV _ _)) (jO [_,_,_,_] 1 (.c (.v 0)) (.s (.a (.c (.v 1)) (.c (.v 2))) (.c (.v 3))) (.c 1 (.a (.v 0) (.v 3)) (.a (.v 1) (.v 2)) .z) rfl (jL (qA [_,_,_] 1 (.v 0) (.a (.v 1) (.v 2)) (.c 1 (.a (.v 0) (.n 1)) (.v 2) .z) rfl hb1))))]
   refine kP (behL_get (by (clear hb1; exact (Or.elim (Nat.le_total (first t (fac t a (b - a)) + b) (a)) (fun q0 => (qA [_,_] 1 (.v 0) (.v 1) (.c 1 (.v 0) (.n 0) .z) rfl (subZ (qA [_,_,_] 1 (.a (.v 0) (.v 1)) (.v 2) (.c 1 (.a (.v 0) (.v 1)) (.v 2) .z) rfl q0)))) fun q0 => (qA [_,_,_,_,_] 1 (.v 0) (.v 1) (.c 1 (.a (.v 0) (.v 2)) (.a (.v 3) (.v 4)) (.c 1 (.v 3) (.v 2) (.c 1 (.v 4) (.v 1) .z))) rfl (jL (qA [_,_,_] 1 (.v 0) (.a (.v 1) (.v 2)) (.c 1 (.v 0) (.a (.v 1) (.v 2)) .z) rfl q0)) f1 hb2))))) (by (clear ha; exact (qA [_,_,_,_,_] 1 (.a (.v 0) (.n 1)) (.n 1000) (.c 1 (.a (.v 0) (.v 1)) (.a (.v 2) (.v 3)) (.c 1 (.v 2) (.v 1) (.c 1 (.v 3) (.v 4) (.c 1 (.v 4) (.n 10) .z)))) rfl (jL (qA [_,_,_] 1 (.v 0) (.a (.v 1) (.v 2)) (.c 1 (.a (.v 0) (.n 1)) (.v 2) .z) rfl hb1)) f1 hb2 hl))) ?_
   rw [qQ, qO, decide_eq_false (by exact (fun q0 => (jY [_,_] (.i 1 (.c (.v 0)) (.c (.v 1)) (.c 1 (.a (.v 1) (.n 1)) (.v 0) .z)) rfl q0 hlt)))]
   refine ⟨fun q => (by cases q), fun _ => ⟨_, VLe.refl _, fun d hd => k1 d (List.mem_cons_of_mem _ hd), fun y n1 n2 n3 => ?_, ?_, rfl⟩⟩
   ·rw [kC n3, kC n2]; exact k2 y n1 n2 n3
   ·exact Eq.trans (by kernel_rfl) k3
  ·rintro η2 σ2 ⟨_, k2, _, rfl⟩
   exact ⟨η2, VLe.refl _, fun d hd => g1 d (List.mem_cons_of_mem _ hd), k2, rfl⟩
 ·rintro η1 σ1 ⟨_, g2, rfl⟩
  exact hN η1 g2
theorem s18 :
  SS c env (exec (lst P 18) env) s18W := by
 have hh := rm.hd
 have heq := rm.eq
 refine pF (ss_if (tok_or (jW (qB (by subst henv; kernel_rfl)) (pT hh (l_range Y (by subst henv; kernel_rfl) rfl rfl (qG (jJ (l_len Y (by subst henv; kernel_rfl) rfl rfl (qG (qB (by subst henv; kernel_rfl)) jI)) jM jU) jI)) (by exact trivial) (pL (by subst henv; kernel_rfl)) (fun _ q => q) (fun L cells => (pP (pM (by subst henv; kernel_rfl)) (by subst henv; kernel_rfl))) (pY (by subst henv; kernel_rfl)) (fun L cells => pW) (fun L cells => (l_len Y (by subst henv; kernel_rfl) rfl rfl (qG (pT hh (qB (by subst henv; kernel_rfl)) (by exact trivial) (pL (by subst henv; kernel_rfl)) (fun _ q => q) (fun L cells => (pP (pM (by subst henv; kernel_rfl)) (by subst henv; kernel_rfl))) (pY (by subst henv; kernel_rfl)) (fun L cells => (tsok_one (jW (qB (by subst henv; kernel_rfl)) (qB (by subst henv; kernel_rfl)) op_le jT (by subst henv; kernel_rfl)))) (fun L cells => (qB (by subst henv; kernel_rfl)))) jI)))) (op_ne heq) jT (by subst henv; kernel_rfl)) (tok_or (jW (l_items Y rm (qB (by subst henv; kernel_rfl)) args_none rfl) (qB (by subst henv; kernel_rfl)) (op_ne heq) jT (by subst henv; kernel_rfl)) tok_or_nil)) (jX (pE (pC pJ))
 pG) pG) ?_
 intro η σ N Rt h
 dsimp only [wCons, wAsg, wIf, wRet, wBin, wCmp, wPl, wUn, wAnd, wOr, wIfE, wEs, wSl]
 refine qC fun P kG => ?_
 obtain ⟨t, u, G, h1, h2, h3, h4, h5, hN⟩ := h
 refine kG ?_
 clear kG P
 have hs := pH
 have hl := G.len
 have hc := kF G
 simp only [h1, h3, qJ, qF, qD, qK, qL, qT, qH, qI, qM, qN, qY, qZ, qE, String.reduceEq, String.reduceBEq, cond_true, cond_false, uH, if_true, if_false, reduceIte, ite_true, ite_false, zA, zB, zC, zD, zE, zF, qP, zG, qQ, zH, zI, zJ, zK, zL, qR, qU, zM, zN, qO, zO, zP, zQ, zR, zS, zT, qV, zU, zV, zW, zX, zY, qW, zZ, jA, jB, jC, jD, jE, jF, qX, jG, jH, qS, uA, uB, uC, uD, uE, uF, uG, jN]
 have hcl := cnt_le_len (endsOf (csOf t))
 have hel := endsOf_len (csOf t)
 refine ⟨by lia, _, (List.range (t.length + 1)).map (fun k => [PyData.int (cntLe (endsOf (csOf t)) k : Nat)]), by rw [show (t.length : Int) + 1 = ((t.length + 1 : Nat) : Int) by lia]; exact iter_n _ (by lia), CompAll.map (f := fun (k : Nat) => PyData.int (k : Int)) fun k hk => ?_, ?_, ?_⟩
 ·have hck := hcl k
  have hfl : ((endsOf (csOf t)).filter fun e => decide (e ≤ k)).length = cntLe (endsOf (csOf t)) k := rfl
  unfold CB
  simp only [h2, qJ, qF, qD, qK, qL, qT, qH, qI, qM, qN, qY, qZ, qE, String.reduceEq, String.reduceBEq, cond_true, cond_false, uH, if_true, if_false, reduceIte, ite_true, ite_false, zA, zB, zC, zD, zE, zF, qP, zG, qQ, zH, zI, zJ, zK, zL, qR, qU, zM, zN, qO, zO, zP, zQ, zR, zS, zT, qV, zU, zV, zW, zX, zY, qW, zZ, jA, jB, jC, jD, jE, jF, qX, jG, jH, qS, uA, uB, uC, uD, uE, uF, uG]
  refine ⟨fun _ => ⟨_, (endsOf (csOf t)).map (fun e => if decide (e ≤ k) = true then [PyData.int (e : Nat)] else []), rfl, CompAll.map (f := fun (x : Nat) => PyData.int (x : Int)) fun e he => ?_, ?_, ?_, ?_⟩, fun q => by cases q⟩
  ·by_cases q : e ≤ k
   ·have q2 : (e : Int) ≤ (k : Int) := by exact Int.ofNat_le.mpr ‹_›
    simp only [qQ, qO]
    simp [q, q2]
   ·have q2 : ¬ (e : Int) ≤ (k : Int) := by exact (fun q0 => (jY [_,_] (.i 1 (.c (.v 0)) (.c (.v 1)) (.c 1 (.a (.v 1) (.n 1)) (.v 0) .z)) rfl q0 (Nat.not_le.mp q)))
    simp only [qQ, qO]
    simp [q, q2]
  ·rw [flatIf, List.length_map, hfl]; exact (qA [_,_,_,_] 1 (.v 0) (.v 1) (.c 1 (.v 0) (.v 2) (.c 1 (.v 2) (.v 3) (.c 1 (.v 3) (.n 10) (.c 1 (.n 1048576) (.v 1) .z)))) rfl hck (uJ hel) hc hs)
  ·rw [flatIf, List.length_map, hfl]; exact (qA [_,_,_] 1 (.a (.v 0) (.n 1)) (.n 4611686018427387904) (.c 1 (.v 0) (.v 1) (.c 1 (.v 1) (.v 2) (.c 1 (.v 2) (.n 10) .z))) rfl hck (uJ hel) hc)
  ·rw [flatIf, List.length_map, hfl]; exact ⟨_, [], rfl, rfl, by simp⟩
 ·rw [pA, List.length_map, List.length_range]; exact (qA [_,_] 1 (.a (.v 0) (.n 1)) (.v 1) (.c 1 (.v 0) (.n 10) (.c 1 (.n 1048576) (.v 1) .z)) rfl hl hs)
 ·rw [pA]
  refine kU (k := 1) (sh_nlist _) (by decide) (by unfold nlist behL; rw [List.map_map]; rfl) (bit_n ?_)
  simp only [h4, h5, qJ, qF, qD, qK, qL, qT, qH, qI, qM, qN, qY, qZ, qE, String.reduceEq, String.reduceBEq, cond_true, cond_false, uH, if_true, if_false, reduceIte, ite_true, ite_false, zA, zB, zC, zD, zE, zF, qP, zG, qQ, zH, zI, zJ, zK, zL, qR, qU, zM, zN, qO, zO, zP, zQ, zR, zS, zT, qV, zU, zV, zW, zX, zY, qW, zZ, jA, jB, jC, jD, jE, jF, qX, jG, jH, qS, uA, uB, uC, uD, uE, uF, uG]
  refine rows_use (by have := plP_len t u (csOf t); exact (qA [_,_] 1 (.a (.v 0) (.n 1)) (.n 1000) (.c 1 (.v 0) (.v 1) (.c 1 (.v 1) (.n 10) .z)) rfl this hc)) ?_
  refine kU (k := 2) (sh_list fun d hd => ?_) (by decide) rfl (bit_n ⟨fun q => (by cases q), fun _ => hN⟩)
  unfold plP at hd
  rw [List.map_map, List.mem_map] at hd
  refine qC fun P kG => ?_
  obtain ⟨c, _, rfl⟩ := hd
  refine kG ?_
  clear kG P
  refine sh_tuple fun d hd => ?_
  rcases List.mem_cons.mp hd with rfl | hd
  ·exact sh_str (pO (pX G c))
  ·rw [List.mem_singleton] at hd
   subst hd
   exact sh_str fun x hx => by have := octL_lt _ x hx; exact Nat.le_trans ‹_› (Nat.le_add_left _ _)
theorem s19 :
  SS c env (exec (lst P 19) env) s19W := by
 have hh := rm.hd
 have heq := rm.eq
 refine pF (ss_for hh hcl (by exact trivial) (qB (by subst henv; kernel_rfl)) (kY hh [("start", _), ("piece", _), ("code", _)] rfl rfl rfl (nmsOk _ (by subst henv; kernel_rfl))) (jX (ss_if (jW (l_get_all Y rm (qB (by subst henv; kernel_rfl)) (args_pos (qG (l_swapcase (qB (by subst henv; kernel_rfl)) rfl jI rfl rfl) jI)) rfl) (pT hh (l_range Y (by subst henv; kernel_rfl) rfl rfl (qG (l_len Y (by subst henv; kernel_rfl) rfl rfl (qG (qB (by subst henv; kernel_rfl)) jI)) jI)) (by exact trivial) (pL (by subst henv; kernel_rfl)) (fun _ q => q) (fun L cells => (pP (pM (by subst henv; kernel_rfl)) (by subst henv; kernel_rfl))) (pY (by subst henv; kernel_rfl)) (fun L cells => (tsok_one (jW (pI (pI (qB (by subst henv; kernel_rfl)) (qB (by subst henv; kernel_rfl))) jM) (qB (by subst henv; kernel_rfl)) (op_eq heq) jT (by subst henv; kernel_rfl)))) (fun L cells => (pI (qB (by subst henv; kernel_rfl)) (qB (by subst henv; kernel_rfl))))) (op_ne heq) jT (by subst henv; kernel_rfl)) (jX (pE (pC pJ))
 pG) pG)
 pG)) ?_
 intro η σ N Rt h
 dsimp only [wCons, wAsg, wIf, wRet, wBin, wCmp, wPl, wUn, wAnd, wOr, wIfE, wEs, wSl]
 refine qC fun P kG => ?_
 obtain ⟨t, u, G, h1, h2, h3, hN⟩ := h
 refine kG ?_
 clear kG P
 have hs := pH
 have hl := G.len
 have hc := kF G
 simp only [h1, cutsV, qJ, qF, qD, qK, qL, qT, qH, qI, qM, qN, qY, qZ, qE, String.reduceEq, String.reduceBEq, cond_true, cond_false, uH, if_true, if_false, reduceIte, ite_true, ite_false, zA, zB, zC, zD, zE, zF, qP, zG, qQ, zH, zI, zJ, zK, zL, qR, qU, zM, zN, qO, zO, zP, zQ, zR, zS, zT, qV, zU, zV, zW, zX, zY, qW, zZ, jA, jB, jC, jD, jE, jF, qX, jG, jH, qS, uA, uB, uC, uD, uE, uF, uG]
 refine ⟨_, rfl, fun ds η' σ' => (∀ d ∈ ds, ∃ c ∈ csOf t, d = cutD t c) ∧ (∀ y : String, y ≠ "start" → y ≠ "piece" → y ≠ "code" → vget y η' = vget y η) ∧ σ' = σ, ?_, ?_, ?_⟩
 ·refine ⟨fun d hd => ?_, fun y _ _ _ => rfl, rfl⟩
  rw [List.mem_map] at hd
  refine qC fun P kG => ?_
  obtain ⟨c, hc, rfl⟩ := hd
  refine kG ?_
  clear kG P
  exact ⟨c, hc, rfl⟩
 ·rintro d ds η1 σ1 ⟨g1, g2, rfl⟩
  refine qC fun P kG => ?_
  obtain ⟨c, hm, rfl⟩ := g1 d List.mem_cons_self
  obtain ⟨c1, c2, c3, c4, c5, c6⟩ := cs_mem G hm
  refine kG ?_
  clear kG P
  have hp : (fac t c.1 c.2.1).length = c.2.1 := kR c3
  have hpa : abc3 (fac t c.1 c.2.1) := pX G c
  have g3 := (g2 "cuts" (pB (by decide)) (pB (by decide)) (pB (by decide))).trans h1
  have g4 := (g2 "signs" (pB (by decide)) (pB (by decide)) (pB (by decide))).trans h2
  have g5 := (g2 "table" (pB (by decide)) (pB (by decide)) (pB (by decide))).trans h3
  refine ⟨[.int c.1, .str (S (fac t c.1 c.2.1)), .int c.2.2], rfl, rfl, ?_⟩
  simp only [g3, g4, g5, cutsV, signsV, qJ, qF, qD, qK, qL, qT, qH, qI, qM, qN, qY, qZ, qE, String.reduceEq, String.reduceBEq, cond_true, cond_false, uH, if_true, if_false, reduceIte, ite_true, ite_false, zA, zB, zC, zD, zE, zF, qP, zG, qQ, zH, zI, zJ, zK, zL, qR, qU, zM, zN, qO, zO, zP, zQ, zR, zS, zT, qV, zU, zV, zW, zX, zY, qW, zZ, jA, jB, jC, jD, jE, jF, qX, jG, jH, qS, uA, uB, uC, uD, uE, uF, uG, List.map_cons, List.map_nil, List.length_map]
  rw [S_swap hpa]
  refine ⟨instV_fh, _, rfl, by rw [jN, List.length_map]; exact (qA [_,_,_,_,_] 1 (.v 0) (.v 1) (.c 1 (.v 0) (.v 2) (.c 1 (.a (.v 3) (.v 2)) (.v 4) (.c 1 (.v 4) (.n 10) (.c 1 (.n 1048576) (.v 1) .z)))) rfl (uJ hp) c3 hl hs), all_use (n := fac t c.1 c.2.1) (by rw [tabP_len]; exact (qA [_] 1 (.a (.v 0) (.n 1)) (.n 1000) (.c 1 (.v 0) (.n 10) .z) rfl hc)) (by exact (qA [_,_,_,_] 1 (.a (.v 0) (.n 1)) (.n 1000) (.c 1 (.v 0) (.v 1) (.c 1 (.a (.v 2) (.v 1)) (.v 3) (.c 1 (.v 3) (.n 10) .z))) rfl (uJ hp) c3 hl)) (S_lowerB hpa) (abc_bad hpa) (pO hpa) (fun p hp => ?_) ?_⟩
  ·rw [tabK, List.mem_map] at hp
   refine qC fun P kG => ?_
   obtain ⟨k, _, rfl⟩ := hp
   refine kG ?_
   clear kG P
   show SeqAt.shaped (.str (Txt.lower (S (nm t k _)))) = true ∧ (Txt.lower (S (nm t k _))).length < 100000
   rw [nm_low G, jN]
   refine ⟨shaped_of (k := 0) (sh_str (pO (pX G _))) (by decide), ?_⟩
   have := fac_len_le t ((csOf t).getD k default).1 ((csOf t).getD k default).2.1
   unfold pc
   unfold fac
   rw [List.length_take, List.length_drop]
   (clear c1; exact (qA [_,_,_] 1 (.a (.v 0) (.n 1)) (.n 100000) (.c 1 (.v 1) (.v 2) (.c 1 (.v 0) (.v 1) (.c 1 (.v 2) (.n 10) .z))) rfl (Nat.sub_le _ _) (Nat.min_le_right _ _) hl))
  ·have hol : ∀ n, ∀ x ∈ oct128 n, x < 1000 := fun n x hx => by
    unfold oct128 at hx
    rw [List.mem_map] at hx
    refine qC fun P kG => ?_
    obtain ⟨y, hy, rfl⟩ := hx
    refine kG ?_
    clear kG P
    have := octL_lt _ y hy
    exact (qA [_] 1 (.a (.a (.v 0) (.n 128)) (.n 1)) (.n 1000) (.c 1 (.a (.v 0) (.n 1)) (.n 128) .z) rfl this)
   refine ⟨by exact Nat.lt_of_le_of_lt ‹_› (by decide), _, (List.range (csOf t).length).map (fun k => if decide (S (pc t ((csOf t).getD k default)) = S (fac t c.1 c.2.1)) = true then [PyData.str (S (oct128 (((csOf t).getD k default).2.2 * u)))] else []), iter_n _ (by exact Nat.lt_of_le_of_lt ‹_› (by decide)), CompAll.map (f := fun (k : Nat) => PyData.int (k : Int)) fun k hk => ?_, ?_, ?_⟩
   ·have hk : k < (csOf t).length := by simpa using hk
    have hck := csD hk
    generalize (csOf t).getD k default = ck at *
    unfold CB
    simp only [g3, g4, cutsV, signsV, qJ, qF, qD, qK, qL, qT, qH, qI, qM, qN, qY, qZ, qE, String.reduceEq, String.reduceBEq, cond_true, cond_false, uH, if_true, if_false, reduceIte, ite_true, ite_false, zA, zB, zC, zD, zE, zF, qP, zG, qQ, zH, zI, zJ, zK, zL, qR, qU, zM, zN, qO, zO, zP, zQ, zR, zS, zT, qV, zU, zV, zW, zX, zY, qW, zZ, jA, jB, jC, jD, jE, jF, qX, jG, jH, qS, uA, uB, uC, uD, uE, uF, uG]
    refine kP (d := cutD t ck) (by rw [List.getElem?_map, hck]; rfl) (by exact (qA [_,_] 1 (.a (.v 0) (.n 1)) (.n 1000) (.c 1 (.a (.v 0) (.n 1)) (.v 1) (.c 1 (.v 1) (.n 10) .z)) rfl hk hc)) (item_useT (j := 1) (d := .str (S (pc t ck))) rfl (by decide) ?_)
    rw [qS]
    simp only [qO]
    refine ⟨⟨shaped_of (k := 0) (sh_str (pO (pX G _))) (by decide), shaped_of (k := 0) (sh_str (pO hpa)) (by decide)⟩, fun q => ?_, fun q => ⟨?_, [], by simp⟩⟩
    ·have q : decide (S (pc t ck) = S (fac t c.1 c.2.1)) = true := by simpa using q
     rw [if_pos q]
     exact kP (d := .str (S (oct128 (ck.2.2 * u)))) (by rw [List.getElem?_map, hck]; rfl) (by lia) ⟨_, [], rfl, rfl, by simp⟩
    ·have q : decide (S (pc t ck) = S (fac t c.1 c.2.1)) = false := by simpa using q
     rw [if_neg (by rw [q]; decide)]
   ·rw [flatIf, List.length_map]
    have := List.length_filter_le (fun k => decide (S (pc t ((csOf t).getD k default)) = S (fac t c.1 c.2.1))) (List.range (csOf t).length)
    rw [List.length_range] at this
    exact (qA [_,_,_] 1 (.v 0) (.v 1) (.c 1 (.v 0) (.v 2) (.c 1 (.v 2) (.n 10) (.c 1 (.n 1048576) (.v 1) .z))) rfl this hc hs)
   ·rw [flatIf]
    refine kU (k := 1) (sh_list fun d hd => ?_) (by decide) ?_ (bit_n ⟨_, VLe.refl _, fun d hd => g1 d (List.mem_cons_of_mem _ hd), fun y n1 n2 n3 => ?_, rfl⟩)
    ·rw [List.mem_map] at hd
     refine qC fun P kG => ?_
     obtain ⟨p, hp, rfl⟩ := hd
     refine kG ?_
     clear kG P
     have hp := (List.mem_filter.mp hp).1
     rw [tabK, List.mem_map] at hp
     refine qC fun P kG => ?_
     obtain ⟨k, _, rfl⟩ := hp
     refine kG ?_
     clear kG P
     exact sh_str (hol _)
    ·rw [tabK, List.filter_map, List.map_map]
     congr 1
     congr 1
     refine List.filter_congr fun k _ => ?_
     show decide (Txt.lower (S (nm t k _)) = _) = _
     rw [nm_low G]
    ·rw [kC n3, kC n2, kC n1]; exact g2 y n1 n2 n3
 ·rintro η1 σ1 ⟨_, g2, rfl⟩
  exact hN η1 g2
theorem s20 :
  SS c env (exec (lst P 20) env) s20W := by
 have hh := rm.hd
 have heq := rm.eq
 refine pF (pE (pC (kV (l_keys Y rm (qB (by subst henv; kernel_rfl)) args_none rfl) (pT hh (l_range Y (by subst henv; kernel_rfl) rfl rfl (qG (l_len Y (by subst henv; kernel_rfl) rfl rfl (qG (qB (by subst henv; kernel_rfl)) jI)) jI)) (by exact trivial) (pL (by subst henv; kernel_rfl)) (fun _ q => q) (fun L cells => (pP (pM (by subst henv; kernel_rfl)) (by subst henv; kernel_rfl))) (pY (by subst henv; kernel_rfl)) (fun L cells => pW) (fun L cells => (eok_ifexp (kT (jJ (qB (by subst henv; kernel_rfl)) jM op_mod) jT) (l_upper (pI (pI (qB (by subst henv; kernel_rfl)) (qB (by subst henv; kernel_rfl))) jM) rfl jI rfl rfl) (pI (pI (qB (by subst henv; kernel_rfl)) (qB (by subst henv; kernel_rfl))) jM)))) (op_eq heq) (by subst henv; kernel_rfl)))) ?_
 intro η σ N Rt h
 dsimp only [wCons, wAsg, wIf, wRet, wBin, wCmp, wPl, wUn, wAnd, wOr, wIfE, wEs, wSl]
 refine qC fun P kG => ?_
 obtain ⟨t, u, G, h1, h2, hR⟩ := h
 refine kG ?_
 clear kG P
 have hs := pH
 have hl := G.len
 have hc := kF G
 simp only [h1, h2, cutsV, qJ, qF, qD, qK, qL, qT, qH, qI, qM, qN, qY, qZ, qE, String.reduceEq, String.reduceBEq, cond_true, cond_false, uH, if_true, if_false, reduceIte, ite_true, ite_false, zA, zB, zC, zD, zE, zF, qP, zG, qQ, zH, zI, zJ, zK, zL, qR, qU, zM, zN, qO, zO, zP, zQ, zR, zS, zT, qV, zU, zV, zW, zX, zY, qW, zZ, jA, jB, jC, jD, jE, jF, qX, jG, jH, qS, uA, uB, uC, uD, uE, uF, uG, List.length_map]
 refine rows_use (by rw [tabP_len]; lia) ?_
 refine ⟨by exact (qA [_] 1 (.a (.v 0) (.n 1)) (.n 4611686018427387904) (.c 1 (.v 0) (.n 10) .z) rfl hc), _, (List.range (csOf t).length).map (fun k => [PyData.str (S (nm t k ((csOf t).getD k default)))]), iter_n _ (by exact (qA [_] 1 (.a (.v 0) (.n 1)) (.n 100000) (.c 1 (.v 0) (.n 10) .z) rfl hc)), CompAll.map (f := fun (k : Nat) => PyData.int (k : Int)) fun k hk => ?_, ?_, ?_⟩
 ·have hk : k < (csOf t).length := by simpa using hk
  have hck := csD hk
  have T : Turn t u k ((csOf t).getD k default) := ⟨G, hck⟩
  generalize (csOf t).getD k default = ck at *
  refine qC fun P kG => ?_
  obtain ⟨p1, p2, p3, p4⟩ := T.pcLen
  refine kG ?_
  clear kG P
  unfold CB
  simp only [h1, cutsV, qJ, qF, qD, qK, qL, qT, qH, qI, qM, qN, qY, qZ, qE, String.reduceEq, String.reduceBEq, cond_true, cond_false, uH, if_true, if_false, reduceIte, ite_true, ite_false, zA, zB, zC, zD, zE, zF, qP, zG, qQ, zH, zI, zJ, zK, zL, qR, qU, zM, zN, qO, zO, zP, zQ, zR, zS, zT, qV, zU, zV, zW, zX, zY, qW, zZ, jA, jB, jC, jD, jE, jF, qX, jG, jH, qS, uA, uB, uC, uD, uE, uF, uG]
  refine ⟨fun _ => ⟨by decide, fun hb => ?_, fun hb => ?_⟩, fun q => by cases q⟩
  ·have e : nm t k ck = (pc t ck).map upc := by
    unfold nm; rw [if_pos]
    rw [show (k : Int).fmod 2 = ((k % 2 : Nat) : Int) from fmodNat k 2] at hb
    have : ¬ ((k % 2 : Nat) : Int) = 0 := by simpa using hb
    (clear hb; lia)
   refine kP (d := cutD t ck) (by rw [List.getElem?_map, hck]; rfl) (by (clear hb; lia)) (item_useT (j := 1) (d := .str (S (pc t ck))) rfl (by decide) ⟨_, rfl, ?_⟩)
   rw [qW, S_upper (pX G ck), ← e]
   refine ⟨by rw [jN, e, List.length_map]; exact (qA [_,_,_] 1 (.v 0) (.v 1) (.c 1 (.v 2) (.n 10) (.c 1 (.v 0) (.v 2) (.c 1 (.n 1048576) (.v 1) .z))) rfl p3 (uJ p1) hs), _, [], rfl, rfl, by simp⟩
  ·have e : nm t k ck = pc t ck := by
    unfold nm; rw [if_neg]
    rw [show (k : Int).fmod 2 = ((k % 2 : Nat) : Int) from fmodNat k 2] at hb
    have : ((k % 2 : Nat) : Int) = 0 := by simpa using hb
    (clear hb; exact (fun q0 => (jY [_] (.c 1 (.n 1) (.v 0) (.i 1 (.c (.v 0)) (.n 0) .z)) rfl (uJ (Eq.symm q0)) (Int.le_of_eq this))))
   refine kP (d := cutD t ck) (by rw [List.getElem?_map, hck]; rfl) (by (clear hb; lia)) (item_useT (j := 1) (d := .str (S (pc t ck))) rfl (by decide) ?_)
   rw [e]
   exact ⟨_, [], rfl, rfl, by simp⟩
 ·rw [pA, List.length_map, List.length_range]; exact Nat.le_trans ‹_› (by decide)
 ·rw [pA]
  refine kU (k := 1) (sh_list fun d hd => ?_) (by decide) ?_ hR
  ·rw [List.mem_map] at hd
   refine qC fun P kG => ?_
   obtain ⟨p, hp, rfl⟩ := hd
   refine kG ?_
   clear kG P
   rw [tabK, List.mem_map] at hp
   refine qC fun P kG => ?_
   obtain ⟨k, _, rfl⟩ := hp
   refine kG ?_
   clear kG P
   refine sh_str (l := nm t k _) ?_
   unfold nm
   split
   ·intro x hx
    rw [List.mem_map] at hx
    refine qC fun P kG => ?_
    obtain ⟨y, hy, rfl⟩ := hx
    refine kG ?_
    clear kG P
    have := pO (pX G _) y hy
    unfold upc; exact Nat.lt_of_le_of_lt (Nat.sub_le _ _) ‹_›
   ·exact pO (pX G _)
  ·rw [tabK, List.map_map]; rfl
end
noncomputable def lawW : SW := fun η σ _ Rt => ∃ ns : List Int, vget "script" η = some (.v (.list (intL ns))) ∧ ns.length ≤ 100 ∧ σ = [.tab 239 []] ∧ ∀ qs junk, Rt (.v (.bool true)) (.tab 239 qs :: junk)
theorem law_body (P : Params) : kbody P 261 = [lst P 0, lst P 1, lst P 2, lst P 3, lst P 4, lst P 5, lst P 6, lst P 7, lst P 8, lst P 9, lst P 10, lst P 11, lst P 12, lst P 13, lst P 14, lst P 15, lst P 16, lst P 17, lst P 18, lst P 19, lst P 20] := by kernel_rfl
section
variable {c : Cx} {P : Params} {mg : Str → Option Value} (Y : Yes c P mg) (C0 : CodeHd c.base 243 239) (hbt : c.base.BuiltinsAt mg 239) (hgP : mainGlobals ≠ 239) (rm : Room 4 c.A) (L : Addr) (cells : List (Str × Addr)) {fa : Addr} {cd : Value} {env : Env} (henv : env = (lawEnv P fa cd L cells)) (hcl : CellsOk env) (hfr : c.A.frames = some [env])
include Y C0 hbt hgP rm henv hcl hfr
theorem law_walk :
  SS c env (execs (kbody P 261) env) lawW := by
 refine pF (ss_tail (jX (s0 Y C0 hbt hgP rm L cells henv hcl hfr) (jX (s1 Y C0 hbt hgP rm L cells henv hcl hfr) (jX (s2 Y C0 hbt hgP rm L cells henv hcl hfr) (jX (s3 Y C0 hbt hgP rm L cells henv hcl hfr) (jX (s4 Y C0 hbt hgP rm L cells henv hcl hfr) (jX (s5 Y C0 hbt hgP rm L cells henv hcl hfr) (jX (s6 Y C0 hbt hgP rm L cells henv hcl hfr) (jX (s7 Y C0 hbt hgP rm L cells henv hcl hfr) (jX (s8 Y C0 hbt hgP rm L cells henv hcl hfr) (ss_frzH "table" (ss_frzH "plain" (ss_frz "kept" (jX (s9 Y C0 hbt hgP rm L cells henv hcl hfr) (jX (s10 Y C0 hbt hgP rm L cells henv hcl hfr) (jX (s11 Y C0 hbt hgP rm L cells henv hcl hfr) (jX (s12 Y C0 hbt hgP rm L cells henv hcl hfr) (jX (s13 Y C0 hbt hgP rm L cells henv hcl hfr) (jX (s14 Y C0 hbt hgP rm L cells henv hcl hfr) (jX (s15 Y C0 hbt hgP rm L cells henv hcl hfr) (jX (s16 Y C0 hbt hgP rm L cells henv hcl hfr) (jX (s17 Y C0 hbt hgP rm L cells henv hcl hfr) (jX (s18 Y C0 hbt hgP rm L cells henv hcl hfr) (jX (s19 Y C0 hbt hgP rm L cells henv hcl hfr) (jX (s20 Y C0 hbt hgP rm L cells henv hcl hfr) pG)))))))))))))))))))))))) (law_body P)) ?_
 intro η σ N Rt h
 obtain ⟨ns, h1, h2, rfl, hR⟩ := h
 refine ⟨ns, h1, h2, fun ms hm => ?_⟩
 refine ⟨ms, ?_, hm, fun l11 h11 => ?_⟩
 ·kernel_rfl
 refine ⟨l11, ?_, h11, fun u u1 u2 => ?_⟩
 ·kernel_rfl
 refine ⟨l11, ?_, h11, fun t t1 t2 => ?_⟩
 ·kernel_rfl
 have G : Good t u := ⟨t1, t2, u1, u2⟩
 refine ⟨t, u, G, ?_, rfl, fun qs => ?_⟩
 ·kernel_rfl
 refine ⟨t, u, G, ?_, ?_, ?_⟩
 ·kernel_rfl
 ·kernel_rfl
 refine ⟨t, u, G, ?_, ?_⟩
 ·kernel_rfl
 refine ⟨qs, rfl, fun η7 e7 => ?_⟩
 refine ⟨t, u, qs, G, ⟨?_, ?_, ?_, ?_, ?_, ?_, ?_, ?_⟩, ?_, fun η8 junk fx => ?_⟩
 ·simp only [e7, qJ, qF, qD, qK, qL, qH, qI, qM, qN, qE, String.reduceEq, String.reduceBEq, cond_true, cond_false, reduceIte, if_true, if_false, uA, uB, uC, uD, List.map_cons, List.map_nil]
 ·simp only [e7, qJ, qF, qD, qK, qL, qH, qI, qM, qN, qE, String.reduceEq, String.reduceBEq, cond_true, cond_false, reduceIte, if_true, if_false, uA, uB, uC, uD, List.map_cons, List.map_nil]
 ·simp only [e7, qJ, qF, qD, qK, qL, qH, qI, qM, qN, qE, String.reduceEq, String.reduceBEq, cond_true, cond_false, reduceIte, if_true, if_false, uA, uB, uC, uD, List.map_cons, List.map_nil]
 ·simp only [e7, qJ, qF, qD, qK, qL, qH, qI, qM, qN, qE, String.reduceEq, String.reduceBEq, cond_true, cond_false, reduceIte, if_true, if_false, uA, uB, uC, uD, List.map_cons, List.map_nil]
 ·simp only [e7, qJ, qF, qD, qK, qL, qH, qI, qM, qN, qE, String.reduceEq, String.reduceBEq, cond_true, cond_false, reduceIte, if_true, if_false, uA, uB, uC, uD, List.map_cons, List.map_nil]
 ·simp only [e7, qJ, qF, qD, qK, qL, qH, qI, qM, qN, qE, String.reduceEq, String.reduceBEq, cond_true, cond_false, reduceIte, if_true, if_false, uA, uB, uC, uD, List.map_cons, List.map_nil]
 ·simp only [e7, qJ, qF, qD, qK, qL, qH, qI, qM, qN, qE, String.reduceEq, String.reduceBEq, cond_true, cond_false, reduceIte, if_true, if_false, uA, uB, uC, uD, List.map_cons, List.map_nil]
 ·simp only [e7, qJ, qF, qD, qK, qL, qH, qI, qM, qN, qE, String.reduceEq, String.reduceBEq, cond_true, cond_false, reduceIte, if_true, if_false, uA, uB, uC, uD, List.map_cons, List.map_nil]
 ·unfold tabL plP; rfl
 have k1 : (tabP t u).take (csOf t).length = tabP t u := by rw [← tabP_len t u, List.take_length]
 have k2 : (csOf t).take (csOf t).length = csOf t := List.take_length
 unfold tabL
 rw [k1, k2]
 refine ⟨1, _, fx.table, rfl, 2, _, ?_, rfl, 3, _, ?_, rfl, ?_⟩
 ·exact Eq.trans (by kernel_rfl) fx.plain
 ·exact Eq.trans (by kernel_rfl) fx.kept
 refine ⟨t, u, G, ?_, ?_⟩
 ·kernel_rfl
 refine ⟨t, u, G, ?_, ?_⟩
 ·kernel_rfl
 refine ⟨t, u, G, ?_, ?_, ?_, ?_, ?_⟩
 ·exact Eq.trans (by kernel_rfl) fx.text
 ·exact Eq.trans (by kernel_rfl) fx.unit
 ·kernel_rfl
 ·kernel_rfl
 refine ⟨t, u, G, ?_, ?_, ?_, ?_, ?_⟩
 ·exact Eq.trans (by kernel_rfl) fx.text
 ·exact Eq.trans (by kernel_rfl) fx.unit
 ·exact Eq.trans (by kernel_rfl) fx.cuts
 ·kernel_rfl
 refine ⟨t, u, G, ?_, ?_, fun junk13 => ?_⟩
 ·exact Eq.trans (by kernel_rfl) fx.text
 ·exact Eq.trans (by kernel_rfl) fx.cuts
 refine ⟨t, u, G, ?_, ?_, ?_⟩
 ·exact Eq.trans (by kernel_rfl) fx.text
 ·exact Eq.trans (by kernel_rfl) fx.cuts
 refine ⟨t, u, G, ?_, ?_⟩
 ·exact Eq.trans (by kernel_rfl) fx.cuts
 refine ⟨t, u, G, ?_, ?_, ?_⟩
 ·exact Eq.trans (by kernel_rfl) fx.text
 ·kernel_rfl
 refine ⟨t, u, G, ?_, ?_, fun η17 e17 => ?_⟩
 ·exact Eq.trans (by kernel_rfl) fx.text
 ·kernel_rfl
 have m1 := fun (y : String) (n : (["start", "end", "first"].all fun z => decide (y ≠ z)) = true) => e17 y (pB (of_decide_eq_true (List.all_eq_true.mp n "start" (by simp)))) (pB (of_decide_eq_true (List.all_eq_true.mp n "end" (by simp)))) (pB (of_decide_eq_true (List.all_eq_true.mp n "first" (by simp))))
 refine ⟨t, u, G, ?_, ?_, ?_, ?_, ?_, ?_⟩
 ·rw [m1 "text" (by decide)]; simp only [fx.text, qJ, qF, qD, qK, qL, qT, qH, qI, qM, qN, qY, qZ, qE, String.reduceEq, String.reduceBEq, cond_true, cond_false, uH, if_true, if_false, reduceIte, ite_true, ite_false, zA, zB, zC, zD, zE, zF, qP, zG, qQ, zH, zI, zJ, zK, zL, qR, qU, zM, zN, qO, zO, zP, zQ, zR, zS, zT, qV, zU, zV, zW, zX, zY, qW, zZ, jA, jB, jC, jD, jE, jF, qX, jG, jH, qS, uA, uB, uC, uD, uE, uF, uG]
 ·rw [m1 "ends" (by decide)]; simp only [qJ, qF, qD, qK, qL, qT, qH, qI, qM, qN, qY, qZ, qE, String.reduceEq, String.reduceBEq, cond_true, cond_false, uH, if_true, if_false, reduceIte, ite_true, ite_false, zA, zB, zC, zD, zE, zF, qP, zG, qQ, zH, zI, zJ, zK, zL, qR, qU, zM, zN, qO, zO, zP, zQ, zR, zS, zT, qV, zU, zV, zW, zX, zY, qW, zZ, jA, jB, jC, jD, jE, jF, qX, jG, jH, qS, uA, uB, uC, uD, uE, uF, uG]
 ·rw [m1 "behind" (by decide)]; simp only [qJ, qF, qD, qK, qL, qT, qH, qI, qM, qN, qY, qZ, qE, String.reduceEq, String.reduceBEq, cond_true, cond_false, uH, if_true, if_false, reduceIte, ite_true, ite_false, zA, zB, zC, zD, zE, zF, qP, zG, qQ, zH, zI, zJ, zK, zL, qR, qU, zM, zN, qO, zO, zP, zQ, zR, zS, zT, qV, zU, zV, zW, zX, zY, qW, zZ, jA, jB, jC, jD, jE, jF, qX, jG, jH, qS, uA, uB, uC, uD, uE, uF, uG]
 ·rw [m1 "plain" (by decide)]; simp only [qJ, qF, qD, qK, qL, qT, qH, qI, qM, qN, qY, qZ, qE, String.reduceEq, String.reduceBEq, cond_true, cond_false, uH, if_true, if_false, reduceIte, ite_true, ite_false, zA, zB, zC, zD, zE, zF, qP, zG, qQ, zH, zI, zJ, zK, zL, qR, qU, zM, zN, qO, zO, zP, zQ, zR, zS, zT, qV, zU, zV, zW, zX, zY, qW, zZ, jA, jB, jC, jD, jE, jF, qX, jG, jH, qS, uA, uB, uC, uD, uE, uF, uG]
 ·rw [m1 "kept" (by decide)]; simp only [qJ, qF, qD, qK, qL, qT, qH, qI, qM, qN, qY, qZ, qE, String.reduceEq, String.reduceBEq, cond_true, cond_false, uH, if_true, if_false, reduceIte, ite_true, ite_false, zA, zB, zC, zD, zE, zF, qP, zG, qQ, zH, zI, zJ, zK, zL, qR, qU, zM, zN, qO, zO, zP, zQ, zR, zS, zT, qV, zU, zV, zW, zX, zY, qW, zZ, jA, jB, jC, jD, jE, jF, qX, jG, jH, qS, uA, uB, uC, uD, uE, uF, uG]
 refine ⟨t, u, G, ?_, ?_, ?_, fun η19 e19 => ?_⟩
 ·rw [m1 "cuts" (by decide)]; simp only [fx.cuts, qJ, qF, qD, qK, qL, qT, qH, qI, qM, qN, qY, qZ, qE, String.reduceEq, String.reduceBEq, cond_true, cond_false, uH, if_true, if_false, reduceIte, ite_true, ite_false, zA, zB, zC, zD, zE, zF, qP, zG, qQ, zH, zI, zJ, zK, zL, qR, qU, zM, zN, qO, zO, zP, zQ, zR, zS, zT, qV, zU, zV, zW, zX, zY, qW, zZ, jA, jB, jC, jD, jE, jF, qX, jG, jH, qS, uA, uB, uC, uD, uE, uF, uG]
 ·rw [m1 "signs" (by decide)]; simp only [fx.signs, qJ, qF, qD, qK, qL, qT, qH, qI, qM, qN, qY, qZ, qE, String.reduceEq, String.reduceBEq, cond_true, cond_false, uH, if_true, if_false, reduceIte, ite_true, ite_false, zA, zB, zC, zD, zE, zF, qP, zG, qQ, zH, zI, zJ, zK, zL, qR, qU, zM, zN, qO, zO, zP, zQ, zR, zS, zT, qV, zU, zV, zW, zX, zY, qW, zZ, jA, jB, jC, jD, jE, jF, qX, jG, jH, qS, uA, uB, uC, uD, uE, uF, uG]
 ·rw [m1 "table" (by decide)]; simp only [qJ, qF, qD, qK, qL, qT, qH, qI, qM, qN, qY, qZ, qE, String.reduceEq, String.reduceBEq, cond_true, cond_false, uH, if_true, if_false, reduceIte, ite_true, ite_false, zA, zB, zC, zD, zE, zF, qP, zG, qQ, zH, zI, zJ, zK, zL, qR, qU, zM, zN, qO, zO, zP, zQ, zR, zS, zT, qV, zU, zV, zW, zX, zY, qW, zZ, jA, jB, jC, jD, jE, jF, qX, jG, jH, qS, uA, uB, uC, uD, uE, uF, uG]
 refine ⟨t, u, G, ?_, ?_, hR qs _⟩
 ·rw [e19 _ (pB (by decide)) (pB (by decide)) (pB (by decide)), m1 "cuts" (by decide)]; simp only [fx.cuts, qJ, qF, qD, qK, qL, qT, qH, qI, qM, qN, qY, qZ, qE, String.reduceEq, String.reduceBEq, cond_true, cond_false, uH, if_true, if_false, reduceIte, ite_true, ite_false, zA, zB, zC, zD, zE, zF, qP, zG, qQ, zH, zI, zJ, zK, zL, qR, qU, zM, zN, qO, zO, zP, zQ, zR, zS, zT, qV, zU, zV, zW, zX, zY, qW, zZ, jA, jB, jC, jD, jE, jF, qX, jG, jH, qS, uA, uB, uC, uD, uE, uF, uG]
 ·rw [e19 _ (pB (by decide)) (pB (by decide)) (pB (by decide)), m1 "table" (by decide)]; simp only [qJ, qF, qD, qK, qL, qT, qH, qI, qM, qN, qY, qZ, qE, String.reduceEq, String.reduceBEq, cond_true, cond_false, uH, if_true, if_false, reduceIte, ite_true, ite_false, zA, zB, zC, zD, zE, zF, qP, zG, qQ, zH, zI, zJ, zK, zL, qR, qU, zM, zN, qO, zO, zP, zQ, zR, zS, zT, qV, zU, zV, zW, zX, zY, qW, zZ, jA, jB, jC, jD, jE, jF, qX, jG, jH, qS, uA, uB, uC, uD, uE, uF, uG]
end
theorem vrs_ints {F : Fz} : ∀ {vs : List Value} {ns : List Int}, IntsAre vs ns → VRs F vs (intL ns)
 | _, _, .nil => .nil
 | _, _, .cons _ _ h => .cons (.int _ _) (vrs_ints h)
theorem mem_lookup {α : Type} : ∀ {l : List (Str × α)} {x : Str} {a : α}, l.lookup x = some a → (x, a) ∈ l
 | [], _, _, h => by cases h
 | (y, b) :: r, x, a, h => by
  rw [List.lookup_cons] at h
  cases hb : x == y with
  | true => rw [hb] at h; cases h; rw [eq_of_beq hb]; exact .head _
  | false => rw [hb] at h; exact .tail _ (mem_lookup h)
theorem nd_snd : ∀ {l : List (Str × Addr)}, (l.map Prod.snd).Nodup → ∀ {x y : Str} {a : Addr}, (x, a) ∈ l → (y, a) ∈ l → x = y
 | p :: r, nd, x, y, a, hx, hy => by
  rw [List.map_cons, List.nodup_cons] at nd
  rcases List.mem_cons.mp hx with h1 | h1 <;> rcases List.mem_cons.mp hy with h2 | h2
  ·rw [← h1] at h2; cases h2; rfl
  ·exact absurd (List.mem_map.mpr ⟨_, h2, by rw [← h1]⟩) nd.1
  ·exact absurd (List.mem_map.mpr ⟨_, h1, by rw [← h2]⟩) nd.1
  ·exact nd_snd nd.2 h1 h2
theorem room_law (env : Env) : Room 4 (callerA.deeper env) := ⟨rfl, by show 1 + claimMargin + 1 + 4 < recursionLimit; decide +kernel, by show 4 + 3 + 60 * 4 + 100 < cLine; decide +kernel⟩
theorem bat_of {tp : Program} {loose : List Str} {mean : ExcName → Option Value} {mg mb : Str → Option Value} {base : Heap} (T : Top tp loose mean mg mb base) {Q : Addr} (hQ : base.get? Q = none) : base.BuiltinsAt mg Q := by
 obtain ⟨bm, ob, h1, h2, h3, h4, h5, h6⟩ := T.bmain
 refine ⟨bm, ob, h1, h2, fun q => ?_, fun q => ?_, h3, h4, h5, h6⟩
 ·obtain ⟨o, es, ep, e1, e2, _⟩ := T.g
  rw [← q, h3] at e1
  cases e1
  rw [h6] at e2; cases e2
 ·rw [q, hQ] at h3; cases h3
theorem finish {prog : Program} {w : World} {P : Params} {tp : Program} {loose : List Str} {mean : ExcName → Option Value} {mg mb : Str → Option Value} {fa : Addr} {cd : Value} {base : Heap} {L : Addr} {m : Str → Option Value} {ns : List Int} {a : Addr} {vs : List Value} {s : Shared}
  (X' : (hd.heap_1 P).In base) (T' : Top tp loose mean mg mb base) (F' : Fr base L s.heap m) (C0 : CodeHd base 243 239) (hl : base.IsList a vs.toArray) (hI : IntsAre vs ns) (h63 : ns.length ≤ 100) (hm : m "script" = some (.ref a))
  (hTab : s.heap.get? 239 = some (tabObj #[])) (hTn : base.get? 239 = none) (hLn : base.get? L = none) (cells : List (Str × Addr))
  (hc1 : (cells.all fun p => (kfd P 261).scope.names.lookup p.1 == some .cell) = true)
  (hc2 : ((kfd P 261).scope.names.all fun p => (p.2 != .cell && p.2 != .free) || (cells.lookup p.1).isSome) = true)
  (hc3 : (cells.map (·.2)).Nodup)
  (hc4 : ∀ p ∈ cells, ∃ o v, s.heap.get? p.2 = some o ∧ o.data = .cell v ∧ base.get? p.2 = none)
  {body : List Stmt} (hb : body = kbody P 261) {env : Env} (henv : env = lawEnv P fa cd L cells) {E : Value → Shared → Prop} {K : Flow → Shared → Prop}
  (hK : ∀ h' tk', (∀ b o, base.get? b = some o → h'.get? b = some o) → (∃ ps, h'.get? 239 = some (tabObj ps)) → K (.ret (.bool true)) { s with heap := h', toks := tk' }) :
  wpAny (model prog w) (callerA.deeper env) (execs body env) K E s := by
 have Y : Yes (c := ⟨prog, w, base, 214, callerA.deeper env⟩) P mg := ⟨X', ⟨T'.g, ⟨mb, T'.b, T'.builtins⟩, T'.nolimit⟩⟩
 have key : ∀ x, celled env x → env.scope.names.lookup x = some .cell ∨ env.scope.names.lookup x = some .free := fun x h => h
 have hcl : CellsOk env := fun x c hx => by
  subst henv
  have := List.all_eq_true.mp hc1 _ (mem_lookup hx)
  have q : (kfd P 261).scope.names.lookup x = some .cell := by simpa using this
  exact .inl q
 have hscr : ¬ celled env "script" := by
  subst henv
  intro h
  have e : (kfd P 261).scope.names.lookup (Str.ofString "script") = some .local := by kernel_rfl
  rcases key _ h with q | q
  ·have q : (kfd P 261).scope.names.lookup (Str.ofString "script") = some .cell := q
   rw [e] at q; cases q
  ·have q : (kfd P 261).scope.names.lookup (Str.ofString "script") = some .free := q
   rw [e] at q; cases q
 refine qC fun P kG => ?_
 obtain ⟨ol, e1, e2, n, e3⟩ := hl
 refine kG ?_
 clear kG P
 have R : Rel base 214 env (fun b => base.get? b) [(239, 239)] s.heap [("script", .v (.list (intL ns)))] [.tab 239 []] := by
  refine ⟨⟨fun b o e => F'.keep b o e, fun b o e => e, rfl, fun i p mo h1 h2 => ?_, by simp, fun i p mo h1 h2 _ => ?_⟩, ?_, ?_, ?_, ⟨m, ?_, fun x xv _ hx => ?_⟩, ?_, fun x hx => ?_, fun x c hx hc => ?_, fun x y c hx hy => ?_⟩
  ·cases i with
   | zero =>
    simp only [List.getElem?_cons_zero, Option.some.injEq] at h1 h2
    subst h1 h2
    exact ⟨#[], hTab, .nil, rfl⟩
   | succ i => simp at h1
  ·cases i with
   | zero =>
    simp only [List.getElem?_cons_zero, Option.some.injEq] at h1
    subst h1
    exact hTn
   | succ i => simp at h1
  ·subst henv
   show (kfd P 261).scope.kind = .function
   kernel_rfl
  ·subst henv; rfl
  ·subst henv; rfl
  ·subst henv; exact F'.ns
  ·rcases kH hx with ⟨rfl, rfl⟩ | ⟨_, hx⟩
   ·exact ⟨_, hm, .v (.list e1 e2 e3 (by simpa using vrs_ints hI))⟩
   ·cases hx
  ·subst henv; exact hLn
  ·subst henv
   have hmem : ∀ k, (kfd P 261).scope.names.lookup x = some k → (k = .cell ∨ k = .free) → ∃ c, cells.lookup x = some c := fun k hk hkk => by
    have := List.all_eq_true.mp hc2 _ (mem_lookup hk)
    rcases hkk with rfl | rfl
    ·exact Option.isSome_iff_exists.mp (by simpa using this)
    ·exact Option.isSome_iff_exists.mp (by simpa using this)
   rcases key _ hx with q | q
   ·exact hmem _ q (.inl rfl)
   ·exact hmem _ q (.inr rfl)
  ·have hcm : (x, c) ∈ cells := by subst henv; exact mem_lookup hc
   refine qC fun P kG => ?_
   obtain ⟨o, v, g1, g2, g3⟩ := hc4 _ hcm
   refine kG ?_
   clear kG P
   refine ⟨v, ⟨o, g1, g2⟩, g3, fun z xv ez hxv => ?_⟩
   rcases kH hxv with ⟨rfl, rfl⟩ | ⟨_, hxv⟩
   ·rw [ez] at hx
    exact absurd hx hscr
   ·cases hxv
  ·subst henv
   exact nd_snd hc3 (mem_lookup hx) (mem_lookup hy)
 have hfr : (callerA.deeper env).frames = some [env] := rfl
 refine (ss_tail (law_walk (c := ⟨prog, w, base, 214, callerA.deeper env⟩) Y C0 (bat_of T' hTn) (by decide) (room_law env) L cells henv hcl hfr) hb).h E K _ _ _ _ s (fun _ _ => False) (fun x σ' => x = .v (.bool true) ∧ ∃ qs junk, σ' = .tab 239 qs :: junk) R ?_ (fun _ _ _ _ _ _ _ _ q => q.elim) fun v x F1 ρ1 η1 σ1 h1 t1 R1 V1 X1 hQ => ?_
 ·refine ⟨ns, ?_, h63, rfl, fun qs junk => ⟨rfl, qs, junk, rfl⟩⟩
  rw [vget_hit]
 ·refine qC fun P kG => ?_
  obtain ⟨rfl, qs, junk, rfl⟩ := hQ
  refine kG ?_
  clear kG P
  cases X1 with
  | v X1 =>
   cases X1
   refine hK h1 t1 R1.sto.old ?_
   have hlen := R1.sto.len
   obtain ⟨p, hp⟩ : ∃ p, ρ1[0]? = some p := ⟨_, List.getElem?_eq_getElem (by rw [hlen]; simp)⟩
   refine qC fun P kG => ?_
   obtain ⟨ps, q1, _, q3⟩ := R1.sto.obj 0 p _ hp rfl
   refine kG ?_
   clear kG P
   exact ⟨ps, q3 ▸ q1⟩
set_option tactic.hygienic true
theorem cellsFrom_nd : ∀ (names : List (Str × NameKind)) (n : Nat) (acc : List (Str × Addr)), (acc.map (·.2)).Nodup → (∀ p ∈ acc, p.2 < n) → ((cellsFrom n names acc).map (·.2)).Nodup
 | [], _, _, h, _ => h
 | (x, k) :: r, n, acc, h, hl => by
  unfold cellsFrom
  split
  ·refine cellsFrom_nd r (n + 1) _ ?_ fun p hp => ?_
   ·rw [List.map_cons, List.nodup_cons]
    refine ⟨fun q => ?_, h⟩
    obtain ⟨p, hp, e⟩ := List.mem_map.mp q
    have h2 := hl p hp
    have e : p.2 = n := e
    rw [e] at h2
    exact Nat.lt_irrefl _ h2
   ·rcases List.mem_cons.mp hp with rfl | hp
    ·exact Nat.lt_succ_self n
    ·exact Nat.lt_succ_of_lt (hl p hp)
  ·exact cellsFrom_nd r n acc h hl
theorem tst_row : PySem.Challenge.rw_ta0073_01.row.Holds := hd (by
 k_go0
 rename_i w s0 s1 mg mb G Y fa o pm cd doc ho hcd hg X V T B TE TW ns hs hlay0 hL1 hr1 hl2 w12 w11 a vs w8 hL ra w1 r0 hI hr hc63 hc' hD h1 tk1 o8 o7 o6 o5 o4 o3 o2 o1 d8 d7 d6 d5 d4 d3 d2 d1 X0 X' T' K' F' N' l0
 have e63 : ns.length ≤ 100 := by exact (qA [_] 1 (.v 0) (.n 100) (.i 1 (.c (.v 0)) (.c (.n 63)) .z) rfl (Int.not_lt.mp hc63))
 refine finish (fa := fa) (cd := cd) X' T' F' codeHd lifted hI e63 ?hm (N'.get (by k_mem)) (N'.fresh (by k_mem)) (ghost_fresh (get?_size s1.heap)) (cellsFrom (s1.heap.objs.size + 1) (kfd w.params 261).scope.names []) ?c1 ?c2 ?c3 ?c4 ?hb ?henv ?hK
 case hm => kernel_rfl
 case c1 => kernel_rfl
 case c2 => kernel_rfl
 case c3 => exact cellsFrom_nd _ _ _ List.nodup_nil fun p hp => nomatch hp
 case c4 =>
  have hcs : cellsFrom (s1.heap.objs.size + 1) (kfd w.params 261).scope.names [] = [(Str.ofString "ends", s1.heap.objs.size + 1 + 1 + 1 + 1 + 1 + 1 + 1 + 1), (Str.ofString "other", s1.heap.objs.size + 1 + 1 + 1 + 1 + 1 + 1 + 1), (Str.ofString "signs", s1.heap.objs.size + 1 + 1 + 1 + 1 + 1 + 1), (Str.ofString "piece", s1.heap.objs.size + 1 + 1 + 1 + 1 + 1), (Str.ofString "cuts", s1.heap.objs.size + 1 + 1 + 1 + 1), (Str.ofString "text", s1.heap.objs.size + 1 + 1 + 1), (Str.ofString "unit", s1.heap.objs.size + 1 + 1), (Str.ofString "taken", s1.heap.objs.size + 1)] := by kernel_rfl
  rw [hcs]
  exact List.forall_mem_cons.mpr ⟨⟨o8, _, N'.get (by k_mem), d8, N'.fresh (by k_mem)⟩, List.forall_mem_cons.mpr ⟨⟨o7, _, N'.get (by k_mem), d7, N'.fresh (by k_mem)⟩, List.forall_mem_cons.mpr ⟨⟨o6, _, N'.get (by k_mem), d6, N'.fresh (by k_mem)⟩, List.forall_mem_cons.mpr ⟨⟨o5, _, N'.get (by k_mem), d5, N'.fresh (by k_mem)⟩, List.forall_mem_cons.mpr ⟨⟨o4, _, N'.get (by k_mem), d4, N'.fresh (by k_mem)⟩, List.forall_mem_cons.mpr ⟨⟨o3, _, N'.get (by k_mem), d3, N'.fresh (by k_mem)⟩, List.forall_mem_cons.mpr ⟨⟨o2, _, N'.get (by k_mem), d2, N'.fresh (by k_mem)⟩, List.forall_mem_cons.mpr ⟨⟨o1, _, N'.get (by k_mem), d1, N'.fresh (by k_mem)⟩, fun _ h => nomatch h⟩⟩⟩⟩⟩⟩⟩⟩
 case hb => kernel_rfl
 case henv => kernel_rfl
 case hK =>
  intro h' tk' hk hP
  exact ⟨⟨.inl ⟨.bool true, .bool true, [], rfl, fun _ => rfl, .bool true, by kernel_rfl, fun _ => ⟨List.nodup_nil, fun a ha => nomatch ha⟩⟩, hk, rfl, hg⟩, hP, trivial⟩)
theorem tst : PySem.Challenge.rw_ta0073_01.Holds := ⟨law_said tst_row.1, tst_row⟩
end Mine
open PySem PySem.W PyProof.Rows
theorem PySem.Challenge.cw_ta0073_01_holds : PySem.Challenge.rw_ta0073_01.Holds := by
  exact Mine.tst
