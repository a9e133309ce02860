import PyProof.Rows.All
import KE.KUnpack
import KE.KPar
import Wide.FinOn
import OpenK.AllK
import Wide.All
import PySem.Challenge.RW_ij0215_01

set_option Elab.async false
set_option linter.unusedVariables false
set_option linter.unusedSimpArgs false
namespace Mine
open PySem PySem.W PyProof.Rows
set_option maxRecDepth 100000
set_option compiler.extract_closed false
set_option backward.eqns.nonrecursive false
set_option bootstrap.genMatcherCode false
set_option genSizeOf false
set_option backward.defeqAttrib.useBackward true
set_option tactic.hygienic false
local macro_rules | `(tactic| omega) => `(tactic| first | decide | lia | omega (config := {}))
theorem qT {a b c : Nat} (h : a ≤ b) (k : b ≤ c) : a ≤ c := Nat.le_trans h k
theorem qL {a b c : Nat} (h : a < b) (k : b ≤ c) : a < c := Nat.lt_of_lt_of_le h k
theorem qM {a b c : Nat} (h : a ≤ b) (k : b < c) : a < c := Nat.lt_of_le_of_lt h k
theorem qE {a b : Nat} (h : a = b) : a ≤ b := Nat.le_of_eq h
theorem qW {a b : Nat} (h : a < b) : a ≤ b := Nat.le_of_lt h
theorem qA {a b c d : Nat} (h : a ≤ b) (k : c ≤ d) : a + c ≤ b + d := Nat.add_le_add h k
theorem qR {a b : Nat} (h : a ≤ b) (k : Nat) : a + k ≤ b + k := Nat.add_le_add_right h k
theorem qF {a b : Nat} (h : a ≤ b) (k : Nat) : k + a ≤ k + b := Nat.add_le_add_left h k
theorem qD {a b c : Nat} (h : a ≤ b) : a / c ≤ b / c := Nat.div_le_div_right h
theorem qC {a b : Nat} (h : a < Nat.succ b) : a ≤ b := Nat.le_of_lt_succ h
theorem qn (n : Nat) : (0 : Int) ≤ n := Int.natCast_nonneg n
theorem qsl {a b c : Nat} (h : a ≤ c) : a - b ≤ c := Nat.le_trans (Nat.sub_le a b) h
theorem qml {a b c : Nat} (h : a ≤ c) : min a b ≤ c := Nat.le_trans (Nat.min_le_left a b) h
theorem qmr {a b c : Nat} (h : b ≤ c) : min a b ≤ c := Nat.le_trans (Nat.min_le_right a b) h
theorem qe {a b : Nat} (h : a ≤ b) : (a : Int) ≤ b := Int.ofNat_le.mpr h
theorem ql {a b : Nat} (h : a < b) : (a : Int) < b := Int.ofNat_lt.mpr h
theorem qc {a b : Nat} (h : (a : Int) < b) : a < b := Int.ofNat_lt.mp h
theorem qs {a b : Nat} (h : a ≤ b) : (b : Int) - a = ((b - a : Nat) : Int) := (Int.ofNat_sub h).symm
theorem qX {a b : Nat} (h : ¬ a < b) : b ≤ a := Nat.not_lt.mp h
theorem qV {a b : Nat} (h : ¬ a ≤ b) : b < a := Nat.not_le.mp h
theorem qet {a b c : Nat} (h : a = b) (k : b ≤ c) : a ≤ c := h ▸ k
theorem qK {a i : Nat} (h : i < a) : a - (i + 1) < a - i := Nat.sub_succ_lt_self a i h
theorem qu {n k : Nat} : n ≤ n + k := Nat.le_add_right n k
theorem qv {n k : Nat} : n ≤ k + n := Nat.le_add_left n k
theorem qP {a b c : Nat} (h : a ≤ b) : c * a ≤ c * b := Nat.mul_le_mul_left c h
theorem qr {n : Nat} : n ≤ n := Nat.le_refl n
theorem qz {n : Nat} : 0 ≤ n := Nat.zero_le n
theorem qN {n k m : Nat} (h : m ≤ k) (l : n ≤ k - m) : m + n ≤ k := Nat.add_le_of_le_sub' h l
theorem qs1 {a l r : Nat} (h : a ≤ r) (k : l ≤ r - a) : a + (r - a - l) = r - l := by
  rw [Nat.sub_right_comm]; exact Nat.add_sub_cancel' (Nat.le_sub_of_add_le (Nat.add_le_of_le_sub' h k))
theorem qs2 {m j n v : Nat} (h : j ≤ m) (k : m + v ≤ n) : m - j ≤ n - (j + v) := by
  refine Nat.le_sub_of_add_le ?_
  rw [← Nat.add_assoc, Nat.sub_add_cancel h]; exact k
theorem qs3 {n b : Nat} (h : 0 < b) : n + (0 + 1) - b = n - (b - 1) := by
  cases b with | zero => exact absurd h (Nat.lt_irrefl _) | succ c => exact Nat.add_sub_add_right n 1 c
theorem qs4 {t p a b : Nat} (ht : t ≤ p) (hl : t = a + (b + 1)) : p - t + a = p - b - 1 := by
  subst hl
  rw [Nat.sub_sub, Nat.add_comm a, ← Nat.sub_sub]; exact Nat.sub_add_cancel (Nat.le_sub_of_add_le ht)
theorem qs5 {l j r : Nat} (hj : j ≤ r) (h : l ≤ r - j) (k : r ≤ j + l) : r - l = j := by
  rw [Nat.le_antisymm k (Nat.add_le_of_le_sub' hj h)]; exact Nat.add_sub_cancel ..
theorem qs6 (p n : Nat) : min p n + (n - p) = n := by rw [Nat.add_comm, Nat.min_comm]; exact Nat.sub_add_min_cancel n p
theorem cn (i n : Nat) : (max 0 (min (i : Int) n)).toNat = min i n := by
  rcases Nat.le_total i n with h | h
  · rw [Nat.min_eq_left h, Int.min_eq_left (qe h)]; exact congrArg Int.toNat (Int.max_eq_right (qn i))
  · rw [Nat.min_eq_right h, Int.min_eq_right (qe h)]; exact congrArg Int.toNat (Int.max_eq_right (qn n))
theorem cg (k n : Nat) : (max 0 (min (-(k : Int) + n) n)).toNat = n - k := by
  rw [Int.min_eq_left (Int.add_le_of_le_sub_right (by rw [Int.sub_self]; exact Int.neg_nonpos_of_nonneg (qn _))), Int.max_comm, ← Int.ofNat_toNat, Int.add_comm]
  exact Int.toNat_sub n k
theorem cl {x : Int} {n : Nat} : (max 0 (min x n)).toNat ≤ n := Int.toNat_le.mpr (Int.max_le.mpr ⟨qn n, Int.min_le_right _ _⟩)
theorem rg (n : Nat) : ((n : Int) - 1 + 1 - 1).toNat = n - 1 := by rw [Int.sub_add_cancel]; exact Int.toNat_sub n 1
theorem zA {A : Prop} {B : Prop} {R : Prop} (h : A ∧ B) (f : A → B → R) : R := f h.1 h.2
theorem zE {α : Sort _} {A : α → Prop} {R : Prop} (h : ∃ x, A x) (f : ∀ x, A x → R) : R := h.elim fun x h1 => f x h1
theorem zAA {A : Prop} {B : Prop} {C : Prop} {R : Prop} (h : A ∧ B ∧ C) (f : A → B → C → R) : R := f h.1 h.2.1 h.2.2
theorem zAE {α : Sort _} {A : Prop} {B : α → Prop} {R : Prop} (h : A ∧ ∃ x, B x) (f : A → ∀ x, B x → R) : R := h.2.elim fun x h1 => f h.1 x h1
theorem zEA {α : Sort _} {A : α → Prop} {B : α → Prop} {R : Prop} (h : ∃ x, A x ∧ B x) (f : ∀ x, A x → B x → R) : R := h.elim fun x h1 => f x h1.1 h1.2
theorem zEE {α : Sort _} {β : Sort _} {A : α → β → Prop} {R : Prop} (h : ∃ x, ∃ y, A x y) (f : ∀ x, ∀ y, A x y → R) : R := h.elim fun x h1 => h1.elim fun y h2 => f x y h2
theorem zAAA {A : Prop} {B : Prop} {C : Prop} {D : Prop} {R : Prop} (h : A ∧ B ∧ C ∧ D) (f : A → B → C → D → R) : R := f h.1 h.2.1 h.2.2.1 h.2.2.2
theorem zAEA {α : Sort _} {A : Prop} {B : α → Prop} {C : α → Prop} {R : Prop} (h : A ∧ ∃ x, B x ∧ C x) (f : A → ∀ x, B x → C x → R) : R := h.2.elim fun x h1 => f h.1 x h1.1 h1.2
theorem zEAA {α : Sort _} {A : α → Prop} {B : α → Prop} {C : α → Prop} {R : Prop} (h : ∃ x, A x ∧ B x ∧ C x) (f : ∀ x, A x → B x → C x → R) : R := h.elim fun x h1 => f x h1.1 h1.2.1 h1.2.2
theorem zEEA {α : Sort _} {β : Sort _} {A : α → β → Prop} {B : α → β → Prop} {R : Prop} (h : ∃ x, ∃ y, A x y ∧ B x y) (f : ∀ x, ∀ y, A x y → B x y → R) : R := h.elim fun x h1 => h1.elim fun y h2 => f x y h2.1 h2.2
theorem zEEE {α : Sort _} {β : Sort _} {γ : Sort _} {A : α → β → γ → Prop} {R : Prop} (h : ∃ x, ∃ y, ∃ z, A x y z) (f : ∀ x, ∀ y, ∀ z, A x y z → R) : R := h.elim fun x h1 => h1.elim fun y h2 => h2.elim fun z h3 => f x y z h3
theorem zAEAA {α : Sort _} {A : Prop} {B : α → Prop} {C : α → Prop} {D : α → Prop} {R : Prop} (h : A ∧ ∃ x, B x ∧ C x ∧ D x) (f : A → ∀ x, B x → C x → D x → R) : R := h.2.elim fun x h1 => f h.1 x h1.1 h1.2.1 h1.2.2
theorem zAEEA {α : Sort _} {β : Sort _} {A : Prop} {B : α → β → Prop} {C : α → β → Prop} {R : Prop} (h : A ∧ ∃ x, ∃ y, B x y ∧ C x y) (f : A → ∀ x, ∀ y, B x y → C x y → R) : R := h.2.elim fun x h1 => h1.elim fun y h2 => f h.1 x y h2.1 h2.2
theorem zEAAA {α : Sort _} {A : α → Prop} {B : α → Prop} {C : α → Prop} {D : α → Prop} {R : Prop} (h : ∃ x, A x ∧ B x ∧ C x ∧ D x) (f : ∀ x, A x → B x → C x → D x → R) : R := h.elim fun x h1 => f x h1.1 h1.2.1 h1.2.2.1 h1.2.2.2
theorem zEAAE {α : Sort _} {β : Sort _} {A : α → Prop} {B : α → Prop} {C : α → β → Prop} {R : Prop} (h : ∃ x, A x ∧ B x ∧ ∃ y, C x y) (f : ∀ x, A x → B x → ∀ y, C x y → R) : R := h.elim fun x h1 => h1.2.2.elim fun y h2 => f x h1.1 h1.2.1 y h2
theorem zEEAA {α : Sort _} {β : Sort _} {A : α → β → Prop} {B : α → β → Prop} {C : α → β → Prop} {R : Prop} (h : ∃ x, ∃ y, A x y ∧ B x y ∧ C x y) (f : ∀ x, ∀ y, A x y → B x y → C x y → R) : R := h.elim fun x h1 => h1.elim fun y h2 => f x y h2.1 h2.2.1 h2.2.2
theorem zEEEA {α : Sort _} {β : Sort _} {γ : Sort _} {A : α → β → γ → Prop} {B : α → β → γ → Prop} {R : Prop} (h : ∃ x, ∃ y, ∃ z, A x y z ∧ B x y z) (f : ∀ x, ∀ y, ∀ z, A x y z → B x y z → R) : R := h.elim fun x h1 => h1.elim fun y h2 => h2.elim fun z h3 => f x y z h3.1 h3.2
theorem zEEEE {α : Sort _} {β : Sort _} {γ : Sort _} {δ : Sort _} {A : α → β → γ → δ → Prop} {R : Prop} (h : ∃ x, ∃ y, ∃ z, ∃ u, A x y z u) (f : ∀ x, ∀ y, ∀ z, ∀ u, A x y z u → R) : R := h.elim fun x h1 => h1.elim fun y h2 => h2.elim fun z h3 => h3.elim fun u h4 => f x y z u h4
theorem zEAAAA {α : Sort _} {A : α → Prop} {B : α → Prop} {C : α → Prop} {D : α → Prop} {E : α → Prop} {R : Prop} (h : ∃ x, A x ∧ B x ∧ C x ∧ D x ∧ E x) (f : ∀ x, A x → B x → C x → D x → E x → R) : R := h.elim fun x h1 => f x h1.1 h1.2.1 h1.2.2.1 h1.2.2.2.1 h1.2.2.2.2
theorem zEEAAA {α : Sort _} {β : Sort _} {A : α → β → Prop} {B : α → β → Prop} {C : α → β → Prop} {D : α → β → Prop} {R : Prop} (h : ∃ x, ∃ y, A x y ∧ B x y ∧ C x y ∧ D x y) (f : ∀ x, ∀ y, A x y → B x y → C x y → D x y → R) : R := h.elim fun x h1 => h1.elim fun y h2 => f x y h2.1 h2.2.1 h2.2.2.1 h2.2.2.2
theorem zEEEAA {α : Sort _} {β : Sort _} {γ : Sort _} {A : α → β → γ → Prop} {B : α → β → γ → Prop} {C : α → β → γ → Prop} {R : Prop} (h : ∃ x, ∃ y, ∃ z, A x y z ∧ B x y z ∧ C x y z) (f : ∀ x, ∀ y, ∀ z, A x y z → B x y z → C x y z → R) : R := h.elim fun x h1 => h1.elim fun y h2 => h2.elim fun z h3 => f x y z h3.1 h3.2.1 h3.2.2
theorem zEEEEE {α : Sort _} {β : Sort _} {γ : Sort _} {δ : Sort _} {ε : Sort _} {A : α → β → γ → δ → ε → Prop} {R : Prop} (h : ∃ x, ∃ y, ∃ z, ∃ u, ∃ v, A x y z u v) (f : ∀ x, ∀ y, ∀ z, ∀ u, ∀ v, A x y z u v → R) : R := h.elim fun x h1 => h1.elim fun y h2 => h2.elim fun z h3 => h3.elim fun u h4 => h4.elim fun v h5 => f x y z u v h5
theorem zAEAAAA {α : Sort _} {A : Prop} {B : α → Prop} {C : α → Prop} {D : α → Prop} {E : α → Prop} {F : α → Prop} {R : Prop} (h : A ∧ ∃ x, B x ∧ C x ∧ D x ∧ E x ∧ F x) (f : A → ∀ x, B x → C x → D x → E x → F x → R) : R := h.2.elim fun x h1 => f h.1 x h1.1 h1.2.1 h1.2.2.1 h1.2.2.2.1 h1.2.2.2.2
theorem zEEAAAA {α : Sort _} {β : Sort _} {A : α → β → Prop} {B : α → β → Prop} {C : α → β → Prop} {D : α → β → Prop} {E : α → β → Prop} {R : Prop} (h : ∃ x, ∃ y, A x y ∧ B x y ∧ C x y ∧ D x y ∧ E x y) (f : ∀ x, ∀ y, A x y → B x y → C x y → D x y → E x y → R) : R := h.elim fun x h1 => h1.elim fun y h2 => f x y h2.1 h2.2.1 h2.2.2.1 h2.2.2.2.1 h2.2.2.2.2
theorem zEEEAAA {α : Sort _} {β : Sort _} {γ : Sort _} {A : α → β → γ → Prop} {B : α → β → γ → Prop} {C : α → β → γ → Prop} {D : α → β → γ → Prop} {R : Prop} (h : ∃ x, ∃ y, ∃ z, A x y z ∧ B x y z ∧ C x y z ∧ D x y z) (f : ∀ x, ∀ y, ∀ z, A x y z → B x y z → C x y z → D x y z → R) : R := h.elim fun x h1 => h1.elim fun y h2 => h2.elim fun z h3 => f x y z h3.1 h3.2.1 h3.2.2.1 h3.2.2.2
theorem zEEAAAAA {α : Sort _} {β : Sort _} {A : α → β → Prop} {B : α → β → Prop} {C : α → β → Prop} {D : α → β → Prop} {E : α → β → Prop} {F : α → β → Prop} {R : Prop} (h : ∃ x, ∃ y, A x y ∧ B x y ∧ C x y ∧ D x y ∧ E x y ∧ F x y) (f : ∀ x, ∀ y, A x y → B x y → C x y → D x y → E x y → F x y → R) : R := h.elim fun x h1 => h1.elim fun y h2 => f x y h2.1 h2.2.1 h2.2.2.1 h2.2.2.2.1 h2.2.2.2.2.1 h2.2.2.2.2.2
theorem zEEEAAAA {α : Sort _} {β : Sort _} {γ : Sort _} {A : α → β → γ → Prop} {B : α → β → γ → Prop} {C : α → β → γ → Prop} {D : α → β → γ → Prop} {E : α → β → γ → Prop} {R : Prop} (h : ∃ x, ∃ y, ∃ z, A x y z ∧ B x y z ∧ C x y z ∧ D x y z ∧ E x y z) (f : ∀ x, ∀ y, ∀ z, A x y z → B x y z → C x y z → D x y z → E x y z → R) : R := h.elim fun x h1 => h1.elim fun y h2 => h2.elim fun z h3 => f x y z h3.1 h3.2.1 h3.2.2.1 h3.2.2.2.1 h3.2.2.2.2
@[elab_as_elim] theorem y2 {α β : Type _} {P : α → β → Prop} {a c : α} {b d : β} (e : some (a, b) = some (c, d)) (x : P a b) : P c d := by cases e; exact x
@[elab_as_elim] theorem y1 {α : Type _} {P : α → Prop} {a b : α} (e : some a = some b) (x : P a) : P b := by cases e; exact x
@[elab_as_elim] theorem yl {α : Sort _} {P : α → Prop} {a b : α} (e : a = b) (x : P b) : P a := by cases e; exact x
@[elab_as_elim] theorem yr {α : Sort _} {P : α → Prop} {a b : α} (e : a = b) (x : P a) : P b := by cases e; exact x
theorem iAA {A : Prop} {B : Prop} {C : Prop} (a1 : A) (b1 : B) (c1 : C) : A ∧ B ∧ C := ⟨a1, b1, c1⟩
theorem iAE {α : Sort _} {A : Prop} {B : α → Prop} (a1 : A) (x : α) (b1 : B x) : A ∧ ∃ x, B x := ⟨a1, x, b1⟩
theorem iEA {α : Sort _} {A : α → Prop} {B : α → Prop} (x : α) (a1 : A x) (b1 : B x) : ∃ x, A x ∧ B x := ⟨x, a1, b1⟩
theorem iAAA {A : Prop} {B : Prop} {C : Prop} {D : Prop} (a1 : A) (b1 : B) (c1 : C) (d1 : D) : A ∧ B ∧ C ∧ D := ⟨a1, b1, c1, d1⟩
theorem iAAE {α : Sort _} {A : Prop} {B : Prop} {C : α → Prop} (a1 : A) (b1 : B) (x : α) (c1 : C x) : A ∧ B ∧ ∃ x, C x := ⟨a1, b1, x, c1⟩
theorem iEAA {α : Sort _} {A : α → Prop} {B : α → Prop} {C : α → Prop} (x : α) (a1 : A x) (b1 : B x) (c1 : C x) : ∃ x, A x ∧ B x ∧ C x := ⟨x, a1, b1, c1⟩
theorem iEAE {α : Sort _} {β : Sort _} {A : α → Prop} {B : α → β → Prop} (x : α) (a1 : A x) (y : β) (b1 : B x y) : ∃ x, A x ∧ ∃ y, B x y := ⟨x, a1, y, b1⟩
theorem iEEA {α : Sort _} {β : Sort _} {A : α → β → Prop} {B : α → β → Prop} (x : α) (y : β) (a1 : A x y) (b1 : B x y) : ∃ x, ∃ y, A x y ∧ B x y := ⟨x, y, a1, b1⟩
theorem iAAEA {α : Sort _} {A : Prop} {B : Prop} {C : α → Prop} {D : α → Prop} (a1 : A) (b1 : B) (x : α) (c1 : C x) (d1 : D x) : A ∧ B ∧ ∃ x, C x ∧ D x := ⟨a1, b1, x, c1, d1⟩
theorem iAEAA {α : Sort _} {A : Prop} {B : α → Prop} {C : α → Prop} {D : α → Prop} (a1 : A) (x : α) (b1 : B x) (c1 : C x) (d1 : D x) : A ∧ ∃ x, B x ∧ C x ∧ D x := ⟨a1, x, b1, c1, d1⟩
theorem iEAAA {α : Sort _} {A : α → Prop} {B : α → Prop} {C : α → Prop} {D : α → Prop} (x : α) (a1 : A x) (b1 : B x) (c1 : C x) (d1 : D x) : ∃ x, A x ∧ B x ∧ C x ∧ D x := ⟨x, a1, b1, c1, d1⟩
theorem iEEAA {α : Sort _} {β : Sort _} {A : α → β → Prop} {B : α → β → Prop} {C : α → β → Prop} (x : α) (y : β) (a1 : A x y) (b1 : B x y) (c1 : C x y) : ∃ x, ∃ y, A x y ∧ B x y ∧ C x y := ⟨x, y, a1, b1, c1⟩
theorem iEEEA {α : Sort _} {β : Sort _} {γ : Sort _} {A : α → β → γ → Prop} {B : α → β → γ → Prop} (x : α) (y : β) (z : γ) (a1 : A x y z) (b1 : B x y z) : ∃ x, ∃ y, ∃ z, A x y z ∧ B x y z := ⟨x, y, z, a1, b1⟩
theorem iEEEE {α : Sort _} {β : Sort _} {γ : Sort _} {δ : Sort _} {A : α → β → γ → δ → Prop} (x : α) (y : β) (z : γ) (u : δ) (a1 : A x y z u) : ∃ x, ∃ y, ∃ z, ∃ u, A x y z u := ⟨x, y, z, u, a1⟩
theorem iAEEAA {α : Sort _} {β : Sort _} {A : Prop} {B : α → β → Prop} {C : α → β → Prop} {D : α → β → Prop} (a1 : A) (x : α) (y : β) (b1 : B x y) (c1 : C x y) (d1 : D x y) : A ∧ ∃ x, ∃ y, B x y ∧ C x y ∧ D x y := ⟨a1, x, y, b1, c1, d1⟩
theorem iEAAAA {α : Sort _} {A : α → Prop} {B : α → Prop} {C : α → Prop} {D : α → Prop} {E : α → Prop} (x : α) (a1 : A x) (b1 : B x) (c1 : C x) (d1 : D x) (e1 : E x) : ∃ x, A x ∧ B x ∧ C x ∧ D x ∧ E x := ⟨x, a1, b1, c1, d1, e1⟩
theorem iEEAAA {α : Sort _} {β : Sort _} {A : α → β → Prop} {B : α → β → Prop} {C : α → β → Prop} {D : α → β → Prop} (x : α) (y : β) (a1 : A x y) (b1 : B x y) (c1 : C x y) (d1 : D x y) : ∃ x, ∃ y, A x y ∧ B x y ∧ C x y ∧ D x y := ⟨x, y, a1, b1, c1, d1⟩
theorem iEEEAA {α : Sort _} {β : Sort _} {γ : Sort _} {A : α → β → γ → Prop} {B : α → β → γ → Prop} {C : α → β → γ → Prop} (x : α) (y : β) (z : γ) (a1 : A x y z) (b1 : B x y z) (c1 : C x y z) : ∃ x, ∃ y, ∃ z, A x y z ∧ B x y z ∧ C x y z := ⟨x, y, z, a1, b1, c1⟩
theorem iEEAEAA {α : Sort _} {β : Sort _} {γ : Sort _} {A : α → β → Prop} {B : α → β → γ → Prop} {C : α → β → γ → Prop} {D : α → β → γ → Prop} (x : α) (y : β) (a1 : A x y) (z : γ) (b1 : B x y z) (c1 : C x y z) (d1 : D x y z) : ∃ x, ∃ y, A x y ∧ ∃ z, B x y z ∧ C x y z ∧ D x y z := ⟨x, y, a1, z, b1, c1, d1⟩
theorem iEEEAAA {α : Sort _} {β : Sort _} {γ : Sort _} {A : α → β → γ → Prop} {B : α → β → γ → Prop} {C : α → β → γ → Prop} {D : α → β → γ → Prop} (x : α) (y : β) (z : γ) (a1 : A x y z) (b1 : B x y z) (c1 : C x y z) (d1 : D x y z) : ∃ x, ∃ y, ∃ z, A x y z ∧ B x y z ∧ C x y z ∧ D x y z := ⟨x, y, z, a1, b1, c1, d1⟩
theorem iEEAAAAA {α : Sort _} {β : Sort _} {A : α → β → Prop} {B : α → β → Prop} {C : α → β → Prop} {D : α → β → Prop} {E : α → β → Prop} {F : α → β → Prop} (x : α) (y : β) (a1 : A x y) (b1 : B x y) (c1 : C x y) (d1 : D x y) (e1 : E x y) (f1 : F x y) : ∃ x, ∃ y, A x y ∧ B x y ∧ C x y ∧ D x y ∧ E x y ∧ F x y := ⟨x, y, a1, b1, c1, d1, e1, f1⟩
theorem iEEEEAAA {α : Sort _} {β : Sort _} {γ : Sort _} {δ : Sort _} {A : α → β → γ → δ → Prop} {B : α → β → γ → δ → Prop} {C : α → β → γ → δ → Prop} {D : α → β → γ → δ → Prop} (x : α) (y : β) (z : γ) (u : δ) (a1 : A x y z u) (b1 : B x y z u) (c1 : C x y z u) (d1 : D x y z u) : ∃ x, ∃ y, ∃ z, ∃ u, A x y z u ∧ B x y z u ∧ C x y z u ∧ D x y z u := ⟨x, y, z, u, a1, b1, c1, d1⟩
noncomputable def tyNames : List String := ["str", "bytes", "bool"]
noncomputable def biNames : List String := ["len", "sum", "isinstance", "ord", "chr", "issubclass", "bytes", "type"]
noncomputable def kwOf (f : String) : List String := if f = "b2a_base64" then ["newline"] else []
noncomputable def specials : List Nat := [40, 41, 91, 93, 123, 125, 63, 42, 43, 45, 124, 94, 36, 92, 46, 38, 126, 35, 32, 9, 10, 13, 11, 12]
noncomputable def b64L : List UInt8 := [65, 66, 67, 68, 69, 70, 71, 72, 73, 74, 75, 76, 77, 78, 79, 80, 81, 82, 83, 84, 85, 86, 87, 88,
      89, 90, 97, 98, 99, 100, 101, 102, 103, 104, 105, 106, 107, 108, 109, 110, 111, 112, 113, 114,
      115, 116, 117, 118, 119, 120, 121, 122, 48, 49, 50, 51, 52, 53, 54, 55, 56, 57, 43, 47]
noncomputable def fdIn (K : Frag) (f : String) : Option (Addr × Obj × FuncData) := match nsIn K mainGlobals (Str.ofString f) with
  | some (some (.ref a)) => match K.lookup a with
    | some o => match o.data with
      | .func fd => some (a, o, fd)
      | _ => none
    | none => none
  | _ => none
noncomputable def fdG (K : Frag) (f : String) : FuncData := match fdIn K f with
  | some x => x.2.2
  | none => default
noncomputable def nsG (K : Frag) (f : String) : List (Str × NameKind) := (fdG K f).scope.names
noncomputable def bodyG (K : Frag) (f : String) : List Stmt := match (fdG K f).body with
  | .stmts b => b
  | _ => []
noncomputable def isStmts : FuncBody → Bool
  | .stmts _ => true
  | _ => false
noncomputable def plainNames (ns : List (Str × NameKind)) : Bool := ns.all fun x => x.2 == .local || x.2 == .globalImplicit
noncomputable def keysOnce (ns : List (Str × NameKind)) : Bool := ns.all fun x => x.2 != .local || ns.lookup x.1 == some .local
noncomputable def ownOk (ns : List (Str × NameKind)) (own : List Nat) : Bool := own.all fun i => match ns[i]? with
  | some (_, .local) => true
  | _ => false
noncomputable def nodupB : List Str → Bool
  | [] => true
  | a :: r => !r.any (· == a) && nodupB r
noncomputable def fnOk (K : Frag) (f : String) (own : List Nat) (np : Nat) : Bool :=
  (fdIn K f).isSome && isStmts (fdG K f).body && (fdG K f).scope.kind == .function && !(fdG K f).scope.isCoroutine && !(fdG K f).scope.isGenerator && (fdG K f).globals == mainGlobals && (fdG K f).builtins == builtinsNs &&
  codeIn K (fdG K f).code (fdG K f).qualname && plainNames (nsG K f) && keysOnce (nsG K f) && ownOk (nsG K f) own && nodupB ((nsG K f).map (·.1)) && (nsG K f).all (fun x => !(x.1 == ("__debug__" : Str))) &&
  ((nsG K f).take np).all (·.2 == .local) && own.all (np ≤ ·) && decide (np ≤ (nsG K f).length)
noncomputable def b64In (K : Frag) : Bool := match nsIn K mainGlobals (Str.ofString "_B64") with
  | some (some (.bytes b _)) => b.toList == b64L
  | _ => false
noncomputable def entOk (e : DictEntry) : Bool := match e.key with
  | .int k _ => e.hash == hashInt k && decide (0 ≤ k) && specials.contains k.toNat
  | _ => false
noncomputable def escIn (K : Frag) : Bool := match nsIn K mainGlobals (Str.ofString "_special_chars_map") with
  | some (some (.ref a)) => a != sysModules && (match K.lookup a with
    | some ⟨c, od, .dict es _, sl⟩ => c == .type "dict" && od.isNone && sl.isEmpty && es.toList.all entOk
    | _ => false)
  | _ => false
noncomputable def noName (K : Frag) (n : String) : Bool := match nsIn K mainGlobals (Str.ofString n) with
  | some none => true
  | _ => false
noncomputable def DL : List (String × List Nat × Nat) := [("escape", [], 1), ("_translate", [3], 3), ("_join_translated_parts", [2, 6], 2), ("fspath", [], 1), ("_splitext", [], 4), ("_get_sep", [], 1), ("split", [], 1), ("splitext", [], 1), ("splitroot", [], 1), ("normpath", [7], 1), ("_buffer", [], 1), ("_truth", [], 1), ("b2a_base64", [3], 2), ("b64encode", [], 2),
  ("_law_item", [], 1), ("_law_drawn", [], 1), ("_law_rows", [], 2), ("_law_octets", [], 1), ("_law_figures", [1], 1), ("_law_written", [], 3), ("_law_straight", [], 1), ("_law_halves", [], 1), ("_law_stem", [], 2), ("_law_pieces", [3], 1), ("_law_fits", [], 3), ("_law_takes", [], 2), ("_law_means", [4], 2),
  ("_law_parted", [], 2), ("_law_right", [], 2), ("_law_both", [], 2), ("law", [], 1), ("translate", [], 1), ("_law_names", [], 1)]
noncomputable def miscB (K : Frag) : Bool := (tyNames.all (noName K) && biNames.all (noName K) && noName K "range" && noName K "object") && (b64In K && escIn K) &&
  ((fdIn K "_law_spelled").isSome && isStmts (fdG K "_law_spelled").body && (fdG K "_law_spelled").scope.kind == .function && !(fdG K "_law_spelled").scope.isCoroutine && !(fdG K "_law_spelled").scope.isGenerator && (fdG K "_law_spelled").globals == mainGlobals && (fdG K "_law_spelled").builtins == builtinsNs &&
    codeIn K (fdG K "_law_spelled").code (fdG K "_law_spelled").qualname && (fdG K "_law_spelled").closure.isEmpty)
noncomputable abbrev Bnd := Setting → Value → Value → Value → Value → Option (List (Str × Value))
noncomputable abbrev BndS := Value → Value → Sem (List (Str × Value))
noncomputable def argsOf (f : String) (vs : List Value) : Args := ⟨vs.take (vs.length - (kwOf f).length), ((kwOf f).map Str.ofString).zip (vs.drop (vs.length - (kwOf f).length))⟩
structure Ob where
  fs : List (Bool × List (Str × NameKind) × List Stmt)
  bs : List Bnd
  misc : Bool
  spN : List (Str × NameKind)
  spB : List Stmt
  spA : BndS
noncomputable def obsK (K : Frag) : Ob where
  fs := DL.map fun x => (fnOk K x.1 x.2.1 x.2.2, nsG K x.1, bodyG K x.1)
  bs := DL.map fun x S a b c d => peek K S (bindArgs (fdG K x.1) (argsOf x.1 ([a, b, c, d].take x.2.2)))
  misc := miscB K
  spN := nsG K "_law_spelled"
  spB := bodyG K "_law_spelled"
  spA := fun u v => bindArgs (fdG K "_law_spelled") ⟨[u, v], []⟩
noncomputable def kOf (as : List Addr) (h : Heap) : Frag := as.filterMap fun a => (h.get? a).map fun o => (a, o)
theorem kOf_in (h : Heap) : ∀ as : List Addr, (kOf as h).In h
  | [], _, _, e => nomatch e
  | b :: as, a, o, e => by
    unfold kOf at e
    simp only [List.filterMap_cons] at e
    cases q : h.get? b with
    | none => simp only [q] at e; exact kOf_in h as a o e
    | some x =>
      simp only [q] at e
      change List.lookup a ((b, x) :: kOf as h) = _ at e
      simp only [List.lookup_cons] at e
      cases r : a == b with
      | true => simp only [r] at e; injection e with e; simp only [eq_of_beq r, q, e]
      | false => simp only [r] at e; exact kOf_in h as a o e
section
set_option maxRecDepth 1000000
set_option maxHeartbeats 0
noncomputable abbrev PR : Program := PySem.Challenge.rw_ij0215_01.row.prog
noncomputable def sNs (f : String) : List (Str × NameKind) := match PR.theDef (Str.ofString f) with
  | some x => x.2.2.names
  | none => []
noncomputable def sBody (f : String) : List Stmt := match PR.theDef (Str.ofString f) with
  | some x => x.2.1
  | none => []
noncomputable def dT (k : Nat) : Option Stmt := PR.main.body[k]?
noncomputable def dC (k j : Nat) : Option Stmt := match PR.main.body[k]? with
  | some (.ClassDef _ _ _ b ..) => b[j]?
  | _ => none
noncomputable def fdO (d : Option Stmt) (q : String) (g : Addr) (df kd doc pm cd : Value) : FuncData := match d with
  | some (.FunctionDef n a b _ _ _ s _ _ _) => { name := n, qualname := Str.ofString q, params := a, body := .stmts b, scope := s, globals := g, closure := [], defaults := df, kwdefaults := kd, doc := doc, pyModule := pm, code := cd }
  | _ => default
noncomputable def docT : Option Stmt → Str
  | some (.FunctionDef _ _ b _ _ _ _ _ _ _) => (docOf b).getD ⟨#[]⟩
  | _ => ⟨#[]⟩
noncomputable abbrev vs (s : String) (t : Nat) : Value := .str (Str.ofString s) t
noncomputable abbrev en (P : Params) (s : String) (t : Nat) (v : Value) : DictEntry := { hash := PyData.keyHash P (Str.ofString s), key := .str (Str.ofString s) t, val := v }
noncomputable abbrev tO (l : List Value) : Obj := { cls := .type "tuple", data := .seq ⟨l⟩ }
noncomputable abbrev fO (l : List Value) : Obj := { cls := .none, data := .fields ⟨l⟩ }
noncomputable def nVs : Nat → List String → List Value
  | _, [] => []
  | t, s :: r => vs s t :: nVs (t + 1) r
noncomputable abbrev nO (t : Nat) (l : List String) : Obj := { cls := .type "tuple", data := .seq ⟨nVs t l⟩ }
noncomputable abbrev mO (d : Option Stmt) (q : String) : Obj := { cls := .none, data := .func (fdO d q 0 .none .none .none .none .none) }
noncomputable abbrev gO (d : Option Stmt) (q : String) (df kd : Value) (doc : Option Nat) (m : String) (mt : Nat) (c : Addr) (e : Option Stmt := d) : Obj :=
  { cls := .type "function", data := .func (fdO d q 3 df kd (match doc with | some t => .str (docT e) t | none => .none) (vs m mt) (.ref c)) }
noncomputable abbrev cO (f q : String) (t : Nat) (line na po kw fl : Int) (a : Addr) (u : Int) (v : Nat) : Obj := { cls := .type "code", data := .fields #[vs f t, vs q (t + 1), vs "/claim/cut.py" (t + 2), .int line 0, .int na 0, .int po 0, .int kw 0, .int fl 0, .ref a, .bool true, .int 276 0, .ref (a + 1), .none, .ref (a + 2), .ref (a + 3), .ref (a + 4), .int u 0, .int line 0, vs "/claim/cut.py" v] }
noncomputable abbrev eO (f q : String) (t : Nat) (line na po kw fl : Int) (a : Addr) (u : Int) (v : Nat) : Obj := { cls := .type "code", data := .fields #[vs f t, vs q (t + 1), vs "/claim/cut.py" (t + 2), .int line 0, .int na 0, .int po 0, .int kw 0, .int fl 0, .ref a, .bool true, .int 276 0, .ref (a + 1), .none, .none, .none, .ref (a + 2), .int u 0, .int line 0, vs "/claim/cut.py" v] }
noncomputable def oa1 (P : Params) : Obj := { cls := .type "dict", data := .dict #[en P "builtins" 162 (.ref 4), en P "__main__" 163 (.ref 5), en P "_sre" 244 (.ref 12)] 3 }
noncomputable def oa2 (P : Params) : Obj := { cls := .none, data := .dict #[en P "\x69mport.loaded._sre" 183 (.bool true), en P "class._frozen_importlib.BuiltinImporter" 185 (.ref 14), en P "watched.\x69mport" 206 (.ref 18), en P "class._frozen_importlib.ModuleSpec" 216 (.ref 22), en P "sys.modules.booked-epoch" 245 (.int 3 0), en P "\x69mport.later-laid._sre" 270 (.bool true), en P "watched.library" 272 (.ref 27), en P "watched.library-objects" 0 (vs "\x0c" 0), en P "watched.library-deep._sre" 273 (vs "\x04\x00\x00\x0b\x04\x00\x00\x0b\x04\x00\x00\x03\x04\x00\x00\x0b\x08\x04dict\x02" 0)] 9 }
noncomputable def oa3 (P : Params) : Obj := { cls := .type "dict", data := .dict #[en P "__name__" 165 (vs "__main__" 164), en P "__doc__" 166 (.none), en P "__package__" 167 (.none), en P "__loader__" 168 (.builtin "__main__.__loader__#opaque"), en P "__spec__" 169 (.none), en P "__annotations__" 170 (.ref 6), en P "__builtins__" 171 (.ref 4), en P "__file__" 173 (vs "/claim/cut.py" 172), en P "__cached__" 174 (.none), en P "_sre" 275 (.ref 12)] 10 }
noncomputable def oa11 (P : Params) : Obj := { cls := .type "dict", data := .dict #[en P "__name__" 247 (vs "_sre" 246), en P "__doc__" 248 (.none), en P "__package__" 250 (vs "" 249), en P "__loader__" 251 (.builtin "off-the-table:_sre.__loader__:shared#opaque"), en P "__spec__" 252 (.builtin "off-the-table:_sre.__spec__:shared#opaque"), en P "compile" 253 (.builtin "_sre.compile"), en P "template" 254 (.builtin "off-the-table:_sre.template:shared#opaque"), en P "getcodesize" 255 (.builtin "off-the-table:_sre.getcodesize:shared#opaque"), en P "ascii_iscased" 256 (.builtin "off-the-table:_sre.ascii_iscased:shared#opaque"), en P "unicode_iscased" 257 (.builtin "off-the-table:_sre.unicode_iscased:shared#opaque"), en P "ascii_tolower" 258 (.builtin "off-the-table:_sre.ascii_tolower:shared#opaque"), en P "unicode_tolower" 259 (.builtin "off-the-table:_sre.unicode_tolower:shared#opaque"), en P "MAGIC" 261 (.int 20230612 260), en P "CODESIZE" 263 (.int 4 262), en P "MAXREPEAT" 265 (.int 4294967295 264), en P "MAXGROUPS" 267 (.int 1073741823 266), en P "copyright" 269 (vs " SRE 2.2.2 Copyright (c) 1997-2002 by Secret Labs AB " 268)] 17 }
noncomputable def oa12 (P : Params) : Obj := { cls := .type "module", dict := some 11 }
noncomputable def oa13 (P : Params) : Obj := { cls := .type "dict", data := .dict #[en P "__module__" 189 (vs "_frozen_importlib" 186), en P "__firstlineno__" 190 (.int 971 187), en P "__doc__" 191 (.builtin "_frozen_importlib.BuiltinImporter.__doc__:str#opaque"), en P "_ORIGIN" 192 (vs "built-in" 188), en P "find_spec" 193 (.builtin "_frozen_importlib.BuiltinImporter.find_spec#opaque"), en P "create_module" 194 (.builtin "_frozen_importlib.BuiltinImporter.create_module#opaque"), en P "exec_module" 195 (.builtin "_frozen_importlib.BuiltinImporter.exec_module#opaque"), en P "get_code" 196 (.builtin "_frozen_importlib.BuiltinImporter.get_code#opaque"), en P "get_source" 197 (.builtin "_frozen_importlib.BuiltinImporter.get_source#opaque"), en P "is_package" 198 (.builtin "_frozen_importlib.BuiltinImporter.is_package#opaque"), en P "load_module" 199 (.builtin "_frozen_importlib.BuiltinImporter.load_module#opaque"), en P "__static_attributes__" 200 (.ref 15), en P "__dict__" 202 (.ref 16), en P "__weakref__" 204 (.ref 17)] 14 }
noncomputable def oa14 (P : Params) : Obj := { cls := .type "type", data := .cls { name := Str.ofString "BuiltinImporter", bases := [.type "object"], mro := [.ref 14, .type "object"], ns := 13, qualname := Str.ofString "BuiltinImporter" } }
noncomputable def oa15 (P : Params) : Obj := tO []
noncomputable def oa16 (P : Params) : Obj := { cls := .type "getset_descriptor", data := .fields #[vs "__dict__" 201, .ref 14, .builtin "function.__dict__", .builtin "function.__dict__#set"] }
noncomputable def oa17 (P : Params) : Obj := { cls := .type "getset_descriptor", data := .fields #[vs "__weakref__" 203, .ref 14, .builtin "ExceptionGroup.__weakref__", .none] }
noncomputable def oa18 (P : Params) : Obj := { cls := .none, data := .seq #[.int 13 0, vs "\x06½\n__module__\x06º\x11_frozen_importlib\x06¾\x0f__firstlineno__\x04»\x00ϋ\x06¿\x07__doc__\t4_frozen_importlib.BuiltinImporter.__doc__:str#opaque\x06À\x07_ORIGIN\x06¼\x08built-in\x06Á\tfind_spec\t2_frozen_importlib.BuiltinImporter.find_spec#opaque\x06Â\x0dcreate_module\t6_frozen_importlib.BuiltinImporter.create_module#opaque\x06Ã\x0bexec_module\t4_frozen_importlib.BuiltinImporter.exec_module#opaque\x06Ä\x08get_code\t1_frozen_importlib.BuiltinImporter.get_code#opaque\x06Å\nget_source\t3_frozen_importlib.BuiltinImporter.get_source#opaque\x06Æ\nis_package\t3_frozen_importlib.BuiltinImporter.is_package#opaque\x06Ç\x0bload_module\t4_frozen_importlib.BuiltinImporter.load_module#opaque\x06È\x15__static_attributes__\x04\x00\x00\x0f\x06Ê\x08__dict__\x04\x00\x00\x10\x06Ì\x0b__weakref__\x04\x00\x00\x11" 0, .bool true, .bool true, vs "" 205, .int 21 0, vs "\x06ã\n__module__\x06Ù\x11_frozen_importlib\x06ä\x0f__firstlineno__\x04Ú\x00Ȳ\x06å\x07__doc__\t/_frozen_importlib.ModuleSpec.__doc__:str#opaque\x06æ\x08__init__\t,_frozen_importlib.ModuleSpec.__init__#opaque\x06ç\x08__repr__\t,_frozen_importlib.ModuleSpec.__repr__#opaque\x06è\x06__eq__\t*_frozen_importlib.ModuleSpec.__eq__#opaque\x06é\x06cached\t*_frozen_importlib.ModuleSpec.cached#opaque\x06ê\x06parent\t*_frozen_importlib.ModuleSpec.parent#opaque\x06ë\x0chas_location\t0_frozen_importlib.ModuleSpec.has_location#opaque\x06ì\x15__static_attributes__\x04\x00\x00\x17\x06î\x08__dict__\x04\x00\x00\x18\x06ð\x0b__weakref__\x04\x00\x00\x19\x06ñ\x08__hash__\x00" 0, .bool true, .bool true, vs "" 242] 1 }
noncomputable def oa19 (P : Params) : Obj := { cls := .type "list", data := .seq #[] }
noncomputable def oa20 (P : Params) : Obj := { cls := .type "dict", data := .dict #[en P "name" 208 (vs "_sre" 207), en P "loader" 209 (.ref 14), en P "origin" 210 (vs "built-in" 184), en P "loader_state" 211 (.none), en P "submodule_search_locations" 212 (.none), en P "_uninitialized_submodules" 213 (.ref 19), en P "_set_fileattr" 214 (.bool false), en P "_cached" 215 (.none), en P "_initializing" 243 (.bool false)] 9 }
noncomputable def oa21 (P : Params) : Obj := { cls := .type "dict", data := .dict #[en P "__module__" 227 (vs "_frozen_importlib" 217), en P "__firstlineno__" 228 (.int 562 218), en P "__doc__" 229 (.builtin "_frozen_importlib.ModuleSpec.__doc__:str#opaque"), en P "__init__" 230 (.builtin "_frozen_importlib.ModuleSpec.__init__#opaque"), en P "__repr__" 231 (.builtin "_frozen_importlib.ModuleSpec.__repr__#opaque"), en P "__eq__" 232 (.builtin "_frozen_importlib.ModuleSpec.__eq__#opaque"), en P "cached" 233 (.builtin "_frozen_importlib.ModuleSpec.cached#opaque"), en P "parent" 234 (.builtin "_frozen_importlib.ModuleSpec.parent#opaque"), en P "has_location" 235 (.builtin "_frozen_importlib.ModuleSpec.has_location#opaque"), en P "__static_attributes__" 236 (.ref 23), en P "__dict__" 238 (.ref 24), en P "__weakref__" 240 (.ref 25), en P "__hash__" 241 (.none)] 13 }
noncomputable def oa22 (P : Params) : Obj := { cls := .type "type", data := .cls { name := Str.ofString "ModuleSpec", bases := [.type "object"], mro := [.ref 22, .type "object"], ns := 21, qualname := Str.ofString "ModuleSpec" } }
noncomputable def oa23 (P : Params) : Obj := nO 219 ["_cached", "_set_fileattr", "_uninitialized_submodules", "loader", "loader_state", "name", "origin", "submodule_search_locations"]
noncomputable def oa24 (P : Params) : Obj := { cls := .type "getset_descriptor", data := .fields #[vs "__dict__" 237, .ref 22, .builtin "function.__dict__", .builtin "function.__dict__#set"] }
noncomputable def oa25 (P : Params) : Obj := { cls := .type "getset_descriptor", data := .fields #[vs "__weakref__" 239, .ref 22, .builtin "ExceptionGroup.__weakref__", .none] }
noncomputable def oa26 (P : Params) : Obj := { cls := .ref 22, dict := some 20 }
noncomputable def oa27 (P : Params) : Obj := { cls := .none, data := .seq #[.int 11 0, .str { cps := #[6, 247, 8, 95, 95, 110, 97, 109, 101, 95, 95, 6, 246, 4, 95, 115, 114, 101, 6, 248, 7, 95, 95, 100, 111, 99, 95, 95, 0, 6, 250, 11, 95, 95, 112, 97, 99, 107, 97, 103, 101, 95, 95, 6, 249, 0, 6, 251, 10, 95, 95, 108, 111, 97, 100, 101, 114, 95, 95, 4, 0, 0, 14, 6, 252, 8, 95, 95, 115, 112, 101, 99, 95, 95, 4, 0, 0, 26, 6, 253, 7, 99, 111, 109, 112, 105, 108, 101, 9, 12, 95, 115, 114, 101, 46, 99, 111, 109, 112, 105, 108, 101, 6, 254, 8, 116, 101, 109, 112, 108, 97, 116, 101, 9, 13, 95, 115, 114, 101, 46, 116, 101, 109, 112, 108, 97, 116, 101, 6, 255, 11, 103, 101, 116, 99, 111, 100, 101, 115, 105, 122, 101, 9, 16, 95, 115, 114, 101, 46, 103, 101, 116, 99, 111, 100, 101, 115, 105, 122, 101, 6, 256, 13, 97, 115, 99, 105, 105, 95, 105, 115, 99, 97, 115, 101, 100, 9, 18, 95, 115, 114, 101, 46, 97, 115, 99, 105, 105, 95, 105, 115, 99, 97, 115, 101, 100, 6, 257, 15, 117, 110, 105, 99, 111, 100, 101, 95, 105, 115, 99, 97, 115, 101, 100, 9, 20, 95, 115, 114, 101, 46, 117, 110, 105, 99, 111, 100, 101, 95, 105, 115, 99, 97, 115, 101, 100, 6, 258, 13, 97, 115, 99, 105, 105, 95, 116, 111, 108, 111, 119, 101, 114, 9, 18, 95, 115, 114, 101, 46, 97, 115, 99, 105, 105, 95, 116, 111, 108, 111, 119, 101, 114, 6, 259, 15, 117, 110, 105, 99, 111, 100, 101, 95, 116, 111, 108, 111, 119, 101, 114, 9, 20, 95, 115, 114, 101, 46, 117, 110, 105, 99, 111, 100, 101, 95, 116, 111, 108, 111, 119, 101, 114, 6, 261, 5, 77, 65, 71, 73, 67, 4, 260, 0, 20230612, 6, 263, 8, 67, 79, 68, 69, 83, 73, 90, 69, 4, 262, 0, 4, 6, 265, 9, 77, 65, 88, 82, 69, 80, 69, 65, 84, 4, 264, 0, 4294967295, 6, 267, 9, 77, 65, 88, 71, 82, 79, 85, 80, 83, 4, 266, 0, 1073741823, 6, 269, 9, 99, 111, 112, 121, 114, 105, 103, 104, 116, 6, 268, 53, 32, 83, 82, 69, 32, 50, 46, 50, 46, 50, 32, 67, 111, 112, 121, 114, 105, 103, 104, 116, 32, 40, 99, 41, 32, 49, 57, 57, 55, 45, 50, 48, 48, 50, 32, 98, 121, 32, 83, 101, 99, 114, 101, 116, 32, 76, 97, 98, 115, 32, 65, 66, 32] } 0, .bool true, .bool false, vs "_sre" 271] }
noncomputable def ob28 (P : Params) : Obj := tO []
noncomputable def ob30 (P : Params) : Obj := { cls := .type "code", data := .fields #[vs "<module>" 277, vs "<module>" 278, vs "/claim/cut.py" 279, .int 1 0, .int 0 0, .int 0 0, .int 0 0, .int 0 0, .ref 28, .bool false, .int 276 0, .ref 29, .none, .none, .none, .none, .int 280 0, .int 1 0, vs "/claim/cut.py" 281] }
noncomputable def ob31 (P : Params) : Obj := { cls := .type "frame", slots := #[some (.ref 30), some (.ref 3), some (.ref 3), none, some (vs "__main__" 164), none, some (.ref 0)] }
noncomputable def oc32 (P : Params) : Obj := tO []
noncomputable def oc33 (P : Params) : Obj := fO []
noncomputable def oc34 (P : Params) : Obj := nO 285 ["k"]
noncomputable def oc35 (P : Params) : Obj := tO []
noncomputable def oc36 (P : Params) : Obj := mO (dT 1) "_wall"
noncomputable def oc37 (P : Params) : Obj := cO "_wall" "_wall" 282 2 1 0 0 3 32 286 287
noncomputable def oc38 (P : Params) : Obj := gO (dT 1) "_wall" (.none) (.none) none "__main__" 164 37
noncomputable def oc39 (P : Params) : Obj := tO []
noncomputable def oc40 (P : Params) : Obj := fO []
noncomputable def oc41 (P : Params) : Obj := nO 292 ["x", "t", "f"]
noncomputable def oc42 (P : Params) : Obj := tO []
noncomputable def oc43 (P : Params) : Obj := mO (dT 2) "_pe_doc"
noncomputable def oc44 (P : Params) : Obj := cO "_pe_doc" "_pe_doc" 289 5 1 0 0 3 39 295 296
noncomputable def oc45 (P : Params) : Obj := gO (dT 2) "_pe_doc" (.none) (.none) none "__main__" 164 44
noncomputable def oc46 (P : Params) : Obj := { cls := .type "list", data := .seq #[.int 14 303, .int 14 304, .int 4 305, .int 1 306, .int 1 307, .int 9 308, .int 0 309, .int 64 310, .int 0 311, .int 1342177280 312, .int 0 313, .int 0 314, .int 0 315, .int 0 316, .int 0 317, .int 17 318, .int 0 319, .int 13 320, .int 11 321, .int 9 322, .int 0 323, .int 64 324, .int 0 325, .int 1342177280 326, .int 0 327, .int 0 328, .int 0 329, .int 0 330, .int 0 331, .int 17 332, .int 1 333, .int 1 334] }
noncomputable def oc47 (P : Params) : Obj := { cls := .type "dict", data := .dict #[] }
noncomputable def oc48 (P : Params) : Obj := { cls := .type "tuple", data := .seq #[.none, .none] }
noncomputable def oc49 (P : Params) : Obj := { cls := .type "tuple", data := .seq #[.int 14 0, .int 14 0, .int 4 0, .int 1 0, .int 1 0, .int 9 0, .int 0 0, .int 64 0, .int 0 0, .int 1342177280 0, .int 0 0, .int 0 0, .int 0 0, .int 0 0, .int 0 0, .int 17 0, .int 0 0, .int 13 0, .int 11 0, .int 9 0, .int 0 0, .int 64 0, .int 0 0, .int 1342177280 0, .int 0 0, .int 0 0, .int 0 0, .int 0 0, .int 0 0, .int 17 0, .int 1 0, .int 1 0] }
noncomputable def oc50 (P : Params) : Obj := { cls := .type "re.Pattern", data := .fields #[vs "([&~|])" 301, .int 32 336, .int 1 0, .none, .none, .ref 49, .int 0 0] }
noncomputable def oc51 (P : Params) : Obj := tO []
noncomputable def oc52 (P : Params) : Obj := fO []
noncomputable def oc53 (P : Params) : Obj := nO 341 ["pat", "STAR", "parts"]
noncomputable def oc54 (P : Params) : Obj := tO []
noncomputable def oc55 (P : Params) : Obj := mO (dT 5) "translate"
noncomputable def oc56 (P : Params) : Obj := cO "translate" "translate" 338 15 1 0 0 3 51 344 345
noncomputable def oc57 (P : Params) : Obj := gO (dT 5) "translate" (.none) (.none) (some 346) "cpy313.fnmatch" 298 56
noncomputable def oc58 (P : Params) : Obj := { cls := .type "bytes_iterator", data := .fields #[.none, .int 24 0] }
noncomputable def oc59 (P : Params) : Obj := { cls := .type "dict", data := .dict #[{ hash := 40, key := .int 40 351, val := vs "\\(" 355 }, { hash := 41, key := .int 41 357, val := vs "\\)" 361 }, { hash := 91, key := .int 91 363, val := vs "\\[" 367 }, { hash := 93, key := .int 93 369, val := vs "\\]" 373 }, { hash := 123, key := .int 123 375, val := vs "\\{" 379 }, { hash := 125, key := .int 125 381, val := vs "\\}" 385 }, { hash := 63, key := .int 63 387, val := vs "\\?" 391 }, { hash := 42, key := .int 42 393, val := vs "\\*" 397 }, { hash := 43, key := .int 43 399, val := vs "\\+" 403 }, { hash := 45, key := .int 45 405, val := vs "\\-" 409 }, { hash := 124, key := .int 124 411, val := vs "\\|" 415 }, { hash := 94, key := .int 94 417, val := vs "\\^" 421 }, { hash := 36, key := .int 36 423, val := vs "\\$" 427 }, { hash := 92, key := .int 92 429, val := vs "\\\\" 433 }, { hash := 46, key := .int 46 435, val := vs "\\." 439 }, { hash := 38, key := .int 38 441, val := vs "\\&" 445 }, { hash := 126, key := .int 126 447, val := vs "\\~" 451 }, { hash := 35, key := .int 35 453, val := vs "\\#" 457 }, { hash := 32, key := .int 32 459, val := vs "\\ " 463 }, { hash := 9, key := .int 9 465, val := vs "\\\t" 469 }, { hash := 10, key := .int 10 471, val := vs "\\\n" 475 }, { hash := 13, key := .int 13 477, val := vs "\\\x0d" 481 }, { hash := 11, key := .int 11 483, val := vs "\\\x0b" 487 }, { hash := 12, key := .int 12 489, val := vs "\\\x0c" 493 }] 24 }
noncomputable def oc60 (P : Params) : Obj := { cls := .type "dict", data := .dict #[] 2 }
noncomputable def oc61 (P : Params) : Obj := tO []
noncomputable def oc62 (P : Params) : Obj := { cls := .type "StopIteration", data := .fields #[.ref 61, .none, .none, .none, .bool false, .none] }
noncomputable def oaH (P : Params) : Heap := ⟨⟨[boot_o_0 P, oa1 P, oa2 P, oa3 P, boot_o_4 P, boot_o_5 P, boot_o_6 P, boot_o_7 P, boot_o_8 P, boot_o_9 P, boot_o_10 P, oa11 P, oa12 P, oa13 P, oa14 P, oa15 P, oa16 P, oa17 P, oa18 P, oa19 P, oa20 P, oa21 P, oa22 P, oa23 P, oa24 P, oa25 P, oa26 P, oa27 P]⟩, {}⟩
noncomputable def obH (P : Params) : Heap := ⟨⟨[boot_o_0 P, oa1 P, oa2 P, oa3 P, boot_o_4 P, boot_o_5 P, boot_o_6 P, boot_o_7 P, boot_o_8 P, boot_o_9 P, boot_o_10 P, oa11 P, oa12 P, oa13 P, oa14 P, oa15 P, oa16 P, oa17 P, oa18 P, oa19 P, oa20 P, oa21 P, oa22 P, oa23 P, oa24 P, oa25 P, oa26 P, oa27 P, ob28 P, fO [], ob30 P, ob31 P]⟩, {}⟩
noncomputable def ocH (P : Params) : Heap := ⟨⟨[boot_o_0 P, oa1 P, oa2 P, { cls := .type "dict", data := .dict #[en P "__name__" 165 (vs "re" 348), en P "__doc__" 166 (.none), en P "__package__" 167 (.none), en P "__loader__" 168 (.builtin "__main__.__loader__#opaque"), en P "__spec__" 169 (.none), en P "__annotations__" 170 (.ref 6), en P "__builtins__" 171 (.ref 4), en P "__file__" 173 (vs "/claim/cut.py" 172), en P "__cached__" 174 (.none), en P "_sre" 275 (.ref 12), en P "_wall" 288 (.ref 38), en P "_pe_doc" 297 (.ref 45), en P "_twin_re_1" 337 (.ref 50), en P "translate" 347 (.ref 57), en P "_special_chars_map" 495 (.ref 59)] 15 }, boot_o_4 P, boot_o_5 P, boot_o_6 P, boot_o_7 P, boot_o_8 P, boot_o_9 P, boot_o_10 P, oa11 P, oa12 P, oa13 P, oa14 P, oa15 P, oa16 P, oa17 P, oa18 P, oa19 P, oa20 P, oa21 P, oa22 P, oa23 P, oa24 P, oa25 P, oa26 P, oa27 P, ob28 P, { cls := .none, data := .fields #[.int 2 0, .int 0 0, .ref 37, .int 5 0, .int 0 0, .ref 44, .int 15 0, .int 0 0, .ref 56] }, ob30 P, ob31 P, oc32 P, oc33 P, oc34 P, oc35 P, oc36 P, oc37 P, oc38 P, oc39 P, oc40 P, oc41 P, oc42 P, oc43 P, oc44 P, oc45 P, oc46 P, oc47 P, oc48 P, oc49 P, oc50 P, oc51 P, oc52 P, oc53 P, oc54 P, oc55 P, oc56 P, oc57 P, oc58 P, oc59 P, oc60 P, oc61 P, oc62 P]⟩, {}⟩
noncomputable def odH (P : Params) : Heap := ⟨⟨[boot_o_0 P, oa1 P, oa2 P, { cls := .type "dict", data := .dict #[en P "__name__" 165 (vs "law_ij0215_01" 792), en P "__doc__" 166 (.none), en P "__package__" 167 (.none), en P "__loader__" 168 (.builtin "__main__.__loader__#opaque"), en P "__spec__" 169 (.none), en P "__annotations__" 170 (.ref 6), en P "__builtins__" 171 (.ref 4), en P "__file__" 173 (vs "/claim/cut.py" 172), en P "__cached__" 174 (.none), en P "_sre" 275 (.ref 12), en P "_wall" 288 (.ref 38), en P "_pe_doc" 297 (.ref 45), en P "_twin_re_1" 337 (.ref 50), en P "translate" 347 (.ref 57), en P "_special_chars_map" 495 (.ref 59), en P "escape" 502 (.ref 69), en P "_translate" 523 (.ref 76), en P "_join_translated_parts" 536 (.ref 83), en P "_plain_name" 547 (.ref 90), en P "ABCMeta" 573 (.ref 107), en P "_ABCLike" 616 (.ref 140), en P "_abc_plain_meta" 623 (.ref 149), en P "fspath" 635 (.ref 156), en P "_splitext" 652 (.ref 163), en P "_get_sep" 661 (.ref 170), en P "split" 673 (.ref 177), en P "splitext" 682 (.ref 184), en P "splitroot" 729 (.ref 194), en P "normpath" 745 (.ref 201), en P "_buffer" 755 (.ref 208), en P "_truth" 763 (.ref 215), en P "_B64" 765 (.bytes #[65, 66, 67, 68, 69, 70, 71, 72, 73, 74, 75, 76, 77, 78, 79, 80, 81, 82, 83, 84, 85, 86, 87, 88, 89, 90, 97, 98, 99, 100, 101, 102, 103, 104, 105, 106, 107, 108, 109, 110, 111, 112, 113, 114, 115, 116, 117, 118, 119, 120, 121, 122, 48, 49, 50, 51, 52, 53, 54, 55, 56, 57, 43, 47] 764), en P "b2a_base64" 779 (.ref 223), en P "b64encode" 791 (.ref 231), en P "_law_item" 803 (.ref 238), en P "_law_drawn" 814 (.ref 245), en P "_law_rows" 829 (.ref 252), en P "_law_octets" 842 (.ref 259), en P "_law_figures" 855 (.ref 266), en P "_law_spelled" 861 (.ref 271), en P "_law_written" 867 (.ref 276), en P "_law_names" 876 (.ref 283), en P "_law_straight" 887 (.ref 290), en P "_law_halves" 896 (.ref 297), en P "_law_stem" 906 (.ref 304), en P "_law_pieces" 917 (.ref 311), en P "_law_fits" 927 (.ref 318), en P "_law_takes" 938 (.ref 325), en P "_law_means" 950 (.ref 332), en P "_law_parted" 956 (.ref 337), en P "_law_right" 971 (.ref 344), en P "_law_both" 983 (.ref 351), en P "law" 991 (.ref 358)] 53 }, boot_o_4 P, boot_o_5 P, boot_o_6 P, boot_o_7 P, boot_o_8 P, boot_o_9 P, boot_o_10 P, oa11 P, oa12 P, oa13 P, oa14 P, oa15 P, oa16 P, oa17 P, oa18 P, oa19 P, oa20 P, oa21 P, oa22 P, oa23 P, oa24 P, oa25 P, oa26 P, oa27 P, ob28 P, { cls := .none, data := .fields #[.int 2 0, .int 0 0, .ref 37, .int 5 0, .int 0 0, .ref 44, .int 15 0, .int 0 0, .ref 56, .int 25 0, .int 0 0, .ref 68, .int 32 0, .int 0 0, .ref 75, .int 94 0, .int 0 0, .ref 82, .int 122 0, .int 0 0, .ref 89, .int 128 0, .int 0 0, .ref 96, .int 133 0, .int 0 0, .ref 115, .int 148 0, .int 0 0, .ref 148, .int 152 0, .int 0 0, .ref 155, .int 169 0, .int 0 0, .ref 162, .int 187 0, .int 0 0, .ref 169, .int 192 0, .int 0 0, .ref 176, .int 202 0, .int 0 0, .ref 183, .int 212 0, .int 0 0, .ref 193, .int 229 0, .int 0 0, .ref 200, .int 256 0, .int 0 0, .ref 207, .int 263 0, .int 0 0, .ref 214, .int 269 0, .int 0 0, .ref 222, .int 292 0, .int 0 0, .ref 230, .int 305 0, .int 0 0, .ref 237, .int 310 0, .int 0 0, .ref 244, .int 318 0, .int 0 0, .ref 251, .int 325 0, .int 0 0, .ref 258, .int 331 0, .int 0 0, .ref 265, .int 342 0, .int 0 0, .ref 270, .int 345 0, .int 0 0, .ref 275, .int 351 0, .int 0 0, .ref 282, .int 359 0, .int 0 0, .ref 289, .int 378 0, .int 0 0, .ref 296, .int 385 0, .int 0 0, .ref 303, .int 391 0, .int 0 0, .ref 310, .int 404 0, .int 0 0, .ref 317, .int 411 0, .int 0 0, .ref 324, .int 423 0, .int 0 0, .ref 331, .int 434 0, .int 0 0, .ref 336, .int 444 0, .int 0 0, .ref 343, .int 459 0, .int 0 0, .ref 350, .int 465 0, .int 0 0, .ref 357] }, ob30 P, ob31 P, oc32 P, oc33 P, oc34 P, oc35 P, oc36 P, oc37 P, oc38 P, oc39 P, oc40 P, oc41 P, oc42 P, oc43 P, oc44 P, oc45 P, oc46 P, oc47 P, oc48 P, oc49 P, oc50 P, oc51 P, oc52 P, oc53 P, oc54 P, oc55 P, oc56 P, oc57 P, oc58 P, oc59 P, oc60 P, oc61 P, oc62 P, tO [], fO [], nO 499 ["pattern"], tO [], mO (dT 8) "escape", cO "escape" "escape" 496 25 1 0 0 3 63 500 501, gO (dT 8) "escape" (.none) (.none) none "re" 348 68, tO [], fO [], nO 508 ["pat", "STAR", "QUESTION_MARK", "res", "add", "i", "n", "c", "j", "stuff", "chunks", "k", "chunk"], tO [], mO (dT 10) "_translate", cO "_translate" "_translate" 505 32 3 0 0 3 70 521 522, gO (dT 10) "_translate" (.none) (.none) none "cpy313.fnmatch" 503 75, tO [], fO [], nO 527 ["inp", "STAR", "res", "add", "i", "n", "fixed"], tO [], mO (dT 11) "_join_translated_parts", cO "_join_translated_parts" "_join_translated_parts" 524 94 2 0 0 3 77 534 535, gO (dT 11) "_join_translated_parts" (.none) (.none) none "cpy313.fnmatch" 503 82, tO [], fO [], nO 542 ["x", "what", "kind"], tO [], mO (dT 13) "_plain_name", cO "_plain_name" "_plain_name" 539 122 2 0 0 3 84 545 546, gO (dT 13) "_plain_name" (.none) (.none) none "os" 537 89, { cls := .type "tuple", data := .seq #[.type "type"] }, { cls := .type "builtin_function_or_method", data := .fields #[.builtin "type.__prepare__", .type "type"] }, { cls := .type "dict", data := .dict #[en P "__module__" 557 (vs "abc" 548), en P "__qualname__" 559 (vs "ABCMeta" 558), en P "__firstlineno__" 561 (.int 128 560), en P "register" 569 (.ref 104), en P "__static_attributes__" 570 (.ref 105)] 5 }, tO [], { cls := .none, data := .fields #[.int 130 0, .int 4 0, .ref 103] }, { cls := .type "code", data := .fields #[vs "ABCMeta" 552, vs "ABCMeta" 553, vs "/claim/cut.py" 554, .int 128 0, .int 0 0, .int 0 0, .int 0 0, .int 0 0, .ref 94, .bool false, .int 276 0, .ref 95, .none, .none, .none, .none, .int 555 0, .int 128 0, vs "/claim/cut.py" 556] }, { cls := .type "frame", slots := #[some (.ref 96), some (.ref 3), some (.ref 93), none, some (vs "abc" 548), none, some (.ref 0)] }, tO [], fO [], nO 565 ["cls", "subclass"], tO [], mO (dC 15 0) "ABCMeta.register", cO "register" "ABCMeta.register" 562 130 2 0 0 3 98 567 568, gO (dC 15 0) "ABCMeta.register" (.none) (.none) none "abc" 548 103, tO [], { cls := .type "dict", data := .dict #[en P "__module__" 557 (vs "abc" 548), en P "__firstlineno__" 561 (.int 128 560), en P "register" 569 (.ref 104), en P "__static_attributes__" 570 (.ref 105), en P "__doc__" 571 (.none)] 2 }, { cls := .type "type", data := .cls { name := Str.ofString "ABCMeta", bases := [.type "type"], mro := [.ref 107, .type "type", .type "object"], ns := 106, qualname := Str.ofString "ABCMeta", subclasses := [.ref 140] }, slots := #[some (.ref 91), none, some (vs "ABCMeta" 550), some (vs "ABCMeta" 558), some (.builtin "type.__new__"), some (.bool true)] }, { cls := .type "super", data := .fields #[.ref 107, .ref 107, .ref 107] }, { cls := .type "builtin_function_or_method", data := .fields #[.builtin "object.__init_subclass__", .ref 107] }, { cls := .type "tuple", data := .seq #[.ref 107] }, { cls := .type "builtin_function_or_method", data := .fields #[.builtin "type.__prepare__", .type "type"] }, { cls := .type "dict", data := .dict #[en P "__module__" 583 (vs "collections.abc" 574), en P "__qualname__" 585 (vs "_ABCLike" 584), en P "__firstlineno__" 587 (.int 133 586), en P "__instancecheck__" 596 (.ref 123), en P "__subclasscheck__" 604 (.ref 130), en P "register" 612 (.ref 137), en P "__static_attributes__" 613 (.ref 138)] 7 }, tO [], { cls := .none, data := .fields #[.int 135 0, .int 4 0, .ref 122, .int 141 0, .int 4 0, .ref 129, .int 146 0, .int 4 0, .ref 136] }, { cls := .type "code", data := .fields #[vs "_ABCLike" 578, vs "_ABCLike" 579, vs "/claim/cut.py" 580, .int 133 0, .int 0 0, .int 0 0, .int 0 0, .int 0 0, .ref 113, .bool false, .int 276 0, .ref 114, .none, .none, .none, .none, .int 581 0, .int 133 0, vs "/claim/cut.py" 582] }, { cls := .type "frame", slots := #[some (.ref 115), some (.ref 3), some (.ref 112), none, some (vs "collections.abc" 574), none, some (.ref 0)] }, tO [], fO [], nO 591 ["cls", "instance", "C"], tO [], mO (dC 17 0) "_ABCLike.__instancecheck__", cO "__instancecheck__" "_ABCLike.__instancecheck__" 588 135 2 0 0 3 117 594 595, gO (dC 17 0) "_ABCLike.__instancecheck__" (.none) (.none) none "collections.abc" 574 122, tO [], fO [], nO 600 ["cls", "C"], tO [], mO (dC 17 1) "_ABCLike.__subclasscheck__", cO "__subclasscheck__" "_ABCLike.__subclasscheck__" 597 141 2 0 0 3 124 602 603, gO (dC 17 1) "_ABCLike.__subclasscheck__" (.none) (.none) none "collections.abc" 574 129, tO [], fO [], nO 608 ["cls", "subclass"], tO [], mO (dC 17 2) "_ABCLike.register", cO "register" "_ABCLike.register" 605 146 2 0 0 3 131 610 611, gO (dC 17 2) "_ABCLike.register" (.none) (.none) none "collections.abc" 574 136, tO [], { cls := .type "dict", data := .dict #[en P "__module__" 583 (vs "collections.abc" 574), en P "__firstlineno__" 587 (.int 133 586), en P "__instancecheck__" 596 (.ref 123), en P "__subclasscheck__" 604 (.ref 130), en P "register" 612 (.ref 137), en P "__static_attributes__" 613 (.ref 138), en P "__doc__" 614 (.none)] 2 }, { cls := .type "type", data := .cls { name := Str.ofString "_ABCLike", bases := [.ref 107], mro := [.ref 140, .ref 107, .type "type", .type "object"], ns := 139, qualname := Str.ofString "_ABCLike" }, slots := #[some (.ref 110), none, some (vs "_ABCLike" 576), some (vs "_ABCLike" 584), some (.builtin "type.__new__"), some (.bool true)] }, { cls := .type "super", data := .fields #[.ref 140, .ref 140, .ref 140] }, { cls := .type "builtin_function_or_method", data := .fields #[.builtin "object.__init_subclass__", .ref 140] }, tO [], fO [], nO 620 ["C"], tO [], mO (dT 18) "_abc_plain_meta", cO "_abc_plain_meta" "_abc_plain_meta" 617 148 1 0 0 3 143 621 622, gO (dT 18) "_abc_plain_meta" (.none) (.none) none "collections.abc" 574 148, tO [], fO [], nO 629 ["path", "kind", "hook", "given"], tO [], mO (dT 20) "fspath", cO "fspath" "fspath" 626 152 1 0 0 3 150 633 634, gO (dT 20) "fspath" (.none) (.none) none "os" 624 155, tO [], fO [], nO 641 ["p", "sep", "altsep", "extsep", "sepIndex", "altsepIndex", "dotIndex", "filenameIndex"], tO [], mO (dT 22) "_splitext", cO "_splitext" "_splitext" 638 169 4 0 0 3 157 649 650, gO (dT 22) "_splitext" (.none) (.none) (some 651) "cpy313.genericpath" 636 162, tO [], fO [], nO 658 ["path"], tO [], mO (dT 24) "_get_sep", cO "_get_sep" "_get_sep" 655 187 1 0 0 3 164 659 660, gO (dT 24) "_get_sep" (.none) (.none) none "cpy313.posixpath" 653 169, tO [], fO [], nO 665 ["p", "sep", "i", "head", "tail"], tO [], mO (dT 25) "split", cO "split" "split" 662 192 1 0 0 3 171 670 671, gO (dT 25) "split" (.none) (.none) (some 672) "cpy313.posixpath" 653 176, tO [], fO [], nO 677 ["p", "sep", "extsep"], tO [], mO (dT 26) "splitext", cO "splitext" "splitext" 674 202 1 0 0 3 178 680 681, gO (dT 26) "splitext" (.none) (.none) (some 651) "cpy313.posixpath" 653 183 (dT 22), { cls := .type "frame", data := .dict #[en P "x" 683 (.ref 163), en P "t" 685 (.type "function"), en P "f" 699 (.ref 163)] 3 }, nO 688 ["abc", "binascii", "collections.abc", "os", "re"], nO 707 ["abc", "binascii", "collections.abc", "os", "re"], tO [], fO [], nO 723 ["p", "sep", "empty"], tO [], mO (dT 28) "splitroot", cO "splitroot" "splitroot" 720 212 1 0 0 3 188 726 727, gO (dT 28) "splitroot" (.none) (.none) (some 728) "cpy313.posixpath" 653 193, tO [], fO [], nO 733 ["path", "sep", "dot", "dotdot", "_", "initial_slashes", "comps", "new_comps", "comp"], tO [], mO (dT 29) "normpath", cO "normpath" "normpath" 730 229 1 0 0 3 195 742 743, gO (dT 29) "normpath" (.none) (.none) (some 744) "cpy313.posixpath" 653 200, tO [], fO [], nO 751 ["data", "t"], tO [], mO (dT 31) "_buffer", cO "_buffer" "_buffer" 748 256 1 0 0 3 202 753 754, gO (dT 31) "_buffer" (.none) (.none) none "binascii" 746 207, tO [], fO [], nO 759 ["x", "t"], tO [], mO (dT 32) "_truth", cO "_truth" "_truth" 756 263 1 0 0 3 209 761 762, gO (dT 32) "_truth" (.none) (.none) none "binascii" 746 214, { cls := .type "dict", data := .dict #[en P "newline" 766 (.bool true)] 1 }, tO [], fO [], nO 770 ["data", "newline", "bin_data", "out", "leftbits", "leftchar", "b"], tO [], mO (dT 34) "b2a_base64", cO "b2a_base64" "b2a_base64" 767 269 1 1 1 3 217 777 778, gO (dT 34) "b2a_base64" (.none) (.ref 216) none "binascii" 746 222, { cls := .type "tuple", data := .seq #[.none] }, tO [], fO [], nO 785 ["s", "altchars", "encoded"], tO [], mO (dT 36) "b64encode", cO "b64encode" "b64encode" 782 292 2 0 0 3 225 788 789, gO (dT 36) "b64encode" (.ref 224) (.none) (some 790) "cpy313.base64" 780 230, tO [], fO [], nO 797 ["number", "left", "x", "items"], tO [], mO (dT 38) "_law_item", cO "_law_item" "_law_item" 794 305 1 0 0 3 232 801 802, gO (dT 38) "_law_item" (.none) (.none) none "law_ij0215_01" 792 237, tO [], fO [], nO 807 ["numbers", "pattern", "path", "number", "item"], tO [], mO (dT 39) "_law_drawn", cO "_law_drawn" "_law_drawn" 804 310 1 0 0 3 239 812 813, gO (dT 39) "_law_drawn" (.none) (.none) none "law_ij0215_01" 792 244, tO [], fO [], nO 818 ["numbers", "s", "place", "one", "first", "two", "last", "stars", "names"], tO [], mO (dT 40) "_law_rows", cO "_law_rows" "_law_rows" 815 318 2 0 0 3 246 827 828, gO (dT 40) "_law_rows" (.none) (.none) none "law_ij0215_01" 792 251, tO [], fO [], nO 833 ["figures", "octets", "k", "a", "b", "c", "d"], tO [], mO (dT 41) "_law_octets", cO "_law_octets" "_law_octets" 830 325 1 0 0 3 253 840 841, gO (dT 41) "_law_octets" (.none) (.none) none "law_ij0215_01" 792 258, tO [], fO [], nO 846 ["octets", "figures", "k", "hand", "value", "octet", "turn"], tO [], mO (dT 42) "_law_figures", cO "_law_figures" "_law_figures" 843 331 1 0 0 3 260 853 854, gO (dT 42) "_law_figures" (.none) (.none) none "law_ij0215_01" 792 265, tO [], fO [], mO (dT 43) "_law_spelled", eO "_law_spelled" "_law_spelled" 856 342 2 0 0 3 267 859 860, gO (dT 43) "_law_spelled" (.none) (.none) none "law_ij0215_01" 792 270, tO [], fO [], mO (dT 44) "_law_written", eO "_law_written" "_law_written" 862 345 3 0 0 3 272 865 866, gO (dT 44) "_law_written" (.none) (.none) none "law_ij0215_01" 792 275, tO [], fO [], nO 871 ["path", "names", "figure"], tO [], mO (dT 45) "_law_names", cO "_law_names" "_law_names" 868 351 1 0 0 3 277 874 875, gO (dT 45) "_law_names" (.none) (.none) none "law_ij0215_01" 792 282, tO [], fO [], nO 880 ["path", "slashes", "debts", "kept", "name"], tO [], mO (dT 46) "_law_straight", cO "_law_straight" "_law_straight" 877 359 1 0 0 3 284 885 886, gO (dT 46) "_law_straight" (.none) (.none) none "law_ij0215_01" 792 289, tO [], fO [], nO 891 ["path", "tail", "head"], tO [], mO (dT 47) "_law_halves", cO "_law_halves" "_law_halves" 888 378 1 0 0 3 291 894 895, gO (dT 47) "_law_halves" (.none) (.none) none "law_ij0215_01" 792 296, tO [], fO [], nO 900 ["path", "tail", "stem", "k"], tO [], mO (dT 48) "_law_stem", cO "_law_stem" "_law_stem" 897 385 2 0 0 3 298 904 905, gO (dT 48) "_law_stem" (.none) (.none) none "law_ij0215_01" 792 303, tO [], fO [], nO 910 ["text", "body", "star", "pieces", "k"], tO [], mO (dT 49) "_law_pieces", cO "_law_pieces" "_law_pieces" 907 391 1 0 0 3 305 915 916, gO (dT 49) "_law_pieces" (.none) (.none) none "law_ij0215_01" 792 310, tO [], fO [], nO 921 ["piece", "name", "at", "k"], tO [], mO (dT 50) "_law_fits", cO "_law_fits" "_law_fits" 918 404 3 0 0 3 312 925 926, gO (dT 50) "_law_fits" (.none) (.none) none "law_ij0215_01" 792 317, tO [], fO [], nO 931 ["pieces", "name", "at", "piece", "at_last"], tO [], mO (dT 51) "_law_takes", cO "_law_takes" "_law_takes" 928 411 2 0 0 3 319 936 937, gO (dT 51) "_law_takes" (.none) (.none) none "law_ij0215_01" 792 324, tO [], fO [], nO 942 ["pattern", "path", "reach", "figure", "after", "k"], tO [], mO (dT 52) "_law_means", cO "_law_means" "_law_means" 939 423 2 0 0 3 326 948 949, gO (dT 52) "_law_means" (.none) (.none) none "law_ij0215_01" 792 331, tO [], fO [], mO (dT 53) "_law_parted", eO "_law_parted" "_law_parted" 951 434 2 0 0 3 333 954 955, gO (dT 53) "_law_parted" (.none) (.none) none "law_ij0215_01" 792 336, tO [], fO [], nO 960 ["octets", "others", "pattern", "path", "first", "second", "told", "pieces", "row"], tO [], mO (dT 54) "_law_right", cO "_law_right" "_law_right" 957 444 2 0 0 3 338 969 970, gO (dT 54) "_law_right" (.none) (.none) none "law_ij0215_01" 792 343, tO [], fO [], nO 975 ["numbers", "s", "rows", "octets", "others", "cut"], tO [], mO (dT 55) "_law_both", cO "_law_both" "_law_both" 972 459 2 0 0 3 345 981 982, gO (dT 55) "_law_both" (.none) (.none) none "law_ij0215_01" 792 350, tO [], fO [], nO 987 ["script", "numbers"], tO [], mO (dT 56) "law", cO "law" "law" 984 465 1 0 0 3 352 989 990, gO (dT 56) "law" (.none) (.none) none "law_ij0215_01" 792 357]⟩, {}⟩
end
section
set_option maxRecDepth 1000000
set_option maxHeartbeats 0
noncomputable abbrev eM : Env := { scope := PR.main.scope, locals := mainNs, globals := mainNs, cells := [], code := .ref 30, frame := some 31 }
noncomputable abbrev bM : List Stmt := behindTheImports PR
noncomputable abbrev cM : Code := .body bM eM
noncomputable abbrev q0 : Pos := { line := 0, col := 0, endLine := 0, endCol := 0 }
noncomputable abbrev q1 : Pos := { line := 24, col := 0, endLine := 24, endCol := 18 }
noncomputable abbrev SA (w : World) (os : OsState) : Shared := ⟨oaH w.params, Array.mk [], {}, 276, os⟩
noncomputable abbrev SB (w : World) (os : OsState) : Shared := ⟨obH w.params, Array.mk [], {}, 282, os⟩
noncomputable abbrev SD (w : World) (os : OsState) : Shared := ⟨odH w.params, Array.mk [], {}, 992, os⟩
noncomputable abbrev SC (w : World) (os : OsState) : Shared := ⟨ocH w.params, Array.mk [], {}, 496, os⟩
theorem open0 (w : World) : (fencedOpening treeTable PR w 7196).map (fun s => (s.heap, s.gens, s.drawn, s.toks)) = some (oaH w.params, Array.mk [], {}, 276) := by
  unfold fencedOpening
  rw [PySem.W.Fast.te10274390034422433532, PySem.W.Fast.te1435165496053646825, PySem.W.Fast.te14289696077712309145]
  kernel_rfl
theorem size0 (w : World) : ((oaH w.params).isNs mainGlobals, (oaH w.params).objs.size, (oaH w.params).nsMap mainGlobals "__annotations__") = (true, 28, some (.ref 6)) := by
  kernel_rfl
theorem pre0 (w : World) (os : OsState) : topGo treeTable PR w 28 (some (.ref 6)) 12 (SA w os) (topStub PR) = some (SB w os, ⟨denote treeTable cM, cM, q0, [topFrame q0]⟩) := by
  rw [PySem.W.Fast.te15667345088766844465, PySem.W.Fast.te11892475500146522536]
  kernel_rfl
theorem block0 (w : World) (os : OsState) : segRun treeTable PR w 28 (some (.ref 6)) 1 1 (SB w os) (blockOf bM eM cM q0 [topFrame q0]) = some (.next, SB w os, cM, q0) := by
  rw [PySem.W.Fast.te14374325043358763698]
  kernel_rfl
theorem seven (b1 b2 : Bool) (w : World) (os : OsState) : segRun treeTable PR ((w.withFollow "comprehension-iter-twice" b1).withFollow "special-get-raises" b2) 28 (some (.ref 6)) 1 3000 (SB ((w.withFollow "comprehension-iter-twice" b1).withFollow "special-get-raises" b2) os) (piecesOf (bM.take 7) eM cM q0 [topFrame q0]) = some (.next, SC ((w.withFollow "comprehension-iter-twice" b1).withFollow "special-get-raises" b2) os, cM, q1) := by
  rw [PySem.W.Fast.te14374325043358763698]
  cases b1 <;> cases b2
  · kernel_rfl
  · kernel_rfl
  · kernel_rfl
  · kernel_rfl
end
section
set_option maxRecDepth 1000000
set_option maxHeartbeats 0
noncomputable def VW : Program := { PR with main := { PR.main with body := ([0,1,2,4,5,7,8,10,11,13,15,17,18,20,22,24,25,26,28,29,31,32,33,38,39,40,41,42,43,44,45,46,47,48,49,50,51,52,53,54,55,56] : List Nat).filterMap fun i => PR.main.body[i]? } }
noncomputable def LS : List Str := [Str.ofString "_twin_re_1", Str.ofString "_special_chars_map", Str.ofString "b2a_base64", Str.ofString "b64encode"]
theorem d_is : (defOf VW (Str.ofString "law")).isSome = true := by kernel_rfl
noncomputable def theD : DefRec × List (Str × PySem.Expr) := (defOf VW (Str.ofString "law")).get d_is
theorem d_eq : defOf VW PySem.Challenge.rw_ij0215_01.row.name = some (theD.1, theD.2) := by kernel_rfl
theorem a1 : PR.theDef PySem.Challenge.rw_ij0215_01.row.name = some (theD.1.params, theD.1.body, theD.1.scope) := by kernel_rfl
theorem a2 : kwWritten? theD.1.params.kwonlyargs theD.1.params.kw_defaults = some theD.2 := by kernel_rfl
theorem a3 : (!PySem.Challenge.rw_ij0215_01.row.writes || List.isEmpty PySem.Challenge.rw_ij0215_01.row.records) = true := by rfl
theorem a4 : (chainsOk VW && opensWell PR && (frees PySem.Challenge.rw_ij0215_01.row.toRowW && PySem.Challenge.rw_ij0215_01.row.within.isEmpty)) = true := by kernel_rfl
theorem a5 : PR.bare := ⟨rfl, rfl, rfl, rfl, rfl, by decide +kernel⟩
theorem a6 : PySem.Challenge.rw_ij0215_01.row.toRowW.promised := by w_witness2
theorem a7 : PySem.Challenge.rw_ij0215_01.wellSaid = true := by
  rw [PySem.W.Fast.te9446332074065402090]
  kernel_rfl
noncomputable def valK : Ob where
  fs := DL.map fun x => (true, sNs x.1, sBody x.1)
  bs := DL.map fun x S a b c d => some ((((sNs x.1).take x.2.2).map (·.1)).zip ([a, b, c, d].take x.2.2))
  misc := true
  spN := sNs "_law_spelled"
  spB := sBody "_law_spelled"
  spA := fun u v => pure [(Str.ofString "figures", u), (Str.ofString "last", v)]
noncomputable def KA : List Addr := [3, 56, 57, 59, 68, 69, 75, 76, 82, 83, 155, 156, 162, 163, 169, 170, 176, 177, 183, 184, 193, 194, 200, 201, 207, 208, 214, 215, 222, 223, 224, 230, 231, 237, 238, 244, 245, 251, 252, 258, 259, 265, 266, 270, 271, 275, 276, 282, 283, 289, 290, 296, 297, 303, 304, 310, 311, 317, 318, 324, 325, 331, 332, 336, 337, 343, 344, 350, 351, 357, 358]
noncomputable def HK : Hook where
  α := Ob
  obs s := obsK (kOf KA s.heap)
  val _ := valK
  says _ h := ∃ K : Frag, K.In h ∧ obsK K = valK
  of _ s e := ⟨_, kOf_in s.heap KA, e⟩
  keeps _ _ _ y k := let ⟨K, i, e⟩ := y; ⟨K, i.keeps k, e⟩
theorem run0 (b : Bool) (w : World) (os : OsState) : topRun treeTable PR (w.withFollow "special-get-raises" b) 28 (some (.ref 6)) 4000 (SC (w.withFollow "special-get-raises" b) os) (restOf (bM.drop 7) eM cM q1 [topFrame q0]) = some (SD (w.withFollow "special-get-raises" b) os) := by
  rw [PySem.W.Fast.te14082659384304107361]
  cases b
  · kernel_rfl
  · kernel_rfl
theorem end0 (w : World) (os : OsState) : (staticsOk (importedModules PR.main.body) (oaH w.params) (SD w os).heap && namesBound PR (SD w os).heap && gensDone (SD w os) && laidKept (oaH w.params) (SD w os).heap) = true := by
  rw [PySem.W.Fast.te5923862056798008813]
  kernel_rfl
theorem look0 (w : World) (os : OsState) : openSeen VW LS (importedModules PR.main.body) (fun s => xlAt VW [] s && recOk PySem.Challenge.rw_ij0215_01.row.toRowW.records s) true (SD w os) = openGood VW LS := by
  rw [PySem.W.Fast.te5923862056798008813, PySem.W.Fast.te4187177175401517315]
  kernel_rfl
theorem obs0 (w : World) (os : OsState) : HK.obs (SD w os) = valK := by
  kernel_rfl
end
theorem leftW (b1 b2 : Bool) (w : World) : (openEnds treeTable PR ((w.withFollow "comprehension-iter-twice" b1).withFollow "special-get-raises" b2) 7196).map (fun s => (openSeen VW LS (importedModules PR.main.body) (fun s => xlAt VW [] s && recOk PySem.Challenge.rw_ij0215_01.row.toRowW.records s) true s, HK.obs s)) = some (openGood VW LS, valK) := by
  have R := run0 b2 (w.withFollow "comprehension-iter-twice" b1)
  have S7 := seven b1 b2 w
  generalize (w.withFollow "comprehension-iter-twice" b1).withFollow "special-get-raises" b2 = W at R S7
  obtain ⟨⟨h, gs, d, k, os⟩, e, e'⟩ := Option.map_eq_some_iff.mp (open0 W)
  obtain ⟨rfl, rfl, rfl, rfl⟩ : h = oaH W.params ∧ gs = Array.mk [] ∧ d = {} ∧ k = 276 := by simpa only [Prod.mk.injEq] using e'
  obtain ⟨z1, z2, z3⟩ : _ ∧ _ ∧ _ := by simpa only [Prod.mk.injEq] using size0 W
  have T1 := piece_app (S7 os) (R os)
  rw [List.take_append_drop] at T1
  have T3 : topRun treeTable PR W 28 (some (.ref 6)) 7196 (SA W os) (topStub PR) = some (SD W os) := topRun_mono 183 _ _ _ _ (go_top (pre0 W os) (piece_block (block0 W os) T1))
  have t : topFrom treeTable PR W 7196 (SA W os) = some (SD W os) := by
    unfold topFrom
    rw [show ((SA W os).heap.isNs mainGlobals && (SA W os).gens.size == 0) = true by rw [z1]; rfl]
    show (topRun treeTable PR W (oaH W.params).objs.size ((oaH W.params).nsMap mainGlobals "__annotations__") 7196 (SA W os) (topStub PR)).bind _ = _
    rw [z2, z3, T3]
    show (match staticsOk (importedModules PR.main.body) (oaH W.params) (SD W os).heap && namesBound PR (SD W os).heap && gensDone (SD W os) && laidKept (oaH W.params) (SD W os).heap with | true => some (SD W os) | false => none) = _
    rw [end0 W os]
  unfold openEnds
  rw [e]
  show (topFrom treeTable PR W 7196 (SA W os)).map _ = _
  rw [t]
  exact congrArg some (Prod.ext (look0 W os) (obs0 W os))
theorem left0 : LeftO PR VW LS (fun s => xlAt VW [] s && recOk PySem.Challenge.rw_ij0215_01.row.toRowW.records s) HK.obs HK.val 7196 :=
  byRow2 "special-get-raises" (byRow2 "comprehension-iter-twice" (leftW false false) (leftW true false)) (byRow2 "comprehension-iter-twice" (leftW false true) (leftW true true))
section
set_option genSizeOf true
theorem bf {P : Prop} (h : false = true) : P := Bool.noConfusion h
theorem nos {α : Type} {a : α} {P : Prop} (h : (none : Option α) = some a) : P := nomatch h
noncomputable abbrev sAt (s0 : Shared) (h : Heap) (tk : Nat) : Shared := { s0 with heap := h, toks := tk }
section
variable (prog : Program) (w : World) (A : Around) (s0 : Shared)
def EV {α : Type} (t : Sem α) (h : Heap) (Q : α → Heap → Prop) : Prop :=
  ∀ tk, wpAny (model prog w) A t (fun a s' => ∃ h' tk', s' = (sAt s0 h' tk') ∧ Q a h') (fun _ _ => False) (sAt s0 h tk)
end
section
variable {prog : Program} {w : World} {A : Around} {s0 : Shared} {α β : Type} {h : Heap}
theorem EV.mono {t : Sem α} {Q Q' : α → Heap → Prop} (x : EV prog w A s0 t h Q) (y : ∀ a h', Q a h' → Q' a h') : EV prog w A s0 t h Q' := fun tk =>
  wpAny_mono (x tk) (fun _ _ ⟨h', tk', e, q⟩ => ⟨h', tk', e, y _ _ q⟩) fun _ _ z => z
theorem EV.bind {t : Sem α} {f : α → Sem β} {Q : β → Heap → Prop} (x : EV prog w A s0 t h (fun a h' => EV prog w A s0 (f a) h' Q)) : EV prog w A s0 (t >>= f) h Q := fun tk =>
  wpAny_bind (wpAny_mono (x tk) (fun _ _ ⟨_, tk', e, q⟩ => e ▸ q tk') fun _ _ z => z)
theorem EV.pure {a : α} {Q : α → Heap → Prop} (x : Q a h) : EV prog w A s0 (pure a) h Q := fun _ => wpAny_pure ⟨_, _, rfl, x⟩
theorem EV.out {t : Sem α} {Q : α → Heap → Prop} {Q' : α → Shared → Prop} {E : Value → Shared → Prop} {tk : Nat} (x : EV prog w A s0 t h Q)
    (y : ∀ a h' tk', Q a h' → Q' a (sAt s0 h' tk')) : wpAny (model prog w) A t Q' E (sAt s0 h tk) :=
  wpAny_mono (x tk) (fun _ _ ⟨h', tk', e, q⟩ => e ▸ y _ _ _ q) fun _ _ z => z.elim
theorem EV.hold {vs : List Value} {t : Sem α} {Q : α → Heap → Prop} (x : EV prog w A s0 t h Q) : EV prog w A s0 (holding vs t) h Q := fun tk => wpAny_holding (x tk)
theorem EV.stand {pos : Pos} {t : Sem α} {Q : α → Heap → Prop} (x : EV prog w A s0 t h Q) : EV prog w A s0 (standAt pos >>= fun _ => t) h Q := fun tk => wpAny_bind (wpAny_standAt (x tk))
end
theorem pst {s0 : Shared} {P : Heap → Prop} {h : Heap} {tk : Nat} (q : P h) : ∃ h' tk', sAt s0 h tk = (sAt s0 h' tk') ∧ P h' := ⟨_, _, rfl, q⟩
structure Room (k : Nat) (A : Around) : Prop where
  hd : A.handled = none
  dp : A.depth + k < 990
  un : A.units + 10 * k < 9000
theorem Room.less {k : Nat} {A : Around} (r : Room (k + 1) A) : Room k A := ⟨r.hd, by have := r.dp; exact Nat.le_of_lt ‹_›, by have := r.un; omega⟩
theorem Room.lim {k : Nat} {A : Around} (r : Room k A) : A.depth < recursionLimit := by have := r.dp; unfold recursionLimit; exact (qM (qC (qM qu this)) (by decide))
theorem Room.deeper {k : Nat} {A : Around} (r : Room (k + 1) A) (env : Env) : Room k (A.deeper env) :=
  ⟨r.hd, by have := r.dp; show A.depth + 1 + k < 990; exact (qM (qE (Eq.trans (Nat.add_comm _ _) (Nat.add_left_comm _ _ _))) this), by have := r.un; show A.units + 3 + 10 * k < 9000; omega⟩
inductive D where
  | undef
  | none
  | bool (b : Bool)
  | int (i : Int)
  | str (s : List Nat)
  | bytes (s : List UInt8)
  | list (xs : List D)
  | tup (xs : List D)
  | obj (a : Addr)
  | ty (n : String)
  | meth (i : Nat)
deriving Inhabited
noncomputable abbrev NK := List (Str × NameKind)
noncomputable abbrev FO := String → List D → Option D
noncomputable abbrev listO (vs : Array Value) (n : Nat) : Obj := { cls := .type "list", dict := none, data := .seq vs n, slots := #[] }
noncomputable abbrev tupO (vs : Array Value) (n : Nat) : Obj := { cls := .type "tuple", dict := none, data := .seq vs n, slots := #[] }
mutual
inductive V (h : Heap) (X : Addr → Prop) : Value → D → Prop
  | none : V h X .none .none
  | bool (b : Bool) : V h X (.bool b) (.bool b)
  | int (i : Int) (t : Tok) : V h X (.int i t) (.int i)
  | str (s : List Nat) (t : Tok) : V h X (.str ⟨s.toArray⟩ t) (.str s)
  | bytes (s : List UInt8) (t : Tok) : V h X (.bytes s.toArray t) (.bytes s)
  | list {a : Addr} {vs : List Value} {n : Nat} {ds : List D} : h.get? a = some (listO vs.toArray n) → ¬ X a → Vs h X vs ds → V h X (.ref a) (.list ds)
  | tup {a : Addr} {vs : List Value} {n : Nat} {ds : List D} : h.get? a = some (tupO vs.toArray n) → ¬ X a → Vs h X vs ds → V h X (.ref a) (.tup ds)
  | obj {a : Addr} {o : Obj} : h.get? a = some o → o.cls = .type "object" → ¬ X a → V h X (.ref a) (.obj a)
  | ty (n : String) : V h X (.type n) (.ty n)
inductive Vs (h : Heap) (X : Addr → Prop) : List Value → List D → Prop
  | nil : Vs h X [] []
  | cons {v : Value} {vs : List Value} {d : D} {ds : List D} : V h X v d → Vs h X vs ds → Vs h X (v :: vs) (d :: ds)
end
section
variable {h : Heap} {X : Addr → Prop} {v : Value}
noncomputable def Vi (h : Heap) (X : Addr → Prop) (v : Value) : D → Prop
  | .none => v = .none
  | .bool b => v = .bool b
  | .int i => ∃ t, v = .int i t
  | .str s => ∃ t, v = .str ⟨s.toArray⟩ t
  | .bytes s => ∃ t, v = .bytes s.toArray t
  | .list ds => ∃ a vs n, v = .ref a ∧ h.get? a = some (listO vs.toArray n) ∧ ¬ X a ∧ Vs h X vs ds
  | .tup ds => ∃ a vs n, v = .ref a ∧ h.get? a = some (tupO vs.toArray n) ∧ ¬ X a ∧ Vs h X vs ds
  | .obj a => v = .ref a ∧ ∃ o, h.get? a = some o ∧ o.cls = .type "object" ∧ ¬ X a
  | .ty n => v = .type n
  | _ => False
theorem V.inv {d : D} (x : V h X v d) : Vi h X v d :=
  V.casesOn (motive_1 := fun v d _ => Vi h X v d) x rfl (fun _ => rfl) (fun _ t => ⟨t, rfl⟩) (fun _ t => ⟨t, rfl⟩) (fun _ t => ⟨t, rfl⟩) (fun a b c => iEEEAAA _ _ _ rfl a b c) (fun a b c => iEEEAAA _ _ _ rfl a b c) (fun a b c => iAEAA rfl _ a b c) (fun _ => rfl)
theorem V.int_of {i : Int} (x : V h X v (.int i)) : ∃ t, v = .int i t := x.inv
theorem V.str_of {s : List Nat} (x : V h X v (.str s)) : ∃ t, v = .str ⟨s.toArray⟩ t := x.inv
theorem V.bytes_of {s : List UInt8} (x : V h X v (.bytes s)) : ∃ t, v = .bytes s.toArray t := x.inv
theorem V.bool_of {b : Bool} (x : V h X v (.bool b)) : v = .bool b := x.inv
theorem V.none_of (x : V h X v .none) : v = .none := x.inv
theorem V.ty_of {n : String} (x : V h X v (.ty n)) : v = .type n := x.inv
theorem V.obj_of {a : Addr} (x : V h X v (.obj a)) : v = .ref a ∧ ∃ o, h.get? a = some o ∧ o.cls = .type "object" ∧ ¬ X a := x.inv
theorem V.tup_of {ds : List D} (x : V h X v (.tup ds)) : ∃ a vs n, v = .ref a ∧ h.get? a = some (tupO vs.toArray n) ∧ ¬ X a ∧ Vs h X vs ds := x.inv
noncomputable def Vsi (h : Heap) (X : Addr → Prop) (vs : List Value) : List D → Prop
  | [] => vs = []
  | d :: ds => ∃ v r, vs = v :: r ∧ V h X v d ∧ Vs h X r ds
theorem Vs.inv {vs : List Value} {ds : List D} (x : Vs h X vs ds) : Vsi h X vs ds := Vs.casesOn (motive_2 := fun vs ds _ => Vsi h X vs ds) x rfl fun a b => iEEAA _ _ rfl a b
theorem Vs.nil_of {vs : List Value} (x : Vs h X vs []) : vs = [] := x.inv
theorem Vs.cons_of {vs : List Value} {d : D} {ds : List D} (x : Vs h X vs (d :: ds)) : ∃ v r, vs = v :: r ∧ V h X v d ∧ Vs h X r ds := x.inv
end
def Grow (h h' : Heap) : Prop := ∀ b o, h.get? b = some o → h'.get? b = some o
theorem Grow.refl (h : Heap) : Grow h h := fun _ _ e => e
theorem Grow.trans {a b c : Heap} (x : Grow a b) (y : Grow b c) : Grow a c := fun p o e => y p o (x p o e)
theorem Grow.push (h : Heap) (o : Obj) : Grow h (h.push o) := fun _ _ e => Heap.get?_push_of_some o e
def GrowX (X : Addr → Prop) (h h' : Heap) : Prop := ∀ b o, ¬ X b → h.get? b = some o → h'.get? b = some o
theorem Grow.x {h h' : Heap} (g : Grow h h') (X : Addr → Prop) : GrowX X h h' := fun b o _ e => g b o e
theorem GrowX.of_same {h h' : Heap} {a : Addr} {X : Addr → Prop} (s : Heap.SameBut a h h') (x : X a) : GrowX X h h' := fun b o nb e => (s.2 b (fun q => nb (q ▸ x))).trans e
theorem GrowX.of_ext {h h' : Heap} {a : Addr} {X : Addr → Prop} (s : Heap.ExtBut a h h') (x : X a) : GrowX X h h' := fun b o nb e => s b o (fun q => nb (q ▸ x)) e
theorem keep_both {h h' : Heap} {X : Addr → Prop} (g : GrowX X h h') : (∀ {v d}, V h X v d → V h' X v d) ∧ (∀ {vs ds}, Vs h X vs ds → Vs h' X vs ds) :=
  ⟨fun x => V.rec (motive_1 := fun v d _ => V h' X v d) (motive_2 := fun vs ds _ => Vs h' X vs ds) .none .bool .int .str .bytes (fun a n _ r => .list (g _ _ n a) n r) (fun a n _ r => .tup (g _ _ n a) n r) (fun a b n => .obj (g _ _ n a) b n) .ty .nil (fun _ _ a b => .cons a b) x,
   fun x => Vs.rec (motive_1 := fun v d _ => V h' X v d) (motive_2 := fun vs ds _ => Vs h' X vs ds) .none .bool .int .str .bytes (fun a n _ r => .list (g _ _ n a) n r) (fun a n _ r => .tup (g _ _ n a) n r) (fun a b n => .obj (g _ _ n a) b n) .ty .nil (fun _ _ a b => .cons a b) x⟩
theorem V.keep {h h' : Heap} {X : Addr → Prop} (g : GrowX X h h') {v : Value} {d : D} (x : V h X v d) : V h' X v d := (keep_both g).1 x
theorem Vs.keep {h h' : Heap} {X : Addr → Prop} (g : GrowX X h h') {vs : List Value} {ds : List D} (x : Vs h X vs ds) : Vs h' X vs ds := (keep_both g).2 x
theorem bar_both {h : Heap} {X Y : Addr → Prop} (g : ∀ a, (h.get? a).isSome = true → ¬ X a → ¬ Y a) : (∀ {v d}, V h X v d → V h Y v d) ∧ (∀ {vs ds}, Vs h X vs ds → Vs h Y vs ds) :=
  have s : ∀ {a : Addr} {o : Obj}, h.get? a = some o → (h.get? a).isSome = true := fun e => by rw [e]; rfl
  ⟨fun x => V.rec (motive_1 := fun v d _ => V h Y v d) (motive_2 := fun vs ds _ => Vs h Y vs ds) .none .bool .int .str .bytes (fun a n _ r => .list a (g _ (s a) n) r) (fun a n _ r => .tup a (g _ (s a) n) r) (fun a b n => .obj a b (g _ (s a) n)) .ty .nil (fun _ _ a b => .cons a b) x,
   fun x => Vs.rec (motive_1 := fun v d _ => V h Y v d) (motive_2 := fun vs ds _ => Vs h Y vs ds) .none .bool .int .str .bytes (fun a n _ r => .list a (g _ (s a) n) r) (fun a n _ r => .tup a (g _ (s a) n) r) (fun a b n => .obj a b (g _ (s a) n)) .ty .nil (fun _ _ a b => .cons a b) x⟩
theorem V.bar {h : Heap} {X Y : Addr → Prop} (g : ∀ a, (h.get? a).isSome = true → ¬ X a → ¬ Y a) {v : Value} {d : D} (x : V h X v d) : V h Y v d := (bar_both g).1 x
theorem Vs.bar {h : Heap} {X Y : Addr → Prop} (g : ∀ a, (h.get? a).isSome = true → ¬ X a → ¬ Y a) {vs : List Value} {ds : List D} (x : Vs h X vs ds) : Vs h Y vs ds := (bar_both g).2 x
theorem V.less {h : Heap} {X Y : Addr → Prop} (g : ∀ a, Y a → X a) {v : Value} {d : D} (x : V h X v d) : V h Y v d := x.bar fun a _ n y => n (g a y)
theorem Vs.less {h : Heap} {X Y : Addr → Prop} (g : ∀ a, Y a → X a) {vs : List Value} {ds : List D} (x : Vs h X vs ds) : Vs h Y vs ds := x.bar fun a _ n y => n (g a y)
section
variable {h : Heap} {X : Addr → Prop}
theorem Vs.ind {P : List Value → List D → Prop} (h0 : P [] []) (h1 : ∀ v vs d ds, V h X v d → Vs h X vs ds → P vs ds → P (v :: vs) (d :: ds)) {vs : List Value} {ds : List D} (x : Vs h X vs ds) : P vs ds := by
  induction ds generalizing vs with
  | nil => rw [x.nil_of]; exact h0
  | cons d ds ih => refine zEEAA (x.cons_of) ?_; rintro v r rfl a b; exact h1 v r d ds a b (ih b)
theorem Vs.length {vs : List Value} {ds : List D} (x : Vs h X vs ds) : vs.length = ds.length := x.ind (P := fun vs ds => vs.length = ds.length) rfl fun _ _ _ _ _ _ i => congrArg Nat.succ i
theorem Vs.append {vs ws : List Value} {ds es : List D} (x : Vs h X vs ds) (y : Vs h X ws es) : Vs h X (vs ++ ws) (ds ++ es) := x.ind (P := fun vs ds => Vs h X (vs ++ ws) (ds ++ es)) y fun _ _ _ _ a _ i => .cons a i
theorem Vs.get {vs : List Value} {ds : List D} (x : Vs h X vs ds) : ∀ {i : Nat} {d : D}, ds[i]? = some d → ∃ v, vs[i]? = some v ∧ V h X v d :=
  x.ind (P := fun vs ds => ∀ {i : Nat} {d : D}, ds[i]? = some d → ∃ v, vs[i]? = some v ∧ V h X v d) (fun {i d} e => nos e) fun v vs d ds a _ ih {i d'} e => match i, e with
    | 0, e => by injection e with e; exact iEA v rfl (e ▸ a)
    | i + 1, e => ih e
theorem Vs.drop {vs : List Value} {ds : List D} (x : Vs h X vs ds) : ∀ n, Vs h X (vs.drop n) (ds.drop n) :=
  x.ind (P := fun vs ds => ∀ n, Vs h X (vs.drop n) (ds.drop n)) (fun n => by simp only [List.drop_nil, List.drop_nil]; exact .nil) fun _ _ _ _ a r ih n => match n with
    | 0 => .cons a r
    | n + 1 => ih n
theorem Vs.take {vs : List Value} {ds : List D} (x : Vs h X vs ds) : ∀ n, Vs h X (vs.take n) (ds.take n) :=
  x.ind (P := fun vs ds => ∀ n, Vs h X (vs.take n) (ds.take n)) (fun n => by simp only [List.take_nil, List.take_nil]; exact .nil) fun _ _ _ _ a r ih n => match n with
    | 0 => .nil
    | n + 1 => .cons a (ih n)
theorem Vs.reverse {vs : List Value} {ds : List D} (x : Vs h X vs ds) : Vs h X vs.reverse ds.reverse :=
  x.ind (P := fun vs ds => Vs h X vs.reverse ds.reverse) .nil fun _ _ _ _ a _ ih => by simp only [List.reverse_cons, List.reverse_cons]; exact ih.append (.cons a .nil)
theorem Vs.set {vs : List Value} {ds : List D} (x : Vs h X vs ds) : ∀ (n : Nat) {v : Value} {d : D}, V h X v d → Vs h X (vs.set n v) (ds.set n d) :=
  x.ind (P := fun vs ds => ∀ (n : Nat) {v : Value} {d : D}, V h X v d → Vs h X (vs.set n v) (ds.set n d)) (fun n {v d} y => .nil) fun _ _ _ _ a r ih n {v d} y => match n with
    | 0 => .cons y r
    | n + 1 => .cons a (ih n y)
end
def W (h : Heap) (X : Addr → Prop) (v : Value) (d : D) : Prop := match d with
  | .list ds => ∃ a vs n, v = .ref a ∧ h.get? a = some (listO vs.toArray n) ∧ Vs h X vs ds
  | d => V h X v d
theorem V.w {h : Heap} {X : Addr → Prop} {v : Value} {d : D} (x : V h X v d) : W h X v d :=
  V.casesOn (motive_1 := fun v d _ => W h X v d) x .none .bool .int .str .bytes (fun a _ r => iEEEAA _ _ _ rfl a r) .tup .obj .ty
theorem W.grow {h h' : Heap} {X : Addr → Prop} {v : Value} {d : D} (x : W h X v d) (g : Grow h h') : W h' X v d := by
  cases d with
  | list ds => refine zEEEAA x ?_; clear x; intro a vs n e p y; exact iEEEAA a vs n e (g _ _ p) (y.keep (g.x X))
  | _ => exact V.keep (g.x X) x
end
section
set_option backward.match.sparseCases false
set_option genInjectivity false
mutual
inductive E where
  | var (i : Nat)
  | lit (d : D)
  | glob (x : String)
  | bin (o : Operator) (a b : E)
  | cmp (o : CmpOp) (a b : E)
  | and (a b : E)
  | or (a b : E)
  | not (a : E)
  | neg (a : E)
  | ite (c a b : E)
  | fn (f : String) (es : Es)
  | bi (f : String) (es : Es)
  | me (o : E) (f : String) (es : Es)
  | esc (e : E)
  | idx (a i : E)
  | sl (a lo hi : E)
  | rev (a : E)
  | list (es : Es)
  | tup (es : Es)
  | comp (elt it : E)
  | fstr (es : Es)
  | bad
inductive Es where
  | nil
  | cons (e : E) (r : Es)
end
mutual
inductive S where
  | asg (i : Nat) (e : E)
  | asgT (is : List Nat) (e : E)
  | asgP (is : List Nat) (es : Es)
  | setI (i : Nat) (k e : E)
  | aug (i : Nat) (o : Operator) (e : E)
  | app (i : Nat) (e : E)
  | pop (i : Nat)
  | add (j : Nat) (e : E)
  | ali (j i : Nat)
  | iff (c : E) (a b : Ss)
  | whl (c : E) (b : Ss)
  | for_ (i : Nat) (it : E) (b : Ss)
  | forR (i : Nat) (es : Es) (b : Ss)
  | ret (e : E)
  | brk
  | cont
  | asrt (e : E)
  | skip
  | stuck
inductive Ss where
  | nil
  | cons (s : S) (r : Ss)
end
abbrev small (a : Int) : Prop := a.natAbs < 2 ^ 60
abbrev fit (n : Nat) : Prop := n ≤ 1000000
abbrev few (n : Int) : Prop := 0 ≤ n ∧ n ≤ 1000
noncomputable def vInt : D → Option Int
  | .int i => some i
  | _ => none
noncomputable def vStr : D → Option (List Nat)
  | .str s => some s
  | _ => none
noncomputable def vByt : D → Option (List UInt8)
  | .bytes s => some s
  | _ => none
noncomputable def vLst : D → Option (List D)
  | .list s => some s
  | _ => none
noncomputable def vTup : D → Option (List D)
  | .tup s => some s
  | _ => none
noncomputable def vTy : D → Option String
  | .ty s => some s
  | _ => none
noncomputable def vObj : D → Option Addr
  | .obj s => some s
  | _ => none
noncomputable def intsOf : List D → Option (List Int)
  | [] => some []
  | d :: r => (vInt d).bind fun i => (intsOf r).map (i :: ·)
noncomputable def strsOf : List D → Option (List (List Nat))
  | [] => some []
  | d :: r => (vStr d).bind fun s => (strsOf r).map (s :: ·)
noncomputable def i2 (f : Int → Int → Option D) (a b : D) : Option D := (vInt a).bind fun x => (vInt b).bind fun y => f x y
noncomputable def addD (a b : D) : Option D := match a with
  | .int x => (vInt b).bind fun y => some (.int (x + y))
  | .str s => (vStr b).bind fun t => if fit (s.length + t.length) then some (.str (s ++ t)) else none
  | .list s => (vLst b).bind fun t => if fit (s.length + t.length) then some (.list (s ++ t)) else none
  | _ => none
noncomputable def mulD (a b : D) : Option D := match a with
  | .int x => (vInt b).bind fun n => if small n then some (.int (x * n)) else none
  | .list s => (vInt b).bind fun n => if few n ∧ s.length ≤ 1000 then some (.list (List.replicate n.toNat s).flatten) else none
  | .str s => (vInt b).bind fun n => if few n ∧ s.length ≤ 1000 then some (.str (List.replicate n.toNat s).flatten) else none
  | _ => none
noncomputable def bin : Operator → D → D → Option D
  | .Add, a, b => addD a b
  | .Mult, a, b => mulD a b
  | .Sub, a, b => i2 (fun a b => some (.int (a - b))) a b
  | .FloorDiv, a, b => i2 (fun a b => if b ≠ 0 ∧ small b then some (.int (a.fdiv b)) else none) a b
  | .Mod, a, b => i2 (fun a b => if b ≠ 0 then some (.int (a.fmod b)) else none) a b
  | .Pow, a, b => i2 (fun a n => if few n ∧ small a then some (.int (a ^ n.toNat)) else none) a b
  | .LShift, a, b => i2 (fun a n => if few n ∧ small a then some (.int (a * 2 ^ n.toNat)) else none) a b
  | .RShift, a, b => i2 (fun a n => if few n then some (.int (a.fdiv (2 ^ n.toNat))) else none) a b
  | .BitAnd, a, b => i2 (fun a b => some (.int (Builtin.bitAnd a b))) a b
  | .BitOr, a, b => i2 (fun a b => some (.int (Builtin.bitOr a b))) a b
  | _, _, _ => none
abbrev low (s : List Nat) : Prop := ∀ c ∈ s, c < 128
noncomputable def vTwo : List D → Option (List Nat × List Nat)
  | [x, y] => (vStr x).bind fun a => (vStr y).bind fun b => some (a, b)
  | _ => none
noncomputable def deqT (a b : List D) : Option Bool := (vTwo a).bind fun x => (vTwo b).bind fun y => if low x.1 ∧ low x.2 ∧ low y.1 ∧ low y.2 then some (decide (x.1 = y.1) && decide (x.2 = y.2)) else none
noncomputable def deqL (a b : List D) : Option Bool := (intsOf a).bind fun x => (intsOf b).bind fun y => some (decide (x = y))
noncomputable def vBool : D → Option Bool
  | .bool b => some b
  | _ => none
noncomputable def deq (a b : D) : Option Bool := match a with
  | .int x => (vInt b).bind fun y => some (decide (x = y))
  | .str x => (vStr b).bind fun y => some (decide (x = y))
  | .bool x => (vBool b).bind fun y => some (x == y)
  | .list x => (vLst b).bind fun y => deqL x y
  | .tup x => (vTup b).bind fun y => deqT x y
  | _ => none
noncomputable def disN : D → Option Bool
  | .none => some true
  | .undef => none
  | .meth _ => none
  | _ => some false
noncomputable def disO (y : Addr) : D → Option Bool
  | .obj x => some (decide (x = y))
  | .str _ => some false
  | _ => none
noncomputable def dis (a b : D) : Option Bool := match b with
  | .none => disN a
  | .ty y => (vTy a).bind fun x => some (decide (x = y))
  | .obj y => disO y a
  | _ => none
noncomputable def ib (f : Int → Int → Bool) (a b : D) : Option Bool := (vInt a).bind fun x => (vInt b).bind fun y => some (f x y)
noncomputable def cmp : CmpOp → D → D → Option Bool
  | .Eq, a, b => deq a b
  | .NotEq, a, b => (deq a b).map (!·)
  | .Is, a, b => dis a b
  | .IsNot, a, b => (dis a b).map (!·)
  | .Lt, a, b => ib (fun a b => decide (a < b)) a b
  | .LtE, a, b => ib (fun a b => decide (a ≤ b)) a b
  | .Gt, a, b => ib (fun a b => decide (b < a)) a b
  | .GtE, a, b => ib (fun a b => decide (b ≤ a)) a b
  | _, _, _ => none
noncomputable def truth : D → Option Bool
  | .none => some false
  | .bool b => some b
  | .int i => some (decide (i ≠ 0))
  | .str s => if fit s.length then some (!s.isEmpty) else none
  | .list s => if fit s.length then some (!s.isEmpty) else none
  | _ => none
noncomputable def getI {α : Type} (xs : List α) (i : Int) : Option α := if small i then (seqIndex? i xs.length).bind (xs[·]?) else none
noncomputable def idx (a b : D) : Option D := match a with
  | .list xs => (vInt b).bind fun i => getI xs i
  | .tup xs => (vInt b).bind fun i => getI xs i
  | .str s => (vInt b).bind fun i => (getI s i).map fun c => .str [c]
  | .bytes s => (vInt b).bind fun i => if fit s.length ∧ 0 ≤ i then (getI s i).map fun c => .int c.toNat else none
  | _ => none
noncomputable def cutL {α : Type} (xs : List α) (lo hi : Option Int) : List α := (xs.drop (lo.elim 0 (clipAt xs.length))).take (hi.elim xs.length (clipAt xs.length) - lo.elim 0 (clipAt xs.length))
noncomputable def partOf : D → Option (Option Int)
  | .none => some none
  | .int i => some (some i)
  | _ => none
noncomputable def sli (d a b : D) : Option D := match d with
  | .list xs => (partOf a).bind fun i => (partOf b).bind fun j => if fit xs.length then some (.list (cutL xs i j)) else none
  | .str xs => (partOf a).bind fun i => (partOf b).bind fun j => if fit xs.length then some (.str (cutL xs i j)) else none
  | _ => none
noncomputable def byteOf : D → Option UInt8
  | .int i => if 0 ≤ i ∧ i < 256 then some i.toNat.toUInt8 else none
  | _ => none
noncomputable def bytesOf : List D → Option (List UInt8)
  | [] => some []
  | d :: r => (byteOf d).bind fun b => (bytesOf r).map (b :: ·)
noncomputable def txt (s : List Nat) : Str := ⟨s.toArray⟩
noncomputable def tabOf (a b : List UInt8) : List UInt8 := ((a.zip b).foldl (fun t (x : UInt8 × UInt8) => t.setIfInBounds x.1.toNat x.2) ((Array.range 256).map (·.toUInt8))).toList
noncomputable def f1 (f : D → Option D) : List D → Option D
  | [a] => f a
  | _ => none
noncomputable def f2 (f : D → D → Option D) : List D → Option D
  | [a, b] => f a b
  | _ => none
noncomputable def lenD : D → Option D
  | .list xs => if fit xs.length then some (.int xs.length) else none
  | .str xs => if fit xs.length then some (.int xs.length) else none
  | .bytes xs => if fit xs.length then some (.int xs.length) else none
  | _ => none
noncomputable def sumD : D → Option D
  | .list xs => (intsOf xs).map fun l => .int l.sum
  | _ => none
noncomputable def isiN (n : String) : D → Option D
  | .str _ => if n = "str" then some (.bool true) else if n = "bytes" then some (.bool false) else none
  | .bytes _ => if n = "bytes" then some (.bool true) else none
  | _ => none
noncomputable def isiD (a b : D) : Option D := (vTy b).bind fun n => isiN n a
noncomputable def one : List Nat → Option Nat
  | [c] => some c
  | _ => none
noncomputable def ordD : D → Option D
  | .str s => (one s).map fun c : Nat => D.int (c : Int)
  | _ => none
noncomputable def chrD : D → Option D
  | .int i => if 0 ≤ i ∧ i < 256 then some (.str [i.toNat]) else none
  | _ => none
noncomputable def bytD : D → Option D
  | .list xs => if fit xs.length then (bytesOf xs).map .bytes else none
  | _ => none
noncomputable def typD : D → Option D
  | .str _ => some (.ty "str")
  | .bytes _ => some (.ty "bytes")
  | .bool _ => some (.ty "bool")
  | _ => none
noncomputable def isSB : List D → Bool
  | [x, y] => vTy x == some "str" && vTy y == some "bytes"
  | _ => false
noncomputable def subD (a b : D) : Option D := (vTy a).bind fun n => (vTup b).bind fun l => if n = "str" ∧ isSB l = true then some (.bool true) else none
noncomputable def mkD (a b : D) : Option D := (vByt a).bind fun x => (vByt b).bind fun y => if x.length = y.length then some (.bytes (tabOf x y)) else none
noncomputable def biop (f : String) (l : List D) : Option D :=
  if f = "len" then f1 lenD l else if f = "sum" then f1 sumD l else if f = "isinstance" then f2 isiD l else if f = "ord" then f1 ordD l else if f = "chr" then f1 chrD l else
  if f = "bytes" then f1 bytD l else if f = "type" then f1 typD l else if f = "issubclass" then f2 subD l else if f = "maketrans" then f2 mkD l else none
noncomputable def sStr2 (f : List Nat → List Nat → Option D) (a b : D) : Option D := (vStr a).bind fun s => (vStr b).bind fun t => f s t
noncomputable def joinD (a b : D) : Option D := (vStr a).bind fun s => (vLst b).bind fun xs => (strsOf xs).bind fun l => if JoinOk (txt s) (l.map txt) = true then some (.str (Txt.join (txt s) (l.map txt)).cps.toList) else none
noncomputable def tranD (a b : D) : Option D := (vByt a).bind fun s => (vByt b).bind fun t => if t.length = 256 ∧ fit s.length then some (.bytes (s.map fun c => t.getD c.toNat c)) else none
noncomputable def meop (f : String) (a : D) (l : List D) : Option D :=
  if f = "rfind" then f1 (sStr2 (fun s t => some (.int (Txt.rfind (txt s) (txt t)))) a) l else
  if f = "rstrip" then f1 (sStr2 (fun s t => if fit s.length then some (.str (Txt.rstripChars (txt s) (txt t)).cps.toList) else none) a) l else
  if f = "split" then f1 (sStr2 (fun s t => if fit s.length ∧ t ≠ [] ∧ (Txt.split (txt s) (txt t)).length ≤ 100000 then some (.list ((Txt.split (txt s) (txt t)).map fun x => .str x.cps.toList)) else none) a) l else
  if f = "join" then f1 (joinD a) l else if f = "translate" then f1 (tranD a) l else none
noncomputable def escop : D → Option D
  | .str [c] => if specials.contains c = false ∧ c < 128 then some (.str [c]) else none
  | _ => none
noncomputable def glb (x : String) : Option D := if x = "_B64" then some (.bytes b64L) else none
noncomputable def isL : D → Bool
  | .list _ => true
  | _ => false
noncomputable def catS : List D → Option (List Nat)
  | [] => some []
  | .str s :: r => (catS r).map (s ++ ·)
  | _ => none
noncomputable def itemsOf : D → Option (List D)
  | .list xs => some xs
  | .str s => some (s.map fun c => .str [c])
  | .bytes s => some (s.map fun c => .int c.toNat)
  | _ => none
noncomputable def mapO (f : D → Option D) : List D → Option (List D)
  | [] => some []
  | d :: r => match f d with
    | some x => (mapO f r).map (x :: ·)
    | none => none
noncomputable def atom : D → Bool
  | .str _ => true
  | .int _ => true
  | _ => false
noncomputable def usable : D → Bool
  | .undef => false
  | .meth _ => false
  | _ => true
section
variable (F : FO) (own : List Nat)
mutual
noncomputable def ev (o : Bool) (Γ : List D) : E → Option D
  | .var i => match Γ[i]? with
    | some d => if usable d && (o || !(own.contains i && isL d)) then some d else none
    | none => none
  | .lit d => some d
  | .glob x => glb x
  | .bin op a b => match ev true Γ a with
    | some x => match ev true Γ b with
      | some y => bin op x y
      | none => none
    | none => none
  | .cmp op a b => match ev true Γ a with
    | some x => match ev true Γ b with
      | some y => (cmp op x y).map .bool
      | none => none
    | none => none
  | .and a b => match ev false Γ a with
    | some x => match truth x with
      | some true => ev false Γ b
      | some false => some x
      | none => none
    | none => none
  | .or a b => match ev false Γ a with
    | some x => match truth x with
      | some false => ev false Γ b
      | some true => some x
      | none => none
    | none => none
  | .not a => match ev true Γ a with
    | some x => (truth x).map fun b => .bool !b
    | none => none
  | .neg a => match ev true Γ a with
    | some (.int i) => some (.int (-i))
    | _ => none
  | .ite c a b => match ev true Γ c with
    | some x => match truth x with
      | some true => ev false Γ a
      | some false => ev false Γ b
      | none => none
    | none => none
  | .fn f es => match evs false Γ es with
    | some l => F f l
    | none => none
  | .bi f es => match evs true Γ es with
    | some l => biop f l
    | none => none
  | .me a f es => match ev true Γ a with
    | some x => match evs true Γ es with
      | some l => meop f x l
      | none => none
    | none => none
  | .esc e => match ev true Γ e with
    | some x => escop x
    | none => none
  | .idx a i => match ev true Γ a with
    | some x => match ev true Γ i with
      | some y => idx x y
      | none => none
    | none => none
  | .sl a lo hi => match ev true Γ a with
    | some x => match ev true Γ lo with
      | some y => match ev true Γ hi with
        | some z => sli x y z
        | none => none
      | none => none
    | none => none
  | .rev a => match ev true Γ a with
    | some (.list xs) => if fit xs.length then some (.list xs.reverse) else none
    | _ => none
  | .list es => (evs false Γ es).map .list
  | .tup es => (evs false Γ es).map .tup
  | .comp elt it => match ev false Γ it with
    | some d => match itemsOf d with
      | some xs => match mapO (fun x => ev false [.undef, x] elt) xs with
        | some l => if l.all atom && decide (xs.length ≤ 100000) then some (.list l) else none
        | none => none
      | none => none
    | none => none
  | .fstr es => match evs true Γ es with
    | some l => match catS l with
      | some s => if fit s.length then some (.str s) else none
      | none => none
    | none => none
  | .bad => none
noncomputable def evs (o : Bool) (Γ : List D) : Es → Option (List D)
  | .nil => some []
  | .cons e r => match ev o Γ e with
    | some x => (evs o Γ r).map (x :: ·)
    | none => none
end
noncomputable def tv (Γ : List D) : E → Option Bool
  | .not a => (tv Γ a).map (!·)
  | .and a b => match tv Γ a with
    | some true => tv Γ b
    | some false => some false
    | none => none
  | .or a b => match tv Γ a with
    | some false => tv Γ b
    | some true => some true
    | none => none
  | .ite _ _ _ => none
  | e => match ev F own true Γ e with
    | some x => truth x
    | none => none
end
section
variable {F : FO} {own : List Nat} {o : Bool} {Γ : List D} {a b c : E} {es : Es} {f : String}
theorem ev_var {i : Nat} : ev F own o Γ (.var i) = match Γ[i]? with
    | some d => if usable d && (o || !(own.contains i && isL d)) then some d else none
    | none => none := rfl
theorem ev_lit {d : D} : ev F own o Γ (.lit d) = some d := rfl
theorem ev_bin {op : Operator} : ev F own o Γ (.bin op a b) = match ev F own true Γ a with
    | some x => match ev F own true Γ b with
      | some y => bin op x y
      | none => none
    | none => none := rfl
theorem ev_cmp {op : CmpOp} : ev F own o Γ (.cmp op a b) = match ev F own true Γ a with
    | some x => match ev F own true Γ b with
      | some y => (cmp op x y).map .bool
      | none => none
    | none => none := rfl
theorem ev_and : ev F own o Γ (.and a b) = match ev F own false Γ a with
    | some x => match truth x with
      | some true => ev F own false Γ b
      | some false => some x
      | none => none
    | none => none := rfl
theorem ev_or : ev F own o Γ (.or a b) = match ev F own false Γ a with
    | some x => match truth x with
      | some false => ev F own false Γ b
      | some true => some x
      | none => none
    | none => none := rfl
theorem ev_not : ev F own o Γ (.not a) = match ev F own true Γ a with
    | some x => (truth x).map fun b => .bool !b
    | none => none := rfl
theorem ev_neg : ev F own o Γ (.neg a) = match ev F own true Γ a with
    | some (.int i) => some (.int (-i))
    | _ => none := rfl
theorem ev_ite : ev F own o Γ (.ite c a b) = match ev F own true Γ c with
    | some x => match truth x with
      | some true => ev F own false Γ a
      | some false => ev F own false Γ b
      | none => none
    | none => none := rfl
theorem ev_fn : ev F own o Γ (.fn f es) = match evs F own false Γ es with
    | some l => F f l
    | none => none := rfl
theorem ev_bi : ev F own o Γ (.bi f es) = match evs F own true Γ es with
    | some l => biop f l
    | none => none := rfl
theorem ev_me : ev F own o Γ (.me a f es) = match ev F own true Γ a with
    | some x => match evs F own true Γ es with
      | some l => meop f x l
      | none => none
    | none => none := rfl
theorem ev_esc : ev F own o Γ (.esc a) = match ev F own true Γ a with
    | some x => escop x
    | none => none := rfl
theorem ev_idx : ev F own o Γ (.idx a b) = match ev F own true Γ a with
    | some x => match ev F own true Γ b with
      | some y => idx x y
      | none => none
    | none => none := rfl
theorem ev_sl : ev F own o Γ (.sl a b c) = match ev F own true Γ a with
    | some x => match ev F own true Γ b with
      | some y => match ev F own true Γ c with
        | some z => sli x y z
        | none => none
      | none => none
    | none => none := rfl
theorem ev_rev : ev F own o Γ (.rev a) = match ev F own true Γ a with
    | some (.list xs) => if fit xs.length then some (.list xs.reverse) else none
    | _ => none := rfl
theorem ev_list : ev F own o Γ (.list es) = (evs F own false Γ es).map .list := rfl
theorem ev_tup : ev F own o Γ (.tup es) = (evs F own false Γ es).map .tup := rfl
theorem ev_comp : ev F own o Γ (.comp a b) = match ev F own false Γ b with
    | some d => match itemsOf d with
      | some xs => match mapO (fun x => ev F own false [.undef, x] a) xs with
        | some l => if l.all atom && decide (xs.length ≤ 100000) then some (.list l) else none
        | none => none
      | none => none
    | none => none := rfl
theorem ev_fstr : ev F own o Γ (.fstr es) = match evs F own true Γ es with
    | some l => match catS l with
      | some s => if fit s.length then some (.str s) else none
      | none => none
    | none => none := rfl
theorem evs_nil : evs F own o Γ .nil = some [] := rfl
theorem evs_cons {e : E} {r : Es} : evs F own o Γ (.cons e r) = match ev F own o Γ e with
    | some x => (evs F own o Γ r).map (x :: ·)
    | none => none := rfl
theorem tv_not : tv F own Γ (.not a) = (tv F own Γ a).map (!·) := rfl
theorem tv_and : tv F own Γ (.and a b) = match tv F own Γ a with
    | some true => tv F own Γ b
    | some false => some false
    | none => none := rfl
theorem tv_or : tv F own Γ (.or a b) = match tv F own Γ a with
    | some false => tv F own Γ b
    | some true => some true
    | none => none := rfl
end
section
variable {α : Type} {x : Option D} {r : α} {R : Prop}
theorem om {k : D → Option α} (e : (match x with | some y => k y | none => none) = some r) (g : ∀ y, x = some y → k y = some r → R) : R := by
  cases x with
  | none => exact nos e
  | some y => exact g y rfl e
theorem omE {l : Option (List D)} {k : List D → Option α} (e : (match l with | some y => k y | none => none) = some r) (g : ∀ y, l = some y → k y = some r → R) : R := by
  cases l with
  | none => exact nos e
  | some y => exact g y rfl e
theorem omL {k : List D → Option α} (e : (match x with | some (.list y) => k y | _ => none) = some r) (g : ∀ y, x = some (.list y) → k y = some r → R) : R := by
  cases x with
  | none => exact nos e
  | some y => cases y with
    | list y => exact g y rfl e
    | _ => exact nos e
theorem omI {k : Int → Option α} (e : (match x with | some (.int y) => k y | _ => none) = some r) (g : ∀ y, x = some (.int y) → k y = some r → R) : R := by
  cases x with
  | none => exact nos e
  | some y => cases y with
    | int y => exact g y rfl e
    | _ => exact nos e
theorem yif {c : Prop} [Decidable c] {a b : α} {P : α → Prop} (e : (if c then some a else none) = some b) (g : c → P a) : P b := by
  by_cases q : c
  · rw [if_pos q] at e; cases e; exact g q
  · rw [if_neg q] at e; exact nos e
theorem yel {c : Prop} [Decidable c] {a : Option α} {b : α} (e : (if c then none else a) = some b) (g : ¬ c → a = some b → R) : R := by
  by_cases q : c
  · rw [if_pos q] at e; exact nos e
  · rw [if_neg q] at e; exact g q e
theorem ymap {β : Type} {l : Option β} {f : β → α} {b : α} {P : α → Prop} (e : l.map f = some b) (g : ∀ a, l = some a → P (f a)) : P b := by
  cases l with
  | none => exact nos e
  | some a => cases e; exact g a rfl
end
section
variable {F : FO} {own : List Nat} {o : Bool} {Γ : List D} {a b c : E} {es : Es} {f : String} {d : D} {P : D → Prop} {R : Prop}
theorem ev_var_of {i : Nat} (e : ev F own o Γ (.var i) = some d) (g : Γ[i]? = some d → usable d = true → (o || !(own.contains i && isL d)) = true → R) : R :=
  om (ev_var.symm.trans e) fun x h e => yif (P := fun d => (Γ[i]? = some d → usable d = true → (o || !(own.contains i && isL d)) = true → R) → R) e (fun q g => g h (Bool.and_eq_true_iff.mp q).1 (Bool.and_eq_true_iff.mp q).2) g
theorem ev_bin_of {op : Operator} (e : ev F own o Γ (.bin op a b) = some d) (g : ∀ x y, ev F own true Γ a = some x → ev F own true Γ b = some y → bin op x y = some d → R) : R := om (ev_bin.symm.trans e) fun x h e => om e fun y h2 e => g x y h h2 e
@[elab_as_elim] theorem ev_cmp_of {op : CmpOp} (e : ev F own o Γ (.cmp op a b) = some d) (g : ∀ x y t, ev F own true Γ a = some x → ev F own true Γ b = some y → cmp op x y = some t → P (.bool t)) : P d := om (ev_cmp.symm.trans e) fun x h e => om e fun y h2 e => ymap e fun t h3 => g x y t h h2 h3
@[elab_as_elim] theorem ev_not_of (e : ev F own o Γ (.not a) = some d) (g : ∀ x t, ev F own true Γ a = some x → truth x = some t → P (.bool !t)) : P d := om (ev_not.symm.trans e) fun x h e => ymap e fun t h2 => g x t h h2
@[elab_as_elim] theorem ev_neg_of (e : ev F own o Γ (.neg a) = some d) (g : ∀ i, ev F own true Γ a = some (.int i) → P (.int (-i))) : P d := omI (ev_neg.symm.trans e) fun i h e => y1 e (g i h)
theorem ev_fn_of (e : ev F own o Γ (.fn f es) = some d) (g : ∀ l, evs F own false Γ es = some l → F f l = some d → R) : R := omE (ev_fn.symm.trans e) g
theorem ev_bi_of (e : ev F own o Γ (.bi f es) = some d) (g : ∀ l, evs F own true Γ es = some l → biop f l = some d → R) : R := omE (ev_bi.symm.trans e) g
theorem ev_me_of (e : ev F own o Γ (.me a f es) = some d) (g : ∀ x l, ev F own true Γ a = some x → evs F own true Γ es = some l → meop f x l = some d → R) : R := om (ev_me.symm.trans e) fun x h e => omE e fun l h2 e => g x l h h2 e
theorem ev_esc_of (e : ev F own o Γ (.esc a) = some d) (g : ∀ x, ev F own true Γ a = some x → escop x = some d → R) : R := om (ev_esc.symm.trans e) g
theorem ev_idx_of (e : ev F own o Γ (.idx a b) = some d) (g : ∀ x y, ev F own true Γ a = some x → ev F own true Γ b = some y → idx x y = some d → R) : R := om (ev_idx.symm.trans e) fun x h e => om e fun y h2 e => g x y h h2 e
theorem ev_sl_of (e : ev F own o Γ (.sl a b c) = some d) (g : ∀ x y z, ev F own true Γ a = some x → ev F own true Γ b = some y → ev F own true Γ c = some z → sli x y z = some d → R) : R := om (ev_sl.symm.trans e) fun x h e => om e fun y h2 e => om e fun z h3 e => g x y z h h2 h3 e
@[elab_as_elim] theorem ev_rev_of (e : ev F own o Γ (.rev a) = some d) (g : ∀ xs, ev F own true Γ a = some (.list xs) → fit xs.length → P (.list xs.reverse)) : P d := omL (ev_rev.symm.trans e) fun xs h e => yif e fun q => g xs h q
@[elab_as_elim] theorem ev_list_of (e : ev F own o Γ (.list es) = some d) (g : ∀ l, evs F own false Γ es = some l → P (.list l)) : P d := ymap (ev_list.symm.trans e) g
@[elab_as_elim] theorem ev_tup_of (e : ev F own o Γ (.tup es) = some d) (g : ∀ l, evs F own false Γ es = some l → P (.tup l)) : P d := ymap (ev_tup.symm.trans e) g
@[elab_as_elim] theorem ev_comp_of (e : ev F own o Γ (.comp a b) = some d) (g : ∀ x xs l, ev F own false Γ b = some x → itemsOf x = some xs → mapO (fun x => ev F own false [.undef, x] a) xs = some l → (l.all atom && decide (xs.length ≤ 100000)) = true → P (.list l)) : P d :=
  om (ev_comp.symm.trans e) fun x h e => omE e fun xs h2 e => omE e fun l h3 e => yif e fun q => g x xs l h h2 h3 q
set_option tactic.hygienic true in
@[elab_as_elim] theorem ev_fstr_of (e : ev F own o Γ (.fstr es) = some d) (g : ∀ l s, evs F own true Γ es = some l → catS l = some s → fit s.length → P (.str s)) : P d := by
  refine omE (ev_fstr.symm.trans e) fun l h e => ?_
  split at e
  · rename_i s h2; exact yif e fun q => g l s h h2 q
  · exact nos e
@[elab_as_elim] theorem evs_cons_of {l : List D} {r : Es} {Q : List D → Prop} (e : evs F own o Γ (.cons a r) = some l) (g : ∀ x l, ev F own o Γ a = some x → evs F own o Γ r = some l → Q (x :: l)) : Q l := om (evs_cons.symm.trans e) fun x h e => ymap e fun m h2 => g x m h h2
@[elab_as_elim] theorem evs_nil_of {l : List D} {Q : List D → Prop} (e : evs F own o Γ .nil = some l) (g : Q []) : Q l := y1 (evs_nil.symm.trans e) g
end
set_option genInjectivity true
inductive Fl where
  | next | brk | cont
  | ret (d : D)
noncomputable def fresh : E → Bool
  | .bin .Add _ _ => true
  | .bin .Mult _ _ => true
  | .sl _ _ _ => true
  | .rev _ => true
  | .list _ => true
  | .comp _ _ => false
  | .me _ f _ => f == "split"
  | _ => false
noncomputable def clr (i : Nat) : D → D
  | .meth j => if j = i then .undef else .meth j
  | d => d
noncomputable def setv (own : List Nat) (i : Nat) (d : D) (Γ : List D) : List D := (if own.contains i then Γ.map (clr i) else Γ).set i d
noncomputable def setvs (own : List Nat) : List Nat → List D → List D → Option (List D)
  | [], [], Γ => some Γ
  | i :: is, d :: ds, Γ => if own.contains i then none else setvs own is ds (setv own i d Γ)
  | _, _, _ => none
noncomputable def forL (step : D → List D → Option (Fl × List D)) : List D → List D → Option (Fl × List D)
  | [], Γ => some (.next, Γ)
  | d :: r, Γ => match step d Γ with
    | some (.next, Γ') => forL step r Γ'
    | some (.cont, Γ') => forL step r Γ'
    | some (.brk, Γ') => some (.next, Γ')
    | some (.ret v, Γ') => some (.ret v, Γ')
    | none => none
noncomputable def whileL (c : List D → Option Bool) (b : List D → Option (Fl × List D)) : Nat → List D → Option (Fl × List D)
  | 0, _ => none
  | n + 1, Γ => match c Γ with
    | some false => some (.next, Γ)
    | some true => match b Γ with
      | some (.next, Γ') => whileL c b n Γ'
      | some (.cont, Γ') => whileL c b n Γ'
      | some (.brk, Γ') => some (.next, Γ')
      | some (.ret v, Γ') => some (.ret v, Γ')
      | none => none
    | none => none
noncomputable def rangeN (a b s : Int) : Nat := ((b - a + s - 1) / s).toNat
noncomputable def rangeL (a b s : Int) : List D := (List.range (rangeN a b s)).map fun (i : Nat) => D.int (a + s * i)
noncomputable def rangeOf : List D → Option (List D)
  | [x] => (vInt x).bind fun b => if small b then some (rangeL 0 b 1) else none
  | [x, y] => (vInt x).bind fun a => (vInt y).bind fun b => if small a ∧ small b then some (rangeL a b 1) else none
  | [x, y, z] => (vInt x).bind fun a => (vInt y).bind fun b => (vInt z).bind fun s => if small a ∧ small b ∧ 0 < s ∧ small s then some (rangeL a b s) else none
  | _ => none
section
variable (F : FO) (own : List Nat)
mutual
noncomputable def run : S → List D → Option (Fl × List D)
  | .asg i e, Γ => match e with
    | .var j => match Γ[j]? with
      | some d => if !usable d then none
        else if own.contains j && isL d then (if own.contains i || i == j then none else some (.next, setv own j .undef (setv own i d Γ)))
        else if own.contains i && isL d then none else some (.next, setv own i d Γ)
      | none => none
    | e => match ev F own false Γ e with
      | some d => if own.contains i && isL d && !fresh e then none else some (.next, setv own i d Γ)
      | none => none
  | .asgT is e, Γ => match ev F own false Γ e with
    | some (.list ds) => (setvs own is ds Γ).map (.next, ·)
    | some (.tup ds) => (setvs own is ds Γ).map (.next, ·)
    | _ => none
  | .asgP is es, Γ => match evs F own false Γ es with
    | some ds => (setvs own is ds Γ).map (.next, ·)
    | none => none
  | .setI i k e, Γ => match ev F own false Γ e with
    | some d => match Γ[i]? with
      | some (.list xs) => match ev F own true Γ k with
        | some (.int n) => if own.contains i ∧ 0 ≤ n ∧ n.toNat < xs.length ∧ fit xs.length then some (.next, Γ.set i (.list (xs.set n.toNat d))) else none
        | _ => none
      | _ => none
    | none => none
  | .aug i o e, Γ => match Γ[i]? with
    | some (.int a) => match ev F own true Γ e with
      | some (.int b) => match o with
        | .Add => if own.contains i then none else some (.next, setv own i (.int (a + b)) Γ)
        | _ => none
      | _ => none
    | _ => none
  | .app i e, Γ => match Γ[i]? with
    | some (.list xs) => match ev F own false Γ e with
      | some d => if own.contains i ∧ fit xs.length then some (.next, Γ.set i (.list (xs ++ [d]))) else none
      | none => none
    | _ => none
  | .pop i, Γ => match Γ[i]? with
    | some (.list xs) => match xs.getLast? with
      | some (.str _) => if own.contains i ∧ fit xs.length then some (.next, Γ.set i (.list xs.dropLast)) else none
      | _ => none
    | _ => none
  | .add j e, Γ => match Γ[j]? with
    | some (.meth i) => match ev F own false Γ e with
      | some d => match Γ[i]? with
        | some (.list xs) => if own.contains i ∧ fit xs.length then some (.next, Γ.set i (.list (xs ++ [d]))) else none
        | _ => none
      | none => none
    | _ => none
  | .ali j i, Γ => match Γ[i]? with
    | some (.list _) => if own.contains i ∧ ¬ own.contains j then some (.next, setv own j (.meth i) Γ) else none
    | _ => none
  | .iff c a b, Γ => match tv F own Γ c with
    | some true => runs a Γ
    | some false => runs b Γ
    | none => none
  | .whl c b, Γ => whileL (fun Γ => tv F own Γ c) (fun Γ => runs b Γ) 1000 Γ
  | .for_ i it b, Γ => match ev F own false Γ it with
    | some d => match itemsOf d with
      | some xs => forL (fun x Γ => if own.contains i then none else runs b (setv own i x Γ)) xs Γ
      | none => none
    | none => none
  | .forR i es b, Γ => match evs F own true Γ es with
    | some ds => match rangeOf ds with
      | some xs => forL (fun x Γ => if own.contains i then none else runs b (setv own i x Γ)) xs Γ
      | none => none
    | none => none
  | .ret e, Γ => match e with
    | .var j => match Γ[j]? with
      | some d => if usable d then some (.ret d, Γ) else none
      | none => none
    | e => match ev F own false Γ e with
      | some d => some (.ret d, Γ)
      | none => none
  | .brk, Γ => some (.brk, Γ)
  | .cont, Γ => some (.cont, Γ)
  | .asrt e, Γ => match tv F own Γ e with
    | some true => some (.next, Γ)
    | _ => none
  | .skip, Γ => some (.next, Γ)
  | .stuck, _ => none
noncomputable def runs : Ss → List D → Option (Fl × List D)
  | .nil, Γ => some (.next, Γ)
  | .cons s r, Γ => match run s Γ with
    | some (.next, Γ') => runs r Γ'
    | x => x
end
end
section
variable {F : FO} {own : List Nat} {Γ : List D}
theorem run_asgV {i j : Nat} : run F own (.asg i (.var j)) Γ = match Γ[j]? with
      | some d => if !usable d then none
        else if own.contains j && isL d then (if own.contains i || i == j then none else some (.next, setv own j .undef (setv own i d Γ)))
        else if own.contains i && isL d then none else some (.next, setv own i d Γ)
      | none => none := rfl
theorem run_asg {i : Nat} {e : E} (h : ∀ j, e ≠ .var j) : run F own (.asg i e) Γ = match ev F own false Γ e with
      | some d => if own.contains i && isL d && !fresh e then none else some (.next, setv own i d Γ)
      | none => none := by
  cases e <;> first | exact absurd rfl (h _) | rfl
theorem run_retV {j : Nat} : run F own (.ret (.var j)) Γ = match Γ[j]? with
      | some d => if usable d then some (.ret d, Γ) else none
      | none => none := rfl
theorem run_ret {e : E} (h : ∀ j, e ≠ .var j) : run F own (.ret e) Γ = match ev F own false Γ e with
      | some d => some (.ret d, Γ)
      | none => none := by
  cases e <;> first | exact absurd rfl (h _) | rfl
theorem run_asgT {is : List Nat} {e : E} : run F own (.asgT is e) Γ = match ev F own false Γ e with
    | some (.list ds) => (setvs own is ds Γ).map (.next, ·)
    | some (.tup ds) => (setvs own is ds Γ).map (.next, ·)
    | _ => none := rfl
theorem run_asgP {is : List Nat} {es : Es} : run F own (.asgP is es) Γ = match evs F own false Γ es with
    | some ds => (setvs own is ds Γ).map (.next, ·)
    | none => none := rfl
theorem run_setI {i : Nat} {k e : E} : run F own (.setI i k e) Γ = match ev F own false Γ e with
    | some d => match Γ[i]? with
      | some (.list xs) => match ev F own true Γ k with
        | some (.int n) => if own.contains i ∧ 0 ≤ n ∧ n.toNat < xs.length ∧ fit xs.length then some (.next, Γ.set i (.list (xs.set n.toNat d))) else none
        | _ => none
      | _ => none
    | none => none := rfl
theorem run_aug {i : Nat} {o : Operator} {e : E} : run F own (.aug i o e) Γ = match Γ[i]? with
    | some (.int a) => match ev F own true Γ e with
      | some (.int b) => match o with
        | .Add => if own.contains i then none else some (.next, setv own i (.int (a + b)) Γ)
        | _ => none
      | _ => none
    | _ => none := rfl
theorem run_app {i : Nat} {e : E} : run F own (.app i e) Γ = match Γ[i]? with
    | some (.list xs) => match ev F own false Γ e with
      | some d => if own.contains i ∧ fit xs.length then some (.next, Γ.set i (.list (xs ++ [d]))) else none
      | none => none
    | _ => none := rfl
theorem run_pop {i : Nat} : run F own (.pop i) Γ = match Γ[i]? with
    | some (.list xs) => match xs.getLast? with
      | some (.str _) => if own.contains i ∧ fit xs.length then some (.next, Γ.set i (.list xs.dropLast)) else none
      | _ => none
    | _ => none := rfl
theorem run_add {j : Nat} {e : E} : run F own (.add j e) Γ = match Γ[j]? with
    | some (.meth i) => match ev F own false Γ e with
      | some d => match Γ[i]? with
        | some (.list xs) => if own.contains i ∧ fit xs.length then some (.next, Γ.set i (.list (xs ++ [d]))) else none
        | _ => none
      | none => none
    | _ => none := rfl
theorem run_ali {j i : Nat} : run F own (.ali j i) Γ = match Γ[i]? with
    | some (.list _) => if own.contains i ∧ ¬ own.contains j then some (.next, setv own j (.meth i) Γ) else none
    | _ => none := rfl
theorem run_iff {c : E} {a b : Ss} : run F own (.iff c a b) Γ = match tv F own Γ c with
    | some true => runs F own a Γ
    | some false => runs F own b Γ
    | none => none := rfl
theorem run_brk : run F own .brk Γ = some (.brk, Γ) := rfl
theorem run_skip : run F own .skip Γ = some (.next, Γ) := rfl
theorem run_asrt {e : E} : run F own (.asrt e) Γ = match tv F own Γ e with
    | some true => some (.next, Γ)
    | _ => none := rfl
theorem run_whl {c : E} {b : Ss} : run F own (.whl c b) Γ = whileL (fun Γ => tv F own Γ c) (fun Γ => runs F own b Γ) 1000 Γ := rfl
theorem run_for {i : Nat} {it : E} {b : Ss} : run F own (.for_ i it b) Γ = match ev F own false Γ it with
    | some d => match itemsOf d with
      | some xs => forL (fun x Γ => if own.contains i then none else runs F own b (setv own i x Γ)) xs Γ
      | none => none
    | none => none := rfl
theorem run_forR {i : Nat} {es : Es} {b : Ss} : run F own (.forR i es b) Γ = match evs F own true Γ es with
    | some ds => match rangeOf ds with
      | some xs => forL (fun x Γ => if own.contains i then none else runs F own b (setv own i x Γ)) xs Γ
      | none => none
    | none => none := rfl
theorem runs_nil : runs F own .nil Γ = some (.next, Γ) := rfl
theorem runs_cons {s : S} {r : Ss} : runs F own (.cons s r) Γ = match run F own s Γ with
    | some (.next, Γ') => runs F own r Γ'
    | x => x := rfl
end
section
variable {F : FO} {own : List Nat} {Γ Γ' : List D} {fl : Fl} {a b : E} {P : Fl → List D → Prop} {R : Prop}
noncomputable abbrev up (P : Fl → List D → Prop) : Fl × List D → Prop := fun r => P r.1 r.2
set_option tactic.hygienic true in
@[elab_as_elim] theorem run_asgT_of {is : List Nat} (e : run F own (.asgT is a) Γ = some (fl, Γ')) (g : ∀ x ds, ev F own false Γ a = some x → (x = .list ds ∨ x = .tup ds) → setvs own is ds Γ = some Γ' → P .next Γ') : P fl Γ' := by
  have e := run_asgT.symm.trans e
  split at e
  · rename_i ds h; exact ymap (P := fun r => (∀ x ds, ev F own false Γ a = some x → (x = .list ds ∨ x = .tup ds) → setvs own is ds Γ = some r.2 → P .next r.2) → P r.1 r.2) e (fun _ h2 g => g _ _ h (.inl rfl) h2) g
  · rename_i ds h; exact ymap (P := fun r => (∀ x ds, ev F own false Γ a = some x → (x = .list ds ∨ x = .tup ds) → setvs own is ds Γ = some r.2 → P .next r.2) → P r.1 r.2) e (fun _ h2 g => g _ _ h (.inr rfl) h2) g
  · exact nos e
@[elab_as_elim] theorem run_asgP_of {is : List Nat} {es : Es} (e : run F own (.asgP is es) Γ = some (fl, Γ')) (g : ∀ ds, evs F own false Γ es = some ds → setvs own is ds Γ = some Γ' → P .next Γ') : P fl Γ' :=
  omE (run_asgP.symm.trans e) fun ds h e => ymap (P := fun r => (∀ ds, evs F own false Γ es = some ds → setvs own is ds Γ = some r.2 → P .next r.2) → P r.1 r.2) e (fun _ h2 g => g _ h h2) g
@[elab_as_elim] theorem run_setI_of {i : Nat} (e : run F own (.setI i b a) Γ = some (fl, Γ')) (g : ∀ d xs n, ev F own false Γ a = some d → Γ[i]? = some (.list xs) → ev F own true Γ b = some (.int n) → (own.contains i ∧ 0 ≤ n ∧ n.toNat < xs.length ∧ fit xs.length) → P .next (Γ.set i (.list (xs.set n.toNat d)))) : P fl Γ' :=
  om (run_setI.symm.trans e) fun d h e => omL e fun xs h2 e => omI e fun n h3 e => yif (P := up P) e fun q => g d xs n h h2 h3 q
@[elab_as_elim] theorem run_aug_of {i : Nat} {op : Operator} (e : run F own (.aug i op a) Γ = some (fl, Γ')) {Q : Operator → Fl → List D → Prop} (g : ∀ x y, Γ[i]? = some (.int x) → ev F own true Γ a = some (.int y) → own.contains i = false → Q .Add .next (setv own i (.int (x + y)) Γ)) : Q op fl Γ' :=
  omI (run_aug.symm.trans e) fun x h e => omI e fun y h2 e => by
    cases op with
    | Add => exact yel e fun q e => y2 e (g x y h h2 (Bool.not_eq_true _ ▸ q))
    | _ => exact nos e
@[elab_as_elim] theorem run_app_of {i : Nat} (e : run F own (.app i a) Γ = some (fl, Γ')) (g : ∀ xs d, Γ[i]? = some (.list xs) → ev F own false Γ a = some d → (own.contains i ∧ fit xs.length) → P .next (Γ.set i (.list (xs ++ [d])))) : P fl Γ' :=
  omL (run_app.symm.trans e) fun xs h e => om e fun d h2 e => yif (P := up P) e fun q => g xs d h h2 q
set_option tactic.hygienic true in
@[elab_as_elim] theorem run_pop_of {i : Nat} (e : run F own (.pop i) Γ = some (fl, Γ')) (g : ∀ xs s, Γ[i]? = some (.list xs) → xs.getLast? = some (.str s) → (own.contains i ∧ fit xs.length) → P .next (Γ.set i (.list xs.dropLast))) : P fl Γ' :=
  omL (run_pop.symm.trans e) fun xs h e => by
    split at e
    · rename_i s h2; exact yif (P := up P) e fun q => g xs s h h2 q
    · exact nos e
set_option tactic.hygienic true in
@[elab_as_elim] theorem run_add_of {j : Nat} (e : run F own (.add j a) Γ = some (fl, Γ')) (g : ∀ i d xs, Γ[j]? = some (.meth i) → ev F own false Γ a = some d → Γ[i]? = some (.list xs) → (own.contains i ∧ fit xs.length) → P .next (Γ.set i (.list (xs ++ [d])))) : P fl Γ' := by
  have e := run_add.symm.trans e
  split at e
  · rename_i i h; exact om e fun d h2 e => omL e fun xs h3 e => yif (P := up P) e fun q => g i d xs h h2 h3 q
  · exact nos e
@[elab_as_elim] theorem run_ali_of {j i : Nat} (e : run F own (.ali j i) Γ = some (fl, Γ')) (g : ∀ xs, Γ[i]? = some (.list xs) → (own.contains i ∧ ¬ own.contains j) → P .next (setv own j (.meth i) Γ)) : P fl Γ' :=
  omL (run_ali.symm.trans e) fun xs h e => yif (P := up P) e fun q => g xs h q
set_option tactic.hygienic true in
theorem run_iff_of {s1 s2 : Ss} (e : run F own (.iff a s1 s2) Γ = some (fl, Γ')) (g : tv F own Γ a = some true → runs F own s1 Γ = some (fl, Γ') → R) (g2 : tv F own Γ a = some false → runs F own s2 Γ = some (fl, Γ') → R) : R := by
  have e := run_iff.symm.trans e
  split at e
  · rename_i h; exact g h e
  · rename_i h; exact g2 h e
  · exact nos e
set_option tactic.hygienic true in
@[elab_as_elim] theorem run_asrt_of (e : run F own (.asrt a) Γ = some (fl, Γ')) (g : tv F own Γ a = some true → P .next Γ) : P fl Γ' := by
  have e := run_asrt.symm.trans e
  split at e
  · rename_i h; exact y2 e (g h)
  · exact nos e
@[elab_as_elim] theorem run_retV_of {j : Nat} (e : run F own (.ret (.var j)) Γ = some (fl, Γ')) (g : ∀ d, Γ[j]? = some d → usable d = true → P (.ret d) Γ) : P fl Γ' :=
  om (run_retV.symm.trans e) fun d h e => yif (P := up P) e fun q => g d h q
@[elab_as_elim] theorem run_asgV_of {i j : Nat} (e : run F own (.asg i (.var j)) Γ = some (fl, Γ')) (g : ∀ d, Γ[j]? = some d → usable d = true → (own.contains j && isL d) = true → own.contains i = false → (i == j) = false → P .next (setv own j .undef (setv own i d Γ)))
    (g2 : ∀ d, Γ[j]? = some d → usable d = true → (own.contains j && isL d) = false → (own.contains i && isL d) = false → P .next (setv own i d Γ)) : P fl Γ' :=
  om (run_asgV.symm.trans e) fun d h e => yel e fun u e => by
    have u : usable d = true := by simpa using u
    by_cases q : (own.contains j && isL d) = true
    · rw [if_pos q] at e
      exact yel e fun q1 e => y2 e (g d h u q (Bool.or_eq_false_iff.mp (Bool.not_eq_true _ ▸ q1)).1 (Bool.or_eq_false_iff.mp (Bool.not_eq_true _ ▸ q1)).2)
    · rw [if_neg q] at e
      exact yel e fun q1 e => y2 e (g2 d h u (Bool.not_eq_true _ ▸ q) (Bool.not_eq_true _ ▸ q1))
theorem run_for_of {i : Nat} {s : Ss} (e : run F own (.for_ i a s) Γ = some (fl, Γ')) (g : ∀ d xs, ev F own false Γ a = some d → itemsOf d = some xs → forL (fun x Γ => if own.contains i then none else runs F own s (setv own i x Γ)) xs Γ = some (fl, Γ') → R) : R :=
  om (run_for.symm.trans e) fun d h e => omE e fun xs h2 e => g d xs h h2 e
theorem run_forR_of {i : Nat} {es : Es} {s : Ss} (e : run F own (.forR i es s) Γ = some (fl, Γ')) (g : ∀ ds xs, evs F own true Γ es = some ds → rangeOf ds = some xs → forL (fun x Γ => if own.contains i then none else runs F own s (setv own i x Γ)) xs Γ = some (fl, Γ') → R) : R :=
  omE (run_forR.symm.trans e) fun d h e => omE e fun xs h2 e => g d xs h h2 e
end
section
variable {F : FO} {own : List Nat} {Γ : List D}
theorem tw_cmp {op : CmpOp} {a b : E} : tv F own Γ (.cmp op a b) = match ev F own true Γ (.cmp op a b) with | some x => truth x | none => none := rfl
theorem tw_bi {f : String} {es : Es} : tv F own Γ (.bi f es) = match ev F own true Γ (.bi f es) with | some x => truth x | none => none := rfl
end
structure Fn where
  np : Nat
  kw : List String
  ns : Nat
  own : List Nat
  body : Ss
end
theorem get_size (h : Heap) : h.get? h.objs.size = none := by
  cases e : h.get? h.objs.size with
  | none => rfl
  | some o => exact absurd (Heap.lt_size e) (Nat.lt_irrefl _)
def There (X : Addr → Prop) (h : Heap) : Prop := ∀ a, X a → (h.get? a).isSome = true
theorem There.not {X : Addr → Prop} {h : Heap} (t : There X h) {a : Addr} (e : h.get? a = none) : ¬ X a := fun x => by have := t a x; rw [e] at this; exact bf this
theorem There.grow {X : Addr → Prop} {h h' : Heap} (t : There X h) (g : Grow h h') : There X h' := fun a x => by
  obtain ⟨o, e⟩ := Option.isSome_iff_exists.mp (t a x)
  rw [g a o e]; rfl
def New (h : Heap) (v : Value) : Prop := ∀ a, v = .ref a → h.get? a = none
theorem New.int {h : Heap} {i : Int} {t : Tok} : New h (.int i t) := fun _ e => nomatch e
theorem New.str {h : Heap} {i : Str} {t : Tok} : New h (.str i t) := fun _ e => nomatch e
theorem New.bool {h : Heap} {i : Bool} : New h (.bool i) := fun _ e => nomatch e
theorem New.bytes {h : Heap} {i : Array UInt8} {t : Tok} : New h (.bytes i t) := fun _ e => nomatch e
theorem New.old {h h' : Heap} {v : Value} (n : New h' v) (g : Grow h h') : New h v := fun a e => by
  cases q : h.get? a with
  | none => rfl
  | some o => have := g a o q; rw [n a e] at this; exact nos this
section
variable {prog : Program} {w : World} {A : Around} {s0 : Shared} {h : Heap} {X : Addr → Prop}
noncomputable abbrev Got (h : Heap) (X : Addr → Prop) (d : D) : Value → Heap → Prop := fun v h' => Grow h h' ∧ V h' X v d ∧ New h v
theorem got_int {i j : Int} {t : Tok} (e : i = j) : Got h X (.int j) (.int i t) h := ⟨.refl h, e ▸ .int _ _, .int⟩
theorem got_str {x : Str} {s : List Nat} {t : Tok} (e : x.cps.toList = s) : Got h X (.str s) (.str x t) h := ⟨.refl h, by
  subst e; exact .str x.cps.toList t, .str⟩
theorem got_list (t : There X h) {vs : List Value} {ds : List D} (x : Vs h X vs ds) : Got h X (.list ds) (.ref h.objs.size) (h.push { cls := .type "list", data := .seq vs.toArray }) :=
  ⟨.push h _, .list (n := 0) (Heap.get?_push_size _ rfl) (t.not (get_size h)) (x.keep ((Grow.push h _).x X)), fun a e => by cases e; exact get_size h⟩
theorem got_tup (t : There X h) {vs : List Value} {ds : List D} (x : Vs h X vs ds) : Got h X (.tup ds) (.ref h.objs.size) (h.push { cls := .type "tuple", data := .seq vs.toArray }) :=
  ⟨.push h _, .tup (n := 0) (Heap.get?_push_size _ rfl) (t.not (get_size h)) (x.keep ((Grow.push h _).x X)), fun a e => by cases e; exact get_size h⟩
theorem EV.of {α : Type} {t : Sem α} {Q : α → Heap → Prop} (x : ∀ (s : Shared), s.heap = h → (∀ h' tk', ({ s with heap := h', toks := tk' } : Shared) = (sAt s0 h' tk')) →
    wpAny (model prog w) A t (fun a s' => ∃ h' tk', s' = (sAt s0 h' tk') ∧ Q a h') (fun _ _ => False) s) : EV prog w A s0 t h Q :=
  fun tk => x _ rfl fun _ _ => rfl
set_option tactic.hygienic true in
theorem small_bits {b : Int} (h : small b) : Builtin.Int.intBits b ≤ 64 := by
  unfold small at h
  unfold Builtin.Int.intBits
  split
  · exact (by decide)
  · rename_i hb
    have h0 : b.natAbs ≠ 0 := by intro q; apply hb; simp only [beq_iff_eq]; omega
    have := (Nat.log2_lt h0 (k := 60)).mpr h
    exact Nat.le_trans ‹_› (by decide)
set_option tactic.hygienic true in
theorem small_div {a b : Int} (h : small b) : Builtin.divisionGoesByPylong a b = false := by
  have h1 : (if b == 0 then 0 else b.natAbs.log2 / 30 + 1) ≤ 3 := by
    split
    · exact (by decide)
    · rename_i hb
      have h0 : b.natAbs ≠ 0 := by intro q; apply hb; simp only [beq_iff_eq]; omega
      have := (Nat.log2_lt h0 (k := 60)).mpr h
      exact (qT (qR (qD (qC this)) _) (by decide))
  unfold Builtin.divisionGoesByPylong
  simp only [Bool.and_eq_false_iff, decide_eq_false_iff_not]
  exact .inl (Nat.not_lt.mpr (qT h1 (by decide)))
theorem fits_of {n : Nat} (h : fit n) : n ≤ sizeLine := by unfold fit at h; unfold sizeLine; exact Nat.le_trans ‹_› (by decide)
theorem mul_listE {l : Addr} {vs : List Value} {k : Nat} {x : Int} {u : Tok} {Q : Value → Heap → Prop} (hl : h.get? l = some (listO vs.toArray k)) (hx : few x) (hz : vs.length ≤ 1000)
    (hq : Q (.ref h.objs.size) (h.push { cls := .type "list", data := .seq (List.replicate x.toNat vs).flatten.toArray })) : EV prog w A s0 (binaryOp .Mult (.ref l) (.int x u)) h Q := fun tk => by
  unfold few at hx
  have hsz : vs.toArray.size * x.toNat ≤ 16777216 := by
    have : vs.length * x.toNat ≤ 1000 * 1000 := Nat.mul_le_mul hz (by omega)
    simp only [List.size_toArray]; exact Nat.le_trans ‹_› (by decide)
  rw [← listMul_foldl_if] at hq
  exact wpAny_binaryOp_repeat_ref (T := "list") (U := "int") (by decide) ⟨_, hl, rfl⟩ (fun s' => typeIs_int s' x u) noFill_list_mul F.fills_int_mul F.slot_int_rmul repeat_list F.slot_int_index.lookup
    (call_meets F.slot_int_rmul (typeIs_int _ x u) F.entry_int_rmul (F.args_int_rmul_2 _ _) (int___rmul___int_list x u l vs.toArray k)
      ⟨hl, rfl, ⟨_, hl, rfl⟩, call_meets F.slot_list_mul ⟨_, hl, rfl⟩ F.entry_list_mul (F.args_list_mul_2 _ _)
        (AutoListH.list___mul___list_int_3 l vs.toArray k x u (by simp [Builtin.List.listFitsIndex]; exact ⟨(Int.le_trans (by decide) hx.1), (Int.lt_of_le_of_lt hx.2 (by decide))⟩) (by omega) (by simp only [Builtin.List.listTooLong, sizeLine]; simp; simp at hsz; exact hsz))
        ⟨hl, (pst (hq))⟩⟩)
theorem flat_arrays : ∀ (n : Nat) (a : Array Nat) (acc : Array Nat), ((List.replicate n a).foldl (· ++ ·) acc).toList = acc.toList ++ (List.replicate n a.toList).flatten
  | 0, a, acc => by simp
  | n + 1, a, acc => by rw [List.replicate_succ, List.foldl_cons, flat_arrays n, List.replicate_succ, List.flatten_cons]; simp
set_option tactic.hygienic true in
theorem mul_text (s : List Nat) (n : Int) : (Txt.mul (txt s) n).cps.toList = (List.replicate n.toNat s).flatten := by
  unfold Txt.mul
  split
  · have : n.toNat = 0 := by omega
    rw [this]; rfl
  · split
    · rename_i h1 h2
      simp only [Bool.or_eq_true, beq_iff_eq] at h2
      rcases h2 with h2 | h2
      · refine yl h2 ?_; clear h2; simp [txt]
      · have : s = [] := by simpa [txt, Str.length] using h2
        refine yl this ?_; clear this; simp [txt]
    · rw [flat_arrays]; simp [txt]
theorem some_of {α : Type} {a b : α} (e : some a = some b) : a = b := by injection e
theorem vInt_of {d : D} {i : Int} : vInt d = some i → d = .int i := by cases d <;> first | exact nos | exact fun e => congrArg D.int (some_of e)
theorem vStr_of {d : D} {i : List Nat} : vStr d = some i → d = .str i := by cases d <;> first | exact nos | exact fun e => congrArg D.str (some_of e)
theorem vByt_of {d : D} {i : List UInt8} : vByt d = some i → d = .bytes i := by cases d <;> first | exact nos | exact fun e => congrArg D.bytes (some_of e)
theorem vLst_of {d : D} {i : List D} : vLst d = some i → d = .list i := by cases d <;> first | exact nos | exact fun e => congrArg D.list (some_of e)
theorem vTup_of {d : D} {i : List D} : vTup d = some i → d = .tup i := by cases d <;> first | exact nos | exact fun e => congrArg D.tup (some_of e)
theorem vTy_of {d : D} {i : String} : vTy d = some i → d = .ty i := by cases d <;> first | exact nos | exact fun e => congrArg D.ty (some_of e)
theorem opt_of {α β : Type} {o : Option α} {f : α → Option β} {r : β} (e : o.bind f = some r) : ∃ x, o = some x ∧ f x = some r := by
  cases o with
  | none => exact nos e
  | some x => exact ⟨x, rfl, e⟩
theorem vBool_of {d : D} {i : Bool} : vBool d = some i → d = .bool i := by cases d <;> first | exact nos | exact fun e => congrArg D.bool (some_of e)
theorem if_of {α : Type} {c : Prop} [Decidable c] {a r : α} (e : (if c then some a else none) = some r) : c ∧ a = r := by
  by_cases h : c
  · rw [if_pos h] at e; injection e with e; exact ⟨h, e⟩
  · rw [if_neg h] at e; exact nos e
section
variable {α : Type} {d : D} {v : Value} {r : α}
@[elab_as_elim] theorem int_e {P : Value → Prop} {i : Int} (x : V h X v (.int i)) (k : ∀ t, P (.int i t)) : P v := zE x.int_of fun t e => yl e (k t)
@[elab_as_elim] theorem str_e {P : Value → Prop} {i : List Nat} (x : V h X v (.str i)) (k : ∀ t, P (.str ⟨i.toArray⟩ t)) : P v := zE x.str_of fun t e => yl e (k t)
@[elab_as_elim] theorem bool_e {P : Value → Prop} {i : Bool} (x : V h X v (.bool i)) (k : P (.bool i)) : P v := yl x.bool_of k
@[elab_as_elim] theorem lst_e {P : Value → Prop} {i : List D} (x : W h X v (.list i)) (k : ∀ a vs n, h.get? a = some (listO vs.toArray n) → Vs h X vs i → P (.ref a)) : P v := zEEEAA x fun a vs n e p y => yl e (k a vs n p y)
@[elab_as_elim] theorem int_k {P : D → Value → Prop} {f : Int → Option α} (e : (vInt d).bind f = some r) (x : W h X v d) (k : ∀ i t, f i = some r → P (.int i) (.int i t)) : P d v := by
  obtain ⟨i, hi, e⟩ := opt_of e
  obtain rfl := vInt_of hi
  exact int_e x fun t => k i t e
@[elab_as_elim] theorem str_k {P : D → Value → Prop} {f : List Nat → Option α} (e : (vStr d).bind f = some r) (x : W h X v d) (k : ∀ i t, f i = some r → P (.str i) (.str ⟨i.toArray⟩ t)) : P d v := by
  obtain ⟨i, hi, e⟩ := opt_of e
  obtain rfl := vStr_of hi
  exact str_e x fun t => k i t e
@[elab_as_elim] theorem lst_k {P : D → Value → Prop} {f : List D → Option α} (e : (vLst d).bind f = some r) (x : W h X v d) (k : ∀ i a vs n, f i = some r → h.get? a = some (listO vs.toArray n) → Vs h X vs i → P (.list i) (.ref a)) : P d v := by
  obtain ⟨i, hi, e⟩ := opt_of e
  obtain rfl := vLst_of hi
  exact lst_e x fun a vs n => k i a vs n e
@[elab_as_elim] theorem if_k {P : α → Prop} {c : Prop} [Decidable c] {a : α} (e : (if c then some a else none) = some r) (k : c → P a) : P r := zA (if_of e) fun hc q => yr q (k hc)
end
theorem i2_ok {op : Operator} {f : Int → Int → Option D} {a b d : D} {va vb : Value} (e : i2 f a b = some d) (ha : W h X va a) (hb : W h X vb b)
    (q : ∀ (x y : Int) (t u : Tok), f x y = some d → EV prog w A s0 (binaryOp op (.int x t) (.int y u)) h (Got h X d)) : EV prog w A s0 (binaryOp op va vb) h (Got h X d) := by
  exact int_k e ha fun x t e => int_k e hb fun y u e => q x y t u e
theorem Vs.rep {vs : List Value} {ds : List D} (x : Vs h X vs ds) : ∀ k, Vs h X (List.replicate k vs).flatten (List.replicate k ds).flatten
  | 0 => .nil
  | k + 1 => by rw [List.replicate_succ, List.replicate_succ, List.flatten_cons, List.flatten_cons]; exact x.append (x.rep k)
theorem mulS_ok {s : List Nat} {n : Int} {t1 t2 : Tok} (hf : few n ∧ s.length ≤ 1000) : EV prog w A s0 (binaryOp .Mult (.str ⟨s.toArray⟩ t1) (.int n t2)) h (Got h X (.str (List.replicate n.toNat s).flatten)) := by
  have hn := hf.1
  unfold few at hn
  refine fun tk => SB.mul ⟨?_, fun h1 h2 => ?_, fun h1 h2 => ?_⟩ (fun t' k => (pst (got_str (mul_text s n))))
  · simp; exact ⟨(Int.le_trans (by decide) hn.1), (Int.lt_of_le_of_lt hn.2 (by decide))⟩
  · have h3 := hf.2
    show ¬ (s.toArray.size : Int) > _
    rw [List.size_toArray]
    have : (2 ^ 63 - 1 : Int) / n ≥ 2 ^ 63 / 2000 := by
      apply Int.le_ediv_of_mul_le (Int.lt_of_lt_of_le (by decide) (Int.not_lt.mp h1)); omega
    omega
  · show Builtin.Str.tooLong (s.toArray.size * n.toNat) = false
    have : s.length * n.toNat ≤ 1000 * 1000 := Nat.mul_le_mul hf.2 (by omega (config := {}))
    rw [List.size_toArray]
    have h2 : s.length * n.toNat ≤ 16777216 := Nat.le_trans this (by decide)
    exact decide_eq_false (by unfold sizeLine; exact Nat.not_lt.mpr h2)
theorem add_ok2 {a b d : D} {va vb : Value} (e : addD a b = some d) (t : There X h) (ha : W h X va a) (hb : W h X vb b) : EV prog w A s0 (binaryOp .Add va vb) h (Got h X d) := by
  cases a with
  | int x =>
    refine int_k e hb fun y t2 e => y1 e (int_e ha fun t1 => ?_)
    exact fun tk => add_int (pst (got_int rfl))
  | str s =>
    refine str_k e hb fun y t2 e => if_k e fun hf => str_e ha fun t1 => ?_
    exact fun tk => SB.add (fun t' k => (pst (got_str (by show (_ ++ _ : Array Nat).toList = _; rw [Array.toList_append])))) (fits_of (by show fit (s.toArray.size + y.toArray.size); rw [List.size_toArray, List.size_toArray]; exact hf))
  | list s =>
    refine lst_k e hb fun q a2 ws n2 e h2 y => if_k e fun hf => lst_e ha fun a1 vs n h1 x => ?_
    refine fun tk => P.add_list h1 h2 (pst (?_)) (fits_of (by rw [List.size_toArray, List.size_toArray, x.length, y.length]; exact hf))
    rw [show vs.toArray ++ ws.toArray = (vs ++ ws).toArray from List.append_toArray ..]
    exact got_list t (x.append y)
  | _ => exact nos e
theorem mul_ok2 {a b d : D} {va vb : Value} (e : mulD a b = some d) (t : There X h) (ha : W h X va a) (hb : W h X vb b) : EV prog w A s0 (binaryOp .Mult va vb) h (Got h X d) := by
  cases a with
  | int x =>
    refine int_k e hb fun y u e => if_k e fun hf => int_e ha fun t1 => ?_
    exact fun tk => mul_int (pst (got_int rfl)) (IntMulOk.of_right (small_bits hf))
  | list s =>
    refine int_k e hb fun y u e => if_k e fun hf => lst_e ha fun a1 vs n h1 x => ?_
    exact mul_listE h1 hf.1 (by rw [x.length]; exact hf.2) (got_list t (x.rep _))
  | str s =>
    refine int_k e hb fun y u e => if_k e fun hf => str_e ha fun t1 => ?_
    exact mulS_ok hf
  | _ => exact nos e
theorem few1 {n : Int} (h : few n) : n ≤ 1000 := h.2
theorem bin_ok {op : Operator} {a b d : D} {va vb : Value} (e : bin op a b = some d) (t : There X h) (ha : W h X va a) (hb : W h X vb b) : EV prog w A s0 (binaryOp op va vb) h (Got h X d) := by
  cases op with
  | Add => exact add_ok2 e t ha hb
  | Mult => exact mul_ok2 e t ha hb
  | Sub => exact i2_ok e ha hb fun x y t u e => y1 e fun tk => sub_int (pst (got_int rfl))
  | FloorDiv => exact i2_ok e ha hb fun x y t u e => if_k e fun hf tk => floordiv_int hf.1 (pst (got_int rfl)) (.inl (small_div hf.2))
  | Mod => exact i2_ok e ha hb fun x y t u e => if_k e fun hf tk => mod_int' hf (pst (got_int rfl))
  | Pow =>
    refine i2_ok e ha hb fun x y t u e => if_k e fun hf tk => ?_
    exact pow_int_small hf.1.1 (by have := few1 hf.1; exact (Int.le_trans this (by decide))) (by have := hf.2; unfold small at this; exact (qM (qC this) (by decide))) (pst (got_int rfl))
  | LShift =>
    refine i2_ok e ha hb fun x y t u e => if_k e fun hf tk => ?_
    exact lshift_int_small hf.1.1 (by have := few1 hf.1; exact (Int.le_trans this (by decide))) (by have := hf.2; unfold small at this; exact (qM (qC this) (by decide))) (pst (got_int rfl))
  | RShift => exact i2_ok e ha hb fun x y t u e => if_k e fun hf tk => rshift_int hf.1 (pst (got_int rfl))
  | BitAnd => exact i2_ok e ha hb fun x y t u e => y1 e fun tk => and_int (pst (got_int rfl))
  | BitOr => exact i2_ok e ha hb fun x y t u e => y1 e fun tk => or_int (pst (got_int rfl))
  | _ => exact nos e
theorem Vs.ints : ∀ {vs : List Value} {ds : List D} {ns : List Int}, intsOf ds = some ns → Vs h X vs ds → IntsAre vs ns
  | _, [], ns, e, x => by refine yl (x.nil_of) ?_; obtain rfl := some_of e; exact .nil
  | _, d :: r, ns, e, x => by
    refine zEEAA (x.cons_of) ?_; rintro v vs rfl a b
    refine zEA (opt_of e) fun i hi e => ?_
    refine zEA (Option.map_eq_some_iff.mp e) ?_; rintro l e1 rfl
    obtain rfl := vInt_of hi
    obtain ⟨t, rfl⟩ := a.int_of
    exact .cons _ t (b.ints e1)
theorem IsL.is {h : Heap} {a : Addr} {vs : Array Value} {n : Nat} (e : h.get? a = some (listO vs n)) : h.IsList a vs := ⟨_, e, rfl, n, rfl⟩
theorem tup2_reads {a b : List Nat} {v : Value} (x : V h X v (.tup [.str a, .str b])) : Reads h v (.tuple [.str (txt a), .str (txt b)]) [] := by
  refine zEEEAAA x.tup_of fun r vs n e p _ y => yl e ?_
  clear x e
  obtain ⟨v1, r1, rfl, q1, z1⟩ := y.cons_of
  obtain ⟨v2, r2, rfl, q2, z2⟩ := z1.cons_of
  obtain ⟨t1, rfl⟩ := q1.str_of
  obtain ⟨t2, rfl⟩ := q2.str_of
  obtain rfl := z2.nil_of
  exact reads_tuple_at p rfl rfl (.cons (.str _ _) (.cons (.str _ _) .nil))
theorem txt_eq {a b : List Nat} : (txt a == txt b) = decide (a = b) := by
  by_cases e : a = b
  · subst e; simp
  · rw [decide_eq_false e, beq_eq_false_iff_ne]
    intro q; apply e
    unfold txt at q; injection q with q; simpa using q
theorem int_beq (a b : Int) : (a == b) = decide (a = b) := by rw [Bool.eq_iff_iff]; simp
theorem vTwo_of {l : List D} {p : List Nat × List Nat} (e : vTwo l = some p) : l = [.str p.1, .str p.2] := by
  match l with
  | [] => exact nos e
  | [_] => exact nos e
  | _ :: _ :: _ :: _ => exact nos e
  | [x, y] =>
    refine zEA (opt_of e) fun a ha e => ?_
    refine zEA (opt_of e) fun b hb e => ?_
    refine yl (vStr_of ha) ?_
    refine yl (vStr_of hb) ?_
    obtain rfl := some_of e
    rfl
theorem two_ok {a1 a2 b1 b2 : List Nat} {va vb : Value} (hl : low a1 ∧ low a2 ∧ low b1 ∧ low b2) (ha : V h X va (.tup [.str a1, .str a2])) (hb : V h X vb (.tup [.str b1, .str b2])) (hu : A.units + 64 < cLine) :
    EV prog w A s0 (compareOp .Eq va vb) h (fun v h' => v = .bool (decide (a1 = b1) && decide (a2 = b2)) ∧ h' = h) ∧ EV prog w A s0 (compareOp .NotEq va vb) h (fun v h' => v = .bool (!(decide (a1 = b1) && decide (a2 = b2))) ∧ h' = h) := by
  refine zAAA hl ?_; clear hl; intro l1 l2 l3 l4
  have r1 := tup2_reads ha
  have r2 := tup2_reads hb
  have q : PyData.eqv (.tuple [.str (txt a1), .str (txt a2)]) (.tuple [.str (txt b1), .str (txt b2)]) = (decide (a1 = b1) && decide (a2 = b2)) := by
    rw [← txt_eq, ← txt_eq]; simp [PyData.eqv, PyData.eqvAll]
  have ok : ∀ {a}, low a → PyData.strOk (txt a) = true := fun {a} l => by
    unfold PyData.strOk txt
    simp only [List.all_toArray, List.all_eq_true, decide_eq_true_eq]
    exact fun c hc => Nat.lt_trans (l c hc) (by decide)
  have sh : ∀ {a b}, low a → low b → SeqAt.shaped (.tuple [.str (txt a), .str (txt b)]) = true := fun la lb => by simp [SeqAt.shaped, PyData.canLay0, PyData.canLayAll0, PyData.depth, PyData.depthAll, ok la, ok lb]
  exact ⟨fun tk => eq_dataH r1 r2 (sh l1 l2) (sh l3 l4) hu (pst ⟨by rw [q], rfl⟩), fun tk => ne_dataH r1 r2 (sh l1 l2) (sh l3 l4) hu (pst ⟨by rw [q], rfl⟩)⟩
theorem deq_ok {a b : D} {va vb : Value} {r : Bool} (e : deq a b = some r) (ha : W h X va a) (hb : W h X vb b) (hu : A.units + 64 < cLine) :
    EV prog w A s0 (compareOp .Eq va vb) h (fun v h' => v = .bool r ∧ h' = h) ∧ EV prog w A s0 (compareOp .NotEq va vb) h (fun v h' => v = .bool (!r) ∧ h' = h) := by
  cases a with
  | int x =>
    refine int_k e hb fun y u e => y1 e (int_e ha fun t => ?_)
    exact ⟨fun tk => eq_int (pst ⟨by rw [int_beq], rfl⟩), fun tk => ne_int (pst ⟨by rw [bne, int_beq], rfl⟩)⟩
  | str x =>
    refine str_k e hb fun y u e => y1 e (str_e ha fun t => ?_)
    exact ⟨fun tk => eq_str (pst ⟨by rw [← txt_eq]; rfl, rfl⟩), fun tk => ne_str (pst ⟨by rw [← txt_eq]; rfl, rfl⟩)⟩
  | bool x =>
    obtain ⟨y, hy, e⟩ := opt_of e
    obtain rfl := vBool_of hy
    refine y1 e (bool_e ha (bool_e hb ?_))
    exact ⟨fun tk => eq_bool (pst ⟨rfl, rfl⟩), fun tk => ne_bool (pst ⟨rfl, rfl⟩)⟩
  | list x =>
    refine lst_k e hb fun _ a2 ws n2 e h2 y => zEA (opt_of e) fun x1 ex e => zEA (opt_of e) fun z ey e => y1 e (lst_e ha fun a1 vs n h1 x => ?_)
    exact ⟨fun tk => ke_eq_ints (IsL.is h1) (IsL.is h2) (x.ints ex) (y.ints ey) hu (pst ⟨rfl, rfl⟩), fun tk => ke_ne_ints (IsL.is h1) (IsL.is h2) (x.ints ex) (y.ints ey) hu (pst ⟨rfl, rfl⟩)⟩
  | tup x =>
    obtain ⟨y, hy, e⟩ := opt_of e
    obtain rfl := vTup_of hy
    obtain ⟨x1, ex, e⟩ := opt_of e
    refine zEA (opt_of e) fun y1 ey e => ?_
    refine zA (if_of e) ?_; rintro hl rfl
    obtain rfl := vTwo_of ex
    obtain rfl := vTwo_of ey
    exact two_ok hl ha hb hu
  | _ => exact nos e
theorem V.ref_of {d : D} {v : Value} (x : V h X v d) : ∀ a, v = .ref a → (∃ l, d = .list l) ∨ (∃ l, d = .tup l) ∨ d = .obj a :=
  V.casesOn (motive_1 := fun v d _ => ∀ a, v = .ref a → (∃ l, d = .list l) ∨ (∃ l, d = .tup l) ∨ d = .obj a) x (fun _ e => Value.noConfusion e) (fun _ _ e => Value.noConfusion e) (fun _ _ _ e => Value.noConfusion e) (fun _ _ _ e => Value.noConfusion e) (fun _ _ _ e => Value.noConfusion e)
    (fun _ _ _ _ _ => .inl ⟨_, rfl⟩) (fun _ _ _ _ _ => .inr (.inl ⟨_, rfl⟩)) (fun _ _ _ _ e => .inr (.inr (Value.noConfusion e fun e => congrArg D.obj e))) (fun _ _ e => Value.noConfusion e)
theorem W.ref {d : D} {a : Addr} (x : W h X (.ref a) d) : (∃ l, d = .list l) ∨ (∃ l, d = .tup l) ∨ d = .obj a := by
  cases d with
  | list l => exact .inl ⟨l, rfl⟩
  | _ => exact V.ref_of x _ rfl
theorem W.noneV {a : D} (x : W h X .none a) : a = .none ∨ disN a = none := by
  cases a with
  | none => exact .inl rfl
  | undef => exact .inr rfl
  | meth => exact .inr rfl
  | list l => refine zEEEA x ?_; clear x; intro _ _ _ q _; cases q
  | tup l => refine zEEEA (V.tup_of x) fun _ _ _ q _ => ?_; cases q
  | bool b => have q := V.bool_of x; cases q
  | int b => obtain ⟨_, q⟩ := V.int_of x; cases q
  | str b => obtain ⟨_, q⟩ := V.str_of x; cases q
  | bytes b => obtain ⟨_, q⟩ := V.bytes_of x; cases q
  | obj b => have q := (V.obj_of x).1; cases q
  | ty b => have q := V.ty_of x; cases q
theorem dis_ok {a b : D} {va vb : Value} {r : Bool} (e : dis a b = some r) (ha : W h X va a) (hb : W h X vb b) :
    EV prog w A s0 (compareOp .Is va vb) h (fun v h' => v = .bool r ∧ h' = h) ∧ EV prog w A s0 (compareOp .IsNot va vb) h (fun v h' => v = .bool (!r) ∧ h' = h) := by
  cases b with
  | none =>
    change disN a = some r at e
    refine yl (V.none_of hb) ?_
    by_cases hv : va = .none
    · subst hv
      rcases W.noneV ha with rfl | q
      · obtain rfl := some_of e
        exact ⟨fun tk => is_none_none (pst ⟨rfl, rfl⟩), fun tk => isnot_none_none (pst ⟨rfl, rfl⟩)⟩
      · rw [q] at e; exact nos e
    · have hr : r = false := by
        cases a with
        | none => exact absurd (V.none_of ha) hv
        | undef => exact nos e
        | meth => exact nos e
        | _ => exact (some_of e).symm
      subst hr
      exact ⟨fun tk => is_none_ne hv (pst ⟨rfl, rfl⟩), fun tk => isnot_none_ne hv (pst ⟨rfl, rfl⟩)⟩
  | ty n =>
    refine zEA (opt_of e) fun m hm e => ?_
    obtain rfl := vTy_of hm
    obtain rfl := some_of e
    obtain rfl := V.ty_of ha
    obtain rfl := V.ty_of hb
    have q : (Value.type m == Value.type n) = decide (m = n) := by
      by_cases e : m = n
      · subst e; simp
      · rw [decide_eq_false e, beq_eq_false_iff_ne]; intro q; injection q with q; exact e q
    exact ⟨fun tk => wpAny_is_plain rfl (pst ⟨by rw [q], rfl⟩), fun tk => wpAny_isNot_plain rfl (pst ⟨by rw [q], rfl⟩)⟩
  | obj n =>
    refine zAEAA (V.obj_of hb) ?_; rintro rfl o2 p2 q2 r2
    cases a with
    | obj m =>
      obtain rfl := some_of e
      refine zAEAA (V.obj_of ha) ?_; rintro rfl o1 p1 q1 r1
      by_cases e : m = n
      · refine yl e ?_; clear e
        exact ⟨fun tk => wpAny_is_ref_self (pst ⟨by simp, rfl⟩), fun tk => wpAny_isNot_ref_self (pst ⟨by simp, rfl⟩)⟩
      · have hc : ∀ o : Obj, o.cls = .type "object" → o.cls ≠ .type "tuple" := fun o e => by rw [e]; simp
        exact ⟨fun tk => wpAny_is_ref_other e p1 p2 (hc _ q1) (pst ⟨by simp [e], rfl⟩), fun tk => wpAny_isNot_ref_other e p1 p2 (hc _ q1) (pst ⟨by simp [e], rfl⟩)⟩
    | str s =>
      obtain rfl := some_of e
      refine zE (V.str_of ha) ?_; rintro t rfl
      exact ⟨fun tk => wpAny_is_plain rfl (pst ⟨rfl, rfl⟩), fun tk => wpAny_isNot_plain rfl (pst ⟨rfl, rfl⟩)⟩
    | _ => exact nos e
  | _ => exact nos e
theorem ib_ok {op : CmpOp} {f : Int → Int → Bool} {a b : D} {va vb : Value} {r : Bool} (e : ib f a b = some r) (ha : W h X va a) (hb : W h X vb b)
    (q : ∀ (x y : Int) (t u : Tok), EV prog w A s0 (compareOp op (.int x t) (.int y u)) h (fun v h' => v = .bool (f x y) ∧ h' = h)) : EV prog w A s0 (compareOp op va vb) h (fun v h' => v = .bool r ∧ h' = h) := by
  exact int_k e ha fun x t e => int_k e hb fun y u e => y1 e (q x y t u)
theorem cmp_ok {op : CmpOp} {a b : D} {va vb : Value} {r : Bool} (e : cmp op a b = some r) (ha : W h X va a) (hb : W h X vb b) (hu : A.units + 64 < cLine) :
    EV prog w A s0 (compareOp op va vb) h (fun v h' => v = .bool r ∧ h' = h) := by
  cases op with
  | Eq => exact (deq_ok e ha hb hu).1
  | NotEq => refine zEA (Option.map_eq_some_iff.mp e) ?_; rintro b e1 rfl; exact (deq_ok e1 ha hb hu).2
  | Is => exact (dis_ok e ha hb).1
  | IsNot => refine zEA (Option.map_eq_some_iff.mp e) ?_; rintro b e1 rfl; exact (dis_ok e1 ha hb).2
  | Lt => exact ib_ok e ha hb fun x y t u tk => lt_int (pst ⟨rfl, rfl⟩)
  | LtE => exact ib_ok e ha hb fun x y t u tk => le_int (pst ⟨rfl, rfl⟩)
  | Gt => exact ib_ok e ha hb fun x y t u tk => gt_int (pst ⟨rfl, rfl⟩)
  | GtE => exact ib_ok e ha hb fun x y t u tk => ge_int (pst ⟨rfl, rfl⟩)
  | _ => exact nos e
theorem truth_ok {a : D} {va : Value} {r : Bool} (e : truth a = some r) (ha : W h X va a) : EV prog w A s0 (truthy va) h (fun b h' => b = r ∧ h' = h) := by
  cases a with
  | none => refine y1 e (yl (V.none_of ha) ?_); exact fun tk => truthy_none (pst ⟨rfl, rfl⟩)
  | bool b => refine y1 e (bool_e ha ?_); exact fun tk => wpAny_truthy_bool (pst ⟨rfl, rfl⟩)
  | int i => refine y1 e (int_e ha fun t => ?_); exact fun tk => truthy_int (pst ⟨by rw [bne, int_beq]; simp, rfl⟩)
  | str s =>
    refine if_k e fun hf => str_e ha fun t => ?_
    refine fun tk => P.truthy_str ?_ (pst ⟨?_, rfl⟩)
    · unfold fit at hf; show ¬ ((s.toArray.size : Nat) : Int) ≥ _; rw [List.size_toArray]; omega
    · show (((s.toArray.size : Nat) : Int) != 0) = _
      rw [List.size_toArray, bne, int_beq]; cases s with
      | nil => rfl
      | cons a l => rw [decide_eq_false (by rw [List.length_cons]; omega)]; rfl
  | list s =>
    refine if_k e fun hf => lst_e ha fun a1 vs n h1 x => ?_
    refine fun tk => wpAny_truthy_list (IsL.is h1) ?_ (pst ⟨?_, rfl⟩)
    · unfold fit at hf; rw [List.size_toArray, x.length]; omega
    · rw [List.isEmpty_toArray]
      cases s with
      | nil => refine yl (x.nil_of) ?_; rfl
      | cons => refine zEEA (x.cons_of) ?_; rintro _ _ rfl _; rfl
  | _ => exact nos e
set_option tactic.hygienic true in
theorem seqIndex_lt {i : Int} {n j : Nat} (e : seqIndex? i n = some j) : j < n ∧ ((0 ≤ i ∧ j = i.toNat) ∨ (i < 0 ∧ -(n : Int) ≤ i ∧ j = (i + n).toNat)) := by
  unfold seqIndex? at e
  simp only [Bool.and_eq_true, decide_eq_true_eq] at e
  split at e <;> split at e <;> (first | exact nos e | (refine y1 e ?_; clear e)) <;> rename_i h1 h2
  · exact ⟨by exact ((Int.toNat_lt h2.1).mpr h2.2), .inr ⟨h1, by omega, rfl⟩⟩
  · exact ⟨by omega, .inl ⟨by exact (Int.not_lt.mp h1), rfl⟩⟩
set_option tactic.hygienic true in
theorem getI_some {α : Type} {xs : List α} {i : Int} {x : α} (e : getI xs i = some x) : small i ∧ ∃ j, seqIndex? i xs.length = some j ∧ xs[j]? = some x := by
  unfold getI at e
  split at e
  · rename_i hs
    refine zEA (Option.bind_eq_some_iff.mp e) fun j e1 e2 => ?_
    exact ⟨hs, j, e1, e2⟩
  · exact nos e
abbrev IdxOk (prog : Program) (w : World) (A : Around) (s0 : Shared) (X : Addr → Prop) (h : Heap) (va vb : Value) (d : D) : Prop :=
  EV prog w A s0 (getItem va vb) h (fun v h' => h' = h ∧ V h' X v d) ∧ ∃ T id, (∀ s : Shared, s.heap = h → s.TypeIs va T) ∧ typeLookup (.type T) "__getitem__" = pure (some (.builtin id))
theorem idxL_ok {xs : List D} {i : Int} {d : D} {va : Value} {t : Tok} (e : getI xs i = some d) (ha : W h X va (.list xs)) : IdxOk prog w A s0 X h va (.int i t) d := by
  refine lst_e ha fun a1 vs n h1 x => ?_
  refine zAEA (getI_some e) fun hs j e1 e2 => ?_
  refine zEA (x.get e2) fun v ev hv => ?_
  unfold small at hs
  refine ⟨fun tk => ?_, "list", _, fun s e => ⟨_, e ▸ h1, rfl⟩, slot_list_getitem.lookup⟩
  refine zA (seqIndex_lt e1) fun hj hc => ?_
  rcases hc with ⟨h0, rfl⟩ | ⟨h0, hn, rfl⟩
  · exact wpAny_getItem_list (IsL.is h1) h0 (by omega) (by rw [List.getElem?_toArray]; exact ev) (pst ⟨rfl, hv⟩)
  · exact wpAny_getItem_list_neg (IsL.is h1) h0 (by rw [List.size_toArray, x.length]; exact hn) (by omega) (by rw [List.size_toArray, x.length, List.getElem?_toArray]; exact ev) (pst ⟨rfl, hv⟩)
theorem idxT_ok {xs : List D} {i : Int} {d : D} {va : Value} {t : Tok} (e : getI xs i = some d) (ha : V h X va (.tup xs)) : IdxOk prog w A s0 X h va (.int i t) d := by
  refine zEEEAAA (ha.tup_of) ?_; rintro a1 vs n rfl h1 nx x
  refine zAEA (getI_some e) fun hs j e1 e2 => ?_
  refine zEA (x.get e2) fun v ev hv => ?_
  unfold small at hs
  refine ⟨fun tk => ?_, "tuple", _, fun s e => ⟨_, e ▸ h1, rfl⟩, F.slot_tuple_getitem.lookup⟩
  exact P.getItem_tuple h1 (by omega) (by omega) (by rw [List.size_toArray, x.length]; exact e1) (by rw [List.getElem?_toArray]; exact ev) (pst ⟨rfl, hv⟩)
theorem idxS_ok {s : List Nat} {i : Int} {c : Nat} {t u : Tok} (e : getI s i = some c) : IdxOk prog w A s0 X h (.str ⟨s.toArray⟩ u) (.int i t) (.str [c]) := by
  refine zAEA (getI_some e) fun hs j e1 e2 => ?_
  unfold small at hs
  refine ⟨fun tk => ?_, "str", _, fun s e => rfl, F.slot_str_getitem.lookup⟩
  exact getItem_str (by simp; omega (config := {})) (by show (seqIndex? i s.toArray.size).bind _ = _; rw [List.size_toArray, e1]; exact (List.getElem?_toArray ..).trans e2) (pst ⟨rfl, .str [c] _⟩)
theorem idxB_ok {s : List UInt8} {i : Int} {c : UInt8} {t u : Tok} (hf : fit s.length ∧ 0 ≤ i) (e : getI s i = some c) : IdxOk prog w A s0 X h (.bytes s.toArray u) (.int i t) (.int c.toNat) := by
  refine zAEA (getI_some e) fun hs j e1 e2 => ?_
  refine ⟨fun tk => ?_, "bytes", _, fun s e => rfl, FB.slot_bytes_getitem.lookup⟩
  refine zA (seqIndex_lt e1) fun hj hc => ?_
  rcases hc with ⟨h0, rfl⟩ | ⟨h0, hn, rfl⟩
  · have : s.getD i.toNat 0 = c := by rw [List.getD_eq_getElem?_getD, e2]; rfl
    refine getItem_bytes (by have := hf.1; unfold fit at this; exact Nat.le_trans ‹_› (by decide)) h0 (by omega) (pst ⟨rfl, ?_⟩)
    rw [this]; exact .int _ _
  · exact absurd hf.2 (Int.not_le.mpr h0)
theorem idx_ok {a b d : D} {va vb : Value} (e : idx a b = some d) (ha : W h X va a) (hb : W h X vb b) : IdxOk prog w A s0 X h va vb d := by
  cases a with
  | list xs =>
    exact int_k e hb fun i t e => idxL_ok e ha
  | tup xs =>
    exact int_k e hb fun i t e => idxT_ok e ha
  | str s =>
    exact int_k e hb fun i t e => str_e ha fun u => zEA (Option.map_eq_some_iff.mp e) fun c e0 q => yr q (idxS_ok e0)
  | bytes s =>
    refine int_k e hb fun i t e1 => zE ha.bytes_of fun u q => yl q ?_
    clear e
    by_cases hf : fit s.length ∧ 0 ≤ i
    · rw [if_pos hf] at e1
      obtain ⟨c, e0, rfl⟩ := Option.map_eq_some_iff.mp e1
      exact idxB_ok hf e0
    · rw [if_neg hf] at e1; exact nos e1
  | _ => exact nos e
theorem Vs.pickRun {vs : List Value} {ds : List D} (x : Vs h X vs ds) (a b : Nat) : Vs h X ((vs.drop a).take b) ((ds.drop a).take b) := (x.drop a).take b
theorem part_some {d : D} {v : Value} {p : Option Int} (e : partOf d = some p) (x : W h X v d) : ∃ q : Option (Int × Tok), v = partValue q ∧ q.map (·.1) = p := by
  cases d with
  | none => exact y1 e ⟨none, V.none_of x, rfl⟩
  | int i => exact y1 e (zE (V.int_of x) fun t e => ⟨some (i, t), e, rfl⟩)
  | _ => exact nos e
theorem part_of {d : D} {v : Value} {p : Option Int} (e : partOf d = some p) (x : W h X v d) : IsPart v p := by
  refine zEA (part_some e x) fun q a b => yl a (yr b ?_)
  cases q with
  | none => exact .none
  | some i => exact .int _ _
theorem strIdx_plain (lo hi : Option Int) (n : Nat) : Builtin.Str.strSliceIndices lo hi 1 n = (List.range (hi.elim n (clipAt n) - lo.elim 0 (clipAt n))).map (lo.elim 0 (clipAt n) + ·) := by
  rw [← sliceRange_one]
  unfold Builtin.Str.strSliceIndices
  cases lo <;> cases hi <;> simp [clipAt_cast]
theorem picked_text (s : List Nat) (lo hi : Option Int) : (Builtin.Str.strSliceIndices lo hi 1 s.length).filterMap (s.toArray[·]?) = cutL s lo hi := by
  rw [strIdx_plain, pick_run]; rfl
abbrev SliOk (prog : Program) (w : World) (A : Around) (s0 : Shared) (X : Addr → Prop) (h h1 : Heap) (va : Value) (d : D) : Prop :=
  EV prog w A s0 (getItem va (.ref h.objs.size)) h1 (fun v h' => Grow h1 h' ∧ V h' X v d ∧ New h v) ∧ ∃ T id, (∀ s : Shared, s.heap = h1 → s.TypeIs va T) ∧ typeLookup (.type T) "__getitem__" = pure (some (.builtin id))
theorem sliL_ok {xs : List D} {lo hi : D} {i j : Option Int} {va vl vu : Value} (hf : fit xs.length) (ei : partOf lo = some i) (ej : partOf hi = some j) (t : There X h) (ha : W h X va (.list xs)) (hl : W h X vl lo) (hu : W h X vu hi) :
    SliOk prog w A s0 X h (h.push { cls := .type "slice", data := .fields #[vl, vu, .none] }) va (.list (cutL xs i j)) := by
  have g1 : Grow h (h.push { cls := .type "slice", data := .fields #[vl, vu, .none] }) := .push h _
  refine lst_e ha fun a1 vs n ho x => ?_
  have ho1 := g1 _ _ ho
  refine ⟨fun tk => ?_, "list", _, fun s e => ⟨_, e ▸ ho1, rfl⟩, slot_list_getitem.lookup⟩
  refine wpAny_getItem_list_slice (IsL.is ho1) (Heap.IsSliceOf.new h vl vu .none) (part_of ei hl) (part_of ej hu) .none (by simp) (pst (?_)) (fits_of (by rw [List.size_toArray, x.length]; exact hf))
  rw [slicePick_plain]
  have z := got_list (t.grow g1) ((x.keep (g1.x X)).pickRun (i.elim 0 (clipAt vs.toArray.size)) (j.elim vs.toArray.size (clipAt vs.toArray.size) - i.elim 0 (clipAt vs.toArray.size)))
  refine ⟨z.1, ?_, z.2.2.old g1⟩
  unfold cutL
  rw [show vs.toArray.size = xs.length by rw [List.size_toArray, x.length]] at z ⊢
  exact z.2.1
theorem cut_whole {s : List Nat} {q1 q2 : Option Int} (hc : (cutL s q1 q2).length = s.length) : cutL s q1 q2 = s := by
  have h1 : (cutL s q1 q2) <:+: s := (List.take_prefix _ _).isInfix.trans (List.drop_suffix _ _).isInfix
  exact h1.eq_of_length hc
theorem cut_le (s : List Nat) (q1 q2 : Option Int) : (cutL s q1 q2).length ≤ s.length := ((List.take_prefix _ _).isInfix.trans (List.drop_suffix _ _).isInfix : (cutL s q1 q2) <:+: s).length_le
set_option tactic.hygienic true in
theorem sliS_ok {s : List Nat} {lo hi : D} {i j : Option Int} {vl vu : Value} {t1 : Tok} (hf : fit s.length) (ei : partOf lo = some i) (ej : partOf hi = some j) (hl : W h X vl lo) (hu : W h X vu hi) :
    SliOk prog w A s0 X h (h.push { cls := .type "slice", data := .fields #[vl, vu, .none] }) (.str ⟨s.toArray⟩ t1) (.str (cutL s i j)) := by
  refine ⟨fun tk => ?_, "str", _, fun s e => rfl, F.slot_str_getitem.lookup⟩
  refine zEA (part_some ei hl) ?_; rintro q1 rfl rfl
  refine zEA (part_some ej hu) ?_; rintro q2 rfl rfl
  refine wpAny_getItem_str_slice (l := q1) (u := q2) (st := none) ⟨_, Heap.get?_push_size _ rfl, rfl, rfl⟩ rfl ?_
  have key : slicePicked (txt s) q1 q2 none = Builtin.Str.strSliceIndices (q1.map (·.1)) (q2.map (·.1)) 1 s.length := by
    show Builtin.Str.strSliceIndices _ _ _ s.toArray.size = _
    rw [List.size_toArray]; rfl
  have txtE : (slicePicked (txt s) q1 q2 none).filterMap ((txt s).cps[·]?) = cutL s (q1.map (·.1)) (q2.map (·.1)) := by
    rw [key]; exact picked_text s _ _
  have hln : (slicePicked (txt s) q1 q2 none).length = (cutL s (q1.map (·.1)) (q2.map (·.1))).length := by
    rw [key, strIdx_plain, List.length_map, List.length_range]
    unfold cutL
    rw [List.length_take, List.length_drop]
    have hle : (q2.map (·.1)).elim s.length (clipAt s.length) ≤ s.length := by
      cases q2 with
      | none => exact Nat.le_refl _
      | some q => exact cl
    omega
  unfold sliceMade
  split
  · rename_i hc
    refine (pst ⟨.refl _, ?_, New.str⟩)
    simp only [Option.map_none, Option.getD_none, BEq.rfl, Bool.true_and, beq_iff_eq] at hc
    have hc' : (slicePicked (txt s) q1 q2 none).length = s.length := by rw [show s.length = (txt s).length from (List.size_toArray ..).symm]; exact hc
    rw [cut_whole (hln ▸ hc')]
    exact .str s t1
  · rw [← txtE]
    refine ⟨?_, _, _, rfl, .refl _, .str _ _, New.str⟩
    show (List.toArray _).size ≤ sizeLine
    rw [List.size_toArray]
    exact Nat.le_trans (Nat.le_of_eq (congrArg List.length txtE)) (Nat.le_trans (cut_le ..) (fits_of hf))
theorem sli_ok {a lo hi d : D} {va vl vu : Value} (e : sli a lo hi = some d) (t : There X h) (ha : W h X va a) (hl : W h X vl lo) (hu : W h X vu hi) :
    SliOk prog w A s0 X h (h.push { cls := .type "slice", data := .fields #[vl, vu, .none] }) va d := by
  cases a with
  | list xs =>
    refine zEA (opt_of e) fun i ei e => ?_
    refine zEA (opt_of e) fun j ej e => ?_
    refine if_k e fun hf => ?_
    exact sliL_ok hf ei ej t ha hl hu
  | str s =>
    refine zEA (opt_of e) fun i ei e => ?_
    refine zEA (opt_of e) fun j ej e => ?_
    refine if_k e fun hf => str_e ha fun t1 => ?_
    exact sliS_ok hf ei ej hl hu
  | _ => exact nos e
theorem Vs.strs : ∀ {vs : List Value} {ds : List D} {l : List (List Nat)}, strsOf ds = some l → Vs h X vs ds → ∃ q : List (Str × Tok), vs = strValues q ∧ q.map (·.1) = l.map txt
  | _, [], l, e, x => by refine yl (x.nil_of) ?_; obtain rfl := some_of e; exact ⟨[], rfl, rfl⟩
  | _, d :: r, l, e, x => by
    refine zEEAA (x.cons_of) ?_; rintro v vs rfl a b
    refine zEA (opt_of e) fun i hi e => ?_
    refine zEA (Option.map_eq_some_iff.mp e) ?_; rintro l e1 rfl
    obtain rfl := vStr_of hi
    obtain ⟨t, rfl⟩ := a.str_of
    obtain ⟨q, rfl, e2⟩ := b.strs e1
    exact ⟨(txt i, t) :: q, rfl, congrArg (txt i :: ·) e2⟩
theorem byteOf_of {d : D} {c : UInt8} (e : byteOf d = some c) : ∃ i : Int, d = .int i ∧ (0 ≤ i ∧ i < 256) ∧ i.toNat.toUInt8 = c := by
  cases d with
  | int i => exact ⟨i, rfl, if_of e⟩
  | _ => exact nos e
theorem bytes_of : ∀ {vs : List Value} {ds : List D} {l : List UInt8}, bytesOf ds = some l → Vs h X vs ds → ∃ ns : List Int, IntsAre vs ns ∧ (∀ n ∈ ns, 0 ≤ n ∧ n < 256) ∧ byteArr ns = l.toArray
  | _, [], l, e, x => by refine yl (x.nil_of) ?_; obtain rfl := some_of e; exact ⟨[], .nil, (fun n h => nomatch h), rfl⟩
  | _, d :: r, l, e, x => by
    refine zEEAA (x.cons_of) ?_; rintro v vs rfl a b
    refine zEA (opt_of e) fun c hc e => ?_
    refine zEA (Option.map_eq_some_iff.mp e) ?_; rintro s e2 rfl
    refine zEAA (byteOf_of hc) ?_; rintro i rfl hi rfl
    refine zEAA (bytes_of e2 b) fun ns h1 h2 h3 => ?_
    refine zE (a.int_of) ?_; rintro t rfl
    refine ⟨i :: ns, .cons _ t h1, fun n hn => ?_, ?_⟩
    · rcases List.mem_cons.mp hn with rfl | hn
      · exact hi
      · exact h2 n hn
    · have := congrArg Array.toList h3
      unfold byteArr at this ⊢
      simp at this ⊢
      exact this
end
theorem slot_bytes_translate : Slot "bytes" "translate" "bytes.translate" :=
  .of (owner := "bytes") (n := "translate") (by rw [typeLookup_type, builtinLookup_eq_fast]; kernel_rfl) (by decide +kernel) (by decide +kernel) (by decide +kernel)
    (by first | exact .inl (by decide +kernel) | exact .inr (by decide +kernel)) (by rw [isSubtype_type]; kernel_rfl)
theorem entry_bytes_translate : entryFor table "bytes.translate" = some Builtin.«bytes.translate» := entryFor_of_tree (by kernel_rfl)
theorem args_bytes_translate (a b : Value) : argsOk "bytes.translate" ⟨[a, b], []⟩ := by unfold argsOk; kernel_rfl
theorem type_bytes_translate : typeOf (.builtin "bytes.translate") = pure (.type "method_descriptor") := by show builtinType _ = _; rw [builtinType_eq_fast]; kernel_rfl
theorem entry_maketrans : entryFor table "bytes.maketrans" = some Builtin.«bytes.maketrans» := entryFor_of_tree (by kernel_rfl)
section
open Builtin
variable {b c : Array UInt8} {t u : Tok}
theorem gives_maketrans (hs : b.size = c.size) : Gives («bytes.maketrans» ⟨[.bytes b t, .bytes c u], []⟩) (.bytes ((b.toList.zip c.toList).foldl (fun t (x : UInt8 × UInt8) => t.setIfInBounds x.1.toNat x.2) ((Array.range 256).map (·.toUInt8)))) := by
  refine .of_wp fun M A E s Q hq => ?_
  show wpAny M A (noKeywords _ _ >>= fun r => _) _ E s
  refine wpAny_bind (wpAny_pure ?_)
  refine wpAny_bind (wpAny_pure ?_)
  show wpAny M A (Bytes.bytesLike _ (.bytes b t) >>= fun r => _) _ E s
  refine wpAny_bind (wpAny_of_eq KBd.like_eq ?_)
  show wpAny M A (Bytes.bytesLike _ (.bytes c u) >>= fun r => _) _ E s
  refine wpAny_bind (wpAny_of_eq KBd.like_eq ?_)
  show wpAny M A (if (b.size != c.size) = true then _ else _) _ E s
  rw [if_neg (by simp [hs])]
  exact wpAny_bind (wpAny_mkBytes (wpAny_pure ⟨_, rfl, hq.2⟩) hq.1)
theorem gives_translate (hs : c.size = 256) : Gives («bytes.translate» ⟨[.bytes b t, .bytes c u], []⟩) (if b.map (fun x => c.getD x.toNat x) == b then .val (.bytes b t) else .bytes (b.map fun x => c.getD x.toNat x)) := by
  refine .of_wp fun M A E s Q hq => ?_
  have h1 : ∀ id, Bytes.bytesLike id (.bytes c u) = pure c := fun id => KBd.like_eq
  have h2 : (c.size != 256) = false := by simp [hs]
  unfold «bytes.translate» Bytes.translateM
  have h3 : (Value.bytes c u == Value.none) = false := rfl
  have h4 : ∀ x : Array UInt8, x.filter (fun x => !(#[] : Array UInt8).contains x) = x := fun x => by simp
  simp only [h1, h2, h3, List.length_cons, List.length_nil, List.any_nil, List.head?_nil, Option.map_none, pure_bind, Bool.false_eq_true, if_false]
  rw [if_neg (by decide)]
  show wpAny M A (Bytes.payload (Value.bytes b t) >>= fun b_1 => _) _ E s
  refine wpAny_bind (wpAny_pure ?_)
  rw [h4]
  by_cases hb : (b.map (fun x => c.getD x.toNat x) == b) = true
  · rw [if_pos hb] at hq ⊢
    refine wpAny_bind (wpAny_rule ?_)
    exact wpAny_bind (wpAny_pure (wpAny_pure ⟨_, rfl, hq⟩))
  · rw [if_neg hb] at hq ⊢
    exact wpAny_bind (wpAny_mkBytes (wpAny_pure ⟨_, rfl, hq.2⟩) hq.1)
end
section
variable {prog : Program} {w : World} {A : Around} {s0 : Shared} {h : Heap} {X : Addr → Prop}
theorem sub_str_nested {k : Value} {dep : Int} {tk : Tok} {E : Value → Shared → Prop} {s : Shared} {Q : Fin → Shared → Prop} (hk : k = .int dep tk) (hq : Q (.done (.ret (.bool true))) s) :
    wpAny (model prog w) A (Builtin.«issubclass.nested» ⟨[.type "str", .type "str", k], []⟩) Q E s := by
  refine yl hk ?_; clear hk
  have hm : typeOf (.type "str") = pure (.type "type") := F.isi_meta_str
  have hself : isSubtype (.type "str") (.type "str") = pure true := F.sub_str_str
  repeat (any_goals (first | assumption | (rw [hself]) | wp_step))
theorem kind_nested : builtinKind "issubclass.nested" = none := by decide +kernel
theorem plain_nested : plainId "issubclass.nested" = true := by decide +kernel
theorem args_nested (a b c : Value) : argsOk "issubclass.nested" ⟨[a, b, c], []⟩ := by unfold argsOk; kernel_rfl
theorem meets_nested {dep : Int} {tk : Tok} : Meets (Builtin.«issubclass.nested» ⟨[.type "str", .type "str", .int dep tk], []⟩) (fun _ R s => R (.ok (.ret (.bool true))) s) :=
  .of_wp fun prog w A R s hS => sub_str_nested rfl ⟨_, rfl, hS⟩
theorem call_nested {s : Shared} {E : Value → Shared → Prop} {Q : Value → Shared → Prop} {dep : Int} {v : Value} (hv : v = .type "str") (hq : Q (.bool true) s) : wpAny (model prog w) A (call (.builtin "issubclass.nested") [.type "str", v, rawInt dep]) Q E s := by
  refine yl hv ?_; clear hv
  exact call_function_meets kind_nested plain_nested F.entry_issubclass_nested (args_nested _ _ _) meets_nested hq
theorem sub_str_tuple {k : Value} {tk : Tok} {a : Addr} {n : Nat} {E : Value → Shared → Prop} {s : Shared} {Q : Fin → Shared → Prop} (hk : k = .int 0 tk) (ho : s.heap.get? a = some (tupO #[.type "str", .type "bytes"] n))
    (hq : Q (.done (.ret (.bool true))) s) :
    wpAny (model prog w) A (Builtin.«issubclass.nested» ⟨[.type "str", .ref a, k], []⟩) Q E s := by
  refine yl hk ?_; clear hk
  have ht : s.TypeIs (.ref a) "tuple" := ⟨_, ho, rfl⟩
  have hl := F.sub_tuple_tuple
  repeat (any_goals (first | assumption | refine call_nested rfl ?_ | wp_step))
theorem call_sub_tuple {a : Addr} {n : Nat} {s : Shared} {E : Value → Shared → Prop} {Q : Value → Shared → Prop} (ho : s.heap.get? a = some (tupO #[.type "str", .type "bytes"] n)) (hq : Q (.bool true) s) :
    wpAny (model prog w) A (call (.builtin "issubclass") [.type "str", .ref a]) Q E s :=
  call_issubclass (S := fun _ R s => s.heap.get? a = some (tupO #[.type "str", .type "bytes"] n) ∧ R (.ok (.ret (.bool true))) s)
    (fun _ _ _ _ _ hs => issubclass_outer (sub_str_tuple rfl hs.1 hs.2)) ⟨ho, hq⟩
end
noncomputable def biVal (f : String) : Option Value :=
  if f = "len" then some (.builtin "len") else if f = "sum" then some (.builtin "sum") else if f = "isinstance" then some (.builtin "isinstance") else if f = "ord" then some (.builtin "ord") else
  if f = "chr" then some (.builtin "chr") else if f = "issubclass" then some (.builtin "issubclass") else if f = "bytes" then some (.type "bytes") else if f = "type" then some (.type "type") else none
section
variable {prog : Program} {w : World} {A : Around} {s0 : Shared} {h : Heap} {X : Addr → Prop}
inductive Ws (h : Heap) (X : Addr → Prop) : List Value → List D → Prop
  | nil : Ws h X [] []
  | cons {v : Value} {vs : List Value} {d : D} {ds : List D} : W h X v d → Ws h X vs ds → Ws h X (v :: vs) (d :: ds)
theorem Ws.grow {h h' : Heap} {X : Addr → Prop} {vs : List Value} {ds : List D} (x : Ws h X vs ds) (g : Grow h h') : Ws h' X vs ds := by
  induction x with
  | nil => exact .nil
  | cons a _ ih => exact .cons (a.grow g) ih
theorem sum_ok {l : Addr} {vs : List Value} {ns : List Int} {n : Nat} (hh : A.handled = none) (hl : h.get? l = some (listO vs.toArray n)) (hi : IntsAre vs ns) :
    EV prog w A s0 (call (.builtin "sum") [.ref l]) h (fun v h' => Grow h h' ∧ ∃ t, v = .int ns.sum t) := fun tk => by
  refine zE (hi.allInts.items) fun xs hx => ?_
  have hn : numsOf vs = ns := hi.numsOf
  have hl' : h.IsList l (intItems xs) := hx ▸ IsL.is hl
  refine sum_intListG hh hl' fun h' tk' t' hk => ⟨h', tk', rfl, hk, t', ?_⟩
  rw [preSum_eq, List.take_of_length_le (by simp)]
  rw [← hn, show vs = (intItems xs).toList from by rw [← hx], nums_intItems]
theorem Ws.nil_of {vs : List Value} (x : Ws h X vs []) : vs = [] := by cases x; rfl
theorem Ws.cons_of {vs : List Value} {d : D} {ds : List D} (x : Ws h X vs (d :: ds)) : ∃ v r, vs = v :: r ∧ W h X v d ∧ Ws h X r ds := by cases x with | cons a b => exact ⟨_, _, rfl, a, b⟩
theorem Ws.one_of {vs : List Value} {d : D} (x : Ws h X vs [d]) : ∃ v, vs = [v] ∧ W h X v d := by
  refine zEEAA (x.cons_of) ?_; rintro v r rfl a b
  refine yl (b.nil_of) ?_
  exact ⟨v, rfl, a⟩
theorem f1_ok {f : D → Option D} {l : List D} {d : D} {vs : List Value} {P : Prop} (e : f1 f l = some d) (x : Ws h X vs l) (q : ∀ a v, f a = some d → W h X v a → vs = [v] → P) : P := by
  match l with
  | [] => exact nos e
  | [a] => refine zEA (x.one_of) ?_; rintro v rfl b; exact q a v e b rfl
  | _ :: _ :: _ => exact nos e
theorem f2_ok {f : D → D → Option D} {l : List D} {d : D} {vs : List Value} {P : Prop} (e : f2 f l = some d) (x : Ws h X vs l) (q : ∀ a b v u, f a b = some d → W h X v a → W h X u b → vs = [v, u] → P) : P := by
  match l with
  | [] => exact nos e
  | [_] => exact nos e
  | [a, b] =>
    refine zEEAA (x.cons_of) ?_; rintro v r rfl y z
    refine zEA (z.one_of) ?_; rintro u rfl z1
    exact q a b v u e y z1 rfl
  | _ :: _ :: _ :: _ => exact nos e
theorem len_okB {a d : D} {v : Value} (e : lenD a = some d) (x : W h X v a) : EV prog w A s0 (call (.builtin "len") [v]) h (Got h X d) := by
  cases a with
  | list s =>
    refine zA (if_of e) ?_; rintro hz rfl
    refine zEEEAA x ?_; clear x; rintro a1 vs n rfl h1 x
    unfold fit at hz
    exact fun tk => len_list (IsL.is h1) (by rw [List.size_toArray, x.length]; omega) (pst (got_int (by rw [List.size_toArray, x.length])))
  | str s =>
    refine zA (if_of e) ?_; rintro hz rfl
    refine zE (V.str_of x) ?_; rintro t rfl
    unfold fit at hz
    exact fun tk => len_str (by show ¬ ((List.toArray _).size : Int) ≥ _; rw [List.size_toArray]; omega) (pst (got_int (by show ((List.toArray _).size : Int) = _; rw [List.size_toArray])))
  | bytes s =>
    refine zA (if_of e) ?_; rintro hz rfl
    refine zE (V.bytes_of x) ?_; rintro t rfl
    unfold fit at hz
    exact fun tk => len_bytes (by rw [List.size_toArray]; exact (qT hz (by decide))) (pst (got_int (by rw [List.size_toArray])))
  | _ => exact nos e
theorem sum_okB {a d : D} {v : Value} (e : sumD a = some d) (hA : A.handled = none) (x : W h X v a) : EV prog w A s0 (call (.builtin "sum") [v]) h (Got h X d) := by
  cases a with
  | list s =>
    refine zEA (Option.map_eq_some_iff.mp e) ?_; rintro ns e1 rfl
    refine zEEEAA x ?_; clear x; rintro a1 vs n rfl h1 x
    refine (sum_ok hA h1 (x.ints e1)).mono fun v h' q => ?_
    refine zAE q ?_; clear q; rintro g t rfl
    exact ⟨g, .int _ _, .int⟩
  | _ => exact nos e
theorem isi_ok {a b d : D} {v u : Value} (e : isiD a b = some d) (x : W h X v a) (y : W h X u b) : EV prog w A s0 (call (.builtin "isinstance") [v, u]) h (Got h X d) := by
  refine zEA (opt_of e) fun n hn e => ?_
  obtain rfl := vTy_of hn
  obtain rfl := V.ty_of y
  cases a with
  | str s =>
    obtain ⟨t, rfl⟩ := V.str_of x
    change (if n = "str" then _ else _) = some d at e
    by_cases h1 : n = "str"
    · rw [if_pos h1] at e; obtain rfl := some_of e; subst h1
      exact fun tk => IsiPair.str_str (pst ⟨.refl _, .bool _, .bool⟩)
    · rw [if_neg h1] at e
      obtain ⟨rfl, rfl⟩ := if_of e
      exact fun tk => IsiPair.str_bytes (pst ⟨.refl _, .bool _, .bool⟩)
  | bytes s =>
    obtain ⟨t, rfl⟩ := V.bytes_of x
    obtain ⟨rfl, rfl⟩ := if_of e
    exact fun tk => call_isinstance (isinstance_true (Tx := "bytes") F.isi_meta_bytes F.sub_bytes_bytes) ⟨rfl, _, _, rfl, .refl _, .bool _, .bool⟩
  | _ => exact nos e
theorem ord_okB {a d : D} {v : Value} (e : ordD a = some d) (x : W h X v a) : EV prog w A s0 (call (.builtin "ord") [v]) h (Got h X d) := by
  cases a with
  | str s =>
    refine zE (V.str_of x) ?_; rintro t rfl
    refine zEA (Option.map_eq_some_iff.mp e) ?_; rintro c hc rfl
    match s with
    | [c] => refine yl (some_of hc) ?_; exact fun tk => P.ord_of_char (pst (got_int rfl))
  | _ => exact nos e
theorem chr_okB {a d : D} {v : Value} (e : chrD a = some d) (x : W h X v a) : EV prog w A s0 (call (.builtin "chr") [v]) h (Got h X d) := by
  cases a with
  | int i =>
    refine zE (V.int_of x) ?_; rintro t rfl
    obtain ⟨hi, rfl⟩ := if_of e
    exact fun tk => P.chr_of_int (by simp; exact ⟨hi.1, (Int.le_trans (Int.le_of_lt hi.2) (by decide))⟩) (pst (got_str rfl))
  | _ => exact nos e
theorem byt_okB {a d : D} {v : Value} (e : bytD a = some d) (hA : A.handled = none) (x : W h X v a) : EV prog w A s0 (call (.type "bytes") [v]) h (Got h X d) := by
  cases a with
  | list s =>
    change (if fit s.length then (bytesOf s).map D.bytes else none) = some d at e
    by_cases hz : fit s.length
    · rw [if_pos hz] at e
      refine zEA (Option.map_eq_some_iff.mp e) ?_; rintro s e1 rfl
      refine zEEEAA x ?_; clear x; rintro a1 vs n rfl h1 x
      refine zEAA (bytes_of e1 x) fun ns i1 i2 i3 => ?_
      exact fun tk => call_bytes_ints (IsL.is h1) i1 i2 (by rw [x.length]; exact fits_of hz) hA fun h' t k hk => (pst ⟨hk, by rw [i3]; exact .bytes s t, .bytes⟩)
    · rw [if_neg hz] at e; exact nos e
  | _ => exact nos e
theorem typ_okB {a d : D} {v : Value} (e : typD a = some d) (x : W h X v a) : EV prog w A s0 (call (.type "type") [v]) h (Got h X d) := by
  cases a with
  | str s =>
    obtain ⟨t, rfl⟩ := V.str_of x
    obtain rfl := some_of e
    exact fun tk => call_type_of (Tx := "str") rfl (by decide) (pst ⟨.refl _, .ty _, fun _ e => nomatch e⟩)
  | bytes s =>
    obtain ⟨t, rfl⟩ := V.bytes_of x
    obtain rfl := some_of e
    exact fun tk => call_type_of (Tx := "bytes") rfl (by decide) (pst ⟨.refl _, .ty _, fun _ e => nomatch e⟩)
  | bool s =>
    refine yl (V.bool_of x) ?_
    obtain rfl := some_of e
    exact fun tk => call_type_of (Tx := "bool") rfl (by decide) (pst ⟨.refl _, .ty _, fun _ e => nomatch e⟩)
  | _ => exact nos e
theorem isSB_of {l : List D} (e : isSB l = true) : l = [.ty "str", .ty "bytes"] := by
  match l with
  | [] => exact bf e
  | [_] => exact bf e
  | _ :: _ :: _ :: _ => exact bf e
  | [x, y] =>
    have e := Bool.and_eq_true_iff.mp e
    rw [vTy_of (eq_of_beq e.1), vTy_of (eq_of_beq e.2)]
theorem sub_okB {a b d : D} {v u : Value} (e : subD a b = some d) (x : W h X v a) (y : W h X u b) : EV prog w A s0 (call (.builtin "issubclass") [v, u]) h (Got h X d) := by
  refine zEA (opt_of e) fun n hn e => ?_
  refine zEA (opt_of e) fun l hl e => ?_
  obtain rfl := vTy_of hn
  obtain rfl := vTup_of hl
  obtain ⟨⟨rfl, hs⟩, rfl⟩ := if_of e
  obtain rfl := isSB_of hs
  obtain rfl := V.ty_of x
  obtain ⟨a1, vs, n, rfl, ho, nx, y⟩ := V.tup_of y
  obtain ⟨v1, r, rfl, y1, y⟩ := y.cons_of
  obtain ⟨v2, r, rfl, y2, y⟩ := y.cons_of
  obtain rfl := y.nil_of
  obtain rfl := V.ty_of y1
  obtain rfl := V.ty_of y2
  exact fun tk => call_sub_tuple ho (pst ⟨.refl _, .bool _, .bool⟩)
theorem biop_ok {f : String} {l : List D} {d : D} {fv : Value} {vs : List Value} (e : biop f l = some d) (hf : biVal f = some fv) (hA : A.handled = none) (t : There X h) (x : Ws h X vs l) :
    EV prog w A s0 (call fv vs) h (Got h X d) := by
  unfold biop at e
  unfold biVal at hf
  by_cases h1 : f = "len"
  · rw [if_pos h1] at e hf; obtain rfl := some_of hf; exact f1_ok e x fun a v e x q => q ▸ len_okB e x
  rw [if_neg h1] at e hf
  by_cases h2 : f = "sum"
  · rw [if_pos h2] at e hf; obtain rfl := some_of hf; exact f1_ok e x fun a v e x q => q ▸ sum_okB e hA x
  rw [if_neg h2] at e hf
  by_cases h3 : f = "isinstance"
  · rw [if_pos h3] at e hf; obtain rfl := some_of hf; exact f2_ok e x fun a b v u e x y q => q ▸ isi_ok e x y
  rw [if_neg h3] at e hf
  by_cases h4 : f = "ord"
  · rw [if_pos h4] at e hf; obtain rfl := some_of hf; exact f1_ok e x fun a v e x q => q ▸ ord_okB e x
  rw [if_neg h4] at e hf
  by_cases h5 : f = "chr"
  · rw [if_pos h5] at e hf; obtain rfl := some_of hf; exact f1_ok e x fun a v e x q => q ▸ chr_okB e x
  rw [if_neg h5] at e hf
  by_cases h8 : f = "issubclass"
  · subst h8; obtain rfl := some_of hf; exact f2_ok e x fun a b v u e x y q => q ▸ sub_okB e x y
  rw [if_neg h8] at hf
  by_cases h6 : f = "bytes"
  · rw [if_pos h6] at e hf; obtain rfl := some_of hf; exact f1_ok e x fun a v e x q => q ▸ byt_okB e hA x
  rw [if_neg h6] at e hf
  by_cases h7 : f = "type"
  · rw [if_pos h7] at e hf; obtain rfl := some_of hf; exact f1_ok e x fun a v e x q => q ▸ typ_okB e x
  rw [if_neg h7] at hf
  exact nos hf
theorem Vs.ofStrs : ∀ (q : List (Str × Tok)), Vs h X (strValues q) (q.map fun x => .str x.1.cps.toList)
  | [] => .nil
  | (⟨⟨l⟩⟩, t) :: r => .cons (.str l t) (Vs.ofStrs r)
theorem split_ok {x y : Str} {t u : Tok} (th : There X h) (hy : (y.length == 0) = false) (hsz : x.length ≤ sizeLine) (hz : (Txt.split x y).length ≤ sizeLine) :
    EV prog w A s0 (call (.builtin "str.split") [.str x t, .str y u]) h (Got h X (.list ((Txt.split x y).map fun x => .str x.cps.toList))) := fun tk => by
  have fin : ∀ (q : List (Str × Tok)) (tk' : Nat), q.map (·.1) = Txt.split x y →
      ∃ h' tk'', ({ s0 with heap := h.push { cls := .type "list", data := .seq (strValues q).toArray }, toks := tk' } : Shared) = (sAt s0 h' tk'') ∧
        Got h X (.list ((Txt.split x y).map fun x => .str x.cps.toList)) (.ref h.objs.size) h' := fun q tk' e => by
    refine (pst (?_))
    have := got_list th (Vs.ofStrs (h := h) (X := X) q)
    rw [show q.map (fun x => D.str x.1.cps.toList) = (Txt.split x y).map fun x => .str x.cps.toList by rw [← e, List.map_map]; rfl] at this
    exact this
  cases h1 : (decide (x.length < y.length) || decide (Builtin.Str.strKind x < Builtin.Str.strKind y))
  · cases hf : (Builtin.Str.occurrences x y 0 x.length (x.length + 1)).isEmpty
    · have e1 : Txt.split x y = Builtin.Str.partsBetween x (Builtin.Str.occurrences x y 0 x.length (x.length + 1)) y.length := (if_neg (ne_true_of_eq_false h1)).trans (if_neg (ne_true_of_eq_false hf))
      refine call_meets F.slot_str_split (typeIs_str _ _ _) F.entry_str_split (F.args_str_split_2 _ _) (meets_str_split_sep x y t u h1 hy hf hsz (by rw [← e1]; exact hz)) ?_
      dsimp only
      rw [strsFrom_eq]
      exact fin (numbered tk _) _ ((numbered_texts _ _).trans e1.symm)
    · exact call_meets F.slot_str_split (typeIs_str _ _ _) F.entry_str_split (F.args_str_split_2 _ _) (meets_str_split_not_found x y t u h1 hy hf)
        (fin [(x, t)] _ ((if_neg (ne_true_of_eq_false h1)).trans (if_pos hf)).symm)
  · exact call_meets F.slot_str_split (typeIs_str _ _ _) F.entry_str_split (F.args_str_split_2 _ _) (meets_str_split_cannot_occur x y t u h1)
      (fin [(x, t)] _ (if_pos h1).symm)
def MethAt (h : Heap) (va : Value) (name : String) (id : String) : Prop :=
  ∃ T, PlainAttrs T ∧ Slot T (Str.ofString name) id ∧ typeOf (.builtin id) = pure (.type "method_descriptor") ∧ (∀ s : Shared, s.heap = h → s.TypeIs va T) ∧ (∀ a, va ≠ .ref a)
set_option tactic.hygienic true in
theorem table_map (s t : List UInt8) (u : Tok) (t2 : Tok) (h : t.length = 256) (Q : Value → Shared → Prop) (sh : Shared) (hz : s.length ≤ sizeLine)
    (q : ∀ t' k, Q (.bytes (s.map fun c => t.getD c.toNat c).toArray t') { sh with toks := k }) :
    (if s.toArray.map (fun x => t.toArray.getD x.toNat x) == s.toArray then Made.val (.bytes s.toArray u) else Made.bytes (s.toArray.map fun x => t.toArray.getD x.toNat x)).post Q sh := by
  have e : s.toArray.map (fun x => t.toArray.getD x.toNat x) = (s.map fun c => t.getD c.toNat c).toArray := by
    simp
  rw [e]
  split
  · rename_i hb
    rw [← eq_of_beq hb]
    exact q _ _
  · exact ⟨by rw [List.size_toArray, List.length_map]; exact hz, q _ _⟩
noncomputable def meId (f : String) : String := if f = "translate" then "bytes.translate" else "str." ++ f
theorem s1_ok {f : List Nat → List Nat → Option D} {a d : D} {l : List D} {P : Prop} (e : f1 (sStr2 f a) l = some d) (q : ∀ s t, a = .str s → l = [.str t] → f s t = some d → P) : P := by
  match l with
  | [] => exact nos e
  | [b] =>
    refine zEA (opt_of e) fun s hs e => ?_
    refine zEA (opt_of e) fun t ht e => ?_
    exact q s t (vStr_of hs) (by rw [vStr_of ht]) e
  | _ :: _ :: _ => exact nos e
inductive MeC (d : D) : String → D → List D → Prop
  | rfind {s t : List Nat} : d = .int (Txt.rfind (txt s) (txt t)) → MeC d "rfind" (.str s) [.str t]
  | rstrip {s t : List Nat} : fit s.length → d = .str (Txt.rstripChars (txt s) (txt t)).cps.toList → MeC d "rstrip" (.str s) [.str t]
  | split {s t : List Nat} : (fit s.length ∧ t ≠ [] ∧ (Txt.split (txt s) (txt t)).length ≤ 100000) → d = .list ((Txt.split (txt s) (txt t)).map fun x => .str x.cps.toList) → MeC d "split" (.str s) [.str t]
  | join {s : List Nat} {xs : List D} {l : List (List Nat)} : strsOf xs = some l → JoinOk (txt s) (l.map txt) = true → d = .str (Txt.join (txt s) (l.map txt)).cps.toList → MeC d "join" (.str s) [.list xs]
  | tran {s t : List UInt8} : t.length = 256 ∧ fit s.length → d = .bytes (s.map fun c => t.getD c.toNat c) → MeC d "translate" (.bytes s) [.bytes t]
theorem me_of {f : String} {a d : D} {l : List D} (e : meop f a l = some d) : MeC d f a l := by
  unfold meop at e
  by_cases h1 : f = "rfind"
  · rw [if_pos h1] at e
    exact s1_ok e fun s t ha hl e => by subst h1 ha hl; exact .rfind (some_of e).symm
  rw [if_neg h1] at e
  by_cases h2 : f = "rstrip"
  · rw [if_pos h2] at e
    exact s1_ok e fun s t ha hl e => by subst h2 ha hl; exact .rstrip (if_of e).1 (if_of e).2.symm
  rw [if_neg h2] at e
  by_cases h3 : f = "split"
  · rw [if_pos h3] at e
    exact s1_ok e fun s t ha hl e => by subst h3 ha hl; exact .split (if_of e).1 (if_of e).2.symm
  rw [if_neg h3] at e
  by_cases h4 : f = "join"
  · rw [if_pos h4] at e
    refine yl h4 ?_; clear h4
    match l with
    | [] => exact nos e
    | [b] =>
      refine zEA (opt_of e) fun s hs e => ?_
      refine zEA (opt_of e) fun xs hx e => ?_
      refine zEA (opt_of e) fun t ht e => ?_
      rw [vStr_of hs, vLst_of hx]
      exact .join ht (if_of e).1 (if_of e).2.symm
    | _ :: _ :: _ => exact nos e
  rw [if_neg h4] at e
  by_cases h5 : f = "translate"
  · rw [if_pos h5] at e
    refine yl h5 ?_; clear h5
    match l with
    | [] => exact nos e
    | [b] =>
      refine zEA (opt_of e) fun s hs e => ?_
      refine zEA (opt_of e) fun t ht e => ?_
      rw [vByt_of hs, vByt_of ht]
      exact .tran (if_of e).1 (if_of e).2.symm
    | _ :: _ :: _ => exact nos e
  rw [if_neg h5] at e
  exact nos e
theorem meop_at {f : String} {a d : D} {l : List D} {va : Value} (e : meop f a l = some d) (ha : W h X va a) : MethAt h va f (meId f) := by
  cases me_of e with
  | rfind => obtain ⟨t, rfl⟩ := V.str_of ha; exact ⟨_, F.plainAttrs_str, F.slot_str_rfind, F.type_str_rfind, fun _ _ => rfl, fun _ e => nomatch e⟩
  | rstrip => obtain ⟨t, rfl⟩ := V.str_of ha; exact ⟨_, F.plainAttrs_str, F.slot_str_rstrip, F.type_str_rstrip, fun _ _ => rfl, fun _ e => nomatch e⟩
  | split => obtain ⟨t, rfl⟩ := V.str_of ha; exact ⟨_, F.plainAttrs_str, F.slot_str_split, F.type_str_split, fun _ _ => rfl, fun _ e => nomatch e⟩
  | join => obtain ⟨t, rfl⟩ := V.str_of ha; exact ⟨_, F.plainAttrs_str, F.slot_str_join, F.type_str_join, fun _ _ => rfl, fun _ e => nomatch e⟩
  | tran => obtain ⟨t, rfl⟩ := V.bytes_of ha; exact ⟨_, FB.plainAttrs_bytes, slot_bytes_translate, type_bytes_translate, fun _ _ => rfl, fun _ e => nomatch e⟩
theorem meop_ok {f : String} {a d : D} {l : List D} {va : Value} {vs : List Value} (e : meop f a l = some d) (t : There X h) (ha : W h X va a) (x : Ws h X vs l) :
    EV prog w A s0 (call (.builtin (meId f)) (va :: vs)) h (Got h X d) := by
  obtain ⟨vb, rfl, b⟩ : ∃ vb, vs = [vb] ∧ ∀ x, l = [x] → W h X vb x := by
    cases me_of e <;> (obtain ⟨vb, rfl, b⟩ := x.one_of; exact ⟨vb, rfl, fun x q => by injection q with q; exact q ▸ b⟩)
  cases me_of e with
  | rfind hd =>
    subst hd
    obtain ⟨t, rfl⟩ := V.str_of ha
    obtain ⟨t, rfl⟩ := V.str_of (b _ rfl)
    exact fun tk => SC.rfind (pst (got_int rfl))
  | rstrip hf hd =>
    subst hd
    obtain ⟨t, rfl⟩ := V.str_of ha
    obtain ⟨t, rfl⟩ := V.str_of (b _ rfl)
    exact fun tk => SC.rstripChars (fun t' k => (pst (got_str rfl))) (fits_of (by show fit (List.toArray _).size; rw [List.size_toArray]; exact hf))
  | split hf hd =>
    subst hd
    obtain ⟨t1, rfl⟩ := V.str_of ha
    obtain ⟨t2, rfl⟩ := V.str_of (b _ rfl)
    refine split_ok t ?_ (fits_of (by show fit (List.toArray _).size; rw [List.size_toArray]; exact hf.1)) (fits_of (Nat.le_trans hf.2.2 (by decide)))
    show ((List.toArray _).size == 0) = false
    rw [List.size_toArray]
    have := hf.2.1
    simpa using this
  | join e1 hj hd =>
    subst hd
    obtain ⟨t1, rfl⟩ := V.str_of ha
    obtain ⟨a1, vs, n, rfl, h1, y⟩ := b _ rfl
    obtain ⟨q, rfl, e2⟩ := y.strs e1
    exact fun tk => SC.join (IsL.is h1) e2 hj fun t' k => (pst (got_str rfl))
  | tran hf hd =>
    subst hd
    obtain ⟨t1, rfl⟩ := V.bytes_of ha
    obtain ⟨t2, rfl⟩ := V.bytes_of (b _ rfl)
    show EV prog w A s0 (call (.builtin "bytes.translate") _) h _
    exact fun tk => call_gives slot_bytes_translate (typeIs_bytes _ _ _) entry_bytes_translate (args_bytes_translate _ _) (gives_translate (by simpa using hf.1))
      (table_map _ _ _ 0 hf.1 _ _ (fits_of hf.2) fun t' k => (pst ⟨.refl _, .bytes _ _, .bytes⟩))
theorem check_maketrans (a b : Value) : checkBuiltinCall "bytes.maketrans" ⟨[a, b], []⟩ = pure () := by kernel_rfl
theorem plain_maketrans : plainId "bytes.maketrans" = true := by decide +kernel
theorem maketrans_ok {a b : List UInt8} {t u : Tok} (hs : a.length = b.length) : EV prog w A s0 (call (.builtin "bytes.maketrans") [.bytes a.toArray t, .bytes b.toArray u]) h (Got h X (.bytes (tabOf a b))) := fun tk => by
  refine wpAny_call (codeAny_call_builtin plain_maketrans entry_maketrans ?_)
  rw [check_maketrans]
  have hz : (((a.toArray.toList.zip b.toArray.toList).foldl (fun t (x : UInt8 × UInt8) => t.setIfInBounds x.1.toNat x.2) ((Array.range 256).map (·.toUInt8)))).size ≤ sizeLine := by
    have : ∀ (l : List (UInt8 × UInt8)) (t : Array UInt8), (l.foldl (fun t (x : UInt8 × UInt8) => t.setIfInBounds x.1.toNat x.2) t).size = t.size := fun l => by
      induction l with
      | nil => intro t; rfl
      | cons x r ih => intro t; rw [List.foldl_cons, ih]; simp
    rw [this]; simp; decide
  have hs' : a.toArray.size = b.toArray.size := by rw [List.size_toArray, List.size_toArray]; exact hs
  have g := gives_maketrans (t := t) (u := u) hs' prog w A
  refine wpAny_pure (g (wants (fun a' s' => ∃ h' tk', s' = sAt s0 h' tk' ∧ Got h X (.bytes (tabOf a b)) a' h') (fun _ _ => False)) _ ?_)
  exact ⟨hz, _, _, rfl, .refl _, .bytes (tabOf a b) _, .bytes⟩
end
section
set_option backward.match.sparseCases false
noncomputable def slotOf : NK → Str → Option Nat
  | [], _ => none
  | (y, k) :: r, x => if x = y then (if k = .local then some 0 else none) else (slotOf r x).map (· + 1)
set_option tactic.hygienic true in
theorem slotOf_get : ∀ {ns : NK} {x : Str} {i : Nat}, slotOf ns x = some i → ns[i]? = some (x, .local) ∧ ns.lookup x = some .local
  | [], _, _, e => by exact nos e
  | (y, k) :: r, x, i, e => by
    unfold slotOf at e
    split at e
    · rename_i h
      refine yl h ?_; clear h
      split at e
      · rename_i hk; refine yl hk ?_; clear hk; refine y1 e ?_; clear e; exact ⟨rfl, by simp⟩
      · exact nos e
    · rename_i h
      refine zEA (Option.map_eq_some_iff.mp e) ?_; rintro j e1 rfl
      refine zA (slotOf_get e1) fun h1 h2 => ?_
      refine ⟨by simpa using h1, ?_⟩
      rw [List.lookup_cons]
      have : (x == y) = false := by simpa using h
      rw [this]; exact h2
noncomputable def fnNames : List String := ["translate", "escape", "_translate", "_join_translated_parts", "fspath", "_splitext", "_get_sep", "split", "splitext", "splitroot", "normpath", "_buffer", "_truth", "b2a_base64", "b64encode",
  "_law_item", "_law_drawn", "_law_rows", "_law_octets", "_law_figures", "_law_spelled", "_law_written", "_law_names", "_law_straight", "_law_halves", "_law_stem", "_law_pieces", "_law_fits", "_law_takes", "_law_means",
  "_law_parted", "_law_right", "_law_both"]
noncomputable def meNames : List String := ["rfind", "rstrip", "split", "join", "translate"]
noncomputable def named (l : List String) (x : Str) : Option String := l.find? fun n => Str.ofString n == x
theorem named_some {l : List String} {x : Str} {n : String} (e : named l x = some n) : n ∈ l ∧ x = Str.ofString n := by
  have h1 := List.mem_of_find?_eq_some e
  have h2 := List.find?_some e
  exact ⟨h1, (eq_of_beq h2).symm⟩
noncomputable def isG (ns : NK) (x : Str) : Bool := ns.lookup x == some .globalImplicit
noncomputable def litOf : Const → E
  | .none => .lit .none
  | .bool b => .lit (.bool b)
  | .int i => .lit (.int i)
  | .str s => .lit (.str s.cps.toList)
  | .bytes b => .lit (.bytes b)
  | _ => .bad
noncomputable def nameE (ns : NK) (x : Str) : E := if x == Str.ofString "__debug__" then .bad else match slotOf ns x with
  | some i => .var i
  | none => if isG ns x then (if x = Str.ofString "_B64" then .glob "_B64" else match named tyNames x with
      | some n => .lit (.ty n)
      | none => .bad) else .bad
noncomputable def isOne : Const → Bool
  | .int i => decide (i = 1)
  | _ => false
noncomputable def isOneE : PySem.Expr → Bool
  | .Constant c _ _ => isOne c
  | _ => false
noncomputable def isUSub : UnaryOp → Bool
  | .USub => true
  | _ => false
noncomputable def isMinusOne : PySem.Expr → Bool
  | .UnaryOp op x _ => isUSub op && isOneE x
  | _ => false
theorem isMinusOne_of {e : PySem.Expr} (h : isMinusOne e = true) : ∃ k p q, e = .UnaryOp .USub (.Constant (.int 1) k p) q := by
  cases e with
  | UnaryOp op x q =>
    have h := Bool.and_eq_true_iff.mp h
    cases op with
    | USub =>
      cases x with
      | Constant c k p =>
        cases c with
        | int i => have : i = 1 := of_decide_eq_true h.2; refine yl this ?_; clear this; exact ⟨k, p, q, rfl⟩
        | _ => exact bf h.2
      | _ => exact bf h.2
    | _ => exact bf h.1
  | _ => exact bf h
noncomputable def foldE (f : E → E → E) : List E → E
  | [] => .bad
  | [a] => a
  | a :: r => f a (foldE f r)
noncomputable def toEs : List E → Es
  | [] => .nil
  | e :: r => .cons e (toEs r)
noncomputable def notCall : PySem.Expr → Bool
  | .Name .. => true
  | .Constant .. => true
  | .Subscript .. => true
  | _ => false
noncomputable def isStar : PySem.Expr → Bool
  | .Starred .. => true
  | _ => false
noncomputable def vName : PySem.Expr → Option Str
  | .Name x _ => some x
  | _ => none
theorem vName_of {e : PySem.Expr} {x : Str} (h : vName e = some x) : ∃ p, e = .Name x p := by
  cases e with
  | Name y p => injection h with h; subst h; exact ⟨p, rfl⟩
  | _ => exact nos h
noncomputable def gIs (ns : NK) (e : PySem.Expr) (s : String) : Bool := match vName e with
  | some y => isG ns y && y == Str.ofString s
  | none => false
theorem gIs_of {ns : NK} {e : PySem.Expr} {s : String} (h : gIs ns e s = true) : ∃ y p, e = .Name y p ∧ isG ns y = true ∧ y = Str.ofString s := by
  unfold gIs at h
  cases q : vName e with
  | none => rw [q] at h; exact bf h
  | some y =>
    rw [q] at h
    refine zE (vName_of q) ?_; rintro p rfl
    have h := Bool.and_eq_true_iff.mp h
    exact ⟨y, p, rfl, h.1, eq_of_beq h.2⟩
noncomputable def okArgs (n : Nat) (args : List PySem.Expr) : Bool := decide (args.length < n) && args.all (fun e => !isStar e)
theorem okArgs_of {n : Nat} {args : List PySem.Expr} (h : okArgs n args = true) : args.length < n ∧ ∀ e ∈ args, isStar e = false := by
  have h := Bool.and_eq_true_iff.mp h
  exact ⟨of_decide_eq_true h.1, fun e he => by have := List.all_eq_true.mp h.2 e he; revert this; cases isStar e <;> intro q <;> first | rfl | cases q⟩
noncomputable def escArg (ns : NK) (m : Str) : List PySem.Expr → Bool
  | [z] => gIs ns z "_special_chars_map" && m == Str.ofString "translate"
  | _ => false
theorem escArg_of {ns : NK} {m : Str} {args : List PySem.Expr} (h : escArg ns m args = true) : ∃ z p, args = [.Name z p] ∧ isG ns z = true ∧ z = Str.ofString "_special_chars_map" ∧ m = Str.ofString "translate" :=
  match args, h with
  | [z], h => by
    have h := Bool.and_eq_true_iff.mp h
    refine zEEAA (gIs_of h.1) ?_; rintro y p rfl h1 h2
    exact ⟨y, p, rfl, h1, h2, eq_of_beq h.2⟩
noncomputable def eUn (a : E) : UnaryOp → E
  | .Not => .not a
  | .USub => .neg a
  | _ => .bad
noncomputable def eBool (l : List E) : BoolOp → E
  | .And => foldE .and l
  | .Or => foldE .or l
noncomputable def eCmp (g : PySem.Expr → E) (l : PySem.Expr) : List CmpOp → List PySem.Expr → E
  | [op], [r] => if behindInMarks op r then .bad else .cmp op (g l) (g r)
  | _, _ => .bad
noncomputable def eMe (g : PySem.Expr → E) (ns : NK) (o : PySem.Expr) (m : Str) (args : List PySem.Expr) : E :=
  if gIs ns o "bytes" && m == Str.ofString "maketrans" then .bi "maketrans" (toEs (args.map g))
  else if (vName o).isSome && escArg ns m args then .esc (g o)
  else if notCall o then (match named meNames m with
    | some f => .me (g o) f (toEs (args.map g))
    | none => .bad) else .bad
noncomputable def eFn (g : PySem.Expr → E) (f : Str) (args : List PySem.Expr) : E := match named fnNames f with
  | some q => if kwOf q = [] then .fn q (toEs (args.map g)) else .bad
  | none => match named biNames f with
    | some q => .bi q (toEs (args.map g))
    | none => .bad
noncomputable def eKw (g : PySem.Expr → E) (f : Str) (a : PySem.Expr) (kw : Str) (b : PySem.Expr) : E := match named fnNames f with
  | some q => if kwOf q = ["newline"] ∧ kw = Str.ofString "newline" then .fn q (.cons (g a) (.cons (g b) .nil)) else .bad
  | none => .bad
noncomputable def eNm (g : PySem.Expr → E) (ns : NK) (f : Str) (args : List PySem.Expr) : List Keyword → E
  | [] => if isG ns f && okArgs 20 args then eFn g f args else .bad
  | [⟨some kw, b, _⟩] => match args with
    | [a] => if isG ns f && !isStar a then eKw g f a kw b else .bad
    | _ => .bad
  | _ => .bad
noncomputable def eCall (g : PySem.Expr → E) (ns : NK) (args : List PySem.Expr) (kws : List Keyword) (pos : Pos) : PySem.Expr → E
  | .Name f _ => eNm g ns f args kws
  | .Attribute o m ap => if kws.isEmpty && ap.endLine == pos.line && okArgs 20 args then eMe g ns o m args else .bad
  | _ => .bad
noncomputable def eOpt (g : PySem.Expr → E) : Option PySem.Expr → E
  | none => .lit .none
  | some e => g e
noncomputable def eSub (g : PySem.Expr → E) (v : PySem.Expr) : PySem.Expr → E
  | .Slice lo hi none _ => .sl (g v) (eOpt g lo) (eOpt g hi)
  | .Slice lo hi (some s) _ => if lo.isNone && hi.isNone && isMinusOne s then .rev (g v) else .bad
  | i => .idx (g v) (g i)
noncomputable def eComp (f g : PySem.Expr → E) (elt : PySem.Expr) (sc : Scope) : List Comprehension → E
  | [⟨x, it, [], 0⟩] => match vName x with
    | some y => if sc.kind = .function ∧ plainNames sc.names = true ∧ slotOf sc.names y = some 1 ∧ keysOnce sc.names = true then .comp (f elt) (g it) else .bad
    | none => .bad
  | _ => .bad
noncomputable def cPart : Const → E
  | .str s => .lit (.str s.cps.toList)
  | _ => .bad
noncomputable def ePart (g : PySem.Expr → E) : PySem.Expr → E
  | .FormattedValue e cv sp _ => if cv = -1 ∧ sp.isNone = true then g e else .bad
  | .Constant c _ _ => cPart c
  | _ => .bad
noncomputable def era1 (r : NK → PySem.Expr → E) (ns : NK) : PySem.Expr → E
  | .Constant c _ _ => litOf c
  | .Name x _ => nameE ns x
  | .BinOp l op r' _ => .bin op (r ns l) (r ns r')
  | .UnaryOp op x _ => eUn (r ns x) op
  | .BoolOp op vs _ => eBool (vs.map (r ns)) op
  | .IfExp c a b _ => if (vName c).isSome then .ite (r ns c) (r ns a) (r ns b) else .bad
  | .Compare l ops cs _ => eCmp (r ns) l ops cs
  | .Call f args kws pos => eCall (r ns) ns args kws pos f
  | .Subscript v i _ => eSub (r ns) v i
  | .List es _ => if okArgs 100 es then .list (toEs (es.map (r ns))) else .bad
  | .Tuple es _ _ => if okArgs 100 es then .tup (toEs (es.map (r ns))) else .bad
  | .ListComp elt gs sc _ => eComp (r sc.names) (r ns) elt sc gs
  | .JoinedStr vs _ => if 2 ≤ vs.length then .fstr (toEs (vs.map (ePart (r ns)))) else .bad
  | _ => .bad
noncomputable def era (n : Nat) : NK → PySem.Expr → E := @Nat.rec (fun _ => NK → PySem.Expr → E) (fun _ _ => .bad) (fun _ r => era1 r) n
noncomputable def slotsOf (ns : NK) : List PySem.Expr → Option (List Nat)
  | [] => some []
  | t :: r => match vName t with
    | some x => (match slotOf ns x, slotsOf ns r with
      | some i, some l => some (i :: l)
      | _, _ => none)
    | none => none
noncomputable def toSs : List S → Ss
  | [] => .nil
  | s :: r => .cons s (toSs r)
noncomputable def isLC : PySem.Expr → Bool
  | .ListComp .. => true
  | .SetComp .. => true
  | .DictComp .. => true
  | _ => false
noncomputable def isTup : PySem.Expr → Bool
  | .Tuple .. => true
  | _ => false
noncomputable def slotE (ns : NK) (t : PySem.Expr) (f : Nat → S) : S := match vName t with
  | some x => (match slotOf ns x with
    | some i => f i
    | none => .stuck)
  | none => .stuck
noncomputable def sTup (g : PySem.Expr → E) (is : List Nat) : PySem.Expr → S
  | .Tuple es _ _ => if es.length = is.length && okArgs 100 es && !(es.all (constantsAlone 8)) && decide is.Nodup then .asgP is (toEs (es.map g)) else .stuck
  | v => .asgT is (g v)
noncomputable def sNm (g : PySem.Expr → E) (ns : NK) (i : Nat) : PySem.Expr → S
  | .Attribute y m _ => slotE ns y fun k => if m = Str.ofString "append" then .ali i k else .stuck
  | v => .asg i (g v)
noncomputable def sAsg (g : PySem.Expr → E) (ns : NK) (v : PySem.Expr) : PySem.Expr → S
  | .Name x p => slotE ns (.Name x p) fun i => sNm g ns i v
  | .Tuple ts _ _ => match slotsOf ns ts with
    | some is => sTup g is v
    | none => .stuck
  | .Subscript x k _ => slotE ns x fun i => .setI i (g k) (g v)
  | _ => .stuck
noncomputable def sMe (g : PySem.Expr → E) (i : Nat) (m : Str) : List PySem.Expr → S
  | [e] => if m = Str.ofString "append" ∧ isStar e = false then .app i (g e) else .stuck
  | [] => if m = Str.ofString "pop" then .pop i else .stuck
  | _ => .stuck
noncomputable def sAdd (g : PySem.Expr → E) (j : Nat) : List PySem.Expr → S
  | [e] => if isStar e = false then .add j (g e) else .stuck
  | _ => .stuck
noncomputable def sCall (g : PySem.Expr → E) (ns : NK) (args : List PySem.Expr) (pos : Pos) : PySem.Expr → S
  | .Attribute x m ap => slotE ns x fun i => if ap.endLine == pos.line then sMe g i m args else .stuck
  | .Name x p => slotE ns (.Name x p) fun j => sAdd g j args
  | _ => .stuck
noncomputable def sExpr (g : PySem.Expr → E) (ns : NK) : PySem.Expr → S
  | .Constant (.str _) _ _ => .skip
  | .Call f args [] pos => sCall g ns args pos f
  | _ => .stuck
noncomputable def isRange (ns : NK) : PySem.Expr → Option (List PySem.Expr)
  | .Call f args [] _ => if gIs ns f "range" then some args else none
  | _ => none
noncomputable def sFor (g : PySem.Expr → E) (ns : NK) (it : PySem.Expr) (b : Ss) (i : Nat) : S := match isRange ns it with
  | some args => if okArgs 20 args then .forR i (toEs (args.map g)) b else .stuck
  | none => .for_ i (g it) b
noncomputable def eraS (g : PySem.Expr → E) (r : List Stmt → Ss) (ns : NK) : Stmt → S
  | .Assign [t] v _ => sAsg g ns v t
  | .AugAssign t op v _ => slotE ns t fun i => .aug i op (g v)
  | .Expr e _ => sExpr g ns e
  | .If c a b _ => .iff (g c) (r a) (r b)
  | .While c b [] _ => .whl (g c) (r b)
  | .For t it b [] _ => slotE ns t fun i => sFor g ns it (r b) i
  | .Return (some e) _ => .ret (g e)
  | .Break _ => .brk
  | .Continue _ => .cont
  | .Assert e _ _ => .asrt (g e)
  | _ => .stuck
noncomputable def eraSs (n : Nat) (ns : NK) : List Stmt → Ss := @Nat.rec (fun _ => List Stmt → Ss) (fun _ => .cons .stuck .nil) (fun k r sts => toSs (sts.map (eraS (era (k + 10) ns) r ns))) n
end
structure EnvOk (env : Env) (ns : NK) : Prop where
  kind : env.scope.kind = .function
  glob : env.globals = mainGlobals
  bi : env.builtins = builtinsNs
  look : ∀ x k, ns.lookup x = some k → (k = .local ∨ k = .globalImplicit) → env.kindOf x = some k
structure Wo (K : Frag) (mg mb : Str → Option Value) (h : Heap) : Prop where
  k : K.In h
  g : h.Ns mainGlobals mg
  b : h.Ns builtinsNs mb
  nl : h.NoLimit
  bt : ∀ x : Str, x ≠ "__name__" → mb x = bootBuiltins x
theorem Wo.grow {K : Frag} {mg mb : Str → Option Value} {h h' : Heap} (x : Wo K mg mb h) (g : Grow h h') : Wo K mg mb h' :=
  ⟨x.k.keeps g, x.g.keeps g, x.b.keeps g, x.nl.keeps g, x.bt⟩
def EscTab (o : Obj) : Prop := ∃ es n, o = { cls := .type "dict", dict := none, data := .dict es n, slots := #[] } ∧ IntKeys es ∧ ∀ c : Nat, specials.contains c = false → findBy Value.isInt es (c : Int) = none
structure Glo (K : Frag) (mg : Str → Option Value) : Prop where
  ty : ∀ n ∈ tyNames, mg (Str.ofString n) = none ∧ bootBuiltins (Str.ofString n) = some (.type n) ∧ Str.ofString n ≠ "__name__" ∧ Str.ofString n ≠ "__debug__"
  bi : ∀ f ∈ biNames, ∃ v, biVal f = some v ∧ mg (Str.ofString f) = none ∧ bootBuiltins (Str.ofString f) = some v ∧ Str.ofString f ≠ "__name__" ∧ Str.ofString f ≠ "__debug__"
  rng : mg (Str.ofString "range") = none ∧ bootBuiltins (Str.ofString "range") = some (.type "range")
  b64 : ∃ l t, glb "_B64" = some (.bytes l) ∧ mg (Str.ofString "_B64") = some (.bytes l.toArray t)
  fn : ∀ f ∈ fnNames, Str.ofString f ≠ "__debug__"
  esc : ∃ a o, mg (Str.ofString "_special_chars_map") = some (.ref a) ∧ K.lookup a = some o ∧ EscTab o ∧ (a == sysModules) = false
section
variable (prog : Program) (w : World) (K : Frag) (mg mb : Str → Option Value)
def CallOK (n : Nat) (f : String) (args : List D) (d : D) : Prop :=
  ∃ a o fd, mg (Str.ofString f) = some (.ref a) ∧ K.lookup a = some o ∧ o.data = .func fd ∧
    ∀ s0 A h X vs, Room n A → Wo K mg mb h → There X h → Vs h X vs args →
      EV prog w A s0 (call (.ref a) (vs.take (vs.length - (kwOf f).length)) (((kwOf f).map Str.ofString).zip (vs.drop (vs.length - (kwOf f).length)))) h (fun v h' => Grow h h' ∧ V h' X v d)
def Orc (n : Nat) (F : FO) : Prop := ∀ f ∈ fnNames, ∀ args d, F f args = some d → CallOK prog w K mg mb n f args d
end
structure Rd (K : Frag) (mg mb : Str → Option Value) (env : Env) (ns : NK) (own : List Nat) (X : Addr → Prop) (h : Heap) (Γ : List D) : Prop where
  eo : EnvOk env ns
  wo : Wo K mg mb h
  th : There X h
  loc : ∃ m, h.Ns env.locals m ∧ ∀ i x d, ns[i]? = some (x, .local) → Γ[i]? = some d → usable d = true → ∃ v, m x = some v ∧ W h X v d ∧ ((own.contains i && isL d) = false → V h X v d)
theorem Rd.grow {K : Frag} {mg mb : Str → Option Value} {env : Env} {ns : NK} {own : List Nat} {X : Addr → Prop} {h h' : Heap} {Γ : List D} (r : Rd K mg mb env ns own X h Γ) (g : Grow h h') : Rd K mg mb env ns own X h' Γ :=
  ⟨r.eo, r.wo.grow g, r.th.grow g, let ⟨m, a, b⟩ := r.loc; ⟨m, a.keeps g, fun i x d e1 e2 e3 => let ⟨v, p, q, z⟩ := b i x d e1 e2 e3; ⟨v, p, q.grow g, fun c => (z c).keep (g.x X)⟩⟩⟩
noncomputable def Out (o fr : Bool) (h : Heap) (X : Addr → Prop) (d : D) : Value → Heap → Prop := fun v h' => Grow h h' ∧ W h' X v d ∧ (o = false → V h' X v d) ∧ (fr = true → isL d = true → New h v)
theorem Got.out {o fr : Bool} {h h0 : Heap} {X : Addr → Prop} {d : D} {v : Value} {h' : Heap} (g : Got h X d v h') (g0 : Grow h0 h) : Out o fr h0 X d v h' :=
  ⟨g0.trans g.1, g.2.1.w, fun _ => g.2.1, fun _ _ => g.2.2.old g0⟩
noncomputable def Outs (o : Bool) (h : Heap) (X : Addr → Prop) (l : List D) : List Value → Heap → Prop := fun vs h' => Grow h h' ∧ Ws h' X vs l ∧ (o = false → Vs h' X vs l)
section
variable {prog : Program} {w : World} {s0 : Shared} {K : Frag} {mg mb : Str → Option Value} {A : Around} {X : Addr → Prop} {env : Env} {α : Type} {h : Heap}
theorem EV.binop {l r : PySem.Expr} {op : Operator} {pos : Pos} {Q : Value → Heap → Prop} (x : EV prog w A s0 (eval l env) h (fun a h1 => EV prog w A s0 (eval r env) h1 (fun b h2 => EV prog w A s0 (binaryOp op a b) h2 Q))) :
    EV prog w A s0 (eval (.BinOp l op r pos) env) h Q := fun tk => wpAny_BinOp (x.out fun a h1 tk1 q => q.out fun b h2 tk2 q2 => q2 tk2)
theorem EV.compare {l r : PySem.Expr} {op : CmpOp} {pos : Pos} {Q : Value → Heap → Prop} (hm : behindInMarks op r = false)
    (x : EV prog w A s0 (eval l env) h (fun a h1 => EV prog w A s0 (eval r env) h1 (fun b h2 => EV prog w A s0 (compareOp op a b) h2 Q))) :
    EV prog w A s0 (eval (.Compare l [op] [r] pos) env) h Q := fun tk => wpAny_Compare1 (x.out fun a h1 tk1 q => q.out fun b h2 tk2 q2 => q2 tk2) hm
theorem EV.testCompare {l r : PySem.Expr} {op : CmpOp} {pos : Pos} {whole : Sem Value} {Q : Bool → Heap → Prop} (hm : behindInMarks op r = false)
    (x : EV prog w A s0 (eval l env) h (fun a h1 => EV prog w A s0 (eval r env) h1 (fun b h2 => EV prog w A s0 (compareOp op a b) h2 (fun c h3 => EV prog w A s0 (truthy c) h3 Q)))) :
    EV prog w A s0 (isTrue (.Compare l [op] [r] pos) env whole) h Q := fun tk => wpAny_isTrue_Compare1 (x.out fun a h1 tk1 q => q.out fun b h2 tk2 q2 => q2.out fun c h3 tk3 q3 => q3 tk3) hm
theorem EV.unary {op : UnaryOp} {x : PySem.Expr} {pos : Pos} {Q : Value → Heap → Prop} (y : EV prog w A s0 (eval x env) h (fun v h1 => EV prog w A s0 (unaryOp op v) h1 Q)) : EV prog w A s0 (eval (.UnaryOp op x pos) env) h Q :=
  fun tk => wpAny_UnaryOp (y.out fun a h1 tk1 q => q tk1)
theorem EV.boolAnd {pos : Pos} {v : Sem Value} {rest : List (Sem Value)} {r0 : Sem Value} {Q : Value → Heap → Prop}
    (x : EV prog w A s0 v h (fun a h1 => EV prog w A s0 (truthy a) h1 (fun b h2 => if b then EV prog w A s0 (boolOp pos .And (r0 :: rest)) h2 Q else Q a h2))) : EV prog w A s0 (boolOp pos .And (v :: r0 :: rest)) h Q := by
  show EV prog w A s0 (v >>= fun a => standAt pos >>= fun _ => holding [a] (truthy a) >>= fun t => _) h Q
  refine EV.bind (x.mono fun a h1 q => EV.stand (EV.bind (EV.hold (q.mono fun b h2 q2 => ?_))))
  cases b
  · exact EV.pure q2
  · exact q2
theorem EV.boolOr {pos : Pos} {v : Sem Value} {rest : List (Sem Value)} {r0 : Sem Value} {Q : Value → Heap → Prop}
    (x : EV prog w A s0 v h (fun a h1 => EV prog w A s0 (truthy a) h1 (fun b h2 => if b then Q a h2 else EV prog w A s0 (boolOp pos .Or (r0 :: rest)) h2 Q))) : EV prog w A s0 (boolOp pos .Or (v :: r0 :: rest)) h Q := by
  show EV prog w A s0 (v >>= fun a => standAt pos >>= fun _ => holding [a] (truthy a) >>= fun t => _) h Q
  refine EV.bind (x.mono fun a h1 q => EV.stand (EV.bind (EV.hold (q.mono fun b h2 q2 => ?_))))
  cases b
  · exact q2
  · exact EV.pure q2
theorem Rd.name {ns : NK} {own : List Nat} {Γ : List D} {x : Str} {pos : Pos} {i : Nat} {d : D} {o fr : Bool} (r : Rd K mg mb env ns own X h Γ) (hs : slotOf ns x = some i) (hd : (x == Str.ofString "__debug__") = false)
    (hg : Γ[i]? = some d) (hu : usable d = true) (ho : (o || !(own.contains i && isL d)) = true) (hfr : fr = false) : EV prog w A s0 (eval (.Name x pos) env) h (Out o fr h X d) := fun tk => by
  refine zA (slotOf_get hs) fun e1 e2 => ?_
  refine zEA (r.loc) fun m hn hl => ?_
  refine zEAA (hl i x d e1 hg hu) fun v hv hw hvv => ?_
  refine wpAny_Name (wpAny_loadName_local r.eo.kind (r.eo.look _ _ e2 (.inl rfl)) hn hv (pst ⟨.refl h, hw, fun ho' => hvv ?_, fun h => ?_⟩)) hd
  · subst ho'
    revert ho
    cases own.contains i <;> cases isL d <;> trivial
  · simp only [hfr] at h; cases h
theorem Rd.builtin {ns : NK} {own : List Nat} {Γ : List D} {x : Str} {pos : Pos} {v : Value} {Q : Value → Heap → Prop} (r : Rd K mg mb env ns own X h Γ) (hs : isG ns x = true) (hd : x ≠ "__debug__") (hn : x ≠ "__name__")
    (h1 : mg x = none) (h2 : bootBuiltins x = some v) (q : Q v h) : EV prog w A s0 (eval (.Name x pos) env) h Q := fun tk => by
  have hk := r.eo.look x .globalImplicit (by simpa [isG] using hs) (.inr rfl)
  exact Calls.Name_function_global r.eo.kind hk (Calls.loadGlobal_builtin (r.eo.glob ▸ r.wo.g) h1 (r.eo.bi ▸ r.wo.b) ((r.wo.bt x hn).trans h2) ⟨_, _, rfl, q⟩) (by simpa using hd)
theorem Rd.global {ns : NK} {own : List Nat} {Γ : List D} {x : Str} {pos : Pos} {v : Value} {Q : Value → Heap → Prop} (r : Rd K mg mb env ns own X h Γ) (hs : isG ns x = true) (hd : x ≠ "__debug__")
    (h1 : mg x = some v) (q : Q v h) : EV prog w A s0 (eval (.Name x pos) env) h Q := fun tk => by
  have hk := r.eo.look x .globalImplicit (by simpa [isG] using hs) (.inr rfl)
  exact Calls.Name_function_global r.eo.kind hk (Calls.loadGlobal_global (r.eo.glob ▸ r.wo.g) h1 ⟨_, _, rfl, q⟩) (by simpa using hd)
theorem lit_ok {c : Const} {k : Nat} {pos : Pos} {o : Bool} {d : D} {F : FO} {own : List Nat} {Γ : List D} {fr : Bool} (e : ev F own o Γ (litOf c) = some d) (hfr : fr = false) : EV prog w A s0 (eval (.Constant c k pos) env) h (Out o fr h X d) := fun tk => by
  have fin : ∀ {v : Value} {d : D}, V h X v d → Out o fr h X d v h := fun x => ⟨.refl h, x.w, fun _ => x, fun q => by rw [hfr] at q; exact bf q⟩
  cases c with
  | none => refine y1 (ev_lit.symm.trans e) ?_; clear e; exact wpAny_Constant_none (pst (fin .none))
  | bool b => refine y1 (ev_lit.symm.trans e) ?_; clear e; exact wpAny_Constant_bool (pst (fin (.bool b)))
  | int i => refine y1 (ev_lit.symm.trans e) ?_; clear e; exact wpAny_Constant_int (pst (fin (.int i _)))
  | str s => refine y1 (ev_lit.symm.trans e) ?_; clear e; exact wpAny_Constant_str (pst (fin (.str s.cps.toList _)))
  | bytes s => refine y1 (ev_lit.symm.trans e) ?_; clear e; exact Constant_bytes (pst (fin (.bytes s _)))
  | _ => exact nos e
theorem EV.isTrueName {x : Str} {p : Pos} {Q : Bool → Heap → Prop} (y : EV prog w A s0 (eval (.Name x p) env) h (fun v h1 => EV prog w A s0 (truthy v) h1 Q)) : EV prog w A s0 (isTrue (.Name x p) env (eval (.Name x p) env)) h Q :=
  fun tk => wpAny_isTrue_value (y.out fun a h1 tk1 q => q tk1)
theorem evs_ok {F : FO} {own : List Nat} {ns : NK} {Γ : List D} {n : Nat} {o : Bool} {pos : Pos}
    (ih : ∀ (e : PySem.Expr) (h : Heap) (d : D), ev F own o Γ (era n ns e) = some d → Rd K mg mb env ns own X h Γ → EV prog w A s0 (eval e env) h (Out o (fresh (era n ns e)) h X d)) :
    ∀ (es : List PySem.Expr) (h : Heap) (l : List D), (∀ e ∈ es, isStar e = false) → evs F own o Γ (toEs (es.map (era n ns))) = some l → Rd K mg mb env ns own X h Γ →
      EV prog w A s0 (spliced (backTo pos (starEach es env))) h (Outs o h X l)
  | [], h, l, hs, e, r => fun tk => by
    refine evs_nil_of e ?_
    exact wpAny_items_nil (pst ⟨.refl h, .nil, fun _ => .nil⟩)
  | x :: es, h, l, hs, e, r => fun tk => by
    refine evs_cons_of e fun d l' e1 e2 => ?_
    have hx := hs x List.mem_cons_self
    refine wpAny_items_cons ((ih x h d e1 r).out fun v h1 tk1 q => (evs_ok ih es h1 l' (fun y hy => hs y (List.mem_cons_of_mem _ hy)) e2 (r.grow q.1)).out fun vs h2 tk2 q2 => ?_) ?_
    · exact (pst ⟨q.1.trans q2.1, .cons (q.2.1.grow q2.1) q2.2.1, fun ho => .cons ((q.2.2.1 ho).keep (q2.1.x X)) (q2.2.2 ho)⟩)
    · cases x <;> first | rfl | exact bf hx.symm
theorem evalArgs_ok {f : Value} {es : List PySem.Expr} {pos : Pos} {Q : Args → Heap → Prop} (hs : ∀ e ∈ es, isStar e = false) (x : EV prog w A s0 (spliced (backTo pos (starEach es env))) h (fun vs h1 => Q ⟨vs, []⟩ h1)) :
    EV prog w A s0 (evalArgs f true (backTo pos (starEach es env)) []) h Q := fun tk => by
  cases es with
  | nil =>
    show wpAny _ _ (evalArgs f true [] []) _ _ _
    unfold evalArgs
    show wpAny _ _ (spliced [] >>= _) _ _ _
    refine wpAny_bind ((show EV prog w A s0 (spliced []) h (fun vs h1 => Q ⟨vs, []⟩ h1) from x).out fun vs h1 tk1 q => wpAny_holding ?_)
    exact wpAny_bind (wpAny_pure (wpAny_bind (wpAny_pure (wpAny_pure (pst (q))))))
  | cons e r =>
    have : starEach (e :: r) env = (false, eval e env) :: starEach r env := by
      have he := hs e List.mem_cons_self
      cases e <;> first | rfl | exact bf he.symm
    rw [this] at x ⊢
    exact Calls.evalArgs_plain (x tk)
end
section
variable {prog : Program} {w : World} {s0 : Shared} {K : Frag} {mg mb : Str → Option Value} {A : Around} {X : Addr → Prop} {env : Env} {h : Heap}
structure IterAt (prog : Program) (w : World) (A : Around) (X : Addr → Prop) (h : Heap) (h1 : Heap) (I : Addr) (fp : List Addr) (P : Nat → Value → Prop) (St : Nat → Heap → Prop) (n : Nat) (xs : List D) : Prop where
  wk : Walks prog w A I fp [I] n P St
  len : n = xs.length
  st : St 0 h1
  fpIn : ∀ b ∈ fp, (h1.get? b).isSome = true
  bar : ∀ b ∈ fp, b = I ∨ (¬ X b ∧ (h.get? b).isSome = true)
  alive : ∀ i h, St i h → (h.get? I).isSome = true
  new : h.get? I = none
  val : ∀ h2, GrowX X h h2 → ∀ i v, P i v → ∃ d, xs[i]? = some d ∧ V h2 X v d
theorem iter_ok {d : D} {v : Value} {xs : List D} (hA : A.handled = none) (t : There X h) (e : itemsOf d = some xs) (x : V h X v d) :
    EV prog w A s0 (pyIter v) h (fun it h1 => Grow h h1 ∧ ∃ I fp P St n, it = .ref I ∧ IterAt prog w A X h h1 I fp P St n xs) := fun tk => by
  cases d with
  | list ds =>
    refine y1 e (zEEEAAA x.inv fun a vs n q ho nx y => yl q ?_)
    clear e x q
    have hne : a ≠ h.objs.size := Nat.ne_of_lt (Heap.lt_size ho)
    refine wpAny_pyIter_list (IsL.is ho) (pst ⟨.push h _, _, _, _, _, _, rfl, Walks.list hA h.objs.size a hne vs.toArray, by simp only [List.size_toArray, y.length], ⟨⟨_, Heap.get?_push_size _ rfl, rfl, rfl⟩, (IsL.is ho).push _⟩, ?_, ?_, fun i h st => (by obtain ⟨⟨o, q, _⟩, _⟩ := st; rw [q]; rfl), get_size h, ?_⟩)
    · intro b hb
      simp only [List.mem_cons, List.not_mem_nil, or_false] at hb
      rcases hb with rfl | rfl
      · rw [Heap.get?_push_size _ rfl]; rfl
      · rw [Heap.get?_push_of_some _ ho]; rfl
    · intro b hb
      simp only [List.mem_cons, List.not_mem_nil, or_false] at hb
      rcases hb with rfl | rfl
      · exact .inl rfl
      · exact .inr ⟨nx, by rw [ho]; rfl⟩
    · intro h2 g i v hv
      have hv' : vs[i]? = some v := by simpa using hv
      refine zE (List.getElem?_eq_some_iff.mp hv') fun hlt hvi => ?_
      have hlt' : i < ds.length := by rw [← y.length]; exact hlt
      obtain ⟨v', e1, e2⟩ := y.get (i := i) (d := ds[i]) (List.getElem?_eq_getElem hlt')
      exact ⟨ds[i], List.getElem?_eq_getElem hlt', yl (Option.some.inj (hv'.symm.trans e1)) (e2.keep g)⟩
  | str s =>
    refine y1 e (str_e x fun t1 => ?_)
    clear e x
    refine wpAny_pyIter_strU (pst ⟨.push h _, ?_⟩)
    have val : ∀ h2, GrowX X h h2 → ∀ i v, SignAt (txt s) i v → ∃ d, (s.map fun c => D.str [c])[i]? = some d ∧ V h2 X v d := by
      rintro h2 - i v hz; refine zEEA hz ?_; clear hz; rintro c u hc rfl
      have hc' : s[i]? = some c := by simpa [txt] using hc
      exact ⟨.str [c], by simp [hc'], .str [c] u⟩
    have fpS : ∀ (o : Obj), o.isFreed = false → ∀ b ∈ [h.objs.size], ((h.push o).get? b).isSome = true := fun o ho b hb => by
      simp only [List.mem_cons, List.not_mem_nil, or_false] at hb
      refine yl hb ?_; clear hb; rw [Heap.get?_push_size _ ho]; rfl
    have barS : ∀ b ∈ [h.objs.size], b = h.objs.size ∨ (¬ X b ∧ (h.get? b).isSome = true) := fun b hb => .inl (by simpa using hb)
    cases ha : (txt s).cps.all (· < 128)
    · have e1 : strIterType (txt s) = "str_iterator" := by simp [strIterType, ha]
      show ∃ I fp P St n, _
      rw [show strIterType ⟨s.toArray⟩ = "str_iterator" from e1]
      exact ⟨_, _, _, _, _, rfl, Walks.strWide hA h.objs.size (txt s) t1, by simp [txt], ⟨_, Heap.get?_push_size _ rfl, rfl, rfl⟩, fpS _ rfl, barS, fun i h st => (by obtain ⟨o, q, _⟩ := st; rw [q]; rfl), get_size h, val⟩
    · have e1 : strIterType (txt s) = "str_ascii_iterator" := by simp [strIterType, ha]
      show ∃ I fp P St n, _
      rw [show strIterType ⟨s.toArray⟩ = "str_ascii_iterator" from e1]
      exact ⟨_, _, _, _, _, rfl, Walks.strAscii hA h.objs.size (txt s) t1, by simp [txt], ⟨_, Heap.get?_push_size _ rfl, rfl, rfl⟩, fpS _ rfl, barS, fun i h st => (by obtain ⟨o, q, _⟩ := st; rw [q]; rfl), get_size h, val⟩
  | bytes s =>
    refine y1 e (zE x.bytes_of fun t1 q => yl q ?_)
    clear e x q
    refine KBw.pyIter_bytes (pst ⟨.push h _, _, _, _, _, _, rfl, KBw.walks hA h.objs.size s.toArray t1, by simp, ⟨_, Heap.get?_push_size _ rfl, rfl, rfl⟩, ?_, ?_, fun i h st => (by refine zEA st ?_; clear st; intro o q _; rw [q]; rfl), get_size h, ?_⟩)
    · intro b hb
      simp only [List.mem_cons, List.not_mem_nil, or_false] at hb
      refine yl hb ?_; clear hb; rw [Heap.get?_push_size _ rfl]; rfl
    · intro b hb
      exact .inl (by simpa using hb)
    · rintro h2 - i v hz; refine zEEA hz ?_; clear hz; rintro c u hc rfl
      have hc' : s[i]? = some c := by simpa using hc
      exact ⟨.int c.toNat, by simp [hc'], .int _ u⟩
  | _ => exact nos e
end
section
theorem toA_inj {α : Type} {a b : List α} (h : a.toArray = b.toArray) : a = b := by simpa using h
theorem ref_of {h : Heap} {X : Addr → Prop} {a : Addr} {d : D} (x : V h X (.ref a) d) : ∃ o, h.get? a = some o ∧ ((∃ ds vs n, d = .list ds ∧ o = listO vs.toArray n ∧ Vs h X vs ds) ∨ (∃ ds vs n, d = .tup ds ∧ o = tupO vs.toArray n ∧ Vs h X vs ds) ∨ (d = .obj a ∧ o.cls = .type "object")) := by
  cases x with
  | list a n r => exact ⟨_, a, .inl ⟨_, _, _, rfl, rfl, r⟩⟩
  | tup a n r => exact ⟨_, a, .inr (.inl ⟨_, _, _, rfl, rfl, r⟩)⟩
  | obj a b n => exact ⟨_, a, .inr (.inr ⟨rfl, b⟩)⟩
theorem t_l {P : Prop} (e : (.type "tuple" : Value) = .type "list") : P := absurd e (by decide)
theorem o_l {P : Prop} (e : (.type "object" : Value) = .type "list") : P := absurd e (by decide)
theorem o_t {P : Prop} (e : (.type "object" : Value) = .type "tuple") : P := absurd e (by decide)
theorem str_val {h : Heap} {X : Addr → Prop} {s : Str} {t : Tok} {d : D} (x : V h X (.str s t) d) : d = .str s.cps.toList := by cases x; rfl
theorem bytes_val {h : Heap} {X : Addr → Prop} {s : Array UInt8} {t : Tok} {d : D} (x : V h X (.bytes s t) d) : d = .bytes s.toList := by cases x; rfl
theorem det_both {h : Heap} {X : Addr → Prop} : (∀ {v d}, V h X v d → ∀ {d'}, V h X v d' → d = d') ∧ (∀ {vs ds}, Vs h X vs ds → ∀ {ds'}, Vs h X vs ds' → ds = ds') := by
  have hl : ∀ {a : Addr} {vs : List Value} {n : Nat} {ds : List D}, h.get? a = some (listO vs.toArray n) → ¬ X a → Vs h X vs ds → (∀ {ds'}, Vs h X vs ds' → ds = ds') → ∀ {d'}, V h X (.ref a) d' → D.list ds = d' := fun {a vs n ds} e _ _ ih {d'} y => by
    refine zEA (ref_of y) fun o e' y => ?_
    obtain rfl := Option.some.inj (e.symm.trans e')
    rcases y with ⟨ds', ws, m, rfl, q, r⟩ | ⟨ds', ws, m, rfl, q, r⟩ | ⟨rfl, q⟩
    · injection q with _ _ q _
      injection q with q _
      rw [ih (toA_inj q ▸ r)]
    · exact t_l (congrArg Obj.cls q).symm
    · exact o_l q.symm
  have ht : ∀ {a : Addr} {vs : List Value} {n : Nat} {ds : List D}, h.get? a = some (tupO vs.toArray n) → ¬ X a → Vs h X vs ds → (∀ {ds'}, Vs h X vs ds' → ds = ds') → ∀ {d'}, V h X (.ref a) d' → D.tup ds = d' := fun {a vs n ds} e _ _ ih {d'} y => by
    obtain ⟨o, e', y⟩ := ref_of y
    obtain rfl := Option.some.inj (e.symm.trans e')
    rcases y with ⟨ds', ws, m, rfl, q, r⟩ | ⟨ds', ws, m, rfl, q, r⟩ | ⟨rfl, q⟩
    · exact t_l (congrArg Obj.cls q)
    · injection q with _ _ q _
      injection q with q _
      rw [ih (toA_inj q ▸ r)]
    · exact o_t q.symm
  have ho : ∀ {a : Addr} {o : Obj}, h.get? a = some o → o.cls = .type "object" → ¬ X a → ∀ {d'}, V h X (.ref a) d' → D.obj a = d' := fun {a o} e c _ {d'} y => by
    obtain ⟨o, e', y⟩ := ref_of y
    obtain rfl := Option.some.inj (e.symm.trans e')
    rcases y with ⟨ds', ws, m, rfl, q, r⟩ | ⟨ds', ws, m, rfl, q, r⟩ | ⟨rfl, q⟩
    · exact o_l (c.symm.trans (congrArg Obj.cls q))
    · exact o_t (c.symm.trans (congrArg Obj.cls q))
    · rfl
  have hn : ∀ {d'}, V h X .none d' → D.none = d' := fun y => by cases y; rfl
  have hb : ∀ (b : Bool) {d'}, V h X (.bool b) d' → D.bool b = d' := fun b {_} y => by cases y; rfl
  have hi : ∀ (i : Int) (t : Tok) {d'}, V h X (.int i t) d' → D.int i = d' := fun i t {_} y => by cases y; rfl
  have hs : ∀ (s : List Nat) (t : Tok) {d'}, V h X (.str ⟨s.toArray⟩ t) d' → D.str s = d' := fun s t {_} y => (str_val y).symm
  have hy : ∀ (s : List UInt8) (t : Tok) {d'}, V h X (.bytes s.toArray t) d' → D.bytes s = d' := fun s t {_} y => (bytes_val y).symm
  have hty : ∀ (n : String) {d'}, V h X (.type n) d' → D.ty n = d' := fun n {_} y => by cases y; rfl
  have hv0 : ∀ {ds'}, Vs h X [] ds' → [] = ds' := fun y => by cases y; rfl
  have hv1 : ∀ {v : Value} {vs : List Value} {d : D} {ds : List D}, V h X v d → Vs h X vs ds → (∀ {d'}, V h X v d' → d = d') → (∀ {ds'}, Vs h X vs ds' → ds = ds') → ∀ {ds'}, Vs h X (v :: vs) ds' → d :: ds = ds' := fun {_ _ _ _} _ _ i1 i2 {_} y => by
    cases y with
    | cons a b => rw [i1 a, i2 b]
  exact ⟨fun x => V.rec (motive_1 := fun v d _ => ∀ {d'}, V h X v d' → d = d') (motive_2 := fun vs ds _ => ∀ {ds'}, Vs h X vs ds' → ds = ds') hn hb hi hs hy hl ht ho hty hv0 hv1 x,
    fun x => Vs.rec (motive_1 := fun v d _ => ∀ {d'}, V h X v d' → d = d') (motive_2 := fun vs ds _ => ∀ {ds'}, Vs h X vs ds' → ds = ds') hn hb hi hs hy hl ht ho hty hv0 hv1 x⟩
theorem V.det {h : Heap} {X : Addr → Prop} {v : Value} {d : D} (x : V h X v d) {d' : D} (y : V h X v d') : d = d' := det_both.1 x y
def Atom (y : Value) (e : D) : Prop := atom e = true ∧ ∀ h X, V h X y e
theorem Atom.of {h : Heap} {X : Addr → Prop} {y : Value} {e : D} (ha : atom e = true) (x : V h X y e) : Atom y e := ⟨ha, fun h' X' => by
  cases x <;> first | exact .str _ _ | exact .int _ _ | exact bf ha⟩
set_option tactic.hygienic true in
theorem mapO_get {f : D → Option D} : ∀ {xs l : List D}, mapO f xs = some l → l.length = xs.length ∧ ∀ (i : Nat) (d : D), xs[i]? = some d → ∃ e, f d = some e ∧ l[i]? = some e
  | [], l, e => by refine y1 e ?_; clear e; exact ⟨rfl, fun i d h => by simp at h⟩
  | x :: xs, l, e => by
    unfold mapO at e
    split at e
    · rename_i y hy
      refine zEA (Option.map_eq_some_iff.mp e) ?_; rintro l' e1 rfl
      refine zA (mapO_get e1) fun h1 h2 => ?_
      refine ⟨by simp [h1], fun i d hd => ?_⟩
      cases i with
      | zero => simp at hd; subst hd; exact ⟨y, hy, rfl⟩
      | succ i => simp at hd; refine zEA (h2 i d hd) fun e p q => ?_; exact ⟨e, p, by simpa using q⟩
    · exact nos e
theorem paired_vals {h : Heap} {X : Addr → Prop} {R : Value → Value → Prop} : ∀ {vs ys : List Value} {l : List D}, Paired R vs ys → vs.length = l.length →
    (∀ (i : Nat) (v y : Value) (e : D), vs[i]? = some v → l[i]? = some e → R v y → V h X y e) → Vs h X ys l
  | [], _, [], .nil, _, _ => .nil
  | v :: vs, y :: ys, [], .cons a r, hl, _ => by simp at hl
  | v :: vs, y :: ys, e :: l, .cons a r, hl, hv => .cons (hv 0 v y e rfl rfl a) (paired_vals r (by simpa using hl) fun i v y e h1 h2 => hv (i + 1) v y e (by simpa using h1) (by simpa using h2))
section
variable {prog : Program} {w : World} {K : Frag} {mg mb : Str → Option Value} {A : Around} {X : Addr → Prop} {env : Env} {h : Heap}
  {F : FO} {own : List Nat} {n k : Nat}
theorem relabel_plain {scope : Scope} (hp : plainNames scope.names = true) : relabel scope env = scope := by
  unfold relabel
  have : (scope.names.map fun (x : Str × NameKind) => if (x.2 == .free && env.scope.kind == .function && env.kindOf x.1 == some .cell) then (x.1, .cell) else (x.1, x.2)) = scope.names := by
    apply map_eq_self
    intro x hx
    have := List.all_eq_true.mp hp x hx
    obtain ⟨a, b⟩ := x
    cases b <;> first | rfl | (simp at this)
  show { scope with names := _ } = scope
  rw [this]
theorem envOk_comp {ns : NK} {scope : Scope} {C : Addr} (eo : EnvOk env ns) (hk : scope.kind = .function) (hp : plainNames scope.names = true) : EnvOk (compEnvC scope [] C env) scope.names :=
  ⟨by show (relabel scope env).kind = _; rw [relabel_plain hp]; exact hk, eo.glob, eo.bi, fun x k e _ => by
    show (relabel scope env).names.lookup x = _; rw [relabel_plain hp]; exact e⟩
def EltR (h : Heap) (X : Addr → Prop) (f : D → Option D) (v y : Value) : Prop := ∀ d, V h X v d → ∃ e, f d = some e ∧ Atom y e
theorem comp_quiet {s0 : Shared} {ns : NK} {scope : Scope} {x : Str} {elt : PySem.Expr} {Γ : List D} {h1 : Heap} {I : Addr} {fp : List Addr} {P : Nat → Value → Prop} {St : Nat → Heap → Prop} {m : Nat} {xs l : List D}
    (ih : ∀ (s0 : Shared) (env : Env) (ns : NK) (X : Addr → Prop) (Γ : List D) (o : Bool) (A : Around) (e : PySem.Expr) (h : Heap) (d : D), Room k A → ev F own o Γ (era n ns e) = some d → Rd K mg mb env ns own X h Γ → EV prog w A s0 (eval e env) h (Out o (fresh (era n ns e)) h X d))
    (r : Rd K mg mb env ns own X h Γ) (hR : Room k A) (hk : scope.kind = .function) (hp : plainNames scope.names = true) (hx : slotOf scope.names x = some 1) (g : Grow h h1)
    (it : IterAt prog w A X h h1 I fp P St m xs) (hm : mapO (fun d => ev F own false [.undef, d] (era n scope.names elt)) xs = some l) (ha : l.all atom = true) (tk : Nat) :
    QuietOnC prog w A env scope [] x [] elt [I] P (fun _ => true) (EltR h X fun d => ev F own false [.undef, d] (era n scope.names elt)) (sAt s0 h1 tk) where
  tests := fun C i v s₃ m₃ E' hC hP hN hv hkp htk => wpAny_tests_nil ⟨rfl, _, _, rfl, fun _ _ e => e⟩
  elt := fun C i v s₃ m₃ E' hC hP _ hN hv hkp htk => by
    have g3 : Grow h s₃.heap := fun b o e => hkp b o (fun hb => by
      simp only [List.mem_cons, List.not_mem_nil, or_false] at hb
      subst hb; rw [it.new] at e; cases e) (g b o e)
    refine zEA (it.val h1 (g.x X) i v hP) fun d hd _ => ?_
    refine zEA ((mapO_get hm).2 i d hd) fun e he hl => ?_
    have hvd : V s₃.heap X v d := by
      refine zEA (it.val s₃.heap (g3.x X) i v hP) fun d' e1 e2 => ?_
      rw [hd] at e1; cases e1; exact e2
    have hvh : V h X v d := by
      refine zEA (it.val h ((Grow.refl h).x X) i v hP) fun d' e1 e2 => ?_
      rw [hd] at e1; cases e1; exact e2
    have rd : Rd K mg mb (compEnvC scope [] C env) scope.names own X s₃.heap [.undef, d] := by
      refine ⟨envOk_comp r.eo hk hp, r.wo.grow g3, r.th.grow g3, m₃, hN, fun j y d' h1' h2' h3' => ?_⟩
      match j, h2' with
      | 0, h2' => simp at h2'; subst h2'; cases h3'
      | 1, h2' =>
        simp at h2'
        subst h2'
        have := (slotOf_get hx).1
        rw [h1'] at this
        cases this
        exact ⟨v, hv, hvd.w, fun _ => hvd⟩
      | j + 2, h2' => simp at h2'
    have ok := ih { s₃ with } (compEnvC scope [] C env) scope.names X [.undef, d] false A elt s₃.heap e hR he rd
    refine (ok s₃.toks |> fun z => wpAny_mono z (fun y s₄ q => ?_) fun _ _ f => f.elim)
    refine zEEAAAA q ?_; clear q; rintro h' tk' rfl q1 q2 q3 q4
    refine ⟨fun d' hd' => ?_, h', tk', rfl, q1⟩
    have := V.det hd' hvh
    refine yl this ?_; clear this
    refine ⟨e, he, .of ?_ (q3 rfl)⟩
    exact List.all_eq_true.mp ha e (List.mem_of_getElem? hl)
theorem comp_vals {h1 h2 : Heap} {I : Addr} {fp : List Addr} {P : Nat → Value → Prop} {St : Nat → Heap → Prop} {m : Nat} {xs l : List D} {f : D → Option D} {vs ys : List Value}
    (it : IterAt prog w A X h h1 I fp P St m xs) (hm : mapO f xs = some l) (hlen : vs.length = m) (hP : ∀ j v, vs[j]? = some v → P j v) (hF : Paired (EltR h X f) (vs.filter fun _ => true) ys) : Vs h2 X ys l := by
  rw [List.filter_eq_self.mpr (fun _ _ => rfl)] at hF
  refine paired_vals hF (by rw [hlen, it.len, (mapO_get hm).1]) fun i v y e h1' h2' hr => ?_
  refine zEA (it.val h ((Grow.refl h).x X) i v (hP i v h1')) fun d hd hv => ?_
  refine zEA (hr d hv) fun e' he ha => ?_
  refine zEA ((mapO_get hm).2 i d hd) fun e'' he2 hl => ?_
  rw [h2'] at hl; cases hl
  rw [he] at he2; refine y1 he2 ?_; clear he2
  exact ha.2 _ _
theorem plain_free {scope : Scope} (hp : plainNames scope.names = true) : (∀ x ∈ scope.names, x.2 ≠ .free) ∧ (∀ x ∈ scope.names, x.2 ≠ .cell) := by
  have := List.all_eq_true.mp hp
  refine ⟨fun x hx q => ?_, fun x hx q => ?_⟩ <;> (have := this x hx; rw [q] at this; simp at this)
theorem IterAt.old {h1 h' : Heap} {I : Addr} {fp : List Addr} {P : Nat → Value → Prop} {St : Nat → Heap → Prop} {m : Nat} {xs : List D} (it : IterAt prog w A X h h1 I fp P St m xs) (g : Grow h h1)
    (hk : ∀ b o, b ∉ [I] → h1.get? b = some o → h'.get? b = some o) : Grow h h' := fun b o e => hk b o (fun hb => by
  simp only [List.mem_cons, List.not_mem_nil, or_false] at hb
  subst hb; rw [it.new] at e; cases e) (g b o e)
theorem IterAt.lt {h1 : Heap} {I : Addr} {fp : List Addr} {P : Nat → Value → Prop} {St : Nat → Heap → Prop} {m : Nat} {xs : List D} (it : IterAt prog w A X h h1 I fp P St m xs) : ∀ b ∈ fp, b < h1.objs.size := fun b hb => by
  refine zE (Option.isSome_iff_exists.mp (it.fpIn b hb)) fun o e => ?_
  exact Heap.lt_size e
end
end
section
variable {prog : Program} {w : World} {s0 : Shared} {K : Frag} {mg mb : Str → Option Value} {A : Around} {X : Addr → Prop} {env : Env} {h h1 h0 : Heap}
  {F : FO} {own : List Nat} {k n : Nat} {ns : NK} {Γ Γ' : List D} {O O' : Nat → Option Addr}
theorem noStars {es : List PySem.Expr} {pos : Pos} (hs : ∀ e ∈ es, isStar e = false) : (backTo pos (starEach es env)).any (·.1) = false := by
  induction es with
  | nil => rfl
  | cons e r ih =>
    have he := hs e List.mem_cons_self
    have : starEach (e :: r) env = (false, eval e env) :: starEach r env := by cases e <;> first | rfl | exact bf he.symm
    rw [this]
    simp only [backTo, List.map_cons, List.any_cons, Bool.false_or] at ih ⊢
    exact ih fun y hy => hs y (List.mem_cons_of_mem _ hy)
theorem EV.callName {x : Str} {p pos : Pos} {es : List PySem.Expr} {Q : Value → Heap → Prop} (y : EV prog w A s0 (eval (.Name x p) env) h (fun f h1 => EV prog w A s0 (callWith pos f [] (backTo pos (starEach es env)) []) h1 Q)) :
    EV prog w A s0 (eval (.Call (.Name x p) es [] pos) env) h Q := fun tk => Call_ (y.out fun f h1 tk1 q => q tk1)
theorem EV.withBuiltin {id : String} {first : List Value} {pos : Pos} {es : List PySem.Expr} {Q : Value → Heap → Prop} (hs : ∀ e ∈ es, isStar e = false)
    (y : EV prog w A s0 (spliced (backTo pos (starEach es env))) h (fun vs h1 => EV prog w A s0 (call (.builtin id) (first ++ vs)) h1 Q)) :
    EV prog w A s0 (callWith pos (.builtin id) first (backTo pos (starEach es env)) []) h Q := fun tk =>
  Calls.callWith_builtin (noStars hs) ((evalArgs_ok (Q := fun a h1 => EV prog w A s0 (call (.builtin id) (first ++ a.pos) a.kw) h1 Q) hs y).out fun a h1 tk1 q => q tk1)
theorem EV.withType {T : String} {first : List Value} {pos : Pos} {es : List PySem.Expr} {Q : Value → Heap → Prop} (hs : ∀ e ∈ es, isStar e = false)
    (y : EV prog w A s0 (spliced (backTo pos (starEach es env))) h (fun vs h1 => EV prog w A s0 (call (.type T) (first ++ vs)) h1 Q)) :
    EV prog w A s0 (callWith pos (.type T) first (backTo pos (starEach es env)) []) h Q := fun tk =>
  PyProof.Rows.callWith_type (noStars hs) ((evalArgs_ok (Q := fun a h1 => EV prog w A s0 (call (.type T) (first ++ a.pos) a.kw) h1 Q) hs y).out fun a h1 tk1 q => q tk1)
theorem EV.withFunc {a : Addr} {o : Obj} {fd : FuncData} {pos : Pos} {es : List PySem.Expr} {Q : Value → Heap → Prop} (hs : ∀ e ∈ es, isStar e = false) (ho : h.get? a = some o) (hd : o.data = .func fd)
    (y : EV prog w A s0 (spliced (backTo pos (starEach es env))) h (fun vs h1 => Grow h h1 ∧ EV prog w A s0 (call (.ref a) vs) h1 Q)) :
    EV prog w A s0 (callWith pos (.ref a) [] (backTo pos (starEach es env)) []) h Q := fun tk =>
  Calls.callWith_function ((evalArgs_ok (Q := fun x h1 => Grow h h1 ∧ EV prog w A s0 (call (.ref a) x.pos x.kw) h1 Q) hs y).out fun x h1 tk1 q => ⟨⟨q.1 _ _ ho, hd⟩, q.2 tk1⟩)
theorem if_cases {α : Type} {c : Prop} [Decidable c] {P : α → Prop} {a v : α} {o : Option α} (e : (if c then some a else o) = some v) (ha : P a) (ho : o = some v → P v) : P v := by
  by_cases h : c
  · rw [if_pos h] at e; exact some_of e ▸ ha
  · rw [if_neg h] at e; exact ho e
def BT (v : Value) : Prop := (∃ id, v = .builtin id) ∨ (∃ T, v = .type T)
theorem biVal_cases {f : String} {v : Value} (e : biVal f = some v) : BT v := by
  have b : ∀ id, BT (.builtin id) := fun id => .inl ⟨id, rfl⟩
  have c : ∀ T, BT (.type T) := fun id => .inr ⟨id, rfl⟩
  exact if_cases (P := BT) e (b _) fun e => if_cases (P := BT) e (b _) fun e => if_cases (P := BT) e (b _) fun e => if_cases (P := BT) e (b _) fun e => if_cases (P := BT) e (b _) fun e => if_cases (P := BT) e (b _) fun e =>
    if_cases (P := BT) e (c _) fun e => if_cases (P := BT) e (c _) fun e => nos e
abbrev IH (prog : Program) (w : World) (K : Frag) (mg mb : Str → Option Value) (F : FO) (own : List Nat) (k n : Nat) : Prop :=
  ∀ (s0 : Shared) (env : Env) (ns : NK) (X : Addr → Prop) (Γ : List D) (o : Bool) (A : Around) (e : PySem.Expr) (h : Heap) (d : D), Room k A → ev F own o Γ (era n ns e) = some d → Rd K mg mb env ns own X h Γ →
    EV prog w A s0 (eval e env) h (Out o (fresh (era n ns e)) h X d)
theorem args_ok (ih : IH prog w K mg mb F own k n) (hR : Room k A) {o : Bool} {es : List PySem.Expr} {pos : Pos} {l : List D} (hs : ∀ e ∈ es, isStar e = false) (e : evs F own o Γ (toEs (es.map (era n ns))) = some l) (r : Rd K mg mb env ns own X h Γ) :
    EV prog w A s0 (spliced (backTo pos (starEach es env))) h (Outs o h X l) :=
  evs_ok (fun e h d he r => ih s0 env ns X Γ o A e h d hR he r) es h l hs e r
theorem callBi_ok (gl : Glo K mg) (ih : IH prog w K mg mb F own k n) (hR : Room k A) {o fr : Bool} {f : Str} {g : String} {p pos : Pos} {es : List PySem.Expr} {d : D} (hs : ∀ e ∈ es, isStar e = false) (hG : isG ns f = true)
    (hf : named biNames f = some g) (e : ev F own o Γ (.bi g (toEs (es.map (era n ns)))) = some d) (r : Rd K mg mb env ns own X h Γ) (hfr : fr = false) :
    EV prog w A s0 (eval (.Call (.Name f p) es [] pos) env) h (Out o fr h X d) := by
  refine zA (named_some hf) ?_; rintro hm rfl
  refine zEAAAA (gl.bi g hm) fun v h1 h2 h3 h4 h5 => ?_
  refine ev_bi_of e fun l el e => ?_
  refine EV.callName (r.builtin hG h5 h4 h2 h3 ?_)
  have fin : EV prog w A s0 (spliced (backTo pos (starEach es env))) h (fun vs h1 => EV prog w A s0 (call v vs) h1 (Out o fr h X d)) :=
    (args_ok ih hR hs el r).mono fun vs h' q => (biop_ok e h1 hR.hd (r.th.grow q.1) q.2.1).mono fun v h2 g => Got.out g q.1
  rcases biVal_cases h1 with ⟨id, rfl⟩ | ⟨T, rfl⟩
  · exact EV.withBuiltin hs fin
  · exact EV.withType hs fin
theorem callFn_ok (gl : Glo K mg) (orc : Orc prog w K mg mb k F) (ih : IH prog w K mg mb F own k n) (hR : Room k A) {o fr : Bool} {f : Str} {g : String} {p pos : Pos} {es : List PySem.Expr} {d : D} (hs : ∀ e ∈ es, isStar e = false) (hG : isG ns f = true)
    (hf : named fnNames f = some g) (hk : kwOf g = []) (e : ev F own o Γ (.fn g (toEs (es.map (era n ns)))) = some d) (r : Rd K mg mb env ns own X h Γ) (hfr : fr = false) :
    EV prog w A s0 (eval (.Call (.Name f p) es [] pos) env) h (Out o fr h X d) := by
  refine zA (named_some hf) ?_; rintro hm rfl
  refine ev_fn_of e fun l el e => ?_
  refine zEEEAAA (orc g hm l d e) fun a ob fd m1 m2 m3 c => ?_
  refine EV.callName (r.global hG (gl.fn g hm) m1 (EV.withFunc hs (r.wo.k _ _ m2) m3 ?_))
  refine (args_ok ih hR hs el r).mono fun vs h' q => ⟨q.1, ?_⟩
  have := c s0 A h' X vs hR (r.wo.grow q.1) (r.th.grow q.1) (q.2.2 rfl)
  rw [hk] at this
  simp only [List.length_nil, Nat.sub_zero, List.take_length, List.map_nil, List.zip_nil_left] at this
  exact this.mono fun v h2 z => ⟨q.1.trans z.1, z.2.w, fun _ => z.2, fun q => by rw [hfr] at q; exact bf q⟩
theorem EV.method {o : PySem.Expr} {name : Str} {apos pos : Pos} {args : List PySem.Expr} {Q : Value → Heap → Prop} (hbase : attributeBase o name env (eval o env) = eval o env) (hl : args.length < 20) (hs : ∀ e ∈ args, isStar e = false)
    (hline : (apos.endLine == pos.line) = true)
    (y : EV prog w A s0 (eval o env) h (fun ov h1 => ∃ T id, PlainAttrs T ∧ Slot T name id ∧ typeOf (.builtin id) = Pure.pure (.type "method_descriptor") ∧ (∀ s : Shared, s.heap = h1 → s.TypeIs ov T) ∧
      (∀ a, ov = .ref a → ∃ ob, h1.get? a = some ob ∧ ob.dict = none) ∧ EV prog w A s0 (spliced (backTo pos (starEach args env))) h1 (fun vs h2 => EV prog w A s0 (call (.builtin id) (ov :: vs)) h2 Q))) :
    EV prog w A s0 (eval (.Call (.Attribute o name apos) args [] pos) env) h Q := fun tk => by
  refine wpAny_Call_method_lateS hbase ?_ hline (y.out fun ov h1 tk1 q => ?_)
  · have h1 := noStars (env := env) (pos := pos) hs
    have : (backTo pos (starEach args env)).all (fun x => !x.1) = true := by
      rw [List.all_eq_true]
      intro x hx
      have := List.any_eq_false.mp h1 x hx
      simpa using this
    rw [this]
    simp [backToKw, keywordEach]; exact (qM (qC hl) (by decide))
  · refine zEEAAAAA q ?_; clear q; intro T id q1 q2 q3 q4 q5 q6
    exact ⟨T, id, q1, q2, q3, q4 _ rfl, q5, EV.withBuiltin (first := [ov]) hs q6 tk1⟩
theorem baseOf {o : PySem.Expr} {name : Str} (ho : notCall o = true) : attributeBase o name env (eval o env) = eval o env := by
  cases o <;> first | rfl | exact bf ho
theorem callMe_ok (ih : IH prog w K mg mb F own k n) (hR : Room k A) {o fr : Bool} {e0 : PySem.Expr} {m : Str} {f : String} {apos pos : Pos} {es : List PySem.Expr} {d : D} (hl : es.length < 20) (hs : ∀ e ∈ es, isStar e = false)
    (hline : (apos.endLine == pos.line) = true) (h0 : notCall e0 = true) (hf : named meNames m = some f) (e : ev F own o Γ (.me (era n ns e0) f (toEs (es.map (era n ns)))) = some d) (r : Rd K mg mb env ns own X h Γ) :
    EV prog w A s0 (eval (.Call (.Attribute e0 m apos) es [] pos) env) h (Out o fr h X d) := by
  refine zA (named_some hf) ?_; rintro hm rfl
  refine ev_me_of e fun a l ea el e => ?_
  refine EV.method (baseOf h0) hl hs hline ((ih s0 env ns X Γ true A e0 h a hR ea r).mono fun va h1 q => ?_)
  have r1 := r.grow q.1
  refine zEAAAA (meop_at e q.2.1) fun T i1 i2 i3 i4 i5 => ?_
  refine ⟨T, _, i1, i2, i3, i4, fun a q => absurd q (i5 a), ?_⟩
  exact (args_ok ih hR hs el r1).mono fun vs h2 z => (meop_ok e (r1.th.grow z.1) (q.2.1.grow z.1) z.2.1).mono fun v h3 g => Got.out g (q.1.trans z.1)
noncomputable def isSlice : PySem.Expr → Bool
  | .Slice .. => true
  | _ => false
theorem notSlice {e : PySem.Expr} {o i : Value} (hn : isSlice e = false) : subscripted e false o i = operate [o, i] (getItem o i) := by
  cases e <;> first | rfl | exact bf hn.symm
theorem idxE_ok (ih : IH prog w K mg mb F own k n) (hR : Room k A) {o fr : Bool} {v i : PySem.Expr} {pos : Pos} {d : D} (hb : isSlice i = false) (e : ev F own o Γ (.idx (era n ns v) (era n ns i)) = some d) (r : Rd K mg mb env ns own X h Γ) (hfr : fr = false) :
    EV prog w A s0 (eval (.Subscript v i pos) env) h (Out o fr h X d) := fun tk => by
  refine ev_idx_of e fun a b ea eb e => ?_
  refine PyProof.Rows.Subscript_ ((ih s0 env ns X Γ true A v h a hR ea r).out fun va h1 tk1 q => (ih s0 env ns X Γ true A i h1 b hR eb (r.grow q.1)).out fun vb h2 tk2 z => ?_)
  refine zAEEA (idx_ok (prog := prog) (w := w) (A := A) (s0 := s0) e (q.2.1.grow z.1) z.2.1) fun ok T id hT hl => ?_
  refine tail_any (hT _ rfl) hl (ok.out fun x h3 tk3 y => ?_) (notSlice hb)
  refine zA y ?_; clear y; rintro rfl y
  exact (pst ⟨q.1.trans z.1, y.w, fun _ => y, fun q => by rw [hfr] at q; exact bf q⟩)
theorem EV.part {x : Option PySem.Expr} {Q : Value → Heap → Prop} {d : D} (ih : IH prog w K mg mb F own k n) (hR : Room k A) (e : ev F own true Γ (eOpt (era n ns) x) = some d) (r : Rd K mg mb env ns own X h Γ)
    (q : ∀ v h1, Grow h h1 → W h1 X v d → Q v h1) : EV prog w A s0 (evalPart x env) h Q := by
  cases x with
  | none =>
    cases e
    rw [evalPart_none]
    exact EV.pure (q _ _ (.refl h) V.none.w)
  | some y =>
    rw [evalPart_some]
    exact (ih s0 env ns X Γ true A y h d hR e r).mono fun v h1 z => q v h1 z.1 z.2.1
theorem slE_ok (ih : IH prog w K mg mb F own k n) (hR : Room k A) {o fr : Bool} {v : PySem.Expr} {lo hi : Option PySem.Expr} {p pos : Pos} {d : D}
    (e : ev F own o Γ (.sl (era n ns v) (eOpt (era n ns) lo) (eOpt (era n ns) hi)) = some d) (r : Rd K mg mb env ns own X h Γ) :
    EV prog w A s0 (eval (.Subscript v (.Slice lo hi none p) pos) env) h (Out o fr h X d) := fun tk => by
  refine ev_sl_of e fun a b c ea eb ec e => ?_
  refine PyProof.Rows.Subscript_ ((ih s0 env ns X Γ true A v h a hR ea r).out fun va h1 tk1 q => ?_)
  have r1 := r.grow q.1
  have sl : EV prog w A s0 (eval (.Slice lo hi none p) env) h1 (fun i h4 => ∃ vb vc h3, Grow h1 h3 ∧ W h3 X vb b ∧ W h3 X vc c ∧ i = .ref h3.objs.size ∧ h4 = h3.push { cls := .type "slice", data := .fields #[vb, vc, .none] }) := fun tk =>
    wpAny_Slice ((EV.part (Q := fun vb h2 => Grow h1 h2 ∧ W h2 X vb b) ih hR eb r1 fun v h2 g x => ⟨g, x⟩).out fun vb h2 tk2 z =>
      (EV.part (Q := fun vc h3 => Grow h2 h3 ∧ W h3 X vc c) ih hR ec (r1.grow z.1) fun v h3 g x => ⟨g, x⟩).out fun vc h3 tk3 y =>
        wpAny_pure (pst ⟨vb, vc, h3, z.1.trans y.1, z.2.grow y.1, y.2, rfl, rfl⟩))
  refine sl.out fun i h4 tk4 z => ?_
  refine zEEEAAAA z ?_; clear z; rintro vb vc h3 g3 wb wc rfl rfl
  refine zAEEA (sli_ok (prog := prog) (w := w) (A := A) (s0 := s0) e (r1.th.grow g3) (q.2.1.grow g3) wb wc) fun ok T id hT hl => ?_
  refine tail_any (hT _ rfl) hl (ok.out fun x h5 tk5 y => ?_) rfl
  have g4 : Grow h h3 := q.1.trans g3
  exact (pst ⟨g4.trans ((Grow.push h3 _).trans y.1), y.2.1.w, fun _ => y.2.1, fun _ _ => y.2.2.old g4⟩)
theorem minusOne {e : PySem.Expr} (hm : isMinusOne e = true) {Q : Value → Heap → Prop} (q : ∀ t, Q (.int (-1) t) h) : EV prog w A s0 (eval e env) h Q := by
  refine zEEE (isMinusOne_of hm) ?_; rintro k p p' rfl
  exact EV.unary (fun tk => wpAny_Constant_int (pst (fun tk => neg_int (pst (q _)))))
theorem revE_ok (ih : IH prog w K mg mb F own k n) (hR : Room k A) {o fr : Bool} {v s : PySem.Expr} {p pos : Pos} {d : D} (hm : isMinusOne s = true)
    (e : ev F own o Γ (.rev (era n ns v)) = some d) (r : Rd K mg mb env ns own X h Γ) :
    EV prog w A s0 (eval (.Subscript v (.Slice none none (some s) p) pos) env) h (Out o fr h X d) := fun tk => by
  refine ev_rev_of e fun xs ea hz => ?_
  refine PyProof.Rows.Subscript_ ((ih s0 env ns X Γ true A v h (.list xs) hR ea r).out fun va h1 tk1 q => ?_)
  have sl : EV prog w A s0 (eval (.Slice none none (some s) p) env) h1 (fun i h4 => ∃ t, i = .ref h1.objs.size ∧ h4 = h1.push { cls := .type "slice", data := .fields #[.none, .none, .int (-1) t] }) := fun tk => by
    refine wpAny_Slice ?_
    rw [evalPart_none, evalPart_some]
    refine wpAny_pure (wpAny_pure ((minusOne (Q := fun v h' => h' = h1 ∧ ∃ t, v = .int (-1) t) hm fun t => ⟨rfl, t, rfl⟩).out fun x h2 tk2 z => ?_))
    refine zAE z ?_; clear z; rintro rfl t rfl
    exact (pst ⟨t, rfl, rfl⟩)
  refine sl.out fun i h4 tk4 z => ?_
  refine zEA z ?_; clear z; rintro t rfl rfl
  refine zEEEAA (q.2.1) ?_; rintro a1 vs m rfl ho x
  have g1 := Grow.push h1 { cls := .type "slice", data := .fields #[.none, .none, .int (-1) t] }
  have ho1 := g1 _ _ ho
  refine tail_any ⟨_, ho1, rfl⟩ slot_list_getitem.lookup (wpAny_getItem_list_slice (IsL.is ho1) (Heap.IsSliceOf.new h1 .none .none (.int (-1) t)) .none .none (.int _ _) (by simp) ?_ (fits_of (by rw [List.size_toArray, x.length]; exact hz))) rfl
  rw [krv_pick]
  have z := got_list ((r.th.grow q.1).grow g1) (x.keep (g1.x X)).reverse
  have g4 : Grow h _ := q.1.trans g1
  exact (pst ⟨g4.trans z.1, z.2.1.w, fun _ => z.2.1, fun _ _ => z.2.2.old g4⟩)
theorem evs_len {o : Bool} : ∀ {es : List E} {l : List D}, evs F own o Γ (toEs es) = some l → l.length = es.length
  | [], l, e => evs_nil_of e rfl
  | x :: r, l, e => evs_cons_of e fun _ l' _ e1 => congrArg (· + 1) (evs_len e1)
theorem listE_ok (ih : IH prog w K mg mb F own k n) (hR : Room k A) {o fr : Bool} {es : List PySem.Expr} {pos : Pos} {d : D} (hs : ∀ e ∈ es, isStar e = false) (hl : es.length < 100)
    (e : ev F own o Γ (.list (toEs (es.map (era n ns)))) = some d) (r : Rd K mg mb env ns own X h Γ) : EV prog w A s0 (eval (.List es pos) env) h (Out o fr h X d) := fun tk => by
  refine ev_list_of e fun l el => ?_
  have len := evs_len el
  refine List_ ((args_ok ih hR hs el r).out fun vs h1 tk1 q => ?_)
  have hv := q.2.2 rfl
  refine wpAny_newObj_type ?_ (by show vs.toArray.size ≤ sizeLine; rw [List.size_toArray, hv.length, len, List.length_map]; unfold sizeLine; exact (qT (qC hl) (by decide)))
  have z := got_list (r.th.grow q.1) hv
  exact (pst (Got.out z q.1))
theorem tupE_ok (ih : IH prog w K mg mb F own k n) (hR : Room k A) {o fr : Bool} {es : List PySem.Expr} {kk : Nat} {pos : Pos} {d : D} (hs : ∀ e ∈ es, isStar e = false) (hl : es.length < 100)
    (e : ev F own o Γ (.tup (toEs (es.map (era n ns)))) = some d) (r : Rd K mg mb env ns own X h Γ) : EV prog w A s0 (eval (.Tuple es kk pos) env) h (Out o fr h X d) := fun tk => by
  refine ev_tup_of e fun l el => ?_
  have len := evs_len el
  refine Tuple_ ((args_ok ih hR hs el r).out fun vs h1 tk1 q => ?_)
  have hv := q.2.2 rfl
  refine wpAny_newObj_type ?_ (by show vs.toArray.size ≤ sizeLine; rw [List.size_toArray, hv.length, len, List.length_map]; unfold sizeLine; exact (qT (qC hl) (by decide)))
  have z := got_tup (r.th.grow q.1) hv
  exact (pst (Got.out z q.1))
theorem Out.less {o fr : Bool} {h0 h1 h' : Heap} {d : D} {v : Value} (g : Grow h0 h1) (x : Out o fr h1 X d v h') : Out o fr h0 X d v h' := ⟨g.trans x.1, x.2.1, x.2.2.1, fun a b => (x.2.2.2 a b).old g⟩
set_option tactic.hygienic true in
theorem boolE_ok (ih : IH prog w K mg mb F own k n) (hR : Room k A) {o : Bool} {pos : Pos} : ∀ (es : List PySem.Expr) (h : Heap) (d : D), Rd K mg mb env ns own X h Γ → 1 ≤ es.length →
    (ev F own o Γ (foldE .and (es.map (era n ns))) = some d → (2 ≤ es.length ∨ o = false) → EV prog w A s0 (boolOp pos .And (evalEach es env)) h (Out o false h X d)) ∧
    (ev F own o Γ (foldE .or (es.map (era n ns))) = some d → (2 ≤ es.length ∨ o = false) → EV prog w A s0 (boolOp pos .Or (evalEach es env)) h (Out o false h X d))
  | [], h, d, r, hl => by simp at hl
  | [x], h, d, r, hl => by
    have key : ev F own o Γ (era n ns x) = some d → EV prog w A s0 (eval x env) h (Out o false h X d) := fun e =>
      (ih s0 env ns X Γ o A x h d hR e r).mono fun v h1 q => ⟨q.1, q.2.1, q.2.2.1, fun q => by exact bf q⟩
    exact ⟨fun e _ => key e, fun e _ => key e⟩
  | x :: y :: es, h, d, r, hl => by
    constructor
    · intro e _
      replace e := ev_and.symm.trans e
      refine EV.boolAnd ?_
      split at e
      · rename_i a ea
        refine (ih s0 env ns X Γ false A x h a hR ea r).mono fun va h1 q => ?_
        split at e
        · rename_i hb
          refine (truth_ok hb q.2.1).mono fun b h2 z => ?_
          refine zA z ?_; clear z; rintro rfl rfl
          rw [if_pos rfl]
          have := ((boolE_ok (o := false) (pos := pos) ih hR (y :: es) h2 d (r.grow q.1) (by simp)).1 (by simpa only [List.map_cons] using e) (.inr rfl)).mono (Q' := Out o false h X d) fun v h3 z =>
            Out.less q.1 ⟨z.1, z.2.1, fun _ => z.2.2.1 rfl, z.2.2.2⟩
          simpa only [evalEach] using this
        · rename_i hb
          refine y1 e ?_; clear e
          refine (truth_ok hb q.2.1).mono fun b h2 z => ?_
          refine zA z ?_; clear z; rintro rfl rfl
          rw [if_neg (by decide)]
          exact ⟨q.1, q.2.1, fun _ => q.2.2.1 rfl, fun q => by exact bf q⟩
        · exact nos e
      · exact nos e
    · intro e _
      replace e := ev_or.symm.trans e
      refine EV.boolOr ?_
      split at e
      · rename_i a ea
        refine (ih s0 env ns X Γ false A x h a hR ea r).mono fun va h1 q => ?_
        split at e
        · rename_i hb
          refine (truth_ok hb q.2.1).mono fun b h2 z => ?_
          refine zA z ?_; clear z; rintro rfl rfl
          rw [if_neg (by decide)]
          have := ((boolE_ok (o := false) (pos := pos) ih hR (y :: es) h2 d (r.grow q.1) (by simp)).2 (by simpa only [List.map_cons] using e) (.inr rfl)).mono (Q' := Out o false h X d) fun v h3 z =>
            Out.less q.1 ⟨z.1, z.2.1, fun _ => z.2.2.1 rfl, z.2.2.2⟩
          simpa only [evalEach] using this
        · rename_i hb
          refine y1 e ?_; clear e
          refine (truth_ok hb q.2.1).mono fun b h2 z => ?_
          refine zA z ?_; clear z; rintro rfl rfl
          rw [if_pos rfl]
          exact ⟨q.1, q.2.1, fun _ => q.2.2.1 rfl, fun q => by exact bf q⟩
        · exact nos e
      · exact nos e
set_option tactic.hygienic true in
theorem iteE_ok (ih : IH prog w K mg mb F own k n) (hR : Room k A) {o : Bool} {x : Str} {p pos : Pos} {a b : PySem.Expr} {d : D} (e : ev F own o Γ (.ite (era n ns (.Name x p)) (era n ns a) (era n ns b)) = some d)
    (r : Rd K mg mb env ns own X h Γ) : EV prog w A s0 (eval (.IfExp (.Name x p) a b pos) env) h (Out o false h X d) := fun tk => by
  replace e := ev_ite.symm.trans e
  split at e
  · rename_i c ec
    refine wpAny_IfExp ((EV.isTrueName (Q := fun b h1 => truth c = some b ∧ Grow h h1) ?_).out fun t h1 tk1 q => ?_)
    · refine (ih s0 env ns X Γ true A (.Name x p) h c hR ec r).mono fun v h1 q => ?_
      split at e
      · rename_i hb; exact (truth_ok hb q.2.1).mono fun b h2 z => by refine zA z ?_; clear z; rintro rfl rfl; exact ⟨hb, q.1⟩
      · rename_i hb; exact (truth_ok hb q.2.1).mono fun b h2 z => by refine zA z ?_; clear z; rintro rfl rfl; exact ⟨hb, q.1⟩
      · exact nos e
    · rw [q.1] at e
      have fin : ∀ {x : PySem.Expr}, ev F own false Γ (era n ns x) = some d → wpAny (model prog w) A (eval x env) (fun a s' => ∃ h' tk', s' = (sAt s0 h' tk') ∧ Out o false h X d a h') (fun _ _ => False) (sAt s0 h1 tk1) := fun {x} ex =>
        (ih s0 env ns X Γ false A x h1 d hR ex (r.grow q.2)).out fun v h2 tk2 z => (pst ⟨q.2.trans z.1, z.2.1, fun _ => z.2.2.1 rfl, fun q => by exact bf q⟩)
      cases t
      · exact fin e
      · exact fin e
  · exact nos e
theorem keys_once {ns : NK} (hn : keysOnce ns = true) : ∀ y ∈ ns, y.2 = .local → ns.lookup y.1 = some .local := fun y hy hl => by
  have := List.all_eq_true.mp hn y hy
  rw [hl] at this
  simpa using this
theorem compE_ok (ih : IH prog w K mg mb F own k n) (hR : Room k A) {o fr : Bool} {elt it : PySem.Expr} {x : Str} {p pos : Pos} {scope : Scope} {d : D} (hk : scope.kind = .function) (hp : plainNames scope.names = true) (hx : slotOf scope.names x = some 1)
    (hn : keysOnce scope.names = true) (hf : ∀ x, foldedSetIterable it env x = Pure.pure x) (e : ev F own o Γ (.comp (era n scope.names elt) (era n ns it)) = some d) (r : Rd K mg mb env ns own X h Γ) :
    EV prog w A s0 (eval (.ListComp elt [⟨.Name x p, it, [], 0⟩] scope pos) env) h (Out o fr h X d) := fun tk => by
  refine ev_comp_of e fun c xs l ec hxs hl hz => ?_
  simp only [Bool.and_eq_true, decide_eq_true_eq] at hz
  rw [eval_ListComp]
  refine wpAny_comprehension_free (use := none) rfl hf (closureFor_none (plain_free hp).1) hk (keys_once hn)
    ((ih s0 env ns X Γ false A it h c hR ec r).out fun v h1 tk1 q => (iter_ok hR.hd (r.th.grow q.1) hxs (q.2.2.1 rfl)).out fun iv h2 tk2 z => ?_)
  obtain ⟨g2, I, fp, P, St, m, rfl, it⟩ := z
  have r1 := r.grow q.1
  refine comp_block_walkC (RR := fun acc C => compPost (model prog w) A (fun _ _ => False) none (fun a s' => ∃ h' tk', s' = (sAt s0 h' tk') ∧ Out o fr h X (.list l) a h') acc C) it.wk (by rw [it.len]; unfold sizeLine; exact (qT hz.2 (by decide)))
    (fun _ => true) (EltR h1 X fun d => ev F own false [.undef, d] (era n scope.names elt)) (plain_free hp).2 hk (slotOf_get hx).2 it.st it.lt (comp_quiet ih r1 hR hk hp hx g2 it hl hz.1 tk2) ?_
  intro D C h' tk' m' ys vs hD hC hDC hN _ hpl hlen hP hF hkeep
  refine ⟨m', hN, fun h'' hs'' => (pst (?_))⟩
  have g3 : Grow h1 h' := it.old g2 hkeep
  have g4 : Grow h1 h'' := fun b ob e => hs''.extBut b ob (fun q => by
    rw [q] at e; rw [g2 _ _ e] at hC; exact nos hC.symm) (g3 b ob e)
  refine zE hpl ?_; clear hpl; intro nn hpl
  have hpl2 : h''.get? D = some (listO ys.toList.toArray nn) := (hs''.2 D hDC).trans (by simpa using hpl)
  have hnone : h.get? D = none := by
    cases q' : h.get? D with
    | none => rfl
    | some ob => have := g2 _ _ (q.1 _ _ q'); rw [hD] at this; exact nos this
  have nX : ¬ X D := r.th.not hnone
  have vv : V h'' X (.ref D) (.list l) := .list hpl2 nX (comp_vals it hl hlen hP hF)
  exact ⟨q.1.trans g4, vv.w, fun _ => vv, fun _ _ a e => by cases e; exact hnone⟩
theorem find_maketrans : findCls ([] : Frag) (.type "bytes") (.type "type") (Str.ofString "maketrans") = some (.val (.builtin "bytes.maketrans")) := by kernel_rfl
theorem handed_maketrans : handedIn (.builtin "bytes.maketrans") = true := by first | rfl | decide +kernel
theorem stub_bytes : Manifest.isStub "bytes" = false := by decide +kernel
theorem tyty : typeOf (.type "bytes") = Pure.pure (.type "type") := PySem.F.isi_meta_bytes
theorem get1 {m : Str → Option Value} {L : Addr} {s : Shared} {E : Value → Shared → Prop} {pl : Sem Bool} {Q : Value × List Value → Shared → Prop} (F0 : Fr ({} : Heap) L s.heap m) (q : Q (.builtin "bytes.maketrans", []) { s with toks := s.toks + 1 }) :
    wpAny (model prog w) A (getMethod (.type "bytes") (Str.ofString "maketrans") pl) Q E s := by
  have K0 : Frag.In ([] : Frag) ({} : Heap) := fun _ _ e => by exact nos e
  refine method_type (K := []) (T := "bytes") (name := Str.ofString "maketrans") (v := .builtin "bytes.maketrans") F0 K0 ?_ ?_ ?_ ?_ q
  · exact tyty
  · exact stub_bytes
  · exact find_maketrans
  · exact handed_maketrans
theorem fr_none {m : Str → Option Value} {L : Addr} (hN : h.Ns L m) : Fr ({} : Heap) L h m := ⟨hN, fun b o e => by have := Heap.lt_size e; exact absurd this (Nat.not_lt_zero _), Nat.zero_le _⟩
theorem get_maketrans {m : Str → Option Value} {pl : Sem Bool} {Q : Value × List Value → Heap → Prop} (hN : h.Ns env.locals m) (q : Q (.builtin "bytes.maketrans", []) h) :
    EV prog w A s0 (getMethod (.type "bytes") (Str.ofString "maketrans") pl) h Q := fun tk =>
  get1 (fr_none hN) ⟨h, tk + 1, rfl, q⟩
theorem callMk_ok (gl : Glo K mg) (ih : IH prog w K mg mb F own k n) (hR : Room k A) {o fr : Bool} {y : Str} {p apos pos : Pos} {es : List PySem.Expr} {d : D} (hl : es.length < 20) (hs : ∀ e ∈ es, isStar e = false)
    (hline : (apos.endLine == pos.line) = true) (hG : isG ns y = true) (hy : y = Str.ofString "bytes") (e : ev F own o Γ (.bi "maketrans" (toEs (es.map (era n ns)))) = some d) (r : Rd K mg mb env ns own X h Γ) :
    EV prog w A s0 (eval (.Call (.Attribute (.Name y p) (Str.ofString "maketrans") apos) es [] pos) env) h (Out o fr h X d) := by
  subst hy
  refine zEAAAA (gl.bi "bytes" (by decide)) fun v g1 g2 g3 g4 g5 => ?_
  cases g1
  refine ev_bi_of e fun l el e => ?_
  refine zEA (r.loc) fun m hN _ => ?_
  simp only [arm_eval_Call, baseOf (o := .Name (Str.ofString "bytes") p) rfl]
  refine EV.bind (r.builtin hG g5 g4 g2 g3 (EV.stand ?_))
  have hform : methodCallForm (es.length + ([] : List Keyword).length) (backTo pos (starEach es env)) (backToKw pos (keywordEach [] env)) = true := by
    have h1 := noStars (env := env) (pos := pos) hs
    have : (backTo pos (starEach es env)).all (fun x => !x.1) = true := by
      rw [List.all_eq_true]
      intro x hx
      have := List.any_eq_false.mp h1 x hx
      simpa using this
    unfold methodCallForm
    rw [this]
    simp [backToKw, keywordEach]; exact (qM (qC hl) (by decide))
  have hpos : methodCallPos true (.Name (Str.ofString "bytes") p) env apos pos = Pure.pure pos := by unfold methodCallPos; simp [hline]
  unfold methodCall
  rw [hform]
  refine EV.bind (EV.hold (get_maketrans hN ?_))
  dsimp only
  rw [hpos]
  refine EV.bind (EV.pure (EV.withBuiltin (first := []) hs ?_))
  refine (args_ok ih hR hs el r).mono fun vs h1 q => ?_
  have w1 := q.2.1
  change f2 mkD l = some d at e
  refine f2_ok e w1 fun a b v u e wa wb q2 => ?_
  obtain ⟨x, hx, e⟩ := opt_of e
  obtain ⟨y, hy, e⟩ := opt_of e
  obtain ⟨hz, rfl⟩ := if_of e
  obtain rfl := vByt_of hx
  obtain rfl := vByt_of hy
  obtain ⟨t1, rfl⟩ := V.bytes_of wa
  obtain ⟨t2, rfl⟩ := V.bytes_of wb
  subst q2
  exact (maketrans_ok (X := X) hz).mono fun v h2 z => Got.out z q.1
theorem callKw_ok (gl : Glo K mg) (orc : Orc prog w K mg mb k F) (ih : IH prog w K mg mb F own k n) (hR : Room k A) {o fr : Bool} {f kw : Str} {g : String} {p pos kp : Pos} {a b : PySem.Expr} {d : D} (hs : isStar a = false) (hG : isG ns f = true)
    (hf : named fnNames f = some g) (hk : kwOf g = ["newline"]) (hkw : kw = Str.ofString "newline") (e : ev F own o Γ (.fn g (.cons (era n ns a) (.cons (era n ns b) .nil))) = some d) (r : Rd K mg mb env ns own X h Γ) (hfr : fr = false) :
    EV prog w A s0 (eval (.Call (.Name f p) [a] [⟨some kw, b, kp⟩] pos) env) h (Out o fr h X d) := fun tk => by
  refine yl hkw ?_; clear hkw
  obtain ⟨hm, rfl⟩ := named_some hf
  refine ev_fn_of e fun l el e => ?_
  revert e; refine evs_cons_of el fun da l1 ea el1 => ?_
  refine evs_cons_of el1 fun db l2 eb el2 => ?_
  refine evs_nil_of el2 fun e => ?_
  refine zEEEAAA (orc g hm _ d e) fun ad ob fd m1 m2 m3 c => ?_
  refine wpAny_Call_Name_kw ((r.global (Q := fun v h1 => v = .ref ad ∧ h1 = h) hG (gl.fn g hm) m1 ⟨rfl, rfl⟩).out fun fv h1 tk1 q => ?_)
  refine zA q ?_; clear q; rintro rfl rfl
  have hst : starEach [a] env = [(false, eval a env)] := by cases a <;> first | rfl | exact bf hs.symm
  simp only [hst]
  refine callWith_function_kw (o := ob) (fd := fd) ?_
  refine evalArgs_kw (x := eval a env) (rest := []) rfl ?_
  refine Calls.spliced_cons ((ih s0 env ns X Γ false A a h1 da hR ea r).out fun va h2 tk2 z => Calls.spliced_nil ?_)
  refine wpAny_evalAll_cons (wpAny_bind ((ih s0 env ns X Γ false A b h2 db hR eb (r.grow z.1)).out fun vb h3 tk3 y => wpAny_bind (wpAny_standAt (wpAny_pure (wpAny_evalAll_nil ?_)))))
  have g3 := z.1.trans y.1
  refine ⟨⟨g3 _ _ (r.wo.k _ _ m2), m3⟩, ?_⟩
  have := c s0 A h3 X [va, vb] hR (r.wo.grow g3) (r.th.grow g3) (.cons ((z.2.2.1 rfl).keep (y.1.x X)) (.cons (y.2.2.1 rfl) .nil))
  rw [hk] at this
  refine this.out fun v h4 tk4 x => (pst ⟨g3.trans x.1, x.2.w, fun _ => x.2, fun q => by rw [hfr] at q; exact bf q⟩)
theorem catS_cons {x : D} {r : List D} {s : List Nat} (e : catS (x :: r) = some s) : ∃ a b, x = .str a ∧ catS r = some b ∧ s = a ++ b := by
  cases x with
  | str a => refine zEA (Option.map_eq_some_iff.mp e) ?_; rintro b e1 rfl; exact iEEAA a b rfl e1 rfl
  | _ => exact nos e
theorem bad_no {P : Prop} {o : Bool} {d : D} (h : ev F own o Γ .bad = some d) : P := nos h
theorem fpart_ok (ih : IH prog w K mg mb F own k n) (hR : Room k A) {e : PySem.Expr} {s : List Nat} (he : ev F own true Γ (ePart (era n ns) e) = some (.str s)) (hz : s.length ≤ sizeLine) (r : Rd K mg mb env ns own X h Γ) :
    EV prog w A s0 (eval e env) h (fun v h1 => Grow h h1 ∧ ∃ t, v = .str (txt s) t) := fun tk => by
  cases e with
  | FormattedValue e cv sp p =>
    change ev F own true Γ (if cv = -1 ∧ sp.isNone = true then era n ns e else .bad) = _ at he
    by_cases hc : cv = -1 ∧ sp.isNone = true
    · rw [if_pos hc] at he
      refine zA hc ?_; clear hc; rintro rfl hs
      refine yl (Option.isNone_iff_eq_none.mp hs) ?_
      refine wpAny_FormattedValue_plain ((ih s0 env ns X Γ true A e h _ hR he r).out fun v h1 tk1 q => ?_)
      have := q.2.1
      cases this with | str _ t =>
      exact wpAny_formatField_str (pst ⟨q.1, t, rfl⟩) (pst ⟨q.1, _, rfl⟩) (by show (List.toArray s).size ≤ _; rw [List.size_toArray]; exact hz)
    · rw [if_neg hc] at he; exact bad_no he
  | Constant c kk p => cases c with
    | str s' =>
      injection he with he; injection he with he
      subst he
      exact wpAny_Constant_str (pst ⟨.refl h, _, rfl⟩)
    | _ => exact bad_no he
  | _ => exact bad_no he
theorem joins_ok (ih : IH prog w K mg mb F own k n) (hR : Room k A) : ∀ (es : List PySem.Expr) (h h0 : Heap) (tk : Nat) (l : List D) (acc s : List Nat), evs F own true Γ (toEs (es.map (ePart (era n ns)))) = some l → catS l = some s → acc.length + s.length ≤ sizeLine →
    Rd K mg mb env ns own X h Γ → Grow h0 h →
    Joins (model prog w) A (fun _ _ => False) (evalEach es env) (txt acc) (fun out s1 => out = txt (acc ++ s) ∧ ∃ h1 tk1, s1 = (sAt s0 h1 tk1) ∧ Grow h0 h1) (sAt s0 h tk)
  | [], h, h0, tk, l, acc, s, e, ec, hz, r, g => by
    revert ec; refine evs_nil_of e fun ec => ?_
    cases ec
    exact ⟨by simp, h, tk, rfl, g⟩
  | x :: es, h, h0, tk, l, acc, s, e, ec, hz, r, g => by
    revert ec; refine evs_cons_of e fun d l' ed el ec => ?_
    refine zEEAA (catS_cons ec) ?_; rintro a b rfl e2 rfl
    simp only [List.length_append] at hz
    refine (fpart_ok (s0 := s0) ih hR ed (by omega) r).out fun v h1 tk1 q => ?_
    refine zAE q ?_; clear q; rintro g1 t rfl
    refine iEEAA (txt a) t rfl ?_ ?_
    · show (acc.toArray ++ a.toArray).size ≤ _
      simp; omega
    · have := joins_ok ih hR es h1 h0 tk1 l' (acc ++ a) b el e2 (by simp only [List.length_append]; omega) (r.grow g1) (g.trans g1)
      rw [show txt acc ++ txt a = txt (acc ++ a) from by show Str.mk _ = Str.mk _; simp [txt], ← List.append_assoc]
      exact this
theorem fstrE_ok (ih : IH prog w K mg mb F own k n) (hR : Room k A) {o fr : Bool} {a b : PySem.Expr} {es : List PySem.Expr} {pos : Pos} {d : D} (e : ev F own o Γ (.fstr (toEs ((a :: b :: es).map (ePart (era n ns))))) = some d)
    (r : Rd K mg mb env ns own X h Γ) : EV prog w A s0 (eval (.JoinedStr (a :: b :: es) pos) env) h (Out o fr h X d) := fun tk => by
  refine ev_fstr_of e fun l s el hs hz => ?_
  have hz' := fits_of hz
  have j := joins_ok (s0 := s0) (n := n) (ns := ns) ih hR (a :: b :: es) h h tk l [] s el hs (by simpa using hz') r (.refl h)
  refine wpAny_JoinedStr ?_
  have mono : ∀ (parts : List (Sem Value)) (acc : Str) (Q Q' : Str → Shared → Prop) (s : Shared), (∀ o s, Q o s → Q' o s) → Joins (model prog w) A (fun _ _ => False) parts acc Q s → Joins (model prog w) A (fun _ _ => False) parts acc Q' s := by
    intro parts
    induction parts with
    | nil => intro acc Q Q' s hq x; exact hq _ _ x
    | cons p ps ihp => intro acc Q Q' s hq x; exact wpAny_mono x (fun v s1 ⟨y, t, a1, a2, a3⟩ => ⟨y, t, a1, a2, ihp _ _ _ _ hq a3⟩) fun _ _ z => z
  refine mono _ _ _ _ _ (fun out s1 q => ?_) j
  refine zAEEA q ?_; clear q; rintro rfl h1 tk1 rfl g
  refine ⟨?_, _, _, rfl, Got.out ⟨g, ?_, New.str⟩ (.refl h)⟩
  · show (List.toArray _).size ≤ _; rw [List.size_toArray]; simpa using hz'
  · exact .str s _
end
section
variable {prog : Program} {w : World} {s0 : Shared} {A : Around} {h : Heap} {X : Addr → Prop}
theorem sub_key_look : isSubtype (.type "KeyError") (.type "LookupError") = pure true := by rw [isSubtype_type]; kernel_rfl
theorem lookup_keep {a : Addr} {o : Obj} {c : Nat} {s : Shared} {E : Value → Shared → Prop} {Q : Builtin.Str.Mapped → Shared → Prop} (hh : A.handled = none) (ho : s.heap.get? a = some o) (ht : EscTab o) (hc : specials.contains c = false) (ha : (a == sysModules) = false)
    (hq : ∀ h' tk, Grow s.heap h' → Q .keep { s with heap := h', toks := tk }) : wpAny (model prog w) A (Builtin.Str.tableLookup (.ref a) c) Q E s := by
  refine zEEAA ht ?_; clear ht; rintro es n rfl hk hf
  have hm : s.heap.MapOf (intKind prog w) a (findBy Value.isInt es) := Heap.IntMap.mapOf ⟨_, es, n, ho, rfl, rfl, hk, fun _ => rfl⟩ fun o e => by rw [ho] at e; refine y1 e ?_; clear e; exact ⟨rfl, rfl⟩
  unfold Builtin.Str.tableLookup
  refine wpAny_bind (wpAny_attempt (wpAny_bind (wpAny_mkInt ?_)))
  refine wpAny_getItem_missing_of (knd := intKind prog w) (k := (c : Int)) (intKind_is prog w _ _) ha hh hm (hf c hc) fun h' e x => ?_
  refine zEEAA (x.there) fun ob t q1 q2 q3 => ?_
  refine wpAny_bind (wpAny_isInstance (T := "KeyError") (b := true) ⟨_, q1, q2⟩ sub_key_look ?_)
  exact wpAny_bind (wpAny_rule (wpAny_pure (hq _ _ x.keeps)))
theorem esc_call {a : Addr} {o : Obj} {c : Nat} {t : Tok} (hh : A.handled = none) (ho : h.get? a = some o) (ht : EscTab o) (hc : specials.contains c = false) (hlt : c < 128) (ha : (a == sysModules) = false) :
    EV prog w A s0 (call (.builtin "str.translate") [.str ⟨#[c]⟩ t, .ref a]) h (Got h X (.str [c])) := fun tk => by
  refine call_meets F.slot_str_translate (typeIs_str _ _ _) F.entry_str_translate (F.args_str_translate_2 _ _) (S := fun A R s => A.handled = none ∧ s.heap.get? a = some o ∧ ∀ h' tk' t', Grow s.heap h' → R (.ok (.ret (.str ⟨#[c]⟩ t'))) { s with heap := h', toks := tk' }) ?_ ⟨hh, ho, fun h' tk' t' g => (pst ⟨g, .str [c] _, New.str⟩)⟩
  refine .of_wp fun prog w A R s hS => ?_
  refine zAA hS ?_; clear hS; intro h1 h2 h3
  unfold Builtin.«str.translate»
  refine wpAny_bind (wpAny_pure ?_)
  have h128 : (⟨#[c]⟩ : Str).cps.all (· < 128) = true := by simp [hlt]
  have hlen : ((⟨#[c]⟩ : Str).length == 0) = false := rfl
  have hl0 : Builtin.Str.tooLong 0 = false := by decide
  have hl1 : Builtin.Str.tooLong 1 = false := by decide
  simp only [h128, hlen, Bool.false_eq_true, if_false, ↓reduceIte, List.forIn'_toArray, List.forIn'_cons, List.forIn'_nil, List.lookup_nil, forIn]
  simp only [hl0, Bool.false_eq_true, if_false, ↓reduceIte]
  have h1' : A.in1.handled = none := h1
  refine wpAny_bind (wpAny_bind (wpAny_bind (lookup_keep h1' h2 ht hc ha fun h' tk g => ?_)))
  refine wpAny_bind (wpAny_pure (wpAny_pure (wpAny_pure ?_)))
  rw [if_neg (show ¬ Builtin.Str.tooLong (([{ cps := #[c] }] : List Str), 0 + 1, true, [(c, some c)], false).2.1 = true by simp only [show Builtin.Str.tooLong (([{ cps := #[c] }] : List Str), 0 + 1, true, [(c, some c)], false).2.1 = false from hl1]; trivial)]
  rw [show (⟨List.foldl (fun acc (p : Str) => acc ++ p.cps) #[] (([{ cps := #[c] }] : List Str), 0 + 1, true, [(c, some c)], false).1.reverse⟩ : Str) = ⟨#[c]⟩ by rfl]
  repeat (any_goals (first | assumption | wp_step))
  exact iEA _ rfl (h3 _ _ _ g)
section
variable {prog : Program} {w : World} {s0 : Shared} {K : Frag} {mg mb : Str → Option Value} {A : Around} {X : Addr → Prop} {env : Env} {h h1 h0 : Heap}
  {F : FO} {own : List Nat} {k n : Nat} {ns : NK} {Γ Γ' : List D} {O O' : Nat → Option Addr}
theorem escop_of {x d : D} (e : escop x = some d) : ∃ c, x = .str [c] ∧ (specials.contains c = false ∧ c < 128) ∧ .str [c] = d := by
  cases x with
  | str s =>
    cases s with
    | nil => exact nos e
    | cons c r => cases r with
      | nil => exact ⟨c, rfl, if_of e⟩
      | cons => exact nos e
  | _ => exact nos e
theorem callEsc_ok (gl : Glo K mg) (ih : IH prog w K mg mb F own k n) (hR : Room k A) {o fr : Bool} {y m z : Str} {p apos pz pos : Pos} {d : D}
    (hline : (apos.endLine == pos.line) = true) (hG : isG ns z = true) (hz : z = Str.ofString "_special_chars_map") (hm : m = Str.ofString "translate") (e : ev F own o Γ (.esc (era n ns (.Name y p))) = some d) (r : Rd K mg mb env ns own X h Γ) (hfr : fr = false) :
    EV prog w A s0 (eval (.Call (.Attribute (.Name y p) m apos) [.Name z pz] [] pos) env) h (Out o fr h X d) := by
  subst hz hm
  obtain ⟨a, ob, g1, g2, g3, g4⟩ := gl.esc
  refine ev_esc_of e fun x ex e => ?_
  obtain ⟨c, rfl, hc, rfl⟩ := escop_of e
  refine EV.method (baseOf rfl) (by simp) (fun e he => by simp at he; subst he; rfl) hline ((ih s0 env ns X Γ true A (.Name y p) h _ hR ex r).mono fun v h1 q => ?_)
  refine str_e q.2.1 fun t => ?_
  have r1 := r.grow q.1
  refine iEEAAAAA _ _ PySem.F.plainAttrs_str PySem.F.slot_str_translate PySem.F.type_str_translate (fun _ _ => rfl) (fun _ e => (nomatch e)) (fun tk => ?_)
  refine wpAny_items_cons ((r1.global (Q := fun v h2 => v = .ref a ∧ h2 = h1) hG (by decide) g1 ⟨rfl, rfl⟩).out fun v h2 tk2 z => wpAny_items_nil ?_) rfl
  obtain ⟨rfl, rfl⟩ := z
  exact (pst ((esc_call hR.hd (r1.wo.k _ _ g2) g3 hc.1 hc.2 g4).mono fun v h3 z => Got.out z q.1))
end
end
section
variable {prog : Program} {w : World} {s0 : Shared} {K : Frag} {mg mb : Str → Option Value} {A : Around} {X : Addr → Prop} {env : Env} {h h1 h0 : Heap}
  {F : FO} {own : List Nat} {k n : Nat} {ns : NK} {Γ Γ' : List D} {O O' : Nat → Option Addr}
theorem fresh_lit (c : Const) : fresh (litOf c) = false := by cases c <;> rfl
theorem Out.weak {o fr fr' : Bool} {h : Heap} {d : D} {v : Value} {h' : Heap} (x : Out o fr h X d v h') (hf : fr' = true → fr = true) : Out o fr' h X d v h' := ⟨x.1, x.2.1, x.2.2.1, fun a b => x.2.2.2 (hf a) b⟩
theorem cl64 (hR : Room k A) : A.units + 64 < cLine := by have := hR.un; unfold cLine; exact (qM (qR (qC (qM qu this)) _) (by decide))
set_option tactic.hygienic true in
theorem nameE_ok (gl : Glo K mg) {o : Bool} {x : Str} {pos : Pos} {d : D} (e : ev F own o Γ (nameE ns x) = some d) (r : Rd K mg mb env ns own X h Γ) : EV prog w A s0 (eval (.Name x pos) env) h (Out o (fresh (nameE ns x)) h X d) := by
  generalize hE : nameE ns x = E at e ⊢
  have bad : ∀ {P : Prop}, E = .bad → P := fun q => by subst q; exact nos e
  unfold nameE at hE
  split at hE
  · exact bad hE.symm
  · rename_i hd
    have hd' : (x == Str.ofString "__debug__") = false := by simpa using hd
    split at hE
    · rename_i i hi
      subst hE
      exact ev_var_of e fun hg hu ho => r.name hi hd' hg hu ho rfl
    · split at hE
      · rename_i hG
        split at hE
        · rename_i hx
          subst hE
          subst hx
          refine zEEA (gl.b64) fun l t g1 g2 => ?_
          refine y1 (g1.symm.trans e) ?_; clear e
          exact r.global hG (by decide) g2 ⟨.refl h, .bytes _ _, fun _ => .bytes _ _, fun q => by cases q⟩
        · split at hE
          · rename_i m hm
            subst hE
            refine zA (named_some hm) ?_; rintro hm1 rfl
            refine zAAA (gl.ty _ hm1) fun g1 g2 g3 g4 => ?_
            refine y1 (ev_lit.symm.trans e) ?_; clear e
            exact r.builtin hG g4 g3 g1 g2 ⟨.refl h, .ty _, fun _ => .ty _, fun q => by cases q⟩
          · exact bad hE.symm
      · exact bad hE.symm
theorem binE_ok (ih : IH prog w K mg mb F own k n) (hR : Room k A) {o fr : Bool} {l r : PySem.Expr} {op : Operator} {pos : Pos} {d : D} (e : ev F own o Γ (.bin op (era n ns l) (era n ns r)) = some d) (rd : Rd K mg mb env ns own X h Γ) :
    EV prog w A s0 (eval (.BinOp l op r pos) env) h (Out o fr h X d) := by
  refine ev_bin_of e fun a b ea eb e => ?_
  refine EV.binop ((ih s0 env ns X Γ true A l h a hR ea rd).mono fun va h1 q => (ih s0 env ns X Γ true A r h1 b hR eb (rd.grow q.1)).mono fun vb h2 z => ?_)
  have g := q.1.trans z.1
  exact (bin_ok e (rd.th.grow g) (q.2.1.grow z.1) z.2.1).mono fun v h3 y => Got.out y g
theorem cmpE_ok (ih : IH prog w K mg mb F own k n) (hR : Room k A) {o fr : Bool} {l r : PySem.Expr} {op : CmpOp} {pos : Pos} {d : D} (hm : behindInMarks op r = false) (e : ev F own o Γ (.cmp op (era n ns l) (era n ns r)) = some d) (rd : Rd K mg mb env ns own X h Γ) :
    EV prog w A s0 (eval (.Compare l [op] [r] pos) env) h (Out o fr h X d) := by
  refine ev_cmp_of e fun a b c ea eb ec => ?_
  refine EV.compare hm ((ih s0 env ns X Γ true A l h a hR ea rd).mono fun va h1 q => (ih s0 env ns X Γ true A r h1 b hR eb (rd.grow q.1)).mono fun vb h2 z => ?_)
  have g := q.1.trans z.1
  refine (cmp_ok ec (q.2.1.grow z.1) z.2.1 (cl64 hR)).mono fun v h3 y => ?_
  refine zA y ?_; clear y; rintro rfl rfl
  exact iAAA g (.bool _) (fun _ => .bool _) (fun _ a => by exact bf a)
theorem notE_ok (ih : IH prog w K mg mb F own k n) (hR : Room k A) {o fr : Bool} {x : PySem.Expr} {pos : Pos} {d : D} (e : ev F own o Γ (.not (era n ns x)) = some d) (rd : Rd K mg mb env ns own X h Γ) :
    EV prog w A s0 (eval (.UnaryOp .Not x pos) env) h (Out o fr h X d) := by
  refine ev_not_of e fun a c ea ec => ?_
  refine EV.unary ((ih s0 env ns X Γ true A x h a hR ea rd).mono fun va h1 q => fun tk => not_of ((truth_ok ec q.2.1).out fun b h2 tk2 y => ?_))
  refine zA y ?_; clear y; rintro rfl rfl
  exact (pst ⟨q.1, .bool _, fun _ => .bool _, fun _ a => by exact bf a⟩)
theorem negE_ok (ih : IH prog w K mg mb F own k n) (hR : Room k A) {o fr : Bool} {x : PySem.Expr} {pos : Pos} {d : D} (e : ev F own o Γ (.neg (era n ns x)) = some d) (rd : Rd K mg mb env ns own X h Γ) :
    EV prog w A s0 (eval (.UnaryOp .USub x pos) env) h (Out o fr h X d) := by
  refine ev_neg_of e fun i ea => ?_
  refine EV.unary ((ih s0 env ns X Γ true A x h _ hR ea rd).mono fun va h1 q => fun tk => ?_)
  have hv := q.2.1
  cases hv with | int _ t =>
  exact PyProof.Rows.neg_int (pst ⟨q.1, .int _ _, fun _ => .int _ _, fun _ a => by exact bf a⟩)
theorem evalBool_one {op : BoolOp} {x : PySem.Expr} {pos : Pos} : eval (.BoolOp op [x] pos) env = eval x env := by simp only [arm_eval_BoolOp]; rfl
theorem set_free {it : PySem.Expr} {o : Bool} {d : D} (e : ev F own o Γ (era n ns it) = some d) : ∀ x, foldedSetIterable it env x = Pure.pure x := by
  intro x
  cases it with
  | Set => cases n <;> exact bad_no e
  | _ => rfl
theorem callE_ok (gl : Glo K mg) (orc : Orc prog w K mg mb k F) (ih : IH prog w K mg mb F own k n) (hR : Room k A) {o : Bool} {f : PySem.Expr} {args : List PySem.Expr} {kws : List Keyword} {pos : Pos} {d : D}
    (e : ev F own o Γ (eCall (era n ns) ns args kws pos f) = some d) (r : Rd K mg mb env ns own X h Γ) : EV prog w A s0 (eval (.Call f args kws pos) env) h (Out o (fresh (eCall (era n ns) ns args kws pos f)) h X d) := by
  cases f with
  | Name x p =>
    cases kws with
    | nil =>
      change ev F own o Γ (if isG ns x && okArgs 20 args then eFn (era n ns) x args else .bad) = _ at e
      change EV _ _ _ _ _ _ (Out o (fresh (if isG ns x && okArgs 20 args then eFn (era n ns) x args else .bad)) h X d)
      cases hc : (isG ns x && okArgs 20 args) with
      | false => rw [hc] at e; exact bad_no e
      | true =>
        rw [hc] at e
        have hc := Bool.and_eq_true_iff.mp hc
        refine zA (okArgs_of hc.2) fun hl hs => ?_
        rw [if_pos rfl] at e ⊢
        unfold eFn at e ⊢
        cases hf : named fnNames x with
        | some g =>
          rw [hf] at e
          by_cases hk : kwOf g = []
          · simp only [hk, if_true] at e ⊢; exact callFn_ok gl orc ih hR hs hc.1 hf hk e r rfl
          · simp only [hk, if_false] at e; exact bad_no e
        | none =>
          rw [hf] at e
          cases hb : named biNames x with
          | some g => simp only [hb] at e; exact callBi_ok gl ih hR hs hc.1 hb e r rfl
          | none => simp only [hb] at e; exact bad_no e
    | cons kw kws =>
      obtain ⟨ka, b, kp⟩ := kw
      cases kws with
      | cons => cases ka <;> exact bad_no e
      | nil =>
        cases ka with
        | none => exact bad_no e
        | some ka =>
          cases args with
          | nil => exact bad_no e
          | cons a args =>
            cases args with
            | cons => exact bad_no e
            | nil =>
              change ev F own o Γ (if isG ns x && !isStar a then eKw (era n ns) x a ka b else .bad) = _ at e
              change EV _ _ _ _ _ _ (Out o (fresh (if isG ns x && !isStar a then eKw (era n ns) x a ka b else .bad)) h X d)
              cases hc : (isG ns x && !isStar a) with
              | false => rw [hc] at e; exact bad_no e
              | true =>
                rw [hc] at e
                have hc := Bool.and_eq_true_iff.mp hc
                rw [if_pos rfl] at e ⊢
                unfold eKw at e ⊢
                cases hf : named fnNames x with
                | none => rw [hf] at e; exact bad_no e
                | some g =>
                  rw [hf] at e
                  by_cases hk : kwOf g = ["newline"] ∧ ka = Str.ofString "newline"
                  · dsimp only at e ⊢; rw [if_pos hk] at e ⊢; exact callKw_ok gl orc ih hR (by simpa using hc.2) hc.1 hf hk.1 hk.2 e r rfl
                  · simp only [hk, if_false] at e; exact bad_no e
  | Attribute ob m ap =>
    change ev F own o Γ (if kws.isEmpty && ap.endLine == pos.line && okArgs 20 args then eMe (era n ns) ns ob m args else .bad) = _ at e
    change EV _ _ _ _ _ _ (Out o (fresh (if kws.isEmpty && ap.endLine == pos.line && okArgs 20 args then eMe (era n ns) ns ob m args else .bad)) h X d)
    cases hc : (kws.isEmpty && ap.endLine == pos.line && okArgs 20 args) with
    | false => rw [hc] at e; exact bad_no e
    | true =>
      rw [hc] at e
      rw [if_pos rfl] at e ⊢
      have hc := Bool.and_eq_true_iff.mp hc
      refine zA (okArgs_of hc.2) fun hl hs => ?_
      have hc := Bool.and_eq_true_iff.mp hc.1
      obtain rfl : kws = [] := List.isEmpty_iff.mp hc.1
      have hline := hc.2
      clear hc
      unfold eMe at e ⊢
      cases h1 : (gIs ns ob "bytes" && m == Str.ofString "maketrans") with
      | true =>
        rw [h1] at e
        rw [if_pos rfl] at e ⊢
        have h1 := Bool.and_eq_true_iff.mp h1
        refine zEEAA (gIs_of h1.1) ?_; rintro y p rfl g1 g2
        refine yl (eq_of_beq h1.2) ?_
        exact callMk_ok gl ih hR hl hs hline g1 g2 e r
      | false =>
        rw [h1] at e
        rw [if_neg Bool.false_ne_true] at e ⊢
        cases h2 : ((vName ob).isSome && escArg ns m args) with
        | true =>
          rw [h2] at e
          rw [if_pos rfl] at e ⊢
          have h2 := Bool.and_eq_true_iff.mp h2
          refine zE (Option.isSome_iff_exists.mp h2.1) fun y hy => ?_
          refine zE (vName_of hy) ?_; rintro p rfl
          refine zEEAAA (escArg_of h2.2) ?_; rintro z pz rfl g1 g2 g3
          exact callEsc_ok gl ih hR hline g1 g2 g3 e r rfl
        | false =>
          rw [h2] at e
          rw [if_neg Bool.false_ne_true] at e ⊢
          cases h3 : notCall ob with
          | false => rw [h3] at e; exact bad_no e
          | true =>
            rw [h3] at e
            rw [if_pos rfl] at e ⊢
            cases hf : named meNames m with
            | none => rw [hf] at e; exact bad_no e
            | some f => rw [hf] at e; exact callMe_ok ih hR hl hs hline h3 hf e r
  | _ => exact bad_no e
theorem boolK_ok (ih : IH prog w K mg mb F own k n) (hR : Room k A) {o : Bool} {op : BoolOp} {vs : List PySem.Expr} {pos : Pos} {d : D} (e : ev F own o Γ (eBool (vs.map (era n ns)) op) = some d) (r : Rd K mg mb env ns own X h Γ) :
    EV prog w A s0 (eval (.BoolOp op vs pos) env) h (Out o (fresh (eBool (vs.map (era n ns)) op)) h X d) := by
  match vs with
  | [] => cases op <;> exact bad_no e
  | [a] => simp only [evalBool_one]; cases op <;> exact ih s0 env _ X Γ o A a h d hR e r
  | a :: b :: vs =>
    simp only [arm_eval_BoolOp]
    cases op with
    | And => exact ((boolE_ok (pos := pos) ih hR (a :: b :: vs) h d r (Nat.le_add_left ..)).1 e (.inl (Nat.le_add_left ..))).mono fun v h' q => q.weak fun q => bf q
    | Or => exact ((boolE_ok (pos := pos) ih hR (a :: b :: vs) h d r (Nat.le_add_left ..)).2 e (.inl (Nat.le_add_left ..))).mono fun v h' q => q.weak fun q => bf q
theorem cmpK_ok (ih : IH prog w K mg mb F own k n) (hR : Room k A) {o : Bool} {l : PySem.Expr} {ops : List CmpOp} {cs : List PySem.Expr} {pos : Pos} {d : D} (e : ev F own o Γ (eCmp (era n ns) l ops cs) = some d) (r : Rd K mg mb env ns own X h Γ) :
    EV prog w A s0 (eval (.Compare l ops cs pos) env) h (Out o (fresh (eCmp (era n ns) l ops cs)) h X d) := by
  match ops, cs with
  | [], _ => exact bad_no e
  | [_], [] => exact bad_no e
  | [op], [c] =>
    change ev F own o Γ (if behindInMarks op c then .bad else .cmp op (era n ns l) (era n ns c)) = _ at e
    cases hm : behindInMarks op c with
    | true => rw [hm] at e; exact bad_no e
    | false => rw [hm] at e; exact cmpE_ok ih hR hm e r
  | [_], _ :: _ :: _ => exact bad_no e
  | _ :: _ :: _, _ => exact bad_no e
theorem subK_ok (ih : IH prog w K mg mb F own k n) (hR : Room k A) {o : Bool} {v i : PySem.Expr} {pos : Pos} {d : D} (e : ev F own o Γ (eSub (era n ns) v i) = some d) (r : Rd K mg mb env ns own X h Γ) :
    EV prog w A s0 (eval (.Subscript v i pos) env) h (Out o (fresh (eSub (era n ns) v i)) h X d) := by
  cases hj : isSlice i with
  | false =>
    have q : eSub (era n ns) v i = .idx (era n ns v) (era n ns i) := by cases i <;> first | rfl | exact Bool.noConfusion hj
    rw [q] at e ⊢
    exact idxE_ok ih hR hj e r rfl
  | true =>
    cases i with
    | Slice lo hi st p =>
      cases st with
      | none => exact slE_ok ih hR e r
      | some s =>
        change ev F own o Γ (if lo.isNone && hi.isNone && isMinusOne s then .rev (era n ns v) else .bad) = _ at e
        cases hc : (lo.isNone && hi.isNone && isMinusOne s) with
        | false => rw [hc] at e; exact bad_no e
        | true =>
          rw [hc] at e
          have hc := Bool.and_eq_true_iff.mp hc
          have h1 := Bool.and_eq_true_iff.mp hc.1
          refine yl (Option.isNone_iff_eq_none.mp h1.1) ?_
          refine yl (Option.isNone_iff_eq_none.mp h1.2) ?_
          exact revE_ok ih hR hc.2 e r
    | _ => exact bf hj
set_option tactic.hygienic true in
theorem compK_ok (ih : IH prog w K mg mb F own k n) (hR : Room k A) {o : Bool} {elt : PySem.Expr} {gs : List Comprehension} {sc : Scope} {pos : Pos} {d : D} (e : ev F own o Γ (eComp (era n sc.names) (era n ns) elt sc gs) = some d)
    (r : Rd K mg mb env ns own X h Γ) : EV prog w A s0 (eval (.ListComp elt gs sc pos) env) h (Out o (fresh (eComp (era n sc.names) (era n ns) elt sc gs)) h X d) := by
  unfold eComp at e ⊢
  split at e
  · rename_i x it
    cases hx : vName x with
    | none => rw [hx] at e; exact bad_no e
    | some y =>
      rw [hx] at e
      refine zE (vName_of hx) ?_; rintro p rfl
      by_cases hc : sc.kind = .function ∧ plainNames sc.names = true ∧ slotOf sc.names y = some 1 ∧ keysOnce sc.names = true
      · simp only [hc, and_self, if_true] at e ⊢
        refine compE_ok ih hR hc.1 hc.2.1 hc.2.2.1 hc.2.2.2 ?_ e r
        exact ev_comp_of e fun _ _ _ ei _ _ _ => set_free ei
      · simp only [hc, if_false] at e; exact bad_no e
  · exact bad_no e
theorem ev_sound (gl : Glo K mg) (orc : Orc prog w K mg mb k F) : ∀ n, IH prog w K mg mb F own k n
  | 0 => fun s0 env ns X Γ o A e h d hR he r => bad_no he
  | n + 1 => fun s0 env ns X Γ o A e h d hR he r => by
    have ih := ev_sound gl orc n
    cases e with
    | Constant c kk pos => exact lit_ok he (fresh_lit c)
    | Name x pos => exact nameE_ok gl he r
    | BinOp l op r' pos => exact binE_ok ih hR he r
    | UnaryOp op x pos => cases op with
      | Not => exact notE_ok ih hR he r
      | USub => exact negE_ok ih hR he r
      | _ => exact bad_no he
    | BoolOp op vs pos => exact boolK_ok ih hR he r
    | IfExp c a b pos =>
      change ev F own o Γ (if (vName c).isSome then .ite (era n ns c) (era n ns a) (era n ns b) else .bad) = _ at he
      cases hc : vName c with
      | none => rw [hc] at he; exact bad_no he
      | some x =>
        rw [hc] at he
        refine zE (vName_of hc) ?_; rintro p rfl
        exact iteE_ok ih hR he r
    | Compare l ops cs pos => exact cmpK_ok ih hR he r
    | Call f args kws pos => exact callE_ok gl orc ih hR he r
    | Subscript v i pos => exact subK_ok ih hR he r
    | List es pos =>
      change ev F own o Γ (if okArgs 100 es then .list (toEs (es.map (era n ns))) else .bad) = _ at he
      cases hc : okArgs 100 es with
      | false => rw [hc] at he; exact bad_no he
      | true => rw [hc] at he; exact listE_ok ih hR (okArgs_of hc).2 (okArgs_of hc).1 he r
    | Tuple es kk pos =>
      change ev F own o Γ (if okArgs 100 es then .tup (toEs (es.map (era n ns))) else .bad) = _ at he
      cases hc : okArgs 100 es with
      | false => rw [hc] at he; exact bad_no he
      | true => rw [hc] at he; exact tupE_ok ih hR (okArgs_of hc).2 (okArgs_of hc).1 he r
    | ListComp elt gs sc pos => exact compK_ok ih hR he r
    | JoinedStr vs pos =>
      match vs with
      | [] => exact bad_no he
      | [_] => exact bad_no he
      | a :: b :: vs => exact fstrE_ok (n := n) ih hR he r
    | _ => exact bad_no he
noncomputable abbrev TQ (b : Bool) (h : Heap) : Bool → Heap → Prop := fun b' h' => b' = b ∧ Grow h h'
theorem tv_value (gl : Glo K mg) (orc : Orc prog w K mg mb k F) (hR : Room k A) {n : Nat} {e : PySem.Expr} {x : D} {b : Bool} (he : ev F own true Γ (era n ns e) = some x) (hb : truth x = some b) (r : Rd K mg mb env ns own X h Γ)
    (hi : isTrue e env (eval e env) = (do let v ← eval e env; standAt e.pos; holding [v] (truthy v))) : EV prog w A s0 (isTrue e env (eval e env)) h (TQ b h) := fun tk => by
  refine wpAny_isTrue_value ((ev_sound gl orc n s0 env ns X Γ true A e h x hR he r).out fun v h1 tk1 q => (truth_ok hb q.2.1).out fun c h2 tk2 y => ?_) hi
  refine zA y ?_; clear y; rintro rfl rfl
  exact (pst ⟨rfl, q.1⟩)
noncomputable def pl : Mine.E → Bool
  | .var _ => false
  | .not _ => false
  | .and _ _ => false
  | .or _ _ => false
  | .ite _ _ _ => false
  | _ => true
theorem pl_if {c : Prop} [Decidable c] {a : Mine.E} (h : pl a = true) : pl (if c then a else .bad) = true := by
  by_cases q : c
  · rw [if_pos q]; exact h
  · rw [if_neg q]; rfl
theorem pl_lit (c : Const) : pl (litOf c) = true := by cases c <;> rfl
theorem pl_fn {g : PySem.Expr → Mine.E} {f : Str} {args : List PySem.Expr} : pl (eFn g f args) = true := by
  unfold eFn
  cases named fnNames f with
  | some q => exact pl_if rfl
  | none => cases named biNames f <;> rfl
theorem pl_me {g : PySem.Expr → Mine.E} {o : PySem.Expr} {m : Str} {args : List PySem.Expr} : pl (eMe g ns o m args) = true := by
  unfold eMe
  by_cases h1 : (gIs ns o "bytes" && m == Str.ofString "maketrans") = true
  · rw [if_pos h1]; rfl
  · rw [if_neg h1]
    by_cases h2 : ((vName o).isSome && escArg ns m args) = true
    · rw [if_pos h2]; rfl
    · rw [if_neg h2]
      refine pl_if ?_
      cases named meNames m <;> rfl
theorem pl_call {g : PySem.Expr → Mine.E} {args : List PySem.Expr} {kws : List Keyword} {pos : Pos} : ∀ {f : PySem.Expr}, pl (eCall g ns args kws pos f) = true := by
  intro f
  cases f with
  | Name x p =>
    match kws with
    | [] => exact pl_if pl_fn
    | [⟨none, _, _⟩] => rfl
    | [⟨some kw, b, _⟩] => match args with
      | [] => rfl
      | [a] =>
        refine pl_if ?_
        unfold eKw
        cases named fnNames x with
        | none => rfl
        | some q => exact pl_if rfl
      | _ :: _ :: _ => rfl
    | ⟨none, _, _⟩ :: _ :: _ => rfl
    | ⟨some _, _, _⟩ :: _ :: _ => rfl
  | Attribute o m ap => exact pl_if pl_me
  | _ => rfl
theorem pl_sub {g : PySem.Expr → Mine.E} {v i : PySem.Expr} : pl (eSub g v i) = true := by
  cases i with
  | Slice lo hi st p => cases st with
    | none => rfl
    | some s => exact pl_if rfl
  | _ => rfl
set_option tactic.hygienic true in
theorem pl_comp {f g : PySem.Expr → Mine.E} {elt : PySem.Expr} {sc : Scope} {gs : List Comprehension} : pl (eComp f g elt sc gs) = true := by
  unfold eComp
  split
  · rename_i x it
    cases vName x with
    | none => rfl
    | some y => exact pl_if rfl
  · rfl
theorem pl_cmp {g : PySem.Expr → Mine.E} {l : PySem.Expr} {ops : List CmpOp} {cs : List PySem.Expr} : pl (eCmp g l ops cs) = true := by
  match ops, cs with
  | [], _ => rfl
  | [_], [] => rfl
  | [op], [c] =>
    change pl (if behindInMarks op c then .bad else _) = true
    cases behindInMarks op c <;> rfl
  | [_], _ :: _ :: _ => rfl
  | _ :: _ :: _, _ => rfl
noncomputable def shp : PySem.Expr → Bool
  | .Name _ _ => false
  | .UnaryOp _ _ _ => false
  | .BoolOp _ _ _ => false
  | .IfExp _ _ _ _ => false
  | _ => true
theorem pl_era {n : Nat} {e : PySem.Expr} (h : shp e = true) : pl (era n ns e) = true := by
  cases n with
  | zero => rfl
  | succ n =>
    cases e with
    | Name => exact bf h
    | UnaryOp => exact bf h
    | BoolOp => exact bf h
    | Constant c _ _ => exact pl_lit c
    | IfExp => exact bf h
    | Compare => exact pl_cmp
    | Call => exact pl_call
    | Subscript => exact pl_sub
    | List => exact pl_if rfl
    | Tuple => exact pl_if rfl
    | ListComp => exact pl_comp
    | JoinedStr => exact pl_if rfl
    | _ => rfl
noncomputable def lg : Mine.E → Bool
  | .not _ => true
  | .and _ _ => true
  | .or _ _ => true
  | .ite _ _ _ => true
  | _ => false
theorem lg_pl {E : Mine.E} (h : pl E = true) : lg E = false := by
  cases E with
  | not => exact bf h
  | and => exact bf h
  | or => exact bf h
  | ite => exact bf h
  | _ => rfl
theorem tv_val {E : Mine.E} {b : Bool} (hl : lg E = false) (h : tv F own Γ E = some b) : ∃ x, ev F own true Γ E = some x ∧ truth x = some b := by
  have fin : ∀ {o : Option D}, (match o with | some x => truth x | none => none) = some b → ∃ x, o = some x ∧ truth x = some b := fun {o} h => by
    cases o with
    | some x => exact iEA x rfl h
    | none => exact nos h
  cases E with
  | not => exact bf hl.symm
  | and => exact bf hl.symm
  | or => exact bf hl.symm
  | ite => exact bf hl.symm
  | _ => exact fin h
theorem lg_name (ns : NK) (x : Str) : lg (nameE ns x) = false := by
  unfold nameE
  by_cases h1 : (x == Str.ofString "__debug__") = true
  · rw [if_pos h1]; rfl
  · rw [if_neg h1]
    cases slotOf ns x with
    | some i => rfl
    | none =>
      show lg (if isG ns x = true then _ else _) = false
      by_cases h2 : isG ns x = true
      · rw [if_pos h2]
        by_cases h3 : x = Str.ofString "_B64"
        · rw [if_pos h3]; rfl
        · rw [if_neg h3]; cases named tyNames x <;> rfl
      · rw [if_neg h2]; rfl
theorem tv_all (ih : ∀ (e : PySem.Expr) (h : Heap) (b : Bool), tv F own Γ (era n ns e) = some b → Rd K mg mb env ns own X h Γ → EV prog w A s0 (isTrue e env (eval e env)) h (TQ b h)) : ∀ (vs : List PySem.Expr) (h : Heap) (b : Bool), Rd K mg mb env ns own X h Γ →
    (tv F own Γ (foldE .and (vs.map (era n ns))) = some b → EV prog w A s0 (allTrue .And vs env) h (TQ b h)) ∧ (tv F own Γ (foldE .or (vs.map (era n ns))) = some b → EV prog w A s0 (allTrue .Or vs env) h (TQ b h))
  | [], h, b, r => ⟨fun e => nos e, fun e => nos e⟩
  | [x], h, b, r => by
    refine ⟨fun e tk => wpAny_allTrue_And_cons ((ih x h b e r).out fun c h1 tk1 q => ?_), fun e tk => wpAny_allTrue_Or_cons ((ih x h b e r).out fun c h1 tk1 q => ?_)⟩
    · refine zA q ?_; clear q; rintro rfl g
      cases c
      · exact (pst ⟨rfl, g⟩)
      · exact wpAny_allTrue_And_nil (pst ⟨rfl, g⟩)
    · refine zA q ?_; clear q; rintro rfl g
      cases c
      · exact wpAny_allTrue_Or_nil (pst ⟨rfl, g⟩)
      · exact (pst ⟨rfl, g⟩)
  | x :: y :: vs, h, b, r => by
    have ihv := fun h1 r => tv_all ih (y :: vs) h1 b r
    constructor
    · intro e tk
      change (match tv F own Γ (era n ns x) with | some true => tv F own Γ (foldE .and ((y :: vs).map (era n ns))) | some false => some false | none => none) = some b at e
      cases hx : tv F own Γ (era n ns x) with
      | none => rw [hx] at e; exact nos e
      | some c =>
        rw [hx] at e
        refine wpAny_allTrue_And_cons ((ih x h c hx r).out fun c' h1 tk1 q => ?_)
        refine zA q ?_; clear q; rintro rfl g
        cases c' with
        | true => exact ((ihv h1 (r.grow g)).1 e).out fun c h2 tk2 z => (pst ⟨z.1, g.trans z.2⟩)
        | false => injection e with e; exact (pst ⟨e, g⟩)
    · intro e tk
      change (match tv F own Γ (era n ns x) with | some false => tv F own Γ (foldE .or ((y :: vs).map (era n ns))) | some true => some true | none => none) = some b at e
      cases hx : tv F own Γ (era n ns x) with
      | none => rw [hx] at e; exact nos e
      | some c =>
        rw [hx] at e
        refine wpAny_allTrue_Or_cons ((ih x h c hx r).out fun c' h1 tk1 q => ?_)
        refine zA q ?_; clear q; rintro rfl g
        cases c' with
        | false => exact ((ihv h1 (r.grow g)).2 e).out fun c h2 tk2 z => (pst ⟨z.1, g.trans z.2⟩)
        | true => injection e with e; exact (pst ⟨e, g⟩)
theorem tv_cmp (gl : Glo K mg) (orc : Orc prog w K mg mb k F) (hR : Room k A) {l : PySem.Expr} {ops : List CmpOp} {cs : List PySem.Expr} {p : Pos} {b : Bool} (he : tv F own Γ (eCmp (era n ns) l ops cs) = some b) (r : Rd K mg mb env ns own X h Γ) :
    EV prog w A s0 (isTrue (.Compare l ops cs p) env (eval (.Compare l ops cs p) env)) h (TQ b h) := by
  match ops, cs with
  | [], _ => exact nos he
  | [_], [] => exact nos he
  | [_], _ :: _ :: _ => exact nos he
  | _ :: _ :: _, _ => exact nos he
  | [op], [c] =>
    change tv F own Γ (if behindInMarks op c then .bad else .cmp op (era n ns l) (era n ns c)) = some b at he
    cases hm : behindInMarks op c with
    | true => rw [hm] at he; exact nos he
    | false =>
      rw [hm] at he
      refine zEA (tv_val (E := .cmp op (era n ns l) (era n ns c)) rfl he) fun x ex hb => ?_
      revert hb; refine ev_cmp_of ex fun a b2 c ea eb ec hb => ?_
      injection hb with hb
      subst hb
      have ihv := ev_sound (own := own) gl orc n
      refine EV.testCompare hm ((ihv s0 env ns X Γ true A l h a hR ea r).mono fun va h1 q => (ihv s0 env ns X Γ true A _ h1 b2 hR eb (r.grow q.1)).mono fun vb h2 z => ?_)
      refine (cmp_ok ec (q.2.1.grow z.1) z.2.1 (cl64 hR)).mono fun v h3 y => ?_
      refine zA y ?_; clear y; rintro rfl rfl
      exact (truth_ok (X := X) (a := .bool c) rfl (V.bool c).w).mono fun v h4 y => ⟨y.1, y.2 ▸ q.1.trans z.1⟩
theorem tv_sound (gl : Glo K mg) (orc : Orc prog w K mg mb k F) (hR : Room k A) : ∀ (n : Nat) (e : PySem.Expr) (h : Heap) (b : Bool), tv F own Γ (era n ns e) = some b → Rd K mg mb env ns own X h Γ →
    EV prog w A s0 (isTrue e env (eval e env)) h (TQ b h)
  | 0, e, h, b, he, r => nos he
  | n + 1, e, h, b, he, r => by
    have ih := tv_sound gl orc hR n
    have pv : lg (era (n + 1) ns e) = false → isTrue e env (eval e env) = (do let v ← eval e env; standAt e.pos; holding [v] (truthy v)) → EV prog w A s0 (isTrue e env (eval e env)) h (TQ b h) := fun hl hi => by
      refine zEA (tv_val hl he) fun x ex hb => ?_
      exact tv_value gl orc hR ex hb r hi
    cases e with
    | UnaryOp op x p => cases op with
      | Not =>
        refine zEA (Option.map_eq_some_iff.mp he) ?_; rintro c hc rfl
        exact fun tk => wpAny_isTrue_Not ((ih x h c hc r).out fun b h1 tk1 q => (pst ⟨by rw [q.1], q.2⟩))
      | _ => exact pv rfl rfl
    | BoolOp op vs p => cases op with
      | And => exact fun tk => wpAny_isTrue_BoolOp (((tv_all ih vs h b r).1 he) tk)
      | Or => exact fun tk => wpAny_isTrue_BoolOp (((tv_all ih vs h b r).2 he) tk)
    | IfExp c a b' p =>
      change tv F own Γ (if (vName c).isSome then .ite (era n ns c) (era n ns a) (era n ns b') else .bad) = _ at he
      cases hc : vName c with
      | none => rw [hc] at he; exact nos he
      | some x => rw [hc] at he; exact nos he
    | Compare l ops cs p => exact tv_cmp gl orc hR he r
    | Name x p => exact pv (lg_name ns x) rfl
    | _ => exact pv (lg_pl (pl_era rfl)) rfl
end
theorem szl {a : D} {ds : List D} (h : a = .list ds ∨ a = .tup ds) {n : Nat} (k : sizeOf a < n) : sizeOf ds < n := by
  refine h.elim (fun e => ?_) fun e => ?_
  · rw [e, D.list.sizeOf_spec] at k; exact qM qv k
  · rw [e, D.tup.sizeOf_spec] at k; exact qM qv k
theorem Vs.off {h : Heap} {X : Addr → Prop} {a : Addr} {ds : List D} (ha : V h X (.ref a) (.list ds)) {vs : List Value} {es : List D} (x : Vs h X vs es) : sizeOf es < sizeOf (D.list ds) → Vs h (fun b => X b ∨ b = a) vs es :=
  have key : ∀ {b : Addr} {d : D}, V h X (.ref b) d → d ≠ .list ds → ¬ X b → ¬ (X b ∨ b = a) := fun y ne nx q => q.elim nx fun e => ne (V.det (e ▸ y) ha)
  Vs.rec (motive_1 := fun v d _ => sizeOf d < sizeOf (D.list ds) → V h (fun b => X b ∨ b = a) v d) (motive_2 := fun vs es _ => sizeOf es < sizeOf (D.list ds) → Vs h (fun b => X b ∨ b = a) vs es)
    (fun _ => .none) (fun b _ => .bool b) (fun i t _ => .int i t) (fun s t _ => .str s t) (fun s t _ => .bytes s t)
    (fun p nx r ih k => .list p (key (.list p nx r) (fun e => by rw [e] at k; exact Nat.lt_irrefl _ k) nx) (ih (szl (.inl rfl) k)))
    (fun p nx r ih k => .tup p (key (.tup p nx r) (fun e => D.noConfusion e) nx) (ih (szl (.inr rfl) k)))
    (fun p c nx _ => .obj p c (key (.obj p c nx) (fun e => D.noConfusion e) nx)) (fun n _ => .ty n)
    (fun _ => .nil) (fun _ _ a b k => .cons (a (by rw [List.cons.sizeOf_spec] at k; exact qM (qT qv qu) k)) (b (by rw [List.cons.sizeOf_spec] at k; exact qM qv k))) x
noncomputable def Bar (X : Addr → Prop) (L : Addr) (O : Nat → Option Addr) : Addr → Prop := fun b => X b ∨ b = L ∨ ∃ i, O i = some b
noncomputable abbrev boundO (a : Addr) : Obj := { cls := .type "builtin_function_or_method", dict := none, data := .fields #[.builtin "list.append", .ref a], slots := #[] }
inductive Sl (own : List Nat) (h : Heap) (B : Addr → Prop) (O : Nat → Option Addr) (i : Nat) (v : Value) : D → Prop
  | plain {d : D} : (own.contains i && isL d) = false → V h B v d → Sl own h B O i v d
  | own {a : Addr} {vs : List Value} {n : Nat} {ds : List D} : own.contains i = true → O i = some a → v = .ref a → h.get? a = some (listO vs.toArray n) → Vs h B vs ds → Sl own h B O i v (.list ds)
  | meth {j : Nat} {a b : Addr} : v = .ref b → h.get? b = some (boundO a) → ¬ B b → own.contains j = true → O j = some a → Sl own h B O i v (.meth j)
structure Rep (K : Frag) (mg mb : Str → Option Value) (env : Env) (ns : NK) (own : List Nat) (X : Addr → Prop) (h0 : Heap) (O : Nat → Option Addr) (h : Heap) (Γ : List D) : Prop where
  eo : EnvOk env ns
  wo : Wo K mg mb h0
  old : Grow h0 h
  th : There (Bar X env.locals O) h
  nL : h0.get? env.locals = none ∧ ¬ X env.locals
  nO : ∀ i a, O i = some a → h0.get? a = none ∧ a ≠ env.locals ∧ ¬ X a
  inj : ∀ i j a, O i = some a → O j = some a → i = j
  loc : ∃ m, h.Ns env.locals m ∧ ∀ i x d, ns[i]? = some (x, .local) → Γ[i]? = some d → d ≠ .undef → ∃ v, m x = some v ∧ Sl own h (Bar X env.locals O) O i v d
section
variable {K : Frag} {mg mb : Str → Option Value} {env : Env} {ns : NK} {own : List Nat} {X : Addr → Prop} {h0 h h1 : Heap} {O O' : Nat → Option Addr} {Γ Γ' : List D}
theorem Sl.w {B : Addr → Prop} {i : Nat} {v : Value} {d : D} (x : Sl own h B O i v d) (hu : usable d = true) : W h B v d ∧ ((own.contains i && isL d) = false → V h B v d) := by
  cases x with
  | plain a b => exact ⟨b.w, fun _ => b⟩
  | own a b c e f => exact ⟨⟨_, _, _, c, e, f⟩, fun q => by rw [a] at q; exact bf q.symm⟩
  | meth => exact bf hu
theorem Rep.rd (r : Rep K mg mb env ns own X h0 O h Γ) : Rd K mg mb env ns own (Bar X env.locals O) h Γ :=
  ⟨r.eo, r.wo.grow r.old, r.th, let ⟨m, a, b⟩ := r.loc; ⟨m, a, fun i x d e1 e2 hu => let ⟨v, p, q⟩ := b i x d e1 e2 (fun e => by subst e; cases hu); ⟨v, p, q.w hu⟩⟩⟩
theorem Sl.keep {B : Addr → Prop} {i : Nat} {v : Value} {d : D} (x : Sl own h B O i v d) (g : Grow h h1) : Sl own h1 B O i v d := by
  cases x with
  | plain a b => exact .plain a (b.keep (g.x B))
  | own a b c e f => exact .own a b c (g _ _ e) (f.keep (g.x B))
  | meth a b c e f => exact .meth a (g _ _ b) c e f
theorem Rep.grow (r : Rep K mg mb env ns own X h0 O h Γ) (g : Grow h h1) : Rep K mg mb env ns own X h0 O h1 Γ :=
  ⟨r.eo, r.wo, r.old.trans g, r.th.grow g, r.nL, r.nO, r.inj, let ⟨m, a, b⟩ := r.loc; ⟨m, a.keeps g, fun i x d e1 e2 hu => let ⟨v, p, q⟩ := b i x d e1 e2 hu; ⟨v, p, q.keep g⟩⟩⟩
structure Step (L : Addr) (O : Nat → Option Addr) (h : Heap) (O' : Nat → Option Addr) (h' : Heap) : Prop where
  keep : ∀ b o, b ≠ L → (∀ i, O i ≠ some b) → h.get? b = some o → h'.get? b = some o
  live : ∀ b, (h.get? b).isSome = true → (h'.get? b).isSome = true
  new : ∀ i a, O' i = some a → (∃ j, O j = some a) ∨ h.get? a = none
theorem Grow.live (g : Grow h h1) : ∀ b, (h.get? b).isSome = true → (h1.get? b).isSome = true := fun b e => by
  refine zE (Option.isSome_iff_exists.mp e) fun o q => ?_
  rw [g _ _ q]; rfl
theorem Step.refl {L : Addr} : Step L O h O h := ⟨fun _ _ _ _ e => e, fun _ e => e, fun i a e => .inl ⟨i, e⟩⟩
theorem Step.grow {L : Addr} (g : Grow h h1) : Step L O h O h1 := ⟨fun _ _ _ _ e => g _ _ e, g.live, fun i a e => .inl ⟨i, e⟩⟩
theorem Step.trans {L : Addr} {O1 O2 : Nat → Option Addr} {h2 : Heap} (x : Step L O h O1 h1) (y : Step L O1 h1 O2 h2) : Step L O h O2 h2 :=
  ⟨fun b o e1 e2 e3 => y.keep b o e1 (fun i q => (x.new i b q).elim (fun ⟨j, z⟩ => e2 j z) fun z => by rw [z] at e3; exact nos e3) (x.keep b o e1 e2 e3), fun b e => y.live b (x.live b e),
   fun i a e => (y.new i a e).elim (fun ⟨j, z⟩ => x.new j a z) fun z => by
     cases q : h.get? a with
     | none => exact .inr rfl
     | some o => have := x.live a (by rw [q]; rfl); rw [z] at this; exact bf this⟩
theorem Sl.keepX {B : Addr → Prop} {i : Nat} {v : Value} {d : D} {L : Addr} (x : Sl own h B O i v d) (hB : B L) (hO : ∀ i, O i ≠ some L) (g : Heap.SameBut L h h1) : Sl own h1 B O i v d := by
  cases x with
  | plain a b => exact .plain a (b.keep (GrowX.of_same g hB))
  | own a b c e f => exact .own a b c ((g.2 _ fun q => hO i (q ▸ b)).trans e) (f.keep (GrowX.of_same g hB))
  | meth a b c e f => exact .meth a ((g.2 _ fun q => c (by rw [q]; exact hB)).trans b) c e f
theorem Sl.bar {B B' : Addr → Prop} {i : Nat} {v : Value} {d : D} (x : Sl own h B O i v d) (hb : ∀ a, (h.get? a).isSome = true → ¬ B a → ¬ B' a) (h1 : own.contains i && isL d = true → O' i = O i) (h2 : ∀ k, d = .meth k → O' k = O k) : Sl own h B' O' i v d := by
  cases x with
  | plain a b => exact .plain a (b.bar hb)
  | own a b c e f => exact .own a ((h1 (by rw [a]; rfl)).trans b) c e (f.bar hb)
  | meth a b c e f => exact .meth a b (hb _ (by rw [b]; rfl) c) e ((h2 _ rfl).trans f)
theorem live_same {L : Addr} {m : Str → Option Value} (hs : Heap.SameBut L h h1) (hn : h1.Ns L m) : ∀ b, (h.get? b).isSome = true → (h1.get? b).isSome = true := fun b e => by
  by_cases q : b = L
  · refine zEEEA hn ?_; clear hn; intro o _ _ e _
    rw [q, e]; rfl
  · rw [hs.2 b q]; exact e
theorem nodup_ne {ns : NK} (hnd : (ns.map (·.1)).Nodup) {i j : Nat} {x y : Str} {k l : NameKind} (hx : ns[i]? = some (x, k)) (hy : ns[j]? = some (y, l)) (hij : j ≠ i) : y ≠ x := fun q => by
  subst q
  have h1 : (ns.map (·.1))[i]? = some y := by simp [hx]
  have h2 : (ns.map (·.1))[j]? = some y := by simp [hy]
  refine zE (List.getElem?_eq_some_iff.mp h1) fun a1 b1 => ?_
  exact hij (((List.getElem?_inj a1 hnd).mp (h1.trans h2.symm)).symm)
variable {prog : Program} {w : World} {s0 : Shared} {A : Around}
theorem store_ok (r : Rep K mg mb env ns own X h0 O h Γ) (hnd : (ns.map (·.1)).Nodup) (g : Grow h h1) {i : Nat} {x : Str} (hx : slotOf ns x = some i) {v : Value} {d : D}
    (hO : ∀ j a, O' j = some a → O j = some a ∨ (h.get? a = none ∧ (h1.get? a).isSome = true))
    (hinj : ∀ j k a, O' j = some a → O' k = some a → j = k)
    (hv : d ≠ .undef → Sl own h1 (Bar X env.locals O') O' i v d)
    (hi : ∀ d', Γ'[i]? = some d' → d' ≠ .undef → d' = d)
    (hj : ∀ j d', j ≠ i → Γ'[j]? = some d' → d' ≠ .undef → Γ[j]? = some d' ∧ (own.contains j && isL d' = true → O' j = O j) ∧ (∀ k, d' = .meth k → O' k = O k)) :
    EV prog w A s0 (storeName env x v) h1 (fun _ h' => Rep K mg mb env ns own X h0 O' h' Γ' ∧ Step env.locals O h O' h') := fun tk => by
  obtain ⟨e1, e2⟩ := slotOf_get hx
  refine zEA (r.loc) fun m hn hl => ?_
  refine wpAny_storeName_local (r.eo.look _ _ e2 (.inl rfl)) (hn.keeps g) (fun h' hn' hs => ⟨h', tk + 1, rfl, ?_, ?_⟩) (by rw [r.eo.kind]; rfl)
  · have hlv := live_same hs hn'
    have Lh : (h.get? env.locals).isSome = true := r.th _ (.inr (.inl rfl))
    have nO' : ∀ i a, O' i = some a → h0.get? a = none ∧ a ≠ env.locals ∧ ¬ X a := by
      intro i a q
      rcases hO i a q with z | ⟨z, _⟩
      · exact r.nO i a z
      · refine ⟨?_, ?_, ?_⟩
        · cases q : h0.get? a with
          | none => rfl
          | some o => rw [r.old _ _ q] at z; exact nos z.symm
        · intro q; rw [q] at z; rw [z] at Lh; exact bf Lh
        · intro q; have := r.th a (.inl q); rw [z] at this; exact bf this
    have nL' : ∀ i, O' i ≠ some env.locals := fun i q => (nO' i _ q).2.1 rfl
    have hb : ∀ a, (h.get? a).isSome = true → ¬ Bar X env.locals O a → ¬ Bar X env.locals O' a := fun a ha nb q => nb (q.elim .inl fun q => .inr (q.elim .inl fun ⟨i, q⟩ => (hO i a q).elim (fun z => .inr ⟨i, z⟩) fun z => by rw [z.1] at ha; exact bf ha))
    refine ⟨r.eo, r.wo, fun b o e => (hs.2 b fun q => by rw [q, r.nL.1] at e; exact nos e).trans (g _ _ (r.old _ _ e)), ?_, r.nL, nO', hinj, _, hn', ?_⟩
    · rintro b (q | q | ⟨i, q⟩)
      · exact hlv _ (g.live _ (r.th b (.inl q)))
      · exact hlv _ (g.live _ (q ▸ Lh))
      · exact (hO i b q).elim (fun z => hlv _ (g.live _ (r.th b (.inr (.inr ⟨i, z⟩))))) fun z => hlv _ z.2
    · intro j y d' q1 q2 hu
      by_cases hji : j = i
      · subst hji
        have : y = x := by rw [e1] at q1; cases q1; rfl
        refine yl this ?_; clear this
        have := hi d' q2 hu
        subst this
        exact ⟨v, if_pos rfl, (hv hu).keepX (.inr (.inl rfl)) nL' hs⟩
      · refine zAA (hj j d' hji q2 hu) fun z1 z2 z3 => ?_
        refine zEA (hl j y d' q1 z1 hu) fun v' w1 w2 => ?_
        refine ⟨v', (if_neg (nodup_ne hnd e1 q1 hji)).trans w1, ?_⟩
        exact (((w2.bar hb z2 z3).keep g).keepX (.inr (.inl rfl)) nL' hs)
  · exact ⟨fun b o q1 _ q3 => (hs.2 b q1).trans (g _ _ q3), fun b q => live_same hs hn' b (g.live b q), fun i a q => (hO i a q).elim (fun z => .inl ⟨i, z⟩) fun z => .inr z.1⟩
set_option tactic.hygienic true in
theorem Rep.mut (r : Rep K mg mb env ns own X h0 O h Γ) (g : Grow h h1) {i : Nat} {a : Addr} (hO : O i = some a) {ds : List D} (hΓ : Γ[i]? = some (.list ds)) (hown : own.contains i = true) {h' : Heap} (hs : Heap.SameBut a h1 h') {vs' : List Value} {n' : Nat} {ds' : List D}
    (ho : h'.get? a = some (listO vs'.toArray n')) (hv : Vs h1 (Bar X env.locals O) vs' ds') : Rep K mg mb env ns own X h0 O h' (Γ.set i (.list ds')) ∧ Step env.locals O h O h' := by
  have hB : Bar X env.locals O a := .inr (.inr ⟨i, hO⟩)
  refine zEA (r.loc) fun m hn hl => ?_
  have hlv : ∀ b, (h1.get? b).isSome = true → (h'.get? b).isSome = true := fun b e => by
    by_cases q : b = a
    · rw [q, ho]; rfl
    · rw [hs.2 b q]; exact e
  refine ⟨⟨r.eo, r.wo, fun b o e => (hs.2 b fun q => by rw [q, (r.nO i a hO).1] at e; exact nos e).trans (g _ _ (r.old _ _ e)), fun b q => hlv _ (g.live _ (r.th b q)), r.nL, r.nO, r.inj, m, ?_, ?_⟩, ?_⟩
  · exact (hn.keeps g).sameBut hs (fun q => (r.nO i a hO).2.1 q.symm)
  · intro j y d' q1 q2 hu
    rw [List.getElem?_set] at q2
    split at q2
    · rename_i hij
      subst hij
      split at q2 <;> (first | exact nos q2 | (refine y1 q2 ?_; clear q2))
      obtain ⟨v', w1, w2⟩ := hl i y _ q1 hΓ (fun q => by cases q)
      refine ⟨v', w1, ?_⟩
      cases w2 with
      | plain c _ => rw [hown] at c; exact bf c.symm
      | own c1 c2 c3 c4 c5 =>
        rw [hO] at c2; cases c2
        exact .own hown hO c3 ho (hv.keep (GrowX.of_same hs hB))
    · rename_i hij
      refine zEA (hl j y _ q1 q2 hu) fun v' w1 w2 => ?_
      refine ⟨v', w1, ?_⟩
      cases w2.keep g with
      | plain c1 c2 => exact .plain c1 (c2.keep (GrowX.of_same hs hB))
      | own c1 c2 c3 c4 c5 => exact .own c1 c2 c3 ((hs.2 _ fun q => by rw [q] at c2; exact hij (r.inj _ _ _ hO c2)).trans c4) (c5.keep (GrowX.of_same hs hB))
      | meth c1 c2 c3 c4 c5 => exact .meth c1 ((hs.2 _ fun q => c3 (by rw [q]; exact hB)).trans c2) c3 c4 c5
  · exact ⟨fun b o q1 q2 q3 => (hs.2 b fun q => q2 i (q ▸ hO)).trans (g _ _ q3), fun b q => hlv _ (g.live _ q), fun i a q => .inl ⟨i, q⟩⟩
end
structure OkNs (ns : NK) (own : List Nat) : Prop where
  ow : ∀ i, own.contains i = true → ∃ x, ns[i]? = some (x, .local)
  nd : (ns.map (·.1)).Nodup
  db : ∀ x ∈ ns, (x.1 == ("__debug__" : Str)) = false
inductive RS (K : Frag) (mg mb : Str → Option Value) (env : Env) (ns : NK) (own : List Nat) (X : Addr → Prop) (h0 : Heap) (O : Nat → Option Addr) (h : Heap) (Γ' : List D) (h' : Heap) : Prop
  | mk (O' : Nat → Option Addr) (r : Rep K mg mb env ns own X h0 O' h' Γ') (st : Step env.locals O h O' h') : RS K mg mb env ns own X h0 O h Γ' h'
noncomputable def Post (K : Frag) (mg mb : Str → Option Value) (env : Env) (ns : NK) (own : List Nat) (X : Addr → Prop) (h0 : Heap) (O : Nat → Option Addr) (h : Heap) (fl : Fl) (Γ' : List D) : Flow → Heap → Prop := fun f h' => match fl with
  | .next => f = .next ∧ RS K mg mb env ns own X h0 O h Γ' h'
  | .brk => f = .brk ∧ RS K mg mb env ns own X h0 O h Γ' h'
  | .cont => f = .cont ∧ RS K mg mb env ns own X h0 O h Γ' h'
  | .ret d => ∃ v, f = .ret v ∧ Grow h0 h' ∧ V h' X v d
section
variable {prog : Program} {w : World} {s0 : Shared} {K : Frag} {mg mb : Str → Option Value} {A : Around} {X : Addr → Prop} {env : Env} {h h1 h0 : Heap}
  {F : FO} {own : List Nat} {k n : Nat} {ns : NK} {Γ Γ' : List D} {O O' : Nat → Option Addr}
theorem Post.from {O1 : Nat → Option Addr} {fl : Fl} {f : Flow} {h' : Heap} (st : Step env.locals O h O1 h1) (x : Post K mg mb env ns own X h0 O1 h1 fl Γ' f h') : Post K mg mb env ns own X h0 O h fl Γ' f h' := by
  cases fl with
  | next => obtain ⟨a, O', b, c⟩ := x; exact ⟨a, O', b, st.trans c⟩
  | brk => obtain ⟨a, O', b, c⟩ := x; exact ⟨a, O', b, st.trans c⟩
  | cont => obtain ⟨a, O', b, c⟩ := x; exact ⟨a, O', b, st.trans c⟩
  | ret d => exact x
theorem Rep.slot (r : Rep K mg mb env ns own X h0 O h Γ) (ok : OkNs ns own) {x : Str} {i : Nat} {d : D} (hx : slotOf ns x = some i) (hg : Γ[i]? = some d) (hd : d ≠ .undef) :
    ∃ v, Sl own h (Bar X env.locals O) O i v d ∧ (∀ {s0 : Shared} {Q : Value → Heap → Prop}, Q v h → EV prog w A s0 (loadName env x) h Q) ∧ ∀ {s0 : Shared} {pos : Pos} {Q : Value → Heap → Prop}, Q v h → EV prog w A s0 (eval (.Name x pos) env) h Q := by
  refine zA (slotOf_get hx) fun e1 e2 => ?_
  refine zEA (r.loc) fun m hn hl => ?_
  refine zEA (hl i x d e1 hg hd) fun v hv hs => ?_
  have ld : ∀ {s0 : Shared} {Q : Value → Heap → Prop}, Q v h → EV prog w A s0 (loadName env x) h Q := fun q tk =>
    wpAny_loadName_local r.eo.kind (r.eo.look _ _ e2 (.inl rfl)) hn hv (pst (q))
  exact ⟨v, hs, ld, fun q tk => wpAny_Name (ld q tk) (ok.db _ (List.mem_of_getElem? e1))⟩
set_option tactic.hygienic true in
theorem clr_of {i : Nat} {d d' : D} (h : clr i d = d') (hd : d' ≠ .undef) : d = d' ∧ d' ≠ .meth i := by
  unfold clr at h
  split at h
  · split at h
    · exact absurd h.symm hd
    · rename_i hj
      subst h
      exact ⟨rfl, fun q => by cases q; exact hj rfl⟩
  · rename_i hn
    subst h
    exact ⟨rfl, fun q => hn _ q⟩
set_option tactic.hygienic true in
theorem get_setv {i j : Nat} {d d' : D} (hji : j ≠ i) (h : (setv own i d Γ)[j]? = some d') (hd : d' ≠ .undef) : Γ[j]? = some d' ∧ (own.contains i = true → d' ≠ .meth i) := by
  unfold setv at h
  rw [List.getElem?_set_ne (Ne.symm hji)] at h
  split at h
  · rw [List.getElem?_map] at h
    refine zEA (Option.map_eq_some_iff.mp h) fun z e1 e2 => ?_
    refine zA (clr_of e2 hd) ?_; rintro rfl q
    exact ⟨e1, fun _ => q⟩
  · rename_i hc
    exact ⟨h, fun q => absurd q hc⟩
theorem get_setv_self {i : Nat} {d d' : D} (h : (setv own i d Γ)[i]? = some d') : d' = d := by
  unfold setv at h
  generalize (if own.contains i then Γ.map (clr i) else Γ) = l at h
  rw [List.getElem?_set, if_pos rfl] at h
  split at h <;> (first | exact nos h | (refine y1 h ?_; clear h))
  rfl
set_option tactic.hygienic true in
theorem set_ok (r : Rep K mg mb env ns own X h0 O h Γ) (ok : OkNs ns own) {i : Nat} {x : Str} (hx : slotOf ns x = some i) {v : Value} {d : D} {fr : Bool} (hf : own.contains i = true → isL d = true → fr = true)
    (q : Out false fr h (Bar X env.locals O) d v h1) : EV prog w A s0 (storeName env x v) h1 (fun _ h' => RS K mg mb env ns own X h0 O h (setv own i d Γ) h') := by
  refine zAAA q ?_; clear q; intro g _ hv hn
  have hv := hv rfl
  cases ho : own.contains i
  · refine (store_ok (Γ' := setv own i d Γ) (d := d) r ok.nd g hx (fun j a e => .inl e) r.inj (fun _ => .plain (by rw [ho]; rfl) hv) (fun d' e _ => get_setv_self e) fun j d' hji e hu => ?_).mono fun _ h' z => ⟨O, z.1, z.2⟩
    exact ⟨(get_setv hji e hu).1, fun _ => rfl, fun _ _ => rfl⟩
  · cases hl : isL d
    · refine (store_ok (Γ' := setv own i d Γ) (d := d) (O' := fun j => if j = i then none else O j) r ok.nd g hx (fun j a e => ?_) (fun j k a e1 e2 => ?_) (fun _ => .plain (by rw [hl, Bool.and_false]) (hv.less fun a => ?_)) (fun d' e _ => get_setv_self e) fun j d' hji e hu => ?_).mono fun _ h' z => ⟨_, z.1, z.2⟩
      · split at e
        · exact nos e
        · exact .inl e
      · split at e1
        · exact nos e1
        · split at e2
          · exact nos e2
          · exact r.inj _ _ _ e1 e2
      · rintro (q | q | ⟨j, q⟩)
        · exact .inl q
        · exact .inr (.inl q)
        · dsimp only at q
          split at q
          · exact nos q
          · exact .inr (.inr ⟨j, q⟩)
      · refine zA (get_setv hji e hu) fun z1 z2 => ?_
        refine ⟨z1, fun _ => if_neg hji, fun k hk => if_neg fun q => z2 ho (by rw [hk, q])⟩
    · cases d with
      | list ds =>
        replace hn := hn (hf ho rfl) rfl
        obtain ⟨a, vs, nn, rfl, hp, nx, hs⟩ : ∃ a vs nn, v = .ref a ∧ h1.get? a = some (listO vs.toArray nn) ∧ ¬ Bar X env.locals O a ∧ Vs h1 (Bar X env.locals O) vs ds := by
          cases hv with | list hp nx hs => exact ⟨_, _, _, rfl, hp, nx, hs⟩
        have ha := hn a rfl
        have big : V h1 (Bar X env.locals O) (.ref a) (.list ds) := .list hp nx hs
        have hO' : ∀ j b, (if j = i then some a else O j) = some b → O j = some b ∨ (b = a ∧ j = i) := fun j b e => by
          split at e
          · refine y1 e ?_; clear e; rename_i q; exact .inr ⟨rfl, q⟩
          · exact .inl e
        have hB : ∀ b, Bar X env.locals (fun j => if j = i then some a else O j) b → Bar X env.locals O b ∨ b = a := by
          rintro b (q | q | ⟨j, q⟩)
          · exact .inl (.inl q)
          · exact .inl (.inr (.inl q))
          · exact (hO' j b q).elim (fun z => .inl (.inr (.inr ⟨j, z⟩))) fun z => .inr z.1
        refine (store_ok (Γ' := setv own i (.list ds) Γ) (d := .list ds) (O' := fun j => if j = i then some a else O j) r ok.nd g hx (fun j b e => ?_) (fun j k b e1 e2 => ?_)
          (fun _ => .own ho (if_pos rfl) rfl hp ((Vs.off big hs (by simp only [D.list.sizeOf_spec]; omega)).less hB)) (fun d' e _ => get_setv_self e) fun j d' hji e hu => ?_).mono fun _ h' z => ⟨_, z.1, z.2⟩
        · exact (hO' j b e).imp id fun z => by rw [z.1]; exact ⟨ha, by rw [hp]; rfl⟩
        · rcases hO' j b e1 with q1 | ⟨q1, q1'⟩
          · rcases hO' k b e2 with q2 | ⟨q2, q2'⟩
            · exact r.inj _ _ _ q1 q2
            · have := r.th b (.inr (.inr ⟨j, q1⟩)); rw [q2, ha] at this; exact bf this
          · rcases hO' k b e2 with q2 | ⟨q2, q2'⟩
            · have := r.th b (.inr (.inr ⟨k, q2⟩)); rw [q1, ha] at this; exact bf this
            · rw [q1', q2']
        · refine zA (get_setv hji e hu) fun z1 z2 => ?_
          exact ⟨z1, fun _ => if_neg hji, fun k hk => if_neg fun q => z2 ho (by rw [hk, q])⟩
      | _ => exact bf hl
set_option tactic.hygienic true in
theorem move_ok (r : Rep K mg mb env ns own X h0 O h Γ) (ok : OkNs ns own) {i j : Nat} {x : Str} (hx : slotOf ns x = some i) (hi : own.contains i = false) (hj : own.contains j = true) {v : Value} {ds : List D} (hv : Sl own h (Bar X env.locals O) O j v (.list ds)) :
    EV prog w A s0 (storeName env x v) h (fun _ h' => RS K mg mb env ns own X h0 O h (setv own j .undef (setv own i (.list ds) Γ)) h') := by
  have hij : i ≠ j := fun q => by rw [q, hj] at hi; exact bf hi.symm
  cases hv with
  | plain a b => rw [hj] at a; exact bf a.symm
  | own a1 a2 a3 a4 a5 =>
    rename_i a vs nn
    refine yl a3 ?_; clear a3
    have hB : ∀ b, Bar X env.locals (fun l => if l = j then none else O l) b → Bar X env.locals O b := by
      rintro b (q | q | ⟨l, q⟩)
      · exact .inl q
      · exact .inr (.inl q)
      · dsimp only at q
        split at q
        · exact nos q
        · exact .inr (.inr ⟨l, q⟩)
    have na : ¬ Bar X env.locals (fun l => if l = j then none else O l) a := by
      rintro (q | q | ⟨l, q⟩)
      · exact (r.nO _ _ a2).2.2 q
      · exact (r.nO _ _ a2).2.1 q
      · dsimp only at q
        split at q
        · exact nos q
        · rename_i hl; exact hl (r.inj _ _ _ q a2)
    refine (store_ok (Γ' := setv own j .undef (setv own i (.list ds) Γ)) (d := .list ds) (O' := fun l => if l = j then none else O l) r ok.nd (.refl h) hx (fun l b e => ?_) (fun l k b e1 e2 => ?_)
      (fun _ => .plain (by rw [hi]; rfl) (.list a4 na (a5.less hB))) (fun d' e hu => get_setv_self (get_setv hij e hu).1) fun l d' hli e hu => ?_).mono fun _ h' z => ⟨_, z.1, z.2⟩
    · split at e
      · exact nos e
      · exact .inl e
    · split at e1
      · exact nos e1
      · split at e2
        · exact nos e2
        · exact r.inj _ _ _ e1 e2
    · by_cases hlj : l = j
      · subst hlj
        exact absurd (get_setv_self e) hu
      · refine zA (get_setv hlj e hu) fun z1 z2 => ?_
        exact ⟨(get_setv hli z1 hu).1, fun _ => if_neg hlj, fun k hk => if_neg fun q => z2 hj (by rw [hk, q])⟩
theorem Step.x {h' : Heap} (st : Step env.locals O h O' h') : GrowX (Bar X env.locals O) h h' := fun b o nb e => st.keep b o (fun q => nb (.inr (.inl q))) (fun i q => nb (.inr (.inr ⟨i, q⟩))) e
theorem Rep.bar {C : Addr} (r : Rep K mg mb env ns own X h0 O h Γ) (g : Grow h h1) (hn : h.get? C = none) (hs : (h1.get? C).isSome = true) : Rep K mg mb env ns own (fun b => X b ∨ b = C) h0 O h1 Γ := by
  have hb : ∀ a, (h.get? a).isSome = true → ¬ Bar X env.locals O a → ¬ Bar (fun b => X b ∨ b = C) env.locals O a := by
    rintro a ha nb ((q | q) | q | q)
    · exact nb (.inl q)
    · rw [q, hn] at ha; exact bf ha
    · exact nb (.inr (.inl q))
    · exact nb (.inr (.inr q))
  have nC : ∀ a, (h.get? a).isSome = true → a ≠ C := fun a ha q => by rw [q, hn] at ha; exact bf ha
  refine ⟨r.eo, r.wo, r.old.trans g, ?_, ⟨r.nL.1, fun q => q.elim r.nL.2 (nC _ (r.th _ (.inr (.inl rfl))))⟩, fun i a e => ⟨(r.nO i a e).1, (r.nO i a e).2.1, fun q => q.elim (r.nO i a e).2.2 (nC _ (r.th _ (.inr (.inr ⟨i, e⟩))))⟩, r.inj, ?_⟩
  · rintro a ((q | q) | q | q)
    · exact g.live _ (r.th a (.inl q))
    · rw [q]; exact hs
    · exact g.live _ (r.th a (.inr (.inl q)))
    · exact g.live _ (r.th a (.inr (.inr q)))
  · refine zEA (r.loc) fun m hm hl => ?_
    exact ⟨m, hm.keeps g, fun i x d e1 e2 hu => let ⟨v, p, q⟩ := hl i x d e1 e2 hu; ⟨v, p, (q.bar hb (fun _ => rfl) (fun _ _ => rfl)).keep g⟩⟩
theorem Sl.keepG {B : Addr → Prop} {i : Nat} {v : Value} {d : D} (x : Sl own h B O i v d) (g : GrowX B h h1) (hO : ∀ i a o, O i = some a → h.get? a = some o → h1.get? a = some o) : Sl own h1 B O i v d := by
  cases x with
  | plain a b => exact .plain a (b.keep g)
  | own a b c e f => exact .own a b c (hO _ _ _ b e) (f.keep g)
  | meth a b c e f => exact .meth a (g _ _ c b) c e f
theorem Rep.touch {C : Addr} (r : Rep K mg mb env ns own X h0 O h Γ) (hX : X C) (hC : h0.get? C = none) (g : Heap.ExtBut C h h1) (hs : (h1.get? C).isSome = true) : Rep K mg mb env ns own X h0 O h1 Γ := by
  have nL : env.locals ≠ C := fun q => r.nL.2 (q ▸ hX)
  have nO : ∀ i a, O i = some a → a ≠ C := fun i a e q => (r.nO i a e).2.2 (q ▸ hX)
  have lv : ∀ a, (h.get? a).isSome = true → (h1.get? a).isSome = true := fun a e => by
    by_cases q : a = C
    · rw [q]; exact hs
    · refine zE (Option.isSome_iff_exists.mp e) fun o z => ?_
      rw [g a o q z]; rfl
  refine ⟨r.eo, r.wo, fun b o e => g b o (fun q => by rw [q, hC] at e; exact nos e) (r.old b o e), fun a q => lv _ (r.th a q), r.nL, r.nO, r.inj, ?_⟩
  refine zEA (r.loc) fun m hm hl => ?_
  refine ⟨m, hm.at fun o e => g _ o nL e, fun i x d e1 e2 hu => let ⟨v, p, q⟩ := hl i x d e1 e2 hu; ⟨v, p, q.keepG (GrowX.of_ext g (.inl hX)) fun i a o e z => g a o (nO i a e) z⟩⟩
theorem Rep.unbar {Y : Addr → Prop} (r : Rep K mg mb env ns own Y h0 O h Γ) (hY : ∀ a, X a → Y a) : Rep K mg mb env ns own X h0 O h Γ := by
  have hb : ∀ a, Bar X env.locals O a → Bar Y env.locals O a := fun a q => q.imp (hY a) id
  refine ⟨r.eo, r.wo, r.old, fun a q => r.th a (hb a q), ⟨r.nL.1, fun q => r.nL.2 (hY _ q)⟩, fun i a e => ⟨(r.nO i a e).1, (r.nO i a e).2.1, fun q => (r.nO i a e).2.2 (hY _ q)⟩, r.inj, ?_⟩
  refine zEA (r.loc) fun m hm hl => ?_
  exact ⟨m, hm, fun i x d e1 e2 hu => let ⟨v, p, q⟩ := hl i x d e1 e2 hu; ⟨v, p, q.bar (fun a _ nb z => nb (hb a z)) (fun _ => rfl) (fun _ _ => rfl)⟩⟩
theorem Rep.drop {C : Addr} (r : Rep K mg mb env ns own (fun b => X b ∨ b = C) h0 O h Γ) (hX : ¬ X C) (hC : h0.get? C = none) (g : Heap.ExtBut C h h1) : Rep K mg mb env ns own X h0 O h1 Γ := by
  have nL : env.locals ≠ C := fun q => r.nL.2 (.inr q)
  have nO : ∀ i a, O i = some a → a ≠ C := fun i a e q => (r.nO i a e).2.2 (.inr q)
  have hb : ∀ a, Bar X env.locals O a → Bar (fun b => X b ∨ b = C) env.locals O a := fun a q => q.imp .inl id
  have nB : ∀ a, Bar X env.locals O a → a ≠ C := by
    rintro a (q | q | ⟨i, q⟩) z
    · exact hX (z ▸ q)
    · exact nL (q.symm.trans z)
    · exact nO i a q z
  have lv : ∀ a, a ≠ C → (h.get? a).isSome = true → (h1.get? a).isSome = true := fun a q e => by
    refine zE (Option.isSome_iff_exists.mp e) fun o z => ?_
    rw [g a o q z]; rfl
  refine ⟨r.eo, r.wo, fun b o e => g b o (fun q => by rw [q, hC] at e; exact nos e) (r.old b o e), fun a q => lv a (nB a q) (r.th a (hb a q)), ⟨r.nL.1, fun q => r.nL.2 (.inl q)⟩, fun i a e => ⟨(r.nO i a e).1, (r.nO i a e).2.1, fun q => (r.nO i a e).2.2 (.inl q)⟩, r.inj, ?_⟩
  refine zEA (r.loc) fun m hm hl => ?_
  refine ⟨m, hm.at fun o e => g _ o nL e, fun i x d e1 e2 hu => let ⟨v, p, q⟩ := hl i x d e1 e2 hu; ⟨v, p, ?_⟩⟩
  exact (q.keepG (GrowX.of_ext g (.inl (.inr rfl))) fun i a o e z => g a o (nO i a e) z).bar (fun a _ nb z => nb (hb a z)) (fun _ => rfl) (fun _ _ => rfl)
theorem V.atom {h : Heap} {X Y : Addr → Prop} {v : Value} {d : D} (x : V h X v d) (ha : atom d = true) : V h Y v d := by
  cases x <;> first | (constructor; done) | exact bf ha
theorem Vs.atoms {h : Heap} {X Y : Addr → Prop} {vs : List Value} {ds : List D} (x : Vs h X vs ds) : ds.all atom = true → Vs h Y vs ds :=
  x.ind (P := fun vs ds => ds.all atom = true → Vs h Y vs ds) (fun _ => .nil) fun _ _ _ _ a _ ih e => by
    have e := Bool.and_eq_true_iff.mp e
    exact .cons (a.atom e.1) (ih e.2)
noncomputable def nm : Mine.E → Bool
  | .var _ => true
  | _ => false
theorem nm_pl {E : Mine.E} (h : pl E = true) : nm E = false := by
  cases E with
  | var => exact bf h
  | _ => rfl
theorem nm_no {E : Mine.E} {j : Nat} {P : Prop} (h : nm E = false) (e : E = .var j) : P := by subst e; exact bf h.symm
theorem nameE_var {x : Str} {j : Nat} (he : nameE ns x = .var j) : slotOf ns x = some j := by
  unfold nameE at he
  by_cases h1 : (x == Str.ofString "__debug__") = true
  · rw [if_pos h1] at he; exact E.noConfusion he
  · rw [if_neg h1] at he
    cases hs : slotOf ns x with
    | some i => rw [hs] at he; injection he with he; rw [he]
    | none =>
      rw [hs] at he
      refine nm_no ?_ he
      show nm (if isG ns x = true then _ else _) = false
      by_cases h2 : isG ns x = true
      · rw [if_pos h2]
        by_cases h3 : x = Str.ofString "_B64"
        · rw [if_pos h3]; rfl
        · rw [if_neg h3]; cases named tyNames x <;> rfl
      · rw [if_neg h2]; rfl
theorem var_exact {j : Nat} : ∀ (n : Nat) (e : PySem.Expr), era n ns e = .var j → ∃ y, slotOf ns y = some j ∧ ∀ {s0 : Shared} {Q : Value → Heap → Prop} {h : Heap}, (∀ p, EV prog w A s0 (eval (.Name y p) env) h Q) → EV prog w A s0 (eval e env) h Q
  | 0, e, he => E.noConfusion he
  | n + 1, e, he => by
    cases e with
    | Name x p => exact ⟨x, nameE_var he, fun q => q p⟩
    | UnaryOp op x p => cases op <;> exact nm_no rfl he
    | IfExp c a b p =>
      refine nm_no ?_ he
      show nm (if (vName c).isSome = true then _ else _) = false
      by_cases h : (vName c).isSome = true
      · rw [if_pos h]; rfl
      · rw [if_neg h]; rfl
    | BoolOp op vs p =>
      match vs with
      | [] => cases op <;> exact nm_no rfl he
      | [v] =>
        have : era n ns v = .var j := by cases op <;> exact he
        refine zEA (var_exact n v this) fun y h1 h2 => ?_
        exact ⟨y, h1, fun q => by rw [evalBool_one]; exact h2 q⟩
      | _ :: _ :: _ => cases op <;> exact nm_no rfl he
    | _ => exact nm_no (nm_pl (pl_era rfl)) he
theorem swaps_no {v : PySem.Expr} {t : Option PySem.Expr} {l : Nat} (hv : isLC v = false) : swapsWith v t l env = pure false := by
  cases v <;> first | rfl | exact bf hv.symm
theorem swaps_name {elt : PySem.Expr} {gens : List Comprehension} {scope : Scope} {pos p : Pos} {x : Str} {l : Nat} : ∃ b, swapsWith (.ListComp elt gens scope pos) (some (.Name x p)) l env = pure b := ⟨_, rfl⟩
theorem asgE_ok (gl : Glo K mg) (orc : Orc prog w K mg mb k F) (hR : Room k A) (r : Rep K mg mb env ns own X h0 O h Γ) (ok : OkNs ns own) {i : Nat} {x : Str} {p pos : Pos} {v : PySem.Expr} {d : D} (hx : slotOf ns x = some i)
    (hs : swapsWith v (some (.Name x p)) pos.line env = pure false) (e : ev F own false Γ (era n ns v) = some d) (hf : own.contains i = true → isL d = true → fresh (era n ns v) = true) :
    EV prog w A s0 (exec (.Assign [.Name x p] v pos) env) h (Post K mg mb env ns own X h0 O h .next (setv own i d Γ)) := fun tk =>
  wpAny_Assign_Name ((ev_sound gl orc n s0 env ns _ Γ false A v h d hR e r.rd).out fun va h1 tk1 q =>
    (set_ok r ok hx hf q).out fun _ h2 tk2 z => (pst ⟨rfl, z⟩)) hs
theorem evalThenUse_LC {elt : PySem.Expr} {gens : List Comprehension} {scope : Scope} {pos : Pos} {u : Value → Sem Unit} : evalThenUse (.ListComp elt gens scope pos) env u = (do
    let _ ← comprehension (.ListComp elt gens scope pos) scope env (firstIterPos gens pos) (newList []) (firstAsync gens) (firstIter gens env) (some u)) := rfl
theorem asgC_ok (gl : Glo K mg) (orc : Orc prog w K mg mb k F) (hR : Room k A) (r : Rep K mg mb env ns own X h0 O h Γ) (ok : OkNs ns own) {i : Nat} {y x : Str} {p0 p pos cpos : Pos} {elt it : PySem.Expr} {scope : Scope} {d : D} (hy : slotOf ns y = some i)
    (hsw : swapsWith (.ListComp elt [⟨.Name x p, it, [], 0⟩] scope cpos) (some (.Name y p0)) pos.line env = pure true)
    (hk : scope.kind = .function) (hp : plainNames scope.names = true) (hx : slotOf scope.names x = some 1)
    (hn : keysOnce scope.names = true) (hf : ∀ x, foldedSetIterable it env x = Pure.pure x) (e : ev F own false Γ (.comp (era n scope.names elt) (era n ns it)) = some d) (ho : (own.contains i && isL d) = false) :
    EV prog w A s0 (exec (.Assign [.Name y p0] (.ListComp elt [⟨.Name x p, it, [], 0⟩] scope cpos) pos) env) h (Post K mg mb env ns own X h0 O h .next (setv own i d Γ)) := fun tk => by
  have ih := ev_sound (own := own) gl orc n
  have rr := r.rd
  revert ho; refine ev_comp_of e fun c xs l ec hxs hl hz ho => ?_
  simp only [Bool.and_eq_true, decide_eq_true_eq] at hz
  rw [exec_Assign_Name_used _ _ _ _ hsw, evalThenUse_LC]
  refine wpAny_bind (wpAny_standAt ?_)
  have fin : ∀ (s : Shared), (∃ h' tk', s = (sAt s0 h' tk') ∧ Post K mg mb env ns own X h0 O h .next (setv own i (.list l) Γ) .next h') → wpAny (model prog w) A (Pure.pure Flow.next) (fun a s' => ∃ h' tk', s' = (sAt s0 h' tk') ∧ Post K mg mb env ns own X h0 O h .next (setv own i (.list l) Γ) a h') (fun _ _ => False) s := fun s q => wpAny_pure q
  refine wpAny_bind (wpAny_bind (wpAny_mono (wpAny_comprehension_free (Q := fun _ s => ∃ h' tk', s = (sAt s0 h' tk') ∧ Post K mg mb env ns own X h0 O h .next (setv own i (.list l) Γ) .next h') (use := some (assign (.Name y p0) env)) rfl hf (closureFor_none (plain_free hp).1) hk (keys_once hn)
    ((ih s0 env ns _ Γ false A it h c hR ec rr).out fun v h1 tk1 q => (iter_ok hR.hd (rr.th.grow q.1) hxs (q.2.2.1 rfl)).out fun iv h2 tk2 z => ?_)) (fun _ s q => wpAny_pure (fin s q)) fun _ _ z => z))
  obtain ⟨g2, I, fp, P, St, m, rfl, it⟩ := z
  have r1 := rr.grow q.1
  refine comp_block_walkC (RR := fun acc C => compPost (model prog w) A (fun _ _ => False) (some (assign (.Name y p0) env)) (fun _ s => ∃ h' tk', s = (sAt s0 h' tk') ∧ Post K mg mb env ns own X h0 O h .next (setv own i (.list l) Γ) .next h') acc C) it.wk (by rw [it.len]; unfold sizeLine; omega)
    (fun _ => true) (EltR h1 _ fun d => ev F own false [.undef, d] (era n scope.names elt)) (plain_free hp).2 hk (slotOf_get hx).2 it.st it.lt (comp_quiet ih r1 hR hk hp hx g2 it hl hz.1 tk2) ?_
  intro D C h' tk m' ys vs hD hC hDC hN _ hpl hlen hP hF hkeep
  have g3 : Grow h1 h' := it.old g2 hkeep
  have gh : Grow h h' := q.1.trans g3
  refine zE hpl ?_; clear hpl; intro nn hpl
  have hC0 : h.get? C = none := by
    cases q' : h.get? C with
    | none => rfl
    | some ob => have := g2 _ _ (q.1 _ _ q'); rw [hC] at this; exact nos this
  have hD0 : h.get? D = none := by
    cases q' : h.get? D with
    | none => rfl
    | some ob => have := g2 _ _ (q.1 _ _ q'); rw [hD] at this; exact nos this
  have hCs : (h'.get? C).isSome = true := by refine zEEEA hN ?_; clear hN; intro o _ _ e _; rw [e]; rfl
  have rb := r.bar gh hC0 hCs
  have nX : ¬ Bar (fun b => X b ∨ b = C) env.locals O D := by
    rintro ((q' | q') | q' | ⟨j, q'⟩)
    · have := r.th _ (.inl q'); rw [hD0] at this; exact bf this
    · exact hDC q'
    · have := r.th env.locals (.inr (.inl rfl)); rw [← q', hD0] at this; exact bf this
    · have := r.th _ (.inr (.inr ⟨j, q'⟩)); rw [hD0] at this; exact bf this
  have vv : V h' (Bar (fun b => X b ∨ b = C) env.locals O) (.ref D) (.list l) := .list (by simpa using hpl) nX ((comp_vals it hl hlen hP hF).atoms hz.1)
  show wpAny _ _ (assign (.Name y p0) env (.ref D)) _ _ _
  refine assign_Name ((set_ok rb ok hy (fr := false) (fun a b => by rw [a, b] at ho; cases ho) ⟨.refl _, vv.w, fun _ => vv, fun q => by cases q⟩).out fun _ h2 tk2 z => ?_)
  obtain ⟨O', r2, st⟩ := z
  have nC : C ≠ env.locals := fun q => by have := r.th env.locals (.inr (.inl rfl)); rw [← q, hC0] at this; cases this
  have nO : ∀ j, O j ≠ some C := fun j q => by have := r.th _ (.inr (.inr ⟨j, q⟩)); rw [hC0] at this; cases this
  refine ⟨m', hN.at fun o e => st.keep C o nC nO e, fun h3 hs => (pst ⟨rfl, O', ?_, ?_⟩)⟩
  · have h0C : h0.get? C = none := by
      cases q' : h0.get? C with
      | none => rfl
      | some ob => have := r.old _ _ q'; rw [hC0] at this; cases this
    refine r2.drop (fun q => ?_) h0C hs.extBut
    have := r.th C (.inl q); rw [hC0] at this; cases this
  · refine ⟨fun b o e1 e2 e3 => ?_, fun b e => ?_, fun j a e => ?_⟩
    · have nb : b ≠ C := fun q => by rw [q, hC0] at e3; cases e3
      exact (hs.2 b nb).trans (st.keep b o e1 e2 (gh _ _ e3))
    · have nb : b ≠ C := fun q => by rw [q, hC0] at e; cases e
      rw [hs.2 b nb]
      exact st.live b (gh.live b e)
    · exact (st.new j a e).imp id fun z => by
        cases q' : h.get? a with
        | none => rfl
        | some ob => have := gh _ _ q'; rw [z] at this; cases this
set_option tactic.hygienic true in
theorem era_comp {n : Nat} {e : PySem.Expr} (h : isLC e = true) (hb : era n ns e ≠ .bad) : ∃ m elt x p it scope pos, n = m + 1 ∧ e = .ListComp elt [⟨.Name x p, it, [], 0⟩] scope pos ∧
    (scope.kind = .function ∧ plainNames scope.names = true ∧ slotOf scope.names x = some 1 ∧ keysOnce scope.names = true) ∧ era n ns e = .comp (era m scope.names elt) (era m ns it) := by
  cases n with
  | zero => exact absurd rfl hb
  | succ n =>
    cases e with
    | ListComp elt gs sc pos =>
      change eComp (era n sc.names) (era n ns) elt sc gs ≠ .bad at hb
      change ∃ m elt' x p it scope pos', n + 1 = m + 1 ∧ _ ∧ _ ∧ eComp (era n sc.names) (era n ns) elt sc gs = _
      unfold eComp at hb ⊢
      split at hb
      · rename_i x it
        cases hx : vName x with
        | none => simp only [hx] at hb; exact absurd rfl hb
        | some y =>
          rw [hx] at hb
          refine zE (vName_of hx) ?_; rintro p rfl
          dsimp only at hb ⊢
          by_cases hc : sc.kind = .function ∧ plainNames sc.names = true ∧ slotOf sc.names y = some 1 ∧ keysOnce sc.names = true
          · exact ⟨n, elt, y, p, it, sc, pos, rfl, rfl, hc, if_pos hc⟩
          · rw [if_neg hc] at hb; exact absurd rfl hb
      · exact absurd rfl hb
    | SetComp => exact absurd rfl hb
    | DictComp => exact absurd rfl hb
    | _ => exact bf h
theorem nm_var {E : Mine.E} (h : nm E = true) : ∃ j, E = .var j := by
  cases E with
  | var j => exact ⟨j, rfl⟩
  | _ => exact bf h
theorem asg_rest {E : Mine.E} {i : Nat} {fl : Fl} (hv : nm E = false) (e : run F own (.asg i E) Γ = some (fl, Γ')) : ∃ d, ev F own false Γ E = some d ∧ (own.contains i && isL d && !fresh E) = false ∧ fl = .next ∧ Γ' = setv own i d Γ := by
  have fin : ∀ {o : Option D}, (match o with | some d => if (own.contains i && isL d && !fresh E) = true then none else some (Fl.next, setv own i d Γ) | none => none) = some (fl, Γ') → ∃ d, o = some d ∧ (own.contains i && isL d && !fresh E) = false ∧ fl = .next ∧ Γ' = setv own i d Γ := fun {o} e => by
    cases o with
    | none => exact nos e
    | some d =>
      change (if (own.contains i && isL d && !fresh E) = true then none else some (Fl.next, setv own i d Γ)) = some (fl, Γ') at e
      cases hc : (own.contains i && isL d && !fresh E) with
      | true => rw [hc] at e; exact nos e
      | false => rw [hc] at e; injection e with e; injection e with e1 e2; exact iEAAA d rfl hc e1.symm e2.symm
  cases E with
  | var j => exact bf hv.symm
  | _ => exact fin e
theorem ret_rest {E : Mine.E} {fl : Fl} (hv : nm E = false) (e : run F own (.ret E) Γ = some (fl, Γ')) : ∃ d, ev F own false Γ E = some d ∧ fl = .ret d ∧ Γ' = Γ := by
  have fin : ∀ {o : Option D}, (match o with | some d => some (Fl.ret d, Γ) | none => none) = some (fl, Γ') → ∃ d, o = some d ∧ fl = .ret d ∧ Γ' = Γ := fun {o} e => by
    cases o with
    | none => exact nos e
    | some d => injection e with e; injection e with e1 e2; exact iEAA d rfl e1.symm e2.symm
  cases E with
  | var j => exact bf hv.symm
  | _ => exact fin e
theorem asg_ok (gl : Glo K mg) (orc : Orc prog w K mg mb k F) (hR : Room k A) (r : Rep K mg mb env ns own X h0 O h Γ) (ok : OkNs ns own) {i : Nat} {x : Str} {p pos : Pos} {v : PySem.Expr} {fl : Fl} (hx : slotOf ns x = some i)
    (e : run F own (.asg i (era n ns v)) Γ = some (fl, Γ')) : EV prog w A s0 (exec (.Assign [.Name x p] v pos) env) h (Post K mg mb env ns own X h0 O h fl Γ') := by
  have nb : era n ns v ≠ .bad := fun q => by rw [q] at e; exact nos e
  cases hv : nm (era n ns v)
  · refine zEAAA (asg_rest hv e) ?_; rintro d ed hc rfl rfl
    have hf : own.contains i = true → isL d = true → fresh (era n ns v) = true := fun a b => by
      simp only [a, b] at hc; simpa using hc
    cases hl : isLC v
    · exact asgE_ok gl orc hR r ok hx (swaps_no hl) ed hf
    · obtain ⟨m, elt, y, p2, it, scope, pos2, rfl, rfl, ⟨c1, c2, c3, c4⟩, he⟩ := era_comp hl nb
      obtain ⟨b, hb⟩ := swaps_name (elt := elt) (gens := [⟨.Name y p2, it, [], 0⟩]) (scope := scope) (pos := pos2) (p := p) (x := x) (l := pos.line) (env := env)
      cases b
      · exact asgE_ok gl orc hR r ok hx hb ed hf
      · rw [he] at ed hc
        refine asgC_ok (n := m) gl orc hR r ok hx hb c1 c2 c3 c4 ?_ ed (by
          cases q : (own.contains i && isL d)
          · rfl
          · rw [q] at hc; exact bf hc.symm)
        exact ev_comp_of ed fun _ _ _ ei _ _ _ => set_free ei
  · have hl : isLC v = false := by
      cases hl : isLC v
      · rfl
      · obtain ⟨m, elt, y, p2, it, scope, pos2, rfl, rfl, _, he⟩ := era_comp hl nb
        rw [he] at hv; exact bf hv
    refine zE (nm_var hv) fun j hE => ?_
    rw [hE] at e
    refine run_asgV_of e (fun d hg hu hj hi hij => ?_) fun d hg hu hj hi => ?_
    · simp only [Bool.and_eq_true] at hj
      refine zEA (var_exact (prog := prog) (w := w) (A := A) (env := env) n v hE) fun y hy hex => ?_
      cases d with
      | list ds =>
        obtain ⟨va, sl, _, rd⟩ := r.slot (prog := prog) (w := w) (A := A) ok hy hg (fun q => by cases q)
        exact fun tk => wpAny_Assign_Name ((hex (Q := fun v' h' => v' = va ∧ h' = h) fun p => rd ⟨rfl, rfl⟩).out fun v' h' tk1 q => by
          refine zA q ?_; clear q; rintro rfl rfl
          exact (move_ok r ok hx hi hj.1 sl).out fun _ h2 tk2 z => (pst ⟨rfl, z⟩)) (swaps_no hl)
      | _ => cases hj.2
    · refine asgE_ok (d := d) (n := n) gl orc hR r ok hx (swaps_no hl) ?_ fun a b => by rw [a, b] at hi; exact bf hi.symm
      rw [hE, ev_var, hg]
      show (if (usable d && (false || !(own.contains j && isL d))) = true then some d else none) = some d
      rw [hu, hj]; rfl
theorem aug_ok (gl : Glo K mg) (orc : Orc prog w K mg mb k F) (hR : Room k A) (r : Rep K mg mb env ns own X h0 O h Γ) (ok : OkNs ns own) {i : Nat} {x : Str} {p pos : Pos} {v : PySem.Expr} {op : Operator} {fl : Fl} (hx : slotOf ns x = some i)
    (e : run F own (.aug i op (era n ns v)) Γ = some (fl, Γ')) : EV prog w A s0 (exec (.AugAssign (.Name x p) op v pos) env) h (Post K mg mb env ns own X h0 O h fl Γ') := by
  refine run_aug_of e fun a b hg eb hi => ?_
  obtain ⟨va, sl, ld, rd⟩ := r.slot (prog := prog) (w := w) (A := A) ok hx hg (fun q => by cases q)
  cases sl with | plain a1 a2 =>
  cases a2 with | int _ t =>
  refine fun tk => wpAny_AugAssign_Name ((ld (Q := fun v' h' => v' = .int a t ∧ h' = h) ⟨rfl, rfl⟩).out fun v' h' tk1 q => ?_)
  refine zA q ?_; clear q; rintro rfl rfl
  refine (ev_sound gl orc n s0 env ns _ Γ true A v h' _ hR eb r.rd).out fun vb h2 tk2 q => ?_
  have qb := q.2.1
  cases qb with | int _ u =>
  refine wpAny_iadd_int ?_
  exact (set_ok (fr := false) (d := .int (a + b)) r ok hx (fun a b => by exact bf b) ⟨q.1, .int _ _, fun _ => .int _ _, fun q => by exact bf q⟩).out fun _ h3 tk3 z => (pst ⟨rfl, z⟩)
theorem if_ok (gl : Glo K mg) (orc : Orc prog w K mg mb k F) (hR : Room k A) (r : Rep K mg mb env ns own X h0 O h Γ) {c : PySem.Expr} {a b : List Stmt} {pos : Pos} {fl : Fl} {sa sb : Ss} (e : run F own (.iff (era n ns c) sa sb) Γ = some (fl, Γ'))
    (ia : ∀ h1, runs F own sa Γ = some (fl, Γ') → Rep K mg mb env ns own X h0 O h1 Γ → EV prog w A s0 (execs a env) h1 (Post K mg mb env ns own X h0 O h1 fl Γ'))
    (ib : ∀ h1, runs F own sb Γ = some (fl, Γ') → Rep K mg mb env ns own X h0 O h1 Γ → EV prog w A s0 (execs b env) h1 (Post K mg mb env ns own X h0 O h1 fl Γ')) :
    EV prog w A s0 (exec (.If c a b pos) env) h (Post K mg mb env ns own X h0 O h fl Γ') := fun tk => by
  refine run_iff_of e (fun hc e => ?_) fun hc e => ?_
  · refine wpAny_If ((tv_sound gl orc hR n c h true hc r.rd).out fun t h1 tk1 q => ?_)
    refine zA q ?_; clear q; rintro rfl g
    exact (ia h1 e (r.grow g)).out fun f h2 tk2 z => (pst (z.from (.grow g)))
  · refine wpAny_If ((tv_sound gl orc hR n c h false hc r.rd).out fun t h1 tk1 q => ?_)
    refine zA q ?_; clear q; rintro rfl g
    exact (ib h1 e (r.grow g)).out fun f h2 tk2 z => (pst (z.from (.grow g)))
theorem assert_ok (gl : Glo K mg) (orc : Orc prog w K mg mb k F) (hR : Room k A) (r : Rep K mg mb env ns own X h0 O h Γ) {c : PySem.Expr} {m : Option PySem.Expr} {pos : Pos} {fl : Fl} (e : run F own (.asrt (era n ns c)) Γ = some (fl, Γ')) :
    EV prog w A s0 (exec (.Assert c m pos) env) h (Post K mg mb env ns own X h0 O h fl Γ') := fun tk => by
  refine run_asrt_of e fun hc => ?_
  refine wpAny_Assert_holds ((tv_sound gl orc hR n c h true hc r.rd).out fun t h1 tk1 q => ?_)
  exact ⟨q.1, _, _, rfl, rfl, O, r.grow q.2, .grow q.2⟩
theorem ret_ok (gl : Glo K mg) (orc : Orc prog w K mg mb k F) (hR : Room k A) (r : Rep K mg mb env ns own X h0 O h Γ) (ok : OkNs ns own) {v : PySem.Expr} {pos : Pos} {fl : Fl} (e : run F own (.ret (era n ns v)) Γ = some (fl, Γ')) :
    EV prog w A s0 (exec (.Return (some v) pos) env) h (Post K mg mb env ns own X h0 O h fl Γ') := fun tk => by
  have less : ∀ a, X a → Bar X env.locals O a := fun a q => .inl q
  cases hv : nm (era n ns v)
  · refine zEAA (ret_rest hv e) ?_; rintro d ed rfl rfl
    exact wpAny_Return_some ((ev_sound gl orc n s0 env ns _ _ false A v h d hR ed r.rd).out fun va h1 tk1 q => (pst ⟨va, rfl, r.old.trans q.1, (q.2.2.1 rfl).less less⟩))
  · refine zE (nm_var hv) fun j hE => ?_
    rw [hE] at e
    refine run_retV_of e fun d hg hu => ?_
    refine zEA (var_exact (prog := prog) (w := w) (A := A) (env := env) n v hE) fun y hy hex => ?_
    obtain ⟨va, sl, _, rd⟩ := r.slot (prog := prog) (w := w) (A := A) ok hy hg (fun q => by subst q; cases hu)
    refine wpAny_Return_some ((hex (Q := fun v' h' => v' = va ∧ h' = h) fun p => rd ⟨rfl, rfl⟩).out fun v' h' tk1 q => ?_)
    obtain ⟨rfl, rfl⟩ := q
    refine (pst ⟨_, rfl, r.old, ?_⟩)
    cases sl with
    | plain a b => exact b.less less
    | own a1 a2 a3 a4 a5 => refine yl a3 ?_; clear a3; exact .list a4 (r.nO _ _ a2).2.2 (a5.less less)
    | meth => exact bf hu
theorem notInter (eo : EnvOk env ns) : interactive env = false := by unfold interactive; rw [eo.kind]; rfl
theorem append_ok (r : Rep K mg mb env ns own X h0 O h Γ) (g : Grow h h1) {i : Nat} {a : Addr} {xs : List D} {d : D} {vs : List Value} {nn : Nat} {va : Value} (hown : own.contains i = true) (hO : O i = some a) (hΓ : Γ[i]? = some (.list xs)) (hz : fit xs.length)
    (ho : h.get? a = some (listO vs.toArray nn)) (hv : Vs h (Bar X env.locals O) vs xs) (hd : V h1 (Bar X env.locals O) va d) :
    EV prog w A s0 (call (.builtin "list.append") [.ref a, va]) h1 (fun v h' => v = .none ∧ Rep K mg mb env ns own X h0 O h' (Γ.set i (.list (xs ++ [d]))) ∧ Step env.locals O h O h') := fun tk => by
  have ho1 := g _ _ ho
  have hz' : vs.toArray.size ≤ sizeLine := by simp only [List.size_toArray, hv.length]; exact fits_of hz
  refine call_meets PySem.F.slot_list_append ⟨_, ho1, rfl⟩ PySem.F.entry_list_append (PySem.F.args_list_append_2 _ _) (PySem.list_append a vs.toArray nn va hz') ⟨ho1, _, _, rfl, rfl, ?_⟩
  have up := PySem.IsL.update (h := h1) (l := a) (items := vs.toArray) (n := nn) ho1 (fun x => x.push va)
  rw [show vs.toArray.push va = (vs ++ [va]).toArray by simp] at up
  exact r.mut g hO hΓ hown (Heap.SameBut.update h1 a _) up ((hv.keep (g.x _)).append (.cons hd .nil))
set_option tactic.hygienic true in
theorem app_ok (gl : Glo K mg) (orc : Orc prog w K mg mb k F) (hR : Room k A) (r : Rep K mg mb env ns own X h0 O h Γ) (ok : OkNs ns own) {i : Nat} {x m : Str} {p ap cp pos : Pos} {v : PySem.Expr} {fl : Fl} (hx : slotOf ns x = some i)
    (hm : m = Str.ofString "append") (hs : isStar v = false) (hline : (ap.endLine == cp.line) = true)
    (e : run F own (.app i (era n ns v)) Γ = some (fl, Γ')) : EV prog w A s0 (exec (.Expr (.Call (.Attribute (.Name x p) m ap) [v] [] cp) pos) env) h (Post K mg mb env ns own X h0 O h fl Γ') := by
  refine yl hm ?_; clear hm
  refine run_app_of e fun xs d hg ed hc => ?_
  obtain ⟨va, sl, _, rd⟩ := r.slot (prog := prog) (w := w) (A := A) ok hx hg (fun q => by cases q)
  cases sl with
  | plain a b => rw [hc.1] at a; exact bf a.symm
  | own a1 a2 a3 a4 a5 =>
    rename_i a vs nn
    subst a3
    have main : EV prog w A s0 (eval (.Call (.Attribute (.Name x p) (Str.ofString "append") ap) [v] [] cp) env) h (fun v' h' => v' = .none ∧ Rep K mg mb env ns own X h0 O h' (Γ.set i (.list (xs ++ [d]))) ∧ Step env.locals O h O h') := by
      refine EV.method (baseOf rfl) (by simp) (fun e he => by simp at he; refine yl he ?_; clear he; exact hs) hline (rd ?_)
      refine ⟨"list", "list.append", ?_, PySem.F.slot_list_append, PySem.F.type_list_append, fun s q => ⟨_, by rw [q]; exact a4, rfl⟩, fun b e => by cases e; exact iEA _ a4 rfl, ?_⟩
      · exact PySem.F.plainAttrs_list
      · intro tk
        refine wpAny_items_cons ((ev_sound gl orc n s0 env ns _ Γ false A v h d hR ed r.rd).out fun v' h2 tk2 z => wpAny_items_nil ?_) (by cases v <;> first | rfl | exact bf hs.symm)
        exact (pst (append_ok r z.1 hc.1 a2 hg hc.2 a4 a5 (z.2.2.1 rfl)))
    exact fun tk => wpAny_Expr (main.out fun v' h' tk' q => by refine zA q ?_; clear q; rintro rfl q; exact (pst ⟨rfl, O, q.1, q.2⟩)) (notInter r.eo)
set_option tactic.hygienic true in
theorem pop_ok (hR : Room k A) (r : Rep K mg mb env ns own X h0 O h Γ) (ok : OkNs ns own) {i : Nat} {x m : Str} {p ap cp pos : Pos} {fl : Fl} (hx : slotOf ns x = some i)
    (hm : m = Str.ofString "pop") (hline : (ap.endLine == cp.line) = true)
    (e : run F own (.pop i) Γ = some (fl, Γ')) : EV prog w A s0 (exec (.Expr (.Call (.Attribute (.Name x p) m ap) [] [] cp) pos) env) h (Post K mg mb env ns own X h0 O h fl Γ') := by
  refine yl hm ?_; clear hm
  refine run_pop_of e fun xs s hg hs hc => ?_
  obtain ⟨va, sl, _, rd⟩ := r.slot (prog := prog) (w := w) (A := A) ok hx hg (fun q => by cases q)
  cases sl with
  | plain a b => rw [hc.1] at a; exact bf a.symm
  | own a1 a2 a3 a4 a5 =>
    rename_i a vs nn
    subst a3
    have hne : xs[xs.length - 1]? = some (.str s) := by rw [← List.getLast?_eq_getElem?]; exact hs
    refine zEA (a5.get hne) fun y hy vy => ?_
    cases vy with | str _ t =>
    rw [← a5.length] at hy
    have hz' : vs.toArray.size ≤ sizeLine := by simp only [List.size_toArray, a5.length]; exact fits_of hc.2
    have main : EV prog w A s0 (eval (.Call (.Attribute (.Name x p) (Str.ofString "pop") ap) [] [] cp) env) h (fun v' h' => v' = .str ⟨s.toArray⟩ t ∧ Rep K mg mb env ns own X h0 O h' (Γ.set i (.list xs.dropLast)) ∧ Step env.locals O h O h') := by
      refine EV.method (baseOf rfl) (by simp) (fun e he => by simp at he) hline (rd ?_)
      refine ⟨"list", "list.pop", ?_, PySem.F.slot_list_pop, PySem.F.type_list_pop, fun s q => ⟨_, by rw [q]; exact a4, rfl⟩, fun b e => by cases e; exact iEA _ a4 rfl, ?_⟩
      · exact PySem.F.plainAttrs_list
      · intro tk
        refine wpAny_items_nil (pst (fun tk => ?_))
        refine call_meets PySem.F.slot_list_pop ⟨_, a4, rfl⟩ PySem.F.entry_list_pop (PySem.F.args_list_pop_1 _) (MeetsSeq.list_pop_last a vs.toArray nn (.str ⟨s.toArray⟩ t) (by simpa using hy) hz') ⟨a4, _, _, rfl, rfl, ?_⟩
        have up := PySem.IsL.update (h := h) (l := a) (items := vs.toArray) (n := nn) a4 (fun x => x.eraseIdxIfInBounds (vs.toArray.size - 1))
        have ee : vs.toArray.eraseIdxIfInBounds (vs.toArray.size - 1) = vs.dropLast.toArray := by
          have hl : vs.length - 1 < vs.length := (List.getElem?_eq_some_iff.mp hy).1
          simp only [Array.eraseIdxIfInBounds, List.size_toArray, hl, dif_pos]
          rw [List.eraseIdx_toArray]
          congr 1
          rw [List.eraseIdx_eq_take_drop_succ, List.dropLast_eq_take, List.drop_eq_nil_of_le (by omega), List.append_nil]
        rw [ee] at up
        refine r.mut (.refl h) a2 hg hc.1 (Heap.SameBut.update h a _) up ?_
        rw [List.dropLast_eq_take, List.dropLast_eq_take, a5.length]
        exact a5.take _
    exact fun tk => wpAny_Expr (main.out fun v' h' tk' q => by refine zA q ?_; clear q; rintro rfl q; exact (pst ⟨rfl, O, q.1, q.2⟩)) (notInter r.eo)
set_option tactic.hygienic true in
theorem setI_ok (gl : Glo K mg) (orc : Orc prog w K mg mb k F) (hR : Room k A) (r : Rep K mg mb env ns own X h0 O h Γ) (ok : OkNs ns own) {i : Nat} {x : Str} {p sp pos : Pos} {v ix : PySem.Expr} {fl : Fl} (hx : slotOf ns x = some i)
    (e : run F own (.setI i (era n ns ix) (era n ns v)) Γ = some (fl, Γ')) : EV prog w A s0 (exec (.Assign [.Subscript (.Name x p) ix sp] v pos) env) h (Post K mg mb env ns own X h0 O h fl Γ') := by
  refine run_setI_of e fun d xs j ed hg ej hc => ?_
  obtain ⟨va, sl, _, rd⟩ := r.slot (prog := prog) (w := w) (A := A) ok hx hg (fun q => by cases q)
  cases sl with
  | plain a b => rw [hc.1] at a; exact bf a.symm
  | own a1 a2 a3 a4 a5 =>
    rename_i a vs nn
    refine yl a3 ?_; clear a3
    refine fun tk => wpAny_Assign_Subscript ((ev_sound gl orc n s0 env ns _ Γ false A v h d hR ed r.rd).out fun vd h1 tk1 q => ?_) (by cases v <;> rfl)
    have r1 := r.grow q.1
    obtain ⟨va', sl', _, rd'⟩ := r1.slot (prog := prog) (w := w) (A := A) ok hx hg (fun q => by cases q)
    cases sl' with
    | plain a b => rw [hc.1] at a; exact bf a.symm
    | own b1 b2 b3 b4 b5 =>
      subst b3
      rw [a2] at b2; cases b2
      refine (rd' (Q := fun v' h' => v' = .ref a ∧ h' = h1) ⟨rfl, rfl⟩).out fun v' h' tk' z => ?_
      obtain ⟨rfl, rfl⟩ := z
      refine (ev_sound gl orc n s0 env ns _ Γ true A ix h' _ hR ej r1.rd).out fun vi h3 tk3 y => ?_
      have yi := y.2.1
      cases yi with | int _ t =>
      have b4' := y.1 _ _ b4
      have hlen := b5.length
      refine ki_setAt b4' hc.2.1 ?_ ?_ (pst ⟨rfl, ?_⟩)
      · have := hc.2.2.1; have := hc.2.2.2; unfold fit at this; omega
      · simp only [List.size_toArray, hlen]; have := hc.2.2.1; omega
      · have up := PySem.IsL.update (h := h3) (l := a) b4' (fun x => x.setIfInBounds j.toNat vd)
        rw [List.setIfInBounds_toArray] at up
        have z := r1.mut y.1 a2 hg hc.1 (Heap.SameBut.update h3 a _) up ((b5.keep (y.1.x _)).set j.toNat ((q.2.2.1 rfl).keep (y.1.x _)))
        exact ⟨O, z.1, (Step.grow q.1).trans z.2⟩
end
theorem md_get : typeLookup (.type "method_descriptor") "__get__" = pure (some (.builtin "method_descriptor.__get__")) := by rw [typeLookup_type, builtinLookup_eq_fast]; kernel_rfl
theorem md_set : typeLookup (.type "method_descriptor") "__set__" = pure none := by rw [typeLookup_type, builtinLookup_eq_fast]; kernel_rfl
theorem md_del : typeLookup (.type "method_descriptor") "__delete__" = pure none := by rw [typeLookup_type, builtinLookup_eq_fast]; kernel_rfl
theorem slot_md_get : Slot "method_descriptor" "__get__" "method_descriptor.__get__" :=
  .of (owner := "method_descriptor") (n := "__get__") md_get (by decide +kernel) (by decide +kernel) (by decide +kernel)
    (by first | exact .inl (by decide +kernel) | exact .inr (by decide +kernel)) (by rw [isSubtype_type]; kernel_rfl)
theorem entry_md_get : entryFor table "method_descriptor.__get__" = some Builtin.«method_descriptor.__get__» := entryFor_of_tree (by kernel_rfl)
theorem args_md_get (a b c : Value) : argsOk "method_descriptor.__get__" ⟨[a, b, c], []⟩ := by unfold argsOk; kernel_rfl
section
variable {prog : Program} {w : World} {s0 : Shared} {A : Around} {h : Heap}
theorem meets_getAppend (a : Addr) (vs : Array Value) (n : Nat) (u : Tok) : Meets (Builtin.«object.__getattribute__» ⟨[.ref a, .str "append" u], []⟩) (fun A R s => s.heap.get? a = some (listO vs n) ∧ ∀ tk, R (.ok (.ret (.ref s.heap.objs.size))) { s with heap := s.heap.push (boundO a), toks := tk }) :=
  Meets.of_wp fun prog w A R s hs => by
    obtain ⟨hp, g, d, tk, os⟩ := s
    refine zA hs ?_; clear hs; intro hx hs
    have hT : (⟨hp, g, d, tk, os⟩ : Shared).TypeIs (.ref a) "list" := ⟨_, hx, rfl⟩
    have hT5 : (⟨hp, g, d, tk, os⟩ : Shared).TypeIs (.builtin "list.append") "method_descriptor" := PySem.F.type_list_append
    have f1 := PySem.F.slot_list_append.lookup
    have f3 := md_get
    have f4 := md_set
    have f5 := md_del
    unfold Builtin.«object.__getattribute__»
    repeat (any_goals (first | assumption | wp_step))
    refine codeAny_call_builtin slot_md_get.plain entry_md_get (slot_md_get.check _ _ _ _ _ _ _ _ hT5 (args_md_get _ _ _) ?_)
    have f9 : Manifest.toldItsClass.contains "list.append" = false := by decide +kernel
    unfold Builtin.«method_descriptor.__get__»
    refine wpAny_bind (wpAny_of_eq (a := (.builtin "list.append", some (.ref a), some (.type "list"))) (by first | rfl | kernel_rfl) ?_)
    dsimp only
    rw [f9]
    simp only [Bool.false_eq_true, if_false, ↓reduceIte]
    refine wpAny_bind ?_
    refine wpAny_bind ?_
    refine wpAny_of_eq (a := (Str.ofString "append", Value.type "list")) (by first | rfl | kernel_rfl) ?_
    dsimp only
    refine wpAny_bind (wpAny_isInstance (T := "list") (b := true) hT (by rw [isSubtype_type]; kernel_rfl) ?_)
    rw [if_neg (by decide)]
    refine wpAny_pure ?_
    refine wpAny_bind (wpAny_newObj_type (wpAny_pure ?_))
    exact wpAny_pure ⟨_, rfl, hs tk⟩
theorem getAppend {a : Addr} {vs : Array Value} {n : Nat} {s : Shared} {Q : Value → Shared → Prop} {E : Value → Shared → Prop} (hx : s.heap.get? a = some (listO vs n))
    (h : ∀ tk, Q (.ref s.heap.objs.size) { s with heap := s.heap.push (boundO a), toks := tk }) : wpAny (model prog w) A (getAttr (.ref a) (Str.ofString "append") true) Q E s := by
  obtain ⟨hp, g, d, tk, os⟩ := s
  have hT : ∀ tk', (⟨hp, g, d, tk', os⟩ : Shared).TypeIs (.ref a) "list" := fun _ => ⟨_, hx, rfl⟩
  have f3 := PySem.F.slot_list_getattribute.lookup
  have f4 := PySem.F.slot_list_getattribute.bind (.ref a)
  unfold getAttr getAttrBy
  repeat (any_goals (first | assumption | exact hT _ | ((with_reducible show wpAny _ _ (call (Value.builtin "list.__getattribute__") _ _) _ _ _); refine call_meets PySem.F.slot_list_getattribute (hT _) am_entry_list_getattribute (PySem.F.args_list_getattribute_2 _ _) (meets_getAppend a vs n _) ⟨hx, fun tk' => ?_⟩) | wp_step))
  show wpAny _ _ (handedOut _) _ _ _
  repeat (any_goals (first | assumption | wp_step))
  exact h tk'
theorem callWith_bound {pos : Pos} {b a : Addr} {args : List (Bool × Sem Value)} {s : Shared} {Q : Value → Shared → Prop} {E : Value → Shared → Prop} (hplain : args.any (·.1) = false)
    (h : wpAny (model prog w) A (evalArgs (.ref b) true args []) (fun x s₁ => s₁.heap.get? b = some (boundO a) ∧ wpAny (model prog w) A (call (.ref b) x.pos x.kw) Q E s₁) E s) : wpAny (model prog w) A (callWith pos (.ref b) [] args []) Q E s := by
  unfold callWith
  refine wpAny_bind (wpAny_holding (wpAny_mono h (fun x s₁ h₁ => wpAny_bind (wpAny_standAt ?_)) fun _ _ x => x))
  refine zA h₁ ?_; clear h₁; intro ho hcall
  simp only [hplain, List.any_nil, Bool.or_false]
  refine wpAny_bind (m := keeperOf (.ref b)) ?_
  unfold keeperOf
  refine wpAny_bind (wpAny_load ho ?_)
  simp only [show (Value.type "builtin_function_or_method" != Value.type "method") = true by decide, show (Value.type "builtin_function_or_method" == Value.type "builtin_function_or_method" || Value.type "builtin_function_or_method" == Value.type "method-wrapper") = true by decide, if_true]
  refine wpAny_pure ?_
  exact wpAny_bind (wpAny_mono hcall (fun r s₂ hr => wpAny_bind (wpAny_holding (wpAny_point (wpAny_pure hr)))) fun _ _ x => x)
theorem kind_append : builtinKind "list.append" = some .method := by decide +kernel
theorem sig_append (a v : Value) : (Manifest.signature? "list.append").map (fun sig => Bind.checkArgs "list.append" { sig with full := s!"{Bind.lastOf "list"}.{Bind.lastOf "list.append"}" } ⟨[a, v], []⟩) = some (pure ()) := by kernel_rfl
theorem sub_list_module : isSubtype (.type "list") (.type "module") = pure false := by rw [isSubtype_type]; kernel_rfl
theorem varargs_append : Manifest.varargsMethods.contains "list.append" = false := by decide +kernel
theorem checkBound_append {a : Addr} {v : Value} {vs : Array Value} {n : Nat} {s : Shared} {Q : Unit → Shared → Prop} {E : Value → Shared → Prop} (ho : s.heap.get? a = some (listO vs n)) (hq : Q () s) : wpAny (model prog w) A (checkBoundCall "list.append" ⟨[.ref a, v], []⟩) Q E s := by
  have hs := sig_append (.ref a) v
  have hT : s.TypeIs (.ref a) "list" := ⟨_, ho, rfl⟩
  unfold checkBoundCall
  cases hsig : Manifest.signature? "list.append" with
  | none => exact wpAny_pure hq
  | some sig =>
    rw [hsig] at hs
    simp only [Option.map_some, Option.some.injEq] at hs
    dsimp only
    simp only [kind_append]
    rw [if_neg (by decide)]
    refine wpAny_bind (wpAny_isInstance (T := "list") (b := false) hT sub_list_module ?_)
    simp only [varargs_append, Bool.or_false, Bool.false_eq_true, if_false]
    refine wpAny_bind (wpAny_mono (Q := fun b s' => b = false ∧ s' = s) (E := E) ?_ (fun b s' q => ?_) fun _ _ z => z)
    · unfold isType
      exact wpAny_bind (wpAny_loadPart ho (wpAny_pure ⟨rfl, rfl⟩))
    · obtain ⟨rfl, rfl⟩ := q
      simp only [Bool.false_eq_true, if_false]
      refine wpAny_bind (wpAny_typeOf hT ?_)
      dsimp only
      rw [hs]
      exact wpAny_pure hq
theorem call_bound {b a : Addr} {v : Value} {s : Shared} {Q : Value → Shared → Prop} {E : Value → Shared → Prop} {S : PySem.Spec} {vs : Array Value} {n : Nat} (ho : s.heap.get? b = some (boundO a)) (hl : s.heap.get? a = some (listO vs n)) (g : Meets (Builtin.«list.append» ⟨[.ref a, v], []⟩) S) (hq : S A (wants Q E) s) :
    wpAny (model prog w) A (call (.ref b) [v]) Q E s := by
  refine wpAny_call (codeAny_of_tree ?_)
  show wpAny _ A.in1 (callAny (.ref b) ⟨[v], []⟩) _ _ _
  unfold callAny
  refine wpAny_bind (wpAny_load ho ?_)
  dsimp only
  rw [if_pos (by decide)]
  rw [show (#[Value.builtin "list.append", Value.ref a][0]? : Option Value) = some (.builtin "list.append") from rfl, show (#[Value.builtin "list.append", Value.ref a][1]? : Option Value) = some (.ref a) from rfl]
  dsimp only
  rw [if_pos (by decide)]
  refine wpAny_bind (checkBound_append hl ?_)
  refine wpAny_bind (wpAny_pure (wpAny_pure ⟨Code.quiet_builtin _ (by decide +kernel), codeAny_builtin PySem.F.entry_list_append ?_⟩))
  rw [Around.under_plainId (by decide +kernel)]
  exact g prog w A (wants Q E) s hq
end
section
variable {prog : Program} {w : World} {s0 : Shared} {K : Frag} {mg mb : Str → Option Value} {A : Around} {X : Addr → Prop} {env : Env} {h h1 h0 : Heap}
  {F : FO} {own : List Nat} {k n : Nat} {ns : NK} {Γ Γ' : List D} {O O' : Nat → Option Addr}
set_option tactic.hygienic true in
theorem ali_ok (r : Rep K mg mb env ns own X h0 O h Γ) (ok : OkNs ns own) {i j : Nat} {x y m : Str} {p q ap pos : Pos} {fl : Fl} (hx : slotOf ns x = some j) (hy : slotOf ns y = some i) (hm : m = Str.ofString "append")
    (e : run F own (.ali j i) Γ = some (fl, Γ')) : EV prog w A s0 (exec (.Assign [.Name x p] (.Attribute (.Name y q) m ap) pos) env) h (Post K mg mb env ns own X h0 O h fl Γ') := fun tk => by
  refine yl hm ?_; clear hm
  refine run_ali_of e fun xs hg hc => ?_
  obtain ⟨va, sl, _, rd⟩ := r.slot (prog := prog) (w := w) (A := A) ok hy hg (fun q => by cases q)
  cases sl with
  | plain a b => simp only [hc.1] at a; exact bf a.symm
  | own a1 a2 a3 a4 a5 =>
    rename_i a vs nn
    subst a3
    have main : EV prog w A s0 (eval (.Attribute (.Name y q) (Str.ofString "append") ap) env) h (fun v h' => v = .ref h.objs.size ∧ h' = h.push (boundO a)) := by
      simp only [arm_eval_Attribute]
      refine EV.bind ?_
      simp only [baseOf (o := .Name y q) rfl]
      refine rd (EV.stand (EV.bind (EV.hold fun tk => getAppend a4 fun tk' => (pst (?_)))))
      exact EV.bind (EV.pure (EV.pure ⟨rfl, rfl⟩))
    refine wpAny_Assign_Name (main.out fun v h' tk' z => ?_)
    refine zA z ?_; clear z; rintro rfl rfl
    have hj : own.contains j = false := by simpa using hc.2
    have g := Grow.push h (boundO a)
    have nB : ¬ Bar X env.locals O h.objs.size := fun q => by have := r.th _ q; rw [get_size] at this; exact bf this
    have hji : j ≠ i := fun q => by rw [q, a1] at hj; exact bf hj.symm
    exact (store_ok (Γ' := setv own j (.meth i) Γ) (d := .meth i) (O' := O) r ok.nd g hx (fun l b e => .inl e) r.inj (fun _ => .meth rfl (Heap.get?_push_size _ rfl) nB a1 a2) (fun d' e _ => get_setv_self e) fun l d' hlj e hu => ⟨(get_setv hlj e hu).1, fun _ => rfl, fun _ _ => rfl⟩).out fun _ h2 tk2 z => (pst ⟨rfl, O, z.1, z.2⟩)
set_option tactic.hygienic true in
theorem add_ok (gl : Glo K mg) (orc : Orc prog w K mg mb k F) (hR : Room k A) (r : Rep K mg mb env ns own X h0 O h Γ) (ok : OkNs ns own) {j : Nat} {x : Str} {p cp pos : Pos} {v : PySem.Expr} {fl : Fl} (hx : slotOf ns x = some j) (hs : isStar v = false)
    (e : run F own (.add j (era n ns v)) Γ = some (fl, Γ')) : EV prog w A s0 (exec (.Expr (.Call (.Name x p) [v] [] cp) pos) env) h (Post K mg mb env ns own X h0 O h fl Γ') := by
  refine run_add_of e fun i d xs hg ed hgi hc => ?_
  obtain ⟨va, sl, _, rd⟩ := r.slot (prog := prog) (w := w) (A := A) ok hx hg (fun q => by cases q)
  cases sl with
  | plain a b => cases b
  | meth a1 a2 a3 a4 a5 =>
    rename_i a b
    subst a1
    refine zEA (r.loc) fun m hn hl => ?_
    have hin : ∃ vs nn, h.get? a = some (listO vs.toArray nn) ∧ Vs h (Bar X env.locals O) vs xs := by
      refine zE (ok.ow i hc.1) fun y hy => ?_
      obtain ⟨v2, _, sl2⟩ := hl i y _ hy hgi (fun q => by cases q)
      cases sl2 with
      | plain c _ => simp only [hc.1] at c; exact bf c.symm
      | own c1 c2 c3 c4 c5 => simp only [a5] at c2; cases c2; exact iEEA _ _ c4 c5
    refine zEEA hin ?_; clear hin; intro vs nn b4 b5
    have hv : starEach [v] env = [(false, eval v env)] := by cases v <;> first | rfl | exact bf hs.symm
    have main : EV prog w A s0 (eval (.Call (.Name x p) [v] [] cp) env) h (fun v' h' => v' = .none ∧ Rep K mg mb env ns own X h0 O h' (Γ.set i (.list (xs ++ [d]))) ∧ Step env.locals O h O h') := by
      refine EV.callName (rd fun tk => callWith_bound (a := a) (by simp only [hv]; rfl) ?_)
      simp only [hv]
      refine Calls.evalArgs_plain (Calls.spliced_cons ((ev_sound gl orc n s0 env ns _ Γ false A v h d hR ed r.rd).out fun v' h2 tk2 z => Calls.spliced_nil ?_))
      have ho1 := z.1 _ _ b4
      have hz' : vs.toArray.size ≤ sizeLine := by simp only [List.size_toArray, b5.length]; exact fits_of hc.2
      refine ⟨z.1 _ _ a2, call_bound (z.1 _ _ a2) ho1 (PySem.list_append a vs.toArray nn v' hz') ⟨ho1, _, _, rfl, rfl, ?_⟩⟩
      have up := PySem.IsL.update (h := h2) (l := a) (items := vs.toArray) (n := nn) ho1 (fun x => x.push v')
      rw [show vs.toArray.push v' = (vs ++ [v']).toArray by simp] at up
      exact r.mut z.1 a5 hgi hc.1 (Heap.SameBut.update h2 a _) up ((b5.keep (z.1.x _)).append (.cons (z.2.2.1 rfl) .nil))
    exact fun tk => wpAny_Expr (main.out fun v' h' tk' q => by refine zA q ?_; clear q; rintro rfl q; exact (pst ⟨rfl, O, q.1, q.2⟩)) (notInter r.eo)
end
section
noncomputable def msets : List Nat → List D → List D → List D
  | i :: is, d :: ds, Γ => msets is ds (Γ.set i d)
  | _, _, Γ => Γ
theorem msets_set : ∀ {is : List Nat} {ds Γ : List D} {i : Nat} {d : D}, i ∉ is → msets is ds (Γ.set i d) = (msets is ds Γ).set i d
  | [], _, _, _, _, _ => rfl
  | _ :: _, [], _, _, _, _ => rfl
  | j :: is, e :: ds, Γ, i, d, h => by
    simp only [List.mem_cons, not_or] at h
    show msets is ds ((Γ.set i d).set j e) = (msets is ds (Γ.set j e)).set i d
    rw [List.set_comm _ _ h.1, msets_set h.2]
theorem msets_snoc : ∀ {is : List Nat} {ds Γ : List D} {i : Nat} {d : D}, is.length = ds.length → msets (is ++ [i]) (ds ++ [d]) Γ = (msets is ds Γ).set i d
  | [], [], _, _, _, _ => rfl
  | j :: is, e :: ds, Γ, i, d, h => msets_snoc (is := is) (ds := ds) (Γ := Γ.set j e) (by simpa using h)
theorem msets_rev : ∀ {is : List Nat} {ds Γ : List D}, is.Nodup → is.length = ds.length → msets is.reverse ds.reverse Γ = msets is ds Γ
  | [], [], _, _, _ => rfl
  | j :: is, e :: ds, Γ, hn, h => by
    rw [List.nodup_cons] at hn
    rw [List.reverse_cons, List.reverse_cons, msets_snoc (by simpa using h), msets_rev hn.2 (by simpa using h), ← msets_set hn.1]
    rfl
set_option tactic.hygienic true in
theorem setvs_eq {own : List Nat} : ∀ {is : List Nat} {ds Γ Γ' : List D}, setvs own is ds Γ = some Γ' → is.length = ds.length ∧ (∀ i ∈ is, own.contains i = false) ∧ Γ' = msets is ds Γ
  | [], [], _, _, e => by refine y1 e ?_; clear e; exact ⟨rfl, fun _ h => (by cases h), rfl⟩
  | [], _ :: _, _, _, e => by exact nos e
  | _ :: _, [], _, _, e => by exact nos e
  | i :: is, d :: ds, Γ, Γ', e => by
    simp only [setvs] at e
    split at e
    · exact nos e
    · rename_i hi
      have hi : own.contains i = false := by simpa using hi
      refine zAA (setvs_eq e) fun h1 h2 h3 => ?_
      refine ⟨by simp [h1], fun j hj => ?_, ?_⟩
      · rcases List.mem_cons.mp hj with rfl | hj
        · exact hi
        · exact h2 j hj
      · rw [h3]
        show _ = msets is ds (Γ.set i d)
        unfold setv
        rw [if_neg (by rw [hi]; decide)]
section
variable {prog : Program} {w : World} {s0 : Shared} {K : Frag} {mg mb : Str → Option Value} {A : Around} {X : Addr → Prop} {env : Env} {h h1 h0 : Heap}
  {F : FO} {own : List Nat} {k n : Nat} {ns : NK} {Γ Γ' : List D} {O O' : Nat → Option Addr}
inductive Tg (env : Env) (ns : NK) (own : List Nat) : List (Value → Sem Unit) → List Nat → Prop
  | nil : Tg env ns own [] []
  | cons {t : Value → Sem Unit} {ts : List (Value → Sem Unit)} {i : Nat} {is : List Nat} {x : Str} : slotOf ns x = some i → own.contains i = false →
      (∀ (M : Model) (A : Around) (v : Value) (s : Shared) (Q : Unit → Shared → Prop) (E : Value → Shared → Prop), wpAny M A (storeName env x v) Q E s → wpAny M A (t v) Q E s) → Tg env ns own ts is → Tg env ns own (t :: ts) (i :: is)
theorem Tg.snoc {t : Value → Sem Unit} {i : Nat} {x : Str} (h1 : slotOf ns x = some i) (h2 : own.contains i = false) (h3 : ∀ (M : Model) (A : Around) (v : Value) (s : Shared) (Q : Unit → Shared → Prop) (E : Value → Shared → Prop), wpAny M A (storeName env x v) Q E s → wpAny M A (t v) Q E s)
    {ts : List (Value → Sem Unit)} {is : List Nat} (g : Tg env ns own ts is) : Tg env ns own (ts ++ [t]) (is ++ [i]) :=
  Tg.rec (motive := fun ts is _ => Tg env ns own (ts ++ [t]) (is ++ [i])) (.cons h1 h2 h3 .nil) (fun a b c _ ih => .cons a b c ih) g
theorem Tg.reverse {ts : List (Value → Sem Unit)} {is : List Nat} (g : Tg env ns own ts is) : Tg env ns own ts.reverse is.reverse :=
  Tg.rec (motive := fun ts is _ => Tg env ns own ts.reverse is.reverse) .nil (fun a b c _ ih => by rw [List.reverse_cons, List.reverse_cons]; exact Tg.snoc a b c ih) g
theorem setN_ok (r : Rep K mg mb env ns own X h0 O h Γ) (ok : OkNs ns own) {i : Nat} {x : Str} (hx : slotOf ns x = some i) {v : Value} {d : D} (ho : own.contains i = false) (hv : V h (Bar X env.locals O) v d) :
    EV prog w A s0 (storeName env x v) h (fun _ h' => Rep K mg mb env ns own X h0 O h' (Γ.set i d) ∧ Step env.locals O h O h') :=
  have e : setv own i d Γ = Γ.set i d := by unfold setv; rw [if_neg (by rw [ho]; decide)]
  e ▸ store_ok (Γ' := setv own i d Γ) (d := d) (O' := O) r ok.nd (.refl h) hx (fun j a e => .inl e) r.inj (fun _ => .plain (by rw [ho]; rfl) hv) (fun d' e _ => get_setv_self e) fun j d' hji e hu => ⟨(get_setv hji e hu).1, fun _ => rfl, fun _ _ => rfl⟩
theorem stores_ok (ok : OkNs ns own) {ts : List (Value → Sem Unit)} {is : List Nat} (g : Tg env ns own ts is) : ∀ {vs : List Value} {ds : List D} {h : Heap} {Γ : List D}, Rep K mg mb env ns own X h0 O h Γ → Vs h (Bar X env.locals O) vs ds → is.length = ds.length →
    EV prog w A s0 (assignInOrder ts vs) h (fun _ h' => Rep K mg mb env ns own X h0 O h' (msets is ds Γ) ∧ Step env.locals O h O h') := by
  induction g with
  | nil =>
    intro vs ds h Γ r x hl
    cases ds with
    | nil => exact yl x.nil_of fun tk => wpAny_assignInOrder_none (pst ⟨r, .refl⟩)
    | cons => exact Nat.noConfusion hl
  | cons a b c rest ih =>
    intro vs ds h Γ r x hl
    cases ds with
    | nil => exact Nat.noConfusion hl
    | cons d ds =>
      refine zEEAA x.cons_of fun u ur q v vr => yl q fun tk => ?_
      exact wpAny_assignInOrder_more (c _ _ _ _ _ _ ((setN_ok r ok a b v).out fun _ h2 tk2 z => (ih z.1 (vr.keep z.2.x) (Nat.succ.inj hl)).out fun _ h3 tk3 y => (pst ⟨y.1, z.2.trans y.2⟩)))
set_option tactic.hygienic true in
theorem unpack_ok {v : Value} {d : D} {ds : List D} (hA : A.handled = none) (hd : d = .list ds ∨ d = .tup ds) (x : V h X v d) : EV prog w A s0 (unpackItems v ds.length none) h (fun items h' => Grow h h' ∧ Vs h' X items ds) := fun tk => by
  have gr : ∀ h', Heap.ExtBut h.objs.size h h' → Grow h h' := fun h' e b o q => e b o (Nat.ne_of_lt (Heap.lt_size q)) q
  rcases hd with rfl | rfl
  · refine zEEEAAA x.inv fun a vs n e ho nx y => yl e ?_
    rw [← y.length, ← List.size_toArray]
    exact kun_itemsOf hA (IsL.is ho) fun h' e => (pst ⟨gr h' e, y.keep ((gr h' e).x X)⟩)
  · refine zEEEAAA x.inv fun a vs n e ho nx y => yl e ?_
    rw [← y.length, ← List.size_toArray]
    exact unpackItems_tuple hA ⟨_, ho, rfl, n, rfl⟩ fun h' e => (pst ⟨gr h' e, y.keep ((gr h' e).x X)⟩)
theorem slots_names : ∀ {ts : List PySem.Expr} {is : List Nat}, slotsOf ns ts = some is → ∃ xs : List (Str × Pos), ts = xs.map (fun x => .Name x.1 x.2) ∧ xs.length = is.length ∧ ∀ (k : Nat) (x : Str × Pos) (i : Nat), xs[k]? = some x → is[k]? = some i → slotOf ns x.1 = some i
  | [], is, e => by injection e with e; subst e; exact ⟨[], rfl, rfl, fun k x i h => nos h⟩
  | t :: ts, is, e => by
    unfold slotsOf at e
    cases hx : vName t with
    | none => rw [hx] at e; exact nos e
    | some x =>
      rw [hx] at e
      dsimp only at e
      refine zE (vName_of hx) ?_; rintro p rfl
      cases h1 : slotOf ns x with
      | none => rw [h1] at e; exact nos e
      | some i =>
        rw [h1] at e
        cases h2 : slotsOf ns ts with
        | none => rw [h2] at e; exact nos e
        | some l =>
          rw [h2] at e
          injection e with e
          subst e
          refine zEAA (slots_names h2) fun xs e1 e2 e3 => ?_
          refine ⟨(x, p) :: xs, by rw [e1]; rfl, congrArg Nat.succ e2, fun k y j q1 q2 => ?_⟩
          cases k with
          | zero => injection q1 with q1; injection q2 with q2; rw [← q1, ← q2]; exact h1
          | succ k => exact e3 k y j q1 q2
theorem tg_of (f : Str × Pos → Value → Sem Unit) (hf : ∀ x (M : Model) (A : Around) (v : Value) (s : Shared) (Q : Unit → Shared → Prop) (E : Value → Shared → Prop), wpAny M A (storeName env x.1 v) Q E s → wpAny M A (f x v) Q E s) :
    ∀ {xs : List (Str × Pos)} {is : List Nat}, xs.length = is.length → (∀ (k : Nat) (x : Str × Pos) (i : Nat), xs[k]? = some x → is[k]? = some i → slotOf ns x.1 = some i) → (∀ i ∈ is, own.contains i = false) → Tg env ns own (xs.map f) is
  | [], [], _, _, _ => .nil
  | x :: xs, i :: is, hl, h1, h2 => .cons (h1 0 x i rfl rfl) (h2 i List.mem_cons_self) (hf x) (tg_of f hf (by simpa using hl) (fun k y j q1 q2 => h1 (k + 1) y j (by simpa using q1) (by simpa using q2)) fun j hj => h2 j (List.mem_cons_of_mem _ hj))
theorem each_names : ∀ (xs : List (Str × Pos)), assignEach (xs.map fun x => PySem.Expr.Name x.1 x.2) env = xs.map fun x => (false, assign (.Name x.1 x.2) env)
  | [] => rfl
  | x :: xs => by
    rw [List.map_cons, List.map_cons, ← each_names xs]; rfl
theorem idx_none (xs : List (Str × Pos)) (g : Str × Pos → Value → Sem Unit) : (xs.map fun x => (false, g x)).findIdx? (·.1) = none := by
  rw [List.findIdx?_eq_none_iff]
  intro y hy
  refine zEA (List.mem_map.mp hy) ?_; rintro x _ rfl
  rfl
theorem names_all {f : Str → Pos → Bool} : ∀ {xs : List (Str × Pos)}, ((xs.map fun x => PySem.Expr.Name x.1 x.2).filterMap fun | .Name id pos => if f id pos then some id else none | _ => none).length = xs.length →
    ((xs.map fun x => PySem.Expr.Name x.1 x.2).filterMap fun | .Name id pos => if f id pos then some id else none | _ => none) = xs.map (·.1)
  | [], _ => rfl
  | x :: xs, h => by
    have le : ∀ xs : List (Str × Pos), ((xs.map fun x => PySem.Expr.Name x.1 x.2).filterMap fun | .Name id pos => if f id pos then some id else none | _ => none).length ≤ xs.length := fun xs => by
      refine Nat.le_trans (List.length_filterMap_le _ _) ?_
      simp
    rw [List.map_cons] at h ⊢
    cases hf : f x.1 x.2
    · rw [List.filterMap_cons_none (by simp [hf])] at h
      have := le xs
      rw [List.length_cons] at h
      omega
    · rw [List.filterMap_cons_some (b := x.1) (by simp [hf])] at h ⊢
      rw [List.map_cons, names_all (by simpa using h)]
set_option tactic.hygienic true in
theorem swapped_cases {xs : List (Str × Pos)} {es : List PySem.Expr} {k1 k2 : Nat} {p1 p2 : Pos} (hc : es.all (constantsAlone 8) = false) :
    swappedStores [.Tuple (xs.map fun x => PySem.Expr.Name x.1 x.2) k1 p1] (.Tuple es k2 p2) env = pure none ∨ swappedStores [.Tuple (xs.map fun x => PySem.Expr.Name x.1 x.2) k1 p1] (.Tuple es k2 p2) env = pure (some (xs.map (·.1))) := by
  unfold swappedStores
  dsimp only
  split
  · exact .inl rfl
  · split
    · exact .inl rfl
    · split
      · exact .inl rfl
      · rename_i hl
        split
        · exact .inl rfl
        · rw [if_neg (by rw [hc]; decide)]
          refine .inr ?_
          congr 2
          refine names_all (f := fun id pos => env.kindOf id == some .local && pos.line == _) ?_
          simp only [Bool.or_eq_true, not_or, bne_iff_ne, ne_eq, Decidable.not_not] at hl
          simpa using hl.1
end
end
section
variable {prog : Program} {w : World} {s0 : Shared} {K : Frag} {mg mb : Str → Option Value} {A : Around} {X : Addr → Prop} {env : Env} {h h1 h0 : Heap}
  {F : FO} {own : List Nat} {k n : Nat} {ns : NK} {Γ Γ' : List D} {O O' : Nat → Option Addr}
theorem tupA_ok (hA : A.handled = none) (r : Rep K mg mb env ns own X h0 O h Γ) (ok : OkNs ns own) {ts : List PySem.Expr} {is : List Nat} {kk : Nat} {tp pos : Pos} {v : PySem.Expr} {d : D} {ds : List D} {fr : Bool} (hts : slotsOf ns ts = some is)
    (hd : d = .list ds ∨ d = .tup ds) (hset : setvs own is ds Γ = some Γ') (hnd : is.Nodup ∨ swappedStores [.Tuple ts kk tp] v env = pure none)
    (hw : ∀ xs : List (Str × Pos), ts = xs.map (fun x => PySem.Expr.Name x.1 x.2) → swappedStores [.Tuple ts kk tp] v env = pure none ∨ swappedStores [.Tuple ts kk tp] v env = pure (some (xs.map (·.1))))
    (hev : EV prog w A s0 (eval v env) h (Out false fr h (Bar X env.locals O) d)) : EV prog w A s0 (exec (.Assign [.Tuple ts kk tp] v pos) env) h (Post K mg mb env ns own X h0 O h .next Γ') := fun tk => by
  have hs : swapsWithSole [.Tuple ts kk tp] v pos.line env = pure false := by cases v <;> rfl
  refine zEAA (slots_names hts) ?_; rintro xs rfl e2 e3
  refine zAA (setvs_eq hset) ?_; rintro l1 l2 rfl
  have last : ∀ {h1 h2 : Heap} {vs : List Value}, Grow h h2 → Vs h2 (Bar X env.locals O) vs ds → ∀ {ts is2 vs2 ds2}, Tg env ns own ts is2 → Vs h2 (Bar X env.locals O) vs2 ds2 → is2.length = ds2.length → msets is2 ds2 Γ = msets is ds Γ →
      EV prog w A s0 (assignInOrder ts vs2) h2 (fun _ h' => RS K mg mb env ns own X h0 O h (msets is ds Γ) h') := fun g hv ts is2 vs2 ds2 tg hv2 hl hm =>
    (stores_ok ok tg (r.grow g) hv2 hl).mono fun _ h' z => ⟨O, hm ▸ z.1, (Step.grow g).trans z.2⟩
  by_cases hsw : swappedStores [.Tuple (xs.map fun x => PySem.Expr.Name x.1 x.2) kk tp] v env = pure none
  · refine Assign_Tuple (hev.out fun va h1 tk1 q => ?_) hs hsw
    rw [assign_Tuple]
    refine wpAny_bind (wpAny_standAt ?_)
    unfold unpack
    rw [each_names, idx_none, List.length_map]
    have hlen : xs.length = ds.length := by rw [e2, l1]
    rw [hlen]
    refine wpAny_bind (wpAny_holding ((unpack_ok hA hd (q.2.2.1 rfl)).out fun items h2 tk2 z => ?_))
    rw [List.map_map]
    refine (last (h1 := h1) (q.1.trans z.1) z.2 (tg_of (fun x => assign (.Name x.1 x.2) env) (fun x M A v s Q E h => assign_Name h) e2 e3 l2) z.2 l1 rfl).out fun _ h3 tk3 y => (pst ⟨rfl, y⟩)
  · have hw := (hw xs rfl).resolve_left hsw
    have hnd := hnd.resolve_right hsw
    refine Assign_Tuple_swapped (hev.out fun va h1 tk1 q => ?_) hs hw
    have hlen : (xs.map (·.1)).length = ds.length := by rw [List.length_map, e2, l1]
    rw [hlen]
    refine (unpack_ok hA hd (q.2.2.1 rfl)).out fun items h2 tk2 z => ?_
    have tg := tg_of (env := env) (ns := ns) (own := own) (fun x => bindName env x.1) (fun x M A v s Q E h => bindName_ h) e2 e3 l2
    have tr := tg.reverse
    rw [← List.map_reverse] at tr
    rw [← List.map_reverse, List.map_map]
    refine (last (h1 := h1) (q.1.trans z.1) z.2 tr z.2.reverse (by rw [List.length_reverse, List.length_reverse, l1]) (msets_rev hnd l1)).out fun _ h3 tk3 y => (pst ⟨rfl, y⟩)
theorem asgT_ok (gl : Glo K mg) (orc : Orc prog w K mg mb k F) (hR : Room k A) (r : Rep K mg mb env ns own X h0 O h Γ) (ok : OkNs ns own) {ts : List PySem.Expr} {is : List Nat} {kk : Nat} {tp pos : Pos} {v : PySem.Expr} {fl : Fl} (hts : slotsOf ns ts = some is) (hv : isTup v = false)
    (e : run F own (.asgT is (era n ns v)) Γ = some (fl, Γ')) : EV prog w A s0 (exec (.Assign [.Tuple ts kk tp] v pos) env) h (Post K mg mb env ns own X h0 O h fl Γ') := by
  have hsw : swappedStores [.Tuple ts kk tp] v env = pure none := by cases v <;> first | rfl | exact bf hv.symm
  refine run_asgT_of e fun x ds ed hx hs => ?_
  exact tupA_ok hR.hd r ok hts hx hs (.inr hsw) (fun _ _ => .inl hsw) (ev_sound gl orc n s0 env ns _ Γ false A v h _ hR ed r.rd)
theorem asgP_ok (gl : Glo K mg) (orc : Orc prog w K mg mb k F) (hR : Room k A) (r : Rep K mg mb env ns own X h0 O h Γ) (ok : OkNs ns own) {ts es : List PySem.Expr} {is : List Nat} {kk k2 : Nat} {tp pos p2 : Pos} {fl : Fl} (hts : slotsOf ns ts = some is)
    (hc : (es.length = is.length && okArgs 100 es && !(es.all (constantsAlone 8)) && decide is.Nodup) = true)
    (e : run F own (.asgP is (toEs (es.map (era n ns)))) Γ = some (fl, Γ')) : EV prog w A s0 (exec (.Assign [.Tuple ts kk tp] (.Tuple es k2 p2) pos) env) h (Post K mg mb env ns own X h0 O h fl Γ') := by
  simp only [Bool.and_eq_true, decide_eq_true_eq, Bool.not_eq_true'] at hc
  refine zA hc ?_; clear hc; rintro ⟨⟨c1, c2⟩, c4⟩ c5
  have c3 := (okArgs_of c2).1
  replace c2 := (okArgs_of c2).2
  refine run_asgP_of e fun ds ed hs => ?_
  refine tupA_ok (fr := false) (d := .tup ds) hR.hd r ok hts (.inr rfl) hs (.inl c5) (fun xs q => by rw [q]; exact swapped_cases c4) ?_
  exact tupE_ok (n := n) (ev_sound gl orc n) hR c2 c3 ((ev_tup.trans (congrArg _ ed))) r.rd
def BodyOk (prog : Program) (w : World) (K : Frag) (mg mb : Str → Option Value) (env : Env) (ns : NK) (own : List Nat) (h0 : Heap) (F : FO) (A : Around) (body : List Stmt) (sb : Ss) : Prop :=
  ∀ (s0 : Shared) (X : Addr → Prop) (O : Nat → Option Addr) (h : Heap) (Γ Γ' : List D) (fl : Fl), runs F own sb Γ = some (fl, Γ') → Rep K mg mb env ns own X h0 O h Γ → EV prog w A s0 (execs body env) h (Post K mg mb env ns own X h0 O h fl Γ')
inductive WInv (K : Frag) (mg mb : Str → Option Value) (env : Env) (ns : NK) (own : List Nat) (X : Addr → Prop) (h0 : Heap) (O : Nat → Option Addr) (h : Heap) (s0 : Shared) (c : List D → Option Bool) (b : List D → Option (Fl × List D)) (r : Fl × List D) (j : Nat) (s : Shared) : Prop
  | mk (G : List D) (O1 : Nat → Option Addr) (h1 : Heap) (tk1 : Nat) (e : s = (sAt s0 h1 tk1)) (rp : Rep K mg mb env ns own X h0 O1 h1 G) (st : Step env.locals O h O1 h1) (wl : whileL c b j G = some r) : WInv K mg mb env ns own X h0 O h s0 c b r j s
set_option tactic.hygienic true in
theorem while_ok (gl : Glo K mg) (orc : Orc prog w K mg mb k F) (hR : Room k A) (r : Rep K mg mb env ns own X h0 O h Γ) {c : PySem.Expr} {body : List Stmt} {sb : Ss} {pos : Pos} {fl : Fl} (ib : BodyOk prog w K mg mb env ns own h0 F A body sb)
    (e : run F own (.whl (era n ns c) sb) Γ = some (fl, Γ')) : EV prog w A s0 (exec (.While c body [] pos) env) h (Post K mg mb env ns own X h0 O h fl Γ') := fun tk => by
  replace e := run_whl.symm.trans e
  refine wpAny_While (codeAny_whileLoop (WInv K mg mb env ns own X h0 O h s0 (fun Γ => tv F own Γ (era n ns c)) (fun Γ => runs F own sb Γ) (fl, Γ')) ?_ 1000 ⟨Γ, O, h, tk, rfl, r, .refl, e⟩)
  rintro j s ⟨G, O1, h1, tk1, rfl, r1, st1, e1⟩
  cases j with
  | zero => exact nos e1
  | succ j =>
    simp only [whileL] at e1
    split at e1
    · rename_i hc
      refine y2 e1 ?_; clear e1
      refine (tv_sound gl orc hR n c h1 false hc r1.rd).out fun t h2 tk2 q => ?_
      refine zA q ?_; clear q; rintro rfl g
      exact wpAny_execs_nil (pst ⟨rfl, O1, r1.grow g, st1.trans (.grow g)⟩)
    · rename_i hc
      refine (tv_sound gl orc hR n c h1 true hc r1.rd).out fun t h2 tk2 q => ?_
      refine zA q ?_; clear q; rintro rfl g
      have r2 := r1.grow g
      have st2 := st1.trans (Step.grow (O := O1) g)
      rw [if_pos rfl]
      split at e1
      · rename_i G2 eb
        refine (ib s0 X O1 h2 G G2 .next eb r2).out fun f h3 tk3 z => ?_
        obtain ⟨rfl, O3, r3, st3⟩ := z
        exact ⟨j, Nat.lt_succ_self j, G2, O3, h3, tk3, rfl, r3, st2.trans st3, e1⟩
      · rename_i G2 eb
        refine (ib s0 X O1 h2 G G2 .cont eb r2).out fun f h3 tk3 z => ?_
        obtain ⟨rfl, O3, r3, st3⟩ := z
        exact ⟨j, Nat.lt_succ_self j, G2, O3, h3, tk3, rfl, r3, st2.trans st3, e1⟩
      · rename_i G2 eb
        refine y2 e1 ?_; clear e1
        refine (ib s0 X O1 h2 G _ .brk eb r2).out fun f h3 tk3 z => ?_
        obtain ⟨rfl, O3, r3, st3⟩ := z
        exact (pst ⟨rfl, O3, r3, st2.trans st3⟩)
      · rename_i v G2 eb
        refine y2 e1 ?_; clear e1
        refine (ib s0 X O1 h2 G _ (.ret v) eb r2).out fun f h3 tk3 z => ?_
        refine zEAA z ?_; clear z; rintro va rfl g3 hv
        exact (pst ⟨va, rfl, g3, hv⟩)
      · exact nos e1
    · exact nos e1
inductive FInv (K : Frag) (mg mb : Str → Option Value) (env : Env) (ns : NK) (own : List Nat) (X : Addr → Prop) (I : Addr) (h0 : Heap) (O : Nat → Option Addr) (h : Heap) (s0 : Shared) (St : Nat → Heap → Prop) (n : Nat) (f : List D → List D → Option (Fl × List D)) (xs : List D) (r : Fl × List D) (j : Nat) (s : Shared) : Prop
  | mk (t : Nat) (G : List D) (O1 : Nat → Option Addr) (h3 : Heap) (tk3 : Nat) (e1 : j = n - t) (e2 : t ≤ n) (e3 : s = (sAt s0 h3 tk3)) (rp : Rep K mg mb env ns own (fun b => X b ∨ b = I) h0 O1 h3 G) (stp : Step env.locals O h O1 h3) (st : St t h3) (fl : f (xs.drop t) G = some r) :
    FInv K mg mb env ns own X I h0 O h s0 St n f xs r j s
def FPost (K : Frag) (mg mb : Str → Option Value) (env : Env) (ns : NK) (own : List Nat) (X : Addr → Prop) (h0 : Heap) (O : Nat → Option Addr) (h : Heap) (s0 : Shared) (fl : Fl) (Γ' : List D) (E : Value → Shared → Prop) (r : Result) (s' : Shared) : Prop := match r with
  | .ok f => ∃ h' tk', s' = (sAt s0 h' tk') ∧ Post K mg mb env ns own X h0 O h fl Γ' f h'
  | .error e => E e s'
set_option tactic.hygienic true in
theorem forW_ok (hR : Room k A) (r : Rep K mg mb env ns own X h0 O h Γ) (ok : OkNs ns own) {i : Nat} {x : Str} {p : Pos} {body : List Stmt} {sb : Ss} {xs : List D} {fl : Fl} (hx : slotOf ns x = some i) (ib : BodyOk prog w K mg mb env ns own h0 F A body sb)
    {h2 : Heap} (g2 : Grow h h2) {I : Addr} {fp : List Addr} {P : Nat → Value → Prop} {St : Nat → Heap → Prop} {n tk2 : Nat} (it : IterAt prog w A (Bar X env.locals O) h h2 I fp P St n xs) {E : Value → Shared → Prop}
    (e : forL (fun x Γ => if own.contains i then none else runs F own sb (setv own i x Γ)) xs Γ = some (fl, Γ')) :
    codeAny (model prog w) A (.forLoop (.Name x p) (.ref I) body [] env) (FPost K mg mb env ns own X h0 O h s0 fl Γ' E) (sAt s0 h2 tk2) := by
  have hI : h.get? I = none := it.new
  have h0I : h0.get? I = none := by
    cases q : h0.get? I with
    | none => rfl
    | some o => have := r.old _ _ q; rw [hI] at this; exact nos this
  have hIL : I ≠ env.locals := fun q => by have := r.th env.locals (.inr (.inl rfl)); rw [← q, hI] at this; exact bf this
  have hIX : ¬ X I := fun q => by have := r.th I (.inl q); rw [hI] at this; exact bf this
  have hIO : ∀ j, O j ≠ some I := fun j q => by have := r.th I (.inr (.inr ⟨j, q⟩)); rw [hI] at this; exact bf this
  have keepSt : ∀ {i : Nat} {O1 O2 : Nat → Option Addr} {ha hb : Heap} {G : List D}, Rep K mg mb env ns own (fun b => X b ∨ b = I) h0 O1 ha G → Step env.locals O h O1 ha → Step env.locals O1 ha O2 hb → St i ha → St i hb := fun {i O1 O2 ha hb G} ra s1 s2 st =>
    it.wk.frame i ha hb st fun b hb' o e => by
      rcases it.bar b hb' with rfl | ⟨nb, hb1⟩
      · exact s2.keep _ o hIL (fun j q => (ra.nO j _ q).2.2 (.inr rfl)) e
      · refine s2.keep b o (fun q => nb (.inr (.inl q))) (fun j q => ?_) e
        rcases s1.new j b q with ⟨l, z⟩ | z
        · exact nb (.inr (.inr ⟨l, z⟩))
        · rw [z] at hb1; exact bf hb1
  have touchStep : ∀ {O1 : Nat → Option Addr} {ha hb : Heap}, Step env.locals O h O1 ha → (∀ b o, b ∉ [I] → ha.get? b = some o → hb.get? b = some o) → Step env.locals O h O1 hb := fun {O1 ha hb} s1 hk =>
    ⟨fun b o e1 e2 e3 => hk b o (fun q => by
      simp only [List.mem_cons, List.not_mem_nil, or_false] at q
      rw [q, hI] at e3; exact nos e3) (s1.keep b o e1 e2 e3), fun b e => by
      have nb : b ∉ [I] := fun q => by
        simp only [List.mem_cons, List.not_mem_nil, or_false] at q
        rw [q, hI] at e; exact bf e
      refine zE (Option.isSome_iff_exists.mp (s1.live b e)) fun o z => ?_
      rw [hk b o nb z]; rfl, s1.new⟩
  have ext : ∀ {ha hb : Heap}, (∀ b o, b ∉ [I] → ha.get? b = some o → hb.get? b = some o) → Heap.ExtBut I ha hb := fun hk b o hb e => hk b o (fun q => by
      simp only [List.mem_cons, List.not_mem_nil, or_false] at q
      exact hb q) e
  refine codeAny_forLoop_any (FInv K mg mb env ns own X I h0 O h s0 St n (fun xs G => forL (fun x Γ => if own.contains i then none else runs F own sb (setv own i x Γ)) xs G) xs (fl, Γ')) ?_ n ⟨0, Γ, O, h2, tk2, by omega, by exact qz, rfl, r.bar g2 hI (it.alive _ _ it.st), .grow g2, it.st, e⟩
  rintro j s ⟨t, G, O1, h3, tk3, rfl, ht, rfl, r3, st3, hst, e3⟩
  by_cases hlt : t < n
  · have hxt : t < xs.length := by simp only [← it.len]; exact hlt
    rw [List.drop_eq_getElem_cons hxt] at e3
    simp only [forL] at e3
    refine it.wk.item t _ _ _ hlt hst fun v h4 tk4 hP hst4 hk => ?_
    refine wpAny_pure ?_
    have hs4 := it.alive _ _ hst4
    have r4 := r3.touch (.inr rfl) h0I (ext hk) hs4
    have st4 := touchStep st3 hk
    cases ho : own.contains i
    · simp only [ho, Bool.false_eq_true, if_false] at e3
      refine zEA (it.val h ((Grow.refl h).x _) t v hP) fun d hd hvd => ?_
      have hd' : xs[t] = d := by
        have := List.getElem?_eq_getElem hxt
        rw [hd] at this; refine y1 this ?_; clear this; rfl
      rw [hd'] at e3
      have hv4 : V h4 (Bar (fun b => X b ∨ b = I) env.locals O1) v d := by
        have w1 : V h (fun b => Bar X env.locals O b ∨ Bar (fun b => X b ∨ b = I) env.locals O1 b) v d := hvd.bar fun a ha nb q => by
          rcases q with q | (q | q) | q | ⟨j, q⟩
          · exact nb q
          · exact nb (.inl q)
          · rw [q, hI] at ha; exact bf ha
          · exact nb (.inr (.inl q))
          · rcases st4.new j a q with ⟨l, z⟩ | z
            · exact nb (.inr (.inr ⟨l, z⟩))
            · rw [z] at ha; exact bf ha
        have w2 : V h4 (fun b => Bar X env.locals O b ∨ Bar (fun b => X b ∨ b = I) env.locals O1 b) v d := w1.keep fun b o nb e => st4.keep b o (fun q => nb (.inl (.inr (.inl q)))) (fun j q => nb (.inl (.inr (.inr ⟨j, q⟩)))) e
        exact w2.less fun a q => .inr q
      have es : setv own i d G = G.set i d := by unfold setv; rw [if_neg (by rw [ho]; decide)]
      rw [es] at e3
      refine assign_Name ((setN_ok r4 ok hx ho hv4).out fun _ h5 tk5 z => ?_)
      refine zA z ?_; clear z; intro r5 s5
      have st5 := st4.trans s5
      have hst5 : St (t + 1) h5 := keepSt r4 st4 s5 hst4
      split at e3
      · rename_i G2 eb
        refine (ib s0 _ O1 h5 _ G2 .next eb r5).out fun f h6 tk6 z => ?_
        obtain ⟨rfl, O6, r6, s6⟩ := z
        exact ⟨n - (t + 1), by exact (qK hlt), t + 1, G2, O6, h6, tk6, rfl, by exact hlt, rfl, r6, st5.trans s6, keepSt r5 st5 s6 hst5, e3⟩
      · rename_i G2 eb
        refine (ib s0 _ O1 h5 _ G2 .cont eb r5).out fun f h6 tk6 z => ?_
        obtain ⟨rfl, O6, r6, s6⟩ := z
        exact ⟨n - (t + 1), by exact (qK hlt), t + 1, G2, O6, h6, tk6, rfl, by exact hlt, rfl, r6, st5.trans s6, keepSt r5 st5 s6 hst5, e3⟩
      · rename_i G2 eb
        refine y2 e3 ?_; clear e3
        refine (ib s0 _ O1 h5 _ _ .brk eb r5).out fun f h6 tk6 z => ?_
        obtain ⟨rfl, O6, r6, s6⟩ := z
        exact (pst ⟨rfl, O6, r6.unbar fun a q => .inl q, st5.trans s6⟩)
      · rename_i u G2 eb
        refine y2 e3 ?_; clear e3
        refine (ib s0 _ O1 h5 _ _ (.ret u) eb r5).out fun f h6 tk6 z => ?_
        refine zEAA z ?_; clear z; rintro va rfl g6 hv
        exact (pst ⟨va, rfl, g6, hv.less fun a q => .inl q⟩)
      · exact nos e3
    · simp only [ho, if_true] at e3
      exact nos e3
  · have htn : t = n := by exact (Nat.le_antisymm ht (qX hlt))
    subst htn
    rw [List.drop_of_length_le (by simp only [it.len]; exact Nat.le_refl _)] at e3
    refine y2 e3 ?_; clear e3
    refine it.wk.done _ _ _ hst fun h4 tk4 hk => ?_
    exact wpAny_execs_nil (pst ⟨rfl, O1, r3.drop hIX h0I (ext hk), touchStep st3 hk⟩)
theorem for_ok (gl : Glo K mg) (orc : Orc prog w K mg mb k F) (hR : Room k A) (r : Rep K mg mb env ns own X h0 O h Γ) (ok : OkNs ns own) {i : Nat} {x : Str} {p pos : Pos} {it : PySem.Expr} {body : List Stmt} {sb : Ss} {fl : Fl} (hx : slotOf ns x = some i) (ib : BodyOk prog w K mg mb env ns own h0 F A body sb)
    (e : run F own (.for_ i (era n ns it) sb) Γ = some (fl, Γ')) : EV prog w A s0 (exec (.For (.Name x p) it body [] pos) env) h (Post K mg mb env ns own X h0 O h fl Γ') := fun tk => by
  refine run_for_of e fun d xs ed hxs e => ?_
  refine wpAny_For ((ev_sound gl orc n s0 env ns _ Γ false A it h d hR ed r.rd).out fun va h1 tk1 q => (iter_ok hR.hd (r.th.grow q.1) hxs (q.2.2.1 rfl)).out fun iv h2 tk2 z => ?_) (set_free ed)
  obtain ⟨g2, I, fp, P, St, m, rfl, iw⟩ := z
  have := forW_ok (E := fun e s => cameBackBy (model prog w) A env (fun _ _ => False) e s) (s0 := s0) (tk2 := tk2) (p := p) hR (r.grow q.1) ok hx ib g2 iw e
  refine codeAny_mono this fun r s' z => ?_
  cases r with
  | ok f => refine zEEA z ?_; clear z; rintro h' tk' rfl z; exact (pst (z.from (.grow q.1)))
  | error e => exact z
theorem rangeN_eq {a b c : Int} (hc : 0 < c) : Builtin.Range.rangeSize a b c = (rangeN a b c : Nat) := by
  unfold Builtin.Range.rangeSize rangeN
  rw [if_pos hc]
  split
  · have e : (b - a + c - 1) / c = (b - a - 1) / c + 1 := by
      rw [show b - a + c - 1 = (b - a - 1) + 1 * c by omega, Int.add_mul_ediv_right _ _ (by omega)]
    have h0 : 0 ≤ (b - a - 1) / c := Int.ediv_nonneg (by omega) (Int.le_of_lt hc)
    omega (config := {})
  · have : (b - a + c - 1) / c ≤ 0 := by
      have : (b - a + c - 1) / c < 1 := Int.ediv_lt_of_lt_mul hc (by omega)
      omega (config := {})
    exact (congrArg Int.ofNat (Nat.le_antisymm qz (Int.toNat_le.mpr this)))
theorem range_small {a b c : Int} (ha : small a) (hb : small b) (hc : small c) (h0 : 0 < c) : Builtin.Range.small a b c = true := by
  have hr : 0 ≤ Builtin.Range.rangeSize a b c ∧ Builtin.Range.rangeSize a b c < 2 ^ 63 := by
    unfold Builtin.Range.rangeSize
    rw [if_pos h0]
    unfold small at ha hb hc
    split
    · have h1 : 0 ≤ (b - a - 1) / c := Int.ediv_nonneg (by omega) (Int.le_of_lt h0)
      have h2 : (b - a - 1) / c ≤ b - a - 1 := Int.ediv_le_self _ (by omega)
      omega (config := {})
    · omega
  unfold Builtin.Range.small Builtin.Range.rangeFitsLong
  simp only [if_pos h0]
  unfold small at ha hb hc
  simp only [Bool.and_eq_true, Bool.or_eq_true, decide_eq_true_eq]
  refine ⟨⟨⟨⟨⟨?_, ?_⟩, ?_, ?_⟩, ?_, ?_⟩, ?_, ?_⟩, .inr ⟨?_, ?_⟩⟩ <;> omega (config := {})
theorem small1 : small 1 := by decide
theorem small0 : small 0 := by decide
inductive RanQ (h : Heap) (xs : List D) (v : Value) (h' : Heap) : Prop
  | mk (r : Addr) (a b c : Int) (t u y : Tok) (g : Grow h h') (e : v = .ref r) (i : IsRange h' r a b c t u y) (sa : small a) (sb : small b) (sc : small c) (h0 : 0 < c) (e2 : xs = rangeL a b c) : RanQ h xs v h'
theorem RanQ.from {xs : List D} {v : Value} {h2 : Heap} (g0 : Grow h h1) (x : RanQ h1 xs v h2) : RanQ h xs v h2 := by
  obtain ⟨r, a, b, c, t, u, y, g, e, i, sa, sb, sc, h0, e2⟩ := x
  exact ⟨r, a, b, c, t, u, y, g0.trans g, e, i, sa, sb, sc, h0, e2⟩
theorem callRange_ok {ds xs : List D} {vs : List Value} {B : Addr → Prop} (e : rangeOf ds = some xs) (x : Ws h B vs ds) : EV prog w A s0 (call (.type "range") vs) h (RanQ h xs) := fun tk => by
  match ds, e with
  | [a], e =>
    obtain ⟨b, hb, e⟩ := opt_of e
    refine zA (if_of e) ?_; rintro hs rfl
    obtain rfl := vInt_of hb
    obtain ⟨v, rfl, y⟩ := x.one_of
    obtain ⟨t, rfl⟩ := V.int_of y
    exact call_range_1 (pst ⟨_, 0, b, 1, _, _, _, Grow.push h _, rfl, IsRange.new h 0 b 1 _ _ _, small0, hs, small1, by decide, rfl⟩)
  | [a1, a2], e =>
    refine zEA (opt_of e) fun a ha e => ?_
    obtain ⟨b, hb, e⟩ := opt_of e
    obtain ⟨hs, rfl⟩ := if_of e
    obtain rfl := vInt_of ha
    obtain rfl := vInt_of hb
    refine zEEAA (x.cons_of) ?_; rintro v r rfl y z
    obtain ⟨u, rfl, z1⟩ := z.one_of
    obtain ⟨t, rfl⟩ := V.int_of y
    obtain ⟨t2, rfl⟩ := V.int_of z1
    exact call_range_2 (pst ⟨_, a, b, 1, _, _, _, Grow.push h _, rfl, IsRange.new h a b 1 _ _ _, hs.1, hs.2, small1, by decide, rfl⟩)
  | [a1, a2, a3], e =>
    obtain ⟨a, ha, e⟩ := opt_of e
    obtain ⟨b, hb, e⟩ := opt_of e
    refine zEA (opt_of e) fun c hc e => ?_
    refine zA (if_of e) ?_; rintro hs rfl
    obtain rfl := vInt_of ha
    obtain rfl := vInt_of hb
    obtain rfl := vInt_of hc
    refine zEEAA (x.cons_of) ?_; rintro v r rfl y z
    refine zEEAA (z.cons_of) ?_; rintro u r2 rfl y2 z2
    refine zEA (z2.one_of) ?_; rintro u3 rfl z3
    obtain ⟨t, rfl⟩ := V.int_of y
    obtain ⟨t2, rfl⟩ := V.int_of y2
    obtain ⟨t3, rfl⟩ := V.int_of z3
    exact call_range_3 (Int.ne_of_gt hs.2.2.1) (pst ⟨_, a, b, c, _, _, _, Grow.push h _, rfl, IsRange.new h a b c _ _ _, hs.1, hs.2.1, hs.2.2.2, hs.2.2.1, rfl⟩) (.inl (small_div hs.2.2.2))
  | [], e => exact nos e
  | _ :: _ :: _ :: _ :: _, e => exact nos e
theorem forR_ok (gl : Glo K mg) (orc : Orc prog w K mg mb k F) (hR : Room k A) (r : Rep K mg mb env ns own X h0 O h Γ) (ok : OkNs ns own) {i : Nat} {x f : Str} {p fp cp pos : Pos} {args : List PySem.Expr} {body : List Stmt} {sb : Ss} {fl : Fl} (hx : slotOf ns x = some i)
    (hG : isG ns f = true) (hf : f = Str.ofString "range") (hs : ∀ e ∈ args, isStar e = false) (ib : BodyOk prog w K mg mb env ns own h0 F A body sb)
    (e : run F own (.forR i (toEs (args.map (era n ns))) sb) Γ = some (fl, Γ')) : EV prog w A s0 (exec (.For (.Name x p) (.Call (.Name f fp) args [] cp) body [] pos) env) h (Post K mg mb env ns own X h0 O h fl Γ') := fun tk => by
  subst hf
  refine run_forR_of e fun ds xs ed hxs e => ?_
  have hev : EV prog w A s0 (eval (.Call (.Name (Str.ofString "range") fp) args [] cp) env) h (RanQ h xs) := by
    refine EV.callName (r.rd.builtin hG (by decide) (by decide) gl.rng.1 gl.rng.2 (EV.withType hs ?_))
    refine (args_ok (ev_sound gl orc n) hR hs ed r.rd).mono fun vs h1 q => (callRange_ok hxs q.2.1).mono fun v h2 z => z.from q.1
  refine wpAny_For (hev.out fun va h1 tk1 q => ?_) (fun _ => rfl)
  obtain ⟨rg, a, b, c, t, u, y, g, rfl, hr, ha, hb, hc, h0c, rfl⟩ := q
  refine wpAny_pyIter_range hr (range_small ha hb hc h0c) ?_
  rw [rangeN_eq h0c]
  have r1 := r.grow g
  have len : (rangeL a b c).length = rangeN a b c := by unfold rangeL; simp
  have iw : IterAt prog w A (Bar X env.locals O) h1 (h1.push { cls := .type "range_iterator", data := .fields #[rawInt a, rawInt (rangeN a b c : Nat), rawInt c] }) h1.objs.size [h1.objs.size] (fun i v => i < rangeN a b c ∧ ∃ t, v = .int (a + i * c) t) (fun i h => IsRangeIter h h1.objs.size (a + (i : Nat) * c) ((rangeN a b c : Int) - (i : Nat)) c) (rangeN a b c) (rangeL a b c) := by
    have wk := Walks.range (prog := prog) (w := w) hR.hd h1.objs.size a c (rangeN a b c)
    refine ⟨⟨wk.sub, wk.frame, fun i s Q E hi st hQ => wk.item i s Q E hi st fun v h' tk hP => hQ v h' tk ⟨hi, hP⟩, wk.done, wk.self⟩, len.symm, ?_, ?_, ?_, ?_, get_size h1, ?_⟩
    · show Heap.get? _ _ = _
      rw [Heap.get?_push_size _ rfl]
      simp
    · intro b hb
      simp only [List.mem_cons, List.not_mem_nil, or_false] at hb
      rw [hb, Heap.get?_push_size _ rfl]; rfl
    · intro b hb
      exact .inl (by simpa using hb)
    · intro i h st
      rw [st]; rfl
    · rintro h2 - i v hz; refine zAE hz ?_; clear hz; rintro hi t rfl
      refine ⟨.int (a + c * i), ?_, ?_⟩
      · unfold rangeL
        rw [List.getElem?_map, List.getElem?_range hi]; rfl
      · rw [Int.mul_comm c i]; exact .int _ _
  have := forW_ok (E := fun e s => cameBackBy (model prog w) A env (fun _ _ => False) e s) (s0 := s0) (tk2 := tk1) (p := p) hR r1 ok hx ib (Grow.push h1 _) iw e
  refine codeAny_mono this fun r s' z => ?_
  cases r with
  | ok f => refine zEEA z ?_; clear z; rintro h' tk' rfl z; exact (pst (z.from (.grow g)))
  | error e => exact z
def ExecOk (prog : Program) (w : World) (K : Frag) (mg mb : Str → Option Value) (env : Env) (ns : NK) (own : List Nat) (h0 : Heap) (F : FO) (A : Around) (st : Stmt) (s : S) : Prop :=
  ∀ (s0 : Shared) (X : Addr → Prop) (O : Nat → Option Addr) (h : Heap) (Γ Γ' : List D) (fl : Fl), run F own s Γ = some (fl, Γ') → Rep K mg mb env ns own X h0 O h Γ → EV prog w A s0 (exec st env) h (Post K mg mb env ns own X h0 O h fl Γ')
theorem skip_ok (r : Rep K mg mb env ns own X h0 O h Γ) {s : Str} {k : Nat} {p pos : Pos} : EV prog w A s0 (exec (.Expr (.Constant (.str s) k p) pos) env) h (Post K mg mb env ns own X h0 O h .next Γ) := fun tk =>
  wpAny_Expr (wpAny_Constant_str (pst ⟨rfl, O, r, .refl⟩)) (notInter r.eo)
theorem stuck_no {P : Prop} {fl : Fl} (h : run F own .stuck Γ = some (fl, Γ')) : P := nos h
theorem slotE_of {t : PySem.Expr} {f : Nat → S} {fl : Fl} (e : run F own (slotE ns t f) Γ = some (fl, Γ')) : ∃ x p i, t = .Name x p ∧ slotOf ns x = some i ∧ run F own (f i) Γ = some (fl, Γ') := by
  unfold slotE at e
  cases hx : vName t with
  | none => rw [hx] at e; exact stuck_no e
  | some x =>
    rw [hx] at e
    dsimp only at e
    refine zE (vName_of hx) ?_; rintro p rfl
    cases h1 : slotOf ns x with
    | none => rw [h1] at e; exact stuck_no e
    | some i => rw [h1] at e; exact ⟨x, p, i, rfl, h1, e⟩
theorem run_if {c : Prop} [Decidable c] {s : S} {fl : Fl} (e : run F own (if c then s else .stuck) Γ = some (fl, Γ')) : c ∧ run F own s Γ = some (fl, Γ') := by
  by_cases h : c
  · rw [if_pos h] at e; exact ⟨h, e⟩
  · rw [if_neg h] at e; exact stuck_no e
theorem asgS_ok (gl : Glo K mg) (orc : Orc prog w K mg mb k F) (hR : Room k A) (ok : OkNs ns own) {t v : PySem.Expr} {pos : Pos} {fl : Fl} (e : run F own (sAsg (era n ns) ns v t) Γ = some (fl, Γ')) (r : Rep K mg mb env ns own X h0 O h Γ) :
    EV prog w A s0 (exec (.Assign [t] v pos) env) h (Post K mg mb env ns own X h0 O h fl Γ') := by
  cases t with
  | Name x p =>
    change run F own (slotE ns (.Name x p) fun i => sNm (era n ns) ns i v) Γ = _ at e
    refine zEEEAA (slotE_of e) fun x' p' i q hx e => ?_
    injection q with q1 q2
    refine yl q1 ?_; clear q1 q2
    cases v with
    | Attribute y m ap =>
      obtain ⟨y', q, j, rfl, hy, e⟩ := slotE_of e
      obtain ⟨hm, e⟩ := run_if e
      exact ali_ok r ok hx hy hm e
    | _ => exact asg_ok gl orc hR r ok hx e
  | Tuple ts kk p =>
    change run F own (match slotsOf ns ts with | some is => sTup (era n ns) is v | none => .stuck) Γ = _ at e
    cases hts : slotsOf ns ts with
    | none => simp only [hts] at e; exact stuck_no e
    | some is =>
      simp only [hts] at e
      cases v with
      | Tuple es kk2 p2 =>
        obtain ⟨hc, e⟩ := run_if e
        exact asgP_ok gl orc hR r ok hts hc e
      | _ => exact asgT_ok gl orc hR r ok hts rfl e
  | Subscript x kx p =>
    obtain ⟨x', p', i, rfl, hx, e⟩ := slotE_of e
    exact setI_ok gl orc hR r ok hx e
  | _ => exact stuck_no e
theorem exprS_ok (gl : Glo K mg) (orc : Orc prog w K mg mb k F) (hR : Room k A) (ok : OkNs ns own) {v : PySem.Expr} {pos : Pos} {fl : Fl} (e : run F own (sExpr (era n ns) ns v) Γ = some (fl, Γ')) (r : Rep K mg mb env ns own X h0 O h Γ) :
    EV prog w A s0 (exec (.Expr v pos) env) h (Post K mg mb env ns own X h0 O h fl Γ') := by
  cases v with
  | Constant c kk p => cases c with
    | str s => injection e with e; injection e with e1 e2; subst e1 e2; exact skip_ok r
    | _ => exact stuck_no e
  | Call f args kws cp =>
    cases kws with
    | cons => exact stuck_no e
    | nil =>
      cases f with
      | Attribute x m ap =>
        obtain ⟨x', p', i, rfl, hx, e⟩ := slotE_of e
        obtain ⟨hline, e⟩ := run_if e
        match args with
        | [] =>
          obtain ⟨hm, e⟩ := run_if e
          exact pop_ok hR r ok hx hm hline e
        | [a] =>
          obtain ⟨hm, e⟩ := run_if e
          exact app_ok gl orc hR r ok hx hm.1 hm.2 hline e
        | _ :: _ :: _ => exact stuck_no e
      | Name x p =>
        change run F own (slotE ns (.Name x p) fun j => sAdd (era n ns) j args) Γ = _ at e
        obtain ⟨x', p', i, q, hx, e⟩ := slotE_of e
        injection q with q1 q2
        subst q1 q2
        match args with
        | [] => exact stuck_no e
        | [a] =>
          obtain ⟨hm, e⟩ := run_if e
          exact add_ok gl orc hR r ok hx hm e
        | _ :: _ :: _ => exact stuck_no e
      | _ => exact stuck_no e
  | _ => exact stuck_no e
theorem isRange_of {it : PySem.Expr} {args : List PySem.Expr} (h : isRange ns it = some args) : ∃ f fp cp, it = .Call (.Name f fp) args [] cp ∧ isG ns f = true ∧ f = Str.ofString "range" := by
  cases it with
  | Call f args' kws cp =>
    cases kws with
    | cons => exact nos h
    | nil =>
      change (if gIs ns f "range" = true then some args' else none) = some args at h
      by_cases hc : gIs ns f "range" = true
      · simp only [if_pos hc] at h
        injection h with h
        refine yl h ?_; clear h
        refine zEEAA (gIs_of hc) ?_; rintro y p rfl h1 h2
        exact iEEEAA y p cp rfl h1 h2
      · simp only [if_neg hc] at h; exact nos h
  | _ => exact nos h
theorem block_nil : BodyOk prog w K mg mb env ns own h0 F A [] .nil := by
  intro s0 X O h Γ Γ' fl e r tk
  refine y2 (runs_nil.symm.trans e) ?_; clear e
  exact wpAny_execs_nil (pst ⟨rfl, O, r, .refl⟩)
set_option tactic.hygienic true in
theorem block_cons {st : Stmt} {rest : List Stmt} {s : S} {ss : Ss} (i1 : ExecOk prog w K mg mb env ns own h0 F A st s) (i2 : BodyOk prog w K mg mb env ns own h0 F A rest ss) : BodyOk prog w K mg mb env ns own h0 F A (st :: rest) (.cons s ss) := by
  intro s0 X O h Γ Γ' fl e r tk
  replace e := runs_cons.symm.trans e
  split at e
  · rename_i G e1
    refine wpAny_execs_cons ((i1 s0 X O h Γ G .next e1 r).out fun f h1 tk1 z => ?_)
    obtain ⟨rfl, O1, r1, s1⟩ := z
    exact (i2 s0 X O1 h1 G Γ' fl e r1).out fun f h2 tk2 z => (pst (z.from s1))
  · rename_i hn
    refine wpAny_execs_cons ((i1 s0 X O h Γ Γ' fl e r).out fun f h1 tk1 z => ?_)
    cases fl with
    | next => exact absurd e (hn _)
    | brk => refine zA z ?_; clear z; rintro rfl z; exact (pst ⟨rfl, z⟩)
    | cont => refine zA z ?_; clear z; rintro rfl z; exact (pst ⟨rfl, z⟩)
    | ret d => refine zEA z ?_; clear z; rintro v rfl z; exact (pst ⟨v, rfl, z⟩)
theorem for_sound (gl : Glo K mg) (orc : Orc prog w K mg mb k F) (hR : Room k A) (ok : OkNs ns own) {t it : PySem.Expr} {b : List Stmt} {sb : Ss} {pos : Pos} {fl : Fl} (ib : BodyOk prog w K mg mb env ns own h0 F A b sb)
    (e : run F own (slotE ns t fun i => sFor (era n ns) ns it sb i) Γ = some (fl, Γ')) (r : Rep K mg mb env ns own X h0 O h Γ) : EV prog w A s0 (exec (.For t it b [] pos) env) h (Post K mg mb env ns own X h0 O h fl Γ') := by
  refine zEEEAA (slotE_of e) ?_; rintro x p i rfl hx e1
  clear e
  unfold sFor at e1
  cases hr : isRange ns it with
  | none => rw [hr] at e1; exact for_ok gl orc hR r ok hx ib e1
  | some args =>
    rw [hr] at e1
    dsimp only at e1
    refine zA (run_if e1) fun hs e2 => ?_
    refine zEEEAA (isRange_of hr) ?_; rintro f fp cp rfl h1 h2
    exact forR_ok gl orc hR r ok hx h1 h2 (okArgs_of hs).2 ib e2
theorem exec_sound (gl : Glo K mg) (orc : Orc prog w K mg mb k F) (hR : Room k A) (ok : OkNs ns own) {rr : List Stmt → Ss} (ib : ∀ b, BodyOk prog w K mg mb env ns own h0 F A b (rr b)) (st : Stmt) : ExecOk prog w K mg mb env ns own h0 F A st (eraS (era n ns) rr ns st) := by
  intro s0 X O h Γ Γ' fl e r
  cases st with
  | Assign ts v pos =>
    match ts with
    | [] => exact stuck_no e
    | [t] => exact asgS_ok gl orc hR ok e r
    | _ :: _ :: _ => exact stuck_no e
  | AugAssign t op v pos =>
    refine zEEEAA (slotE_of e) ?_; rintro x p i rfl hx e
    exact aug_ok gl orc hR r ok hx e
  | Expr v pos => exact exprS_ok gl orc hR ok e r
  | If c a b pos => exact if_ok gl orc hR r e (fun h1 e r => ib a s0 X O h1 Γ Γ' fl e r) (fun h1 e r => ib b s0 X O h1 Γ Γ' fl e r)
  | While c b els pos => cases els with
    | nil => exact while_ok gl orc hR r (ib b) e
    | cons => exact stuck_no e
  | For t it b els pos => cases els with
    | nil => exact for_sound gl orc hR ok (ib b) e r
    | cons => exact stuck_no e
  | Return v pos => cases v with
    | none => exact stuck_no e
    | some v => exact ret_ok gl orc hR r ok e
  | Break pos => injection e with e; injection e with e1 e2; subst e1 e2; exact fun tk => wpAny_Break (pst ⟨rfl, O, r, .refl⟩)
  | Continue pos => injection e with e; injection e with e1 e2; subst e1 e2; exact fun tk => wpAny_Continue (pst ⟨rfl, O, r, .refl⟩)
  | Assert c m pos => exact assert_ok gl orc hR r e
  | _ => exact stuck_no e
theorem execs_sound (gl : Glo K mg) (orc : Orc prog w K mg mb k F) (hR : Room k A) (ok : OkNs ns own) : ∀ (n : Nat) (sts : List Stmt), BodyOk prog w K mg mb env ns own h0 F A sts (eraSs n ns sts)
  | 0, sts => fun s0 X O h Γ Γ' fl e r => nos e
  | n + 1, [] => block_nil
  | n + 1, st :: rest => block_cons (exec_sound (n := n + 10) gl orc hR ok (execs_sound gl orc hR ok n) st) (execs_sound gl orc hR ok (n + 1) rest)
end
structure FnAt (K : Frag) (mg : Str → Option Value) (f : String) (ns : NK) (own : List Nat) (np : Nat) (body : List Stmt) (a : Addr) (o : Obj) (fd : FuncData) : Prop where
  glob : mg (Str.ofString f) = some (.ref a)
  look : K.lookup a = some o
  data : o.data = .func fd
  body : fd.body = .stmts body
  names : fd.scope.names = ns
  kind : fd.scope.kind = .function
  co : fd.scope.isCoroutine = false
  gen : fd.scope.isGenerator = false
  gl : fd.globals = mainGlobals
  bi : fd.builtins = builtinsNs
  code : ∀ h, K.In h → h.CodeRec fd.code fd.qualname
  bind : ∀ (vs : List Value) (s : Shared), vs.length = np → K.In s.heap → BindsTo s fd ⟨vs.take (vs.length - (kwOf f).length), ((kwOf f).map Str.ofString).zip (vs.drop (vs.length - (kwOf f).length))⟩ (((ns.take np).map (·.1)).zip vs)
  par : ∀ i x kd, i < np → ns[i]? = some (x, kd) → kd = .local
  plain : plainNames ns = true
  once : keysOnce ns = true
  ok : OkNs ns own
  low : ∀ i, i < np → own.contains i = false
  np : np ≤ ns.length
section
variable {prog : Program} {w : World} {K : Frag} {mg mb : Str → Option Value} {F : FO} {own : List Nat} {k n np : Nat} {ns : NK} {f : String} {body : List Stmt} {a : Addr} {o : Obj} {fd : FuncData}
theorem lookup_of : ∀ (l : List (Str × Value)), (l.map (·.1)).Nodup → ∀ x v, (x, v) ∈ l → l.lookup x = some v
  | [], _, x, v, h => by cases h
  | (y, u) :: l, hn, x, v, h => by
    rw [List.map_cons, List.nodup_cons] at hn
    rcases List.mem_cons.mp h with h | h
    · refine yr h ?_; clear h
      simp
    · have hne : (x == y) = false := by
        rw [beq_eq_false_iff_ne]
        intro q
        exact hn.1 (List.mem_map.mpr ⟨(x, v), h, q⟩)
      simp only [List.lookup_cons, hne]
      exact lookup_of l hn.2 x v h
set_option tactic.hygienic true in
theorem call_sound (gl : Glo K mg) (orc : Orc prog w K mg mb k F) (fa : FnAt K mg f ns own np body a o fd) {args : List D} {d : D} {Γ' : List D} (hlen : args.length = np)
    (hrun : runs F own (eraSs n ns body) (args ++ List.replicate (ns.length - np) .undef) = some (.ret d, Γ')) : CallOK prog w K mg mb (k + 1) f args d := by
  refine iEEEAAA a o fd fa.glob fa.look fa.data (fun s0 A h X vs hR wo th hvs tk => ?_)
  have hvl : vs.length = np := by simp only [hvs.length, hlen]
  have eo : ∀ L, EnvOk (callEnv fd L a) ns := fun L => ⟨fa.kind, fa.gl, fa.bi, fun x kd e _ => by
    show fd.scope.names.lookup x = _
    rw [fa.names]; exact e⟩
  have hxn : ((ns.take np).map (·.1)).Nodup := by
    rw [List.map_take]
    exact (List.take_sublist _ _).nodup fa.ok.nd
  have hxl : ((ns.take np).map (·.1)).length = np := by simp only [List.length_map, List.length_take]; have := fa.np; exact (Nat.min_eq_left this)
  refine wpAny_call (codeAny_call_def hR.lim (wo.k _ _ fa.look) fa.data wo.nl (fa.code h wo.k) fa.body (fa.bind vs _ hvl wo.k) ?_ ?_ (fun h₀ hns hg => ?_) fa.co fa.gen fa.kind)
  · exact (plain_free (scope := fd.scope) (by rw [fa.names]; exact fa.plain)).2
  · intro x hx
    rw [fa.names]
    refine zE (List.getElem?_of_mem (List.of_mem_zip hx).1) fun i hi => ?_
    rw [List.getElem?_map] at hi
    refine zEA (Option.map_eq_some_iff.mp hi) ?_; rintro ⟨y, kd⟩ h1 h2
    rw [List.getElem?_take] at h1
    split at h1
    · rename_i hlt
      have := fa.par i y kd hlt h1
      subst this
      have := keys_once fa.once (y, .local) (List.mem_of_getElem? h1) rfl
      rw [← h2]; exact this
    · exact nos h1
  · have hL : h.get? h.objs.size = none := get_size h
    have hLs : (h₀.get? h.objs.size).isSome = true := by refine zEEEA hns ?_; clear hns; intro ob _ _ e _; rw [show h₀.get? h.objs.size = _ from e]; rfl
    have nX : ¬ X h.objs.size := fun q => by have := th _ q; rw [hL] at this; exact bf this
    have rep : Rep K mg mb (callEnv fd h.objs.size a) ns own X h (fun _ => none) h₀ (args ++ List.replicate (ns.length - np) .undef) := by
      refine ⟨eo _, wo, hg, ?_, ⟨hL, nX⟩, fun i a e => (by exact nos e), fun i j a e => (by exact nos e), _, hns, ?_⟩
      · rintro b (q | q | ⟨i, q⟩)
        · exact th.grow hg b q
        · rw [q]; exact hLs
        · exact nos q
      · intro i x e e1 e2 hu
        rw [List.getElem?_append] at e2
        split at e2
        · rename_i hi
          refine zEA (hvs.get e2) fun v hv vv => ?_
          simp only [hlen] at hi
          have hx : ((ns.take np).map (·.1))[i]? = some x := by
            rw [List.getElem?_map, List.getElem?_take, if_pos hi, e1]; rfl
          refine ⟨v, ?_, .plain (by rw [fa.low i hi]; rfl) ((vv.bar (Y := Bar X h.objs.size fun _ => none) fun b hb nb q => ?_).keep (Grow.x hg _))⟩
          · have hmap : ((((ns.take np).map (·.1)).zip vs).map (·.1)) = (ns.take np).map (·.1) := by
              rw [List.map_fst_zip (by simp only [hxl, hvl]; exact Nat.le_refl _)]
            refine lookup_of _ (by simp only [List.map_reverse, hmap]; exact (List.reverse_perm _).nodup_iff.mpr hxn) x v ?_
            rw [List.mem_reverse]
            refine List.mem_of_getElem? (i := i) ?_
            rw [List.getElem?_zip_eq_some]
            exact ⟨hx, hv⟩
          · rcases q with q | q | ⟨j, q⟩
            · exact nb q
            · rw [q, hL] at hb; exact bf hb
            · exact nos q
        · rename_i hi
          rw [List.getElem?_replicate] at e2
          split at e2
          · cases e2; exact absurd rfl hu
          · exact nos e2
    refine (execs_sound (h0 := h) gl orc (hR.deeper _) fa.ok n body s0 X (fun _ => none) h₀ _ Γ' (.ret d) hrun rep).out fun fl h' tk' z => ?_
    refine zEAA z ?_; clear z; rintro v rfl g hv
    exact (pst ⟨g, hv⟩)
end
section
theorem nodup_of : ∀ {l : List Str}, nodupB l = true → l.Nodup
  | [], _ => .nil
  | a :: r, h => by
    simp only [nodupB, Bool.and_eq_true, Bool.not_eq_true', List.any_eq_false] at h
    exact List.nodup_cons.mpr ⟨fun q => h.1 a q (by simp), nodup_of h.2⟩
set_option tactic.hygienic true in
theorem fn_of {K : Frag} {mg : Str → Option Value} {f : String} {own : List Nat} {np : Nat} (hmg : ∀ n v, nsIn K mainGlobals n = some (some v) → mg n = some v) (e : fnOk K f own np = true)
    (hb : ∀ (vs : List Value) (s : Shared), vs.length = np → K.In s.heap → BindsTo s (fdG K f) ⟨vs.take (vs.length - (kwOf f).length), ((kwOf f).map Str.ofString).zip (vs.drop (vs.length - (kwOf f).length))⟩ ((((nsG K f).take np).map (·.1)).zip vs)) :
    ∃ a o, FnAt K mg f (nsG K f) own np (bodyG K f) a o (fdG K f) := by
  unfold fnOk at e
  simp only [Bool.and_eq_true, Bool.not_eq_true', decide_eq_true_eq] at e
  obtain ⟨⟨⟨⟨⟨⟨⟨⟨⟨⟨⟨⟨⟨⟨⟨e1, e2⟩, e3⟩, e4⟩, e5⟩, e6⟩, e7⟩, e8⟩, e9⟩, e10⟩, e11⟩, e12⟩, e13⟩, e14⟩, e15⟩, e16⟩ := e
  refine zE (Option.isSome_iff_exists.mp e1) ?_; rintro ⟨a, o, fd⟩ q
  have hfd : fdG K f = fd := by unfold fdG; rw [q]
  have q' := q
  unfold fdIn at q
  split at q
  · rename_i a' hn
    split at q
    · rename_i o' hl
      split at q
      · rename_i fd' hd
        cases q
        refine ⟨_, _, hmg _ _ hn, hl, by rw [hfd]; exact hd, ?_, rfl, eq_of_beq e3, e4, e5, eq_of_beq e6, eq_of_beq e7, fun h X => codeRec_of X e8, hb, ?_, e9, e10, ⟨?_, nodup_of e12, ?_⟩, ?_, e16⟩
        · unfold bodyG
          revert e2
          cases (fdG K f).body <;> simp [isStmts]
        · intro i x kd hi hx
          have hm : (x, kd) ∈ (nsG K f).take np := List.mem_of_getElem? (i := i) (by rw [List.getElem?_take, if_pos hi]; exact hx)
          exact eq_of_beq (List.all_eq_true.mp e14 _ hm)
        · intro i hi
          have hm : i ∈ own := by simpa using hi
          have := List.all_eq_true.mp e11 i hm
          split at this
          · rename_i x hx
            exact ⟨_, hx⟩
          · exact bf this
        · intro x hx
          have := List.all_eq_true.mp e13 x hx
          simpa using this
        · intro i hi
          cases h : own.contains i with
          | false => rfl
          | true =>
            have hm : i ∈ own := by simpa using h
            have := List.all_eq_true.mp e15 i hm
            simp at this
            omega
      · exact nos q
    · exact nos q
  · exact nos q
end
section
open PySem PySem.W
noncomputable def btranslate : Ss := (.cons .skip
   (.cons (.asg 1 .bad)
   (.cons (.asg 2 (.fn "_translate" (.cons (.var 0) (.cons (.var 1) (.cons (.lit (.str [46])) .nil)))))
   (.cons (.ret (.fn "_join_translated_parts" (.cons (.var 2) (.cons (.var 1) .nil))))
   .nil))))
noncomputable def bescape : Ss := (.cons (.iff (.bi "isinstance" (.cons (.var 0) (.cons (.lit (.ty "str")) .nil))) (.cons (.ret (.esc (.var 0)))
   .nil) (.cons (.asg 0 .bad)
   (.cons (.ret .bad)
   .nil)))
   .nil)
noncomputable def b_translate_1 : Ss := (.cons (.asg 8 (.bin .Add (.var 8) (.lit (.int (1)))))
   .nil)
noncomputable def b_translate_2 : Ss := (.cons (.asg 11 .bad)
   (.cons (.iff (.cmp .Lt (.var 11) (.lit (.int (0)))) (.cons .brk
   .nil) .nil)
   (.cons (.app 10 (.sl (.var 0) (.var 5) (.var 11)))
   (.cons (.asg 5 (.bin .Add (.var 11) (.lit (.int (1)))))
   (.cons (.asg 11 (.bin .Add (.var 11) (.lit (.int (3)))))
   .nil)))))
noncomputable def b_translate_3 : Ss := (.cons (.iff (.cmp .Gt (.idx (.idx (.var 10) (.bin .Sub (.var 11) (.lit (.int (1))))) (.neg (.lit (.int (1))))) (.idx (.idx (.var 10) (.var 11)) (.lit (.int (0))))) (.cons (.setI 10 (.bin .Sub (.var 11) (.lit (.int (1)))) (.bin .Add (.sl (.idx (.var 10) (.bin .Sub (.var 11) (.lit (.int (1))))) (.lit .none) (.neg (.lit (.int (1))))) (.sl (.idx (.var 10) (.var 11)) (.lit (.int (1))) (.lit .none))))
   (.cons .stuck
   .nil)) .nil)
   .nil)
noncomputable def b_translate_4 : Ss := (.cons (.asg 7 (.idx (.var 0) (.var 5)))
   (.cons (.asg 5 (.bin .Add (.var 5) (.lit (.int (1)))))
   (.cons (.iff (.cmp .Eq (.var 7) (.lit (.str [42]))) (.cons (.iff (.or (.not (.var 3)) (.cmp .IsNot (.idx (.var 3) (.neg (.lit (.int (1))))) (.var 1))) (.cons (.add 4 (.var 1))
   .nil) .nil)
   .nil) (.cons (.iff (.cmp .Eq (.var 7) (.lit (.str [63]))) (.cons (.add 4 (.var 2))
   .nil) (.cons (.iff (.cmp .Eq (.var 7) (.lit (.str [91]))) (.cons (.asg 8 (.var 5))
   (.cons (.iff (.and (.cmp .Lt (.var 8) (.var 6)) (.cmp .Eq (.idx (.var 0) (.var 8)) (.lit (.str [33])))) (.cons (.asg 8 (.bin .Add (.var 8) (.lit (.int (1)))))
   .nil) .nil)
   (.cons (.iff (.and (.cmp .Lt (.var 8) (.var 6)) (.cmp .Eq (.idx (.var 0) (.var 8)) (.lit (.str [93])))) (.cons (.asg 8 (.bin .Add (.var 8) (.lit (.int (1)))))
   .nil) .nil)
   (.cons (.whl (.and (.cmp .Lt (.var 8) (.var 6)) (.cmp .NotEq (.idx (.var 0) (.var 8)) (.lit (.str [93])))) b_translate_1)
   (.cons (.iff (.cmp .GtE (.var 8) (.var 6)) (.cons (.add 4 (.lit (.str [92, 91])))
   .nil) (.cons (.asg 9 (.sl (.var 0) (.var 5) (.var 8)))
   (.cons (.iff (.cmp .NotIn (.lit (.str [45])) (.var 9)) (.cons (.asg 9 .bad)
   .nil) (.cons (.asg 10 (.list .nil))
   (.cons (.asg 11 .bad)
   (.cons (.whl (.lit (.bool true)) b_translate_2)
   (.cons (.asg 12 (.sl (.var 0) (.var 5) (.var 8)))
   (.cons (.iff (.var 12) (.cons (.app 10 (.var 12))
   .nil) (.cons .stuck
   .nil))
   (.cons (.forR 11 (.cons (.bin .Sub (.bi "len" (.cons (.var 10) .nil)) (.lit (.int (1)))) (.cons (.lit (.int (0))) (.cons (.neg (.lit (.int (1)))) .nil))) b_translate_3)
   (.cons (.asg 9 (.me (.lit (.str [45])) "join" (.cons .bad .nil)))
   .nil))))))))
   (.cons (.asg 9 .bad)
   (.cons (.asg 5 (.bin .Add (.var 8) (.lit (.int (1)))))
   (.cons (.iff (.not (.var 9)) (.cons (.add 4 (.lit (.str [40, 63, 33, 41])))
   .nil) (.cons (.iff (.cmp .Eq (.var 9) (.lit (.str [33]))) (.cons (.add 4 (.lit (.str [46])))
   .nil) (.cons (.iff (.cmp .Eq (.idx (.var 9) (.lit (.int (0)))) (.lit (.str [33]))) (.cons (.asg 9 (.bin .Add (.lit (.str [94])) (.sl (.var 9) (.lit (.int (1))) (.lit .none))))
   .nil) (.cons (.iff (.cmp .In (.idx (.var 9) (.lit (.int (0)))) (.tup (.cons (.lit (.str [94])) (.cons (.lit (.str [91])) .nil)))) (.cons (.asg 9 (.bin .Add (.lit (.str [92])) (.var 9)))
   .nil) .nil)
   .nil))
   (.cons (.add 4 (.fstr (.cons (.lit (.str [91])) (.cons (.var 9) (.cons (.lit (.str [93])) .nil)))))
   .nil)))
   .nil))
   .nil))))))
   .nil))))) (.cons (.add 4 (.fn "escape" (.cons (.var 7) .nil)))
   .nil))
   .nil))
   .nil))
   .nil)))
noncomputable def b_translate : Ss := (.cons (.asg 3 (.list .nil))
   (.cons (.ali 4 3)
   (.cons (.asgP [5, 6] (.cons (.lit (.int (0))) (.cons (.bi "len" (.cons (.var 0) .nil)) .nil)))
   (.cons (.whl (.cmp .Lt (.var 5) (.var 6)) b_translate_4)
   (.cons (.asrt (.cmp .Eq (.var 5) (.var 6)))
   (.cons (.ret (.var 3))
   .nil))))))
noncomputable def b_join_translated_parts_1 : Ss := (.cons (.add 3 (.idx (.var 0) (.var 4)))
   (.cons (.aug 4 .Add (.lit (.int (1))))
   .nil))
noncomputable def b_join_translated_parts_2 : Ss := (.cons (.app 6 (.idx (.var 0) (.var 4)))
   (.cons (.aug 4 .Add (.lit (.int (1))))
   .nil))
noncomputable def b_join_translated_parts_3 : Ss := (.cons (.asrt (.cmp .Is (.idx (.var 0) (.var 4)) (.var 1)))
   (.cons (.aug 4 .Add (.lit (.int (1))))
   (.cons (.iff (.cmp .Eq (.var 4) (.var 5)) (.cons (.add 3 (.lit (.str [46, 42])))
   (.cons .brk
   .nil)) .nil)
   (.cons (.asrt (.cmp .IsNot (.idx (.var 0) (.var 4)) (.var 1)))
   (.cons (.asg 6 (.list .nil))
   (.cons (.whl (.and (.cmp .Lt (.var 4) (.var 5)) (.cmp .IsNot (.idx (.var 0) (.var 4)) (.var 1))) b_join_translated_parts_2)
   (.cons (.asg 6 (.me (.lit (.str [])) "join" (.cons (.var 6) .nil)))
   (.cons (.iff (.cmp .Eq (.var 4) (.var 5)) (.cons (.add 3 (.lit (.str [46, 42])))
   (.cons (.add 3 (.var 6))
   .nil)) (.cons (.add 3 (.fstr (.cons (.lit (.str [40, 63, 62, 46, 42, 63])) (.cons (.var 6) (.cons (.lit (.str [41])) .nil)))))
   .nil))
   .nil))))))))
noncomputable def b_join_translated_parts : Ss := (.cons (.asg 2 (.list .nil))
   (.cons (.ali 3 2)
   (.cons (.asgP [4, 5] (.cons (.lit (.int (0))) (.cons (.bi "len" (.cons (.var 0) .nil)) .nil)))
   (.cons (.whl (.and (.cmp .Lt (.var 4) (.var 5)) (.cmp .IsNot (.idx (.var 0) (.var 4)) (.var 1))) b_join_translated_parts_1)
   (.cons (.whl (.cmp .Lt (.var 4) (.var 5)) b_join_translated_parts_3)
   (.cons (.asrt (.cmp .Eq (.var 4) (.var 5)))
   (.cons (.asg 2 (.me (.lit (.str [])) "join" (.cons (.var 2) .nil)))
   (.cons (.ret (.fstr (.cons (.lit (.str [40, 63, 115, 58])) (.cons (.var 2) (.cons (.lit (.str [41, 92, 90])) .nil)))))
   .nil))))))))
noncomputable def bfspath : Ss := (.cons (.asg 1 (.bi "type" (.cons (.var 0) .nil)))
   (.cons (.iff (.bi "issubclass" (.cons (.var 1) (.cons (.tup (.cons (.lit (.ty "str")) (.cons (.lit (.ty "bytes")) .nil))) .nil))) (.cons (.ret (.var 0))
   .nil) .nil)
   (.cons .stuck
   (.cons (.asg 2 .bad)
   (.cons (.iff (.cmp .Is (.var 2) (.lit .none)) (.cons .stuck
   .nil) .nil)
   (.cons (.iff (.cmp .IsNot (.bi "type" (.cons (.var 2) .nil)) (.bi "type" (.cons .bad .nil))) (.cons .stuck
   .nil) .nil)
   (.cons (.asg 3 .bad)
   (.cons (.iff (.bi "issubclass" (.cons (.bi "type" (.cons (.var 3) .nil)) (.cons (.tup (.cons (.lit (.ty "str")) (.cons (.lit (.ty "bytes")) .nil))) .nil))) (.cons (.ret (.var 3))
   .nil) .nil)
   (.cons (.iff (.cmp .Gt (.bi "len" (.cons .bad .nil)) (.lit (.int (200)))) (.cons .stuck
   .nil) .nil)
   (.cons .stuck
   .nil))))))))))
noncomputable def b_splitext_1 : Ss := (.cons (.iff (.cmp .NotEq (.sl (.var 0) (.var 7) (.bin .Add (.var 7) (.lit (.int (1))))) (.var 3)) (.cons (.ret (.tup (.cons (.sl (.var 0) (.lit .none) (.var 6)) (.cons (.sl (.var 0) (.var 6) (.lit .none)) .nil))))
   .nil) .nil)
   (.cons (.aug 7 .Add (.lit (.int (1))))
   .nil))
noncomputable def b_splitext : Ss := (.cons .skip
   (.cons (.asg 4 (.me (.var 0) "rfind" (.cons (.var 1) .nil)))
   (.cons (.iff (.var 2) (.cons (.asg 5 (.me (.var 0) "rfind" (.cons (.var 2) .nil)))
   (.cons (.asg 4 .bad)
   .nil)) .nil)
   (.cons (.asg 6 (.me (.var 0) "rfind" (.cons (.var 3) .nil)))
   (.cons (.iff (.cmp .Gt (.var 6) (.var 4)) (.cons (.asg 7 (.bin .Add (.var 4) (.lit (.int (1)))))
   (.cons (.whl (.cmp .Lt (.var 7) (.var 6)) b_splitext_1)
   .nil)) .nil)
   (.cons (.ret (.tup (.cons (.var 0) (.cons (.sl (.var 0) (.lit .none) (.lit (.int (0)))) .nil))))
   .nil))))))
noncomputable def b_get_sep : Ss := (.cons (.iff (.bi "isinstance" (.cons (.var 0) (.cons (.lit (.ty "bytes")) .nil))) (.cons (.ret (.lit (.bytes [47])))
   .nil) (.cons (.ret (.lit (.str [47])))
   .nil))
   .nil)
noncomputable def bsplit : Ss := (.cons .skip
   (.cons (.asg 0 (.fn "fspath" (.cons (.var 0) .nil)))
   (.cons (.asg 1 (.fn "_get_sep" (.cons (.var 0) .nil)))
   (.cons (.asg 2 (.bin .Add (.me (.var 0) "rfind" (.cons (.var 1) .nil)) (.lit (.int (1)))))
   (.cons (.asgP [3, 4] (.cons (.sl (.var 0) (.lit .none) (.var 2)) (.cons (.sl (.var 0) (.var 2) (.lit .none)) .nil)))
   (.cons (.iff (.and (.var 3) (.cmp .NotEq (.var 3) (.bin .Mult (.var 1) (.bi "len" (.cons (.var 3) .nil))))) (.cons (.asg 3 (.me (.var 3) "rstrip" (.cons (.var 1) .nil)))
   .nil) .nil)
   (.cons (.ret (.tup (.cons (.var 3) (.cons (.var 4) .nil))))
   .nil)))))))
noncomputable def bsplitext : Ss := (.cons (.asg 0 (.fn "fspath" (.cons (.var 0) .nil)))
   (.cons (.iff (.bi "isinstance" (.cons (.var 0) (.cons (.lit (.ty "bytes")) .nil))) (.cons (.asg 1 (.lit (.bytes [47])))
   (.cons (.asg 2 (.lit (.bytes [46])))
   .nil)) (.cons (.asg 1 (.lit (.str [47])))
   (.cons (.asg 2 (.lit (.str [46])))
   .nil)))
   (.cons (.ret (.fn "_splitext" (.cons (.var 0) (.cons (.var 1) (.cons (.lit .none) (.cons (.var 2) .nil))))))
   .nil)))
noncomputable def bsplitroot : Ss := (.cons .skip
   (.cons (.asg 0 (.fn "fspath" (.cons (.var 0) .nil)))
   (.cons (.iff (.bi "isinstance" (.cons (.var 0) (.cons (.lit (.ty "bytes")) .nil))) (.cons (.asg 1 (.lit (.bytes [47])))
   (.cons (.asg 2 (.lit (.bytes [])))
   .nil)) (.cons (.asg 1 (.lit (.str [47])))
   (.cons (.asg 2 (.lit (.str [])))
   .nil)))
   (.cons (.iff (.cmp .NotEq (.sl (.var 0) (.lit .none) (.lit (.int (1)))) (.var 1)) (.cons (.ret (.tup (.cons (.var 2) (.cons (.var 2) (.cons (.var 0) .nil)))))
   .nil) (.cons (.iff (.or (.cmp .NotEq (.sl (.var 0) (.lit (.int (1))) (.lit (.int (2)))) (.var 1)) (.cmp .Eq (.sl (.var 0) (.lit (.int (2))) (.lit (.int (3)))) (.var 1))) (.cons (.ret (.tup (.cons (.var 2) (.cons (.var 1) (.cons (.sl (.var 0) (.lit (.int (1))) (.lit .none)) .nil)))))
   .nil) (.cons (.ret (.tup (.cons (.var 2) (.cons (.sl (.var 0) (.lit .none) (.lit (.int (2)))) (.cons (.sl (.var 0) (.lit (.int (2))) (.lit .none)) .nil)))))
   .nil))
   .nil))
   .nil))))
noncomputable def bnormpath_1 : Ss := (.cons (.iff (.or (.not (.var 8)) (.cmp .Eq (.var 8) (.var 2))) (.cons .cont
   .nil) .nil)
   (.cons (.iff (.or (.cmp .NotEq (.var 8) (.var 3)) (.or (.and (.not (.var 5)) (.not (.var 7))) (.and (.var 7) (.cmp .Eq (.idx (.var 7) (.neg (.lit (.int (1))))) (.var 3))))) (.cons (.app 7 (.var 8))
   .nil) (.cons (.iff (.var 7) (.cons (.pop 7)
   .nil) .nil)
   .nil))
   .nil))
noncomputable def bnormpath : Ss := (.cons .skip
   (.cons (.asg 0 (.fn "fspath" (.cons (.var 0) .nil)))
   (.cons (.iff (.bi "isinstance" (.cons (.var 0) (.cons (.lit (.ty "bytes")) .nil))) (.cons (.asg 1 (.lit (.bytes [47])))
   (.cons (.asg 2 (.lit (.bytes [46])))
   (.cons (.asg 3 (.lit (.bytes [46, 46])))
   .nil))) (.cons (.asg 1 (.lit (.str [47])))
   (.cons (.asg 2 (.lit (.str [46])))
   (.cons (.asg 3 (.lit (.str [46, 46])))
   .nil))))
   (.cons (.iff (.not (.var 0)) (.cons (.ret (.var 2))
   .nil) .nil)
   (.cons (.asgT [4, 5, 0] (.fn "splitroot" (.cons (.var 0) .nil)))
   (.cons (.asg 6 (.me (.var 0) "split" (.cons (.var 1) .nil)))
   (.cons (.asg 7 (.list .nil))
   (.cons (.for_ 8 (.var 6) bnormpath_1)
   (.cons (.asg 6 (.var 7))
   (.cons (.asg 0 (.bin .Add (.var 5) (.me (.var 1) "join" (.cons (.var 6) .nil))))
   (.cons (.ret (.or (.var 0) (.var 2)))
   .nil)))))))))))
noncomputable def b_buffer : Ss := (.cons (.asg 1 (.bi "type" (.cons (.var 0) .nil)))
   (.cons (.iff (.cmp .Is (.var 1) (.lit (.ty "bytes"))) (.cons (.ret (.var 0))
   .nil) .nil)
   (.cons (.iff (.cmp .Is (.var 1) .bad) (.cons (.ret (.bi "bytes" (.cons (.var 0) .nil)))
   .nil) .nil)
   (.cons .stuck
   .nil))))
noncomputable def b_truth : Ss := (.cons (.asg 1 (.bi "type" (.cons (.var 0) .nil)))
   (.cons (.iff (.or (.cmp .Is (.var 0) (.lit .none)) (.or (.cmp .Is (.var 1) (.lit (.ty "bool"))) (.or (.cmp .Is (.var 1) .bad) (.or (.cmp .Is (.var 1) .bad) (.or (.cmp .Is (.var 1) .bad) (.or (.cmp .Is (.var 1) (.lit (.ty "str"))) (.or (.cmp .Is (.var 1) (.lit (.ty "bytes"))) (.or (.cmp .Is (.var 1) .bad) (.or (.cmp .Is (.var 1) .bad) (.or (.cmp .Is (.var 1) .bad) (.or (.cmp .Is (.var 1) .bad) (.or (.cmp .Is (.var 1) .bad) (.or (.cmp .Is (.var 1) .bad) (.cmp .Is (.var 1) .bad)))))))))))))) (.cons (.ret (.ite (.var 0) (.lit (.bool true)) (.lit (.bool false))))
   .nil) .nil)
   (.cons .stuck
   .nil)))
noncomputable def bb2a_base64_1 : Ss := (.cons (.app 3 (.idx (.glob "_B64") (.bin .BitAnd (.bin .RShift (.var 5) (.bin .Sub (.var 4) (.lit (.int (6))))) (.lit (.int (63))))))
   (.cons (.asg 4 (.bin .Sub (.var 4) (.lit (.int (6)))))
   .nil))
noncomputable def bb2a_base64_2 : Ss := (.cons (.asg 5 (.bin .BitAnd (.bin .BitOr (.bin .LShift (.var 5) (.lit (.int (8)))) (.var 6)) (.lit (.int (65535)))))
   (.cons (.asg 4 (.bin .Add (.var 4) (.lit (.int (8)))))
   (.cons (.whl (.cmp .GtE (.var 4) (.lit (.int (6)))) bb2a_base64_1)
   .nil)))
noncomputable def bb2a_base64 : Ss := (.cons (.asg 2 (.fn "_buffer" (.cons (.var 0) .nil)))
   (.cons (.asg 1 (.fn "_truth" (.cons (.var 1) .nil)))
   (.cons (.asg 3 (.list .nil))
   (.cons (.asg 4 (.lit (.int (0))))
   (.cons (.asg 5 (.lit (.int (0))))
   (.cons (.for_ 6 (.var 2) bb2a_base64_2)
   (.cons (.iff (.cmp .Eq (.var 4) (.lit (.int (2)))) (.cons (.app 3 (.idx (.glob "_B64") (.bin .LShift (.bin .BitAnd (.var 5) (.lit (.int (3)))) (.lit (.int (4))))))
   (.cons (.app 3 (.lit (.int (61))))
   (.cons (.app 3 (.lit (.int (61))))
   .nil))) (.cons (.iff (.cmp .Eq (.var 4) (.lit (.int (4)))) (.cons (.app 3 (.idx (.glob "_B64") (.bin .LShift (.bin .BitAnd (.var 5) (.lit (.int (15)))) (.lit (.int (2))))))
   (.cons (.app 3 (.lit (.int (61))))
   .nil)) .nil)
   .nil))
   (.cons (.iff (.var 1) (.cons (.app 3 (.lit (.int (10))))
   .nil) .nil)
   (.cons (.ret (.bi "bytes" (.cons (.var 3) .nil)))
   .nil)))))))))
noncomputable def bb64encode : Ss := (.cons .skip
   (.cons (.asg 2 (.fn "b2a_base64" (.cons (.var 0) (.cons (.lit (.bool false)) .nil))))
   (.cons (.iff (.cmp .IsNot (.var 1) (.lit .none)) (.cons (.asrt (.cmp .Eq (.bi "len" (.cons (.var 1) .nil)) (.lit (.int (2)))))
   (.cons (.ret (.me (.var 2) "translate" (.cons (.bi "maketrans" (.cons (.lit (.bytes [43, 47])) (.cons (.var 1) .nil))) .nil)))
   .nil)) .nil)
   (.cons (.ret (.var 2))
   .nil))))
noncomputable def b_law_item : Ss := (.cons (.asg 1 (.bin .Mod (.var 0) (.bin .Pow (.lit (.int (10))) (.lit (.int (9))))))
   (.cons (.asg 2 (.bin .Mod (.bin .FloorDiv (.var 1) (.lit (.int (16)))) (.lit (.int (64)))))
   (.cons (.asg 3 (.list (.cons (.tup (.cons (.list (.cons (.lit (.int (62))) .nil)) (.cons (.list (.cons (.lit (.int (63))) (.cons (.lit (.int (0))) .nil))) .nil))) (.cons (.tup (.cons (.list (.cons (.lit (.int (63))) .nil)) (.cons (.list (.cons (.lit (.int (63))) .nil)) .nil))) (.cons (.tup (.cons (.list (.cons (.lit (.int (0))) .nil)) (.cons (.list (.cons (.lit (.int (0))) .nil)) .nil))) (.cons (.tup (.cons (.list (.cons (.lit (.int (62))) .nil)) (.cons (.list .nil) .nil))) (.cons (.tup (.cons (.list (.cons (.lit (.int (63))) .nil)) (.cons (.list (.cons (.lit (.int (62))) .nil)) .nil))) (.cons (.tup (.cons (.list (.cons (.var 2) .nil)) (.cons (.list (.cons (.var 2) .nil)) .nil))) (.cons (.tup (.cons (.list (.cons (.lit (.int (62))) .nil)) (.cons (.list (.cons (.lit (.int (62))) (.cons (.lit (.int (62))) (.cons (.lit (.int (63))) .nil)))) .nil))) (.cons (.tup (.cons (.list (.cons (.lit (.int (0))) .nil)) (.cons (.list (.cons (.lit (.int (1))) .nil)) .nil))) (.cons (.tup (.cons (.list .nil) (.cons (.list (.cons (.lit (.int (63))) .nil)) .nil))) (.cons (.tup (.cons (.list (.cons (.lit (.int (1))) .nil)) (.cons (.list (.cons (.lit (.int (1))) .nil)) .nil))) (.cons (.tup (.cons (.list (.cons (.lit (.int (62))) .nil)) (.cons (.list (.cons (.var 2) .nil)) .nil))) (.cons (.tup (.cons (.list (.cons (.lit (.int (63))) .nil)) (.cons (.list (.cons (.lit (.int (62))) (.cons (.lit (.int (62))) .nil))) .nil))) (.cons (.tup (.cons (.list .nil) (.cons (.list (.cons (.lit (.int (62))) .nil)) .nil))) (.cons (.tup (.cons (.list (.cons (.lit (.int (0))) .nil)) (.cons (.list (.cons (.lit (.int (0))) .nil)) .nil))) (.cons (.tup (.cons (.list (.cons (.lit (.int (62))) .nil)) (.cons (.list (.cons (.lit (.int (1))) (.cons (.lit (.int (62))) (.cons (.lit (.int (0))) .nil)))) .nil))) (.cons (.tup (.cons (.list (.cons (.var 2) .nil)) (.cons (.list (.cons (.bin .Mod (.bin .FloorDiv (.var 1) (.lit (.int (1024)))) (.lit (.int (64)))) .nil)) .nil))) .nil))))))))))))))))))
   (.cons (.ret (.idx (.var 3) (.bin .Mod (.var 1) (.lit (.int (16))))))
   .nil))))
noncomputable def b_law_drawn_1 : Ss := (.cons (.asg 4 (.fn "_law_item" (.cons (.var 3) .nil)))
   (.cons (.asg 1 (.bin .Add (.var 1) (.idx (.var 4) (.lit (.int (0))))))
   (.cons (.asg 2 (.bin .Add (.var 2) (.idx (.var 4) (.lit (.int (1))))))
   .nil)))
noncomputable def b_law_drawn : Ss := (.cons (.asg 1 (.list .nil))
   (.cons (.asg 2 (.list .nil))
   (.cons (.for_ 3 (.var 0) b_law_drawn_1)
   (.cons (.ret (.tup (.cons (.var 1) (.cons (.var 2) .nil))))
   .nil))))
noncomputable def b_law_rows : Ss := (.cons (.asg 2 (.bin .Mod (.var 1) (.bin .Add (.bi "len" (.cons (.var 0) .nil)) (.lit (.int (1))))))
   (.cons (.asgT [3, 4] (.fn "_law_drawn" (.cons (.sl (.var 0) (.lit .none) (.var 2)) .nil)))
   (.cons (.asgT [5, 6] (.fn "_law_drawn" (.cons (.sl (.var 0) (.var 2) (.lit .none)) .nil)))
   (.cons (.asg 7 (.bin .Mult (.list (.cons (.lit (.int (62))) .nil)) (.bin .Sub (.lit (.int (4))) (.bin .Mod (.bi "len" (.cons (.bin .Add (.var 3) (.var 5)) .nil)) (.lit (.int (4)))))))
   (.cons (.asg 8 (.sl (.list (.cons (.lit (.int (63))) (.cons (.lit (.int (0))) (.cons (.lit (.int (62))) (.cons (.lit (.int (1))) .nil))))) (.lit .none) (.bin .Sub (.lit (.int (4))) (.bin .Mod (.bi "len" (.cons (.bin .Add (.var 4) (.var 6)) .nil)) (.lit (.int (4)))))))
   (.cons (.ret (.tup (.cons (.bin .Add (.bin .Add (.var 3) (.var 7)) (.var 5)) (.cons (.bin .Add (.bin .Add (.var 4) (.var 8)) (.var 6)) .nil))))
   .nil))))))
noncomputable def b_law_octets_1 : Ss := (.cons (.asgT [3, 4, 5, 6] (.sl (.var 0) (.var 2) (.bin .Add (.var 2) (.lit (.int (4))))))
   (.cons (.asg 1 (.bin .Add (.var 1) (.list (.cons (.bin .Add (.bin .Mult (.var 3) (.lit (.int (4)))) (.bin .FloorDiv (.var 4) (.lit (.int (16))))) (.cons (.bin .Add (.bin .Mult (.bin .Mod (.var 4) (.lit (.int (16)))) (.lit (.int (16)))) (.bin .FloorDiv (.var 5) (.lit (.int (4))))) (.cons (.bin .Add (.bin .Mult (.bin .Mod (.var 5) (.lit (.int (4)))) (.lit (.int (64)))) (.var 6)) .nil))))))
   .nil))
noncomputable def b_law_octets : Ss := (.cons (.asg 1 (.list .nil))
   (.cons (.forR 2 (.cons (.lit (.int (0))) (.cons (.bi "len" (.cons (.var 0) .nil)) (.cons (.lit (.int (4))) .nil))) b_law_octets_1)
   (.cons (.ret (.var 1))
   .nil)))
noncomputable def b_law_figures_1 : Ss := (.cons (.asg 4 (.bin .Add (.bin .Mult (.var 4) (.lit (.int (256)))) (.var 5)))
   .nil)
noncomputable def b_law_figures_2 : Ss := (.cons (.app 1 (.bin .Mod (.bin .FloorDiv (.var 4) (.bin .Pow (.lit (.int (64))) (.bin .Sub (.lit (.int (3))) (.var 6)))) (.lit (.int (64)))))
   .nil)
noncomputable def b_law_figures_3 : Ss := (.cons (.asg 3 (.sl (.var 0) (.var 2) (.bin .Add (.var 2) (.lit (.int (3))))))
   (.cons (.asg 4 (.lit (.int (0))))
   (.cons (.for_ 5 (.bin .Add (.var 3) (.bin .Mult (.list (.cons (.lit (.int (0))) .nil)) (.bin .Sub (.lit (.int (3))) (.bi "len" (.cons (.var 3) .nil))))) b_law_figures_1)
   (.cons (.forR 6 (.cons (.bin .Add (.bi "len" (.cons (.var 3) .nil)) (.lit (.int (1)))) .nil) b_law_figures_2)
   (.cons (.asg 1 (.bin .Add (.var 1) (.bin .Mult (.list (.cons (.lit (.int (64))) .nil)) (.bin .Sub (.lit (.int (3))) (.bi "len" (.cons (.var 3) .nil))))))
   .nil)))))
noncomputable def b_law_figures : Ss := (.cons (.asg 1 (.list .nil))
   (.cons (.forR 2 (.cons (.lit (.int (0))) (.cons (.bi "len" (.cons (.var 0) .nil)) (.cons (.lit (.int (3))) .nil))) b_law_figures_3)
   (.cons (.ret (.var 1))
   .nil)))
noncomputable def b_law_spelled : Ss := (.cons .stuck
   (.cons (.ret (.me (.lit (.str [])) "join" (.cons .bad .nil)))
   .nil))
noncomputable def b_law_written : Ss := (.cons (.asg 3 (.fn "b64encode" (.cons (.bi "bytes" (.cons (.var 0) .nil)) (.cons (.bi "bytes" (.cons (.comp (.bi "ord" (.cons (.var 1) .nil)) (.var 2)) .nil)) .nil))))
   (.cons (.asg 4 (.me (.lit (.str [])) "join" (.cons (.comp (.bi "chr" (.cons (.var 1) .nil)) (.var 3)) .nil)))
   (.cons (.iff (.or (.not (.bi "isinstance" (.cons (.var 3) (.cons (.lit (.ty "bytes")) .nil)))) (.cmp .NotEq (.var 4) (.fn "_law_spelled" (.cons (.var 1) (.cons (.var 2) .nil))))) (.cons (.ret (.lit .none))
   .nil) .nil)
   (.cons (.ret (.var 4))
   .nil))))
noncomputable def b_law_names_1 : Ss := (.cons (.iff (.cmp .Eq (.var 2) (.lit (.int (63)))) (.cons (.app 1 (.list .nil))
   .nil) (.cons .stuck
   .nil))
   .nil)
noncomputable def b_law_names : Ss := (.cons (.asg 1 (.list (.cons (.list .nil) .nil)))
   (.cons (.for_ 2 (.var 0) b_law_names_1)
   (.cons (.ret (.var 1))
   .nil)))
noncomputable def b_law_straight_1 : Ss := (.cons (.asg 1 (.bin .Add (.var 1) (.lit (.int (1)))))
   .nil)
noncomputable def b_law_straight_2 : Ss := (.cons (.iff (.cmp .Eq (.var 4) (.list (.cons (.lit (.int (62))) (.cons (.lit (.int (62))) .nil)))) (.cons (.asg 2 (.bin .Add (.var 2) (.lit (.int (1)))))
   .nil) (.cons (.iff (.and (.cmp .NotEq (.var 4) (.list .nil)) (.cmp .NotEq (.var 4) (.list (.cons (.lit (.int (62))) .nil)))) (.cons (.iff (.cmp .Gt (.var 2) (.lit (.int (0)))) (.cons (.asg 2 (.bin .Sub (.var 2) (.lit (.int (1)))))
   .nil) (.cons (.asg 3 (.bin .Add (.bin .Add (.list (.cons (.lit (.int (63))) .nil)) (.var 4)) (.var 3)))
   .nil))
   .nil) .nil)
   .nil))
   .nil)
noncomputable def b_law_straight : Ss := (.cons (.asg 1 (.lit (.int (0))))
   (.cons (.whl (.cmp .Eq (.sl (.var 0) (.var 1) (.bin .Add (.var 1) (.lit (.int (1))))) (.list (.cons (.lit (.int (63))) .nil))) b_law_straight_1)
   (.cons (.iff (.cmp .Gt (.var 1) (.lit (.int (2)))) (.cons (.asg 1 (.lit (.int (1))))
   .nil) .nil)
   (.cons (.asg 2 (.lit (.int (0))))
   (.cons (.asg 3 (.list .nil))
   (.cons (.for_ 4 (.rev (.fn "_law_names" (.cons (.var 0) .nil))) b_law_straight_2)
   (.cons (.iff (.cmp .Eq (.var 1) (.lit (.int (0)))) (.cons (.asg 3 (.bin .Add (.bin .Mult (.list (.cons (.lit (.int (63))) (.cons (.lit (.int (62))) (.cons (.lit (.int (62))) .nil)))) (.var 2)) (.var 3)))
   .nil) .nil)
   (.cons (.ret (.or (.bin .Add (.bin .Mult (.list (.cons (.lit (.int (63))) .nil)) (.var 1)) (.sl (.var 3) (.lit (.int (1))) (.lit .none))) (.list (.cons (.lit (.int (62))) .nil))))
   .nil))))))))
noncomputable def b_law_halves_1 : Ss := (.cons (.asg 2 (.sl (.var 2) (.lit .none) (.neg (.lit (.int (1))))))
   .nil)
noncomputable def b_law_halves : Ss := (.cons (.asg 1 (.idx (.fn "_law_names" (.cons (.var 0) .nil)) (.neg (.lit (.int (1))))))
   (.cons (.asg 2 (.sl (.var 0) (.lit .none) (.bin .Sub (.bi "len" (.cons (.var 0) .nil)) (.bi "len" (.cons (.var 1) .nil)))))
   (.cons (.iff (.cmp .NotEq (.var 2) (.bin .Mult (.list (.cons (.lit (.int (63))) .nil)) (.bi "len" (.cons (.var 2) .nil)))) (.cons (.whl (.cmp .Eq (.idx (.var 2) (.neg (.lit (.int (1))))) (.lit (.int (63)))) b_law_halves_1)
   .nil) .nil)
   (.cons (.ret (.tup (.cons (.var 2) (.cons (.var 1) .nil))))
   .nil))))
noncomputable def b_law_stem_1 : Ss := (.cons (.iff (.and (.cmp .Eq (.idx (.var 1) (.var 3)) (.lit (.int (62)))) (.cmp .NotEq (.sl (.var 1) (.lit .none) (.var 3)) (.bin .Mult (.list (.cons (.lit (.int (62))) .nil)) (.var 3)))) (.cons (.asg 2 (.sl (.var 0) (.lit .none) (.bin .Add (.bin .Sub (.bi "len" (.cons (.var 0) .nil)) (.bi "len" (.cons (.var 1) .nil))) (.var 3))))
   .nil) .nil)
   .nil)
noncomputable def b_law_stem : Ss := (.cons (.asg 2 (.var 0))
   (.cons (.forR 3 (.cons (.bi "len" (.cons (.var 1) .nil)) .nil) b_law_stem_1)
   (.cons (.ret (.var 2))
   .nil)))
noncomputable def b_law_pieces_1 : Ss := (.cons (.iff (.cmp .NotEq (.sl (.idx (.var 3) (.var 4)) (.neg (.lit (.int (1)))) (.lit .none)) (.lit (.str [41]))) (.cons (.ret (.lit .none))
   .nil) .nil)
   (.cons (.setI 3 (.var 4) (.sl (.idx (.var 3) (.var 4)) (.lit .none) (.neg (.lit (.int (1))))))
   .nil))
noncomputable def b_law_pieces : Ss := (.cons (.asg 1 (.sl (.var 0) (.lit (.int (4))) (.neg (.lit (.int (3))))))
   (.cons (.asg 2 (.me (.var 1) "rfind" (.cons (.lit (.str [46, 42])) .nil)))
   (.cons (.iff (.or (.cmp .NotEq (.sl (.var 0) (.lit .none) (.lit (.int (4)))) (.lit (.str [40, 63, 115, 58]))) (.cmp .NotEq (.sl (.var 0) (.neg (.lit (.int (3)))) (.lit .none)) (.lit (.str [41, 92, 90])))) (.cons (.ret (.lit .none))
   .nil) .nil)
   (.cons (.iff (.cmp .Lt (.var 2) (.lit (.int (0)))) (.cons (.ret (.list (.cons (.var 1) .nil)))
   .nil) .nil)
   (.cons (.asg 3 (.me (.sl (.var 1) (.lit .none) (.var 2)) "split" (.cons (.lit (.str [40, 63, 62, 46, 42, 63])) .nil)))
   (.cons (.forR 4 (.cons (.lit (.int (1))) (.cons (.bi "len" (.cons (.var 3) .nil)) .nil)) b_law_pieces_1)
   (.cons (.ret (.bin .Add (.var 3) (.list (.cons (.sl (.var 1) (.bin .Add (.var 2) (.lit (.int (2)))) (.lit .none)) .nil))))
   .nil)))))))
noncomputable def b_law_fits_1 : Ss := (.cons (.iff (.and (.cmp .NotEq (.idx (.var 0) (.var 3)) (.lit (.str [46]))) (.cmp .NotEq (.idx (.var 0) (.var 3)) (.idx (.var 1) (.bin .Add (.var 2) (.var 3))))) (.cons (.ret (.lit (.bool false)))
   .nil) .nil)
   .nil)
noncomputable def b_law_fits : Ss := (.cons (.iff (.cmp .Gt (.bin .Add (.var 2) (.bi "len" (.cons (.var 0) .nil))) (.bi "len" (.cons (.var 1) .nil))) (.cons (.ret (.lit (.bool false)))
   .nil) .nil)
   (.cons (.forR 3 (.cons (.bi "len" (.cons (.var 0) .nil)) .nil) b_law_fits_1)
   (.cons (.ret (.lit (.bool true)))
   .nil)))
noncomputable def b_law_takes_1 : Ss := (.cons (.asg 2 (.bin .Add (.var 2) (.lit (.int (1)))))
   .nil)
noncomputable def b_law_takes_2 : Ss := (.cons (.whl (.and (.cmp .LtE (.var 2) (.bi "len" (.cons (.var 1) .nil))) (.not (.fn "_law_fits" (.cons (.var 3) (.cons (.var 1) (.cons (.var 2) .nil)))))) b_law_takes_1)
   (.cons (.asg 2 (.bin .Add (.var 2) (.bi "len" (.cons (.var 3) .nil))))
   .nil))
noncomputable def b_law_takes : Ss := (.cons (.iff (.not (.fn "_law_fits" (.cons (.idx (.var 0) (.lit (.int (0)))) (.cons (.var 1) (.cons (.lit (.int (0))) .nil))))) (.cons (.ret (.lit (.bool false)))
   .nil) .nil)
   (.cons (.asg 2 (.bi "len" (.cons (.idx (.var 0) (.lit (.int (0)))) .nil)))
   (.cons (.iff (.cmp .Eq (.bi "len" (.cons (.var 0) .nil)) (.lit (.int (1)))) (.cons (.ret (.cmp .Eq (.var 2) (.bi "len" (.cons (.var 1) .nil))))
   .nil) .nil)
   (.cons (.for_ 3 (.sl (.var 0) (.lit (.int (1))) (.neg (.lit (.int (1))))) b_law_takes_2)
   (.cons (.asg 4 (.bin .Sub (.bi "len" (.cons (.var 1) .nil)) (.bi "len" (.cons (.idx (.var 0) (.neg (.lit (.int (1))))) .nil))))
   (.cons (.ret (.and (.cmp .LtE (.var 2) (.var 4)) (.fn "_law_fits" (.cons (.idx (.var 0) (.neg (.lit (.int (1))))) (.cons (.var 1) (.cons (.var 4) .nil))))))
   .nil))))))
noncomputable def b_law_means_1 : Ss := (.cons (.iff (.cmp .Eq (.var 3) (.lit (.int (62)))) (.cons (.app 4 (.or (.idx (.var 4) (.var 5)) (.idx (.var 2) (.bin .Add (.var 5) (.lit (.int (1)))))))
   .nil) (.cons (.app 4 (.and (.idx (.var 2) (.var 5)) (.or (.cmp .Eq (.var 3) (.lit (.int (63)))) (.cmp .Eq (.var 3) (.idx (.var 1) (.var 5))))))
   .nil))
   .nil)
noncomputable def b_law_means_2 : Ss := (.cons (.asg 4 (.list (.cons (.and (.cmp .Eq (.var 3) (.lit (.int (62)))) (.idx (.var 2) (.lit (.int (0))))) .nil)))
   (.cons (.forR 5 (.cons (.bi "len" (.cons (.var 1) .nil)) .nil) b_law_means_1)
   (.cons (.asg 2 (.var 4))
   .nil)))
noncomputable def b_law_means : Ss := (.cons (.asg 2 (.bin .Add (.list (.cons (.lit (.bool true)) .nil)) (.bin .Mult (.list (.cons (.lit (.bool false)) .nil)) (.bi "len" (.cons (.var 1) .nil)))))
   (.cons (.for_ 3 (.var 0) b_law_means_2)
   (.cons (.ret (.idx (.var 2) (.neg (.lit (.int (1))))))
   .nil)))
noncomputable def b_law_parted : Ss := (.cons (.asgT [2, 3] (.fn "_law_halves" (.cons (.var 1) .nil)))
   (.cons (.asg 4 (.fn "_law_stem" (.cons (.var 1) (.cons (.var 3) .nil))))
   (.cons (.asg 5 (.list (.cons (.var 1) (.cons (.fn "_law_straight" (.cons (.var 1) .nil)) (.cons (.var 2) (.cons (.var 3) (.cons (.var 4) .nil)))))))
   (.cons (.asg 6 (.comp (.fn "_law_spelled" (.cons (.var 1) (.cons (.lit (.str [46, 47])) .nil))) (.var 5)))
   (.cons (.iff (.or (.cmp .NotEq (.fn "normpath" (.cons (.var 0) .nil)) (.idx (.var 6) (.lit (.int (1))))) (.cmp .NotEq (.fn "split" (.cons (.var 0) .nil)) (.tup (.cons (.idx (.var 6) (.lit (.int (2)))) (.cons (.idx (.var 6) (.lit (.int (3)))) .nil))))) (.cons (.ret (.lit .none))
   .nil) .nil)
   (.cons (.iff (.cmp .NotEq (.fn "splitext" (.cons (.var 0) .nil)) (.tup (.cons (.idx (.var 6) (.lit (.int (4)))) (.cons (.sl (.var 0) (.bi "len" (.cons (.idx (.var 6) (.lit (.int (4)))) .nil)) (.lit .none)) .nil)))) (.cons (.ret (.lit .none))
   .nil) .nil)
   (.cons (.ret (.var 5))
   .nil)))))))
noncomputable def b_law_right_1 : Ss := (.cons (.iff (.cmp .NotEq (.fn "_law_takes" (.cons (.var 7) (.cons (.fn "_law_spelled" (.cons (.var 8) (.cons (.lit (.str [46, 47])) .nil))) .nil))) (.fn "_law_means" (.cons (.var 2) (.cons (.var 8) .nil)))) (.cons (.ret (.lit (.bool false)))
   .nil) .nil)
   .nil)
noncomputable def b_law_right : Ss := (.cons (.asg 2 (.fn "_law_figures" (.cons (.var 0) .nil)))
   (.cons (.asg 3 (.fn "_law_figures" (.cons (.var 1) .nil)))
   (.cons (.asg 4 (.fn "_law_written" (.cons (.var 0) (.cons (.var 2) (.cons (.lit (.str [42, 63])) .nil)))))
   (.cons (.asg 5 (.fn "_law_written" (.cons (.var 1) (.cons (.var 3) (.cons (.lit (.str [46, 47])) .nil)))))
   (.cons (.iff (.or (.cmp .Is (.var 4) (.lit .none)) (.cmp .Is (.var 5) (.lit .none))) (.cons (.ret (.lit (.bool false)))
   .nil) .nil)
   (.cons (.asg 6 (.fn "_law_parted" (.cons (.var 5) (.cons (.var 3) .nil))))
   (.cons (.asg 7 (.fn "_law_pieces" (.cons (.fn "translate" (.cons (.var 4) .nil)) .nil)))
   (.cons (.iff (.or (.cmp .Is (.var 6) (.lit .none)) (.cmp .Is (.var 7) (.lit .none))) (.cons (.ret (.lit (.bool false)))
   .nil) .nil)
   (.cons (.for_ 8 (.var 6) b_law_right_1)
   (.cons (.ret (.lit (.bool true)))
   .nil))))))))))
noncomputable def b_law_both : Ss := (.cons (.asg 2 (.fn "_law_rows" (.cons (.var 0) (.cons (.var 1) .nil))))
   (.cons (.asg 3 (.fn "_law_octets" (.cons (.idx (.var 2) (.lit (.int (0)))) .nil)))
   (.cons (.asg 4 (.fn "_law_octets" (.cons (.idx (.var 2) (.lit (.int (1)))) .nil)))
   (.cons (.asg 5 (.bin .Add (.lit (.int (1))) (.bin .Mod (.var 1) (.lit (.int (2))))))
   (.cons (.ret (.and (.fn "_law_right" (.cons (.var 3) (.cons (.var 4) .nil))) (.fn "_law_right" (.cons (.sl (.var 3) (.lit .none) (.neg (.var 5))) (.cons (.sl (.var 4) (.lit .none) (.neg (.var 5))) .nil)))))
   .nil)))))
noncomputable def blaw : Ss := (.cons (.asg 1 (.or (.sl (.var 0) (.lit .none) (.lit (.int (5)))) (.list (.cons (.lit (.int (9))) (.cons (.lit (.int (1))) (.cons (.lit (.int (6))) (.cons (.lit (.int (2))) (.cons (.lit (.int (4))) (.cons (.lit (.int (9))) .nil)))))))))
   (.cons (.ret (.fn "_law_both" (.cons (.var 1) (.cons (.bi "sum" (.cons (.var 0) .nil)) .nil))))
   .nil))
end
structure Cx (K : Frag) (mg : Str → Option Value) : Prop where
  hv : ∀ n v, nsIn K mainGlobals n = some (some v) → mg n = some v
  hn : ∀ n, nsIn K mainGlobals n = some none → mg n = none
  ob : obsK K = valK
def Fa (K : Frag) (mg : Str → Option Value) (f : String) (own : List Nat) (np m : Nat) (b : Ss) : Prop := ∃ a o, FnAt K mg f (nsG K f) own np (bodyG K f) a o (fdG K f) ∧ (nsG K f).length = np + m ∧ eraSs 20 (nsG K f) (bodyG K f) = b
theorem map_at {α β : Type} {f g : α → β} : ∀ {l : List α} {x : α} {i : Nat}, l.map f = l.map g → l[i]? = some x → f x = g x
  | [], _, _, _, h => nos h
  | a :: l, x, 0, e, h => by injection h with h; subst h; injection e
  | a :: l, x, i + 1, e, h => by injection e with _ e; exact map_at e h
theorem four : ∀ vs : List Value, vs.length ≤ 4 → ∃ a b c d, vs = [a, b, c, d].take vs.length
  | [], _ => ⟨.none, .none, .none, .none, rfl⟩
  | [a], _ => ⟨a, .none, .none, .none, rfl⟩
  | [a, b], _ => ⟨a, b, .none, .none, rfl⟩
  | [a, b, c], _ => ⟨a, b, c, .none, rfl⟩
  | [a, b, c, d], _ => ⟨a, b, c, d, rfl⟩
  | _ :: _ :: _ :: _ :: _ :: l, h => absurd h (Nat.not_le_of_lt (Nat.le_add_left 5 l.length))
section
variable {K : Frag} {mg : Str → Option Value}
theorem Cx.at (c : Cx K mg) {i : Nat} {x : String × List Nat × Nat} (hi : DL[i]? = some x) : fnOk K x.1 x.2.1 x.2.2 = true ∧ nsG K x.1 = sNs x.1 ∧ bodyG K x.1 = sBody x.1 := by
  have e0 : DL.map (fun x => (fnOk K x.1 x.2.1 x.2.2, nsG K x.1, bodyG K x.1)) = DL.map fun x => (true, sNs x.1, sBody x.1) := congrArg Ob.fs c.ob
  have e := map_at e0 hi
  injection e with e1 e
  injection e with e2 e3
  exact iAA e1 e2 e3
theorem Cx.fn (c : Cx K mg) {i np : Nat} {f : String} {own : List Nat} (hi : DL[i]? = some (f, own, np)) (hle : np ≤ 4) : ∃ a o, FnAt K mg f (nsG K f) own np (bodyG K f) a o (fdG K f) := by
  refine zAA (c.at hi) fun e1 e2 e3 => ?_
  refine fn_of c.hv e1 fun vs s hl X => kp_binds X fun S => ?_
  refine zEEEE (four vs (hl ▸ hle)) fun a b c' d h => ?_
  have e0 : DL.map (fun x S a b c d => peek K S (bindArgs (fdG K x.1) (argsOf x.1 ([a, b, c, d].take x.2.2)))) = DL.map (fun x S a b c d => some ((((sNs x.1).take x.2.2).map (·.1)).zip ([a, b, c, d].take x.2.2))) := congrArg Ob.bs c.ob
  have e := congrFun (congrFun (congrFun (congrFun (congrFun (map_at e0 hi) S) a) b) c') d
  dsimp only at e
  rw [← hl, ← h] at e
  simp only [e2, ← hl]
  exact e
theorem Cx.fa (c : Cx K mg) {i np m : Nat} {f : String} {own : List Nat} {b : Ss} (hi : DL[i]? = some (f, own, np)) (hle : np ≤ 4) (h : eraSs 20 (sNs f) (sBody f) = b) (hn : (sNs f).length = np + m) : Fa K mg f own np m b := by
  refine zAA (c.at hi) fun _ e2 e3 => ?_
  refine zEE (c.fn hi hle) fun a o q => ?_
  exact ⟨a, o, q, by simp only [e2]; exact hn, by simp only [e2, e3]; exact h⟩
theorem faescape (c : Cx K mg) : Fa K mg "escape" [] 1 3 bescape := c.fa (i := 0) rfl (by decide) (by kernel_rfl) (by kernel_rfl)
theorem fa_translate (c : Cx K mg) : Fa K mg "_translate" [3] 3 14 b_translate := c.fa (i := 1) rfl (by decide) (by kernel_rfl) (by kernel_rfl)
theorem fa_join_translated_parts (c : Cx K mg) : Fa K mg "_join_translated_parts" [2, 6] 2 6 b_join_translated_parts := c.fa (i := 2) rfl (by decide) (by kernel_rfl) (by kernel_rfl)
theorem fafspath (c : Cx K mg) : Fa K mg "fspath" [] 1 13 bfspath := c.fa (i := 3) rfl (by decide) (by kernel_rfl) (by kernel_rfl)
theorem fa_splitext (c : Cx K mg) : Fa K mg "_splitext" [] 4 5 b_splitext := c.fa (i := 4) rfl (by decide) (by kernel_rfl) (by kernel_rfl)
theorem fa_get_sep (c : Cx K mg) : Fa K mg "_get_sep" [] 1 2 b_get_sep := c.fa (i := 5) rfl (by decide) (by kernel_rfl) (by kernel_rfl)
theorem fasplit (c : Cx K mg) : Fa K mg "split" [] 1 7 bsplit := c.fa (i := 6) rfl (by decide) (by kernel_rfl) (by kernel_rfl)
theorem fasplitext (c : Cx K mg) : Fa K mg "splitext" [] 1 6 bsplitext := c.fa (i := 7) rfl (by decide) (by kernel_rfl) (by kernel_rfl)
theorem fasplitroot (c : Cx K mg) : Fa K mg "splitroot" [] 1 5 bsplitroot := c.fa (i := 8) rfl (by decide) (by kernel_rfl) (by kernel_rfl)
theorem fanormpath (c : Cx K mg) : Fa K mg "normpath" [7] 1 12 bnormpath := c.fa (i := 9) rfl (by decide) (by kernel_rfl) (by kernel_rfl)
theorem fa_buffer (c : Cx K mg) : Fa K mg "_buffer" [] 1 5 b_buffer := c.fa (i := 10) rfl (by decide) (by kernel_rfl) (by kernel_rfl)
theorem fa_truth (c : Cx K mg) : Fa K mg "_truth" [] 1 16 b_truth := c.fa (i := 11) rfl (by decide) (by kernel_rfl) (by kernel_rfl)
theorem fab2a_base64 (c : Cx K mg) : Fa K mg "b2a_base64" [3] 2 9 bb2a_base64 := c.fa (i := 12) rfl (by decide) (by kernel_rfl) (by kernel_rfl)
theorem fab64encode (c : Cx K mg) : Fa K mg "b64encode" [] 2 5 bb64encode := c.fa (i := 13) rfl (by decide) (by kernel_rfl) (by kernel_rfl)
theorem fa_law_item (c : Cx K mg) : Fa K mg "_law_item" [] 1 3 b_law_item := c.fa (i := 14) rfl (by decide) (by kernel_rfl) (by kernel_rfl)
theorem fa_law_drawn (c : Cx K mg) : Fa K mg "_law_drawn" [] 1 5 b_law_drawn := c.fa (i := 15) rfl (by decide) (by kernel_rfl) (by kernel_rfl)
theorem fa_law_rows (c : Cx K mg) : Fa K mg "_law_rows" [] 2 9 b_law_rows := c.fa (i := 16) rfl (by decide) (by kernel_rfl) (by kernel_rfl)
theorem fa_law_octets (c : Cx K mg) : Fa K mg "_law_octets" [] 1 8 b_law_octets := c.fa (i := 17) rfl (by decide) (by kernel_rfl) (by kernel_rfl)
theorem fa_law_figures (c : Cx K mg) : Fa K mg "_law_figures" [1] 1 8 b_law_figures := c.fa (i := 18) rfl (by decide) (by kernel_rfl) (by kernel_rfl)
theorem fa_law_written (c : Cx K mg) : Fa K mg "_law_written" [] 3 6 b_law_written := c.fa (i := 19) rfl (by decide) (by kernel_rfl) (by kernel_rfl)
theorem fa_law_straight (c : Cx K mg) : Fa K mg "_law_straight" [] 1 5 b_law_straight := c.fa (i := 20) rfl (by decide) (by kernel_rfl) (by kernel_rfl)
theorem fa_law_halves (c : Cx K mg) : Fa K mg "_law_halves" [] 1 4 b_law_halves := c.fa (i := 21) rfl (by decide) (by kernel_rfl) (by kernel_rfl)
theorem fa_law_stem (c : Cx K mg) : Fa K mg "_law_stem" [] 2 4 b_law_stem := c.fa (i := 22) rfl (by decide) (by kernel_rfl) (by kernel_rfl)
theorem fa_law_pieces (c : Cx K mg) : Fa K mg "_law_pieces" [3] 1 6 b_law_pieces := c.fa (i := 23) rfl (by decide) (by kernel_rfl) (by kernel_rfl)
theorem fa_law_fits (c : Cx K mg) : Fa K mg "_law_fits" [] 3 3 b_law_fits := c.fa (i := 24) rfl (by decide) (by kernel_rfl) (by kernel_rfl)
theorem fa_law_takes (c : Cx K mg) : Fa K mg "_law_takes" [] 2 5 b_law_takes := c.fa (i := 25) rfl (by decide) (by kernel_rfl) (by kernel_rfl)
theorem fa_law_means (c : Cx K mg) : Fa K mg "_law_means" [4] 2 6 b_law_means := c.fa (i := 26) rfl (by decide) (by kernel_rfl) (by kernel_rfl)
theorem fa_law_parted (c : Cx K mg) : Fa K mg "_law_parted" [] 2 12 b_law_parted := c.fa (i := 27) rfl (by decide) (by kernel_rfl) (by kernel_rfl)
theorem fa_law_right (c : Cx K mg) : Fa K mg "_law_right" [] 2 15 b_law_right := c.fa (i := 28) rfl (by decide) (by kernel_rfl) (by kernel_rfl)
theorem fa_law_both (c : Cx K mg) : Fa K mg "_law_both" [] 2 7 b_law_both := c.fa (i := 29) rfl (by decide) (by kernel_rfl) (by kernel_rfl)
theorem falaw (c : Cx K mg) : Fa K mg "law" [] 1 3 blaw := c.fa (i := 30) rfl (by decide) (by kernel_rfl) (by kernel_rfl)
end
section
set_option tactic.hygienic true in
theorem b64_of {K : Frag} {mg : Str → Option Value} (hmg : ∀ n v, nsIn K mainGlobals n = some (some v) → mg n = some v) (e : b64In K = true) : ∃ l t, glb "_B64" = some (.bytes l) ∧ mg (Str.ofString "_B64") = some (.bytes l.toArray t) := by
  unfold b64In at e
  split at e
  · rename_i b t hb
    refine iEEA b64L t rfl ?_
    rw [← eq_of_beq e]
    exact hmg _ _ hb
  · exact bf e
set_option tactic.hygienic true in
theorem esc_of {K : Frag} {mg : Str → Option Value} (hmg : ∀ n v, nsIn K mainGlobals n = some (some v) → mg n = some v) (e : escIn K = true) : ∃ a o, mg (Str.ofString "_special_chars_map") = some (.ref a) ∧ K.lookup a = some o ∧ EscTab o ∧ (a == sysModules) = false := by
  unfold escIn at e
  split at e
  · rename_i a ha
    simp only [Bool.and_eq_true] at e
    obtain ⟨e0, e⟩ := e
    split at e
    · rename_i c od es n sl ho
      simp only [Bool.and_eq_true, Option.isNone_iff_eq_none, Array.isEmpty_iff, beq_iff_eq] at e
      obtain ⟨⟨⟨rfl, rfl⟩, rfl⟩, e4⟩ := e
      have key : ∀ d ∈ es.toList, ∃ k t, d.key = .int k t ∧ d.hash = hashInt k ∧ 0 ≤ k ∧ specials.contains k.toNat = true := fun d hd => by
        have := List.all_eq_true.mp e4 d hd
        unfold entOk at this
        split at this
        · rename_i k t hk
          simp only [Bool.and_eq_true, beq_iff_eq, decide_eq_true_eq] at this
          exact iEEAAA k t hk this.1.1 this.1.2 this.2
        · exact bf this
      refine ⟨a, _, hmg _ _ ha, ho, ⟨es, n, rfl, ?_, ?_⟩, by simpa using e0⟩
      · intro d hd
        refine zEEAA (key d (Array.mem_toList_iff.mpr hd)) fun k t h1 h2 _ => ?_
        exact ⟨k, t, h1, h2⟩
      · intro c hc
        unfold findBy
        rw [← Array.find?_toList, Option.map_eq_none_iff, List.find?_eq_none]
        intro d hd q
        refine zEEAAA (key d hd) fun k t h1 _ h3 h4 => ?_
        rw [h1] at q
        have : k = (c : Int) := eq_of_beq q
        subst this
        rw [Int.toNat_natCast, hc] at h4
        cases h4
    · exact bf e
  · exact bf e
theorem noName_of {K : Frag} {n : String} (h : noName K n = true) : nsIn K mainGlobals (Str.ofString n) = some none := by
  unfold noName at h
  split at h
  · assumption
  · exact bf h
section
variable {K : Frag} {mg : Str → Option Value}
theorem Cx.misc (c : Cx K mg) : miscB K = true := congrArg Ob.misc c.ob
theorem Cx.none (c : Cx K mg) {n : String} (h : noName K n = true) : mg (Str.ofString n) = none := c.hn _ (noName_of h)
theorem bi_all : biNames.all (fun n => (biVal n).isSome && bootBuiltins (Str.ofString n) == biVal n && !(Str.ofString n == "__name__") && !(Str.ofString n == "__debug__")) = true := by decide +kernel
theorem ty_all : tyNames.all (fun n => bootBuiltins (Str.ofString n) == some (.type n) && !(Str.ofString n == "__name__") && !(Str.ofString n == "__debug__")) = true := by decide +kernel
theorem ne_of {a b : Str} (h : (!(a == b)) = true) : a ≠ b := fun e => by subst e; rw [BEq.rfl] at h; exact bf h
theorem Cx.glo (c : Cx K mg) : Glo K mg := by
  have m := c.misc
  unfold miscB at m
  obtain ⟨m, _⟩ := Bool.and_eq_true_iff.mp m
  obtain ⟨m1, m2⟩ := Bool.and_eq_true_iff.mp m
  obtain ⟨m5, m6⟩ := Bool.and_eq_true_iff.mp m2
  obtain ⟨m1, m7⟩ := Bool.and_eq_true_iff.mp m1
  obtain ⟨m1, m8⟩ := Bool.and_eq_true_iff.mp m1
  obtain ⟨m1, m9⟩ := Bool.and_eq_true_iff.mp m1
  refine ⟨fun n hn => ?_, fun n hn => ?_, ⟨c.none m8, by kernel_rfl⟩, b64_of c.hv m5, fun f hf => ?_, esc_of c.hv m6⟩
  · have q := List.all_eq_true.mp ty_all n hn
    refine zA (Bool.and_eq_true_iff.mp q) fun q q3 => ?_
    refine zA (Bool.and_eq_true_iff.mp q) fun q1 q2 => ?_
    exact iAAA (c.none (List.all_eq_true.mp m1 n hn)) (eq_of_beq q1) (ne_of q2) (ne_of q3)
  · have q := List.all_eq_true.mp bi_all n hn
    obtain ⟨q, q3⟩ := Bool.and_eq_true_iff.mp q
    obtain ⟨q, q2⟩ := Bool.and_eq_true_iff.mp q
    refine zA (Bool.and_eq_true_iff.mp q) fun q0 q1 => ?_
    obtain ⟨v, hv⟩ := Option.isSome_iff_exists.mp q0
    exact iEAAAA v hv (c.none (List.all_eq_true.mp m9 n hn)) ((eq_of_beq q1).trans hv) (ne_of q2) (ne_of q3)
  · have : (fnNames.all fun f => !(Str.ofString f == "__debug__")) = true := by decide +kernel
    exact ne_of (List.all_eq_true.mp this f hf)
end
end
section
set_option maxHeartbeats 8000000
theorem ofPy_ints : ∀ (l : List Int), ofPys (l.map PyData.int) = l.map WData.int
  | [] => rfl
  | a :: l => by simp only [List.map_cons, List.map_cons, ofPys, ofPy, ofPy_ints l]
theorem vs_well {P : Params} {h : Heap} {X : Addr → Prop} : ∀ {vs : List Value} {l : List Int}, WellAll P h vs (l.map WData.int) → Vs h X vs (l.map D.int)
  | [], [], _ => .nil
  | v :: vs, [], w => by cases w
  | [], i :: l, w => by cases w
  | v :: vs, i :: l, w => by
    simp only [List.map_cons] at w
    cases w with
    | cons a b => cases a with
      | int i t => exact .cons (.int i t) (vs_well b)
theorem v_well {P : Params} {h : Heap} {v : Value} {l : List Int} (w : Well P h v (ofPy (.list (l.map PyData.int)))) : V h (fun _ => False) v (.list (l.map D.int)) := by
  simp only [ofPy, ofPy_ints] at w
  cases w with
  | list a b => exact .list a (fun x => x) (vs_well b)
def LawOk (r : Program) : Prop := ∀ (w : World) (K : Frag) (mg mb : Str → Option Value), Cx K mg → ∀ l : List Int, l.length ≤ 63 → CallOK r w K mg mb 60 "law" [.list (l.map .int)] (.bool true)
theorem hd (call : WalkO VW LS (XL VW []) HK.says PySem.Challenge.rw_ij0215_01.row.toRowW theD.1 theD.2 fun f vs => PySem.call f vs) : PySem.Challenge.rw_ij0215_01.Holds :=
  holds_law a7 fun _ => holds_open (Xt := fun s => xlAt VW [] s && recOk PySem.Challenge.rw_ij0215_01.row.toRowW.records s) left0 HK.of HK.keeps (fun s e => xl_of s (Bool.and_eq_true_iff.mp e).1) XL.keeps d_eq a1 a2 (fun s e => recFacts_of (Bool.and_eq_true_iff.mp e).2) a3 (row_said a7) a4 a5 a6 call
set_option tactic.hygienic true in
theorem fin (law : LawOk PySem.Challenge.rw_ij0215_01.row.prog) : PySem.Challenge.rw_ij0215_01.Holds := hd (by
  w_strict (
  intro w s₀ s₁ mg mb G Y fa o pm cd doc dV kV ho hd hcd hD hmg hg args vals as hpre hlay hrd hwl hlo
  refine zEA Y ?_; clear Y; intro K KX ob
  refine Ground.open G ?_
  intro T B D TE TW
  try (refine guard_noD D (by decide +kernel) ?_; clear D)
  clear B TE TW G
  wrow_args hpre hlay hrd hwl hlo
  clear hcd hD hd
  rename_i l _ _ _ _ _ _ _ a vs _ hL ra wl r0 hI hr hc0 hc1
  refine zEEEAAA (law w K mg mb ⟨fun n v e => mg_of KX T.g e, fun n e => mg_none_of KX T.g e, ob⟩ l (by omega)) fun a' o' fd' q1 q2 q3 q4 => ?_
  have hfa : a' = fa := by
    have := q1.symm.trans hmg
    cases this; rfl
  subst hfa
  obtain ⟨hp, gens, drawn, toks, os⟩ := s₁
  refine EV.out (q4 { heap := hp, gens, drawn, toks, os } callerA hp (fun _ => False) [.ref a] ⟨rfl, by decide +kernel, by decide +kernel⟩ ⟨KX, T.g, T.b, T.nolimit, T.builtins⟩ (fun _ x => x.elim) (.cons (v_well wl) .nil)) fun v h' tk' z => ?_
  obtain ⟨g, z⟩ := z
  cases z with | bool =>
  refine GoodW.toG ⟨.inl ⟨_, .bool true, [], rfl, ?_, .bool true, ?_, fun _ => ⟨.nil, fun _ h => nomatch h⟩⟩, g, rfl, hg⟩
  · exact raisesW_false (by wrow_none_raised)
  · wrow_post))
end
theorem mro_object : mroOf (.type "object") = pure [.type "object"] := by rw [mroOf_type]; kernel_rfl
theorem lookup_object_new : typeLookup (.type "object") "__new__" = pure (some (.builtin "object.__new__")) := by rw [typeLookup_type, builtinLookup_eq_fast]; kernel_rfl
theorem lookup_object_init : typeLookup (.type "object") "__init__" = pure (some (.builtin "object.__init__")) := by rw [typeLookup_type, builtinLookup_eq_fast]; kernel_rfl
theorem slot_object_init : Slot "object" "__init__" "object.__init__" :=
  .of (owner := "object") (n := "__init__") lookup_object_init (by decide +kernel) (by decide +kernel) (by decide +kernel) (by first | exact .inl (by decide +kernel) | exact .inr (by decide +kernel)) (by rw [isSubtype_type]; kernel_rfl)
theorem called_object : TypeCalled "object" "object.__new__" "object.__init__" :=
  ⟨by decide +kernel, by decide +kernel, ⟨_, _, mro_object⟩, madeBy_type mro_object lookup_object_new (by decide +kernel), by decide +kernel, by rw [isSubtype_type]; kernel_rfl, slot_object_init⟩
theorem typeCall_object : checkTypeCall "object" ⟨[], []⟩ = pure () := by kernel_rfl
theorem newCall_object : checkBuiltinCall "object.__new__" ⟨[.type "object"], []⟩ = pure () := by kernel_rfl
theorem entry_object_new : entryFor table "object.__new__" = some Builtin.«object.__new__» := entryFor_of_tree (by kernel_rfl)
theorem madeHere_object : Bind.madeHere "object.__new__" (.type "object") = pure () := by
  unfold Bind.madeHere
  have e : Bind.staticBase (.type "object") = pure (.type "object") := by first | rfl | kernel_rfl
  rw [e]
  simp only [pure_bind, called_object.made]
  first | rfl | kernel_rfl | (simp; rfl)
theorem args_object_init_1 (a : Value) : argsOk "object.__init__" ⟨[a], []⟩ := by
  unfold argsOk; rw [signature?_of (id := "object.__init__") (n := ['_', '_', 't', 'i', 'n', 'i', '_', '_']) (o := ['t', 'c', 'e', 'j', 'b', 'o']) (by kernel_rfl) F.owner_object]; kernel_rfl
noncomputable abbrev objO : Obj := { cls := .type "object", data := .plain }
theorem meets_object_new : Meets (Builtin.«object.__new__» ⟨[.type "object"], []⟩) (fun _ R s => R (.ok (.ret (.ref s.heap.objs.size))) { s with heap := s.heap.push objO }) :=
  .of_wp fun prog w A R s h => by
    unfold Builtin.«object.__new__»
    have hmh := madeHere_object
    have hty : isType (.type "object") = pure true := by first | rfl | kernel_rfl
    dsimp only
    have hf : ((Manifest.find? "object").elim false (·.mro.any fun t => (Manifest.find? t).elim false (·.noNew))) = false := by decide +kernel
    have hd : typeHasDict (.type "object") = false := by decide +kernel
    have hr : diesByItsTypesDel "object" = false := by decide +kernel
    simp only [hty]
    simp only [pure_bind, hmh, hf, hr, hd, Bool.not_true, Bool.false_eq_true, if_false, List.isEmpty_nil, Bool.or_false]
    refine wpAny_bind (wpAny_newObj_type ?_)
    exact wpAny_pure ⟨_, rfl, h⟩
theorem object_call {prog : Program} {w : World} {s0 : Shared} {A : Around} {h : Heap} : EV prog w A s0 (call (.type "object") []) h (fun v h' => v = .ref h.objs.size ∧ h' = h.push objO) := fun tk =>
  callType_meets (Q₁ := fun obj s₁ => obj = .ref h.objs.size ∧ s₁ = (sAt s0 (h.push objO) tk)) called_object typeCall_object newCall_object entry_object_new F.entry_object_init meets_object_new ⟨rfl, rfl⟩ fun obj s₁ hq => by
    obtain ⟨rfl, rfl⟩ := hq
    refine iAAEA ⟨_, Heap.get?_push_size _ rfl, rfl⟩ (args_object_init_1 _) _ (Meets.of_wp (S := fun _ R s => R (.ok (.ret .none)) s) fun prog w A R s hs => wpAny_pure ⟨_, rfl, hs⟩) ?_
    exact iAEEAA rfl _ _ rfl rfl rfl
section
variable {prog : Program} {w : World} {K : Frag} {mg mb : Str → Option Value} {F : FO} {own : List Nat} {k n np : Nat} {ns : NK} {f : String} {body : List Stmt} {a : Addr} {o : Obj} {fd : FuncData}
set_option tactic.hygienic true in
theorem call_enter (fa : FnAt K mg f ns own np body a o fd) {args : List D} {d : D} (hlen : args.length = np)
    (hb : ∀ (s0 : Shared) (A : Around) (X : Addr → Prop) (h h₀ : Heap) (env : Env), Room k A → (env.locals = h.objs.size) → Rep K mg mb env ns own X h (fun _ => none) h₀ (args ++ List.replicate (ns.length - np) .undef) →
      EV prog w A s0 (execs body env) h₀ (fun fl h' => ∃ v, fl = .ret v ∧ Grow h h' ∧ V h' X v d)) : CallOK prog w K mg mb (k + 1) f args d := by
  refine iEEEAAA a o fd fa.glob fa.look fa.data (fun s0 A h X vs hR wo th hvs tk => ?_)
  have hvl : vs.length = np := by simp only [hvs.length, hlen]
  have eo : ∀ L, EnvOk (callEnv fd L a) ns := fun L => ⟨fa.kind, fa.gl, fa.bi, fun x kd e _ => by
    show fd.scope.names.lookup x = _
    rw [fa.names]; exact e⟩
  have hxn : ((ns.take np).map (·.1)).Nodup := by
    rw [List.map_take]
    exact (List.take_sublist _ _).nodup fa.ok.nd
  have hxl : ((ns.take np).map (·.1)).length = np := by simp only [List.length_map, List.length_take]; have := fa.np; exact (Nat.min_eq_left this)
  refine wpAny_call (codeAny_call_def hR.lim (wo.k _ _ fa.look) fa.data wo.nl (fa.code h wo.k) fa.body (fa.bind vs _ hvl wo.k) ?_ ?_ (fun h₀ hns hg => ?_) fa.co fa.gen fa.kind)
  · exact (plain_free (scope := fd.scope) (by rw [fa.names]; exact fa.plain)).2
  · intro x hx
    rw [fa.names]
    refine zE (List.getElem?_of_mem (List.of_mem_zip hx).1) fun i hi => ?_
    rw [List.getElem?_map] at hi
    refine zEA (Option.map_eq_some_iff.mp hi) ?_; rintro ⟨y, kd⟩ h1 h2
    rw [List.getElem?_take] at h1
    split at h1
    · rename_i hlt
      have := fa.par i y kd hlt h1
      subst this
      have := keys_once fa.once (y, .local) (List.mem_of_getElem? h1) rfl
      rw [← h2]; exact this
    · exact nos h1
  · have hL : h.get? h.objs.size = none := get_size h
    have hLs : (h₀.get? h.objs.size).isSome = true := by refine zEEEA hns ?_; clear hns; intro ob _ _ e _; rw [show h₀.get? h.objs.size = _ from e]; rfl
    have nX : ¬ X h.objs.size := fun q => by have := th _ q; rw [hL] at this; exact bf this
    have rep : Rep K mg mb (callEnv fd h.objs.size a) ns own X h (fun _ => none) h₀ (args ++ List.replicate (ns.length - np) .undef) := by
      refine ⟨eo _, wo, hg, ?_, ⟨hL, nX⟩, fun i a e => (by exact nos e), fun i j a e => (by exact nos e), _, hns, ?_⟩
      · rintro b (q | q | ⟨i, q⟩)
        · exact th.grow hg b q
        · rw [q]; exact hLs
        · exact nos q
      · intro i x e e1 e2 hu
        rw [List.getElem?_append] at e2
        split at e2
        · rename_i hi
          refine zEA (hvs.get e2) fun v hv vv => ?_
          simp only [hlen] at hi
          have hx : ((ns.take np).map (·.1))[i]? = some x := by
            rw [List.getElem?_map, List.getElem?_take, if_pos hi, e1]; rfl
          refine ⟨v, ?_, .plain (by rw [fa.low i hi]; rfl) ((vv.bar (Y := Bar X h.objs.size fun _ => none) fun b hb nb q => ?_).keep (Grow.x hg _))⟩
          · have hmap : ((((ns.take np).map (·.1)).zip vs).map (·.1)) = (ns.take np).map (·.1) := by
              rw [List.map_fst_zip (by simp only [hxl, hvl]; exact Nat.le_refl _)]
            refine lookup_of _ (by simp only [List.map_reverse, hmap]; exact (List.reverse_perm _).nodup_iff.mpr hxn) x v ?_
            rw [List.mem_reverse]
            refine List.mem_of_getElem? (i := i) ?_
            rw [List.getElem?_zip_eq_some]
            exact ⟨hx, hv⟩
          · rcases q with q | q | ⟨j, q⟩
            · exact nb q
            · rw [q, hL] at hb; exact bf hb
            · exact nos q
        · rename_i hi
          rw [List.getElem?_replicate] at e2
          split at e2
          · cases e2; exact absurd rfl hu
          · exact nos e2
    refine (hb s0 _ X h h₀ _ (hR.deeper _) rfl rep).out fun fl h' tk' z => ?_
    refine zEAA z ?_; clear z; rintro v rfl g hv
    exact (pst ⟨g, hv⟩)
def TrSh (ns : NK) (b : List Stmt) : Prop := ∃ s k p p' x q r q' q'' q''' rest, b = .Expr (.Constant (.str s) k p) p' :: .Assign [.Name x q] (.Call (.Name r q') [] [] q'') q''' :: rest ∧ slotOf ns x = some 1 ∧ isG ns r = true ∧ r = Str.ofString "object"
theorem translate_ok {s : List Nat} {d : D} (gl : Glo K mg) (orc : Orc prog w K mg mb k F) (ho : mg (Str.ofString "object") = none ∧ bootBuiltins (Str.ofString "object") = some (.type "object"))
    (fa : FnAt K mg "translate" ns [] 1 body a o fd) (hn : ns.length = 6) (hc : TrSh ns body)
    (hrun : ∀ c, ∃ Γ', runs F [] (eraSs 20 ns (body.drop 2)) [.str s, .obj c, .undef, .undef, .undef, .undef] = some (.ret d, Γ')) : CallOK prog w K mg mb (k + 1) "translate" [.str s] d := by
  refine call_enter fa rfl fun s0 A X h h₀ env hR _ rep => ?_
  obtain ⟨s, kk, p, p', x, q, r, q', q'', q''', rest, rfl, hx, hG, rfl⟩ := hc
  simp only [hn] at rep
  replace rep : Rep K mg mb env ns [] X h (fun _ => none) h₀ [.str _, .undef, .undef, .undef, .undef, .undef] := rep
  refine fun tk => wpAny_execs_cons ((skip_ok rep).out fun fl h1 tk1 z => ?_)
  obtain ⟨rfl, O1, r1, s1⟩ := z
  refine wpAny_execs_cons (wpAny_Assign_Name ?_ (swaps_no rfl))
  have ev1 : EV prog w A s0 (eval (.Call (.Name (Str.ofString "object") q') [] [] q'') env) h1 (fun v h' => v = .ref h1.objs.size ∧ h' = h1.push objO) := by
    refine EV.callName (r1.rd.builtin hG (by decide) (by decide) ho.1 ho.2 (EV.withType (by trivial) ?_))
    exact fun tk => wpAny_items_nil (pst (object_call))
  refine ev1.out fun v h2 tk2 z => ?_
  refine zA z ?_; clear z; rintro rfl rfl
  have nb : ¬ Bar X env.locals O1 h1.objs.size := r1.th.not (get_size h1)
  have hv : V (h1.push objO) (Bar X env.locals O1) (.ref h1.objs.size) (.obj h1.objs.size) := .obj (Heap.get?_push_size _ rfl) rfl nb
  refine (set_ok (fr := false) (d := .obj h1.objs.size) r1 fa.ok hx (fun e => by simp at e) ⟨.push h1 _, hv.w, fun _ => hv, fun e => by exact bf e⟩).out fun _ h3 tk3 z => ?_
  obtain ⟨O3, r3, s3⟩ := z
  refine zE (hrun h1.objs.size) fun Γ' hr => ?_
  refine (execs_sound gl orc hR fa.ok 20 rest s0 X O3 h3 _ Γ' (.ret d) hr r3).out fun fl h4 tk4 z => ?_
  exact (pst (z))
end
noncomputable def nmStep (acc : List (List Int)) (f : Int) : List (List Int) := if f = 63 then acc ++ [[]] else acc.dropLast ++ [acc.getLastD [] ++ [f]]
noncomputable def nmOf (p : List Int) : List (List Int) := p.foldl nmStep [[]]
theorem nmStep_63 (ls : List (List Int)) (l : List Int) : nmStep (ls ++ [l]) 63 = (ls ++ [l]) ++ [[]] := by unfold nmStep; rw [if_pos rfl]
theorem nmStep_ne {f : Int} (h : f ≠ 63) (ls : List (List Int)) (l : List Int) : nmStep (ls ++ [l]) f = ls ++ [l ++ [f]] := by
  unfold nmStep; rw [if_neg h]; simp
theorem Vs.any {h h' : Heap} {X Y : Addr → Prop} {vs : List Value} {l : List Int} (x : Vs h X vs (l.map .int)) : Vs h' Y vs (l.map .int) := by
  induction l generalizing vs with
  | nil => exact yl x.nil_of .nil
  | cons i l ih => exact zEEAA x.cons_of fun v r q a b => yl q (int_e a fun t => .cons (.int i t) (ih b))
abbrev Ints (vs : List Value) (l : List Int) : Prop := Vs ({} : Heap) (fun _ => False) vs (l.map .int)
inductive Ls (h : Heap) : List Addr → List (List Int) → Prop
  | nil : Ls h [] []
  | cons {b : Addr} {bs : List Addr} {l : List Int} {ls : List (List Int)} {vs : List Value} {n : Nat} : h.get? b = some (listO vs.toArray n) → Ints vs l → Ls h bs ls → Ls h (b :: bs) (l :: ls)
theorem Ls.keep {h h' : Heap} {bs : List Addr} {ls : List (List Int)} (x : Ls h bs ls) : (∀ b ∈ bs, ∀ o, h.get? b = some o → h'.get? b = some o) → Ls h' bs ls :=
  Ls.rec (motive := fun bs ls _ => (∀ b ∈ bs, ∀ o, h.get? b = some o → h'.get? b = some o) → Ls h' bs ls) (fun _ => .nil) (fun a b _ ih k => .cons (k _ (.head _) _ a) b (ih fun c hc => k c (.tail _ hc))) x
theorem Ls.append {h : Heap} {bs cs : List Addr} {ls ms : List (List Int)} (x : Ls h bs ls) (y : Ls h cs ms) : Ls h (bs ++ cs) (ls ++ ms) :=
  Ls.rec (motive := fun bs ls _ => Ls h (bs ++ cs) (ls ++ ms)) y (fun a b _ ih => .cons a b ih) x
theorem Ls.vs {h : Heap} {X : Addr → Prop} {bs : List Addr} {ls : List (List Int)} (x : Ls h bs ls) : (∀ b ∈ bs, ¬ X b) → Vs h X (bs.map .ref) (ls.map fun l => .list (l.map .int)) :=
  Ls.rec (motive := fun bs ls _ => (∀ b ∈ bs, ¬ X b) → Vs h X (bs.map .ref) (ls.map fun (l : List Int) => D.list (l.map D.int))) (fun _ => .nil) (fun a b _ ih k => .cons (.list a (k _ (.head _)) b.any) (ih fun c hc => k c (.tail _ hc))) x
structure NmAt (X : Addr → Prop) (h0 : Heap) (L : Addr) (x1 : Str) (h : Heap) (ls : List (List Int)) (l : List Int) (m : Str → Option Value) (a : Addr) (bs : List Addr) (b : Addr) : Prop where
  old : Grow h0 h
  ns : h.Ns L m
  nm : m x1 = some (.ref a)
  fa : h0.get? a = none ∧ a ≠ L ∧ ¬ X a
  at_ : ∃ n, h.get? a = some (listO ((bs ++ [b]).map Value.ref).toArray n)
  nd : (bs ++ [b]).Nodup
  fb : ∀ c ∈ bs ++ [b], h0.get? c = none ∧ c ≠ a ∧ c ≠ L ∧ ¬ X c
  ls : Ls h bs ls
  last : ∃ vs n, h.get? b = some (listO vs.toArray n) ∧ Ints vs l
  th : There X h
  nL : h0.get? L = none ∧ ¬ X L
section
variable {X : Addr → Prop} {h0 h h1 : Heap} {L : Addr} {x1 : Str} {ls : List (List Int)} {l : List Int} {m : Str → Option Value} {a b : Addr} {bs : List Addr}
theorem NmAt.len (r : NmAt X h0 L x1 h ls l m a bs b) : bs.length = ls.length := by
  have := r.ls
  generalize bs = bs, ls = ls at this
  induction this with
  | nil => rfl
  | cons _ _ _ ih => simp [ih]
theorem NmAt.grow (r : NmAt X h0 L x1 h ls l m a bs b) (g : Grow h h1) : NmAt X h0 L x1 h1 ls l m a bs b :=
  ⟨r.old.trans g, r.ns.keeps g, r.nm, r.fa, let ⟨n, e⟩ := r.at_; ⟨n, g _ _ e⟩, r.nd, r.fb, r.ls.keep fun c _ o e => g _ _ e, let ⟨vs, n, e, i⟩ := r.last; ⟨vs, n, g _ _ e, i⟩, r.th.grow g, r.nL⟩
theorem Ls.live {h : Heap} {bs : List Addr} {ls : List (List Int)} (x : Ls h bs ls) : ∀ c ∈ bs, (h.get? c).isSome = true :=
  Ls.rec (motive := fun bs ls _ => ∀ c ∈ bs, (h.get? c).isSome = true) (fun c hc => absurd hc List.not_mem_nil) (fun e _ _ ih c hc => (List.mem_cons.mp hc).elim (fun q => by rw [q, e]; rfl) (ih c)) x
theorem NmAt.live (r : NmAt X h0 L x1 h ls l m a bs b) : ∀ c ∈ bs ++ [b], (h.get? c).isSome = true := fun c hc => by
  rcases List.mem_append.mp hc with q | q
  · exact r.ls.live c q
  · simp at q; refine yl q ?_; clear q
    refine zEEA (r.last) fun vs n e _ => ?_
    rw [e]; rfl
theorem NmAt.touch {I : Addr} (r : NmAt X h0 L x1 h ls l m a bs b) (hX : X I) (hI : h0.get? I = none) (g : ∀ c o, c ∉ [I] → h.get? c = some o → h1.get? c = some o) (hs : (h1.get? I).isSome = true) : NmAt X h0 L x1 h1 ls l m a bs b := by
  have ne : ∀ c, ¬ X c → c ∉ [I] := fun c hc q => by
    simp only [List.mem_cons, List.not_mem_nil, or_false] at q
    exact hc (q ▸ hX)
  have old : ∀ c o, h0.get? c = some o → c ∉ [I] := fun c o e q => by
    simp only [List.mem_cons, List.not_mem_nil, or_false] at q
    simp only [q, hI] at e; exact nos e
  refine ⟨fun c o e => g c o (old c o e) (r.old _ _ e), ?_, r.nm, r.fa, ?_, r.nd, r.fb, ?_, ?_, ?_, r.nL⟩
  · refine zEEEA (r.ns) fun o es ep e q => ?_
    exact iEEEA o es ep (g _ _ (ne _ r.nL.2) e) q
  · refine zE (r.at_) fun n e => ?_
    exact ⟨n, g _ _ (ne _ r.fa.2.2) e⟩
  · exact r.ls.keep fun c hc o e => g _ _ (ne _ (r.fb c (List.mem_append_left _ hc)).2.2.2) e
  · refine zEEA (r.last) fun vs n e i => ?_
    exact ⟨vs, n, g _ _ (ne _ (r.fb b (by simp)).2.2.2) e, i⟩
  · intro c hc
    by_cases q : c = I
    · simp only [q]; exact hs
    · refine zE (Option.isSome_iff_exists.mp (r.th c hc)) fun o e => ?_
      rw [g c o (by simpa using q) e]; rfl
theorem NmAt.store {m' : Str → Option Value} (r : NmAt X h0 L x1 h ls l m a bs b) (hs : Heap.SameBut L h h1) (hn : h1.Ns L m') (hm : m' x1 = m x1) : NmAt X h0 L x1 h1 ls l m' a bs b := by
  have k : ∀ c o, c ≠ L → h.get? c = some o → h1.get? c = some o := fun c o q e => (hs.2 c q).trans e
  refine ⟨fun c o e => k c o (fun q => by rw [q, r.nL.1] at e; exact nos e) (r.old _ _ e), hn, hm.trans r.nm, r.fa, ?_, r.nd, r.fb, ?_, ?_, ?_, r.nL⟩
  · refine zE (r.at_) fun n e => ?_
    exact ⟨n, k _ _ r.fa.2.1 e⟩
  · exact r.ls.keep fun c hc o e => k _ _ (r.fb c (List.mem_append_left _ hc)).2.2.1 e
  · refine zEEA (r.last) fun vs n e i => ?_
    exact ⟨vs, n, k _ _ (r.fb b (by simp)).2.2.1 e, i⟩
  · intro c hc
    refine zE (Option.isSome_iff_exists.mp (r.th c hc)) fun o e => ?_
    rw [k c o (fun q => r.nL.2 (q ▸ hc)) e]; rfl
theorem NmAt.more (r : NmAt X h0 L x1 h ls l m a bs b) (hs : Heap.SameBut b h h1) {vs : List Value} {n : Nat} {l' : List Int} (hb : h1.get? b = some (listO vs.toArray n)) (hi : Ints vs l') : NmAt X h0 L x1 h1 ls l' m a bs b := by
  have fb := r.fb b (by simp)
  have k : ∀ c o, c ≠ b → h.get? c = some o → h1.get? c = some o := fun c o q e => (hs.2 c q).trans e
  have nd := r.nd
  rw [List.nodup_append] at nd
  refine ⟨fun c o e => k c o (fun q => by rw [q, fb.1] at e; exact nos e) (r.old _ _ e), ?_, r.nm, r.fa, ?_, r.nd, r.fb, ?_, ⟨vs, n, hb, hi⟩, ?_, r.nL⟩
  · exact r.ns.sameBut hs fun q => fb.2.2.1 q.symm
  · refine zE (r.at_) fun n e => ?_
    exact ⟨n, k _ _ (fun q => fb.2.1 q.symm) e⟩
  · exact r.ls.keep fun c hc o e => k _ _ (nd.2.2 c hc b (by simp)) e
  · intro c hc
    refine zE (Option.isSome_iff_exists.mp (r.th c hc)) fun o e => ?_
    rw [k c o (fun q => fb.2.2.2 (q ▸ hc)) e]; rfl
theorem NmAt.newOne (r : NmAt X h0 L x1 h ls l m a bs b) {c : Addr} {k : Nat} (hc : h.get? c = some (listO ([] : List Value).toArray k)) (fc : h0.get? c = none ∧ c ≠ a ∧ c ≠ L ∧ ¬ X c) (hcb : c ∉ bs ++ [b]) (hs : Heap.SameBut a h h1) {n : Nat}
    (ha : h1.get? a = some (listO ((bs ++ [b] ++ [c]).map Value.ref).toArray n)) : NmAt X h0 L x1 h1 (ls ++ [l]) [] m a (bs ++ [b]) c := by
  have k' : ∀ c o, c ≠ a → h.get? c = some o → h1.get? c = some o := fun c o q e => (hs.2 c q).trans e
  refine ⟨fun c o e => k' c o (fun q => by rw [q, r.fa.1] at e; exact nos e) (r.old _ _ e), ?_, r.nm, r.fa, ⟨n, ha⟩, ?_, ?_, ?_, ⟨[], k, k' _ _ fc.2.1 hc, .nil⟩, ?_, r.nL⟩
  · exact r.ns.sameBut hs fun q => r.fa.2.1 q.symm
  · rw [List.nodup_append]
    exact ⟨r.nd, by simp, fun x hx y hy q => by simp at hy; subst hy; exact hcb (q ▸ hx)⟩
  · intro d hd
    rcases List.mem_append.mp hd with hd | hd
    · exact r.fb d hd
    · simp at hd; refine yl hd ?_; clear hd; exact fc
  · refine zEEA (r.last) fun vs n' e i => ?_
    refine Ls.append (r.ls.keep fun d hd o e => k' _ _ (r.fb d (List.mem_append_left _ hd)).2.1 e) (.cons (k' _ _ (r.fb b (by simp)).2.1 e) i .nil)
  · intro d hd
    obtain ⟨o, e⟩ := Option.isSome_iff_exists.mp (r.th d hd)
    rw [k' d o (fun q => r.fa.2.2 (q ▸ hd)) e]; rfl
end
noncomputable abbrev nN : Str := Str.ofString "names"
noncomputable abbrev nF : Str := Str.ofString "figure"
noncomputable abbrev nP : Str := Str.ofString "path"
structure NmP where
  (p : Nat → Pos) (k1 k2 : Nat)
noncomputable def NmP.turn (q : NmP) : List Stmt := [.If (.Compare (.Name nF (q.p 7)) [.Eq] [.Constant (.int 63) q.k1 (q.p 8)] (q.p 9)) [.Expr (.Call (.Attribute (.Name nN (q.p 10)) (Str.ofString "append") (q.p 23)) [.List [] (q.p 11)] [] (q.p 24)) (q.p 12)]
  [.Expr (.Call (.Attribute (.Subscript (.Name nN (q.p 13)) (.UnaryOp .USub (.Constant (.int 1) q.k2 (q.p 14)) (q.p 15)) (q.p 16)) (Str.ofString "append") (q.p 25)) [.Name nF (q.p 17)] [] (q.p 0)) (q.p 18)] (q.p 19)]
noncomputable def NmP.all (q : NmP) : List Stmt := [.Assign [.Name nN (q.p 1)] (.List [.List [] (q.p 2)] (q.p 3)) (q.p 4), .For (.Name nF (q.p 5)) (.Name nP (q.p 6)) q.turn [] (q.p 20), .Return (some (.Name nN (q.p 21))) (q.p 22)]
structure NmOk (ns : NK) (q : NmP) : Prop where
  h1 : slotOf ns nN = some 1
  h2 : slotOf ns nF = some 2
  h0 : slotOf ns nP = some 0
  l3 : ((q.p 23).endLine == (q.p 24).line) = true
  l4 : ((q.p 25).endLine == (q.p 0).line) = true
def NmSh (ns : NK) (b : List Stmt) : Prop := ∃ q : NmP, b = q.all ∧ NmOk ns q
section
variable {prog : Program} {w : World} {s0 : Shared} {K : Frag} {mg mb : Str → Option Value} {A : Around} {X : Addr → Prop} {env : Env} {h h0 : Heap} {F : FO} {k : Nat} {ns : NK}
theorem name_ev {x : Str} {i : Nat} {p : Pos} {m : Str → Option Value} {v : Value} (eo : EnvOk env ns) (hx : slotOf ns x = some i) (hn : h.Ns env.locals m) (hv : m x = some v) (hd : (x == ("__debug__" : Str)) = false) :
    EV prog w A s0 (eval (.Name x p) env) h (fun u h' => u = v ∧ h' = h) := fun tk =>
  wpAny_Name (wpAny_loadName_local eo.kind (eo.look _ _ (slotOf_get hx).2 (.inl rfl)) hn hv (pst ⟨rfl, rfl⟩)) hd
theorem list0_ev {p : Pos} : EV prog w A s0 (eval (.List [] p) env) h (fun v h' => v = .ref h.objs.size ∧ h' = h.push (listO ([] : List Value).toArray 0)) := fun tk => by
  refine List_ (wpAny_items_nil ?_)
  exact wpAny_newObj_type (pst ⟨rfl, rfl⟩) (by show (0 : Nat) ≤ sizeLine; exact Nat.zero_le _)
theorem list1_ev {e : PySem.Expr} {p : Pos} {Q : Value → Heap → Prop} (hs : isStar e = false) (x : EV prog w A s0 (eval e env) h (fun v h1 => Q (.ref h1.objs.size) (h1.push (listO [v].toArray 0)))) : EV prog w A s0 (eval (.List [e] p) env) h Q := fun tk => by
  refine List_ (wpAny_items_cons (x.out fun v h1 tk1 q => wpAny_items_nil ?_) (by cases e <;> first | rfl | exact bf hs.symm))
  exact wpAny_newObj_type (pst (q)) (by show (1 : Nat) ≤ sizeLine; decide)
theorem append_raw {a : Addr} {vs : List Value} {n : Nat} {va : Value} (ho : h.get? a = some (listO vs.toArray n)) (hz : fit vs.length) :
    EV prog w A s0 (call (.builtin "list.append") [.ref a, va]) h (fun v h' => v = .none ∧ Heap.SameBut a h h' ∧ ∃ n', h'.get? a = some (listO (vs ++ [va]).toArray n')) := fun tk => by
  have hz' : vs.toArray.size ≤ sizeLine := by rw [List.size_toArray]; exact fits_of hz
  refine call_meets PySem.F.slot_list_append ⟨_, ho, rfl⟩ PySem.F.entry_list_append (PySem.F.args_list_append_2 _ _) (PySem.list_append a vs.toArray n va hz') ⟨ho, _, _, rfl, rfl, ?_⟩
  have up := PySem.IsL.update (h := h) (l := a) (items := vs.toArray) (n := n) ho (fun x => x.push va)
  rw [show vs.toArray.push va = (vs ++ [va]).toArray by simp] at up
  exact iAE (Heap.SameBut.update h a _) _ up
theorem append_st {o e : PySem.Expr} {ap cp pos : Pos} {Q : Flow → Heap → Prop} (hb : attributeBase o (Str.ofString "append") env (eval o env) = eval o env) (hs : isStar e = false) (hline : (ap.endLine == cp.line) = true) (hi : interactive env = false)
    (x : EV prog w A s0 (eval o env) h (fun ov h1 => ∃ a vs n, ov = .ref a ∧ h1.get? a = some (listO vs.toArray n) ∧ EV prog w A s0 (eval e env) h1 (fun va h2 => fit vs.length ∧ h2.get? a = some (listO vs.toArray n) ∧
      ∀ h3, Heap.SameBut a h2 h3 → (∃ n', h3.get? a = some (listO (vs ++ [va]).toArray n')) → Q .next h3))) :
    EV prog w A s0 (exec (.Expr (.Call (.Attribute o (Str.ofString "append") ap) [e] [] cp) pos) env) h Q := by
  have main : EV prog w A s0 (eval (.Call (.Attribute o (Str.ofString "append") ap) [e] [] cp) env) h (fun v h' => v = .none ∧ Q .next h') := by
    refine EV.method hb (by simp) (fun e' he => by simp at he; refine yl he ?_; clear he; exact hs) hline (x.mono fun ov h1 q => ?_)
    refine zEEEAA q ?_; clear q; rintro a vs n rfl ha q
    refine ⟨"list", "list.append", ?_, PySem.F.slot_list_append, PySem.F.type_list_append, fun s q => ⟨_, by rw [q]; exact ha, rfl⟩, fun b e => by cases e; exact iEA _ ha rfl, ?_⟩
    · exact PySem.F.plainAttrs_list
    · intro tk
      refine wpAny_items_cons (q.out fun va h2 tk2 z => wpAny_items_nil ?_) (by cases e <;> first | rfl | exact bf hs.symm)
      exact (pst ((append_raw z.2.1 z.1).mono fun v h3 y => ⟨y.1, z.2.2 h3 y.2.1 y.2.2⟩))
  exact fun tk => wpAny_Expr (main.out fun v' h' tk' q => by obtain ⟨rfl, q⟩ := q; exact (pst (q))) hi
def NmFin (X : Addr → Prop) (h0 : Heap) (L : Addr) (h : Heap) (ls : List (List Int)) (l : List Int) (m : Str → Option Value) (a : Addr) (bs : List Addr) (b : Addr) (f : Int) (fl : Flow) (h' : Heap) : Prop :=
  fl = .next ∧ ∃ ls' l' bs' b', nmStep (ls ++ [l]) f = ls' ++ [l'] ∧ ls'.length ≤ ls.length + 1 ∧ l'.length ≤ l.length + 1 ∧ NmAt X h0 L nN h' ls' l' m a bs' b' ∧ (∀ c o, c ≠ a → c ∉ bs ++ [b] → h.get? c = some o → h'.get? c = some o) ∧
    (∀ c, (h.get? c).isSome = true → (h'.get? c).isSome = true) ∧ (∀ c ∈ bs' ++ [b'], c ∈ bs ++ [b] ∨ h.get? c = none)
theorem nm_new {L : Addr} {h2 h3 : Heap} {ls : List (List Int)} {l : List Int} {m : Str → Option Value} {a b : Addr} {bs : List Addr} {n n' : Nat} (r1 : NmAt X h0 L nN h2 ls l m a bs b) (g : Grow h h2) (ha : h2.get? a = some (listO ((bs ++ [b]).map Value.ref).toArray n))
    (hs : Heap.SameBut a (h2.push (listO ([] : List Value).toArray 0)) h3) (hn : h3.get? a = some (listO ((bs ++ [b]).map Value.ref ++ [Value.ref h2.objs.size]).toArray n')) : NmFin X h0 L h ls l m a bs b 63 .next h3 := by
  have g2 : Grow h2 (h2.push (listO ([] : List Value).toArray 0)) := Grow.push h2 _
  have hnew : h2.get? h2.objs.size = none := get_size h2
  have lv := r1.live
  refine ⟨rfl, ls ++ [l], [], bs ++ [b], h2.objs.size, nmStep_63 ls l, by simp, by simp, ?_, ?_, ?_, ?_⟩
  · refine (r1.grow g2).newOne (Heap.get?_push_size _ rfl) ⟨?_, ?_, ?_, r1.th.not hnew⟩ ?_ hs (by simpa using hn)
    · cases q : h0.get? h2.objs.size with
      | none => rfl
      | some o => rw [r1.old _ _ q] at hnew; exact nos hnew.symm
    · intro q; rw [q, ha] at hnew; exact nos hnew.symm
    · intro q; refine zEEEA (r1.ns) fun o _ _ e _ => ?_; rw [q, e] at hnew; exact nos hnew.symm
    · intro q; have := lv _ q; rw [hnew] at this; exact bf this
  · exact fun c o hc1 hc2 e => (hs.2 c hc1).trans (g2 _ _ (g _ _ e))
  · intro c hc
    by_cases q : c = a
    · rw [q, hn]; rfl
    · refine zE (Option.isSome_iff_exists.mp hc) fun o e => ?_
      rw [(hs.2 c q).trans (g2 _ _ (g _ _ e))]; rfl
  · intro c hc
    rcases List.mem_append.mp hc with q | q
    · exact .inl q
    · rw [List.mem_singleton.mp q]
      refine .inr ?_
      cases q : h.get? h2.objs.size with
      | none => rfl
      | some o => rw [g _ _ q] at hnew; exact nos hnew.symm
theorem nm_more {L : Addr} {h3 h4 : Heap} {ls : List (List Int)} {l : List Int} {m : Str → Option Value} {a b : Addr} {bs : List Addr} {f : Int} {t : Tok} {vs : List Value} {n' : Nat} (hf : f ≠ 63) (r3 : NmAt X h0 L nN h3 ls l m a bs b) (g : Grow h h3) (hi : Ints vs l)
    (hs : Heap.SameBut b h3 h4) (hn : h4.get? b = some (listO (vs ++ [Value.int f t]).toArray n')) : NmFin X h0 L h ls l m a bs b f .next h4 := by
  refine ⟨rfl, ls, l ++ [f], bs, b, nmStep_ne hf ls l, by exact qu, by simp, ?_, ?_, ?_, fun c hc => .inl hc⟩
  · refine r3.more hs hn ?_
    show Vs _ _ _ ((l ++ [f]).map .int)
    rw [List.map_append]
    exact hi.append (.cons (.int f t) .nil)
  · exact fun c o _ hc2 e => (hs.2 c fun q => hc2 (by rw [q]; simp)).trans (g _ _ e)
  · intro c hc
    by_cases q : c = b
    · rw [q, hn]; rfl
    · refine zE (Option.isSome_iff_exists.mp hc) fun o e => ?_
      rw [(hs.2 c q).trans (g _ _ e)]; rfl
theorem nm_turn (gl : Glo K mg) (orc : Orc prog w K mg mb k F) (hR : Room k A) (eo : EnvOk env ns) (wo : Wo K mg mb h0) (hdb : ∀ x ∈ ns, (x.1 == ("__debug__" : Str)) = false) {q : NmP} (nk : NmOk ns q)
    {ls : List (List Int)} {l : List Int} {m : Str → Option Value} {a b : Addr} {bs : List Addr} {f : Int} {t : Tok} (r : NmAt X h0 env.locals nN h ls l m a bs b) (hf : m nF = some (.int f t)) (hz : ls.length ≤ 100000 ∧ l.length ≤ 100000) :
    EV prog w A s0 (execs q.turn env) h (NmFin X h0 env.locals h ls l m a bs b f) := by
  have h4 := nk.h1
  have h5 := nk.h2
  have hd3 := hdb _ (List.mem_of_getElem? (slotOf_get h4).1)
  have hd7 := hdb _ (List.mem_of_getElem? (slotOf_get h5).1)
  have rd : Rd K mg mb env ns [] (fun _ => False) h [.undef, .undef, .int f] := by
    refine ⟨eo, wo.grow r.old, fun _ q => q.elim, m, r.ns, fun i x d e1 e2 hu => ?_⟩
    match i, e2 with
    | 0, e2 => simp at e2; subst e2; cases hu
    | 1, e2 => simp at e2; subst e2; cases hu
    | 2, e2 =>
      simp at e2; subst e2
      have := (slotOf_get h5).1
      simp only [e1] at this; cases this
      exact iEAA _ hf (V.int f t) (fun _ => .int f t)
    | i + 3, e2 => simp at e2
  have htv : tv F [] [.undef, .undef, .int f] (era 30 ns (.Compare (.Name nF (q.p 7)) [.Eq] [.Constant (.int 63) q.k1 (q.p 8)] (q.p 9))) = some (decide (f = 63)) := by
    have hn : nameE ns nF = .var 2 := by unfold nameE; simp only [hd7, if_neg Bool.false_ne_true, h5]
    show tv F [] [.undef, .undef, .int f] (.cmp .Eq (nameE ns nF) (.lit (.int 63))) = _
    simp only [hn]
    rfl
  refine fun tk => wpAny_execs_cons (wpAny_If ((tv_sound gl orc hR 30 _ h _ htv rd).out fun tb h1 tk1 q => ?_))
  refine zA q ?_; clear q; rintro rfl g
  have r1 := r.grow g
  by_cases hf63 : f = 63
  · simp only [decide_eq_true hf63]
    refine yl hf63 ?_; clear hf63
    refine wpAny_execs_cons (EV.out (append_st (Q := NmFin X h0 env.locals h ls l m a bs b 63) (baseOf rfl) rfl nk.l3 (notInter eo) ((name_ev eo h4 r1.ns r1.nm hd3).mono fun v h2 z => ?_)) fun fl h2 tk2 z => ?_)
    · refine zA z ?_; clear z; rintro rfl rfl
      obtain ⟨n, ha⟩ := r1.at_
      refine iEEEAA a _ n rfl ha (list0_ev.mono fun v h3 z => ?_)
      refine zA z ?_; clear z; rintro rfl rfl
      refine ⟨by unfold fit; simp only [List.length_map, List.length_append, r1.len]; simp; exact (qT hz.1 (by decide)), Grow.push h2 _ _ _ ha, fun h4 hs hn => ?_⟩
      exact zE hn fun n' hn => nm_new r1 g ha hs hn
    · refine zA z ?_; clear z; rintro rfl z
      exact wpAny_execs_nil (wpAny_execs_nil (pst ⟨rfl, z⟩))
  · rw [decide_eq_false hf63]
    refine wpAny_execs_cons (EV.out (append_st (Q := NmFin X h0 env.locals h ls l m a bs b f) (baseOf rfl) rfl nk.l4 (notInter eo) ?_) fun fl h2 tk2 z => ?_)
    · refine zE (r1.at_) fun n ha => ?_
      refine zEEA (r1.last) fun vs nn hb hi => ?_
      have hu : EV prog w A s0 (eval (.UnaryOp .USub (.Constant (.int 1) q.k2 (q.p 14)) (q.p 15)) env) h1 (Out true (fresh (era 30 ns (.UnaryOp .USub (.Constant (.int 1) q.k2 (q.p 14)) (q.p 15)))) h1 (fun _ => False) (.int (-1))) :=
        ev_sound (own := []) gl orc 30 s0 env ns _ [.undef, .undef, .int f] true A _ h1 _ hR rfl (rd.grow g)
      refine fun tk => PyProof.Rows.Subscript_ ((name_ev eo h4 r1.ns r1.nm hd3).out fun v h2 tk2 z => ?_)
      refine zA z ?_; clear z; rintro rfl rfl
      refine hu.out fun v h3 tk3 z => ?_
      refine zAA z ?_; clear z; intro g3 z _
      cases z with | int _ t2 =>
      have r3 := r1.grow g3
      have ha3 := g3 _ _ ha
      have hb3 := g3 _ _ hb
      have hsz : ((bs ++ [b]).map Value.ref).toArray.size = bs.length + 1 := by simp
      refine tail_any (T := "list") ⟨_, ha3, rfl⟩ slot_list_getitem.lookup ?_ (notSlice rfl)
      refine wpAny_getItem_list_neg (x := .ref b) (IsL.is ha3) (by decide) (by rw [hsz]; omega) (by decide) (by
        rw [hsz, show ((-1 : Int) + ((bs.length + 1 : Nat) : Int)).toNat = bs.length by omega]
        simp) ?_
      refine (pst ⟨b, vs, nn, rfl, hb3, (name_ev eo h5 r3.ns hf hd7).mono fun v h4 z => ?_⟩)
      refine zA z ?_; clear z; rintro rfl rfl
      have hvl : vs.length = l.length := by have := hi.length; simpa using this
      refine ⟨by unfold fit; exact (qT (qet hvl hz.2) (by decide)), hb3, fun h5 hs hn => ?_⟩
      exact zE hn fun n' hn => nm_more hf63 r3 (g.trans g3) hi hs hn
    · refine zA z ?_; clear z; rintro rfl z
      exact wpAny_execs_nil (wpAny_execs_nil (pst ⟨rfl, z⟩))
end
theorem NmAt.unbar {X Y : Addr → Prop} {h0 h : Heap} {L : Addr} {x1 : Str} {ls : List (List Int)} {l : List Int} {m : Str → Option Value} {a b : Addr} {bs : List Addr} (r : NmAt X h0 L x1 h ls l m a bs b) (hY : ∀ c, Y c → X c) : NmAt Y h0 L x1 h ls l m a bs b :=
  ⟨r.old, r.ns, r.nm, ⟨r.fa.1, r.fa.2.1, fun q => r.fa.2.2 (hY _ q)⟩, r.at_, r.nd, fun c hc => ⟨(r.fb c hc).1, (r.fb c hc).2.1, (r.fb c hc).2.2.1, fun q => (r.fb c hc).2.2.2 (hY _ q)⟩, r.ls, r.last, fun c q => r.th c (hY _ q), ⟨r.nL.1, fun q => r.nL.2 (hY _ q)⟩⟩
theorem NmAt.bar {X : Addr → Prop} {I : Addr} {h0 h h1 : Heap} {L : Addr} {x1 : Str} {ls : List (List Int)} {l : List Int} {m : Str → Option Value} {a b : Addr} {bs : List Addr} (r : NmAt X h0 L x1 h ls l m a bs b) (g : Grow h h1) (hI : h.get? I = none) (hs : (h1.get? I).isSome = true) :
    NmAt (fun c => X c ∨ c = I) h0 L x1 h1 ls l m a bs b := by
  have r1 := r.grow g
  have na : a ≠ I := fun q => by refine zE (r.at_) fun n e => ?_; rw [q, hI] at e; exact nos e
  have nb : ∀ c ∈ bs ++ [b], c ≠ I := fun c hc q => by have := r.live c hc; rw [q, hI] at this; exact bf this
  have nL : L ≠ I := fun q => by refine zEEEA (r.ns) fun o _ _ e _ => ?_; rw [q, hI] at e; exact nos e
  exact ⟨r1.old, r1.ns, r1.nm, ⟨r.fa.1, r.fa.2.1, fun q => q.elim r.fa.2.2 na⟩, r1.at_, r.nd, fun c hc => ⟨(r.fb c hc).1, (r.fb c hc).2.1, (r.fb c hc).2.2.1, fun q => q.elim (r.fb c hc).2.2.2 (nb c hc)⟩, r1.ls, r1.last,
    fun c q => q.elim (r1.th c) fun e => by rw [e]; exact hs, ⟨r.nL.1, fun q => q.elim r.nL.2 nL⟩⟩
theorem NmAt.drop {X : Addr → Prop} {I : Addr} {h0 h h1 : Heap} {L : Addr} {x1 : Str} {ls : List (List Int)} {l : List Int} {m : Str → Option Value} {a b : Addr} {bs : List Addr} (r : NmAt (fun c => X c ∨ c = I) h0 L x1 h ls l m a bs b) (nX : ¬ X I) (hI : h0.get? I = none)
    (g : ∀ c o, c ∉ [I] → h.get? c = some o → h1.get? c = some o) : NmAt X h0 L x1 h1 ls l m a bs b := by
  have ne : ∀ c, c ≠ I → c ∉ [I] := fun c hc q => by simp at q; exact hc q
  have fa := r.fa
  have neX : ∀ c, ¬ (X c ∨ c = I) → c ∉ [I] := fun c hc => ne c fun q => hc (.inr q)
  refine ⟨fun c o e => g c o (ne c fun q => by simp only [q, hI] at e; exact nos e) (r.old _ _ e), ?_, r.nm, ⟨fa.1, fa.2.1, fun q => fa.2.2 (.inl q)⟩, ?_, r.nd, fun c hc => ⟨(r.fb c hc).1, (r.fb c hc).2.1, (r.fb c hc).2.2.1, fun q => (r.fb c hc).2.2.2 (.inl q)⟩, ?_, ?_, ?_, ⟨r.nL.1, fun q => r.nL.2 (.inl q)⟩⟩
  · refine zEEEA (r.ns) fun o es ep e q => ?_
    exact iEEEA o es ep (g _ _ (neX _ r.nL.2) e) q
  · refine zE (r.at_) fun n e => ?_
    exact ⟨n, g _ _ (neX _ fa.2.2) e⟩
  · exact r.ls.keep fun c hc o e => g _ _ (neX _ (r.fb c (List.mem_append_left _ hc)).2.2.2) e
  · refine zEEA (r.last) fun vs n e i => ?_
    exact ⟨vs, n, g _ _ (neX _ (r.fb b (by simp)).2.2.2) e, i⟩
  · intro c hc
    refine zE (Option.isSome_iff_exists.mp (r.th c (.inl hc))) fun o e => ?_
    simp only [g c o (ne c fun q => nX (q ▸ hc)) e]; rfl
section
variable {prog : Program} {w : World} {K : Frag} {mg mb : Str → Option Value} {F : FO} {k : Nat} {ns : NK} {body : List Stmt} {a : Addr} {o : Obj} {fd : FuncData}
def NmEnd (X : Addr → Prop) (h0 : Heap) (L : Addr) (p : List Int) (fl : Flow) (h' : Heap) : Prop := fl = .next ∧ ∃ ls l m bs b' a, nmOf p = ls ++ [l] ∧ NmAt X h0 L nN h' ls l m a bs b'
inductive NmInv (X : Addr → Prop) (I : Addr) (h0 : Heap) (L : Addr) (s0 : Shared) (St : Nat → Heap → Prop) (fp : List Addr) (p : List Int) (a : Addr) (n : Nat) (j : Nat) (s : Shared) : Prop
  | mk (t : Nat) (h3 : Heap) (tk3 : Nat) (ls : List (List Int)) (l : List Int) (m : Str → Option Value) (bs : List Addr) (b' : Addr) (e1 : j = n - t) (e2 : t ≤ n) (e3 : s = (sAt s0 h3 tk3)) (r : NmAt (fun c => X c ∨ c = I) h0 L nN h3 ls l m a bs b') (st : St t h3)
      (fold : (p.drop t).foldl nmStep (ls ++ [l]) = nmOf p) (l1 : ls.length ≤ t) (l2 : l.length ≤ t) (f1 : ∀ c ∈ bs ++ [b'], c ∉ fp) (f2 : ∀ c ∈ fp, (h3.get? c).isSome = true) : NmInv X I h0 L s0 St fp p a n j s
def NmPost (prog : Program) (w : World) (A : Around) (env : Env) (X : Addr → Prop) (h0 : Heap) (L : Addr) (s0 : Shared) (p : List Int) (r : Result) (s' : Shared) : Prop := match r with
  | .ok f => ∃ h' tk', s' = (sAt s0 h' tk') ∧ NmEnd X h0 L p f h'
  | .error e => cameBackBy (model prog w) A env (fun _ _ => False) e s'
theorem nm_loop {A : Around} {X : Addr → Prop} {env : Env} {s0 : Shared} {h0 hs : Heap} (gl : Glo K mg) (orc : Orc prog w K mg mb k F) (hR : Room k A) (eo : EnvOk env ns) (wo : Wo K mg mb h0) (hdb : ∀ x ∈ ns, (x.1 == ("__debug__" : Str)) = false) {q : NmP} (nk : NmOk ns q)
    {m : Str → Option Value} {a b : Addr} {p : List Int} {pv : Value} (hp : p.length ≤ 90000) (r : NmAt X h0 env.locals nN hs [] [] m a [] b) (hpath : m nP = some pv) (hV : V hs (fun c => X c ∨ c = env.locals ∨ c = a ∨ c = b) pv (.list (p.map .int))) :
    EV prog w A s0 (exec (.For (.Name nF (q.p 5)) (.Name nP (q.p 6)) q.turn [] (q.p 20)) env) hs (NmEnd X h0 env.locals p) := fun tk => by
  have hx0 := nk.h0
  have h7 := nk.h2
  have h3 := nk.h1
  have d0 := hdb _ (List.mem_of_getElem? (slotOf_get hx0).1)
  have n12 : nN ≠ nF := by decide +kernel
  have Ls' : (hs.get? env.locals).isSome = true := by refine zEEEA (r.ns) fun o _ _ e _ => ?_; rw [e]; rfl
  have as' : (hs.get? a).isSome = true := by refine zE (r.at_) fun n e => ?_; rw [e]; rfl
  have bs' : (hs.get? b).isSome = true := r.live b (by simp)
  have th' : There (fun c => X c ∨ c = env.locals ∨ c = a ∨ c = b) hs := by
    rintro c (q | q | q | q)
    · exact r.th c q
    · rw [q]; exact Ls'
    · rw [q]; exact as'
    · rw [q]; exact bs'
  refine wpAny_For ((name_ev eo hx0 r.ns hpath d0).out fun va h1 tk1 z => ?_) (fun _ => rfl)
  refine zA z ?_; clear z; rintro rfl rfl
  refine (iter_ok (xs := p.map .int) hR.hd th' rfl hV).out fun iv h2 tk2 z => ?_
  obtain ⟨g2, I, fp, P, St, n, rfl, it⟩ := z
  have hI : h1.get? I = none := it.new
  have h0I : h0.get? I = none := by
    cases q : h0.get? I with
    | none => rfl
    | some o => have := r.old _ _ q; rw [hI] at this; exact nos this
  have hlen : n = p.length := by simp only [it.len, List.length_map]
  have fpX : ∀ c ∈ fp, c ≠ env.locals ∧ c ≠ a ∧ c ≠ b := fun c hc => by
    rcases it.bar c hc with q | ⟨q, _⟩
    · rw [q]
      refine iAA (fun e => ?_) (fun e => ?_) (fun e => ?_)
      · rw [← e, hI] at Ls'; exact bf Ls'
      · rw [← e, hI] at as'; exact bf as'
      · rw [← e, hI] at bs'; exact bf bs'
    · exact iAA (fun e => q (.inr (.inl e))) (fun e => q (.inr (.inr (.inl e)))) (fun e => q (.inr (.inr (.inr e))))
  have main : codeAny (model prog w) A (.forLoop (.Name nF (q.p 5)) (.ref I) q.turn [] env) (NmPost prog w A env X h0 env.locals s0 p) (sAt s0 h2 tk2) := by
    refine codeAny_forLoop_any (NmInv X I h0 env.locals s0 St fp p a n) ?_ n
      ⟨0, h2, tk2, [], [], m, [], b, rfl, Nat.zero_le _, rfl, r.bar g2 hI (it.alive _ _ it.st), it.st, rfl, Nat.le_refl _, Nat.le_refl _, fun c hc q => (by simp at hc; exact (fpX c q).2.2 hc), it.fpIn⟩
    rintro j s ⟨t, h3', tk3, ls, l, m1, bs, b', rfl, ht, rfl, r3, hst, hfold, hl1, hl2, hfp, hal⟩
    by_cases hlt : t < n
    · have hxt : t < p.length := by exact (qL hlt (qE hlen))
      simp only [List.drop_eq_getElem_cons hxt, List.foldl_cons] at hfold
      refine it.wk.item t _ _ _ hlt hst fun v h4' tk4 hP hst4 hk => ?_
      refine wpAny_pure ?_
      have r4 := r3.touch (.inr rfl) h0I hk (it.alive _ _ hst4)
      have hal4 : ∀ c ∈ fp, (h4'.get? c).isSome = true := fun c hc => by
        by_cases q : c ∈ [I]
        · simp only [List.mem_cons, List.not_mem_nil, or_false] at q
          rw [q]; exact it.alive _ _ hst4
        · refine zE (Option.isSome_iff_exists.mp (hal c hc)) fun o e => ?_
          rw [hk c o q e]; rfl
      refine zEA (it.val h1 ((Grow.refl h1).x _) t v hP) fun d hd hvd => ?_
      have hd' : d = .int p[t] := by
        simp only [List.getElem?_map, List.getElem?_eq_getElem hxt] at hd
        refine y1 hd ?_; clear hd; rfl
      subst hd'
      cases hvd with | int _ tt =>
      refine assign_Name (wpAny_storeName_local (eo.look _ _ (slotOf_get h7).2 (.inl rfl)) r4.ns (fun h5' hm5 hs5 => ?_) (by rw [eo.kind]; rfl))
      have r5 : NmAt (fun c => X c ∨ c = I) h0 env.locals nN h5' ls l _ a bs b' := r4.store hs5 hm5 (if_neg n12)
      have hst5 : St (t + 1) h5' := it.wk.frame _ _ _ hst4 fun c hc o e => (hs5.2 c (fpX c hc).1).trans e
      have hal5 : ∀ c ∈ fp, (h5'.get? c).isSome = true := fun c hc => by rw [hs5.2 c (fpX c hc).1]; exact hal4 c hc
      refine (nm_turn (f := p[t]) (t := tt) gl orc hR eo wo hdb nk r5 (if_pos rfl) ⟨by exact (qT (qT hl1 (qT ht (qet hlen hp))) (by decide)), by exact (qT (qT hl2 (qT ht (qet hlen hp))) (by decide))⟩).out fun fl h6' tk6 z => ?_
      obtain ⟨rfl, ls', l', bs2, b2, q1, q2, q3, r6, q5, q6, q7⟩ := z
      refine ⟨n - (t + 1), by exact (qK hlt), t + 1, h6', tk6, ls', l', _, bs2, b2, rfl, by assumption, rfl, r6, it.wk.frame _ _ _ hst5 fun c hc o e => q5 c o (fpX c hc).2.1 (fun q => hfp c q hc) e, by rw [← q1]; exact hfold, by exact (qT q2 (Nat.lt_succ_of_le hl1)), by omega, fun c hc hf => ?_, fun c hc => q6 c (hal5 c hc)⟩
      rcases q7 c hc with q | q
      · exact hfp c q hf
      · have := hal5 c hf; rw [q] at this; cases this
    · have htn : t = n := by exact (Nat.le_antisymm ht (qX hlt))
      subst htn
      rw [List.drop_of_length_le (qE hlen.symm), List.foldl_nil] at hfold
      refine it.wk.done _ _ _ hst fun h4' tk4 hk => ?_
      have hIX : ¬ X I := fun q => by have := r.th I q; rw [hI] at this; exact bf this
      exact wpAny_execs_nil ⟨_, _, rfl, rfl, ls, l, m1, bs, b', a, hfold.symm, r3.drop hIX h0I hk⟩
  refine codeAny_mono main fun r s' z => ?_
  cases r with
  | ok f => exact z
  | error e => exact z
theorem names_ok {p : List Int} (hp : p.length ≤ 90000) (gl : Glo K mg) (orc : Orc prog w K mg mb k F) (fa : FnAt K mg "_law_names" ns [] 1 body a o fd) (hn : ns.length = 3) (hc : NmSh ns body) :
    CallOK prog w K mg mb (k + 1) "_law_names" [.list (p.map .int)] (.list ((nmOf p).map fun l => .list (l.map .int))) := by
  refine call_enter fa rfl fun s0 A X h h₀ env hR hloc rep => ?_
  refine zEA hc ?_; clear hc; rintro q rfl nk
  have h1 := nk.h1
  have h0 := nk.h0
  rw [hn] at rep
  replace rep : Rep K mg mb env ns [] X h (fun _ => none) h₀ [.list (p.map .int), .undef, .undef] := rep
  have eo := rep.eo
  have hdb := fa.ok.db
  have n12 : nN ≠ nF := by decide +kernel
  have n01 : nP ≠ nN := by decide +kernel
  have d0 := hdb _ (List.mem_of_getElem? (slotOf_get h0).1)
  have d1 := hdb _ (List.mem_of_getElem? (slotOf_get h1).1)
  refine zEA (rep.loc) fun m0 hm0 hl0 => ?_
  obtain ⟨pv, hpv, hsl⟩ := hl0 0 nP _ (slotOf_get h0).1 rfl (fun q => by cases q)
  have hV0 : V h₀ (Bar X env.locals fun _ => none) pv (.list (p.map .int)) := by
    cases hsl with
    | plain _ v => exact v
    | own q => simp at q
  have hL0 : (h₀.get? env.locals).isSome = true := rep.th _ (.inr (.inl rfl))
  refine fun tk => wpAny_execs_cons (wpAny_Assign_Name ((list1_ev (Q := fun v h' => v = .ref (h₀.objs.size + 1) ∧ h' = (h₀.push (listO ([] : List Value).toArray 0)).push (listO [Value.ref h₀.objs.size].toArray 0)) rfl (list0_ev.mono fun v h' z => ?_)).out fun v h2 tk2 z => ?_) (swaps_no rfl))
  · refine zA z ?_; clear z; rintro rfl rfl
    exact ⟨by rw [Heap.size_push], rfl⟩
  obtain ⟨rfl, rfl⟩ := z
  generalize hb : h₀.objs.size = b at *
  have hbn : h₀.get? b = none := hb ▸ get_size h₀
  generalize hh1 : h₀.push (listO ([] : List Value).toArray 0) = hA
  have gA : Grow h₀ hA := hh1 ▸ Grow.push h₀ _
  have szA : hA.objs.size = b + 1 := by rw [← hh1, Heap.size_push, hb]
  have hbA : hA.get? b = some (listO ([] : List Value).toArray 0) := by rw [← hh1, ← hb]; exact Heap.get?_push_size _ rfl
  have haA : hA.get? (b + 1) = none := szA ▸ get_size hA
  generalize hh2 : hA.push (listO [Value.ref b].toArray 0) = hB
  have gB : Grow hA hB := hh2 ▸ Grow.push hA _
  have haB : hB.get? (b + 1) = some (listO [Value.ref b].toArray 0) := by simp only [← hh2, ← szA]; exact Heap.get?_push_size _ rfl
  have ha0 : h₀.get? (b + 1) = none := by
    cases q : h₀.get? (b + 1) with
    | none => rfl
    | some o => rw [gA _ _ q] at haA; exact nos haA.symm
  have old0 : ∀ {c}, h₀.get? c = none → h.get? c = none := fun {c} e => by
    cases q : h.get? c with
    | none => rfl
    | some o => rw [rep.old _ _ q] at e; exact nos e.symm
  have nX0 : ∀ {c}, h₀.get? c = none → ¬ X c := fun {c} e q => by have := rep.th c (.inl q); rw [e] at this; exact bf this
  have nL0 : ∀ {c}, h₀.get? c = none → c ≠ env.locals := fun {c} e q => by rw [q] at e; rw [e] at hL0; exact bf hL0
  have rB : NmAt X h env.locals nN hB [] [] (fun y => if y = nN then some (.ref (b + 1)) else m0 y) (b + 1) [] b → True := fun _ => trivial
  refine wpAny_storeName_local (eo.look _ _ (slotOf_get h1).2 (.inl rfl)) (hm0.keeps (gA.trans gB)) (fun hC hmC hsC => ?_) (by rw [eo.kind]; rfl)
  have keepC : ∀ c ob, c ≠ env.locals → hB.get? c = some ob → hC.get? c = some ob := fun c ob q e => (hsC.2 c q).trans e
  have rC : NmAt X h env.locals nN hC [] [] (fun y => if y = nN then some (.ref (b + 1)) else m0 y) (b + 1) [] b := by
    refine ⟨fun c ob e => keepC c ob (fun q => by simp only [q, rep.nL.1] at e; exact nos e) (gB _ _ (gA _ _ (rep.old _ _ e))), hmC, if_pos rfl, ⟨old0 ha0, nL0 ha0, nX0 ha0⟩, ⟨0, keepC _ _ (nL0 ha0) haB⟩, by simp, ?_, .nil,
      ⟨[], 0, keepC _ _ (nL0 hbn) (gB _ _ hbA), .nil⟩, ?_, rep.nL⟩
    · intro c hc
      simp at hc
      refine yl hc ?_; clear hc
      exact iAAA (old0 hbn) (Nat.ne_of_lt (Nat.lt_succ_self _)) (nL0 hbn) (nX0 hbn)
    · intro c hc
      obtain ⟨ob, e⟩ := Option.isSome_iff_exists.mp (rep.th c (.inl hc))
      rw [keepC c ob (fun q => rep.nL.2 (q ▸ hc)) (gB _ _ (gA _ _ e))]; rfl
  have hpC : (if nP = nN then some (.ref (b + 1)) else m0 nP) = some pv := by rw [if_neg n01]; exact hpv
  have hVC : V hC (fun c => X c ∨ c = env.locals ∨ c = b + 1 ∨ c = b) pv (.list (p.map .int)) := by
    refine (hV0.bar (Y := fun c => X c ∨ c = env.locals ∨ c = b + 1 ∨ c = b) fun c hc nb q => ?_).keep fun c ob nb e => ?_
    · rcases q with q | q | q | q
      · exact nb (.inl q)
      · exact nb (.inr (.inl q))
      · rw [q, ha0] at hc; exact bf hc
      · rw [q, hbn] at hc; exact bf hc
    · exact keepC c ob (fun q => nb (.inr (.inl q))) (gB _ _ (gA _ _ e))
  refine wpAny_execs_cons ((nm_loop gl orc hR eo rep.wo hdb nk hp rC hpC hVC).out fun fl hD tkD z => ?_)
  obtain ⟨rfl, ls, l, m2, bs, b', a', hnm, rD⟩ := z
  refine wpAny_execs_cons (wpAny_Return_some ((name_ev eo h1 rD.ns rD.nm d1).out fun v hE tkE z => ?_))
  refine zA z ?_; clear z; rintro rfl rfl
  refine iEEAEAA _ _ rfl _ rfl rD.old ?_
  refine zE (rD.at_) fun n e => ?_
  refine .list e rD.fa.2.2 ?_
  simp only [hnm]
  refine zEEA (rD.last) fun vs nn e2 i => ?_
  exact (rD.ls.append (.cons e2 i .nil)).vs fun c hc => (rD.fb c hc).2.2.2
end
section
section
variable {a : D} {l : List D}
theorem bi_len : biop "len" l = f1 lenD l := rfl
theorem bi_sum : biop "sum" l = f1 sumD l := rfl
theorem bi_isi : biop "isinstance" l = f2 isiD l := rfl
theorem bi_chr : biop "chr" l = f1 chrD l := rfl
theorem bi_byt : biop "bytes" l = f1 bytD l := rfl
theorem bi_mk : biop "maketrans" l = f2 mkD l := rfl
theorem me_rfind : meop "rfind" a l = f1 (sStr2 (fun s t => some (.int (Txt.rfind (txt s) (txt t)))) a) l := rfl
theorem me_rstrip : meop "rstrip" a l = f1 (sStr2 (fun s t => if fit s.length then some (.str (Txt.rstripChars (txt s) (txt t)).cps.toList) else none) a) l := rfl
theorem me_split : meop "split" a l = f1 (sStr2 (fun s t => if fit s.length ∧ t ≠ [] ∧ (Txt.split (txt s) (txt t)).length ≤ 100000 then some (.list ((Txt.split (txt s) (txt t)).map fun x => .str x.cps.toList)) else none) a) l := rfl
theorem me_join : meop "join" a l = f1 (joinD a) l := rfl
theorem me_tran : meop "translate" a l = f1 (tranD a) l := rfl
end
theorem txt_toList (s : List Nat) : (txt s).cps.toList = s := by rfl
theorem txt_len (s : List Nat) : (txt s).length = s.length := by rfl
theorem txt_of {x : Str} {l : List Nat} (h : x.cps.toList = l) : x = txt l := by
  subst h; rfl
noncomputable def joinL (sep : List Nat) : List (List Nat) → List Nat
  | [] => []
  | [x] => x
  | x :: y :: r => x ++ sep ++ joinL sep (y :: r)
theorem joinL_cons (sep x : List Nat) : ∀ {r : List (List Nat)}, r ≠ [] → joinL sep (x :: r) = x ++ sep ++ joinL sep r
  | [], h => absurd rfl h
  | _ :: _, _ => rfl
theorem joinL_nil : ∀ (l : List (List Nat)), joinL [] l = l.flatten
  | [] => rfl
  | [x] => by simp [joinL]
  | x :: y :: r => by rw [joinL_cons _ _ (by simp), joinL_nil (y :: r)]; simp
theorem str_join (sep : List Nat) : ∀ l : List (List Nat), (Str.join (txt sep) (l.map txt)).cps.toList = joinL sep l
  | [] => rfl
  | [x] => txt_toList x
  | x :: y :: r => by
    show (txt x ++ txt sep ++ Str.join (txt sep) ((y :: r).map txt)).cps.toList = _
    simp only [Str.cps_append, Str.cps_append, Array.toList_append, Array.toList_append, str_join sep (y :: r), txt_toList, txt_toList]
    rfl
theorem txt_join (sep : List Nat) (l : List (List Nat)) : (Txt.join (txt sep) (l.map txt)).cps.toList = joinL sep l := by
  unfold Txt.join
  rw [StrLaws.glued_eq_join, str_join]
theorem strsOf_map : ∀ l : List (List Nat), strsOf (l.map D.str) = some l
  | [] => rfl
  | x :: r => by simp only [List.map_cons, strsOf, strsOf_map r]; rfl
theorem meop_join (sep : List Nat) {l : List (List Nat)} {B : Nat} (hB : ∀ x ∈ l, x.length ≤ B) (h : l.length * B + l.length * sep.length ≤ 16777216) : meop "join" (.str sep) [.list (l.map .str)] = some (.str (joinL sep l)) := by
  have ok : JoinOk (txt sep) (l.map txt) = true := by
    unfold JoinOk
    rw [StrLaws.joinFits (B := B) (fun y hy => by
      refine zEA (List.mem_map.mp hy) ?_; rintro x hx rfl
      rw [txt_len]; exact hB x hx) (by rw [List.length_map, txt_len]; exact h)]
    rfl
  simp only [me_rfind, me_rstrip, me_split, me_join, me_tran, f1, sStr2, joinD, tranD, vStr, vByt, vLst, Option.bind_some, strsOf_map]
  rw [if_pos ok, txt_join]
def occ (s t : List Nat) (i : Nat) : Prop := i + t.length ≤ s.length ∧ (s.drop i).take t.length = t
theorem at_occ (s t : List Nat) (i : Nat) : StrLaws.At (txt s) (txt t) (txt s).length i ↔ occ s t i := by
  unfold StrLaws.At occ
  simp only [StrLaws.subAt_eq, txt_len, txt_len, txt_toList, txt_toList, beq_iff_eq]
theorem rfind_spec (s t : List Nat) : (Txt.rfind (txt s) (txt t) = -1 ∧ ∀ i, ¬ occ s t i) ∨ ∃ i : Nat, Txt.rfind (txt s) (txt t) = i ∧ occ s t i ∧ ∀ k, i < k → ¬ occ s t k := by
  unfold Txt.rfind
  rcases StrLaws.last_spec (txt s) (txt t) with ⟨h1, h2⟩ | ⟨i, h1, h2, h3⟩
  · rw [h1]; exact .inl ⟨rfl, fun i q => h2 i ((at_occ s t i).mpr q)⟩
  · rw [h1]; exact .inr (iEAA i rfl ((at_occ s t i).mp h2) (fun k hk q => h3 k hk ((at_occ s t k).mpr q)))
theorem rfind_none {s t : List Nat} (h : ∀ i, ¬ occ s t i) : Txt.rfind (txt s) (txt t) = -1 := by
  rcases rfind_spec s t with ⟨h1, _⟩ | ⟨i, _, h2, _⟩
  · exact h1
  · exact absurd h2 (h i)
theorem rfind_at {a t b : List Nat} (h : ∀ k, a.length < k → ¬ occ (a ++ t ++ b) t k) : Txt.rfind (txt (a ++ t ++ b)) (txt t) = a.length := by
  have h0 : occ (a ++ t ++ b) t a.length := ⟨by simp, by simp⟩
  rcases rfind_spec (a ++ t ++ b) t with ⟨_, h2⟩ | ⟨i, h1, h2, h3⟩
  · exact absurd h0 (h2 _)
  · rw [h1]
    have : ¬ a.length < i := fun q => h i q h2
    have : ¬ i < a.length := fun q => h3 _ q h0
    omega
theorem occ_get {s t : List Nat} {i j : Nat} (h : occ s t i) (hj : j < t.length) : s[i + j]? = t[j]? := by
  have := congrArg (·[j]?) h.2
  simp only [List.getElem?_take, List.getElem?_drop, if_pos hj] at this
  exact this
theorem rfind_sign {a b : List Nat} {c : Nat} (h : c ∉ b) : Txt.rfind (txt (a ++ c :: b)) (txt [c]) = a.length := by
  have e : a ++ c :: b = a ++ [c] ++ b := by simp
  rw [e]
  refine rfind_at fun k hk q => ?_
  have := occ_get q (j := 0) (by simp)
  simp only [Nat.add_zero, List.getElem?_cons_zero] at this
  rw [List.getElem?_append_right (by simp; assumption)] at this
  exact h (List.mem_of_getElem? this)
theorem rfind_nosign {s : List Nat} {c : Nat} (h : c ∉ s) : Txt.rfind (txt s) (txt [c]) = -1 := by
  refine rfind_none fun i q => ?_
  have := occ_get q (j := 0) (by simp)
  simp only [Nat.add_zero, List.getElem?_cons_zero] at this
  exact h (List.mem_of_getElem? this)
theorem rfind_two {a b : List Nat} {c e : Nat} (h : e ∉ b) (hce : c ≠ e) : Txt.rfind (txt (a ++ [c, e] ++ b)) (txt [c, e]) = a.length := by
  refine rfind_at fun k hk q => ?_
  have := occ_get q (j := 1) (by simp)
  rw [List.getElem?_append_right (by simp; assumption)] at this
  exact h (List.mem_of_getElem? this)
theorem rfind_notwo {s : List Nat} {c e : Nat} (h : e ∉ s) : Txt.rfind (txt s) (txt [c, e]) = -1 := by
  refine rfind_none fun i q => ?_
  have := occ_get q (j := 1) (by simp)
  exact h (List.mem_of_getElem? this)
theorem sub_txt (x : List Nat) (a b : Nat) : Builtin.Str.strSub (txt x) a b = txt ((x.drop a).take (b - a)) := txt_of (by simp only [StrLaws.strSub_toList, txt_toList])
theorem occ_head {pre w rest : List Nat} {c : Nat} {t : List Nat} {k : Nat} (hw : c ∉ w) (h : occ (pre ++ w ++ rest) (c :: t) k) (h1 : pre.length ≤ k) : pre.length + w.length ≤ k := by
  refine Nat.not_lt.mp fun hlt => ?_
  have := occ_get h (j := 0) (by simp)
  simp only [Nat.add_zero, List.getElem?_cons_zero] at this
  rw [List.append_assoc, List.getElem?_append_right h1, List.getElem?_append_left (by omega)] at this
  exact hw (List.mem_of_getElem? this)
theorem parts_words {c : Nat} {t : List Nat} : ∀ (ws : List (List Nat)) (pre w : List Nat) (cuts : List Nat) (f : Nat), (∀ v ∈ w :: ws, c ∉ v) →
    StrLaws.ChainG (txt (pre ++ joinL (c :: t) (w :: ws))) (txt (c :: t)) (txt (pre ++ joinL (c :: t) (w :: ws))).length pre.length cuts f → (∀ k, f ≤ k → ¬ occ (pre ++ joinL (c :: t) (w :: ws)) (c :: t) k) →
    StrLaws.partsFrom (txt (pre ++ joinL (c :: t) (w :: ws))) (c :: t).length pre.length cuts = (w :: ws).map txt
  | [], pre, w, [], f, hw, hc, hn => by
    show [Builtin.Str.strSub _ _ _] = _
    simp only [sub_txt, txt_len]
    simp [joinL]
  | [], pre, w, k :: r, f, hw, hc, hn => by
    refine zAAA hc ?_; clear hc; intro h1 h2 h3 _
    have h2 := (at_occ _ _ _).mp h2
    have h2' : occ (pre ++ w ++ []) (c :: t) k := by simpa [joinL] using h2
    have := occ_head (hw w (.head _)) h2' h1
    have := h2'.1
    simp at this
    omega
  | w2 :: ws, pre, w, cuts, f, hw, hc, hn => by
    have e : pre ++ joinL (c :: t) (w :: w2 :: ws) = (pre ++ w ++ (c :: t)) ++ joinL (c :: t) (w2 :: ws) := by
      rw [joinL_cons _ _ (by simp)]; simp
    have hb : occ (pre ++ joinL (c :: t) (w :: w2 :: ws)) (c :: t) (pre ++ w).length := by
      rw [e]
      refine ⟨by simp; omega, ?_⟩
      rw [List.append_assoc (pre ++ w), List.drop_left, List.take_left]
    match cuts, hc with
    | [], hc =>
      have hc : f = pre.length := hc
      exact absurd hb (hn _ (by rw [hc]; simp))
    | k :: r, hc =>
      refine zAAA hc ?_; clear hc; intro h1 h2 h3 h4
      have h2 := (at_occ _ _ _).mp h2
      have hk : k = (pre ++ w).length := by
        have l1 : (pre ++ w).length ≤ k := by
          have h2' : occ (pre ++ w ++ ((c :: t) ++ joinL (c :: t) (w2 :: ws))) (c :: t) k := by
            rw [e] at h2; simpa using h2
          have := occ_head (hw w (.head _)) h2' h1
          simpa using this
        have l2 : ¬ (pre ++ w).length < k := fun q => h3 _ (by simp) q ((at_occ _ _ _).mpr hb)
        exact (Nat.le_antisymm (qX l2) l1)
      subst hk
      have len : (pre ++ w).length + (txt (c :: t)).length = (pre ++ w ++ (c :: t)).length := by rw [txt_len]; simp; exact (Nat.add_assoc _ _ _)
      rw [len, e] at h4
      have ih := parts_words ws (pre ++ w ++ (c :: t)) w2 r f (fun v hv => hw v (.tail _ hv)) h4 (fun k hk => by have := hn k hk; rwa [e] at this)
      show Builtin.Str.strSub _ _ _ :: StrLaws.partsFrom _ _ _ r = _
      rw [show (pre ++ w).length + (c :: t).length = (pre ++ w ++ (c :: t)).length by simp; exact (Nat.add_assoc _ _ _), e, ih, sub_txt]
      simp
theorem kind_low {y : List Nat} (hy : ∀ c ∈ y, c < 256) (x : Str) : ¬ Builtin.Str.strKind x < Builtin.Str.strKind (txt y) := by
  have : Builtin.Str.strKind (txt y) = 1 := by
    unfold Builtin.Str.strKind
    rw [if_pos (by simpa [txt] using hy)]
  rw [this]
  unfold Builtin.Str.strKind
  split
  · decide
  · split <;> decide
set_option tactic.hygienic true in
theorem split_words {c : Nat} {t : List Nat} {ws : List (List Nat)} (hne : ws ≠ []) (hw : ∀ w ∈ ws, c ∉ w) (hy : ∀ d ∈ c :: t, d < 256) : Txt.split (txt (joinL (c :: t) ws)) (txt (c :: t)) = ws.map txt := by
  match ws, hne with
  | w :: ws, _ =>
    refine zEA (StrLaws.occ_tight (txt (joinL (c :: t) (w :: ws))) (txt (c :: t)) (by simp only [txt_len]; simp)) fun f hc hn => ?_
    have hn' : ∀ k, f ≤ k → ¬ occ (joinL (c :: t) (w :: ws)) (c :: t) k := fun k hk q => hn k hk ((at_occ _ _ _).mpr q)
    have key := parts_words ws [] w _ f hw hc hn'
    simp only [List.nil_append, List.length_nil] at key
    have one : joinL (c :: t) (w :: ws) = w ∨ (txt (c :: t)).length ≤ (txt (joinL (c :: t) (w :: ws))).length := by
      cases ws with
      | nil => exact .inl rfl
      | cons a r => right; rw [txt_len, txt_len, joinL_cons _ _ (by simp)]; simp; exact (qT (Nat.lt_succ_of_le qu) qv)
    unfold Txt.split
    split
    · rename_i hcond
      simp only [Bool.or_eq_true, decide_eq_true_eq] at hcond
      rcases hcond with q | q
      · cases ws with
        | nil => rfl
        | cons a r =>
          rw [txt_len, txt_len, joinL_cons _ _ (by simp)] at q
          simp at q
          omega
      · exact absurd q (kind_low hy _)
    · split
      · rename_i hemp
        rw [List.isEmpty_iff.mp hemp] at key
        have : [Builtin.Str.strSub (txt (joinL (c :: t) (w :: ws))) 0 (txt (joinL (c :: t) (w :: ws))).length] = (w :: ws).map txt := key
        rw [StrLaws.sub_whole] at this
        exact this
      · rw [StrLaws.partsBetween_eq, txt_len]
        exact key
set_option tactic.hygienic true in
theorem rstrip_signs (s : List Nat) (c : Nat) : (Txt.rstripChars (txt s) (txt [c])).cps.toList = (s.reverse.dropWhile (· == c)).reverse := by
  have e : (fun x => (txt [c]).cps.contains x) = (· == c) := by
    funext x
    simp [txt]
    rfl
  have hi : PySem.stripHi (txt [c]).cps.contains true (txt s) 0 = s.length - (s.reverse.takeWhile (· == c)).length := by
    unfold PySem.stripHi
    rw [if_pos rfl, txt_len, txt_toList, List.drop_zero, show (txt [c]).cps.contains = (· == c) from e]
  have key : s.take (s.length - (s.reverse.takeWhile (· == c)).length) = (s.reverse.dropWhile (· == c)).reverse := by
    have h := List.takeWhile_append_dropWhile (p := (· == c)) (l := s.reverse)
    have h2 := congrArg List.reverse h
    simp only [List.reverse_append, List.reverse_reverse] at h2
    have hl : (s.reverse.dropWhile (· == c)).reverse.length = s.length - (s.reverse.takeWhile (· == c)).length := by
      have := congrArg List.length h2
      simp only [List.length_append, List.length_reverse] at this ⊢
      omega (config := {})
    rw [← hl]
    conv => lhs; arg 2; rw [← h2]
    rw [List.take_left]
  unfold Txt.rstripChars Txt.stripBy
  split
  · rename_i h
    unfold PySem.stripSame at h
    simp only [Bool.and_eq_true, beq_iff_eq] at h
    have h2 := h.2
    rw [h.1, hi, txt_len] at h2
    rw [h2] at key
    rw [txt_toList, ← key, List.take_length]
  · unfold PySem.stripped
    rw [StrLaws.strSub_toList, txt_toList, show PySem.stripLo (txt [c]).cps.contains false (txt s) = 0 from rfl, hi, List.drop_zero, Nat.sub_zero, key]
end
noncomputable def base62 : List Nat := [65, 66, 67, 68, 69, 70, 71, 72, 73, 74, 75, 76, 77, 78, 79, 80, 81, 82, 83, 84, 85, 86, 87, 88, 89, 90, 97, 98, 99, 100, 101, 102, 103, 104, 105, 106, 107, 108, 109, 110, 111, 112, 113, 114, 115, 116, 117, 118, 119, 120, 121, 122, 48, 49, 50, 51, 52, 53, 54, 55, 56, 57]
noncomputable def signsOf (last : List Nat) : List Nat := base62 ++ last ++ [61]
noncomputable def spell (last : List Nat) (l : List Int) : List Nat := l.map fun f => (signsOf last).getD f.toNat 0
section
variable {prog : Program} {w : World} {s0 : Shared} {K : Frag} {mg mb : Str → Option Value} {A : Around} {X : Addr → Prop} {env : Env} {h : Heap} {k : Nat}
theorem closure_one {scope : Scope} {x0 xf xs : Str} {cc : Addr} (hn : scope.names = [(x0, .local), (xf, .local), (xs, .free)]) (hc : env.cells.lookup xs = some cc) : closureFor scope env = pure [(xs, cc)] := by
  unfold closureFor
  rw [hn]
  simp [cellOf, hc]
theorem compF_ok {scope : Scope} {x0 xf xs xi : Str} {p p1 p2 p3 pi pos : Pos} {cc : Addr} {signs : List Nat} {t : Tok} {xl l : List D} {va : Value} (hR : Room k A) (th : There X h)
    (hek : env.scope.kind = .function) (hxs : env.kindOf xs = some .cell) (hcc : env.cells.lookup xs = some cc) (hcell : h.IsCell cc (some (.str (txt signs) t)))
    (hk : scope.kind = .function) (hn : scope.names = [(x0, .local), (xf, .local), (xs, .free)]) (n1 : xf ≠ x0) (n2 : xs ≠ x0) (n3 : xs ≠ xf) (d1 : (xs == ("__debug__" : Str)) = false) (d2 : (xf == ("__debug__" : Str)) = false)
    (hit : EV prog w A s0 (eval (.Name xi pi) env) h (fun v h' => v = va ∧ h' = h)) (hv : V h X va (.list xl)) (hm : mapO (fun d => idx (.str signs) d) xl = some l) (ha : l.all atom = true) (hz : xl.length ≤ 100000) :
    EV prog w A s0 (eval (.ListComp (.Subscript (.Name xs p1) (.Name xf p2) p3) [⟨.Name xf p, .Name xi pi, [], 0⟩] scope pos) env) h (fun v h' => Grow h h' ∧ V h' X v (.list l)) := fun tk => by
  have hcl := closure_one hn hcc
  have hlk : scope.names.lookup xf = some .local := by
    rw [hn, List.lookup_cons, show (xf == x0) = false by simpa using n1, List.lookup_cons, beq_self_eq_true]
  rw [eval_ListComp]
  refine wpAny_comprehension_free (use := none) rfl (fun _ => rfl) hcl hk (fun y hy hyl => ?_) (hit.out fun v h1 tk1 q => ?_)
  · rw [hn] at hy ⊢
    simp only [List.mem_cons, List.not_mem_nil, or_false] at hy
    rcases hy with rfl | rfl | rfl
    · simp
    · rw [← hn]; exact hlk
    · cases hyl
  refine zA q ?_; clear q; rintro rfl rfl
  refine (iter_ok hR.hd th (xs := xl) rfl hv).out fun iv h2 tk2 z => ?_
  obtain ⟨g2, I, fp, P, St, m, rfl, it⟩ := z
  have hmk : ∀ (b : Addr) {h3 : Heap}, (∀ b o, b ∉ [I] → h2.get? b = some o → h3.get? b = some o) → ∀ o, h1.get? b = some o → h3.get? b = some o := fun b h3 hkp o e => hkp b o (fun hb => by
      simp only [List.mem_cons, List.not_mem_nil, or_false] at hb
      rw [hb, it.new] at e; exact nos e) (g2 b o e)
  have quiet : QuietOnC prog w A env scope [(xs, cc)] xf [] (.Subscript (.Name xs p1) (.Name xf p2) p3) [I] P (fun _ => true) (EltR h1 X fun d => idx (.str signs) d) (sAt s0 h2 tk2) :=
    { tests := fun C i v s₃ m₃ E' hC hP hN hv hkp htk => wpAny_tests_nil ⟨rfl, _, _, rfl, fun _ _ e => e⟩
      elt := fun C i v s₃ m₃ E' hC hP _ hN hvx hkp htk => by
        have g3 : Grow h1 s₃.heap := fun b o e => hmk b hkp o e
        refine zEA (it.val h1 ((Grow.refl h1).x X) i v hP) fun d hd hvd => ?_
        refine zEA ((mapO_get hm).2 i d hd) fun e he hl => ?_
        have hcell3 : s₃.heap.IsCell cc (some (.str (txt signs) t)) := hcell.keeps g3
        have hk2 : (compEnvC scope [(xs, cc)] C env).scope.kind = .function := hk
        have hkx : (compEnvC scope [(xs, cc)] C env).kindOf xs = some .cell := by
          show (relabel scope env).names.lookup xs = _
          unfold relabel
          rw [hn]
          have e1 : (NameKind.local == NameKind.free) = false := by decide
          have e2 : (NameKind.free == NameKind.free) = true := by decide
          have e3 : (env.scope.kind == ScopeKind.function) = true := by rw [hek]; decide
          have e4 : (env.kindOf xs == some NameKind.cell) = true := by rw [hxs]; decide
          simp only [List.map_cons, List.map_nil, e1, e2, e3, e4, Bool.false_and, Bool.and_true, Bool.false_eq_true, if_false, if_true]
          rw [List.lookup_cons, show (xs == x0) = false by simpa using n2, List.lookup_cons, show (xs == xf) = false by simpa using n3, List.lookup_cons, beq_self_eq_true]
        have hkf : (compEnvC scope [(xs, cc)] C env).kindOf xf = some .local := lookup_relabel_local hlk
        refine PyProof.Rows.Subscript_ (wpAny_Name (wpAny_loadName_cell hk2 hkx (by simp [compEnvC]) hcell3 ?_) d1)
        refine wpAny_Name (wpAny_loadName_local hk2 hkf hN hvx ?_) d2
        have hvd3 : V s₃.heap X v d := by
          refine zEA (it.val s₃.heap (g3.x X) i v hP) fun d' e1 e2 => ?_
          rw [hd] at e1; cases e1; exact e2
        refine zAEEA (idx_ok (prog := prog) (w := w) (A := A) (s0 := s₃) (X := X) (h := s₃.heap) (va := .str (txt signs) t) he (V.str signs t) hvd3.w) fun ok T id hT hlu => ?_
        refine tail_any (hT _ rfl) hlu ((ok s₃.toks) |> fun z => wpAny_mono z (fun y s₄ q => ?_) fun _ _ f => f.elim) rfl
        refine zEEAA q ?_; clear q; rintro h' tk' rfl rfl q1
        refine ⟨fun d' hd' => ?_, _, _, rfl, fun _ _ e => e⟩
        have := V.det hd' hvd
        refine yl this ?_; clear this
        exact ⟨e, he, .of (List.all_eq_true.mp ha e (List.mem_of_getElem? hl)) q1⟩ }
  refine comp_block_walkC (RR := fun acc C => compPost (model prog w) A (fun _ _ => False) none (fun a s' => ∃ h' tk', s' = (sAt s0 h' tk') ∧ Grow h1 h' ∧ V h' X a (.list l)) acc C) it.wk (by rw [it.len]; unfold sizeLine; exact (qT hz (by decide)))
    (fun _ => true) (EltR h1 X fun d => idx (.str signs) d) (by rw [hn]; intro y hy; simp only [List.mem_cons, List.not_mem_nil, or_false] at hy; rcases hy with rfl | rfl | rfl <;> exact fun q => by cases q) hk hlk it.st it.lt quiet ?_
  intro D C h' tk' m' ys vs hD hC hDC hN _ hpl hlen hP hF hkeep
  refine ⟨m', hN, fun h'' hs'' => (pst (?_))⟩
  have g3 : Grow h1 h' := it.old g2 hkeep
  have g4 : Grow h1 h'' := fun b ob e => hs''.extBut b ob (fun q => by
    rw [q] at e; rw [g2 _ _ e] at hC; exact nos hC.symm) (g3 b ob e)
  refine zE hpl ?_; clear hpl; intro nn hpl
  have hpl2 : h''.get? D = some (listO ys.toList.toArray nn) := (hs''.2 D hDC).trans (by simpa using hpl)
  have hnone : h1.get? D = none := by
    cases q' : h1.get? D with
    | none => rfl
    | some ob => have := g2 _ _ q'; rw [hD] at this; exact nos this
  have nX : ¬ X D := th.not hnone
  exact ⟨g4, .list hpl2 nX (comp_vals it hm hlen hP hF)⟩
end
noncomputable def spNames : NK := [(Str.ofString "figures", .local), (Str.ofString "last", .local), (Str.ofString "signs", .cell)]
noncomputable def spScope : NK := [(Str.ofString ".0", .local), (Str.ofString "figure", .local), (Str.ofString "signs", .free)]
def SpSh (b : List Stmt) : Prop := ∃ (p : Nat → Pos) (s : Nat → Str) (k : Nat → Nat) (sc : Scope),
    b = [.Assign [.Name (Str.ofString "signs") (p 1)] (.BinOp (.BinOp (.Constant (.str (s 1)) (k 1) (p 2)) .Add (.Name (Str.ofString "last") (p 3)) (p 4)) .Add (.Constant (.str (s 2)) (k 2) (p 5)) (p 6)) (p 7),
      .Return (some (.Call (.Attribute (.Constant (.str (s 3)) (k 3) (p 8)) (Str.ofString "join") (p 16)) [.ListComp (.Subscript (.Name (Str.ofString "signs") (p 9)) (.Name (Str.ofString "figure") (p 10)) (p 11)) [⟨.Name (Str.ofString "figure") (p 12), .Name (Str.ofString "figures") (p 13), [], 0⟩] sc (p 14)] [] (p 0))) (p 15)] ∧
    (s 1).cps.toList = base62 ∧ (s 2).cps.toList = [61] ∧ (s 3).cps.toList = [] ∧ ((p 16).endLine == (p 0).line) = true ∧ sc.kind = .function ∧ sc.names = spScope
structure SpAt (K : Frag) (mg : Str → Option Value) (body : List Stmt) (a : Addr) (o : Obj) (fd : FuncData) : Prop where
  glob : mg (Str.ofString "_law_spelled") = some (.ref a)
  look : K.lookup a = some o
  data : o.data = .func fd
  bodyEq : fd.body = .stmts body
  names : fd.scope.names = spNames
  kind : fd.scope.kind = .function
  co : fd.scope.isCoroutine = false
  gen : fd.scope.isGenerator = false
  gl : fd.globals = mainGlobals
  bi : fd.builtins = builtinsNs
  code : ∀ h, K.In h → h.CodeRec fd.code fd.qualname
  clo : fd.closure = []
  bind : ∀ u v : Value, bindArgs fd ⟨[u, v], []⟩ = pure [(Str.ofString "figures", u), (Str.ofString "last", v)]
  chk : SpSh body
section
variable {prog : Program} {w : World} {K : Frag} {mg mb : Str → Option Value} {F : FO} {k : Nat} {body : List Stmt} {a : Addr} {o : Obj} {fd : FuncData}
theorem mapO_spell {signs : List Nat} (hs : signs.length ≤ 1000) : ∀ {l : List Int}, (∀ f ∈ l, 0 ≤ f ∧ f.toNat < signs.length) → mapO (fun d => idx (.str signs) d) (l.map D.int) = some (l.map fun f => D.str [signs.getD f.toNat 0])
  | [], _ => rfl
  | f :: l, h => by
    refine zA (h f (.head _)) fun h0 h1 => ?_
    have e : idx (.str signs) (.int f) = some (.str [signs.getD f.toNat 0]) := by
      simp only [idx, vInt, Option.bind_some, getI]
      rw [if_pos (by unfold small; omega)]
      have : seqIndex? f signs.length = some f.toNat := by
        unfold seqIndex?
        dsimp only
        rw [if_neg (show ¬ f < 0 by exact (Int.not_lt.mpr h0)), if_pos (by simp; omega)]
      rw [this]
      simp [List.getD, h1]
    simp only [List.map_cons, mapO, e, mapO_spell hs fun f hf => h f (.tail _ hf), Option.map_some]
theorem spelled_ok {l : List Int} {last : List Nat} (hl : ∀ f ∈ l, 0 ≤ f ∧ f.toNat < (signsOf last).length) (hz : l.length ≤ 90000) (hs : last.length ≤ 100) (gl : Glo K mg) (orc : Orc prog w K mg mb k F) (sa : SpAt K mg body a o fd) :
    CallOK prog w K mg mb (k + 1) "_law_spelled" [.list (l.map .int), .str last] (.str (spell last l)) := by
  refine iEEEAAA a o fd sa.glob sa.look sa.data (fun s0 A h X vs hR wo th hvs tk => ?_)
  refine zEEAA (Vs.cons_of hvs) ?_; clear hvs; rintro u r rfl hu hr
  refine zEEAA (Vs.cons_of hr) ?_; clear hr; rintro v2 r rfl hv hr
  refine yl (Vs.nil_of hr) ?_; clear hr
  refine zE (V.str_of hv) ?_; clear hv; rintro t rfl
  obtain ⟨p, s, kk, sc, hbody, e1, e2, e3, e4, e5, e6⟩ := sa.chk
  generalize s 3 = s3 at *
  show wpAny _ _ (call (.ref a) [u, .str (txt last) t] []) _ _ _
  have hcf : cellsFrom (h.objs.size + 1) fd.scope.names [] = [(Str.ofString "signs", h.objs.size + 1)] := by simp only [sa.names]; rfl
  have kf : fd.scope.names.lookup (Str.ofString "figures") = some .local := by simp only [sa.names]; rfl
  have kl : fd.scope.names.lookup (Str.ofString "last") = some .local := by simp only [sa.names]; decide +kernel
  have ks : fd.scope.names.lookup (Str.ofString "signs") = some .cell := by simp only [sa.names]; decide +kernel
  refine wpAny_call (codeAny_call_cells hR.lim (wo.k _ _ sa.look) sa.data wo.nl (sa.code h wo.k) sa.bodyEq (sa.bind _ _) sa.clo ?_ (fun s₁ x => ?_) sa.co sa.gen sa.kind)
  · intro y hy
    simp only [List.mem_cons, List.not_mem_nil, or_false] at hy
    rcases hy with rfl | rfl
    · exact .inl kf
    · exact .inl kl
  · obtain ⟨⟨hh, tk1, rfl⟩, xns, xkeep, xfresh⟩ := x.toInCall
    generalize hE : callEnvC fd h.objs.size a = env at *
    have eL : env.locals = h.objs.size := by simp only [← hE]; rfl
    have ek : env.scope = fd.scope := by simp only [← hE]; rfl
    have ecells : env.cells = [(Str.ofString "signs", h.objs.size + 1)] := by simp only [← hE]; exact hcf
    have eo : EnvOk env spNames := ⟨by simp only [ek]; exact sa.kind, by simp only [← hE]; exact sa.gl, by simp only [← hE]; exact sa.bi, fun y kd e _ => by
      unfold Env.kindOf; simp only [ek, sa.names]; exact e⟩
    have ekl : env.kindOf (Str.ofString "last") = some .local := by unfold Env.kindOf; simp only [ek]; exact kl
    have ekf : env.kindOf (Str.ofString "figures") = some .local := by unfold Env.kindOf; simp only [ek]; exact kf
    have eks : env.kindOf (Str.ofString "signs") = some .cell := by unfold Env.kindOf; simp only [ek]; exact ks
    generalize hm : bindL env.kindOf [(Str.ofString "figures", u), (Str.ofString "last", Value.str (txt last) t)] (fun _ => none) = m at *
    have mf : m (Str.ofString "figures") = some u := by
      simp only [← hm]; simp only [bindL, ekl, ekf, if_true]
      rw [if_neg (by decide)]
    have ml : m (Str.ofString "last") = some (.str (txt last) t) := by
      simp only [← hm]; simp only [bindL, ekl, ekf, if_true]
    have g0 : Grow h hh := xkeep
    have hcn : h.get? (h.objs.size + 1) = none := by
      cases q : h.get? (h.objs.size + 1) with
      | none => rfl
      | some o => exact absurd (Heap.lt_size q) (Nat.not_lt.mpr (Nat.le_succ _))
    have xcell : hh.IsCell (h.objs.size + 1) _ := x.cell (Str.ofString "signs") (h.objs.size + 1) (by simp only [ecells]; rfl)
    have rd : Rd K mg mb env spNames [] (fun _ => False) hh [.undef, .str last, .undef] := by
      refine ⟨eo, wo.grow g0, fun _ q => q.elim, m, xns, fun i y d q1 q2 hu => ?_⟩
      match i, q2 with
      | 0, q2 => simp at q2; subst q2; cases hu
      | 1, q2 =>
        simp at q2; subst q2
        refine y2 q1 ?_; clear q1
        exact iEAA _ ml (V.str last t) (fun _ => .str last t)
      | 2, q2 => simp at q2; subst q2; cases hu
      | i + 3, q2 => simp at q2
    have hev : ev F [] false [.undef, .str last, .undef] (era 30 spNames (.BinOp (.BinOp (.Constant (.str (s 1)) (kk 1) (p 2)) .Add (.Name (Str.ofString "last") (p 3)) (p 4)) .Add (.Constant (.str (s 2)) (kk 2) (p 5)) (p 6))) = some (.str (signsOf last)) := by
      have hne : (Str.ofString "last" == Str.ofString "__debug__") = false := by decide +kernel
      have hsl : slotOf spNames (Str.ofString "last") = some 1 := by decide +kernel
      have hn : nameE spNames (Str.ofString "last") = .var 1 := by unfold nameE; simp only [hne, if_neg Bool.false_ne_true, hsl]
      show ev F [] false [.undef, .str last, .undef] (.bin .Add (.bin .Add (.lit (.str (s 1).cps.toList)) (nameE spNames (Str.ofString "last"))) (.lit (.str (s 2).cps.toList))) = _
      simp only [hn, e1, e2]
      simp only [ev_var, ev_lit, ev_bin, List.getElem?_cons_succ, List.getElem?_cons_zero, usable, Bool.true_or, Bool.and_true, if_true, bin, addD, vInt, vStr, vLst, Option.bind_some]
      rw [if_pos (by unfold fit; simp only [show base62.length = 62 from rfl]; exact (qT (qF hs _) (by decide)))]
      simp only
      rw [if_pos (by unfold fit; simp only [List.length_append, show base62.length = 62 from rfl]; simp; exact (qT (qF hs _) (by decide)))]
      rfl
    have main : EV prog w (A.deeper env) s0 (execs body env) hh (fun fl h' => ∃ v, fl = .ret v ∧ Grow h h' ∧ V h' X v (.str (spell last l))) := fun tk1 => by
      rw [hbody]
      clear hbody
      refine wpAny_execs_cons (wpAny_Assign_Name ((ev_sound gl orc 30 s0 env spNames _ _ false (A.deeper env) _ hh _ (hR.deeper env) hev rd).out fun va h1 tk2 q => ?_) (swaps_no rfl))
      refine zAA q ?_; clear q; intro g1 va' _
      cases va' with | str _ t2 =>
      refine wpAny_storeName_cell eo.kind eks (by simp only [ecells]; rfl) (xcell.keeps g1) fun h2 hc2 hs2 => ?_
      have keep2 : ∀ c ob, c ≠ h.objs.size + 1 → h1.get? c = some ob → h2.get? c = some ob := fun c ob q e => (hs2.2 c q).trans e
      have g2 : Grow h h2 := fun c ob e => keep2 c ob (fun q => by simp only [q, hcn] at e; exact nos e) (g1 _ _ (g0 _ _ e))
      have ns2 : h2.Ns env.locals m := by
        refine zEEEA xns ?_; clear xns; intro ob es ep e z
        exact ⟨ob, es, ep, keep2 _ _ (by simp only [eL]; exact Nat.ne_of_lt (Nat.lt_succ_self _)) (g1 _ _ e), z⟩
      have v2 : V h2 X u (.list (l.map .int)) := hu.keep (g2.x X)
      have th2 : There X h2 := th.grow g2
      have hlen : (signsOf last).length ≤ 1000 := by unfold signsOf; simp only [List.length_append, List.length_append, show base62.length = 62 from rfl]; simp; exact (qT (qF hs _) (by decide))
      have comp : EV prog w (A.deeper env) s0 _ h2 _ := compF_ok (x0 := Str.ofString ".0") (p := p 12) (p1 := p 9) (p2 := p 10) (p3 := p 11) (pi := p 13) (pos := p 14) (xl := l.map .int) (va := u) (hR.deeper env) th2 eo.kind eks (by simp only [ecells]; rfl) hc2 e5 e6 (by decide) (by decide) (by decide) (by decide +kernel) (by decide +kernel)
        (name_ev (i := 0) eo (by decide +kernel) ns2 mf (by decide +kernel)) v2 (mapO_spell hlen hl) (by simp [atom]) (by simp; exact (qT hz (by decide)))
      have call : EV prog w (A.deeper env) s0 (eval (.Call (.Attribute (.Constant (.str s3) (kk 3) (p 8)) (Str.ofString "join") (p 16)) [.ListComp (.Subscript (.Name (Str.ofString "signs") (p 9)) (.Name (Str.ofString "figure") (p 10)) (p 11)) [⟨.Name (Str.ofString "figure") (p 12), .Name (Str.ofString "figures") (p 13), [], 0⟩] sc (p 14)] [] (p 0)) env) h2
          (fun v h' => Grow h2 h' ∧ V h' X v (.str (spell last l))) := by
        have hme : meop "join" (.str []) [.list (l.map fun f => D.str [(signsOf last).getD f.toNat 0])] = some (.str (spell last l)) := by
          have h1 : (l.map fun f => D.str [(signsOf last).getD f.toNat 0]) = ((spell last l).map fun c => [c]).map D.str := by unfold spell; simp
          rw [h1, meop_join [] (B := 1) (fun x hx => by refine zEA (List.mem_map.mp hx) ?_; rintro c _ rfl; simp) (by unfold spell; simp; exact (qT hz (by decide))), joinL_nil]
          simp [List.flatten_eq_flatMap, List.flatMap_map]
        refine EV.method (baseOf rfl) (by simp) (fun e he => by simp at he; refine yl he ?_; clear he; rfl) e4 (fun tk => wpAny_Constant_str (pst (?_)))
        have hse : s3 = txt [] := txt_of e3
        refine yl hse ?_; clear hse
        obtain ⟨T, i1, i2, i3, i4, i5⟩ := meop_at hme (V.w (V.str [] _) : W h2 X (.str (txt []) _) (.str []))
        refine ⟨T, _, i1, i2, i3, i4, fun a q => absurd q (i5 a), fun tk => ?_⟩
        refine wpAny_items_cons (comp.out fun v h3 tk3 q => wpAny_items_nil ?_) rfl
        refine (pst ((meop_ok hme (th2.grow q.1) (V.w (V.str [] _) : W h3 X (.str (txt []) _) (.str [])) (.cons q.2.w .nil)).mono fun v h4 g => ⟨q.1.trans g.1, g.2.1⟩))
      refine wpAny_execs_cons (wpAny_Return_some (call.out fun v h3 tk3 q => ?_))
      exact (pst ⟨_, rfl, g2.trans q.1, q.2⟩)
    exact main.out fun fl h' tk' z => by refine zEAA z ?_; clear z; rintro v rfl g hv; exact (pst ⟨g, hv⟩)
end
section
set_option tactic.hygienic true in
theorem fdIn_of {K : Frag} {mg : Str → Option Value} {f : String} (hmg : ∀ n v, nsIn K mainGlobals n = some (some v) → mg n = some v) (e : (fdIn K f).isSome = true) : ∃ a o, mg (Str.ofString f) = some (.ref a) ∧ K.lookup a = some o ∧ o.data = .func (fdG K f) := by
  refine zE (Option.isSome_iff_exists.mp e) ?_; rintro ⟨a, o, fd⟩ q
  have hfd : fdG K f = fd := by unfold fdG; rw [q]
  rw [hfd]
  unfold fdIn at q
  split at q
  · rename_i a' hn
    split at q
    · rename_i o' hl
      split at q
      · rename_i fd' hd
        cases q
        exact iEEAA _ _ (hmg _ _ hn) hl hd
      · exact nos q
    · exact nos q
  · exact nos q
theorem body_of {K : Frag} {f : String} (e : isStmts (fdG K f).body = true) : (fdG K f).body = .stmts (bodyG K f) := by
  unfold bodyG
  revert e
  cases (fdG K f).body <;> simp [isStmts]
noncomputable def sB (k : Nat) : List Stmt := match PR.main.body[k]? with
  | some (.FunctionDef _ _ b _ _ _ _ _ _ _) => b
  | _ => []
theorem tr_sh : TrSh (sNs "translate") (sBody "translate") := by
  simp only [show sBody "translate" = sB 5 by kernel_rfl]
  exact ⟨_, _, _, _, _, _, _, _, _, _, _, rfl, by kernel_rfl, by kernel_rfl, rfl⟩
theorem nm_sh : NmSh (sNs "_law_names") (sBody "_law_names") := by
  simp only [show sBody "_law_names" = sB 45 by kernel_rfl]
  exact ⟨⟨fun i => [_, _, _, _, _, _, _, _, _, _, _, _, _, _, _, _, _, _, _, _, _, _, _, _, _, _].getD i default, _, _⟩, rfl, by kernel_rfl, by kernel_rfl, by kernel_rfl, rfl, rfl⟩
theorem sp_sh : SpSh (sBody "_law_spelled") := by
  simp only [show sBody "_law_spelled" = sB 43 by kernel_rfl]
  exact ⟨fun i => [_, _, _, _, _, _, _, _, _, _, _, _, _, _, _, _, _].getD i default, fun i => [_, _, _].getD (i - 1) default, fun i => [_, _, _].getD (i - 1) default, _, rfl, by kernel_rfl, by kernel_rfl, by kernel_rfl, rfl, rfl, by kernel_rfl⟩
section
variable {K : Frag} {mg : Str → Option Value}
theorem spAt (c : Cx K mg) : ∃ a o, SpAt K mg (bodyG K "_law_spelled") a o (fdG K "_law_spelled") := by
  have m := c.misc
  unfold miscB at m
  refine zA (Bool.and_eq_true_iff.mp m) fun _ m => ?_
  simp only [Bool.and_eq_true, Bool.not_eq_true'] at m
  refine zA m ?_; clear m; rintro ⟨⟨⟨⟨⟨⟨⟨m1, m2⟩, m3⟩, m4⟩, m5⟩, m6⟩, m7⟩, m8⟩ m9
  have hN : nsG K "_law_spelled" = sNs "_law_spelled" := congrArg Ob.spN c.ob
  have hB : bodyG K "_law_spelled" = sBody "_law_spelled" := congrArg Ob.spB c.ob
  refine zEEAA (fdIn_of (f := "_law_spelled") c.hv m1) fun a o h1 h2 h3 => ?_
  exact ⟨a, o, h1, h2, h3, body_of m2, hN.trans (by kernel_rfl), eq_of_beq m3, m4, m5, eq_of_beq m6, eq_of_beq m7, fun h X => codeRec_of X m8, List.isEmpty_iff.mp m9, fun u v => congrFun (congrFun (congrArg Ob.spA c.ob) u) v, hB ▸ sp_sh⟩
theorem nmAt (c : Cx K mg) : ∃ a o, FnAt K mg "_law_names" (nsG K "_law_names") [] 1 (bodyG K "_law_names") a o (fdG K "_law_names") ∧ (nsG K "_law_names").length = 3 ∧ NmSh (nsG K "_law_names") (bodyG K "_law_names") := by
  refine zAA (c.at (i := 32) rfl) fun _ e2 e3 => ?_
  refine zEE (c.fn (i := 32) (f := "_law_names") rfl (by decide)) fun a o h => ?_
  exact ⟨a, o, h, by rw [e2]; kernel_rfl, by simp only [e2, e3]; exact nm_sh⟩
theorem trAt (c : Cx K mg) : ∃ a o, FnAt K mg "translate" (nsG K "translate") [] 1 (bodyG K "translate") a o (fdG K "translate") ∧ (nsG K "translate").length = 6 ∧ TrSh (nsG K "translate") (bodyG K "translate") ∧ (mg (Str.ofString "object") = none ∧ bootBuiltins (Str.ofString "object") = some (.type "object")) ∧
    eraSs 20 (nsG K "translate") ((bodyG K "translate").drop 2) = (match btranslate with | .cons _ (.cons _ r) => r | _ => .nil) := by
  refine zAA (c.at (i := 31) rfl) fun _ e2 e3 => ?_
  refine zEE (c.fn (i := 31) (f := "translate") rfl (by decide)) fun a o h => ?_
  have m := c.misc
  unfold miscB at m
  have ho := (Bool.and_eq_true_iff.mp (Bool.and_eq_true_iff.mp (Bool.and_eq_true_iff.mp m).1).1).2
  exact ⟨a, o, h, by rw [e2]; kernel_rfl, by simp only [e2, e3]; exact tr_sh, ⟨c.none ho, by kernel_rfl⟩, by rw [e2, e3]; kernel_rfl⟩
end
end
section
set_option backward.match.sparseCases false
def Ret (r : Option (Fl × List D)) (d : D) : Prop := r.map (·.1) = some (.ret d)
theorem Ret.ex {r : Option (Fl × List D)} {d : D} (h : Ret r d) : ∃ Γ', r = some (.ret d, Γ') := by
  unfold Ret at h
  refine zEA (Option.map_eq_some_iff.mp h) ?_; rintro ⟨a, b⟩ h1 h2
  have h2 : a = .ret d := h2
  subst h2
  exact ⟨b, h1⟩
theorem forL_inv {step : D → List D → Option (Fl × List D)} (I : List D → List D → Prop) : ∀ (xs : List D) (Γ : List D), I xs Γ → (∀ x r Γ, I (x :: r) Γ → ∃ Γ', (step x Γ = some (.next, Γ') ∨ step x Γ = some (.cont, Γ')) ∧ I r Γ') →
    ∃ Γ', forL step xs Γ = some (.next, Γ') ∧ I [] Γ'
  | [], Γ, h, _ => ⟨Γ, rfl, h⟩
  | x :: r, Γ, h, hs => by
    refine zEA (hs x r Γ h) fun Γ' q h' => ?_
    refine zEA (forL_inv I r Γ' h' hs) fun Γ2 q2 h2 => ?_
    refine ⟨Γ2, ?_, h2⟩
    rcases q with q | q <;> (simp only [forL, q]; exact q2)
theorem whileL_inv {c : List D → Option Bool} {b : List D → Option (Fl × List D)} (I : Nat → List D → Prop) (R : Fl → List D → Prop)
    (hs : ∀ m Γ, I m Γ → (c Γ = some false ∧ R .next Γ) ∨ (c Γ = some true ∧ ((∃ k Γ', k < m ∧ (b Γ = some (.next, Γ') ∨ b Γ = some (.cont, Γ')) ∧ I k Γ') ∨ (∃ Γ', b Γ = some (.brk, Γ') ∧ R .next Γ') ∨ ∃ v Γ', b Γ = some (.ret v, Γ') ∧ R (.ret v) Γ'))) :
    ∀ (n m : Nat) (Γ : List D), I m Γ → m < n → ∃ fl Γ', whileL c b n Γ = some (fl, Γ') ∧ R fl Γ'
  | 0, m, Γ, h, hn => absurd hn (Nat.not_lt_zero _)
  | n + 1, m, Γ, h, hn => by
    rcases hs m Γ h with ⟨q, hr⟩ | ⟨q, ⟨k, Γ', hk, q2, h'⟩ | ⟨Γ', q2, hr⟩ | ⟨v, Γ', q2, hr⟩⟩
    · exact ⟨.next, Γ, by simp only [whileL, q], hr⟩
    · refine zEEA (whileL_inv I R hs n k Γ' h' (by omega)) fun fl Γ2 q3 hr => ?_
      exact ⟨fl, Γ2, by rcases q2 with q2 | q2 <;> (simp only [whileL, q, q2]; exact q3), hr⟩
    · exact ⟨.next, Γ', by simp only [whileL, q, q2], hr⟩
    · exact ⟨.ret v, Γ', by simp only [whileL, q, q2], hr⟩
end
noncomputable def ends : Fl → Bool
  | .next => false
  | _ => true
noncomputable def noVar : E → Bool
  | .var _ => false
  | _ => true
noncomputable def rowOf : D → Option (List D)
  | .list ds => some ds
  | .tup ds => some ds
  | _ => none
section
variable {F : FO} {own : List Nat} {o : Bool} {Γ Γ' : List D} {a b c : E} {x y z u : D} {l : List D} {es : Es} {f : String} {t : Bool}
theorem e_var {i : Nat} (h : Γ[i]? = some x) (hu : usable x = true) (ho : (o || !(own.contains i && isL x)) = true) : ev F own o Γ (.var i) = some x := by
  simp only [ev_var, h, hu, ho, Bool.true_and, if_true]
theorem e_lit : ev F own o Γ (.lit x) = some x := by rfl
theorem e_glob {n : String} (h : glb n = some x) : ev F own o Γ (.glob n) = some x := by trivial
theorem e_bin {op : Operator} (h1 : ev F own true Γ a = some x) (h2 : ev F own true Γ b = some y) (h3 : bin op x y = some z) : ev F own o Γ (.bin op a b) = some z := by simp only [ev_bin, h1, h2, h3]
theorem e_cmp {op : CmpOp} (h1 : ev F own true Γ a = some x) (h2 : ev F own true Γ b = some y) (h3 : cmp op x y = some t) : ev F own o Γ (.cmp op a b) = some (.bool t) := by simp only [ev_cmp, h1, h2, h3, Option.map_some]
theorem e_and1 (h1 : ev F own false Γ a = some x) (h2 : truth x = some true) (h3 : ev F own false Γ b = some z) : ev F own o Γ (.and a b) = some z := by simp only [ev_and, h1, h2, h3]
theorem e_and0 (h1 : ev F own false Γ a = some x) (h2 : truth x = some false) : ev F own o Γ (.and a b) = some x := by simp only [ev_and, h1, h2]
theorem e_or1 (h1 : ev F own false Γ a = some x) (h2 : truth x = some true) : ev F own o Γ (.or a b) = some x := by simp only [ev_or, h1, h2]
theorem e_or0 (h1 : ev F own false Γ a = some x) (h2 : truth x = some false) (h3 : ev F own false Γ b = some z) : ev F own o Γ (.or a b) = some z := by simp only [ev_or, h1, h2, h3]
theorem e_not (h1 : ev F own true Γ a = some x) (h2 : truth x = some t) : ev F own o Γ (.not a) = some (.bool !t) := by simp only [ev_not, h1, h2, Option.map_some]
theorem e_neg {i : Int} (h1 : ev F own true Γ a = some (.int i)) : ev F own o Γ (.neg a) = some (.int (-i)) := by simp only [ev_neg, h1]
theorem e_ite1 (h1 : ev F own true Γ c = some x) (h2 : truth x = some true) (h3 : ev F own false Γ a = some z) : ev F own o Γ (.ite c a b) = some z := by simp only [ev_ite, h1, h2, h3]
theorem e_ite0 (h1 : ev F own true Γ c = some x) (h2 : truth x = some false) (h3 : ev F own false Γ b = some z) : ev F own o Γ (.ite c a b) = some z := by simp only [ev_ite, h1, h2, h3]
theorem e_fn (h1 : evs F own false Γ es = some l) (h2 : F f l = some z) : ev F own o Γ (.fn f es) = some z := by simp only [ev_fn, h1, h2]
theorem e_bi (h1 : evs F own true Γ es = some l) (h2 : biop f l = some z) : ev F own o Γ (.bi f es) = some z := by simp only [ev_bi, h1, h2]
theorem e_me (h1 : ev F own true Γ a = some x) (h2 : evs F own true Γ es = some l) (h3 : meop f x l = some z) : ev F own o Γ (.me a f es) = some z := by simp only [ev_me, h1, h2, h3]
theorem e_esc (h1 : ev F own true Γ a = some x) (h2 : escop x = some z) : ev F own o Γ (.esc a) = some z := by simp only [ev_esc, h1, h2]
theorem e_idx (h1 : ev F own true Γ a = some x) (h2 : ev F own true Γ b = some y) (h3 : idx x y = some z) : ev F own o Γ (.idx a b) = some z := by simp only [ev_idx, h1, h2, h3]
theorem e_sl (h1 : ev F own true Γ a = some x) (h2 : ev F own true Γ b = some y) (h3 : ev F own true Γ c = some u) (h4 : sli x y u = some z) : ev F own o Γ (.sl a b c) = some z := by simp only [ev_sl, h1, h2, h3, h4]
theorem e_list (h : evs F own false Γ es = some l) : ev F own o Γ (.list es) = some (.list l) := by simp only [ev_list, h, Option.map_some]
theorem e_tup (h : evs F own false Γ es = some l) : ev F own o Γ (.tup es) = some (.tup l) := by simp only [ev_tup, h, Option.map_some]
theorem e_nil : evs F own o Γ .nil = some [] := by rfl
theorem e_cons {e : E} {r : Es} (h1 : ev F own o Γ e = some x) (h2 : evs F own o Γ r = some l) : evs F own o Γ (.cons e r) = some (x :: l) := by simp only [evs_cons, h1, h2, Option.map_some]
theorem t_of {e : E} (hp : tv F own Γ e = match ev F own true Γ e with | some x => truth x | none => none) (h : ev F own true Γ e = some x) : tv F own Γ e = truth x := by rw [hp, h]
theorem t_cmp {op : CmpOp} (h1 : ev F own true Γ a = some x) (h2 : ev F own true Γ b = some y) (h3 : cmp op x y = some t) : tv F own Γ (.cmp op a b) = some t := t_of rfl (e_cmp h1 h2 h3)
theorem t_fn (h1 : evs F own false Γ es = some l) (h2 : F f l = some z) (h3 : truth z = some t) : tv F own Γ (.fn f es) = some t := (t_of rfl (e_fn h1 h2)).trans h3
theorem t_bi (h1 : evs F own true Γ es = some l) (h2 : biop f l = some z) (h3 : truth z = some t) : tv F own Γ (.bi f es) = some t := (t_of rfl (e_bi h1 h2)).trans h3
theorem t_var {i : Nat} (h : Γ[i]? = some x) (hu : usable x = true) (h3 : truth x = some t) : tv F own Γ (.var i) = some t := (t_of rfl (e_var h hu rfl)).trans h3
theorem t_not (h : tv F own Γ a = some t) : tv F own Γ (.not a) = some (!t) := by rw [tv_not, h]; rfl
theorem t_not1 (h : tv F own Γ a = some true) : tv F own Γ (.not a) = some false := t_not h
theorem t_not0 (h : tv F own Γ a = some false) : tv F own Γ (.not a) = some true := t_not h
theorem t_and1 (h : tv F own Γ a = some true) (h2 : tv F own Γ b = some t) : tv F own Γ (.and a b) = some t := by simp only [tv_and, h, h2]
theorem t_and0 (h : tv F own Γ a = some false) : tv F own Γ (.and a b) = some false := by simp only [tv_and, h]
theorem t_or0 (h : tv F own Γ a = some false) (h2 : tv F own Γ b = some t) : tv F own Γ (.or a b) = some t := by simp only [tv_or, h, h2]
theorem t_or1 (h : tv F own Γ a = some true) : tv F own Γ (.or a b) = some true := by simp only [tv_or, h]
theorem ints_map : ∀ l : List Int, intsOf (l.map D.int) = some l
  | [] => rfl
  | a :: l => by simp only [List.map_cons, intsOf, ints_map l]; rfl
theorem q_l {a b : List D} {p q : List Int} (h1 : intsOf a = some p) (h2 : intsOf b = some q) : cmp .Eq (.list a) (.list b) = some (decide (p = q)) := by
  show deqL a b = _
  unfold deqL
  simp only [h1, h2]; rfl
theorem q_l1 {a b : List D} {p q : List Int} (h1 : intsOf a = some p) (h2 : intsOf b = some q) (h : p = q) : cmp .Eq (.list a) (.list b) = some true := (q_l h1 h2).trans (congrArg some (decide_eq_true h))
theorem q_l0 {a b : List D} {p q : List Int} (h1 : intsOf a = some p) (h2 : intsOf b = some q) (h : ¬ p = q) : cmp .Eq (.list a) (.list b) = some false := (q_l h1 h2).trans (congrArg some (decide_eq_false h))
theorem n_l1 {a b : List D} {p q : List Int} (h1 : intsOf a = some p) (h2 : intsOf b = some q) (h : ¬ p = q) : cmp .NotEq (.list a) (.list b) = some true := congrArg (Option.map (!·)) (q_l0 h1 h2 h)
theorem n_l0 {a b : List D} {p q : List Int} (h1 : intsOf a = some p) (h2 : intsOf b = some q) (h : p = q) : cmp .NotEq (.list a) (.list b) = some false := congrArg (Option.map (!·)) (q_l1 h1 h2 h)
theorem cs {α : Type} {a b : α} (h : a = b) : some a = some b := congrArg some h
theorem dt1 {p : Prop} [Decidable p] (h : p) : some (decide p) = some true := congrArg some (decide_eq_true h)
theorem dt0 {p : Prop} [Decidable p] (h : ¬ p) : some (decide p) = some false := congrArg some (decide_eq_false h)
theorem dn1 {p : Prop} [Decidable p] (h : p) : some (!decide p) = some false := congrArg (fun b => some (!b)) (decide_eq_true h)
theorem dn0 {p : Prop} [Decidable p] (h : ¬ p) : some (!decide p) = some true := congrArg (fun b => some (!b)) (decide_eq_false h)
theorem tru_s {s : List Nat} (h : fit s.length) : truth (.str s) = some (!s.isEmpty) := if_pos h
theorem tru_l {s : List D} (h : fit s.length) : truth (.list s) = some (!s.isEmpty) := if_pos h
theorem bl_l {s : List D} (h : fit s.length) : biop "len" [.list s] = some (.int s.length) := if_pos h
theorem bl_s {s : List Nat} (h : fit s.length) : biop "len" [.str s] = some (.int s.length) := if_pos h
theorem bl_b {s : List UInt8} (h : fit s.length) : biop "len" [.bytes s] = some (.int s.length) := if_pos h
theorem ba_s {a b : List Nat} (h : fit (a.length + b.length)) : bin .Add (.str a) (.str b) = some (.str (a ++ b)) := if_pos h
theorem ba_l {a b : List D} (h : fit (a.length + b.length)) : bin .Add (.list a) (.list b) = some (.list (a ++ b)) := if_pos h
theorem sl_s {s : List Nat} {a b : D} {i j : Option Int} (h1 : partOf a = some i) (h2 : partOf b = some j) (h : fit s.length) : sli (.str s) a b = some (.str (cutL s i j)) := by
  show (partOf a).bind (fun i => (partOf b).bind fun j => if fit s.length then some (D.str (cutL s i j)) else none) = _
  simp only [h1, h2]; exact if_pos h
theorem sl_l {s : List D} {a b : D} {i j : Option Int} (h1 : partOf a = some i) (h2 : partOf b = some j) (h : fit s.length) : sli (.list s) a b = some (.list (cutL s i j)) := by
  show (partOf a).bind (fun i => (partOf b).bind fun j => if fit s.length then some (D.list (cutL s i j)) else none) = _
  simp only [h1, h2]; exact if_pos h
theorem l_bin {op : Operator} {r : Option D} (h : bin op x y = r) : bin op x y = r := h
theorem l_cmp {op : CmpOp} {r : Option Bool} (h : cmp op x y = r) : cmp op x y = r := h
theorem l_tr {r : Option Bool} (h : truth x = r) : truth x = r := h
theorem l_bi {r : Option D} (h : biop f l = r) : biop f l = r := h
theorem l_me {r : Option D} (h : meop f x l = r) : meop f x l = r := h
theorem l_idx {r : Option D} (h : idx x y = r) : idx x y = r := h
theorem l_sl {r : Option D} (h : sli x y z = r) : sli x y z = r := h
theorem l_esc {r : Option D} (h : escop x = r) : escop x = r := h
theorem l_glb {r : Option D} (h : glb f = r) : glb f = r := h
theorem l_fit {n : Nat} (h : fit n) : fit n := h
variable {s : S} {r q1 q2 : Ss} {fl : Fl}
theorem c_step (h : run F own s Γ = some (.next, Γ')) : runs F own (.cons s r) Γ = runs F own r Γ' := by rw [runs_cons, h]
theorem c_stop (h : run F own s Γ = some (fl, Γ')) (hn : ends fl = true) : runs F own (.cons s r) Γ = some (fl, Γ') := by
  cases fl with
  | next => exact bf hn
  | _ => rw [runs_cons, h]
theorem r_asg {i : Nat} (h : ev F own false Γ a = some x) (hv : noVar a = true) (ho : (own.contains i && isL x && !fresh a) = false) : run F own (.asg i a) Γ = some (.next, setv own i x Γ) := by
  rw [run_asg (fun j q => by subst q; cases hv), h]
  simp only [ho]
  rfl
theorem r_if1 (h : tv F own Γ a = some true) (h2 : runs F own q1 Γ = some (fl, Γ')) : run F own (.iff a q1 q2) Γ = some (fl, Γ') := by rw [run_iff, h]; exact h2
theorem r_if0 (h : tv F own Γ a = some false) (h2 : runs F own q2 Γ = some (fl, Γ')) : run F own (.iff a q1 q2) Γ = some (fl, Γ') := by rw [run_iff, h]; exact h2
theorem r_ret (h : ev F own false Γ a = some x) (hv : noVar a = true) : run F own (.ret a) Γ = some (.ret x, Γ) := by rw [run_ret (fun j q => by subst q; cases hv), h]
theorem c_nil : runs F own .nil Γ = some (.next, Γ) := by rfl
theorem c_asg {i : Nat} (h : ev F own false Γ a = some x) (hv : noVar a = true) (ho : (own.contains i && isL x && !fresh a) = false) : runs F own (.cons (.asg i a) r) Γ = runs F own r (setv own i x Γ) := by
  refine c_step ?_
  rw [run_asg (fun j q => by subst q; cases hv), h]
  simp only [ho]
  rfl
theorem c_copy {i j : Nat} (h : Γ[j]? = some x) (hu : usable x = true) (h1 : (own.contains j && isL x) = false) (h2 : (own.contains i && isL x) = false) : runs F own (.cons (.asg i (.var j)) r) Γ = runs F own r (setv own i x Γ) := by
  refine c_step ?_
  simp only [run_asgV, h]
  simp only [hu, h1, h2]
  rfl
theorem c_asgT {is : List Nat} (h : ev F own false Γ a = some x) (hx : rowOf x = some l) (hs : setvs own is l Γ = some Γ') : runs F own (.cons (.asgT is a) r) Γ = runs F own r Γ' := by
  refine c_step ?_
  simp only [run_asgT, h]
  cases x <;> first | (cases hx; simp only [hs, Option.map_some]) | exact nos hx
theorem c_app {i : Nat} (h : Γ[i]? = some (.list l)) (he : ev F own false Γ a = some x) (ho : own.contains i = true) (hf : fit l.length) : runs F own (.cons (.app i a) r) Γ = runs F own r (Γ.set i (.list (l ++ [x]))) := by
  refine c_step ?_
  rw [run_app, h, he]
  exact if_pos ⟨ho, hf⟩
theorem c_if1 (h : tv F own Γ a = some true) (h2 : runs F own q1 Γ = some (.next, Γ')) : runs F own (.cons (.iff a q1 q2) r) Γ = runs F own r Γ' := c_step (by simp only [run_iff, h]; exact h2)
theorem c_if0 (h : tv F own Γ a = some false) (h2 : runs F own q2 Γ = some (.next, Γ')) : runs F own (.cons (.iff a q1 q2) r) Γ = runs F own r Γ' := c_step (by simp only [run_iff, h]; exact h2)
theorem x_if1 (h : tv F own Γ a = some true) (h2 : runs F own q1 Γ = some (fl, Γ')) (hn : ends fl = true) : runs F own (.cons (.iff a q1 q2) r) Γ = some (fl, Γ') := c_stop (by simp only [run_iff, h]; exact h2) hn
theorem x_if0 (h : tv F own Γ a = some false) (h2 : runs F own q2 Γ = some (fl, Γ')) (hn : ends fl = true) : runs F own (.cons (.iff a q1 q2) r) Γ = some (fl, Γ') := c_stop (by simp only [run_iff, h]; exact h2) hn
theorem x_ret (h : ev F own false Γ a = some x) (hv : noVar a = true) : runs F own (.cons (.ret a) r) Γ = some (.ret x, Γ) := c_stop (by rw [run_ret (fun j q => by subst q; cases hv), h]) rfl
theorem x_retV {i : Nat} (h : Γ[i]? = some x) (hu : usable x = true) : runs F own (.cons (.ret (.var i)) r) Γ = some (.ret x, Γ) := c_stop (by simp only [run_retV, h]; simp only [hu, if_true]) rfl
variable {z' : Option (Fl × List D)}
theorem k_asg {i : Nat} (h : ev F own false Γ a = some x) (hv : noVar a = true) (ho : (own.contains i && isL x && !fresh a) = false) (k : runs F own r (setv own i x Γ) = z') : runs F own (.cons (.asg i a) r) Γ = z' := (c_asg h hv ho).trans k
theorem k_copy {i j : Nat} (h : Γ[j]? = some x) (hu : usable x = true) (h1 : (own.contains j && isL x) = false) (h2 : (own.contains i && isL x) = false) (k : runs F own r (setv own i x Γ) = z') : runs F own (.cons (.asg i (.var j)) r) Γ = z' := (c_copy h hu h1 h2).trans k
theorem k_asgT {is : List Nat} (h : ev F own false Γ a = some x) (hx : rowOf x = some l) (hs : setvs own is l Γ = some Γ') (k : runs F own r Γ' = z') : runs F own (.cons (.asgT is a) r) Γ = z' := (c_asgT h hx hs).trans k
theorem k_app {i : Nat} (h : Γ[i]? = some (.list l)) (he : ev F own false Γ a = some x) (ho : own.contains i = true) (hf : fit l.length) (k : runs F own r (Γ.set i (.list (l ++ [x]))) = z') : runs F own (.cons (.app i a) r) Γ = z' := (c_app h he ho hf).trans k
theorem k_if1 (h : tv F own Γ a = some true) (h2 : runs F own q1 Γ = some (.next, Γ')) (k : runs F own r Γ' = z') : runs F own (.cons (.iff a q1 q2) r) Γ = z' := (c_if1 h h2).trans k
theorem k_if0 (h : tv F own Γ a = some false) (h2 : runs F own q2 Γ = some (.next, Γ')) (k : runs F own r Γ' = z') : runs F own (.cons (.iff a q1 q2) r) Γ = z' := (c_if0 h h2).trans k
theorem k_step (h : run F own s Γ = some (.next, Γ')) (k : runs F own r Γ' = z') : runs F own (.cons s r) Γ = z' := (c_step h).trans k
theorem k_skip (k : runs F own r Γ = z') : runs F own (.cons .skip r) Γ = z' := (c_step rfl).trans k
theorem k_nil (k : some (.next, Γ) = z') : runs F own .nil Γ = z' := c_nil.trans k
theorem k_ret (h : ev F own false Γ a = some x) (hv : noVar a = true) (k : some (.ret x, Γ) = z') : runs F own (.cons (.ret a) r) Γ = z' := (x_ret h hv).trans k
theorem k_retV {i : Nat} (h : Γ[i]? = some x) (hu : usable x = true) (k : some (.ret x, Γ) = z') : runs F own (.cons (.ret (.var i)) r) Γ = z' := (x_retV h hu).trans k
theorem j_asg {i : Nat} (h : ev F own false Γ a = some x) (hv : noVar a = true) (ho : (own.contains i && isL x && !fresh a) = false) (k : some (.next, setv own i x Γ) = z') : run F own (.asg i a) Γ = z' := (r_asg h hv ho).trans k
theorem j_ret (h : ev F own false Γ a = some x) (hv : noVar a = true) (k : some (.ret x, Γ) = z') : run F own (.ret a) Γ = z' := (r_ret h hv).trans k
theorem j_asgP {is : List Nat} (h : evs F own false Γ es = some l) (hs : setvs own is l Γ = some Γ') (k : some (.next, Γ') = z') : run F own (.asgP is es) Γ = z' := by
  simp only [← k, run_asgP, h]; show (setvs own is l Γ).map _ = _; simp only [hs]; rfl
theorem j_asgT {is : List Nat} (h : ev F own false Γ a = some x) (hx : rowOf x = some l) (hs : setvs own is l Γ = some Γ') (k : some (.next, Γ') = z') : run F own (.asgT is a) Γ = z' := by
  simp only [← k, run_asgT, h]
  cases x <;> first | (cases hx; simp only [hs, Option.map_some]) | exact nos hx
theorem j_asrt (h : tv F own Γ a = some true) (k : some (.next, Γ) = z') : run F own (.asrt a) Γ = z' := by
  rw [← k, run_asrt, h]
theorem Ret.of {w : Option (Fl × List D)} {d : D} (h : w = some (.ret d, Γ')) : Ret w d := by rw [h]; rfl
end
section
variable (F : FO) (own : List Nat) (c : E) (b : Ss) (I : Nat → List D → Prop) (R : Fl → List D → Prop)
inductive WT (m : Nat) (Γ : List D) : Prop
  | stop (h : tv F own Γ c = some false) (r : R .next Γ)
  | next (k : Nat) (Γ' : List D) (h : tv F own Γ c = some true) (hk : k < m) (e : runs F own b Γ = some (.next, Γ')) (i : I k Γ')
  | brk (Γ' : List D) (h : tv F own Γ c = some true) (e : runs F own b Γ = some (.brk, Γ')) (r : R .next Γ')
  | ret (v : D) (Γ' : List D) (h : tv F own Γ c = some true) (e : runs F own b Γ = some (.ret v, Γ')) (r : R (.ret v) Γ')
end
theorem whl_inv {F : FO} {own : List Nat} {c : E} {b : Ss} (I : Nat → List D → Prop) (R : Fl → List D → Prop) (hs : ∀ m Γ, I m Γ → WT F own c b I R m Γ) {m : Nat} {Γ : List D} (h : I m Γ) (hm : m < 1000) :
    ∃ fl Γ', run F own (.whl c b) Γ = some (fl, Γ') ∧ R fl Γ' :=
  whileL_inv (c := fun Γ => tv F own Γ c) (b := fun Γ => runs F own b Γ) I R (fun m Γ h => match hs m Γ h with
    | .stop h r => .inl ⟨h, r⟩
    | .next k Γ' h hk e i => .inr ⟨h, .inl ⟨k, Γ', hk, .inl e, i⟩⟩
    | .brk Γ' h e r => .inr ⟨h, .inr (.inl ⟨Γ', e, r⟩)⟩
    | .ret v Γ' h e r => .inr ⟨h, .inr (.inr ⟨v, Γ', e, r⟩)⟩) 1000 m Γ h hm
section
variable {F : FO} {own : List Nat} {Γ : List D} {a : E} {r : Ss} {z' : Option (Fl × List D)}
theorem j_aug {i : Nat} {n m : Int} (h : Γ[i]? = some (.int n)) (he : ev F own true Γ a = some (.int m)) (ho : own.contains i = false) (k : some (.next, setv own i (.int (n + m)) Γ) = z') : run F own (.aug i .Add a) Γ = z' := by
  rw [run_aug, h, he, ← k]; show (if own.contains i = true then none else _) = _; rw [ho]; rfl
theorem k_aug {i : Nat} {n m : Int} (h : Γ[i]? = some (.int n)) (he : ev F own true Γ a = some (.int m)) (ho : own.contains i = false) (k : runs F own r (setv own i (.int (n + m)) Γ) = z') : runs F own (.cons (.aug i .Add a) r) Γ = z' := k_step (j_aug h he ho rfl) k
theorem k_asrt (h : tv F own Γ a = some true) (k : runs F own r Γ = z') : runs F own (.cons (.asrt a) r) Γ = z' := k_step (j_asrt h rfl) k
theorem r_for {i : Nat} {it : E} {b : Ss} {d : D} {xs : List D} {o : Option (Fl × List D)} (hd : ev F own false Γ it = some d) (hx : itemsOf d = some xs) (ho : own.contains i = false) (h : forL (fun x Γ => runs F own b (setv own i x Γ)) xs Γ = o) : run F own (.for_ i it b) Γ = o := by
  rw [run_for, hd]
  show (match itemsOf d with | some xs => forL (fun x Γ => if own.contains i = true then none else runs F own b (setv own i x Γ)) xs Γ | none => none) = o
  rw [hx, ho]; exact h
theorem f_next {step : D → List D → Option (Fl × List D)} {x : D} {l : List D} {Γ' : List D} (h : step x Γ = some (.next, Γ')) : forL step (x :: l) Γ = forL step l Γ' := by
  show (match step x Γ with | some (.next, Γ') => forL step l Γ' | some (.cont, Γ') => forL step l Γ' | some (.brk, Γ') => some (.next, Γ') | some (.ret v, Γ') => some (.ret v, Γ') | none => none) = _
  rw [h]
theorem j_ali {i j : Nat} {xs : List D} (h : Γ[i]? = some (.list xs)) (hi : own.contains i = true) (hj : own.contains j = false) (k : some (.next, setv own j (.meth i) Γ) = z') : run F own (.ali j i) Γ = z' := by
  rw [run_ali, h, ← k]; exact if_pos ⟨hi, by rw [hj]; exact Bool.false_ne_true⟩
theorem e_fstr {es : Es} {l : List D} {s : List Nat} {o : Bool} (h : evs F own true Γ es = some l) (h2 : catS l = some s) (h3 : fit s.length) : ev F own o Γ (.fstr es) = some (.str s) := by
  rw [ev_fstr, h]; show (match catS l with | some s => if fit s.length then some (D.str s) else none | none => none) = _
  rw [h2]; exact if_pos h3
theorem e_rev {xs : List D} {o : Bool} (h : ev F own true Γ a = some (.list xs)) (h2 : fit xs.length) : ev F own o Γ (.rev a) = some (.list xs.reverse) := by
  rw [ev_rev, h]; exact if_pos h2
theorem r_forR {i : Nat} {es : Es} {b : Ss} {ds xs : List D} {o : Option (Fl × List D)} (hd : evs F own true Γ es = some ds) (hx : rangeOf ds = some xs) (ho : own.contains i = false) (h : forL (fun x Γ => runs F own b (setv own i x Γ)) xs Γ = o) : run F own (.forR i es b) Γ = o := by
  rw [run_forR, hd]
  show (match rangeOf ds with | some xs => forL (fun x Γ => if own.contains i = true then none else runs F own b (setv own i x Γ)) xs Γ | none => none) = o
  rw [hx, ho]; exact h
theorem k_setI {i n : Nat} {b : E} {xs : List D} {d : D} (he : ev F own false Γ a = some d) (h : Γ[i]? = some (.list xs)) (hk : ev F own true Γ b = some (.int (n : Nat))) (ho : own.contains i = true) (hn : n < xs.length) (hf : fit xs.length) (k : runs F own r (Γ.set i (.list (xs.set n d))) = z') : runs F own (.cons (.setI i b a) r) Γ = z' :=
  k_step (by rw [run_setI, he, h, hk]; exact if_pos ⟨ho, Int.natCast_nonneg n, hn, hf⟩) k
theorem mod_i {a b : Int} (h : b ≠ 0) : bin .Mod (.int a) (.int b) = some (.int (a.fmod b)) := by
  show (if b ≠ 0 then some (D.int (a.fmod b)) else none) = _; exact if_pos h
theorem sp_s {s t : List Nat} (h1 : fit s.length) (h2 : t ≠ []) (h3 : (Txt.split (txt s) (txt t)).length ≤ 100000) : meop "split" (.str s) [.str t] = some (.list ((Txt.split (txt s) (txt t)).map fun x => .str x.cps.toList)) := by
  show (if fit s.length ∧ t ≠ [] ∧ (Txt.split (txt s) (txt t)).length ≤ 100000 then some (D.list ((Txt.split (txt s) (txt t)).map fun x => .str x.cps.toList)) else none) = _; exact if_pos ⟨h1, h2, h3⟩
theorem k_pop {i : Nat} {xs : List D} {s : List Nat} (h : Γ[i]? = some (.list xs)) (hl : xs.getLast? = some (.str s)) (ho : own.contains i = true) (hf : fit xs.length) (k : runs F own r (Γ.set i (.list xs.dropLast)) = z') : runs F own (.cons (.pop i) r) Γ = z' :=
  k_step (by rw [run_pop, h]; dsimp only; rw [hl]; exact if_pos ⟨ho, hf⟩) k
theorem f_cont {step : D → List D → Option (Fl × List D)} {x : D} {l : List D} {Γ' : List D} (h : step x Γ = some (.cont, Γ')) : forL step (x :: l) Γ = forL step l Γ' := by
  show (match step x Γ with | some (.next, Γ') => forL step l Γ' | some (.cont, Γ') => forL step l Γ' | some (.brk, Γ') => some (.next, Γ') | some (.ret v, Γ') => some (.ret v, Γ') | none => none) = _
  rw [h]
theorem k_asgP {is : List Nat} {es : Es} {l Γ' : List D} (h : evs F own false Γ es = some l) (hs : setvs own is l Γ = some Γ') (k : runs F own r Γ' = z') : runs F own (.cons (.asgP is es) r) Γ = z' := k_step (j_asgP h hs rfl) k
end
local macro_rules | `(tactic| trivial) => `(tactic| first
  | with_reducible first | assumption | exact e_lit | exact e_nil
  | ((with_reducible apply e_var); rfl; (first | rfl | assumption); rfl)
  | ((with_reducible first | apply e_cons | apply e_bin | apply e_cmp | apply e_fn | apply e_bi | apply e_me | apply e_esc | apply e_idx | apply e_sl | apply e_list | apply e_tup | apply e_neg | apply e_not | apply e_glob | apply t_cmp | apply t_fn | apply t_bi | apply e_fstr | apply e_rev | apply Ret.of) <;> trivial)
  | (apply e_ite1 <;> trivial) | (apply e_ite0 <;> trivial) | (apply e_and1 <;> trivial) | (apply e_and0 <;> trivial) | (apply e_or1 <;> trivial) | (apply e_or0 <;> trivial)
  | ((with_reducible apply t_var); rfl; (first | rfl | assumption); trivial)
  | (apply t_not1 <;> trivial) | (apply t_not0 <;> trivial) | (apply t_and1 <;> trivial) | (apply t_and0 <;> trivial) | (apply t_or1 <;> trivial) | (apply t_or0 <;> trivial)
  | (focus (with_reducible first | apply j_asg | apply j_asgT | apply j_ret | apply j_asgP | apply j_asrt | apply j_ali | apply k_ret | apply k_nil); (first | trivial | rfl); all_goals rfl)
  | ((with_reducible first | apply k_asg | apply k_asgT); trivial; rfl; rfl; trivial)
  | (apply r_if1 <;> trivial) | (apply r_if0 <;> trivial)
  | ((with_reducible apply k_aug); rfl; trivial; rfl; trivial)
  | ((with_reducible apply j_aug); rfl; trivial; rfl; rfl)
  | (apply k_asrt <;> trivial)
  | ((with_reducible apply k_copy); rfl; (first | rfl | assumption); rfl; rfl; trivial)
  | ((with_reducible apply k_app); rfl; trivial; rfl; trivial; trivial)
  | ((with_reducible apply k_asgP); trivial; rfl; trivial)
  | ((with_reducible apply k_pop); rfl; assumption; rfl; trivial; trivial)
  | ((with_reducible apply k_retV); rfl; (first | rfl | assumption); rfl)
  | (apply k_if1 <;> trivial)
  | ((with_reducible apply x_if1); trivial; trivial; rfl)
  | (apply k_if0 <;> trivial)
  | ((with_reducible apply x_if0); trivial; trivial; rfl)
  | ((with_reducible apply k_step); assumption; trivial)
  | ((with_reducible apply c_stop); assumption; rfl)
  | ((with_reducible first | apply l_bin | apply l_cmp | apply l_tr | apply l_bi | apply l_me | apply l_idx | apply l_sl | apply l_esc | apply l_glb | apply l_fit); first | assumption | solve_by_elim | rfl | (apply cs; assumption) | (apply q_l1 <;> first | rfl | exact ints_map _ | assumption | decide) | (apply q_l0 <;> first | rfl | exact ints_map _ | assumption | decide) | (apply n_l1 <;> first | rfl | exact ints_map _ | assumption | decide) | (apply n_l0 <;> first | rfl | exact ints_map _ | assumption | decide) | (first | apply tru_s | apply tru_l | apply bl_l | apply bl_s | apply bl_b | apply ba_s | apply ba_l | exact sl_s rfl rfl (by assumption) | exact sl_l rfl rfl (by assumption)) <;> assumption | ((first | apply dt1 | apply dt0 | apply dn1 | apply dn0); first | assumption | lia))
  | (apply k_skip; trivial)
  | assumption
  | solve_by_elim)
theorem fspath_run {F : FO} (s : List Nat) : Ret (runs F [] bfspath ([.str s] ++ List.replicate 13 .undef)) (.str s) := by
  unfold bfspath
  rfl
theorem get_sep_run {F : FO} (s : List Nat) : Ret (runs F [] b_get_sep ([.str s] ++ List.replicate 2 .undef)) (.str [47]) := by
  unfold b_get_sep
  rfl
theorem buffer_run {F : FO} (s : List UInt8) : Ret (runs F [] b_buffer ([.bytes s] ++ List.replicate 5 .undef)) (.bytes s) := by
  unfold b_buffer
  rfl
theorem truth_run {F : FO} (b : Bool) : Ret (runs F [] b_truth ([.bool b] ++ List.replicate 16 .undef)) (.bool b) := by
  unfold b_truth
  cases b <;> rfl
theorem escape_run {F : FO} (c : Nat) (hc : specials.contains c = false ∧ c < 128) : Ret (runs F [] bescape ([.str [c]] ++ List.replicate 3 .undef)) (.str [c]) := by
  unfold bescape
  simp only [List.cons_append, runs_nil, runs_cons, run_iff, tw_bi, ev_var, ev_lit, ev_bi, ev_esc, evs_nil, evs_cons, List.getElem?_cons_zero, usable, Bool.true_or, Bool.true_and, if_true, bi_isi, f2, isiD, isiN, vTy, truth, run_ret, escop, Ret, ne_eq, reduceCtorEq, not_false_eq_true, implies_true]
  rw [if_pos hc]
  rfl
section
variable {α : Type}
theorem clip_nat {n i : Nat} : clipAt n (i : Int) = min i n := by
  unfold clipAt
  rw [if_neg (by exact (Int.not_lt.mpr (qn _)))]
  exact cn i n
theorem cut_to (l : List α) (i : Nat) : cutL l none (some (i : Int)) = l.take i := by
  unfold cutL
  simp only [Option.elim_none, Option.elim_some, clip_nat, List.drop_zero, Nat.sub_zero]
  by_cases h : i ≤ l.length
  · rw [Nat.min_eq_left h]
  · rw [Nat.min_eq_right (by exact (qW (qV h))), List.take_length, List.take_of_length_le (by exact (qW (qV h)))]
theorem cut_from (l : List α) (i : Nat) : cutL l (some (i : Int)) none = l.drop i := by
  unfold cutL
  simp only [Option.elim_none, Option.elim_some, clip_nat]
  by_cases h : i ≤ l.length
  · rw [Nat.min_eq_left h, List.take_of_length_le (by simp)]
  · rw [Nat.min_eq_right (by exact (qW (qV h))), List.drop_length, List.drop_of_length_le (by exact (qW (qV h)))]
    simp
theorem cut_both (l : List α) (i j : Nat) : cutL l (some (i : Int)) (some (j : Int)) = (l.drop i).take (j - i) := by
  unfold cutL
  simp only [Option.elim_some, clip_nat]
  by_cases h : i ≤ l.length
  · rw [Nat.min_eq_left h]
    by_cases h2 : j ≤ l.length
    · rw [Nat.min_eq_left h2]
    · rw [Nat.min_eq_right (by exact (qW (qV h2))), List.take_of_length_le (by simp), List.take_of_length_le (by simp; omega)]
  · rw [Nat.min_eq_right (by exact (qW (qV h)) : l.length ≤ i), List.drop_length, List.drop_of_length_le (by exact (qW (qV h)))]
    simp
theorem clip_neg {n k : Nat} (hk : 0 < k) : clipAt n (-(k : Int)) = n - k := by
  unfold clipAt
  rw [if_pos (by omega)]
  exact cg k n
theorem cut_neg (l : List α) {k : Nat} (hk : 0 < k) : cutL l none (some (-(k : Int))) = l.take (l.length - k) := by
  unfold cutL
  simp only [Option.elim_none, Option.elim_some, clip_neg hk, List.drop_zero, Nat.sub_zero]
theorem cut_last (l : List α) {k : Nat} (hk : 0 < k) : cutL l (some (-(k : Int))) none = l.drop (l.length - k) := by
  unfold cutL
  simp only [Option.elim_none, Option.elim_some, clip_neg hk]
  rw [List.take_of_length_le (by simp)]
theorem cut_mid_neg (l : List α) {i k : Nat} (hk : 0 < k) : cutL l (some (i : Int)) (some (-(k : Int))) = (l.drop i).take (l.length - k - i) := by
  unfold cutL
  simp only [Option.elim_some, clip_neg hk, clip_nat]
  by_cases h : i ≤ l.length
  · rw [Nat.min_eq_left h]
  · rw [Nat.min_eq_right (by exact (qW (qV h)) : l.length ≤ i), List.drop_length, List.drop_of_length_le (by exact (qW (qV h)))]
    simp
theorem rep1 (n : Nat) (c : α) : (List.replicate n [c]).flatten = List.replicate n c := by
  induction n with
  | zero => rfl
  | succ n ih => simp [List.replicate_succ, ih]
end
section
variable {α : Type} [DecidableEq α]
noncomputable def tailC (c : α) (l : List α) : List α := (l.reverse.takeWhile fun x => decide (x ≠ c)).reverse
noncomputable def headC (c : α) (l : List α) : List α := l.take (l.length - (tailC c l).length)
noncomputable def stripR (c : α) (l : List α) : List α := (l.reverse.dropWhile fun x => decide (x = c)).reverse
theorem takeWhile_all {β : Type} {p : β → Bool} : ∀ {l : List β}, (∀ x ∈ l, p x = true) → l.takeWhile p = l
  | [], _ => rfl
  | x :: r, h => by rw [List.takeWhile_cons, h x (.head _), if_pos rfl, takeWhile_all fun y hy => h y (.tail _ hy)]
theorem tailC_free {c : α} {l : List α} (h : c ∉ l) : tailC c l = l := by
  unfold tailC
  rw [takeWhile_all, List.reverse_reverse]
  intro x hx
  simp only [List.mem_reverse] at hx
  exact decide_eq_true fun q => h (q ▸ hx)
theorem tailC_at {c : α} {a b : List α} (h : c ∉ b) : tailC c (a ++ c :: b) = b := by
  unfold tailC
  rw [List.reverse_append, List.reverse_cons, List.append_assoc, List.takeWhile_append_of_pos]
  · simp
  · intro x hx
    simp only [List.mem_reverse] at hx
    exact decide_eq_true fun q => h (q ▸ hx)
theorem headC_free {c : α} {l : List α} (h : c ∉ l) : headC c l = [] := by
  unfold headC; rw [tailC_free h]; simp
theorem headC_at {c : α} {a b : List α} (h : c ∉ b) : headC c (a ++ c :: b) = a ++ [c] := by
  unfold headC
  rw [tailC_at h, show (a ++ c :: b).length - b.length = (a ++ [c]).length by simp; exact (Nat.sub_eq_of_eq_add (Eq.trans (Nat.add_assoc _ _ _).symm (Nat.add_right_comm _ _ _))), show a ++ c :: b = (a ++ [c]) ++ b by simp, List.take_left]
theorem last_cases (c : α) (l : List α) : c ∉ l ∨ ∃ a b, l = a ++ c :: b ∧ c ∉ b := by
  induction l with
  | nil => exact .inl (by simp)
  | cons x r ih =>
    rcases ih with h | ⟨a, b, rfl, h⟩
    · by_cases q : x = c
      · refine yl q ?_; clear q; exact .inr (iEEA [] r rfl h)
      · exact .inl (by simp only [List.mem_cons, not_or]; exact ⟨fun e => q e.symm, h⟩)
    · exact .inr (iEEA (x :: a) b rfl h)
noncomputable def halvesC (c : α) (l : List α) : List α × List α := (if headC c l = List.replicate (headC c l).length c then headC c l else stripR c (headC c l), tailC c l)
noncomputable def stemC (dot : α) (l t : List α) : List α :=
  if (tailC dot t).length = t.length then l
  else if t.take (t.length - (tailC dot t).length - 1) = List.replicate (t.length - (tailC dot t).length - 1) dot then l
  else l.take (l.length - (tailC dot t).length - 1)
theorem stem_free {dot : α} {l t : List α} (h : dot ∉ t) : stemC dot l t = l := by
  unfold stemC; rw [tailC_free h, if_pos rfl]
theorem stem_at {dot : α} {l a b : List α} (h : dot ∉ b) : stemC dot l (a ++ dot :: b) = if a = List.replicate a.length dot then l else l.take (l.length - b.length - 1) := by
  unfold stemC
  rw [tailC_at h, if_neg (by simp; omega)]
  have e : (a ++ dot :: b).length - b.length - 1 = a.length := by simp; exact (Nat.sub_eq_of_eq_add (Nat.sub_eq_of_eq_add (Eq.trans (Nat.add_assoc _ _ _).symm (Nat.add_right_comm _ _ _))))
  simp only [e, List.take_left]
end
section
set_option maxHeartbeats 1000000
theorem fit_of' {n : Nat} (h : n ≤ 1000) : fit n := by unfold fit; exact (qT h (by decide))
theorem split_run {F : FO} (h1 : ∀ s, F "fspath" [.str s] = some (.str s)) (h2 : ∀ s, F "_get_sep" [.str s] = some (.str [47])) (s : List Nat) (hz : s.length ≤ 1000) :
    Ret (runs F [] bsplit ([.str s] ++ List.replicate 7 .undef)) (.tup [.str (halvesC 47 s).1, .str (halvesC 47 s).2]) := by
  have key : ∃ i : Nat, Txt.rfind (txt s) (txt [47]) + 1 = (i : Int) ∧ s.take i = headC 47 s ∧ s.drop i = tailC 47 s := by
    rcases last_cases 47 s with h | ⟨a, b, rfl, h⟩
    · exact ⟨0, by rw [rfind_nosign h]; rfl, by simp only [headC_free h]; rfl, by simp only [tailC_free h]; rfl⟩
    · refine ⟨a.length + 1, by rw [rfind_sign h]; rfl, ?_, ?_⟩
      · rw [headC_at h, show a ++ 47 :: b = (a ++ [47]) ++ b by simp, show a.length + 1 = (a ++ [47]).length by simp, List.take_left]
      · rw [tailC_at h, show a ++ 47 :: b = (a ++ [47]) ++ b by simp, show a.length + 1 = (a ++ [47]).length by simp, List.drop_left]
  refine zEAA key ?_; clear key; intro i e1 e2 e3
  have hf := fit_of' hz
  have hl : (headC 47 s).length ≤ 1000 := by unfold headC; rw [List.length_take]; exact (qmr hz)
  have hf2 := fit_of' hl
  have hrs : meop "rstrip" (.str (headC 47 s)) [.str [47]] = some (.str (stripR 47 (headC 47 s))) := by
    show (if fit (headC 47 s).length then some (D.str (Txt.rstripChars (txt (headC 47 s)) (txt [47])).cps.toList) else none) = _
    rw [if_pos hf2, rstrip_signs]; rfl
  have mH : bin .Mult (.str [47]) (.int ((headC 47 s).length : Nat)) = some (.str (List.replicate (headC 47 s).length 47)) := by
    show (if few ((headC 47 s).length : Int) ∧ _ then some (D.str (List.replicate ((headC 47 s).length : Int).toNat [47]).flatten) else none) = _
    rw [if_pos ⟨by unfold few; exact ⟨(qn _), (qe hl)⟩, by decide⟩]; simp
  have lH := bl_s hf2
  have tH := tru_s hf2
  have f1 := h1 s
  have f2 := h2 s
  have b1 : bin .Add (.int (Txt.rfind (txt s) (txt [47]))) (.int 1) = some (.int (i : Nat)) := congrArg (fun z => some (D.int z)) e1
  have m1 : meop "rfind" (.str s) [.str [47]] = some (.int (Txt.rfind (txt s) (txt [47]))) := rfl
  have t1 : sli (.str s) .none (.int (i : Nat)) = some (.str (headC 47 s)) := (sl_s rfl rfl hf).trans (by rw [cut_to, e2])
  have t2 : sli (.str s) (.int (i : Nat)) .none = some (.str (tailC 47 s)) := (sl_s rfl rfl hf).trans (by rw [cut_from, e3])
  show Ret (runs F [] bsplit [.str s, .undef, .undef, .undef, .undef, .undef, .undef, .undef]) _
  unfold halvesC
  generalize headC 47 s = H at *
  generalize tailC 47 s = T at *
  generalize Txt.rfind (txt s) (txt [47]) = z at *
  clear e1 e2 e3 h1 h2
  unfold bsplit
  by_cases hn : H = []
  · subst hn
    have tH : truth (.str ([] : List Nat)) = some false := rfl
    trivial
  · have tH : truth (.str H) = some true := tH.trans (by rw [show H.isEmpty = false by simpa using hn]; rfl)
    by_cases hr : H = List.replicate H.length 47
    · rw [if_pos hr]
      trivial
    · rw [if_neg hr]
      trivial
theorem splitext_run {F : FO} (h1 : ∀ s, F "fspath" [.str s] = some (.str s)) (s : List Nat) {d : D} (h2 : F "_splitext" [.str s, .str [47], .none, .str [46]] = some d) : Ret (runs F [] bsplitext ([.str s] ++ List.replicate 6 .undef)) d := by
  unfold bsplitext
  trivial
end
section
set_option maxHeartbeats 1000000
theorem cut_one {α : Type} (l : List α) (i : Nat) : cutL l (some (i : Int)) (some ((i : Int) + 1)) = (l.drop i).take 1 := by
  have := cut_both l i (i + 1)
  simp only [show ((i + 1 : Nat) : Int) = (i : Int) + 1 by exact (congrArg Int.ofNat rfl)] at this
  simp only [this, show i + 1 - i = 1 by exact (Nat.add_sub_cancel_left ..)]
theorem take_one {α : Type} {l : List α} {i : Nat} (h : i < l.length) : (l.drop i).take 1 = [l[i]] := by
  simp only [List.drop_eq_getElem_cons h]; rfl
theorem splitext0_run {F : FO} (s : List Nat) (hz : s.length ≤ 900) :
    Ret (runs F [] b_splitext ([.str s, .str [47], .none, .str [46]] ++ List.replicate 5 .undef)) (.tup [.str (stemC 46 s (tailC 47 s)), .str (s.drop (stemC 46 s (tailC 47 s)).length)]) := by
  have hs : s = headC 47 s ++ tailC 47 s ∧ Txt.rfind (txt s) (txt [47]) = ((headC 47 s).length : Int) - 1 := by
    rcases last_cases 47 s with h | ⟨a, b, rfl, h⟩
    · rw [headC_free h, tailC_free h, rfind_nosign h]; exact ⟨rfl, rfl⟩
    · rw [headC_at h, tailC_at h, rfind_sign h]; exact ⟨by simp, by simp⟩
  refine zA hs fun hs hsep => ?_
  generalize headC 47 s = H at *
  generalize tailC 47 s = T at *
  have hf : fit s.length := fit_of' (qT hz (by decide))
  have c0 : sli (.str s) .none (.int 0) = some (.str []) := (sl_s rfl rfl hf).trans (by have := cut_to s 0; exact congrArg (fun l => some (D.str l)) (by simpa using this))
  have m1 : meop "rfind" (.str s) [.str [47]] = some (.int ((H.length : Int) - 1)) := congrArg (fun z => some (D.int z)) hsep
  have b7 : bin .Add (.int ((H.length : Int) - 1)) (.int 1) = some (.int (H.length : Nat)) := congrArg (fun z => some (D.int z)) (by omega)
  show Ret (runs F [] b_splitext [.str s, .str [47], .none, .str [46], .undef, .undef, .undef, .undef, .undef]) _
  unfold b_splitext
  rcases last_cases 46 T with h | ⟨a, b, rfl, h⟩
  · have hdot : ¬ ((H.length : Int) - 1 < Txt.rfind (txt s) (txt [46])) := by
      rcases last_cases 46 H with h2 | ⟨a, b, rfl, h2⟩
      · rw [rfind_nosign (by rw [hs]; simp [h, h2])]; omega
      · rw [show s = a ++ 46 :: (b ++ T) by rw [hs]; simp, rfind_sign (by simp [h, h2])]
        simp; omega
    have m2 : meop "rfind" (.str s) [.str [46]] = some (.int (Txt.rfind (txt s) (txt [46]))) := rfl
    rw [stem_free h, List.drop_length]
    generalize Txt.rfind (txt s) (txt [46]) = z at *
    generalize (H.length : Int) - 1 = y at *
    trivial
  · have hlen : s.length = H.length + a.length + 1 + b.length := by rw [hs]; simp; exact (Eq.trans (Nat.add_assoc _ _ _).symm (Eq.trans (Nat.add_assoc _ _ _).symm (Nat.add_right_comm _ _ _)))
    have m2 : meop "rfind" (.str s) [.str [46]] = some (.int ((H.length + a.length : Nat) : Int)) := congrArg (fun z => some (D.int z)) (by
      rw [show s = (H ++ a) ++ 46 :: b by rw [hs]; simp, rfind_sign h]; simp)
    have hgt : (H.length : Int) - 1 < ((H.length + a.length : Nat) : Int) := by omega
    have hst : stemC 46 s (a ++ 46 :: b) = if a = List.replicate a.length 46 then s else s.take (H.length + a.length) := by
      rw [stem_at h, show s.length - b.length - 1 = H.length + a.length by exact (Nat.sub_eq_of_eq_add (Nat.sub_eq_of_eq_add hlen))]
    have hget : ∀ k, H.length ≤ k → k < H.length + a.length → s[k]? = a[k - H.length]? := fun k h1 h2 => by
      rw [hs, List.getElem?_append_right h1, List.getElem?_append_left (by omega)]
    generalize hdn : H.length + a.length = di at *
    rw [hst]
    clear hst hs hsep
    have t1 : sli (.str s) .none (.int (di : Nat)) = some (.str (s.take di)) := (sl_s rfl rfl hf).trans (by rw [cut_to])
    have t2 : sli (.str s) (.int (di : Nat)) .none = some (.str (s.drop di)) := (sl_s rfl rfl hf).trans (by rw [cut_from])
    generalize (H.length : Int) - 1 = y at *
    refine zE (⟨_, fun _ _ => .rfl⟩ : ∃ P : Nat → List D → Prop, ∀ m Γ, P m Γ ↔ ∃ f : Nat, Γ = [.str s, .str [47], .none, .str [46], .int y, .undef, .int (di : Nat), .int (f : Nat), .undef] ∧ H.length ≤ f ∧ f ≤ di ∧ m = di - f ∧ ∀ k, H.length ≤ k → k < f → s[k]? = some 46) fun P hP => ?_
    refine zE (⟨_, fun _ _ => .rfl⟩ : ∃ Q : Fl → List D → Prop, ∀ fl Γ, Q fl Γ ↔ (fl = .next ∧ a = List.replicate a.length 46 ∧ ∃ f : Int, Γ = [.str s, .str [47], .none, .str [46], .int y, .undef, .int (di : Nat), .int f, .undef]) ∨ (fl = .ret (.tup [.str (s.take di), .str (s.drop di)]) ∧ ¬ a = List.replicate a.length 46)) fun Q hQ => ?_
    refine zEEA (whl_inv (F := F) (own := []) (c := .cmp .Lt (.var 7) (.var 6)) (b := b_splitext_1) P Q (fun m Γ hp => by
        refine zEAAAA ((hP m Γ).mp hp) ?_; clear hp; rintro f rfl h1 h2 rfl h3
        by_cases hlt : f < di
        · have hfs : f < s.length := by exact (qL (qL hlt (qT qu qu)) (qE hlen.symm))
          have hc1 : sli (.str s) (.int (f : Nat)) (.int ((f : Nat) + 1)) = some (.str [s[f]]) := (sl_s rfl rfl hf).trans (by rw [cut_one, take_one hfs])
          by_cases hc : s[f] = 46
          · have hc' : [s[f]] = [46] := congrArg (fun x => [x]) hc
            refine .next (di - (f + 1)) _ (by trivial) (qK hlt) (by unfold b_splitext_1; trivial) ((hP _ _).mpr ⟨f + 1, rfl, by exact (qT h1 qu), by exact hlt, rfl, fun k q1 q2 => ?_⟩)
            by_cases q : k = f
            · rw [q, List.getElem?_eq_getElem hfs, hc]
            · exact h3 k q1 (by omega)
          · have hc' : ¬ [s[f]] = [46] := fun q => hc (List.cons.inj q).1
            refine .ret _ _ (by trivial) (by unfold b_splitext_1; trivial) ((hQ _ _).mpr (.inr ⟨rfl, fun q => ?_⟩))
            have := hget f h1 hlt
            rw [List.getElem?_eq_getElem hfs, q, List.getElem?_replicate, if_pos (by omega)] at this
            exact hc (Option.some.inj this)
        · refine .stop (by trivial) ((hQ _ _).mpr (.inl ⟨rfl, ?_, f, rfl⟩))
          refine List.eq_replicate_iff.mpr ⟨rfl, fun x hx => ?_⟩
          refine zE (List.getElem?_of_mem hx) fun j hj => ?_
          have hjl : j < a.length := (List.getElem?_eq_some_iff.mp hj).1
          have e1 := hget (H.length + j) qu (qL (Nat.add_lt_add_left hjl _) (qE hdn))
          rw [h3 (H.length + j) qu (qL (qL (Nat.add_lt_add_left hjl _) (qE hdn)) (qX hlt)), show H.length + j - H.length = j by exact (Nat.add_sub_cancel_left ..), hj] at e1
          exact (Option.some.inj e1).symm)
      (m := di - H.length) (Γ := [.str s, .str [47], .none, .str [46], .int y, .undef, .int (di : Nat), .int (H.length : Nat), .undef]) ((hP _ _).mpr ⟨H.length, rfl, Nat.le_refl _, by omega, rfl, fun k q1 q2 => by omega⟩) (qM (qsl (qT (qT qu qu) (qT (qE hlen.symm) hz))) (by decide))) fun fl Γ' hw hR => ?_
    rcases (hQ _ _).mp hR with ⟨rfl, ha, f, rfl⟩ | ⟨rfl, ha⟩
    · rw [if_pos ha, List.drop_length]
      trivial
    · rw [if_neg ha, List.length_take, Nat.min_eq_left (by omega)]
      trivial
end
section
variable {α : Type} [DecidableEq α]
noncomputable def splitC (c : α) : List α → List (List α)
  | [] => [[]]
  | x :: r => if x = c then [] :: splitC c r else match splitC c r with
    | w :: ws => (x :: w) :: ws
    | [] => [[x]]
theorem splitC_ne (c : α) : ∀ l : List α, splitC c l ≠ []
  | [] => by simp [splitC]
  | x :: r => by
    unfold splitC
    split
    · simp
    · split <;> simp
set_option tactic.hygienic true in
theorem splitC_free (c : α) : ∀ l : List α, ∀ w ∈ splitC c l, c ∉ w
  | [], w, h => by simp [splitC] at h; refine yl h ?_; clear h; simp
  | x :: r, w, h => by
    unfold splitC at h
    have ih := splitC_free c r
    split at h
    · rcases List.mem_cons.mp h with rfl | h
      · simp
      · exact ih w h
    · rename_i hx
      split at h
      · rename_i v vs hv
        rw [hv] at ih
        rcases List.mem_cons.mp h with rfl | h
        · simp only [List.mem_cons, not_or]
          exact ⟨fun q => hx q.symm, ih v (.head _)⟩
        · exact ih w (.tail _ h)
      · simp at h
        refine yl h ?_; clear h
        simp only [List.mem_cons, List.not_mem_nil, or_false]
        exact fun q => hx q.symm
noncomputable def joinC (c : α) : List (List α) → List α
  | [] => []
  | [x] => x
  | x :: y :: r => x ++ c :: joinC c (y :: r)
theorem joinC_cons (c : α) (x : List α) : ∀ {r : List (List α)}, r ≠ [] → joinC c (x :: r) = x ++ c :: joinC c r
  | [], h => absurd rfl h
  | _ :: _, _ => rfl
set_option tactic.hygienic true in
theorem join_splitC (c : α) : ∀ l : List α, joinC c (splitC c l) = l
  | [] => rfl
  | x :: r => by
    have ih := join_splitC c r
    unfold splitC
    split
    · rename_i hx
      simp only [joinC_cons _ _ (splitC_ne c r), ih, hx]; rfl
    · split
      · rename_i w ws hw
        simp only [hw] at ih
        cases ws with
        | nil => simp only [joinC] at ih ⊢; simp only [ih]
        | cons y t => simp only [joinC] at ih ⊢; simp only [List.cons_append, ih]
      · rename_i h; exact absurd h (splitC_ne c r)
theorem joinC_drop (c : α) : ∀ ws : List (List α), (ws.flatMap (c :: ·)).drop 1 = joinC c ws
  | [] => rfl
  | [x] => by simp [joinC]
  | x :: y :: r => by
    have ih := joinC_drop c (y :: r)
    rw [joinC_cons _ _ (by simp), List.flatMap_cons, List.cons_append, List.drop_succ_cons, List.drop_zero, ← ih]
    rfl
noncomputable def leadC (c : α) (l : List α) : Nat := (l.takeWhile fun x => decide (x = c)).length
noncomputable def slashN (n : Nat) : Nat := if 2 < n then 1 else n
noncomputable def fwdStep (dot : α) (root : Bool) (acc : List (List α)) (c : List α) : List (List α) :=
  if c = [] ∨ c = [dot] then acc else if c ≠ [dot, dot] ∨ (root = false ∧ acc = []) ∨ (acc ≠ [] ∧ acc.getLast? = some [dot, dot]) then acc ++ [c] else acc.dropLast
noncomputable def backStep (dot : α) (c : List α) (s : Nat × List (List α)) : Nat × List (List α) :=
  if c = [dot, dot] then (s.1 + 1, s.2) else if c ≠ [] ∧ c ≠ [dot] then (if 0 < s.1 then (s.1 - 1, s.2) else (s.1, c :: s.2)) else s
noncomputable def back (dot : α) (ws : List (List α)) : Nat × List (List α) := ws.foldr (backStep dot) (0, [])
noncomputable def orDot (dot : α) (l : List α) : List α := if l = [] then [dot] else l
noncomputable def normC (slash dot : α) (l : List α) : List α :=
  if l = [] then [dot] else orDot dot (List.replicate (slashN (leadC slash l)) slash ++ joinC slash ((splitC slash (l.drop (slashN (leadC slash l)))).foldl (fwdStep dot (decide (0 < slashN (leadC slash l)))) []))
noncomputable def straightC (slash dot : α) (l : List α) : List α :=
  orDot dot (List.replicate (slashN (leadC slash l)) slash ++ joinC slash ((if slashN (leadC slash l) = 0 then List.replicate (back dot (splitC slash l)).1 [dot, dot] else []) ++ (back dot (splitC slash l)).2))
theorem fwd_skip {dot : α} {root : Bool} {acc : List (List α)} {c : List α} (h : c = [] ∨ c = [dot]) : fwdStep dot root acc c = acc := by unfold fwdStep; rw [if_pos h]
theorem fwd_push {dot : α} {root : Bool} {acc : List (List α)} {c : List α} (h : ¬ (c = [] ∨ c = [dot])) (h2 : c ≠ [dot, dot] ∨ (root = false ∧ acc = []) ∨ (acc ≠ [] ∧ acc.getLast? = some [dot, dot])) : fwdStep dot root acc c = acc ++ [c] := by unfold fwdStep; rw [if_neg h, if_pos h2]
theorem fwd_pop {dot : α} {root : Bool} {acc : List (List α)} {c : List α} (h : ¬ (c = [] ∨ c = [dot])) (h2 : ¬ (c ≠ [dot, dot] ∨ (root = false ∧ acc = []) ∨ (acc ≠ [] ∧ acc.getLast? = some [dot, dot]))) : fwdStep dot root acc c = acc.dropLast := by unfold fwdStep; rw [if_neg h, if_neg h2]
theorem back_cons (dot : α) (c : List α) (w : List (List α)) : back dot (c :: w) = backStep dot c (back dot w) := rfl
theorem back_skip {dot : α} {c : List α} {w : List (List α)} (h : c = [] ∨ c = [dot]) : back dot (c :: w) = back dot w := by
  simp only [back_cons]; unfold backStep
  rw [if_neg (by rcases h with rfl | rfl <;> simp), if_neg (by rcases h with rfl | rfl <;> simp)]
theorem back_up {dot : α} {w : List (List α)} : back dot ([dot, dot] :: w) = ((back dot w).1 + 1, (back dot w).2) := by
  simp only [back_cons]; unfold backStep; rw [if_pos rfl]
theorem back_pay {dot : α} {c : List α} {w : List (List α)} (h : ¬ (c = [] ∨ c = [dot])) (h2 : c ≠ [dot, dot]) (h3 : 0 < (back dot w).1) : back dot (c :: w) = ((back dot w).1 - 1, (back dot w).2) := by
  simp only [back_cons]; unfold backStep; rw [if_neg h2, if_pos (by simpa using h), if_pos h3]
theorem back_keep {dot : α} {c : List α} {w : List (List α)} (h : ¬ (c = [] ∨ c = [dot])) (h2 : c ≠ [dot, dot]) (h3 : (back dot w).1 = 0) : back dot (c :: w) = (0, c :: (back dot w).2) := by
  simp only [back_cons]; unfold backStep; rw [if_neg h2, if_pos (by simpa using h), if_neg (by exact (Nat.not_lt.mpr (qE h3))), h3]
theorem fwd_un (dot : α) : ∀ (w : List (List α)) (k : Nat) (ns : List (List α)), (∀ x ∈ ns, x ≠ [dot, dot]) →
    w.foldl (fwdStep dot false) (List.replicate k [dot, dot] ++ ns) = if (back dot w).1 ≤ ns.length then List.replicate k [dot, dot] ++ (ns.take (ns.length - (back dot w).1) ++ (back dot w).2) else List.replicate (k + ((back dot w).1 - ns.length)) [dot, dot] ++ (back dot w).2
  | [], k, ns, h => by simp [back]
  | c :: w, k, ns, h => by
    simp only [List.foldl_cons]
    by_cases h1 : c = [] ∨ c = [dot]
    · rw [fwd_skip h1, back_skip h1]
      exact fwd_un dot w k ns h
    · by_cases h2 : c = [dot, dot]
      · subst h2
        rw [back_up]
        rcases List.eq_nil_or_concat ns with rfl | ⟨ns', x, rfl⟩
        · have hpush : ([dot, dot] ≠ [dot, dot] ∨ (false = false ∧ List.replicate k [dot, dot] ++ [] = []) ∨ (List.replicate k [dot, dot] ++ [] ≠ [] ∧ (List.replicate k [dot, dot] ++ []).getLast? = some [dot, dot])) := by
            cases k with
            | zero => simp
            | succ k => right; right; simp [List.getLast?_replicate]
          rw [fwd_push h1 hpush]
          have := fwd_un dot w (k + 1) [] (by trivial)
          rw [show List.replicate k [dot, dot] ++ [] ++ [[dot, dot]] = List.replicate (k + 1) [dot, dot] ++ [] by simp only [List.append_nil, List.append_nil, List.replicate_succ']]
          rw [this]
          simp only [List.length_nil, Nat.le_zero_eq, List.take_nil, List.nil_append, Nat.sub_zero]
          rw [if_neg (by exact (Nat.ne_of_gt (Nat.lt_succ_of_le qz)) : ¬ (back dot w).1 + 1 = 0)]
          by_cases hd : (back dot w).1 = 0
          · rw [if_pos hd, hd]
          · rw [if_neg hd, show k + 1 + (back dot w).1 = k + ((back dot w).1 + 1) by exact (Eq.trans (Nat.add_comm _ _) (Nat.add_left_comm _ _ _))]
        · rw [List.concat_eq_append] at *
          have hx : x ≠ [dot, dot] := h x (by simp)
          have e1 : (List.replicate k [dot, dot] ++ (ns' ++ [x])).dropLast = List.replicate k [dot, dot] ++ ns' := by
            rw [← List.append_assoc, List.dropLast_concat]
          rw [fwd_pop h1 (by simp [hx]), e1, fwd_un dot w k ns' fun y hy => h y (by simp [hy])]
          simp only [List.length_append, List.length_cons, List.length_nil]
          by_cases hd : (back dot w).1 ≤ ns'.length
          · rw [if_pos hd, if_pos (by exact (Nat.lt_succ_of_le hd)), show ns'.length + (0 + 1) - ((back dot w).1 + 1) = ns'.length - (back dot w).1 by omega, List.take_append_of_le_length (by exact (Nat.sub_le _ _))]
          · rw [if_neg hd, if_neg (by exact (Nat.not_le.mpr (Nat.lt_succ_of_le (qV hd)))), show k + ((back dot w).1 - ns'.length) = k + ((back dot w).1 + 1 - (ns'.length + (0 + 1))) by omega]
      · rw [fwd_push h1 (.inl h2), List.append_assoc, fwd_un dot w k (ns ++ [c]) (by
          intro y hy
          rcases List.mem_append.mp hy with hy | hy
          · exact h y hy
          · simp at hy; rw [hy]; exact h2)]
        simp only [List.length_append, List.length_cons, List.length_nil]
        by_cases h0 : 0 < (back dot w).1
        · rw [back_pay h1 h2 h0]
          by_cases hd : (back dot w).1 ≤ ns.length + 1
          · rw [if_pos (by exact (qT hd (qF (by decide) _))), if_pos (by simp only; exact (Nat.sub_le_of_le_add hd)), List.take_append_of_le_length (by exact (Nat.sub_le_of_le_add (qF h0 _))), qs3 h0]
          · rw [if_neg (by exact (Nat.not_le.mpr (qM (qF (by decide) _) (qV hd)))), if_neg (by simp only; omega), show k + ((back dot w).1 - (ns.length + (0 + 1))) = k + ((back dot w).1 - 1 - ns.length) by omega]
        · have h00 : (back dot w).1 = 0 := by exact (Nat.le_antisymm (qX h0) qz)
          rw [back_keep h1 h2 h00, h00, if_pos qz, if_pos qz, Nat.sub_zero, Nat.sub_zero, List.take_length, List.take_of_length_le (by simp)]
          simp
theorem fwd_root (dot : α) : ∀ (w : List (List α)) (ns : List (List α)), (∀ x ∈ ns, x ≠ [dot, dot]) → w.foldl (fwdStep dot true) ns = ns.take (ns.length - (back dot w).1) ++ (back dot w).2
  | [], ns, h => by simp [back]
  | c :: w, ns, h => by
    simp only [List.foldl_cons]
    by_cases h1 : c = [] ∨ c = [dot]
    · rw [fwd_skip h1, back_skip h1]
      exact fwd_root dot w ns h
    · by_cases h2 : c = [dot, dot]
      · subst h2
        rw [back_up]
        rcases List.eq_nil_or_concat ns with rfl | ⟨ns', x, rfl⟩
        · rw [fwd_pop h1 (by simp), show (([] : List (List α)).dropLast) = [] from rfl, fwd_root dot w [] (by trivial)]
          simp
        · rw [List.concat_eq_append] at *
          have hx : x ≠ [dot, dot] := h x (by simp)
          rw [fwd_pop h1 (by simp [hx]), List.dropLast_concat, fwd_root dot w ns' fun y hy => h y (by simp [hy])]
          simp only [List.length_append, List.length_cons, List.length_nil]
          rw [show ns'.length + (0 + 1) - ((back dot w).1 + 1) = ns'.length - (back dot w).1 by omega, List.take_append_of_le_length (by exact (Nat.sub_le _ _))]
      · rw [fwd_push h1 (.inl h2), fwd_root dot w (ns ++ [c]) (by
          intro y hy
          rcases List.mem_append.mp hy with hy | hy
          · exact h y hy
          · simp at hy; rw [hy]; exact h2)]
        simp only [List.length_append, List.length_cons, List.length_nil]
        by_cases h0 : 0 < (back dot w).1
        · rw [back_pay h1 h2 h0, List.take_append_of_le_length (by exact (Nat.sub_le_of_le_add (qF h0 _))), qs3 h0]
        · have h00 : (back dot w).1 = 0 := by exact (Nat.le_antisymm (qX h0) qz)
          rw [back_keep h1 h2 h00, h00, Nat.sub_zero, Nat.sub_zero, List.take_length, List.take_of_length_le (by simp)]
          simp
theorem back_nil (dot : α) (ws : List (List α)) : back dot ([] :: ws) = back dot ws := by
  show backStep dot [] (back dot ws) = _
  unfold backStep
  rfl
set_option tactic.hygienic true in
theorem back_drop (slash dot : α) : ∀ (n : Nat) (l : List α), n ≤ leadC slash l → back dot (splitC slash (l.drop n)) = back dot (splitC slash l)
  | 0, l, _ => rfl
  | n + 1, [], h => by simp [leadC] at h
  | n + 1, x :: r, h => by
    unfold leadC at h
    rw [List.takeWhile_cons] at h
    split at h
    · rename_i hx
      have hx : x = slash := by simpa using hx
      subst hx
      rw [List.drop_succ_cons, back_drop x dot n r (by unfold leadC; simp at h; exact h)]
      have : splitC x (x :: r) = [] :: splitC x r := by conv => lhs; unfold splitC; rw [if_pos rfl]
      rw [this, back_nil]
    · simp at h
theorem slashN_le (n : Nat) : slashN n ≤ n := by unfold slashN; split <;> omega
set_option tactic.hygienic true in
theorem norm_straight (slash dot : α) (l : List α) : normC slash dot l = straightC slash dot l := by
  unfold normC straightC
  by_cases hl : l = []
  · refine yl hl ?_; clear hl
    rfl
  · simp only [if_neg hl]
    have hb := back_drop slash dot (slashN (leadC slash l)) l (slashN_le _)
    simp only [← hb]
    by_cases h0 : slashN (leadC slash l) = 0
    · simp only [if_pos h0, h0, show decide (0 < 0) = false from rfl]
      have := fwd_un dot (splitC slash (l.drop 0)) 0 [] (by simp)
      simp only [List.replicate_zero, List.nil_append] at this
      simp only [this]
      simp only [List.length_nil, Nat.le_zero_eq, List.take_nil, List.nil_append, Nat.sub_zero, List.replicate_zero, Nat.zero_add]
      split
      · rename_i h; simp only [h]; rfl
      · rfl
    · simp only [if_neg h0, show decide (0 < slashN (leadC slash l)) = true from decide_eq_true (by exact (Nat.pos_of_ne_zero h0))]
      rw [fwd_root dot _ [] (by simp)]
      simp
end
section
set_option maxHeartbeats 2000000
theorem cut_to1 {α : Type} (l : List α) : cutL l none (some 1) = l.take 1 := cut_to l 1
theorem cut_to2 {α : Type} (l : List α) : cutL l none (some 2) = l.take 2 := cut_to l 2
theorem cut_12 {α : Type} (l : List α) : cutL l (some 1) (some 2) = (l.drop 1).take 1 := cut_both l 1 2
theorem cut_23 {α : Type} (l : List α) : cutL l (some 2) (some 3) = (l.drop 2).take 1 := cut_both l 2 3
theorem cut_from1 {α : Type} (l : List α) : cutL l (some 1) none = l.drop 1 := cut_from l 1
theorem cut_from2 {α : Type} (l : List α) : cutL l (some 2) none = l.drop 2 := cut_from l 2
theorem lead_ne {c x : Nat} {r : List Nat} (h : x ≠ c) : leadC c (x :: r) = 0 := by unfold leadC; rw [List.takeWhile_cons, if_neg (by simpa using h)]; rfl
theorem lead_eq {c : Nat} {r : List Nat} : leadC c (c :: r) = leadC c r + 1 := by unfold leadC; rw [List.takeWhile_cons, if_pos (by simp)]; rfl
theorem lead_cases (s : List Nat) : (s.take 1 ≠ [47] ∧ slashN (leadC 47 s) = 0) ∨ (s.take 1 = [47] ∧ (s.drop 1).take 1 ≠ [47] ∧ slashN (leadC 47 s) = 1) ∨
    (s.take 1 = [47] ∧ (s.drop 1).take 1 = [47] ∧ (s.drop 2).take 1 = [47] ∧ slashN (leadC 47 s) = 1) ∨ (s.take 1 = [47] ∧ (s.drop 1).take 1 = [47] ∧ (s.drop 2).take 1 ≠ [47] ∧ slashN (leadC 47 s) = 2 ∧ s.take 2 = [47, 47]) := by
  match s with
  | [] => left; trivial
  | [x] =>
    by_cases hx : x = 47
    · refine yl hx ?_; clear hx; right; left; trivial
    · left; simp [hx, lead_ne hx, slashN]
  | [x, y] =>
    by_cases hx : x = 47
    · refine yl hx ?_; clear hx
      by_cases hy : y = 47
      · refine yl hy ?_; clear hy; right; right; right; trivial
      · right; left; simp [hy, lead_eq, lead_ne hy, slashN]
    · left; simp [hx, lead_ne hx, slashN]
  | x :: y :: z :: r =>
    by_cases hx : x = 47
    · refine yl hx ?_; clear hx
      by_cases hy : y = 47
      · refine yl hy ?_; clear hy
        by_cases hzz : z = 47
        · refine yl hzz ?_; clear hzz; right; right; left; trivial
        · right; right; right; simp [hzz, lead_eq, lead_ne hzz, slashN]
      · right; left; simp [hy, lead_eq, lead_ne hy, slashN]
    · left; simp [hx, lead_ne hx, slashN]
theorem splitroot_run {F : FO} (h1 : ∀ s, F "fspath" [.str s] = some (.str s)) (s : List Nat) (hz : s.length ≤ 900) :
    Ret (runs F [] bsplitroot ([.str s] ++ List.replicate 5 .undef)) (.tup [.str [], .str (List.replicate (slashN (leadC 47 s)) 47), .str (s.drop (slashN (leadC 47 s)))]) := by
  have hf : fit s.length := fit_of' (qT hz (by decide))
  have e1 := h1 s
  have t1 : sli (.str s) .none (.int 1) = some (.str (s.take 1)) := (sl_s rfl rfl hf).trans (by rw [cut_to1])
  have t2 : sli (.str s) (.int 1) (.int 2) = some (.str ((s.drop 1).take 1)) := (sl_s rfl rfl hf).trans (by rw [cut_12])
  have t3 : sli (.str s) (.int 2) (.int 3) = some (.str ((s.drop 2).take 1)) := (sl_s rfl rfl hf).trans (by rw [cut_23])
  have t4 : sli (.str s) (.int 1) .none = some (.str (s.drop 1)) := (sl_s rfl rfl hf).trans (by rw [cut_from1])
  have t5 : sli (.str s) (.int 2) .none = some (.str (s.drop 2)) := (sl_s rfl rfl hf).trans (by rw [cut_from2])
  have t6 : sli (.str s) .none (.int 2) = some (.str (s.take 2)) := (sl_s rfl rfl hf).trans (by rw [cut_to2])
  show Ret (runs F [] bsplitroot [.str s, .undef, .undef, .undef, .undef, .undef]) _
  have hl := lead_cases s
  generalize slashN (leadC 47 s) = n at *
  unfold bsplitroot
  rcases hl with ⟨a1, rfl⟩ | ⟨a1, a2, rfl⟩ | ⟨a1, a2, a3, rfl⟩ | ⟨a1, a2, a3, rfl, e2⟩
  · have a1 : ¬ s.take 1 = [47] := a1
    trivial
  · have a2 : ¬ (s.drop 1).take 1 = [47] := a2
    trivial
  · trivial
  · have a3 : ¬ (s.drop 2).take 1 = [47] := a3
    rw [e2] at t6
    trivial
theorem joinL_len {sep : List Nat} {B : Nat} : ∀ {l : List (List Nat)}, (∀ x ∈ l, x.length ≤ B) → (joinL sep l).length ≤ l.length * (B + sep.length)
  | [], _ => by simp [joinL]
  | [x], h => by have := h x (.head _); simp [joinL]; exact (qT this qu)
  | x :: y :: r, h => by
    have ih := joinL_len (l := y :: r) (sep := sep) fun z hz => h z (.tail _ hz)
    have := h x (.head _)
    rw [joinL_cons _ _ (by simp), List.length_append, List.length_append, List.length_cons, Nat.succ_mul]
    omega
theorem joinL_C (c : Nat) : ∀ l : List (List Nat), joinL [c] l = joinC c l
  | [] => rfl
  | [_] => rfl
  | x :: y :: r => by rw [joinL_cons _ _ (by simp), joinC_cons _ _ (by simp), joinL_C c (y :: r)]; simp
theorem split_sign (s : List Nat) : (Txt.split (txt s) (txt [47])).map (fun x => D.str x.cps.toList) = (splitC 47 s).map D.str := by
  have h : s = joinL [47] (splitC 47 s) := by simp only [joinL_C, join_splitC]
  conv => lhs; rw [h]
  rw [split_words (splitC_ne 47 s) (splitC_free 47 s) (by simp), List.map_map]
  exact List.map_congr_left fun x _ => by simp [txt_toList]
set_option tactic.hygienic true in
theorem splitC_len (c : Nat) : ∀ s : List Nat, (splitC c s).length ≤ s.length + 1
  | [] => by trivial
  | x :: r => by
    have ih := splitC_len c r
    unfold splitC
    split
    · simp; exact ih
    · split
      · rename_i h; simp only [h] at ih; simp at ih ⊢; exact (qT ih qu)
      · simp
set_option tactic.hygienic true in
theorem splitC_word (c : Nat) : ∀ s : List Nat, ∀ w ∈ splitC c s, w.length ≤ s.length
  | [], w, h => by simp [splitC] at h; refine yl h ?_; clear h; trivial
  | x :: r, w, h => by
    have ih := splitC_word c r
    unfold splitC at h
    split at h
    · rcases List.mem_cons.mp h with rfl | h
      · simp
      · have := ih w h; simp; exact (qT this qu)
    · split at h
      · rename_i v vs hv
        rw [hv] at ih
        rcases List.mem_cons.mp h with rfl | h
        · have := ih v (.head _); simp; exact this
        · have := ih w (.tail _ h); simp; exact (qT this qu)
      · simp at h; refine yl h ?_; clear h; simp
theorem getI_last {α : Type} (xs : List α) (x : α) : getI (xs ++ [x]) (-1) = some x := by
  have h : seqIndex? (-1) (xs ++ [x]).length = some xs.length := by
    rw [StrLaws.seqIndex_neg (by decide) (by simp; exact (qe qv))]
    simp
    omega
  simp only [getI]
  rw [if_pos (by decide), h]
  simp
theorem getI_nat {α : Type} {xs : List α} {i : Nat} (h : i < xs.length) (hz : i < 2 ^ 60) : getI xs (i : Int) = some xs[i] := by
  have h2 : seqIndex? (i : Int) xs.length = some i := by
    rw [StrLaws.seqIndex_nonneg (qn _) (ql h)]
    rfl
  simp only [getI]
  rw [if_pos (by unfold small; exact hz), h2]
  simp [h]
noncomputable abbrev nst (p0 j1 j2 : D) (init : List Nat) (acc : List (List Nat)) (j3 : D) : List D := [p0, .str [47], .str [46], .str [46, 46], j1, .str init, j2, .list (acc.map .str), j3, .undef, .undef, .undef, .undef]
theorem norm_step {F : FO} {root : Bool} {init : List Nat} (hr : init.isEmpty = !root) (hi : fit init.length) {j1 j2 p0 : D} {acc : List (List Nat)} {c : List Nat} (hal : fit acc.length) (hcl : fit c.length) :
    ∃ fl, (fl = .next ∨ fl = .cont) ∧ runs F [7] bnormpath_1 (nst p0 j1 j2 init acc (.str c)) = some (fl, nst p0 j1 j2 init (fwdStep 46 root acc c) (.str c)) := by
  unfold bnormpath_1 nst
  have ti : truth (.str init) = some root := (tru_s hi).trans (by rw [hr, Bool.not_not])
  clear hr hi
  by_cases h1 : c = []
  · refine yl h1 ?_; clear h1
    refine ⟨.cont, .inr rfl, ?_⟩
    rw [fwd_skip (.inl rfl)]
    trivial
  · have tc : truth (.str c) = some true := (tru_s hcl).trans (by rw [show c.isEmpty = false by simpa using h1]; rfl)
    by_cases h2 : c = [46]
    · refine yl h2 ?_; clear h2
      refine ⟨.cont, .inr rfl, ?_⟩
      rw [fwd_skip (.inr rfl)]
      trivial
    · refine ⟨.next, .inl rfl, ?_⟩
      have h12 : ¬ (c = [] ∨ c = [46]) := fun q => q.elim h1 h2
      have hml : fit (acc.map D.str).length := by rw [List.length_map]; exact hal
      by_cases h3 : c = [46, 46]
      · subst h3
        rcases List.eq_nil_or_concat acc with rfl | ⟨acc', x, rfl⟩
        · have tM : truth (.list (([] : List (List Nat)).map D.str)) = some false := rfl
          cases root with
          | false =>
            rw [fwd_push h12 (by simp)]
            trivial
          | true =>
            rw [fwd_pop h12 (by simp)]
            trivial
        · rw [List.concat_eq_append] at *
          have tM : truth (.list ((acc' ++ [x]).map D.str)) = some true := (tru_l hml).trans (by simp)
          have hgi : idx (.list ((acc' ++ [x]).map D.str)) (.int (-1)) = some (.str x) := by rw [List.map_append]; exact getI_last _ _
          have hgl : ((acc' ++ [x]).map D.str).getLast? = some (.str x) := by simp
          have hdl : ((acc' ++ [x]).map D.str).dropLast = ((acc' ++ [x]).dropLast).map D.str := by simp
          by_cases hx : x = [46, 46]
          · rw [fwd_push h12 (by right; right; simp [hx]), List.map_append (l₁ := acc' ++ [x]) (l₂ := [[46, 46]])]
            generalize (acc' ++ [x]).map D.str = M at *
            cases root <;> trivial
          · rw [fwd_pop h12 (by simp [hx]), ← hdl]
            generalize (acc' ++ [x]).map D.str = M at *
            cases root <;> trivial
      · rw [fwd_push h12 (.inl h3), List.map_append]
        generalize acc.map D.str = M at *
        trivial
theorem norm_loop {F : FO} {root : Bool} {init : List Nat} (hr : init.isEmpty = !root) (hi : fit init.length) {j1 j2 p0 : D} : ∀ (cs : List (List Nat)) (acc : List (List Nat)) (hz : acc.length + cs.length ≤ 900) (hc : ∀ x ∈ cs, x.length ≤ 900) (ha : ∀ x ∈ acc, x.length ≤ 900) (j3 : D),
    ∃ j3', forL (fun x Γ => runs F [7] bnormpath_1 (setv [7] 8 x Γ)) (cs.map .str) (nst p0 j1 j2 init acc j3) =
      some (.next, nst p0 j1 j2 init (cs.foldl (fwdStep 46 root) acc) j3') ∧ (∀ x ∈ cs.foldl (fwdStep 46 root) acc, x.length ≤ 900) ∧ (cs.foldl (fwdStep 46 root) acc).length ≤ 900
  | [], acc, hz, hc, ha, j3 => ⟨j3, rfl, ha, hz⟩
  | c :: cs, acc, hz, hc, ha, j3 => by
    rw [List.length_cons] at hz
    have hmem : ∀ x ∈ fwdStep 46 root acc c, x.length ≤ 900 := fun x hx => by
      unfold fwdStep at hx
      split at hx
      · exact ha x hx
      · split at hx
        · rcases List.mem_append.mp hx with hx | hx
          · exact ha x hx
          · rw [List.mem_singleton.mp hx]; exact hc c (.head _)
        · exact ha x (List.dropLast_subset _ hx)
    have hlen : (fwdStep 46 root acc c).length ≤ acc.length + 1 := by
      unfold fwdStep
      split
      · exact qu
      · split
        · simp
        · simp; exact (qT qu qu)
    refine zEA (norm_step (F := F) (p0 := p0) (j1 := j1) (j2 := j2) (acc := acc) (c := c) hr hi (fit_of' (qT (qT qu hz) (by decide))) (fit_of' (Nat.le_trans (hc c (.head _)) (by decide)))) fun fl hfl hst => ?_
    refine zEAA (norm_loop (F := F) (p0 := p0) (j1 := j1) (j2 := j2) hr hi cs (fwdStep 46 root acc c) (by omega) (fun x hx => hc x (.tail _ hx)) hmem (.str c)) fun j3' e1 e2 e3 => ?_
    refine ⟨j3', ?_, e2, e3⟩
    rcases hfl with rfl | rfl
    · exact (f_next hst).trans e1
    · exact (f_cont hst).trans e1
end
section
set_option maxHeartbeats 1000000
theorem normpath_run {F : FO} (h1 : ∀ s, F "fspath" [.str s] = some (.str s))
    (h2 : ∀ s : List Nat, s.length ≤ 900 → F "splitroot" [.str s] = some (.tup [.str [], .str (List.replicate (slashN (leadC 47 s)) 47), .str (s.drop (slashN (leadC 47 s)))])) (s : List Nat) (hz : s.length ≤ 800) :
    Ret (runs F [7] bnormpath ([.str s] ++ List.replicate 12 .undef)) (.str (normC 47 46 s)) := by
  have hf : fit s.length := fit_of' (qT hz (by decide))
  have e1 := h1 s
  show Ret (runs F [7] bnormpath [.str s, .undef, .undef, .undef, .undef, .undef, .undef, .undef, .undef, .undef, .undef, .undef, .undef]) _
  by_cases hs : s = []
  · refine yl hs ?_; clear hs
    have ht : truth (.str ([] : List Nat)) = some false := rfl
    have e1 := h1 []
    rw [show normC 47 46 [] = [46] by simp [normC]]
    unfold bnormpath
    trivial
  · have hse : truth (.str s) = some true := (tru_s hf).trans (by rw [show s.isEmpty = false by simpa using hs]; rfl)
    have e2 := h2 s (qT hz (by decide))
    have hn : normC 47 46 s = orDot 46 (List.replicate (slashN (leadC 47 s)) 47 ++ joinC 47 ((splitC 47 (s.drop (slashN (leadC 47 s)))).foldl (fwdStep 46 (decide (0 < slashN (leadC 47 s)))) [])) := by unfold normC; rw [if_neg hs]
    have hnl : slashN (leadC 47 s) ≤ 2 := by unfold slashN; split <;> omega
    rw [hn]
    generalize slashN (leadC 47 s) = n at *
    have hr : (List.replicate n 47).isEmpty = !(decide (0 < n)) := by cases n <;> simp [List.replicate_succ]
    have hi : fit (List.replicate n 47).length := fit_of' (by simp; exact (qT hnl (by decide)))
    generalize hR : s.drop n = R at *
    have hRl : R.length ≤ 800 := by rw [← hR, List.length_drop]; exact (qsl hz)
    have hRf : fit R.length := fit_of' (qT hRl (by decide))
    have hsp : (Txt.split (txt R) (txt [47])).map (fun x => D.str x.cps.toList) = (splitC 47 R).map D.str := split_sign R
    have hsl : (Txt.split (txt R) (txt [47])).length ≤ 100000 := by
      have := congrArg List.length hsp
      rw [List.length_map, List.length_map] at this
      have := splitC_len 47 R
      omega
    refine zEAA (norm_loop (F := F) (root := decide (0 < n)) hr hi (j1 := .str []) (j2 := .list ((splitC 47 R).map D.str)) (p0 := .str R) (splitC 47 R) [] (by have := splitC_len 47 R; simp; exact (qT (qT this (qR hRl _)) (by decide))) (fun x hx => by have := splitC_word 47 R x hx; exact (qT (qT this hRl) (by decide))) (by simp) .undef) fun j3 hl hb hbl => ?_
    have hl' : run F [7] (.for_ 8 (.var 6) bnormpath_1) [.str R, .str [47], .str [46], .str [46, 46], .str [], .str (List.replicate n 47), .list ((splitC 47 R).map D.str), .list [], .undef, .undef, .undef, .undef, .undef] =
        some (.next, [.str R, .str [47], .str [46], .str [46, 46], .str [], .str (List.replicate n 47), .list ((splitC 47 R).map D.str), .list (((splitC 47 R).foldl (fwdStep 46 (decide (0 < n))) []).map .str), j3, .undef, .undef, .undef, .undef]) := r_for (e_var rfl rfl rfl) rfl rfl hl
    clear hl
    generalize (splitC 47 R).foldl (fwdStep 46 (decide (0 < n))) [] = body at *
    have hj : meop "join" (.str [47]) [.list (body.map .str)] = some (.str (joinL [47] body)) := meop_join [47] (B := 900) hb (by
      have : body.length * 900 ≤ 900 * 900 := Nat.mul_le_mul_right _ hbl
      simp; omega)
    have hjl : fit (n + (joinL [47] body).length) := by
      have := joinL_len (sep := [47]) hb
      have : body.length * (900 + [47].length) ≤ 900 * (900 + [47].length) := Nat.mul_le_mul_right _ hbl
      unfold fit; simp at *; omega
    have hne : ¬ ([47] = ([] : List Nat)) := by simp
    generalize hsm : (splitC 47 R).map D.str = SM at *
    have hspm : meop "split" (.str R) [.str [47]] = some (.list SM) := by
      rw [← hsp]; exact sp_s hRf hne hsl
    generalize hJ : joinL [47] body = J at *
    have hJC : joinC 47 body = J := by rw [← hJ, joinL_C]
    rw [hJC]
    have hfA : fit (List.replicate n 47 ++ J).length := by rw [List.length_append, List.length_replicate]; exact hjl
    have hod : orDot 46 (List.replicate n 47 ++ J) = if (List.replicate n 47 ++ J).isEmpty then [46] else List.replicate n 47 ++ J := by
      unfold orDot; simp
    rw [hod]
    have ha : bin .Add (.str (List.replicate n 47)) (.str J) = some (.str (List.replicate n 47 ++ J)) := ba_s (by rw [List.length_replicate]; exact hjl)
    have htr := tru_s hfA
    clear hod hbl hb hJC hJ hsm hsl hsp hn hr hi hne hs h1 h2
    generalize List.replicate n 47 ++ J = A at *
    generalize List.replicate n 47 = N at *
    generalize body.map D.str = BB at *
    have s6 : run F [7] (.asg 6 (.var 7)) [.str R, .str [47], .str [46], .str [46, 46], .str [], .str N, .list SM, .list BB, j3, .undef, .undef, .undef, .undef] = some (.next, [.str R, .str [47], .str [46], .str [46, 46], .str [], .str N, .list BB, .undef, clr 7 j3, .undef, .undef, .undef, .undef]) := rfl
    cases hE : A.isEmpty with
    | true =>
      rw [hE] at htr
      have htr : truth (.str A) = some false := htr
      unfold bnormpath
      trivial
    | false =>
      rw [hE] at htr
      have htr : truth (.str A) = some true := htr
      unfold bnormpath
      trivial
end
section
variable {α : Type} [DecidableEq α]
theorem splitC_cons {c x : α} {r : List α} (h : x ≠ c) : ∃ w ws, splitC c r = w :: ws ∧ splitC c (x :: r) = (x :: w) :: ws := by
  cases hq : splitC c r with
  | nil => exact absurd hq (splitC_ne c r)
  | cons w ws => exact ⟨w, ws, rfl, by conv => lhs; unfold splitC; rw [if_neg h, hq]⟩
theorem splitC_sep {c : α} {r : List α} : splitC c (c :: r) = [] :: splitC c r := by conv => lhs; unfold splitC; rw [if_pos rfl]
theorem splitC_app (c : α) : ∀ (a b : List α), splitC c (a ++ c :: b) = splitC c a ++ splitC c b
  | [], b => by simp only [List.nil_append, splitC_sep]; rfl
  | x :: a, b => by
    by_cases h : x = c
    · subst h
      simp only [List.cons_append, splitC_sep, splitC_sep, splitC_app x a b, List.cons_append]
    · refine zEEA (splitC_cons (r := a) h) fun w ws e1 e2 => ?_
      refine zEEA (splitC_cons (r := a ++ c :: b) h) fun v vs e3 e4 => ?_
      simp only [List.cons_append, e4, e2, List.cons_append]
      simp only [splitC_app c a b, e1, List.cons_append] at e3
      injection e3 with e5 e6
      simp only [← e5, e6]
theorem splitC_one {c : α} : ∀ {l : List α}, c ∉ l → splitC c l = [l]
  | [], _ => rfl
  | x :: r, h => by
    simp only [List.mem_cons, not_or] at h
    refine zEEA (splitC_cons (c := c) (r := r) fun q => h.1 q.symm) fun w ws e1 e2 => ?_
    simp only [splitC_one h.2] at e1
    injection e1 with e3 e4
    simp only [e2, ← e3, ← e4]
theorem splitC_last (c : α) (l : List α) : ∃ ws, splitC c l = ws ++ [tailC c l] := by
  rcases last_cases c l with h | ⟨a, b, rfl, h⟩
  · exact ⟨[], by simp only [splitC_one h, tailC_free h]; rfl⟩
  · exact ⟨splitC c a, by simp only [splitC_app, splitC_one h, tailC_at h]⟩
noncomputable def wt (ws : List (List α)) : Nat := (ws.map fun w => w.length + 1).sum
theorem wt_cons (w : List α) (ws : List (List α)) : wt (w :: ws) = w.length + 1 + wt ws := by unfold wt; rfl
theorem wt_app (a b : List (List α)) : wt (a ++ b) = wt a + wt b := by unfold wt; simp
theorem wt_split (c : α) : ∀ l : List α, wt (splitC c l) = l.length + 1
  | [] => by rfl
  | x :: r => by
    have ih := wt_split c r
    by_cases h : x = c
    · refine yl h ?_; clear h; simp only [splitC_sep, wt_cons, ih]; simp; exact (Nat.add_comm _ _)
    · refine zEEA (splitC_cons (r := r) h) fun w ws e1 e2 => ?_
      simp only [e1, wt_cons] at ih
      simp only [e2, wt_cons]; simp; omega
theorem wt_len (ws : List (List α)) : ws.length ≤ wt ws := by
  induction ws with
  | nil => simp
  | cons w ws ih => simp only [wt_cons]; simp; omega
theorem back_debts (dot : α) : ∀ ws : List (List α), (back dot ws).1 ≤ ws.length
  | [] => by simp [back]
  | c :: w => by
    have ih := back_debts dot w
    by_cases h1 : c = [] ∨ c = [dot]
    · rw [back_skip h1]; simp; exact (qT ih qu)
    · by_cases h2 : c = [dot, dot]
      · refine yl h2 ?_; clear h2; simp only [back_up]; simp; exact ih
      · by_cases h3 : 0 < (back dot w).1
        · rw [back_pay h1 h2 h3]; simp; exact (qT (qT ih qu) qu)
        · rw [back_keep h1 h2 (Nat.le_antisymm (qX h3) qz)]; simp
theorem back_flat (dot c0 : α) : ∀ ws : List (List α), ((back dot ws).2.flatMap (c0 :: ·)).length ≤ wt ws
  | [] => by simp [back, wt]
  | c :: w => by
    have ih := back_flat dot c0 w
    simp only [wt_cons]
    by_cases h1 : c = [] ∨ c = [dot]
    · rw [back_skip h1]; exact (qT ih qv)
    · by_cases h2 : c = [dot, dot]
      · refine yl h2 ?_; clear h2; rw [back_up]; simp only; exact (qT ih qv)
      · by_cases h3 : 0 < (back dot w).1
        · rw [back_pay h1 h2 h3]; simp only; exact (qT ih qv)
        · rw [back_keep h1 h2 (Nat.le_antisymm (qX h3) qz), List.flatMap_cons, List.length_append, List.length_cons]; exact (qF ih _)
theorem lead_le (c : α) : ∀ l : List α, leadC c l ≤ l.length
  | [] => by simp [leadC]
  | x :: r => by
    have ih := lead_le c r
    unfold leadC at ih ⊢
    rw [List.takeWhile_cons]
    split <;> simp <;> exact ih
theorem lead_get (c : α) : ∀ (l : List α) (j : Nat), j ≤ leadC c l → ((l.drop j).take 1 = [c] ↔ j < leadC c l)
  | [], j, h => by simp [leadC] at h; refine yl h ?_; clear h; simp [leadC]
  | x :: r, 0, h => by
    unfold leadC
    rw [List.takeWhile_cons]
    by_cases q : x = c
    · simp [q]
    · simp [q]
  | x :: r, j + 1, h => by
    by_cases q : x = c
    · have e : leadC c (x :: r) = leadC c r + 1 := by unfold leadC; rw [List.takeWhile_cons, if_pos (by simpa using q)]; rfl
      rw [e] at h ⊢
      rw [List.drop_succ_cons, lead_get c r j (by omega)]
      omega
    · have e : leadC c (x :: r) = 0 := by unfold leadC; rw [List.takeWhile_cons, if_neg (by simpa using q)]; rfl
      omega
end
section
set_option maxHeartbeats 1000000
noncomputable def dI (l : List Int) : D := .list (l.map .int)
theorem intsOf_map : ∀ l : List Int, intsOf (l.map D.int) = some l
  | [] => rfl
  | a :: l => by simp only [List.map_cons, intsOf, intsOf_map l]; rfl
theorem dI_inj {a b : List Int} (h : dI a = dI b) : a = b := by
  have h : a.map D.int = b.map D.int := by unfold dI at h; injection h
  have := congrArg intsOf h
  simp only [intsOf_map, intsOf_map] at this
  exact Option.some.inj this
theorem add_dI {a b : List Int} (h : fit (a.length + b.length)) : bin .Add (dI a) (dI b) = some (dI (a ++ b)) := by
  unfold dI
  simp only [bin, addD, vLst, Option.bind_some, List.length_map]
  rw [if_pos h, List.map_append]
theorem mul_dI {a : List Int} {n : Int} (h : few n ∧ a.length ≤ 1000) : bin .Mult (dI a) (.int n) = some (dI (List.replicate n.toNat a).flatten) := by
  unfold dI
  simp only [bin, mulD, vInt, Option.bind_some, List.length_map]
  rw [if_pos h, List.map_flatten, List.map_replicate]
theorem truth_dI {a : List Int} (h : fit a.length) : truth (dI a) = some (!a.isEmpty) := by
  unfold dI
  simp only [truth, List.length_map]
  rw [if_pos h]
  cases a <;> rfl
theorem cutL_map {α β : Type} (f : α → β) (l : List α) (i j : Option Int) : cutL (l.map f) i j = (cutL l i j).map f := by
  unfold cutL
  rw [List.length_map, List.map_take, List.map_drop]
theorem sli_dI {a : List Int} {x y : D} {i j : Option Int} (h : fit a.length) (hx : partOf x = some i) (hy : partOf y = some j) : sli (dI a) x y = some (dI (cutL a i j)) := by
  unfold dI
  simp only [sli, Option.bind_some, hx, hy, List.length_map]
  rw [if_pos h, cutL_map]
theorem getI_map {α β : Type} (f : α → β) (l : List α) (i : Int) : getI (l.map f) i = (getI l i).map f := by
  unfold getI
  simp only [List.length_map]
  split
  · cases seqIndex? i l.length <;> (first | rfl | simp)
  · rfl
theorem idx_dI {a : List Int} {i : Int} : idx (dI a) (.int i) = (getI a i).map .int := by
  unfold dI
  simp only [idx, vInt, Option.bind_some]
  exact getI_map _ _ _
theorem len_dI {a : List Int} (h : fit a.length) : biop "len" [dI a] = some (.int a.length) := by
  unfold dI
  simp only [bi_len, f1, lenD, List.length_map]
  rw [if_pos h]
theorem isL_dI {a : List Int} : isL (dI a) = true := rfl
theorem usable_dI {a : List Int} : usable (dI a) = true := rfl
theorem flat3 (n : Nat) : (List.replicate n [(63 : Int), 62, 62]).flatten = (List.replicate n [(62 : Int), 62]).flatMap (63 :: ·) := by
  induction n with
  | zero => rfl
  | succ n ih => simp only [List.replicate_succ, List.flatten_cons, ih, List.replicate_succ, List.flatMap_cons]
theorem us_int {i : Int} : usable (.int i) = true := rfl
theorem us_str {i : List Nat} : usable (.str i) = true := rfl
theorem us_list {i : List D} : usable (.list i) = true := rfl
theorem us_bytes {i : List UInt8} : usable (.bytes i) = true := rfl
theorem us_obj {i : Addr} : usable (.obj i) = true := rfl
theorem il_int {i : Int} : isL (.int i) = false := rfl
theorem il_bytes {i : List UInt8} : isL (.bytes i) = false := rfl
noncomputable def dII (l : List (List Int)) : D := .list (l.map dI)
noncomputable abbrev leadE : E := .cmp .Eq (.sl (.var 0) (.var 1) (.bin .Add (.var 1) (.lit (.int (1))))) (.list (.cons (.lit (.int (63))) .nil))
theorem straight_lead {F : FO} {p : List Int} (hf : fit p.length) (hz : p.length ≤ 900) :
    run F [] (.whl leadE b_law_straight_1) [dI p, .int 0, .undef, .undef, .undef, .undef] = some (.next, [dI p, .int (leadC 63 p : Nat), .undef, .undef, .undef, .undef]) := by
  have hl := lead_le 63 p
  refine zE (⟨_, fun _ _ => .rfl⟩ : ∃ I : Nat → List D → Prop, ∀ m Γ, I m Γ ↔ ∃ j : Nat, Γ = [dI p, .int (j : Nat), .undef, .undef, .undef, .undef] ∧ j ≤ leadC 63 p ∧ m = leadC 63 p - j) fun I hI => ?_
  refine zEEA (whl_inv (F := F) (own := []) (c := leadE) (b := b_law_straight_1) I (fun fl Γ => fl = .next ∧ Γ = [dI p, .int (leadC 63 p : Nat), .undef, .undef, .undef, .undef]) (fun m Γ hi => ?_) ((hI _ [dI p, .int 0, .undef, .undef, .undef, .undef]).mpr ⟨0, rfl, Nat.zero_le _, rfl⟩) (qM (qsl (qT hl hz)) (by decide))) fun fl Γ' e h => ?_
  · refine zEAA ((hI m Γ).mp hi) ?_; clear hi; rintro j rfl h2 rfl
    have hg := lead_get 63 p j h2
    have hs : sli (dI p) (.int (j : Nat)) (.int ((j : Int) + 1)) = some (dI ((p.drop j).take 1)) := by rw [sli_dI hf rfl rfl, cut_one]
    by_cases hlt : j < leadC 63 p
    · have h63 := hg.mpr hlt
      exact .next (leadC 63 p - (j + 1)) _ (by trivial) (qK hlt) (by unfold b_law_straight_1; trivial) ((hI _ _).mpr ⟨j + 1, rfl, by exact hlt, rfl⟩)
    · have h63 : ¬ (p.drop j).take 1 = [63] := fun q => hlt (hg.mp q)
      refine .stop (by trivial) ⟨rfl, ?_⟩
      rw [show j = leadC 63 p by exact (Nat.le_antisymm h2 (qX hlt))]
  · rw [h.1, h.2] at e; exact e
noncomputable abbrev sst (p : D) (n : Nat) (suf : List (List Int)) (j : D) : List D := [p, .int (n : Nat), .int ((back 62 suf).1 : Nat), dI ((back 62 suf).2.flatMap (63 :: ·)), j, .undef]
theorem straight_step {F : FO} {p : D} {n : Nat} {suf : List (List Int)} {c : List Int} (hz : c.length + 1 + wt suf ≤ 901) : runs F [] b_law_straight_2 (sst p n suf (dI c)) = some (.next, sst p n (c :: suf) (dI c)) := by
  have hd := back_debts 62 suf
  have hsl := wt_len suf
  have hfl := back_flat 62 63 suf
  unfold b_law_straight_2 sst
  by_cases h1 : c = [62, 62]
  · refine yl h1 ?_; clear h1
    rw [back_up]
    trivial
  · by_cases h2 : c = [] ∨ c = [62]
    · rw [back_skip h2]
      rcases h2 with rfl | rfl <;> trivial
    · have h20 : ¬ c = [] := fun q => h2 (.inl q)
      have h21 : ¬ c = [62] := fun q => h2 (.inr q)
      by_cases h3 : 0 < (back 62 suf).1
      · rw [back_pay h2 h1 h3]
        have h3' : (0 : Int) < ((back 62 suf).1 : Int) := by exact (ql h3)
        have e5 : bin .Sub (.int ((back 62 suf).1 : Nat)) (.int 1) = some (.int (((back 62 suf).1 - 1 : Nat) : Int)) := congrArg (fun z => some (D.int z)) (by omega)
        generalize (back 62 suf).1 - 1 = y at *
        generalize (back 62 suf).1 = x at *
        trivial
      · rw [back_keep h2 h1 (Nat.le_antisymm (qX h3) qz)]
        have h30 : (back 62 suf).1 = 0 := by exact (Nat.le_antisymm (qX h3) qz)
        rw [h30]
        have a1 : bin .Add (dI [63]) (dI c) = some (dI (63 :: c)) := add_dI (a := [63]) (b := c) (fit_of' (by simp; exact (qT (qF (qT (qT qu qu) hz) _) (by decide))))
        have a2 : bin .Add (dI (63 :: c)) (dI ((back 62 suf).2.flatMap (63 :: ·))) = some (dI ((c :: (back 62 suf).2).flatMap (63 :: ·))) := add_dI (fit_of' (by simp only [List.length_cons]; exact (qT (qT (qA qr hfl) hz) (by decide))))
        generalize (c :: (back 62 suf).2).flatMap (63 :: ·) = y at *
        generalize (back 62 suf).2.flatMap (63 :: ·) = x at *
        have w : ev F [] false [p, .int (n : Nat), .int ((0 : Nat) : Int), dI x, dI c, .undef] (.bin .Add (.bin .Add (.list (.cons (.lit (.int (63))) .nil)) (.var 4)) (.var 3)) = some (dI y) := e_bin (e_bin (e_list (e_cons e_lit e_nil)) (e_var rfl rfl rfl) a1) (e_var rfl rfl rfl) a2
        have w1 : tv F [] [p, .int (n : Nat), .int ((0 : Nat) : Int), dI x, dI c, .undef] (.cmp .Gt (.var 2) (.lit (.int (0)))) = some false := by trivial
        have w2 : tv F [] [p, .int (n : Nat), .int ((0 : Nat) : Int), dI x, dI c, .undef] (.and (.cmp .NotEq (.var 4) (.list .nil)) (.cmp .NotEq (.var 4) (.list (.cons (.lit (.int (62))) .nil)))) = some true := by trivial
        have w3 : tv F [] [p, .int (n : Nat), .int ((0 : Nat) : Int), dI x, dI c, .undef] (.cmp .Eq (.var 4) (.list (.cons (.lit (.int (62))) (.cons (.lit (.int (62))) .nil)))) = some false := by trivial
        exact k_if0 w3 (k_if1 w2 (k_if0 w1 (k_asg w rfl rfl (k_nil rfl)) (k_nil rfl)) (k_nil rfl)) (k_nil rfl)
theorem straight_loop {F : FO} {p : D} {n : Nat} : ∀ (rs suf : List (List Int)) (j : D), wt rs + wt suf ≤ 901 → ∃ k, forL (fun x Γ => runs F [] b_law_straight_2 (setv [] 4 x Γ)) (rs.map dI) (sst p n suf j) = some (.next, sst p n (rs.reverse ++ suf) k)
  | [], suf, j, _ => ⟨j, rfl⟩
  | c :: rs, suf, j, h => by
    rw [wt_cons] at h
    refine zE (straight_loop (F := F) (p := p) (n := n) rs (c :: suf) (dI c) (by rw [wt_cons]; omega)) fun k e => ⟨k, ?_⟩
    rw [List.reverse_cons, List.append_assoc]
    exact (f_next (straight_step (by omega))).trans e
theorem straight_run {F : FO} {p : List Int} (hz : p.length ≤ 900) (h1 : F "_law_names" [dI p] = some (dII (splitC 63 p))) :
    Ret (runs F [] b_law_straight ([dI p] ++ List.replicate 5 .undef)) (dI (straightC 63 62 p)) := by
  have hf : fit p.length := fit_of' (qT hz (by decide))
  have hw := straight_lead (F := F) hf hz
  have hn : straightC 63 62 p = orDot 62 (List.replicate (slashN (leadC 63 p)) 63 ++ joinC 63 ((if slashN (leadC 63 p) = 0 then List.replicate (back 62 (splitC 63 p)).1 [62, 62] else []) ++ (back 62 (splitC 63 p)).2)) := rfl
  have hsl : run F [] (.iff (.cmp .Gt (.var 1) (.lit (.int (2)))) (.cons (.asg 1 (.lit (.int (1)))) .nil) .nil) [dI p, .int (leadC 63 p : Nat), .undef, .undef, .undef, .undef] = some (.next, [dI p, .int (slashN (leadC 63 p) : Nat), .undef, .undef, .undef, .undef]) := by
    unfold slashN
    by_cases h : 2 < leadC 63 p
    · have h' : (2 : Int) < (leadC 63 p : Int) := by exact (ql h)
      rw [if_pos h]
      trivial
    · have h' : ¬ (2 : Int) < (leadC 63 p : Int) := by exact (Int.not_lt.mpr (qe (qX h)))
      rw [if_neg h]
      trivial
  rw [hn]
  have hnl : slashN (leadC 63 p) ≤ 2 := by unfold slashN; split <;> omega
  clear hn
  generalize slashN (leadC 63 p) = n at *
  have hwt : wt (splitC 63 p) = p.length + 1 := wt_split ..
  generalize splitC 63 p = ws at *
  have hwl : ws.length ≤ 901 := by have := wt_len ws; exact (qT this (qet hwt (qR hz _)))
  have hfw : fit (ws.map dI).length := fit_of' (by simp; exact (qT hwl (by decide)))
  have wr : wt ws.reverse = wt ws := by unfold wt; simp
  refine zE (straight_loop (F := F) (p := dI p) (n := n) ws.reverse [] .undef (by rw [wr, hwt]; show _ + 0 ≤ _; exact (qR (qR hz _) _))) fun j5 hl => ?_
  rw [List.map_reverse, List.reverse_reverse, List.append_nil] at hl
  have hfor : run F [] (.for_ 4 (.rev (.fn "_law_names" (.cons (.var 0) .nil))) b_law_straight_2) [dI p, .int (n : Nat), .int 0, dI [], .undef, .undef] = some (.next, sst (dI p) n ws j5) :=
    r_for (e_rev (e_fn (e_cons (e_var rfl rfl rfl) e_nil) h1) hfw) rfl rfl hl
  clear hl h1
  unfold sst at hfor
  have hd := back_debts 62 ws
  have hfl := back_flat 62 63 ws
  generalize (back 62 ws).1 = bd at *
  generalize (back 62 ws).2 = bk at *
  have hif : ∃ kept, run F [] (.iff (.cmp .Eq (.var 1) (.lit (.int (0)))) (.cons (.asg 3 (.bin .Add (.bin .Mult (.list (.cons (.lit (.int (63))) (.cons (.lit (.int (62))) (.cons (.lit (.int (62))) .nil)))) (.var 2)) (.var 3))) .nil) .nil) [dI p, .int (n : Nat), .int (bd : Nat), dI (bk.flatMap (63 :: ·)), j5, .undef] =
      some (.next, [dI p, .int (n : Nat), .int (bd : Nat), dI kept, j5, .undef]) ∧ kept.length ≤ 9000 ∧ kept.drop 1 = joinC 63 ((if n = 0 then List.replicate bd [62, 62] else []) ++ bk) := by
    by_cases h0 : n = 0
    · refine ⟨(List.replicate bd [62, 62] ++ bk).flatMap (63 :: ·), ?_, ?_, ?_⟩
      · have hm := mul_dI (a := [63, 62, 62]) (n := (bd : Int)) ⟨by unfold few; exact ⟨(qn _), (qe (qT (qT hd hwl) (by decide)))⟩, by decide⟩
        rw [Int.toNat_natCast, flat3] at hm
        have hl3 : ((List.replicate bd [(62 : Int), 62]).flatMap (63 :: ·)).length = 3 * bd := by rw [← flat3]; simp; omega
        have ha := add_dI (a := (List.replicate bd [(62 : Int), 62]).flatMap (63 :: ·)) (b := bk.flatMap (63 :: ·)) (by unfold fit; omega)
        rw [← List.flatMap_append] at ha
        rw [h0]
        trivial
      · have hl3 : ((List.replicate bd [(62 : Int), 62]).flatMap (63 :: ·)).length = 3 * bd := by rw [← flat3]; simp; omega
        rw [List.flatMap_append, List.length_append, hl3]
        omega
      · rw [if_pos h0, joinC_drop]
    · refine ⟨bk.flatMap (63 :: ·), ?_, by omega, by rw [if_neg h0, List.nil_append, joinC_drop]⟩
      have h0' : ¬ ((n : Int) = 0) := by omega
      trivial
  refine zEAA hif ?_; clear hif; intro kept hif hkl hkd
  rw [← hkd]
  have hm := mul_dI (a := [63]) (n := (n : Int)) ⟨by unfold few; exact ⟨(qn _), (qe (qT hnl (by decide)))⟩, by decide⟩
  rw [Int.toNat_natCast, rep1] at hm
  have hs : sli (dI kept) (.int 1) .none = some (dI (kept.drop 1)) := by rw [sli_dI (by unfold fit; exact (qT hkl (by decide))) rfl rfl, cut_from1]
  have ha := add_dI (a := List.replicate n 63) (b := kept.drop 1) (by unfold fit; simp; exact (qT (qA hnl (qsl hkl)) (by decide)))
  have ht := truth_dI (a := List.replicate n 63 ++ kept.drop 1) (by unfold fit; simp; exact (qT (qA hnl (qsl hkl)) (by decide)))
  have hod : orDot 62 (List.replicate n 63 ++ kept.drop 1) = if (List.replicate n 63 ++ kept.drop 1).isEmpty then [62] else List.replicate n 63 ++ kept.drop 1 := by unfold orDot; simp
  rw [hod]
  generalize hkt : kept.drop 1 = kt at *
  generalize List.replicate n 63 ++ kt = res at *
  show Ret (runs F [] b_law_straight [dI p, .undef, .undef, .undef, .undef, .undef]) _
  have ht2 : ev F [] false [dI p, .int (n : Nat), .int (bd : Nat), dI kept, j5, .undef] (.or (.bin .Add (.bin .Mult (.list (.cons (.lit (.int (63))) .nil)) (.var 1)) (.sl (.var 3) (.lit (.int (1))) (.lit .none))) (.list (.cons (.lit (.int (62))) .nil))) = some (dI (if res.isEmpty = true then [62] else res)) := by
    cases hE : res.isEmpty with
    | true => rw [hE] at ht; have ht : truth (dI res) = some false := ht; trivial
    | false => rw [hE] at ht; have ht : truth (dI res) = some true := ht; trivial
  generalize dI (if res.isEmpty = true then [62] else res) = out at *
  clear ht hs hm ha
  unfold b_law_straight
  trivial
end
section
set_option maxHeartbeats 1000000
theorem forL_range {step : D → List D → Option (Fl × List D)} (g : Nat → D) (I : Nat → List D → Prop) (R : D → Prop) : ∀ (n a : Nat) (Γ : List D), I a Γ →
    (∀ k Γ, a ≤ k → k < a + n → I k Γ → (∃ Γ', (step (g k) Γ = some (.next, Γ') ∨ step (g k) Γ = some (.cont, Γ')) ∧ I (k + 1) Γ') ∨ ∃ v Γ', step (g k) Γ = some (.ret v, Γ') ∧ R v) →
    (∃ Γ', forL step ((List.range' a n).map g) Γ = some (.next, Γ') ∧ I (a + n) Γ') ∨ ∃ v Γ', forL step ((List.range' a n).map g) Γ = some (.ret v, Γ') ∧ R v
  | 0, a, Γ, h, _ => .inl ⟨Γ, rfl, h⟩
  | n + 1, a, Γ, h, hs => by
    rw [List.range'_succ, List.map_cons]
    rcases hs a Γ qr (by omega) h with ⟨Γ', q, h'⟩ | ⟨v, Γ', q, hv⟩
    · rcases forL_range g I R n (a + 1) Γ' h' (fun k Γ h1 h2 h3 => hs k Γ (by omega) (by omega) h3) with ⟨Γ2, q2, h2⟩ | ⟨v, Γ2, q2, h2⟩
      · exact .inl ⟨Γ2, by rcases q with q | q <;> (simp only [forL, q]; exact q2), by rw [show a + (n + 1) = a + 1 + n by exact (Eq.trans (Nat.add_assoc _ _ _).symm (Nat.add_right_comm _ _ _))]; exact h2⟩
      · exact .inr ⟨v, Γ2, by rcases q with q | q <;> (simp only [forL, q]; exact q2), h2⟩
    · exact .inr ⟨v, Γ', by simp only [forL, q], hv⟩
theorem forL_rangeN {step : D → List D → Option (Fl × List D)} (g : Nat → D) (I : Nat → List D → Prop) (n : Nat) (Γ : List D) (h : I 0 Γ)
    (hs : ∀ k Γ, k < n → I k Γ → ∃ Γ', (step (g k) Γ = some (.next, Γ') ∨ step (g k) Γ = some (.cont, Γ')) ∧ I (k + 1) Γ') : ∃ Γ', forL step ((List.range n).map g) Γ = some (.next, Γ') ∧ I n Γ' := by
  rw [List.range_eq_range']
  rcases forL_range (step := step) g I (fun _ => False) n 0 Γ h (fun k Γ _ h2 h3 => .inl (hs k Γ (by omega) h3)) with ⟨Γ2, q2, h2⟩ | ⟨v, Γ2, _, h2⟩
  · exact ⟨Γ2, q2, by rw [Nat.zero_add] at h2; exact h2⟩
  · exact h2.elim
theorem range_nat {n : Nat} (h : n ≤ 100000) : rangeOf [.int (n : Nat)] = some ((List.range n).map fun i => .int (i : Nat)) := by
  simp only [rangeOf, vInt, Option.bind_some]
  rw [if_pos (by unfold small; exact (qM h (by decide)))]
  unfold rangeL rangeN
  have : (((n : Int) - 0 + 1 - 1) / 1).toNat = n := by simp
  rw [this]
  simp
theorem stripR_snoc {c : Int} {h : List Int} : stripR c (h ++ [c]) = stripR c h := by
  unfold stripR
  rw [List.reverse_append, List.reverse_cons, List.reverse_nil, List.nil_append, List.cons_append, List.nil_append, List.dropWhile_cons, if_pos (by simp)]
theorem stripR_stop {c y : Int} {h : List Int} (hy : y ≠ c) : stripR c (h ++ [y]) = h ++ [y] := by
  unfold stripR
  rw [List.reverse_append, List.reverse_cons, List.reverse_nil, List.nil_append, List.cons_append, List.nil_append, List.dropWhile_cons, if_neg (by simpa using hy)]
  simp
theorem tailC_le (c : Int) (l : List Int) : (tailC c l).length ≤ l.length := by
  rcases last_cases c l with h | ⟨a, b, rfl, h⟩
  · rw [tailC_free h]; exact Nat.le_refl _
  · rw [tailC_at h]; simp; exact (qT qu qv)
noncomputable abbrev halfE : E := .cmp .Eq (.idx (.var 2) (.neg (.lit (.int (1))))) (.lit (.int (63)))
theorem halves_loop {F : FO} {a b : D} {H : List Int} (hH : H.length ≤ 900) (hq : ¬ H = List.replicate H.length 63) : run F [] (.whl halfE b_law_halves_1) [a, b, dI H, .undef, .undef] = some (.next, [a, b, dI (stripR 63 H), .undef, .undef]) := by
  refine zE (⟨_, fun _ _ => .rfl⟩ : ∃ I : Nat → List D → Prop, ∀ m Γ, I m Γ ↔ ∃ h, Γ = [a, b, dI h, .undef, .undef] ∧ h.length ≤ 900 ∧ m = h.length ∧ stripR 63 h = stripR 63 H ∧ ∃ x ∈ h, x ≠ 63) fun I hI => ?_
  refine zEEA (whl_inv (F := F) (own := []) (c := halfE) (b := b_law_halves_1) I (fun fl Γ => fl = .next ∧ Γ = [a, b, dI (stripR 63 H), .undef, .undef]) (fun m Γ hi => ?_) ((hI _ _).mpr ⟨H, rfl, hH, rfl, rfl, Classical.byContradiction fun hno => hq (List.eq_replicate_iff.mpr ⟨rfl, fun x hx => Classical.byContradiction fun q => hno ⟨x, hx, q⟩⟩)⟩) (qM hH (by decide))) fun fl Γ' e h => ?_
  · obtain ⟨h, rfl, h2, rfl, h3, x, hx, hx63⟩ := (hI m Γ).mp hi
    clear hi
    rcases List.eq_nil_or_concat h with rfl | ⟨h', y, rfl⟩
    · exact absurd hx (List.not_mem_nil)
    · rw [List.concat_eq_append] at *
      have hi : idx (dI (h' ++ [y])) (.int (-1)) = some (.int y) := by rw [idx_dI, getI_last]; rfl
      by_cases hy : y = 63
      · subst hy
        have hcut : sli (dI (h' ++ [63])) .none (.int (-1)) = some (dI h') := by
          rw [sli_dI (fit_of' (qT h2 (by decide))) rfl rfl]
          have := cut_neg (h' ++ [(63 : Int)]) (k := 1) (by decide)
          rw [show (-((1 : Nat) : Int)) = -1 from rfl] at this
          rw [this]
          simp
        refine .next h'.length [a, b, dI h', .undef, .undef] (by trivial) (by simp) (by unfold b_law_halves_1; trivial) ((hI _ _).mpr ⟨h', rfl, by simp at h2; exact (qT h2 (by decide)), rfl, by rw [← h3, stripR_snoc], x, ?_, hx63⟩)
        rcases List.mem_append.mp hx with hx | hx
        · exact hx
        · exact absurd (List.mem_singleton.mp hx) hx63
      · refine .stop (by trivial) ⟨rfl, ?_⟩
        rw [← h3, stripR_stop hy]
  · rw [h.1, h.2] at e; exact e
theorem halves_run {F : FO} {p : List Int} (hz : p.length ≤ 900) (h1 : F "_law_names" [dI p] = some (dII (splitC 63 p))) :
    Ret (runs F [] b_law_halves ([dI p] ++ List.replicate 4 .undef)) (.tup [dI (halvesC 63 p).1, dI (halvesC 63 p).2]) := by
  refine zE (splitC_last 63 p) fun ws hws => ?_
  have hidx : idx (dII (splitC 63 p)) (.int (-1)) = some (dI (tailC 63 p)) := by
    rw [hws]; unfold dII; simp only [idx, vInt, Option.bind_some, List.map_append, List.map_cons, List.map_nil]; exact getI_last _ _
  have htl := tailC_le 63 p
  have hh : headC 63 p = p.take (p.length - (tailC 63 p).length) := rfl
  have hf : fit p.length := fit_of' (qT hz (by decide))
  have hft : fit (tailC 63 p).length := fit_of' (qT (qT htl hz) (by decide))
  have hsub : (p.length : Int) - ((tailC 63 p).length : Int) = ((p.length - (tailC 63 p).length : Nat) : Int) := by exact (qs htl)
  have hsl : sli (dI p) .none (.int ((p.length : Int) - ((tailC 63 p).length : Int))) = some (dI (headC 63 p)) := by rw [hsub, sli_dI hf rfl rfl, cut_to, hh]
  have hHl : (headC 63 p).length ≤ 900 := by simp only [hh, List.length_take]; exact (qmr hz)
  have hhv : halvesC 63 p = (if headC 63 p = List.replicate (headC 63 p).length 63 then headC 63 p else stripR 63 (headC 63 p), tailC 63 p) := rfl
  rw [hhv]
  generalize headC 63 p = H at *
  generalize tailC 63 p = T at *
  have hfH : fit H.length := fit_of' (qT hHl (by decide))
  have hm := mul_dI (a := [63]) (n := (H.length : Int)) ⟨by unfold few; exact ⟨(qn _), (qe (qT hHl (by decide)))⟩, by decide⟩
  simp only [Int.toNat_natCast, rep1] at hm
  have lp := len_dI hf
  have lt := len_dI hft
  have lH := len_dI hfH
  have w : ev F [] false [dI p, dI T, .undef, .undef, .undef] (.sl (.var 0) (.lit .none) (.bin .Sub (.bi "len" (.cons (.var 0) .nil)) (.bi "len" (.cons (.var 1) .nil)))) = some (dI H) :=
    e_sl (e_var rfl rfl rfl) e_lit (e_bin (e_bi (e_cons (e_var rfl rfl rfl) e_nil) lp) (e_bi (e_cons (e_var rfl rfl rfl) e_nil) lt) rfl) hsl
  show Ret (runs F [] b_law_halves [dI p, .undef, .undef, .undef, .undef]) _
  have tail : ∀ Z : List Int, run F [] (.iff (.cmp .NotEq (.var 2) (.bin .Mult (.list (.cons (.lit (.int (63))) .nil)) (.bi "len" (.cons (.var 2) .nil)))) (.cons (.whl halfE b_law_halves_1) .nil) .nil) [dI p, dI T, dI H, .undef, .undef] = some (.next, [dI p, dI T, dI Z, .undef, .undef]) →
      Ret (runs F [] b_law_halves [dI p, .undef, .undef, .undef, .undef]) (.tup [dI Z, dI T]) := fun Z h => by
    unfold b_law_halves
    exact .of (k_asg (e_idx (e_fn (e_cons (e_var rfl rfl rfl) e_nil) h1) (e_neg e_lit) hidx) rfl rfl (k_asg w rfl rfl (k_step h (k_ret (e_tup (e_cons (e_var rfl rfl rfl) (e_cons (e_var rfl rfl rfl) e_nil))) rfl rfl))))
  by_cases hq : H = List.replicate H.length 63
  · rw [if_pos hq]
    exact tail H (r_if0 (t_cmp (e_var rfl rfl rfl) (e_bin (e_list (e_cons e_lit e_nil)) (e_bi (e_cons (e_var rfl rfl rfl) e_nil) lH) hm) (n_l0 (ints_map _) (ints_map _) hq)) (k_nil rfl))
  · rw [if_neg hq]
    exact tail _ (r_if1 (t_cmp (e_var rfl rfl rfl) (e_bin (e_list (e_cons e_lit e_nil)) (e_bi (e_cons (e_var rfl rfl rfl) e_nil) lH) hm) (n_l1 (ints_map _) (ints_map _) hq)) (k_step (halves_loop hHl hq) (k_nil rfl)))
end
section
set_option maxHeartbeats 1000000
theorem deq_int {a b : Int} : deq (.int a) (.int b) = some (decide (a = b)) := rfl
theorem deq_str {a b : List Nat} : deq (.str a) (.str b) = some (decide (a = b)) := rfl
theorem tr_bool {b : Bool} : truth (.bool b) = some b := rfl
def SInv (p t : List Int) (k : Nat) (st : List Int) : Prop := (62 ∉ t.take k ∧ st = p) ∨ ∃ a b, t.take k = a ++ 62 :: b ∧ 62 ∉ b ∧ st = if a = List.replicate a.length 62 then p else p.take (p.length - t.length + a.length)
theorem stem_step {F : FO} {p t : List Int} (hz : p.length ≤ 900) (ht : t.length ≤ p.length) {k : Nat} (hk : k < t.length) {st : List Int} (hinv : SInv p t k st) :
    ∃ st', runs F [] b_law_stem_1 [dI p, dI t, dI st, .int (k : Nat), .undef, .undef] = some (.next, [dI p, dI t, dI st', .int (k : Nat), .undef, .undef]) ∧ SInv p t (k + 1) st' := by
  have hf : fit p.length := fit_of' (qT hz (by decide))
  have hft : fit t.length := fit_of' (qT (qT ht hz) (by decide))
  have hidx : idx (dI t) (.int (k : Nat)) = some (.int t[k]) := by simp only [idx_dI, getI_nat hk (qM (qT (qW hk) (qT ht hz)) (by decide))]; rfl
  have htk : t.take (k + 1) = t.take k ++ [t[k]] := by simp only [List.take_add_one, List.getElem?_eq_getElem hk]; rfl
  have hsl : sli (dI t) .none (.int (k : Nat)) = some (dI (t.take k)) := by rw [sli_dI hft rfl rfl, cut_to]
  have hm := mul_dI (a := [62]) (n := (k : Int)) ⟨by unfold few; exact ⟨(qn _), (qe (qT (qT (qW hk) (qT ht hz)) (by decide)))⟩, by decide⟩
  rw [Int.toNat_natCast, rep1] at hm
  have hlk : (t.take k).length = k := by rw [List.length_take]; exact (Nat.min_eq_left (qW hk))
  unfold b_law_stem_1
  by_cases h62 : t[k] = 62
  · rw [h62] at htk hidx
    by_cases hr : t.take k = List.replicate k 62
    · refine ⟨st, by trivial, .inr ⟨t.take k, [], htk, by simp, ?_⟩⟩
      rw [hlk, if_pos hr]
      rcases hinv with ⟨_, h⟩ | ⟨a, b, ha, hb, h⟩
      · exact h
      · have haa : a = List.replicate a.length 62 := by
          refine List.eq_replicate_iff.mpr ⟨rfl, fun x hx => ?_⟩
          have : x ∈ t.take k := by rw [ha]; exact List.mem_append_left _ hx
          rw [hr] at this
          exact (List.mem_replicate.mp this).2
        rw [h, if_pos haa]
    · have lp := len_dI hf
      have lt := len_dI hft
      have hcut : sli (dI p) .none (.int ((p.length : Int) - (t.length : Int) + (k : Int))) = some (dI (p.take (p.length - t.length + k))) := by rw [show (p.length : Int) - (t.length : Int) + (k : Int) = ((p.length - t.length + k : Nat) : Int) by omega, sli_dI hf rfl rfl, cut_to]
      refine ⟨p.take (p.length - t.length + k), ?_, .inr ⟨t.take k, [], htk, by simp, by rw [hlk, if_neg hr]⟩⟩
      have w : ev F [] false [dI p, dI t, dI st, .int (k : Nat), .undef, .undef] (.sl (.var 0) (.lit .none) (.bin .Add (.bin .Sub (.bi "len" (.cons (.var 0) .nil)) (.bi "len" (.cons (.var 1) .nil))) (.var 3))) = some (dI (p.take (p.length - t.length + k))) :=
        e_sl (e_var rfl rfl rfl) e_lit (e_bin (e_bin (e_bi (e_cons (e_var rfl rfl rfl) e_nil) lp) (e_bi (e_cons (e_var rfl rfl rfl) e_nil) lt) rfl) (e_var rfl rfl rfl) rfl) hcut
      trivial
  · refine ⟨st, by trivial, ?_⟩
    unfold SInv
    rcases hinv with ⟨h1, h2⟩ | ⟨a, b, ha, hb, h⟩
    · refine .inl ⟨?_, h2⟩
      rw [htk, List.mem_append, not_or]
      exact ⟨h1, by simpa using fun q => h62 q.symm⟩
    · refine .inr ⟨a, b ++ [t[k]], by rw [htk, ha]; simp, ?_, h⟩
      rw [List.mem_append, not_or]
      exact ⟨hb, by simpa using fun q => h62 q.symm⟩
theorem stem_loop {F : FO} {p t : List Int} (hz : p.length ≤ 900) (ht : t.length ≤ p.length) : ∀ (n k : Nat) (st : List Int) (j : D), k + n = t.length → SInv p t k st →
    ∃ st' j', forL (fun x Γ => runs F [] b_law_stem_1 (setv [] 3 x Γ)) ((List.range' k n).map fun i => .int ((i : Nat) : Int)) [dI p, dI t, dI st, j, .undef, .undef] = some (.next, [dI p, dI t, dI st', j', .undef, .undef]) ∧ SInv p t t.length st'
  | 0, k, st, j, h, hi => ⟨st, j, rfl, by rw [← h]; exact hi⟩
  | n + 1, k, st, j, h, hi => by
    refine zEA (stem_step (F := F) hz ht (by omega) hi) fun st1 e1 hi1 => ?_
    refine zEEA (stem_loop (F := F) hz ht n (k + 1) st1 (.int (k : Nat)) (Eq.trans (Eq.trans (Nat.add_comm _ _) (Nat.add_left_comm _ _ _)) h) hi1) fun st2 j2 e2 hi2 => ⟨st2, j2, (f_next e1).trans e2, hi2⟩
theorem stem_run {F : FO} {p t : List Int} (hz : p.length ≤ 900) (ht : t.length ≤ p.length) :
    Ret (runs F [] b_law_stem ([dI p, dI t] ++ List.replicate 4 .undef)) (dI (stemC 62 p t)) := by
  have hft : fit t.length := fit_of' (qT (qT ht hz) (by decide))
  refine zEEA (stem_loop (F := F) hz ht t.length 0 p .undef (Nat.zero_add _) (.inl ⟨by simp, rfl⟩)) fun st j hl hinv => ?_
  unfold SInv at hinv
  rw [List.take_length] at hinv
  have hst : st = stemC 62 p t := by
    rcases hinv with ⟨h1, h2⟩ | ⟨a, b, ha, hb, h⟩
    · rw [stem_free h1, h2]
    · rw [ha, stem_at hb, h]
      have hl := congrArg List.length ha
      simp at hl
      rw [qs4 ht hl]
  subst hst
  have hrg := range_nat (n := t.length) (qT (qT ht hz) (by decide))
  rw [List.range_eq_range'] at hrg
  show Ret (runs F [] b_law_stem [dI p, dI t, .undef, .undef, .undef, .undef]) _
  unfold b_law_stem
  exact .of (k_copy rfl rfl rfl rfl (k_step (r_forR (e_cons (e_bi (e_cons (e_var rfl rfl rfl) e_nil) (len_dI hft)) e_nil) hrg rfl hl) (k_retV rfl rfl rfl)))
end
section
set_option maxHeartbeats 1000000
noncomputable def leftOf (n : Int) : Int := n.fmod 1000000000
noncomputable def tblOf (x y : Int) : List (List Int × List Int) := [([62], [63, 0]), ([63], [63]), ([0], [0]), ([62], []), ([63], [62]), ([x], [x]), ([62], [62, 62, 63]), ([0], [1]), ([], [63]), ([1], [1]), ([62], [x]), ([63], [62, 62]), ([], [62]), ([0], [0]), ([62], [1, 62, 0]), ([x], [y])]
noncomputable def itemOf (n : Int) : List Int × List Int := (tblOf (((leftOf n).fdiv 16).fmod 64) (((leftOf n).fdiv 1024).fmod 64)).getD ((leftOf n).fmod 16).toNat ([], [])
noncomputable def dP (z : List Int × List Int) : D := .tup [dI z.1, dI z.2]
theorem item_run {F : FO} (n : Int) : Ret (runs F [] b_law_item ([.int n] ++ List.replicate 3 .undef)) (dP (itemOf n)) := by
  have hl : bin .Mod (.int n) (.int 1000000000) = some (.int (leftOf n)) := by simp only [bin, i2, vInt, Option.bind_some]; rw [if_pos (by decide)]; rfl
  have hp : bin .Pow (.int 10) (.int 9) = some (.int 1000000000) := by simp only [bin, i2, vInt, Option.bind_some]; rw [if_pos (by decide)]; rfl
  unfold itemOf
  generalize leftOf n = L at *
  have hx1 : bin .FloorDiv (.int L) (.int 16) = some (.int (L.fdiv 16)) := by simp only [bin, i2, vInt, Option.bind_some]; rw [if_pos (by decide)]
  have hy1 : bin .FloorDiv (.int L) (.int 1024) = some (.int (L.fdiv 1024)) := by simp only [bin, i2, vInt, Option.bind_some]; rw [if_pos (by decide)]
  have hm64 : ∀ a : Int, bin .Mod (.int a) (.int 64) = some (.int (a.fmod 64)) := fun a => by simp only [bin, i2, vInt, Option.bind_some]; rw [if_pos (by decide)]
  have hm16 : bin .Mod (.int L) (.int 16) = some (.int (L.fmod 16)) := by simp only [bin, i2, vInt, Option.bind_some]; rw [if_pos (by decide)]
  have hi0 : 0 ≤ L.fmod 16 := Int.fmod_nonneg_of_pos L (by decide)
  have hi1 : L.fmod 16 < 16 := Int.fmod_lt_of_pos L (by decide)
  generalize hx : (L.fdiv 16).fmod 64 = x at *
  have key : ∀ y : Int, idx (.list ((tblOf x y).map dP)) (.int (L.fmod 16)) = some (dP ((tblOf x y).getD (L.fmod 16).toNat ([], []))) := fun y => by
    have hlen : (tblOf x y).length = 16 := rfl
    obtain ⟨i, hi⟩ : ∃ i : Nat, L.fmod 16 = (i : Int) := ⟨(L.fmod 16).toNat, by exact (Int.toNat_of_nonneg hi0).symm⟩
    rw [hi]
    have hlt : i < ((tblOf x y).map dP).length := by simp only [List.length_map, hlen]; omega
    simp only [idx, vInt, Option.bind_some]
    simp only [getI_nat hlt (by omega), List.getElem_map, Int.toNat_natCast]
    simp only [List.length_map] at hlt
    simp [List.getD, hlt]
  have keyL : ∀ y : Int, D.list ((tblOf x y).map dP) = D.list [.tup [.list [.int 62], .list [.int 63, .int 0]], .tup [.list [.int 63], .list [.int 63]], .tup [.list [.int 0], .list [.int 0]], .tup [.list [.int 62], .list []], .tup [.list [.int 63], .list [.int 62]], .tup [.list [.int x], .list [.int x]],
      .tup [.list [.int 62], .list [.int 62, .int 62, .int 63]], .tup [.list [.int 0], .list [.int 1]], .tup [.list [], .list [.int 63]], .tup [.list [.int 1], .list [.int 1]], .tup [.list [.int 62], .list [.int x]], .tup [.list [.int 63], .list [.int 62, .int 62]], .tup [.list [], .list [.int 62]],
      .tup [.list [.int 0], .list [.int 0]], .tup [.list [.int 62], .list [.int 1, .int 62, .int 0]], .tup [.list [.int x], .list [.int y]]] := fun y => rfl
  have kk := key ((L.fdiv 1024).fmod 64)
  have hx2 := hm64 (L.fdiv 16)
  have hy2 := hm64 (L.fdiv 1024)
  rw [hx] at hx2
  rw [keyL] at kk
  clear hm64 key keyL
  generalize (L.fdiv 1024).fmod 64 = y at *
  generalize (tblOf x y).getD (L.fmod 16).toNat ([], []) = z at *
  show Ret (runs F [] b_law_item [.int n, .undef, .undef, .undef]) _
  unfold b_law_item
  trivial
theorem tblOf_ok {x y : Int} (hx : 0 ≤ x ∧ x < 64) (hy : 0 ≤ y ∧ y < 64) : ∀ z ∈ tblOf x y, (∀ f ∈ z.1, 0 ≤ f ∧ f < 64) ∧ (∀ f ∈ z.2, 0 ≤ f ∧ f < 64) ∧ z.1.length ≤ 1 ∧ z.2.length ≤ 3 := by
  intro z hz
  simp only [tblOf, List.mem_cons, List.not_mem_nil, or_false] at hz
  rcases hz with rfl | rfl | rfl | rfl | rfl | rfl | rfl | rfl | rfl | rfl | rfl | rfl | rfl | rfl | rfl | rfl <;> (first | trivial | simp) <;> omega
theorem itemOf_ok (n : Int) : (∀ f ∈ (itemOf n).1, 0 ≤ f ∧ f < 64) ∧ (∀ f ∈ (itemOf n).2, 0 ≤ f ∧ f < 64) ∧ (itemOf n).1.length ≤ 1 ∧ (itemOf n).2.length ≤ 3 := by
  unfold itemOf
  generalize leftOf n = L
  have hi0 : 0 ≤ L.fmod 16 := Int.fmod_nonneg_of_pos L (by decide)
  have hi1 : L.fmod 16 < 16 := Int.fmod_lt_of_pos L (by decide)
  have hlen : ∀ x y, (tblOf x y).length = 16 := fun _ _ => rfl
  refine tblOf_ok (x := ((L.fdiv 16).fmod 64)) ⟨Int.fmod_nonneg_of_pos (L.fdiv 16) (by decide : (0 : Int) < 64), Int.fmod_lt_of_pos _ (by decide)⟩ ⟨Int.fmod_nonneg_of_pos (L.fdiv 1024) (by decide : (0 : Int) < 64), Int.fmod_lt_of_pos _ (by decide)⟩ _ ?_
  have : (L.fmod 16).toNat < (tblOf ((L.fdiv 16).fmod 64) ((L.fdiv 1024).fmod 64)).length := by rw [hlen]; exact ((Int.toNat_lt hi0).mpr hi1)
  simp only [List.getD, List.getElem?_eq_getElem this, Option.getD_some]
  exact List.getElem_mem _
noncomputable def drawn1 (ns : List Int) : List Int := ns.flatMap fun n => (itemOf n).1
noncomputable def drawn2 (ns : List Int) : List Int := ns.flatMap fun n => (itemOf n).2
theorem drawn_len (ns : List Int) : (drawn1 ns).length ≤ ns.length ∧ (drawn2 ns).length ≤ 3 * ns.length := by
  induction ns with
  | nil => exact ⟨Nat.le_refl _, Nat.le_refl _⟩
  | cons n ns ih =>
    have := itemOf_ok n
    unfold drawn1 drawn2 at *
    simp only [List.flatMap_cons, List.flatMap_cons, List.length_append, List.length_append, List.length_cons]
    omega
theorem drawn_ok (ns : List Int) : (∀ f ∈ drawn1 ns, 0 ≤ f ∧ f < 64) ∧ (∀ f ∈ drawn2 ns, 0 ≤ f ∧ f < 64) := by
  unfold drawn1 drawn2
  constructor
  · intro f hf
    refine zEA (List.mem_flatMap.mp hf) fun n _ h => ?_
    exact (itemOf_ok n).1 f h
  · intro f hf
    refine zEA (List.mem_flatMap.mp hf) fun n _ h => ?_
    exact (itemOf_ok n).2.1 f h
theorem getI2_0 {α : Type} {a b : α} : getI [a, b] 0 = some a := getI_nat (xs := [a, b]) (i := 0) (Nat.zero_lt_succ _) (by decide)
theorem getI2_1 {α : Type} {a b : α} : getI [a, b] 1 = some b := getI_nat (xs := [a, b]) (i := 1) (Nat.succ_lt_succ (Nat.zero_lt_succ _)) (by decide)
theorem idx_dP0 {z : List Int × List Int} : idx (dP z) (.int 0) = some (dI z.1) := getI2_0
theorem idx_dP1 {z : List Int × List Int} : idx (dP z) (.int 1) = some (dI z.2) := getI2_1
noncomputable abbrev dst (p : D) (pre : List Int) (j3 j4 : D) : List D := [p, dI (drawn1 pre), dI (drawn2 pre), j3, j4, .undef]
theorem drawn_loop {F : FO} {p : D} (h1 : ∀ n, F "_law_item" [.int n] = some (dP (itemOf n))) : ∀ (suf pre : List Int) (j3 j4 : D), pre.length + suf.length ≤ 100 →
    ∃ k3 k4, forL (fun x Γ => runs F [] b_law_drawn_1 (setv [] 3 x Γ)) (suf.map .int) (dst p pre j3 j4) = some (.next, dst p (pre ++ suf) k3 k4)
  | [], pre, j3, j4, _ => ⟨j3, j4, by rw [List.append_nil]; rfl⟩
  | n :: suf, pre, j3, j4, hz => by
    rw [List.length_cons] at hz
    have hdl := drawn_len pre
    have hil := itemOf_ok n
    have a1 := add_dI (a := drawn1 pre) (b := (itemOf n).1) (fit_of' (by omega))
    have a2 := add_dI (a := drawn2 pre) (b := (itemOf n).2) (fit_of' (by omega))
    have e1 : drawn1 (pre ++ [n]) = drawn1 pre ++ (itemOf n).1 := by unfold drawn1; simp
    have e2 : drawn2 (pre ++ [n]) = drawn2 pre ++ (itemOf n).2 := by unfold drawn2; simp
    have st : runs F [] b_law_drawn_1 [p, dI (drawn1 pre), dI (drawn2 pre), .int n, j4, .undef] = some (.next, dst p (pre ++ [n]) (.int n) (dP (itemOf n))) := by
      unfold dst
      rw [e1, e2]
      exact k_asg (e_fn (e_cons (e_var rfl rfl rfl) e_nil) (h1 n)) rfl rfl (k_asg (e_bin (e_var rfl rfl rfl) (e_idx (e_var rfl rfl rfl) e_lit idx_dP0) a1) rfl rfl (k_asg (e_bin (e_var rfl rfl rfl) (e_idx (e_var rfl rfl rfl) e_lit idx_dP1) a2) rfl rfl (k_nil rfl)))
    refine zEE (drawn_loop (F := F) (p := p) h1 suf (pre ++ [n]) (.int n) (dP (itemOf n)) (by simp; omega)) fun k3 k4 e => ⟨k3, k4, ?_⟩
    rw [List.append_assoc] at e
    exact (f_next st).trans e
theorem drawn_run {F : FO} (h1 : ∀ n, F "_law_item" [.int n] = some (dP (itemOf n))) {ns : List Int} (hz : ns.length ≤ 100) :
    Ret (runs F [] b_law_drawn ([dI ns] ++ List.replicate 5 .undef)) (dP (drawn1 ns, drawn2 ns)) := by
  refine zEE (drawn_loop (F := F) (p := dI ns) h1 ns [] .undef .undef (by simp; exact hz)) fun j3 j4 hl => ?_
  rw [List.nil_append] at hl
  show Ret (runs F [] b_law_drawn [dI ns, .undef, .undef, .undef, .undef, .undef]) _
  unfold b_law_drawn
  exact .of (k_asg (e_list e_nil) rfl rfl (k_asg (e_list e_nil) rfl rfl (k_step (r_for (e_var rfl rfl rfl) rfl rfl hl) (k_ret (e_tup (e_cons (e_var rfl rfl rfl) (e_cons (e_var rfl rfl rfl) e_nil))) rfl rfl))))
end
section
set_option maxHeartbeats 1000000
noncomputable def placeOf (ns : List Int) (s : Int) : Nat := (s.fmod ((ns.length : Int) + 1)).toNat
noncomputable def row1 (ns : List Int) (s : Int) : List Int := drawn1 (ns.take (placeOf ns s)) ++ List.replicate (4 - (drawn1 (ns.take (placeOf ns s)) ++ drawn1 (ns.drop (placeOf ns s))).length % 4) 62 ++ drawn1 (ns.drop (placeOf ns s))
noncomputable def row2 (ns : List Int) (s : Int) : List Int := drawn2 (ns.take (placeOf ns s)) ++ [63, 0, 62, 1].take (4 - (drawn2 (ns.take (placeOf ns s)) ++ drawn2 (ns.drop (placeOf ns s))).length % 4) ++ drawn2 (ns.drop (placeOf ns s))
theorem rows_ok (ns : List Int) (s : Int) (hz : ns.length ≤ 6) : (∀ f ∈ row1 ns s, 0 ≤ f ∧ f < 64) ∧ (∀ f ∈ row2 ns s, 0 ≤ f ∧ f < 64) ∧ (∃ k, (row1 ns s).length = 4 * k ∧ 1 ≤ k ∧ k ≤ 3) ∧ ∃ k, (row2 ns s).length = 4 * k ∧ 1 ≤ k ∧ k ≤ 6 := by
  unfold row1 row2
  generalize placeOf ns s = pl
  have a1 := drawn_ok (ns.take pl)
  have a2 := drawn_ok (ns.drop pl)
  have b1 := drawn_len (ns.take pl)
  have b2 := drawn_len (ns.drop pl)
  have hl : (ns.take pl).length + (ns.drop pl).length = ns.length := by simp only [List.length_take, List.length_drop]; exact qs6 ..
  generalize ns.take pl = A at *
  generalize ns.drop pl = B at *
  refine iAAA (fun f hf => ?_) (fun f hf => ?_) ?_ ?_
  · simp only [List.mem_append, List.mem_replicate] at hf
    rcases hf with (hf | hf) | hf
    · exact a1.1 f hf
    · simp only [hf.2]; decide
    · exact a2.1 f hf
  · simp only [List.mem_append] at hf
    rcases hf with (hf | hf) | hf
    · exact a1.2 f hf
    · have := List.mem_of_mem_take hf
      simp at this
      omega
    · exact a2.2 f hf
  · refine iEAA (((drawn1 A).length + (drawn1 B).length) / 4 + 1) ?_ qv (qT (qR (qD (qT (qA b1.1 b2.1) (qT (qE hl) hz))) _) (by decide))
    simp only [List.length_append, List.length_replicate]
    omega
  · refine iEAA (((drawn2 A).length + (drawn2 B).length) / 4 + 1) ?_ qv (by omega)
    simp only [List.length_append, List.length_take, List.length_cons, List.length_nil]
    omega
theorem sub4 (n : Nat) : bin .Sub (.int 4) (.int ((n : Int).fmod 4)) = some (.int ((4 - n % 4 : Nat) : Int)) := by
  have h : (n : Int).fmod 4 = ((n % 4 : Nat) : Int) := by rw [Int.fmod_eq_emod_of_nonneg _ (by decide)]; omega
  simp only [bin, i2, vInt, Option.bind_some]
  rw [h]
  congr 2
  exact (qs (qT (qC (Nat.mod_lt _ (by decide))) (by decide)))
theorem rows_run {F : FO} (h1 : ∀ ns : List Int, ns.length ≤ 100 → F "_law_drawn" [dI ns] = some (dP (drawn1 ns, drawn2 ns))) {ns : List Int} (hz : ns.length ≤ 6) (s : Int) :
    Ret (runs F [] b_law_rows ([dI ns, .int s] ++ List.replicate 9 .undef)) (dP (row1 ns s, row2 ns s)) := by
  unfold row1 row2
  have hf : fit ns.length := fit_of' (qT hz (by decide))
  have hm : bin .Mod (.int s) (.int ((ns.length : Int) + 1)) = some (.int (placeOf ns s : Nat)) := by
    refine (mod_i (show ((ns.length : Int) + 1) ≠ 0 by omega)).trans (congrArg (fun z => some (D.int z)) ?_)
    unfold placeOf
    have := Int.fmod_nonneg_of_pos s (show (0 : Int) < (ns.length : Int) + 1 by exact (ql (Nat.lt_succ_of_le qz)))
    exact (Int.toNat_of_nonneg this).symm
  generalize placeOf ns s = pl at *
  have c1 : sli (dI ns) .none (.int (pl : Nat)) = some (dI (ns.take pl)) := by rw [sli_dI hf rfl rfl, cut_to]
  have c2 : sli (dI ns) (.int (pl : Nat)) .none = some (dI (ns.drop pl)) := by rw [sli_dI hf rfl rfl, cut_from]
  have f1 := h1 (ns.take pl) (by rw [List.length_take]; exact (qT (qmr hz) (by decide)))
  have f2 := h1 (ns.drop pl) (by rw [List.length_drop]; exact (qT (qsl hz) (by decide)))
  have b1 := drawn_len (ns.take pl)
  have b2 := drawn_len (ns.drop pl)
  have hl : (ns.take pl).length + (ns.drop pl).length = ns.length := by simp only [List.length_take, List.length_drop]; exact qs6 ..
  generalize ns.take pl = A at *
  generalize ns.drop pl = B at *
  generalize drawn1 A = a1 at *
  generalize drawn2 A = a2 at *
  generalize drawn1 B = b1' at *
  generalize drawn2 B = b2' at *
  have m4 : ∀ a : Int, bin .Mod (.int a) (.int 4) = some (.int (a.fmod 4)) := fun a => mod_i (by decide)
  have l1 := add_dI (a := a1) (b := b1') (fit_of' (qT (qT (qA b1.1 b2.1) (qT (qE hl) hz)) (by decide)))
  have l2 := add_dI (a := a2) (b := b2') (fit_of' (qT (qA (qT b1.2 (qP (qT qu (qT (qE hl) hz)))) (qT b2.2 (qP (qT qv (qT (qE hl) hz))))) (by decide)))
  have n1 := len_dI (a := a1 ++ b1') (fit_of' (by simp; exact (qT (qT (qA b1.1 b2.1) (qT (qE hl) hz)) (by decide))))
  have n2 := len_dI (a := a2 ++ b2') (fit_of' (by simp; exact (qT (qA (qT b1.2 (qP (qT qu (qT (qE hl) hz)))) (qT b2.2 (qP (qT qv (qT (qE hl) hz))))) (by decide))))
  have q1 := sub4 (a1 ++ b1').length
  have q2 := sub4 (a2 ++ b2').length
  generalize hk1 : 4 - (a1 ++ b1').length % 4 = k1 at *
  generalize hk2 : 4 - (a2 ++ b2').length % 4 = k2 at *
  have st := mul_dI (a := [62]) (n := (k1 : Int)) ⟨by unfold few; exact ⟨(qn _), (qe (qT (qet hk1.symm (Nat.sub_le _ _)) (by decide)))⟩, by decide⟩
  simp only [Int.toNat_natCast, rep1] at st
  have nm : sli (dI [63, 0, 62, 1]) .none (.int (k2 : Nat)) = some (dI ([63, 0, 62, 1].take k2)) := by rw [sli_dI (by decide) rfl rfl, cut_to]
  have hnl : ([(63 : Int), 0, 62, 1].take k2).length ≤ 4 := by rw [List.length_take]; simp; exact (Nat.min_le_right _ _)
  have r1 := add_dI (a := a1) (b := List.replicate k1 62) (fit_of' (by simp; exact (qT (qA (qT b1.1 (qT qu (qT (qE hl) hz))) (qet hk1.symm (Nat.sub_le _ _))) (by decide))))
  have r2 := add_dI (a := a1 ++ List.replicate k1 62) (b := b1') (fit_of' (by simp; exact (qT (qA (qA (qT b1.1 (qT qu (qT (qE hl) hz))) (qet hk1.symm (Nat.sub_le _ _))) (qT b2.1 (qT qv (qT (qE hl) hz)))) (by decide))))
  have t1 := add_dI (a := a2) (b := [63, 0, 62, 1].take k2) (fit_of' (qT (qA (qT b1.2 (qP (qT qu (qT (qE hl) hz)))) hnl) (by decide)))
  have t2 := add_dI (a := a2 ++ [63, 0, 62, 1].take k2) (b := b2') (fit_of' (by rw [List.length_append]; exact (qT (qA (qA (qT b1.2 (qP (qT qu (qT (qE hl) hz)))) hnl) (qT b2.2 (qP (qT qv (qT (qE hl) hz))))) (by decide))))
  generalize [(63 : Int), 0, 62, 1].take k2 = nms at *
  generalize List.replicate k1 (62 : Int) = sts at *
  generalize (a1 ++ b1').length = L1 at *
  generalize (a2 ++ b2').length = L2 at *
  have m41 := m4 L1
  have m42 := m4 L2
  have n0 := len_dI hf
  show Ret (runs F [] b_law_rows [dI ns, .int s, .undef, .undef, .undef, .undef, .undef, .undef, .undef, .undef, .undef]) _
  clear m4 h1 hl b1 b2 hz hk1 hk2 hnl
  generalize (L1 : Int).fmod 4 = u1 at *
  generalize (L2 : Int).fmod 4 = u2 at *
  unfold b_law_rows
  trivial
end
noncomputable def three (a b c d : Int) : List Int := [a * 4 + b.fdiv 16, b.fmod 16 * 16 + c.fdiv 4, c.fmod 4 * 64 + d]
noncomputable def octOf : List Int → List Int
  | a :: b :: c :: d :: r => three a b c d ++ octOf r
  | _ => []
theorem octOf_c {a b c d : Int} {r : List Int} : octOf (a :: b :: c :: d :: r) = three a b c d ++ octOf r := rfl
theorem octOf_app (a b c d : Int) : ∀ (k : Nat) (l : List Int), l.length = 4 * k → octOf (l ++ [a, b, c, d]) = octOf l ++ three a b c d
  | 0, l, h => by
    have : l = [] := List.length_eq_zero_iff.mp (Nat.le_antisymm (qE h) qz)
    subst this
    rfl
  | k + 1, a1 :: b1 :: c1 :: d1 :: r, h => by
    have ih := octOf_app a b c d k r (by simp at h; omega)
    simp only [List.cons_append, octOf_c, ih, List.append_assoc]
  | k + 1, [], h => by simp at h
  | k + 1, [_], h => by simp at h; omega
  | k + 1, [_, _], h => by simp at h; omega
  | k + 1, [_, _, _], h => by simp at h; omega
theorem octOf_ok : ∀ (k : Nat) (l : List Int), l.length = 4 * k → (∀ f ∈ l, 0 ≤ f ∧ f < 64) → (octOf l).length = 3 * k ∧ ∀ o ∈ octOf l, 0 ≤ o ∧ o < 256
  | 0, l, h, _ => by
    have : l = [] := List.length_eq_zero_iff.mp (Nat.le_antisymm (qE h) qz)
    refine yl this ?_; clear this
    trivial
  | k + 1, a :: b :: c :: d :: r, h, hf => by
    have ih := octOf_ok k r (by simp at h; omega) fun f hr => hf f (by trivial)
    have ha := hf a (by trivial)
    have hb := hf b (by trivial)
    have hc := hf c (by trivial)
    have hd := hf d (by trivial)
    have e1 : b.fdiv 16 = b / 16 := Int.fdiv_eq_ediv_of_nonneg _ (by decide)
    have e2 : b.fmod 16 = b % 16 := Int.fmod_eq_emod_of_nonneg _ (by decide)
    have e3 : c.fdiv 4 = c / 4 := Int.fdiv_eq_ediv_of_nonneg _ (by decide)
    have e4 : c.fmod 4 = c % 4 := Int.fmod_eq_emod_of_nonneg _ (by decide)
    refine ⟨by simp [octOf_c, three, ih.1]; omega, fun o ho => ?_⟩
    simp only [octOf_c, three, List.cons_append, List.nil_append, List.mem_cons, e1, e2, e3, e4] at ho
    rcases ho with rfl | rfl | rfl | ho
    · omega
    · omega
    · omega
    · exact ih.2 o ho
  | k + 1, [], h, _ => by simp at h
  | k + 1, [_], h, _ => by simp at h; omega
  | k + 1, [_, _], h, _ => by simp at h; omega
  | k + 1, [_, _, _], h, _ => by simp at h; omega
theorem range_step {len s : Nat} (hs : 0 < s) (hs2 : s ≤ 1000) (h : len ≤ 100000) : rangeOf [.int 0, .int (len : Nat), .int (s : Nat)] = some ((List.range ((len + s - 1) / s)).map fun i => .int ((s * i : Nat) : Int)) := by
  simp only [rangeOf, vInt, Option.bind_some]
  rw [if_pos ⟨by unfold small; decide, by unfold small; exact (qM h (by decide)), by exact (ql hs), by unfold small; exact (qM hs2 (by decide))⟩]
  unfold rangeL rangeN
  have e : ((len : Int) - 0 + (s : Int) - 1) / (s : Int) = (((len + s - 1) / s : Nat) : Int) := by
    simp only [Int.natCast_ediv]
    congr 1
    omega
  simp only [e, Int.toNat_natCast]
  congr 1
  refine List.map_congr_left fun i _ => ?_
  simp only [Int.natCast_mul, Int.zero_add]
theorem take_four {l : List Int} {i : Nat} (h : i + 4 ≤ l.length) : ∃ a b c d, (l.drop i).take 4 = [a, b, c, d] := by
  have hl : ((l.drop i).take 4).length = 4 := by simp only [List.length_take, List.length_drop]; exact (Nat.min_eq_left (Nat.le_sub_of_add_le' h))
  match (l.drop i).take 4, hl with
  | [a, b, c, d], _ => exact iEEEE a b c d rfl
theorem octets_run {F : FO} {l : List Int} {n : Nat} (hl : l.length = 4 * n) (hz : n ≤ 100) :
    Ret (runs F [] b_law_octets ([dI l] ++ List.replicate 8 .undef)) (dI (octOf l)) := by
  unfold b_law_octets
  have hf : fit l.length := fit_of' (qT (qet hl (qP hz)) (by decide))
  obtain ⟨Γ', hr, j2, j3, j4, j5, j6, rfl⟩ := forL_rangeN (step := fun x Γ => if ([] : List Nat).contains 2 then none else runs F [] b_law_octets_1 (setv [] 2 x Γ)) (fun i => .int ((4 * i : Nat) : Int))
    (fun k Γ => ∃ j2 j3 j4 j5 j6, Γ = [dI l, dI (octOf (l.take (4 * k))), j2, j3, j4, j5, j6, .undef, .undef])
    n [dI l, dI [], .undef, .undef, .undef, .undef, .undef, .undef, .undef] ⟨.undef, .undef, .undef, .undef, .undef, rfl⟩ (by
      intro k Γ hk hz; refine zEEEEE hz ?_; clear hz; rintro j2 j3 j4 j5 j6 rfl
      refine zEEEE (take_four (l := l) (i := 4 * k) (by omega)) fun a b c d habcd => ?_
      have e0 : ((4 * k : Nat) : Int) + 4 = ((4 * k + 4 : Nat) : Int) := by exact (congrArg Int.ofNat rfl)
      have hsl : sli (dI l) (.int ((4 * k : Nat) : Int)) (.int (((4 * k : Nat) : Int) + 4)) = some (.list [.int a, .int b, .int c, .int d]) := by
        rw [e0, sli_dI hf rfl rfl, cut_both, show 4 * k + 4 - 4 * k = 4 by exact (Nat.add_sub_cancel_left ..), habcd]; rfl
      have htk : l.take (4 * (k + 1)) = l.take (4 * k) ++ [a, b, c, d] := by
        simp only [← habcd, show 4 * (k + 1) = 4 * k + 4 by omega, List.take_add]
      have hoct : octOf (l.take (4 * (k + 1))) = octOf (l.take (4 * k)) ++ three a b c d := by
        rw [htk, octOf_app a b c d k _ (by rw [List.length_take]; omega)]
      have hol : (octOf (l.take (4 * k))).length ≤ 900 := by
        have : ∀ m (l : List Int), l.length = 4 * m → (octOf l).length = 3 * m := by
          intro m
          induction m with
          | zero => intro l h; have : l = [] := List.length_eq_zero_iff.mp (Nat.le_antisymm (qE h) qz); refine yl this ?_; clear this; rfl
          | succ m ih =>
            intro l h
            match l, h with
            | a :: b :: c :: d :: r, h => simp only [octOf_c, three, List.length_append, List.length_cons, List.length_nil, ih r (by simp at h; omega)]; omega
            | [], h => simp at h
            | [_], h => simp at h; omega
            | [_, _], h => simp at h; omega
            | [_, _, _], h => simp at h; omega
        rw [this k _ (by rw [List.length_take]; omega)]; exact (qT (qP (qT (qW hk) hz)) (by decide))
      have ha := add_dI (a := octOf (l.take (4 * k))) (b := three a b c d) (fit_of' (by simp [three]; exact (qT hol (by decide))))
      have d16 : ∀ a : Int, bin .FloorDiv (.int a) (.int 16) = some (.int (a.fdiv 16)) := fun a => by simp only [bin, i2, vInt, Option.bind_some]; rw [if_pos (by decide)]
      have d4 : ∀ a : Int, bin .FloorDiv (.int a) (.int 4) = some (.int (a.fdiv 4)) := fun a => by simp only [bin, i2, vInt, Option.bind_some]; rw [if_pos (by decide)]
      have m16 : ∀ a : Int, bin .Mod (.int a) (.int 16) = some (.int (a.fmod 16)) := fun a => by simp only [bin, i2, vInt, Option.bind_some]; rw [if_pos (by decide)]
      have m4 : ∀ a : Int, bin .Mod (.int a) (.int 4) = some (.int (a.fmod 4)) := fun a => by simp only [bin, i2, vInt, Option.bind_some]; rw [if_pos (by decide)]
      have t4 : ∀ a : Int, bin .Mult (.int a) (.int 4) = some (.int (a * 4)) := fun a => by simp only [bin, mulD, vInt, Option.bind_some]; rw [if_pos (by decide)]
      have t16 : ∀ a : Int, bin .Mult (.int a) (.int 16) = some (.int (a * 16)) := fun a => by simp only [bin, mulD, vInt, Option.bind_some]; rw [if_pos (by decide)]
      have t64 : ∀ a : Int, bin .Mult (.int a) (.int 64) = some (.int (a * 64)) := fun a => by simp only [bin, mulD, vInt, Option.bind_some]; rw [if_pos (by decide)]
      have pl : ∀ a b : Int, bin .Add (.int a) (.int b) = some (.int (a + b)) := fun _ _ => rfl
      have h3 : D.list [.int (a * 4 + b.fdiv 16), .int (b.fmod 16 * 16 + c.fdiv 4), .int (c.fmod 4 * 64 + d)] = dI (three a b c d) := rfl
      refine ⟨[dI l, dI (octOf (l.take (4 * (k + 1)))), .int ((4 * k : Nat) : Int), .int a, .int b, .int c, .int d, .undef, .undef], .inl ?_, .int ((4 * k : Nat) : Int), .int a, .int b, .int c, .int d, rfl⟩
      rw [hoct]
      unfold b_law_octets_1
      generalize octOf (l.take (4 * k)) = O at *
      generalize ((4 * k : Nat) : Int) = K at *
      show runs F [] _ [dI l, dI O, .int K, j3, j4, j5, j6, .undef, .undef] = _
      trivial)
  have s2 : run F [] (.forR 2 (.cons (.lit (.int (0))) (.cons (.bi "len" (.cons (.var 0) .nil)) (.cons (.lit (.int (4))) .nil))) b_law_octets_1) [dI l, dI [], .undef, .undef, .undef, .undef, .undef, .undef, .undef] =
      some (.next, [dI l, dI (octOf (l.take (4 * n))), j2, j3, j4, j5, j6, .undef, .undef]) := by
    have hrg : rangeOf [.int 0, .int (l.length : Nat), .int 4] = some ((List.range n).map fun i => .int ((4 * i : Nat) : Int)) := by
      have := range_step (len := l.length) (s := 4) (by decide) (by decide) (qT (qet hl (qP hz)) (by decide))
      rw [show (l.length + 4 - 1) / 4 = n by omega] at this
      exact this
    simp only [run_forR]
    simp (config := {decide := true}) only [ev_var, ev_lit, ev_bi, evs_nil, evs_cons, usable_dI, List.getElem?_cons_zero, Bool.true_or, Bool.true_and, if_true, Option.map_some, len_dI hf, hrg]
    exact hr
  rw [← hl, List.take_length] at s2
  trivial
section
set_option maxHeartbeats 1000000
noncomputable def figAt (v : Int) (t : Nat) : Int := (v.fdiv (64 ^ (3 - t))).fmod 64
noncomputable def val3 (a b c : Int) : Int := ((0 * 256 + a) * 256 + b) * 256 + c
noncomputable def chunk : List Int → List Int
  | [a, b, c] => [figAt (val3 a b c) 0, figAt (val3 a b c) 1, figAt (val3 a b c) 2, figAt (val3 a b c) 3]
  | [a, b] => [figAt (val3 a b 0) 0, figAt (val3 a b 0) 1, figAt (val3 a b 0) 2, 64]
  | [a] => [figAt (val3 a 0 0) 0, figAt (val3 a 0 0) 1, 64, 64]
  | _ => []
noncomputable def figsOf : List Int → List Int
  | a :: b :: c :: r => chunk [a, b, c] ++ figsOf r
  | l => chunk l
theorem figsOf_c {a b c : Int} {r : List Int} : figsOf (a :: b :: c :: r) = chunk [a, b, c] ++ figsOf r := rfl
theorem figsOf_step : ∀ (k : Nat) (l : List Int), 3 * k < l.length → figsOf (l.take (3 * k)) ++ chunk ((l.drop (3 * k)).take 3) = figsOf (l.take (3 * (k + 1)))
  | 0, l, h => by
    match l, h with
    | [a], _ => rfl
    | [a, b], _ => rfl
    | a :: b :: c :: r, _ => rfl
  | k + 1, l, h => by
    match l, h with
    | a :: b :: c :: r, h =>
      have ih := figsOf_step k r (by simp at h; omega)
      rw [show 3 * (k + 1) = 3 * k + 1 + 1 + 1 by omega, show 3 * (k + 1 + 1) = 3 * (k + 1) + 1 + 1 + 1 by omega]
      simp only [List.take_succ_cons, List.drop_succ_cons, figsOf_c, List.append_assoc, ih]
    | [a], h => simp only [List.length_cons, List.length_nil] at h; omega
    | [a, b], h => simp only [List.length_cons, List.length_nil] at h; omega
    | [], h => simp at h
theorem chunk_cases {P : List Int → List Int → Prop} (h0 : ∀ l, P l []) (h1 : ∀ a, P [a] (chunk [a])) (h2 : ∀ a b, P [a, b] (chunk [a, b])) (h3 : ∀ a b c, P [a, b, c] (chunk [a, b, c])) (l : List Int) : P l (chunk l) := by
  cases l with
  | nil => exact h0 _
  | cons a l => cases l with
    | nil => exact h1 a
    | cons b l => cases l with
      | nil => exact h2 a b
      | cons c l => cases l with
        | nil => exact h3 a b c
        | cons => exact h0 _
theorem chunk_len (l : List Int) : (chunk l).length ≤ 4 := chunk_cases (P := fun _ c => c.length ≤ 4) (fun _ => by decide) (fun _ => Nat.le_refl 4) (fun _ _ => Nat.le_refl 4) (fun _ _ _ => Nat.le_refl 4) l
theorem figsOf_len : ∀ l : List Int, (figsOf l).length ≤ 4 * ((l.length + 2) / 3)
  | [] => by trivial
  | [a] => qT (chunk_len [a]) (by simp)
  | [a, b] => qT (chunk_len [a, b]) (by simp)
  | a :: b :: c :: r => by
    have ih := figsOf_len r
    have := chunk_len [a, b, c]
    simp only [figsOf_c, List.length_append, List.length_cons]
    omega
theorem figAt_ok (v : Int) (t : Nat) : 0 ≤ figAt v t ∧ figAt v t ≤ 64 := by
  unfold figAt
  exact ⟨Int.fmod_nonneg_of_pos _ (by decide), Int.le_of_lt (Int.fmod_lt_of_pos _ (by decide))⟩
theorem four_ok {a b c d : Int} (ha : 0 ≤ a ∧ a ≤ 64) (hb : 0 ≤ b ∧ b ≤ 64) (hc : 0 ≤ c ∧ c ≤ 64) (hd : 0 ≤ d ∧ d ≤ 64) : ∀ f ∈ [a, b, c, d], 0 ≤ f ∧ f ≤ 64 :=
  List.forall_mem_cons.mpr ⟨ha, List.forall_mem_cons.mpr ⟨hb, List.forall_mem_cons.mpr ⟨hc, List.forall_mem_cons.mpr ⟨hd, fun _ h => absurd h List.not_mem_nil⟩⟩⟩⟩
theorem chunk_ok (l : List Int) : ∀ f ∈ chunk l, 0 ≤ f ∧ f ≤ 64 :=
  have m : (0 : Int) ≤ 64 ∧ (64 : Int) ≤ 64 := by decide
  chunk_cases (P := fun _ c => ∀ f ∈ c, 0 ≤ f ∧ f ≤ 64) (fun _ _ h => absurd h List.not_mem_nil) (fun _ => four_ok (figAt_ok _ _) (figAt_ok _ _) m m) (fun _ _ => four_ok (figAt_ok _ _) (figAt_ok _ _) (figAt_ok _ _) m) (fun _ _ _ => four_ok (figAt_ok _ _) (figAt_ok _ _) (figAt_ok _ _) (figAt_ok _ _)) l
theorem figsOf_ok : ∀ l : List Int, ∀ f ∈ figsOf l, 0 ≤ f ∧ f ≤ 64
  | [] => by trivial
  | [a] => chunk_ok [a]
  | [a, b] => chunk_ok [a, b]
  | a :: b :: c :: r => by
    intro f hf
    simp only [figsOf_c, List.mem_append] at hf
    rcases hf with hf | hf
    · exact chunk_ok _ f hf
    · exact figsOf_ok r f hf
theorem app_dI {F : FO} {own : List Nat} {Γ : List D} {i : Nat} {e : E} {l : List Int} {x : Int} (hg : Γ[i]? = some (dI l)) (he : ev F own false Γ e = some (.int x)) (ho : own.contains i = true) (hf : fit l.length) :
    run F own (.app i e) Γ = some (.next, Γ.set i (dI (l ++ [x]))) := by
  rw [run_app, hg, he]
  unfold dI
  simp only
  rw [if_pos ⟨ho, by simp only [List.length_map]; exact hf⟩, List.map_append]
  rfl
theorem fig_ev {v : Int} {t : Nat} (ht : t ≤ 3) : bin .Sub (.int 3) (.int (t : Nat)) = some (.int ((3 - t : Nat) : Int)) ∧ bin .Pow (.int 64) (.int ((3 - t : Nat) : Int)) = some (.int (64 ^ (3 - t))) ∧ bin .FloorDiv (.int v) (.int (64 ^ (3 - t))) = some (.int (v.fdiv (64 ^ (3 - t)))) ∧
    bin .Mod (.int (v.fdiv (64 ^ (3 - t)))) (.int 64) = some (.int (figAt v t)) := by
  refine iAAA ?_ ?_ ?_ ?_
  · simp only [bin, i2, vInt, Option.bind_some]; congr 2; exact (qs ht)
  · simp only [bin, i2, vInt, Option.bind_some]; rw [if_pos ⟨by unfold few; exact ⟨(qn _), (qe (qT (Nat.sub_le _ _) (by decide)))⟩, by decide⟩, Int.toNat_natCast]
  · simp only [bin, i2, vInt, Option.bind_some]
    rw [if_pos]
    have : 3 - t = 0 ∨ 3 - t = 1 ∨ 3 - t = 2 ∨ 3 - t = 3 := by omega
    rcases this with h | h | h | h <;> rw [h] <;> decide
  · simp only [bin, i2, vInt, Option.bind_some]; rw [if_pos (by decide)]; rfl
theorem fig_step {F : FO} {O L h : List Int} {k v : Int} {j5 j6 : D} {t : Nat} (ht : t ≤ 3) (hL : fit L.length) :
    runs F [1] b_law_figures_2 [dI O, dI L, .int k, dI h, .int v, j5, .int (t : Nat), .undef, .undef] = some (.next, [dI O, dI (L ++ [figAt v t]), .int k, dI h, .int v, j5, .int (t : Nat), .undef, .undef]) := by
  refine zAAA (fig_ev (v := v) ht) fun a1 a2 a3 a4 => ?_
  unfold b_law_figures_2
  have he : ev F [1] false [dI O, dI L, .int k, dI h, .int v, j5, .int (t : Nat), .undef, .undef] (.bin .Mod (.bin .FloorDiv (.var 4) (.bin .Pow (.lit (.int (64))) (.bin .Sub (.lit (.int (3))) (.var 6)))) (.lit (.int (64)))) = some (.int (figAt v t)) := by
    generalize figAt v t = z at *
    generalize ((3 - t : Nat) : Int) = p at *
    generalize (64 : Int) ^ (3 - t) = q at *
    generalize v.fdiv q = r at *
    trivial
  exact k_step (app_dI (l := L) (x := figAt v t) rfl he rfl hL) (k_nil rfl)
theorem val_loop {F : FO} {O L h : List Int} {k : Int} {j6 : D} : ∀ (xs : List Int) (v : Int) (j5 : D), ∃ j5', forL (fun x Γ => runs F [1] b_law_figures_1 (setv [1] 5 x Γ)) (xs.map .int) [dI O, dI L, .int k, dI h, .int v, j5, j6, .undef, .undef] =
    some (.next, [dI O, dI L, .int k, dI h, .int (xs.foldl (fun v x => v * 256 + x) v), j5', j6, .undef, .undef])
  | [], v, j5 => ⟨j5, rfl⟩
  | x :: xs, v, j5 => by
    refine zE (val_loop (F := F) (O := O) (L := L) (h := h) (k := k) (j6 := j6) xs (v * 256 + x) (.int x)) fun j5' ih => ⟨j5', (f_next ?_).trans ih⟩
    have t : bin .Mult (.int v) (.int 256) = some (.int (v * 256)) := by show (if small 256 then some (D.int (v * 256)) else none) = _; exact if_pos (by decide)
    exact k_asg (e_bin (e_bin (e_var rfl rfl rfl) e_lit t) (e_var rfl rfl rfl) rfl) rfl rfl (k_nil rfl)
theorem chunk_eq {h : List Int} {m : Nat} (hm : h.length = m) (h1 : 1 ≤ m) (h3 : m ≤ 3) : chunk h = (List.range (m + 1)).map (figAt ((h ++ List.replicate (3 - m) 0).foldl (fun v x => v * 256 + x) 0)) ++ List.replicate (3 - m) 64 := by
  match h, hm with
  | [a], hm => simp at hm; subst hm; rfl
  | [a, b], hm => simp at hm; subst hm; rfl
  | [a, b, c], hm => simp at hm; subst hm; rfl
  | [], hm => simp at hm; omega
  | a :: b :: c :: d :: r, hm => simp at hm; omega
theorem figs_loop {F : FO} {O L h : List Int} {k v : Int} {j5 : D} (hL : L.length ≤ 400) : ∀ (n t : Nat) (j6 : D), t + n ≤ 4 → ∃ j6', forL (fun x Γ => runs F [1] b_law_figures_2 (setv [1] 6 x Γ)) ((List.range' t n).map fun i => .int ((i : Nat) : Int)) [dI O, dI (L ++ (List.range t).map (figAt v)), .int k, dI h, .int v, j5, j6, .undef, .undef] =
    some (.next, [dI O, dI (L ++ (List.range (t + n)).map (figAt v)), .int k, dI h, .int v, j5, j6', .undef, .undef])
  | 0, t, j6, _ => ⟨j6, rfl⟩
  | n + 1, t, j6, ht => by
    refine zE (figs_loop (F := F) (O := O) (h := h) (k := k) (v := v) (j5 := j5) hL n (t + 1) (.int (t : Nat)) (by omega)) fun j6' ih => ⟨j6', ?_⟩
    rw [Nat.add_right_comm] at ih
    refine (f_next ?_).trans ih
    rw [List.range_succ, List.map_append, ← List.append_assoc]
    exact fig_step (j6 := j6) (by omega) (fit_of' (by simp only [List.length_append, List.length_map, List.length_range]; exact (qT (qA hL (qT qu ht)) (by decide))))
theorem chunk_run {F : FO} {O L h : List Int} {k m : Nat} {j3 j4 j5 j6 : D} (hO : fit O.length) (hL : L.length ≤ 400) (hh : (O.drop k).take 3 = h) (hm : h.length = m) (h1 : 1 ≤ m) (h3 : m ≤ 3) :
    ∃ j4' j5' j6', runs F [1] b_law_figures_3 [dI O, dI L, .int (k : Nat), j3, j4, j5, j6, .undef, .undef] = some (.next, [dI O, dI (L ++ chunk h), .int (k : Nat), dI h, j4', j5', j6', .undef, .undef]) := by
  have hsl : sli (dI O) (.int (k : Nat)) (.int ((k : Int) + 3)) = some (dI h) := by
    rw [show (k : Int) + 3 = ((k + 3 : Nat) : Int) by exact (congrArg Int.ofNat rfl), sli_dI hO rfl rfl, cut_both, show k + 3 - k = 3 by exact (Nat.add_sub_cancel_left ..), hh]
  have hfh : fit h.length := fit_of' (qT (qet hm h3) (by decide))
  have pl : ∀ a b : Int, bin .Add (.int a) (.int b) = some (.int (a + b)) := fun _ _ => rfl
  have sb : bin .Sub (.int 3) (.int (h.length : Nat)) = some (.int ((3 - m : Nat) : Int)) := by simp only [bin, i2, vInt, Option.bind_some]; congr 2; omega
  have mt := mul_dI (a := [0]) (n := ((3 - m : Nat) : Int)) ⟨by unfold few; exact ⟨(qn _), (qe (qT (Nat.sub_le _ _) (by decide)))⟩, by decide⟩
  have mt2 := mul_dI (a := [64]) (n := ((3 - m : Nat) : Int)) ⟨by unfold few; exact ⟨(qn _), (qe (qT (Nat.sub_le _ _) (by decide)))⟩, by decide⟩
  simp only [Int.toNat_natCast, rep1] at mt mt2
  have ad := add_dI (a := h) (b := List.replicate (3 - m) 0) (fit_of' (by simp; exact (qT (qA (qet hm h3) (Nat.sub_le _ _)) (by decide))))
  have hc := chunk_eq hm h1 h3
  generalize List.replicate (3 - m) (0 : Int) = Z at *
  refine zE (val_loop (F := F) (O := O) (L := L) (h := h) (k := (k : Int)) (j6 := j6) (h ++ Z) 0 j5) fun j5' hv => ?_
  generalize (h ++ Z).foldl (fun v x => v * 256 + x) 0 = v at *
  refine zE (figs_loop (F := F) (O := O) (L := L) (h := h) (k := (k : Int)) (v := v) (j5 := j5') hL (m + 1) 0 j6 (qF (qR h3 _) _)) fun j6' hf => ?_
  rw [Nat.zero_add, show (List.range 0).map (figAt v) = [] from rfl, List.append_nil] at hf
  have hrg : rangeOf [.int ((h.length : Int) + 1)] = some ((List.range (m + 1)).map fun i => .int (i : Nat)) := by
    simp only [show (h.length : Int) + 1 = ((m + 1 : Nat) : Int) by exact (congrArg Int.ofNat (congrArg (· + _) hm))]
    exact range_nat (qT (qR h3 _) (by decide))
  rw [List.range_eq_range'] at hrg
  have ad2 := add_dI (a := L ++ (List.range (m + 1)).map (figAt v)) (b := List.replicate (3 - m) 64) (fit_of' (by simp only [List.length_append, List.length_map, List.length_range, List.length_replicate]; exact (qT (qA (qA hL (qR h3 _)) (Nat.sub_le _ _)) (by decide))))
  simp only [List.append_assoc, ← hc] at ad2
  have ln := len_dI hfh
  unfold b_law_figures_3
  refine ⟨.int v, clr 1 j5', clr 1 j6', k_asg (e_sl (e_var rfl rfl rfl) (e_var rfl rfl rfl) (e_bin (e_var rfl rfl rfl) e_lit (pl _ _)) hsl) rfl rfl (k_asg e_lit rfl rfl (k_step (r_for (e_bin (e_var rfl rfl rfl) (e_bin (e_list (e_cons e_lit e_nil)) (e_bin e_lit (e_bi (e_cons (e_var rfl rfl rfl) e_nil) ln) sb) mt) ad) rfl rfl hv) (k_step (r_forR (e_cons (e_bin (e_bi (e_cons (e_var rfl rfl rfl) e_nil) ln) e_lit (pl _ _)) e_nil) hrg rfl hf) ?_)))⟩
  generalize L ++ (List.range (m + 1)).map (figAt v) = L2 at *
  exact k_asg (e_bin (e_var rfl rfl rfl) (e_bin (e_list (e_cons e_lit e_nil)) (e_bin e_lit (e_bi (e_cons (e_var rfl rfl rfl) e_nil) ln) sb) mt2) ad2) rfl rfl (k_nil rfl)
theorem chunks_loop {F : FO} {O : List Int} (hz : O.length ≤ 90) : ∀ (n t : Nat) (j2 j3 j4 j5 j6 : D), t + n = (O.length + 3 - 1) / 3 → ∃ k2 k3 k4 k5 k6, forL (fun x Γ => runs F [1] b_law_figures_3 (setv [1] 2 x Γ)) ((List.range' t n).map fun i => .int ((3 * i : Nat) : Int)) [dI O, dI (figsOf (O.take (3 * t))), j2, j3, j4, j5, j6, .undef, .undef] =
    some (.next, [dI O, dI (figsOf (O.take (3 * (t + n)))), k2, k3, k4, k5, k6, .undef, .undef])
  | 0, t, j2, j3, j4, j5, j6, _ => ⟨j2, j3, j4, j5, j6, rfl⟩
  | n + 1, t, j2, j3, j4, j5, j6, ht => by
    have hlt : 3 * t < O.length := by omega
    have hlen : ((O.drop (3 * t)).take 3).length = min 3 (O.length - 3 * t) := by simp only [List.length_take, List.length_drop]
    have hL := figsOf_len (O.take (3 * t))
    rw [List.length_take] at hL
    refine zEEE (chunk_run (F := F) (O := O) (L := figsOf (O.take (3 * t))) (k := 3 * t) (j3 := j3) (j4 := j4) (j5 := j5) (j6 := j6) (fit_of' (qT hz (by decide))) (qT (qT hL (qP (qD (qR (qmr hz) _)))) (by decide)) rfl hlen (by omega) (Nat.min_le_left _ _)) fun j4' j5' j6' hc => ?_
    rw [figsOf_step t O hlt] at hc
    refine zEEEEE (chunks_loop (F := F) hz n (t + 1) (.int ((3 * t : Nat) : Int)) (dI ((O.drop (3 * t)).take 3)) j4' j5' j6' (Eq.trans (Eq.trans (Nat.add_comm _ _) (Nat.add_left_comm _ _ _)) ht)) fun k2 k3 k4 k5 k6 ih => ⟨k2, k3, k4, k5, k6, ?_⟩
    rw [Nat.add_right_comm] at ih
    exact (f_next hc).trans ih
theorem figures_run {F : FO} {O : List Int} (hz : O.length ≤ 90) : Ret (runs F [1] b_law_figures ([dI O] ++ List.replicate 8 .undef)) (dI (figsOf O)) := by
  have hO : fit O.length := fit_of' (qT hz (by decide))
  refine zEEEEE (chunks_loop (F := F) hz ((O.length + 3 - 1) / 3) 0 .undef .undef .undef .undef .undef (Nat.zero_add _)) fun j2 j3 j4 j5 j6 hf => ?_
  have hrg := range_step (len := O.length) (s := 3) (by decide) (by decide) (qT hz (by decide))
  rw [List.range_eq_range'] at hrg
  rw [Nat.zero_add, List.take_of_length_le (i := 3 * ((O.length + 3 - 1) / 3)) (by omega)] at hf
  show Ret (runs F [1] b_law_figures [dI O, .undef, .undef, .undef, .undef, .undef, .undef, .undef, .undef]) _
  unfold b_law_figures
  exact .of (k_asg (e_list e_nil) rfl rfl (k_step (r_forR (e_cons e_lit (e_cons (e_bi (e_cons (e_var rfl rfl rfl) e_nil) (len_dI hO)) (e_cons e_lit e_nil))) hrg rfl hf) (k_retV rfl rfl rfl)))
end
theorem band_nat (x y : Nat) : Builtin.bitAnd (x : Int) (y : Int) = ((x &&& y : Nat) : Int) := by
  rw [PyProof.Rows.bitAnd_pp (qn _) (qn _), Int.toNat_natCast, Int.toNat_natCast]
theorem bor_nat (x y : Nat) : Builtin.bitOr (x : Int) (y : Int) = ((x ||| y : Nat) : Int) := by
  have h : ∀ z : Int, Builtin.bitNot z = -z - 1 := fun z => rfl
  unfold Builtin.bitOr
  rw [PyProof.Rows.bitAnd_nn (by simp only [h]; omega) (by simp only [h]; omega)]
  simp only [h]
  simp only [show (-(-(x : Int) - 1) - 1).toNat = x by omega, show (-(-(y : Int) - 1) - 1).toNat = y by omega]
  omega
theorem band_mask (x k : Nat) : x &&& (2 ^ k - 1) = x % 2 ^ k := Nat.and_two_pow_sub_one_eq_mod x k
theorem b_shl {x : Nat} : bin .LShift (.int (x : Nat)) (.int 8) = some (.int ((x * 256 : Nat) : Int)) ∨ ¬ small (x : Int) := by
  by_cases h : small (x : Int)
  · left
    simp only [bin, i2, vInt, Option.bind_some]
    rw [if_pos ⟨by decide, h⟩]
    rfl
  · exact .inr h
theorem b_next {x b : Nat} (hx : x < 65536) (hb : b < 256) : bin .LShift (.int (x : Nat)) (.int 8) = some (.int ((x * 256 : Nat) : Int)) ∧ bin .BitOr (.int ((x * 256 : Nat) : Int)) (.int (b : Nat)) = some (.int ((x * 256 + b : Nat) : Int)) ∧
    bin .BitAnd (.int ((x * 256 + b : Nat) : Int)) (.int 65535) = some (.int (((x * 256 + b) % 65536 : Nat) : Int)) := by
  refine iAA ?_ ?_ ?_
  · rcases b_shl (x := x) with h | h
    · exact h
    · exact absurd (show small (x : Int) by unfold small; exact (qM (qC hx) (by decide))) h
  · simp only [bin, i2, vInt, Option.bind_some]
    rw [bor_nat]
    have := Nat.shiftLeft_add_eq_or_of_lt (b := b) (i := 8) (Nat.lt_succ_of_le (qC hb)) x
    rw [Nat.shiftLeft_eq] at this
    rw [show (2 : Nat) ^ 8 = 256 from rfl] at this
    rw [this]
  · simp only [bin, i2, vInt, Option.bind_some]
    simp only [show (65535 : Int) = ((2 ^ 16 - 1 : Nat) : Int) from rfl, band_nat, band_mask]
theorem b_pick {x s : Nat} (hs : s ≤ 6) : bin .RShift (.int (x : Nat)) (.int (s : Nat)) = some (.int ((x / 2 ^ s : Nat) : Int)) ∧ bin .BitAnd (.int ((x / 2 ^ s : Nat) : Int)) (.int 63) = some (.int ((x / 2 ^ s % 64 : Nat) : Int)) := by
  refine ⟨?_, ?_⟩
  · simp only [bin, i2, vInt, Option.bind_some]
    rw [if_pos (by unfold few; exact ⟨(qn _), (qe (qT hs (by decide)))⟩), Int.toNat_natCast, Int.fdiv_eq_ediv_of_nonneg _ (by exact Int.pow_nonneg (by decide))]
    simp only [Int.natCast_ediv]
    norm_cast
  · simp only [bin, i2, vInt, Option.bind_some]
    simp only [show (63 : Int) = ((2 ^ 6 - 1 : Nat) : Int) from rfl, band_nat, band_mask]
theorem b_low {x : Nat} : bin .BitAnd (.int (x : Nat)) (.int 3) = some (.int ((x % 4 : Nat) : Int)) ∧ bin .BitAnd (.int (x : Nat)) (.int 15) = some (.int ((x % 16 : Nat) : Int)) ∧
    bin .LShift (.int ((x % 4 : Nat) : Int)) (.int 4) = some (.int ((x % 4 * 16 : Nat) : Int)) ∧ bin .LShift (.int ((x % 16 : Nat) : Int)) (.int 2) = some (.int ((x % 16 * 4 : Nat) : Int)) := by
  refine iAAA ?_ ?_ ?_ ?_
  · simp only [bin, i2, vInt, Option.bind_some]; simp only [show (3 : Int) = ((2 ^ 2 - 1 : Nat) : Int) from rfl, band_nat, band_mask]
  · simp only [bin, i2, vInt, Option.bind_some]; simp only [show (15 : Int) = ((2 ^ 4 - 1 : Nat) : Int) from rfl, band_nat, band_mask]
  · simp only [bin, i2, vInt, Option.bind_some]; rw [if_pos ⟨by decide, by unfold small; exact (qM (qC (Nat.mod_lt _ (by decide))) (by decide))⟩]; rfl
  · simp only [bin, i2, vInt, Option.bind_some]; rw [if_pos ⟨by decide, by unfold small; exact (qM (qC (Nat.mod_lt _ (by decide))) (by decide))⟩]; rfl
noncomputable def b64 : List UInt8 := [65, 66, 67, 68, 69, 70, 71, 72, 73, 74, 75, 76, 77, 78, 79, 80, 81, 82, 83, 84, 85, 86, 87, 88,
      89, 90, 97, 98, 99, 100, 101, 102, 103, 104, 105, 106, 107, 108, 109, 110, 111, 112, 113, 114,
      115, 116, 117, 118, 119, 120, 121, 122, 48, 49, 50, 51, 52, 53, 54, 55, 56, 57, 43, 47]
noncomputable def code (i : Nat) : Nat := ((b64.map UInt8.toNat) ++ [61]).getD i 0
theorem idx_b64 {i : Nat} (h : i < 64) : idx (.bytes b64) (.int (i : Nat)) = some (.int (code i : Nat)) := by
  simp only [idx, vInt, Option.bind_some]
  have hl : i < b64.length := h
  rw [if_pos ⟨by decide, by exact (qn _)⟩, getI_nat hl (qM (qC h) (by decide))]
  have : code i = b64[i].toNat := by
    unfold code
    rw [List.getD_eq_getElem?_getD, List.getElem?_append_left (by simpa using hl), List.getElem?_map, List.getElem?_eq_getElem hl]
    rfl
  rw [this]
  rfl
theorem whl_step {c : List D → Option Bool} {b : List D → Option (Fl × List D)} {n : Nat} {Γ Γ' : List D} (h1 : c Γ = some true) (h2 : b Γ = some (.next, Γ')) : whileL c b (n + 1) Γ = whileL c b n Γ' := by simp only [whileL, h1, h2]
theorem whl_stop {c : List D → Option Bool} {b : List D → Option (Fl × List D)} {n : Nat} {Γ : List D} (h1 : c Γ = some false) : whileL c b (n + 1) Γ = some (.next, Γ) := by simp only [whileL, h1]
theorem sh0 {x a m k n q : Nat} (ha : a < 256) (hk : k * n = 256 * m) (hq : k * q = 256) (k0 : 0 < k) : (x * 256 + a) / k % n = a / k + q * (x % m) := by
  rw [← Nat.mod_mul_right_div_self, hk, Nat.mod_mul, Nat.mul_comm x, Nat.mul_add_mod, Nat.mod_eq_of_lt ha, Nat.mul_add_div (by decide), Nat.div_eq_of_lt ha, Nat.add_zero, ← hq, Nat.mul_assoc, Nat.add_mul_div_left _ _ k0]
theorem sh1 {x a m k n q : Nat} (ha : a < 256) (hk : k * n = 256 * m) (hq : k * q = 256) (k0 : 0 < k) (h : k * n ∣ 65536) : (x * 256 + a) % 65536 / k % n = a / k + q * (x % m) := by
  rw [← Nat.mod_mul_right_div_self, Nat.mod_mod_of_dvd _ h, Nat.mod_mul_right_div_self, sh0 ha hk hq k0]
theorem shl0 {x a n : Nat} (ha : a < 256) (h : n ∣ 256) : (x * 256 + a) % n = a % n := by
  rw [← Nat.mod_mod_of_dvd (x * 256 + a) h, Nat.mul_comm x, Nat.mul_add_mod, Nat.mod_eq_of_lt ha]
theorem shl1 {x a n : Nat} (ha : a < 256) (h : n ∣ 256) : (x * 256 + a) % 65536 % n = a % n := by
  rw [Nat.mod_mod_of_dvd _ (Nat.dvd_trans h (by decide)), shl0 ha h]
theorem sh_a {x a : Nat} (ha : a < 256) : (x * 256 + a) % 65536 / 4 % 64 = a / 4 := by rw [sh1 (m := 1) (k := 4) (n := 64) (q := 64) ha rfl rfl (by decide) (by decide), Nat.mod_one]; rfl
theorem sh_b {x a b : Nat} (ha : a < 256) (hb : b < 256) : ((x * 256 + a) % 65536 * 256 + b) % 65536 / 16 % 64 = a % 4 * 16 + b / 16 := by
  rw [sh1 (m := 4) (k := 16) (n := 64) (q := 16) hb rfl rfl (by decide) (by decide), shl1 ha (by decide), Nat.add_comm, Nat.mul_comm]
theorem sh_c {x b c : Nat} (hb : b < 256) (hc : c < 256) : ((x * 256 + b) % 65536 * 256 + c) % 65536 / 64 % 64 = b % 16 * 4 + c / 64 := by
  rw [sh1 (m := 16) (k := 64) (n := 64) (q := 4) hc rfl rfl (by decide) (by decide), shl1 hb (by decide), Nat.add_comm, Nat.mul_comm]
theorem lt16 {x : Nat} : x % 65536 < 65536 := Nat.mod_lt _ (by decide)
noncomputable abbrev bst (l : D) (out : List Int) (lb lc : Nat) (j : D) : List D := [l, .bool false, l, dI out, .int (lb : Nat), .int (lc : Nat), j, .undef, .undef, .undef, .undef]
theorem b_turn {F : FO} {l : D} {out : List Int} {lb lc : Nat} {j : D} (hj : ∃ i, j = .int i) (h6 : 6 ≤ lb) (h12 : lb ≤ 12) (ho : out.length ≤ 400) (hl : usable l = true) :
    tv F [3] (bst l out lb lc j) (.cmp .GtE (.var 4) (.lit (.int (6)))) = some true ∧ runs F [3] bb2a_base64_1 (bst l out lb lc j) = some (.next, bst l (out ++ [((code (lc / 2 ^ (lb - 6) % 64) : Nat) : Int)]) (lb - 6) lc j) := by
  refine zE hj ?_; clear hj; rintro i rfl
  have hge : ((6 : Int) ≤ (lb : Int)) := by exact (qe h6)
  refine ⟨by trivial, ?_⟩
  have hs : bin .Sub (.int (lb : Nat)) (.int 6) = some (.int ((lb - 6 : Nat) : Int)) := by simp only [bin, i2, vInt, Option.bind_some]; congr 2; exact (qs h6)
  refine zA (b_pick (x := lc) (s := lb - 6) (by omega)) fun p1 p2 => ?_
  have p3 := idx_b64 (i := lc / 2 ^ (lb - 6) % 64) (Nat.lt_succ_of_le (qC (Nat.mod_lt _ (by decide))))
  unfold bb2a_base64_1
  have he : ev F [3] false (bst l out lb lc (.int i)) (.idx (.glob "_B64") (.bin .BitAnd (.bin .RShift (.var 5) (.bin .Sub (.var 4) (.lit (.int (6))))) (.lit (.int (63))))) = some (.int (code (lc / 2 ^ (lb - 6) % 64) : Nat)) := by
    generalize code (lc / 2 ^ (lb - 6) % 64) = z at *
    generalize lc / 2 ^ (lb - 6) % 64 = y at *
    generalize lc / 2 ^ (lb - 6) = q at *
    trivial
  simp only [runs_nil, runs_cons]
  rw [app_dI (l := out) rfl he (by decide) (fit_of' (qT ho (by decide)))]
  generalize out ++ [((code (lc / 2 ^ (lb - 6) % 64) : Nat) : Int)] = o2
  have : clr 3 l = l ∨ True := .inr trivial
  simp (config := {decide := true}) [run_asg, ev_var, ev_lit, ev_bin, us_int, hs, il_int, setv]
theorem b_stop {F : FO} {l : D} {out : List Int} {lb lc : Nat} {j : D} (h6 : lb < 6) : tv F [3] (bst l out lb lc j) (.cmp .GtE (.var 4) (.lit (.int (6)))) = some false := by
  have hge : ¬ ((6 : Int) ≤ (lb : Int)) := by exact (Int.not_le.mpr (ql h6))
  trivial
theorem b_head {F : FO} {l : D} {out : List Int} {lb lc b : Nat} (hlb : lb ≤ 4) (hlc : lc < 65536) (hb : b < 256) (hcl : clr 3 l = l) {r : Option (Fl × List D)}
    (h : run F [3] (.whl (.cmp .GtE (.var 4) (.lit (.int (6)))) bb2a_base64_1) (bst l out (lb + 8) ((lc * 256 + b) % 65536) (.int (b : Nat))) = r) (hr : ∃ Γ', r = some (.next, Γ')) : runs F [3] bb2a_base64_2 (bst l out lb lc (.int (b : Nat))) = r := by
  refine zAA (b_next hlc hb) fun n1 n2 n3 => ?_
  have pl : bin .Add (.int (lb : Nat)) (.int 8) = some (.int ((lb + 8 : Nat) : Int)) := rfl
  have s1 : run F [3] (.asg 5 (.bin .BitAnd (.bin .BitOr (.bin .LShift (.var 5) (.lit (.int (8)))) (.var 6)) (.lit (.int (65535))))) (bst l out lb lc (.int (b : Nat))) = some (.next, bst l out lb ((lc * 256 + b) % 65536) (.int (b : Nat))) := by
    generalize (lc * 256 + b) % 65536 = z at *
    generalize lc * 256 + b = y at *
    generalize lc * 256 = x at *
    trivial
  have s2 : run F [3] (.asg 4 (.bin .Add (.var 4) (.lit (.int (8))))) (bst l out lb ((lc * 256 + b) % 65536) (.int (b : Nat))) = some (.next, bst l out (lb + 8) ((lc * 256 + b) % 65536) (.int (b : Nat))) := by
    generalize (lc * 256 + b) % 65536 = z at *
    generalize lb + 8 = y at *
    trivial
  refine zE hr ?_; clear hr; rintro Γ' rfl
  unfold bb2a_base64_2
  simp only [runs_nil, runs_cons, s1, s2, h]
theorem b_byte0 {F : FO} {l : D} {out : List Int} {lc b : Nat} (hlc : lc < 65536) (hb : b < 256) (hcl : clr 3 l = l) (ho : out.length ≤ 390) (hl : usable l = true) :
    runs F [3] bb2a_base64_2 (bst l out 0 lc (.int (b : Nat))) = some (.next, bst l (out ++ [((code ((lc * 256 + b) % 65536 / 4 % 64) : Nat) : Int)]) 2 ((lc * 256 + b) % 65536) (.int (b : Nat))) := by
  refine b_head (by decide) hlc hb hcl ?_ ⟨_, rfl⟩
  refine zA (b_turn (F := F) (l := l) (out := out) (lb := 0 + 8) (lc := (lc * 256 + b) % 65536) (j := .int (b : Nat)) ⟨_, rfl⟩ (by decide) (by decide) (qT ho (by decide)) hl) fun t1 t2 => ?_
  rw [run_whl, whl_step (n := 999) t1 t2]
  exact whl_stop (n := 998) (b_stop (by omega))
theorem b_byte2 {F : FO} {l : D} {out : List Int} {lc b : Nat} (hlc : lc < 65536) (hb : b < 256) (hcl : clr 3 l = l) (ho : out.length ≤ 390) (hl : usable l = true) :
    runs F [3] bb2a_base64_2 (bst l out 2 lc (.int (b : Nat))) = some (.next, bst l (out ++ [((code ((lc * 256 + b) % 65536 / 16 % 64) : Nat) : Int)]) 4 ((lc * 256 + b) % 65536) (.int (b : Nat))) := by
  refine b_head (by decide) hlc hb hcl ?_ ⟨_, rfl⟩
  refine zA (b_turn (F := F) (l := l) (out := out) (lb := 2 + 8) (lc := (lc * 256 + b) % 65536) (j := .int (b : Nat)) ⟨_, rfl⟩ (by decide) (by decide) (qT ho (by decide)) hl) fun t1 t2 => ?_
  rw [run_whl, whl_step (n := 999) t1 t2]
  exact whl_stop (n := 998) (b_stop (by omega))
theorem b_byte4 {F : FO} {l : D} {out : List Int} {lc b : Nat} (hlc : lc < 65536) (hb : b < 256) (hcl : clr 3 l = l) (ho : out.length ≤ 390) (hl : usable l = true) :
    runs F [3] bb2a_base64_2 (bst l out 4 lc (.int (b : Nat))) = some (.next, bst l (out ++ [((code ((lc * 256 + b) % 65536 / 64 % 64) : Nat) : Int)] ++ [((code ((lc * 256 + b) % 65536 / 1 % 64) : Nat) : Int)]) 0 ((lc * 256 + b) % 65536) (.int (b : Nat))) := by
  refine b_head qr hlc hb hcl ?_ ⟨_, rfl⟩
  refine zA (b_turn (F := F) (l := l) (out := out) (lb := 4 + 8) (lc := (lc * 256 + b) % 65536) (j := .int (b : Nat)) ⟨_, rfl⟩ (by decide) (by decide) (qT ho (by decide)) hl) fun t1 t2 => ?_
  refine zA (b_turn (F := F) (l := l) (out := out ++ [((code ((lc * 256 + b) % 65536 / 64 % 64) : Nat) : Int)]) (lb := 6) (lc := (lc * 256 + b) % 65536) (j := .int (b : Nat)) ⟨_, rfl⟩ qr (by decide) (by simp; exact (qT ho (by decide))) hl) fun t3 t4 => ?_
  rw [run_whl, whl_step (n := 999) t1 t2]
  refine (whl_step (n := 998) t3 t4).trans ?_
  exact whl_stop (n := 997) (b_stop (by omega))
noncomputable def hand3 (a b c : Nat) : List Nat := [a / 4, a % 4 * 16 + b / 16, b % 16 * 4 + c / 64, c % 64]
theorem b_three {F : FO} {l : D} {out : List Int} {lc a b c : Nat} {j : D} {r : List D} (hlc : lc < 65536) (ha : a < 256) (hb : b < 256) (hc : c < 256) (hcl : clr 3 l = l) (ho : out.length ≤ 380) (hl : usable l = true) :
    ∃ lc', lc' < 65536 ∧ forL (fun x Γ => if [3].contains 6 then none else runs F [3] bb2a_base64_2 (setv [3] 6 x Γ)) (.int (a : Nat) :: .int (b : Nat) :: .int (c : Nat) :: r) (bst l out 0 lc j) =
      forL (fun x Γ => if [3].contains 6 then none else runs F [3] bb2a_base64_2 (setv [3] 6 x Γ)) r (bst l (out ++ (hand3 a b c).map fun i => ((code i : Nat) : Int)) 0 lc' (.int (c : Nat))) := by
  have e1 := b_byte0 (F := F) (l := l) (out := out) hlc ha hcl (qT ho (by decide)) hl
  generalize h1 : (lc * 256 + a) % 65536 = l1 at e1
  have k1 : l1 < 65536 := h1 ▸ lt16
  have e2 := b_byte2 (F := F) (l := l) (out := out ++ [((code (l1 / 4 % 64) : Nat) : Int)]) (lc := l1) k1 hb hcl (by simp; exact (qT ho (by decide))) hl
  generalize h2 : (l1 * 256 + b) % 65536 = l2 at e2
  have k2 : l2 < 65536 := h2 ▸ lt16
  have e3 := b_byte4 (F := F) (l := l) (out := out ++ [((code (l1 / 4 % 64) : Nat) : Int)] ++ [((code (l2 / 16 % 64) : Nat) : Int)]) (lc := l2) k2 hc hcl (by simp; exact (qT ho (by decide))) hl
  generalize h3 : (l2 * 256 + c) % 65536 = l3 at e3
  refine iEA l3 (h3 ▸ lt16) ?_
  have f1 : l1 / 4 % 64 = a / 4 := h1 ▸ sh_a ha
  have f2 : l2 / 16 % 64 = a % 4 * 16 + b / 16 := by rw [← h2, ← h1]; exact sh_b ha hb
  have f3 : l3 / 64 % 64 = b % 16 * 4 + c / 64 := by rw [← h3, ← h2]; exact sh_c hb hc
  have f4 : l3 / 1 % 64 = c % 64 := by rw [Nat.div_one, ← h3]; exact shl1 hc (by decide)
  rw [f1] at e1 e2 e3
  rw [f2] at e2 e3
  rw [f3, f4] at e3
  have g1 : (if [3].contains 6 then none else runs F [3] bb2a_base64_2 (setv [3] 6 (.int (a : Nat)) (bst l out 0 lc j))) = some (.next, bst l (out ++ [((code (a / 4) : Nat) : Int)]) 2 l1 (.int (a : Nat))) := e1
  have g2 : (if [3].contains 6 then none else runs F [3] bb2a_base64_2 (setv [3] 6 (.int (b : Nat)) (bst l (out ++ [((code (a / 4) : Nat) : Int)]) 2 l1 (.int (a : Nat))))) = _ := e2
  have g3 : (if [3].contains 6 then none else runs F [3] bb2a_base64_2 (setv [3] 6 (.int (c : Nat)) (bst l (out ++ [((code (a / 4) : Nat) : Int)] ++ [((code (a % 4 * 16 + b / 16) : Nat) : Int)]) 4 l2 (.int (b : Nat))))) = _ := e3
  simp only [forL, g1, g2, g3]
  simp [hand3]
section
set_option maxHeartbeats 1000000
noncomputable def b64Out : List Nat → List Nat
  | a :: b :: c :: r => (hand3 a b c).map code ++ b64Out r
  | [a, b] => [code (a / 4), code (a % 4 * 16 + b / 16), code (b % 16 * 4), 61]
  | [a] => [code (a / 4), code (a % 4 * 16), 61, 61]
  | [] => []
noncomputable def ci (l : List Nat) : List Int := l.map fun (i : Nat) => (i : Int)
theorem b64_loop {F : FO} {L : D} (hcl : clr 3 L = L) (hL : usable L = true) : ∀ (l : List Nat) (out : List Int) (lc : Nat) (j : D), (∀ b ∈ l, b < 256) → lc < 65536 → out.length + 4 * l.length ≤ 380 →
    ∃ lb lc' out' j', forL (fun x Γ => if [3].contains 6 then none else runs F [3] bb2a_base64_2 (setv [3] 6 x Γ)) (l.map fun b => .int (b : Nat)) (bst L out 0 lc j) = some (.next, bst L out' lb lc' j') ∧ lc' < 65536 ∧ out'.length ≤ 390 ∧
      ((lb = 0 ∧ out ++ ci (b64Out l) = out') ∨ (lb = 2 ∧ out ++ ci (b64Out l) = out' ++ ci [code (lc' % 4 * 16), 61, 61]) ∨ (lb = 4 ∧ out ++ ci (b64Out l) = out' ++ ci [code (lc' % 16 * 4), 61]))
  | [], out, lc, j, _, h2, h3 => ⟨0, lc, out, j, rfl, h2, by simp at h3; exact (qT h3 (by decide)), .inl ⟨rfl, by simp [b64Out, ci]⟩⟩
  | [a], out, lc, j, h1, h2, h3 => by
    have ha := h1 a (by trivial)
    have e1 := b_byte0 (F := F) (l := L) (out := out) h2 ha hcl (by simp at h3; exact (qT h3 (by decide))) hL
    generalize hh : (lc * 256 + a) % 65536 = l1 at e1
    have g1 : (if [3].contains 6 then none else runs F [3] bb2a_base64_2 (setv [3] 6 (.int (a : Nat)) (bst L out 0 lc j))) = _ := e1
    refine ⟨2, l1, out ++ [((code (l1 / 4 % 64) : Nat) : Int)], .int (a : Nat), by simp only [List.map_cons, List.map_nil, forL, g1], hh ▸ lt16, by simp at h3 ⊢; exact (qT h3 (by decide)), .inr (.inl ⟨rfl, ?_⟩)⟩
    simp only [show l1 / 4 % 64 = a / 4 from hh ▸ sh_a ha, show l1 % 4 = a % 4 from hh ▸ shl1 ha (by decide)]
    simp [b64Out, ci]
  | [a, b], out, lc, j, h1, h2, h3 => by
    have ha := h1 a (by trivial)
    have hb := h1 b (by trivial)
    have e1 := b_byte0 (F := F) (l := L) (out := out) h2 ha hcl (by simp at h3; exact (qT h3 (by decide))) hL
    generalize hh : (lc * 256 + a) % 65536 = l1 at e1
    have e2 := b_byte2 (F := F) (l := L) (out := out ++ [((code (l1 / 4 % 64) : Nat) : Int)]) (lc := l1) (hh ▸ lt16) hb hcl (by simp at h3 ⊢; exact (qT h3 (by decide))) hL
    generalize hh2 : (l1 * 256 + b) % 65536 = l2 at e2
    have g1 : (if [3].contains 6 then none else runs F [3] bb2a_base64_2 (setv [3] 6 (.int (a : Nat)) (bst L out 0 lc j))) = _ := e1
    have g2 : (if [3].contains 6 then none else runs F [3] bb2a_base64_2 (setv [3] 6 (.int (b : Nat)) (bst L (out ++ [((code (l1 / 4 % 64) : Nat) : Int)]) 2 l1 (.int (a : Nat))))) = _ := e2
    refine ⟨4, l2, out ++ [((code (l1 / 4 % 64) : Nat) : Int)] ++ [((code (l2 / 16 % 64) : Nat) : Int)], .int (b : Nat), by simp only [List.map_cons, List.map_nil, forL, g1, g2], hh2 ▸ lt16, by simp at h3 ⊢; exact (qT h3 (by decide)), .inr (.inr ⟨rfl, ?_⟩)⟩
    rw [show l1 / 4 % 64 = a / 4 from hh ▸ sh_a ha, show l2 / 16 % 64 = a % 4 * 16 + b / 16 by simp only [← hh2, ← hh]; exact sh_b ha hb, show l2 % 16 = b % 16 from hh2 ▸ shl1 hb (by decide)]
    simp [b64Out, ci]
  | a :: b :: c :: r, out, lc, j, h1, h2, h3 => by
    have ha := h1 a (by trivial)
    have hb := h1 b (by trivial)
    have hc := h1 c (by trivial)
    simp only [List.length_cons] at h3
    refine zEA (b_three (F := F) (l := L) (out := out) (lc := lc) (a := a) (b := b) (c := c) (j := j) (r := r.map fun b => .int (b : Nat)) h2 ha hb hc hcl (qT qu h3) hL) fun lc1 q1 q2 => ?_
    obtain ⟨lb, lc', out', j', e1, e2, e3, e4⟩ := b64_loop hcl hL r (out ++ (hand3 a b c).map fun i => ((code i : Nat) : Int)) lc1 (.int (c : Nat)) (fun x hx => h1 x (by trivial)) q1 (by simp [hand3]; omega)
    refine iEEEEAAA lb lc' out' j' ?_ e2 e3 ?_
    · simp only [List.map_cons]
      exact q2.trans e1
    · have hx : out ++ (hand3 a b c).map (fun i => ((code i : Nat) : Int)) ++ ci (b64Out r) = out ++ ci (b64Out (a :: b :: c :: r)) := by
        simp [b64Out, ci, hand3]
      simp only [hx] at e4
      exact e4
theorem bytesOf_ints : ∀ l : List Nat, (∀ b ∈ l, b < 256) → bytesOf ((ci l).map .int) = some (l.map Nat.toUInt8)
  | [], _ => rfl
  | a :: l, h => by
    have ha := h a (by trivial)
    have ih := bytesOf_ints l fun b hb => h b (by trivial)
    unfold ci at ih ⊢
    simp only [List.map_cons, bytesOf, Option.map_some, byteOf, ih]
    rw [if_pos ⟨by exact (qn _), by exact (ql ha)⟩]
    rfl
theorem code_lt (i : Nat) : code i < 256 := by
  unfold code
  rw [List.getD_eq_getElem?_getD]
  cases h : ((b64.map UInt8.toNat) ++ [61])[i]? with
  | none => decide
  | some x =>
    have := List.mem_of_getElem? h
    have hall : ∀ x ∈ ((b64.map UInt8.toNat) ++ [61]), x < 256 := by decide
    exact hall x this
theorem b64Out_lt : ∀ l : List Nat, ∀ x ∈ b64Out l, x < 256
  | [], x, h => by simp [b64Out] at h
  | [a], x, h => by
    simp only [b64Out, List.mem_cons, List.not_mem_nil, or_false] at h
    rcases h with rfl | rfl | rfl | rfl <;> first | exact code_lt _ | decide
  | [a, b], x, h => by
    simp only [b64Out, List.mem_cons, List.not_mem_nil, or_false] at h
    rcases h with rfl | rfl | rfl | rfl <;> first | exact code_lt _ | decide
  | a :: b :: c :: r, x, h => by
    simp only [b64Out, List.mem_append, List.mem_map] at h
    rcases h with ⟨i, _, rfl⟩ | h
    · exact code_lt i
    · exact b64Out_lt r x h
theorem b64Out_len : ∀ l : List Nat, (b64Out l).length ≤ 4 * l.length
  | [] => by trivial
  | [a] => by trivial
  | [a, b] => by trivial
  | a :: b :: c :: r => by
    have := b64Out_len r
    simp only [b64Out, hand3, List.length_append, List.length_map, List.length_cons, List.length_nil]
    omega
theorem b2a_run {F : FO} (h1 : ∀ s, F "_buffer" [.bytes s] = some (.bytes s)) (h2 : ∀ b, F "_truth" [.bool b] = some (.bool b)) {s : List UInt8} (hz : s.length ≤ 90) :
    Ret (runs F [3] bb2a_base64 ([.bytes s, .bool false] ++ List.replicate 9 .undef)) (.bytes ((b64Out (s.map UInt8.toNat)).map Nat.toUInt8)) := by
  obtain ⟨lb, lc, out, j, hl, hlc, hol, hcase⟩ := (b64_loop (F := F) (L := .bytes s) rfl rfl (s.map UInt8.toNat) [] 0 .undef (fun b hb => by refine zEA (List.mem_map.mp hb) ?_; rintro x _ rfl; exact x.toNat_lt) (by decide) (by simp; exact (qT (qP hz) (by decide))))
  have hb := bytesOf_ints (b64Out (s.map UInt8.toNat)) (b64Out_lt _)
  have hbl := b64Out_len (s.map UInt8.toNat)
  generalize b64Out (s.map UInt8.toNat) = res at *
  simp only [List.nil_append] at hcase
  have s6 : run F [3] (.for_ 6 (.var 2) bb2a_base64_2) (bst (.bytes s) [] 0 0 .undef) = some (.next, bst (.bytes s) out lb lc j) := by
    rw [List.map_map] at hl
    exact r_for (e_var rfl rfl rfl) rfl rfl hl
  refine zAAA (b_low (x := lc)) fun l3 l15 l4 l2 => ?_
  have i3 := idx_b64 (i := lc % 4 * 16) (qM (Nat.mul_le_mul_right _ (qC (Nat.mod_lt _ (by decide)))) (by decide))
  have i15 := idx_b64 (i := lc % 16 * 4) (qM (Nat.mul_le_mul_right _ (qC (Nat.mod_lt _ (by decide)))) (by decide))
  have s7 : run F [3] (.iff (.cmp .Eq (.var 4) (.lit (.int (2)))) (.cons (.app 3 (.idx (.glob "_B64") (.bin .LShift (.bin .BitAnd (.var 5) (.lit (.int (3)))) (.lit (.int (4)))))) (.cons (.app 3 (.lit (.int (61)))) (.cons (.app 3 (.lit (.int (61)))) .nil)))
      (.cons (.iff (.cmp .Eq (.var 4) (.lit (.int (4)))) (.cons (.app 3 (.idx (.glob "_B64") (.bin .LShift (.bin .BitAnd (.var 5) (.lit (.int (15)))) (.lit (.int (2)))))) (.cons (.app 3 (.lit (.int (61)))) .nil)) .nil) .nil)) (bst (.bytes s) out lb lc j) = some (.next, bst (.bytes s) (ci res) lb lc j) := by
    rcases hcase with ⟨rfl, hr⟩ | ⟨rfl, hr⟩ | ⟨rfl, hr⟩
    · rw [hr]
      trivial
    · rw [hr]
      have hv : ev F [3] false (bst (.bytes s) out 2 lc j) (.idx (.glob "_B64") (.bin .LShift (.bin .BitAnd (.var 5) (.lit (.int (3)))) (.lit (.int (4))))) = some (.int (code (lc % 4 * 16) : Nat)) := by
        generalize code (lc % 4 * 16) = z at *
        generalize lc % 4 * 16 = y at *
        generalize lc % 4 = x at *
        trivial
      have ht : tv F [3] (bst (.bytes s) out 2 lc j) (.cmp .Eq (.var 4) (.lit (.int (2)))) = some true := by
        trivial
      exact r_if1 ht (k_step (app_dI (l := out) rfl hv rfl (fit_of' (qT hol (by decide)))) (k_step (app_dI (l := out ++ [((code (lc % 4 * 16) : Nat) : Int)]) (x := 61) rfl e_lit rfl (fit_of' (by simp; exact (qT hol (by decide)))))
        (k_step (app_dI (l := out ++ [((code (lc % 4 * 16) : Nat) : Int)] ++ [61]) (x := 61) rfl e_lit rfl (fit_of' (by simp; exact (qT hol (by decide))))) (k_nil (by simp [ci])))))
    · rw [hr]
      have hv : ev F [3] false (bst (.bytes s) out 4 lc j) (.idx (.glob "_B64") (.bin .LShift (.bin .BitAnd (.var 5) (.lit (.int (15)))) (.lit (.int (2))))) = some (.int (code (lc % 16 * 4) : Nat)) := by
        generalize code (lc % 16 * 4) = z at *
        generalize lc % 16 * 4 = y at *
        generalize lc % 16 = x at *
        trivial
      have ht : tv F [3] (bst (.bytes s) out 4 lc j) (.cmp .Eq (.var 4) (.lit (.int (2)))) = some false := by
        trivial
      have ht4 : tv F [3] (bst (.bytes s) out 4 lc j) (.cmp .Eq (.var 4) (.lit (.int (4)))) = some true := by
        trivial
      exact r_if0 ht (k_if1 ht4 (k_step (app_dI (l := out) rfl hv rfl (fit_of' (qT hol (by decide)))) (k_step (app_dI (l := out ++ [((code (lc % 16 * 4) : Nat) : Int)]) (x := 61) rfl e_lit rfl (fit_of' (by simp; exact (qT hol (by decide))))) (k_nil rfl))) (k_nil (by simp [ci])))
  have hby : biop "bytes" [dI (ci res)] = some (.bytes (res.map Nat.toUInt8)) := by
    unfold dI
    simp only [bi_byt, f1, bytD, hb]
    rw [if_pos (fit_of' (by simp [ci]; simp at hbl; exact (qT (qT hbl (qP hz)) (by decide))))]
    rfl
  show Ret (runs F [3] bb2a_base64 [.bytes s, .bool false, .undef, .undef, .undef, .undef, .undef, .undef, .undef, .undef, .undef]) _
  have e1 := h1 s
  have e2 := h2 false
  clear hcase hbl hb i3 i15 l3 l15 l4 l2
  generalize ci res = R at *
  generalize res.map Nat.toUInt8 = Z at *
  unfold bb2a_base64
  exact .of (k_asg (e_fn (e_cons (e_var rfl rfl rfl) e_nil) e1) rfl rfl (k_asg (e_fn (e_cons (e_var rfl rfl rfl) e_nil) e2) rfl rfl (k_asg (e_list e_nil) rfl rfl (k_asg e_lit rfl rfl (k_asg e_lit rfl rfl (k_step s6 (k_step s7 (k_if0 (t_var rfl rfl rfl) (k_nil rfl) (k_ret (e_bi (e_cons (e_var rfl rfl rfl) e_nil) hby) rfl rfl)))))))))
end
noncomputable def trN (p q c : Nat) : Nat := if c = 43 then p else if c = 47 then q else c
theorem tab_len (x y : UInt8) : (tabOf [43, 47] [x, y]).length = 256 := by simp [tabOf]
theorem tab_get (x y c : UInt8) : ((tabOf [43, 47] [x, y]).getD c.toNat c).toNat = trN x.toNat y.toNat c.toNat := by
  have e : tabOf [43, 47] [x, y] = (((List.range 256).map Nat.toUInt8).set 43 x).set 47 y := by
    simp [tabOf]
  have hc : c.toNat < 256 := c.toNat_lt
  simp only [e, List.getD_eq_getElem?_getD, List.getElem?_set, List.getElem?_set]
  unfold trN
  by_cases h1 : c.toNat = 43
  · rw [if_neg (Nat.ne_of_gt (qM (qE h1) (by decide))), if_pos h1.symm, if_pos (by trivial), if_pos h1]; rfl
  · by_cases h2 : c.toNat = 47
    · rw [if_pos h2.symm, if_pos (by simp), if_neg h1, if_pos h2]; rfl
    · rw [if_neg (fun q => h2 q.symm), if_neg (fun q => h1 q.symm), if_neg h1, if_neg h2, List.getElem?_map, List.getElem?_range hc]
      simp
theorem b64encode_run {F : FO} (h1 : ∀ s : List UInt8, s.length ≤ 90 → F "b2a_base64" [.bytes s, .bool false] = some (.bytes ((b64Out (s.map UInt8.toNat)).map Nat.toUInt8))) {s : List UInt8} (hz : s.length ≤ 90) (x y : UInt8) :
    Ret (runs F [] bb64encode ([.bytes s, .bytes [x, y]] ++ List.replicate 5 .undef)) (.bytes (((b64Out (s.map UInt8.toNat)).map Nat.toUInt8).map fun c => (tabOf [43, 47] [x, y]).getD c.toNat c)) := by
  unfold bb64encode
  have e1 := h1 s hz
  have hl := b64Out_len (s.map UInt8.toNat)
  have hf : fit ((b64Out (s.map UInt8.toNat)).map Nat.toUInt8).length := fit_of' (by simp at hl ⊢; exact (qT (qT hl (qP hz)) (by decide)))
  generalize (b64Out (s.map UInt8.toNat)).map Nat.toUInt8 = r at *
  have hm : biop "maketrans" [.bytes [43, 47], .bytes [x, y]] = some (.bytes (tabOf [43, 47] [x, y])) := by simp only [bi_mk, f2, mkD, vByt, Option.bind_some]; rfl
  have ht : meop "translate" (.bytes r) [.bytes (tabOf [43, 47] [x, y])] = some (.bytes (r.map fun c => (tabOf [43, 47] [x, y]).getD c.toNat c)) := by
    simp only [me_tran, f1, tranD, vByt, Option.bind_some]; rw [if_pos ⟨tab_len x y, hf⟩]
  generalize tabOf [43, 47] [x, y] = T at *
  have hln : biop "len" [.bytes [x, y]] = some (.int 2) := by simp only [bi_len, f1, lenD]; rw [if_pos (fit_of' (by simp))]; rfl
  simp (config := {decide := true}) [Ret, runs_cons, run_skip, run_asg, run_iff, run_asrt, run_ret, tw_cmp, ev_var, ev_lit, ev_cmp, ev_fn, ev_bi, ev_me, evs_nil, evs_cons, us_bytes, e1, il_bytes, setv, cmp, dis, disN, tr_bool, hln, deq_int, hm, ht]
theorem code_sign (p q : Nat) {i : Nat} (h : i ≤ 64) : trN p q (code i) = (signsOf [p, q]).getD i 0 := by
  have key : ∀ i < 62, code i = base62.getD i 0 ∧ code i ≠ 43 ∧ code i ≠ 47 := by decide +kernel
  by_cases h1 : i < 62
  · refine zAA (key i h1) fun k1 k2 k3 => ?_
    unfold trN signsOf
    rw [if_neg k2, if_neg k3, k1, List.getD_eq_getElem?_getD, List.getD_eq_getElem?_getD, List.append_assoc, List.getElem?_append_left (show i < base62.length from h1)]
  · have : i = 62 ∨ i = 63 ∨ i = 64 := by omega
    rcases this with rfl | rfl | rfl
    · rw [show code 62 = 43 from by decide +kernel]; rfl
    · rw [show code 63 = 47 from by decide +kernel]; rfl
    · rw [show code 64 = 61 from by decide +kernel]; rfl
theorem fig_three {a b c : Nat} (ha : a < 256) (hb : b < 256) (hc : c < 256) : figAt (val3 a b c) 0 = ((a / 4 : Nat) : Int) ∧ figAt (val3 a b c) 1 = ((a % 4 * 16 + b / 16 : Nat) : Int) ∧ figAt (val3 a b c) 2 = ((b % 16 * 4 + c / 64 : Nat) : Int) ∧ figAt (val3 a b c) 3 = ((c % 64 : Nat) : Int) := by
  unfold figAt val3
  have e : ∀ v : Int, (v.fdiv (64 ^ (3 - 0))).fmod 64 = v / 262144 % 64 ∧ (v.fdiv (64 ^ (3 - 1))).fmod 64 = v / 4096 % 64 ∧ (v.fdiv (64 ^ (3 - 2))).fmod 64 = v / 64 % 64 ∧ (v.fdiv (64 ^ (3 - 3))).fmod 64 = v / 1 % 64 := fun v => by
    refine ⟨?_, ?_, ?_, ?_⟩ <;> rw [Int.fmod_eq_emod_of_nonneg _ (by decide), Int.fdiv_eq_ediv_of_nonneg _ (by decide)] <;> rfl
  refine zAAA (e (((0 * 256 + (a : Int)) * 256 + (b : Int)) * 256 + (c : Int))) fun e0 e1 e2 e3 => ?_
  rw [e0, e1, e2, e3, Int.zero_mul, Int.zero_add]
  have q : ∀ x y : Nat, (x * 256 + y) / 256 = x ∨ 256 ≤ y := fun x y => by
    rcases Nat.lt_or_ge y 256 with h | h
    · left; rw [Nat.mul_comm, Nat.mul_add_div (by decide), Nat.div_eq_of_lt h, Nat.add_zero]
    · exact .inr h
  have qb : (a * 256 + b) / 256 = a := (q a b).resolve_right (Nat.not_le.mpr hb)
  have qc : ((a * 256 + b) * 256 + c) / 256 = a * 256 + b := (q _ c).resolve_right (Nat.not_le.mpr hc)
  refine iAAA ?_ ?_ ?_ ?_
  · show ((((a * 256 + b) * 256 + c) / (256 * (256 * 4)) % 64 : Nat) : Int) = _
    rw [← Nat.div_div_eq_div_mul, qc, ← Nat.div_div_eq_div_mul, qb, Nat.mod_eq_of_lt (Nat.div_lt_of_lt_mul ha)]
  · show ((((a * 256 + b) * 256 + c) / (256 * 16) % 64 : Nat) : Int) = _
    rw [← Nat.div_div_eq_div_mul, qc, sh0 (m := 4) (k := 16) (n := 64) (q := 16) hb rfl rfl (by decide), Nat.add_comm, Nat.mul_comm]
  · show ((((a * 256 + b) * 256 + c) / 64 % 64 : Nat) : Int) = _
    rw [sh0 (m := 16) (k := 64) (n := 64) (q := 4) hc rfl rfl (by decide), shl0 hb (by decide), Nat.add_comm, Nat.mul_comm]
  · show ((((a * 256 + b) * 256 + c) / 1 % 64 : Nat) : Int) = _
    rw [Nat.div_one, shl0 hc (by decide)]
theorem spell_app (last : List Nat) (a b : List Int) : spell last (a ++ b) = spell last a ++ spell last b := by unfold spell; simp
theorem spell_figs (p q : Nat) : ∀ l : List Nat, (∀ b ∈ l, b < 256) → spell [p, q] (figsOf (ci l)) = (b64Out l).map (trN p q)
  | [], _ => rfl
  | [a], h => by
    have ha := h a (by simp)
    refine zAAA (fig_three (b := 0) (c := 0) ha (by decide) (by decide)) fun f0 f1 f2 f3 => ?_
    have e : figsOf (ci [a]) = [figAt (val3 a 0 0) 0, figAt (val3 a 0 0) 1, 64, 64] := rfl
    simp only [e]
    have f0' : figAt (val3 (a : Int) 0 0) 0 = _ := f0
    have f1' : figAt (val3 (a : Int) 0 0) 1 = _ := f1
    simp only [f0', f1']
    simp only [spell, List.map_cons, List.map_nil, b64Out, Int.toNat_natCast]
    rw [code_sign p q (qT (qD (qC ha)) (by decide)), code_sign p q (qT (Nat.mul_le_mul_right _ (qC (Nat.mod_lt _ (by decide)))) (by decide))]
    simp [trN]
    rfl
  | [a, b], h => by
    have ha := h a (by simp)
    have hb := h b (by simp)
    refine zAAA (fig_three (c := 0) ha hb (by decide)) fun f0 f1 f2 f3 => ?_
    have e : figsOf (ci [a, b]) = [figAt (val3 a b 0) 0, figAt (val3 a b 0) 1, figAt (val3 a b 0) 2, 64] := rfl
    simp only [e]
    have f0' : figAt (val3 (a : Int) b 0) 0 = _ := f0
    have f1' : figAt (val3 (a : Int) b 0) 1 = _ := f1
    have f2' : figAt (val3 (a : Int) b 0) 2 = _ := f2
    simp only [f0', f1', f2']
    simp only [spell, List.map_cons, List.map_nil, b64Out, Int.toNat_natCast]
    rw [code_sign p q (qT (qD (qC ha)) (by decide)), code_sign p q (qT (qA (Nat.mul_le_mul_right _ (qC (Nat.mod_lt _ (by decide)))) (qD (qC hb))) (by decide)), code_sign p q (qT (Nat.mul_le_mul_right _ (qC (Nat.mod_lt _ (by decide)))) (by decide))]
    simp [trN]
    rfl
  | a :: b :: c :: r, h => by
    have ha := h a (by simp)
    have hb := h b (by simp)
    have hc := h c (by simp)
    refine zAAA (fig_three ha hb hc) fun f0 f1 f2 f3 => ?_
    have ih := spell_figs p q r fun x hx => h x (by simp [hx])
    have e : figsOf (ci (a :: b :: c :: r)) = [figAt (val3 a b c) 0, figAt (val3 a b c) 1, figAt (val3 a b c) 2, figAt (val3 a b c) 3] ++ figsOf (ci r) := rfl
    simp only [e, f0, f1, f2, f3, spell_app, ih]
    simp only [spell, List.map_cons, List.map_nil, b64Out, hand3, List.map_append, Int.toNat_natCast]
    rw [code_sign p q (qT (qD (qC ha)) (by decide)), code_sign p q (qT (qA (Nat.mul_le_mul_right _ (qC (Nat.mod_lt _ (by decide)))) (qD (qC hb))) (by decide)), code_sign p q (qT (qA (Nat.mul_le_mul_right _ (qC (Nat.mod_lt _ (by decide)))) (qD (qC hc))) (by decide)), code_sign p q (qT (qC (Nat.mod_lt _ (by decide))) (by decide))]
section
set_option maxHeartbeats 1000000
theorem mapO_map {α : Type} (g : α → D) (f : D → Option D) (k : α → D) (h : ∀ x : α, f (g x) = some (k x)) : ∀ l : List α, mapO f (l.map g) = some (l.map k)
  | [] => rfl
  | a :: l => by simp only [List.map_cons, mapO, h, mapO_map g f k h l, Option.map_some]
theorem mapO_mem {α : Type} (g : α → D) (f : D → Option D) (k : α → D) : ∀ (l : List α), (∀ x ∈ l, f (g x) = some (k x)) → mapO f (l.map g) = some (l.map k)
  | [], _ => rfl
  | a :: l, h => by simp only [List.map_cons, mapO, h a (.head _), mapO_mem g f k l fun x hx => h x (.tail _ hx), Option.map_some]
theorem evComp {F : FO} {own : List Nat} {o : Bool} {Γ : List D} {elt it : E} {d : D} {xs l : List D} (h1 : ev F own false Γ it = some d) (h2 : itemsOf d = some xs) (h3 : mapO (fun x => ev F own false [.undef, x] elt) xs = some l) (h4 : (l.all atom && decide (xs.length ≤ 100000)) = true) : ev F own o Γ (.comp elt it) = some (.list l) := by
  simp only [ev_comp, h1]
  simp only [h2, h3, h4, if_true]
theorem written_run {F : FO} (h1 : ∀ (s : List UInt8) (x y : UInt8), s.length ≤ 90 → F "b64encode" [.bytes s, .bytes [x, y]] = some (.bytes (((b64Out (s.map UInt8.toNat)).map Nat.toUInt8).map fun c => (tabOf [43, 47] [x, y]).getD c.toNat c)))
    {o : List Nat} (ho : ∀ b ∈ o, b < 256) (hz : o.length ≤ 90) {p q : Nat} (hp : p < 128) (hq : q < 128) (h2 : F "_law_spelled" [dI (figsOf (ci o)), .str [p, q]] = some (.str (spell [p, q] (figsOf (ci o))))) :
    Ret (runs F [] b_law_written ([dI (ci o), dI (figsOf (ci o)), .str [p, q]] ++ List.replicate 6 .undef)) (.str (spell [p, q] (figsOf (ci o)))) := by
  simp only [spell_figs p q o ho] at h2 ⊢
  generalize figsOf (ci o) = fg at *
  have hbo : biop "bytes" [dI (ci o)] = some (.bytes (o.map Nat.toUInt8)) := by
    unfold dI
    simp only [bi_byt, f1, bytD, bytesOf_ints o ho]
    rw [if_pos (fit_of' (by simp [ci]; exact (qT hz (by decide))))]
    rfl
  have hord : ∀ c : Nat, ev F [] false [.undef, .str [c]] (.bi "ord" (.cons (.var 1) .nil)) = some (.int c) := fun c => by
    trivial
  have hc2 : ev F [] true [dI (ci o), dI fg, .str [p, q], .undef, .undef, .undef, .undef, .undef, .undef] (.comp (.bi "ord" (.cons (.var 1) .nil)) (.var 2)) = some (dI (ci [p, q])) := by
    have hm : mapO (fun x => ev F [] false [.undef, x] (.bi "ord" (.cons (.var 1) .nil))) [.str [p], .str [q]] = some [.int p, .int q] := mapO_map (fun c : Nat => D.str [c]) _ (fun c : Nat => D.int c) hord [p, q]
    refine evComp (d := .str [p, q]) ?_ rfl hm rfl
    trivial
  have hb2 : biop "bytes" [dI (ci [p, q])] = some (.bytes [p.toUInt8, q.toUInt8]) := by
    unfold dI
    simp only [bi_byt, f1, bytD, bytesOf_ints [p, q] (by simp; exact ⟨(qM (qC hp) (by decide)), (qM (qC hq) (by decide))⟩)]
    rfl
  have hlen : (o.map Nat.toUInt8).length ≤ 90 := by simpa using hz
  have e1 := h1 (o.map Nat.toUInt8) p.toUInt8 q.toUInt8 hlen
  have hoo : (o.map Nat.toUInt8).map UInt8.toNat = o := by
    rw [List.map_map]
    conv => rhs; rw [← List.map_id o]
    refine List.map_congr_left fun b hb => ?_
    have := ho b hb
    show (b.toUInt8).toNat = b
    rw [Nat.toUInt8, UInt8.toNat_ofNat']
    omega
  rw [hoo] at e1
  have hWl := b64Out_len o
  have hW8 := b64Out_lt o
  have htx : (((b64Out o).map Nat.toUInt8).map fun c => (tabOf [43, 47] [p.toUInt8, q.toUInt8]).getD c.toNat c).map UInt8.toNat = (b64Out o).map (trN p q) := by
    rw [List.map_map, List.map_map]
    refine List.map_congr_left fun b hb => ?_
    have := hW8 b hb
    show ((tabOf [43, 47] [p.toUInt8, q.toUInt8]).getD b.toUInt8.toNat b.toUInt8).toNat = trN p q b
    rw [tab_get]
    have hu : ∀ n, n < 256 → (n.toUInt8).toNat = n := fun n hn => by rw [Nat.toUInt8, UInt8.toNat_ofNat']; omega
    rw [hu b this, hu p (qM (qC hp) (by decide)), hu q (qM (qC hq) (by decide))]
  generalize hWr : ((b64Out o).map Nat.toUInt8).map (fun c => (tabOf [43, 47] [p.toUInt8, q.toUInt8]).getD c.toNat c) = W at *
  have hWlen : W.length ≤ 360 := by rw [← hWr]; simp; exact (qT hWl (qP hz))
  generalize (b64Out o).map (trN p q) = tx at *
  have htl : tx.length = W.length := by rw [← htx]; simp
  have hchr : ∀ c : UInt8, ev F [] false [.undef, .int c.toNat] (.bi "chr" (.cons (.var 1) .nil)) = some (.str [c.toNat]) := fun c => by
    have hc := c.toNat_lt
    have hb : biop "chr" [.int (c.toNat : Nat)] = some (.str [c.toNat]) := by
      simp only [bi_chr, f1, chrD]; rw [if_pos (⟨(qn _), (ql (Nat.lt_succ_of_le (qC hc)))⟩), Int.toNat_natCast]
    trivial
  have hc3 : ∀ j, ev F [] true [dI (ci o), dI fg, .str [p, q], .bytes W, j, .undef, .undef, .undef, .undef] (.comp (.bi "chr" (.cons (.var 1) .nil)) (.var 3)) = some (.list ((tx.map fun c => [c]).map .str)) := fun j => by
    have hm : mapO (fun x => ev F [] false [.undef, x] (.bi "chr" (.cons (.var 1) .nil))) (W.map fun c => .int c.toNat) = some (W.map fun c => .str [c.toNat]) := mapO_map (fun c : UInt8 => D.int c.toNat) _ (fun c => D.str [c.toNat]) hchr W
    have e : (W.map fun c => D.str [c.toNat]) = (tx.map fun c => [c]).map D.str := by rw [← htx]; simp
    rw [e] at hm
    refine evComp (d := .bytes W) ?_ rfl hm ?_
    · trivial
    · simp [atom]
      exact (qT hWlen (by decide))
  have hj : meop "join" (.str []) [.list ((tx.map fun c => [c]).map .str)] = some (.str tx) := by
    rw [meop_join [] (B := 1) (fun x hx => by refine zEA (List.mem_map.mp hx) ?_; rintro c _ rfl; simp) (by simp; omega), joinL_nil]
    simp [List.flatten_eq_flatMap, List.flatMap_map]
  have his : biop "isinstance" [.bytes W, .ty "bytes"] = some (.bool true) := by simp only [bi_isi, f2, isiD, isiN, vTy, Option.bind_some]; rfl
  have s1 : run F [] (.asg 3 (.fn "b64encode" (.cons (.bi "bytes" (.cons (.var 0) .nil)) (.cons (.bi "bytes" (.cons (.comp (.bi "ord" (.cons (.var 1) .nil)) (.var 2)) .nil)) .nil)))) [dI (ci o), dI fg, .str [p, q], .undef, .undef, .undef, .undef, .undef, .undef] =
      some (.next, [dI (ci o), dI fg, .str [p, q], .bytes W, .undef, .undef, .undef, .undef, .undef]) := by
    have e0 : ev F [] true [dI (ci o), dI fg, .str [p, q], .undef, .undef, .undef, .undef, .undef, .undef] (.var 0) = some (dI (ci o)) := by
      trivial
    have e2 : ev F [] false [dI (ci o), dI fg, .str [p, q], .undef, .undef, .undef, .undef, .undef, .undef] (.fn "b64encode" (.cons (.bi "bytes" (.cons (.var 0) .nil)) (.cons (.bi "bytes" (.cons (.comp (.bi "ord" (.cons (.var 1) .nil)) (.var 2)) .nil)) .nil))) = some (.bytes W) := by
      exact e_fn (e_cons (e_bi (e_cons e0 e_nil) hbo) (e_cons (e_bi (e_cons hc2 e_nil) hb2) e_nil)) e1
    exact r_asg e2 rfl rfl
  have s2 : run F [] (.asg 4 (.me (.lit (.str [])) "join" (.cons (.comp (.bi "chr" (.cons (.var 1) .nil)) (.var 3)) .nil))) [dI (ci o), dI fg, .str [p, q], .bytes W, .undef, .undef, .undef, .undef, .undef] =
      some (.next, [dI (ci o), dI fg, .str [p, q], .bytes W, .str tx, .undef, .undef, .undef, .undef]) := by
    have e2 : ev F [] false [dI (ci o), dI fg, .str [p, q], .bytes W, .undef, .undef, .undef, .undef, .undef] (.me (.lit (.str [])) "join" (.cons (.comp (.bi "chr" (.cons (.var 1) .nil)) (.var 3)) .nil)) = some (.str tx) := by
      exact e_me e_lit (e_cons (hc3 _) e_nil) hj
    exact r_asg e2 rfl rfl
  show Ret (runs F [] b_law_written [dI (ci o), dI fg, .str [p, q], .undef, .undef, .undef, .undef, .undef, .undef]) _
  unfold b_law_written
  exact .of (k_step s1 (k_step s2 (k_if0 (t_or0 (t_not1 (t_bi (e_cons (e_var rfl rfl rfl) (e_cons e_lit e_nil)) his rfl)) (t_cmp (e_var rfl rfl rfl) (e_fn (e_cons (e_var rfl rfl rfl) (e_cons (e_var rfl rfl rfl) e_nil)) h2) (congrArg (fun b => some (!b)) (decide_eq_true rfl)))) (k_nil rfl) (k_retV rfl rfl rfl))))
end
section
set_option maxHeartbeats 1000000
noncomputable def toD (a : Addr) : Option Nat → D
  | none => .obj a
  | some c => .str [c]
noncomputable def partsStep (acc : List (Option Nat)) (c : Nat) : List (Option Nat) := if c = 42 then (if acc.getLast? = some none then acc else acc ++ [none]) else acc ++ [some (if c = 63 then 46 else c)]
noncomputable def partsOf (s : List Nat) : List (Option Nat) := s.foldl partsStep []
def patOk (s : List Nat) : Prop := ∀ c ∈ s, c ≠ 91 ∧ (c = 42 ∨ c = 63 ∨ (specials.contains c = false ∧ c < 128))
noncomputable abbrev tst (s : List Nat) (a : Addr) (acc : List (Option Nat)) (i : Nat) (j : D) : List D := [.str s, .obj a, .str [46], .list (acc.map (toD a)), .meth 3, .int (i : Nat), .int (s.length : Nat), j, .undef, .undef, .undef, .undef, .undef, .undef, .undef, .undef, .undef]
theorem tr_turn {F : FO} (h1 : ∀ c, specials.contains c = false ∧ c < 128 → F "escape" [.str [c]] = some (.str [c])) {s : List Nat} (hs : patOk s) {a : Addr} {acc : List (Option Nat)} {i : Nat} {j : D} (hi : i < s.length) (hz : s.length ≤ 900) (ha : acc.length ≤ 900) :
    runs F [3] b_translate_4 (tst s a acc i j) = some (.next, tst s a (partsStep acc s[i]) (i + 1) (.str [s[i]])) := by
  have hidx : idx (.str s) (.int (i : Nat)) = some (.str [s[i]]) := by simp only [idx, vInt, Option.bind_some]; rw [getI_nat hi (qM (qT (qW hi) hz) (by decide))]; rfl
  have hok := hs s[i] (List.getElem_mem hi)
  have hal : fit (acc.map (toD a)).length := fit_of' (by rw [List.length_map]; exact (qT ha (by decide)))
  generalize s[i] = c at *
  have pl : bin .Add (.int (i : Nat)) (.int 1) = some (.int ((i + 1 : Nat) : Int)) := rfl
  have key : ∀ d x : D, ∀ e : E, ev F [3] false (tst s a acc (i + 1) (.str [c])) e = some d → (acc.map (toD a)) ++ [d] = (partsStep acc c).map (toD a) → run F [3] (.add 4 e) (tst s a acc (i + 1) (.str [c])) = some (.next, tst s a (partsStep acc c) (i + 1) (.str [c])) := by
    intro d x e he hp
    rw [run_add, he]
    simp only [List.getElem?_cons_succ, List.getElem?_cons_zero]
    rw [if_pos ⟨by decide, hal⟩, hp]
    rfl
  unfold b_translate_4
  refine k_asg (e_idx (e_var rfl rfl rfl) (e_var rfl rfl rfl) hidx) rfl rfl (k_asg (e_bin (e_var rfl rfl rfl) e_lit pl) rfl rfl ?_)
  show runs F [3] _ (tst s a acc (i + 1) (.str [c])) = _
  clear hidx pl
  by_cases c1 : c = 42
  · subst c1
    refine k_if1 (t_cmp (e_var rfl rfl rfl) e_lit rfl) (Γ' := tst s a (partsStep acc 42) (i + 1) (.str [42])) ?_ (k_nil rfl)
    by_cases hlast : acc.getLast? = some none
    · have hpe : partsStep acc 42 = acc := by unfold partsStep; rw [if_pos rfl, if_pos hlast]
      rw [hpe]
      have hex : ∃ acc', acc = acc' ++ [none] := by
        rcases List.eq_nil_or_concat acc with rfl | ⟨x, y, rfl⟩
        · exact nos hlast
        · rw [List.concat_eq_append] at *
          simp at hlast
          exact ⟨x, by rw [hlast]⟩
      refine zE hex ?_; rintro acc' rfl
      have hg : idx (.list ((acc' ++ [none]).map (toD a))) (.int (-1)) = some (.obj a) := by rw [List.map_append]; exact getI_last _ _
      have hE : truth (.list ((acc' ++ [none]).map (toD a))) = some true := (tru_l hal).trans (by simp)
      have hd : cmp .IsNot (.obj a) (.obj a) = some false := by show some (!decide (a = a)) = _; simp
      unfold tst
      generalize (acc' ++ [none]).map (toD a) = M at *
      exact k_if0 (by trivial) (k_nil rfl) (k_nil rfl)
    · have hpe : partsStep acc 42 = acc ++ [none] := by unfold partsStep; rw [if_pos rfl, if_neg hlast]
      have t2 : tv F [3] (tst s a acc (i + 1) (.str [42])) (.or (.not (.var 3)) (.cmp .IsNot (.idx (.var 3) (.neg (.lit (.int (1))))) (.var 1))) = some true := by
        rcases List.eq_nil_or_concat acc with rfl | ⟨x, y, rfl⟩
        · trivial
        · rw [List.concat_eq_append] at *
          cases y with
          | none => simp at hlast
          | some y =>
            have hg : idx (.list ((x ++ [some y]).map (toD a))) (.int (-1)) = some (.str [y]) := by rw [List.map_append]; exact getI_last _ _
            have hE : truth (.list ((x ++ [some y]).map (toD a))) = some true := (tru_l hal).trans (by simp)
            clear key
            unfold tst
            generalize (x ++ [some y]).map (toD a) = M at *
            trivial
      exact k_if1 t2 (k_step (key (.obj a) .none (.var 1) (by trivial) (by rw [hpe]; simp [toD])) (k_nil rfl)) (k_nil rfl)
  · refine k_if0 (t_cmp (e_var rfl rfl rfl) e_lit (congrArg some (decide_eq_false fun q => c1 (List.cons.inj q).1))) (Γ' := tst s a (partsStep acc c) (i + 1) (.str [c])) ?_ (k_nil rfl)
    by_cases c2 : c = 63
    · subst c2
      exact k_if1 (t_cmp (e_var rfl rfl rfl) e_lit rfl) (k_step (key (.str [46]) .none (.var 2) (by trivial) (by unfold partsStep; simp [toD])) (k_nil rfl)) (k_nil rfl)
    · have hesc := h1 c (by rcases hok.2 with h | h | h <;> first | exact absurd h c1 | exact absurd h c2 | exact h)
      have t3 : tv F [3] (tst s a acc (i + 1) (.str [c])) (.cmp .Eq (.var 7) (.lit (.str [91]))) = some false := by
        trivial
      exact k_if0 (t_cmp (e_var rfl rfl rfl) e_lit (congrArg some (decide_eq_false fun q => c2 (List.cons.inj q).1))) (k_if0 t3 (k_step (key (.str [c]) .none _ (by trivial) (by unfold partsStep; simp [toD, c1, c2])) (k_nil rfl)) (k_nil rfl)) (k_nil rfl)
theorem partsStep_len (acc : List (Option Nat)) (c : Nat) : (partsStep acc c).length ≤ acc.length + 1 := by
  unfold partsStep
  split
  · split <;> simp
  · simp
theorem trans_run {F : FO} (h1 : ∀ c, specials.contains c = false ∧ c < 128 → F "escape" [.str [c]] = some (.str [c])) {s : List Nat} (hs : patOk s) (a : Addr) (hz : s.length ≤ 800) :
    Ret (runs F [3] b_translate ([.str s, .obj a, .str [46]] ++ List.replicate 14 .undef)) (.list ((partsOf s).map (toD a))) := by
  unfold b_translate
  have hf : fit s.length := fit_of' (qT hz (by decide))
  obtain ⟨fl, Γ', hw, rfl, j, rfl⟩ := whileL_inv (c := fun Γ => tv F [3] Γ (.cmp .Lt (.var 5) (.var 6))) (b := fun Γ => runs F [3] b_translate_4 Γ)
    (fun m Γ => ∃ i j, i ≤ s.length ∧ m = s.length - i ∧ Γ = tst s a ((s.take i).foldl partsStep []) i j ∧ ((s.take i).foldl partsStep []).length ≤ i)
    (fun fl Γ => fl = .next ∧ ∃ j, Γ = tst s a (partsOf s) s.length j)
    (by
      intro m Γ hz; refine zEEAAA hz ?_; clear hz; rintro i j hi rfl rfl hl
      by_cases hlt : i < s.length
      · have hlt' : ((i : Int) < (s.length : Int)) := by exact (ql hlt)
        refine .inr ⟨by trivial, .inl ⟨s.length - (i + 1), _, by exact (qK hlt), .inl (tr_turn h1 hs hlt (qT hz (by decide)) (qT (qT hl (qT hi hz)) (by decide))), i + 1, .str [s[i]], by exact hlt, rfl, ?_, ?_⟩⟩
        · simp only [List.take_add_one, List.getElem?_eq_getElem hlt, Option.toList_some, List.foldl_append]
          rfl
        · simp only [List.take_add_one, List.getElem?_eq_getElem hlt, Option.toList_some, List.foldl_append]
          have := partsStep_len ((s.take i).foldl partsStep []) s[i]
          simp only [List.foldl_cons, List.foldl_nil]
          omega
      · have hlt' : ¬ ((i : Int) < (s.length : Int)) := by exact (Int.not_lt.mpr (qe (qX hlt)))
        have he : i = s.length := by exact (Nat.le_antisymm hi (qX hlt))
        refine .inl (iAAE (by trivial) rfl j ?_)
        rw [he, List.take_length]; rfl)
    1000 s.length (tst s a [] 0 .undef) ⟨0, .undef, Nat.zero_le _, rfl, rfl, Nat.zero_le _⟩ (qM hz (by decide))
  have s4 : run F [3] (.whl (.cmp .Lt (.var 5) (.var 6)) b_translate_4) (tst s a [] 0 .undef) = some (.next, tst s a (partsOf s) s.length j) := by simp only [run_whl]; exact hw
  have s1 : run F [3] (.asg 3 (.list .nil)) [.str s, .obj a, .str [46], .undef, .undef, .undef, .undef, .undef, .undef, .undef, .undef, .undef, .undef, .undef, .undef, .undef, .undef] = some (.next, [.str s, .obj a, .str [46], .list [], .undef, .undef, .undef, .undef, .undef, .undef, .undef, .undef, .undef, .undef, .undef, .undef, .undef]) := by
    trivial
  have s2 : run F [3] (.ali 4 3) [.str s, .obj a, .str [46], .list [], .undef, .undef, .undef, .undef, .undef, .undef, .undef, .undef, .undef, .undef, .undef, .undef, .undef] = some (.next, [.str s, .obj a, .str [46], .list [], .meth 3, .undef, .undef, .undef, .undef, .undef, .undef, .undef, .undef, .undef, .undef, .undef, .undef]) := by
    rfl
  have s3 : run F [3] (.asgP [5, 6] (.cons (.lit (.int (0))) (.cons (.bi "len" (.cons (.var 0) .nil)) .nil))) [.str s, .obj a, .str [46], .list [], .meth 3, .undef, .undef, .undef, .undef, .undef, .undef, .undef, .undef, .undef, .undef, .undef, .undef] = some (.next, tst s a [] 0 .undef) := by
    have hln : biop "len" [.str s] = some (.int s.length) := bl_s hf
    trivial
  have s5 : run F [3] (.asrt (.cmp .Eq (.var 5) (.var 6))) (tst s a (partsOf s) s.length j) = some (.next, tst s a (partsOf s) s.length j) := by
    trivial
  show Ret (runs F [3] _ [.str s, .obj a, .str [46], .undef, .undef, .undef, .undef, .undef, .undef, .undef, .undef, .undef, .undef, .undef, .undef, .undef, .undef]) _
  simp only [Ret, runs_nil, runs_cons, s1, s2, s3, s4, s5]
  simp (config := {decide := true}) [run_retV, us_list]
end
section
variable {α β : Type} [DecidableEq α] [DecidableEq β]
noncomputable def wstep (star : α) (f : α → β) (st : List β × List (List β)) (c : α) : List β × List (List β) :=
  if c = star then (if st.2.getLast? = some [] then st else (st.1, st.2 ++ [[]])) else match st.2.getLast? with
    | none => (st.1 ++ [f c], st.2)
    | some l => (st.1, st.2.dropLast ++ [l ++ [f c]])
noncomputable def wordsOf (star : α) (f : α → β) (s : List α) : List β × List (List β) := s.foldl (wstep star f) ([], [])
theorem wstep_star1 {star : α} {f : α → β} {w0 : List β} {ws : List (List β)} : wstep star f (w0, ws ++ [[]]) star = (w0, ws ++ [[]]) := by unfold wstep; rw [if_pos rfl, if_pos (by simp)]
theorem wstep_star2 {star : α} {f : α → β} {w0 : List β} {ws : List (List β)} (h : ws.getLast? ≠ some []) : wstep star f (w0, ws) star = (w0, ws ++ [[]]) := by unfold wstep; rw [if_pos rfl, if_neg h]
theorem wstep_w0 {star c : α} {f : α → β} {w0 : List β} (h : c ≠ star) : wstep star f (w0, []) c = (w0 ++ [f c], []) := by unfold wstep; rw [if_neg h]; rfl
theorem wstep_ws {star c : α} {f : α → β} {w0 l : List β} {ws : List (List β)} (h : c ≠ star) : wstep star f (w0, ws ++ [l]) c = (w0, ws ++ [l ++ [f c]]) := by unfold wstep; rw [if_neg h]; simp
def goodW (ws : List (List β)) : Prop := ∀ w ∈ ws.dropLast, w ≠ []
theorem wstep_good {star c : α} {f : α → β} {st : List β × List (List β)} (h : goodW st.2) : goodW (wstep star f st c).2 := by
  obtain ⟨w0, ws⟩ := st
  by_cases hc : c = star
  · refine yl hc ?_; clear hc
    by_cases hl : ws.getLast? = some []
    · unfold wstep; rw [if_pos rfl, if_pos hl]; exact h
    · rw [wstep_star2 hl]
      intro w hw
      rw [List.dropLast_concat] at hw
      rcases List.eq_nil_or_concat ws with rfl | ⟨ws', l, rfl⟩
      · cases hw
      · rw [List.concat_eq_append] at *
        rcases List.mem_append.mp hw with q | q
        · exact h w (by rw [List.dropLast_concat]; exact q)
        · simp at q; refine yl q ?_; clear q
          simp at hl
          exact hl
  · rcases List.eq_nil_or_concat ws with rfl | ⟨ws', l, rfl⟩
    · rw [wstep_w0 hc]; exact h
    · rw [List.concat_eq_append] at *
      rw [wstep_ws hc]
      intro w hw
      rw [List.dropLast_concat] at hw
      exact h w (by rw [List.dropLast_concat]; exact hw)
theorem words_good (star : α) (f : α → β) (s : List α) : goodW (wordsOf star f s).2 := by
  unfold wordsOf
  have : ∀ (s : List α) (st : List β × List (List β)), goodW st.2 → goodW (s.foldl (wstep star f) st).2 := by
    intro s
    induction s with
    | nil => exact fun st h => h
    | cons c s ih => exact fun st h => ih _ (wstep_good h)
  exact this s _ (by intro w hw; cases hw)
end
noncomputable def encT (ws : List (List Nat)) : List (Option Nat) := ws.flatMap fun w => none :: w.map some
noncomputable def encP (w0 : List Nat) (ws : List (List Nat)) : List (Option Nat) := w0.map some ++ encT ws
noncomputable def chP (c : Nat) : Nat := if c = 63 then 46 else c
theorem encT_app (a b : List (List Nat)) : encT (a ++ b) = encT a ++ encT b := by unfold encT; simp
theorem encT_cons (w : List Nat) (b : List (List Nat)) : encT (w :: b) = none :: (w.map some ++ encT b) := by unfold encT; rfl
theorem enc_step (st : List Nat × List (List Nat)) (c : Nat) : partsStep (encP st.1 st.2) c = encP (wstep 42 chP st c).1 (wstep 42 chP st c).2 := by
  obtain ⟨w0, ws⟩ := st
  by_cases hc : c = 42
  · refine yl hc ?_; clear hc
    rcases List.eq_nil_or_concat ws with rfl | ⟨ws', l, rfl⟩
    · rw [wstep_star2 (by simp)]
      have hl : (encP w0 []).getLast? ≠ some none := by
        unfold encP encT
        rcases List.eq_nil_or_concat w0 with rfl | ⟨x, y, rfl⟩ <;> (first | trivial | simp)
      unfold partsStep
      rw [if_pos rfl, if_neg hl]
      simp [encP, encT]
    · rw [List.concat_eq_append] at *
      by_cases hl : l = []
      · refine yl hl ?_; clear hl
        rw [wstep_star1]
        have : (encP w0 (ws' ++ [[]])).getLast? = some none := by simp [encP, encT]
        unfold partsStep
        rw [if_pos rfl, if_pos this]
      · rw [wstep_star2 (by simp [hl])]
        have : (encP w0 (ws' ++ [l])).getLast? ≠ some none := by
          rcases List.eq_nil_or_concat l with rfl | ⟨x, y, rfl⟩
          · exact absurd rfl hl
          · rw [List.concat_eq_append]
            unfold encP encT
            rw [List.flatMap_append]
            simp only [List.flatMap_cons, List.flatMap_nil, List.append_nil, List.map_append, List.map_cons, List.map_nil]
            rw [← List.cons_append, ← List.append_assoc, ← List.append_assoc, List.getLast?_append]
            simp
        unfold partsStep
        rw [if_pos rfl, if_neg this]
        simp [encP, encT]
  · have hp : ∀ acc, partsStep acc c = acc ++ [some (chP c)] := fun acc => by unfold partsStep chP; rw [if_neg hc]
    rw [hp]
    rcases List.eq_nil_or_concat ws with rfl | ⟨ws', l, rfl⟩
    · rw [wstep_w0 hc]; simp [encP, encT]
    · rw [List.concat_eq_append] at *
      rw [wstep_ws hc]; simp [encP, encT]
theorem parts_words_eq (s : List Nat) : partsOf s = encP (wordsOf 42 chP s).1 (wordsOf 42 chP s).2 := by
  unfold partsOf wordsOf
  have : ∀ (s : List Nat) (st : List Nat × List (List Nat)), s.foldl partsStep (encP st.1 st.2) = encP (s.foldl (wstep 42 chP) st).1 (s.foldl (wstep 42 chP) st).2 := by
    intro s
    induction s with
    | nil => exact fun st => rfl
    | cons c s ih =>
      intro st
      simp only [List.foldl_cons, List.foldl_cons, enc_step, ih]
  exact this s ([], [])
noncomputable def midT (w : List Nat) : List Nat := [40, 63, 62, 46, 42, 63] ++ w ++ [41]
noncomputable def bodyT (w0 : List Nat) (ws : List (List Nat)) : List Nat := match ws.getLast? with
  | none => w0
  | some l => w0 ++ ws.dropLast.flatMap midT ++ [46, 42] ++ l
noncomputable def textT (w0 : List Nat) (ws : List (List Nat)) : List Nat := [40, 63, 115, 58] ++ bodyT w0 ws ++ [41, 92, 90]
theorem bodyT_nil (w0 : List Nat) : bodyT w0 [] = w0 := rfl
theorem bodyT_snoc (w0 : List Nat) (ms : List (List Nat)) (l : List Nat) : bodyT w0 (ms ++ [l]) = w0 ++ ms.flatMap midT ++ [46, 42] ++ l := by unfold bodyT; simp
section
set_option maxHeartbeats 1000000
section
variable {F : FO} {L : List (Option Nat)} {a : Addr} {i : Nat} {x2 x3 x6 : D}
noncomputable abbrev jst (L : List (Option Nat)) (a : Addr) (x2 x3 : D) (i : Nat) (x6 : D) : List D := [.list (L.map (toD a)), .obj a, x2, x3, .int (i : Nat), .int (L.length : Nat), x6, .undef]
theorem jidx {x : Option Nat} (h : L[i]? = some x) (hz : L.length ≤ 900) : idx (.list (L.map (toD a))) (.int (i : Nat)) = some (toD a x) := by
  refine zE (List.getElem?_eq_some_iff.mp h) ?_; rintro hi rfl
  simp only [idx, vInt, Option.bind_some]
  rw [getI_nat (by simp only [List.length_map]; exact hi) (by exact (qM (qT (qW hi) hz) (by decide))), List.getElem_map]
theorem jdis (x : Option Nat) : dis (toD a x) (.obj a) = some x.isNone := by
  cases x with
  | none => show some (decide (a = a)) = _; simp
  | some c => rfl
noncomputable def jcond : E := .and (.cmp .Lt (.var 4) (.var 5)) (.cmp .IsNot (.idx (.var 0) (.var 4)) (.var 1))
theorem jcond_t {x : Option Nat} (h : L[i]? = some x) (hz : L.length ≤ 900) : tv F [2, 6] (jst L a x2 x3 i x6) jcond = some (!x.isNone) := by
  have hi : ((i : Int) < (L.length : Int)) := by have := (List.getElem?_eq_some_iff.mp h).1; exact (ql this)
  have h1 := jidx (a := a) h hz
  have h2 := jdis (a := a) x
  unfold jcond
  generalize toD a x = d at *
  unfold jst
  generalize L.map (toD a) = M at *
  simp (config := {decide := true}) only [tv_and, tw_cmp, ev_var, ev_cmp, ev_idx, us_int, us_list, us_obj, List.getElem?_cons_succ, List.getElem?_cons_zero, Bool.true_or, Bool.true_and, if_true, cmp, ib, vInt, Option.bind_some, decide_eq_true hi, tr_bool, Option.map_some, h1, h2]
theorem jcond_f (h : i = L.length) : tv F [2, 6] (jst L a x2 x3 i x6) jcond = some false := by
  have hi : ¬ ((i : Int) < (L.length : Int)) := by exact (Int.not_lt.mpr (qe (qE h.symm)))
  unfold jcond jst
  trivial
theorem jaug {x2 x3 x6 : D} : run F [2, 6] (.aug 4 .Add (.lit (.int (1)))) (jst L a x2 x3 i x6) = some (.next, jst L a x2 x3 (i + 1) x6) := by
  trivial
theorem jadd {res : List (List Nat)} {t : List Nat} {e : E} (he : ev F [2, 6] false (jst L a (.list (res.map .str)) (.meth 2) i x6) e = some (.str t)) (hr : res.length ≤ 900) :
    run F [2, 6] (.add 3 e) (jst L a (.list (res.map .str)) (.meth 2) i x6) = some (.next, jst L a (.list ((res ++ [t]).map .str)) (.meth 2) i x6) := by
  rw [run_add, he]
  simp only [List.getElem?_cons_succ, List.getElem?_cons_zero]
  rw [if_pos ⟨by decide, fit_of' (by rw [List.length_map]; exact (qT hr (by decide)))⟩, List.map_append]
  rfl
theorem japp {fx : List (List Nat)} {t : List Nat} {e : E} (he : ev F [2, 6] false (jst L a x2 x3 i (.list (fx.map .str))) e = some (.str t)) (hr : fx.length ≤ 900) :
    run F [2, 6] (.app 6 e) (jst L a x2 x3 i (.list (fx.map .str))) = some (.next, jst L a x2 x3 i (.list ((fx ++ [t]).map .str))) := by
  rw [run_app, he]
  simp only [List.getElem?_cons_succ, List.getElem?_cons_zero]
  rw [if_pos ⟨by decide, fit_of' (by rw [List.length_map]; exact (qT hr (by decide)))⟩, List.map_append]
  rfl
theorem jev {c : Nat} (h : L[i]? = some (some c)) (hz : L.length ≤ 900) : ev F [2, 6] false (jst L a x2 x3 i x6) (.idx (.var 0) (.var 4)) = some (.str [c]) := by
  have h1 : idx (.list (L.map (toD a))) (.int (i : Nat)) = some (.str [c]) := jidx (a := a) h hz
  unfold jst
  generalize L.map (toD a) = M at *
  trivial
theorem jwhile1 {w : List Nat} (hw : ∀ k < w.length, L[i + k]? = some (some (w.getD k 0))) (hend : i + w.length = L.length ∨ L[i + w.length]? = some none) (hz : L.length ≤ 900) {res : List (List Nat)} (hr : res.length + w.length ≤ 900) :
    run F [2, 6] (.whl jcond b_join_translated_parts_1) (jst L a (.list (res.map .str)) (.meth 2) i x6) = some (.next, jst L a (.list ((res ++ w.map fun c => [c]).map .str)) (.meth 2) (i + w.length) x6) := by
  simp only [run_whl]
  have hwl : w.length ≤ 900 := by exact (qT qv hr)
  obtain ⟨fl, Γ', e, rfl, rfl⟩ := whileL_inv (c := fun Γ => tv F [2, 6] Γ jcond) (b := fun Γ => runs F [2, 6] b_join_translated_parts_1 Γ)
    (fun m Γ => ∃ k, k ≤ w.length ∧ m = w.length - k ∧ Γ = jst L a (.list ((res ++ (w.take k).map fun c => [c]).map .str)) (.meth 2) (i + k) x6)
    (fun fl Γ => fl = .next ∧ Γ = jst L a (.list ((res ++ w.map fun c => [c]).map .str)) (.meth 2) (i + w.length) x6)
    (by
      intro m Γ hz; refine zEAA hz ?_; clear hz; rintro k hk rfl rfl
      by_cases hlt : k < w.length
      · have hl := hw k hlt
        refine .inr ⟨jcond_t hl hz, .inl ⟨w.length - (k + 1), _, by exact (qK hlt), .inl ?_, k + 1, by exact hlt, rfl, rfl⟩⟩
        unfold b_join_translated_parts_1
        simp only [runs_nil, runs_cons]
        rw [jadd (jev hl hz) (by simp only [List.length_append, List.length_map, List.length_take]; omega)]
        simp only
        simp only [jaug]
        have : w.take (k + 1) = w.take k ++ [w.getD k 0] := by
          simp only [List.take_add_one, List.getD_eq_getElem?_getD, List.getElem?_eq_getElem hlt]; rfl
        have e2 : (res ++ (w.take k).map fun c => [c]) ++ [[w.getD k 0]] = res ++ (w.take (k + 1)).map fun c => [c] := by rw [this]; simp
        rw [e2]
        rfl
      · have hk' : k = w.length := by exact (Nat.le_antisymm hk (qX hlt))
        refine yl hk' ?_; clear hk'
        refine .inl ⟨?_, rfl, by rw [List.take_length]⟩
        rcases hend with h | h
        · exact jcond_f h
        · exact jcond_t h hz)
    1000 w.length (jst L a (.list (res.map .str)) (.meth 2) i x6) ⟨0, Nat.zero_le _, rfl, by simp⟩ (by exact (qM hwl (by decide)))
  exact e
theorem jwhile2 {w : List Nat} (hw : ∀ k < w.length, L[i + k]? = some (some (w.getD k 0))) (hend : i + w.length = L.length ∨ L[i + w.length]? = some none) (hz : L.length ≤ 900) (hr : w.length ≤ 900) :
    run F [2, 6] (.whl jcond b_join_translated_parts_2) (jst L a x2 x3 i (.list [])) = some (.next, jst L a x2 x3 (i + w.length) (.list ((w.map fun c => [c]).map .str))) := by
  simp only [run_whl]
  obtain ⟨fl, Γ', e, rfl, rfl⟩ := whileL_inv (c := fun Γ => tv F [2, 6] Γ jcond) (b := fun Γ => runs F [2, 6] b_join_translated_parts_2 Γ)
    (fun m Γ => ∃ k, k ≤ w.length ∧ m = w.length - k ∧ Γ = jst L a x2 x3 (i + k) (.list (((w.take k).map fun c => [c]).map .str)))
    (fun fl Γ => fl = .next ∧ Γ = jst L a x2 x3 (i + w.length) (.list ((w.map fun c => [c]).map .str)))
    (by
      intro m Γ hz; refine zEAA hz ?_; clear hz; rintro k hk rfl rfl
      by_cases hlt : k < w.length
      · have hl := hw k hlt
        refine .inr ⟨jcond_t hl hz, .inl ⟨w.length - (k + 1), _, by exact (qK hlt), .inl ?_, k + 1, by exact hlt, rfl, rfl⟩⟩
        unfold b_join_translated_parts_2
        simp only [runs_nil, runs_cons]
        rw [japp (jev hl hz) (by simp only [List.length_map, List.length_take]; exact (qmr hr))]
        simp only
        simp only [jaug]
        have : w.take (k + 1) = w.take k ++ [w.getD k 0] := by
          simp only [List.take_add_one, List.getD_eq_getElem?_getD, List.getElem?_eq_getElem hlt]; rfl
        have e2 : ((w.take k).map fun c => [c]) ++ [[w.getD k 0]] = (w.take (k + 1)).map fun c => [c] := by simp only [this]; simp
        simp only [e2]
        rfl
      · have hk' : k = w.length := by exact (Nat.le_antisymm hk (qX hlt))
        refine yl hk' ?_; clear hk'
        refine .inl ⟨?_, rfl, by simp only [List.take_length]⟩
        rcases hend with h | h
        · exact jcond_f h
        · exact jcond_t h hz)
    1000 w.length (jst L a x2 x3 i (.list [])) ⟨0, Nat.zero_le _, rfl, by rfl⟩ (by exact (qM hr (by decide)))
  exact e
theorem jjoin {l : List (List Nat)} {B : Nat} (hB : ∀ x ∈ l, x.length ≤ B) (hb : l.length * B ≤ 16000000) : meop "join" (.str []) [.list (l.map .str)] = some (.str l.flatten) := by
  rw [meop_join [] hB (by simp; exact (qT hb (by decide))), joinL_nil]
theorem jturn {w : List Nat} {last : Bool} (hstar : L[i]? = some none) (hw : ∀ k < w.length, L[i + 1 + k]? = some (some (w.getD k 0))) (hend : if last then i + 1 + w.length = L.length else L[i + 1 + w.length]? = some none) (hne : last = false → w ≠ []) (hz : L.length ≤ 900) (hwl : w.length ≤ 800) {res : List (List Nat)} (hr : res.length ≤ 800) :
    ∃ (fl : Fl) (x6' : D) (res' : List (List Nat)), runs F [2, 6] b_join_translated_parts_3 (jst L a (.list (res.map .str)) (.meth 2) i x6) = some (fl, jst L a (.list (res'.map .str)) (.meth 2) (i + 1 + w.length) x6') ∧ (fl = .next ∨ (fl = .brk ∧ last = true)) ∧
      res'.flatten = res.flatten ++ (if last then [46, 42] ++ w else midT w) ∧ res'.length ≤ res.length + 2 ∧ ∀ x ∈ res', x ∈ res ∨ x.length ≤ 900 := by
  have h1 := jidx (a := a) hstar hz
  have s1 : run F [2, 6] (.asrt (.cmp .Is (.idx (.var 0) (.var 4)) (.var 1))) (jst L a (.list (res.map .str)) (.meth 2) i x6) = some (.next, jst L a (.list (res.map .str)) (.meth 2) i x6) := by
    have h2 : dis (toD a none) (.obj a) = some true := jdis none
    generalize toD a none = d at *
    unfold jst
    generalize L.map (toD a) = M at *
    trivial
  have s2 := jaug (F := F) (L := L) (a := a) (i := i) (x2 := .list (res.map .str)) (x3 := .meth 2) (x6 := x6)
  unfold b_join_translated_parts_3
  have teq : ∀ (j : Nat) (x2 x6 : D), tv F [2, 6] (jst L a x2 (.meth 2) j x6) (.cmp .Eq (.var 4) (.var 5)) = some (decide (j = L.length)) := fun j x2 x6 => by
    have : (decide ((j : Int) = (L.length : Int))) = decide (j = L.length) := by
      by_cases h : j = L.length
      · rw [decide_eq_true h, decide_eq_true (by exact (congrArg Int.ofNat h))]
      · rw [decide_eq_false h, decide_eq_false (by omega)]
    unfold jst
    trivial
  by_cases hi : i + 1 = L.length
  · -- the star ends the row
    have hw0 : w = [] := by
      cases w with
      | nil => rfl
      | cons c r => have := hw 0 (by simp); rw [List.getElem?_eq_none (by exact (qet hi.symm qu))] at this; exact nos this
    subst hw0
    have hlast : last = true := by
      cases last with
      | true => rfl
      | false => exact absurd rfl (hne rfl)
    subst hlast
    refine ⟨.brk, x6, res ++ [[46, 42]], ?_, .inr ⟨rfl, rfl⟩, by simp, by simp, fun x hx => by simp at hx; rcases hx with h | h; exact .inl h; exact .inr (by rw [h]; simp)⟩
    exact k_step s1 (k_step s2 (x_if1 ((teq _ _ _).trans (by rw [decide_eq_true hi])) (k_step (jadd (t := [46, 42]) e_lit (by exact (qT hr (by decide)))) (c_stop run_brk rfl)) rfl))
  · -- the sign behind the star is none
    have hw1 : ∃ c, L[i + 1]? = some (some c) := by
      cases w with
      | nil =>
        cases last with
        | true => simp at hend; exact absurd hend hi
        | false => exact absurd rfl (hne rfl)
      | cons c r => have := hw 0 (by simp); exact ⟨_, this⟩
    refine zE hw1 ?_; clear hw1; intro c1 hc1
    have s3 : run F [2, 6] (.asrt (.cmp .IsNot (.idx (.var 0) (.var 4)) (.var 1))) (jst L a (.list (res.map .str)) (.meth 2) (i + 1) x6) = some (.next, jst L a (.list (res.map .str)) (.meth 2) (i + 1) x6) := by
      have h2 : dis (toD a (some c1)) (.obj a) = some false := jdis (some c1)
      have h3 := jidx (a := a) hc1 hz
      generalize toD a (some c1) = d at *
      unfold jst
      generalize L.map (toD a) = M at *
      have h4 : cmp .IsNot d (.obj a) = some true := congrArg (Option.map (!·)) h2
      trivial
    have s4 : run F [2, 6] (.asg 6 (.list .nil)) (jst L a (.list (res.map .str)) (.meth 2) (i + 1) x6) = some (.next, jst L a (.list (res.map .str)) (.meth 2) (i + 1) (.list [])) := by
      trivial
    have s5 := jwhile2 (F := F) (L := L) (a := a) (i := i + 1) (x2 := .list (res.map .str)) (x3 := .meth 2) (w := w) hw (by cases last with | true => exact .inl (by simpa using hend) | false => exact .inr (by simpa using hend)) hz (by exact (qT hwl (by decide)))
    have hj := jjoin (l := w.map fun c => [c]) (B := 1) (fun x hx => by refine zEA (List.mem_map.mp hx) ?_; rintro c _ rfl; simp) (by simp; exact (qT hwl (by decide)))
    have hfl : (w.map fun c => [c]).flatten = w := by simp [List.flatten_eq_flatMap, List.flatMap_map]
    rw [hfl] at hj
    have s6 : run F [2, 6] (.asg 6 (.me (.lit (.str [])) "join" (.cons (.var 6) .nil))) (jst L a (.list (res.map .str)) (.meth 2) (i + 1 + w.length) (.list ((w.map fun c => [c]).map .str))) = some (.next, jst L a (.list (res.map .str)) (.meth 2) (i + 1 + w.length) (.str w)) := by
      unfold jst
      generalize (w.map fun c => [c]).map D.str = W at *
      trivial
    cases last with
    | true =>
      have he : i + 1 + w.length = L.length := by simpa using hend
      refine ⟨.next, .str w, res ++ [[46, 42]] ++ [w], ?_, .inl rfl, by simp, by simp, fun x hx => ?_⟩
      · exact k_step s1 (k_step s2 (k_if0 ((teq _ _ _).trans (by rw [decide_eq_false hi])) (k_nil rfl) (k_step s3 (k_step s4 (k_step s5 (k_step s6 (k_if1 ((teq _ _ _).trans (by rw [decide_eq_true he])) (k_step (jadd (t := [46, 42]) e_lit (by exact (qT hr (by decide)))) (k_step (jadd (t := w) (by trivial) (by simp; exact (qT hr (by decide)))) (k_nil rfl))) (k_nil rfl))))))))
      · simp at hx
        rcases hx with h | h | h
        · exact .inl h
        · exact .inr (by rw [h]; simp)
        · exact .inr (by rw [h]; exact (qT hwl (by decide)))
    | false =>
      have he : ¬ (i + 1 + w.length = L.length) := by
        have hend : L[i + 1 + w.length]? = some none := by simpa using hend
        have := (List.getElem?_eq_some_iff.mp hend).1
        exact (Nat.ne_of_lt this)
      refine ⟨.next, .str w, res ++ [midT w], ?_, .inl rfl, by simp, by simp, fun x hx => ?_⟩
      · have hcat : catS [.str [40, 63, 62, 46, 42, 63], .str w, .str [41]] = some (midT w) := by simp [catS, midT]
        have hfit : fit (midT w).length := fit_of' (by simp [midT]; exact (qT hwl (by decide)))
        exact k_step s1 (k_step s2 (k_if0 ((teq _ _ _).trans (by rw [decide_eq_false hi])) (k_nil rfl) (k_step s3 (k_step s4 (k_step s5 (k_step s6 (k_if0 ((teq _ _ _).trans (by rw [decide_eq_false he])) (k_step (jadd (t := midT w) (by generalize midT w = z at *; trivial) (by exact (qT hr (by decide)))) (k_nil rfl)) (k_nil rfl))))))))
      · simp at hx
        rcases hx with h | h
        · exact .inl h
        · exact .inr (by rw [h]; simp [midT]; exact (qT hwl (by decide)))
end
end
section
set_option maxHeartbeats 1000000
theorem encP_len (w0 : List Nat) (ws : List (List Nat)) : (encP w0 ws).length = w0.length + wt ws := by
  unfold encP encT wt
  simp only [List.length_append, List.length_map, List.length_flatMap]
  congr 2
  refine List.map_congr_left fun w _ => ?_
  simp
theorem bodyT_len (w0 : List Nat) (ws : List (List Nat)) : (bodyT w0 ws).length ≤ 8 * (encP w0 ws).length := by
  simp only [encP_len]
  rcases List.eq_nil_or_concat ws with rfl | ⟨ms, l, rfl⟩
  · simp only [bodyT_nil]; omega
  · simp only [List.concat_eq_append, bodyT_snoc]
    have hm : (ms.flatMap midT).length ≤ 8 * wt ms := by
      induction ms with
      | nil => trivial
      | cons w ms ih =>
        simp only [List.flatMap_cons, List.length_append, wt_cons]
        have : (midT w).length = w.length + 7 := by simp [midT]
        omega
    simp only [wt_app]
    have : wt [l] = l.length + 1 := by rfl
    simp only [List.length_append, List.length_cons, List.length_nil]
    omega
theorem encP_split (w0 : List Nat) (done : List (List Nat)) (w : List Nat) (rest : List (List Nat)) : encP w0 (done ++ w :: rest) = encP w0 done ++ none :: (w.map some ++ encT rest) := by
  unfold encP
  simp only [encT_app, encT_cons, List.append_assoc]
section
variable (a : Addr) (w0 : List Nat) (ws : List (List Nat))
inductive JI : Nat → List D → Prop
  | mk (done rest res : List (List Nat)) (x6 : D) (hws : ws = done ++ rest) (hfl : res.flatten = if rest = [] then bodyT w0 ws else w0 ++ done.flatMap midT) (hrl : res.length ≤ w0.length + 2 * done.length) (hrB : ∀ x ∈ res, x.length ≤ 900) :
    JI rest.length (jst (encP w0 ws) a (.list (res.map .str)) (.meth 2) (encP w0 done).length x6)
inductive JR : Fl → List D → Prop
  | mk (res : List (List Nat)) (x6 : D) (hfl : res.flatten = bodyT w0 ws) (hrl : res.length ≤ 1500) (hrB : ∀ x ∈ res, x.length ≤ 900) : JR .next (jst (encP w0 ws) a (.list (res.map .str)) (.meth 2) (encP w0 ws).length x6)
end
theorem join_turn {F : FO} {a : Addr} {w0 : List Nat} {ws : List (List Nat)} (hg : goodW ws) (hz : (encP w0 ws).length ≤ 350) {m : Nat} {Γ : List D} (h : JI a w0 ws m Γ) :
    WT F [2, 6] (.cmp .Lt (.var 4) (.var 5)) b_join_translated_parts_3 (JI a w0 ws) (JR a w0 ws) m Γ := by
  cases h with | mk done rest res x6 hws hfl hrl hrB =>
  have hlen := encP_len w0 ws
  have hwl := wt_len ws
  have hdl := encP_len w0 done
  have hdw := wt_len done
  cases rest with
  | nil =>
    rw [if_pos rfl] at hfl
    rw [List.append_nil] at hws
    subst hws
    have hn : ¬ (((encP w0 ws).length : Int) < ((encP w0 ws).length : Int)) := Int.lt_irrefl _
    exact .stop (by trivial) (.mk res x6 hfl (qT (qT hrl (qA (qT qu (qT (qE hdl.symm) hz)) (qP (qT hwl (qT qv (qT (qE hdl.symm) hz)))))) (by decide)) hrB)
  | cons w rest' =>
    rw [if_neg (by simp)] at hfl
    have hsp := encP_split w0 done w rest'
    rw [← hws] at hsp
    have htot : wt ws = wt done + (w.length + 1 + wt rest') := by rw [hws, wt_app, wt_cons]
    have hstar : (encP w0 ws)[(encP w0 done).length]? = some none := by rw [hsp, List.getElem?_append_right qr]; simp
    have hwk : ∀ k < w.length, (encP w0 ws)[(encP w0 done).length + 1 + k]? = some (some (w.getD k 0)) := fun k hk => by
      rw [hsp, List.getElem?_append_right (qT qu qu), show (encP w0 done).length + 1 + k - (encP w0 done).length = k + 1 by exact (Nat.sub_eq_of_eq_add (Eq.trans (Nat.add_comm _ _) (Eq.trans (Nat.add_assoc _ _ _).symm (Nat.add_right_comm _ _ _)))), List.getElem?_cons_succ, List.getElem?_append_left (by simpa using hk), List.getElem?_map, List.getElem?_eq_getElem hk, List.getD_eq_getElem?_getD, List.getElem?_eq_getElem hk]; rfl
    have hend : if (rest'.isEmpty) then (encP w0 done).length + 1 + w.length = (encP w0 ws).length else (encP w0 ws)[(encP w0 done).length + 1 + w.length]? = some none := by
      cases rest' with
      | nil => show _ = _; rw [hsp]; simp [encT]; exact (Eq.trans (Nat.add_comm _ _) (Nat.add_left_comm _ _ _))
      | cons v r =>
        show _ = _
        rw [hsp, List.getElem?_append_right (qT qu qu), show (encP w0 done).length + 1 + w.length - (encP w0 done).length = w.length + 1 by exact (Nat.sub_eq_of_eq_add (Eq.trans (Nat.add_comm _ _) (Eq.trans (Nat.add_assoc _ _ _).symm (Nat.add_right_comm _ _ _)))), List.getElem?_cons_succ, List.getElem?_append_right (by simp), encT_cons]
        simp
    have hne : rest'.isEmpty = false → w ≠ [] := fun h => by
      refine hg w ?_
      rw [hws, List.dropLast_append_of_ne_nil (by simp), List.dropLast_cons_of_ne_nil (by intro q; rw [q] at h; exact bf h.symm)]
      simp
    have hnl : (encP w0 (done ++ [w])).length = (encP w0 done).length + 1 + w.length := by rw [encP_len, encP_len, wt_app]; show _ + (_ + (w.length + 1 + 0)) = _; omega
    clear hsp
    refine zEEEAAAA (jturn (F := F) (L := encP w0 ws) (a := a) (i := (encP w0 done).length) (x6 := x6) (w := w) (last := rest'.isEmpty) hstar hwk hend hne (qT hz (by decide)) (qT (qT (qT (qT qu qu) qv) (qT (qE htot.symm) (qT qv (qT (qE hlen.symm) hz)))) (by decide)) (res := res) (by omega)) fun fl x6' res' e1 e2 e3 e4 e5 => ?_
    clear hstar hwk hne
    have hB' : ∀ x ∈ res', x.length ≤ 900 := fun x hx => (e5 x hx).elim (hrB x) id
    have hlt : (((encP w0 done).length : Nat) : Int) < ((encP w0 ws).length : Int) := by omega
    rw [hfl] at e3
    rw [← hnl] at e1 hend
    rcases e2 with rfl | ⟨rfl, hl⟩
    · refine .next rest'.length _ (by trivial) (Nat.lt_succ_self _) e1 (.mk (done ++ [w]) rest' res' x6' (by rw [hws]; simp) ?_ (by simp; omega) hB')
      rw [e3]
      cases rest' with
      | nil => rw [if_pos rfl, hws, bodyT_snoc]; simp
      | cons v r => rw [if_neg (by simp)]; simp
    · have hr' : rest' = [] := List.isEmpty_iff.mp hl
      subst hr'
      have hend : (encP w0 (done ++ [w])).length = (encP w0 ws).length := hend
      rw [hend] at e1
      exact .brk _ (by trivial) e1 (.mk res' x6' (by rw [e3, hws, bodyT_snoc]; simp) (by omega) hB')
theorem join_run {F : FO} {a : Addr} {w0 : List Nat} {ws : List (List Nat)} (hg : goodW ws) (hz : (encP w0 ws).length ≤ 350) :
    Ret (runs F [2, 6] b_join_translated_parts ([.list ((encP w0 ws).map (toD a)), .obj a] ++ List.replicate 6 .undef)) (.str (textT w0 ws)) := by
  have hlen := encP_len w0 ws
  have hbl := bodyT_len w0 ws
  have hwl := wt_len ws
  have hL0 : ∀ k < w0.length, (encP w0 ws)[0 + k]? = some (some (w0.getD k 0)) := fun k hk => by
    unfold encP
    rw [Nat.zero_add, List.getElem?_append_left (by simpa using hk), List.getElem?_map, List.getElem?_eq_getElem hk, List.getD_eq_getElem?_getD, List.getElem?_eq_getElem hk]; rfl
  have hend0 : 0 + w0.length = (encP w0 ws).length ∨ (encP w0 ws)[0 + w0.length]? = some none := by
    cases ws with
    | nil => left; simp [encP, encT]
    | cons w r =>
      right
      unfold encP
      rw [Nat.zero_add, List.getElem?_append_right (by simp), encT_cons]
      simp
  have hw1 := jwhile1 (F := F) (L := encP w0 ws) (a := a) (i := 0) (x6 := .undef) (w := w0) hL0 hend0 (qT hz (by decide)) (res := []) (by simp; exact (qT (qT qu (qT (qE hlen.symm) hz)) (by decide)))
  rw [Nat.zero_add, List.nil_append] at hw1
  clear hL0 hend0
  have init := JI.mk (a := a) (w0 := w0) (ws := ws) [] ws (w0.map fun c => [c]) .undef rfl (by
      have hfw : (w0.map fun c => [c]).flatten = w0 := by simp [List.flatten_eq_flatMap, List.flatMap_map]
      rw [hfw]
      by_cases h : ws = []
      · rw [h, if_pos rfl, bodyT_nil]
      · rw [if_neg h]; simp) (by simp) (fun x hx => by refine zEA (List.mem_map.mp hx) ?_; rintro c _ rfl; exact Nat.le_of_ble_eq_true rfl)
  rw [show (encP w0 []).length = w0.length by simp [encP, encT]] at init
  refine zEEA (whl_inv (JI a w0 ws) (JR a w0 ws) (fun m Γ h => join_turn (F := F) hg hz h) init (by omega)) fun fl Γ' hw2 hR => ?_
  cases hR with | mk res x6 hfl hrl hrB =>
  have hjn := jjoin (l := res) (B := 900) hrB (by have : res.length * 900 ≤ 1500 * 900 := Nat.mul_le_mul_right _ hrl; exact (qT this (by decide)))
  rw [hfl] at hjn
  have hln : biop "len" [.list ((encP w0 ws).map (toD a))] = some (.int ((encP w0 ws).length : Nat)) := (bl_l (fit_of' (by rw [List.length_map]; exact (qT hz (by decide))))).trans (by rw [List.length_map])
  have hcat : catS [.str [40, 63, 115, 58], .str (bodyT w0 ws), .str [41, 92, 90]] = some (textT w0 ws) := by simp [catS, textT]
  have hft : fit (textT w0 ws).length := by unfold fit textT; simp; exact (qT (qT hbl (qP hz)) (by decide))
  clear hlen hbl hwl hfl hrB init
  generalize textT w0 ws = TT at *
  generalize bodyT w0 ws = BT at *
  unfold jst at *
  generalize (encP w0 ws).map (toD a) = M at *
  generalize res.map D.str = RR at *
  generalize (w0.map fun c => [c]).map D.str = WW at *
  generalize (encP w0 ws).length = n at *
  show Ret (runs F [2, 6] b_join_translated_parts [.list M, .obj a, .undef, .undef, .undef, .undef, .undef, .undef]) _
  have s2 : run F [2, 6] (.ali 3 2) [.list M, .obj a, .list [], .undef, .undef, .undef, .undef, .undef] = some (.next, [.list M, .obj a, .list [], .meth 2, .undef, .undef, .undef, .undef]) := by trivial
  have s3 : run F [2, 6] (.asgP [4, 5] (.cons (.lit (.int (0))) (.cons (.bi "len" (.cons (.var 0) .nil)) .nil))) [.list M, .obj a, .list [], .meth 2, .undef, .undef, .undef, .undef] = some (.next, [.list M, .obj a, .list [], .meth 2, .int 0, .int (n : Nat), .undef, .undef]) := by trivial
  have s4 : run F [2, 6] (.asrt (.cmp .Eq (.var 4) (.var 5))) [.list M, .obj a, .list RR, .meth 2, .int (n : Nat), .int (n : Nat), x6, .undef] = some (.next, [.list M, .obj a, .list RR, .meth 2, .int (n : Nat), .int (n : Nat), x6, .undef]) := by trivial
  unfold b_join_translated_parts
  trivial
end
section
set_option maxHeartbeats 1000000
noncomputable def sepP : List Nat := [40, 63, 62, 46, 42, 63]
theorem mids_join (w0 : List Nat) : ∀ ms : List (List Nat), w0 ++ ms.flatMap midT = joinL sepP (w0 :: ms.map (· ++ [41]))
  | [] => by simp [joinL]
  | w :: ms => by
    rw [List.flatMap_cons, List.map_cons, joinL_cons _ _ (by simp), ← mids_join (w ++ [41]) ms]
    simp [midT, sepP]
theorem range_one {n : Nat} (h : n ≤ 100000) (h1 : 1 ≤ n) : rangeOf [.int 1, .int (n : Nat)] = some ((List.range' 1 (n - 1)).map fun i => .int (i : Nat)) := by
  simp only [rangeOf, vInt, Option.bind_some]
  rw [if_pos ⟨by unfold small; decide, by unfold small; exact (qM h (by decide))⟩]
  unfold rangeL rangeN
  have e : (((n : Int) - 1 + 1 - 1) / 1).toNat = n - 1 := by simp only [Int.ediv_one]; exact rg n
  simp only [e, List.range'_eq_map_range, List.map_map]
  congr 1
  refine List.map_congr_left fun i _ => ?_
  simp only [Function.comp]
  congr 1
  omega
theorem pieces_step {F : FO} {a b c : D} {M : List D} {k : Nat} {w : List Nat} (hM : M[k]? = some (.str (w ++ [41]))) (hw : w.length ≤ 100) (hf : fit M.length) :
    runs F [3] b_law_pieces_1 [a, b, c, .list M, .int (k : Nat), .undef, .undef] = some (.next, [a, b, c, .list (M.set k (.str w)), .int (k : Nat), .undef, .undef]) := by
  refine zE (List.getElem?_eq_some_iff.mp hM) fun hlt he => ?_
  have hfw : fit (w ++ [41]).length := fit_of' (by simp; exact (qT hw (by decide)))
  have hidx : idx (.list M) (.int (k : Nat)) = some (.str (w ++ [41])) := (getI_nat hlt (Nat.lt_of_lt_of_le hlt (Nat.le_trans hf (by decide)))).trans (congrArg some he)
  have hlast : sli (.str (w ++ [41])) (.int (-1)) .none = some (.str [41]) := (sl_s rfl rfl hfw).trans (by
    have := cut_last (w ++ [41]) (k := 1) (by decide)
    rw [show (-((1 : Nat) : Int)) = -1 from rfl] at this
    rw [this]; simp)
  have hinit : sli (.str (w ++ [41])) .none (.int (-1)) = some (.str w) := (sl_s rfl rfl hfw).trans (by
    have := cut_neg (w ++ [41]) (k := 1) (by decide)
    rw [show (-((1 : Nat) : Int)) = -1 from rfl] at this
    rw [this]; simp)
  unfold b_law_pieces_1
  exact k_if0 (by trivial) (k_nil rfl) (k_setI (by trivial) rfl (by trivial) rfl hlt hf (k_nil rfl))
theorem pieces_loop {F : FO} {a b c : D} : ∀ (todo done : List (List Nat)) (j : D), (∀ w ∈ todo, w.length ≤ 100) → done.length + todo.length ≤ 200 →
    ∃ j', forL (fun x Γ => runs F [3] b_law_pieces_1 (setv [3] 4 x Γ)) ((List.range' done.length todo.length).map fun i => .int (i : Nat)) [a, b, c, .list ((done ++ todo.map (· ++ [41])).map .str), j, .undef, .undef] = some (.next, [a, b, c, .list ((done ++ todo).map .str), j', .undef, .undef])
  | [], done, j, _, _ => ⟨j, rfl⟩
  | w :: todo, done, j, h, hz => by
    have ih := pieces_loop (F := F) (a := a) (b := b) (c := c) todo (done ++ [w]) (.int (done.length : Nat)) (fun x hx => h x (.tail _ hx)) (by simp at hz ⊢; omega)
    rw [List.length_append, List.append_assoc, List.append_assoc] at ih
    refine zE ih fun j' e => ⟨j', (f_next ?_).trans e⟩
    have st := pieces_step (F := F) (a := a) (b := b) (c := c) (M := (done ++ (w :: todo).map (· ++ [41])).map .str) (k := done.length) (w := w) (by simp) (h w (.head _)) (fit_of' (by simp at hz ⊢; omega))
    rw [show (((done ++ (w :: todo).map (· ++ [41])).map D.str).set done.length (.str w)) = (done ++ ([w] ++ todo.map (· ++ [41]))).map D.str by simp] at st
    exact st
theorem le_wt {x : List Nat} : ∀ {xs : List (List Nat)}, x ∈ xs → x.length + 1 ≤ wt xs
  | y :: ys, h => by
    rw [wt_cons]
    rcases List.mem_cons.mp h with rfl | h
    · exact qu
    · have := le_wt h; exact (qT this qv)
theorem pieces_run {F : FO} {w0 : List Nat} {ws : List (List Nat)} (h0 : 40 ∉ w0 ∧ 42 ∉ w0) (hw : ∀ w ∈ ws, 40 ∉ w ∧ 42 ∉ w) (hz : w0.length + wt ws ≤ 90) :
    Ret (runs F [3] b_law_pieces ([.str (textT w0 ws)] ++ List.replicate 6 .undef)) (.list ((w0 :: ws).map .str)) := by
  have hbl := bodyT_len w0 ws
  rw [encP_len] at hbl
  have htl : (textT w0 ws).length = (bodyT w0 ws).length + 7 := by unfold textT; simp only [List.length_append, List.length_cons, List.length_nil]; omega
  have hft : fit (textT w0 ws).length := by unfold fit; exact (qT (qet htl (qR (qT hbl (qP hz)) _)) (by decide))
  have hfb : fit (bodyT w0 ws).length := by unfold fit; exact (qT (qT hbl (qP hz)) (by decide))
  have cb : sli (.str (textT w0 ws)) (.int 4) (.int (-3)) = some (.str (bodyT w0 ws)) := by
    simp only [sli, Option.bind_some, partOf]
    rw [if_pos hft]
    have := cut_mid_neg (textT w0 ws) (i := 4) (k := 3) (by decide)
    rw [show (-((3 : Nat) : Int)) = -3 from rfl, show ((4 : Nat) : Int) = 4 from rfl] at this
    simp only [this, htl, show (bodyT w0 ws).length + 7 - 3 - 4 = (bodyT w0 ws).length by omega]
    unfold textT
    simp only [List.append_assoc, show [40, 63, 115, 58] ++ (bodyT w0 ws ++ [41, 92, 90]) = 40 :: 63 :: 115 :: 58 :: (bodyT w0 ws ++ [41, 92, 90]) from rfl]
    simp only [List.drop_succ_cons, List.drop_zero]
    rw [List.take_left]
  have c4 : sli (.str (textT w0 ws)) .none (.int 4) = some (.str [40, 63, 115, 58]) := by
    simp only [sli, Option.bind_some, partOf]
    rw [if_pos hft, show (4 : Int) = ((4 : Nat) : Int) from rfl, cut_to]
    rfl
  have c3 : sli (.str (textT w0 ws)) (.int (-3)) .none = some (.str [41, 92, 90]) := by
    simp only [sli, Option.bind_some, partOf]
    rw [if_pos hft]
    have := cut_last (textT w0 ws) (k := 3) (by decide)
    rw [show (-((3 : Nat) : Int)) = -3 from rfl] at this
    rw [this, htl]
    unfold textT
    rw [show (bodyT w0 ws).length + 7 - 3 = ([40, 63, 115, 58] ++ bodyT w0 ws).length by simp only [List.length_append, show [40, 63, 115, 58].length = 4 from rfl]; omega, List.drop_left]
  show Ret (runs F [3] b_law_pieces [.str (textT w0 ws), .undef, .undef, .undef, .undef, .undef, .undef]) _
  generalize textT w0 ws = TT at *
  rcases List.eq_nil_or_concat ws with rfl | ⟨ms, l, rfl⟩
  · have m2 : meop "rfind" (.str (bodyT w0 [])) [.str [46, 42]] = some (.int (-1)) := congrArg (fun z => some (D.int z)) (by rw [bodyT_nil]; exact rfind_notwo h0.2)
    rw [bodyT_nil] at *
    unfold b_law_pieces
    trivial
  · rw [List.concat_eq_append] at *
    have hl : 42 ∉ l := (hw l (by simp)).2
    have hbs := bodyT_snoc w0 ms l
    have hB0 : w0 ++ ms.flatMap midT = joinL sepP (w0 :: ms.map (· ++ [41])) := mids_join w0 ms
    generalize hB : w0 ++ ms.flatMap midT = B0 at *
    have m2 : meop "rfind" (.str (bodyT w0 (ms ++ [l]))) [.str [46, 42]] = some (.int (B0.length : Nat)) := congrArg (fun z => some (D.int z)) (by rw [hbs]; exact rfind_two hl (by decide))
    have hbl2 : (bodyT w0 (ms ++ [l])).length = B0.length + 2 + l.length := by rw [hbs]; simp only [List.length_append, List.length_cons, List.length_nil]
    have cB : sli (.str (bodyT w0 (ms ++ [l]))) .none (.int (B0.length : Nat)) = some (.str B0) := (sl_s rfl rfl hfb).trans (by rw [cut_to, hbs, List.append_assoc, List.take_left])
    have cL : sli (.str (bodyT w0 (ms ++ [l]))) (.int ((B0.length : Int) + 2)) .none = some (.str l) := (sl_s rfl rfl hfb).trans (by
      rw [show (B0.length : Int) + 2 = ((B0.length + 2 : Nat) : Int) by exact (congrArg Int.ofNat rfl), cut_from, hbs, show B0.length + 2 = (B0 ++ [46, 42]).length by simp, List.drop_left])
    have hsplit : meop "split" (.str B0) [.str sepP] = some (.list ((w0 :: ms.map (· ++ [41])).map .str)) := by
      have hsw := split_words (c := 40) (t := [63, 62, 46, 42, 63]) (ws := w0 :: ms.map (· ++ [41])) (by simp) (by
        intro w hw'
        rcases List.mem_cons.mp hw' with rfl | hw'
        · exact h0.1
        · refine zEA (List.mem_map.mp hw') ?_; rintro v hv rfl
          have := (hw v (by simp [hv])).1
          simp [this]) (by decide)
      have hsw' : Txt.split (txt B0) (txt sepP) = (w0 :: ms.map (· ++ [41])).map txt := by rw [hB0]; exact hsw
      have hm : ms.length ≤ wt ms := wt_len ms
      have hmw : wt (ms ++ [l]) = wt ms + wt [l] := wt_app _ _
      simp only [me_split, f1, sStr2, vStr, Option.bind_some]
      rw [if_pos ⟨by unfold fit; exact (qT (qT (qT qu qu) (qT (qE hbl2.symm) (qT hbl (qP hz)))) (by decide)), by simp [sepP], by rw [hsw']; simp; exact (qT (qT hm (qT qu (qT (qE hmw.symm) (qT qv hz)))) (by decide))⟩, hsw', List.map_map]
      have : ((fun x : Str => D.str x.cps.toList) ∘ txt) = D.str := by funext x; simp [txt_toList]
      rw [this]
    have hs' : meop "split" (.str B0) [.str [40, 63, 62, 46, 42, 63]] = some (.list ((w0 :: ms.map (· ++ [41])).map .str)) := hsplit
    have hml : ms.length ≤ 90 := by have := wt_len ms; rw [wt_app] at hz; exact (qT this (qT (qT qu qv) hz))
    have hwa := wt_app ms [l]
    refine zE (pieces_loop (F := F) (a := .str TT) (b := .str (bodyT w0 (ms ++ [l]))) (c := .int (B0.length : Nat)) ms [w0] .undef (fun w hw' => by have := le_wt hw'; exact (qT (qT qu (qT this (qT qu (qT (qE hwa.symm) (qT qv hz))))) (by decide))) (by simp; exact (qT (qF hml _) (by decide)))) fun j4 hloop => ?_
    have hln : biop "len" [.list ((w0 :: ms.map (· ++ [41])).map .str)] = some (.int ((ms.length + 1 : Nat) : Int)) := (bl_l (fit_of' (by simp; exact (qT hml (by decide))))).trans (by simp)
    have hrg := range_one (n := ms.length + 1) (qT (qR hml _) (by decide)) qv
    have hadd : bin .Add (.list ((w0 :: ms).map .str)) (.list [.str l]) = some (.list ((w0 :: (ms ++ [l])).map .str)) := (ba_l (fit_of' (by simp; exact (qT hml (by decide))))).trans (by simp)
    have hp2 : bin .Add (.int (B0.length : Nat)) (.int 2) = some (.int ((B0.length : Int) + 2)) := rfl
    have hn : ¬ ((B0.length : Int) < 0) := by exact (Int.not_lt.mpr (qn _))
    clear hB0 hbs hB hl hsplit
    generalize bodyT w0 (ms ++ [l]) = BT at *
    generalize (w0 :: (ms ++ [l])).map D.str = M2 at *
    have s6 : run F [3] (.forR 4 (.cons (.lit (.int (1))) (.cons (.bi "len" (.cons (.var 3) .nil)) .nil)) b_law_pieces_1) [.str TT, .str BT, .int (B0.length : Nat), .list ((w0 :: ms.map (· ++ [41])).map .str), .undef, .undef, .undef] = some (.next, [.str TT, .str BT, .int (B0.length : Nat), .list ((w0 :: ms).map .str), j4, .undef, .undef]) :=
      r_forR (e_cons e_lit (e_cons (e_bi (e_cons (e_var rfl rfl rfl) e_nil) hln) e_nil)) hrg rfl hloop
    clear hloop hrg hln
    generalize (w0 :: ms.map (· ++ [41])).map D.str = M at *
    generalize (w0 :: ms).map D.str = M3 at *
    generalize (B0.length : Int) = n at *
    unfold b_law_pieces
    trivial
end
section
variable {α : Type} [DecidableEq α]
noncomputable def pfx (w : α) : List α → List α → Bool
  | [], _ => true
  | _ :: _, [] => false
  | c :: p, x :: r => (decide (c = w) || decide (c = x)) && pfx w p r
theorem pfx_len {w : α} : ∀ {p r : List α}, pfx w p r = true → p.length ≤ r.length
  | [], _, _ => Nat.zero_le _
  | c :: p, [], h => by exact bf h
  | c :: p, x :: r, h => by
    simp only [pfx, Bool.and_eq_true] at h
    have := pfx_len h.2
    simp; exact this
noncomputable def Mt (s w : α) : List α → List α → Prop
  | [], r => r = []
  | c :: p, r => if c = s then ∃ j, j ≤ r.length ∧ Mt s w p (r.drop j) else match r with
    | [] => False
    | x :: r' => (c = w ∨ c = x) ∧ Mt s w p r'
theorem mt_word {s w : α} : ∀ (p q r : List α), s ∉ p → (Mt s w (p ++ q) r ↔ pfx w p r = true ∧ Mt s w q (r.drop p.length))
  | [], q, r, _ => by simp [pfx]
  | c :: p, q, r, h => by
    simp only [List.mem_cons, not_or] at h
    have hc : c ≠ s := fun q => h.1 q.symm
    cases r with
    | nil => simp [Mt, hc, pfx]
    | cons x r =>
      have ih := mt_word (w := w) p q r h.2
      simp only [List.cons_append, Mt, hc, if_false, pfx, List.length_cons, List.drop_succ_cons, ih, Bool.and_eq_true, Bool.or_eq_true, decide_eq_true_eq]
      constructor
      · intro hz; refine zAA hz ?_; clear hz; intro a b c; exact ⟨⟨a, b⟩, c⟩
      · intro hz; refine zA hz ?_; clear hz; rintro ⟨a, b⟩ c; exact iAA a b c
theorem mt_star {s w : α} (p r : List α) : Mt s w (s :: p) r ↔ ∃ j, j ≤ r.length ∧ Mt s w p (r.drop j) := by simp [Mt]
theorem mt_app {s w : α} : ∀ (p q r : List α), Mt s w (p ++ q) r ↔ ∃ j, j ≤ r.length ∧ Mt s w p (r.take j) ∧ Mt s w q (r.drop j)
  | [], q, r => by
    constructor
    · intro h; exact ⟨0, Nat.zero_le _, by rfl, by simpa using h⟩
    · intro hz; refine zEAA hz ?_; clear hz; intro j hj h1 h2
      have h1 : r.take j = [] := h1
      rw [List.take_eq_nil_iff] at h1
      rcases h1 with rfl | rfl
      · simpa using h2
      · simpa using h2
  | c :: p, q, r => by
    by_cases hc : c = s
    · refine yl hc ?_; clear hc
      rw [List.cons_append, mt_star]
      constructor
      · intro hz; refine zEA hz ?_; clear hz; intro i hi h
        refine zEAA ((mt_app p q _).mp h) fun j hj h1 h2 => ?_
        rw [List.length_drop] at hj
        refine ⟨i + j, by exact (qN hi hj), (mt_star _ _).mpr ⟨i, by rw [List.length_take]; omega, ?_⟩, by rw [List.drop_drop] at h2; exact h2⟩
        rw [List.drop_take, show i + j - i = j by exact (Nat.add_sub_cancel_left ..)]; exact h1
      · intro hz; refine zEAA hz ?_; clear hz; intro j hj h1 h2
        refine zEA ((mt_star _ _).mp h1) fun i hi h => ?_
        rw [List.length_take] at hi
        refine ⟨i, by exact (qT hi (qml hj)), (mt_app p q _).mpr ⟨j - i, by rw [List.length_drop]; exact (Nat.sub_le_sub_right hj _), ?_, ?_⟩⟩
        · rw [List.drop_take] at h; exact h
        · rw [List.drop_drop, show i + (j - i) = j by exact (Nat.add_sub_cancel' (qT hi (Nat.min_le_left _ _)))]; exact h2
    · cases r with
      | nil =>
        simp only [List.cons_append, Mt, hc, if_false]
        constructor
        · exact fun h => h.elim
        · intro hz; refine zEAA hz ?_; clear hz; intro j _ h1 _; simp at h1
      | cons x r =>
        simp only [List.cons_append, Mt, hc, if_false]
        constructor
        · intro hz; refine zA hz ?_; clear hz; intro a h
          refine zEAA ((mt_app p q _).mp h) fun j hj h1 h2 => ?_
          exact ⟨j + 1, by simp; exact hj, by rw [List.take_succ_cons]; exact ⟨a, h1⟩, by rw [List.drop_succ_cons]; exact h2⟩
        · intro hz; refine zEAA hz ?_; clear hz; intro j hj h1 h2
          cases j with
          | zero => simp at h1
          | succ j =>
            rw [List.take_succ_cons] at h1
            rw [List.drop_succ_cons] at h2
            exact ⟨h1.1, (mt_app p q _).mpr ⟨j, by simp at hj; exact hj, h1.2, h2⟩⟩
theorem mt_stars {s w : α} (p q r : List α) : Mt s w (p ++ s :: s :: q) r ↔ Mt s w (p ++ s :: q) r := by
  rw [mt_app, mt_app]
  have : ∀ r, Mt s w (s :: s :: q) r ↔ Mt s w (s :: q) r := fun r => by
    rw [mt_star]
    constructor
    · intro hz; refine zEA hz ?_; clear hz; intro j hj h
      refine zEA ((mt_star _ _).mp h) fun i hi h => ?_
      rw [List.length_drop] at hi
      exact (mt_star _ _).mpr ⟨j + i, by exact (qN hj hi), by rw [List.drop_drop] at h; exact h⟩
    · exact fun h => ⟨0, Nat.zero_le _, by simpa using h⟩
  simp only [this]
noncomputable def flatW (s : α) (st : List α × List (List α)) : List α := st.1 ++ st.2.flatMap (s :: ·)
theorem flat_step {s w : α} (st : List α × List (List α)) (c : α) (q r : List α) : Mt s w (flatW s (wstep s id st c) ++ q) r ↔ Mt s w (flatW s st ++ c :: q) r := by
  obtain ⟨w0, ws⟩ := st
  by_cases hc : c = s
  · subst hc
    by_cases hl : ws.getLast? = some []
    · obtain ⟨ws', rfl⟩ : ∃ ws', ws = ws' ++ [[]] := by
        rcases List.eq_nil_or_concat ws with rfl | ⟨x, y, rfl⟩
        · exact nos hl
        · rw [List.concat_eq_append] at *; simp at hl; exact ⟨x, by rw [hl]⟩
      rw [wstep_star1]
      have e : flatW c (w0, ws' ++ [[]]) = (w0 ++ ws'.flatMap (c :: ·)) ++ [c] := by simp [flatW]
      rw [e]
      have k := (mt_stars (s := c) (w := w) (w0 ++ ws'.flatMap (c :: ·)) q r).symm
      generalize w0 ++ ws'.flatMap (c :: ·) = Z at *
      rw [List.append_assoc, List.append_assoc]
      exact k
    · rw [wstep_star2 hl]
      have e : flatW c (w0, ws ++ [[]]) ++ q = flatW c (w0, ws) ++ c :: q := by simp [flatW]
      rw [e]
  · rcases List.eq_nil_or_concat ws with rfl | ⟨ws', l, rfl⟩
    · rw [wstep_w0 hc]; simp [flatW]
    · rw [List.concat_eq_append, wstep_ws hc]; simp [flatW]
theorem words_mt (s w : α) (p r : List α) : Mt s w p r ↔ Mt s w (flatW s (wordsOf s id p)) r := by
  have : ∀ (p : List α) (st : List α × List (List α)), Mt s w (flatW s st ++ p) r ↔ Mt s w (flatW s (p.foldl (wstep s id) st)) r := by
    intro p
    induction p with
    | nil => intro st; simp
    | cons c p ih => intro st; rw [List.foldl_cons, ← ih, flat_step]
  have := this p ([], [])
  simpa [flatW, wordsOf] using this
theorem words_free (s : α) (p : List α) : s ∉ (wordsOf s (id : α → α) p).1 ∧ ∀ v ∈ (wordsOf s (id : α → α) p).2, s ∉ v := by
  have : ∀ (p : List α) (st : List α × List (List α)), (s ∉ st.1 ∧ ∀ v ∈ st.2, s ∉ v) → (s ∉ (p.foldl (wstep s (id : α → α)) st).1 ∧ ∀ v ∈ (p.foldl (wstep s (id : α → α)) st).2, s ∉ v) := by
    intro p
    induction p with
    | nil => exact fun st h => h
    | cons c p ih =>
      rintro ⟨w0, ws⟩ hz; refine zA hz ?_; clear hz; intro h1 h2
      simp only [List.foldl_cons]
      apply ih
      by_cases hc : c = s
      · refine yl hc ?_; clear hc
        by_cases hl : ws.getLast? = some []
        · unfold wstep; rw [if_pos rfl, if_pos hl]; exact ⟨h1, h2⟩
        · rw [wstep_star2 hl]
          refine ⟨h1, fun v hv => ?_⟩
          rcases List.mem_append.mp hv with q | q
          · exact h2 v q
          · simp at q; refine yl q ?_; clear q; simp
      · have hc' : s ≠ c := fun q => hc q.symm
        rcases List.eq_nil_or_concat ws with rfl | ⟨ws', l, rfl⟩
        · rw [wstep_w0 hc]; exact ⟨by simp only [List.mem_append, not_or]; exact ⟨h1, by simpa using hc'⟩, h2⟩
        · rw [List.concat_eq_append] at *
          rw [wstep_ws hc]
          refine ⟨h1, fun v hv => ?_⟩
          rcases List.mem_append.mp hv with q | q
          · exact h2 v (List.mem_append_left _ q)
          · simp at q; refine yl q ?_; clear q
            simp only [List.mem_append, not_or]
            exact ⟨h2 l (by simp), by simpa using hc'⟩
  exact this p ([], []) ⟨by simp, by simp⟩
noncomputable def GM (w : α) : List (List α) → List α → Prop
  | [], _ => False
  | [l], r => l.length ≤ r.length ∧ pfx w l (r.drop (r.length - l.length)) = true
  | v :: u :: ws, r => ∃ j, j ≤ r.length ∧ pfx w v (r.drop j) = true ∧ GM w (u :: ws) (r.drop (j + v.length))
theorem gm_mono {w : α} : ∀ (ws : List (List α)) (r : List α) (a : Nat), GM w ws (r.drop a) → a ≤ r.length → GM w ws r
  | [], r, a, h, _ => h
  | [l], r, a, ⟨h1, h2⟩, ha => by
    simp only [List.length_drop] at h1
    refine ⟨by exact (qT h1 (Nat.sub_le _ _)), ?_⟩
    rw [List.drop_drop, List.length_drop, qs1 ha h1] at h2
    exact h2
  | v :: u :: ws, r, a, ⟨j, hj, h1, h2⟩, ha => by
    simp only [List.length_drop] at hj
    rw [List.drop_drop] at h1 h2
    exact ⟨a + j, by exact (qN ha hj), h1, by rw [show a + j + v.length = a + (j + v.length) by exact (Nat.add_assoc _ _ _)]; exact h2⟩
theorem mt_tail {s w : α} : ∀ (ws : List (List α)) (r : List α), ws ≠ [] → (∀ v ∈ ws, s ∉ v) → (Mt s w (ws.flatMap (s :: ·)) r ↔ GM w ws r)
  | [], r, h, _ => absurd rfl h
  | [l], r, _, hf => by
    have hl := hf l (by simp)
    have e : [l].flatMap (s :: ·) = s :: (l ++ []) := by rfl
    simp only [e, mt_star]
    constructor
    · intro hz; refine zEA hz ?_; clear hz; intro j hj h
      refine zA ((mt_word _ _ _ hl).mp h) fun h1 h2 => ?_
      have h2 : (r.drop j).drop l.length = [] := h2
      have hl1 := pfx_len h1
      simp only [List.length_drop] at hl1
      simp only [List.drop_drop, List.drop_eq_nil_iff] at h2
      exact ⟨by exact (qT hl1 (Nat.sub_le _ _)), by simp only [qs5 hj hl1 h2]; exact h1⟩
    · intro hz; refine zA hz ?_; clear hz; intro h1 h2
      refine iEA (r.length - l.length) (Nat.sub_le _ _) ((mt_word _ _ _ hl).mpr ⟨h2, ?_⟩)
      show (r.drop (r.length - l.length)).drop l.length = []
      simp only [List.drop_drop, List.drop_eq_nil_iff]
      omega
  | v :: u :: ws, r, _, hf => by
    have hv := hf v (by simp)
    have ih := fun r => mt_tail (s := s) (w := w) (u :: ws) r (by simp) fun x hx => hf x (by simp [List.mem_cons.mp hx])
    simp only [List.flatMap_cons, List.cons_append, mt_star]
    constructor
    · intro hz; refine zEA hz ?_; clear hz; intro j hj h
      refine zA ((mt_word _ _ _ hv).mp h) fun h1 h2 => ?_
      simp only [List.drop_drop] at h2
      exact iEAA j hj h1 ((ih _).mp h2)
    · intro hz; refine zEAA hz ?_; clear hz; intro j hj h1 h2
      exact ⟨j, hj, (mt_word _ _ _ hv).mpr ⟨h1, by simp only [List.drop_drop]; exact (ih _).mpr h2⟩⟩
set_option tactic.hygienic true in
theorem mt_words {s w : α} (w0 : List α) (ws : List (List α)) (r : List α) (h0 : s ∉ w0) (hf : ∀ v ∈ ws, s ∉ v) : Mt s w (flatW s (w0, ws)) r ↔ pfx w w0 r = true ∧ (if ws = [] then w0.length = r.length else GM w ws (r.drop w0.length)) := by
  unfold flatW
  simp only [mt_word _ _ _ h0]
  constructor
  · intro hz; refine zA hz ?_; clear hz; intro h1 h2
    refine ⟨h1, ?_⟩
    split
    · rename_i h; subst h
      have h2 : r.drop w0.length = [] := h2
      simp only [List.drop_eq_nil_iff] at h2
      have := pfx_len h1
      exact (Nat.le_antisymm this h2)
    · rename_i h; exact (mt_tail ws _ h hf).mp h2
  · intro hz; refine zA hz ?_; clear hz; intro h1 h2
    refine ⟨h1, ?_⟩
    split at h2
    · rename_i h; subst h
      show r.drop w0.length = []
      simp only [List.drop_eq_nil_iff]; exact (qE h2.symm)
    · rename_i h; exact (mt_tail ws _ h hf).mpr h2
end
section
set_option maxHeartbeats 1000000
noncomputable def fitsB (p s : List Nat) (i : Nat) : Bool := decide (i + p.length ≤ s.length) && pfx 46 p (s.drop i)
theorem f_ret {step : D → List D → Option (Fl × List D)} {x v : D} {l : List D} {Γ Γ' : List D} (h : step x Γ = some (.ret v, Γ')) : forL step (x :: l) Γ = some (.ret v, Γ') := by
  show (match step x Γ with | some (.next, Γ') => forL step l Γ' | some (.cont, Γ') => forL step l Γ' | some (.brk, Γ') => some (.next, Γ') | some (.ret v, Γ') => some (.ret v, Γ') | none => none) = _
  rw [h]
theorem pfx_ok {a b w : Nat} {p s : List Nat} (h : a = w ∨ a = b) : pfx w (a :: p) (b :: s) = pfx w p s := by
  show ((decide (a = w) || decide (a = b)) && pfx w p s) = _
  rcases h with h | h <;> simp [h]
theorem pfx_no {a b w : Nat} {p s : List Nat} (h : ¬ (a = w ∨ a = b)) : pfx w (a :: p) (b :: s) = false := by
  show ((decide (a = w) || decide (a = b)) && pfx w p s) = _
  simp [not_or.mp h]
theorem fits_step {F : FO} {p s : List Nat} {i k : Nat} (hp : p.length ≤ 900) (hs : s.length ≤ 900) (hk : k < p.length) (hsk : i + k < s.length) :
    runs F [] b_law_fits_1 [.str p, .str s, .int (i : Nat), .int (k : Nat), .undef, .undef] = some (if p[k] = 46 ∨ p[k] = s[i + k] then .next else .ret (.bool false), [.str p, .str s, .int (i : Nat), .int (k : Nat), .undef, .undef]) := by
  have i1 : idx (.str p) (.int (k : Nat)) = some (.str [p[k]]) := congrArg (Option.map fun c => D.str [c]) (getI_nat hk (qM (qT (qW hk) hp) (by decide)))
  have i2 : idx (.str s) (.int ((i : Int) + (k : Int))) = some (.str [s[i + k]]) := by
    rw [show (i : Int) + (k : Int) = ((i + k : Nat) : Int) by exact (congrArg Int.ofNat rfl)]
    exact congrArg (Option.map fun c => D.str [c]) (getI_nat hsk (qM (qT (qW hsk) hs) (by decide)))
  generalize p[k] = a at *
  generalize s[i + k] = b at *
  unfold b_law_fits_1
  by_cases h1 : a = 46
  · have h1' : [a] = [46] := congrArg (fun x => [x]) h1
    rw [if_pos (.inl h1)]
    trivial
  · have h1' : ¬ [a] = [46] := fun q => h1 (List.cons.inj q).1
    by_cases h2 : a = b
    · have h2' : [a] = [b] := congrArg (fun x => [x]) h2
      rw [if_pos (.inr h2)]
      trivial
    · have h2' : ¬ [a] = [b] := fun q => h2 (List.cons.inj q).1
      rw [if_neg (fun q => q.elim h1 h2)]
      trivial
theorem fits_loop {F : FO} {p s : List Nat} {i : Nat} (hp : p.length ≤ 900) (hs : s.length ≤ 900) (hi : i + p.length ≤ s.length) : ∀ (n k : Nat) (j : D), k + n = p.length →
    ∃ Γ', forL (fun x Γ => runs F [] b_law_fits_1 (setv [] 3 x Γ)) ((List.range' k n).map fun k => .int ((k : Nat) : Int)) [.str p, .str s, .int (i : Nat), j, .undef, .undef] = some (if pfx 46 (p.drop k) (s.drop (i + k)) = true then .next else .ret (.bool false), Γ')
  | 0, k, j, h => ⟨_, by rw [List.drop_eq_nil_of_le (by omega)]; rfl⟩
  | n + 1, k, j, h => by
    have hk : k < p.length := by omega
    have hsk : i + k < s.length := by exact (qL (Nat.add_lt_add_left hk _) hi)
    have st := fits_step (F := F) hp hs hk hsk
    rw [List.drop_eq_getElem_cons hk, List.drop_eq_getElem_cons hsk]
    by_cases hc : p[k] = 46 ∨ p[k] = s[i + k]
    · rw [if_pos hc] at st
      refine zE (fits_loop (F := F) hp hs hi n (k + 1) (.int (k : Nat)) (Eq.trans (Eq.trans (Nat.add_comm _ _) (Nat.add_left_comm _ _ _)) h)) fun Γ' e => ⟨Γ', ?_⟩
      refine ((f_next st).trans e).trans ?_
      rw [pfx_ok hc]; rfl
    · rw [if_neg hc] at st
      refine ⟨[.str p, .str s, .int (i : Nat), .int (k : Nat), .undef, .undef], ?_⟩
      rw [pfx_no hc]
      exact f_ret st
theorem fits_run {F : FO} {p s : List Nat} {i : Nat} (hp : p.length ≤ 900) (hs : s.length ≤ 900) (hi : i ≤ 90000) :
    Ret (runs F [] b_law_fits ([.str p, .str s, .int (i : Nat)] ++ List.replicate 3 .undef)) (.bool (fitsB p s i)) := by
  have lp : biop "len" [.str p] = some (.int p.length) := bl_s (fit_of' (qT hp (by decide)))
  have ls : biop "len" [.str s] = some (.int s.length) := bl_s (fit_of' (qT hs (by decide)))
  have hb : bin .Add (.int (i : Nat)) (.int (p.length : Nat)) = some (.int ((i + p.length : Nat) : Int)) := rfl
  show Ret (runs F [] b_law_fits [.str p, .str s, .int (i : Nat), .undef, .undef, .undef]) _
  unfold fitsB
  by_cases h : i + p.length ≤ s.length
  · have h' : ¬ ((s.length : Int) < ((i + p.length : Nat) : Int)) := by exact (Int.not_lt.mpr (qe h))
    rw [decide_eq_true h, Bool.true_and]
    have hrg := range_nat (n := p.length) (qT hp (by decide))
    rw [List.range_eq_range'] at hrg
    refine zE (fits_loop (F := F) hp hs h p.length 0 .undef (Nat.zero_add _)) fun Γ' e => ?_
    rw [List.drop_zero, Nat.add_zero] at e
    have s2 := r_forR (F := F) (own := []) (i := 3) (b := b_law_fits_1) (es := .cons (.bi "len" (.cons (.var 0) .nil)) .nil) (Γ := [.str p, .str s, .int (i : Nat), .undef, .undef, .undef]) (e_cons (e_bi (e_cons (e_var rfl rfl rfl) e_nil) lp) e_nil) hrg rfl e
    clear e hrg
    generalize ((i + p.length : Nat) : Int) = z at *
    have t0 : tv F [] [.str p, .str s, .int (i : Nat), .undef, .undef, .undef] (.cmp .Gt (.bin .Add (.var 2) (.bi "len" (.cons (.var 0) .nil))) (.bi "len" (.cons (.var 1) .nil))) = some false := by trivial
    unfold b_law_fits
    cases hx : pfx 46 p (s.drop i) with
    | true =>
      rw [hx] at s2
      exact .of (k_if0 t0 (k_nil rfl) (k_step s2 (k_ret e_lit rfl rfl)))
    | false =>
      rw [hx] at s2
      exact .of (k_if0 t0 (k_nil rfl) (c_stop s2 rfl))
  · have h' : ((s.length : Int) < ((i + p.length : Nat) : Int)) := by exact (ql (qV h))
    rw [decide_eq_false h, Bool.false_and]
    generalize ((i + p.length : Nat) : Int) = z at *
    unfold b_law_fits
    trivial
end
section
set_option maxHeartbeats 1000000
def takesP (w0 : List Nat) (ws : List (List Nat)) (s : List Nat) : Prop := pfx 46 w0 s = true ∧ (if ws = [] then w0.length = s.length else GM 46 ws (s.drop w0.length))
section
variable {F : FO} {s : List Nat}
abbrev FitsOk (F : FO) : Prop := ∀ (p s : List Nat) (i : Nat), p.length ≤ 900 → s.length ≤ 900 → i ≤ 90000 → F "_law_fits" [.str p, .str s, .int (i : Nat)] = some (.bool (fitsB p s i))
noncomputable abbrev kst (P : D) (s : List Nat) (i : Nat) (v x4 : D) : List D := [P, .str s, .int (i : Nat), v, x4, .undef, .undef]
noncomputable abbrev seekC : E := .and (.cmp .LtE (.var 2) (.bi "len" (.cons (.var 1) .nil))) (.not (.fn "_law_fits" (.cons (.var 3) (.cons (.var 1) (.cons (.var 2) .nil)))))
theorem seek_run (hF : FitsOk F) {P x4 : D} (hP : usable P = true) {v : List Nat} {i : Nat} (hv : v.length ≤ 900) (hs : s.length ≤ 900) (hi : i ≤ 80000) :
    ∃ j, run F [] (.whl seekC b_law_takes_1) (kst P s i (.str v) x4) = some (.next, kst P s j (.str v) x4) ∧ i ≤ j ∧ (j ≤ i ∨ j ≤ s.length + 1) ∧ (∀ k, i ≤ k → k < j → fitsB v s k = false) ∧ (j ≤ s.length → fitsB v s j = true) := by
  have ls : biop "len" [.str s] = some (.int s.length) := bl_s (fit_of' (qT hs (by decide)))
  refine zE (⟨_, fun _ _ => .rfl⟩ : ∃ I : Nat → List D → Prop, ∀ m Γ, I m Γ ↔ ∃ k, i ≤ k ∧ (k ≤ i ∨ k ≤ s.length + 1) ∧ m = s.length + 1 - k ∧ Γ = kst P s k (.str v) x4 ∧ ∀ l, i ≤ l → l < k → fitsB v s l = false) fun I hI => ?_
  refine zE (⟨_, fun _ _ => .rfl⟩ : ∃ R : Fl → List D → Prop, ∀ fl Γ, R fl Γ ↔ fl = .next ∧ ∃ j, Γ = kst P s j (.str v) x4 ∧ i ≤ j ∧ (j ≤ i ∨ j ≤ s.length + 1) ∧ (∀ k, i ≤ k → k < j → fitsB v s k = false) ∧ (j ≤ s.length → fitsB v s j = true)) fun R hR => ?_
  refine zEEA (whl_inv (F := F) (own := []) (c := seekC) (b := b_law_takes_1) I R (fun m Γ hi' => ?_) ((hI _ _).mpr ⟨i, Nat.le_refl _, .inl qr, rfl, rfl, fun l h1 h2 => by omega⟩) (qM (qsl (qR hs _)) (by decide))) fun fl Γ' e hr => ?_
  · refine zEAAAA ((hI m Γ).mp hi') ?_; clear hi'; rintro k hk1 hk2 rfl rfl hall
    by_cases hle : k ≤ s.length
    · have hf := hF v s k hv hs (qT (qT hle hs) (by decide))
      have hl : ((k : Int) ≤ (s.length : Int)) := by exact (qe hle)
      cases hc : fitsB v s k with
      | false =>
        rw [hc] at hf
        refine .next (s.length + 1 - (k + 1)) (kst P s (k + 1) (.str v) x4) (by trivial) (qK (Nat.lt_succ_of_le hle)) (by unfold b_law_takes_1; trivial) ((hI _ _).mpr ⟨k + 1, by exact (qT hk1 qu), .inr (Nat.lt_succ_of_le hle), rfl, rfl, fun l h1 h2 => ?_⟩)
        by_cases q : l = k
        · rw [q]; exact hc
        · exact hall l h1 (by omega)
      | true =>
        rw [hc] at hf
        exact .stop (by trivial) ((hR _ _).mpr ⟨rfl, k, rfl, hk1, hk2, hall, fun _ => hc⟩)
    · have hl : ¬ ((k : Int) ≤ (s.length : Int)) := by exact (Int.not_le.mpr (ql (qV hle)))
      exact .stop (by trivial) ((hR _ _).mpr ⟨rfl, k, rfl, hk1, hk2, hall, fun h => absurd h hle⟩)
  · refine zAEAAAA ((hR _ _).mp hr) ?_; rintro rfl j rfl h1 h2 h3 h4
    exact ⟨j, e, h1, h2, h3, h4⟩
theorem gm_seek {v u : List Nat} {ws : List (List Nat)} {i j : Nat} (hij : i ≤ j) (hi : i ≤ s.length) (hno : ∀ k, i ≤ k → k < j → fitsB v s k = false) (hj : j ≤ s.length → fitsB v s j = true) :
    (GM 46 (v :: u :: ws) (s.drop i) ↔ (j ≤ s.length ∧ GM 46 (u :: ws) (s.drop (j + v.length)))) := by
  constructor
  · intro hz; refine zEAA hz ?_; clear hz; intro t ht h1 h2
    simp only [List.length_drop] at ht
    rw [List.drop_drop] at h1 h2
    have hpl := pfx_len h1
    simp only [List.length_drop] at hpl
    have hfit : fitsB v s (i + t) = true := by unfold fitsB; rw [decide_eq_true (qN (qN hi ht) hpl), h1]; rfl
    have hjt : j ≤ i + t := by
      refine Nat.not_lt.mp fun q => ?_
      rw [hno (i + t) qu q] at hfit
      exact bf hfit
    refine ⟨by exact (qT hjt (qN hi ht)), ?_⟩
    have hjl := hj (qT hjt (qN hi ht))
    unfold fitsB at hjl
    simp only [Bool.and_eq_true, decide_eq_true_eq] at hjl
    refine gm_mono _ _ (i + t - j) ?_ (by simp only [List.length_drop]; exact qs2 hjt (qN (qN hi ht) hpl))
    rw [List.drop_drop, show j + v.length + (i + t - j) = i + (t + v.length) by exact (Eq.trans (Nat.add_sub_assoc hjt _).symm (Nat.sub_eq_of_eq_add (Eq.trans (Nat.add_comm _ _) (Eq.trans (Nat.add_assoc _ _ _).symm (Eq.trans (Nat.add_right_comm _ _ _) (congrArg (· + _) (Nat.add_assoc _ _ _)))))))]
    exact h2
  · intro hz; refine zA hz ?_; clear hz; intro h1 h2
    have hjl := hj h1
    unfold fitsB at hjl
    simp only [Bool.and_eq_true, decide_eq_true_eq] at hjl
    refine ⟨j - i, by simp only [List.length_drop]; exact (Nat.sub_le_sub_right h1 _), ?_, ?_⟩
    · rw [List.drop_drop, show i + (j - i) = j by exact (Nat.add_sub_cancel' hij)]; exact hjl.2
    · rw [List.drop_drop, show i + (j - i + v.length) = j + v.length by omega]; exact h2
theorem takes_loop (hF : FitsOk F) {P : D} (hP : usable P = true) (hs : s.length ≤ 900) {l : List Nat} : ∀ (ms : List (List Nat)) (c i : Nat) (v : D), i ≤ 1000 + c → c + wt ms ≤ 900 →
    ∃ j w, forL (fun x Γ => runs F [] b_law_takes_2 (setv [] 3 x Γ)) (ms.map .str) (kst P s i v .undef) = some (.next, kst P s j w .undef) ∧ j ≤ 5000 ∧ ((i ≤ s.length ∧ GM 46 (ms ++ [l]) (s.drop i)) ↔ (j ≤ s.length ∧ GM 46 [l] (s.drop j)))
  | [], c, i, v, h1, h2 => ⟨i, v, rfl, by exact (qT (qT h1 (qF (qT qu h2) _)) (by decide)), Iff.rfl⟩
  | u :: ms, c, i, v, h1, h2 => by
    rw [wt_cons] at h2
    refine zEAAAA (seek_run (x4 := .undef) hF hP (v := u) (i := i) (qT (qT (qT qu qu) qv) h2) hs (qT (qT h1 (qF (qT qu h2) _)) (by decide))) fun j e hij hjb hno hyes => ?_
    have lu : biop "len" [.str u] = some (.int u.length) := bl_s (fit_of' (qT (qT (qT (qT qu qu) qv) h2) (by decide)))
    have hr : runs F [] b_law_takes_2 (kst P s i (.str u) .undef) = some (.next, kst P s (j + u.length) (.str u) .undef) := by
      unfold b_law_takes_2
      trivial
    refine zEEAA (takes_loop hF hP hs (l := l) ms (c + u.length) (j + u.length) (.str u) (by omega) (by omega)) fun j2 w e2 hb hiff => ?_
    refine ⟨j2, w, (f_next hr).trans e2, hb, ?_⟩
    rw [← hiff]
    clear hiff e2 hr e
    have hy : ∃ y t, ms ++ [l] = y :: t := by
      cases ms with
      | nil => exact ⟨l, [], rfl⟩
      | cons y t => exact ⟨y, t ++ [l], rfl⟩
    refine zEE hy fun y t hy => ?_
    rw [List.cons_append, hy]
    by_cases hi : i ≤ s.length
    · rw [gm_seek hij hi hno hyes]
      refine ⟨fun h => ?_, fun h => ⟨hi, by omega, h.2⟩⟩
      have hjl := hyes h.2.1
      unfold fitsB at hjl
      simp only [Bool.and_eq_true, decide_eq_true_eq] at hjl
      exact ⟨hjl.1, h.2.2⟩
    · exact ⟨fun h => absurd h.1 hi, fun h => by omega⟩
theorem takes_run (hF : FitsOk F) {w0 : List Nat} {ws : List (List Nat)} (hs : s.length ≤ 900) (hz : w0.length + wt ws ≤ 900) : ∃ b, Ret (runs F [] b_law_takes ([.list ((w0 :: ws).map .str), .str s] ++ List.replicate 5 .undef)) (.bool b) ∧ (b = true ↔ takesP w0 ws s) := by
  have hwl := wt_len ws
  have ls : biop "len" [.str s] = some (.int s.length) := bl_s (fit_of' (qT hs (by decide)))
  have lw : biop "len" [.str w0] = some (.int w0.length) := bl_s (fit_of' (qT (qT qu hz) (by decide)))
  have lP : biop "len" [.list ((w0 :: ws).map .str)] = some (.int ((ws.length + 1 : Nat) : Int)) := (bl_l (fit_of' (by simp; exact (qT (qT hwl (qT qv hz)) (by decide))))).trans (by simp)
  have i0 : idx (.list ((w0 :: ws).map .str)) (.int 0) = some (.str w0) := getI_nat (xs := (w0 :: ws).map D.str) (i := 0) (by simp) (by decide)
  have hf0 : F "_law_fits" [.str w0, .str s, .int 0] = some (.bool (fitsB w0 s 0)) := hF w0 s 0 (qT qu hz) hs (by decide)
  have c0 : fitsB w0 s 0 = pfx 46 w0 s := by
    unfold fitsB
    rw [List.drop_zero, Nat.zero_add]
    cases h : pfx 46 w0 s with
    | false => rw [Bool.and_false]
    | true => rw [decide_eq_true (pfx_len h)]; rfl
  rw [c0] at hf0
  show ∃ b, Ret (runs F [] b_law_takes [.list ((w0 :: ws).map .str), .str s, .undef, .undef, .undef, .undef, .undef]) _ ∧ _
  have hPu : usable (.list ((w0 :: ws).map .str)) = true := rfl
  unfold takesP
  cases hp : pfx 46 w0 s with
  | false =>
    rw [hp] at hf0
    generalize D.list ((w0 :: ws).map .str) = P at *
    exact ⟨false, by unfold b_law_takes; trivial, fun h => bf h, fun h => bf h.1⟩
  | true =>
    rw [hp] at hf0
    have hpl := pfx_len hp
    clear hp c0
    rcases List.eq_nil_or_concat ws with rfl | ⟨ms, l, rfl⟩
    · have lP : biop "len" [.list ([w0].map .str)] = some (.int 1) := lP
      generalize D.list ([w0].map .str) = P at *
      have hc : cmp .Eq (.int (w0.length : Nat)) (.int (s.length : Nat)) = some (decide (w0.length = s.length)) := congrArg some (decide_eq_decide.mpr (by omega))
      refine ⟨decide (w0.length = s.length), by unfold b_law_takes; trivial, ?_⟩
      rw [if_pos rfl, decide_eq_true_eq]
      exact ⟨fun h => ⟨rfl, h⟩, fun h => h.2⟩
    · rw [List.concat_eq_append] at *
      have hwa := wt_app ms [l]
      have hwl1 : wt [l] = l.length + 1 := by simp [wt]
      have csl : sli (.list ((w0 :: (ms ++ [l])).map .str)) (.int 1) (.int (-1)) = some (.list (ms.map .str)) := (sl_l rfl rfl (fit_of' (by simp; simp at hwl; exact (qT (qT qu (qT hwl (qT qv hz))) (by decide))))).trans (by
        have := cut_mid_neg ((w0 :: (ms ++ [l])).map D.str) (i := 1) (k := 1) (by decide)
        rw [show (-((1 : Nat) : Int)) = -1 from rfl, show ((1 : Nat) : Int) = 1 from rfl] at this
        rw [this]; simp)
      have il : idx (.list ((w0 :: (ms ++ [l])).map .str)) (.int (-1)) = some (.str l) := by
        have : (w0 :: (ms ++ [l])).map D.str = (w0 :: ms).map D.str ++ [.str l] := by simp
        rw [this]
        exact getI_last _ _
      have hP1 : (((ms ++ [l]).length + 1 : Nat) : Int) ≠ 1 := by simp; omega
      rw [if_neg (by simp)]
      generalize D.list ((w0 :: (ms ++ [l])).map .str) = P at *
      generalize (((ms ++ [l]).length + 1 : Nat) : Int) = z at *
      refine zEEAA (takes_loop hF hPu hs (l := l) ms 0 w0.length .undef (qT (qT hpl hs) (by decide)) (qF (qT qu (qT (qE hwa.symm) (qT qv hz))) _)) fun i v e1 hb hiff => ?_
      have ll : biop "len" [.str l] = some (.int l.length) := bl_s (fit_of' (qT (qT qu (qT (qE hwl1.symm) (qT qv (qT (qE hwa.symm) (qT qv hz))))) (by decide)))
      have s4 : run F [] (.for_ 3 (.sl (.var 0) (.lit (.int (1))) (.neg (.lit (.int (1))))) b_law_takes_2) (kst P s w0.length .undef .undef) = some (.next, kst P s i v .undef) := r_for (by trivial) rfl rfl e1
      have hsb : bin .Sub (.int (s.length : Nat)) (.int (l.length : Nat)) = some (.int ((s.length : Int) - (l.length : Int))) := rfl
      have fin : ∀ b : Bool, ev F [] false (kst P s i v (.int ((s.length : Int) - (l.length : Int)))) (.and (.cmp .LtE (.var 2) (.var 4)) (.fn "_law_fits" (.cons (.idx (.var 0) (.neg (.lit (.int (1))))) (.cons (.var 1) (.cons (.var 4) .nil))))) = some (.bool b) →
          Ret (runs F [] b_law_takes [P, .str s, .undef, .undef, .undef, .undef, .undef]) (.bool b) := fun b h => by
        generalize (s.length : Int) - (l.length : Int) = y at *
        unfold b_law_takes
        trivial
      have hg : GM 46 (ms ++ [l]) (s.drop w0.length) ↔ (i ≤ s.length ∧ GM 46 [l] (s.drop i)) := ⟨fun h => hiff.mp ⟨hpl, h⟩, fun h => (hiff.mpr h).2⟩
      by_cases h : i + l.length ≤ s.length
      · have e : (s.length : Int) - (l.length : Int) = ((s.length - l.length : Nat) : Int) := by omega
        have hle : ((i : Int) ≤ ((s.length - l.length : Nat) : Int)) := by exact (qe (Nat.le_sub_of_add_le h))
        have hf := hF l s (s.length - l.length) (qT qv (qT h hs)) hs (qT (qsl hs) (by decide))
        have hfb : fitsB l s (s.length - l.length) = pfx 46 l (s.drop (s.length - l.length)) := by unfold fitsB; rw [decide_eq_true (by omega), Bool.true_and]
        rw [hfb] at hf
        refine ⟨pfx 46 l (s.drop (s.length - l.length)), fin _ (by rw [e]; generalize s.length - l.length = z at *; trivial), ?_⟩
        rw [hg]
        show _ ↔ _ ∧ (_ ∧ (_ ∧ _))
        rw [List.length_drop, List.drop_drop, qs1 (Nat.le_of_add_right_le h) (Nat.le_sub_of_add_le' h)]
        exact ⟨fun h1 => ⟨rfl, by omega, by exact (Nat.le_sub_of_add_le' h), h1⟩, fun h1 => h1.2.2.2⟩
      · have hle : ¬ ((i : Int) ≤ ((s.length : Int) - (l.length : Int))) := by omega
        refine ⟨false, fin _ (by generalize (s.length : Int) - (l.length : Int) = y at *; trivial), fun h => bf h, fun h1 => ?_⟩
        have h2 := (hg.mp h1.2)
        have h3 : l.length ≤ (s.drop i).length := h2.2.1
        rw [List.length_drop] at h3
        omega
end
end
section
set_option maxHeartbeats 1000000
noncomputable def dB (l : List Bool) : D := .list (l.map .bool)
theorem idx_dB {l : List Bool} {i : Nat} {b : Bool} (h : l[i]? = some b) (hz : i < 2 ^ 60) : idx (dB l) (.int (i : Nat)) = some (.bool b) := by
  unfold dB
  have hl : i < l.length := by
    rcases Nat.lt_or_ge i l.length with h' | h'
    · exact h'
    · rw [List.getElem?_eq_none h'] at h; exact nos h
  simp only [idx, vInt, Option.bind_some]
  rw [getI_nat (by simp only [List.length_map]; exact hl) hz, List.getElem_map]
  rw [List.getElem?_eq_getElem hl] at h
  injection h with h
  rw [h]
theorem app_dB {F : FO} {own : List Nat} {Γ : List D} {i : Nat} {e : E} {l : List Bool} {x : Bool} (hg : Γ[i]? = some (dB l)) (he : ev F own false Γ e = some (.bool x)) (ho : own.contains i = true) (hf : fit l.length) :
    run F own (.app i e) Γ = some (.next, Γ.set i (dB (l ++ [x]))) := by
  rw [run_app, hg, he]
  unfold dB
  simp only
  rw [if_pos ⟨ho, by simp only [List.length_map]; exact hf⟩, List.map_append]
  rfl
open Classical in
noncomputable def rch (pre path : List Int) (m : Nat) : List Bool := (List.range m).map fun k => decide (Mt 62 63 pre (path.take k))
theorem rch_at {pre path : List Int} {m k : Nat} (h : k < m) : (rch pre path m)[k]? = some (@decide (Mt 62 63 pre (path.take k)) (Classical.propDecidable _)) := by
  unfold rch
  simp only [List.getElem?_map, List.getElem?_range h]
  rfl
theorem rch_succ {pre path : List Int} {m : Nat} : rch pre path (m + 1) = rch pre path m ++ [@decide (Mt 62 63 pre (path.take m)) (Classical.propDecidable _)] := by
  unfold rch
  simp only [List.range_succ, List.map_append]
  rfl
theorem rch_len {pre path : List Int} {m : Nat} : (rch pre path m).length = m := by unfold rch; simp only [List.length_map, List.length_range]
theorem mt_nil {r : List Int} : Mt 62 63 [] r ↔ r = [] := Iff.rfl
theorem mt_one_star {r : List Int} : Mt 62 63 [62] r := by
  rw [mt_star]; exact ⟨r.length, Nat.le_refl _, by rw [List.drop_length]; rfl⟩
theorem mt_snoc_star {pre r : List Int} : Mt 62 63 (pre ++ [62]) r ↔ ∃ j, j ≤ r.length ∧ Mt 62 63 pre (r.take j) := by
  rw [mt_app]
  exact ⟨fun ⟨j, h, a, b⟩ => ⟨j, h, a⟩, fun ⟨j, h, a⟩ => ⟨j, h, a, mt_one_star⟩⟩
theorem mt_snoc_star0 {pre : List Int} : Mt 62 63 (pre ++ [62]) [] ↔ Mt 62 63 pre [] := by
  rw [mt_snoc_star]
  constructor
  · intro hz; refine zEA hz ?_; clear hz; intro j _ h; simpa using h
  · intro h; exact ⟨0, Nat.le_refl _, by simpa using h⟩
theorem mt_snoc_starS {pre path : List Int} {k : Nat} (hk : k < path.length) : Mt 62 63 (pre ++ [62]) (path.take (k + 1)) ↔ Mt 62 63 (pre ++ [62]) (path.take k) ∨ Mt 62 63 pre (path.take (k + 1)) := by
  rw [mt_snoc_star, mt_snoc_star, List.length_take, List.length_take]
  constructor
  · intro hz; refine zEA hz ?_; clear hz; intro j hj h
    rcases Nat.lt_or_ge j (k + 1) with h' | h'
    · exact .inl ⟨j, by omega, by rw [List.take_take] at h ⊢; rw [Nat.min_eq_left (by omega)] at h ⊢; exact h⟩
    · rw [List.take_take, Nat.min_eq_right h'] at h; exact .inr h
  · rintro (⟨j, hj, h⟩ | h)
    · exact ⟨j, by omega, by rw [List.take_take] at h ⊢; rw [Nat.min_eq_left (by omega)] at h ⊢; exact h⟩
    · exact ⟨k + 1, by omega, by rw [List.take_take, Nat.min_self]; exact h⟩
theorem mt_one {c : Int} (hc : c ≠ 62) {r : List Int} : Mt 62 63 [c] r ↔ ∃ x, r = [x] ∧ (c = 63 ∨ c = x) := by
  cases r with
  | nil => simp [Mt, hc]
  | cons x r =>
    simp only [Mt, hc, if_false]
    constructor
    · intro hz; refine zA hz ?_; clear hz; rintro a rfl; exact iEA x rfl a
    · intro hz; refine zEA hz ?_; clear hz; intro y h a; injection h with h1 h2; subst h1 h2; exact ⟨a, rfl⟩
theorem mt_snoc0 {c : Int} (hc : c ≠ 62) {pre : List Int} : ¬ Mt 62 63 (pre ++ [c]) [] := by
  rw [mt_app]
  intro hz; refine zEAA hz ?_; clear hz; intro j _ _ h
  rw [List.drop_nil, mt_one hc] at h
  refine zEA h ?_; clear h; intro x h _
  cases h
theorem mt_snocS {c : Int} (hc : c ≠ 62) {pre path : List Int} {k : Nat} (hk : k < path.length) : Mt 62 63 (pre ++ [c]) (path.take (k + 1)) ↔ Mt 62 63 pre (path.take k) ∧ (c = 63 ∨ c = path[k]) := by
  rw [mt_app]
  have e : (path.take (k + 1)).drop k = [path[k]] := by
    simp only [List.drop_take, show k + 1 - k = 1 by exact (Nat.add_sub_cancel_left ..), List.drop_eq_getElem_cons hk, List.take_succ_cons, List.take_zero]
  constructor
  · intro hz; refine zEAA hz ?_; clear hz; intro j hj h1 h2
    refine zEA ((mt_one hc).mp h2) fun x hx h3 => ?_
    have hl := congrArg List.length hx
    rw [List.length_drop, List.length_take] at hl
    have : j = k := by simp at hl; omega
    subst this
    simp only [e] at hx
    injection hx with hx _
    subst hx
    rw [List.take_take, Nat.min_eq_left qu] at h1
    exact ⟨h1, h3⟩
  · intro hz; refine zA hz ?_; clear hz; intro h1 h2
    exact ⟨k, by simp only [List.length_take]; omega, by rw [List.take_take, Nat.min_eq_left qu]; exact h1, by rw [e, mt_one hc]; exact iEA _ rfl h2⟩
theorem rch_nil {path : List Int} : ∀ m, m ≤ path.length → rch [] path (m + 1) = true :: List.replicate m false
  | 0, _ => by
    rw [rch_succ]
    simp [rch, Mt]
  | m + 1, h => by
    have hm : ¬ Mt 62 63 [] (path.take (m + 1)) := by
      rw [mt_nil, List.take_eq_nil_iff]
      rintro (h' | h')
      · omega
      · rw [h'] at h; simp at h
    rw [rch_succ, rch_nil m (by omega), List.replicate_succ', @decide_eq_false _ (Classical.propDecidable _) hm]
    rfl
noncomputable abbrev mst (p r pre : List Int) (c : Int) (A : List Bool) (j : D) : List D := [dI p, dI r, dB (rch pre r (r.length + 1)), .int c, dB A, j, .undef, .undef]
open Classical in
theorem means_in {F : FO} {p r pre : List Int} {c : Int} (hr : r.length ≤ 900) {k : Nat} (hk : k < r.length) :
    runs F [4] b_law_means_1 (mst p r pre c (rch (pre ++ [c]) r (k + 1)) (.int (k : Nat))) = some (.next, mst p r pre c (rch (pre ++ [c]) r (k + 1 + 1)) (.int (k : Nat))) := by
  unfold b_law_means_1 mst
  have hA := idx_dB (rch_at (pre := pre ++ [c]) (path := r) (m := k + 1) (k := k) (Nat.lt_succ_of_le qr)) (qM (qT (qW hk) hr) (by decide))
  have hR0 := idx_dB (rch_at (pre := pre) (path := r) (m := r.length + 1) (k := k) (Nat.lt_succ_of_le (qW hk))) (qM (qT (qW hk) hr) (by decide))
  have hR1 := idx_dB (rch_at (pre := pre) (path := r) (m := r.length + 1) (k := k + 1) (Nat.lt_succ_of_le hk)) (qM (qR (qT (qW hk) hr) _) (by decide))
  have hP : idx (dI r) (.int (k : Nat)) = some (.int r[k]) := by simp only [idx_dI, getI_nat hk (qM (qT (qW hk) hr) (by decide))]; rfl
  have hadd : bin .Add (.int (k : Nat)) (.int 1) = some (.int ((k + 1 : Nat) : Int)) := rfl
  have hsc : (rch (pre ++ [c]) r (k + 1 + 1)) = rch (pre ++ [c]) r (k + 1) ++ [decide (Mt 62 63 (pre ++ [c]) (r.take (k + 1)))] := rch_succ
  have hl : fit (rch (pre ++ [c]) r (k + 1)).length := by simp only [rch_len]; exact fit_of' (qT (qR (qT (qW hk) hr) _) (by decide))
  generalize hGR : rch pre r (r.length + 1) = R at *
  by_cases hc : c = 62
  · subst hc
    have he : ev F [4] false [dI p, dI r, dB R, .int 62, dB (rch (pre ++ [62]) r (k + 1)), .int (k : Nat), .undef, .undef] (.or (.idx (.var 4) (.var 5)) (.idx (.var 2) (.bin .Add (.var 5) (.lit (.int (1)))))) = some (.bool (decide (Mt 62 63 (pre ++ [62]) (r.take (k + 1))))) := by
      have hh := mt_snoc_starS (pre := pre) hk
      generalize rch (pre ++ [62]) r (k + 1) = A at *
      generalize hz : ((k + 1 : Nat) : Int) = z at *
      by_cases ha : Mt 62 63 (pre ++ [62]) (r.take k)
      · have := hh.mpr (.inl ha)
        rw [decide_eq_true ha] at hA
        rw [decide_eq_true this]
        exact e_or1 (e_idx (e_var rfl rfl rfl) (e_var rfl rfl rfl) hA) rfl
      · rw [decide_eq_false ha] at hA
        have e2 : decide (Mt 62 63 pre (r.take (k + 1))) = decide (Mt 62 63 (pre ++ [62]) (r.take (k + 1))) := by
          apply decide_eq_decide.mpr
          simp only [hh]
          exact ⟨.inr, fun h => h.resolve_left ha⟩
        rw [e2] at hR1
        exact e_or0 (e_idx (e_var rfl rfl rfl) (e_var rfl rfl rfl) hA) rfl (e_idx (e_var rfl rfl rfl) (e_bin (e_var rfl rfl rfl) e_lit hadd) hR1)
    have ha := app_dB (F := F) (own := [4]) (i := 4) rfl he rfl hl
    have ht : tv F [4] [dI p, dI r, dB R, .int 62, dB (rch (pre ++ [62]) r (k + 1)), .int (k : Nat), .undef, .undef] (.cmp .Eq (.var 3) (.lit (.int (62)))) = some true := by
      rfl
    rw [hsc]
    generalize rch (pre ++ [62]) r (k + 1) = A at *
    exact k_if1 ht (k_step ha (k_nil rfl)) (k_nil rfl)
  · have he : ev F [4] false [dI p, dI r, dB R, .int c, dB (rch (pre ++ [c]) r (k + 1)), .int (k : Nat), .undef, .undef] (.and (.idx (.var 2) (.var 5)) (.or (.cmp .Eq (.var 3) (.lit (.int (63)))) (.cmp .Eq (.var 3) (.idx (.var 1) (.var 5))))) = some (.bool (decide (Mt 62 63 (pre ++ [c]) (r.take (k + 1))))) := by
      have hh := mt_snocS hc (pre := pre) hk
      generalize rch (pre ++ [c]) r (k + 1) = A at *
      by_cases ha : Mt 62 63 pre (r.take k)
      · rw [decide_eq_true ha] at hR0
        by_cases h63 : c = 63
        · rw [decide_eq_true (hh.mpr ⟨ha, .inl h63⟩)]
          have h6 : cmp .Eq (.int c) (.int 63) = some true := by rw [h63]; rfl
          exact e_and1 (e_idx (e_var rfl rfl rfl) (e_var rfl rfl rfl) hR0) rfl (e_or1 (e_cmp (e_var rfl rfl rfl) e_lit h6) rfl)
        · have e2 : decide (c = r[k]) = decide (Mt 62 63 (pre ++ [c]) (r.take (k + 1))) := by
            apply decide_eq_decide.mpr
            simp only [hh]
            exact ⟨fun h => ⟨ha, .inr h⟩, fun h => h.2.resolve_left h63⟩
          have h6 : cmp .Eq (.int c) (.int 63) = some false := congrArg some (decide_eq_false h63)
          simp only [← e2]
          exact e_and1 (e_idx (e_var rfl rfl rfl) (e_var rfl rfl rfl) hR0) rfl (e_or0 (e_cmp (e_var rfl rfl rfl) e_lit h6) rfl (e_cmp (e_var rfl rfl rfl) (e_idx (e_var rfl rfl rfl) (e_var rfl rfl rfl) hP) rfl))
      · rw [decide_eq_false ha] at hR0
        rw [decide_eq_false (fun h => ha (hh.mp h).1)]
        exact e_and0 (e_idx (e_var rfl rfl rfl) (e_var rfl rfl rfl) hR0) rfl
    have ha := app_dB (F := F) (own := [4]) (i := 4) rfl he rfl hl
    have ht : tv F [4] [dI p, dI r, dB R, .int c, dB (rch (pre ++ [c]) r (k + 1)), .int (k : Nat), .undef, .undef] (.cmp .Eq (.var 3) (.lit (.int (62)))) = some false := t_cmp (e_var rfl rfl rfl) e_lit (congrArg some (decide_eq_false hc))
    rw [hsc]
    generalize rch (pre ++ [c]) r (k + 1) = A at *
    exact k_if0 ht (k_step ha (k_nil rfl)) (k_nil rfl)
open Classical in
theorem means_inner {F : FO} {p r pre : List Int} {c : Int} (hr : r.length ≤ 900) : ∀ (n k : Nat) (j : D), k + n = r.length →
    ∃ j', forL (fun x Γ => runs F [4] b_law_means_1 (setv [4] 5 x Γ)) ((List.range' k n).map fun i => .int ((i : Nat) : Int)) (mst p r pre c (rch (pre ++ [c]) r (k + 1)) j) = some (.next, mst p r pre c (rch (pre ++ [c]) r (r.length + 1)) j')
  | 0, k, j, h => ⟨j, by rw [← h]; rfl⟩
  | n + 1, k, j, h => by
    refine zE (means_inner hr n (k + 1) (.int (k : Nat)) (Eq.trans (Eq.trans (Nat.add_comm _ _) (Nat.add_left_comm _ _ _)) h)) fun j' e => ⟨j', (f_next ?_).trans e⟩
    exact means_in hr (by omega)
open Classical in
theorem means_step {F : FO} {p r pre : List Int} {c : Int} (hr : r.length ≤ 900) {j5 : D} : ∃ j5', runs F [4] b_law_means_2 [dI p, dI r, dB (rch pre r (r.length + 1)), .int c, .undef, j5, .undef, .undef] =
    some (.next, [dI p, dI r, dB (rch (pre ++ [c]) r (r.length + 1)), .int c, .undef, j5', .undef, .undef]) := by
  have r0 : idx (dB (rch pre r (r.length + 1))) (.int 0) = some (.bool (decide (Mt 62 63 pre []))) := by
    have := idx_dB (i := 0) (rch_at (pre := pre) (path := r) (m := r.length + 1) (k := 0) (Nat.lt_succ_of_le qz)) (by decide)
    simp only [List.take_zero] at this
    exact this
  have e : dB (rch (pre ++ [c]) r (0 + 1)) = .list [.bool (decide (Mt 62 63 (pre ++ [c]) []))] := by
    rw [rch_succ]; simp [rch, dB]; congr
  have t1 : ev F [4] false [dI p, dI r, dB (rch pre r (r.length + 1)), .int c, .undef, j5, .undef, .undef] (.list (.cons (.and (.cmp .Eq (.var 3) (.lit (.int (62)))) (.idx (.var 2) (.lit (.int (0))))) .nil)) = some (dB (rch (pre ++ [c]) r (0 + 1))) := by
    rw [e]
    by_cases hc : c = 62
    · refine yl hc ?_; clear hc e
      rw [decide_eq_decide.mpr mt_snoc_star0]
      exact e_list (e_cons (e_and1 (e_cmp (e_var rfl rfl rfl) e_lit rfl) rfl (e_idx (e_var rfl rfl rfl) e_lit r0)) e_nil)
    · rw [decide_eq_false (mt_snoc0 hc)]
      exact e_list (e_cons (e_and0 (e_cmp (e_var rfl rfl rfl) e_lit (congrArg some (decide_eq_false hc))) rfl) e_nil)
  clear e r0
  refine zE (means_inner (F := F) (p := p) (pre := pre) (c := c) hr r.length 0 (clr 4 j5) (Nat.zero_add _)) fun j' hl => ⟨clr 4 j', ?_⟩
  unfold b_law_means_2
  have hrg := range_nat (n := r.length) (qT hr (by decide))
  rw [List.range_eq_range'] at hrg
  exact k_asg t1 rfl rfl (k_step (r_forR (e_cons (e_bi (e_cons (e_var rfl rfl rfl) e_nil) (len_dI (fit_of' (qT hr (by decide))))) e_nil) hrg rfl hl) (k_step rfl (k_nil rfl)))
open Classical in
theorem means_loop {F : FO} {p r : List Int} (hr : r.length ≤ 900) : ∀ (suf pre : List Int) (j3 j5 : D), ∃ k3 k5, forL (fun x Γ => runs F [4] b_law_means_2 (setv [4] 3 x Γ)) (suf.map .int) [dI p, dI r, dB (rch pre r (r.length + 1)), j3, .undef, j5, .undef, .undef] =
    some (.next, [dI p, dI r, dB (rch (pre ++ suf) r (r.length + 1)), k3, .undef, k5, .undef, .undef])
  | [], pre, j3, j5 => ⟨j3, j5, by rw [List.append_nil]; rfl⟩
  | c :: suf, pre, j3, j5 => by
    refine zE (means_step (F := F) (p := p) (pre := pre) (c := c) hr (j5 := j5)) fun j h => ?_
    refine zEE (means_loop (F := F) (p := p) hr suf (pre ++ [c]) (.int c) j) fun k3 k5 e => ⟨k3, k5, ?_⟩
    rw [List.append_assoc] at e
    exact (f_next h).trans e
open Classical in
theorem means_run {F : FO} {p r : List Int} (hr : r.length ≤ 900) : Ret (runs F [4] b_law_means ([dI p, dI r] ++ List.replicate 6 .undef)) (.bool (@decide (Mt 62 63 p r) (Classical.propDecidable _))) := by
  have hf : fit r.length := fit_of' (qT hr (by decide))
  have lr := len_dI hf
  have hm : bin .Mult (.list [.bool false]) (.int (r.length : Nat)) = some (.list (List.replicate r.length (.bool false))) := by
    simp only [bin, mulD, vInt, Option.bind_some]
    rw [if_pos ⟨⟨by exact (qn _), by exact (qe (qT hr (by decide)))⟩, by trivial⟩]
    simp
  have ha : bin .Add (.list [.bool true]) (.list (List.replicate r.length (.bool false))) = some (dB (rch [] r (r.length + 1))) := by
    simp only [bin, addD, vLst, Option.bind_some]
    rw [if_pos (fit_of' (by simp; exact (qT (qF hr _) (by decide)))), rch_nil _ qr]
    simp [dB]
  refine zEE (means_loop (F := F) (p := p) hr p [] .undef .undef) fun j3 j5 hl => ?_
  rw [List.nil_append] at hl
  have il : idx (dB (rch p r (r.length + 1))) (.int (-1)) = some (.bool (decide (Mt 62 63 p r))) := by
    rw [rch_succ, List.take_of_length_le qr]
    unfold dB
    rw [List.map_append]
    exact getI_last _ _
  show Ret (runs F [4] b_law_means [dI p, dI r, .undef, .undef, .undef, .undef, .undef, .undef]) _
  have s2 : run F [4] (.for_ 3 (.var 0) b_law_means_2) [dI p, dI r, dB (rch [] r (r.length + 1)), .undef, .undef, .undef, .undef, .undef] = some (.next, [dI p, dI r, dB (rch p r (r.length + 1)), j3, .undef, j5, .undef, .undef]) := r_for (e_var rfl rfl rfl) rfl rfl hl
  clear hl
  generalize rch p r (r.length + 1) = R at *
  unfold b_law_means
  exact .of (k_asg (e_bin (e_list (e_cons e_lit e_nil)) (e_bin (e_list (e_cons e_lit e_nil)) (e_bi (e_cons (e_var rfl rfl rfl) e_nil) lr) hm) ha) rfl rfl (k_step s2 (k_ret (e_idx (e_var rfl rfl rfl) (e_neg e_lit) il) rfl rfl)))
end
section
variable {α β : Type} [DecidableEq α] [DecidableEq β] {g : α → β} (hg : ∀ a b, g a = g b → a = b)
include hg
theorem dec_map (x c : α) : decide (g x = g c) = decide (x = c) := decide_eq_decide.mpr ⟨hg x c, fun h => h ▸ rfl⟩
theorem map_eq_map : ∀ {a b : List α}, a.map g = b.map g ↔ a = b
  | [], [] => by simp
  | [], _ :: _ => by simp
  | _ :: _, [] => by simp
  | x :: a, y :: b => by
    simp only [List.map_cons, List.map_cons, List.cons.injEq, List.cons.injEq, map_eq_map]
    exact ⟨fun ⟨h, h2⟩ => ⟨hg _ _ h, h2⟩, fun ⟨h, h2⟩ => ⟨h ▸ rfl, h2⟩⟩
theorem map_eq_rep {a : List α} {n : Nat} {c : α} : a.map g = List.replicate n (g c) ↔ a = List.replicate n c := by
  rw [← List.map_replicate]; exact map_eq_map hg
theorem tailC_map (c : α) (l : List α) : tailC (g c) (l.map g) = (tailC c l).map g := by
  unfold tailC
  rw [← List.map_reverse, List.takeWhile_map, List.map_reverse]
  congr 2
  refine congrArg (fun p => List.takeWhile p l.reverse) (funext fun x => ?_)
  simp only [Function.comp, ne_eq, decide_not, dec_map hg]
theorem headC_map (c : α) (l : List α) : headC (g c) (l.map g) = (headC c l).map g := by
  unfold headC
  simp only [tailC_map hg, List.length_map, List.length_map, List.map_take]
theorem stripR_map (c : α) (l : List α) : stripR (g c) (l.map g) = (stripR c l).map g := by
  unfold stripR
  rw [← List.map_reverse, List.dropWhile_map, List.map_reverse]
  congr 2
  refine congrArg (fun p => List.dropWhile p l.reverse) (funext fun x => ?_)
  simp only [Function.comp, dec_map hg]
theorem halvesC_map (c : α) (l : List α) : halvesC (g c) (l.map g) = ((halvesC c l).1.map g, (halvesC c l).2.map g) := by
  unfold halvesC
  simp only [headC_map hg, tailC_map hg, stripR_map hg, List.length_map]
  by_cases h : headC c l = List.replicate (headC c l).length c
  · rw [if_pos ((map_eq_rep hg).mpr h), if_pos h]
  · rw [if_neg (fun q => h ((map_eq_rep hg).mp q)), if_neg h]
theorem stemC_map (c : α) (l t : List α) : stemC (g c) (l.map g) (t.map g) = (stemC c l t).map g := by
  unfold stemC
  rw [tailC_map hg, List.length_map, List.length_map, List.length_map, ← List.map_take, ← List.map_take]
  by_cases h1 : (tailC c t).length = t.length
  · rw [if_pos h1, if_pos h1]
  · rw [if_neg h1, if_neg h1]
    by_cases h : t.take (t.length - (tailC c t).length - 1) = List.replicate (t.length - (tailC c t).length - 1) c
    · rw [if_pos ((map_eq_rep hg).mpr h), if_pos h]
    · rw [if_neg (fun q => h ((map_eq_rep hg).mp q)), if_neg h]
theorem splitC_map (c : α) : ∀ l : List α, splitC (g c) (l.map g) = (splitC c l).map (List.map g)
  | [] => rfl
  | x :: r => by
    have ih := splitC_map c r
    simp only [List.map_cons]
    by_cases h : x = c
    · refine yl h ?_; clear h
      simp only [splitC_sep, splitC_sep, ih]; rfl
    · refine zEEA (splitC_cons (r := r) h) fun w ws h1 h2 => ?_
      refine zEEA (splitC_cons (c := g c) (r := r.map g) (fun q => h (hg _ _ q))) fun w' ws' h1' h2' => ?_
      simp only [ih, h1] at h1'
      simp only [h2', h2]
      simp only [List.map_cons] at h1'
      injection h1' with e1 e2
      simp only [← e1, ← e2]; rfl
theorem leadC_map (c : α) (l : List α) : leadC (g c) (l.map g) = leadC c l := by
  unfold leadC
  simp only [List.takeWhile_map, List.length_map]
  congr 1
  refine congrArg (fun p => List.takeWhile p l) (funext fun x => ?_)
  simp only [Function.comp, dec_map hg]
theorem back_map (c : α) : ∀ ws : List (List α), back (g c) (ws.map (List.map g)) = ((back c ws).1, (back c ws).2.map (List.map g))
  | [] => rfl
  | w :: ws => by
    have e1 : w.map g = [] ↔ w = [] := by simp
    have e2 : w.map g = [g c] ↔ w = [c] := map_eq_map hg (b := [c])
    have e3 : w.map g = [g c, g c] ↔ w = [c, c] := map_eq_map hg (b := [c, c])
    simp only [List.map_cons, back_cons, back_cons, back_map c ws]
    unfold backStep
    by_cases h3 : w = [c, c]
    · rw [if_pos (e3.mpr h3), if_pos h3]
    · rw [if_neg (fun q => h3 (e3.mp q)), if_neg h3]
      by_cases h : w ≠ [] ∧ w ≠ [c]
      · rw [if_pos ⟨fun q => h.1 (e1.mp q), fun q => h.2 (e2.mp q)⟩, if_pos h]
        by_cases h0 : 0 < (back c ws).1
        · rw [if_pos h0, if_pos h0]
        · rw [if_neg h0, if_neg h0]; rfl
      · rw [if_neg (fun q => h ⟨fun z => q.1 (e1.mpr z), fun z => q.2 (e2.mpr z)⟩), if_neg h]
theorem joinC_map (c : α) : ∀ ws : List (List α), joinC (g c) (ws.map (List.map g)) = (joinC c ws).map g
  | [] => rfl
  | [x] => rfl
  | x :: y :: r => by
    have := joinC_map c (y :: r)
    simp only [List.map_cons, joinC, List.map_append] at this ⊢
    simp only [this]
theorem straightC_map (s d : α) (l : List α) : straightC (g s) (g d) (l.map g) = (straightC s d l).map g := by
  have key : ∀ m : List α, orDot (g d) (m.map g) = (orDot d m).map g := fun m => by
    unfold orDot
    cases m <;> rfl
  unfold straightC
  simp only [leadC_map hg, splitC_map hg, back_map hg, ← key]
  congr 1
  simp only [List.map_append, List.map_replicate, ← joinC_map hg, List.map_append]
  congr 3
  split
  · simp only [List.map_replicate]; rfl
  · rfl
end
section
variable {α : Type} [DecidableEq α] {P : α → Prop}
theorem splitC_mem (c : α) : ∀ l : List α, ∀ w ∈ splitC c l, ∀ x ∈ w, x ∈ l
  | [], w, hw, x, hx => by simp [splitC] at hw; subst hw; cases hx
  | y :: r, w, hw, x, hx => by
    by_cases h : y = c
    · subst h
      rw [splitC_sep] at hw
      rcases List.mem_cons.mp hw with rfl | hw
      · cases hx
      · exact .tail _ (splitC_mem y r w hw x hx)
    · refine zEEA (splitC_cons (r := r) h) fun v vs h1 h2 => ?_
      rw [h2] at hw
      rcases List.mem_cons.mp hw with rfl | hw
      · rcases List.mem_cons.mp hx with rfl | hx
        · exact .head _
        · exact .tail _ (splitC_mem c r v (by rw [h1]; exact .head _) x hx)
      · exact .tail _ (splitC_mem c r w (by rw [h1]; exact .tail _ hw) x hx)
theorem back_mem (d : α) : ∀ ws : List (List α), ∀ w ∈ (back d ws).2, w ∈ ws
  | [], w, hw => by cases hw
  | v :: ws, w, hw => by
    simp only [back_cons] at hw
    unfold backStep at hw
    split at hw
    · exact .tail _ (back_mem d ws w hw)
    · split at hw
      · split at hw
        · exact .tail _ (back_mem d ws w hw)
        · rcases List.mem_cons.mp hw with rfl | hw
          · exact .head _
          · exact .tail _ (back_mem d ws w hw)
      · exact .tail _ (back_mem d ws w hw)
theorem joinC_mem {c : α} (hc : P c) : ∀ ws : List (List α), (∀ w ∈ ws, ∀ x ∈ w, P x) → ∀ x ∈ joinC c ws, P x
  | [], _, x, hx => by cases hx
  | [w], h, x, hx => h w (.head _) x hx
  | w :: v :: r, h, x, hx => by
    simp only [joinC] at hx
    rcases List.mem_append.mp hx with hx | hx
    · exact h w (.head _) x hx
    · rcases List.mem_cons.mp hx with rfl | hx
      · exact hc
      · exact joinC_mem hc (v :: r) (fun w hw => h w (.tail _ hw)) x hx
theorem straightC_mem {s d : α} (hs : P s) (hd : P d) {l : List α} (hl : ∀ x ∈ l, P x) : ∀ x ∈ straightC s d l, P x := by
  have key : ∀ m : List α, (∀ x ∈ m, P x) → ∀ x ∈ orDot d m, P x := fun m hm x hx => by
    unfold orDot at hx
    split at hx
    · simp at hx; refine yl hx ?_; clear hx; exact hd
    · exact hm x hx
  unfold straightC
  apply key
  intro x hx
  rcases List.mem_append.mp hx with hx | hx
  · simp only [List.eq_of_mem_replicate hx]; exact hs
  · refine joinC_mem hs _ ?_ x hx
    intro w hw y hy
    rcases List.mem_append.mp hw with hw | hw
    · split at hw
      · simp only [List.eq_of_mem_replicate hw] at hy
        simp at hy; refine yl hy ?_; clear hy; exact hd
      · cases hw
    · exact hl y (splitC_mem s l w (back_mem d _ w hw) y hy)
theorem tailC_mem {c : α} {l : List α} (hl : ∀ x ∈ l, P x) : ∀ x ∈ tailC c l, P x := fun x hx => by
  unfold tailC at hx
  rw [List.mem_reverse] at hx
  have := (List.takeWhile_prefix (fun x => decide (x ≠ c)) (l := l.reverse)).subset hx
  exact hl x (by simpa using this)
theorem headC_mem {c : α} {l : List α} (hl : ∀ x ∈ l, P x) : ∀ x ∈ headC c l, P x := fun x hx => hl x (List.mem_of_mem_take hx)
theorem stripR_mem {c : α} {l : List α} (hl : ∀ x ∈ l, P x) : ∀ x ∈ stripR c l, P x := fun x hx => by
  unfold stripR at hx
  simp only [List.mem_reverse] at hx
  have := (List.dropWhile_suffix (fun x => decide (x = c)) (l := l.reverse)).subset hx
  exact hl x (by simpa using this)
theorem halvesC_mem {c : α} {l : List α} (hl : ∀ x ∈ l, P x) : (∀ x ∈ (halvesC c l).1, P x) ∧ ∀ x ∈ (halvesC c l).2, P x := by
  refine ⟨?_, tailC_mem hl⟩
  unfold halvesC
  split
  · exact headC_mem hl
  · exact stripR_mem (headC_mem hl)
theorem stemC_mem {c : α} {l t : List α} (hl : ∀ x ∈ l, P x) : ∀ x ∈ stemC c l t, P x := by
  unfold stemC
  split
  · exact hl
  · split
    · exact hl
    · exact fun x hx => hl x (List.mem_of_mem_take hx)
theorem joinC_len (c : α) (ws : List (List α)) : (joinC c ws).length ≤ wt ws := by
  simp only [← joinC_drop, List.length_drop]
  have : (ws.flatMap (c :: ·)).length = wt ws := by
    induction ws with
    | nil => rfl
    | cons w ws ih => simp only [List.flatMap_cons, List.length_append, ih, wt_cons]; rfl
  exact (qsl (qE this))
theorem back_wt (d : α) : ∀ ws : List (List α), wt (back d ws).2 ≤ wt ws
  | [] => Nat.le_refl _
  | v :: ws => by
    have := back_wt d ws
    simp only [back_cons, wt_cons]
    unfold backStep
    split
    · simp only []; exact (qT this qv)
    · split
      · split
        · simp only []; exact (qT this qv)
        · simp only [wt_cons]; exact (qF this _)
      · exact (qT this qv)
theorem straightC_len (s d : α) (l : List α) : (straightC s d l).length ≤ 5 * l.length + 6 := by
  have h1 := wt_split s l
  have h2 := back_wt d (splitC s l)
  have h3 := back_debts d (splitC s l)
  have h4 := wt_len (splitC s l)
  have h5 := lead_le s l
  have h6 := slashN_le (leadC s l)
  have hrep : ∀ n, wt (List.replicate n [d, d]) = 3 * n := fun n => by
    induction n with
    | zero => rfl
    | succ n ih => simp only [List.replicate_succ, wt_cons, ih]; simp; omega
  have key : ∀ m : List α, (orDot d m).length ≤ m.length + 1 := fun m => by unfold orDot; split <;> simp
  unfold straightC
  refine Nat.le_trans (key _) ?_
  have hj := joinC_len s ((if slashN (leadC s l) = 0 then List.replicate (back d (splitC s l)).1 [d, d] else []) ++ (back d (splitC s l)).2)
  simp only [List.length_append, List.length_replicate]
  simp only [wt_app] at hj
  have hw : wt (if slashN (leadC s l) = 0 then List.replicate (back d (splitC s l)).1 [d, d] else []) ≤ 3 * (back d (splitC s l)).1 := by
    split
    · simp only [hrep]; exact Nat.le_refl _
    · exact Nat.zero_le _
  omega
theorem headC_len (c : α) (l : List α) : (headC c l).length ≤ l.length := by unfold headC; rw [List.length_take]; exact (qml (Nat.sub_le _ _))
theorem stripR_len (c : α) (l : List α) : (stripR c l).length ≤ l.length := by
  unfold stripR
  rw [List.length_reverse]
  have := (List.dropWhile_suffix (fun x => decide (x = c)) (l := l.reverse)).length_le
  simpa using this
theorem tailC_len (c : α) (l : List α) : (tailC c l).length ≤ l.length := by
  unfold tailC
  rw [List.length_reverse]
  have := (List.takeWhile_prefix (fun x => decide (x ≠ c)) (l := l.reverse)).length_le
  simpa using this
theorem halvesC_len (c : α) (l : List α) : (halvesC c l).1.length ≤ l.length ∧ (halvesC c l).2.length ≤ l.length := by
  refine ⟨?_, tailC_len c l⟩
  unfold halvesC
  split
  · exact headC_len c l
  · exact Nat.le_trans (stripR_len _ _) (headC_len c l)
theorem stemC_len (c : α) (l t : List α) : (stemC c l t).length ≤ l.length := by
  unfold stemC
  split
  · exact Nat.le_refl _
  · split
    · exact Nat.le_refl _
    · rw [List.length_take]; exact (Nat.min_le_right _ _)
end
noncomputable def sg (f : Int) : Nat := if 0 ≤ f ∧ f ≤ 64 then (signsOf [46, 47]).getD f.toNat 0 else if f < 0 then 1000 + 2 * f.natAbs else 1001 + 2 * f.natAbs
noncomputable def pch (f : Int) : Nat := if f = 63 then 46 else sg f
abbrev Fig (l : List Int) : Prop := ∀ f ∈ l, 0 ≤ f ∧ f ≤ 64
theorem sg_nat : ∀ i < 65, (signsOf [46, 47]).getD i 0 < 128 ∧ (signsOf [46, 47]).idxOf ((signsOf [46, 47]).getD i 0) = i := by decide +kernel
theorem sg_fig {f : Int} (h : 0 ≤ f ∧ f ≤ 64) : sg f = (signsOf [46, 47]).getD f.toNat 0 := by unfold sg; rw [if_pos h]
theorem sg_low {f : Int} (h : 0 ≤ f ∧ f ≤ 64) : sg f < 128 := by rw [sg_fig h]; exact (sg_nat _ (by omega)).1
theorem sg_big {f : Int} (h : ¬ (0 ≤ f ∧ f ≤ 64)) : 128 ≤ sg f := by unfold sg; rw [if_neg h]; split <;> exact (qT (by decide) qu)
theorem sg_inj (a b : Int) (h : sg a = sg b) : a = b := by
  by_cases ha : 0 ≤ a ∧ a ≤ 64
  · by_cases hb : 0 ≤ b ∧ b ≤ 64
    · rw [sg_fig ha, sg_fig hb] at h
      have h1 := (sg_nat a.toNat (by omega)).2
      have h2 := (sg_nat b.toNat (by omega)).2
      rw [h] at h1
      omega
    · have := sg_low ha; have := sg_big hb; omega
  · by_cases hb : 0 ≤ b ∧ b ≤ 64
    · have := sg_low hb; have := sg_big ha; omega
    · unfold sg at h
      rw [if_neg ha, if_neg hb] at h
      split at h <;> split at h <;> omega
theorem sg62 : sg 62 = 46 := by decide +kernel
theorem sg63 : sg 63 = 47 := by decide +kernel
theorem spell_sg {l : List Int} (h : Fig l) : spell [46, 47] l = l.map sg := by
  unfold spell
  apply List.map_congr_left
  intro f hf
  simp only [sg_fig (h f hf)]
theorem spell_len (last : List Nat) (l : List Int) : (spell last l).length = l.length := by unfold spell; rw [List.length_map]
theorem ps_nat : ∀ i < 65, ((signsOf [42, 63]).getD i 0 = 42 ↔ i = 62) ∧ (i ≠ 62 → chP ((signsOf [42, 63]).getD i 0) = pch (i : Nat) ∧ pch (i : Nat) ≠ 40 ∧ pch (i : Nat) ≠ 42) ∧ (signsOf [42, 63]).getD i 0 ≠ 91 ∧
    ((signsOf [42, 63]).getD i 0 = 42 ∨ (signsOf [42, 63]).getD i 0 = 63 ∨ (specials.contains ((signsOf [42, 63]).getD i 0) = false ∧ (signsOf [42, 63]).getD i 0 < 128)) := by decide +kernel
theorem pat_ok {p : List Int} (h : Fig p) : patOk (spell [42, 63] p) := by
  intro c hc
  unfold spell at hc
  refine zEA (List.mem_map.mp hc) ?_; rintro f hf rfl
  have := ps_nat f.toNat (by have := h f hf; omega)
  exact this.2.2
section
variable {α β γ : Type} [DecidableEq α] [DecidableEq β] [DecidableEq γ]
noncomputable def mapW (k : α → β) (st : List α × List (List α)) : List β × List (List β) := (st.1.map k, st.2.map (List.map k))
theorem wstep_map {star : α} {star' : γ} {h : α → γ} {f' : γ → β} {k : α → β} {x : α} (h1 : h x = star' ↔ x = star) (h2 : x ≠ star → f' (h x) = k x) (st : List α × List (List α)) :
    wstep star' f' (mapW k st) (h x) = mapW k (wstep star id st x) := by
  obtain ⟨w0, ws⟩ := st
  by_cases hx : x = star
  · have hx' := h1.mpr hx
    rw [hx', hx]
    rcases List.eq_nil_or_concat ws with rfl | ⟨ws', l, rfl⟩
    · rw [show mapW k (w0, []) = (w0.map k, []) from rfl, wstep_star2 (by simp), wstep_star2 (by simp)]; rfl
    · rw [List.concat_eq_append]
      by_cases hl : l = []
      · refine yl hl ?_; clear hl
        simp only [wstep_star1]
        unfold mapW
        rw [List.map_append]
        exact wstep_star1
      · rw [show mapW k (w0, ws' ++ [l]) = (w0.map k, (ws' ++ [l]).map (List.map k)) from rfl, wstep_star2 (by simp [hl]), wstep_star2 (by simp [hl])]
        simp [mapW]
  · have hx' : h x ≠ star' := fun q => hx (h1.mp q)
    rcases List.eq_nil_or_concat ws with rfl | ⟨ws', l, rfl⟩
    · rw [wstep_w0 hx]
      unfold mapW
      rw [List.map_nil, wstep_w0 hx', h2 hx]; simp
    · rw [List.concat_eq_append, wstep_ws hx]
      unfold mapW
      simp only [List.map_append, List.map_cons, List.map_nil, wstep_ws hx', h2 hx]; rfl
theorem wordsOf_map {star : α} {star' : γ} {h : α → γ} {f' : γ → β} {k : α → β} {p : List α} (h1 : ∀ x ∈ p, (h x = star' ↔ x = star)) (h2 : ∀ x ∈ p, x ≠ star → f' (h x) = k x) : wordsOf star' f' (p.map h) = mapW k (wordsOf star id p) := by
  have : ∀ (p : List α) (st : List α × List (List α)), (∀ x ∈ p, (h x = star' ↔ x = star)) → (∀ x ∈ p, x ≠ star → f' (h x) = k x) → (p.map h).foldl (wstep star' f') (mapW k st) = mapW k (p.foldl (wstep star id) st) := by
    intro p
    induction p with
    | nil => exact fun _ _ _ => rfl
    | cons x p ih =>
      intro st a b
      simp only [List.map_cons, List.foldl_cons, List.foldl_cons, wstep_map (a x (.head _)) (b x (.head _))]
      exact ih _ (fun y hy => a y (.tail _ hy)) fun y hy => b y (.tail _ hy)
  exact this p ([], []) h1 h2
theorem words_mem (star : α) (p : List α) : (∀ x ∈ (wordsOf star (id : α → α) p).1, x ∈ p) ∧ ∀ w ∈ (wordsOf star (id : α → α) p).2, ∀ x ∈ w, x ∈ p := by
  have : ∀ (q : List α) (st : List α × List (List α)), (∀ x ∈ q, x ∈ p) → ((∀ x ∈ st.1, x ∈ p) ∧ ∀ w ∈ st.2, ∀ x ∈ w, x ∈ p) →
      ((∀ x ∈ (q.foldl (wstep star (id : α → α)) st).1, x ∈ p) ∧ ∀ w ∈ (q.foldl (wstep star (id : α → α)) st).2, ∀ x ∈ w, x ∈ p) := by
    intro q
    induction q with
    | nil => exact fun _ _ h => h
    | cons c q ih =>
      rintro ⟨w0, ws⟩ hq ⟨h1, h2⟩
      simp only [List.foldl_cons]
      refine ih _ (fun x hx => hq x (.tail _ hx)) ?_
      have hc := hq c (.head _)
      by_cases hs : c = star
      · refine yl hs ?_; clear hs
        by_cases hl : ws.getLast? = some []
        · unfold wstep; rw [if_pos rfl, if_pos hl]; exact ⟨h1, h2⟩
        · rw [wstep_star2 hl]
          refine ⟨h1, fun w hw => ?_⟩
          rcases List.mem_append.mp hw with q | q
          · exact h2 w q
          · simp at q; refine yl q ?_; clear q; intro x hx; cases hx
      · rcases List.eq_nil_or_concat ws with rfl | ⟨ws', l, rfl⟩
        · rw [wstep_w0 hs]
          refine ⟨fun x hx => ?_, h2⟩
          rcases List.mem_append.mp hx with q | q
          · exact h1 x q
          · simp at q; refine yl q ?_; clear q; exact hc
        · rw [List.concat_eq_append] at *
          rw [wstep_ws hs]
          refine ⟨h1, fun w hw x hx => ?_⟩
          rcases List.mem_append.mp hw with q | q
          · exact h2 w (List.mem_append_left _ q) x hx
          · simp at q; subst q
            rcases List.mem_append.mp hx with q | q
            · exact h2 l (by simp) x q
            · simp at q; subst q; exact hc
  exact this p ([], []) (fun _ h => h) ⟨by simp, by simp⟩
end
theorem words_spell {p : List Int} (h : Fig p) : wordsOf 42 chP (spell [42, 63] p) = mapW pch (wordsOf 62 id p) := by
  unfold spell
  apply wordsOf_map
  · intro x hx
    have hx := h x hx
    have := (ps_nat x.toNat (by omega)).1
    simp only [this]; omega
  · intro x hx hne
    have hx := h x hx
    have := ((ps_nat x.toNat (by omega)).2.1 (by omega)).1
    simp only [this, show ((x.toNat : Nat) : Int) = x by omega]
theorem word_ok {p w : List Int} (h : Fig p) (hw : ∀ x ∈ w, x ∈ p) (hs : 62 ∉ w) : 40 ∉ w.map pch ∧ 42 ∉ w.map pch := by
  have : ∀ x ∈ w, pch x ≠ 40 ∧ pch x ≠ 42 := fun x hx => by
    have hx' := h x (hw x hx)
    have := ((ps_nat x.toNat (by omega)).2.1 (by have : x ≠ 62 := fun q => hs (q ▸ hx); omega)).2
    rw [show ((x.toNat : Nat) : Int) = x by omega] at this
    exact this
  constructor
  · intro hm
    refine zEA (List.mem_map.mp hm) fun x hx e => ?_
    exact (this x hx).1 e
  · intro hm
    refine zEA (List.mem_map.mp hm) fun x hx e => ?_
    exact (this x hx).2 e
theorem pfx_sg : ∀ {w r : List Int}, 62 ∉ w → pfx 46 (w.map pch) (r.map sg) = pfx 63 w r
  | [], _, _ => rfl
  | _ :: _, [], _ => rfl
  | c :: w, x :: r, h => by
    simp only [List.mem_cons, not_or] at h
    simp only [List.map_cons, List.map_cons]
    simp only [pfx]
    simp only [pfx_sg h.2]
    congr 1
    by_cases h63 : c = 63
    · refine yl h63 ?_; clear h63; rfl
    · have e : pch c = sg c := by unfold pch; simp only [if_neg h63]
      have e46 : sg c ≠ 46 := fun q => h.1 (sg_inj _ _ (by simp only [sg62, q]))
      simp only [e, decide_eq_false e46, decide_eq_false h63, dec_map sg_inj]
theorem gm_sg : ∀ (ws : List (List Int)) (r : List Int), (∀ w ∈ ws, 62 ∉ w) → (GM 46 (ws.map (List.map pch)) (r.map sg) ↔ GM 63 ws r)
  | [], _, _ => Iff.rfl
  | [l], r, h => by
    simp only [List.map_cons, List.map_nil, GM, List.length_map]
    rw [← List.map_drop, pfx_sg (h l (by simp))]
  | v :: u :: ws, r, h => by
    have ih := fun r => gm_sg (u :: ws) r fun w hw => h w (.tail _ hw)
    simp only [List.map_cons, GM, List.length_map] at ih ⊢
    constructor
    · intro hz; refine zEAA hz ?_; clear hz; intro j hj h1 h2
      rw [← List.map_drop, pfx_sg (h v (by simp))] at h1
      rw [← List.map_drop] at h2
      exact iEAA j hj h1 ((ih _).mp h2)
    · intro hz; refine zEAA hz ?_; clear hz; intro j hj h1 h2
      refine iEAA j hj ?_ ?_
      · rw [← List.map_drop, pfx_sg (h v (by simp))]; exact h1
      · rw [← List.map_drop]; exact (ih _).mpr h2
theorem takes_mt (p r : List Int) : takesP (mapW pch (wordsOf 62 id p)).1 (mapW pch (wordsOf 62 id p)).2 (r.map sg) ↔ Mt 62 63 p r := by
  refine zA (words_free 62 p) fun h0 hf => ?_
  simp only [words_mt 62 63 p r]
  rw [show wordsOf 62 id p = ((wordsOf 62 id p).1, (wordsOf 62 id p).2) from rfl, mt_words _ _ _ h0 hf]
  generalize (wordsOf 62 (id : Int → Int) p).1 = w0 at *
  generalize (wordsOf 62 (id : Int → Int) p).2 = ws at *
  unfold takesP mapW
  simp only [List.length_map]
  rw [pfx_sg h0, ← List.map_drop]
  refine and_congr_right fun _ => ?_
  cases ws with
  | nil => exact Iff.rfl
  | cons v ws =>
    rw [if_neg (by simp), if_neg (by simp)]
    exact gm_sg _ _ hf
theorem parts_len (s : List Nat) : (partsOf s).length ≤ s.length := by
  have : ∀ (s : List Nat) (acc : List (Option Nat)), (s.foldl partsStep acc).length ≤ acc.length + s.length := by
    intro s
    induction s with
    | nil => intro acc; exact Nat.le_refl _
    | cons c s ih =>
      intro acc
      simp only [List.foldl_cons]
      have := ih (partsStep acc c)
      have := partsStep_len acc c
      simp only [List.length_cons]
      omega
  have := this s []
  simpa [partsOf] using this
theorem words_len {p : List Int} (h : Fig p) : (mapW pch (wordsOf 62 id p)).1.length + wt (mapW pch (wordsOf 62 id p)).2 ≤ p.length := by
  have h1 := parts_len (spell [42, 63] p)
  simp only [parts_words_eq, words_spell h, encP_len, spell_len] at h1
  exact h1
theorem nm_split (p : List Int) : nmOf p = splitC 63 p := by
  have snoc : ∀ (p : List Int) (x : Int), splitC 63 (p ++ [x]) = nmStep (splitC 63 p) x := by
    intro p x
    by_cases hx : x = 63
    · refine yl hx ?_; clear hx
      rw [show p ++ [(63 : Int)] = p ++ 63 :: [] from rfl, splitC_app]
      unfold nmStep; rw [if_pos rfl]; rfl
    · unfold nmStep
      rw [if_neg hx]
      refine zE (splitC_last 63 p) fun ws h => ?_
      rcases last_cases 63 p with hf | ⟨a, b, rfl, hf⟩
      · rw [splitC_one hf, splitC_one (by simp only [List.mem_append, List.mem_singleton, not_or]; exact ⟨hf, fun q => hx q.symm⟩)]
        simp
      · have hb : 63 ∉ b ++ [x] := by simp only [List.mem_append, List.mem_singleton, not_or]; exact ⟨hf, fun q => hx q.symm⟩
        rw [List.append_assoc, List.cons_append, splitC_app, splitC_app, splitC_one hf, splitC_one hb]
        simp
  have : ∀ (q p : List Int), q.foldl nmStep (splitC 63 p) = splitC 63 (p ++ q) := by
    intro q
    induction q with
    | nil => intro p; simp
    | cons x q ih => intro p; rw [List.foldl_cons, ← snoc, ih]; simp
  have := this p []
  simpa [nmOf, splitC] using this
section
noncomputable def toldOf (r : List Int) : List (List Int) := [r, straightC 63 62 r, (halvesC 63 r).1, (halvesC 63 r).2, stemC 62 r (halvesC 63 r).2]
theorem told_ok {r : List Int} (h : Fig r) (hz : r.length ≤ 90) : ∀ l ∈ toldOf r, Fig l ∧ l.length ≤ 900 := by
  have h1 := straightC_len 63 62 r
  have h2 := halvesC_len 63 r
  have h3 := stemC_len 62 r (halvesC 63 r).2
  have m1 : Fig (straightC 63 62 r) := straightC_mem (P := fun f => 0 ≤ f ∧ f ≤ 64) (⟨(by decide), (by decide)⟩) (⟨(by decide), (by decide)⟩) h
  have m2 : Fig (halvesC 63 r).1 ∧ Fig (halvesC 63 r).2 := halvesC_mem (P := fun f => 0 ≤ f ∧ f ≤ 64) h
  have m3 : Fig (stemC 62 r (halvesC 63 r).2) := stemC_mem (P := fun f => 0 ≤ f ∧ f ≤ 64) h
  intro l hl
  simp only [toldOf, List.mem_cons, List.not_mem_nil, or_false] at hl
  rcases hl with rfl | rfl | rfl | rfl | rfl
  · exact ⟨h, by exact (qT hz (by decide))⟩
  · exact ⟨m1, by exact (qT (qT h1 (qR (qP hz) _)) (by decide))⟩
  · exact ⟨m2.1, by exact (qT (qT h2.1 hz) (by decide))⟩
  · exact ⟨m2.2, by exact (qT (qT h2.2 hz) (by decide))⟩
  · exact ⟨m3, by exact (qT (qT h3 hz) (by decide))⟩
theorem low_map {l : List Int} (h : Fig l) : low (l.map sg) := fun c hc => by
  refine zEA (List.mem_map.mp hc) ?_; rintro f hf rfl
  exact sg_low (h f hf)
theorem parted_run {F : FO} {r : List Int} (hr : Fig r) (hz : r.length ≤ 90)
    (h1 : F "_law_halves" [dI r] = some (.tup [dI (halvesC 63 r).1, dI (halvesC 63 r).2])) (h2 : F "_law_stem" [dI r, dI (halvesC 63 r).2] = some (dI (stemC 62 r (halvesC 63 r).2)))
    (h3 : F "_law_straight" [dI r] = some (dI (straightC 63 62 r))) (h4 : ∀ l, Fig l → l.length ≤ 900 → F "_law_spelled" [dI l, .str [46, 47]] = some (.str (l.map sg)))
    (h5 : F "normpath" [.str (r.map sg)] = some (.str (normC 47 46 (r.map sg)))) (h6 : F "split" [.str (r.map sg)] = some (.tup [.str (halvesC 47 (r.map sg)).1, .str (halvesC 47 (r.map sg)).2]))
    (h7 : F "splitext" [.str (r.map sg)] = some (.tup [.str (stemC 46 (r.map sg) (tailC 47 (r.map sg))), .str ((r.map sg).drop (stemC 46 (r.map sg) (tailC 47 (r.map sg))).length)])) :
    Ret (runs F [] b_law_parted ([.str (r.map sg), dI r] ++ List.replicate 12 .undef)) (dII (toldOf r)) := by
  unfold b_law_parted
  have e1 : normC 47 46 (r.map sg) = (straightC 63 62 r).map sg := by simp only [norm_straight, ← sg62, ← sg63]; exact straightC_map sg_inj _ _ _
  have e2 : halvesC 47 (r.map sg) = ((halvesC 63 r).1.map sg, (halvesC 63 r).2.map sg) := by simp only [← sg63]; exact halvesC_map sg_inj _ _
  have e3 : stemC 46 (r.map sg) (tailC 47 (r.map sg)) = (stemC 62 r (halvesC 63 r).2).map sg := by
    simp only [← sg63, tailC_map sg_inj, ← sg62]; exact stemC_map sg_inj _ _ _
  simp only [e1] at h5
  simp only [e2] at h6
  simp only [e3] at h7
  have hall := told_ok hr hz
  have hmap : mapO (fun x => ev F [] false [.undef, x] (.fn "_law_spelled" (.cons (.var 1) (.cons (.lit (.str [46, 47])) .nil)))) ((toldOf r).map dI) = some ((toldOf r).map fun l => .str (l.map sg)) := by
    refine mapO_mem dI _ (fun l => .str (l.map sg)) _ fun l hl => ?_
    have := h4 l (hall l hl).1 (hall l hl).2
    trivial
  have hl2 := (hall _ (by trivial : (halvesC 63 r).1 ∈ toldOf r)).1
  have hl3 := (hall _ (by trivial : (halvesC 63 r).2 ∈ toldOf r)).1
  have hl4 := (hall _ (by trivial : stemC 62 r (halvesC 63 r).2 ∈ toldOf r))
  have htold : dII (toldOf r) = .list [dI r, dI (straightC 63 62 r), dI (halvesC 63 r).1, dI (halvesC 63 r).2, dI (stemC 62 r (halvesC 63 r).2)] := rfl
  have htx : (toldOf r).map (fun l => D.str (l.map sg)) = [.str (r.map sg), .str ((straightC 63 62 r).map sg), .str ((halvesC 63 r).1.map sg), .str ((halvesC 63 r).2.map sg), .str ((stemC 62 r (halvesC 63 r).2).map sg)] := rfl
  simp only [htx] at hmap
  have low2 := low_map hl2
  have low3 := low_map hl3
  have low4 := low_map hl4.1
  have low5 : low ((r.map sg).drop ((stemC 62 r (halvesC 63 r).2).map sg).length) := fun c hc => low_map hr c (List.mem_of_mem_drop hc)
  have hst : ((stemC 62 r (halvesC 63 r).2).map sg).length ≤ 1000 := by simp only [List.length_map]; omega
  have hsl : sli (.str (r.map sg)) (.int (((stemC 62 r (halvesC 63 r).2).map sg).length : Nat)) .none = some (.str ((r.map sg).drop ((stemC 62 r (halvesC 63 r).2).map sg).length)) := by
    simp only [sli, Option.bind_some, partOf]
    rw [if_pos (fit_of' (by simp only [List.length_map]; exact (qT hz (by decide)))), cut_from]
  have hlen : biop "len" [.str ((stemC 62 r (halvesC 63 r).2).map sg)] = some (.int (((stemC 62 r (halvesC 63 r).2).map sg).length : Nat)) := by
    simp only [bi_len, f1, lenD]; rw [if_pos (fit_of' hst)]
  generalize hT : toldOf r = T at *
  generalize halvesC 63 r = hv at *
  obtain ⟨hd, tl⟩ := hv
  simp only [] at *
  generalize stemC 62 r tl = st at *
  generalize straightC 63 62 r = sr at *
  generalize hA : r.map sg = A at *
  generalize sr.map sg = B at *
  generalize hd.map sg = C1 at *
  generalize tl.map sg = C2 at *
  generalize st.map sg = S1 at *
  generalize A.drop S1.length = S2 at *
  generalize ((S1.length : Nat) : Int) = z at *
  have d1 : cmp .NotEq (.str B) (.str B) = some false := by simp only [cmp, deq_str, decide_true, Option.map_some]; rfl
  have dd : ∀ {x y : List Nat}, low x → low y → cmp .NotEq (.tup [.str x, .str y]) (.tup [.str x, .str y]) = some false := fun {x y} lx ly => by
    show Option.map (!·) (if low x ∧ low y ∧ low x ∧ low y then some (decide (x = x) && decide (y = y)) else none) = some false
    rw [if_pos ⟨lx, ly, lx, ly⟩, decide_eq_true rfl, decide_eq_true rfl]; rfl
  have d2 := dd low2 low3
  have d3 := dd low4 low5
  have hTm : T.map dI = [dI r, dI sr, dI hd, dI tl, dI st] := by injection htold
  rw [hTm] at hmap
  rw [htold]
  exact Ret.of (
    ((c_asgT (e_fn (e_cons (e_var rfl rfl rfl) e_nil) h1) rfl rfl).trans
    ((c_asg (e_fn (e_cons (e_var rfl rfl rfl) (e_cons (e_var rfl rfl rfl) e_nil)) h2) rfl rfl).trans
    ((c_asg (e_list (e_cons (e_var rfl rfl rfl) (e_cons (e_fn (e_cons (e_var rfl rfl rfl) e_nil) h3) (e_cons (e_var rfl rfl rfl) (e_cons (e_var rfl rfl rfl) (e_cons (e_var rfl rfl rfl) e_nil)))))) rfl rfl).trans
    ((c_asg (evComp (e_var rfl rfl rfl) rfl hmap rfl) rfl rfl).trans
    ((c_if0 (t_or0 (t_cmp (e_fn (e_cons (e_var rfl rfl rfl) e_nil) h5) (e_idx (e_var rfl rfl rfl) e_lit rfl) d1)
      (t_cmp (e_fn (e_cons (e_var rfl rfl rfl) e_nil) h6) (e_tup (e_cons (e_idx (e_var rfl rfl rfl) e_lit rfl) (e_cons (e_idx (e_var rfl rfl rfl) e_lit rfl) e_nil))) d2)) c_nil).trans
    ((c_if0 (t_cmp (e_fn (e_cons (e_var rfl rfl rfl) e_nil) h7) (e_tup (e_cons (e_idx (e_var rfl rfl rfl) e_lit rfl) (e_cons (e_sl (e_var rfl rfl rfl) (e_bi (e_cons (e_idx (e_var rfl rfl rfl) e_lit rfl) e_nil) hlen) e_lit hsl) e_nil))) d3) c_nil).trans
    (x_retV rfl rfl))))))))
theorem ci_nat {l : List Int} (h : ∀ o ∈ l, 0 ≤ o ∧ o < 256) : ∃ o : List Nat, l = ci o ∧ (∀ b ∈ o, b < 256) ∧ o.length = l.length := by
  refine ⟨l.map Int.toNat, ?_, ?_, by simp⟩
  · unfold ci
    simp only [List.map_map]
    conv => lhs; rw [← List.map_id l]
    refine List.map_congr_left fun b hb => ?_
    have := h b hb
    show b = ((b.toNat : Nat) : Int)
    omega
  · intro b hb
    refine zEA (List.mem_map.mp hb) ?_; rintro x hx rfl
    have := h x hx
    omega
open Classical in
theorem right_run {F : FO} {o1 o2 : List Nat} (ho1 : ∀ b ∈ o1, b < 256) (ho2 : ∀ b ∈ o2, b < 256) (hz1 : o1.length ≤ 60) (hz2 : o2.length ≤ 60)
    (hfig : ∀ o : List Nat, o.length ≤ 60 → F "_law_figures" [dI (ci o)] = some (dI (figsOf (ci o))))
    (hwr : ∀ (o : List Nat) (p q : Nat), p < 128 → q < 128 → (∀ b ∈ o, b < 256) → o.length ≤ 60 → F "_law_written" [dI (ci o), dI (figsOf (ci o)), .str [p, q]] = some (.str (spell [p, q] (figsOf (ci o)))))
    (hpart : ∀ r, Fig r → r.length ≤ 90 → F "_law_parted" [.str (r.map sg), dI r] = some (dII (toldOf r)))
    (htr : ∀ p, Fig p → p.length ≤ 90 → F "translate" [.str (spell [42, 63] p)] = some (.str (textT (mapW pch (wordsOf 62 id p)).1 (mapW pch (wordsOf 62 id p)).2)))
    (hpc : ∀ p, Fig p → p.length ≤ 90 → F "_law_pieces" [.str (textT (mapW pch (wordsOf 62 id p)).1 (mapW pch (wordsOf 62 id p)).2)] = some (.list (((mapW pch (wordsOf 62 id p)).1 :: (mapW pch (wordsOf 62 id p)).2).map .str)))
    (htk : ∀ p l, Fig p → p.length ≤ 90 → l.length ≤ 900 → F "_law_takes" [.list (((mapW pch (wordsOf 62 id p)).1 :: (mapW pch (wordsOf 62 id p)).2).map .str), .str (l.map sg)] = some (.bool (@decide (Mt 62 63 p l) (Classical.propDecidable _))))
    (hmn : ∀ p l, l.length ≤ 900 → F "_law_means" [dI p, dI l] = some (.bool (@decide (Mt 62 63 p l) (Classical.propDecidable _))))
    (hsp : ∀ l, Fig l → l.length ≤ 900 → F "_law_spelled" [dI l, .str [46, 47]] = some (.str (l.map sg))) :
    Ret (runs F [] b_law_right ([dI (ci o1), dI (ci o2)] ++ List.replicate 15 .undef)) (.bool true) := by
  unfold b_law_right
  have c1 := hfig o1 hz1
  have c2 := hfig o2 hz2
  have w1 := hwr o1 42 63 (by decide) (by decide) ho1 hz1
  have w2 := hwr o2 46 47 (by decide) (by decide) ho2 hz2
  have hp : Fig (figsOf (ci o1)) := figsOf_ok _
  have hr : Fig (figsOf (ci o2)) := figsOf_ok _
  have lp : (figsOf (ci o1)).length ≤ 90 := by have := figsOf_len (ci o1); simp only [ci, List.length_map] at this ⊢; exact (qT (qT this (qP (qD (qR hz1 _)))) (by decide))
  have lr : (figsOf (ci o2)).length ≤ 90 := by have := figsOf_len (ci o2); simp only [ci, List.length_map] at this ⊢; exact (qT (qT this (qP (qD (qR hz2 _)))) (by decide))
  simp only [spell_sg hr] at w2
  generalize figsOf (ci o1) = p at *
  generalize figsOf (ci o2) = r at *
  have t1 := htr p hp lp
  have t2 := hpc p hp lp
  have t3 := fun l => htk p l hp lp
  have t4 := hmn p
  have q1 := hpart r hr lr
  have hall := told_ok hr lr
  have hXu : usable (.list (((mapW pch (wordsOf 62 id p)).1 :: (mapW pch (wordsOf 62 id p)).2).map D.str)) = true := rfl
  have hXn : cmp .Is (.list (((mapW pch (wordsOf 62 id p)).1 :: (mapW pch (wordsOf 62 id p)).2).map D.str)) .none = some false := rfl
  have hTn : cmp .Is (dII (toldOf r)) .none = some false := rfl
  have hSn : ∀ s, cmp .Is (.str s) .none = some false := fun _ => rfl
  generalize D.list (((mapW pch (wordsOf 62 id p)).1 :: (mapW pch (wordsOf 62 id p)).2).map D.str) = X at *
  generalize textT (mapW pch (wordsOf 62 id p)).1 (mapW pch (wordsOf 62 id p)).2 = TX at *
  generalize hT : toldOf r = T at *
  generalize spell [42, 63] p = SP at *
  generalize hSR : r.map sg = SR at *
  generalize hO1 : ci o1 = O1 at *
  generalize hO2 : ci o2 = O2 at *
  obtain ⟨Γ2, e1, j8, rfl⟩ : ∃ Γ2, forL (fun x Γ => if ([] : List Nat).contains 8 then none else runs F [] b_law_right_1 (setv [] 8 x Γ)) (T.map dI) [dI O1, dI O2, dI p, dI r, .str SP, .str SR, dII T, X, .undef, .undef, .undef, .undef, .undef, .undef, .undef, .undef, .undef] = some (.next, Γ2) ∧
      ∃ j8, Γ2 = [dI O1, dI O2, dI p, dI r, .str SP, .str SR, dII T, X, j8, .undef, .undef, .undef, .undef, .undef, .undef, .undef, .undef] := by
    obtain ⟨Γ2, e1, suf, _, _, j8, h⟩ := forL_inv (step := fun x Γ => if ([] : List Nat).contains 8 then none else runs F [] b_law_right_1 (setv [] 8 x Γ))
      (fun xs Γ => ∃ suf : List (List Int), (∀ l ∈ suf, l ∈ T) ∧ xs = suf.map dI ∧ ∃ j8, Γ = [dI O1, dI O2, dI p, dI r, .str SP, .str SR, dII T, X, j8, .undef, .undef, .undef, .undef, .undef, .undef, .undef, .undef])
      (T.map dI) [dI O1, dI O2, dI p, dI r, .str SP, .str SR, dII T, X, .undef, .undef, .undef, .undef, .undef, .undef, .undef, .undef, .undef] ⟨T, fun _ h => h, rfl, _, rfl⟩ (by
        intro x xs Γ hz; refine zEAAE hz ?_; clear hz; rintro suf hs hx j8 rfl
        cases suf with
        | nil => cases hx
        | cons l suf =>
          injection hx with h1 h2
          subst h1 h2
          obtain ⟨hl, hln⟩ := hall l (hs l (.head _))
          have k1 := hsp l hl hln
          have k2 := t3 l hln
          have k3 := t4 l hln
          refine ⟨[dI O1, dI O2, dI p, dI r, .str SP, .str SR, dII T, X, dI l, .undef, .undef, .undef, .undef, .undef, .undef, .undef, .undef], .inl ?_, suf, fun l h => hs l (.tail _ h), rfl, _, rfl⟩
          unfold b_law_right_1
          generalize (@decide (Mt 62 63 p l) (Classical.propDecidable _)) = b at *
          have hdq : cmp .NotEq (.bool b) (.bool b) = some false := by cases b <;> rfl
          exact (c_if0 (t_cmp (e_fn (e_cons (e_var rfl hXu rfl) (e_cons (e_fn (e_cons (e_var rfl rfl rfl) (e_cons e_lit e_nil)) k1) e_nil)) k2) (e_fn (e_cons (e_var rfl rfl rfl) (e_cons (e_var rfl rfl rfl) e_nil)) k3) hdq) c_nil).trans c_nil)
    exact iEAE Γ2 e1 j8 h
  have s9 : run F [] (.for_ 8 (.var 6) b_law_right_1) [dI O1, dI O2, dI p, dI r, .str SP, .str SR, dII T, X, .undef, .undef, .undef, .undef, .undef, .undef, .undef, .undef, .undef] =
      some (.next, [dI O1, dI O2, dI p, dI r, .str SP, .str SR, dII T, X, j8, .undef, .undef, .undef, .undef, .undef, .undef, .undef, .undef]) := by
    rw [run_for, e_var (x := dII T) rfl rfl rfl]
    exact e1
  exact Ret.of (
    ((c_asg (e_fn (e_cons (e_var rfl rfl rfl) e_nil) c1) rfl rfl).trans
    ((c_asg (e_fn (e_cons (e_var rfl rfl rfl) e_nil) c2) rfl rfl).trans
    ((c_asg (e_fn (e_cons (e_var rfl rfl rfl) (e_cons (e_var rfl rfl rfl) (e_cons e_lit e_nil))) w1) rfl rfl).trans
    ((c_asg (e_fn (e_cons (e_var rfl rfl rfl) (e_cons (e_var rfl rfl rfl) (e_cons e_lit e_nil))) w2) rfl rfl).trans
    ((c_if0 (t_or0 (t_cmp (e_var rfl rfl rfl) e_lit (hSn SP)) (t_cmp (e_var rfl rfl rfl) e_lit (hSn SR))) c_nil).trans
    ((c_asg (e_fn (e_cons (e_var rfl rfl rfl) (e_cons (e_var rfl rfl rfl) e_nil)) q1) rfl rfl).trans
    ((c_asg (e_fn (e_cons (e_fn (e_cons (e_var rfl rfl rfl) e_nil) t1) e_nil) t2) rfl rfl).trans
    ((c_if0 (t_or0 (t_cmp (e_var rfl rfl rfl) e_lit hTn) (t_cmp (e_var rfl hXu rfl) e_lit hXn)) c_nil).trans
    ((c_step s9).trans
    (x_ret e_lit rfl)))))))))))
end
abbrev Octs (l : List Int) : Prop := ∀ o ∈ l, 0 ≤ o ∧ o < 256
theorem both_run {F : FO} {ns : List Int} (hz : ns.length ≤ 6) (s : Int)
    (h1 : F "_law_rows" [dI ns, .int s] = some (dP (row1 ns s, row2 ns s)))
    (h2 : ∀ (l : List Int) (k : Nat), l.length = 4 * k → k ≤ 100 → F "_law_octets" [dI l] = some (dI (octOf l)))
    (h3 : ∀ o1 o2 : List Int, Octs o1 → Octs o2 → o1.length ≤ 60 → o2.length ≤ 60 → F "_law_right" [dI o1, dI o2] = some (.bool true)) :
    Ret (runs F [] b_law_both ([dI ns, .int s] ++ List.replicate 7 .undef)) (.bool true) := by
  refine zAAA (rows_ok ns s hz) ?_; rintro f1 f2 ⟨k1, e1, a1, b1⟩ ⟨k2, e2, a2, b2⟩
  refine zA (octOf_ok k1 _ e1 f1) fun l1 r1 => ?_
  refine zA (octOf_ok k2 _ e2 f2) fun l2 r2 => ?_
  have o1 := h2 _ k1 e1 (qT b1 (by decide))
  have o2 := h2 _ k2 e2 (qT b2 (by decide))
  have g1 := h3 _ _ r1 r2 (qT (qet l1 (qP b1)) (by decide)) (qT (qet l2 (qP b2)) (by decide))
  obtain ⟨c, hc, hc1, hc2⟩ : ∃ c : Nat, (1 + s.fmod 2 : Int) = (c : Int) ∧ 0 < c ∧ c ≤ 2 := by
    have hm0 : 0 ≤ s.fmod 2 := Int.fmod_nonneg_of_pos s (by decide)
    have hm1 : s.fmod 2 < 2 := Int.fmod_lt_of_pos s (by decide)
    exact iEAA ((1 + s.fmod 2).toNat) (Int.toNat_of_nonneg (Int.add_nonneg (by decide) hm0)).symm (by omega) (by omega)
  have g2 := h3 ((octOf (row1 ns s)).take ((octOf (row1 ns s)).length - c)) ((octOf (row2 ns s)).take ((octOf (row2 ns s)).length - c)) (fun o h => r1 o (List.mem_of_mem_take h)) (fun o h => r2 o (List.mem_of_mem_take h)) (by rw [List.length_take]; exact (qT (qmr (qet l1 (qP b1))) (by decide))) (by rw [List.length_take]; exact (qT (qmr (qet l2 (qP b2))) (by decide)))
  have sl1 : sli (dI (octOf (row1 ns s))) .none (.int (-(c : Int))) = some (dI ((octOf (row1 ns s)).take ((octOf (row1 ns s)).length - c))) := by
    rw [sli_dI (fit_of' (qT (qet l1 (qP b1)) (by decide))) rfl rfl, cut_neg _ hc1]
  have sl2 : sli (dI (octOf (row2 ns s))) .none (.int (-(c : Int))) = some (dI ((octOf (row2 ns s)).take ((octOf (row2 ns s)).length - c))) := by
    rw [sli_dI (fit_of' (qT (qet l2 (qP b2)) (by decide))) rfl rfl, cut_neg _ hc1]
  have i1 : idx (dP (row1 ns s, row2 ns s)) (.int 0) = some (dI (row1 ns s)) := idx_dP0
  have i2 : idx (dP (row1 ns s, row2 ns s)) (.int 1) = some (dI (row2 ns s)) := idx_dP1
  have hmod : bin .Mod (.int s) (.int 2) = some (.int (s.fmod 2)) := if_pos (c := (2 : Int) ≠ 0) (e := none) (by decide)
  have hadd : bin .Add (.int 1) (.int (s.fmod 2)) = some (.int (c : Nat)) := by rw [← hc]; rfl
  exact Ret.of (
    ((c_asg (e_fn (e_cons (e_var rfl rfl rfl) (e_cons (e_var rfl rfl rfl) e_nil)) (by first | assumption | rfl)) rfl rfl).trans
    ((c_asg (e_fn (e_cons (e_idx (e_var rfl rfl rfl) e_lit (by first | assumption | rfl)) e_nil) (by first | assumption | rfl)) rfl rfl).trans
    ((c_asg (e_fn (e_cons (e_idx (e_var rfl rfl rfl) e_lit (by first | assumption | rfl)) e_nil) (by first | assumption | rfl)) rfl rfl).trans
    ((c_asg (e_bin e_lit (e_bin (e_var rfl rfl rfl) e_lit (by first | assumption | rfl)) (by first | assumption | rfl)) rfl rfl).trans
    (x_ret (e_and1 (e_fn (e_cons (e_var rfl rfl rfl) (e_cons (e_var rfl rfl rfl) e_nil)) (by first | assumption | rfl)) (by first | assumption | rfl) (e_fn (e_cons (e_sl (e_var rfl rfl rfl) e_lit (e_neg (e_var rfl rfl rfl)) (by first | assumption | rfl)) (e_cons (e_sl (e_var rfl rfl rfl) e_lit (e_neg (e_var rfl rfl rfl)) (by first | assumption | rfl)) e_nil)) (by first | assumption | rfl))) rfl))))))
theorem law_run {F : FO} {l : List Int} (hz : l.length ≤ 1000)
    (h1 : ∀ (ns : List Int) (s : Int), ns.length ≤ 6 → F "_law_both" [dI ns, .int s] = some (.bool true)) : Ret (runs F [] blaw ([dI l] ++ List.replicate 3 .undef)) (.bool true) := by
  unfold blaw
  have hsl : sli (dI l) .none (.int 5) = some (dI (l.take 5)) := by
    rw [sli_dI (fit_of' hz) rfl rfl]
    exact congrArg (fun x => some (dI x)) (cut_to l 5)
  have hsum : biop "sum" [dI l] = some (.int l.sum) := by
    unfold dI
    simp only [bi_sum, f1, sumD, intsOf_map]
    rfl
  have ht : truth (dI (l.take 5)) = some (!(l.take 5).isEmpty) := truth_dI (fit_of' (by simp only [List.length_take]; exact (qT (Nat.min_le_left _ _) (by decide))))
  have g1 := h1 (l.take 5) l.sum (by simp only [List.length_take]; exact (qT (Nat.min_le_left _ _) (by decide)))
  have g2 := h1 [9, 1, 6, 2, 4, 9] l.sum (by trivial)
  have e6 : D.list [.int 9, .int 1, .int 6, .int 2, .int 4, .int 9] = dI [9, 1, 6, 2, 4, 9] := rfl
  generalize l.sum = s at *
  show Ret (runs F [] _ [dI l, .undef, .undef, .undef]) _
  cases he : (l.take 5).isEmpty with
  | true =>
    simp only [he] at ht
    generalize l.take 5 = T at *
    generalize ([9, 1, 6, 2, 4, 9] : List Int) = U at *
    simp (config := {decide := true}) [Ret, runs_cons, run_asg, run_ret, ev_var, ev_lit, ev_or, ev_fn, ev_bi, ev_sl, ev_list, evs_nil, evs_cons, usable_dI, isL_dI, hsl, hsum, ht, setv, e6, g2]
  | false =>
    simp only [he] at ht
    generalize l.take 5 = T at *
    trivial
section
structure Spec where
  ι : Type
  enc : ι → List D
  pre : ι → Prop
  out : ι → D
  inj : ∀ x y, pre x → pre y → enc x = enc y → out x = out y
open Classical in
noncomputable def Spec.app (sp : Spec) (args : List D) : Option D := if q : ∃ x, sp.pre x ∧ sp.enc x = args then some (sp.out q.choose) else none
theorem Spec.at {sp : Spec} {x : sp.ι} (h : sp.pre x) : sp.app (sp.enc x) = some (sp.out x) := by
  have q : ∃ y, sp.pre y ∧ sp.enc y = sp.enc x := ⟨x, h, rfl⟩
  unfold Spec.app
  rw [dif_pos q]
  exact congrArg some (sp.inj _ _ q.choose_spec.1 h q.choose_spec.2)
set_option tactic.hygienic true in
theorem Spec.of {sp : Spec} {args : List D} {d : D} (h : sp.app args = some d) : ∃ x, sp.pre x ∧ sp.enc x = args ∧ sp.out x = d := by
  unfold Spec.app at h
  split at h
  · rename_i q
    injection h with h
    exact iEAA _ q.choose_spec.1 q.choose_spec.2 h
  · exact nos h
noncomputable def ofS : List (String × Spec) → FO
  | [], _, _ => none
  | (f, sp) :: r, g, args => if g = f then sp.app args else ofS r g args
theorem at0 {f : String} {sp : Spec} {l : List (String × Spec)} {x : sp.ι} (h : sp.pre x) : ofS ((f, sp) :: l) f (sp.enc x) = some (sp.out x) := by
  simp only [ofS]; rw [if_pos trivial]; exact Spec.at h
theorem at1 {f g : String} {sp : Spec} {l : List (String × Spec)} {a : List D} {d : D} (h : g ≠ f) (q : ofS l g a = some d) : ofS ((f, sp) :: l) g a = some d := by
  simp only [ofS]; rw [if_neg h]; exact q
section
variable {prog : Program} {w : World} {K : Frag} {mg mb : Str → Option Value} {k : Nat} {F : FO}
theorem room_le {A : Around} {j : Nat} : ∀ {k : Nat}, j ≤ k → Room k A → Room j A
  | k, h, r => by
    refine zE (Nat.exists_eq_add_of_le h) ?_; rintro d rfl
    clear h
    induction d with
    | zero => exact r
    | succ d ih => exact ih r.less
theorem CallOK.up {j : Nat} (h : j ≤ k) {f : String} {args : List D} {d : D} (c : CallOK prog w K mg mb j f args d) : CallOK prog w K mg mb k f args d := by
  refine zEEEAAA c ?_; clear c; intro a o fd h1 h2 h3 h4
  exact iEEEAAA a o fd h1 h2 h3 (fun s0 A hh X vs hR => h4 s0 A hh X vs (room_le h hR))
variable (prog w K mg mb) in
def Ok (k : Nat) (f : String) (sp : Spec) : Prop := ∀ x, sp.pre x → CallOK prog w K mg mb k f (sp.enc x) (sp.out x)
theorem orc0 : Orc prog w K mg mb k (ofS []) := fun f _ args d h => by exact nos h
theorem orc1 {f : String} {sp : Spec} {l : List (String × Spec)} {j : Nat} (h : Ok prog w K mg mb j f sp) (o : Orc prog w K mg mb k (ofS l)) (hj : j ≤ k) : Orc prog w K mg mb k (ofS ((f, sp) :: l)) := fun g hg args d e => by
  simp only [ofS] at e
  by_cases q : g = f
  · subst q
    rw [if_pos rfl] at e
    obtain ⟨x, hx, rfl, rfl⟩ := Spec.of e
    exact (h x hx).up hj
  · rw [if_neg q] at e
    exact o g hg args d e
theorem runOK {f : String} {own : List Nat} {np m : Nat} {b : Ss} {args : List D} {d : D} (c : Cx K mg) (fa : Fa K mg f own np m b) (orc : Orc prog w K mg mb k F)
    (hl : args.length = np) (hr : Ret (runs F own b (args ++ List.replicate m .undef)) d) : CallOK prog w K mg mb (k + 1) f args d := by
  refine zEEAA fa ?_; clear fa; intro a o q hn hb
  refine zE (hr.ex) fun Γ' e => ?_
  refine call_sound (n := 20) (Γ' := Γ') c.glo orc q hl ?_
  simp only [hb, hn, Nat.add_sub_cancel_left]
  exact e
theorem Ret.uniq {r : Option (Fl × List D)} {d e : D} (h : Ret r d) (h2 : Ret r e) : d = e := by
  unfold Ret at h h2
  rw [h] at h2
  injection h2 with h2
  injection h2
end
noncomputable def spS (pre : List Nat → Prop) (out : List Nat → D) : Spec := ⟨List Nat, fun s => [.str s], pre, out, fun x y _ _ h => by
  injection h with h; injection h with h; refine yl h ?_; clear h; rfl⟩
noncomputable def spI (pre : List Int → Prop) (out : List Int → D) : Spec := ⟨List Int, fun s => [dI s], pre, out, fun x y _ _ h => by
  injection h with h; rw [dI_inj h]⟩
noncomputable def spII (pre : List Int → List Int → Prop) (out : List Int → List Int → D) : Spec := ⟨List Int × List Int, fun s => [dI s.1, dI s.2], fun s => pre s.1 s.2, fun s => out s.1 s.2, fun x y _ _ h => by
  injection h with h h2; injection h2 with h2; simp only [dI_inj h, dI_inj h2]⟩
noncomputable def spIn (pre : List Int → Int → Prop) (out : List Int → Int → D) : Spec := ⟨List Int × Int, fun s => [dI s.1, .int s.2], fun s => pre s.1 s.2, fun s => out s.1 s.2, fun x y _ _ h => by
  injection h with h h2; injection h2 with h2; injection h2 with h2; simp only [dI_inj h, h2]⟩
end
section
variable {prog : Program} {w : World} {K : Frag} {mg mb : Str → Option Value}
noncomputable def spFspath : Spec := spS (fun _ => True) .str
theorem ok_fspath (c : Cx K mg) : Ok prog w K mg mb 1 "fspath" spFspath := fun s _ => runOK (k := 0) c (fafspath c) orc0 rfl (fspath_run s)
noncomputable def spSep : Spec := spS (fun _ => True) fun _ => .str [47]
theorem ok_sep (c : Cx K mg) : Ok prog w K mg mb 1 "_get_sep" spSep := fun s _ => runOK (k := 0) c (fa_get_sep c) orc0 rfl (get_sep_run s)
noncomputable def spBuffer : Spec := ⟨List UInt8, fun s => [.bytes s], fun _ => True, fun s => .bytes s, fun x y _ _ h => by injection h with h⟩
theorem ok_buffer (c : Cx K mg) : Ok prog w K mg mb 1 "_buffer" spBuffer := fun s _ => runOK (k := 0) c (fa_buffer c) orc0 rfl (buffer_run s)
noncomputable def spTruth : Spec := ⟨Bool, fun s => [.bool s], fun _ => True, fun s => .bool s, fun x y _ _ h => by injection h with h⟩
theorem ok_truth (c : Cx K mg) : Ok prog w K mg mb 1 "_truth" spTruth := fun s _ => runOK (k := 0) c (fa_truth c) orc0 rfl (truth_run s)
noncomputable def spEscape : Spec := ⟨Nat, fun x => [.str [x]], fun x => specials.contains x = false ∧ x < 128, fun x => .str [x], fun x y _ _ h => by injection h with h⟩
theorem ok_escape (c : Cx K mg) : Ok prog w K mg mb 1 "escape" spEscape := fun s h => runOK (k := 0) c (faescape c) orc0 rfl (escape_run s h)
noncomputable def spExt0 : Spec := ⟨List Nat, fun s => [.str s, .str [47], .none, .str [46]], fun s => s.length ≤ 900, fun s => .tup [.str (stemC 46 s (tailC 47 s)), .str (s.drop (stemC 46 s (tailC 47 s)).length)], fun x y _ _ h => by
  injection h with h; injection h with h; rw [h]⟩
theorem ok_ext0 (c : Cx K mg) : Ok prog w K mg mb 1 "_splitext" spExt0 := fun s h => runOK (k := 0) c (fa_splitext c) orc0 rfl (splitext0_run s h)
noncomputable def spItem : Spec := ⟨Int, fun n => [.int n], fun _ => True, fun n => dP (itemOf n), fun x y _ _ h => by injection h with h; injection h with h; rw [h]⟩
theorem ok_item (c : Cx K mg) : Ok prog w K mg mb 1 "_law_item" spItem := fun s _ => runOK (k := 0) c (fa_law_item c) orc0 rfl (item_run s)
noncomputable def spOctets : Spec := spI (fun l => ∃ k, l.length = 4 * k ∧ k ≤ 100) fun l => dI (octOf l)
theorem ok_octets (c : Cx K mg) : Ok prog w K mg mb 1 "_law_octets" spOctets := fun l ⟨k, h1, h2⟩ => runOK (k := 0) c (fa_law_octets c) orc0 rfl (octets_run h1 h2)
noncomputable def spFigures : Spec := spI (fun l => l.length ≤ 90) fun l => dI (figsOf l)
theorem ok_figures (c : Cx K mg) : Ok prog w K mg mb 1 "_law_figures" spFigures := fun l h => runOK (k := 0) c (fa_law_figures c) orc0 rfl (figures_run h)
noncomputable def spStem : Spec := spII (fun p t => p.length ≤ 900 ∧ t.length ≤ p.length) fun p t => dI (stemC 62 p t)
theorem ok_stem (c : Cx K mg) : Ok prog w K mg mb 1 "_law_stem" spStem := fun l h => runOK (k := 0) c (fa_law_stem c) orc0 rfl (stem_run h.1 h.2)
noncomputable def spFits : Spec := ⟨List Nat × List Nat × Nat, fun x => [.str x.1, .str x.2.1, .int (x.2.2 : Nat)], fun x => x.1.length ≤ 900 ∧ x.2.1.length ≤ 900 ∧ x.2.2 ≤ 90000, fun x => .bool (fitsB x.1 x.2.1 x.2.2), fun x y _ _ h => by
  obtain ⟨a, b, c⟩ := x
  obtain ⟨a', b', c'⟩ := y
  injection h with h1 h; injection h with h2 h; injection h with h3 h
  injection h1 with h1; injection h2 with h2; injection h3 with h3
  simp only [] at h1 h2 h3
  simp only [h1, h2, show c = c' by omega]⟩
theorem ok_fits (c : Cx K mg) : Ok prog w K mg mb 1 "_law_fits" spFits := fun l h => runOK (k := 0) c (fa_law_fits c) orc0 rfl (fits_run h.1 h.2.1 h.2.2)
open Classical in
noncomputable def spMeans : Spec := spII (fun _ l => l.length ≤ 900) fun p l => .bool (@decide (Mt 62 63 p l) (Classical.propDecidable _))
theorem ok_means (c : Cx K mg) : Ok prog w K mg mb 1 "_law_means" spMeans := fun l h => runOK (k := 0) c (fa_law_means c) orc0 rfl (means_run h)
noncomputable def spPieces : Spec := ⟨List Nat × List (List Nat), fun x => [.str (textT x.1 x.2)], fun x => (40 ∉ x.1 ∧ 42 ∉ x.1) ∧ (∀ w ∈ x.2, 40 ∉ w ∧ 42 ∉ w) ∧ x.1.length + wt x.2 ≤ 90, fun x => .list ((x.1 :: x.2).map .str), fun x y hx hy h => by
  have a := pieces_run (F := ofS []) hx.1 hx.2.1 hx.2.2
  have b := pieces_run (F := ofS []) hy.1 hy.2.1 hy.2.2
  rw [h] at a
  exact a.uniq b⟩
theorem ok_pieces (c : Cx K mg) : Ok prog w K mg mb 1 "_law_pieces" spPieces := fun x h => runOK (k := 0) c (fa_law_pieces c) orc0 rfl (pieces_run h.1 h.2.1 h.2.2)
noncomputable def spJoin : Spec := ⟨List Nat × List (List Nat) × Addr, fun x => [.list ((encP x.1 x.2.1).map (toD x.2.2)), .obj x.2.2], fun x => goodW x.2.1 ∧ (encP x.1 x.2.1).length ≤ 350, fun x => .str (textT x.1 x.2.1), fun x y hx hy h => by
  have a := join_run (F := ofS []) (a := x.2.2) hx.1 hx.2
  have b := join_run (F := ofS []) (a := y.2.2) hy.1 hy.2
  rw [h] at a
  exact a.uniq b⟩
theorem ok_join (c : Cx K mg) : Ok prog w K mg mb 1 "_join_translated_parts" spJoin := fun x h => runOK (k := 0) c (fa_join_translated_parts c) orc0 rfl (join_run h.1 h.2)
noncomputable def spNam : Spec := spI (fun l => l.length ≤ 900) fun l => dII (splitC 63 l)
theorem ok_names (c : Cx K mg) : Ok prog w K mg mb 1 "_law_names" spNam := fun (l : List Int) h => by
  refine zEEAA (nmAt c) fun a o fa hn hc => ?_
  have h : l.length ≤ 900 := h
  have := names_ok (prog := prog) (w := w) (mb := mb) (F := ofS []) (k := 0) (p := l) (qT h (by decide)) c.glo orc0 fa hn hc
  simp only [nm_split] at this
  exact this
noncomputable def spSpell : Spec := ⟨List Int × List Nat, fun x => [dI x.1, .str x.2], fun x => Fig x.1 ∧ x.1.length ≤ 900 ∧ x.2.length = 2, fun x => .str (spell x.2 x.1), fun x y _ _ h => by
  injection h with h h2; injection h2 with h2; injection h2 with h2; simp only [dI_inj h, h2]⟩
theorem ok_spell (c : Cx K mg) : Ok prog w K mg mb 1 "_law_spelled" spSpell := fun x h => by
  refine zEE (spAt c) fun a o sa => ?_
  refine zAA h ?_; clear h; intro h1 h2 h3
  refine spelled_ok (prog := prog) (w := w) (mb := mb) (F := ofS []) (k := 0) (fun f hf => ⟨(h1 f hf).1, ?_⟩) (qT h2 (by decide)) (qT (qE h3) (by decide)) c.glo orc0 sa
  have := h1 f hf
  simp only [signsOf, List.length_append, List.length_append, h3]
  show f.toNat < base62.length + 2 + 1
  simp only [show base62.length = 62 from rfl]
  omega
noncomputable def spSplit : Spec := spS (fun s => s.length ≤ 900) fun s => .tup [.str (halvesC 47 s).1, .str (halvesC 47 s).2]
theorem ok_split (c : Cx K mg) : Ok prog w K mg mb 2 "split" spSplit := fun s h =>
  runOK (k := 1) c (fasplit c) (orc1 (ok_fspath c) (orc1 (ok_sep c) orc0 qr) qr) rfl
    (split_run (fun s => at0 (sp := spFspath) trivial) (fun s => at1 (by decide) (at0 (sp := spSep) (x := s) trivial)) s (Nat.le_trans h (by decide)))
noncomputable def spExt : Spec := spS (fun s => s.length ≤ 900) fun s => .tup [.str (stemC 46 s (tailC 47 s)), .str (s.drop (stemC 46 s (tailC 47 s)).length)]
theorem ok_ext (c : Cx K mg) : Ok prog w K mg mb 2 "splitext" spExt := fun s h =>
  runOK (k := 1) c (fasplitext c) (orc1 (ok_fspath c) (orc1 (ok_ext0 c) orc0 qr) qr) rfl
    (splitext_run (fun s => at0 (sp := spFspath) trivial) s (at1 (by decide) (at0 (sp := spExt0) (x := s) h)))
noncomputable def spRoot : Spec := spS (fun s => s.length ≤ 900) fun s => .tup [.str [], .str (List.replicate (slashN (leadC 47 s)) 47), .str (s.drop (slashN (leadC 47 s)))]
theorem ok_root (c : Cx K mg) : Ok prog w K mg mb 2 "splitroot" spRoot := fun s h =>
  runOK (k := 1) c (fasplitroot c) (orc1 (ok_fspath c) orc0 qr) rfl
    (splitroot_run (fun s => at0 (sp := spFspath) trivial) s h)
noncomputable def spNorm : Spec := spS (fun s => s.length ≤ 800) fun s => .str (normC 47 46 s)
theorem ok_norm (c : Cx K mg) : Ok prog w K mg mb 3 "normpath" spNorm := fun s h =>
  runOK (k := 2) c (fanormpath c) (orc1 (ok_fspath c) (orc1 (ok_root c) orc0 qr) (by decide)) rfl
    (normpath_run (fun s => at0 (sp := spFspath) trivial) (fun s h => at1 (by decide) (at0 (sp := spRoot) (x := s) h)) s h)
noncomputable def spDrawn : Spec := spI (fun l => l.length ≤ 100) fun l => dP (drawn1 l, drawn2 l)
theorem ok_drawn (c : Cx K mg) : Ok prog w K mg mb 2 "_law_drawn" spDrawn := fun s h =>
  runOK (k := 1) c (fa_law_drawn c) (orc1 (ok_item c) orc0 qr) rfl
    (drawn_run (fun n => at0 (sp := spItem) (x := n) trivial) h)
noncomputable def spRows : Spec := spIn (fun l _ => l.length ≤ 6) fun l s => dP (row1 l s, row2 l s)
theorem ok_rows (c : Cx K mg) : Ok prog w K mg mb 3 "_law_rows" spRows := fun s h =>
  runOK (k := 2) c (fa_law_rows c) (orc1 (ok_drawn c) orc0 qr) rfl
    (rows_run (fun l hl => at0 (sp := spDrawn) (x := l) hl) h s.2)
noncomputable def spB2a : Spec := ⟨List UInt8, fun s => [.bytes s, .bool false], fun s => s.length ≤ 90, fun s => .bytes ((b64Out (s.map UInt8.toNat)).map Nat.toUInt8), fun x y _ _ h => by injection h with h; injection h with h; rw [h]⟩
theorem ok_b2a (c : Cx K mg) : Ok prog w K mg mb 2 "b2a_base64" spB2a := fun s h =>
  runOK (k := 1) c (fab2a_base64 c) (orc1 (ok_buffer c) (orc1 (ok_truth c) orc0 qr) qr) rfl
    (b2a_run (fun s => at0 (sp := spBuffer) trivial) (fun b => at1 (by decide) (at0 (sp := spTruth) (x := b) trivial)) h)
noncomputable def spB64 : Spec := ⟨List UInt8 × UInt8 × UInt8, fun x => [.bytes x.1, .bytes [x.2.1, x.2.2]], fun x => x.1.length ≤ 90, fun x => .bytes (((b64Out (x.1.map UInt8.toNat)).map Nat.toUInt8).map fun c => (tabOf [43, 47] [x.2.1, x.2.2]).getD c.toNat c), fun x y _ _ h => by
  injection h with h1 h; injection h with h2 h; injection h1 with h1; injection h2 with h2; rw [h1, h2]⟩
theorem ok_b64 (c : Cx K mg) : Ok prog w K mg mb 3 "b64encode" spB64 := fun s h =>
  runOK (k := 2) c (fab64encode c) (orc1 (ok_b2a c) orc0 qr) rfl
    (b64encode_run (fun s h => at0 (sp := spB2a) (x := s) h) h s.2.1 s.2.2)
end
section
variable {prog : Program} {w : World} {K : Frag} {mg mb : Str → Option Value}
noncomputable def spStraight : Spec := spI (fun p => p.length ≤ 900) fun p => dI (straightC 63 62 p)
theorem ok_straight (c : Cx K mg) : Ok prog w K mg mb 2 "_law_straight" spStraight := fun p h =>
  runOK (k := 1) c (fa_law_straight c) (orc1 (ok_names c) orc0 qr) rfl
    (straight_run h (at0 (sp := spNam) (x := p) h))
noncomputable def spHalves : Spec := spI (fun p => p.length ≤ 900) fun p => .tup [dI (halvesC 63 p).1, dI (halvesC 63 p).2]
theorem ok_halves (c : Cx K mg) : Ok prog w K mg mb 2 "_law_halves" spHalves := fun p h =>
  runOK (k := 1) c (fa_law_halves c) (orc1 (ok_names c) orc0 qr) rfl
    (halves_run h (at0 (sp := spNam) (x := p) h))
noncomputable def spWritten : Spec := ⟨List Nat × Nat × Nat, fun x => [dI (ci x.1), dI (figsOf (ci x.1)), .str [x.2.1, x.2.2]], fun x => (∀ b ∈ x.1, b < 256) ∧ x.1.length ≤ 60 ∧ x.2.1 < 128 ∧ x.2.2 < 128, fun x => .str (spell [x.2.1, x.2.2] (figsOf (ci x.1))), fun x y _ _ h => by
  injection h with h1 h; injection h with h2 h; injection h with h3 h; injection h3 with h3; simp only [dI_inj h2, h3]⟩
theorem figs_len60 {o : List Nat} (h : o.length ≤ 60) : (figsOf (ci o)).length ≤ 90 := by
  have := figsOf_len (ci o); simp only [ci, List.length_map] at this ⊢; exact (qT (qT this (qP (qD (qR h _)))) (by decide))
theorem ok_written (c : Cx K mg) : Ok prog w K mg mb 4 "_law_written" spWritten := fun x h =>
  runOK (k := 3) c (fa_law_written c) (orc1 (ok_b64 c) (orc1 (ok_spell c) orc0 (by decide)) qr) rfl
    (written_run (fun s a b hs => at0 (sp := spB64) (x := (s, a, b)) hs) h.1 (Nat.le_trans h.2.1 (by decide)) h.2.2.1 h.2.2.2
      (at1 (by decide) (at0 (sp := spSpell) (x := (figsOf (ci x.1), [x.2.1, x.2.2])) ⟨figsOf_ok _, Nat.le_trans (figs_len60 h.2.1) (by decide), rfl⟩)))
open Classical in
noncomputable def spTakes : Spec := ⟨(List Nat × List (List Nat)) × List Nat, fun x => [.list ((x.1.1 :: x.1.2).map .str), .str x.2], fun x => x.2.length ≤ 900 ∧ x.1.1.length + wt x.1.2 ≤ 900, fun x => .bool (@decide (takesP x.1.1 x.1.2 x.2) (Classical.propDecidable _)), fun x y _ _ h => by
  obtain ⟨⟨a, b⟩, s⟩ := x
  obtain ⟨⟨a', b'⟩, s'⟩ := y
  injection h with h1 h; injection h with h2 h
  injection h1 with h1; injection h2 with h2
  have h3 := strsOf_map (a :: b)
  simp only [] at h1 h2
  simp only [h1, strsOf_map] at h3
  injection h3 with h3
  injection h3 with h3 h4
  simp only [h2, h3, h4]⟩
theorem ok_takes (c : Cx K mg) : Ok prog w K mg mb 2 "_law_takes" spTakes := fun x h => by
  refine zEA (takes_run (F := ofS [("_law_fits", spFits)]) (fun p s i h1 h2 h3 => at0 (sp := spFits) (x := (p, s, i)) ⟨h1, h2, h3⟩) (s := x.2) (w0 := x.1.1) (ws := x.1.2) h.1 h.2) fun b hr hb => ?_
  have e : (D.bool b) = spTakes.out x := by
    show D.bool b = .bool (@decide (takesP x.1.1 x.1.2 x.2) (Classical.propDecidable _))
    congr 1
    cases b with
    | true => exact (@decide_eq_true _ (Classical.propDecidable _) (hb.mp rfl)).symm
    | false => exact (@decide_eq_false _ (Classical.propDecidable _) (fun q => by have := hb.mpr q; exact bf this)).symm
  simp only [← e]
  exact runOK (k := 1) c (fa_law_takes c) (orc1 (ok_fits c) orc0 qr) rfl hr
noncomputable def spTrans : Spec := ⟨List Nat × Addr, fun x => [.str x.1, .obj x.2, .str [46]], fun x => patOk x.1 ∧ x.1.length ≤ 350, fun x => .list ((partsOf x.1).map (toD x.2)), fun x y _ _ h => by
  injection h with h1 h; injection h with h2 h; injection h1 with h1; injection h2 with h2; rw [h1, h2]⟩
theorem ok_trans (c : Cx K mg) : Ok prog w K mg mb 2 "_translate" spTrans := fun x h =>
  runOK (k := 1) c (fa_translate c) (orc1 (ok_escape c) orc0 qr) rfl
    (trans_run (fun x hx => at0 (sp := spEscape) (x := x) hx) h.1 x.2 (Nat.le_trans h.2 (by decide)))
noncomputable def spTranslate : Spec := spS (fun s => patOk s ∧ s.length ≤ 350) fun s => .str (textT (wordsOf 42 chP s).1 (wordsOf 42 chP s).2)
theorem ok_translate (c : Cx K mg) : Ok prog w K mg mb 3 "translate" spTranslate := fun (s : List Nat) h => by
  refine zEEAAAA (trAt c) fun a o fa hn hc ho he => ?_
  have h : patOk s ∧ s.length ≤ 350 := h
  refine translate_ok (k := 2) (F := ofS [("_translate", spTrans), ("_join_translated_parts", spJoin)]) c.glo (orc1 (ok_trans c) (orc1 (ok_join c) orc0 (by decide)) qr) ho fa hn hc fun a => ?_
  rw [he]
  have t1 : ofS [("_translate", spTrans), ("_join_translated_parts", spJoin)] "_translate" [.str s, .obj a, .str [46]] = some (.list ((partsOf s).map (toD a))) := at0 (sp := spTrans) (x := (s, a)) h
  have t2 : ofS [("_translate", spTrans), ("_join_translated_parts", spJoin)] "_join_translated_parts" [.list ((encP (wordsOf 42 chP s).1 (wordsOf 42 chP s).2).map (toD a)), .obj a] = some (.str (textT (wordsOf 42 chP s).1 (wordsOf 42 chP s).2)) :=
    at1 (by decide) (at0 (sp := spJoin) (x := ((wordsOf 42 chP s).1, (wordsOf 42 chP s).2, a)) ⟨words_good 42 chP s, by rw [← parts_words_eq]; exact Nat.le_trans (parts_len s) h.2⟩)
  rw [← parts_words_eq] at t2
  have hX : usable (.list ((partsOf s).map (toD a))) = true := rfl
  generalize ofS [("_translate", spTrans), ("_join_translated_parts", spJoin)] = F at *
  generalize D.list ((partsOf s).map (toD a)) = X at *
  show ∃ Γ', runs F [] _ [.str s, .obj a, .undef, .undef, .undef, .undef] = some (.ret (.str (textT (wordsOf 42 chP s).1 (wordsOf 42 chP s).2)), Γ')
  generalize textT (wordsOf 42 chP s).1 (wordsOf 42 chP s).2 = T at *
  refine Ret.ex ?_
  unfold btranslate
  simp (config := {decide := true}) [Ret, runs_cons, run_asg, run_ret, ev_var, ev_lit, ev_fn, evs_nil, evs_cons, us_str, us_obj, hX, t1, t2, setv]
noncomputable def spParted : Spec := ⟨List Int, fun r => [.str (r.map sg), dI r], fun r => Fig r ∧ r.length ≤ 90, fun r => dII (toldOf r), fun x y _ _ h => by
  injection h with h1 h; injection h with h2 h; rw [dI_inj h2]⟩
theorem ok_parted (c : Cx K mg) : Ok prog w K mg mb 4 "_law_parted" spParted := fun (r : List Int) h => by
  have hz : r.length ≤ 90 := h.2
  have hs : (r.map sg).length ≤ 90 := by rw [List.length_map]; exact hz
  have hh := halvesC_len 63 r
  refine runOK (k := 3) c (fa_law_parted c)
    (orc1 (ok_halves c) (orc1 (ok_stem c) (orc1 (ok_straight c) (orc1 (ok_spell c) (orc1 (ok_norm c) (orc1 (ok_split c) (orc1 (ok_ext c) orc0 (by decide)) (by decide)) (by decide)) (by decide)) (by decide)) (by decide)) (by decide)) rfl
    (parted_run h.1 hz ?_ ?_ ?_ ?_ ?_ ?_ ?_)
  · exact at0 (sp := spHalves) (x := r) (show r.length ≤ 900 by exact (qT hz (by decide)))
  · exact at1 (by decide) (at0 (sp := spStem) (x := (r, (halvesC 63 r).2)) ⟨show r.length ≤ 900 by exact (qT hz (by decide)), hh.2⟩)
  · exact at1 (by decide) (at1 (by decide) (at0 (sp := spStraight) (x := r) (show r.length ≤ 900 by exact (qT hz (by decide)))))
  · intro l hl hz
    rw [← spell_sg hl]
    exact at1 (by decide) (at1 (by decide) (at1 (by decide) (at0 (sp := spSpell) (x := (l, [46, 47])) ⟨hl, hz, rfl⟩)))
  · exact at1 (by decide) (at1 (by decide) (at1 (by decide) (at1 (by decide) (at0 (sp := spNorm) (x := r.map sg) (show (r.map sg).length ≤ 800 by exact (qT hs (by decide)))))))
  · exact at1 (by decide) (at1 (by decide) (at1 (by decide) (at1 (by decide) (at1 (by decide) (at0 (sp := spSplit) (x := r.map sg) (show (r.map sg).length ≤ 900 by exact (qT hs (by decide))))))))
  · exact at1 (by decide) (at1 (by decide) (at1 (by decide) (at1 (by decide) (at1 (by decide) (at1 (by decide) (at0 (sp := spExt) (x := r.map sg) (show (r.map sg).length ≤ 900 by exact (qT hs (by decide)))))))))
noncomputable def spRight : Spec := spII (fun a b => Octs a ∧ Octs b ∧ a.length ≤ 60 ∧ b.length ≤ 60) fun _ _ => .bool true
theorem ok_right (c : Cx K mg) : Ok prog w K mg mb 5 "_law_right" spRight := fun x h => by
  obtain ⟨a, b⟩ := x
  refine zAAA h ?_; clear h; intro h1 h2 h3 h4
  refine zEAA (ci_nat h1) ?_; rintro o1 rfl b1 l1
  refine zEAA (ci_nat h2) ?_; rintro o2 rfl b2 l2
  refine runOK (k := 4) c (fa_law_right c)
    (orc1 (ok_figures c) (orc1 (ok_written c) (orc1 (ok_parted c) (orc1 (ok_translate c) (orc1 (ok_pieces c) (orc1 (ok_takes c) (orc1 (ok_means c) (orc1 (ok_spell c) orc0 (by decide)) (by decide)) (by decide)) (by decide)) (by decide)) (by decide)) (by decide)) (by decide)) rfl
    (right_run b1 b2 (qet l1 h3) (qet l2 h4) ?_ ?_ ?_ ?_ ?_ ?_ ?_ ?_)
  · intro o ho
    exact at0 (sp := spFigures) (x := ci o) (show (ci o).length ≤ 90 by simp only [ci, List.length_map]; exact (qT ho (by decide)))
  · intro o p q hp hq hb ho
    exact at1 (by decide) (at0 (sp := spWritten) (x := (o, p, q)) ⟨hb, ho, hp, hq⟩)
  · intro r hr hz
    exact at1 (by decide) (at1 (by decide) (at0 (sp := spParted) (x := r) ⟨hr, hz⟩))
  · intro p hp hz
    have := at0 (f := "translate") (l := [("_law_pieces", spPieces), ("_law_takes", spTakes), ("_law_means", spMeans), ("_law_spelled", spSpell)]) (sp := spTranslate) (x := spell [42, 63] p) ⟨pat_ok hp, by rw [spell_len]; exact (qT hz (by decide))⟩
    rw [← words_spell hp]
    exact at1 (by decide) (at1 (by decide) (at1 (by decide) this))
  · intro p hp hz
    refine zA (words_free 62 p) fun f1 f2 => ?_
    refine zA (words_mem 62 p) fun m1 m2 => ?_
    refine at1 (by decide) (at1 (by decide) (at1 (by decide) (at1 (by decide) (at0 (sp := spPieces) (x := mapW pch (wordsOf 62 id p)) ⟨word_ok hp m1 f1, fun w hw => ?_, Nat.le_trans (words_len hp) hz⟩))))
    refine zEA (List.mem_map.mp hw) ?_; rintro v hv rfl
    exact word_ok hp (m2 v hv) (f2 v hv)
  · intro p l hp hz hl
    have e : @decide (takesP (mapW pch (wordsOf 62 id p)).1 (mapW pch (wordsOf 62 id p)).2 (l.map sg)) (Classical.propDecidable _) = @decide (Mt 62 63 p l) (Classical.propDecidable _) :=
      @decide_eq_decide _ _ (Classical.propDecidable _) (Classical.propDecidable _) |>.mpr (takes_mt p l)
    simp only [← e]
    exact at1 (by decide) (at1 (by decide) (at1 (by decide) (at1 (by decide) (at1 (by decide) (at0 (sp := spTakes) (x := (mapW pch (wordsOf 62 id p), l.map sg)) ⟨by rw [List.length_map]; exact hl, Nat.le_trans (words_len hp) (qT hz (by decide))⟩)))))
  · intro p l hl
    exact at1 (by decide) (at1 (by decide) (at1 (by decide) (at1 (by decide) (at1 (by decide) (at1 (by decide) (at0 (sp := spMeans) (x := (p, l)) hl))))))
  · intro l hl hz
    simp only [← spell_sg hl]
    exact at1 (by decide) (at1 (by decide) (at1 (by decide) (at1 (by decide) (at1 (by decide) (at1 (by decide) (at1 (by decide) (at0 (sp := spSpell) (x := (l, [46, 47])) ⟨hl, hz, rfl⟩)))))))
noncomputable def spBoth : Spec := spIn (fun l _ => l.length ≤ 6) fun _ _ => .bool true
theorem ok_both (c : Cx K mg) : Ok prog w K mg mb 6 "_law_both" spBoth := fun x h => by
  obtain ⟨ns, s⟩ := x
  refine runOK (k := 5) c (fa_law_both c) (orc1 (ok_rows c) (orc1 (ok_octets c) (orc1 (ok_right c) orc0 (by decide)) (by decide)) (by decide)) rfl
    (both_run h s ?_ ?_ ?_)
  · exact at0 (sp := spRows) (x := (ns, s)) h
  · intro l k hk h2
    exact at1 (by decide) (at0 (sp := spOctets) (x := l) ⟨k, hk, h2⟩)
  · intro a b h1 h2 h3 h4
    exact at1 (by decide) (at1 (by decide) (at0 (sp := spRight) (x := (a, b)) ⟨h1, h2, h3, h4⟩))
theorem law_ok : LawOk prog := fun w K mg mb c l hl => by
  refine CallOK.up (j := 7) (by decide) ?_
  exact runOK (k := 6) c (falaw c) (orc1 (ok_both c) orc0 qr) rfl
    (law_run (Nat.le_trans hl (by decide)) fun ns s h => at0 (sp := spBoth) (x := (ns, s)) h)
theorem done : PySem.Challenge.rw_ij0215_01.Holds := fin law_ok
end
end Mine
theorem PySem.Challenge.cw_ij0215_01_holds : PySem.Challenge.rw_ij0215_01.Holds :=
  Mine.done
