import PyProof.Rows.All
import Wide.All
import OpenK.AllK
import Wide.FinOn
import KE.KLam
import KE.KMulAny
import KE.KEqDict
import Lean
import PySem.Challenge.RW_uy0007_01
set_option Elab.async false
set_option maxRecDepth 100000
set_option maxHeartbeats 1000000
set_option linter.all false
set_option genSizeOfSpec false
open PySem PySem.Spec PySem.Calls PyProof.Rows
namespace Mine
section
universe u v w
theorem noneS {α : Type} {G : Prop} {b : α} (h : none = some b) : G := by cases h
theorem someN {α : Type} {G : Prop} {b : α} (h : some b = none) : G := by cases h
theorem ftE {G : Prop} (h : false = true) : G := Bool.noConfusion h
theorem tfE {G : Prop} (h : true = false) : G := Bool.noConfusion h
theorem uq {α : Type} {x : Option α} {a b : α} (h : x = some a) (k : x = some b) : a = b := Option.some.inj (h.symm.trans k)
theorem pairI {α β : Type} {a c : α} {b d : β} (h : some (a, b) = some (c, d)) : a = c /\ b = d := Prod.mk.inj (Option.some.inj h)
theorem bindE {α β : Type} {x : Option α} {f : α -> Option β} {r : β} {G : Prop} (h : x.bind f = some r) (k : ∀ a, x = some a -> f a = some r -> G) : G := by
 cases x with
 | none => exact noneS h
 | some a => exact k a rfl h
theorem bindP {α γ β : Type} {x : Option (α × γ)} {f : α × γ -> Option β} {r : β} {G : Prop} (h : x.bind f = some r) (k : ∀ a c, x = some (a, c) -> f (a, c) = some r -> G) : G := bindE h fun a => k a.1 a.2
theorem mapE {α β : Type} {x : Option α} {f : α -> β} {r : β} {G : Prop} (h : x.map f = some r) (k : ∀ a, x = some a -> f a = r -> G) : G := by
 cases x with
 | none => exact noneS h
 | some a => exact k a rfl (Option.some.inj h)
@[elab_as_elim] theorem someP {α β : Type} {a : α} {b : β} {c : α} {d : β} {motive : α -> β -> Prop} (h : some (a, b) = some (c, d)) (k : motive a b) : motive c d := (pairI h).1 ▸ (pairI h).2 ▸ k
@[elab_as_elim] theorem someE {α : Type} {a c : α} {motive : α -> Prop} (h : some a = some c) (k : motive a) : motive c := Option.some.inj h ▸ k
@[elab_as_elim] theorem exEq {α β : Type} {f : α -> β} {v : β} {motive : β -> Prop} (h : ∃ t, v = f t) (k : ∀ t, motive (f t)) : motive v := let ⟨t, e⟩ := h; e.symm ▸ k t
theorem iteS {α : Type} {c : Prop} {d : Decidable c} {x : Option α} {r : α} {G : Prop} (h : @ite _ c d x none = some r) (k : c -> x = some r -> G) : G := by
 by_cases hc : c
 ·rw [if_pos hc] at h; exact k hc h
 ·rw [if_neg hc] at h; exact noneS h
@[elab_as_elim] theorem rwR {α : Sort u} {a b : α} {motive : α -> Prop} (h : a = b) (k : motive b) : motive a := h.symm ▸ k
@[elab_as_elim] theorem rwL {α : Sort u} {a b : α} {motive : α -> Prop} (h : a = b) (k : motive a) : motive b := h ▸ k
theorem nb (a : Nat) : -4611686018427387904 < (a : Int) := by lia
theorem nb1 (a : Nat) : -4611686018427387904 < (a : Int) + 1 := by lia
theorem nb2 (a b : Nat) : -4611686018427387904 < (a : Int) + (b : Int) := by lia
theorem nub {a n : Nat} (h : a <= n) (k : n < 4611686018427387904) : (a : Int) < 4611686018427387904 := by lia
theorem nub1 {a n : Nat} (h : a <= n) (k : n < 4611686018427387903) : (a : Int) + 1 < 4611686018427387904 := by lia
theorem neX {a b c i j n : Nat} (h : a + n < b) (e : b = c) (k : i <= n) : a + i ≠ c + j := by lia
theorem neA {a i j : Nat} (k : i ≠ j) : a + i ≠ a + j := by lia
theorem leX {a b c i n : Nat} (h : a + n < b) (e : b = c) : a <= c + i := by lia
theorem ltX {a b c n : Nat} (h : a + n < b) (k : b <= c) : a < c := by lia
theorem nub2 {a b n m : Nat} (h : a <= n) (k : b <= m) (q : n + m < 4611686018427387904) : (a : Int) + (b : Int) < 4611686018427387904 := by lia
theorem neY {b c n i j : Nat} (h : b + n <= c) (k : j < n) : c + i ≠ b + j := by lia
theorem leY {a b c d n m i : Nat} (h : a + n < b) (e : b = c) (k : c + m <= d) : a <= d + i := by lia
theorem sub1 {a b : Nat} (h : a < b) : b - a = (b - (a + 1)) + 1 := (Nat.succ_pred_eq_of_pos (Nat.sub_pos_of_lt h)).symm
theorem sub2 {n i k : Nat} (h : n - i = k + 1) : n - (i + 1) = k := congrArg Nat.pred h
theorem sub3 {n i k : Nat} (h : n - i = k + 1) : i < n := Nat.lt_of_sub_eq_succ h
theorem tn1 {a : Nat} (h : 0 < a) : (-1 + (a : Int)).toNat = a - 1 := by
 cases a with
 | zero => exact absurd h (Nat.lt_irrefl _)
 | succ a => exact congrArg Int.toNat (by rw [Int.natCast_succ, Int.add_comm, Int.add_neg_cancel_right] : -1 + ((a + 1 : Nat) : Int) = a)
theorem tn2 {a : Nat} (h : 0 < a) : -(a : Int) <= -1 := by lia
theorem tn3 {a : Nat} : -1 < (a : Int) := by lia
theorem or3 {a : Nat} (h : a < 3) : a = 0 \/ a = 1 \/ a = 2 := by lia
theorem or4 {a : Nat} (h : a < 4) : a = 0 \/ a = 1 \/ a = 2 \/ a = 3 := by lia
theorem or15 {a : Nat} (h : 0 < a) (k : a <= 5) : a = 1 \/ a = 2 \/ a = 3 \/ a = 4 \/ a = 5 := by lia
theorem or58 {a : Nat} (h : 5 <= a) (k : a <= 8) : a = 5 \/ a = 6 \/ a = 7 \/ a = 8 := by lia
theorem or14 {a : Nat} (h : 1 <= a) (k : a <= 4) : a = 1 \/ a = 2 \/ a = 3 \/ a = 4 := by lia
theorem N0.e2  {P1 P2 : Prop} {G : Prop} (h : P1 /\ P2) (k : P1 -> P2 -> G) : G := k h.1 h.2
theorem N1.e2 {α : Sort _} {P1 : α -> Prop} {G : Prop} (h : ∃ x1, P1 x1) (k : ∀ x1, P1 x1 -> G) : G := h.elim fun x1 h => k x1 h
theorem N0.e3  {P1 P2 P3 : Prop} {G : Prop} (h : P1 /\ P2 /\ P3) (k : P1 -> P2 -> P3 -> G) : G := k h.1 h.2.1 h.2.2
theorem N1.e3 {α : Sort _} {P1 P2 : α -> Prop} {G : Prop} (h : ∃ x1, P1 x1 /\ P2 x1) (k : ∀ x1, P1 x1 -> P2 x1 -> G) : G := h.elim fun x1 h => k x1 h.1 h.2
theorem N2.e3 {α : Sort _} {β : Sort _} {P1 : α -> β -> Prop} {G : Prop} (h : ∃ x1 x2, P1 x1 x2) (k : ∀ x1 x2, P1 x1 x2 -> G) : G := h.elim fun x1 h => h.elim fun x2 h => k x1 x2 h
theorem N0.e4  {P1 P2 P3 P4 : Prop} {G : Prop} (h : P1 /\ P2 /\ P3 /\ P4) (k : P1 -> P2 -> P3 -> P4 -> G) : G := k h.1 h.2.1 h.2.2.1 h.2.2.2
theorem N1.e4 {α : Sort _} {P1 P2 P3 : α -> Prop} {G : Prop} (h : ∃ x1, P1 x1 /\ P2 x1 /\ P3 x1) (k : ∀ x1, P1 x1 -> P2 x1 -> P3 x1 -> G) : G := h.elim fun x1 h => k x1 h.1 h.2.1 h.2.2
theorem N2.e4 {α : Sort _} {β : Sort _} {P1 P2 : α -> β -> Prop} {G : Prop} (h : ∃ x1 x2, P1 x1 x2 /\ P2 x1 x2) (k : ∀ x1 x2, P1 x1 x2 -> P2 x1 x2 -> G) : G := h.elim fun x1 h => h.elim fun x2 h => k x1 x2 h.1 h.2
theorem N3.e4 {α : Sort _} {β : Sort _} {γ : Sort _} {P1 : α -> β -> γ -> Prop} {G : Prop} (h : ∃ x1 x2 x3, P1 x1 x2 x3) (k : ∀ x1 x2 x3, P1 x1 x2 x3 -> G) : G := h.elim fun x1 h => h.elim fun x2 h => h.elim fun x3 h => k x1 x2 x3 h
theorem N0.e5  {P1 P2 P3 P4 P5 : Prop} {G : Prop} (h : P1 /\ P2 /\ P3 /\ P4 /\ P5) (k : P1 -> P2 -> P3 -> P4 -> P5 -> G) : G := k h.1 h.2.1 h.2.2.1 h.2.2.2.1 h.2.2.2.2
theorem N1.e5 {α : Sort _} {P1 P2 P3 P4 : α -> Prop} {G : Prop} (h : ∃ x1, P1 x1 /\ P2 x1 /\ P3 x1 /\ P4 x1) (k : ∀ x1, P1 x1 -> P2 x1 -> P3 x1 -> P4 x1 -> G) : G := h.elim fun x1 h => k x1 h.1 h.2.1 h.2.2.1 h.2.2.2
theorem N2.e5 {α : Sort _} {β : Sort _} {P1 P2 P3 : α -> β -> Prop} {G : Prop} (h : ∃ x1 x2, P1 x1 x2 /\ P2 x1 x2 /\ P3 x1 x2) (k : ∀ x1 x2, P1 x1 x2 -> P2 x1 x2 -> P3 x1 x2 -> G) : G := h.elim fun x1 h => h.elim fun x2 h => k x1 x2 h.1 h.2.1 h.2.2
theorem N3.e5 {α : Sort _} {β : Sort _} {γ : Sort _} {P1 P2 : α -> β -> γ -> Prop} {G : Prop} (h : ∃ x1 x2 x3, P1 x1 x2 x3 /\ P2 x1 x2 x3) (k : ∀ x1 x2 x3, P1 x1 x2 x3 -> P2 x1 x2 x3 -> G) : G := h.elim fun x1 h => h.elim fun x2 h => h.elim fun x3 h => k x1 x2 x3 h.1 h.2
theorem N0.e6  {P1 P2 P3 P4 P5 P6 : Prop} {G : Prop} (h : P1 /\ P2 /\ P3 /\ P4 /\ P5 /\ P6) (k : P1 -> P2 -> P3 -> P4 -> P5 -> P6 -> G) : G := k h.1 h.2.1 h.2.2.1 h.2.2.2.1 h.2.2.2.2.1 h.2.2.2.2.2
theorem N2.e6 {α : Sort _} {β : Sort _} {P1 P2 P3 P4 : α -> β -> Prop} {G : Prop} (h : ∃ x1 x2, P1 x1 x2 /\ P2 x1 x2 /\ P3 x1 x2 /\ P4 x1 x2) (k : ∀ x1 x2, P1 x1 x2 -> P2 x1 x2 -> P3 x1 x2 -> P4 x1 x2 -> G) : G := h.elim fun x1 h => h.elim fun x2 h => k x1 x2 h.1 h.2.1 h.2.2.1 h.2.2.2
theorem N3.e6 {α : Sort _} {β : Sort _} {γ : Sort _} {P1 P2 P3 : α -> β -> γ -> Prop} {G : Prop} (h : ∃ x1 x2 x3, P1 x1 x2 x3 /\ P2 x1 x2 x3 /\ P3 x1 x2 x3) (k : ∀ x1 x2 x3, P1 x1 x2 x3 -> P2 x1 x2 x3 -> P3 x1 x2 x3 -> G) : G := h.elim fun x1 h => h.elim fun x2 h => h.elim fun x3 h => k x1 x2 x3 h.1 h.2.1 h.2.2
theorem N4.e6 {α : Sort _} {β : Sort _} {γ : Sort _} {δ : Sort _} {P1 P2 : α -> β -> γ -> δ -> Prop} {G : Prop} (h : ∃ x1 x2 x3 x4, P1 x1 x2 x3 x4 /\ P2 x1 x2 x3 x4) (k : ∀ x1 x2 x3 x4, P1 x1 x2 x3 x4 -> P2 x1 x2 x3 x4 -> G) : G := h.elim fun x1 h => h.elim fun x2 h => h.elim fun x3 h => h.elim fun x4 h => k x1 x2 x3 x4 h.1 h.2
theorem N5.e6 {α : Sort _} {β : Sort _} {γ : Sort _} {δ : Sort _} {ε : Sort _} {P1 : α -> β -> γ -> δ -> ε -> Prop} {G : Prop} (h : ∃ x1 x2 x3 x4 x5, P1 x1 x2 x3 x4 x5) (k : ∀ x1 x2 x3 x4 x5, P1 x1 x2 x3 x4 x5 -> G) : G := h.elim fun x1 h => h.elim fun x2 h => h.elim fun x3 h => h.elim fun x4 h => h.elim fun x5 h => k x1 x2 x3 x4 x5 h
theorem N0.e7  {P1 P2 P3 P4 P5 P6 P7 : Prop} {G : Prop} (h : P1 /\ P2 /\ P3 /\ P4 /\ P5 /\ P6 /\ P7) (k : P1 -> P2 -> P3 -> P4 -> P5 -> P6 -> P7 -> G) : G := k h.1 h.2.1 h.2.2.1 h.2.2.2.1 h.2.2.2.2.1 h.2.2.2.2.2.1 h.2.2.2.2.2.2
theorem N2.e7 {α : Sort _} {β : Sort _} {P1 P2 P3 P4 P5 : α -> β -> Prop} {G : Prop} (h : ∃ x1 x2, P1 x1 x2 /\ P2 x1 x2 /\ P3 x1 x2 /\ P4 x1 x2 /\ P5 x1 x2) (k : ∀ x1 x2, P1 x1 x2 -> P2 x1 x2 -> P3 x1 x2 -> P4 x1 x2 -> P5 x1 x2 -> G) : G := h.elim fun x1 h => h.elim fun x2 h => k x1 x2 h.1 h.2.1 h.2.2.1 h.2.2.2.1 h.2.2.2.2
theorem N3.e7 {α : Sort _} {β : Sort _} {γ : Sort _} {P1 P2 P3 P4 : α -> β -> γ -> Prop} {G : Prop} (h : ∃ x1 x2 x3, P1 x1 x2 x3 /\ P2 x1 x2 x3 /\ P3 x1 x2 x3 /\ P4 x1 x2 x3) (k : ∀ x1 x2 x3, P1 x1 x2 x3 -> P2 x1 x2 x3 -> P3 x1 x2 x3 -> P4 x1 x2 x3 -> G) : G := h.elim fun x1 h => h.elim fun x2 h => h.elim fun x3 h => k x1 x2 x3 h.1 h.2.1 h.2.2.1 h.2.2.2
theorem N4.e7 {α : Sort _} {β : Sort _} {γ : Sort _} {δ : Sort _} {P1 P2 P3 : α -> β -> γ -> δ -> Prop} {G : Prop} (h : ∃ x1 x2 x3 x4, P1 x1 x2 x3 x4 /\ P2 x1 x2 x3 x4 /\ P3 x1 x2 x3 x4) (k : ∀ x1 x2 x3 x4, P1 x1 x2 x3 x4 -> P2 x1 x2 x3 x4 -> P3 x1 x2 x3 x4 -> G) : G := h.elim fun x1 h => h.elim fun x2 h => h.elim fun x3 h => h.elim fun x4 h => k x1 x2 x3 x4 h.1 h.2.1 h.2.2
theorem N2.e8 {α : Sort _} {β : Sort _} {P1 P2 P3 P4 P5 P6 : α -> β -> Prop} {G : Prop} (h : ∃ x1 x2, P1 x1 x2 /\ P2 x1 x2 /\ P3 x1 x2 /\ P4 x1 x2 /\ P5 x1 x2 /\ P6 x1 x2) (k : ∀ x1 x2, P1 x1 x2 -> P2 x1 x2 -> P3 x1 x2 -> P4 x1 x2 -> P5 x1 x2 -> P6 x1 x2 -> G) : G := h.elim fun x1 h => h.elim fun x2 h => k x1 x2 h.1 h.2.1 h.2.2.1 h.2.2.2.1 h.2.2.2.2.1 h.2.2.2.2.2
theorem N4.e8 {α : Sort _} {β : Sort _} {γ : Sort _} {δ : Sort _} {P1 P2 P3 P4 : α -> β -> γ -> δ -> Prop} {G : Prop} (h : ∃ x1 x2 x3 x4, P1 x1 x2 x3 x4 /\ P2 x1 x2 x3 x4 /\ P3 x1 x2 x3 x4 /\ P4 x1 x2 x3 x4) (k : ∀ x1 x2 x3 x4, P1 x1 x2 x3 x4 -> P2 x1 x2 x3 x4 -> P3 x1 x2 x3 x4 -> P4 x1 x2 x3 x4 -> G) : G := h.elim fun x1 h => h.elim fun x2 h => h.elim fun x3 h => h.elim fun x4 h => k x1 x2 x3 x4 h.1 h.2.1 h.2.2.1 h.2.2.2
theorem N0.e9  {P1 P2 P3 P4 P5 P6 P7 P8 P9 : Prop} {G : Prop} (h : P1 /\ P2 /\ P3 /\ P4 /\ P5 /\ P6 /\ P7 /\ P8 /\ P9) (k : P1 -> P2 -> P3 -> P4 -> P5 -> P6 -> P7 -> P8 -> P9 -> G) : G := k h.1 h.2.1 h.2.2.1 h.2.2.2.1 h.2.2.2.2.1 h.2.2.2.2.2.1 h.2.2.2.2.2.2.1 h.2.2.2.2.2.2.2.1 h.2.2.2.2.2.2.2.2
theorem N2.e9 {α : Sort _} {β : Sort _} {P1 P2 P3 P4 P5 P6 P7 : α -> β -> Prop} {G : Prop} (h : ∃ x1 x2, P1 x1 x2 /\ P2 x1 x2 /\ P3 x1 x2 /\ P4 x1 x2 /\ P5 x1 x2 /\ P6 x1 x2 /\ P7 x1 x2) (k : ∀ x1 x2, P1 x1 x2 -> P2 x1 x2 -> P3 x1 x2 -> P4 x1 x2 -> P5 x1 x2 -> P6 x1 x2 -> P7 x1 x2 -> G) : G := h.elim fun x1 h => h.elim fun x2 h => k x1 x2 h.1 h.2.1 h.2.2.1 h.2.2.2.1 h.2.2.2.2.1 h.2.2.2.2.2.1 h.2.2.2.2.2.2
theorem N3.e9 {α : Sort _} {β : Sort _} {γ : Sort _} {P1 P2 P3 P4 P5 P6 : α -> β -> γ -> Prop} {G : Prop} (h : ∃ x1 x2 x3, P1 x1 x2 x3 /\ P2 x1 x2 x3 /\ P3 x1 x2 x3 /\ P4 x1 x2 x3 /\ P5 x1 x2 x3 /\ P6 x1 x2 x3) (k : ∀ x1 x2 x3, P1 x1 x2 x3 -> P2 x1 x2 x3 -> P3 x1 x2 x3 -> P4 x1 x2 x3 -> P5 x1 x2 x3 -> P6 x1 x2 x3 -> G) : G := h.elim fun x1 h => h.elim fun x2 h => h.elim fun x3 h => k x1 x2 x3 h.1 h.2.1 h.2.2.1 h.2.2.2.1 h.2.2.2.2.1 h.2.2.2.2.2
theorem N4.e10 {α : Sort _} {β : Sort _} {γ : Sort _} {δ : Sort _} {P1 P2 P3 P4 P5 P6 : α -> β -> γ -> δ -> Prop} {G : Prop} (h : ∃ x1 x2 x3 x4, P1 x1 x2 x3 x4 /\ P2 x1 x2 x3 x4 /\ P3 x1 x2 x3 x4 /\ P4 x1 x2 x3 x4 /\ P5 x1 x2 x3 x4 /\ P6 x1 x2 x3 x4) (k : ∀ x1 x2 x3 x4, P1 x1 x2 x3 x4 -> P2 x1 x2 x3 x4 -> P3 x1 x2 x3 x4 -> P4 x1 x2 x3 x4 -> P5 x1 x2 x3 x4 -> P6 x1 x2 x3 x4 -> G) : G := h.elim fun x1 h => h.elim fun x2 h => h.elim fun x3 h => h.elim fun x4 h => k x1 x2 x3 x4 h.1 h.2.1 h.2.2.1 h.2.2.2.1 h.2.2.2.2.1 h.2.2.2.2.2
theorem N4.e11 {α : Sort _} {β : Sort _} {γ : Sort _} {δ : Sort _} {P1 P2 P3 P4 P5 P6 P7 : α -> β -> γ -> δ -> Prop} {G : Prop} (h : ∃ x1 x2 x3 x4, P1 x1 x2 x3 x4 /\ P2 x1 x2 x3 x4 /\ P3 x1 x2 x3 x4 /\ P4 x1 x2 x3 x4 /\ P5 x1 x2 x3 x4 /\ P6 x1 x2 x3 x4 /\ P7 x1 x2 x3 x4) (k : ∀ x1 x2 x3 x4, P1 x1 x2 x3 x4 -> P2 x1 x2 x3 x4 -> P3 x1 x2 x3 x4 -> P4 x1 x2 x3 x4 -> P5 x1 x2 x3 x4 -> P6 x1 x2 x3 x4 -> P7 x1 x2 x3 x4 -> G) : G := h.elim fun x1 h => h.elim fun x2 h => h.elim fun x3 h => h.elim fun x4 h => k x1 x2 x3 x4 h.1 h.2.1 h.2.2.1 h.2.2.2.1 h.2.2.2.2.1 h.2.2.2.2.2.1 h.2.2.2.2.2.2
theorem N3.e12 {α : Sort _} {β : Sort _} {γ : Sort _} {P1 P2 P3 P4 P5 P6 P7 P8 P9 : α -> β -> γ -> Prop} {G : Prop} (h : ∃ x1 x2 x3, P1 x1 x2 x3 /\ P2 x1 x2 x3 /\ P3 x1 x2 x3 /\ P4 x1 x2 x3 /\ P5 x1 x2 x3 /\ P6 x1 x2 x3 /\ P7 x1 x2 x3 /\ P8 x1 x2 x3 /\ P9 x1 x2 x3) (k : ∀ x1 x2 x3, P1 x1 x2 x3 -> P2 x1 x2 x3 -> P3 x1 x2 x3 -> P4 x1 x2 x3 -> P5 x1 x2 x3 -> P6 x1 x2 x3 -> P7 x1 x2 x3 -> P8 x1 x2 x3 -> P9 x1 x2 x3 -> G) : G := h.elim fun x1 h => h.elim fun x2 h => h.elim fun x3 h => k x1 x2 x3 h.1 h.2.1 h.2.2.1 h.2.2.2.1 h.2.2.2.2.1 h.2.2.2.2.2.1 h.2.2.2.2.2.2.1 h.2.2.2.2.2.2.2.1 h.2.2.2.2.2.2.2.2
theorem N4.e12 {α : Sort _} {β : Sort _} {γ : Sort _} {δ : Sort _} {P1 P2 P3 P4 P5 P6 P7 P8 : α -> β -> γ -> δ -> Prop} {G : Prop} (h : ∃ x1 x2 x3 x4, P1 x1 x2 x3 x4 /\ P2 x1 x2 x3 x4 /\ P3 x1 x2 x3 x4 /\ P4 x1 x2 x3 x4 /\ P5 x1 x2 x3 x4 /\ P6 x1 x2 x3 x4 /\ P7 x1 x2 x3 x4 /\ P8 x1 x2 x3 x4) (k : ∀ x1 x2 x3 x4, P1 x1 x2 x3 x4 -> P2 x1 x2 x3 x4 -> P3 x1 x2 x3 x4 -> P4 x1 x2 x3 x4 -> P5 x1 x2 x3 x4 -> P6 x1 x2 x3 x4 -> P7 x1 x2 x3 x4 -> P8 x1 x2 x3 x4 -> G) : G := h.elim fun x1 h => h.elim fun x2 h => h.elim fun x3 h => h.elim fun x4 h => k x1 x2 x3 x4 h.1 h.2.1 h.2.2.1 h.2.2.2.1 h.2.2.2.2.1 h.2.2.2.2.2.1 h.2.2.2.2.2.2.1 h.2.2.2.2.2.2.2
theorem N0.i3  {P1 P2 P3 : Prop}  (p1 : P1) (p2 : P2) (p3 : P3) : P1 /\ P2 /\ P3 := ⟨p1, p2, p3⟩
theorem N1.i3 {α : Sort _} {P1 P2 : α -> Prop} (x1 : α) (p1 : P1 x1) (p2 : P2 x1) : ∃ x1, P1 x1 /\ P2 x1 := ⟨x1, p1, p2⟩
theorem N2.i3 {α : Sort _} {β : Sort _} {P1 : α -> β -> Prop} (x1 : α) (x2 : β) (p1 : P1 x1 x2) : ∃ x1 x2, P1 x1 x2 := ⟨x1, x2, p1⟩
theorem N0.i4  {P1 P2 P3 P4 : Prop}  (p1 : P1) (p2 : P2) (p3 : P3) (p4 : P4) : P1 /\ P2 /\ P3 /\ P4 := ⟨p1, p2, p3, p4⟩
theorem N1.i4 {α : Sort _} {P1 P2 P3 : α -> Prop} (x1 : α) (p1 : P1 x1) (p2 : P2 x1) (p3 : P3 x1) : ∃ x1, P1 x1 /\ P2 x1 /\ P3 x1 := ⟨x1, p1, p2, p3⟩
theorem N2.i4 {α : Sort _} {β : Sort _} {P1 P2 : α -> β -> Prop} (x1 : α) (x2 : β) (p1 : P1 x1 x2) (p2 : P2 x1 x2) : ∃ x1 x2, P1 x1 x2 /\ P2 x1 x2 := ⟨x1, x2, p1, p2⟩
theorem N3.i4 {α : Sort _} {β : Sort _} {γ : Sort _} {P1 : α -> β -> γ -> Prop} (x1 : α) (x2 : β) (x3 : γ) (p1 : P1 x1 x2 x3) : ∃ x1 x2 x3, P1 x1 x2 x3 := ⟨x1, x2, x3, p1⟩
theorem N0.i5  {P1 P2 P3 P4 P5 : Prop}  (p1 : P1) (p2 : P2) (p3 : P3) (p4 : P4) (p5 : P5) : P1 /\ P2 /\ P3 /\ P4 /\ P5 := ⟨p1, p2, p3, p4, p5⟩
theorem N1.i5 {α : Sort _} {P1 P2 P3 P4 : α -> Prop} (x1 : α) (p1 : P1 x1) (p2 : P2 x1) (p3 : P3 x1) (p4 : P4 x1) : ∃ x1, P1 x1 /\ P2 x1 /\ P3 x1 /\ P4 x1 := ⟨x1, p1, p2, p3, p4⟩
theorem N3.i5 {α : Sort _} {β : Sort _} {γ : Sort _} {P1 P2 : α -> β -> γ -> Prop} (x1 : α) (x2 : β) (x3 : γ) (p1 : P1 x1 x2 x3) (p2 : P2 x1 x2 x3) : ∃ x1 x2 x3, P1 x1 x2 x3 /\ P2 x1 x2 x3 := ⟨x1, x2, x3, p1, p2⟩
theorem N0.i6  {P1 P2 P3 P4 P5 P6 : Prop}  (p1 : P1) (p2 : P2) (p3 : P3) (p4 : P4) (p5 : P5) (p6 : P6) : P1 /\ P2 /\ P3 /\ P4 /\ P5 /\ P6 := ⟨p1, p2, p3, p4, p5, p6⟩
theorem N2.i6 {α : Sort _} {β : Sort _} {P1 P2 P3 P4 : α -> β -> Prop} (x1 : α) (x2 : β) (p1 : P1 x1 x2) (p2 : P2 x1 x2) (p3 : P3 x1 x2) (p4 : P4 x1 x2) : ∃ x1 x2, P1 x1 x2 /\ P2 x1 x2 /\ P3 x1 x2 /\ P4 x1 x2 := ⟨x1, x2, p1, p2, p3, p4⟩
theorem N3.i6 {α : Sort _} {β : Sort _} {γ : Sort _} {P1 P2 P3 : α -> β -> γ -> Prop} (x1 : α) (x2 : β) (x3 : γ) (p1 : P1 x1 x2 x3) (p2 : P2 x1 x2 x3) (p3 : P3 x1 x2 x3) : ∃ x1 x2 x3, P1 x1 x2 x3 /\ P2 x1 x2 x3 /\ P3 x1 x2 x3 := ⟨x1, x2, x3, p1, p2, p3⟩
theorem N0.i7  {P1 P2 P3 P4 P5 P6 P7 : Prop}  (p1 : P1) (p2 : P2) (p3 : P3) (p4 : P4) (p5 : P5) (p6 : P6) (p7 : P7) : P1 /\ P2 /\ P3 /\ P4 /\ P5 /\ P6 /\ P7 := ⟨p1, p2, p3, p4, p5, p6, p7⟩
theorem N2.i7 {α : Sort _} {β : Sort _} {P1 P2 P3 P4 P5 : α -> β -> Prop} (x1 : α) (x2 : β) (p1 : P1 x1 x2) (p2 : P2 x1 x2) (p3 : P3 x1 x2) (p4 : P4 x1 x2) (p5 : P5 x1 x2) : ∃ x1 x2, P1 x1 x2 /\ P2 x1 x2 /\ P3 x1 x2 /\ P4 x1 x2 /\ P5 x1 x2 := ⟨x1, x2, p1, p2, p3, p4, p5⟩
theorem N3.i7 {α : Sort _} {β : Sort _} {γ : Sort _} {P1 P2 P3 P4 : α -> β -> γ -> Prop} (x1 : α) (x2 : β) (x3 : γ) (p1 : P1 x1 x2 x3) (p2 : P2 x1 x2 x3) (p3 : P3 x1 x2 x3) (p4 : P4 x1 x2 x3) : ∃ x1 x2 x3, P1 x1 x2 x3 /\ P2 x1 x2 x3 /\ P3 x1 x2 x3 /\ P4 x1 x2 x3 := ⟨x1, x2, x3, p1, p2, p3, p4⟩
theorem N2.i8 {α : Sort _} {β : Sort _} {P1 P2 P3 P4 P5 P6 : α -> β -> Prop} (x1 : α) (x2 : β) (p1 : P1 x1 x2) (p2 : P2 x1 x2) (p3 : P3 x1 x2) (p4 : P4 x1 x2) (p5 : P5 x1 x2) (p6 : P6 x1 x2) : ∃ x1 x2, P1 x1 x2 /\ P2 x1 x2 /\ P3 x1 x2 /\ P4 x1 x2 /\ P5 x1 x2 /\ P6 x1 x2 := ⟨x1, x2, p1, p2, p3, p4, p5, p6⟩
theorem N4.i8 {α : Sort _} {β : Sort _} {γ : Sort _} {δ : Sort _} {P1 P2 P3 P4 : α -> β -> γ -> δ -> Prop} (x1 : α) (x2 : β) (x3 : γ) (x4 : δ) (p1 : P1 x1 x2 x3 x4) (p2 : P2 x1 x2 x3 x4) (p3 : P3 x1 x2 x3 x4) (p4 : P4 x1 x2 x3 x4) : ∃ x1 x2 x3 x4, P1 x1 x2 x3 x4 /\ P2 x1 x2 x3 x4 /\ P3 x1 x2 x3 x4 /\ P4 x1 x2 x3 x4 := ⟨x1, x2, x3, x4, p1, p2, p3, p4⟩
theorem N2.i9 {α : Sort _} {β : Sort _} {P1 P2 P3 P4 P5 P6 P7 : α -> β -> Prop} (x1 : α) (x2 : β) (p1 : P1 x1 x2) (p2 : P2 x1 x2) (p3 : P3 x1 x2) (p4 : P4 x1 x2) (p5 : P5 x1 x2) (p6 : P6 x1 x2) (p7 : P7 x1 x2) : ∃ x1 x2, P1 x1 x2 /\ P2 x1 x2 /\ P3 x1 x2 /\ P4 x1 x2 /\ P5 x1 x2 /\ P6 x1 x2 /\ P7 x1 x2 := ⟨x1, x2, p1, p2, p3, p4, p5, p6, p7⟩
theorem N3.i9 {α : Sort _} {β : Sort _} {γ : Sort _} {P1 P2 P3 P4 P5 P6 : α -> β -> γ -> Prop} (x1 : α) (x2 : β) (x3 : γ) (p1 : P1 x1 x2 x3) (p2 : P2 x1 x2 x3) (p3 : P3 x1 x2 x3) (p4 : P4 x1 x2 x3) (p5 : P5 x1 x2 x3) (p6 : P6 x1 x2 x3) : ∃ x1 x2 x3, P1 x1 x2 x3 /\ P2 x1 x2 x3 /\ P3 x1 x2 x3 /\ P4 x1 x2 x3 /\ P5 x1 x2 x3 /\ P6 x1 x2 x3 := ⟨x1, x2, x3, p1, p2, p3, p4, p5, p6⟩
theorem N2.i10 {α : Sort _} {β : Sort _} {P1 P2 P3 P4 P5 P6 P7 P8 : α -> β -> Prop} (x1 : α) (x2 : β) (p1 : P1 x1 x2) (p2 : P2 x1 x2) (p3 : P3 x1 x2) (p4 : P4 x1 x2) (p5 : P5 x1 x2) (p6 : P6 x1 x2) (p7 : P7 x1 x2) (p8 : P8 x1 x2) : ∃ x1 x2, P1 x1 x2 /\ P2 x1 x2 /\ P3 x1 x2 /\ P4 x1 x2 /\ P5 x1 x2 /\ P6 x1 x2 /\ P7 x1 x2 /\ P8 x1 x2 := ⟨x1, x2, p1, p2, p3, p4, p5, p6, p7, p8⟩
theorem N4.i10 {α : Sort _} {β : Sort _} {γ : Sort _} {δ : Sort _} {P1 P2 P3 P4 P5 P6 : α -> β -> γ -> δ -> Prop} (x1 : α) (x2 : β) (x3 : γ) (x4 : δ) (p1 : P1 x1 x2 x3 x4) (p2 : P2 x1 x2 x3 x4) (p3 : P3 x1 x2 x3 x4) (p4 : P4 x1 x2 x3 x4) (p5 : P5 x1 x2 x3 x4) (p6 : P6 x1 x2 x3 x4) : ∃ x1 x2 x3 x4, P1 x1 x2 x3 x4 /\ P2 x1 x2 x3 x4 /\ P3 x1 x2 x3 x4 /\ P4 x1 x2 x3 x4 /\ P5 x1 x2 x3 x4 /\ P6 x1 x2 x3 x4 := ⟨x1, x2, x3, x4, p1, p2, p3, p4, p5, p6⟩
theorem N3.i12 {α : Sort _} {β : Sort _} {γ : Sort _} {P1 P2 P3 P4 P5 P6 P7 P8 P9 : α -> β -> γ -> Prop} (x1 : α) (x2 : β) (x3 : γ) (p1 : P1 x1 x2 x3) (p2 : P2 x1 x2 x3) (p3 : P3 x1 x2 x3) (p4 : P4 x1 x2 x3) (p5 : P5 x1 x2 x3) (p6 : P6 x1 x2 x3) (p7 : P7 x1 x2 x3) (p8 : P8 x1 x2 x3) (p9 : P9 x1 x2 x3) : ∃ x1 x2 x3, P1 x1 x2 x3 /\ P2 x1 x2 x3 /\ P3 x1 x2 x3 /\ P4 x1 x2 x3 /\ P5 x1 x2 x3 /\ P6 x1 x2 x3 /\ P7 x1 x2 x3 /\ P8 x1 x2 x3 /\ P9 x1 x2 x3 := ⟨x1, x2, x3, p1, p2, p3, p4, p5, p6, p7, p8, p9⟩
theorem N4.i12 {α : Sort _} {β : Sort _} {γ : Sort _} {δ : Sort _} {P1 P2 P3 P4 P5 P6 P7 P8 : α -> β -> γ -> δ -> Prop} (x1 : α) (x2 : β) (x3 : γ) (x4 : δ) (p1 : P1 x1 x2 x3 x4) (p2 : P2 x1 x2 x3 x4) (p3 : P3 x1 x2 x3 x4) (p4 : P4 x1 x2 x3 x4) (p5 : P5 x1 x2 x3 x4) (p6 : P6 x1 x2 x3 x4) (p7 : P7 x1 x2 x3 x4) (p8 : P8 x1 x2 x3 x4) : ∃ x1 x2 x3 x4, P1 x1 x2 x3 x4 /\ P2 x1 x2 x3 x4 /\ P3 x1 x2 x3 x4 /\ P4 x1 x2 x3 x4 /\ P5 x1 x2 x3 x4 /\ P6 x1 x2 x3 x4 /\ P7 x1 x2 x3 x4 /\ P8 x1 x2 x3 x4 := ⟨x1, x2, x3, x4, p1, p2, p3, p4, p5, p6, p7, p8⟩
end
open N0 N1 N2 N3 N4 N5
noncomputable def nmL : List String := ["SubElement", "_serialize_text", "pretty_flags", "Whitespace", "_law_numbers", "_law_names", "_law_words", "_law_element", "_law_given", "_law_lead", "_law_column", "law", "COMPILER_FLAG_NAMES", "longest_run_of_spaces", "indent_level", "equal", "less", "not_less_witness", "parent", "tag", "attrib", "extra", "element", "write", "elem", "part", "tail", "flags", "names", "i", "script", "numbers", "place", "number", "base", "words", "below", "append", "makeelement", "itertext", "rows", "blanks", "given", "ground", "nodes", "parts", "counts", "tab", "triples", "ranks", "family", "mine", "front", "any_nest", "first", "singles", "pairs", "told", "columns", "range", "flag", "join", "S", "T", "self", "ws", "raw", "count", "b", "n", "nt", "ch", "norm", "is_simple", "tabsize", "il", "other", "ts", "a", "split", "low", "middle", "high", "row", "c", "trailing", "max", "len", "child", "size", "lead", "end", "sum", "rank", "one", "word", "hex", "tuple", "path", "above", "index", "get", "run", ".0", "__init__", "<lambda>"]
noncomputable def nm (k : Nat) : Str := match nmL[k]? with | some s => Str.ofString s | none => ⟨(List.replicate (k + 100) 0).toArray⟩
set_option maxHeartbeats 4000000 in
theorem nm_nodup : (nmL.map fun s => (Str.ofString s).cps.toList).Nodup := by decide +kernel
set_option maxHeartbeats 4000000 in
theorem nm_short : (nmL.all fun s => decide ((Str.ofString s).cps.size < 100)) = true := by decide +kernel
theorem nm_inj {i j : Nat} (h : nm i = nm j) : i = j := by
 have short : ∀ k s, nmL[k]? = some s -> (Str.ofString s).cps.size < 100 := fun k s e =>
  of_decide_eq_true (List.all_eq_true.mp nm_short s (List.mem_of_getElem? e))
 unfold nm at h
 cases hi : nmL[i]? with
 | none =>
  cases hj : nmL[j]? with
  | none =>
   simp only [hi, hj] at h
   have := congrArg (fun s : Str => s.cps.size) h
   simp at this
   exact this
  | some t =>
   simp only [hi, hj] at h
   have h1 := congrArg (fun s : Str => s.cps.size) h
   have := short j t hj
   simp only [List.size_toArray, List.length_replicate] at h1
   lia
 | some s =>
  cases hj : nmL[j]? with
  | none =>
   simp only [hi, hj] at h
   have h1 := congrArg (fun s : Str => s.cps.size) h
   have := short i s hi
   simp only [List.size_toArray, List.length_replicate] at h1
   lia
  | some t =>
   simp only [hi, hj] at h
   have h1 : (nmL.map fun s => (Str.ofString s).cps.toList)[i]? = (nmL.map fun s => (Str.ofString s).cps.toList)[j]? := by
    refine rwR (List.getElem?_map) ?_
    refine rwR (List.getElem?_map) ?_
    refine rwR hi ?_
    refine rwR hj ?_
    simp only [Option.map_some, h]
   have hl : i < (nmL.map fun s => (Str.ofString s).cps.toList).length := by
    rw [List.length_map]; exact (List.getElem?_eq_some_iff.mp hi).1
   exact (List.getElem?_inj hl nm_nodup).mp h1
inductive BI where
 | len | sum | max | hex | range | tuple
 deriving DecidableEq
noncomputable def BI.val : BI -> Value
 | .len => .builtin "len" | .sum => .builtin "sum" | .max => .builtin "max" | .hex => .builtin "hex"
 | .range => .type "range" | .tuple => .type "tuple"
inductive AV where
 | none
 | bool (b : Bool)
 | int (i : Int)
 | str (s : Str)
 | ref (j : Nat)
 | bi (b : BI)
 deriving DecidableEq
noncomputable def VR (Z : List Addr) : AV -> Value -> Prop
 | .none, v => v = .none
 | .bool b, v => v = .bool b
 | .int i, v => ∃ t, v = .int i t
 | .str x, v => ∃ t, v = .str x t
 | .ref j, v => ∃ a, Z[j]? = some a /\ v = .ref a
 | .bi b, v => v = b.val
noncomputable def VRo (Z : List Addr) : Option AV -> Option Value -> Prop
 | .none, v => v = none
 | .some x, v => ∃ y, v = some y /\ VR Z x y
theorem get_prefix {α : Type} {l l' : List α} (h : l <+: l') {j : Nat} {a : α} (e : l[j]? = some a) : l'[j]? = some a := by
 obtain ⟨t, rfl⟩ := h
 rw [List.getElem?_append_left]
 ·exact e
 ·exact (List.getElem?_eq_some_iff.mp e).1
theorem VR.mono {Z Z' : List Addr} (h : Z <+: Z') : ∀ {x : AV} {v : Value}, VR Z x v -> VR Z' x v
 | .none, _, e => e
 | .bool _, _, e => e
 | .int _, _, e => e
 | .str _, _, e => e
 | .ref _, _, ⟨a, e, q⟩ => ⟨a, get_prefix h e, q⟩
 | .bi _, _, e => e
theorem VRo.mono {Z Z' : List Addr} (h : Z <+: Z') : ∀ {x : Option AV} {v : Option Value}, VRo Z x v -> VRo Z' x v
 | .none, _, e => e
 | .some _, _, ⟨y, e, q⟩ => ⟨y, e, q.mono h⟩
inductive VRs (Z : List Addr) : List AV -> List Value -> Prop
 | nil : VRs Z [] []
 | cons {x : AV} {v : Value} {xs : List AV} {vs : List Value} : VR Z x v -> VRs Z xs vs -> VRs Z (x :: xs) (v :: vs)
theorem VRs.mono {Z Z' : List Addr} (h : Z <+: Z') {xs : List AV} {vs : List Value} (r : VRs Z xs vs) : VRs Z' xs vs := by
 induction r with
 | nil => exact .nil
 | cons a _ ih => exact .cons (a.mono h) ih
theorem VRs.length {Z : List Addr} {xs : List AV} {vs : List Value} (r : VRs Z xs vs) : xs.length = vs.length := by
 induction r with
 | nil => rfl
 | cons _ _ ih => simp [ih]
theorem VRs.get {Z : List Addr} {xs : List AV} {vs : List Value} (r : VRs Z xs vs) {i : Nat} {x : AV} (e : xs[i]? = some x) : ∃ v, vs[i]? = some v /\ VR Z x v := by
 induction r generalizing i with
 | nil => simp at e
 | cons a _ ih =>
  induction i with
  | zero => simp at e; subst e; exact ⟨_, rfl, a⟩
  | succ i => exact ih (by simpa using e)
theorem VRs.append {Z : List Addr} {xs ys : List AV} {vs ws : List Value} (r : VRs Z xs vs) (q : VRs Z ys ws) : VRs Z (xs ++ ys) (vs ++ ws) := by
 induction r with
 | nil => exact q
 | cons a _ ih => exact .cons a ih
theorem VRs.none {Z : List Addr} {xs : List AV} {vs : List Value} (r : VRs Z xs vs) {i : Nat} (e : xs[i]? = .none) : vs[i]? = .none := by
 have := r.length
 rw [List.getElem?_eq_none_iff] at e ⊢
 lia
theorem VRs.set {Z : List Addr} {xs : List AV} {vs : List Value} (r : VRs Z xs vs) {x : AV} {v : Value} (h : VR Z x v) (i : Nat) : VRs Z (xs.set i x) (vs.set i v) := by
 induction r generalizing i with
 | nil => exact .nil
 | cons a q ih =>
  induction i with
  | zero => exact .cons h q
  | succ i => exact .cons a (ih i)
inductive NK where
 | loc | cel | fre | glo
 deriving DecidableEq
noncomputable def NK.py : NK -> NameKind
 | .loc => .local | .cel => .cell | .fre => .free | .glo => .globalImplicit
section
set_option genInjectivity false
set_option genSizeOf false
inductive Ex where
 | int (i : Int) (p : Pos)
 | str (s : Str) (p : Pos)
 | bool (b : Bool) (p : Pos)
 | none (p : Pos)
 | name (x : Nat) (p : Pos)
 | attr (e : Ex) (a : Nat) (p : Pos)
 | sub (e i : Ex) (p : Pos)
 | subTo (e hi : Ex) (ps p : Pos)
 | call (f : Ex) (args : List Ex) (kwn : List (Nat × Pos)) (kwe : List Ex) (p : Pos)
 | meth (o : Ex) (a : Nat) (pa : Pos) (args : List Ex) (p : Pos)
 | bin (l : Ex) (op : Operator) (r : Ex) (p : Pos)
 | not (e : Ex) (p : Pos)
 | neg (e : Ex) (p : Pos)
 | bool2 (op : BoolOp) (l r : Ex) (p : Pos)
 | cmp (l : Ex) (op : CmpOp) (r : Ex) (p : Pos)
 | ite (t b o : Ex) (p : Pos)
 | list (es : List Ex) (p : Pos)
 | tuple (es : List Ex) (p : Pos)
 | dict (ks : List (Str × Pos)) (vs : List Ex) (p : Pos)
 | merge (a b : Ex) (p : Pos)
 | comp (elt : Ex) (tg : List (Nat × Pos)) (tp : Option Pos) (it : Ex) (cond : List Ex) (sc : List (Nat × NK)) (p : Pos)
 | comp2 (elt : Ex) (x1 : Nat) (p1 : Pos) (it1 : Ex) (x2 : Nat) (p2 : Pos) (it2 : Ex) (cond : List Ex) (sc : List (Nat × NK)) (p : Pos)
 | lam (ps : List (Nat × Pos)) (body : Ex) (sc : List (Nat × NK)) (fast : List Nat) (p : Pos)
noncomputable def scopeOf (sc : List (Nat × NK)) (more : List (Str × Const) := []) : Scope :=
 {kind := .function, names := sc.map fun x => (nm x.1, x.2.py), isGenerator := false, isCoroutine := false, more }
noncomputable def fastOf (l : List Nat) : List (Str × Const) := l.map fun k => (Str.ofString "fast", .str (nm k))
noncomputable def argsOf (ps : List (Nat × Pos)) : Arguments :=
 {posonlyargs := [], args := ps.map fun x => { arg := nm x.1, annotation := none, pos := x.2 }, vararg := none, kwonlyargs := [], kw_defaults := [], kwarg := none, defaults := [] }
noncomputable def targetOf (tg : List (Nat × Pos)) : Option Pos -> Expr
 | some p => .Tuple (tg.map fun x => .Name (nm x.1) x.2) 0 p
 | none => match tg with
  | [x] => .Name (nm x.1) x.2
  | _ => .Tuple [] 0 ⟨0, 0, 0, 0⟩
mutual
noncomputable def Ex.py : Ex -> Expr
 | .int i p => .Constant (.int i) 0 p
 | .str s p => .Constant (.str s) 0 p
 | .bool b p => .Constant (.bool b) 0 p
 | .none p => .Constant .none 0 p
 | .name x p => .Name (nm x) p
 | .attr e a p => .Attribute e.py (nm a) p
 | .sub e i p => .Subscript e.py i.py p
 | .subTo e hi ps p => .Subscript e.py (.Slice none (some hi.py) none ps) p
 | .call f args kwn kwe p => .Call f.py (pyL args) ((kwn.zip (pyL kwe)).map fun x => { arg := some (nm x.1.1), value := x.2, pos := x.1.2 }) p
 | .meth o a pa args p => .Call (.Attribute o.py (nm a) pa) (pyL args) [] p
 | .bin l op r p => .BinOp l.py op r.py p
 | .not e p => .UnaryOp .Not e.py p
 | .neg e p => .UnaryOp .USub e.py p
 | .bool2 op l r p => .BoolOp op [l.py, r.py] p
 | .cmp l op r p => .Compare l.py [op] [r.py] p
 | .ite t b o p => .IfExp t.py b.py o.py p
 | .list es p => .List (pyL es) p
 | .tuple es p => .Tuple (pyL es) 0 p
 | .dict ks vs p => .Dict (ks.map fun k => some (.Constant (.str k.1) 0 k.2)) (pyL vs) p
 | .merge a b p => .Dict [none, none] [a.py, b.py] p
 | .comp elt tg tp it cond sc p => .ListComp elt.py [⟨targetOf tg tp, it.py, pyL cond, 0⟩] (scopeOf sc) p
 | .comp2 elt x1 p1 it1 x2 p2 it2 cond sc p => .ListComp elt.py [⟨.Name (nm x1) p1, it1.py, [], 0⟩, ⟨.Name (nm x2) p2, it2.py, pyL cond, 0⟩] (scopeOf sc) p
 | .lam ps body sc fast p => .Lambda (argsOf ps) body.py (scopeOf sc (fastOf fast)) p
noncomputable def pyL : List Ex -> List Expr
 | [] => []
 | e :: r => e.py :: pyL r
end
inductive Sm where
 | assign (xs : List (Nat × Pos)) (e : Ex) (p : Pos)
 | assignT (xs : List (Nat × Pos)) (pt : Pos) (e : Ex) (p : Pos)
 | assignA (o : Ex) (a : Nat) (pa : Pos) (e : Ex) (p : Pos)
 | assignS (o i : Ex) (ps : Pos) (e : Ex) (p : Pos)
 | aug (x : Nat) (px : Pos) (op : Operator) (e : Ex) (p : Pos)
 | augS (o i : Ex) (ps : Pos) (op : Operator) (e : Ex) (p : Pos)
 | forS (tg : List (Nat × Pos)) (tp : Option Pos) (it : Ex) (b o : List Sm) (p : Pos)
 | ifS (c : Ex) (b o : List Sm) (p : Pos)
 | ret (e : Ex) (p : Pos)
 | expr (e : Ex) (p : Pos)
 | brk (p : Pos)
mutual
noncomputable def Sm.py : Sm -> Stmt
 | .assign xs e p => .Assign (xs.map fun x => .Name (nm x.1) x.2) e.py p
 | .assignT xs pt e p => .Assign [.Tuple (xs.map fun x => .Name (nm x.1) x.2) 0 pt] e.py p
 | .assignA o a pa e p => .Assign [.Attribute o.py (nm a) pa] e.py p
 | .assignS o i ps e p => .Assign [.Subscript o.py i.py ps] e.py p
 | .aug x px op e p => .AugAssign (.Name (nm x) px) op e.py p
 | .augS o i ps op e p => .AugAssign (.Subscript o.py i.py ps) op e.py p
 | .forS tg tp it b o p => .For (targetOf tg tp) it.py (pyS b) (pyS o) p
 | .ifS c b o p => .If c.py (pyS b) (pyS o) p
 | .ret e p => .Return (some e.py) p
 | .expr e p => .Expr e.py p
 | .brk p => .Break p
noncomputable def pyS : List Sm -> List Stmt
 | [] => []
 | s :: r => s.py :: pyS r
end
inductive FB where
 | stmts (b : List Sm)
 | expr (e : Ex)
noncomputable def FB.py : FB -> FuncBody
 | .stmts b => .stmts (pyS b)
 | .expr e => .expr e.py
structure FI where
 ps : List (Nat × Pos)
 kwp : Option (Nat × Pos) := none
 dfl : Bool := false
 body : FB
 sc : List (Nat × NK)
 qual : Str
 args : Arguments
 scope : Scope
 tab : Option Nat := none
noncomputable def FI.ok (f : FI) : Prop :=
 f.args.posonlyargs = [] /\ f.args.args.map (·.arg) = f.ps.map (fun x => nm x.1) /\ f.args.vararg = none /\ f.args.kwonlyargs = [] /\ f.args.kwarg.map (·.arg) = f.kwp.map (fun x => nm x.1) /\
  f.scope.kind = .function /\ f.scope.names = (f.sc.map fun x => (nm x.1, x.2.py)) /\ f.scope.isGenerator = false /\ f.scope.isCoroutine = false
end
noncomputable abbrev qP (a b d : Nat) : Pos := ⟨a, b, a, d⟩
noncomputable def fSubElement_b : List Sm := [(.assign [(20,qP 6 4 10)] (.merge (.name 20 (qP 6 16 22)) (.name 21 (qP 6 26 31)) (qP 6 13 32)) (qP 6 4 32)),
 (.assign [(22,qP 7 4 11)] (.meth (.name 18 (qP 7 14 20)) 38 (qP 7 14 32) [(.name 19 (qP 7 33 36)), (.name 20 (qP 7 38 44))] (qP 7 14 45)) (qP 7 4 45)),
 (.expr (.meth (.name 18 (qP 8 4 10)) 37 (qP 8 4 17) [(.name 22 (qP 8 18 25))] (qP 8 4 26)) (qP 8 4 26)),
 (.ret (.name 22 (qP 9 11 18)) (qP 9 4 18))]
noncomputable def fSubElement : FI := { ps := [(18,qP 5 15 21),(19,qP 5 23 26),(20,qP 5 28 34)], kwp := some (21,qP 5 41 46), dfl := true, body := .stmts fSubElement_b, sc := [(18,.loc),(19,.loc),(20,.loc),(21,.loc),(22,.loc)], qual := Str.ofString "SubElement", args := { posonlyargs := [], args := [{ arg := nm 18, annotation := none, pos := (qP 5 15 21) },{ arg := nm 19, annotation := none, pos := (qP 5 23 26) },{ arg := nm 20, annotation := none, pos := (qP 5 28 34) }], vararg := none, kwonlyargs := [], kw_defaults := [], kwarg := some { arg := nm 21, annotation := none, pos := (qP 5 41 46) }, defaults := [.Dict [] [] ⟨5, 35, 5, 37⟩] }, scope := scopeOf [(18,.loc),(19,.loc),(20,.loc),(21,.loc),(22,.loc)] [] }
noncomputable def f_serialize_text_b : List Sm := [(.forS [(25,qP 11 8 12)] none (.meth (.name 24 (qP 11 16 20)) 39 (qP 11 16 29) [] (qP 11 16 31)) [(.expr (.call (.name 23 (qP 12 8 13)) [(.name 25 (qP 12 14 18))] [] [] (qP 12 8 19)) (qP 12 8 19))] [] ⟨11,4,12,19⟩),
 (.ifS (.attr (.name 24 (qP 13 7 11)) 26 (qP 13 7 16)) [(.expr (.call (.name 23 (qP 14 8 13)) [(.attr (.name 24 (qP 14 14 18)) 26 (qP 14 14 23))] [] [] (qP 14 8 24)) (qP 14 8 24))] [] ⟨13,4,14,24⟩)]
noncomputable def f_serialize_text : FI := { ps := [(23,qP 10 20 25),(24,qP 10 27 31)], kwp := none, dfl := false, body := .stmts f_serialize_text_b, sc := [(23,.loc),(24,.loc),(25,.loc)], qual := Str.ofString "_serialize_text", args := { posonlyargs := [], args := [{ arg := nm 23, annotation := none, pos := (qP 10 20 25) },{ arg := nm 24, annotation := none, pos := (qP 10 27 31) }], vararg := none, kwonlyargs := [], kw_defaults := [], kwarg := none, defaults := [] }, scope := scopeOf [(23,.loc),(24,.loc),(25,.loc)] [] }
noncomputable def fpretty_flags_b : List Sm := [(.assign [(28,qP 18 4 9)] (.list [] (qP 18 12 14)) (qP 18 4 14)),
 (.forS [(29,qP 19 8 9)] none (.call (.name 59 (qP 19 13 18)) [(.int 32 (qP 19 19 21))] [] [] (qP 19 13 22)) [(.assign [(60,qP 20 8 12)] (.bin (.int 1 (qP 20 15 16)) .LShift (.name 29 (qP 20 20 21)) (qP 20 15 21)) (qP 20 8 21)),
 (.ifS (.bin (.name 27 (qP 21 11 16)) .BitAnd (.name 60 (qP 21 19 23)) (qP 21 11 23)) [(.expr (.meth (.name 28 (qP 22 12 17)) 37 (qP 22 12 24) [(.meth (.name 12 (qP 22 25 44)) 101 (qP 22 25 48) [(.name 60 (qP 22 49 53)), (.call (.name 96 (qP 22 55 58)) [(.name 60 (qP 22 59 63))] [] [] (qP 22 55 64))] (qP 22 25 65))] (qP 22 12 66)) (qP 22 12 66)),
 (.aug 27 (qP 23 12 17) .BitXor (.name 60 (qP 23 21 25)) (qP 23 12 25)),
 (.ifS (.not (.name 27 (qP 24 19 24)) (qP 24 15 24)) [(.brk (qP 25 16 21))] [] ⟨24,12,25,21⟩)] [] ⟨21,8,25,21⟩)] [(.expr (.meth (.name 28 (qP 27 8 13)) 37 (qP 27 8 20) [(.call (.name 96 (qP 27 21 24)) [(.name 27 (qP 27 25 30))] [] [] (qP 27 21 31))] (qP 27 8 32)) (qP 27 8 32))] ⟨19,4,27,32⟩),
 (.ret (.meth (.str ⟨#[44,32]⟩ (qP 28 11 15)) 61 (qP 28 11 20) [(.name 28 (qP 28 21 26))] (qP 28 11 27)) (qP 28 4 27))]
noncomputable def fpretty_flags : FI := { ps := [(27,qP 17 17 22)], kwp := none, dfl := false, body := .stmts fpretty_flags_b, sc := [(27,.loc),(28,.loc),(29,.loc),(60,.loc),(59,.glo),(12,.glo),(96,.glo)], qual := Str.ofString "pretty_flags", args := { posonlyargs := [], args := [{ arg := nm 27, annotation := none, pos := (qP 17 17 22) }], vararg := none, kwonlyargs := [], kw_defaults := [], kwarg := none, defaults := [] }, scope := scopeOf [(27,.loc),(28,.loc),(29,.loc),(60,.loc),(59,.glo),(12,.glo),(96,.glo)] [] }
noncomputable def fWhitespace___init___b : List Sm := [(.assignA (.name 64 (qP 34 8 12)) 66 (qP 34 8 16) (.name 65 (qP 34 19 21)) (qP 34 8 21)),
 (.assignT [(62,qP 35 8 9),(63,qP 35 11 12)] (qP 35 8 12) (.tuple [(.attr (.name 3 (qP 35 16 26)) 62 (qP 35 16 28)), (.attr (.name 3 (qP 35 30 40)) 63 (qP 35 30 42))] (qP 35 15 43)) (qP 35 8 43)),
 (.assign [(67,qP 36 8 13)] (.list [] (qP 36 16 18)) (qP 36 8 18)),
 (.assign [(68,qP 37 8 9),(69,qP 37 12 13),(70,qP 37 16 18)] (.int 0 (qP 37 21 22)) (qP 37 8 22)),
 (.forS [(71,qP 38 12 14)] none (.attr (.name 64 (qP 38 18 22)) 66 (qP 38 18 26)) [(.ifS (.cmp (.name 71 (qP 39 15 17)) .Eq (.name 62 (qP 39 21 22)) (qP 39 15 22)) [(.assign [(69,qP 40 16 17)] (.bin (.name 69 (qP 40 20 21)) .Add (.int 1 (qP 40 24 25)) (qP 40 20 25)) (qP 40 16 25)),
 (.assign [(68,qP 41 16 17)] (.bin (.name 68 (qP 41 20 21)) .Add (.int 1 (qP 41 24 25)) (qP 41 20 25)) (qP 41 16 25))] [(.ifS (.cmp (.name 71 (qP 42 17 19)) .Eq (.name 63 (qP 42 23 24)) (qP 42 17 24)) [(.assign [(69,qP 43 16 17)] (.bin (.name 69 (qP 43 20 21)) .Add (.int 1 (qP 43 24 25)) (qP 43 20 25)) (qP 43 16 25)),
 (.assign [(70,qP 44 16 18)] (.bin (.name 70 (qP 44 21 23)) .Add (.int 1 (qP 44 26 27)) (qP 44 21 27)) (qP 44 16 27)),
 (.ifS (.cmp (.name 68 (qP 45 19 20)) .GtE (.call (.name 87 (qP 45 24 27)) [(.name 67 (qP 45 28 33))] [] [] (qP 45 24 34)) (qP 45 19 34)) [(.assign [(67,qP 46 20 25)] (.bin (.name 67 (qP 46 28 33)) .Add (.bin (.list [(.int 0 (qP 46 37 38))] (qP 46 36 39)) .Mult (.bin (.bin (.name 68 (qP 46 43 44)) .Sub (.call (.name 87 (qP 46 47 50)) [(.name 67 (qP 46 51 56))] [] [] (qP 46 47 57)) (qP 46 43 57)) .Add (.int 1 (qP 46 60 61)) (qP 46 43 61)) (qP 46 36 62)) (qP 46 28 62)) (qP 46 20 62))] [] ⟨45,16,46,62⟩),
 (.assignS (.name 67 (qP 47 16 21)) (.name 68 (qP 47 22 23)) (qP 47 16 24) (.bin (.sub (.name 67 (qP 47 27 32)) (.name 68 (qP 47 33 34)) (qP 47 27 35)) .Add (.int 1 (qP 47 38 39)) (qP 47 27 39)) (qP 47 16 39)),
 (.assign [(68,qP 48 16 17)] (.int 0 (qP 48 20 21)) (qP 48 16 21))] [(.brk (qP 50 16 21))] ⟨42,12,50,21⟩)] ⟨39,12,50,21⟩)] [] ⟨38,8,50,21⟩),
 (.assignA (.name 64 (qP 51 8 12)) 69 (qP 51 8 14) (.name 69 (qP 51 17 18)) (qP 51 8 18)),
 (.assignA (.name 64 (qP 52 8 12)) 70 (qP 52 8 15) (.name 70 (qP 52 18 20)) (qP 52 8 20)),
 (.assignA (.name 64 (qP 53 8 12)) 72 (qP 53 8 17) (.tuple [(.call (.name 97 (qP 53 21 26)) [(.name 67 (qP 53 27 32))] [] [] (qP 53 21 33)), (.name 68 (qP 53 35 36))] (qP 53 20 37)) (qP 53 8 37)),
 (.assignA (.name 64 (qP 54 8 12)) 73 (qP 54 8 22) (.cmp (.call (.name 87 (qP 54 25 28)) [(.name 67 (qP 54 29 34))] [] [] (qP 54 25 35)) .LtE (.int 1 (qP 54 39 40)) (qP 54 25 40)) (qP 54 8 40))]
noncomputable def fWhitespace___init__ : FI := { ps := [(64,qP 33 17 21),(65,qP 33 23 25)], kwp := none, dfl := false, body := .stmts fWhitespace___init___b, sc := [(64,.loc),(65,.loc),(62,.loc),(63,.loc),(67,.loc),(68,.loc),(69,.loc),(70,.loc),(71,.loc),(3,.glo),(87,.glo),(97,.glo)], qual := Str.ofString "Whitespace.__init__", args := { posonlyargs := [], args := [{ arg := nm 64, annotation := none, pos := (qP 33 17 21) },{ arg := nm 65, annotation := none, pos := (qP 33 23 25) }], vararg := none, kwonlyargs := [], kw_defaults := [], kwarg := none, defaults := [] }, scope := scopeOf [(64,.loc),(65,.loc),(62,.loc),(63,.loc),(67,.loc),(68,.loc),(69,.loc),(70,.loc),(71,.loc),(3,.glo),(87,.glo),(97,.glo)] [] }
noncomputable def fWhitespace_longest_run_of_spaces_b : List Sm := [(.assignT [(67,qP 57 8 13),(85,qP 57 15 23)] (qP 57 8 23) (.attr (.name 64 (qP 57 26 30)) 72 (qP 57 26 35)) (qP 57 8 35)),
 (.ret (.call (.name 86 (qP 58 15 18)) [(.bin (.call (.name 87 (qP 58 19 22)) [(.name 67 (qP 58 23 28))] [] [] (qP 58 19 29)) .Sub (.int 1 (qP 58 32 33)) (qP 58 19 33)), (.name 85 (qP 58 35 43))] [] [] (qP 58 15 44)) (qP 58 8 44))]
noncomputable def fWhitespace_longest_run_of_spaces : FI := { ps := [(64,qP 56 30 34)], kwp := none, dfl := false, body := .stmts fWhitespace_longest_run_of_spaces_b, sc := [(64,.loc),(67,.loc),(85,.loc),(86,.glo),(87,.glo)], qual := Str.ofString "Whitespace.longest_run_of_spaces", args := { posonlyargs := [], args := [{ arg := nm 64, annotation := none, pos := (qP 56 30 34) }], vararg := none, kwonlyargs := [], kw_defaults := [], kwarg := none, defaults := [] }, scope := scopeOf [(64,.loc),(67,.loc),(85,.loc),(86,.glo),(87,.glo)] [] }
noncomputable def fWhitespace_indent_level_b : List Sm := [(.assignT [(67,qP 61 8 13),(85,qP 61 15 23)] (qP 61 8 23) (.attr (.name 64 (qP 61 26 30)) 72 (qP 61 26 35)) (qP 61 8 35)),
 (.assign [(75,qP 62 8 10)] (.int 0 (qP 62 13 14)) (qP 62 8 14)),
 (.forS [(29,qP 63 12 13)] none (.call (.name 59 (qP 63 17 22)) [(.name 74 (qP 63 23 30)), (.call (.name 87 (qP 63 32 35)) [(.name 67 (qP 63 36 41))] [] [] (qP 63 32 42))] [] [] (qP 63 17 43)) [(.assign [(75,qP 64 12 14)] (.bin (.name 75 (qP 64 17 19)) .Add (.bin (.bin (.name 29 (qP 64 22 23)) .FloorDiv (.name 74 (qP 64 27 34)) (qP 64 22 34)) .Mult (.sub (.name 67 (qP 64 37 42)) (.name 29 (qP 64 43 44)) (qP 64 37 45)) (qP 64 22 45)) (qP 64 17 45)) (qP 64 12 45))] [] ⟨63,8,64,45⟩),
 (.ret (.bin (.name 85 (qP 65 15 23)) .Add (.bin (.name 74 (qP 65 26 33)) .Mult (.bin (.name 75 (qP 65 37 39)) .Add (.attr (.name 64 (qP 65 42 46)) 70 (qP 65 42 49)) (qP 65 37 49)) (qP 65 26 50)) (qP 65 15 50)) (qP 65 8 50))]
noncomputable def fWhitespace_indent_level : FI := { ps := [(64,qP 60 21 25),(74,qP 60 27 34)], kwp := none, dfl := false, body := .stmts fWhitespace_indent_level_b, sc := [(64,.loc),(74,.loc),(67,.loc),(85,.loc),(75,.loc),(29,.loc),(59,.glo),(87,.glo)], qual := Str.ofString "Whitespace.indent_level", args := { posonlyargs := [], args := [{ arg := nm 64, annotation := none, pos := (qP 60 21 25) },{ arg := nm 74, annotation := none, pos := (qP 60 27 34) }], vararg := none, kwonlyargs := [], kw_defaults := [], kwarg := none, defaults := [] }, scope := scopeOf [(64,.loc),(74,.loc),(67,.loc),(85,.loc),(75,.loc),(29,.loc),(59,.glo),(87,.glo)] [] }
noncomputable def fWhitespace_equal_b : List Sm := [(.ret (.cmp (.attr (.name 64 (qP 68 15 19)) 72 (qP 68 15 24)) .Eq (.attr (.name 76 (qP 68 28 33)) 72 (qP 68 28 38)) (qP 68 15 38)) (qP 68 8 38))]
noncomputable def fWhitespace_equal : FI := { ps := [(64,qP 67 14 18),(76,qP 67 20 25)], kwp := none, dfl := false, body := .stmts fWhitespace_equal_b, sc := [(64,.loc),(76,.loc)], qual := Str.ofString "Whitespace.equal", args := { posonlyargs := [], args := [{ arg := nm 64, annotation := none, pos := (qP 67 14 18) },{ arg := nm 76, annotation := none, pos := (qP 67 20 25) }], vararg := none, kwonlyargs := [], kw_defaults := [], kwarg := none, defaults := [] }, scope := scopeOf [(64,.loc),(76,.loc)] [] }
noncomputable def fWhitespace_less_b : List Sm := [(.ifS (.cmp (.attr (.name 64 (qP 74 11 15)) 69 (qP 74 11 17)) .GtE (.attr (.name 76 (qP 74 21 26)) 69 (qP 74 21 28)) (qP 74 11 28)) [(.ret (.bool false (qP 75 19 24)) (qP 75 12 24))] [] ⟨74,8,75,24⟩),
 (.ifS (.bool2 .And (.attr (.name 64 (qP 76 11 15)) 73 (qP 76 11 25)) (.attr (.name 76 (qP 76 30 35)) 73 (qP 76 30 45)) (qP 76 11 45)) [(.ret (.cmp (.attr (.name 64 (qP 77 19 23)) 70 (qP 77 19 26)) .LtE (.attr (.name 76 (qP 77 30 35)) 70 (qP 77 30 38)) (qP 77 19 38)) (qP 77 12 38))] [] ⟨76,8,77,38⟩),
 (.assign [(69,qP 78 8 9)] (.bin (.call (.name 86 (qP 78 12 15)) [(.meth (.name 64 (qP 78 16 20)) 13 (qP 78 16 42) [] (qP 78 16 44)), (.meth (.name 76 (qP 78 46 51)) 13 (qP 78 46 73) [] (qP 78 46 75))] [] [] (qP 78 12 76)) .Add (.int 1 (qP 78 79 80)) (qP 78 12 80)) (qP 78 8 80)),
 (.forS [(77,qP 79 12 14)] none (.call (.name 59 (qP 79 18 23)) [(.int 2 (qP 79 24 25)), (.bin (.name 69 (qP 79 27 28)) .Add (.int 1 (qP 79 31 32)) (qP 79 27 32))] [] [] (qP 79 18 33)) [(.ifS (.cmp (.meth (.name 64 (qP 80 15 19)) 14 (qP 80 15 32) [(.name 77 (qP 80 33 35))] (qP 80 15 36)) .GtE (.meth (.name 76 (qP 80 40 45)) 14 (qP 80 40 58) [(.name 77 (qP 80 59 61))] (qP 80 40 62)) (qP 80 15 62)) [(.ret (.bool false (qP 81 23 28)) (qP 81 16 28))] [] ⟨80,12,81,28⟩)] [] ⟨79,8,81,28⟩),
 (.ret (.bool true (qP 82 15 19)) (qP 82 8 19))]
noncomputable def fWhitespace_less : FI := { ps := [(64,qP 73 13 17),(76,qP 73 19 24)], kwp := none, dfl := false, body := .stmts fWhitespace_less_b, sc := [(64,.loc),(76,.loc),(69,.loc),(77,.loc),(86,.glo),(59,.glo)], qual := Str.ofString "Whitespace.less", args := { posonlyargs := [], args := [{ arg := nm 64, annotation := none, pos := (qP 73 13 17) },{ arg := nm 76, annotation := none, pos := (qP 73 19 24) }], vararg := none, kwonlyargs := [], kw_defaults := [], kwarg := none, defaults := [] }, scope := scopeOf [(64,.loc),(76,.loc),(69,.loc),(77,.loc),(86,.glo),(59,.glo)] [] }
noncomputable def fWhitespace_not_less_witness_b : List Sm := [(.assign [(69,qP 85 8 9)] (.bin (.call (.name 86 (qP 85 12 15)) [(.meth (.name 64 (qP 85 16 20)) 13 (qP 85 16 42) [] (qP 85 16 44)), (.meth (.name 76 (qP 85 46 51)) 13 (qP 85 46 73) [] (qP 85 46 75))] [] [] (qP 85 12 76)) .Add (.int 1 (qP 85 79 80)) (qP 85 12 80)) (qP 85 8 80)),
 (.assign [(78,qP 86 8 9)] (.list [] (qP 86 12 14)) (qP 86 8 14)),
 (.forS [(77,qP 87 12 14)] none (.call (.name 59 (qP 87 18 23)) [(.int 1 (qP 87 24 25)), (.bin (.name 69 (qP 87 27 28)) .Add (.int 1 (qP 87 31 32)) (qP 87 27 32))] [] [] (qP 87 18 33)) [(.ifS (.cmp (.meth (.name 64 (qP 88 15 19)) 14 (qP 88 15 32) [(.name 77 (qP 88 33 35))] (qP 88 15 36)) .GtE (.meth (.name 76 (qP 88 40 45)) 14 (qP 88 40 58) [(.name 77 (qP 88 59 61))] (qP 88 40 62)) (qP 88 15 62)) [(.expr (.meth (.name 78 (qP 89 16 17)) 37 (qP 89 16 24) [(.tuple [(.name 77 (qP 89 26 28)), (.meth (.name 64 (qP 89 30 34)) 14 (qP 89 30 47) [(.name 77 (qP 89 48 50))] (qP 89 30 51)), (.meth (.name 76 (qP 89 53 58)) 14 (qP 89 53 71) [(.name 77 (qP 89 72 74))] (qP 89 53 75))] (qP 89 25 76))] (qP 89 16 77)) (qP 89 16 77))] [] ⟨88,12,89,77⟩)] [] ⟨87,8,89,77⟩),
 (.ret (.name 78 (qP 90 15 16)) (qP 90 8 16))]
noncomputable def fWhitespace_not_less_witness : FI := { ps := [(64,qP 84 25 29),(76,qP 84 31 36)], kwp := none, dfl := false, body := .stmts fWhitespace_not_less_witness_b, sc := [(64,.loc),(76,.loc),(69,.loc),(78,.loc),(77,.loc),(86,.glo),(59,.glo)], qual := Str.ofString "Whitespace.not_less_witness", args := { posonlyargs := [], args := [{ arg := nm 64, annotation := none, pos := (qP 84 25 29) },{ arg := nm 76, annotation := none, pos := (qP 84 31 36) }], vararg := none, kwonlyargs := [], kw_defaults := [], kwarg := none, defaults := [] }, scope := scopeOf [(64,.loc),(76,.loc),(69,.loc),(78,.loc),(77,.loc),(86,.glo),(59,.glo)] [] }
noncomputable def f_law_numbers_b : List Sm := [(.assign [(31,qP 93 4 11)] (.list [(.int 2 (qP 93 15 16)), (.int 9 (qP 93 18 19)), (.int 13 (qP 93 21 23)), (.int 5 (qP 93 25 26)), (.int 17 (qP 93 28 30))] (qP 93 14 31)) (qP 93 4 31)),
 (.forS [(32,qP 94 8 13)] none (.call (.name 59 (qP 94 17 22)) [(.call (.name 87 (qP 94 23 26)) [(.name 30 (qP 94 27 33))] [] [] (qP 94 23 34))] [] [] (qP 94 17 35)) [(.augS (.name 31 (qP 95 8 15)) (.bin (.name 32 (qP 95 16 21)) .Mod (.int 5 (qP 95 24 25)) (qP 95 16 25)) (qP 95 8 26) .Add (.bin (.sub (.name 30 (qP 95 30 36)) (.name 32 (qP 95 37 42)) (qP 95 30 43)) .Mod (.bin (.int 10 (qP 95 46 48)) .Pow (.int 6 (qP 95 52 53)) (qP 95 46 53)) (qP 95 30 53)) (qP 95 8 53))] [] ⟨94,4,95,53⟩),
 (.ret (.name 31 (qP 96 11 18)) (qP 96 4 18))]
noncomputable def f_law_numbers : FI := { ps := [(30,qP 92 17 23)], kwp := none, dfl := false, body := .stmts f_law_numbers_b, sc := [(30,.loc),(31,.loc),(32,.loc),(59,.glo),(87,.glo)], qual := Str.ofString "_law_numbers", args := { posonlyargs := [], args := [{ arg := nm 30, annotation := none, pos := (qP 92 17 23) }], vararg := none, kwonlyargs := [], kw_defaults := [], kwarg := none, defaults := [] }, scope := scopeOf [(30,.loc),(31,.loc),(32,.loc),(59,.glo),(87,.glo)] [] }
noncomputable def f_law_names_b : List Sm := [(.ret (.list [(.str ⟨#[79,80,84,73,77,73,90,69,68]⟩ (qP 98 12 23)), (.str ⟨#[78,69,87,76,79,67,65,76,83]⟩ (qP 98 25 36)), (.str ⟨#[86,65,82,65,82,71,83]⟩ (qP 98 38 47)), (.str ⟨#[86,65,82,75,69,89,87,79,82,68,83]⟩ (qP 98 49 62)), (.str ⟨#[78,69,83,84,69,68]⟩ (qP 98 64 72)), (.str ⟨#[71,69,78,69,82,65,84,79,82]⟩ (qP 98 74 85)), (.str ⟨#[78,79,70,82,69,69]⟩ (qP 98 87 95)), (.str ⟨#[67,79,82,79,85,84,73,78,69]⟩ (qP 98 97 108)), (.str ⟨#[73,84,69,82,65,66,76,69,95,67,79,82,79,85,84,73,78,69]⟩ (qP 98 110 130)), (.str ⟨#[65,83,89,78,67,95,71,69,78,69,82,65,84,79,82]⟩ (qP 98 132 149)), (.str ⟨#[48,120,52,48,48]⟩ (qP 98 151 158)), (.str ⟨#[48,120,56,48,48]⟩ (qP 98 160 167)), (.str ⟨#[48,120,49,48,48,48]⟩ (qP 98 169 177))] (qP 98 11 178)) (qP 98 4 178))]
noncomputable def f_law_names : FI := { ps := [], kwp := none, dfl := false, body := .stmts f_law_names_b, sc := [], qual := Str.ofString "_law_names", args := { posonlyargs := [], args := [], vararg := none, kwonlyargs := [], kw_defaults := [], kwarg := none, defaults := [] }, scope := scopeOf [] [] }
noncomputable def f_law_words_b : List Sm := [(.assign [(28,qP 100 4 9)] (.call (.name 5 (qP 100 12 22)) [] [] [] (qP 100 12 24)) (qP 100 4 24)),
 (.assign [(35,qP 101 4 9)] (.meth (.call (.name 2 (qP 101 12 24)) [(.bin (.name 33 (qP 101 25 31)) .LShift (.name 34 (qP 101 35 39)) (qP 101 25 39))] [] [] (qP 101 12 40)) 79 (qP 101 12 46) [(.str ⟨#[44,32]⟩ (qP 101 47 51))] (qP 101 12 52)) (qP 101 4 52)),
 (.ret (.ite (.cmp (.name 35 (qP 102 20 25)) .Eq (.comp (.sub (.name 28 (qP 102 30 35)) (.bin (.name 34 (qP 102 36 40)) .Add (.name 32 (qP 102 43 48)) (qP 102 36 48)) (qP 102 30 49)) [(32,qP 102 54 59)] none (.call (.name 59 (qP 102 63 68)) [(.int 6 (qP 102 69 70))] [] [] (qP 102 63 71)) [(.bin (.bin (.name 33 (qP 102 75 81)) .RShift (.name 32 (qP 102 85 90)) (qP 102 75 90)) .BitAnd (.int 1 (qP 102 93 94)) (qP 102 75 94))] [(103,.loc),(32,.loc),(34,.fre),(28,.fre),(33,.fre)] (qP 102 29 95)) (qP 102 20 95)) (.name 35 (qP 102 11 16)) (.list [] (qP 102 101 103)) (qP 102 11 103)) (qP 102 4 103))]
noncomputable def f_law_words : FI := { ps := [(33,qP 99 15 21),(34,qP 99 23 27)], kwp := none, dfl := false, body := .stmts f_law_words_b, sc := [(33,.cel),(34,.cel),(28,.cel),(35,.loc),(5,.glo),(2,.glo),(59,.glo)], qual := Str.ofString "_law_words", args := { posonlyargs := [], args := [{ arg := nm 33, annotation := none, pos := (qP 99 15 21) },{ arg := nm 34, annotation := none, pos := (qP 99 23 27) }], vararg := none, kwonlyargs := [], kw_defaults := [], kwarg := none, defaults := [] }, scope := scopeOf [(33,.cel),(34,.cel),(28,.cel),(35,.loc),(5,.glo),(2,.glo),(59,.glo)] [(Str.ofString "fast", .str (Str.ofString "number")),(Str.ofString "fast", .str (Str.ofString "base")),(Str.ofString "fast", .str (Str.ofString "names")),(Str.ofString "fast", .str (Str.ofString "words")),(Str.ofString "fast", .str (Str.ofString "place"))] }
noncomputable def f_law_element_b : List Sm := [(.assign [(36,qP 104 4 9)] (.list [] (qP 104 12 14)) (qP 104 4 14)),
 (.assign [(22,qP 105 4 11)] (.lam [] (.none (qP 105 22 26)) [] [] (qP 105 14 26)) (qP 105 4 26)),
 (.assignA (.name 22 (qP 106 4 11)) 19 (qP 106 4 15) (.name 19 (qP 106 18 21)) (qP 106 4 21)),
 (.assignA (.name 22 (qP 107 4 11)) 26 (qP 107 4 16) (.str ⟨#[]⟩ (qP 107 19 21)) (qP 107 4 21)),
 (.assignA (.name 22 (qP 108 4 11)) 37 (qP 108 4 18) (.lam [(88,qP 108 28 33)] (.meth (.name 36 (qP 108 35 40)) 37 (qP 108 35 47) [(.name 88 (qP 108 48 53))] (qP 108 35 54)) [(88,.loc),(36,.fre)] [] (qP 108 21 54)) (qP 108 4 54)),
 (.assignA (.name 22 (qP 109 4 11)) 38 (qP 109 4 23) (.name 7 (qP 109 26 38)) (qP 109 4 38)),
 (.assignA (.name 22 (qP 110 4 11)) 39 (qP 110 4 20) (.lam [] (.bin (.list [(.bin (.sub (.name 20 (qP 110 32 38)) (.str ⟨#[108,101,97,100]⟩ (qP 110 39 45)) (qP 110 32 46)) .Add (.sub (.name 20 (qP 110 49 55)) (.str ⟨#[101,110,100]⟩ (qP 110 56 61)) (qP 110 49 62)) (qP 110 32 62))] (qP 110 31 63)) .Add (.comp2 (.name 25 (qP 110 67 71)) 88 (qP 110 76 81) (.name 36 (qP 110 85 90)) 25 (qP 110 95 99) (.meth (.name 88 (qP 110 103 108)) 39 (qP 110 103 117) [] (qP 110 103 119)) [] [(103,.loc),(88,.loc),(25,.loc)] (qP 110 66 120)) (qP 110 31 120)) [(20,.fre),(36,.fre)] [88,25,20,36] (qP 110 23 120)) (qP 110 4 120)),
 (.ret (.name 22 (qP 111 11 18)) (qP 111 4 18))]
noncomputable def f_law_element : FI := { tab := some 0, ps := [(19,qP 103 17 20),(20,qP 103 22 28)], kwp := none, dfl := false, body := .stmts f_law_element_b, sc := [(19,.loc),(20,.cel),(22,.loc),(36,.cel),(7,.glo)], qual := Str.ofString "_law_element", args := { posonlyargs := [], args := [{ arg := nm 19, annotation := none, pos := (qP 103 17 20) },{ arg := nm 20, annotation := none, pos := (qP 103 22 28) }], vararg := none, kwonlyargs := [], kw_defaults := [], kwarg := none, defaults := [] }, scope := scopeOf [(19,.loc),(20,.cel),(22,.loc),(36,.cel),(7,.glo)] [] }
noncomputable def f_law_given_b : List Sm := [(.ret (.comp (.dict [(⟨#[108,101,97,100]⟩,qP 113 13 19),(⟨#[101,110,100]⟩,qP 113 33 38)] [(.bin (.str ⟨#[32]⟩ (qP 113 21 24)) .Mult (.name 89 (qP 113 27 31)) (qP 113 21 31)), (.ite (.cmp (.name 89 (qP 113 48 52)) .Eq (.int 3 (qP 113 56 57)) (qP 113 48 57)) (.str ⟨#[9]⟩ (qP 113 40 44)) (.str ⟨#[]⟩ (qP 113 63 65)) (qP 113 40 65))] (qP 113 12 66)) [(89,qP 113 71 75)] none (.call (.name 59 (qP 113 79 84)) [(.int 4 (qP 113 85 86))] [] [] (qP 113 79 87)) [] [(103,.loc),(89,.loc)] (qP 113 11 88)) (qP 113 4 88))]
noncomputable def f_law_given : FI := { ps := [], kwp := none, dfl := false, body := .stmts f_law_given_b, sc := [(59,.glo)], qual := Str.ofString "_law_given", args := { posonlyargs := [], args := [], vararg := none, kwonlyargs := [], kw_defaults := [], kwarg := none, defaults := [] }, scope := scopeOf [(59,.glo)] [(Str.ofString "fast", .str (Str.ofString "size"))] }
noncomputable def f_law_lead_b : List Sm := [(.assign [(42,qP 115 4 9)] (.call (.name 8 (qP 115 12 22)) [] [] [] (qP 115 12 24)) (qP 115 4 24)),
 (.assign [(43,qP 116 4 10)] (.call (.name 7 (qP 116 13 25)) [(.str ⟨#[]⟩ (qP 116 26 28)), (.sub (.name 42 (qP 116 30 35)) (.int 0 (qP 116 36 37)) (qP 116 30 38))] [] [] (qP 116 13 39)) (qP 116 4 39)),
 (.assignA (.name 43 (qP 117 4 10)) 26 (qP 117 4 15) (.bin (.str ⟨#[32]⟩ (qP 117 18 21)) .Mult (.name 41 (qP 117 24 30)) (qP 117 18 30)) (qP 117 4 30)),
 (.assign [(44,qP 118 4 9)] (.dict [(⟨#[]⟩,qP 118 13 15)] [(.call (.name 0 (qP 118 17 27)) [(.name 43 (qP 118 28 34)), (.str ⟨#[]⟩ (qP 118 36 38))] [(90,qP 118 40 47),(91,qP 118 49 57)] [(.str ⟨#[]⟩ (qP 118 45 47)), (.str ⟨#[9]⟩ (qP 118 53 57))] (qP 118 17 58))] (qP 118 12 59)) (qP 118 4 59)),
 (.forS [(80,qP 119 8 11),(81,qP 119 13 19),(82,qP 119 21 25)] (some (qP 119 8 25)) (.name 40 (qP 119 29 33)) [(.forS [(83,qP 120 12 15)] none (.list [(.list [(.name 80 (qP 120 21 24))] (qP 120 20 25)), (.list [(.name 81 (qP 120 28 34))] (qP 120 27 35)), (.list [(.name 82 (qP 120 38 42))] (qP 120 37 43)), (.list [(.name 80 (qP 120 46 49)), (.name 81 (qP 120 51 57))] (qP 120 45 58)), (.list [(.name 80 (qP 120 61 64)), (.name 82 (qP 120 66 70))] (qP 120 60 71)), (.list [(.name 81 (qP 120 74 80)), (.name 82 (qP 120 82 86))] (qP 120 73 87)), (.list [(.name 80 (qP 120 90 93)), (.name 81 (qP 120 95 101)), (.name 82 (qP 120 103 107))] (qP 120 89 108))] (qP 120 19 109)) [(.assignT [(98,qP 121 12 16),(99,qP 121 18 23)] (qP 121 12 23) (.tuple [(.meth (.str ⟨#[44,32]⟩ (qP 121 27 31)) 61 (qP 121 27 36) [(.name 83 (qP 121 37 40))] (qP 121 27 41)), (.meth (.str ⟨#[44,32]⟩ (qP 121 43 47)) 61 (qP 121 43 52) [(.subTo (.name 83 (qP 121 53 56)) (.neg (.int 1 (qP 121 59 60)) (qP 121 58 60)) (qP 121 57 60) (qP 121 53 61))] (qP 121 43 62))] (qP 121 26 63)) (qP 121 12 63)),
 (.ifS (.cmp (.name 98 (qP 122 15 19)) .NotIn (.name 44 (qP 122 27 32)) (qP 122 15 32)) [(.assignS (.name 44 (qP 123 16 21)) (.name 98 (qP 123 22 26)) (qP 123 16 27) (.ite (.cmp (.call (.name 87 (qP 123 77 80)) [(.name 83 (qP 123 81 84))] [] [] (qP 123 77 85)) .Eq (.int 3 (qP 123 89 90)) (qP 123 77 90)) (.call (.name 0 (qP 123 30 40)) [(.sub (.name 44 (qP 123 41 46)) (.name 99 (qP 123 47 52)) (qP 123 41 53)), (.sub (.name 83 (qP 123 55 58)) (.neg (.int 1 (qP 123 60 61)) (qP 123 59 61)) (qP 123 55 62)), (.sub (.name 42 (qP 123 64 69)) (.int 3 (qP 123 70 71)) (qP 123 64 72))] [] [] (qP 123 30 73)) (.call (.name 0 (qP 123 96 106)) [(.sub (.name 44 (qP 123 107 112)) (.name 99 (qP 123 113 118)) (qP 123 107 119)), (.sub (.name 83 (qP 123 121 124)) (.neg (.int 1 (qP 123 126 127)) (qP 123 125 127)) (qP 123 121 128)), (.sub (.name 42 (qP 123 130 135)) (.call (.name 87 (qP 123 136 139)) [(.name 83 (qP 123 140 143))] [] [] (qP 123 136 144)) (qP 123 130 145))] [(91,qP 123 147 155)] [(.str ⟨#[9]⟩ (qP 123 151 155))] (qP 123 96 156)) (qP 123 30 156)) (qP 123 16 156))] [] ⟨122,12,123,156⟩)] [] ⟨120,8,123,156⟩)] [] ⟨119,4,123,156⟩),
 (.ifS (.bool2 .Or (.cmp (.name 42 (qP 124 7 12)) .NotEq (.call (.name 8 (qP 124 16 26)) [] [] [] (qP 124 16 28)) (qP 124 7 28)) (.cmp (.comp (.name 98 (qP 124 33 37)) [(98,qP 124 42 46)] none (.name 44 (qP 124 50 55)) [(.cmp (.attr (.sub (.name 44 (qP 124 59 64)) (.name 98 (qP 124 65 69)) (qP 124 59 70)) 19 (qP 124 59 74)) .NotEq (.sub (.meth (.name 98 (qP 124 78 82)) 79 (qP 124 78 88) [(.str ⟨#[44,32]⟩ (qP 124 89 93))] (qP 124 78 94)) (.neg (.int 1 (qP 124 96 97)) (qP 124 95 97)) (qP 124 78 98)) (qP 124 59 98))] [(103,.loc),(98,.loc),(44,.fre)] (qP 124 32 99)) .NotEq (.list [] (qP 124 103 105)) (qP 124 32 105)) (qP 124 7 105)) [(.ret (.str ⟨#[]⟩ (qP 125 15 17)) (qP 125 8 17))] [] ⟨124,4,125,17⟩),
 (.assignS (.sub (.name 42 (qP 126 4 9)) (.int 3 (qP 126 10 11)) (qP 126 4 12)) (.str ⟨#[101,110,100]⟩ (qP 126 13 18)) (qP 126 4 19) (.str ⟨#[]⟩ (qP 126 22 24)) (qP 126 4 24)),
 (.assign [(45,qP 127 4 9)] (.list [] (qP 127 12 14)) (qP 127 4 14)),
 (.expr (.call (.name 1 (qP 128 4 19)) [(.lam [(25,qP 128 27 31)] (.meth (.name 45 (qP 128 33 38)) 37 (qP 128 33 45) [(.name 25 (qP 128 46 50))] (qP 128 33 51)) [(25,.loc),(45,.fre)] [] (qP 128 20 51)), (.name 43 (qP 128 53 59))] [] [] (qP 128 4 60)) (qP 128 4 60)),
 (.ret (.meth (.str ⟨#[]⟩ (qP 129 11 13)) 61 (qP 129 11 18) [(.name 45 (qP 129 19 24))] (qP 129 11 25)) (qP 129 4 25))]
noncomputable def f_law_lead : FI := { tab := some 1, ps := [(40,qP 114 14 18),(41,qP 114 20 26)], kwp := none, dfl := false, body := .stmts f_law_lead_b, sc := [(40,.loc),(41,.loc),(42,.loc),(43,.loc),(44,.cel),(80,.loc),(81,.loc),(82,.loc),(83,.loc),(98,.loc),(99,.loc),(45,.cel),(8,.glo),(7,.glo),(0,.glo),(87,.glo),(1,.glo)], qual := Str.ofString "_law_lead", args := { posonlyargs := [], args := [{ arg := nm 40, annotation := none, pos := (qP 114 14 18) },{ arg := nm 41, annotation := none, pos := (qP 114 20 26) }], vararg := none, kwonlyargs := [], kw_defaults := [], kwarg := none, defaults := [] }, scope := scopeOf [(40,.loc),(41,.loc),(42,.loc),(43,.loc),(44,.cel),(80,.loc),(81,.loc),(82,.loc),(83,.loc),(98,.loc),(99,.loc),(45,.cel),(8,.glo),(7,.glo),(0,.glo),(87,.glo),(1,.glo)] [(Str.ofString "fast", .str (Str.ofString "rows")),(Str.ofString "fast", .str (Str.ofString "blanks")),(Str.ofString "fast", .str (Str.ofString "given")),(Str.ofString "fast", .str (Str.ofString "ground")),(Str.ofString "fast", .str (Str.ofString "nodes")),(Str.ofString "fast", .str (Str.ofString "low")),(Str.ofString "fast", .str (Str.ofString "middle")),(Str.ofString "fast", .str (Str.ofString "high")),(Str.ofString "fast", .str (Str.ofString "row")),(Str.ofString "fast", .str (Str.ofString "path")),(Str.ofString "fast", .str (Str.ofString "above")),(Str.ofString "fast", .str (Str.ofString "parts"))] }
noncomputable def f_law_column_b : List Sm := [(.ret (.bin (.name 41 (qP 131 11 17)) .Add (.call (.name 92 (qP 131 20 23)) [(.comp (.bin (.bin (.sub (.name 46 (qP 131 25 31)) (.name 102 (qP 131 32 35)) (qP 131 25 36)) .Mult (.bin (.bin (.name 102 (qP 131 40 43)) .FloorDiv (.name 47 (qP 131 47 50)) (qP 131 40 50)) .Add (.int 1 (qP 131 53 54)) (qP 131 40 54)) (qP 131 25 55)) .Mult (.name 47 (qP 131 58 61)) (qP 131 25 61)) [(102,qP 131 66 69)] none (.call (.name 59 (qP 131 73 78)) [(.call (.name 87 (qP 131 79 82)) [(.name 46 (qP 131 83 89))] [] [] (qP 131 79 90))] [] [] (qP 131 73 91)) [] [(103,.loc),(102,.loc),(46,.fre),(47,.fre)] (qP 131 24 92))] [] [] (qP 131 20 93)) (qP 131 11 93)) (qP 131 4 93))]
noncomputable def f_law_column : FI := { ps := [(46,qP 130 16 22),(41,qP 130 24 30),(47,qP 130 32 35)], kwp := none, dfl := false, body := .stmts f_law_column_b, sc := [(46,.cel),(41,.loc),(47,.cel),(92,.glo),(59,.glo),(87,.glo)], qual := Str.ofString "_law_column", args := { posonlyargs := [], args := [{ arg := nm 46, annotation := none, pos := (qP 130 16 22) },{ arg := nm 41, annotation := none, pos := (qP 130 24 30) },{ arg := nm 47, annotation := none, pos := (qP 130 32 35) }], vararg := none, kwonlyargs := [], kw_defaults := [], kwarg := none, defaults := [] }, scope := scopeOf [(46,.cel),(41,.loc),(47,.cel),(92,.glo),(59,.glo),(87,.glo)] [(Str.ofString "fast", .str (Str.ofString "counts")),(Str.ofString "fast", .str (Str.ofString "blanks")),(Str.ofString "fast", .str (Str.ofString "tab")),(Str.ofString "fast", .str (Str.ofString "run"))] }
noncomputable def flaw_b : List Sm := [(.assign [(31,qP 133 4 11)] (.call (.name 4 (qP 133 14 26)) [(.name 30 (qP 133 27 33))] [] [] (qP 133 14 34)) (qP 133 4 34)),
 (.assign [(34,qP 134 4 8)] (.bin (.call (.name 92 (qP 134 11 14)) [(.name 31 (qP 134 15 22))] [] [] (qP 134 11 23)) .Mod (.int 8 (qP 134 26 27)) (qP 134 11 27)) (qP 134 4 27)),
 (.assign [(41,qP 135 4 10)] (.bin (.bin (.call (.name 92 (qP 135 13 16)) [(.name 31 (qP 135 17 24))] [] [] (qP 135 13 25)) .FloorDiv (.int 8 (qP 135 29 30)) (qP 135 13 30)) .Mod (.int 3 (qP 135 33 34)) (qP 135 13 34)) (qP 135 4 34)),
 (.assign [(48,qP 136 4 11)] (.list [(.int 7 (qP 136 15 16)), (.int 11 (qP 136 18 20)), (.int 13 (qP 136 22 24)), (.int 14 (qP 136 26 28)), (.int 19 (qP 136 30 32)), (.int 21 (qP 136 34 36)), (.int 22 (qP 136 38 40)), (.int 25 (qP 136 42 44)), (.int 26 (qP 136 46 48)), (.int 28 (qP 136 50 52)), (.int 35 (qP 136 54 56)), (.int 37 (qP 136 58 60)), (.int 38 (qP 136 62 64)), (.int 41 (qP 136 66 68)), (.int 42 (qP 136 70 72)), (.int 44 (qP 136 74 76)), (.int 49 (qP 136 78 80)), (.int 50 (qP 136 82 84)), (.int 52 (qP 136 86 88)), (.int 56 (qP 136 90 92))] (qP 136 14 93)) (qP 136 4 93)),
 (.assign [(49,qP 137 4 9)] (.comp (.bin (.name 33 (qP 137 13 19)) .Mod (.int 20 (qP 137 22 24)) (qP 137 13 24)) [(33,qP 137 29 35)] none (.name 31 (qP 137 39 46)) [] [(103,.loc),(33,.loc)] (qP 137 12 47)) (qP 137 4 47)),
 (.assign [(50,qP 138 4 10)] (.comp (.sub (.name 48 (qP 138 14 21)) (.name 93 (qP 138 22 26)) (qP 138 14 27)) [(93,qP 138 32 36)] none (.call (.name 59 (qP 138 40 45)) [(.int 20 (qP 138 46 48))] [] [] (qP 138 40 49)) [(.cmp (.name 93 (qP 138 53 57)) .In (.name 49 (qP 138 61 66)) (qP 138 53 66))] [(103,.loc),(93,.loc),(49,.fre),(48,.fre)] (qP 138 13 67)) (qP 138 4 67)),
 (.assign [(51,qP 139 4 8)] (.comp (.call (.name 6 (qP 139 12 22)) [(.name 33 (qP 139 23 29)), (.name 34 (qP 139 31 35))] [] [] (qP 139 12 36)) [(33,qP 139 41 47)] none (.name 50 (qP 139 51 57)) [] [(103,.loc),(33,.loc),(6,.glo),(34,.fre)] (qP 139 11 58)) (qP 139 4 58)),
 (.assign [(52,qP 140 4 9)] (.comp (.call (.name 6 (qP 140 13 23)) [(.name 33 (qP 140 24 30)), (.name 34 (qP 140 32 36))] [] [] (qP 140 13 37)) [(33,qP 140 42 48)] none (.subTo (.name 48 (qP 140 52 59)) (.bin (.call (.name 87 (qP 140 61 64)) [(.name 50 (qP 140 65 71))] [] [] (qP 140 61 72)) .Add (.int 1 (qP 140 75 76)) (qP 140 61 76)) (qP 140 60 76) (qP 140 52 77)) [] [(103,.loc),(33,.loc),(6,.glo),(34,.fre)] (qP 140 12 78)) (qP 140 4 78)),
 (.ifS (.cmp (.list [] (qP 141 7 9)) .In (.bin (.name 51 (qP 141 13 17)) .Add (.name 52 (qP 141 20 25)) (qP 141 13 25)) (qP 141 7 25)) [(.ret (.bool false (qP 142 15 20)) (qP 142 8 20))] [] ⟨141,4,142,20⟩),
 (.assign [(53,qP 143 4 12)] (.call (.name 3 (qP 143 15 25)) [(.call (.name 9 (qP 143 26 35)) [(.name 51 (qP 143 36 40)), (.name 41 (qP 143 42 48))] [] [] (qP 143 26 49))] [] [] (qP 143 15 50)) (qP 143 4 50)),
 (.assign [(54,qP 144 4 9)] (.call (.name 3 (qP 144 12 22)) [(.call (.name 9 (qP 144 23 32)) [(.subTo (.name 52 (qP 144 33 38)) (.neg (.int 1 (qP 144 41 42)) (qP 144 40 42)) (qP 144 39 42) (qP 144 33 43)), (.name 41 (qP 144 45 51))] [] [] (qP 144 23 52))] [] [] (qP 144 12 53)) (qP 144 4 53)),
 (.assign [(55,qP 145 4 11)] (.comp (.name 32 (qP 145 15 20)) [(32,qP 145 25 30)] none (.call (.name 59 (qP 145 34 39)) [(.int 6 (qP 145 40 41))] [] [] (qP 145 34 42)) [(.cmp (.comp (.name 33 (qP 145 47 53)) [(33,qP 145 58 64)] none (.name 50 (qP 145 68 74)) [(.bin (.bin (.name 33 (qP 145 78 84)) .RShift (.name 32 (qP 145 88 93)) (qP 145 78 93)) .BitAnd (.int 1 (qP 145 96 97)) (qP 145 78 97))] [(103,.loc),(33,.loc),(32,.fre)] (qP 145 46 98)) .NotEq (.list [] (qP 145 102 104)) (qP 145 46 104))] [(103,.loc),(32,.cel),(50,.fre)] (qP 145 14 105)) (qP 145 4 105)),
 (.assign [(56,qP 146 4 9)] (.comp2 (.tuple [(.name 94 (qP 146 14 17)), (.name 76 (qP 146 19 24))] (qP 146 13 25)) 76 (qP 146 30 35) (.call (.name 59 (qP 146 39 44)) [(.int 6 (qP 146 45 46))] [] [] (qP 146 39 47)) 94 (qP 146 52 55) (.call (.name 59 (qP 146 59 64)) [(.name 76 (qP 146 65 70))] [] [] (qP 146 59 71)) [(.cmp (.comp (.name 33 (qP 146 76 82)) [(33,qP 146 87 93)] none (.name 50 (qP 146 97 103)) [(.bin (.bin (.bin (.name 33 (qP 146 107 113)) .RShift (.name 94 (qP 146 117 120)) (qP 146 107 120)) .BitAnd (.bin (.name 33 (qP 146 123 129)) .RShift (.name 76 (qP 146 133 138)) (qP 146 123 138)) (qP 146 107 138)) .BitAnd (.int 1 (qP 146 141 142)) (qP 146 107 142))] [(103,.loc),(33,.loc),(94,.fre),(76,.fre)] (qP 146 75 143)) .NotEq (.list [] (qP 146 147 149)) (qP 146 75 149))] [(103,.loc),(76,.cel),(94,.cel),(59,.glo),(50,.fre)] (qP 146 12 150)) (qP 146 4 150)),
 (.assign [(46,qP 147 4 10)] (.tuple [(.int 1 (qP 147 14 15)), (.call (.name 87 (qP 147 17 20)) [(.name 55 (qP 147 21 28))] [] [] (qP 147 17 29)), (.call (.name 87 (qP 147 31 34)) [(.name 56 (qP 147 35 40))] [] [] (qP 147 31 41)), (.call (.name 87 (qP 147 43 46)) [(.name 50 (qP 147 47 53))] [] [] (qP 147 43 54))] (qP 147 13 55)) (qP 147 4 55)),
 (.assignT [(78,qP 148 4 5),(68,qP 148 7 8),(84,qP 148 10 11)] (qP 148 4 11) (.comp (.bin (.meth (.call (.name 5 (qP 148 15 25)) [] [] [] (qP 148 15 27)) 100 (qP 148 15 33) [(.name 95 (qP 148 34 38))] (qP 148 15 39)) .Sub (.name 34 (qP 148 42 46)) (qP 148 15 46)) [(95,qP 148 51 55)] none (.sub (.name 52 (qP 148 59 64)) (.neg (.int 1 (qP 148 66 67)) (qP 148 65 67)) (qP 148 59 68)) [] [(103,.loc),(95,.loc),(5,.glo),(34,.fre)] (qP 148 14 69)) (qP 148 4 69)),
 (.assign [(57,qP 149 4 8)] (.tuple [(.int 1 (qP 149 12 13)), (.ite (.cmp (.name 68 (qP 149 24 25)) .Gt (.int 1 (qP 149 28 29)) (qP 149 24 29)) (.bin (.name 84 (qP 149 15 16)) .Add (.int 1 (qP 149 19 20)) (qP 149 15 20)) (.name 84 (qP 149 35 36)) (qP 149 15 36)), (.bin (.bin (.bin (.bin (.name 84 (qP 149 38 39)) .Mult (.bin (.name 84 (qP 149 43 44)) .Sub (.int 1 (qP 149 47 48)) (qP 149 43 48)) (qP 149 38 49)) .FloorDiv (.int 2 (qP 149 53 54)) (qP 149 38 54)) .Add (.ite (.cmp (.name 68 (qP 149 63 64)) .Gt (.int 1 (qP 149 67 68)) (qP 149 63 68)) (.name 68 (qP 149 58 59)) (.int 0 (qP 149 74 75)) (qP 149 58 75)) (qP 149 38 76)) .Add (.ite (.cmp (.name 78 (qP 149 85 86)) .Gt (.int 0 (qP 149 89 90)) (qP 149 85 90)) (.int 1 (qP 149 80 81)) (.int 0 (qP 149 96 97)) (qP 149 80 97)) (qP 149 38 98)), (.call (.name 87 (qP 149 100 103)) [(.name 50 (qP 149 104 110))] [] [] (qP 149 100 111))] (qP 149 11 112)) (qP 149 4 112)),
 (.ifS (.bool2 .Or (.cmp (.attr (.name 53 (qP 150 7 15)) 72 (qP 150 7 20)) .NotEq (.tuple [(.name 46 (qP 150 25 31)), (.name 41 (qP 150 33 39))] (qP 150 24 40)) (qP 150 7 40)) (.cmp (.attr (.name 54 (qP 150 44 49)) 72 (qP 150 44 54)) .NotEq (.tuple [(.name 57 (qP 150 59 63)), (.name 41 (qP 150 65 71))] (qP 150 58 72)) (qP 150 44 72)) (qP 150 7 72)) [(.ret (.bool false (qP 151 15 20)) (qP 151 8 20))] [] ⟨150,4,151,20⟩),
 (.assign [(58,qP 152 4 11)] (.comp (.tuple [(.name 47 (qP 152 16 19)), (.call (.name 10 (qP 152 21 32)) [(.name 46 (qP 152 33 39)), (.name 41 (qP 152 41 47)), (.name 47 (qP 152 49 52))] [] [] (qP 152 21 53)), (.call (.name 10 (qP 152 55 66)) [(.name 57 (qP 152 67 71)), (.name 41 (qP 152 73 79)), (.name 47 (qP 152 81 84))] [] [] (qP 152 55 85))] (qP 152 15 86)) [(47,qP 152 91 94)] none (.call (.name 59 (qP 152 98 103)) [(.int 1 (qP 152 104 105)), (.int 5 (qP 152 107 108))] [] [] (qP 152 98 109)) [] [(103,.loc),(47,.loc),(10,.glo),(41,.fre),(46,.fre),(57,.fre)] (qP 152 14 110)) (qP 152 4 110)),
 (.ifS (.bool2 .Or (.cmp (.meth (.name 53 (qP 153 7 15)) 17 (qP 153 7 32) [(.name 54 (qP 153 33 38))] (qP 153 7 39)) .NotEq (.name 58 (qP 153 43 50)) (qP 153 7 50)) (.cmp (.meth (.name 53 (qP 153 54 62)) 15 (qP 153 54 68) [(.name 54 (qP 153 69 74))] (qP 153 54 75)) .IsNot (.cmp (.name 46 (qP 153 84 90)) .Eq (.name 57 (qP 153 94 98)) (qP 153 84 98)) (qP 153 54 99)) (qP 153 7 99)) [(.ret (.bool false (qP 154 15 20)) (qP 154 8 20))] [] ⟨153,4,154,20⟩),
 (.ret (.bool2 .And (.cmp (.meth (.name 54 (qP 155 11 16)) 16 (qP 155 11 21) [(.name 53 (qP 155 22 30))] (qP 155 11 31)) .Is (.cmp (.name 46 (qP 155 36 42)) .NotEq (.name 57 (qP 155 46 50)) (qP 155 36 50)) (qP 155 11 51)) (.cmp (.meth (.name 54 (qP 155 56 61)) 17 (qP 155 56 78) [(.name 53 (qP 155 79 87))] (qP 155 56 88)) .Eq (.comp (.tuple [(.name 47 (qP 155 94 97)), (.name 80 (qP 155 99 102)), (.name 82 (qP 155 104 108))] (qP 155 93 109)) [(47,qP 155 114 117),(82,qP 155 119 123),(80,qP 155 125 128)] (some (qP 155 114 128)) (.name 58 (qP 155 132 139)) [(.cmp (.name 46 (qP 155 143 149)) .Eq (.name 57 (qP 155 153 157)) (qP 155 143 157))] [(103,.loc),(47,.loc),(82,.loc),(80,.loc),(46,.fre),(57,.fre)] (qP 155 92 158)) (qP 155 56 158)) (qP 155 11 158)) (qP 155 4 158))]
noncomputable def flaw : FI := { ps := [(30,qP 132 8 14)], kwp := none, dfl := false, body := .stmts flaw_b, sc := [(30,.loc),(31,.loc),(34,.cel),(41,.cel),(48,.cel),(49,.cel),(50,.cel),(51,.loc),(52,.loc),(53,.loc),(54,.loc),(55,.loc),(56,.loc),(46,.cel),(78,.loc),(68,.loc),(84,.loc),(57,.cel),(58,.loc),(4,.glo),(92,.glo),(59,.glo),(87,.glo),(3,.glo),(9,.glo)], qual := Str.ofString "law", args := { posonlyargs := [], args := [{ arg := nm 30, annotation := none, pos := (qP 132 8 14) }], vararg := none, kwonlyargs := [], kw_defaults := [], kwarg := none, defaults := [] }, scope := scopeOf [(30,.loc),(31,.loc),(34,.cel),(41,.cel),(48,.cel),(49,.cel),(50,.cel),(51,.loc),(52,.loc),(53,.loc),(54,.loc),(55,.loc),(56,.loc),(46,.cel),(78,.loc),(68,.loc),(84,.loc),(57,.cel),(58,.loc),(4,.glo),(92,.glo),(59,.glo),(87,.glo),(3,.glo),(9,.glo)] [(Str.ofString "fast", .str (Str.ofString "script")),(Str.ofString "fast", .str (Str.ofString "numbers")),(Str.ofString "fast", .str (Str.ofString "base")),(Str.ofString "fast", .str (Str.ofString "blanks")),(Str.ofString "fast", .str (Str.ofString "triples")),(Str.ofString "fast", .str (Str.ofString "number")),(Str.ofString "fast", .str (Str.ofString "ranks")),(Str.ofString "fast", .str (Str.ofString "rank")),(Str.ofString "fast", .str (Str.ofString "family")),(Str.ofString "fast", .str (Str.ofString "mine")),(Str.ofString "fast", .str (Str.ofString "front")),(Str.ofString "fast", .str (Str.ofString "any_nest")),(Str.ofString "fast", .str (Str.ofString "first")),(Str.ofString "fast", .str (Str.ofString "place")),(Str.ofString "fast", .str (Str.ofString "singles")),(Str.ofString "fast", .str (Str.ofString "other")),(Str.ofString "fast", .str (Str.ofString "one")),(Str.ofString "fast", .str (Str.ofString "pairs")),(Str.ofString "fast", .str (Str.ofString "counts")),(Str.ofString "fast", .str (Str.ofString "word")),(Str.ofString "fast", .str (Str.ofString "a")),(Str.ofString "fast", .str (Str.ofString "b")),(Str.ofString "fast", .str (Str.ofString "c")),(Str.ofString "fast", .str (Str.ofString "told")),(Str.ofString "fast", .str (Str.ofString "tab")),(Str.ofString "fast", .str (Str.ofString "columns")),(Str.ofString "fast", .str (Str.ofString "high")),(Str.ofString "fast", .str (Str.ofString "low"))] }
section
open PySem PySem.W PyProof.Rows
set_option maxHeartbeats 8000000
noncomputable abbrev sO := Str.ofString
noncomputable def fnO (f : FI) (n q : String) (d : Value) (m : String) (i c : Nat) : Obj := { cls := Value.type "function", data := Data.func { name := sO n, qualname := sO q, params := f.args, body := f.body.py, scope := f.scope, globals := 3, closure := [], defaults := d, kwdefaults := Value.none, pyModule := Value.str (sO m) i, code := Value.ref c } }
noncomputable def KK : Params -> Frag := fun P =>
 [(2, { cls := Value.none, data := Data.dict #[] }),
 (3, { cls := Value.type "dict", data := Data.dict #[{ hash := PyData.keyHash P (sO "__name__"), key := Value.str (sO "__name__") 165, val := Value.str (sO "law_uy0007_01") 364 }, { hash := PyData.keyHash P (sO "__doc__"), key := Value.str (sO "__doc__") 166, val := Value.none }, { hash := PyData.keyHash P (sO "__package__"), key := Value.str (sO "__package__") 167, val := Value.none }, { hash := PyData.keyHash P (sO "__loader__"), key := Value.str (sO "__loader__") 168, val := Value.builtin "__main__.__loader__#opaque" }, { hash := PyData.keyHash P (sO "__spec__"), key := Value.str (sO "__spec__") 169, val := Value.none }, { hash := PyData.keyHash P (sO "__annotations__"), key := Value.str (sO "__annotations__") 170, val := Value.ref 6 }, { hash := PyData.keyHash P (sO "__builtins__"), key := Value.str (sO "__builtins__") 171, val := Value.ref 4 }, { hash := PyData.keyHash P (sO "__file__"), key := Value.str (sO "__file__") 173, val := Value.str (sO "/claim/cut.py") 172 }, { hash := PyData.keyHash P (sO "__cached__"), key := Value.str (sO "__cached__") 174, val := Value.none }, { hash := PyData.keyHash P (sO "_wall"), key := Value.str (sO "_wall") 193, val := Value.ref 21 }, { hash := PyData.keyHash P (sO "SubElement"), key := Value.str (sO "SubElement") 206, val := Value.ref 30 }, { hash := PyData.keyHash P (sO "_serialize_text"), key := Value.str (sO "_serialize_text") 215, val := Value.ref 37 }, { hash := PyData.keyHash P (sO "COMPILER_FLAG_NAMES"), key := Value.str (sO "COMPILER_FLAG_NAMES") 248, val := Value.ref 38 }, { hash := PyData.keyHash P (sO "pretty_flags"), key := Value.str (sO "pretty_flags") 258, val := Value.ref 45 }, { hash := PyData.keyHash P (sO "Whitespace"), key := Value.str (sO "Whitespace") 363, val := Value.ref 107 }, { hash := PyData.keyHash P (sO "_law_numbers"), key := Value.str (sO "_law_numbers") 374, val := Value.ref 118 }, { hash := PyData.keyHash P (sO "_law_names"), key := Value.str (sO "_law_names") 380, val := Value.ref 125 }, { hash := PyData.keyHash P (sO "_law_words"), key := Value.str (sO "_law_words") 386, val := Value.ref 130 }, { hash := PyData.keyHash P (sO "_law_element"), key := Value.str (sO "_law_element") 397, val := Value.ref 137 }, { hash := PyData.keyHash P (sO "_law_given"), key := Value.str (sO "_law_given") 403, val := Value.ref 142 }, { hash := PyData.keyHash P (sO "_law_lead"), key := Value.str (sO "_law_lead") 409, val := Value.ref 147 }, { hash := PyData.keyHash P (sO "_law_column"), key := Value.str (sO "_law_column") 415, val := Value.ref 152 }, { hash := PyData.keyHash P (sO "law"), key := Value.str (sO "law") 421, val := Value.ref 157 }] 23 }),
 (22, { cls := Value.type "dict", data := Data.dict #[] }),
 (23, { cls := Value.type "tuple", data := Data.seq #[Value.ref 22] }),
 (29, { cls := Value.type "code", data := Data.fields #[Value.str (sO "SubElement") 196, Value.str (sO "SubElement") 197, Value.str (sO "/claim/cut.py") 198, Value.int 5 0, Value.int 3 0, Value.int 0 0, Value.int 0 0, Value.int 11 0, Value.ref 24, Value.bool true, Value.int 181 0, Value.ref 25, Value.none, Value.ref 26, Value.ref 27, Value.ref 28, Value.int 204 0, Value.int 5 0, Value.str (sO "/claim/cut.py") 205] }),
 (30, fnO fSubElement "SubElement" "SubElement" (Value.ref 23) "cpy313.xml.etree.ElementTree" 194 29),
 (36, { cls := Value.type "code", data := Data.fields #[Value.str (sO "_serialize_text") 207, Value.str (sO "_serialize_text") 208, Value.str (sO "/claim/cut.py") 209, Value.int 10 0, Value.int 2 0, Value.int 0 0, Value.int 0 0, Value.int 3 0, Value.ref 31, Value.bool true, Value.int 181 0, Value.ref 32, Value.none, Value.ref 33, Value.ref 34, Value.ref 35, Value.int 213 0, Value.int 10 0, Value.str (sO "/claim/cut.py") 214] }),
 (37, fnO f_serialize_text "_serialize_text" "_serialize_text" .none "cpy313.xml.etree.ElementTree" 194 36),
 (38, { cls := Value.type "dict", data := Data.dict #[{ hash := 1, key := Value.int 1 218, val := Value.str (sO "OPTIMIZED") 219 }, { hash := 2, key := Value.int 2 220, val := Value.str (sO "NEWLOCALS") 221 }, { hash := 4, key := Value.int 4 222, val := Value.str (sO "VARARGS") 223 }, { hash := 8, key := Value.int 8 224, val := Value.str (sO "VARKEYWORDS") 225 }, { hash := 16, key := Value.int 16 226, val := Value.str (sO "NESTED") 227 }, { hash := 32, key := Value.int 32 228, val := Value.str (sO "GENERATOR") 229 }, { hash := 64, key := Value.int 64 230, val := Value.str (sO "NOFREE") 231 }, { hash := 128, key := Value.int 128 232, val := Value.str (sO "COROUTINE") 233 }, { hash := 256, key := Value.int 256 234, val := Value.str (sO "ITERABLE_COROUTINE") 235 }, { hash := 512, key := Value.int 512 236, val := Value.str (sO "ASYNC_GENERATOR") 237 }] 10 }),
 (44, { cls := Value.type "code", data := Data.fields #[Value.str (sO "pretty_flags") 249, Value.str (sO "pretty_flags") 250, Value.str (sO "/claim/cut.py") 251, Value.int 17 0, Value.int 1 0, Value.int 0 0, Value.int 0 0, Value.int 3 0, Value.ref 39, Value.bool true, Value.int 181 0, Value.ref 40, Value.none, Value.ref 41, Value.ref 42, Value.ref 43, Value.int 256 0, Value.int 17 0, Value.str (sO "/claim/cut.py") 257] }),
 (45, fnO fpretty_flags "pretty_flags" "pretty_flags" .none "cpy313.dis" 216 44),
 (61, { cls := Value.type "code", data := Data.fields #[Value.str (sO "__init__") 278, Value.str (sO "Whitespace.__init__") 279, Value.str (sO "/claim/cut.py") 280, Value.int 33 0, Value.int 2 0, Value.int 0 0, Value.int 0 0, Value.int 3 0, Value.ref 56, Value.bool true, Value.int 181 0, Value.ref 57, Value.none, Value.ref 58, Value.ref 59, Value.ref 60, Value.int 290 0, Value.int 33 0, Value.str (sO "/claim/cut.py") 291] }),
 (62, fnO fWhitespace___init__ "__init__" "Whitespace.__init__" .none "cpy313.tabnanny" 259 61),
 (68, { cls := Value.type "code", data := Data.fields #[Value.str (sO "longest_run_of_spaces") 293, Value.str (sO "Whitespace.longest_run_of_spaces") 294, Value.str (sO "/claim/cut.py") 295, Value.int 56 0, Value.int 1 0, Value.int 0 0, Value.int 0 0, Value.int 3 0, Value.ref 63, Value.bool true, Value.int 181 0, Value.ref 64, Value.none, Value.ref 65, Value.ref 66, Value.ref 67, Value.int 299 0, Value.int 56 0, Value.str (sO "/claim/cut.py") 300] }),
 (69, fnO fWhitespace_longest_run_of_spaces "longest_run_of_spaces" "Whitespace.longest_run_of_spaces" .none "cpy313.tabnanny" 259 68),
 (75, { cls := Value.type "code", data := Data.fields #[Value.str (sO "indent_level") 302, Value.str (sO "Whitespace.indent_level") 303, Value.str (sO "/claim/cut.py") 304, Value.int 60 0, Value.int 2 0, Value.int 0 0, Value.int 0 0, Value.int 3 0, Value.ref 70, Value.bool true, Value.int 181 0, Value.ref 71, Value.none, Value.ref 72, Value.ref 73, Value.ref 74, Value.int 311 0, Value.int 60 0, Value.str (sO "/claim/cut.py") 312] }),
 (76, fnO fWhitespace_indent_level "indent_level" "Whitespace.indent_level" .none "cpy313.tabnanny" 259 75),
 (82, { cls := Value.type "code", data := Data.fields #[Value.str (sO "equal") 314, Value.str (sO "Whitespace.equal") 315, Value.str (sO "/claim/cut.py") 316, Value.int 67 0, Value.int 2 0, Value.int 0 0, Value.int 0 0, Value.int 3 0, Value.ref 77, Value.bool true, Value.int 181 0, Value.ref 78, Value.none, Value.ref 79, Value.ref 80, Value.ref 81, Value.int 319 0, Value.int 67 0, Value.str (sO "/claim/cut.py") 320] }),
 (83, fnO fWhitespace_equal "equal" "Whitespace.equal" .none "cpy313.tabnanny" 259 82),
 (96, { cls := Value.type "code", data := Data.fields #[Value.str (sO "less") 330, Value.str (sO "Whitespace.less") 331, Value.str (sO "/claim/cut.py") 332, Value.int 73 0, Value.int 2 0, Value.int 0 0, Value.int 0 0, Value.int 3 0, Value.ref 91, Value.bool true, Value.int 181 0, Value.ref 92, Value.none, Value.ref 93, Value.ref 94, Value.ref 95, Value.int 337 0, Value.int 73 0, Value.str (sO "/claim/cut.py") 338] }),
 (97, fnO fWhitespace_less "less" "Whitespace.less" .none "cpy313.tabnanny" 259 96),
 (103, { cls := Value.type "code", data := Data.fields #[Value.str (sO "not_less_witness") 340, Value.str (sO "Whitespace.not_less_witness") 341, Value.str (sO "/claim/cut.py") 342, Value.int 84 0, Value.int 2 0, Value.int 0 0, Value.int 0 0, Value.int 3 0, Value.ref 98, Value.bool true, Value.int 181 0, Value.ref 99, Value.none, Value.ref 100, Value.ref 101, Value.ref 102, Value.int 348 0, Value.int 84 0, Value.str (sO "/claim/cut.py") 349] }),
 (104, fnO fWhitespace_not_less_witness "not_less_witness" "Whitespace.not_less_witness" .none "cpy313.tabnanny" 259 103),
 (105, { cls := Value.type "tuple", data := Data.seq #[Value.str (sO "is_simple") 351, Value.str (sO "n") 352, Value.str (sO "norm") 353, Value.str (sO "nt") 354, Value.str (sO "raw") 355] }),
 (106, { cls := Value.type "dict", data := Data.dict #[{ hash := PyData.keyHash P (sO "__module__"), key := Value.str (sO "__module__") 268, val := Value.str (sO "cpy313.tabnanny") 259 }, { hash := PyData.keyHash P (sO "__firstlineno__"), key := Value.str (sO "__firstlineno__") 272, val := Value.int 30 271 }, { hash := PyData.keyHash P (sO "S"), key := Value.str (sO "S") 276, val := Value.str (sO " ") 274 }, { hash := PyData.keyHash P (sO "T"), key := Value.str (sO "T") 277, val := Value.str (sO "\t") 275 }, { hash := PyData.keyHash P (sO "__init__"), key := Value.str (sO "__init__") 292, val := Value.ref 62 }, { hash := PyData.keyHash P (sO "longest_run_of_spaces"), key := Value.str (sO "longest_run_of_spaces") 301, val := Value.ref 69 }, { hash := PyData.keyHash P (sO "indent_level"), key := Value.str (sO "indent_level") 313, val := Value.ref 76 }, { hash := PyData.keyHash P (sO "equal"), key := Value.str (sO "equal") 321, val := Value.ref 83 }, { hash := PyData.keyHash P (sO "not_equal_witness"), key := Value.str (sO "not_equal_witness") 329, val := Value.ref 90 }, { hash := PyData.keyHash P (sO "less"), key := Value.str (sO "less") 339, val := Value.ref 97 }, { hash := PyData.keyHash P (sO "not_less_witness"), key := Value.str (sO "not_less_witness") 350, val := Value.ref 104 }, { hash := PyData.keyHash P (sO "__static_attributes__"), key := Value.str (sO "__static_attributes__") 356, val := Value.ref 105 }, { hash := PyData.keyHash P (sO "__dict__"), key := Value.str (sO "__dict__") 358, val := Value.ref 108 }, { hash := PyData.keyHash P (sO "__weakref__"), key := Value.str (sO "__weakref__") 360, val := Value.ref 109 }, { hash := PyData.keyHash P (sO "__doc__"), key := Value.str (sO "__doc__") 361, val := Value.none }] 4 }),
 (107, { cls := Value.type "type", data := Data.cls { name := sO "Whitespace", bases := [Value.type "object"], mro := [Value.ref 107, Value.type "object"], ns := 106, qualname := sO "Whitespace" }, slots := #[none, none, some (Value.str (sO "Whitespace") 261), some (Value.str (sO "Whitespace") 269), some (Value.builtin "object.__new__"), some (Value.bool true)] }),
 (108, { cls := Value.type "getset_descriptor", data := Data.fields #[Value.str (sO "__dict__") 357, Value.ref 107, Value.builtin "function.__dict__", Value.builtin "function.__dict__#set"] }),
 (109, { cls := Value.type "getset_descriptor", data := Data.fields #[Value.str (sO "__weakref__") 359, Value.ref 107, Value.builtin "ExceptionGroup.__weakref__", Value.none] }),
 (117, { cls := Value.type "code", data := Data.fields #[Value.str (sO "_law_numbers") 366, Value.str (sO "_law_numbers") 367, Value.str (sO "/claim/cut.py") 368, Value.int 92 0, Value.int 1 0, Value.int 0 0, Value.int 0 0, Value.int 3 0, Value.ref 112, Value.bool true, Value.int 181 0, Value.ref 113, Value.none, Value.ref 114, Value.ref 115, Value.ref 116, Value.int 372 0, Value.int 92 0, Value.str (sO "/claim/cut.py") 373] }),
 (118, fnO f_law_numbers "_law_numbers" "_law_numbers" .none "law_uy0007_01" 364 117),
 (124, { cls := Value.type "code", data := Data.fields #[Value.str (sO "_law_names") 375, Value.str (sO "_law_names") 376, Value.str (sO "/claim/cut.py") 377, Value.int 97 0, Value.int 0 0, Value.int 0 0, Value.int 0 0, Value.int 3 0, Value.ref 119, Value.bool true, Value.int 181 0, Value.ref 120, Value.none, Value.ref 121, Value.ref 122, Value.ref 123, Value.int 378 0, Value.int 97 0, Value.str (sO "/claim/cut.py") 379] }),
 (125, fnO f_law_names "_law_names" "_law_names" .none "law_uy0007_01" 364 124),
 (129, { cls := Value.type "code", data := Data.fields #[Value.str (sO "_law_words") 381, Value.str (sO "_law_words") 382, Value.str (sO "/claim/cut.py") 383, Value.int 99 0, Value.int 2 0, Value.int 0 0, Value.int 0 0, Value.int 3 0, Value.ref 126, Value.bool true, Value.int 181 0, Value.ref 127, Value.none, Value.none, Value.none, Value.ref 128, Value.int 384 0, Value.int 99 0, Value.str (sO "/claim/cut.py") 385] }),
 (130, fnO f_law_words "_law_words" "_law_words" .none "law_uy0007_01" 364 129),
 (136, { cls := Value.type "code", data := Data.fields #[Value.str (sO "_law_element") 387, Value.str (sO "_law_element") 388, Value.str (sO "/claim/cut.py") 389, Value.int 103 0, Value.int 2 0, Value.int 0 0, Value.int 0 0, Value.int 3 0, Value.ref 131, Value.bool true, Value.int 181 0, Value.ref 132, Value.none, Value.ref 133, Value.ref 134, Value.ref 135, Value.int 395 0, Value.int 103 0, Value.str (sO "/claim/cut.py") 396] }),
 (137, fnO f_law_element "_law_element" "_law_element" .none "law_uy0007_01" 364 136),
 (141, { cls := Value.type "code", data := Data.fields #[Value.str (sO "_law_given") 398, Value.str (sO "_law_given") 399, Value.str (sO "/claim/cut.py") 400, Value.int 112 0, Value.int 0 0, Value.int 0 0, Value.int 0 0, Value.int 3 0, Value.ref 138, Value.bool true, Value.int 181 0, Value.ref 139, Value.none, Value.none, Value.none, Value.ref 140, Value.int 401 0, Value.int 112 0, Value.str (sO "/claim/cut.py") 402] }),
 (142, fnO f_law_given "_law_given" "_law_given" .none "law_uy0007_01" 364 141),
 (146, { cls := Value.type "code", data := Data.fields #[Value.str (sO "_law_lead") 404, Value.str (sO "_law_lead") 405, Value.str (sO "/claim/cut.py") 406, Value.int 114 0, Value.int 2 0, Value.int 0 0, Value.int 0 0, Value.int 3 0, Value.ref 143, Value.bool true, Value.int 181 0, Value.ref 144, Value.none, Value.none, Value.none, Value.ref 145, Value.int 407 0, Value.int 114 0, Value.str (sO "/claim/cut.py") 408] }),
 (147, fnO f_law_lead "_law_lead" "_law_lead" .none "law_uy0007_01" 364 146),
 (151, { cls := Value.type "code", data := Data.fields #[Value.str (sO "_law_column") 410, Value.str (sO "_law_column") 411, Value.str (sO "/claim/cut.py") 412, Value.int 130 0, Value.int 3 0, Value.int 0 0, Value.int 0 0, Value.int 3 0, Value.ref 148, Value.bool true, Value.int 181 0, Value.ref 149, Value.none, Value.none, Value.none, Value.ref 150, Value.int 413 0, Value.int 130 0, Value.str (sO "/claim/cut.py") 414] }),
 (152, fnO f_law_column "_law_column" "_law_column" .none "law_uy0007_01" 364 151),
 (156, { cls := Value.type "code", data := Data.fields #[Value.str (sO "law") 416, Value.str (sO "law") 417, Value.str (sO "/claim/cut.py") 418, Value.int 132 0, Value.int 1 0, Value.int 0 0, Value.int 0 0, Value.int 3 0, Value.ref 153, Value.bool true, Value.int 181 0, Value.ref 154, Value.none, Value.none, Value.none, Value.ref 155, Value.int 419 0, Value.int 132 0, Value.str (sO "/claim/cut.py") 420] }),
 (157, fnO flaw "law" "law" .none "law_uy0007_01" 364 156)]
noncomputable def viewB : List Stmt := [0, 3, 5, 6, 8, 10, 11, 12, 13, 14, 15, 16, 17].filterMap fun i => PySem.Challenge.rw_uy0007_01.row.prog.main.body[i]?
noncomputable def viewP : Program := { PySem.Challenge.rw_uy0007_01.row.prog with main := { PySem.Challenge.rw_uy0007_01.row.prog.main with body := viewB } }
noncomputable abbrev hkX : Hook := kmHook KK [2, 3, 22, 23, 29, 30, 36, 37, 38, 44, 45, 61, 62, 68, 69, 75, 76, 82, 83, 96, 97, 103, 104, 105, 106, 107, 108, 109, 117, 118, 124, 125, 129, 130, 136, 137, 141, 142, 146, 147, 151, 152, 156, 157] (fun _ => by kernel_rfl) [132, 144]
noncomputable abbrev loX : List Str := [Str.ofString "SubElement", Str.ofString "COMPILER_FLAG_NAMES", Str.ofString "Whitespace"]
noncomputable abbrev XtX (s : Shared) : Bool := xlAt viewP [] s && recOk (RowW.records PySem.Challenge.rw_uy0007_01.row.toRowW) s
theorem left_ok : LeftO PySem.Challenge.rw_uy0007_01.row.prog viewP loX XtX (Hook.obs hkX) (Hook.val hkX) 2168 := LeftO.of_split "special-get-raises" (fun w => by kernel_rfl)
end
section
set_option genInjectivity false
set_option genSizeOf false
inductive AO where
 | list (xs : List AV)
 | tuple (xs : List AV)
 | dict (kvs : List (Str × AV)) (ep : Option Nat)
 | flags
 | cell (v : Option AV)
 | ns (m : List (Nat × AV))
 | attrs (m : List (Nat × AV))
 | func (f : FI) (cl : List (Nat × Nat)) (at_ : Option Nat)
 | inst (d : Nat)
 | cls
 | rng (a b : Int)
 | liter (l i : Nat)
 | titer (l i : Nat)
 | riter (x left : Int)
 | siter (s : Str) (i : Nat)
 | kiter (d i n ep : Nat)
 | dead
noncomputable abbrev Sg := List AO
structure AE where
 sc : List (Nat × NK)
 loc : Nat
 cells : List (Nat × Nat)
 q : Str
 tab : Option Nat
noncomputable def look {α : Type} (k : Nat) : List (Nat × α) -> Option α
 | [] => none
 | (j, v) :: r => if j = k then some v else look k r
noncomputable def put {α : Type} (k : Nat) (v : α) : List (Nat × α) -> List (Nat × α)
 | [] => [(k, v)]
 | (j, u) :: r => if j = k then (k, v) :: r else (j, u) :: put k v r
noncomputable def sget (k : Str) : List (Str × AV) -> Option AV
 | [] => none
 | (j, v) :: r => if j = k then some v else sget k r
noncomputable def sput (k : Str) (v : AV) : List (Str × AV) -> List (Str × AV)
 | [] => [(k, v)]
 | (j, u) :: r => if j = k then (j, v) :: r else (j, u) :: sput k v r
noncomputable def dput (k : Str) (v : AV) (m : List (Str × AV) × Option Nat) : List (Str × AV) × Option Nat := (sput k v m.1, if (sget k m.1).isSome then m.2 else m.2.map (· + 1))
noncomputable def dputs : List (Str × AV) -> List (Str × AV) × Option Nat -> List (Str × AV) × Option Nat
 | [], m => m
 | (k, v) :: r, m => dputs r (dput k v m)
noncomputable def nTop : Nat := 21
noncomputable def globL : List (Nat × AV) := [(59, .bi .range), (86, .bi .max), (87, .bi .len), (92, .bi .sum), (96, .bi .hex), (97, .bi .tuple)]
noncomputable def glob (k : Nat) : Option AV := if k <= 12 then some (.ref k) else look k globL
noncomputable def mk (o : AO) (V : Sg) : Nat × Sg := (V.length, V ++ [o])
noncomputable def upd (j : Nat) (o : AO) (V : Sg) : Option Sg := if nTop <= j /\ j < V.length then some (V.set j o) else none
noncomputable def getN (E : AE) (x : Nat) (V : Sg) : Option AV :=
 match look x E.sc with
 | some .loc => match V[E.loc]? with
  | some (.ns m) => look x m
  | _ => none
 | some .cel | some .fre => match look x E.cells with
  | some c => match V[c]? with
   | some (.cell v) => v
   | _ => none
  | none => none
 | some .glo => glob x
 | none => none
noncomputable def setN (E : AE) (x : Nat) (v : AV) (V : Sg) : Option Sg :=
 match look x E.sc with
 | some .loc => match V[E.loc]? with
  | some (.ns m) => upd E.loc (.ns (put x v m)) V
  | _ => none
 | some .cel => match look x E.cells with
  | some c => match V[c]? with
   | some (.cell _) => upd c (.cell (some v)) V
   | _ => none
  | none => none
 | _ => none
noncomputable def setNs (E : AE) (v : AV) : List (Nat × Pos) -> Sg -> Option Sg
 | [], V => some V
 | x :: r, V => do setNs E v r (<- setN E x.1 v V)
noncomputable def setEach (E : AE) : List (Nat × Pos) -> List AV -> Sg -> Option Sg
 | [], [], V => some V
 | x :: r, v :: vs, V => do setEach E r vs (<- setN E x.1 v V)
 | _, _, _ => none
noncomputable def small (i : Int) : Bool := decide (-4611686018427387904 < i) && decide (i < 4611686018427387904)
noncomputable def mkI (i : Int) : Option AV := if small i then some (.int i) else none
noncomputable def mkS (s : Str) : Option AV := if s.cps.size <= 100000 then some (.str s) else none
noncomputable def allEq (f : AV -> AV -> Option Bool) : List AV -> List AV -> Option Bool
 | [], [] => some true
 | x :: xs, y :: ys => do
  let b <- f x y
  let c <- allEq f xs ys
  some (b && c)
 | _, _ => none
noncomputable def allKey (f : AV -> AV -> Option Bool) (ys : List (Str × AV)) : List (Str × AV) -> Option Bool
 | [] => some true
 | (k, v) :: r => match sget k ys with
  | some w => do
   let b <- f v w
   let c <- allKey f ys r
   some (b && c)
  | none => some false
noncomputable def aeq1 (V : Sg) : Nat -> AV -> AV -> Option Bool
 | _, .int a, .int b => some (a == b)
 | _, .str a, .str b => some (decide (a = b))
 | n + 1, .ref i, .ref j => if i = j then none else match V[i]?, V[j]? with
   | some (.list xs), some (.list ys) => if xs.length = ys.length then allEq (aeq1 V n) xs ys else some false
   | some (.tuple xs), some (.tuple ys) => if xs.length = ys.length then allEq (aeq1 V n) xs ys else none
   | _, _ => none
 | _, _, _ => none
noncomputable def aeqD (V : Sg) : Nat -> AV -> AV -> Option Bool
 | n + 1, .ref i, .ref j => if i = j then none else match V[i]?, V[j]? with
   | some (.list xs), some (.list ys) => if xs.length = ys.length then allEq (aeqD V n) xs ys else none
   | some (.dict xs _), some (.dict ys _) => if xs.length = ys.length /\ nTop <= i /\ nTop <= j then allKey (aeq1 V 3) ys xs else none
   | _, _ => none
 | _, _, _ => none
noncomputable def aeq (V : Sg) (x y : AV) : Option Bool := match aeq1 V 5 x y with
 | some b => some b
 | none => aeqD V 3 x y
noncomputable def truth (v : AV) : Option Bool := match v with
 | .bool b => some b
 | .int i => some (i != 0)
 | .str s => if s.cps.size <= 100000 then some (decide (s.cps.size ≠ 0)) else none
 | .none => some false
 | _ => none
noncomputable def binI (op : Operator) (a b : Int) : Option AV := match op with
 | .Add => mkI (a + b)
 | .Sub => mkI (a - b)
 | .Mult => if small a then mkI (a * b) else none
 | .Mod => if 0 < b then mkI (Int.fmod a b) else none
 | .FloorDiv => if 0 < b /\ small b then mkI (Int.fdiv a b) else none
 | .Pow => if 0 <= b /\ b <= 40 /\ small a then mkI (a ^ b.toNat) else none
 | .LShift => if 0 <= b /\ b <= 40 /\ small a then mkI (a * 2 ^ b.toNat) else none
 | .RShift => if 0 <= b then mkI (Int.fdiv a (2 ^ b.toNat)) else none
 | .BitAnd => mkI (Builtin.bitAnd a b)
 | .BitXor => mkI (Builtin.bitXor a b)
 | _ => none
noncomputable def rep {α : Type} (xs : List α) (n : Nat) : List α := (List.replicate n xs).flatten
noncomputable def bin (op : Operator) (x y : AV) (V : Sg) : Option (AV × Sg) := match x, y with
 | .int a, .int b => (binI op a b).map (·, V)
 | .str a, .str b => match op with
  | .Add => (mkS (a ++ b)).map (·, V)
  | _ => none
 | .str a, .int n => match op with
  | .Mult => if 0 <= n /\ n <= 1000 /\ a.cps.size <= 100 then some (.str (Txt.mul a n), V) else none
  | _ => none
 | .ref i, .ref j => match op, V[i]?, V[j]? with
  | .Add, some (.list xs), some (.list ys) => if xs.length + ys.length <= 100000 then let (k, V') := mk (.list (xs ++ ys)) V; some (.ref k, V') else none
  | _, _, _ => none
 | .ref i, .int n => match op, V[i]? with
  | .Mult, some (.list xs) => if 0 <= n /\ n <= 1000 /\ xs.length <= 10 then let (k, V') := mk (.list (rep xs n.toNat)) V; some (.ref k, V') else none
  | _, _ => none
 | _, _ => none
noncomputable def anyEq (V : Sg) (x : AV) : List AV -> Option Bool
 | [] => some false
 | y :: r => do
  let b <- aeq1 V 5 y x
  let c <- anyEq V x r
  some (b || c)
noncomputable def isIn (x : AV) (y : AV) (V : Sg) : Option Bool := match y with
 | .ref j => match V[j]?, x with
  | some (.list ys), x => anyEq V x ys
  | some (.dict kvs _), .str s => if nTop <= j then some (sget s kvs).isSome else none
  | _, _ => none
 | _ => none
noncomputable def cmp (op : CmpOp) (x y : AV) (V : Sg) : Option Bool := match op with
 | .Eq => aeq V x y
 | .NotEq => (aeq V x y).map (!·)
 | .Lt => match x, y with | .int a, .int b => some (decide (a < b)) | _, _ => none
 | .LtE => match x, y with | .int a, .int b => some (decide (a <= b)) | _, _ => none
 | .Gt => match x, y with | .int a, .int b => some (decide (a > b)) | _, _ => none
 | .GtE => match x, y with | .int a, .int b => some (decide (a >= b)) | _, _ => none
 | .Is => match x, y with | .bool a, .bool b => some (a == b) | _, _ => none
 | .IsNot => match x, y with | .bool a, .bool b => some (!(a == b)) | _, _ => none
 | .In => isIn x y V
 | .NotIn => (isIn x y V).map (!·)
noncomputable def idx (i : Int) (n : Nat) : Nat := if i < 0 then (i + n).toNat else i.toNat
noncomputable def item (o i : AV) (V : Sg) : Option AV := match o, i with
 | .ref j, .int k => match V[j]? with
  | some (.list xs) => if small k /\ -(xs.length : Int) <= k /\ k < xs.length then xs[idx k xs.length]? else none
  | some (.tuple xs) => if small k /\ 0 <= k then xs[k.toNat]? else none
  | _ => none
 | .ref j, .str s => match V[j]? with
  | some (.dict kvs _) => sget s kvs
  | _ => none
 | _, _ => none
noncomputable def setItm (o i v : AV) (V : Sg) : Option Sg := match o, i with
 | .ref j, .int k => match V[j]? with
  | some (.list xs) => if small k /\ 0 <= k /\ k < xs.length then upd j (.list (xs.set k.toNat v)) V else none
  | _ => none
 | .ref j, .str s => match V[j]? with
  | some (.dict kvs ep) => if kvs.length <= 1000 then upd j (.dict (dput s v (kvs, ep)).1 (dput s v (kvs, ep)).2) V else none
  | _ => none
 | _, _ => none
noncomputable def cutTo (o k : AV) (V : Sg) : Option (AV × Sg) := match o, k with
 | .ref j, .int k => match V[j]? with
  | some (.list xs) => if small k /\ xs.length <= 100000 then let (n, V') := mk (.list (xs.take (if k < 0 then (k + xs.length).toNat else k.toNat))) V; some (.ref n, V') else none
  | _ => none
 | _, _ => none
noncomputable def aiter (v : AV) (V : Sg) : Option (Nat × Sg) := match v with
 | .ref j => match V[j]? with
  | some (.list _) => some (mk (.liter j 0) V)
  | some (.tuple _) => some (mk (.titer j 0) V)
  | some (.rng a b) => if small a /\ small b then some (mk (.riter a (if a < b then b - a else 0)) V) else none
  | some (.dict kvs (some ep)) => if nTop <= j then some (mk (.kiter j 0 kvs.length ep) V) else none
  | _ => none
 | .str s => if s.cps.all (· < 128) then some (mk (.siter s 0) V) else none
 | _ => none
noncomputable def anext (it : Nat) (V : Sg) : Option (Option AV × Sg) := match V[it]? with
 | some (.liter l i) => match V[l]? with
  | some (.list xs) => match xs[i]? with
   | some x => (upd it (.liter l (i + 1)) V).map (some x, ·)
   | none => (upd it .dead V).map (none, ·)
  | _ => none
 | some (.titer l i) => match V[l]? with
  | some (.tuple xs) => match xs[i]? with
   | some x => (upd it (.titer l (i + 1)) V).map (some x, ·)
   | none => (upd it .dead V).map (none, ·)
  | _ => none
 | some (.riter x left) => if 0 < left then (upd it (.riter (x + 1) (left - 1)) V).map (some (.int x), ·) else (upd it .dead V).map (none, ·)
 | some (.siter s i) => match s.cps[i]? with
  | some c => (upd it (.siter s (i + 1)) V).map (some (.str ⟨#[c]⟩), ·)
  | none => (upd it .dead V).map (none, ·)
 | some (.kiter d i n ep) => match V[d]? with
  | some (.dict kvs ep') => if ep' = some ep /\ kvs.length = n then match kvs[i]? with
    | some kv => (upd it (.kiter d (i + 1) n ep) V).map (some (.str kv.1), ·)
    | none => (upd it .dead V).map (none, ·)
   else none
  | _ => none
 | _ => none
noncomputable def unpackA (v : AV) (n : Nat) (V : Sg) : Option (List AV) := match v with
 | .ref j => match V[j]? with
  | some (.list xs) => if xs.length = n then some xs else none
  | some (.tuple xs) => if xs.length = n then some xs else none
  | _ => none
 | _ => none
inductive AF where
 | next | brk | ret (v : AV)
structure Rec where
 ev : AE -> Ex -> Sg -> Option (AV × Sg)
 ex : AE -> List Sm -> Sg -> Option (AF × Sg)
 cl : AV -> List AV -> List (Nat × AV) -> Sg -> Option (AV × Sg)
section
variable (R : Rec)
noncomputable def evs (E : AE) : List Ex -> Sg -> Option (List AV × Sg)
 | [], V => some ([], V)
 | e :: r, V => do
  let (v, V) <- R.ev E e V
  let (vs, V) <- evs E r V
  some (v :: vs, V)
noncomputable def conds (E : AE) : List Ex -> Sg -> Option (Bool × Sg)
 | [], V => some (true, V)
 | c :: r, V => do
  let (v, V) <- R.ev E c V
  if <- truth v then conds E r V else some (false, V)
noncomputable def assignTo (E : AE) (tg : List (Nat × Pos)) (tp : Option Pos) (v : AV) (V : Sg) : Option Sg := match tp, tg with
 | none, [x] => setN E x.1 v V
 | some _, tg => do setEach E tg (<- unpackA v tg.length V) V
 | _, _ => none
noncomputable def loopFor (E : AE) (tg : List (Nat × Pos)) (tp : Option Pos) (b o : List Sm) (it : Nat) : Nat -> Sg -> Option (AF × Sg)
 | 0, _ => none
 | n + 1, V => do
  let (r, V) <- anext it V
  match r with
  | none => R.ex E o V
  | some v =>
   let V <- assignTo E tg tp v V
   let (f, V) <- R.ex E b V
   match f with
   | .next => loopFor E tg tp b o it n V
   | .brk => some (.next, V)
   | .ret v => some (.ret v, V)
noncomputable def pushL (acc : Nat) (v : AV) (V : Sg) : Option Sg := match V[acc]? with
 | some (.list xs) => if xs.length <= 100000 then upd acc (.list (xs ++ [v])) V else none
 | _ => none
noncomputable def loopComp (E : AE) (elt : Ex) (tg : List (Nat × Pos)) (tp : Option Pos) (cond : List Ex) (acc it : Nat) : Nat -> Sg -> Option Sg
 | 0, _ => none
 | n + 1, V => do
  let (r, V) <- anext it V
  match r with
  | none => some V
  | some v =>
   let V <- assignTo E tg tp v V
   let (c, V) <- conds R E cond V
   if c then
    let (x, V) <- R.ev E elt V
    loopComp E elt tg tp cond acc it n (<- pushL acc x V)
   else loopComp E elt tg tp cond acc it n V
noncomputable def loopComp2 (E : AE) (elt : Ex) (x1 : Nat) (p1 : Pos) (x2 : Nat) (p2 : Pos) (it2 : Ex) (cond : List Ex) (acc it : Nat) : Nat -> Sg -> Option Sg
 | 0, _ => none
 | n + 1, V => do
  let (r, V) <- anext it V
  match r with
  | none => some V
  | some v =>
   let V <- setN E x1 v V
   let (w, V) <- R.ev E it2 V
   let (j, V) <- aiter w V
   let V <- loopComp R E elt [(x2, p2)] none cond acc j 1000 V
   loopComp2 E elt x1 p1 x2 p2 it2 cond acc it n V
noncomputable def closes (E : AE) : List (Nat × NK) -> Option (List (Nat × Nat))
 | [] => some []
 | (x, .fre) :: r => do some ((x, <- look x E.cells) :: (<- closes E r))
 | _ :: r => closes E r
noncomputable def layCells : List (Nat × NK) -> List (Nat × Nat) -> Sg -> List (Nat × Nat) × Sg
 | [], acc, V => (acc, V)
 | (x, .cel) :: r, acc, V => let (c, V) := mk (.cell none) V; layCells r ((x, c) :: acc) V
 | _ :: r, acc, V => layCells r acc V
noncomputable def compEnv (E : AE) (sc : List (Nat × NK)) (V : Sg) : Option (AE × Sg) := do
 let cl <- closes E sc
 if (sc.map (·.1)).Nodup then
  let (l, V) := mk (.ns []) V
  let (cells, V) := layCells sc cl.reverse V
  some (⟨sc, l, cells, E.q, E.tab⟩, V)
 else none
noncomputable def dropNs (l : Nat) (V : Sg) : Option Sg := match V[l]? with
 | some (.ns _) => upd l .dead V
 | _ => none
noncomputable def fnAttr (a : Nat) : Bool := a == 19 || a == 26 || a == 37 || a == 38 || a == 39
noncomputable def inAttr (a : Nat) : Bool := a == 66 || a == 69 || a == 70 || a == 72 || a == 73
noncomputable def attrA (v : AV) (a : Nat) (V : Sg) : Option AV := match v with
 | .ref j => match V[j]? with
  | some (.func _ _ (some d)) => match V[d]? with
   | some (.attrs m) => if fnAttr a then look a m else none
   | _ => none
  | some (.inst d) => match V[d]? with
   | some (.attrs m) => if inAttr a then look a m else none
   | _ => none
  | some .cls => match a with
   | 62 => some (.str ⟨#[32]⟩)
   | 63 => some (.str ⟨#[9]⟩)
   | _ => none
  | _ => none
 | _ => none
noncomputable def setAttrA (v : AV) (a : Nat) (x : AV) (V : Sg) : Option Sg := match v with
 | .ref j => match V[j]? with
  | some (.func f cl none) => if fnAttr a then upd j (.func f cl (some V.length)) (V ++ [.attrs [(a, x)]]) else none
  | some (.func _ _ (some d)) => match V[d]? with
   | some (.attrs m) => if fnAttr a && decide (m.length <= 20) then upd d (.attrs (put a x m)) V else none
   | _ => none
  | some (.inst d) => match V[d]? with
   | some (.attrs m) => if inAttr a && decide (m.length <= 20) then upd d (.attrs (put a x m)) V else none
   | _ => none
  | _ => none
 | _ => none
noncomputable def joinA (sep : Str) : List AV -> Option Str
 | [] => some ⟨#[]⟩
 | [.str s] => some s
 | .str s :: r => do some (s ++ sep ++ (<- joinA sep r))
 | _ => none
noncomputable def lookI (k : Int) : List (Int × Str) -> Option Str
 | [] => none
 | (j, v) :: r => if j = k then some v else lookI k r
noncomputable def flagL : List (Int × Str) := [(1, ⟨#[79,80,84,73,77,73,90,69,68]⟩), (2, ⟨#[78,69,87,76,79,67,65,76,83]⟩), (4, ⟨#[86,65,82,65,82,71,83]⟩), (8, ⟨#[86,65,82,75,69,89,87,79,82,68,83]⟩), (16, ⟨#[78,69,83,84,69,68]⟩), (32, ⟨#[71,69,78,69,82,65,84,79,82]⟩), (64, ⟨#[78,79,70,82,69,69]⟩), (128, ⟨#[67,79,82,79,85,84,73,78,69]⟩), (256, ⟨#[73,84,69,82,65,66,76,69,95,67,79,82,79,85,84,73,78,69]⟩), (512, ⟨#[65,83,89,78,67,95,71,69,78,69,82,65,84,79,82]⟩)]
noncomputable def flagName (k : Int) : Option Str := lookI k flagL
noncomputable def strsOf : List AV -> Option (List Str)
 | [] => some []
 | .str s :: r => (strsOf r).map (s :: ·)
 | _ => none
noncomputable def findIx (x : Str) (xs : List AV) : Option Nat := (strsOf xs).bind fun ss => ss.findIdx? fun s => decide (s = x)
noncomputable def strAVs : List Str -> List AV
 | [] => []
 | s :: r => .str s :: strAVs r
inductive AM where
 | str | list | flags | inst
 | fn (f : AV)
noncomputable def methOf (v : AV) (a : Nat) (V : Sg) : Option AM := match v with
 | .str _ => if a = 61 \/ a = 79 then some .str else none
 | .ref j => match V[j]? with
  | some (.list _) => if a = 37 \/ a = 100 then some .list else none
  | some .flags => if a = 101 then some .flags else none
  | some (.func _ _ (some d)) => match V[d]? with
   | some (.attrs m) => if fnAttr a then (look a m).map .fn else none
   | _ => none
  | some (.inst d) => match V[d]? with
   | some (.attrs m) => if 13 <= a /\ a <= 17 /\ look a m = none then some .inst else none
   | _ => none
  | _ => none
 | _ => none
noncomputable def methS1 (s : Str) (a : Nat) (x : AV) (V : Sg) : Option (AV × Sg) := match x with
 | .ref j => if a = 61 then match V[j]? with
  | some (.list xs) => if xs.length <= 1000 /\ s.cps.size <= 100 then do some (<- mkS (<- joinA s xs), V) else none
  | _ => none
  else none
 | .str sep => if a = 79 then if sep.cps.size = 2 /\ s.cps.size <= 1000 then
   let (k, V) := mk (.list (strAVs (Txt.split s sep))) V
   some (.ref k, V) else none
  else none
 | _ => none
noncomputable def methS (s : Str) (a : Nat) (args : List AV) (V : Sg) : Option (AV × Sg) := match args with
 | [x] => methS1 s a x V
 | _ => none
noncomputable def methL1 (j : Nat) (xs : List AV) (a : Nat) (v : AV) (V : Sg) : Option (AV × Sg) :=
 if a = 37 then if xs.length <= 100000 then (upd j (.list (xs ++ [v])) V).map (.none, ·) else none
 else if a = 100 then match v with
  | .str x => if xs.length <= 100000 then (findIx x xs).map fun k => (.int k, V) else none
  | _ => none
 else none
noncomputable def methL (j : Nat) (xs : List AV) (a : Nat) (args : List AV) (V : Sg) : Option (AV × Sg) := match args with
 | [v] => methL1 j xs a v V
 | _ => none
noncomputable def methF2 (a : Nat) (x d : AV) (V : Sg) : Option (AV × Sg) := match x with
 | .int k => if a = 101 then match flagName k with
  | some s => some (.str s, V)
  | none => some (d, V)
  else none
 | _ => none
noncomputable def methF (a : Nat) (args : List AV) (V : Sg) : Option (AV × Sg) := match args with
 | [x, d] => methF2 a x d V
 | _ => none
noncomputable def methA (k : AM) (o : AV) (a : Nat) (args : List AV) (V : Sg) : Option (AV × Sg) := match k with
 | .str => match o with
  | .str s => methS s a args V
  | _ => none
 | .list => match o with
  | .ref j => match V[j]? with
   | some (.list xs) => methL j xs a args V
   | _ => none
  | _ => none
 | .flags => methF a args V
 | .fn f => R.cl f args [] V
 | .inst => R.cl (.ref a) (o :: args) [] V
noncomputable def lamA (E : AE) (ps : List (Nat × Pos)) (body : Ex) (sc : List (Nat × NK)) (fast : List Nat) (V : Sg) : Option (AV × Sg) := do
 let cl <- closes E sc
 match E.tab with
 | some _ =>
  let fi : FI := { ps, body := .expr body, sc, qual := E.q ++ Str.ofString ".<locals>.<lambda>", args := argsOf ps, scope := scopeOf sc (fastOf fast) }
  let (f, V) := mk (.func fi cl.reverse none) V
  some (.ref f, V)
 | none => none
noncomputable def mergeA (V : Sg) (a b : AV) : Option (AV × Sg) := match a, b with
 | .ref i, .ref j => match V[i]?, V[j]? with
  | some (.dict xs _), some (.dict ys _) =>
   let (k, V) := mk (.dict (dputs ys (dputs xs ([], none))).1 none) V
   if xs.length <= 10 /\ ys.length <= 10 then some (.ref k, V) else none
  | _, _ => none
 | _, _ => none
noncomputable def stepEv (E : AE) (e : Ex) (V : Sg) : Option (AV × Sg) := match e with
 | .int i _ => if small i then some (.int i, V) else none
 | .str s _ => some (.str s, V)
 | .bool b _ => some (.bool b, V)
 | .none _ => some (.none, V)
 | .name x _ => (getN E x V).map (·, V)
 | .attr e a _ => do
  let (v, V) <- R.ev E e V
  some (<- attrA v a V, V)
 | .sub e i _ => do
  let (v, V) <- R.ev E e V
  let (k, V) <- R.ev E i V
  some (<- item v k V, V)
 | .subTo e hi _ _ => do
  let (v, V) <- R.ev E e V
  let (k, V) <- R.ev E hi V
  cutTo v k V
 | .call f args kwn kwe _ => match f with
  | .name _ _ => do
   let (fv, V) <- R.ev E f V
   let (vs, V) <- evs R E args V
   let (ks, V) <- evs R E kwe V
   if kwn.length = kwe.length then R.cl fv vs ((kwn.map (·.1)).zip ks) V else none
  | _ => none
 | .meth o a pa args p => if pa.endLine == p.line && decide (args.length <= 20) then do
   let (v, V) <- R.ev E o V
   let k <- methOf v a V
   let (vs, V) <- evs R E args V
   methA R k v a vs V
  else none
 | .bin l op r _ => do
  let (x, V) <- R.ev E l V
  let (y, V) <- R.ev E r V
  bin op x y V
 | .not e _ => do
  let (v, V) <- R.ev E e V
  some (.bool (!(<- truth v)), V)
 | .neg e _ => do
  let (v, V) <- R.ev E e V
  match v with
  | .int i => some (<- mkI (-i), V)
  | _ => none
 | .bool2 op l r _ => do
  let (x, V) <- R.ev E l V
  match op, <- truth x with
  | .And, false => some (x, V)
  | .Or, true => some (x, V)
  | _, _ => R.ev E r V
 | .cmp l op r _ => do
  let (x, V) <- R.ev E l V
  let (y, V) <- R.ev E r V
  some (.bool (<- cmp op x y V), V)
 | .ite t b o _ => do
  let (v, V) <- R.ev E t V
  if <- truth v then R.ev E b V else R.ev E o V
 | .list es _ => do
  let (vs, V) <- evs R E es V
  let (k, V) := mk (.list vs) V
  if es.length <= 100 then some (.ref k, V) else none
 | .tuple es _ => do
  let (vs, V) <- evs R E es V
  let (k, V) := mk (.tuple vs) V
  if es.length <= 100 then some (.ref k, V) else none
 | .dict ks vs _ => do
  let (k, V) := mk (.dict [] (some 0)) V
  let (xs, V) <- evs R E vs V
  let m := dputs ((ks.map (·.1)).zip xs) ([], some 0)
  match V[k]? with
  | some (.dict [] (some 0)) => if ks.length = vs.length /\ ks.length <= 15 /\ ks ≠ [] then do some (.ref k, <- upd k (.dict m.1 m.2) V) else none
  | _ => none
 | .merge a b _ => match a, b with
  | .name x _, .name y _ => do mergeA V (<- getN E x V) (<- getN E y V)
  | _, _ => none
 | .comp elt tg tp it cond sc _ => do
  let (v, V) <- R.ev E it V
  let (j, V) <- aiter v V
  let (acc, V) := mk (.list []) V
  let (E', V) <- compEnv E sc V
  let V <- loopComp R E' elt tg tp cond acc j 1000 V
  let V <- dropNs E'.loc V
  some (.ref acc, V)
 | .comp2 elt x1 p1 it1 x2 p2 it2 cond sc _ => do
  let (v, V) <- R.ev E it1 V
  let (j, V) <- aiter v V
  let (acc, V) := mk (.list []) V
  let (E', V) <- compEnv E sc V
  let V <- loopComp2 R E' elt x1 p1 x2 p2 it2 cond acc j 1000 V
  let V <- dropNs E'.loc V
  some (.ref acc, V)
 | .lam ps body sc fast _ => lamA E ps body sc fast V
noncomputable def callLike : Ex -> Bool
 | .call .. | .meth .. => true
 | _ => false
noncomputable def isAM : Ex -> Bool
 | .attr .. | .meth .. => true
 | _ => false
noncomputable def swapOk (E : AE) (xs : List (Nat × Pos)) (es : List Ex) : Bool :=
 (es.length == 2 || es.length == 3) && xs.length == es.length && xs.all (fun x => decide (look x.1 E.sc = some .loc) && x.2.line == ((xs.head?.map (·.2.line)).getD 0)) && decide ((xs.map (·.1)).Nodup) && es.any isAM
noncomputable def exec1 (E : AE) (s : Sm) (V : Sg) : Option (AF × Sg) := match s with
 | .assign xs e _ => do
  let (v, V) <- R.ev E e V
  some (.next, <- setNs E v xs V)
 | .assignT xs _ e _ => do
  let (v, V) <- R.ev E e V
  let vs <- unpackA v xs.length V
  match e with
  | .tuple es _ => if swapOk E xs es then some (.next, <- setEach E xs.reverse vs.reverse V) else none
  | _ => some (.next, <- setEach E xs vs V)
 | .assignA o a _ e _ => do
  let (v, V) <- R.ev E e V
  let (ov, V) <- R.ev E o V
  some (.next, <- setAttrA ov a v V)
 | .assignS o i _ e _ => do
  let (v, V) <- R.ev E e V
  let (ov, V) <- R.ev E o V
  let (iv, V) <- R.ev E i V
  some (.next, <- setItm ov iv v V)
 | .aug x _ op e _ => do
  let old <- getN E x V
  let (v, V) <- R.ev E e V
  match op, old, v with
  | .BitXor, .int a, .int b => some (.next, <- setN E x (<- binI .BitXor a b) V)
  | _, _, _ => none
 | .augS o i _ op e _ => do
  let (ov, V) <- R.ev E o V
  let (iv, V) <- R.ev E i V
  let old <- item ov iv V
  let (v, V) <- R.ev E e V
  match op, old, v with
  | .Add, .int a, .int b => some (.next, <- setItm ov iv (<- binI .Add a b) V)
  | _, _, _ => none
 | .forS tg tp it b o _ => do
  let (v, V) <- R.ev E it V
  let (j, V) <- aiter v V
  loopFor R E tg tp b o j 1000 V
 | .ifS c b o _ => do
  let (v, V) <- R.ev E c V
  if <- truth v then R.ex E b V else R.ex E o V
 | .ret e _ => do
  let (v, V) <- R.ev E e V
  some (.ret v, V)
 | .expr e _ => if callLike e then do
   let (v, V) <- R.ev E e V
   match v with
   | .none => some (.next, V)
   | _ => none
  else none
 | .brk _ => some (.brk, V)
noncomputable def stepEx (E : AE) : List Sm -> Sg -> Option (AF × Sg)
 | [], V => some (.next, V)
 | s :: r, V => do
  let (f, V) <- exec1 R E s V
  match f with
  | .next => stepEx E r V
  | f => some (f, V)
noncomputable def bindAll (E : AE) : List (Nat × AV) -> Sg -> Option Sg
 | [], V => some V
 | (x, v) :: r, V => do bindAll E r (<- setN E x v V)
noncomputable def bindsA (f : FI) (args : List AV) (kw : List (Nat × AV)) (V : Sg) : Option (List (Nat × AV) × Sg) := match f.kwp with
 | none => if kw.isEmpty && !f.dfl && args.length == f.ps.length && decide ((f.ps.map (·.1)).Nodup) then some ((f.ps.map (·.1)).zip args, V) else none
 | some x =>
  if x.1 == 21 && f.dfl && f.ps.map (·.1) == [18, 19, 20] && kw.all (fun k => !([18, 19, 20].contains k.1)) && decide (kw.length <= 10) && (args.length == 2 || args.length == 3) then
   let m := dputs (kw.map fun k => (nm k.1, k.2)) ([], some 0)
   some ([18, 19, 20].zip (args ++ [.ref 19]) ++ [(21, .ref V.length)], V ++ [.dict m.1 m.2])
  else none
noncomputable def sumA : List AV -> Int -> Option AV
 | [], a => mkI a
 | .int i :: r, a => if small (a + i) then sumA r (a + i) else none
 | _, _ => none
noncomputable def hexA (n : Nat) : Str := ⟨#[48, 120] ++ ((Nat.toDigits 16 n).map Char.toNat).toArray⟩
noncomputable def callR (b : BI) (j : Nat) (V : Sg) : Option (AV × Sg) := match b with
 | .len => match V[j]? with
  | some (.list xs) => if xs.length <= 100000 then some (.int xs.length, V) else none
  | some (.tuple xs) => if xs.length <= 100000 then some (.int xs.length, V) else none
  | _ => none
 | .sum => match V[j]? with
  | some (.list xs) => (sumA xs 0).map (·, V)
  | _ => none
 | .tuple => match V[j]? with
  | some (.list xs) => if xs.length <= 100000 then let (k, V) := mk (.tuple xs) V; some (.ref k, V) else none
  | _ => none
 | _ => none
noncomputable def callI (b : BI) (i : Int) (V : Sg) : Option (AV × Sg) := match b with
 | .hex => match i with
  | .ofNat n => if n <= 4294967296 then some (.str (hexA n), V) else none
  | _ => none
 | .range => if small i then let (k, V) := mk (.rng 0 i) V; some (.ref k, V) else none
 | _ => none
noncomputable def callII (b : BI) (i j : Int) (V : Sg) : Option (AV × Sg) := match b with
 | .max => some (.int (if j > i then j else i), V)
 | .range => if small i && small j then let (k, V) := mk (.rng i j) V; some (.ref k, V) else none
 | _ => none
noncomputable def call1 (b : BI) (x : AV) (V : Sg) : Option (AV × Sg) := match x with
 | .ref j => callR b j V
 | .int i => callI b i V
 | _ => none
noncomputable def call2 (b : BI) (x y : AV) (V : Sg) : Option (AV × Sg) := match x, y with
 | .int i, .int j => callII b i j V
 | _, _ => none
noncomputable def callB (b : BI) (args : List AV) (V : Sg) : Option (AV × Sg) := match args with
 | [x] => call1 b x V
 | [x, y] => call2 b x y V
 | _ => none
noncomputable def stepCl (f : AV) (args : List AV) (kw : List (Nat × AV)) (V : Sg) : Option (AV × Sg) := match f with
 | .bi b => if kw.isEmpty then callB b args V else none
 | .ref j => match V[j]? with
  | some (.func fi cl _) => do
   let (bs, V) <- bindsA fi args kw V
   let (l, V) := mk (.ns []) V
   let (cells, V) := layCells fi.sc cl V
   let E : AE := ⟨fi.sc, l, cells, fi.qual, fi.tab⟩
   let V <- bindAll E bs V
   match fi.body with
   | .stmts b => do
    let (f, V) <- R.ex E b V
    match f with
    | .ret v => some (v, V)
    | .next => some (.none, V)
    | .brk => none
   | .expr e => R.ev E e V
  | some .cls => match args, kw with
   | [v], [] => do
    let (d, V) := mk (.attrs []) V
    let (i, V) := mk (.inst d) V
    let (r, V) <- R.cl (.ref 18) [.ref i, v] [] V
    match r with
    | .none => some (.ref i, V)
    | _ => none
   | _, _ => none
  | _ => none
 | _ => none
noncomputable def step : Rec := { ev := stepEv R, ex := stepEx R, cl := stepCl R }
end
noncomputable def lvl : Nat -> Rec
 | 0 => ⟨fun _ _ _ => none, fun _ _ _ => none, fun _ _ _ _ => none⟩
 | n + 1 => step (lvl n)
noncomputable def fnc (f : FI) : AO := .func f [] none
noncomputable def sg0 : Sg := [
 fnc fSubElement, fnc f_serialize_text, fnc fpretty_flags, .cls, fnc f_law_numbers, fnc f_law_names, fnc f_law_words, fnc f_law_element, fnc f_law_given,
 fnc f_law_lead, fnc f_law_column, fnc flaw, .flags, fnc fWhitespace_longest_run_of_spaces, fnc fWhitespace_indent_level, fnc fWhitespace_equal, fnc fWhitespace_less,
 fnc fWhitespace_not_less_witness, fnc fWhitespace___init__, .dict [] (some 0)]
end
section
open PySem.W
set_option genInjectivity false in
set_option genSizeOf false in
structure Fx where
 prog : Program
 w : World
 K : Frag
 h₀ : Heap
 mg : Str -> Option Value
 mb : Str -> Option Value
 N : Addr
 mN : Str -> Option Value
 k₀ : Addr -> Option Obj
 os₀ : OsState
 Z₀ : List Addr
 ws : Addr
 fl : Addr
 P : Nat -> Addr
 C : Nat -> Addr
 tD : Value
noncomputable def lamQ (q : Str) : Str := q ++ Str.ofString ".<locals>.<lambda>"
noncomputable def tabQ (k : Nat) : Str := if k = 0 then Str.ofString "_law_element" else Str.ofString "_law_lead"
noncomputable def CodeLike (o : Obj) : Prop := ∃ vs q t, o.data = .fields vs /\ vs[1]? = some (.str q t)
section
variable (X : Fx)
inductive KVs (Z : List Addr) : List (Str × AV) -> List (Str × Value) -> Prop
 | nil : KVs Z [] []
 | cons {k : Str} {x : AV} {v : Value} {xs : List (Str × AV)} {vs : List (Str × Value)} : VR Z x v -> KVs Z xs vs -> KVs Z ((k, x) :: xs) ((k, v) :: vs)
inductive CLs (Z : List Addr) : List (Nat × Nat) -> List (Str × Addr) -> Prop
 | nil : CLs Z [] []
 | cons {x c : Nat} {a : Addr} {xs : List (Nat × Nat)} {vs : List (Str × Addr)} : Z[c]? = some a -> CLs Z xs vs -> CLs Z ((x, c) :: xs) ((nm x, a) :: vs)
structure FR (Z : List Addr) (f : FI) (cl : List (Nat × Nat)) (fd : FuncData) : Prop where
 ok : f.ok
 params : fd.params = f.args
 body : fd.body = f.body.py
 scope : fd.scope = f.scope
 globals : fd.globals = mainGlobals
 builtins : fd.builtins = builtinsNs
 qual : fd.qualname = f.qual
 closure : CLs Z cl fd.closure
 code : ∀ k, f.tab = some k -> k < 2 /\ f.qual = tabQ k /\ fd.code = .ref (X.C k)
 dfl : fd.defaults = if f.dfl then X.tD else .none
 kwd : fd.kwdefaults = .none
noncomputable def OR (Z : List Addr) (h : Heap) (a : Addr) : AO -> Prop
 | .list xs => ∃ vs, h.IsList a vs /\ VRs Z xs vs.toList
 | .tuple xs => ∃ vs, h.IsTuple a vs /\ VRs Z xs vs.toList
 | .dict kvs ep => ∃ ps e, h.DictAt (strKind X.prog X.w) a ps e /\ KVs Z kvs ps /\ ∀ n, ep = some n -> e = n
 | .flags => a = X.fl
 | .cell v => ∃ v', h.IsCell a v' /\ VRo Z v v'
 | .ns m => ∃ M, h.Ns a M /\ ∀ k, VRo Z (look k m) (M (nm k))
 | .attrs m => ∃ M, h.Ns1 a M /\ h.ExactDictFk a /\ (∀ k, VRo Z (look k m) (M (nm k))) /\ ∀ x, (∀ k, x ≠ nm k) -> M x = none
 | .func f cl at_ => ∃ fd od, h.get? a = some ⟨.type "function", od, .func fd, #[]⟩ /\ FR X Z f cl fd /\ od = at_.bind (fun d => Z[d]?) /\ (∀ d, at_ = some d -> (Z[d]?).isSome) /\ h.CodeRec fd.code f.qual
 | .inst d => ∃ da, Z[d]? = some da /\ ∃ o, h.get? a = some o /\ o.cls = .ref X.ws /\ (∀ c, o.data ≠ .cls c) /\ o.dict = some da /\ da ≠ a
 | .cls => a = X.ws
 | .rng x y => ∃ t u v, IsRange h a x y 1 t u v
 | .liter l i => ∃ la, Z[l]? = some la /\ h.IsListIter a la i
 | .titer l i => ∃ la, Z[l]? = some la /\ h.IsTupleIter a la i
 | .riter x left => IsRangeIter h a x left 1
 | .siter s i => ∃ t, h.IsStrIter a "str_ascii_iterator" s t i
 | .kiter d i n ep => ∃ da, Z[d]? = some da /\ h.IsKeyIter a da i n ep
 | .dead => True
structure R (Z : List Addr) (V : Sg) (s : Shared) : Prop where
 pre : X.Z₀ <+: Z
 len : Z.length = V.length
 nodup : Z.Nodup
 obj : ∀ (j : Nat) (a : Addr) (o : AO), Z[j]? = some a -> V[j]? = some o -> OR X Z s.heap a o
 new : ∀ (j : Nat) (a : Addr), nTop <= j -> Z[j]? = some a -> X.k₀ a = none
 live : ∀ (j : Nat) (a : Addr), Z[j]? = some a -> ∃ o, s.heap.get? a = some o
 keep : ∀ b o, X.k₀ b = some o -> s.heap.get? b = some o
 tne : ∀ a ∈ Z, ∀ k, k < 2 -> a ≠ X.P k
 tabs : ∀ k, k < 2 -> ∃ ps, s.heap.get? (X.P k) = some (tabObj ps) /\ TriplesOk ps.toList /\ ∀ pos cv, codeAmong pos ps.toList = some cv -> s.heap.CodeRec cv (lamQ (tabQ k))
 gens : s.gens = #[]
 os : s.os = X.os₀
 nd : ∀ (j : Nat) (a : Addr) (xs : List AV), Z[j]? = some a -> V[j]? = some (.list xs) -> ∀ o, s.heap.get? a = some o -> o.dict = none
end
variable {X : Fx} {Z Z' : List Addr}
theorem KVs.mono (h : Z <+: Z') {xs : List (Str × AV)} {vs : List (Str × Value)} (r : KVs Z xs vs) : KVs Z' xs vs := by
 induction r with
 | nil => exact .nil
 | cons a _ ih => exact .cons (a.mono h) ih
theorem CLs.mono (h : Z <+: Z') {xs : List (Nat × Nat)} {vs : List (Str × Addr)} (r : CLs Z xs vs) : CLs Z' xs vs := by
 induction r with
 | nil => exact .nil
 | cons a _ ih => exact .cons (get_prefix h a) ih
theorem FR.mono (h : Z <+: Z') {f : FI} {cl : List (Nat × Nat)} {fd : FuncData} (r : FR X Z f cl fd) : FR X Z' f cl fd :=
 {r with closure := r.closure.mono h }
theorem CodeRec_like {h h' : Heap} {cd : Value} {q : Str} (x : h.CodeRec cd q) (hc : ∀ b o, h.get? b = some o -> CodeLike o -> h'.get? b = some o) : h'.CodeRec cd q := by
 refine e8 x fun c o vs t e g d v => ?_
 exact i8 c o vs t e (hc _ _ g ⟨vs, q, t, d, v⟩) d v
theorem dict_mono (hp : Z <+: Z') {d : Nat} (k : (Z[d]?).isSome = true) : Z[d]? = Z'[d]? := by
 refine (Option.isSome_iff_exists.mp k).elim fun x hx => ?_
 refine rwR hx ?_
 exact rwR (get_prefix hp hx) rfl
theorem OR.to {h h' : Heap} {a : Addr} (hp : Z <+: Z') (e : ∀ o, h.get? a = some o -> h'.get? a = some o) (hc : ∀ b o, h.get? b = some o -> CodeLike o -> h'.get? b = some o) {o : AO} (r : OR X Z h a o) : OR X Z' h' a o := by
 induction o with
 | list xs => exact r.elim fun vs z => ⟨vs, z.1.elim fun o y => ⟨o, e _ y.1, y.2⟩, z.2.mono hp⟩
 | tuple xs => exact r.elim fun vs z => ⟨vs, z.1.elim fun o y => ⟨o, e _ y.1, y.2⟩, z.2.mono hp⟩
 | dict kvs ep => exact r.elim fun ps z => z.elim fun en z => ⟨ps, en, z.1.elim fun o y => y.elim fun es y => ⟨o, es, e _ y.1, y.2⟩, z.2.1.mono hp, z.2.2⟩
 | cell v => exact r.elim fun v z => ⟨v, z.1.elim fun o y => ⟨o, e _ y.1, y.2⟩, z.2.mono hp⟩
 | ns m => exact r.elim fun M z => ⟨M, z.1.elim fun o y => y.elim fun es y => y.elim fun ep y => ⟨o, es, ep, e _ y.1, y.2⟩, fun k => (z.2 k).mono hp⟩
 | attrs m => exact r.elim fun M z => ⟨M, z.1.at e, z.2.1.elim fun o y => ⟨o, e _ y.1, y.2⟩, fun k => (z.2.2.1 k).mono hp, z.2.2.2⟩
 | func f cl at_ =>
  refine e7 r fun fd od ho r q k cr => ?_
  refine i7 fd od (e _ ho) (r.mono hp) (q.trans ?_) (fun d hd => dict_mono hp (k d hd) ▸ k d hd) (CodeRec_like cr hc)
  rcases at_ with _ | d
  ·rfl
  ·exact dict_mono hp (k d rfl)
 | inst d => exact r.elim fun da z => ⟨da, get_prefix hp z.1, z.2.elim fun o y => ⟨o, e _ y.1, y.2⟩⟩
 | rng x y => exact r.elim fun t z => z.elim fun u z => z.elim fun v z => ⟨t, u, v, e _ z⟩
 | liter l i => exact r.elim fun la z => ⟨la, get_prefix hp z.1, z.2.elim fun o y => ⟨o, e _ y.1, y.2⟩⟩
 | titer l i => exact r.elim fun la z => ⟨la, get_prefix hp z.1, z.2.elim fun o y => ⟨o, e _ y.1, y.2⟩⟩
 | riter x l => exact e _ r
 | siter s i => exact r.elim fun t z => ⟨t, z.elim fun o y => ⟨o, e _ y.1, y.2⟩⟩
 | kiter d i n ep => exact r.elim fun la z => ⟨la, get_prefix hp z.1, z.2.elim fun o y => ⟨o, e _ y.1, y.2⟩⟩
 | _ => exact r
theorem OR.mono {h : Heap} {a : Addr} (hp : Z <+: Z') {o : AO} : OR X Z h a o -> OR X Z' h a o := OR.to hp (fun _ q => q) fun _ _ q _ => q
theorem OR.at {h h' : Heap} {a : Addr} (e : ∀ o, h.get? a = some o -> h'.get? a = some o) (hc : ∀ b o, h.get? b = some o -> CodeLike o -> h'.get? b = some o) {o : AO} : OR X Z h a o -> OR X Z h' a o := OR.to (List.prefix_refl _) e hc
variable {V : Sg} {s s' : Shared}
theorem tabs_like {h h' : Heap} {k : Nat} (hc : ∀ b o, h.get? b = some o -> CodeLike o -> h'.get? b = some o) (hP : ∀ o, h.get? (X.P k) = some o -> h'.get? (X.P k) = some o)
  (t : ∃ ps, h.get? (X.P k) = some (tabObj ps) /\ TriplesOk ps.toList /\ ∀ pos cv, codeAmong pos ps.toList = some cv -> h.CodeRec cv (lamQ (tabQ k))) :
  ∃ ps, h'.get? (X.P k) = some (tabObj ps) /\ TriplesOk ps.toList /\ ∀ pos cv, codeAmong pos ps.toList = some cv -> h'.CodeRec cv (lamQ (tabQ k)) :=
 t.elim fun ps z => ⟨ps, hP _ z.1, z.2.1, fun pos cv q => CodeRec_like (z.2.2 pos cv q) hc⟩
theorem R.grow (r : R X Z V s) (hk : ∀ b o, s.heap.get? b = some o -> s'.heap.get? b = some o) (hg : s'.gens = s.gens) (ho : s'.os = s.os) : R X Z V s' :=
 {r with
  obj := fun j a o e q => (r.obj j a o e q).at (fun x => hk a x) fun b o e _ => hk b o e
  live := fun j a e => (r.live j a e).elim fun o q => ⟨o, hk _ _ q⟩
  keep := fun b o e => hk b o (r.keep b o e)
  tabs := fun k h => tabs_like (fun b o e _ => hk b o e) (fun o e => hk _ o e) (r.tabs k h)
  gens := hg.trans r.gens
  os := ho.trans r.os
  nd := fun j a xs e q o h => by
   refine e2 (r.live j a e) fun o' h' => ?_
   obtain rfl := uq (hk _ _ h') h
   exact r.nd j a xs e q _ h' }
theorem nodup_snoc {α : Type} {l : List α} {a : α} (h : l.Nodup) (ha : a ∉ l) : (l ++ [a]).Nodup :=
 List.nodup_append.mpr ⟨h, List.nodup_cons.mpr ⟨List.not_mem_nil, List.nodup_nil⟩, fun _ hx _ hy e => ha (List.mem_singleton.mp hy ▸ e ▸ hx)⟩
theorem snoc_get {α : Type} {l : List α} {a b : α} {j : Nat} (e : (l ++ [a])[j]? = some b) : l[j]? = some b \/ (j = l.length /\ b = a) := by
 rcases Nat.lt_or_ge j l.length with hj | hj
 ·exact .inl ((List.getElem?_append_left hj).symm.trans e)
 ·have e := (List.getElem?_append_right hj).symm.trans e
  rcases Nat.eq_or_lt_of_le hj with q | q
  ·subst q
   rw [Nat.sub_self] at e
   exact .inr ⟨rfl, (Option.some.inj e).symm⟩
  ·exact noneS ((List.getElem?_eq_none (Nat.sub_pos_of_lt q)).symm.trans e)
theorem snoc_two {α β : Type} {l : List α} {m : List β} {a b : α} {o q : β} {j : Nat} (hl : l.length = m.length) (e : (l ++ [a])[j]? = some b) (e2 : (m ++ [o])[j]? = some q) : (l[j]? = some b /\ m[j]? = some q) \/ (b = a /\ q = o) := by
 rcases snoc_get e with e | e
 ·exact .inl ⟨e, (List.getElem?_append_left (hl ▸ (List.getElem?_eq_some_iff.mp e).1)).symm.trans e2⟩
 ·refine .inr ⟨e.2, (snoc_get e2).elim (fun q => ?_) fun q => q.2⟩
  exact absurd (List.getElem?_eq_some_iff.mp q).1 (Nat.not_lt.mpr (Nat.le_of_eq (hl.symm.trans e.1.symm)))
theorem R.new1 (r : R X Z V s) {a : Addr} {o : AO} (hk : ∀ b x, s.heap.get? b = some x -> s'.heap.get? b = some x) (ha : s.heap.get? a = none) (hl : ∃ x, s'.heap.get? a = some x)
  (hg : s'.gens = s.gens) (ho : s'.os = s.os) (hor : OR X (Z ++ [a]) s'.heap a o)
  (hnd : ∀ xs, o = .list xs -> ∀ x, s'.heap.get? a = some x -> x.dict = none := by intro _ h; cases h) : R X (Z ++ [a]) (V ++ [o]) s' := by
 have hp : Z <+: Z ++ [a] := List.prefix_append ..
 have r' := r.grow hk hg ho
 have hna : a ∉ Z := fun hm => (List.getElem?_of_mem hm).elim fun j hj => (r.live j a hj).elim fun x hx => noneS (ha.symm.trans hx)
 have hlen : (Z ++ [a]).length = (V ++ [o]).length := by rw [List.length_append, List.length_append, r.len]; rfl
 refine { r' with pre := r.pre.trans hp, len := hlen, nodup := nodup_snoc r.nodup hna, obj := fun j b q e1 e2 => ?_, new := fun j b hj e => ?_, live := fun j b e => ?_, tne := fun b hb k hk => ?_, nd := fun j b xs e1 e2 => ?_ }
 ·rcases snoc_two r.len e1 e2 with e | ⟨rfl, rfl⟩
  ·exact (r'.obj j b q e.1 e.2).mono hp
  ·exact hor
 ·rcases snoc_get e with e | ⟨_, rfl⟩
  ·exact r.new j b hj e
  ·exact Option.eq_none_iff_forall_ne_some.mpr fun o' hx => noneS (ha.symm.trans (r.keep b o' hx))
 ·rcases snoc_get e with e | ⟨_, rfl⟩
  ·exact r'.live j b e
  ·exact hl
 ·rcases List.mem_append.mp hb with hb | hb
  ·exact r.tne b hb k hk
  ·obtain rfl := List.mem_singleton.mp hb
   exact fun q => (r.tabs k hk).elim fun ps z => noneS (ha.symm.trans (q ▸ z.1))
 ·rcases snoc_two r.len e1 e2 with e | ⟨rfl, e⟩
  ·exact r'.nd j b xs e.1 e.2
  ·exact hnd xs e.symm
theorem R.set1 (r : R X Z V s) {j : Nat} {a : Addr} {o : AO} (hj : nTop <= j) (ha : Z[j]? = some a) (hb : ∀ b o, b ≠ a -> s.heap.get? b = some o -> s'.heap.get? b = some o) (hnc : ∀ x, s.heap.get? a = some x -> ¬ CodeLike x) (hg : s'.gens = s.gens) (ho : s'.os = s.os) (hor : OR X Z s'.heap a o) (hl : ∃ x, s'.heap.get? a = some x)
  (hnd : ∀ xs, o = .list xs -> ∀ x, s'.heap.get? a = some x -> x.dict = none := by intro _ h; cases h) : R X Z (V.set j o) s' := by
 have hc : ∀ b x, s.heap.get? b = some x -> CodeLike x -> s'.heap.get? b = some x := fun b x e c => hb b x (fun q => hnc x (q ▸ e) c) e
 have hne : ∀ {i b}, j ≠ i -> Z[i]? = some b -> b ≠ a := fun hi e1 e => hi ((List.getElem?_inj (List.getElem?_eq_some_iff.mp ha).1 r.nodup).mp (ha.trans (e ▸ e1.symm)))
 have hset : ∀ {i b q}, Z[i]? = some b -> (V.set j o)[i]? = some q -> (j = i /\ b = a /\ q = o) \/ (j ≠ i /\ V[i]? = some q) := fun {i b q} e1 e2 => by
  by_cases hi : j = i
  ·subst hi
   exact .inl ⟨rfl, uq e1 ha, (uq e2 (List.getElem?_set_self (r.len ▸ (List.getElem?_eq_some_iff.mp ha).1)))⟩
  ·exact .inr ⟨hi, (List.getElem?_set_ne hi).symm.trans e2⟩
 refine { r with len := r.len.trans (List.length_set ..).symm, obj := fun i b q e1 e2 => ?_, live := fun i b e => ?_, keep := fun b q e => hb b q (fun q => noneS ((r.new j a hj ha).symm.trans (q ▸ e))) (r.keep b q e), tabs := fun k hk => tabs_like hc (fun o e => hb _ o (fun q => r.tne a (List.mem_of_getElem? ha) k hk q.symm) e) (r.tabs k hk), gens := hg.trans r.gens, os := ho.trans r.os, nd := fun i b xs e1 e2 x hx => ?_ }
 ·rcases hset e1 e2 with ⟨_, rfl, rfl⟩ | z
  ·exact hor
  ·exact (r.obj i b q e1 z.2).at (fun x hx => hb b x (hne z.1 e1) hx) hc
 ·by_cases q : b = a
  ·subst q; exact hl
  ·exact (r.live i b e).elim fun x hx => ⟨x, hb b x q hx⟩
 ·rcases hset e1 e2 with ⟨_, rfl, e⟩ | z
  ·exact hnd xs e.symm x hx
  ·refine (r.live i b e1).elim fun y hy => ?_
   obtain rfl := uq (hb b y (hne z.1 e1) hy) hx
   exact r.nd i b xs e1 z.2 _ hy
theorem butOf {h h' : Heap} {a : Addr} (hs : Heap.SameBut a h h') (b : Addr) (o : Obj) (hb : b ≠ a) (e : h.get? b = some o) : h'.get? b = some o := (hs.2 b hb).trans e
theorem upd_some {j : Nat} {o : AO} {V' : Sg} (h : upd j o V = some V') : nTop <= j /\ j < V.length /\ V' = V.set j o := iteS h fun q h => ⟨q.1, q.2, (Option.some.inj h).symm⟩
theorem R.addr (r : R X Z V s) {j : Nat} {o : AO} (h : V[j]? = some o) : ∃ a, Z[j]? = some a /\ OR X Z s.heap a o := by
 have hl := (List.getElem?_eq_some_iff.mp h).1
 have : j < Z.length := r.len ▸ hl
 exact i3 _ (List.getElem?_eq_getElem this) (r.obj j _ o (List.getElem?_eq_getElem this) h)
theorem R.ne (r : R X Z V s) {i j : Nat} {a b : Addr} (hi : Z[i]? = some a) (hj : Z[j]? = some b) (h : i ≠ j) : a ≠ b := fun e =>
 h ((List.getElem?_inj (List.getElem?_eq_some_iff.mp hi).1 r.nodup).mp (hi.trans (e ▸ hj.symm)))
noncomputable def Post (X : Fx) (Z : List Addr) (V' : Sg) (v : AV) : Value -> Shared -> Prop := fun x s' => ∃ Z', Z <+: Z' /\ R X Z' V' s' /\ VR Z' v x
end
variable {V V' V0 V1 Vg V₁ V'' V₂ Vb : Sg} {v x : AV} {n a b i l bl d t lo s it da gv nd fh s2 p2 B c fl acc x1 tc ca ts d1 d2 t2 n2 tc1 tc2 x2 wf ta : Nat} {p q pos p1 pt pa p3 p4 p5 p6 : Pos} {r : Rec} {m kw bs m' fr m0 : List (Nat × AV)} {xs args ys zs : List AV} {e elt rr it2 : Ex} {E : AE} {G : Prop} {h h' : Heap} {vs : List Value} {y w fv z : Value} {sc : List (Nat × NK)} {Q : AV -> Sg -> Prop} {D : List (Nat × AO)} {cl cells : List (Nat × Nat)} {kvs ps : List (Str × Value)} {tg kwn : List (Nat × Pos)} {A : Around} {o' : AO} {es cond kwe : List Ex} {tag tail r1 r2 : Str} {f fi : FI} {ep : Option Nat} {Z₁ Z : List Addr} {fam L : List Nat} {prog : Program} {ex : Bool} {cenv : Env} {s₂ : Shared} {ks : List Str}
section
open PySem.W
variable {X : Fx} {Z : List Addr} {V V' : Sg} {s : Shared} {G : Prop}
theorem postE {x : Value} (h : Post X Z V v x s) (k : ∀ Z', Z <+: Z' -> R X Z' V s -> VR Z' v x -> G) : G := h.elim fun a z => k a z.1 z.2.1 z.2.2
@[elab_as_elim] theorem updE {motive : Sg -> Prop} {j : Nat} {o : AO} (h : upd j o V = some V') (k : nTop <= j -> j < V.length -> motive (V.set j o)) : motive V' := (upd_some h).2.2 ▸ k (upd_some h).1 (upd_some h).2.1
end
section
open PySem.W
section
variable {α β : Type} {r : α} {G : Prop}
theorem refE {f : Nat -> Option α} (h : (match v with | .ref j => f j | _ => none) = some r) (k : ∀ j, v = .ref j -> f j = some r -> G) : G := by
 induction v with
 | ref j => exact k j rfl h
 | _ => exact noneS h
theorem oList {o : Option AO} {f0 : List AV -> Option α} (h : (match o with | some (.list xs) => f0 xs | _ => none) = some r) (k0 : ∀ xs, o = some (.list xs) -> f0 xs = some r -> G) : G := by
 rcases o with _ | o
 ·exact noneS h
 induction o with
 | list xs => exact k0 xs rfl h
 | _ => exact noneS h
theorem oTuple {o : Option AO} {f0 : List AV -> Option α} (h : (match o with | some (.tuple xs) => f0 xs | _ => none) = some r) (k0 : ∀ xs, o = some (.tuple xs) -> f0 xs = some r -> G) : G := by
 rcases o with _ | o
 ·exact noneS h
 induction o with
 | tuple xs => exact k0 xs rfl h
 | _ => exact noneS h
theorem oSeq {o : Option AO} {f0 : List AV -> Option α} {f1 : List AV -> Option α} (h : (match o with | some (.list xs) => f0 xs | some (.tuple xs) => f1 xs | _ => none) = some r) (k0 : ∀ xs, o = some (.list xs) -> f0 xs = some r -> G) (k1 : ∀ xs, o = some (.tuple xs) -> f1 xs = some r -> G) : G := by
 rcases o with _ | o
 ·exact noneS h
 induction o with
 | list xs => exact k0 xs rfl h
 | tuple xs => exact k1 xs rfl h
 | _ => exact noneS h
theorem oAttrs {o : Option AO} {f0 : List (Nat × AV) -> Option α} (h : (match o with | some (.attrs m) => f0 m | _ => none) = some r) (k0 : ∀ m, o = some (.attrs m) -> f0 m = some r -> G) : G := by
 rcases o with _ | o
 ·exact noneS h
 induction o with
 | attrs m => exact k0 m rfl h
 | _ => exact noneS h
theorem oNs {o : Option AO} {f0 : List (Nat × AV) -> Option α} (h : (match o with | some (.ns m) => f0 m | _ => none) = some r) (k0 : ∀ m, o = some (.ns m) -> f0 m = some r -> G) : G := by
 rcases o with _ | o
 ·exact noneS h
 induction o with
 | ns m => exact k0 m rfl h
 | _ => exact noneS h
theorem oCell {o : Option AO} {f0 : Option AV -> Option α} (h : (match o with | some (.cell v) => f0 v | _ => none) = some r) (k0 : ∀ v, o = some (.cell v) -> f0 v = some r -> G) : G := by
 rcases o with _ | o
 ·exact noneS h
 induction o with
 | cell v => exact k0 v rfl h
 | _ => exact noneS h
theorem oDict {o : Option AO} {f0 : List (Str × AV) -> Option Nat -> Option α} (h : (match o with | some (.dict m e) => f0 m e | _ => none) = some r) (k0 : ∀ m e, o = some (.dict m e) -> f0 m e = some r -> G) : G := by
 rcases o with _ | o
 ·exact noneS h
 induction o with
 | dict m e => exact k0 m e rfl h
 | _ => exact noneS h
theorem oRead {o : Option AO} {f0 : FI -> List (Nat × Nat) -> Nat -> Option α} {f1 : Nat -> Option α} {f2 : Option α} (h : (match o with | some (.func fi cl (some d)) => f0 fi cl d | some (.inst d) => f1 d | some .cls => f2 | _ => none) = some r) (k0 : ∀ fi cl d, o = some (.func fi cl (some d)) -> f0 fi cl d = some r -> G) (k1 : ∀ d, o = some (.inst d) -> f1 d = some r -> G) (k2 : o = some .cls -> f2 = some r -> G) : G := by
 rcases o with _ | o
 ·exact noneS h
 induction o with
 | func fi cl d =>
  rcases d with _ | d
  ·exact noneS h
  ·exact k0 fi cl d rfl h
 | inst d => exact k1 d rfl h
 | cls => exact k2  rfl h
 | _ => exact noneS h
theorem oWrite {o : Option AO} {f0 : FI -> List (Nat × Nat) -> Option α} {f1 : FI -> List (Nat × Nat) -> Nat -> Option α} {f2 : Nat -> Option α} (h : (match o with | some (.func fi cl none) => f0 fi cl | some (.func fi cl (some d)) => f1 fi cl d | some (.inst d) => f2 d | _ => none) = some r) (k0 : ∀ fi cl, o = some (.func fi cl none) -> f0 fi cl = some r -> G) (k1 : ∀ fi cl d, o = some (.func fi cl (some d)) -> f1 fi cl d = some r -> G) (k2 : ∀ d, o = some (.inst d) -> f2 d = some r -> G) : G := by
 rcases o with _ | o
 ·exact noneS h
 induction o with
 | func fi cl d =>
  rcases d with _ | d
  ·exact k0 fi cl rfl h
  ·exact k1 fi cl d rfl h
 | inst d => exact k2 d rfl h
 | _ => exact noneS h
theorem oMeth {o : Option AO} {f0 : List AV -> Option α} {f1 : Option α} {f2 : FI -> List (Nat × Nat) -> Nat -> Option α} {f3 : Nat -> Option α} (h : (match o with | some (.list xs) => f0 xs | some .flags => f1 | some (.func fi cl (some d)) => f2 fi cl d | some (.inst d) => f3 d | _ => none) = some r) (k0 : ∀ xs, o = some (.list xs) -> f0 xs = some r -> G) (k1 : o = some .flags -> f1 = some r -> G) (k2 : ∀ fi cl d, o = some (.func fi cl (some d)) -> f2 fi cl d = some r -> G) (k3 : ∀ d, o = some (.inst d) -> f3 d = some r -> G) : G := by
 rcases o with _ | o
 ·exact noneS h
 induction o with
 | list xs => exact k0 xs rfl h
 | flags => exact k1  rfl h
 | func fi cl d =>
  rcases d with _ | d
  ·exact noneS h
  ·exact k2 fi cl d rfl h
 | inst d => exact k3 d rfl h
 | _ => exact noneS h
theorem iteN {c : Prop} {d : Decidable c} {x : Option α} (h : @ite _ c d none x = some r) (k : ¬ c -> x = some r -> G) : G := by
 by_cases hc : c
 ·rw [if_pos hc] at h; exact noneS h
 ·rw [if_neg hc] at h; exact k hc h
theorem iteC {c : Prop} {d : Decidable c} {x y : Option α} (h : @ite _ c d x y = some r) (k : c -> x = some r -> G) (k2 : ¬ c -> y = some r -> G) : G := by
 by_cases hc : c
 ·rw [if_pos hc] at h; exact k hc h
 ·rw [if_neg hc] at h; exact k2 hc h
theorem oSeq2 {o o' : Option AO} {f g : List AV -> List AV -> Option α} (h : (match o, o' with | some (.list xs), some (.list ys) => f xs ys | some (.tuple xs), some (.tuple ys) => g xs ys | _, _ => none) = some r)
  (k : ∀ xs ys, o = some (.list xs) -> o' = some (.list ys) -> f xs ys = some r -> G) (k2 : ∀ xs ys, o = some (.tuple xs) -> o' = some (.tuple ys) -> g xs ys = some r -> G) : G := by
 rcases o with _ | o
 ·exact noneS h
 induction o with
 | list xs =>
  rcases o' with _ | o'
  ·exact noneS h
  induction o' with
  | list ys => exact k xs ys rfl rfl h
  | _ => exact noneS h
 | tuple xs =>
  rcases o' with _ | o'
  ·exact noneS h
  induction o' with
  | tuple ys => exact k2 xs ys rfl rfl h
  | _ => exact noneS h
 | _ => exact noneS h
theorem oLD2 {o o' : Option AO} {f : List AV -> List AV -> Option α} {g : List (Str × AV) -> Option Nat -> List (Str × AV) -> Option Nat -> Option α} (h : (match o, o' with | some (.list xs), some (.list ys) => f xs ys | some (.dict xs e), some (.dict ys e') => g xs e ys e' | _, _ => none) = some r)
  (k : ∀ xs ys, o = some (.list xs) -> o' = some (.list ys) -> f xs ys = some r -> G) (k2 : ∀ xs e ys e', o = some (.dict xs e) -> o' = some (.dict ys e') -> g xs e ys e' = some r -> G) : G := by
 rcases o with _ | o
 ·exact noneS h
 induction o with
 | list xs =>
  rcases o' with _ | o'
  ·exact noneS h
  induction o' with
  | list ys => exact k xs ys rfl rfl h
  | _ => exact noneS h
 | dict xs e =>
  rcases o' with _ | o'
  ·exact noneS h
  induction o' with
  | dict ys e' => exact k2 xs e ys e' rfl rfl h
  | _ => exact noneS h
 | _ => exact noneS h
end
variable {X : Fx} {Z : List Addr} {V : Sg} {s : Shared} {G : Prop}
@[elab_as_elim] theorem refV {motive : Value -> Prop} {j : Nat} (h : VR Z (.ref j) y) (k : ∀ p, Z[j]? = some p -> motive (.ref p)) : motive y := let ⟨p, a, b⟩ := h; b.symm ▸ k p a
@[elab_as_elim] theorem intV {motive : Value -> Prop} {i : Int} (h : VR Z (.int i) y) (k : ∀ t, motive (.int i t)) : motive y := let ⟨t, b⟩ := h; b.symm ▸ k t
@[elab_as_elim] theorem strV {motive : Value -> Prop} {i : Str} (h : VR Z (.str i) y) (k : ∀ t, motive (.str i t)) : motive y := let ⟨t, b⟩ := h; b.symm ▸ k t
@[elab_as_elim] theorem boolV {motive : Value -> Prop} {i : Bool} (h : VR Z (.bool i) y) (k : motive (.bool i)) : motive y := Eq.symm h ▸ k
theorem fnV (r : R X Z V s) {j : Nat} {p : Addr} (hp : Z[j]? = some p) (hf : V[j]? = some (.func f cl (some d))) (hm : V[d]? = some (.attrs m))
  (k : ∀ fd da M, s.heap.get? p = some ⟨.type "function", some da, .func fd, #[]⟩ -> Z[d]? = some da -> s.heap.Ns1 da M -> s.heap.ExactDictFk da -> (∀ k, VRo Z (look k m) (M (nm k))) -> (∀ x, (∀ k, x ≠ nm k) -> M x = none) -> G) : G :=
 by
 refine e7 (r.obj _ _ _ hp hf) fun fd _ a _ b _ _ => ?_
 obtain ⟨da, e, M, c, x, y, z⟩ := r.addr hm
 exact k fd da M (b.trans e ▸ a) e c x y z
theorem clsE {C N : Addr} {mN : Str -> Option Value} (X : ClsAt h C N mN)
  (k : ∀ nm q bs sn sub col dd k0 k1 k2 k3 k5, h.get? C = some (excClassObj nm q C N bs [.type "object"] true sn sub false col dd k0 k1 k2 k3 k5 "object.__new__") -> G) : G :=
 X.obj.elim fun nm z => z.elim fun q z => z.elim fun bs z => z.elim fun sn z => z.elim fun sub z => z.elim fun col z => z.elim fun dd z => z.elim fun k0 z => z.elim fun k1 z => z.elim fun k2 z => z.elim fun k3 z => z.elim fun k5 z => k nm q bs sn sub col dd k0 k1 k2 k3 k5 z
theorem liV (r : R X Z V s) {j : Nat} {p : Addr} (hp : Z[j]? = some p) (h : V[j]? = some (.list xs)) (k : ∀ vs, s.heap.IsList p vs -> VRs Z xs vs.toList -> xs.length = vs.size -> G) : G :=
 (r.obj _ _ _ hp h).elim fun vs z => k vs z.1 z.2 (z.2.length.trans vs.length_toList)
theorem tuV (r : R X Z V s) {j : Nat} {p : Addr} (hp : Z[j]? = some p) (h : V[j]? = some (.tuple xs)) (k : ∀ vs, s.heap.IsTuple p vs -> VRs Z xs vs.toList -> xs.length = vs.size -> G) : G :=
 (r.obj _ _ _ hp h).elim fun vs z => k vs z.1 z.2 (z.2.length.trans vs.length_toList)
theorem diV (r : R X Z V s) {j : Nat} {p : Addr} {xs : List (Str × AV)} (hp : Z[j]? = some p) (h : V[j]? = some (.dict xs ep)) (k : ∀ ps e, s.heap.DictAt (strKind X.prog X.w) p ps e -> KVs Z xs ps -> (∀ n, ep = some n -> e = n) -> G) : G :=
 (r.obj _ _ _ hp h).elim fun ps z => z.elim fun e z => k ps e z.1 z.2.1 z.2.2
@[elab_as_elim] theorem consE {motive : List Value -> Prop} (h : VRs Z (x :: xs) vs) (k : ∀ v ws, VR Z x v -> VRs Z xs ws -> motive (v :: ws)) : motive vs :=
 match h with
 | .cons a b => k _ _ a b
@[elab_as_elim] theorem nilE {motive : List Value -> Prop} (h : VRs Z [] vs) (k : motive []) : motive vs :=
 match h with
 | .nil => k
end
section
open PySem.W
section
variable {α β : Type} {r : α} {G : Prop}
theorem args1E {f : AV -> Option α} (h : (match args with | [x] => f x | _ => none) = some r) (k : ∀ x, args = [x] -> f x = some r -> G) : G := by
 rcases args with _ | ⟨x, _ | ⟨y, l⟩⟩
 ·exact noneS h
 ·exact k x rfl h
 ·exact noneS h
theorem args2E {f : AV -> AV -> Option α} (h : (match args with | [x, y] => f x y | _ => none) = some r) (k : ∀ x y, args = [x, y] -> f x y = some r -> G) : G := by
 rcases args with _ | ⟨x, _ | ⟨y, _ | ⟨z, l⟩⟩⟩
 ·exact noneS h
 ·exact noneS h
 ·exact k x y rfl h
 ·exact noneS h
theorem args12E {f : AV -> Option α} {g : AV -> AV -> Option α} (h : (match args with | [x] => f x | [x, y] => g x y | _ => none) = some r) (k : ∀ x, args = [x] -> f x = some r -> G) (k2 : ∀ x y, args = [x, y] -> g x y = some r -> G) : G := by
 rcases args with _ | ⟨x, _ | ⟨y, _ | ⟨z, l⟩⟩⟩
 ·exact noneS h
 ·exact k x rfl h
 ·exact k2 x y rfl h
 ·exact noneS h
theorem strE {f : Str -> Option α} (h : (match v with | .str j => f j | _ => none) = some r) (k : ∀ j, v = .str j -> f j = some r -> G) : G := by
 induction v with
 | str j => exact k j rfl h
 | _ => exact noneS h
theorem intE {f : Int -> Option α} (h : (match v with | .int j => f j | _ => none) = some r) (k : ∀ j, v = .int j -> f j = some r -> G) : G := by
 induction v with
 | int j => exact k j rfl h
 | _ => exact noneS h
theorem refStrE {f : Nat -> Option α} {g : Str -> Option α} (h : (match v with | .ref j => f j | .str s => g s | _ => none) = some r) (k : ∀ j, v = .ref j -> f j = some r -> G) (k2 : ∀ j, v = .str j -> g j = some r -> G) : G := by
 induction v with
 | ref j => exact k j rfl h
 | str j => exact k2 j rfl h
 | _ => exact noneS h
theorem strRefE {g : Option α} {f : Nat -> Option α} (h : (match v with | .str _ => g | .ref j => f j | _ => none) = some r) (k : ∀ j, v = .str j -> g = some r -> G) (k2 : ∀ j, v = .ref j -> f j = some r -> G) : G := by
 induction v with
 | str j => exact k j rfl h
 | ref j => exact k2 j rfl h
 | _ => exact noneS h
theorem refIntE {f : Nat -> Option α} {g : Int -> Option α} (h : (match v with | .ref j => f j | .int s => g s | _ => none) = some r) (k : ∀ j, v = .ref j -> f j = some r -> G) (k2 : ∀ j, v = .int j -> g j = some r -> G) : G := by
 induction v with
 | ref j => exact k j rfl h
 | int j => exact k2 j rfl h
 | _ => exact noneS h
theorem intIntE {w : AV} {f : Int -> Int -> Option α} (h : (match v, w with | .int i, .int j => f i j | _, _ => none) = some r) (k : ∀ i j, v = .int i -> w = .int j -> f i j = some r -> G) : G := by
 induction v with
 | int i =>
  induction w with
  | int j => exact k i j rfl rfl h
  | _ => exact noneS h
 | _ => exact noneS h
theorem refIntRefStrE {w : AV} {f : Nat -> Int -> Option α} {g : Nat -> Str -> Option α} (h : (match v, w with | .ref i, .int j => f i j | .ref i, .str j => g i j | _, _ => none) = some r)
  (k : ∀ i j, v = .ref i -> w = .int j -> f i j = some r -> G) (k2 : ∀ i j, v = .ref i -> w = .str j -> g i j = some r -> G) : G := by
 induction v with
 | ref i =>
  induction w with
  | int j => exact k i j rfl rfl h
  | str j => exact k2 i j rfl rfl h
  | _ => exact noneS h
 | _ => exact noneS h
theorem refInt2E {w : AV} {f : Nat -> Int -> Option α} (h : (match v, w with | .ref i, .int j => f i j | _, _ => none) = some r) (k : ∀ i j, v = .ref i -> w = .int j -> f i j = some r -> G) : G := by
 induction v with
 | ref i =>
  induction w with
  | int j => exact k i j rfl rfl h
  | _ => exact noneS h
 | _ => exact noneS h
theorem oNext {o : Option AO} {f0 : Nat -> Nat -> Option α} {f1 : Nat -> Nat -> Option α} {f2 : Int -> Int -> Option α} {f3 : Str -> Nat -> Option α} {f4 : Nat -> Nat -> Nat -> Nat -> Option α} (h : (match o with | some (.liter l i) => f0 l i | some (.titer l i) => f1 l i | some (.riter x y) => f2 x y | some (.siter x i) => f3 x i | some (.kiter d i n e) => f4 d i n e | _ => none) = some r) (k0 : ∀ l i, o = some (.liter l i) -> f0 l i = some r -> G) (k1 : ∀ l i, o = some (.titer l i) -> f1 l i = some r -> G) (k2 : ∀ x y, o = some (.riter x y) -> f2 x y = some r -> G) (k3 : ∀ x i, o = some (.siter x i) -> f3 x i = some r -> G) (k4 : ∀ d i n e, o = some (.kiter d i n e) -> f4 d i n e = some r -> G) : G := by
 rcases o with _ | o
 ·exact noneS h
 induction o with
 | liter l i => exact k0 l i rfl h
 | titer l i => exact k1 l i rfl h
 | riter x y => exact k2 x y rfl h
 | siter x i => exact k3 x i rfl h
 | kiter d i n e => exact k4 d i n e rfl h
 | _ => exact noneS h
theorem oIter {o : Option AO} {f g : Option α} {f2 : Int -> Int -> Option α} {f3 : List (Str × AV) -> Nat -> Option α} (h : (match o with | some (.list _) => f | some (.tuple _) => g | some (.rng a b) => f2 a b | some (.dict m (some e)) => f3 m e | _ => none) = some r)
  (k0 : ∀ xs, o = some (.list xs) -> f = some r -> G) (k1 : ∀ xs, o = some (.tuple xs) -> g = some r -> G) (k2 : ∀ a b, o = some (.rng a b) -> f2 a b = some r -> G) (k3 : ∀ m e, o = some (.dict m (some e)) -> f3 m e = some r -> G) : G := by
 rcases o with _ | o
 ·exact noneS h
 induction o with
 | list xs => exact k0 xs rfl h
 | tuple xs => exact k1 xs rfl h
 | rng a b => exact k2 a b rfl h
 | dict m e =>
  rcases e with _ | e
  ·exact noneS h
  ·exact k3 m e rfl h
 | _ => exact noneS h
theorem optCA {x : Option AV} {f : AV -> Option α} {g : Option α} (h : (match x with | some a => f a | none => g) = some r) (k : ∀ a, x = some a -> f a = some r -> G) (k2 : x = none -> g = some r -> G) : G := by
 rcases x with _ | a
 ·exact k2 rfl h
 ·exact k a rfl h
theorem optCN {x : Option Nat} {f : Nat -> Option α} {g : Option α} (h : (match x with | some a => f a | none => g) = some r) (k : ∀ a, x = some a -> f a = some r -> G) (k2 : x = none -> g = some r -> G) : G := by
 rcases x with _ | a
 ·exact k2 rfl h
 ·exact k a rfl h
theorem optCK {x : Option (Str × AV)} {f : (Str × AV) -> Option α} {g : Option α} (h : (match x with | some a => f a | none => g) = some r) (k : ∀ a, x = some a -> f a = some r -> G) (k2 : x = none -> g = some r -> G) : G := by
 rcases x with _ | a
 ·exact k2 rfl h
 ·exact k a rfl h
theorem optEN {x : Option Nat} {f : Nat -> Option α} (h : (match x with | some a => f a | none => none) = some r) (k : ∀ a, x = some a -> f a = some r -> G) : G := by
 rcases x with _ | a
 ·exact noneS h
 ·exact k a rfl h
theorem lookup_self {α : Type} {m : Str} {v : α} {l : List (Str × α)} : List.lookup m ((m, v) :: l) = some v := by
 refine (?_ : (match m == m with | true => some v | false => List.lookup m l) = _)
 rw [beq_self_eq_true]
theorem lookup_next {α : Type} {n m : Str} {v : α} {l : List (Str × α)} (h : n ≠ m) : List.lookup n ((m, v) :: l) = List.lookup n l := by
 refine (?_ : (match n == m with | true => some v | false => List.lookup n l) = _)
 exact rwR (beq_eq_false_iff_ne.mpr h) rfl
end
variable {X : Fx} {Z : List Addr} {V : Sg} {s : Shared} {G : Prop}
@[elab_as_elim] theorem oneE {motive : List Value -> Prop} (h : VRs Z [x] vs) (k : ∀ v, VR Z x v -> motive [v]) : motive vs := consE h fun v _ a b => nilE b (k v a)
@[elab_as_elim] theorem twoE {y : AV} {motive : List Value -> Prop} (h : VRs Z [x, y] vs) (k : ∀ v w, VR Z x v -> VR Z y w -> motive [v, w]) : motive vs := consE h fun v _ a b => oneE b fun w c => k v w a c
@[elab_as_elim] theorem updM {α : Type} {a b : α} {j : Nat} {o : AO} {motive : α -> Sg -> Prop} (h : (upd j o V).map (fun t => (a, t)) = some (b, V')) (k : nTop <= j -> j < V.length -> motive a (V.set j o)) : motive b V' :=
 mapE h fun _ h1 h2 => updE h1 (motive := fun s₁ => (a, s₁) = (b, V') -> motive b V') (fun c d e => (Prod.mk.inj e).1 ▸ (Prod.mk.inj e).2 ▸ k c d) h2
theorem refI {j : Nat} {p : Addr} (h : Z[j]? = some p) : VR Z (.ref j) (.ref p) := ⟨p, h, rfl⟩
theorem getNew {α : Type} {xs : List α} {x : α} (h : xs.length = n) : (xs ++ [x])[n]? = some x := h ▸ List.getElem?_concat_length
end
section
open PySem.W
theorem nm_ne_of {x : Str} (hx : x.cps.size < 100) (ha : (nmL.all fun s => Str.ofString s != x) = true) (k : Nat) : (nm k == x) = false := by
 refine beq_eq_false_iff_ne.mpr fun e => ?_
 unfold nm at e
 cases hk : nmL[k]? with
 | none =>
  simp only [hk] at e
  have := congrArg (fun s : Str => s.cps.size) e
  simp only [List.size_toArray, List.length_replicate] at this
  omega
 | some s =>
  simp only [hk] at e
  have := List.all_eq_true.mp ha s (List.mem_of_getElem? hk)
  rw [e] at this
  simp at this
set_option maxHeartbeats 4000000 in
theorem nm_debug (k : Nat) : (nm k == ("__debug__" : Str)) = false := nm_ne_of (by decide +kernel) (by decide +kernel) k
set_option maxHeartbeats 4000000 in
theorem nm_classdict (k : Nat) : (nm k == ("__classdict__" : Str)) = false := nm_ne_of (by decide +kernel) (by decide +kernel) k
structure Ok (X : Fx) : Prop where
 base : ∀ b o, X.h₀.get? b = some o -> X.k₀ b = some o
 top : X.Z₀.length = nTop
 nolimit : X.h₀.NoLimit
 frag : X.K.In X.h₀
 g : X.h₀.Ns mainGlobals X.mg
 b : X.h₀.Ns builtinsNs X.mb
 names : ∀ k v, glob k = some v -> ∃ x, VR X.Z₀ v x /\ (X.mg (nm k) = some x \/ (X.mg (nm k) = none /\ X.mb (nm k) = some x))
 bat : ∀ k, k < 2 -> X.h₀.BuiltinsAt X.mg (X.P k)
 gP : ∀ k, k < 2 -> mainGlobals ≠ X.P k
 code : ∀ k, k < 2 -> CodeHd X.h₀ (X.C k) (X.P k)
 cls : ClsAt X.h₀ X.ws X.N X.mN
 clsNo : X.mN "__getattribute__" = none /\ X.mN "__getattr__" = none /\ X.mN "__setattr__" = none /\ ∀ a, inAttr a = true -> X.mN (nm a) = none
 clsM : ∀ k, 13 <= k -> k <= 18 -> ∃ f o, X.mN (if k = 18 then "__init__" else nm k) = some (.ref f) /\ X.Z₀[k]? = some f /\ X.h₀.get? f = some o /\ o.cls = .type "function"
 clsS : readsIn X.K X.ws (.type "type") = true /\ (∃ t, findCls X.K (.ref X.ws) (.type "type") (nm 62) = some (.val (.str ⟨#[32]⟩ t))) /\ (∃ t, findCls X.K (.ref X.ws) (.type "type") (nm 63) = some (.val (.str ⟨#[9]⟩ t))) /\ keepIn X.K (.ref X.ws) = true
 wsA : X.Z₀[3]? = some X.ws
 tD : ∃ ta o d k, X.tD = .ref ta /\ X.h₀.get? ta = some o /\ o.data = .seq #[.ref d] k /\ X.Z₀[19]? = some d
 kP : ∀ k, k < 2 -> X.k₀ (X.P k) = none
 PP : X.P 0 ≠ X.P 1
 sysm : ∃ o, X.h₀.get? sysModules = some o
 orcF : ∀ j, 5 <= j -> j <= 8 -> ∃ a od fd, X.Z₀[j]? = some a /\ X.h₀.get? a = some ⟨.type "function", od, .func fd, #[]⟩
 flagsD : (X.fl == sysModules) = false /\ ∃ f, X.h₀.MapOf (intKind X.prog X.w) X.fl f /\ ∀ k, (∀ s, flagName k = some s -> ∃ t, f k = some (.str s t)) /\ (flagName k = none -> f k = none)
structure EnvR (X : Fx) (Z : List Addr) (E : AE) (env : Env) : Prop where
 kind : env.scope.kind = .function
 names : ∀ x k, look x E.sc = some k -> env.kindOf (nm x) = some k.py \/ (k = .fre /\ env.kindOf (nm x) = some .cell)
 loc : Z[E.loc]? = some env.locals
 globals : env.globals = mainGlobals
 builtins : env.builtins = builtinsNs
 cells : CLs Z E.cells env.cells
 q : env.qual = E.q ++ Str.ofString ".<locals>."
 tab : ∀ k, E.tab = some k -> k < 2 /\ E.q = tabQ k /\ env.code = .ref (X.C k)
structure Room (A : Around) (n : Nat) : Prop where
 h : A.handled = none
 d : A.depth + n < recursionLimit
 u : A.units + 4 * n + 20 < cLine
variable {X : Fx} {Z Z' : List Addr} {V V' : Sg} {s s' : Shared} {A : Around} {E : AE} {env : Env}
theorem EnvR.mono (h : Z <+: Z') (e : EnvR X Z E env) : EnvR X Z' E env := { e with loc := get_prefix h e.loc, cells := e.cells.mono h }
theorem Room.u_le {m : Nat} (h : A.units + 4 * n + 20 < cLine) (q : m <= n) : A.units + 4 * m + 20 < cLine := Nat.lt_of_le_of_lt (Nat.add_le_add_right (Nat.add_le_add_left (Nat.mul_le_mul_left 4 q) _) _) h
theorem Room.le {m : Nat} (r : Room A n) (h : m <= n) : Room A m := ⟨r.h, Nat.lt_of_le_of_lt (Nat.add_le_add_left h _) r.d, Room.u_le r.u h⟩
theorem Room.pred (r : Room A (n + 1)) : Room A n := r.le (Nat.le_succ n)
theorem Room.depth (r : Room A n) : A.depth < recursionLimit := Nat.lt_of_le_of_lt (Nat.le_add_right ..) r.d
theorem Room.deeper (r : Room A (n + 1)) (env : Env) : Room (A.deeper env) n := ⟨r.h, by have := r.d; simp [Around.deeper]; lia, by have := r.u; simp [Around.deeper]; lia⟩
noncomputable abbrev W (X : Fx) (A : Around) {α : Type} (t : Sem α) (Q : α -> Shared -> Prop) (s : Shared) : Prop := wpAny (model X.prog X.w) A t Q (fun _ _ => False) s
theorem W.to {α : Type} {t : Sem α} {Q Q' : α -> Shared -> Prop} {E' : Value -> Shared -> Prop} (h : W X A t Q s) (k : ∀ a s, Q a s -> Q' a s) : wpAny (model X.prog X.w) A t Q' E' s := wpAny_mono h k fun _ _ f => f.elim
theorem W.mono {α : Type} {t : Sem α} {Q Q' : α -> Shared -> Prop} (h : W X A t Q s) (k : ∀ a s, Q a s -> Q' a s) : W X A t Q' s := wpAny_mono h k fun _ _ f => f
theorem R.base (r : R X Z V s) (K : Ok X) (b : Addr) (o : Obj) (e : X.h₀.get? b = some o) : s.heap.get? b = some o := r.keep b o (K.base b o e)
theorem R.nolimit (r : R X Z V s) (K : Ok X) : s.heap.NoLimit := K.nolimit.keeps (r.base K)
theorem R.tok (r : R X Z V s) (t : Nat) : R X Z V { s with toks := t } := { r with }
theorem Post.intro {x : Value} (r : R X Z V s) (h : VR Z v x) : Post X Z V v x s := ⟨Z, List.prefix_refl _, r, h⟩
theorem Post.pre {x : Value} (h : Z <+: Z') (p : Post X Z' V v x s) : Post X Z V v x s := p.elim fun q z => ⟨q, h.trans z.1, z.2⟩
theorem CLs.lookup (h : CLs Z E.cells env.cells) {x : Nat} (e : look x E.cells = some c) : ∃ a, env.cells.lookup (nm x) = some a /\ Z[c]? = some a := by
 generalize E.cells = xs at h e
 generalize env.cells = ys at h
 induction h with
 | nil => exact noneS e
 | @cons y c' a xs vs hx hr ih =>
  have e : (if y = x then some c' else look x xs) = some c := e
  by_cases hq : y = x
  ·subst hq
   rw [if_pos rfl] at e
   exact i3 a lookup_self (Option.some.inj e ▸ hx)
  ·rw [if_neg hq] at e
   exact (ih e).elim fun b z => ⟨b, (lookup_next fun q => hq (nm_inj q).symm).trans z.1, z.2⟩
theorem vr_get {M : Option Value} (h : VRo Z (some v) M) : ∃ x, M = some x /\ VR Z v x := h
theorem getE {x : Nat} (h : getN E x V = some v) (k1 : ∀ m, look x E.sc = some .loc -> V[E.loc]? = some (.ns m) -> look x m = some v -> G)
  (k2 : ∀ c k, look x E.sc = some k -> (k = .cel \/ k = .fre) -> look x E.cells = some c -> V[c]? = some (.cell (some v)) -> G) (k3 : look x E.sc = some .glo -> glob x = some v -> G) : G := by
 delta getN at h
 generalize look x E.sc = o at h k1 k2 k3
 rcases o with _ | k
 ·exact noneS h
 rcases k
 ·exact oNs h fun m hm h => k1 m rfl hm h
 ·exact optEN h fun c hc h => oCell h fun w hw h => k2 c _ rfl (.inl rfl) hc (h ▸ hw)
 ·exact optEN h fun c hc h => oCell h fun w hw h => k2 c _ rfl (.inr rfl) hc (h ▸ hw)
 ·exact k3 rfl h
theorem EnvR.kind_of (e : EnvR X Z E env) {x : Nat} {k : NK} (h : look x E.sc = some k) (hk : k ≠ .fre) : env.kindOf (nm x) = some k.py := (e.names _ _ h).elim id fun q => absurd q.1 hk
theorem loadName_sound (K : Ok X) (r : R X Z V s) (e : EnvR X Z E env) {x : Nat} (h : getN E x V = some v) : W X A (loadName env (nm x)) (fun y s' => s' = s /\ VR Z v y) s := by
 refine getE h (fun m hk hm h => ?_) (fun c k hk hq hc ho => ?_) fun hk h => ?_
 ·refine (r.obj _ _ _ e.loc hm).elim fun M z => (vr_get (h ▸ z.2 x)).elim fun y q => ?_
  exact wpAny_loadName_local e.kind (e.kind_of hk nofun) z.1 q.1 ⟨rfl, q.2⟩
 ·refine (e.cells.lookup hc).elim fun b q => (r.obj _ _ _ q.2 ho).elim fun v' z => z.2.elim fun y w => ?_
  have hcell := w.1 ▸ z.1
  rcases hq with rfl | rfl
  ·exact wpAny_loadName_cell e.kind (e.kind_of hk nofun) q.1 hcell ⟨rfl, w.2⟩
  ·rcases e.names _ _ hk with h | h
   ·exact wpAny_loadName_free e.kind h q.1 hcell ⟨rfl, w.2⟩ (nm_classdict x)
   ·exact wpAny_loadName_cell e.kind h.2 q.1 hcell ⟨rfl, w.2⟩
 ·refine (K.names x v h).elim fun y z => ?_
  have hkind := e.kind_of hk nofun
  delta loadName
  simp only [Env.blockKind, e.kind, hkind, NK.py, ScopeKind.isAnnotationScope, Bool.false_and, Bool.false_eq_true, if_false]
  have hg' := K.g.keeps (r.base K)
  rcases z.2 with hw | hw
  ·exact loadGlobal_global (e.globals ▸ hg') hw ⟨rfl, z.1.mono r.pre⟩
  ·exact loadGlobal_builtin (e.globals ▸ hg') hw.1 (e.builtins ▸ K.b.keeps (r.base K)) hw.2 ⟨rfl, z.1.mono r.pre⟩
theorem look_put {α : Type} (x y : Nat) (v : α) (m : List (Nat × α)) : look y (put x v m) = if y = x then some v else look y m := by
 induction m with
 | nil =>
  refine (?_ : (if x = y then some v else none) = _)
  by_cases h : x = y
  ·refine rwR (if_pos h) ?_
   exact rwR (if_pos h.symm) rfl
  ·refine rwR (if_neg h) ?_
   refine rwR (if_neg (Ne.symm h)) ?_
   rfl
 | cons p r ih =>
  refine (?_ : look y (if p.1 = x then (x, v) :: r else p :: put x v r) = if y = x then some v else if p.1 = y then some p.2 else look y r)
  by_cases h : p.1 = x
  ·refine rwR (if_pos h) ?_
   refine (?_ : (if x = y then some v else look y r) = _)
   by_cases q : y = x
   ·refine rwR (if_pos q.symm) ?_
    exact rwR (if_pos q) rfl
   ·refine rwR (if_neg (Ne.symm q)) ?_
    refine rwR (if_neg q) ?_
    exact rwR (if_neg fun e => q (e.symm.trans h)) rfl
  ·refine rwR (if_neg h) ?_
   refine (?_ : (if p.1 = y then some p.2 else look y (put x v r)) = _)
   by_cases q : p.1 = y
   ·refine rwR (if_pos q) ?_
    refine rwR (if_pos q) ?_
    exact rwR (if_neg fun e => h (q.trans e)) rfl
   ·refine rwR (if_neg q) ?_
    refine rwR (if_neg q) ?_
    exact rwR ih rfl
theorem ns_not_code {a : Addr} {M : Str -> Option Value} (hn : h.Ns a M) (x : Obj) (hx : h.get? a = some x) : ¬ CodeLike x := by
 refine e6 hn fun o es ep ho hd _ => ?_
 obtain rfl := uq ho hx
 intro y111
 refine e5 y111 fun vs q t e _ => ?_
 exact nomatch hd.symm.trans e
theorem cell_not_code {a : Addr} {v : Option Value} (hn : h.IsCell a v) (x : Obj) (hx : h.get? a = some x) : ¬ CodeLike x := by
 refine e3 hn fun o ho hd => ?_
 obtain rfl := uq ho hx
 intro y112
 refine e5 y112 fun vs q t e _ => ?_
 exact nomatch hd.symm.trans e
theorem nsSet_sound (r : R X Z V s) {j : Nat} {a : Addr} {x : Nat} (hj : nTop <= j) (ha : Z[j]? = some a) (hm : V[j]? = some (.ns m)) (hv : VR Z v y) :
  W X A (nsSet a (nm x) y) (fun _ s' => R X Z (V.set j (.ns (put x v m))) s') s := by
 refine (r.obj _ _ _ ha hm).elim fun M z => wpAny_nsSet z.1 fun h' hn hs => ?_
 refine r.set1 hj ha (butOf hs) (ns_not_code z.1) rfl rfl ⟨_, hn, fun k => ?_⟩ (hn.elim fun o z => z.elim fun _ z => z.elim fun _ z => ⟨o, z.1⟩)
 rw [look_put]
 by_cases hk : k = x
 ·subst hk; rw [if_pos rfl, if_pos rfl]; exact ⟨y, rfl, hv⟩
 ·refine rwR (if_neg hk) ?_
  refine rwR (if_neg fun q => hk (nm_inj q)) ?_
  exact z.2 k
theorem setE {x : Nat} (h : setN E x v V = some V') (k1 : ∀ m, look x E.sc = some .loc -> V[E.loc]? = some (.ns m) -> upd E.loc (.ns (put x v m)) V = some V' -> G)
  (k2 : ∀ c u, look x E.sc = some .cel -> look x E.cells = some c -> V[c]? = some (.cell u) -> upd c (.cell (some v)) V = some V' -> G) : G := by
 delta setN at h
 generalize look x E.sc = o at h k1 k2
 rcases o with _ | k
 ·exact noneS h
 rcases k
 ·exact oNs h fun m hm h => k1 m rfl hm h
 ·exact optEN h fun c hc h => oCell h fun w hw h => k2 c w rfl hc hw h
 ·exact noneS h
 ·exact noneS h
theorem storeName_sound (r : R X Z V s) (e : EnvR X Z E env) {x : Nat} (hv : VR Z v y) (h : setN E x v V = some V') : W X A (storeName env (nm x) y) (fun _ s' => R X Z V' s') s := by
 refine setE h (fun m hk hm h => updE h fun h1 _ => ?_) fun c u hk hc ho h => updE h fun h1 _ => ?_
 ·rw [storeName_local (e.kind_of hk nofun) (by rw [e.kind]; rfl)]
  exact nsSet_sound r h1 e.loc hm hv
 ·refine (e.cells.lookup hc).elim fun b q => (r.obj _ _ _ q.2 ho).elim fun v' z => ?_
  exact wpAny_storeName_cell e.kind (e.kind_of hk nofun) q.1 z.1 fun h' hc' hs => r.set1 h1 q.2 (butOf hs) (cell_not_code z.1) rfl rfl ⟨_, hc', y, rfl, hv⟩ (hc'.elim fun o z => ⟨o, z.1⟩)
end
section
theorem fm_nil {α : Type} {P : α -> Prop} : ∀ p, p ∈ ([] : List α) -> P p := fun _ h => nomatch h
theorem fm_cons {α : Type} {P : α -> Prop} {a : α} {l : List α} (h : P a) (k : ∀ p, p ∈ l -> P p) : ∀ p, p ∈ a :: l -> P p := fun p hp =>
 (List.mem_cons.mp hp).elim (fun e => e.symm ▸ h) (k p)
theorem look_memL {α : Type} {x : Nat} {v : α} {m : List (Nat × α)} (h : look x m = some v) : (x, v) ∈ m := by
 induction m with
 | nil => exact noneS h
 | cons p r ih =>
  by_cases q : p.1 = x
  ·have h : (if p.1 = x then some p.2 else look x r) = some v := h
   rw [if_pos q] at h
   exact q ▸ Option.some.inj h ▸ List.mem_cons_self
  ·have h : (if p.1 = x then some p.2 else look x r) = some v := h
   rw [if_neg q] at h
   exact List.mem_cons_of_mem _ (ih h)
theorem glob_ind {P : Nat -> AV -> Prop} (h1 : ∀ k, k ∈ List.range 13 -> P k (.ref k)) (h2 : ∀ p, p ∈ globL -> P p.1 p.2) (k : Nat) (v : AV) (h : glob k = some v) : P k v := by
 by_cases q : k <= 12
 ·have h : (if k <= 12 then some (AV.ref k) else look k globL) = some v := h
  rw [if_pos q] at h
  exact Option.some.inj h ▸ h1 k (List.mem_range.mpr (Nat.lt_succ_of_le q))
 ·have h : (if k <= 12 then some (AV.ref k) else look k globL) = some v := h
  rw [if_neg q] at h
  exact h2 (k, v) (look_memL h)
theorem sg0_nl : ∀ o ∈ sg0 ++ [AO.dead], ∀ xs, o ≠ .list xs := fun o ho xs e => by
 have h : ((sg0 ++ [AO.dead]).all fun o => match o with | .list _ => false | _ => true) = true := rfl
 have h := List.all_eq_true.mp h o ho
 subst e
 exact ftE h
variable {V : Sg} {n i j : Nat} {xs ys : List AV} {r : Option Bool}
theorem aeq1_ll (h : i ≠ j) (a : V[i]? = some (.list xs)) (b : V[j]? = some (.list ys)) (k : (if xs.length = ys.length then allEq (aeq1 V n) xs ys else some false) = r) : aeq1 V (n + 1) (.ref i) (.ref j) = r := by
 refine (if_neg h : (if i = j then none else _) = _).trans ?_
 rw [a, b]; exact k
theorem aeq1_tt (h : i ≠ j) (a : V[i]? = some (.tuple xs)) (b : V[j]? = some (.tuple ys)) (k : (if xs.length = ys.length then allEq (aeq1 V n) xs ys else none) = r) : aeq1 V (n + 1) (.ref i) (.ref j) = r := by
 refine (if_neg h : (if i = j then none else _) = _).trans ?_
 rw [a, b]; exact k
theorem aeq1_dd (h : i ≠ j) {u v : List (Str × AV)} {e f : Option Nat} (a : V[i]? = some (.dict u e)) (b : V[j]? = some (.dict v f)) : aeq1 V (n + 1) (.ref i) (.ref j) = none := by
 refine (if_neg h : (if i = j then none else _) = _).trans ?_
 rw [a, b]
theorem aeqD_ll (h : i ≠ j) (a : V[i]? = some (.list xs)) (b : V[j]? = some (.list ys)) (k : (if xs.length = ys.length then allEq (aeqD V n) xs ys else none) = r) : aeqD V (n + 1) (.ref i) (.ref j) = r := by
 refine (if_neg h : (if i = j then none else _) = _).trans ?_
 rw [a, b]; exact k
theorem aeqD_dd (h : i ≠ j) {u v : List (Str × AV)} {e f : Option Nat} (a : V[i]? = some (.dict u e)) (b : V[j]? = some (.dict v f)) (k : (if u.length = v.length /\ nTop <= i /\ nTop <= j then allKey (aeq1 V 3) v u else none) = r) : aeqD V (n + 1) (.ref i) (.ref j) = r := by
 refine (if_neg h : (if i = j then none else _) = _).trans ?_
 rw [a, b]; exact k
theorem aeq_1 {y : AV} {b : Bool} (h : aeq1 V 5 x y = some b) : aeq V x y = some b := by
 refine (?_ : (match aeq1 V 5 x y with | some b => some b | none => _) = _)
 rw [h]
theorem aeq_D {y : AV} (h : aeq1 V 5 x y = none) (k : aeqD V 3 x y = r) : aeq V x y = r := by
 refine (?_ : (match aeq1 V 5 x y with | some b => some b | none => _) = _)
 rw [h]; exact k
theorem aeq1_ii (s t : Int) : aeq1 V (n + 1) (.int s) (.int t) = some (s == t) := rfl
end
section
open PySem.W
noncomputable def tabsJ : List (Addr × Addr) := [(136, 132), (146, 144)]
noncomputable def addrsJ : List Addr := [30, 37, 45, 107, 118, 125, 130, 137, 142, 147, 152, 157, 38, 69, 76, 83, 97, 104, 62, 22]
structure JF (w : World) (s₁ : Shared) (mg mb : Str -> Option Value) : Prop where
 K : (KK w.params).In s₁.heap
 tabs : TabsAt tabsJ s₁.heap
 g : s₁.heap.Ns mainGlobals mg
 b : s₁.heap.Ns builtinsNs mb
 nolimit : s₁.heap.NoLimit
 builtins : ∀ x : Str, x ≠ "__name__" -> mb x = bootBuiltins x
 bmain : ∃ bm ob, mg "__builtins__" = some (.ref bm) /\ bm ≠ builtinsNs /\ s₁.heap.get? bm = some ob /\ ob.cls = .type "module" /\ ob.dict = some builtinsNs /\ ob.data = .plain
 seer : s₁.heap.NoSeer
noncomputable def FxJ (w : World) (s₁ : Shared) (mg mb mN : Str -> Option Value) (l : Addr) : Fx where
 prog := PySem.Challenge.rw_uy0007_01.row.prog
 w := w
 K := KK w.params
 h₀ := ghostOf s₁.heap tabsJ
 mg := mg
 mb := mb
 N := 106
 mN := mN
 k₀ := (ghostOf s₁.heap tabsJ).get?
 os₀ := s₁.os
 Z₀ := addrsJ ++ [l]
 ws := 107
 fl := 38
 P := fun k => if k = 0 then 132 else 144
 C := fun k => if k = 0 then 136 else 146
 tD := .ref 23
variable {w : World} {s₁ : Shared} {mg mb mN : Str -> Option Value} {l : Addr}
theorem JF.ghost (J : JF w s₁ mg mb) : (KK w.params).In (ghostOf s₁.heap tabsJ) := ghost_K J.tabs J.K (by kernel_rfl)
theorem JF.at (J : JF w s₁ mg mb) {a : Addr} {o : Obj} (e : (KK w.params).lookup a = some o) : (ghostOf s₁.heap tabsJ).get? a = some o := J.ghost a o e
theorem am {α : Type} {P : α -> Prop} {l : List α} (h : ∀ x, x ∈ l -> P x) : ∀ x, x ∈ l.toArray -> P x := fun x hx => h x (List.mem_toArray.mp hx)
theorem ns_lit {a : Addr} {M : Str -> Option Value} {c : Value} {d : Option Addr} {es : Array DictEntry} {sl : Array (Option Value)} (G : h.Ns a M) (hl : h.get? a = some ⟨c, d, .dict es n, sl⟩) {x : Str} {v : Option Value} (e : nsFind es x = v) : M x = v := by
 refine e7 G fun o es' ep ho hd _ hf => ?_
 obtain rfl := uq ho hl
 exact (hf x).symm.trans ((Data.dict.inj hd).1 ▸ e)
theorem JF.nsC (J : JF w s₁ mg mb) : ∃ mN, (ghostOf s₁.heap tabsJ).Ns 106 mN := by
 exact i8 (fun n => nsFind _ n) _ _ _ (J.at rfl) rfl (am (by repeat first | exact fm_nil | refine fm_cons ⟨_, _, rfl⟩ ?_)) (fun _ => rfl)
theorem JF.names (J : JF w s₁ mg mb) : ∀ k v, glob k = some v -> ∃ x, VR (addrsJ ++ [l]) v x /\ (mg (nm k) = some x \/ (mg (nm k) = none /\ mb (nm k) = some x)) := by
 have top : ∀ (k : Nat) (a : Addr), nsIn (KK w.params) mainGlobals (nm k) = some (some (.ref a)) -> (addrsJ ++ [l])[k]? = some a -> ∃ x, VR (addrsJ ++ [l]) (.ref k) x /\ (mg (nm k) = some x \/ (mg (nm k) = none /\ mb (nm k) = some x)) := fun k a h1 h2 =>
  ⟨.ref a, ⟨a, h2, rfl⟩, .inl (mg_of J.K J.g h1)⟩
 have boot : ∀ (k : Nat) (b : BI), nsIn (KK w.params) mainGlobals (nm k) = some none -> bootBuiltins (nm k) = some b.val -> nm k ≠ "__name__" -> ∃ x, VR (addrsJ ++ [l]) (.bi b) x /\ (mg (nm k) = some x \/ (mg (nm k) = none /\ mb (nm k) = some x)) := fun k b h1 h2 h3 =>
  ⟨b.val, rfl, .inr ⟨mg_none_of J.K J.g h1, (J.builtins _ h3).trans h2⟩⟩
 refine glob_ind (P := fun k v => ∃ x, VR (addrsJ ++ [l]) v x /\ (mg (nm k) = some x \/ (mg (nm k) = none /\ mb (nm k) = some x))) (fm_cons (top 0 30 (by kernel_rfl) rfl) (fm_cons (top 1 37 (by kernel_rfl) rfl) (fm_cons (top 2 45 (by kernel_rfl) rfl) (fm_cons (top 3 107 (by kernel_rfl) rfl) (fm_cons (top 4 118 (by kernel_rfl) rfl) (fm_cons (top 5 125 (by kernel_rfl) rfl) (fm_cons (top 6 130 (by kernel_rfl) rfl) (fm_cons (top 7 137 (by kernel_rfl) rfl) (fm_cons (top 8 142 (by kernel_rfl) rfl) (fm_cons (top 9 147 (by kernel_rfl) rfl) (fm_cons (top 10 152 (by kernel_rfl) rfl) (fm_cons (top 11 157 (by kernel_rfl) rfl) (fm_cons (top 12 38 (by kernel_rfl) rfl) fm_nil)))))))))))))
  (fm_cons (boot 59 .range (by kernel_rfl) (by decide +kernel) (by decide +kernel)) (fm_cons (boot 86 .max (by kernel_rfl) (by decide +kernel) (by decide +kernel)) (fm_cons (boot 87 .len (by kernel_rfl) (by decide +kernel) (by decide +kernel)) (fm_cons (boot 92 .sum (by kernel_rfl) (by decide +kernel) (by decide +kernel)) (fm_cons (boot 96 .hex (by kernel_rfl) (by decide +kernel) (by decide +kernel)) (fm_cons (boot 97 .tuple (by kernel_rfl) (by decide +kernel) (by decide +kernel)) fm_nil))))))
theorem fm_key {α : Type} {P : α -> Prop} {a : α} {l : List α} (h : ∀ x, P x -> a ≠ x) (k : ∀ x, x ∈ l -> P x) : ∀ x, x ∈ l -> a ≠ x := fun x hx => h x (k x hx)
theorem JF.not_addr (J : JF w s₁ mg mb) {items : Array Value} (hL : s₁.heap.IsList l items) : l ∉ addrsJ := by
 refine hL.elim fun o z hm => ?_
 have key : ∀ a, (∃ x, (KK w.params).lookup a = some x /\ x.cls ≠ .type "list") -> l ≠ a := fun a h e => h.elim fun x h => by
  subst e
  exact h.2 (uq (J.K _ _ h.1) z.1 ▸ z.2.1)
 refine fm_key key ?_ l hm rfl
 repeat first | exact fm_nil | refine fm_cons ⟨_, rfl, fun h => nomatch h⟩ ?_
theorem tab_cases {p : Nat -> Prop} (h0 : p 0) (h1 : p 1) (k : Nat) (hk : k < 2) : p k := fm_cons h0 (fm_cons h1 fm_nil) k (List.mem_range.mpr hk : k ∈ List.range 2)
theorem JF.bat (J : JF w s₁ mg mb) (k : Nat) (hk : k < 2) : (ghostOf s₁.heap tabsJ).BuiltinsAt mg (if k = 0 then 132 else 144) := by
 refine e8 J.bmain fun bm ob h1 h2 h3 h4 h5 h6 => ?_
 have e : mg "__builtins__" = some (.ref 4) := mg_of J.K J.g (by kernel_rfl)
 rw [h1] at e
 rcases e
 refine i10 4 ob h1 h2 (by decide) ?_ (ghost_get J.tabs h3 (fun q => by rw [q] at h4; cases h4)) h4 h5 h6
 split <;> decide
theorem JF.code (J : JF w s₁ mg mb) (k : Nat) (hk : k < 2) : CodeHd (ghostOf s₁.heap tabsJ) (if k = 0 then 136 else 146) (if k = 0 then 132 else 144) := by
 have C := ghost_code J.tabs
 revert k
 exact tab_cases C.1 C.2.1
theorem JF.cls (J : JF w s₁ mg mb) (hN : (ghostOf s₁.heap tabsJ).Ns 106 mN) : ClsAt (ghostOf s₁.heap tabsJ) 107 106 mN where
 obj := ⟨_, _, _, _, _, _, _, _, _, _, _, _, J.at rfl⟩
 ns := hN
theorem JF.clsNo (J : JF w s₁ mg mb) (hN : (ghostOf s₁.heap tabsJ).Ns 106 mN) : mN "__getattribute__" = none /\ mN "__getattr__" = none /\ mN "__setattr__" = none /\ ∀ a, inAttr a = true -> mN (nm a) = none := by
 refine ⟨ns_lit hN (J.at rfl) (by kernel_rfl), ns_lit hN (J.at rfl) (by kernel_rfl), ns_lit hN (J.at rfl) (by kernel_rfl), fun a h => ?_⟩
 simp only [inAttr, Bool.or_eq_true, beq_iff_eq] at h
 rcases h with (((rfl | rfl) | rfl) | rfl) | rfl <;> exact ns_lit hN (J.at rfl) (by kernel_rfl)
theorem JF.clsM (J : JF w s₁ mg mb) (hN : (ghostOf s₁.heap tabsJ).Ns 106 mN) : ∀ k, 13 <= k -> k <= 18 -> ∃ f o, mN (if k = 18 then "__init__" else nm k) = some (.ref f) /\ (addrsJ ++ [l])[k]? = some f /\ (ghostOf s₁.heap tabsJ).get? f = some o /\ o.cls = .type "function" := by
 have key : ∀ k, k ∈ List.range' 13 6 -> ∃ f o, mN (if k = 18 then "__init__" else nm k) = some (.ref f) /\ (addrsJ ++ [l])[k]? = some f /\ (KK w.params).lookup f = some o /\ o.cls = .type "function" := by
  repeat first | exact fm_nil | refine fm_cons ⟨_, _, ns_lit hN (J.at rfl) (by kernel_rfl), rfl, rfl, rfl⟩ ?_
 exact fun k h1 h2 => (key k (List.mem_range'_1.mpr ⟨h1, Nat.lt_succ_of_le h2⟩)).elim fun f z => z.elim fun o z => ⟨f, o, z.1, z.2.1, J.at z.2.2.1, z.2.2.2⟩
theorem hide_none (s₁ : Shared) : ∀ k, k < 2 -> (ghostOf s₁.heap tabsJ).get? (if k = 0 then 132 else 144) = none :=
 tab_cases (hideAll_none _ (by decide)) (hideAll_none _ (by decide))
inductive FE : List DictEntry -> List (Int × Str) -> Prop
 | nil : FE [] []
 | cons {h k : Int} {t : Tok} {s : Str} {u : Tok} {es : List DictEntry} {L : List (Int × Str)} : FE es L -> FE (⟨h, .int k t, .str s u⟩ :: es) ((k, s) :: L)
theorem FE.find {es : List DictEntry} {L : List (Int × Str)} (h : FE es L) (k : Int) : (∀ s, lookI k L = some s -> ∃ t, findBy Value.isInt es.toArray k = some (.str s t)) /\ (lookI k L = none -> findBy Value.isInt es.toArray k = none) := by
 have e : findBy Value.isInt es.toArray k = (es.find? fun e => Value.isInt k e.key).map (·.val) := congrArg _ (List.find?_toArray _ _)
 refine rwR e ?_
 clear e
 induction h with
 | nil => exact ⟨fun s h => noneS h, fun _ => rfl⟩
 | @cons h j t s u es L _ ih =>
  rw [List.find?_cons, show lookI k ((j, s) :: L) = if j = k then some s else lookI k L from rfl, show Value.isInt k (Value.int j t) = (j == k) from rfl]
  by_cases q : j = k
  ·refine rwR (if_pos q) ?_
   refine rwR (beq_iff_eq.mpr q) ?_
   exact ⟨fun s h => ⟨u, Option.some.inj h ▸ rfl⟩, fun h => someN h⟩
  ·refine rwR (if_neg q) ?_
   refine rwR (beq_false_of_ne q) ?_
   exact ih
theorem JF.flags (J : JF w s₁ mg mb) : ∃ f, (ghostOf s₁.heap tabsJ).MapOf (intKind PySem.Challenge.rw_uy0007_01.row.prog w) 38 f /\ ∀ k, (∀ s, flagName k = some s -> ∃ t, f k = some (.str s t)) /\ (flagName k = none -> f k = none) := by
 refine i3 _ (⟨_, _, _, J.at rfl, ⟨rfl, rfl, rfl⟩, rfl, am (fm_cons ⟨1, rfl, rfl⟩ (fm_cons ⟨2, rfl, rfl⟩ (fm_cons ⟨4, rfl, rfl⟩ (fm_cons ⟨8, rfl, rfl⟩ (fm_cons ⟨16, rfl, rfl⟩ (fm_cons ⟨32, rfl, rfl⟩ (fm_cons ⟨64, rfl, rfl⟩ (fm_cons ⟨128, rfl, rfl⟩ (fm_cons ⟨256, rfl, rfl⟩ (fm_cons ⟨512, rfl, rfl⟩ fm_nil)))))))))), fun k => rfl⟩) (fun k => FE.find ?_ k)
 repeat first | exact .nil | refine .cons ?_
theorem okJ (J : JF w s₁ mg mb) (hN : (ghostOf s₁.heap tabsJ).Ns 106 mN) : Ok (FxJ w s₁ mg mb mN l) where
 base := fun b o h => h
 top := rfl
 nolimit := let ⟨mc, a, r⟩ := J.nolimit; ⟨mc, ghost_ns J.tabs a, r⟩
 frag := J.ghost
 g := ghost_ns J.tabs J.g
 b := ghost_ns J.tabs J.b
 names := J.names
 bat := J.bat
 gP := fun k hk => by show mainGlobals ≠ if k = 0 then 132 else 144; split <;> decide
 code := J.code
 cls := J.cls hN
 clsNo := J.clsNo hN
 clsM := J.clsM hN
 clsS := ⟨by kernel_rfl, ⟨274, by kernel_rfl⟩, ⟨275, by kernel_rfl⟩, by kernel_rfl⟩
 wsA := rfl
 tD := ⟨23, _, 22, _, rfl, J.at rfl, rfl, rfl⟩
 kP := hide_none s₁
 PP := by show (132 : Nat) ≠ 144; decide
 sysm := let ⟨mm, ⟨o, es, ep, e, hd, r⟩, _⟩ := J.seer.mods; ⟨o, ghost_get J.tabs e (fun q => by rw [q] at hd; cases hd)⟩
 orcF := fun j h5 h8 => by
  have : j = 5 \/ j = 6 \/ j = 7 \/ j = 8 := (or58 h5 h8)
  rcases this with rfl | rfl | rfl | rfl
  ·exact i5 125 _ _ rfl (J.at rfl)
  ·exact i5 130 _ _ rfl (J.at rfl)
  ·exact i5 137 _ _ rfl (J.at rfl)
  ·exact i5 142 _ _ rfl (J.at rfl)
 flagsD := by
  refine ⟨by show ((38 : Nat) == sysModules) = false; decide, J.flags⟩
end
section
open PySem.W
set_option maxHeartbeats 4000000
variable {w : World} {s₁ : Shared} {mg mb mN : Str -> Option Value} {l : Addr}
variable {k₀ : Addr -> Option Obj} {q Z : List Addr}
noncomputable def OFn (w : World) (s₁ : Shared) (mg mb mN : Str -> Option Value) (l : Addr) (k₀ : Addr -> Option Obj) (q Z : List Addr) (h : Heap) (a : Addr) (f : FI) : Prop := OR { FxJ w s₁ mg mb mN l with k₀ := k₀, Z₀ := q } Z h a (fnc f)
theorem fn_0 (KI : (KK w.params).In h) : OFn w s₁ mg mb mN l k₀ q Z h 30 fSubElement :=
 ⟨_, none, KI _ _ rfl, ⟨⟨rfl, rfl, rfl, rfl, rfl, rfl, rfl, rfl, rfl⟩, rfl, rfl, rfl, rfl, rfl, rfl, .nil, (fun k hk => noneS hk), rfl, rfl⟩, rfl, (fun d hd => noneS hd), 29, _, _, _, rfl, KI _ _ rfl, rfl, rfl⟩
theorem fn_1 (KI : (KK w.params).In h) : OFn w s₁ mg mb mN l k₀ q Z h 37 f_serialize_text :=
 ⟨_, none, KI _ _ rfl, ⟨⟨rfl, rfl, rfl, rfl, rfl, rfl, rfl, rfl, rfl⟩, rfl, rfl, rfl, rfl, rfl, rfl, .nil, (fun k hk => noneS hk), rfl, rfl⟩, rfl, (fun d hd => noneS hd), 36, _, _, _, rfl, KI _ _ rfl, rfl, rfl⟩
theorem fn_2 (KI : (KK w.params).In h) : OFn w s₁ mg mb mN l k₀ q Z h 45 fpretty_flags :=
 ⟨_, none, KI _ _ rfl, ⟨⟨rfl, rfl, rfl, rfl, rfl, rfl, rfl, rfl, rfl⟩, rfl, rfl, rfl, rfl, rfl, rfl, .nil, (fun k hk => noneS hk), rfl, rfl⟩, rfl, (fun d hd => noneS hd), 44, _, _, _, rfl, KI _ _ rfl, rfl, rfl⟩
theorem fn_4 (KI : (KK w.params).In h) : OFn w s₁ mg mb mN l k₀ q Z h 118 f_law_numbers :=
 ⟨_, none, KI _ _ rfl, ⟨⟨rfl, rfl, rfl, rfl, rfl, rfl, rfl, rfl, rfl⟩, rfl, rfl, rfl, rfl, rfl, rfl, .nil, (fun k hk => noneS hk), rfl, rfl⟩, rfl, (fun d hd => noneS hd), 117, _, _, _, rfl, KI _ _ rfl, rfl, rfl⟩
theorem fn_5 (KI : (KK w.params).In h) : OFn w s₁ mg mb mN l k₀ q Z h 125 f_law_names :=
 ⟨_, none, KI _ _ rfl, ⟨⟨rfl, rfl, rfl, rfl, rfl, rfl, rfl, rfl, rfl⟩, rfl, rfl, rfl, rfl, rfl, rfl, .nil, (fun k hk => noneS hk), rfl, rfl⟩, rfl, (fun d hd => noneS hd), 124, _, _, _, rfl, KI _ _ rfl, rfl, rfl⟩
theorem fn_6 (KI : (KK w.params).In h) : OFn w s₁ mg mb mN l k₀ q Z h 130 f_law_words :=
 ⟨_, none, KI _ _ rfl, ⟨⟨rfl, rfl, rfl, rfl, rfl, rfl, rfl, rfl, rfl⟩, rfl, rfl, rfl, rfl, rfl, rfl, .nil, (fun k hk => noneS hk), rfl, rfl⟩, rfl, (fun d hd => noneS hd), 129, _, _, _, rfl, KI _ _ rfl, rfl, rfl⟩
theorem fn_7 (KI : (KK w.params).In h) : OFn w s₁ mg mb mN l k₀ q Z h 137 f_law_element :=
 ⟨_, none, KI _ _ rfl, ⟨⟨rfl, rfl, rfl, rfl, rfl, rfl, rfl, rfl, rfl⟩, rfl, rfl, rfl, rfl, rfl, rfl, .nil, (fun k hk => by cases hk; exact ⟨by decide, rfl, rfl⟩), rfl, rfl⟩, rfl, (fun d hd => by cases hd), 136, _, _, _, rfl, KI _ _ rfl, rfl, rfl⟩
theorem fn_8 (KI : (KK w.params).In h) : OFn w s₁ mg mb mN l k₀ q Z h 142 f_law_given :=
 ⟨_, none, KI _ _ rfl, ⟨⟨rfl, rfl, rfl, rfl, rfl, rfl, rfl, rfl, rfl⟩, rfl, rfl, rfl, rfl, rfl, rfl, .nil, (fun k hk => noneS hk), rfl, rfl⟩, rfl, (fun d hd => noneS hd), 141, _, _, _, rfl, KI _ _ rfl, rfl, rfl⟩
theorem fn_9 (KI : (KK w.params).In h) : OFn w s₁ mg mb mN l k₀ q Z h 147 f_law_lead :=
 ⟨_, none, KI _ _ rfl, ⟨⟨rfl, rfl, rfl, rfl, rfl, rfl, rfl, rfl, rfl⟩, rfl, rfl, rfl, rfl, rfl, rfl, .nil, (fun k hk => by cases hk; exact ⟨by decide, rfl, rfl⟩), rfl, rfl⟩, rfl, (fun d hd => by cases hd), 146, _, _, _, rfl, KI _ _ rfl, rfl, rfl⟩
theorem fn_10 (KI : (KK w.params).In h) : OFn w s₁ mg mb mN l k₀ q Z h 152 f_law_column :=
 ⟨_, none, KI _ _ rfl, ⟨⟨rfl, rfl, rfl, rfl, rfl, rfl, rfl, rfl, rfl⟩, rfl, rfl, rfl, rfl, rfl, rfl, .nil, (fun k hk => noneS hk), rfl, rfl⟩, rfl, (fun d hd => noneS hd), 151, _, _, _, rfl, KI _ _ rfl, rfl, rfl⟩
theorem fn_11 (KI : (KK w.params).In h) : OFn w s₁ mg mb mN l k₀ q Z h 157 flaw :=
 ⟨_, none, KI _ _ rfl, ⟨⟨rfl, rfl, rfl, rfl, rfl, rfl, rfl, rfl, rfl⟩, rfl, rfl, rfl, rfl, rfl, rfl, .nil, (fun k hk => noneS hk), rfl, rfl⟩, rfl, (fun d hd => noneS hd), 156, _, _, _, rfl, KI _ _ rfl, rfl, rfl⟩
theorem fn_13 (KI : (KK w.params).In h) : OFn w s₁ mg mb mN l k₀ q Z h 69 fWhitespace_longest_run_of_spaces :=
 ⟨_, none, KI _ _ rfl, ⟨⟨rfl, rfl, rfl, rfl, rfl, rfl, rfl, rfl, rfl⟩, rfl, rfl, rfl, rfl, rfl, rfl, .nil, (fun k hk => noneS hk), rfl, rfl⟩, rfl, (fun d hd => noneS hd), 68, _, _, _, rfl, KI _ _ rfl, rfl, rfl⟩
theorem fn_14 (KI : (KK w.params).In h) : OFn w s₁ mg mb mN l k₀ q Z h 76 fWhitespace_indent_level :=
 ⟨_, none, KI _ _ rfl, ⟨⟨rfl, rfl, rfl, rfl, rfl, rfl, rfl, rfl, rfl⟩, rfl, rfl, rfl, rfl, rfl, rfl, .nil, (fun k hk => noneS hk), rfl, rfl⟩, rfl, (fun d hd => noneS hd), 75, _, _, _, rfl, KI _ _ rfl, rfl, rfl⟩
theorem fn_15 (KI : (KK w.params).In h) : OFn w s₁ mg mb mN l k₀ q Z h 83 fWhitespace_equal :=
 ⟨_, none, KI _ _ rfl, ⟨⟨rfl, rfl, rfl, rfl, rfl, rfl, rfl, rfl, rfl⟩, rfl, rfl, rfl, rfl, rfl, rfl, .nil, (fun k hk => noneS hk), rfl, rfl⟩, rfl, (fun d hd => noneS hd), 82, _, _, _, rfl, KI _ _ rfl, rfl, rfl⟩
theorem fn_16 (KI : (KK w.params).In h) : OFn w s₁ mg mb mN l k₀ q Z h 97 fWhitespace_less :=
 ⟨_, none, KI _ _ rfl, ⟨⟨rfl, rfl, rfl, rfl, rfl, rfl, rfl, rfl, rfl⟩, rfl, rfl, rfl, rfl, rfl, rfl, .nil, (fun k hk => noneS hk), rfl, rfl⟩, rfl, (fun d hd => noneS hd), 96, _, _, _, rfl, KI _ _ rfl, rfl, rfl⟩
theorem fn_17 (KI : (KK w.params).In h) : OFn w s₁ mg mb mN l k₀ q Z h 104 fWhitespace_not_less_witness :=
 ⟨_, none, KI _ _ rfl, ⟨⟨rfl, rfl, rfl, rfl, rfl, rfl, rfl, rfl, rfl⟩, rfl, rfl, rfl, rfl, rfl, rfl, .nil, (fun k hk => noneS hk), rfl, rfl⟩, rfl, (fun d hd => noneS hd), 103, _, _, _, rfl, KI _ _ rfl, rfl, rfl⟩
theorem fn_18 (KI : (KK w.params).In h) : OFn w s₁ mg mb mN l k₀ q Z h 62 fWhitespace___init__ :=
 ⟨_, none, KI _ _ rfl, ⟨⟨rfl, rfl, rfl, rfl, rfl, rfl, rfl, rfl, rfl⟩, rfl, rfl, rfl, rfl, rfl, rfl, .nil, (fun k hk => noneS hk), rfl, rfl⟩, rfl, (fun d hd => noneS hd), 61, _, _, _, rfl, KI _ _ rfl, rfl, rfl⟩
theorem dict_19 (KI : (KK w.params).In h) : OR { FxJ w s₁ mg mb mN l with k₀ := k₀, Z₀ := q } Z h 22 (.dict [] (some 0)) :=
 ⟨[], 0, ⟨_, _, KI _ _ rfl, ⟨rfl, rfl, rfl⟩, rfl, (fun e he => by simp at he), Pairs.nil, List.nodup_nil⟩, .nil, fun n hn => by cases hn; rfl⟩
theorem ints_rel : ∀ {vs : List Value} {xs : List Int}, IntsAre vs xs -> VRs Z (xs.map .int) vs
 | _, _, .nil => .nil
 | _, _, .cons x t h => .cons ⟨t, rfl⟩ (ints_rel h)
theorem pk {P : Addr -> AO -> Prop} {a a' : Addr} {o : AO} (h : P a o) (e1 : some a = some a') (e2 : some o = some o') : P a' o' := Option.some.inj e1 ▸ Option.some.inj e2 ▸ h
theorem top_obj (KI : (KK w.params).In h) {j : Nat} {a : Addr} {o : AO} (h1' : addrsJ[j]? = some a) (h2 : sg0[j]? = some o) : OR { FxJ w s₁ mg mb mN l with k₀ := k₀, Z₀ := q } Z h a o :=
 ((fm_cons (fun _ _ => pk (fn_0 KI)) (fm_cons (fun _ _ => pk (fn_1 KI)) (fm_cons (fun _ _ => pk (fn_2 KI)) (fm_cons (fun _ _ => pk rfl) (fm_cons (fun _ _ => pk (fn_4 KI)) (fm_cons (fun _ _ => pk (fn_5 KI)) (fm_cons (fun _ _ => pk (fn_6 KI)) (fm_cons (fun _ _ => pk (fn_7 KI)) (fm_cons (fun _ _ => pk (fn_8 KI)) (fm_cons (fun _ _ => pk (fn_9 KI)) (fm_cons (fun _ _ => pk (fn_10 KI)) (fm_cons (fun _ _ => pk (fn_11 KI)) (fm_cons (fun _ _ => pk rfl) (fm_cons (fun _ _ => pk (fn_13 KI)) (fm_cons (fun _ _ => pk (fn_14 KI)) (fm_cons (fun _ _ => pk (fn_15 KI)) (fm_cons (fun _ _ => pk (fn_16 KI)) (fm_cons (fun _ _ => pk (fn_17 KI)) (fm_cons (fun _ _ => pk (fn_18 KI)) (fm_cons (fun _ _ => pk (dict_19 KI)) fm_nil)))))))))))))))))))) : ∀ j, j ∈ List.range 20 -> ∀ a o, addrsJ[j]? = some a -> sg0[j]? = some o -> OR { FxJ w s₁ mg mb mN l with k₀ := k₀, Z₀ := q } Z h a o) j (List.mem_range.mpr (List.getElem?_eq_some_iff.mp h1').1) a o h1' h2
theorem rJ (J : JF w s₁ mg mb) {items : List Value} {xs : List Int} (hL : s₁.heap.IsList l items.toArray) (hI : IntsAre items xs) (hd0 : ∀ o, s₁.heap.get? l = some o -> o.dict = none) (hg : s₁.gens = #[]) :
  R (FxJ w s₁ mg mb mN l) (addrsJ ++ [l]) (sg0 ++ [.list (xs.map .int)]) s₁ where
 pre := List.prefix_refl _
 len := rfl
 nodup := by
  have h := J.not_addr hL
  refine nodup_snoc (by decide) h
 obj := by
  intro j a o h1 h2
  rcases snoc_get h1 with h1' | ⟨rfl, rfl⟩
  ·have hj : j < 20 := (List.getElem?_eq_some_iff.mp h1').1
   rw [List.getElem?_append_left (show j < sg0.length from hj)] at h2
   clear h1
   exact top_obj (l := l) (k₀ := (FxJ w s₁ mg mb mN l).k₀) (q := (FxJ w s₁ mg mb mN l).Z₀) J.K h1' h2
  ·rcases h2
   exact i3 _ hL (ints_rel hI)
 new := fun j a hj e => absurd (List.getElem?_eq_some_iff.mp e).1 (Nat.not_lt.mpr hj)
 live := by
  intro j a h1
  rcases snoc_get h1 with h1' | ⟨rfl, rfl⟩
  ·have key : (addrsJ.all fun a => ((KK w.params).lookup a).isSome) = true := by kernel_rfl
   exact (Option.isSome_iff_exists.mp (List.all_eq_true.mp key a (List.mem_of_getElem? h1'))).elim fun o h => ⟨o, J.K _ _ h⟩
  ·refine e3 hL fun o ho _ => ?_
   exact ⟨o, ho⟩
 keep := fun b o h => of_hideAll _ h
 tne := by
  intro a ha
  have hl : ∀ k, k < 2 -> l ≠ (if k = 0 then 132 else 144 : Nat) := by
   refine e4 hL fun o ho hc _ => ?_
   have key : ∀ q ∈ tabsJ, l ≠ q.2 := fun q hq e => by
    rw [e, (J.tabs q hq).2] at ho
    cases ho; cases hc
   exact tab_cases (key (136, 132) (by simp [tabsJ])) (key (146, 144) (by simp [tabsJ]))
  rcases List.mem_append.mp ha with ha | ha
  ·refine tab_cases ?_ ?_
   ·intro e; subst e; exact absurd ha (by show (132 : Nat) ∉ addrsJ; decide)
   ·intro e; subst e; exact absurd ha (by show (144 : Nat) ∉ addrsJ; decide)
  ·simp at ha; subst ha; exact hl
 tabs := by
  refine tab_cases ?_ ?_
  ·exact i4 (#[]) ((J.tabs (136, 132) (by simp [tabsJ])).2) trivial (fun pos cv h => by cases h)
  ·exact i4 (#[]) ((J.tabs (146, 144) (by simp [tabsJ])).2) trivial (fun pos cv h => by cases h)
 gens := hg
 os := rfl
 nd := by
  intro j a zs h1 h2 o ho
  rcases snoc_get h1 with h1' | ⟨rfl, rfl⟩
  ·have hj : j < 20 := (List.getElem?_eq_some_iff.mp h1').1
   rw [List.getElem?_append_left (show j < sg0.length from hj)] at h2
   exact absurd rfl (sg0_nl _ (List.mem_append_left _ (List.mem_of_getElem? h2)) zs)
  ·exact hd0 o ho
end
noncomputable def AV.mp (g : Nat -> Nat) : AV -> AV
 | .ref j => .ref (g j)
 | v => v
noncomputable def mpS (g : Nat -> Nat) (m : List (Str × AV)) : List (Str × AV) := m.map fun x => (x.1, x.2.mp g)
noncomputable def mpN (g : Nat -> Nat) (m : List (Nat × AV)) : List (Nat × AV) := m.map fun x => (x.1, x.2.mp g)
noncomputable def mpC (g : Nat -> Nat) (m : List (Nat × Nat)) : List (Nat × Nat) := m.map fun x => (x.1, g x.2)
noncomputable def mpL (g : Nat -> Nat) (xs : List AV) : List AV := xs.map (AV.mp g)
noncomputable def AO.mp (g : Nat -> Nat) : AO -> AO
 | .list xs => .list (mpL g xs)
 | .tuple xs => .tuple (mpL g xs)
 | .dict kvs ep => .dict (mpS g kvs) ep
 | .cell v => .cell (v.map (AV.mp g))
 | .ns m => .ns (mpN g m)
 | .attrs m => .attrs (mpN g m)
 | .func f cl at_ => .func f (mpC g cl) (at_.map g)
 | .inst d => .inst (g d)
 | .liter l i => .liter (g l) i
 | .titer l i => .titer (g l) i
 | .kiter d i n ep => .kiter (g d) i n ep
 | o => o
theorem look_mp (g : Nat -> Nat) (k : Nat) : ∀ m : List (Nat × AV), look k (mpN g m) = (look k m).map (AV.mp g)
 | [] => rfl
 | (j, v) :: r => by
  have ih := look_mp g k r
  show (if j = k then some (v.mp g) else look k (mpN g r)) = (if j = k then some v else look k r).map (AV.mp g)
  rw [ih]; split <;> rfl
noncomputable def top21 : Sg := sg0 ++ [.dead]
noncomputable def sgL : Sg := (((sg0.set 5 .dead).set 6 .dead).set 7 .dead).set 8 .dead
noncomputable def refOf : List AV -> Nat
 | [] => 20
 | .ref j :: _ => j
 | _ :: r => refOf r
noncomputable def smV : AV -> AV
 | .ref _ => .ref 20
 | v => v
noncomputable def gO (da B : Nat) (i : Nat) : Nat := if i < 20 then i else if i = 20 then da else B + (i - 21)
noncomputable def oneRef (d : Nat) (B : Nat) (args : List AV) : Bool := args.all fun v => match v with
 | .ref j => j == d && decide (20 <= j /\ j < B)
 | _ => true
noncomputable def orc (j : Nat) (args : List AV) (V : Sg) : Option (AV × Sg) :=
 if 5 <= j /\ j <= 8 /\ oneRef (refOf args) V.length args = true /\ 20 <= refOf args /\ refOf args < V.length /\ 21 <= V.length then
  ((lvl 12).cl (.ref j) (args.map smV) [] top21).map fun r => (r.1.mp (gO (refOf args) V.length), V ++ (r.2.drop 21).map (AO.mp (gO (refOf args) V.length)))
 else none
noncomputable def stepO (R : Rec) : Rec := { ev := stepEv R, ex := stepEx R, cl := fun f args kw V => match f with
 | .ref j => match V[j]? with
  | some .dead => if kw.isEmpty then orc j args V else none
  | _ => stepCl R f args kw V
 | _ => stepCl R f args kw V }
noncomputable def lvO : Nat -> Rec
 | 0 => ⟨fun _ _ _ => none, fun _ _ _ => none, fun _ _ _ _ => none⟩
 | n + 1 => stepO (lvO n)
section
open PySem.W
open Builtin Builtin.ObjectAttr
theorem fn_mro : mroOf (.type "function") = pure [.type "function", .type "object"] := by kernel_rfl
theorem fn_slot_sa : Slot "function" "__setattr__" "object.__setattr__" :=
 .of (owner := "object") (n := "__setattr__") (by rw [typeLookup_type, builtinLookup_eq_fast]; kernel_rfl) (by decide +kernel) (by decide +kernel) (by decide +kernel)
  (by first | exact .inl (by decide +kernel) | exact .inr (by decide +kernel)) (by rw [isSubtype_type]; kernel_rfl)
theorem fn_passes (self : Value) : refuseLoop self "__setattr__" [.type "function", .type "object"] = pure () := by kernel_rfl
theorem fn_args (a b c : Value) : argsOk "object.__setattr__" ⟨[a, b, c], []⟩ := by unfold argsOk; kernel_rfl
section
variable {prog : Program} {w : World} {A : Around} {E : Value -> Shared -> Prop} {h : Heap} {g : Array GenState} {d : Drawn} {t : Nat} {os : OsState} {x : Addr} {fd : FuncData} {name : Str} {v : Value}
theorem storeIn {s : Shared} {a : Addr} {m : Str -> Option Value} {ns : List Str} {tk : Tok} {Q : Fin -> Shared -> Prop} (hn : s.heap.Ns1 a m) (hx : s.heap.ExactDictFk a) (hw : Within m ns) (hsz : ns.length <= 100)
  (hq : ∀ h', h'.Ns1 a (fun y => if y = name then some v else m y) -> h'.ExactDictFk a -> Heap.SameBut a s.heap h' -> Q (.done (.ret .none)) { s with heap := h', toks := s.toks + 1 }) :
  wpAny (model prog w) A (storeInDict a (.str name tk) name v) Q E s := by
 unfold storeInDict newKeyGuard
 refine wpAny_bind (wpAny_pure (wpAny_bind (wpAny_nsSet1EFk hn fun h' hn' hs hk => ?_)))
 refine e6 (hn'.count (Within.cons name v hw)) fun oD esD epD hoD hdD hcD => ?_
 refine wpAny_bind (wpAny_lookBehind hoD (by rw [hdD]; exact pastItsLine_dict (Nat.le_trans hcD (by rw [List.length_cons, sizeLine_eq]; lia))) ?_)
 refine wpAny_pure (hq h' hn' ?_ hs)
 refine e4 hx fun od e c dd => ?_
 refine e4 (hk od e) fun od' e' c' d' => ?_
 exact i4 od' e' (c'.trans c) (d'.trans dd)
theorem fn_store_some {Q : Unit -> Shared -> Prop} {a : Addr} {m : Str -> Option Value} {ns : List Str} (hx : h.get? x = some ⟨.type "function", some a, .func fd, #[]⟩) (hB : typeLookup (.type "function") name = pure none)
  (hn : h.Ns1 a m) (hd : h.ExactDictFk a) (hw : Within m ns) (hsz : ns.length <= 100)
  (hq : ∀ h' tk', h'.Ns1 a (fun y => if y = name then some v else m y) -> h'.ExactDictFk a -> Heap.SameBut a h h' -> Q () ⟨h', g, d, tk', os⟩) :
  wpAny (model prog w) A (setAttr (.ref x) name v) Q E ⟨h, g, d, t, os⟩ := by
 have hT : ∀ tt, (⟨h, g, d, tt, os⟩ : Shared).TypeIs (.ref x) "function" := fun tt => ⟨_, hx, rfl⟩
 unfold setAttr
 refine wpAny_bind (wpAny_mkText ?_)
 refine wpAny_bind (wpAny_callSpecial?_slot (hT _) fn_slot_sa (wpAny_call_entry fn_slot_sa (hT _) F.entry_object_sa ?_ (fn_args _ _ _)))
 have hpass := fn_passes (.ref x)
 unfold Builtin.«object.__setattr__»
 repeat (first | (with_reducible refine storeIn ?hN ?hE hw hsz ?_) | rw [refuse_eq] | (with_reducible refine wpAny_loadPart_at hx ?_) | (with_reducible refine wpAny_of_eq fn_mro ?_) | (with_reducible refine wpAny_of_eq hpass ?_) | (with_reducible refine wpAny_of_eq hB ?_) | wp_step)
 case hN => exact hn
 case hE => exact hd
 exact fun h' hn' hd' hs => ⟨_, rfl, wpAny_pure (hq h' _ hn' hd' hs)⟩
theorem fn_store_none {Q : Unit -> Shared -> Prop} (hx : h.get? x = some ⟨.type "function", none, .func fd, #[]⟩) (hB : typeLookup (.type "function") name = pure none)
  (hq : ∀ h' tk', h'.get? x = some ⟨.type "function", some h.objs.size, .func fd, #[]⟩ -> h'.Ns1 h.objs.size (fun y => if y = name then some v else none) -> h'.ExactDictFk h.objs.size ->
   (∀ b o, b ≠ x -> h.get? b = some o -> h'.get? b = some o) -> h'.objs.size = h.objs.size + 1 -> Q () ⟨h', g, d, tk', os⟩) :
  wpAny (model prog w) A (setAttr (.ref x) name v) Q E ⟨h, g, d, t, os⟩ := by
 have hT : ∀ tt, (⟨h, g, d, tt, os⟩ : Shared).TypeIs (.ref x) "function" := fun tt => ⟨_, hx, rfl⟩
 unfold setAttr
 refine wpAny_bind (wpAny_mkText ?_)
 refine wpAny_bind (wpAny_callSpecial?_slot (hT _) fn_slot_sa (wpAny_call_entry fn_slot_sa (hT _) F.entry_object_sa ?_ (fn_args _ _ _)))
 have hpass := fn_passes (.ref x)
 have hxs : x ≠ h.objs.size := Nat.ne_of_lt (Heap.lt_size hx)
 have hx₁ : (h.push { cls := .type "dict", data := .dict #[] }).get? x = some ⟨.type "function", none, .func fd, #[]⟩ := Heap.get?_push_of_some _ hx
 have hgd : ((h.push { cls := .type "dict", data := .dict #[] }).update x fun o => { cls := o.cls, dict := some h.objs.size, data := o.data, slots := o.slots }).get? h.objs.size
   = some { cls := .type "dict", data := .dict #[] } := (Heap.get?_update_ne _ _ _ _ hxs.symm).trans (Heap.get?_push_at rfl rfl)
 have hnd : ((h.push { cls := .type "dict", data := .dict #[] }).update x fun o => { cls := o.cls, dict := some h.objs.size, data := o.data, slots := o.slots }).Ns h.objs.size (fun _ => none) :=
  ⟨_, #[], _, hgd, rfl, fun e he => absurd he (by simp), fun _ => rfl⟩
 have hs2 : ((h.push { cls := .type "dict", data := .dict #[] }).update x fun o => { cls := o.cls, dict := some h.objs.size, data := o.data, slots := o.slots }).objs.size = h.objs.size + 1 := by
  rw [Heap.size_update, Heap.size_push]
 unfold Builtin.«object.__setattr__»
 repeat (first | (with_reducible refine storeIn (m := fun _ => none) (ns := []) ?hN ?hE Within.nil (Nat.zero_le _) ?_) | rw [refuse_eq] | (with_reducible refine wpAny_loadPart_at hx ?_) | (with_reducible refine wpAny_of_eq fn_mro ?_) | (with_reducible refine wpAny_of_eq hpass ?_) | (with_reducible refine wpAny_of_eq hB ?_) | wp_step)
 case hN => exact Heap.Ns1.of_empty hnd
 case hE => exact ⟨_, hgd, rfl, rfl⟩
 intro h' hn' hd' hs
 refine i3 _ rfl (wpAny_pure (hq h' _ ?_ hn' hd' (fun b o hb e => ?_) (hs.1.trans hs2)))
 ·exact (hs.2 x hxs).trans (Heap.get?_update_self _ hx₁ rfl)
 ·exact (hs.2 b (Nat.ne_of_lt (Heap.lt_size e))).trans ((Heap.get?_update_ne _ _ _ _ hb).trans (Heap.get?_push_of_some _ e))
theorem fn_slot_ga : Slot "function" "__getattribute__" "object.__getattribute__" :=
 .of (owner := "object") (n := "__getattribute__") (by rw [typeLookup_type, builtinLookup_eq_fast]; kernel_rfl) (by decide +kernel) (by decide +kernel) (by decide +kernel)
  (by first | exact .inl (by decide +kernel) | exact .inr (by decide +kernel)) (by rw [isSubtype_type]; kernel_rfl)
theorem fn_entry_ga : entryFor table "object.__getattribute__" = some Builtin.«object.__getattribute__» := entryFor_of_tree (by kernel_rfl)
theorem fn_args_ga (a b : Value) : argsOk "object.__getattribute__" ⟨[a, b], []⟩ := by unfold argsOk; kernel_rfl
theorem fn_load_entry {Q : Fin -> Shared -> Prop} {a : Addr} {m : Str -> Option Value} {tk : Tok} (hx : h.get? x = some ⟨.type "function", some a, .func fd, #[]⟩) (hB : typeLookup (.type "function") name = pure none)
  (hn : h.Ns1 a m) (hv : m name = some v) (hq : Q (.done (.ret v)) ⟨h, g, d, t, os⟩) :
  wpAny (model prog w) A (Builtin.«object.__getattribute__» ⟨[.ref x, .str name tk], []⟩) Q E ⟨h, g, d, t, os⟩ := by
 unfold Builtin.«object.__getattribute__»
 repeat (first | (with_reducible refine wpAny_loadPart_at hx ?_) | (with_reducible refine wpAny_of_eq hB ?_) | (with_reducible refine wpAny_nsGet hn.ns ?_; rw [hv]) | wp_step)
 exact hq
theorem fn_getAttr {Q : Value -> Shared -> Prop} {a : Addr} {m : Str -> Option Value} (hx : h.get? x = some ⟨.type "function", some a, .func fd, #[]⟩) (hB : typeLookup (.type "function") name = pure none)
  (hn : h.Ns1 a m) (hv : m name = some v) (hh : handedOut v = pure v) (hq : Q v ⟨h, g, d, t + 1, os⟩) :
  wpAny (model prog w) A (getAttr (.ref x) name ex) Q E ⟨h, g, d, t, os⟩ := by
 have hT : ∀ tt, (⟨h, g, d, tt, os⟩ : Shared).TypeIs (.ref x) "function" := fun tt => ⟨_, hx, rfl⟩
 have f3 := fn_slot_ga.lookup
 have f4 := fn_slot_ga.bind (.ref x)
 unfold getAttr getAttrBy
 repeat (first | assumption | exact hT _ | ((with_reducible show wpAny _ _ (call (Value.builtin "object.__getattribute__") _ _) _ _ _); refine wpAny_call_entry fn_slot_ga (hT _) fn_entry_ga (fn_load_entry hx hB hn hv ⟨_, rfl, ?_⟩) (fn_args_ga _ _)) | wp_step)
 rw [show (ex && onTheHeap (Value.builtin "object.__getattribute__")) = false from Bool.and_false _]
 refine wpAny_ite_false rfl ?_
 unfold boundAndCalled
 refine wpAny_bind (wpAny_of_eq f4 ?_)
 refine wpAny_call_entry fn_slot_ga (hT _) fn_entry_ga (fn_load_entry hx hB hn hv ⟨_, rfl, ?_⟩) (fn_args_ga _ _)
 show wpAny _ _ (handedOut v) _ _ _
 exact wpAny_of_eq hh hq
theorem fn_getattr_none : typeLookup (.type "function") "__getattr__" = pure none := by rw [typeLookup_type, builtinLookup_eq_fast]; kernel_rfl
theorem fn_getMethod {Q : Value × List Value -> Shared -> Prop} {a : Addr} {m : Str -> Option Value} {pl : Sem Bool} (hx : h.get? x = some ⟨.type "function", some a, .func fd, #[]⟩) (hB : typeLookup (.type "function") name = pure none)
  (hn : h.Ns1 a m) (hv : m name = some v) (hh : handedOut v = pure v) (hq : Q (v, []) ⟨h, g, d, t + 1, os⟩) :
  wpAny (model prog w) A (getMethod (.ref x) name pl) Q E ⟨h, g, d, t, os⟩ := by
 have hT : ∀ tt, (⟨h, g, d, tt, os⟩ : Shared).TypeIs (.ref x) "function" := fun tt => ⟨_, hx, rfl⟩
 unfold getMethod
 refine wpAny_bind (wpAny_specialOf (hT _) fn_slot_ga.lookup ?_)
 show wpAny _ A (if (Manifest.canonical "object.__getattribute__" != "object.__getattribute__") = true then _ else _) Q E _
 refine rwR F.canon_object_ga ?_
 refine rwR (if_neg Bool.false_ne_true) ?_
 refine wpAny_bind (wpAny_specialOf (hT _) fn_getattr_none ?_)
 refine wpAny_bind (wpAny_specialOf (hT _) hB ?_)
 exact wpAny_bind (fn_getAttr hx hB hn hv hh (wpAny_pure hq))
end
end
section
open PySem.W
variable {X : Fx} {Z Z' : List Addr} {V V' : Sg} {s s' : Shared} {A : Around} {E : AE} {env : Env}
theorem fnB (h : fnAttr a = true) : typeLookup (.type "function") (nm a) = pure none := by
 simp only [fnAttr, Bool.or_eq_true, beq_iff_eq] at h
 rcases h with (((rfl | rfl) | rfl) | rfl) | rfl <;> (rw [typeLookup_type, builtinLookup_eq_fast]; kernel_rfl)
theorem inB (h : inAttr a = true) : typeLookup (.type "object") (nm a) = pure none := by
 simp only [inAttr, Bool.or_eq_true, beq_iff_eq] at h
 rcases h with (((rfl | rfl) | rfl) | rfl) | rfl <;> (rw [typeLookup_type, builtinLookup_eq_fast]; kernel_rfl)
theorem methB {k : Nat} (h1 : 13 <= k) (h2 : k <= 17) : typeLookup (.type "object") (nm k) = pure none := by
 obtain rfl | rfl | rfl | rfl | rfl : k = 13 \/ k = 14 \/ k = 15 \/ k = 16 \/ k = 17 := by lia
 all_goals (rw [typeLookup_type, builtinLookup_eq_fast]; kernel_rfl)
theorem vr_handed (h : VR Z v y) : handedOut y = pure y := by
 induction v with
 | none => cases h; rfl
 | bool b => cases h; rfl
 | int i => obtain ⟨t, rfl⟩ := h; rfl
 | str i => obtain ⟨t, rfl⟩ := h; rfl
 | ref j => obtain ⟨a, _, rfl⟩ := h; rfl
 | bi b => cases h; cases b <;> first | rfl | decide +kernel | (show (if (withoutEnding? _ "#data").isSome then typeDatum _ else pure _) = _; rw [if_neg (by decide +kernel)])
theorem attrs_within {M : Str -> Option Value} (h : ∀ k, VRo Z (look k m) (M (nm k))) (hn : ∀ x, (∀ k, x ≠ nm k) -> M x = none) : Within M (m.map fun x => nm x.1) := by
 intro x hx
 by_cases hk : ∃ k, x = nm k
 ·obtain ⟨k, rfl⟩ := hk
  have := h k
  cases hl : look k m with
  | none => rw [hl] at this; exact absurd this hx
  | some v =>
   clear this h hn hx
   induction m with
   | nil => cases hl
   | cons p r ih =>
    unfold look at hl
    split at hl
    ·rename_i q; subst q; exact List.mem_cons_self
    ·exact List.mem_cons_of_mem _ (ih hl)
 ·exact absurd (hn x fun k e => hk ⟨k, e⟩) hx
theorem inst_fk (r : R X Z V s) {j : Nat} {a : Addr} (ha : Z[j]? = some a) (hj : V[j]? = some (.inst d)) (hd : V[d]? = some (.attrs m))
  (k : ∀ da o M, Z[d]? = some da -> s.heap.get? a = some o -> o.dict = some da -> s.heap.Ns1 da M -> s.heap.InstFk a X.ws M -> (∀ k, VRo Z (look k m) (M (nm k))) -> (∀ x, (∀ k, x ≠ nm k) -> M x = none) -> G) : G := by
 obtain ⟨da, hda, o, ho, hc, hnc, hdict, hne⟩ := r.obj _ _ _ ha hj
 refine e5 (r.obj _ _ _ hda hd) fun M hM hE hr hn => ?_
 exact k da o M hda ho hdict hM ⟨o, ho, hc, hnc, .inr ⟨da, hdict, hne, hM, hE⟩⟩ hr hn
theorem someV {o : Option AV} {w : Option Value} (e : o = some v) (h : VRo Z o w) (k : ∀ z, w = some z -> VR Z v z -> G) : G := by
 subst e
 exact h.elim fun z e => k z e.1 e.2
theorem readFn (r : R X Z V s) {j : Nat} {p : Addr} (hp : Z[j]? = some p) (hf : V[j]? = some (.func f cl (some d))) (hm : V[d]? = some (.attrs m)) (hfa : fnAttr a = true) (h : look a m = some x) :
  W X A (getAttr (.ref p) (nm a) ex) (fun z s' => R X Z V s' /\ VR Z x z) s :=
 fnV r hp hf hm fun _ _ _ ho _ hM _ hr _ => someV h (hr a) fun _ hz hzr => fn_getAttr ho (fnB hfa) hM hz (vr_handed hzr) ⟨r.tok _, hzr⟩
theorem readInst (K : Ok X) (r : R X Z V s) {j : Nat} {p : Addr} (hp : Z[j]? = some p) (hf : V[j]? = some (.inst d)) (hm : V[d]? = some (.attrs m)) (hia : inAttr a = true) (h : look a m = some x) :
  W X A (getAttr (.ref p) (nm a) ex) (fun z s' => R X Z V s' /\ VR Z x z) s :=
 inst_fk r hp hf hm fun _ _ _ _ _ _ _ hI hr _ => someV h (hr a) fun _ hz hzr =>
  clsE (K.cls.keeps (r.base K)) fun _ _ _ _ _ _ _ _ _ _ _ _ hC => load_attrFk hC (K.cls.keeps (r.base K)).ns K.clsNo.1 (K.clsNo.2.2.2 a hia) (inB hia) hI hz (vr_handed hzr) ⟨r.tok _, hzr⟩
theorem clsAttr (h : (match a with | 62 => some (AV.str ⟨#[32]⟩) | 63 => some (.str ⟨#[9]⟩) | _ => none) = some x) (k : ∀ c, x = .str c -> (a = 62 /\ c = ⟨#[32]⟩ \/ a = 63 /\ c = ⟨#[9]⟩) -> G) : G := by
 by_cases e : a = 62
 ·subst e; exact k _ (Option.some.inj h).symm (.inl ⟨rfl, rfl⟩)
 by_cases e : a = 63
 ·subst e; exact k _ (Option.some.inj h).symm (.inr ⟨rfl, rfl⟩)
 split at h <;> first | contradiction | exact noneS h
theorem attrA_sound (K : Ok X) (r : R X Z V s) (h : attrA v a V = some x) (hv : VR Z v y) : W X A (getAttr y (nm a) ex) (fun z s' => R X Z V s' /\ VR Z x z) s := by
 refine refE h fun j e h => ?_
 subst e
 refine refV hv fun p hp => ?_
 refine oRead h (fun f cl d hf h => ?_) (fun d hf h => ?_) fun hf h => ?_
 ·exact oAttrs h fun m hm h => iteS h fun hfa h => readFn r hp hf hm hfa h
 ·exact oAttrs h fun m hm h => iteS h fun hfa h => readInst K r hp hf hm hfa h
 ·have hws : p = X.ws := r.obj _ _ _ hp hf
  subst hws
  have X₁ : X.K.In s.heap := fun b o e => r.base K b o (K.frag b o e)
  refine e4 K.clsS fun h0 z100 z101 _ => ?_
  obtain ⟨t1, h1⟩ := z100
  obtain ⟨t2, h2⟩ := z101
  refine clsAttr h fun c e q => ?_
  subst e
  rcases q with ⟨rfl, rfl⟩ | ⟨rfl, rfl⟩
  ·exact cls_value X₁ h0 h1 rfl ⟨r.tok _, t1, rfl⟩
  ·exact cls_value X₁ h0 h2 rfl ⟨r.tok _, t2, rfl⟩
theorem attrs_put {M : Str -> Option Value} (hz : VR Z x z) (h : ∀ k, VRo Z (look k m) (M (nm k))) (k : Nat) :
  VRo Z (look k (put a x m)) (if nm k = nm a then some z else M (nm k)) := by
 rw [look_put]
 by_cases q : k = a
 ·subst q; rw [if_pos rfl, if_pos rfl]; exact ⟨z, rfl, hz⟩
 ·refine rwR (if_neg q) ?_
  refine rwR (if_neg fun e => q (nm_inj e)) ?_
  exact h k
theorem func_not_code {a : Addr} {od : Option Addr} {fd : FuncData} (hn : h.get? a = some ⟨.type "function", od, .func fd, #[]⟩) (x : Obj) (hx : h.get? a = some x) : ¬ CodeLike x := by
 obtain rfl := uq hn hx
 intro y110
 refine e5 y110 fun vs q t e _ => ?_
 contradiction
theorem get?_push_cases {o x : Obj} {b : Addr} (e : (h.push o).get? b = some x) : h.get? b = some x \/ (b = h.objs.size /\ x = o) := by
 have hl := Heap.lt_size e
 rw [Heap.size_push] at hl
 by_cases hb : b = h.objs.size
 ·right
  refine ⟨hb, ?_⟩
  subst hb
  have h2 := (Heap.get?_some_iff.mp e).1
  simp [Heap.push] at h2
  exact h2.symm
 ·left
  have h1 := Heap.get?_some_iff.mp e
  refine Heap.get?_some_iff.mpr ⟨?_, h1.2⟩
  have h2 := h1.1
  simp only [Heap.push] at h2
  rw [Array.getElem?_push] at h2
  rw [if_neg hb] at h2
  exact h2
theorem writeNew (r : R X Z V s) {j : Nat} {p : Addr} (hj : nTop <= j) (hp : Z[j]? = some p) (hf : V[j]? = some (.func f cl none)) (hfa : fnAttr a = true) (hz : VR Z x z) :
  W X A (setAttr (.ref p) (nm a) z) (fun _ s' => ∃ Z', Z <+: Z' /\ R X Z' ((V ++ [AO.attrs [(a, x)]]).set j (.func f cl (some V.length))) s') s := by
 refine e7 (r.obj _ _ _ hp hf) fun fd od ho hfr hod hsome hcr => ?_
 obtain rfl : od = none := hod
 clear hsome
 obtain ⟨hh, g, dd, t, os⟩ := s
 refine fn_store_none ho (fnB hfa) fun h' tk' g1 g2 g3 g4 g5 => ⟨Z ++ [hh.objs.size], List.prefix_append .., ?_⟩
 have hfresh : hh.get? hh.objs.size = none := Heap.get?_none_of_le (Nat.le_refl _)
 refine e4 (id g3) fun od1 e1 c1 dn1 => ?_
 have hkp : (hh.push od1).get? hh.objs.size = some od1 := Heap.get?_push_at rfl (Heap.get?_some_iff.mp e1 |>.2)
 have r1 : R X (Z ++ [hh.objs.size]) (V ++ [.attrs [(a, x)]]) ⟨hh.push od1, g, dd, tk', os⟩ := by
  refine R.new1 (s := ⟨hh, g, dd, t, os⟩) r (fun b o e => Heap.get?_push_of_some _ e) hfresh ⟨_, hkp⟩ rfl rfl ⟨(fun y => if y = nm a then some z else none), ?_, ⟨od1, hkp, c1, dn1⟩, fun k => attrs_put (m := []) (M := fun _ => none) (hz.mono (List.prefix_append ..)) (fun _ => rfl) k, fun y hy => if_neg (hy a)⟩
  refine e5 g2 fun o' es ep e' q' => ?_
  obtain rfl := uq e1 e'
  exact i5 od1 es ep hkp q'
 have hl : (Z ++ [hh.objs.size])[V.length]? = some hh.objs.size := by
  refine rwL r.len ?_
  exact List.getElem?_concat_length
 refine R.set1 (o := .func f cl (some V.length)) (s := ⟨hh.push od1, g, dd, tk', os⟩) r1 hj (get_prefix (List.prefix_append ..) hp) (fun b o hb e => ?_) (func_not_code (Heap.get?_push_of_some _ ho)) rfl rfl
  ⟨fd, some hh.objs.size, g1, hfr.mono (List.prefix_append ..), hl.symm, fun d hd => Option.some.inj hd ▸ (Option.isSome_of_eq_some hl), CodeRec_like hcr fun b o e hc => g4 b o (fun q => func_not_code ho o (q ▸ e) hc) e⟩ ⟨_, g1⟩
 refine (get?_push_cases e).elim (g4 b o hb) fun q => ?_
 refine rwR q.1 ?_
 refine rwR q.2 ?_
 exact e1
theorem writeFn (r : R X Z V s) {j : Nat} {p : Addr} (h1 : nTop <= d) (hp : Z[j]? = some p) (hf : V[j]? = some (.func f cl (some d))) (hm : V[d]? = some (.attrs m)) (hfa : fnAttr a = true) (hl : m.length <= 20) (hz : VR Z x z) :
  W X A (setAttr (.ref p) (nm a) z) (fun _ s' => ∃ Z', Z <+: Z' /\ R X Z' (V.set d (.attrs (put a x m))) s') s :=
 fnV r hp hf hm fun fd da M ho hda hM hE hr hn => fn_store_some ho (fnB hfa) hM hE (attrs_within hr hn) (Nat.le_trans (Nat.le_of_eq (List.length_map ..)) (Nat.le_trans hl (by decide))) fun h' tk' hM' hE' hs => ⟨Z, List.prefix_refl _,
  R.set1 r h1 hda (butOf hs) (ns_not_code hM.ns) rfl rfl ⟨_, hM', hE', attrs_put hz hr, fun y hy => (if_neg (hy a)).trans (hn y hy)⟩ (hE'.elim fun o e => ⟨o, e.1⟩)⟩
theorem objEq {o o₁ : Obj} {da : Addr} (c : o₁.cls = o.cls) (d : o₁.data = o.data) (sl : o₁.slots = o.slots) (k : o₁.dict = some da) (e : o.dict = some da) : o₁ = o := by
 rcases o with ⟨_, _, _, _⟩
 rcases o₁ with ⟨_, _, _, _⟩
 exact (Obj.mk.injEq ..).mpr ⟨c, k.trans e.symm, d, sl⟩
theorem writeInst (K : Ok X) (r : R X Z V s) {j : Nat} {p : Addr} (h1 : nTop <= d) (hp : Z[j]? = some p) (hf : V[j]? = some (.inst d)) (hm : V[d]? = some (.attrs m)) (hia : inAttr a = true) (hl : m.length <= 20) (hz : VR Z x z) :
  W X A (setAttr (.ref p) (nm a) z) (fun _ s' => ∃ Z', Z <+: Z' /\ R X Z' (V.set d (.attrs (put a x m))) s') s := by
 refine inst_fk r hp hf hm fun da o M hda ho hdict hM hI hr hn => ?_
 refine clsE (K.cls.keeps (r.base K)) fun _ _ _ _ _ _ _ _ _ _ _ _ hC => ?_
 have hpC : p ≠ X.ws := fun e => by
  subst e
  refine e5 hI fun o' ho' _ hnc _ => ?_
  obtain rfl := uq hC ho'
  exact hnc _ rfl
 refine store_attrFk PySem.F.store_object hC (K.cls.keeps (r.base K)).ns K.clsNo.2.2.1 (K.clsNo.2.2.2 a hia) (inB hia) hpC hI (fun h' tk' I' hk hsame => ⟨Z, List.prefix_refl _, ?_⟩) (attrs_within hr hn) (Nat.le_trans (Nat.le_of_eq (List.length_map ..)) (Nat.le_trans hl (by decide)))
 refine e5 (hsame o ho) fun o₁ e₁ c₁ dt₁ z => ?_
 obtain rfl := objEq c₁ dt₁ z.1 (z.2 da hdict) hdict
 clear z c₁ dt₁ hsame
 refine I'.elim fun o' z => ?_
 obtain rfl := uq e₁ z.1
 refine z.2.2.2.elim (fun q => noneS (q.1.symm.trans hdict)) fun q => q.elim fun d' q => ?_
 obtain rfl := uq hdict q.1
 refine R.set1 r h1 hda (fun b ob hb e => ?_) (ns_not_code hM.ns) rfl rfl ⟨_, q.2.2.1, q.2.2.2, attrs_put hz hr, fun y hy => (if_neg (hy a)).trans (hn y hy)⟩ (q.2.2.2.elim fun o e => ⟨o, e.1⟩)
 ·by_cases hbp : b = p
  ·subst hbp; exact (uq ho e) ▸ e₁
  ·exact hk b ob hbp (fun o₀ dx e₀ ed => by obtain rfl := uq ho e₀; obtain rfl := uq hdict ed; exact hb) e
theorem setAttrA_sound (K : Ok X) (r : R X Z V s) (h : setAttrA v a x V = some V') (hv : VR Z v y) (hz : VR Z x z) :
  W X A (setAttr y (nm a) z) (fun _ s' => ∃ Z', Z <+: Z' /\ R X Z' V' s') s := by
 refine refE h fun j e h => ?_
 subst e
 refine refV hv fun p hp => ?_
 refine oWrite h (fun f cl hf h => ?_) (fun f cl d hf h => ?_) fun d hf h => ?_
 ·refine iteS h fun hfa h => updE h fun h1 _ => writeNew r h1 hp hf hfa hz
 ·refine oAttrs h fun m hm h => iteS h fun hfa h => updE h fun h1 _ => ?_
  have q := Bool.and_eq_true_iff.mp hfa
  exact writeFn r h1 hp hf hm q.1 (of_decide_eq_true q.2) hz
 ·refine oAttrs h fun m hm h => iteS h fun hfa h => updE h fun h1 _ => ?_
  have q := Bool.and_eq_true_iff.mp hfa
  exact writeInst K r h1 hp hf hm q.1 (of_decide_eq_true q.2) hz
end
section
open PySem.W
variable {X : Fx} {Z Z' : List Addr} {V V' : Sg} {s s' : Shared} {A : Around} {E : AE} {env : Env}
theorem clo_loop (e : CLs Z E.cells env.cells) : ∀ (sc : List (Nat × NK)) (cl ca : List (Nat × Nat)) (acc : List (Str × Addr)), closes E sc = some cl -> CLs Z ca acc ->
  ∃ out, (forIn (sc.map fun x => (nm x.1, x.2.py)) acc (fun x (r : List (Str × Addr)) => (match x with
   | (name, kind) => if (kind == .free) = true then do let a <- cellOf env name; pure (ForInStep.yield ((name, a) :: r)) else pure (ForInStep.yield r) : Sem (ForInStep (List (Str × Addr))))) : Sem _) = pure out /\ CLs Z (cl.reverse ++ ca) out
 | [], cl, ca, acc, h, hc => by cases h; exact ⟨acc, rfl, hc⟩
 | (x, k) :: r, cl, ca, acc, h, hc => by
  have other : k ≠ .fre -> closes E r = some cl -> (k.py == NameKind.free) = false -> _ := fun _ h2 h3 => clo_loop e r cl ca acc h2 hc
  rw [List.map_cons, List.forIn_cons]
  cases k with
  | fre =>
   refine bindE h fun c h1 h => ?_
   refine bindE h fun cl' h2 h => ?_
   refine someE h ?_
   refine e3 (e.lookup h1) fun a ha hr => ?_
   refine e3 (clo_loop e r cl' ((x, c) :: ca) ((nm x, a) :: acc) h2 (.cons hr hc)) fun out o1 o2 => ?_
   refine ⟨out, ?_, by simpa using o2⟩
   rw [<- o1]
   simp only [NK.py, beq_self_eq_true, if_true]
   unfold cellOf
   rw [ha]
   rfl
  | loc =>
   refine e3 (clo_loop e r cl ca acc (by unfold closes at h; exact h) hc) fun out o1 o2 => ?_
   exact ⟨out, by rw [<- o1]; rfl, o2⟩
  | cel =>
   refine e3 (clo_loop e r cl ca acc (by unfold closes at h; exact h) hc) fun out o1 o2 => ?_
   exact ⟨out, by rw [<- o1]; rfl, o2⟩
  | glo =>
   refine e3 (clo_loop e r cl ca acc (by unfold closes at h; exact h) hc) fun out o1 o2 => ?_
   exact ⟨out, by rw [<- o1]; rfl, o2⟩
theorem closureFor_sound (e : EnvR X Z E env) {more : List (Str × Const)} (h : closes E sc = some cl) : ∃ out, closureFor (scopeOf sc more) env = pure out /\ CLs Z cl.reverse out := by
 refine e3 (clo_loop e.cells sc cl [] [] h .nil) fun out o1 o2 => ?_
 refine i3 out ?_ (by simpa using o2)
 unfold closureFor
 show (forIn (scopeOf sc more).names [] _ >>= _) = _
 have : (forIn (scopeOf sc more).names ([] : List (Str × Addr)) (fun x (r : List (Str × Addr)) => (match x with
   | (name, kind) => if (kind == .free) = true then do let a <- cellOf env name; pure (ForInStep.yield ((name, a) :: r)) else pure (ForInStep.yield r) : Sem (ForInStep (List (Str × Addr))))) : Sem _) = pure out := o1
 refine rwR this ?_
 rfl
theorem codeAmong_snoc_inv {pos' : Pos} {c cv : Value} : ∀ (l : List Value), TriplesOk l -> codeAmong pos' (l ++ [rawInt pos.line, rawInt pos.col, c]) = some cv -> codeAmong pos' l = some cv \/ cv = c := by
 intro l ht
 fun_induction TriplesOk l with
 | case1 =>
  intro h
  simp only [List.nil_append, rawInt, codeAmong] at h
  split at h
  ·cases h; exact .inr rfl
  ·exact noneS h
 | case2 a t b u x rest ih =>
  intro h
  simp only [List.cons_append, codeAmong] at h ⊢
  split at h
  ·rename_i q; rw [if_pos q]; exact .inl h
  ·rename_i q; rw [if_neg q]; exact ih ht h
 | case3 => exact ht.elim
theorem triples1 (l : List Value) (ht : TriplesOk l) (q : Str) (t : Tok) (e : l[1]? = some (.str q t)) : False := by
 fun_induction TriplesOk l with
 | case1 => exact noneS e
 | case2 => exact Value.noConfusion (Option.some.inj e)
 | case3 => exact ht
theorem tab_not_code {ps : Array Value} (ht : TriplesOk ps.toList) : ¬ CodeLike (tabObj ps) := fun h =>
 e5 h fun vs q t e h => triples1 ps.toList ht q t (Array.getElem?_toList.trans (Data.fields.inj e ▸ h))
theorem R.tab1 (K : Ok X) (r : R X Z V s) {k : Nat} {ps' : Array Value} (hk : k < 2) (hx : ∀ b o, b ≠ X.P k -> s.heap.get? b = some o -> s'.heap.get? b = some o) (hP : s'.heap.get? (X.P k) = some (tabObj ps')) (ht : TriplesOk ps'.toList)
  (hc : ∀ pos cv, codeAmong pos ps'.toList = some cv -> s'.heap.CodeRec cv (lamQ (tabQ k))) (hg : s'.gens = s.gens) (ho : s'.os = s.os) : R X Z V s' := by
 refine e4 (r.tabs k hk) fun ps e1 e2 e3 => ?_
 have hlike : ∀ b o, s.heap.get? b = some o -> CodeLike o -> s'.heap.get? b = some o := fun b o e c => by
  by_cases q : b = X.P k
  ·subst q; rw [e1] at e; cases e; exact absurd c (tab_not_code e2)
  ·exact hx b o q e
 refine { r with obj := fun j a o q w => (r.obj j a o q w).at (fun x h => hx a x (r.tne a (List.mem_of_getElem? q) k hk) h) hlike, live := fun j a q => ?_, keep := fun b o q => hx b o (fun w => by rw [w, K.kP k hk] at q; cases q) (r.keep b o q), tabs := fun k' hk' => ?_, gens := hg.trans r.gens, os := ho.trans r.os, nd := fun j a xs q w o h => ?_ }
 ·refine N1.e2 (r.live j a q) fun x h => ?_
  exact ⟨x, hx a x (r.tne a (List.mem_of_getElem? q) k hk) h⟩
 ·by_cases q : k' = k
  ·subst q; exact ⟨ps', hP, ht, hc⟩
  ·have hne : X.P k' ≠ X.P k := by
    have hPP := K.PP
    obtain rfl | rfl : k = 0 \/ k = 1 := by lia
    ·obtain rfl : k' = 1 := by lia
     exact hPP.symm
    ·obtain rfl : k' = 0 := by lia
     exact hPP
   exact tabs_like hlike (fun o e => hx _ o hne e) (r.tabs k' hk')
 ·refine N1.e2 (r.live j a q) fun x h' => ?_
  obtain rfl := uq (hx a x (r.tne a (List.mem_of_getElem? q) k hk) h') h
  exact r.nd j a xs q w _ h'
theorem app_assoc (a b c : Str) : (a ++ b) ++ c = a ++ (b ++ c) := by
 cases a; cases b; cases c
 refine (?_ : Str.mk _ = Str.mk _)
 rw [Str.mk.injEq]
 exact Array.append_assoc
theorem lam_qual (q : Str) : (q ++ Str.ofString ".<locals>.") ++ ("<lambda>" : Str) = lamQ q := by
 rw [app_assoc]; unfold lamQ
 have : Str.ofString ".<locals>." ++ ("<lambda>" : Str) = Str.ofString ".<locals>.<lambda>" := by decide +kernel
 rw [this]
theorem lam_sound (K : Ok X) (r : R X Z V s) (e : EnvR X Z E env) {ps : List (Nat × Pos)} {body : Ex} {fast : List Nat} (h : lamA E ps body sc fast V = some (v, V')) :
  W X A (eval (Ex.lam ps body sc fast p).py env) (Post X Z V' v) s := by
 refine bindE h fun cl hcl h => ?_
 split at h
 ·rename_i k hk
  refine someP h ?_
  refine e3 (e.tab k hk) fun hk2 hq hcode => ?_
  refine e3 (closureFor_sound (more := fastOf fast) e hcl) fun clos hclos hcs => ?_
  refine e4 (r.tabs k hk2) fun tps t1 t2 t3 => ?_
  have hg := K.g.keeps (r.base K)
  have C := (K.code k hk2).keeps (r.base K)
  have hb : s.heap.BuiltinsAt X.mg (X.P k) := by
   refine e8 (K.bat k hk2) fun bm o b1 b2 b3 b4 b5 b6 => ?_
   exact i8 bm o b1 b2 b3 b4 (r.base K _ _ b5) b6
  have hqual : env.qual ++ ("<lambda>" : Str) = lamQ E.q := by rw [e.q]; exact lam_qual _
  have fin : ∀ (ctv cv : Value) (s₁ : Shared), R X Z V s₁ -> s₁.heap.CodeRec cv (lamQ E.q) -> ∀ tk, Post X Z (V ++ [AO.func { ps := ps, body := .expr body, sc := sc, qual := E.q ++ Str.ofString ".<locals>.<lambda>", args := argsOf ps, scope := scopeOf sc (fastOf fast) } cl.reverse none]) (.ref V.length)
    (.ref s₁.heap.objs.size) { s₁ with heap := s₁.heap.push { cls := .type "function", data := .func (kla_fn "<lambda>" (env.qual ++ ("<lambda>" : Str)) (argsOf ps) body.py (scopeOf sc (fastOf fast)) clos ((X.mg "__name__").getD .none) cv ctv) }, toks := tk } := by
   intro ctv cv s₁ r₁ hcr tk
   have hpre : Z <+: Z ++ [s₁.heap.objs.size] := List.prefix_append ..
   refine ⟨_, hpre, R.new1 r₁ (fun b o e => Heap.get?_push_of_some _ e) (Heap.get?_none_of_le (Nat.le_refl _)) ⟨_, Heap.get?_push_size _ rfl⟩ rfl rfl
    ⟨_, none, Heap.get?_push_size _ rfl, ⟨⟨rfl, by simp [argsOf, Function.comp_def], rfl, rfl, rfl, rfl, rfl, rfl, rfl⟩, rfl, rfl, rfl, rfl, rfl, hqual, hcs.mono hpre, fun k hk => (noneS hk), rfl, rfl⟩, rfl, fun d hd => (noneS hd), hcr.push _⟩,
    s₁.heap.objs.size, ?_, rfl⟩
   rw [<- r₁.len, List.getElem?_append_right (Nat.le_refl _)]; simp
  refine kla_eval rfl ?_
  cases hf : codeAmong p tps.toList with
  | some cv =>
   refine kla_makeFunctionHit hclos e.globals hg hcode C t1 t2 hf hb fun ctv h' tk hkp hsz => ?_
   have r₁ : R X Z V { s with heap := h', toks := tk } := r.grow hkp rfl rfl
   exact fin ctv cv { s with heap := h', toks := tk } r₁ (by rw [hq]; exact (t3 p cv hf).keeps hkp) tk
  | none =>
   refine kla_makeFunction hclos e.globals hg hcode C t1 t2 hf (K.gP k hk2) hb fun c' ctv h' tk hx hge hlt hrec htb => ?_
   have hrec' : h'.CodeRec (.ref c') (lamQ (tabQ k)) := by rw [hqual, hq] at hrec; exact hrec
   have hlike : ∀ b o, s.heap.get? b = some o -> CodeLike o -> h'.get? b = some o := fun b o e c => by
    by_cases q : b = X.P k
    ·subst q; rw [t1] at e; cases e; exact absurd c (tab_not_code t2)
    ·exact hx b o q e
   have r₁ : R X Z V { s with heap := h', toks := tk } := by
    refine R.tab1 K r hk2 (fun b o q w => hx b o q w) htb ?_ (fun pos cv q => ?_) rfl rfl
    ·refine rwR Array.toList_append ?_
     exact TriplesOk_snoc _ _ _ _ t2
    ·rw [Array.toList_append] at q
     rcases codeAmong_snoc_inv _ t2 q with q | rfl
     ·exact CodeRec_like (t3 pos cv q) hlike
     ·exact hrec'
   exact fin ctv (.ref c') { s with heap := h', toks := tk } r₁ (by rw [hq]; exact hrec') tk
 ·exact noneS h
end
section
open PySem.W
variable {X : Fx} {Z Z' : List Addr} {V V' : Sg} {s s' : Shared} {A : Around} {E : AE} {env : Env}
theorem lookup_zip (names : List Str) (vs : List Value) (hl : vs.length = names.length) (n : Str) (hn : n ∈ names) : (List.lookup n (names.zip vs)).isSome = true := by
 induction names generalizing vs with
 | nil => exact absurd hn List.not_mem_nil
 | cons m r ih =>
  rcases vs with _ | ⟨v, vs⟩
  ·exact nomatch hl
  ·by_cases e : n = m
   ·subst e; exact congrArg Option.isSome (lookup_self (m := n) (v := v) (l := r.zip vs))
   ·exact (congrArg Option.isSome (lookup_next (v := v) (l := r.zip vs) e)).trans (ih vs (Nat.succ.inj hl) ((List.mem_cons.mp hn).elim (fun q => absurd q e) id))
theorem filterMap_eq {α β : Type} {f g : α -> Option β} (l : List α) (h : ∀ a ∈ l, f a = g a) : l.filterMap f = l.filterMap g := by
 induction l with
 | nil => rfl
 | cons a r ih => rw [List.filterMap_cons, List.filterMap_cons, h a List.mem_cons_self, ih fun b hb => h b (List.mem_cons_of_mem _ hb)]
theorem filterMap_zip (names : List Str) (vs : List Value) (hl : vs.length = names.length) (hn : names.Nodup) : names.filterMap (fun n => (List.lookup n (names.zip vs)).map fun v => (n, v)) = names.zip vs := by
 induction names generalizing vs with
 | nil => rfl
 | cons m r ih =>
  rcases vs with _ | ⟨v, vs⟩
  ·exact nomatch hl
  ·have hn' := List.nodup_cons.mp hn
   have e : (fun n => (List.lookup n ((m :: r).zip (v :: vs))).map fun v => (n, v)) m = some (m, v) := congrArg (Option.map (Prod.mk m)) (lookup_self (m := m) (v := v) (l := r.zip vs))
   refine (List.filterMap_cons_some (f := fun n => (List.lookup n ((m :: r).zip (v :: vs))).map fun v => (n, v)) e).trans (congrArg ((m, v) :: ·) ?_)
   exact (filterMap_eq _ fun n hnr => congrArg (Option.map (Prod.mk n)) (lookup_next (v := v) (l := r.zip vs) fun (e : n = m) => hn'.1 (e ▸ hnr))).trans (ih vs (Nat.succ.inj hl) hn'.2)
theorem no_missing {names : List Str} (hl : vs.length = names.length) (n : Nat) : ¬ (!((names.take n).filter fun n => (List.lookup n (names.zip vs)).isNone).isEmpty) = true := by
 have hm : ((names.take n).filter fun n => Option.isNone (List.lookup n (names.zip vs))) = [] := by
  refine List.filter_eq_nil_iff.mpr fun n hn h => ?_
  have := lookup_zip names vs hl n (List.mem_of_mem_take hn)
  generalize List.lookup n (names.zip vs) = q at this h
  rcases q with _ | _
  ·exact ftE this
  ·exact ftE h
 refine rwR hm ?_
 exact Bool.false_ne_true
theorem zip_dropN (l : List Str) (n m : Nat) : (l.drop n).zip (([] : List Value).drop m) = [] := by rw [List.drop_nil, List.zip_nil_right]
theorem forIn_none {α β γ : Type} {l : List α} (h : l = []) {b : β} {f : α -> β -> Sem (ForInStep β)} {K : β -> Sem γ} {r : Sem γ} (k : K b = r) : (forIn l b f >>= K) = r := by subst h; exact k
theorem bind_plain0 {q : FuncData} {as : List Arg} {kd df} (hp : q.params = ⟨[], as, none, [], kd, none, df⟩) (nd : (as.map (·.arg)).Nodup) (hd : q.defaults = .none) (hl : vs.length = (as.map (·.arg)).length) : bindArgs q ⟨vs, []⟩ = pure ((as.map (·.arg)).zip vs) := by
 delta bindArgs
 refine rwR hp ?_
 refine rwR hd ?_
 refine (if_neg (c := _ = true) (fun e => absurd (of_decide_eq_true (Bool.and_eq_true_iff.mp e).1) (hl ▸ Nat.lt_irrefl _))).trans ?_
 refine (if_neg (c := _ = true) (no_missing hl _)).trans ?_
 refine forIn_none (zip_dropN (as.map (·.arg)) _ _) ?_
 exact congrArg (pure (f := Sem)) ((congrArg (List.filterMap fun n => (List.lookup n ((as.map (·.arg)).zip vs)).map fun v => (n, v)) (List.append_nil (as.map (·.arg)))).trans (filterMap_zip (as.map (·.arg)) vs hl nd))
theorem args_eta (a : Arguments) : a = ⟨a.posonlyargs, a.args, a.vararg, a.kwonlyargs, a.kw_defaults, a.kwarg, a.defaults⟩ := by cases a; rfl
theorem bind_plain {fd : FuncData} (names : List Str) (h1 : fd.params.posonlyargs = []) (h2 : fd.params.kwonlyargs = []) (h3 : fd.params.vararg = none) (h4 : fd.params.kwarg = none) (hn : fd.params.args.map (·.arg) = names)
  (nd : names.Nodup) (hd : fd.defaults = .none) (hl : vs.length = names.length) : bindArgs fd ⟨vs, []⟩ = pure (names.zip vs) := by
 subst hn
 exact bind_plain0 ((args_eta _).trans (by rw [h1, h2, h3, h4])) nd hd hl
inductive BRs (Z : List Addr) : List (Nat × AV) -> List (Str × Value) -> Prop
 | nil : BRs Z [] []
 | cons {k : Nat} {x : AV} {v : Value} {xs : List (Nat × AV)} {vs : List (Str × Value)} : VR Z x v -> BRs Z xs vs -> BRs Z ((k, x) :: xs) ((nm k, v) :: vs)
theorem BRs.mono (h : Z <+: Z') {xs : List (Nat × AV)} {vs : List (Str × Value)} (r : BRs Z xs vs) : BRs Z' xs vs := by
 induction r with
 | nil => exact .nil
 | cons a _ ih => exact .cons (a.mono h) ih
theorem BRs.append {xs ys : List (Nat × AV)} {vs ws : List (Str × Value)} (r : BRs Z xs vs) (q : BRs Z ys ws) : BRs Z (xs ++ ys) (vs ++ ws) := by
 induction r with
 | nil => exact q
 | cons a _ ih => exact .cons a ih
theorem BRs.zip {ps : List Nat} (h : VRs Z xs vs) (hl : xs.length = ps.length) : BRs Z (ps.zip xs) ((ps.map nm).zip vs) := by
 induction h generalizing ps with
 | nil =>
  obtain rfl := List.length_eq_zero_iff.mp hl.symm
  exact .nil
 | cons h r ih =>
  rcases ps with _ | ⟨p, ps⟩
  ·exact nomatch hl
  ·exact .cons h (ih (Nat.succ.inj hl))
theorem sc_lookup {x : Nat} {k : NK} (h : look x sc = some k) : (sc.map fun x => (nm x.1, x.2.py)).lookup (nm x) = some k.py := by
 induction sc with
 | nil => exact noneS h
 | cons p r ih =>
  have h : (if p.1 = x then some p.2 else look x r) = some k := h
  by_cases q : p.1 = x
  ·subst q; rw [if_pos rfl] at h
   exact lookup_self.trans (congrArg some (congrArg NK.py (Option.some.inj h)))
  ·rw [if_neg q] at h
   exact (lookup_next fun e => q (nm_inj e).symm).trans (ih h)
theorem layCells_sound (sc : List (Nat × NK)) (acc : List (Nat × Nat)) (cs : List (Str × Addr)) (Z : List Addr) (V : Sg) (s : Shared) (f : Str × NameKind -> List (Str × Addr) -> Sem (ForInStep (List (Str × Addr))))
  (hf : ∀ name kind cells, f (name, kind) cells = if kind == .cell then (do let a <- alloc { cls := .type "cell", data := .cell none }; pure (.yield ((name, a) :: cells))) else pure (.yield cells)) (r : R X Z V s) (hc : CLs Z acc cs) :
  W X A (forIn (sc.map fun x => (nm x.1, x.2.py)) cs f) (fun cs' s' => ∃ Z', Z <+: Z' /\ R X Z' (layCells sc acc V).2 s' /\ CLs Z' (layCells sc acc V).1 cs') s := by
 induction sc generalizing acc cs Z V s with
 | nil => exact wpAny_pure ⟨Z, List.prefix_refl _, r, hc⟩
 | cons p t ih =>
  obtain ⟨x, k⟩ := p
  rw [List.map_cons, List.forIn_cons, hf]
  rcases k
  ·exact ih acc cs Z V s r hc
  ·refine wpAny_bind (wpAny_bind (wpAny_alloc (wpAny_pure ?_)))
   have r' : R X (Z ++ [s.heap.objs.size]) (V ++ [.cell none]) { s with heap := s.heap.push { cls := .type "cell", data := .cell none } } :=
    R.new1 r (fun b o e => Heap.get?_push_of_some _ e) (Heap.get?_none_of_le (Nat.le_refl _)) ⟨_, Heap.get?_push_size _ rfl⟩ rfl rfl ⟨none, ⟨_, Heap.get?_push_size _ rfl, rfl⟩, rfl⟩
   exact W.mono (ih ((x, V.length) :: acc) _ _ _ _ r' (.cons (getNew r.len) (hc.mono (List.prefix_append ..)))) fun cs' s' h => h.elim fun Z' z => ⟨Z', (List.prefix_append ..).trans z.1, z.2⟩
  ·exact ih acc cs Z V s r hc
  ·exact ih acc cs Z V s r hc
theorem bindAll_sound {binds : List (Str × Value)} {s : Shared} (f : Str × Value -> PUnit -> Sem (ForInStep PUnit)) (hf : ∀ x u, f x u = (do storeName env x.1 x.2; pure (.yield ⟨⟩)))
  (hb : BRs Z bs binds) (h : bindAll E bs V = some V') (r : R X Z V s) (e : EnvR X Z E env) : W X A (forIn binds ⟨⟩ f) (fun _ s' => R X Z V' s') s := by
 induction hb generalizing V s with
 | nil => exact someE h (wpAny_pure r)
 | cons hv hr ih =>
  refine bindE h fun V₁ h1 h2 => ?_
  rw [List.forIn_cons, hf]
  exact wpAny_bind (wpAny_bind (W.mono (storeName_sound r e hv h1) fun _ s₁ r₁ => wpAny_pure (ih h2 r₁)))
theorem newEnv_sound (r : R X Z V s) {clos : List (Str × Addr)} {binds : List (Str × Value)} {scope : Scope} {q : Str} {qual : Str} {func : Option Addr} {code : Value} {around : Option Env}
  {tab : Option Nat} (hk : scope.kind = .function) (hsc : scope.names = sc.map fun x => (nm x.1, x.2.py)) (hcl : CLs Z cl clos) (hb : BRs Z bs binds) (hq : qual = q ++ Str.ofString ".<locals>.")
  (htab : ∀ k, tab = some k -> k < 2 /\ q = tabQ k /\ (around.map (·.code)).getD code = .ref (X.C k))
  (hbu : (around.map (·.builtins)).getD builtinsNs = builtinsNs)
  (h : bindAll ⟨sc, V.length, (layCells sc cl (V ++ [.ns []])).1, q, tab⟩ bs (layCells sc cl (V ++ [.ns []])).2 = some V') :
  W X A (newFunctionEnv scope mainGlobals clos binds qual func code around builtinsNs) (fun env s' => ∃ Z', Z <+: Z' /\ R X Z' V' s' /\ EnvR X Z' ⟨sc, V.length, (layCells sc cl (V ++ [.ns []])).1, q, tab⟩ env /\ env.scope = scope) s := by
 delta newFunctionEnv
 refine wpAny_bind (wpAny_alloc ?_)
 refine rwR hsc ?_
 have r₁ : R X (Z ++ [s.heap.objs.size]) (V ++ [.ns []]) { s with heap := s.heap.push { cls := .type (if around.isSome then "dict" else "frame"), data := .dict #[] } } :=
  R.new1 r (fun b o e => Heap.get?_push_of_some _ e) (Heap.get?_none_of_le (Nat.le_refl _)) ⟨_, Heap.get?_push_size _ rfl⟩ rfl rfl ⟨fun _ => none, Heap.Ns.new .., fun k => rfl⟩
 refine wpAny_bind (W.mono (layCells_sound sc cl clos _ _ _ _ (fun name kind cells => by rcases kind <;> rfl) r₁ (hcl.mono (List.prefix_append ..))) fun cs s₂ h₂ => h₂.elim fun Z₂ z => ?_)
 have p₂ := (List.prefix_append ..).trans z.1
 have mkE : ∀ env : Env, env.scope = scope -> env.locals = s.heap.objs.size -> env.globals = mainGlobals -> env.builtins = builtinsNs -> env.cells = cs -> env.qual = qual -> env.code = (around.map (·.code)).getD code ->
   EnvR X Z₂ ⟨sc, V.length, (layCells sc cl (V ++ [.ns []])).1, q, tab⟩ env := fun env e1 e2 e3 e4 e5 e6 e7 =>
  {kind := (congrArg Scope.kind e1).trans hk, names := fun x k hx => .inl ((congrArg (fun l => List.lookup (nm x) l) ((congrArg Scope.names e1).trans hsc)).trans (sc_lookup hx)), loc := e2 ▸ get_prefix z.1 (getNew r.len), globals := e3, builtins := e4, cells := e5 ▸ z.2.2, q := e6.trans hq,
   tab := fun k hk => e7 ▸ htab k hk }
 have hb₂ := hb.mono p₂
 rcases around with _ | o
 ·exact wpAny_bind (W.mono (bindAll_sound _ (fun _ _ => rfl) hb₂ h z.2.1 (mkE _ rfl rfl rfl rfl rfl rfl rfl)) fun _ s₃ r₃ => wpAny_pure ⟨Z₂, p₂, r₃, mkE _ rfl rfl rfl rfl rfl rfl rfl, rfl⟩)
 ·exact wpAny_bind (W.mono (bindAll_sound _ (fun _ _ => rfl) hb₂ h z.2.1 (mkE _ rfl rfl rfl hbu rfl rfl rfl)) fun _ s₃ r₃ => wpAny_pure ⟨Z₂, p₂, r₃, mkE _ rfl rfl rfl hbu rfl rfl rfl, rfl⟩)
end
section
open PySem.W
variable {X : Fx} {Z Z' : List Addr} {V V' : Sg} {s s' : Shared} {A : Around} {E : AE} {env : Env}
noncomputable def FlR (Z : List Addr) : AF -> Flow -> Prop
 | .next, f => f = .next
 | .brk, f => f = .brk
 | .ret v, f => ∃ y, f = .ret y /\ VR Z v y
noncomputable def PostF (X : Fx) (Z : List Addr) (V' : Sg) (f : AF) : Flow -> Shared -> Prop := fun g s' => ∃ Z', Z <+: Z' /\ R X Z' V' s' /\ FlR Z' f g
noncomputable def PostB (X : Fx) (Z : List Addr) (V' : Sg) (b : Bool) : Bool -> Shared -> Prop := fun c s' => c = b /\ ∃ Z', Z <+: Z' /\ R X Z' V' s'
noncomputable def PostS (X : Fx) (Z : List Addr) (V' : Sg) (vs : List AV) : List Value -> Shared -> Prop := fun ys s' => ∃ Z', Z <+: Z' /\ R X Z' V' s' /\ VRs Z' vs ys
noncomputable def PostR (X : Fx) (Z : List Addr) (V' : Sg) (v : AV) : Result -> Shared -> Prop := fun r s' => ∃ y, r = .ok (.ret y) /\ Post X Z V' v y s'
theorem postFE {f : AF} {g : Flow} (h : PostF X Z V f g s) (k : ∀ Z', Z <+: Z' -> R X Z' V s -> FlR Z' f g -> G) : G := h.elim fun a z => k a z.1 z.2.1 z.2.2
theorem postSE {vs : List AV} {ys : List Value} (h : PostS X Z V vs ys s) (k : ∀ Z', Z <+: Z' -> R X Z' V s -> VRs Z' vs ys -> G) : G := h.elim fun a z => k a z.1 z.2.1 z.2.2
noncomputable def Callable (f : AV) (V : Sg) : Prop := (∃ b, f = .bi b) \/ ∃ j, f = .ref j /\ ((∃ fi cl at_, V[j]? = some (.func fi cl at_)) \/ V[j]? = some .cls \/ 5 <= j /\ j <= 8)
noncomputable def isComp : Ex -> Bool
 | .comp .. | .comp2 .. => true
 | _ => false
structure Sd (X : Fx) (r : Rec) (n : Nat) : Prop where
 ev : ∀ {A Z V s E env e v V'}, r.ev E e V = some (v, V') -> R X Z V s -> EnvR X Z E env -> Room A n -> W X A (eval e.py env) (Post X Z V' v) s
 tr : ∀ {A Z V s E env e v V' b}, r.ev E e V = some (v, V') -> truth v = some b -> R X Z V s -> EnvR X Z E env -> Room A n -> W X A (isTrue e.py env (eval e.py env)) (PostB X Z V' b) s
 ex : ∀ {A Z V s E env b f V'}, r.ex E b V = some (f, V') -> R X Z V s -> EnvR X Z E env -> Room A n -> W X A (execs (pyS b) env) (PostF X Z V' f) s
 cl : ∀ {A Z V s f args kw v V' fv vs kvs}, r.cl f args kw V = some (v, V') -> R X Z V s -> VR Z f fv -> VRs Z args vs -> BRs Z kw kvs -> Room A n -> W X A (call fv vs kvs) (Post X Z V' v) s
 us : ∀ {A Z V s E env e v V₁ V' x px}, isComp e = true -> r.ev E e V = some (v, V₁) -> setN E x v V₁ = some V' -> R X Z V s -> EnvR X Z E env -> Room A n -> W X A (evalThenUse e.py env fun v => assignAll v [assign (.Name (nm x) px) env]) (fun _ s' => ∃ Z', Z <+: Z' /\ R X Z' V' s') s
 cb : ∀ {V f args kw v V'}, r.cl f args kw V = some (v, V') -> Callable f V
theorem Sd.zero : Sd X (lvl 0) 0 := ⟨fun h => noneS h, fun h => noneS h, fun h => noneS h, fun h => noneS h, fun _ h => noneS h, fun h => noneS h⟩
noncomputable def BindsOk (X : Fx) : Prop := ∀ {A : Around} {Z : List Addr} {V V' : Sg} {s : Shared} {f : FI} {cl : List (Nat × Nat)} {fd : FuncData} {args : List AV} {kw bs : List (Nat × AV)} {vs : List Value} {kvs : List (Str × Value)},
 bindsA f args kw V = some (bs, V') -> R X Z V s -> FR X Z f cl fd -> VRs Z args vs -> BRs Z kw kvs -> W X A (bindArgs fd ⟨vs, kvs⟩) (fun binds s' => ∃ Z', Z <+: Z' /\ R X Z' V' s' /\ BRs Z' bs binds) s
theorem fnCall {j : Nat} {at_ : Option Nat} (hf : V[j]? = some (.func fi cl at_)) (h : stepCl r (.ref j) args kw V = some (v, V'))
  (k1 : ∀ bs V₁ V₂ b f V₃, bindsA fi args kw V = some (bs, V₁) -> bindAll ⟨fi.sc, V₁.length, (layCells fi.sc cl (V₁ ++ [.ns []])).1, fi.qual, fi.tab⟩ bs (layCells fi.sc cl (V₁ ++ [.ns []])).2 = some V₂ -> fi.body = .stmts b -> r.ex ⟨fi.sc, V₁.length, (layCells fi.sc cl (V₁ ++ [.ns []])).1, fi.qual, fi.tab⟩ b V₂ = some (f, V₃) -> V₃ = V' -> (f = .next /\ v = .none \/ f = .ret v) -> G)
  (k2 : ∀ bs V₁ V₂ e, bindsA fi args kw V = some (bs, V₁) -> bindAll ⟨fi.sc, V₁.length, (layCells fi.sc cl (V₁ ++ [.ns []])).1, fi.qual, fi.tab⟩ bs (layCells fi.sc cl (V₁ ++ [.ns []])).2 = some V₂ -> fi.body = .expr e -> r.ev ⟨fi.sc, V₁.length, (layCells fi.sc cl (V₁ ++ [.ns []])).1, fi.qual, fi.tab⟩ e V₂ = some (v, V') -> G) : G := by
 delta stepCl at h
 dsimp only at h
 rw [hf] at h
 refine bindP h fun bs V₁ h1 h => bindE h fun V₂ h2 h => ?_
 have k1 := fun b f V₃ => k1 bs V₁ V₂ b f V₃ h1 h2
 have k2 := fun e => k2 bs V₁ V₂ e h1 h2
 clear h1 h2
 rcases hb : fi.body with b | e
 ·rw [hb] at h
  refine bindP h fun f V₃ h3 h => ?_
  rcases f with _ | _ | w
  ·exact k1 b _ V₃ hb h3 (pairI h).2 (.inl ⟨rfl, (pairI h).1.symm⟩)
  ·exact noneS h
  ·exact k1 b _ V₃ hb h3 (pairI h).2 (.inr (congrArg AF.ret (pairI h).1))
 ·rw [hb] at h
  exact k2 e hb h
theorem call_sound (K : Ok X) (BO : BindsOk X) (S : Sd X r n) {j : Nat} {at_ : Option Nat} 
  (hf : V[j]? = some (.func fi cl at_)) (h : stepCl r (.ref j) args kw V = some (v, V')) (hR : R X Z V s) (hv : VR Z (.ref j) fv) (ha : VRs Z args vs) (hk : BRs Z kw kvs) (hm : Room A (n + 1)) :
  codeAny (model X.prog X.w) A (.call fv ⟨vs, kvs⟩) (PostR X Z V' v) s := by
 refine refV hv fun a hja => ?_
 refine e7 (hR.obj _ _ _ hja hf) fun fd od ho hfr hod hsome hcr => ?_
 refine e9 hfr.ok fun ok1 ok2 ok3 ok4 ok5 ok6 ok7 ok8 ok9 => ?_
 have hcr' : s.heap.CodeRec fd.code fd.qualname := hfr.qual ▸ hcr
 have inner : ∀ (bs : List (Nat × AV)) (V₁ V₂ : Sg) (Rr : Env -> Shared -> Prop), bindsA fi args kw V = some (bs, V₁) -> bindAll ⟨fi.sc, V₁.length, (layCells fi.sc cl (V₁ ++ [.ns []])).1, fi.qual, fi.tab⟩ bs (layCells fi.sc cl (V₁ ++ [.ns []])).2 = some V₂ ->
   (∀ env Z₂ s₂, Z <+: Z₂ -> R X Z₂ V₂ s₂ -> EnvR X Z₂ ⟨fi.sc, V₁.length, (layCells fi.sc cl (V₁ ++ [.ns []])).1, fi.qual, fi.tab⟩ env -> Rr env s₂) ->
   wpAny (model X.prog X.w) A.in1 (bindArgs fd ⟨vs, kvs⟩) (fun binds s₁ =>
    wpAny (model X.prog X.w) A.in1 (newFunctionEnv fd.scope fd.globals fd.closure binds (fd.qualname ++ ".<locals>.") (some a) fd.code none fd.builtins)
     (fun env s₂ => s₂.heap.NoLimit /\ Rr env s₂) (fun e s' => PostR X Z V' v (.error e) s') s₁) (fun e s' => PostR X Z V' v (.error e) s') s := by
  intro bs V₁ V₂ Rr h1 h2 hR'
  refine W.to (BO h1 hR hfr ha hk) fun binds s₁ hb => hb.elim fun Z₁ z => ?_
  refine rwR hfr.globals ?_
  refine rwR hfr.builtins ?_
  refine W.to (newEnv_sound z.2.1 (q := fi.qual) (tab := fi.tab) (hfr.scope ▸ ok6) (hfr.scope ▸ ok7) (hfr.closure.mono z.1) z.2.2 (congrArg (· ++ _) hfr.qual) hfr.code rfl h2) fun env s₂ he => he.elim fun Z₂ y => ?_
  exact ⟨y.2.1.nolimit K, hR' env Z₂ s₂ (z.1.trans y.1) y.2.1 y.2.2.1⟩
 refine fnCall hf h (fun bs V₁ V₂ b f V₃ h1 h2 hbody h3 es hw => ?_) fun bs V₁ V₂ e h1 h2 hbody h3 => ?_
 ·subst es
  refine codeAny_call_function hm.depth ho rfl (hfr.scope ▸ ok9) (hfr.scope ▸ ok8) (hfr.body.trans (congrArg FB.py hbody)) hcr' (inner _ _ _ _ h1 h2 fun env Z₂ s₂ p₂ r₂ e₂ => ?_)
  refine codeAny_func (W.to (S.ex h3 r₂ e₂ (hm.deeper env)) fun fl s₃ hq => postFE hq fun Z₃ p₃ r₃ hfl => ?_)
  rcases hw with ⟨rfl, rfl⟩ | rfl
  ·obtain rfl : fl = .next := hfl
   exact ⟨.none, rfl, Z₃, p₂.trans p₃, r₃, rfl⟩
  ·exact hfl.elim fun y z => z.1 ▸ ⟨y, rfl, Z₃, p₂.trans p₃, r₃, z.2⟩
 ·refine kla_callFunE hm.depth ho rfl (hfr.scope ▸ ok9) (hfr.scope ▸ ok8) (hfr.body.trans (congrArg FB.py hbody)) hcr' (inner _ _ _ _ h1 h2 fun env Z₂ s₂ p₂ r₂ e₂ => ?_)
  exact kla_codeExpr (W.to (S.ev h3 r₂ e₂ (hm.deeper env)) fun y s₃ hq => ⟨y, rfl, hq.pre p₂⟩)
end
section
open PySem.W
section
variable {prog : Program} {w : World} {A : Around} {E : Value -> Shared -> Prop} {s : Shared} {d : Addr} {kvs : List (Str × Value)} {ep : Nat} {k : Str} {key v : Value}
noncomputable def epAfter (kvs : List (Str × Value)) (k : Str) (ep : Nat) : Nat := if (valueAt kvs k).isSome then ep else ep + 1
theorem valueAt_isSome (kvs : List (Str × Value)) (k : Str) : (valueAt kvs k).isSome = kvs.any fun kv => kv.1 = k := by
 unfold valueAt
 rw [Option.isSome_map, Bool.eq_iff_iff, List.find?_isSome]
 simp
theorem dict_change {es : Array DictEntry} {o : Obj} (ho : s.heap.get? d = some o) (hx : o.ExactDict) (hd : o.data = .dict es ep) (hk : KeysOf (strKind prog w) es) (hp : Pairs (strKind prog w) es.toList kvs) (hn : (kvs.map (·.1)).Nodup) (hkey : (strKind prog w).is k key = true) (t : Nat) :
  (∀ i, (es.findIdx? fun e => (strKind prog w).is k e.key) = some i -> (s.heap.update d (Obj.mapDict fun es => es.modify i fun e => { e with val := v })).DictAt (strKind prog w) d (stored kvs k v) (epAfter kvs k ep)) /\
  ((es.findIdx? fun e => (strKind prog w).is k e.key) = none -> (s.heap.update d (Obj.mapDictKeys fun es => es.push ⟨(strKind prog w).hash k, key, v⟩)).DictAt (strKind prog w) d (stored kvs k v) (epAfter kvs k ep)) := by
 have hfi := hp.findIdx k
 have hta : (es.toList.findIdx? fun e => (strKind prog w).is k e.key) = es.findIdx? fun e => (strKind prog w).is k e.key := by obtain ⟨l⟩ := es; simp
 rw [hta] at hfi
 constructor
 ·intro i hi
  have hany : (kvs.any fun kv => kv.1 = k) = true := by
   rw [hi] at hfi
   cases hq : kvs.any fun kv => kv.1 = k with
   | true => rfl
   | false =>
    rw [List.any_eq_false] at hq
    have : (kvs.findIdx? fun kv => decide (kv.1 = k)) = none := List.findIdx?_eq_none_iff.mpr fun x hx => by simpa using hq x hx
    rw [this] at hfi; cases hfi
  have he : epAfter kvs k ep = ep := by unfold epAfter; rw [valueAt_isSome, hany]; rfl
  have hs : stored kvs k v = kvs.map fun kv => if kv.1 = k then (kv.1, v) else kv := by unfold stored; rw [if_pos hany]
  refine rwR he ?_
  refine rwR hs ?_
  refine i8 _ _ (Heap.get?_update_self _ ho (Obj.isFreed_of_dict (Obj.data_mapDict hd _))) (hx.mapDict _) (Obj.data_mapDict hd _) (hk.modify _ _) ?_ ?_
  ·refine rwR Array.toList_modify ?_
   exact hp.modify hn (hta.trans hi) v
  ·rw [keys_map_store]; exact hn
 ·intro hi
  have hany : (kvs.any fun kv => kv.1 = k) = false := by
   rw [hi] at hfi
   rw [List.any_eq_false]
   intro x hx
   have := List.findIdx?_eq_none_iff.mp hfi.symm x hx
   simpa using this
  have he : epAfter kvs k ep = ep + 1 := by unfold epAfter; rw [valueAt_isSome, hany]; rfl
  have hs : stored kvs k v = kvs ++ [(k, v)] := by unfold stored; rw [if_neg (by rw [hany]; exact Bool.false_ne_true)]
  refine rwR he ?_
  refine rwR hs ?_
  refine i8 _ _ (Heap.get?_update_self _ ho (Obj.isFreed_of_dict (Obj.data_mapDictKeys hd _))) (hx.mapDictKeys _) (Obj.data_mapDictKeys hd _) (hk.push hkey _) ?_ ?_
  ·refine rwR Array.toList_push ?_
   exact hp.append hkey _ v
  ·refine rwR List.map_append ?_
   rw [List.nodup_append]
   refine i3 hn (by simp) (fun a ha b hb => ?_)
   simp at hb; subst hb
   refine e3 (List.mem_map.mp ha) fun x hx z1 => ?_
   subst z1
   rw [List.any_eq_false] at hany
   intro e
   exact hany x hx (by simp [e])
theorem dictSet_at {Q : Unit -> Shared -> Prop} (hkey : (strKind prog w).is k key = true) (hm : s.heap.DictAt (strKind prog w) d kvs ep) (hsz : kvs.length <= 5000)
  (hQ : ∀ h', h'.DictAt (strKind prog w) d (stored kvs k v) (epAfter kvs k ep) -> Heap.SameBut d s.heap h' -> Q () { s with heap := h', toks := s.toks + 1 }) :
  wpAny (model prog w) A (dictSet d key v) Q E s := by
 refine e8 hm fun o es ho hc hd hk hp hn => ?_
 have hlen : es.size = kvs.length := by rw [<- hp.length]; simp
 have D := dict_change (v := v) (s := s) ho hc hd hk hp hn hkey s.toks
 unfold dictSet
 try with_reducible refine wpAny_holding ?_
 refine wpAny_bind ((strKind prog w).pyHash hkey ?_)
 unfold dictSetHashed
 try with_reducible refine wpAny_holding ?_
 refine wpAny_bind (wpAny_dictFind_of (s := { s with toks := s.toks + 1 }) hkey ho hd hk ?_)
 cases hi : es.findIdx? fun e => (strKind prog w).is k e.key with
 | some i =>
  exact wpAny_bind (wpAny_rule (wpAny_bind (wpAny_updateDict (s := { s with toks := s.toks + 1 }) ho hd (wpAny_point (hQ _ (D.1 i hi) (Heap.SameBut.update ..))))))
 | none =>
  exact wpAny_bind (wpAny_rule (wpAny_updateDictKeys (hz := by rw [hlen, sizeLine_eq]; lia) (s := { s with toks := s.toks + 1 }) ho hd (hQ _ (D.2 hi) (Heap.SameBut.update ..))))
theorem setItem_at {Q : Unit -> Shared -> Prop} (hkey : (strKind prog w).is k key = true) (hm : s.heap.DictAt (strKind prog w) d kvs ep) (hsz : kvs.length <= 5000)
  (hQ : ∀ h', h'.DictAt (strKind prog w) d (stored kvs k v) (epAfter kvs k ep) -> Heap.SameBut d s.heap h' -> Q () { s with heap := h', toks := s.toks + 1 }) :
  wpAny (model prog w) A (setItem (.ref d) key v) Q E s := by
 have hT := hm.dictOf.mapOf.typeIs
 unfold setItem
 try with_reducible refine wpAny_holding ?_
 refine wpAny_bind (wpAny_sequenceKey hT (by decide) ?_)
 refine wpAny_bind (wpAny_callSpecial?_slot (name := Str.ofString "__setitem__") hT slot_dict_setitem
  (wpAny_call_entry slot_dict_setitem hT entry_dict_setitem ?_ (args_dict_setitem _ _ _)))
 refine (?_ : wpAny _ _ (Builtin.Dict.notOrdered "__setitem__" ⟨[.ref d, key, v], []⟩ >>= _) _ _ s)
 refine wpAny_bind (wpAny_notOrdered_dict hT ?_)
 refine (?_ : wpAny _ _ (dictSet d key v >>= _) _ _ s)
 exact wpAny_bind (dictSet_at hkey hm hsz fun h' hm' hs' => wpAny_pure ⟨.none, rfl, wpAny_pure (hQ h' hm' hs')⟩)
end
section
variable {prog : Program} {w : World} {A : Around} {E : Value -> Shared -> Prop} {s : Shared} {d : Addr} {kvs : List (Str × Value)} {ep : Nat} {k : Str} {key v : Value}
theorem nsSet_at {Q : Unit -> Shared -> Prop} (hm : s.heap.DictAt (strKind prog w) d kvs ep)
  (hQ : ∀ h', h'.DictAt (strKind prog w) d (stored kvs k v) (epAfter kvs k ep) -> Heap.SameBut d s.heap h' -> Q () { s with heap := h', toks := s.toks + 1 }) :
  wpAny (model prog w) A (nsSet d k v) Q E s := by
 refine e8 hm fun o es ho hc hd hk hp hn => ?_
 have hkey : ∀ t, (strKind prog w).is k (.str k t) = true := fun t => by show (k == k) = true; simp
 have hany : es.any (·.refKey) = false := by
  rw [Array.any_eq_false']
  intro e he
  refine e3 (hk e he) fun k' h1 _ => ?_
  refine e2 (Value.isStrOf_shape h1) fun t h2 => ?_
  simp [DictEntry.refKey, h2]
 unfold nsSet strHash
 refine wpAny_bind (wpAny_bind (wpAny_askSetting (wpAny_pure (wpAny_bind (wpAny_mkText (wpAny_bind (wpAny_loadPart (s := { s with toks := s.toks + 1 }) ho ?_)))))))
 rw [hd]
 simp only [aRefKeyMayBeTheName_at, hany, Bool.and_false, Bool.false_eq_true, if_false]
 have D := dict_change (v := v) (s := { s with toks := s.toks + 1 }) ho hc hd hk hp hn (hkey s.toks) 0
 refine wpAny_updatePart (s := { s with toks := s.toks + 1 }) ho (hQ _ ?_ (Heap.SameBut.update ..))
 obtain ⟨c, dd, dt, sl⟩ := o
 simp only at hd
 subst hd
 have hfun : (fun e : DictEntry => e.key.isStr k) = fun e => (strKind prog w).is k e.key := funext fun e => ((strKind prog w).strs k k s.toks e.key (hkey _)).symm
 have same : ∀ f : Obj -> Obj, f ⟨c, dd, .dict es ep, sl⟩ = Obj.putName k (if k.cps.isEmpty = true then 0 else reduceHash (w.params.strHash k.cps)) (.str k s.toks) v ⟨c, dd, .dict es ep, sl⟩ ->
   (s.heap.update d f).DictAt (strKind prog w) d (stored kvs k v) (epAfter kvs k ep) -> (∃ es', f ⟨c, dd, .dict es ep, sl⟩ = ⟨c, dd, .dict es' (epAfter kvs k ep), sl⟩) ->
   (s.heap.update d (Obj.putName k (if k.cps.isEmpty = true then 0 else reduceHash (w.params.strHash k.cps)) (.str k s.toks) v)).DictAt (strKind prog w) d (stored kvs k v) (epAfter kvs k ep) := by
  rintro f hf ⟨o', es', h1, h2⟩ ⟨es₂, hes⟩
  have e1 : (s.heap.update d f).get? d = some (f ⟨c, dd, .dict es ep, sl⟩) := Heap.get?_update_self _ ho (by rw [hes]; rfl)
  obtain rfl := uq e1 h1
  refine ⟨_, es', ?_, h2⟩
  refine rwR (Heap.get?_update_self _ ho (by rw [<- hf, hes]; rfl)) ?_
  exact rwR hf rfl
 cases hi : es.findIdx? (·.key.isStr k) with
 | some i =>
  have hi' : es.findIdx? (fun e => (strKind prog w).is k e.key) = some i := by rw [<- hfun]; exact hi
  refine same _ ?_ (D.1 i hi') ⟨es.modify i fun e => { e with val := v }, ?_⟩
  ·simp only [Obj.putName_eq, Obj.putNameByArray, hi]; rfl
  ·have := D.1 i hi'
   refine e6 this fun o' es' h1 h2 h3 _ => ?_
   obtain rfl := uq (Heap.get?_update_self _ ho rfl) h1
   have h3' : Data.dict (es.modify i fun e => { e with val := v }) ep = Data.dict es' (epAfter kvs k ep) := h3
   injection h3' with h4 h5
   refine rwL h5 ?_
   rfl
 | none =>
  have hi' : es.findIdx? (fun e => (strKind prog w).is k e.key) = none := by rw [<- hfun]; exact hi
  refine same _ ?_ (D.2 hi') ⟨es.push ⟨(strKind prog w).hash k, .str k s.toks, v⟩, ?_⟩
  ·simp only [Obj.putName_eq, Obj.putNameByArray, hi]; rfl
  ·have := D.2 hi'
   refine e6 this fun o' es' h1 h2 h3 _ => ?_
   obtain rfl := uq (Heap.get?_update_self _ ho rfl) h1
   have h3' : Data.dict (es.push ⟨(strKind prog w).hash k, .str k s.toks, v⟩) (ep + 1) = Data.dict es' (epAfter kvs k ep) := h3
   injection h3' with h4 h5
   refine rwL h5 ?_
   rfl
end
variable {Z : List Addr}
theorem KVs.length {xs : List (Str × AV)} (h : KVs Z xs ps) : xs.length = ps.length := by
 induction h with
 | nil => rfl
 | cons _ _ ih => simp [ih]
theorem KVs.get {xs : List (Str × AV)} (h : KVs Z xs ps) (k : Str) : VRo Z (sget k xs) (valueAt ps k) := by
 induction h with
 | nil => rfl
 | @cons j x v xs vs hv _ ih =>
  unfold sget valueAt
  refine rwR (List.find?_cons) ?_
  by_cases q : j = k
  ·subst q; simp; exact ⟨v, rfl, hv⟩
  ·rw [if_neg q]; simp only [q, decide_false]; exact ih
theorem KVs.any {xs : List (Str × AV)} (h : KVs Z xs ps) (k : Str) : (sget k xs).isSome = (valueAt ps k).isSome := by
 have := h.get k
 cases hq : sget k xs with
 | none => rw [hq] at this; have : valueAt ps k = none := this; rw [this]; rfl
 | some v => rw [hq] at this; obtain ⟨y, e, _⟩ := this; rw [e]; rfl
theorem KVs.put {xs : List (Str × AV)} (h : KVs Z xs ps) (hn : (ps.map (·.1)).Nodup) {k : Str} (hv : VR Z x y) : KVs Z (sput k x xs) (stored ps k y) := by
 have key : ∀ {xs : List (Str × AV)} {ps : List (Str × Value)}, KVs Z xs ps -> (ps.map (·.1)).Nodup ->
   ((ps.any fun kv => kv.1 = k) = true -> KVs Z (sput k x xs) (ps.map fun kv => if kv.1 = k then (kv.1, y) else kv)) /\ ((ps.any fun kv => kv.1 = k) = false -> KVs Z (sput k x xs) (ps ++ [(k, y)])) := by
  intro xs ps h
  induction h with
  | nil => exact fun _ => ⟨fun q => by simp at q, fun _ => .cons hv .nil⟩
  | @cons j a v xs vs ha hr ih =>
   intro hn
   rw [List.map_cons, List.nodup_cons] at hn
   by_cases q : j = k
   ·subst q
    refine ⟨fun _ => ?_, fun q => by simp at q⟩
    unfold sput
    refine rwR (if_pos rfl) ?_
    refine rwR List.map_cons ?_
    refine rwR (if_pos rfl) ?_
    refine rwR (map_store_of_not_mem _ _ _ hn.1) ?_
    exact .cons hv hr
   ·unfold sput
    refine rwR (if_neg q) ?_
    refine e2 (ih hn.2) fun i1 i2 => ?_
    refine ⟨fun e => ?_, fun e => ?_⟩
    ·refine rwR List.map_cons ?_
     refine rwR (if_neg q) ?_
     exact .cons ha (i1 (by simpa [q] using e))
    ·exact .cons ha (i2 (by simpa [q] using e))
 unfold stored
 cases hq : ps.any fun kv => kv.1 = k with
 | true => rw [if_pos rfl]; exact (key h hn).1 hq
 | false => rw [if_neg Bool.false_ne_true]; exact (key h hn).2 hq
end
section
open PySem.W
variable {X : Fx} {Z Z' : List Addr} {V V' : Sg} {s s' : Shared} {A : Around} {E : AE} {env : Env}
theorem stored_nodup (hn : (ps.map (·.1)).Nodup) (k : Str) (y : Value) : ((stored ps k y).map (·.1)).Nodup := by
 unfold stored
 split
 ·rw [keys_map_store]; exact hn
 ·rename_i h
  refine rwR List.map_append ?_
  rw [List.nodup_append]
  refine i3 hn (by simp) (fun a ha b hb => ?_)
  simp at hb; subst hb
  refine e3 (List.mem_map.mp ha) fun x hx z2 => ?_
  subst z2
  intro e
  exact h (List.any_eq_true.mpr ⟨x, hx, by simp [e]⟩)
theorem dict_set1 (r : R X Z V s) {j : Nat} {d : Addr} {m : List (Str × AV) × Option Nat} {k : Str} (hj : nTop <= j) (hd : Z[j]? = some d) (hs : V[j]? = some (.dict m.1 m.2)) (hv : VR Z v y) {e : Nat}
  (hkv : KVs Z m.1 ps) (hn : (ps.map (·.1)).Nodup) (he : ∀ n, m.2 = some n -> e = n) {h' : Heap} (hd' : h'.DictAt (strKind X.prog X.w) d (stored ps k y) (epAfter ps k e)) (hb : Heap.SameBut d s.heap h') (t : Nat) :
  R X Z (V.set j (.dict (dput k v m).1 (dput k v m).2)) { s with heap := h', toks := t } := by
 obtain ⟨d', e1, ps', e', hD, _, _⟩ := r.addr hs
 obtain rfl := uq hd e1
 refine R.set1 r hj hd (butOf hb) (fun x hx => ?_) rfl rfl ⟨_, _, hd', hkv.put hn hv, fun n hq => ?_⟩ (let ⟨o, _, h, _⟩ := hd'; ⟨o, h⟩)
 ·refine e6 hD fun o es ho _ hdat _ => ?_
  obtain rfl := uq ho hx
  intro y50
  refine e5 y50 fun vs q t e _ => ?_
  have e := hdat.symm.trans e
  contradiction
 ·simp only [dput] at hq
  unfold epAfter
  refine rwL (hkv.any k) ?_
  split at hq
  ·rename_i w; rw [if_pos w]; exact he n hq
  ·rename_i w
   refine rwR (if_neg w) ?_
   cases hm : m.2 with
   | none => rw [hm] at hq; cases hq
   | some z => rw [hm] at hq; cases hq; rw [he z hm]
theorem set_self {j : Nat} {o : AO} (h : V[j]? = some o) : V.set j o = V := (List.getElem?_eq_some_iff.mp h).elim fun hl e => e ▸ List.set_getElem_self hl
theorem extra_loop {d : Addr} (hk : BRs Z kw kvs) (f : Str × Value -> PUnit -> Sem (ForInStep PUnit)) (hf : ∀ x u, f x u = (do nsSet d x.1 x.2; pure (.yield ⟨⟩))) : ∀ {V : Sg} {s : Shared} {m : List (Str × AV) × Option Nat} {j : Nat},
  R X Z V s -> nTop <= j -> Z[j]? = some d -> V[j]? = some (.dict m.1 m.2) ->
  W X A (forIn kvs ⟨⟩ f) (fun _ s' => R X Z (V.set j (.dict (dputs (kw.map fun k => (nm k.1, k.2)) m).1 (dputs (kw.map fun k => (nm k.1, k.2)) m).2)) s') s := by
 induction hk with
 | nil =>
  intro V s m j r hj hd hs
  refine rwR List.forIn_nil ?_
  exact wpAny_pure (rwR (set_self hs) r : R X Z (V.set j (.dict m.1 m.2)) s)
 | @cons k x y _ _ hv hr ih =>
  intro V s m j r hj hd hs
  rw [List.forIn_cons, hf]
  refine (r.addr hs).elim fun d' z => z.2.elim fun ps z2 => z2.elim fun e z3 => ?_
  obtain rfl := uq hd z.1
  refine wpAny_bind (wpAny_bind (nsSet_at z3.1 fun h' hd' hb => wpAny_pure ?_))
  refine W.mono (ih (m := dput (nm k) x m) (dict_set1 (k := nm k) (v := x) r hj hd hs hv z3.2.1 z3.1.nodup z3.2.2 hd' hb (s.toks + 1)) hj hd (List.getElem?_set_self (List.getElem?_eq_some_iff.mp hs).1)) fun _ s₂ r₂ => ?_
  rw [List.set_set] at r₂
  exact r₂
theorem nmeq (i j : Nat) : (nm i == nm j) = (i == j) := by
 by_cases h : i = j
 ·subst h; simp
 ·refine rwR (beq_eq_false_iff_ne.mpr h) ?_
  exact beq_eq_false_iff_ne.mpr fun e => h (nm_inj e)
theorem kw_loop {normal : List Str} {g : (Str × Value) -> List (Str × Value) × List (Str × Value) -> Sem (ForInStep (List (Str × Value) × List (Str × Value)))}
  (hg : ∀ x b, normal.contains x.1 = false -> g x b = pure (.yield (b.1, b.2 ++ [(x.1, x.2)]))) : ∀ (kvs : List (Str × Value)) (b : List (Str × Value) × List (Str × Value)), (∀ x ∈ kvs, normal.contains x.1 = false) ->
  (forIn kvs b g : Sem _) = pure (b.1, b.2 ++ kvs)
 | [], b, _ => by rw [List.forIn_nil]; simp
 | x :: r, b, h => by
  rw [List.forIn_cons, hg x b (h x List.mem_cons_self), pure_bind]
  refine (?_ : forIn r (b.1, b.2 ++ [(x.1, x.2)]) g = _)
  rw [kw_loop hg r _ fun y hy => h y (List.mem_cons_of_mem _ hy)]
  simp
theorem len2 {α : Type} {l : List α} (h : l.length = 2) : ∃ a b, l = [a, b] := by
 refine e3 (List.exists_cons_of_length_eq_add_one h) fun a l z3 => ?_
 subst z3
 refine e3 (List.exists_cons_of_length_eq_add_one (Nat.succ.inj h)) fun b l z4 => ?_
 subst z4
 exact i3 a b (by rw [List.length_eq_zero_iff.mp (Nat.succ.inj (Nat.succ.inj h))])
theorem len3 {α : Type} {l : List α} (h : l.length = 3) : ∃ a b c, l = [a, b, c] := by
 refine e3 (List.exists_cons_of_length_eq_add_one h) fun a l z5 => ?_
 subst z5
 refine e3 (len2 (Nat.succ.inj h)) fun b c e => ?_
 exact i4 a b c (by rw [e])
theorem VRs.uncons (h : VRs Z (x :: xs) vs) (k : ∀ v ws, vs = v :: ws -> VR Z x v -> VRs Z xs ws -> G) : G := by
 cases h with
 | cons a b => exact k _ _ rfl a b
theorem VRs.unnil (h : VRs Z [] vs) : vs = [] := by cases h; rfl
theorem bind_sub2 {w : World} {fd : FuncData} {x1 x2 x3 x4 y1 y2 y3 y4 kd df} {v1 v2 : Value} {ta d0 : Addr} {to : Obj} {n0 : Nat} {Q : List (Str × Value) -> Shared -> Prop} {E : Value -> Shared -> Prop} {s : Shared}
  (hp : fd.params = ⟨[], [⟨nm 18, x1, y1⟩, ⟨nm 19, x2, y2⟩, ⟨nm 20, x3, y3⟩], none, [], kd, some ⟨nm 21, x4, y4⟩, df⟩) (hd : fd.defaults = .ref ta) (ht : s.heap.get? ta = some to) (t3 : to.data = .seq #[.ref d0] n0)
  (hall : ∀ z ∈ kvs, ([nm 18, nm 19, nm 20] : List Str).contains z.1 = false) (hsz : kvs.length <= 10)
  (fin : wpAny (model prog w) A (do
      let d <- alloc { cls := .type "dict", data := .dict #[] }
      for x in kvs do nsSet d x.1 x.2
      pure [(nm 18, v1), (nm 19, v2), (nm 20, .ref d0), (nm 21, Value.ref d)]) Q E s) : wpAny (model prog w) A (bindArgs fd ⟨[v1, v2], kvs⟩) Q E s := by
 unfold bindArgs
 refine rwR hp ?_
 refine rwR hd ?_
 refine wpAny_bind (wpAny_of_eq (kw_loop (normal := [nm 18, nm 19, nm 20]) (fun z b hz => ?_) kvs _ hall) ?_)
 ·exact (if_neg (fun e => Bool.false_ne_true (((Bool.or_false _).trans hz).symm.trans e))).trans rfl
 refine wpAny_bind (m := seqItems? (.ref ta)) (wpAny_bind (wpAny_load ht ?_))
 refine rwR t3 ?_
 refine wpAny_pure ?_
 have hc : ¬ kvs.length > sizeLine + 1 := by rw [sizeLine_eq]; lia
 refine (congrArg (fun t => wpAny (model prog w) A t Q E s) (?_ : _ = if kvs.length > sizeLine + 1 then (unsupported "dict:memory" : Sem PUnit) >>= (fun _ => (do
      let d <- alloc { cls := .type "dict", data := .dict #[] }
      for x in kvs do nsSet d x.1 x.2
      pure [(nm 18, v1), (nm 19, v2), (nm 20, .ref d0), (nm 21, Value.ref d)])) else (do
      let d <- alloc { cls := .type "dict", data := .dict #[] }
      for x in kvs do nsSet d x.1 x.2
      pure [(nm 18, v1), (nm 19, v2), (nm 20, .ref d0), (nm 21, Value.ref d)]))).mpr ?_
 ·kernel_rfl
 ·refine rwR (if_neg hc) ?_
  exact fin
theorem bind_sub3 {w : World} {fd : FuncData} {x1 x2 x3 x4 y1 y2 y3 y4 kd df} {v1 v2 v3 : Value} {ta d0 : Addr} {to : Obj} {n0 : Nat} {Q : List (Str × Value) -> Shared -> Prop} {E : Value -> Shared -> Prop} {s : Shared}
  (hp : fd.params = ⟨[], [⟨nm 18, x1, y1⟩, ⟨nm 19, x2, y2⟩, ⟨nm 20, x3, y3⟩], none, [], kd, some ⟨nm 21, x4, y4⟩, df⟩) (hd : fd.defaults = .ref ta) (ht : s.heap.get? ta = some to) (t3 : to.data = .seq #[.ref d0] n0)
  (hall : ∀ z ∈ kvs, ([nm 18, nm 19, nm 20] : List Str).contains z.1 = false) (hsz : kvs.length <= 10)
  (fin : wpAny (model prog w) A (do
      let d <- alloc { cls := .type "dict", data := .dict #[] }
      for x in kvs do nsSet d x.1 x.2
      pure [(nm 18, v1), (nm 19, v2), (nm 20, v3), (nm 21, Value.ref d)]) Q E s) : wpAny (model prog w) A (bindArgs fd ⟨[v1, v2, v3], kvs⟩) Q E s := by
 unfold bindArgs
 refine rwR hp ?_
 refine rwR hd ?_
 refine wpAny_bind (wpAny_of_eq (kw_loop (normal := [nm 18, nm 19, nm 20]) (fun z b hz => ?_) kvs _ hall) ?_)
 ·exact (if_neg (fun e => Bool.false_ne_true (((Bool.or_false _).trans hz).symm.trans e))).trans rfl
 refine wpAny_bind (m := seqItems? (.ref ta)) (wpAny_bind (wpAny_load ht ?_))
 refine rwR t3 ?_
 refine wpAny_pure ?_
 have hc : ¬ kvs.length > sizeLine + 1 := by rw [sizeLine_eq]; lia
 refine (congrArg (fun t => wpAny (model prog w) A t Q E s) (?_ : _ = if kvs.length > sizeLine + 1 then (unsupported "dict:memory" : Sem PUnit) >>= (fun _ => (do
      let d <- alloc { cls := .type "dict", data := .dict #[] }
      for x in kvs do nsSet d x.1 x.2
      pure [(nm 18, v1), (nm 19, v2), (nm 20, v3), (nm 21, Value.ref d)])) else (do
      let d <- alloc { cls := .type "dict", data := .dict #[] }
      for x in kvs do nsSet d x.1 x.2
      pure [(nm 18, v1), (nm 19, v2), (nm 20, v3), (nm 21, Value.ref d)]))).mpr ?_
 ·kernel_rfl
 ·refine rwR (if_neg hc) ?_
  exact fin
theorem arguments_eta (a : Arguments) : a = ⟨a.posonlyargs, a.args, a.vararg, a.kwonlyargs, a.kw_defaults, a.kwarg, a.defaults⟩ := Arguments.casesOn a fun _ _ _ _ _ _ _ => rfl
theorem arg_eta {a : PySem.Arg} {x : Str} (h : a.arg = x) : a = ⟨x, a.annotation, a.pos⟩ := h ▸ PySem.Arg.casesOn a fun _ _ _ => rfl
theorem args_shape {a : Arguments} (h1 : a.posonlyargs = []) (h2 : a.args.map (·.arg) = [nm 18, nm 19, nm 20]) (h3 : a.vararg = none) (h4 : a.kwonlyargs = []) (h5 : a.kwarg.map (·.arg) = some (nm 21))
  (K : ∀ x1 y1 x2 y2 x3 y3 x4 y4 kd df, a = ⟨[], [⟨nm 18, x1, y1⟩, ⟨nm 19, x2, y2⟩, ⟨nm 20, x3, y3⟩], none, [], kd, some ⟨nm 21, x4, y4⟩, df⟩ -> G) : G := by
 refine (Option.map_eq_some_iff.mp h5).elim fun w hw => e5 (List.map_eq_cons_iff.mp h2) fun a1 m1 q1 r1 g1 => e5 (List.map_eq_cons_iff.mp g1) fun a2 m2 q2 r2 g2 => e5 (List.map_eq_cons_iff.mp g2) fun a3 m3 q3 r3 g3 => ?_
 refine K a1.annotation a1.pos a2.annotation a2.pos a3.annotation a3.pos w.annotation w.pos a.kw_defaults a.defaults ?_
 have hl : a.args = [a1, a2, a3] := q1.trans (congrArg _ (q2.trans (congrArg _ (q3.trans (congrArg _ (List.map_eq_nil_iff.mp g3))))))
 refine (arguments_eta a).trans ?_
 refine rwR h1 ?_
 refine rwR hl ?_
 refine rwR h3 ?_
 refine rwR h4 ?_
 refine rwR hw.1 ?_
 refine rwL (arg_eta r1) ?_
 refine rwL (arg_eta r2) ?_
 refine rwL (arg_eta r3) ?_
 exact rwL (arg_eta hw.2) rfl
theorem bindsA_none (hk : f.kwp = none) (h : bindsA f args kw V = some (bs, V')) : kw = [] /\ f.dfl = false /\ args.length = f.ps.length /\ (f.ps.map (·.1)).Nodup /\ bs = (f.ps.map (·.1)).zip args /\ V' = V := by
 unfold bindsA at h
 rw [hk] at h
 refine iteS h fun q h => ?_
 simp only [Bool.and_eq_true, Bool.not_eq_true', beq_iff_eq, decide_eq_true_eq, List.isEmpty_iff] at q
 refine e2 (pairI h) fun e1 e2 => ?_
 exact i6 q.1.1.1 q.1.1.2 q.1.2 q.2 e1.symm e2.symm
noncomputable def kwO (kw : List (Nat × AV)) : AO := .dict (dputs (kw.map fun k => (nm k.1, k.2)) ([], some 0)).1 (dputs (kw.map fun k => (nm k.1, k.2)) ([], some 0)).2
theorem bindsA_some {x : Nat × Pos} (hk : f.kwp = some x) (h : bindsA f args kw V = some (bs, V')) : (x.1 = 21 /\ f.dfl = true /\ f.ps.map (·.1) = [18, 19, 20]) /\ (kw.all (fun k => !([18, 19, 20].contains k.1)) = true /\ kw.length <= 10) /\ (args.length = 2 \/ args.length = 3) /\
  bs = [18, 19, 20].zip (args ++ [.ref 19]) ++ [(21, .ref V.length)] /\ V' = V ++ [kwO kw] := by
 unfold bindsA at h
 rw [hk] at h
 refine iteS h fun q h => ?_
 simp only [Bool.and_eq_true, beq_iff_eq, decide_eq_true_eq, Bool.or_eq_true] at q
 refine e2 (pairI h) fun e1 e2 => ?_
 exact i5 (⟨q.1.1.1.1.1, q.1.1.1.1.2, q.1.1.1.2⟩) (⟨q.1.1.2, q.1.2⟩) q.2 e1.symm e2.symm
theorem kw_none (hk : BRs Z kw kvs) (h : kw.all (fun k => !([18, 19, 20].contains k.1)) = true) : ∀ z ∈ kvs, ([nm 18, nm 19, nm 20] : List Str).contains z.1 = false := by
 induction hk with
 | nil => intro z hz; exact nomatch hz
 | cons _ _ ih =>
  rw [List.all_cons, Bool.and_eq_true] at h
  intro z hz
  rcases List.mem_cons.mp hz with rfl | hz
  ·have := h.1
   simp only [List.contains_cons, List.contains_nil, Bool.or_false, Bool.not_eq_true'] at this ⊢
   simp only [nmeq]; exact this
  ·exact ih h.2 z hz
theorem BRs.length (hk : BRs Z kw kvs) : kw.length = kvs.length := by
 induction hk with
 | nil => rfl
 | cons _ _ ih => exact congrArg Nat.succ ih
theorem extra_fin (K : Ok X) (r : R X Z V s) {bvs : List (Str × Value)} (hk : BRs Z kw kvs) (hb : BRs Z bs bvs) {Q : List (Str × Value) -> Shared -> Prop}
  (hQ : ∀ Z' s' d, Z <+: Z' -> R X Z' (V ++ [kwO kw]) s' -> BRs Z' (bs ++ [(21, .ref V.length)]) (bvs ++ [(nm 21, .ref d)]) -> Q (bvs ++ [(nm 21, .ref d)]) s') :
  W X A (do
   let d <- alloc { cls := .type "dict", data := .dict #[] }
   for x in kvs do nsSet d x.1 x.2
   pure (bvs ++ [(nm 21, Value.ref d)])) Q s := by
 refine wpAny_bind (wpAny_alloc ?_)
 have hpre : Z <+: Z ++ [s.heap.objs.size] := List.prefix_append ..
 have r₁ : R X (Z ++ [s.heap.objs.size]) (V ++ [.dict [] (some 0)]) { s with heap := s.heap.push { cls := .type "dict", data := .dict #[] } } :=
  R.new1 r (fun b o e => Heap.get?_push_of_some _ e) (Heap.get?_none_of_le (Nat.le_refl _)) ⟨_, Heap.get?_push_size _ rfl⟩ rfl rfl
   ⟨[], 0, ⟨_, #[], Heap.get?_push_size _ rfl, ⟨rfl, rfl, rfl⟩, rfl, (fun _ he => by simp at he), Pairs.nil, List.nodup_nil⟩, .nil, fun n hn => Option.some.inj hn⟩
 have hlast : (Z ++ [s.heap.objs.size])[V.length]? = some s.heap.objs.size := by rw [<- r.len]; exact List.getElem?_concat_length
 have htop : nTop <= V.length := by rw [<- r.len, <- K.top]; exact r.pre.length_le
 refine wpAny_bind (W.mono (extra_loop (hk.mono hpre) _ (fun _ _ => rfl) (m := ([], some 0)) r₁ htop hlast List.getElem?_concat_length) fun _ s₂ r₂ => wpAny_pure (hQ _ _ _ hpre ?_ ((hb.mono hpre).append (.cons ⟨_, hlast, rfl⟩ .nil))))
 rw [List.set_append_right _ _ (Nat.le_refl _), Nat.sub_self] at r₂
 exact r₂
theorem binds_extra (K : Ok X) {fd : FuncData} {x : Nat × Pos} (hx : f.kwp = some x) (h : bindsA f args kw V = some (bs, V')) (r : R X Z V s) (hf : FR X Z f cl fd) (ha : VRs Z args vs) (hk : BRs Z kw kvs) :
  W X A (bindArgs fd ⟨vs, kvs⟩) (fun binds s' => ∃ Z', Z <+: Z' /\ R X Z' V' s' /\ BRs Z' bs binds) s := by
 refine e5 (bindsA_some hx h) fun z63 z64 q6 z65 z66 => ?_
 subst z65
 subst z66
 refine e6 hf.ok fun ok1 ok2 ok3 ok4 ok5 _ => ?_
 rw [hx] at ok5
 refine args_shape ok1 (ok2.trans ((List.map_map (g := nm) (f := fun x : Nat × Pos => x.1)).symm.trans (congrArg (List.map nm) z63.2.2))) ok3 ok4 (ok5.trans (congrArg (fun k => some (nm k)) z63.1)) fun x1 y1 x2 y2 x3 y3 x4 y4 kd df hp => ?_
 refine e8 K.tD fun ta to d0 n0 t1 t2 t3 t4 => ?_
 have hd : fd.defaults = .ref ta := hf.dfl.trans ((if_pos z63.2.1).trans t1)
 have ht := r.base K _ _ t2
 have hl : kvs.length <= 10 := hk.length ▸ z64.2
 have hp := hf.params.trans hp
 have hn := kw_none hk z64.1
 have h0 : VR Z (.ref 19) (.ref d0) := ⟨d0, get_prefix r.pre t4, rfl⟩
 refine q6.elim (fun q6 => e3 (len2 q6) fun a1 a2 z67 => ?_) fun q6 => e4 (len3 q6) fun a1 a2 a3 z70 => ?_
 ·subst z67
  refine VRs.uncons ha fun v1 _ z h1 ha => VRs.uncons ha fun v2 _ z2 h2 ha => ?_
  obtain rfl := VRs.unnil ha
  subst z2
  subst z
  exact bind_sub2 hp hd ht t3 hn hl (extra_fin (bs := [(18, a1), (19, a2), (20, .ref 19)]) (bvs := [(nm 18, v1), (nm 19, v2), (nm 20, .ref d0)]) K r hk (.cons h1 (.cons h2 (.cons h0 .nil))) fun Z' s' d p r b => ⟨Z', p, r, b⟩)
 ·subst z70
  refine VRs.uncons ha fun v1 _ z h1 ha => VRs.uncons ha fun v2 _ z2 h2 ha => VRs.uncons ha fun v3 _ z3 h3 ha => ?_
  obtain rfl := VRs.unnil ha
  subst z3
  subst z2
  subst z
  exact bind_sub3 hp hd ht t3 hn hl (extra_fin (bs := [(18, a1), (19, a2), (20, a3)]) (bvs := [(nm 18, v1), (nm 19, v2), (nm 20, v3)]) K r hk (.cons h1 (.cons h2 (.cons h3 .nil))) fun Z' s' d p r b => ⟨Z', p, r, b⟩)
theorem binds_none {fd : FuncData} (hkwp : f.kwp = none) (h : bindsA f args kw V = some (bs, V')) (r : R X Z V s) (hf : FR X Z f cl fd) (ha : VRs Z args vs) (hk : BRs Z kw kvs) :
  W X A (bindArgs fd ⟨vs, kvs⟩) (fun binds s' => ∃ Z', Z <+: Z' /\ R X Z' V' s' /\ BRs Z' bs binds) s := by
 refine e6 (bindsA_none hkwp h) fun z74 q2 q3 q4 z75 z76 => ?_
 subst z74
 subst z75
 subst z76
 refine e6 hf.ok fun ok1 ok2 ok3 ok4 ok5 _ => ?_
 rw [hkwp] at ok5
 have hl : args.length = (f.ps.map (·.1)).length := q3.trans (List.length_map _).symm
 have e := bind_plain (fd := fd) (vs := vs) ((f.ps.map (·.1)).map nm) (hf.params ▸ ok1) (hf.params ▸ ok4) (hf.params ▸ ok3) (hf.params ▸ Option.map_eq_none_iff.mp ok5)
  (by rw [hf.params, ok2, List.map_map]; rfl) (List.pairwise_map.mpr (List.Pairwise.imp (fun h e => h (nm_inj e)) q4)) (by rw [hf.dfl, q2]; rfl) (by rw [<- ha.length, List.length_map, hl])
 rw [show kvs = [] from by cases hk; rfl, e]
 exact wpAny_pure ⟨Z, List.prefix_refl _, r, BRs.zip ha hl⟩
theorem binds_ok (K : Ok X) : BindsOk X := fun {_ _ _ _ _ f _ _ _ _ _ _ _} h r hf ha hk =>
 match e : f.kwp with
 | none => binds_none e h r hf ha hk
 | some _ => binds_extra K e h r hf ha hk
end
section
open PySem.W
variable {X : Fx} {Z Z' : List Addr} {V V' : Sg} {s s' : Shared} {A : Around} {E : AE} {env : Env}
theorem starEach_py : ∀ (es : List Ex) (env : Env), starEach (pyL es) env = es.map fun e => (false, eval e.py env)
 | [], _ => rfl
 | e :: r, env => by
  have ih := starEach_py r env
  have : starEach (pyL (e :: r)) env = (false, eval e.py env) :: starEach (pyL r) env := by
   cases e <;> rfl
  rw [this, ih]; rfl
theorem evs_some {vs : List AV} (h : evs r E (e :: es) V = some (vs, V')) : ∃ v V₁ ws, r.ev E e V = some (v, V₁) /\ evs r E es V₁ = some (ws, V') /\ vs = v :: ws := by
 refine bindP h fun v V₁ h1 h => ?_
 refine bindP h fun ws V₂ h2 h => ?_
 refine someP h ?_
 exact i6 v V₁ ws h1 h2 rfl
theorem spliced_sound (S : Sd X r n) (hm : Room A n) : ∀ (es : List Ex) {Z : List Addr} {V V' : Sg} {s : Shared} {vs : List AV} (f : Ex -> Sem Value) (_ : ∀ e Z V s V' v, R X Z V s -> EnvR X Z E env -> r.ev E e V = some (v, V') -> W X A (f e) (Post X Z V' v) s),
  evs r E es V = some (vs, V') -> R X Z V s -> EnvR X Z E env -> W X A (spliced (es.map fun e => (false, f e))) (PostS X Z V' vs) s
 | [], Z, V, V', s, vs, f, hf, h, hR, e => by
  refine someP h ?_
  exact spliced_nil ⟨Z, List.prefix_refl _, hR, .nil⟩
 | e :: es, Z, V, V', s, vs, f, hf, h, hR, he => by
  refine e6 (evs_some h) fun v V₁ ws h1 h2 z367 => ?_
  subst z367
  refine spliced_cons (W.mono (hf e Z V s V₁ v hR he h1) fun y s₁ hp => ?_)
  refine postE hp fun Z₁ p₁ r₁ v₁ => ?_
  refine W.mono (spliced_sound S hm es f hf h2 r₁ (he.mono p₁)) fun ys s₂ hp => ?_
  refine postSE hp fun Z₂ p₂ r₂ v₂ => ?_
  exact ⟨Z₂, p₁.trans p₂, r₂, .cons (v₁.mono p₂) v₂⟩
theorem evalAll_sound : ∀ (es : List Ex) {Z : List Addr} {V V' : Sg} {s : Shared} {vs : List AV} (f : Ex -> Sem Value) (_ : ∀ e Z V s V' v, R X Z V s -> EnvR X Z E env -> r.ev E e V = some (v, V') -> W X A (f e) (Post X Z V' v) s),
  evs r E es V = some (vs, V') -> R X Z V s -> EnvR X Z E env -> W X A (evalAll (es.map f)) (PostS X Z V' vs) s
 | [], Z, V, V', s, vs, f, hf, h, hR, e => by
  refine someP h ?_
  exact wpAny_pure ⟨Z, List.prefix_refl _, hR, .nil⟩
 | e :: es, Z, V, V', s, vs, f, hf, h, hR, he => by
  refine e6 (evs_some h) fun v V₁ ws h1 h2 z368 => ?_
  subst z368
  rw [List.map_cons, evalAll]
  refine wpAny_bind (W.mono (hf e Z V s V₁ v hR he h1) fun y s₁ hp => ?_)
  refine postE hp fun Z₁ p₁ r₁ v₁ => ?_
  refine wpAny_bind (wpAny_holding (W.mono (evalAll_sound es f hf h2 r₁ (he.mono p₁)) fun ys s₂ hp => wpAny_pure ?_))
  refine postSE hp fun Z₂ p₂ r₂ v₂ => ?_
  exact ⟨Z₂, p₁.trans p₂, r₂, .cons (v₁.mono p₂) v₂⟩
theorem back_map (pos : Pos) (es : List Ex) (env : Env) : backTo pos (es.map fun e => (false, eval e.py env)) = es.map fun e => (false, eval e.py env) := by
 unfold backTo
 refine rwR List.map_map ?_
 exact List.map_congr_left fun _ _ => rfl
noncomputable def kwsOf (kwn : List (Nat × Pos)) (es : List Expr) : List Keyword := (kwn.zip es).map fun x => { arg := some (nm x.1.1), value := x.2, pos := x.1.2 }
noncomputable def kwTrees (kwn : List (Nat × Pos)) (kwe : List Ex) (env : Env) (pos : Pos) : List (Option Str × Sem Value) := (kwn.zip kwe).map fun x => (some (nm x.1.1), do let v <- eval x.2.py env; standAt pos; pure v)
theorem kwEach (env : Env) (pos : Pos) : ∀ (kwn : List (Nat × Pos)) (kwe : List Ex), backToKw pos (keywordEach (kwsOf kwn (pyL kwe)) env) = kwTrees kwn kwe env pos := by
 intro kwn
 induction kwn with
 | nil => intro kwe; show backToKw pos (keywordEach [] env) = []; rw [arm_keywordEach_nil]; rfl
 | cons k kwn ih =>
  intro kwe
  cases kwe with
  | nil => show backToKw pos (keywordEach [] env) = []; rw [arm_keywordEach_nil]; rfl
  | cons e kwe =>
   have ih := ih kwe
   have h2 : kwsOf (k :: kwn) (pyL (e :: kwe)) = { arg := some (nm k.1), value := e.py, pos := k.2 } :: kwsOf kwn (pyL kwe) := by
    unfold kwsOf; rw [pyL, List.zip_cons_cons, List.map_cons]
   rw [h2, arm_keywordEach_cons]
   unfold backToKw at ih ⊢
   rw [List.map_cons, ih]
   unfold kwTrees
   refine rwR List.zip_cons_cons ?_
   exact rwR List.map_cons rfl
theorem zip_brs (h : VRs Z xs vs) (hl : kwn.length = xs.length) : BRs Z ((kwn.map (·.1)).zip xs) ((kwn.map fun x => nm x.1).zip vs) := by
 induction h generalizing kwn with
 | nil => cases kwn with
  | nil => exact .nil
  | cons _ _ => simp at hl
 | cons a _ ih => cases kwn with
  | nil => simp at hl
  | cons k r => exact .cons a (ih (by simpa using hl))
theorem keeper_sound (K : Ok X) (hR : R X Z V s) {f : AV} (hc : Callable f V) (hv : VR Z f fv) :
  ∃ k, (k = Keeper.frame \/ k = Keeper.machine \/ k = Keeper.boundFrame) /\ Looks (model X.prog X.w) s.heap (keeperOf fv) k := by
 rcases hc with ⟨b, rfl⟩ | ⟨j, rfl, hj⟩
 ·subst hv
  refine i3 .machine (.inr (.inl rfl)) ?_
  rcases b <;> exact .now
 ·refine e3 hv fun a ha z369 => ?_
  clear hv
  subst z369
  rcases hj with ⟨fi, cl, at_, hj⟩ | hj | ⟨h5, h8⟩
  ·obtain ⟨a', ha', fd, od, ho, _⟩ := hR.addr hj
   obtain rfl := uq ha ha'
   exact i3 .frame (.inl rfl) ((Looks.ld (part := none) ho).andThen .now)
  ·refine e3 (hR.addr hj) fun a' ha' hw => ?_
   obtain rfl := uq ha ha'
   have hw : a = X.ws := hw
   subst hw
   refine e3 (looks_keep (M := model X.prog X.w) K.clsS.2.2.2 (fun b o e => hR.base K b o (K.frag b o e))) fun k h1 h2 => ?_
   exact i3 k (h1.elim .inl fun e => .inr (.inl e)) h2
  ·refine e5 (K.orcF j h5 h8) fun a' od fd h1 h2 => ?_
   have h1 := get_prefix hR.pre h1
   obtain rfl := uq ha h1
   exact i3 .frame (.inl rfl) ((Looks.ld (part := none) (hR.base K _ _ h2)).andThen .now)
theorem evs_len : ∀ {es : List Ex} {V V' : Sg} {vs : List AV}, evs r E es V = some (vs, V') -> vs.length = es.length
 | [], _, _, _, h => by cases h; rfl
 | e :: es, _, _, _, h => by
  refine e6 (evs_some h) fun v V₁ ws h1 h2 z370 => ?_
  subst z370
  simp [evs_len h2]
theorem kwTrees_fst (env : Env) (pos : Pos) : ∀ (kwn : List (Nat × Pos)) (kwe : List Ex), kwn.length = kwe.length -> (kwTrees kwn kwe env pos).filterMap (·.1) = kwn.map fun x => nm x.1
 | [], [], _ => rfl
 | k :: kwn, e :: kwe, h => by
  have := kwTrees_fst env pos kwn kwe (by simpa using h)
  unfold kwTrees at this ⊢
  rw [List.zip_cons_cons, List.map_cons, List.filterMap_cons, this]; rfl
theorem kwTrees_snd (env : Env) (pos : Pos) : ∀ (kwn : List (Nat × Pos)) (kwe : List Ex), kwn.length = kwe.length -> (kwTrees kwn kwe env pos).map (·.2) = kwe.map fun e => do let v <- eval e.py env; standAt pos; pure v
 | [], [], _ => rfl
 | k :: kwn, e :: kwe, h => by
  have := kwTrees_snd env pos kwn kwe (by simpa using h)
  unfold kwTrees at this ⊢
  rw [List.zip_cons_cons, List.map_cons, List.map_cons, this]; rfl
theorem kwTrees_all (env : Env) (pos : Pos) (kwn : List (Nat × Pos)) (kwe : List Ex) : (kwTrees kwn kwe env pos).all (·.1.isSome) = true := by
 unfold kwTrees
 refine rwR List.all_map ?_
 exact List.all_eq_true.mpr fun _ _ => rfl
theorem kwTrees_any (env : Env) (pos : Pos) (kwn : List (Nat × Pos)) (kwe : List Ex) : (kwTrees kwn kwe env pos).any (·.1.isNone) = false := by
 unfold kwTrees
 refine rwR List.any_map ?_
 exact List.any_eq_false.mpr fun _ _ => by simp
theorem evalArgs_sound (S : Sd X r n) (hm : Room A n) {args : List Ex} {vs ks : List AV} (h1 : evs r E args V = some (vs, V₁)) (h2 : evs r E kwe V₁ = some (ks, V₂)) (hl : kwn.length = kwe.length)
  (hR : R X Z V s) (he : EnvR X Z E env) :
  W X A (evalArgs fv true (args.map fun e => (false, eval e.py env)) (kwTrees kwn kwe env pos)) (fun a s' => ∃ Z', Z <+: Z' /\ R X Z' V₂ s' /\ VRs Z' vs a.pos /\ BRs Z' ((kwn.map (·.1)).zip ks) a.kw) s := by
 have first : W X A (spliced (args.map fun e => (false, eval e.py env))) (PostS X Z V₁ vs) s := spliced_sound S hm args (fun e => eval e.py env) (fun e Z V s V' v r₁ e₁ h => S.ev h r₁ e₁ hm) h1 hR he
 have fin : ∀ ys s₁, PostS X Z V₁ vs ys s₁ ->
   wpAny (model X.prog X.w) A (evalAll (kwe.map fun e => do let v <- eval e.py env; standAt pos; pure v)) (fun zs s' => ∃ Z', Z <+: Z' /\ R X Z' V₂ s' /\ VRs Z' vs ys /\ BRs Z' ((kwn.map (·.1)).zip ks) ((kwn.map fun x => nm x.1).zip zs)) (fun _ _ => False) s₁ := by
  intro ys s₁ y78
  refine e4 y78 fun Z₁ p₁ r₁ v₁ => ?_
  clear y78
  refine W.mono (evalAll_sound (r := r) (E := E) kwe (fun e => do let v <- eval e.py env; standAt pos; pure v) (fun e Z V s V' v r₁ e₁ h => wpAny_bind (W.mono (S.ev h r₁ e₁ hm) fun y s₂ hy => wpAny_bind (wpAny_standAt (wpAny_pure hy)))) h2 r₁ (he.mono p₁)) fun zs s₂ hq => ?_
  refine postSE hq fun Z₂ p₂ r₂ v₂ => ?_
  exact i5 Z₂ (p₁.trans p₂) r₂ (v₁.mono p₂) (zip_brs v₂ (by rw [evs_len h2, hl]))
 induction args with
 | nil =>
  refine e2 (pairI h1) fun z79 z80 => ?_
  subst z79
  subst z80
  refine evalArgs_kw_nil (kwTrees_all env pos kwn kwe) ?_
  refine rwR (kwTrees_fst env pos kwn kwe hl) ?_
  refine rwR (kwTrees_snd env pos kwn kwe hl) ?_
  exact fin [] s ⟨Z, List.prefix_refl _, hR, .nil⟩
 | cons e es =>
  refine evalArgs_kw (kwTrees_all env pos kwn kwe) ?_
  refine rwR (kwTrees_fst env pos kwn kwe hl) ?_
  refine rwR (kwTrees_snd env pos kwn kwe hl) ?_
  exact W.mono first fun ys s₁ hp => fin ys s₁ hp
theorem PostR.code {t : Value} (h : codeAny (model X.prog X.w) A (.call t ⟨vs, kvs⟩) (PostR X Z V' v) s) : W X A (call t vs kvs) (Post X Z V' v) s :=
 wpAny_call (codeAny_mono h fun r s' hr => by obtain ⟨y, rfl, hy⟩ := hr; exact hy)
theorem call_ev_sound (K : Ok X) (S : Sd X r n) (hm : Room A n) {x : Nat} {px : Pos} {args : List Ex} (h : stepEv r E (.call (.name x px) args kwn kwe pos) V = some (v, V')) (hR : R X Z V s) (he : EnvR X Z E env) :
  W X A (eval (Ex.call (.name x px) args kwn kwe pos).py env) (Post X Z V' v) s := by
 refine bindP h fun fv V₁ h1 h => ?_
 refine bindP h fun vs V₂ h2 h => ?_
 refine bindP h fun ks V₃ h3 h => ?_
 refine iteS h fun hl h => ?_
 show W X A (eval (.Call (.Name (nm x) px) (pyL args) (kwsOf kwn (pyL kwe)) pos) env) _ _
 rw [arm_eval_Call_Name']
 refine wpAny_bind (W.mono (S.ev h1 hR he hm) fun fy s₁ hp => ?_)
 refine e4 hp fun Z₁ p₁ r₁ v₁ => ?_
 rw [starEach_py, back_map, kwEach]
 refine callWith_of (P := fun hh => ∃ k, (k = Keeper.frame \/ k = Keeper.machine \/ k = Keeper.boundFrame) /\ Looks (model X.prog X.w) hh (keeperOf fy) k) ?_ (fun _ p => p)
  (W.mono (evalArgs_sound S hm h2 h3 hl r₁ (he.mono p₁)) fun a s₂ hq => ?_)
 ·rw [kwTrees_any, Bool.or_false, List.any_map]
  exact List.any_eq_false.mpr fun _ _ => by simp
 ·refine e5 hq fun Z₂ p₂ r₂ va vk => ?_
  clear hq
  have hf := v₁.mono p₂
  refine ⟨keeper_sound K r₂ (S.cb h) hf, ?_⟩
  exact W.mono (S.cl h r₂ hf va vk hm) fun y s₃ hy => hy.pre (p₁.trans p₂)
end
section
open PySem.W
variable {X : Fx} {Z Z' : List Addr} {V V' : Sg} {s s' : Shared} {A : Around} {E : AE} {env : Env}
theorem small_two {a : Int} (h : small a = true) : -4611686018427387904 < a /\ a < 4611686018427387904 := ⟨of_decide_eq_true (Bool.and_eq_true_iff.mp h).1, of_decide_eq_true (Bool.and_eq_true_iff.mp h).2⟩
theorem small_bits {a : Int} (h : small a = true) : Builtin.Int.intBits a <= 64 :=
 intBits_le_64 (Int.lt_trans (by decide) (small_two h).1) (Int.lt_trans (small_two h).2 (by decide))
theorem small_div {a b : Int} (h : small b = true) : Builtin.divisionGoesByPylong a b = false := by
 have h1 := small_bits h
 unfold Builtin.Int.intBits at h1
 unfold Builtin.divisionGoesByPylong
 refine Bool.and_eq_false_iff.mpr (.inl (decide_eq_false_iff_not.mpr ?_))
 by_cases hb : (b == 0) = true
 ·refine (?_ : ¬ (if (b == 0) = true then 0 else b.natAbs.log2 / 30 + 1) > 300)
  rw [if_pos hb]; decide
 ·refine (?_ : ¬ (if (b == 0) = true then 0 else b.natAbs.log2 / 30 + 1) > 300)
  rw [if_neg hb] at h1 ⊢; lia
theorem mkI_some {i : Int} (h : mkI i = some v) : v = .int i /\ small i = true := iteS h fun q h => ⟨(Option.some.inj h).symm, q⟩
theorem binI_sound {op : Operator} {a b : Int} {t u : Tok} (h : binI op a b = some v) : W X A (binaryOp op (.int a t) (.int b u)) (fun y s' => ∃ k, s' = { s with toks := k } /\ VR Z v y) s := by
 have fin : ∀ (i : Int) (k : Tok), mkI i = some v -> ∃ k', ({ s with toks := k } : Shared) = { s with toks := k' } /\ VR Z v (.int i s.toks) := fun i k e => ⟨k, rfl, (mkI_some e).1 ▸ ⟨_, rfl⟩⟩
 induction op with
 | Add => exact add_int (fin _ _ h)
 | Sub => exact sub_int (fin _ _ h)
 | Mult => exact iteS h fun q h => mul_int (fin _ _ h) (IntMulOk.of_left (small_bits q))
 | Mod => exact iteS h fun q h => mod_int (Int.ne_of_gt q) (fin _ _ h)
 | FloorDiv => exact iteS h fun q h => floordiv_int (Int.ne_of_gt q.1) (fin _ _ h) (.inl (small_div q.2))
 | Pow =>
  refine iteS h fun q h => pow_int q.1 ?_ (fin _ _ h)
  exact Int.le_trans (Int.mul_le_mul (Int.ofNat_le.mpr (small_bits q.2.2)) q.2.1 q.1 (by decide)) (by decide)
 | LShift =>
  refine iteS h fun q h => lshift_int q.1 ?_ (fin _ _ h)
  exact Int.le_trans (Int.add_le_add (Int.ofNat_le.mpr (small_bits q.2.2)) q.2.1) (by decide)
 | RShift => exact iteS h fun q h => rshift_int q (fin _ _ h)
 | BitXor => exact xor_int (fin _ _ h)
 | BitAnd => exact and_int (fin _ _ h)
 | _ => exact noneS h
end
section
open PySem.W
variable {X : Fx} {Z Z' : List Addr} {V V' : Sg} {s s' : Shared} {A : Around} {E : AE} {env : Env}
theorem mkS_some {x : Str} (h : mkS x = some v) : v = .str x /\ x.cps.size <= 100000 := iteS h fun q h => ⟨(Option.some.inj h).symm, q⟩
theorem R.list (r : R X Z V s) {vs : Array Value} (h : VRs Z xs vs.toList) (t : Nat) : Post X Z (V ++ [.list xs]) (.ref V.length) (.ref s.heap.objs.size) { s with heap := s.heap.push { cls := .type "list", data := .seq vs }, toks := t } :=
 ⟨_, List.prefix_append .., R.new1 r (fun b o e => Heap.get?_push_of_some _ e) (Heap.get?_none_of_le (Nat.le_refl _)) ⟨_, Heap.get?_push_size _ rfl⟩ rfl rfl ⟨vs, ⟨_, Heap.get?_push_size _ rfl, rfl, 0, rfl⟩, h.mono (List.prefix_append ..)⟩
  (fun _ _ x hx => uq (Heap.get?_push_size _ rfl) hx ▸ rfl), refI (getNew r.len)⟩
theorem VRs.rep (h : VRs Z xs vs) (n : Nat) : VRs Z (rep xs n) ((List.replicate n vs).flatten) := by
 induction n with
 | zero => exact .nil
 | succ n ih =>
  unfold Mine.rep at ih ⊢
  refine rwR List.replicate_succ ?_
  refine rwR List.replicate_succ ?_
  refine rwR List.flatten_cons ?_
  refine rwR List.flatten_cons ?_
  exact h.append ih
theorem addOp {α : Type} {z : α} {op : Operator} {f : Option α} (h : (match op with | .Add => f | _ => none) = some z) (k : op = .Add -> f = some z -> G) : G := by
 induction op with
 | Add => exact k rfl h
 | _ => exact noneS h
theorem multOp {α : Type} {z : α} {op : Operator} {f : Option α} (h : (match op with | .Mult => f | _ => none) = some z) (k : op = .Mult -> f = some z -> G) : G := by
 induction op with
 | Mult => exact k rfl h
 | _ => exact noneS h
theorem oL {α : Type} {z : α} {op : Operator} {o : Option AO} {f : List AV -> Option α} (h : (match op, o with | .Mult, some (.list xs) => f xs | _, _ => none) = some z) (k : ∀ xs, op = .Mult -> o = some (.list xs) -> f xs = some z -> G) : G := by
 induction op with
 | Mult =>
  rcases o with _ | o
  ·exact noneS h
  induction o with
  | list xs => exact k xs rfl rfl h
  | _ => exact noneS h
 | _ => exact noneS h
theorem oLL {α : Type} {z : α} {op : Operator} {o o' : Option AO} {f : List AV -> List AV -> Option α} (h : (match op, o, o' with | .Add, some (.list xs), some (.list ys) => f xs ys | _, _, _ => none) = some z) (k : ∀ xs ys, op = .Add -> o = some (.list xs) -> o' = some (.list ys) -> f xs ys = some z -> G) : G := by
 induction op with
 | Add =>
  rcases o with _ | o
  ·exact noneS h
  induction o with
  | list xs =>
   rcases o' with _ | o'
   ·exact noneS h
   induction o' with
   | list ys => exact k xs ys rfl rfl rfl h
   | _ => exact noneS h
  | _ => exact noneS h
 | _ => exact noneS h
theorem binE {op : Operator} {y : AV} (h : bin op x y V = some (v, V')) (k1 : ∀ a b, x = .int a -> y = .int b -> (binI op a b).map (fun z => (z, V)) = some (v, V') -> G)
  (k2 : ∀ a b, x = .str a -> y = .str b -> op = .Add -> (mkS (a ++ b)).map (fun z => (z, V)) = some (v, V') -> G)
  (k3 : ∀ a n, x = .str a -> y = .int n -> op = .Mult -> 0 <= n /\ n <= 1000 /\ a.cps.size <= 100 -> v = .str (Txt.mul a n) -> V' = V -> G)
  (k4 : ∀ i j xs ys, x = .ref i -> y = .ref j -> op = .Add -> V[i]? = some (.list xs) -> V[j]? = some (.list ys) -> xs.length + ys.length <= 100000 -> v = .ref V.length -> V' = V ++ [.list (xs ++ ys)] -> G)
  (k5 : ∀ i n xs, x = .ref i -> y = .int n -> op = .Mult -> V[i]? = some (.list xs) -> 0 <= n /\ n <= 1000 /\ xs.length <= 10 -> v = .ref V.length -> V' = V ++ [.list (rep xs n.toNat)] -> G) : G := by
 induction x with
 | int a =>
  induction y with
  | int b => exact k1 a b rfl rfl h
  | _ => exact noneS h
 | str a =>
  induction y with
  | str b => exact addOp h fun e h => k2 a b rfl rfl e h
  | int n => exact multOp h fun e h => iteS h fun q h => k3 a n rfl rfl e q (pairI h).1.symm (pairI h).2.symm
  | _ => exact noneS h
 | ref i =>
  induction y with
  | ref j => exact oLL h fun xs ys eo e e' h => iteS h fun q h => k4 i j xs ys rfl rfl eo e e' q (pairI h).1.symm (pairI h).2.symm
  | int n => exact oL h fun xs eo e h => iteS h fun q h => k5 i n xs rfl rfl eo e q (pairI h).1.symm (pairI h).2.symm
  | _ => exact noneS h
 | _ => exact noneS h
theorem bin_rep (r : R X Z V s) {c : Str} {n : Int} {t u : Tok} (q : 0 <= n /\ n <= 1000 /\ c.cps.size <= 100) : W X A (binaryOp .Mult (.str c t) (.int n u)) (Post X Z V (.str (Txt.mul c n))) s := by
 have hsz : c.length * n.toNat <= 100 * 1000 := Nat.mul_le_mul q.2.2 (Int.toNat_le.mpr q.2.1)
 refine SB.mul ⟨?_, fun h1 h2 => ?_, fun h1 h2 => ?_⟩ fun t' k => .intro (r.tok k) ⟨t', rfl⟩
 ·simp only [Bool.or_eq_false_iff, decide_eq_false_iff_not]; lia
 ·have hc : c.length <= 100 := q.2.2
  have h3 : (100 : Int) <= (2 ^ 63 - 1) / n := (Int.le_ediv_iff_mul_le (by lia)).mpr (by lia)
  lia
 ·refine (?_ : decide (_ > sizeLine) = false)
  refine rwR sizeLine_eq ?_
  rw [decide_eq_false_iff_not]
  exact Nat.not_lt.mpr (Nat.le_trans hsz (by decide))
theorem bin_cat (r : R X Z V s) {p q : Addr} {vs ws : Array Value} (hl : s.heap.IsList p vs) (hl2 : s.heap.IsList q ws) (hv : VRs Z xs vs.toList) (hw : VRs Z ys ws.toList) (hsz : vs.size + ws.size <= 100000) : W X A (binaryOp .Add (.ref p) (.ref q)) (Post X Z (V ++ [.list (xs ++ ys)]) (.ref V.length)) s := by
 obtain ⟨⟨cls, dd, data, sl⟩, ho, hc, n, hd⟩ := hl
 obtain ⟨⟨cls2, dd2, data2, sl2⟩, ho2, hc2, n2, hd2⟩ := hl2
 simp only at hc hd hc2 hd2
 subst hc hd hc2 hd2
 exact concat_meets ⟨_, ho, rfl⟩ ⟨_, ho2, rfl⟩ noFill_list_add seq_list_add PySem.F.slot_list_add PySem.F.entry_list_add (PySem.F.args_list_add_2 _ _) (list_addW p q vs ws n n2 dd dd2 sl sl2 (by
  rw [sizeLine_eq]; exact Nat.le_trans hsz (by decide))) ⟨ho, ho2, r.list (by rw [Array.toList_append]; exact hv.append hw) _⟩
theorem bin_lrep (r : R X Z V s) {p : Addr} {n : Int} {u : Tok} {vs : Array Value} (hl : s.heap.IsList p vs) (hv : VRs Z xs vs.toList) (h0 : 0 <= n) (h1 : n <= 1000) (h2 : vs.size <= 10) : W X A (binaryOp .Mult (.ref p) (.int n u)) (Post X Z (V ++ [.list (rep xs n.toNat)]) (.ref V.length)) s := by
 obtain ⟨⟨cls, d, data, sl⟩, ho, hc, k, hd⟩ := hl
 simp only at hc hd
 subst hc hd
 have hm : vs.size * n.toNat <= 10 * 1000 := Nat.mul_le_mul h2 (Int.toNat_le.mpr h1)
 refine wpAny_binaryOp_repeat_ref (T := "list") (U := "int") (by decide) ⟨_, ho, rfl⟩ (fun s' => typeIs_int s' n u) noFill_list_mul F.fills_int_mul F.slot_int_rmul repeat_list F.slot_int_index.lookup
  (call_meets F.slot_int_rmul (typeIs_int s n u) F.entry_int_rmul (F.args_int_rmul_2 _ _) (lm_int_rmul_list_any n u p vs k d sl)
   ⟨ho, rfl, ⟨_, ho, rfl⟩, call_meets F.slot_list_mul ⟨_, ho, rfl⟩ F.entry_list_mul (F.args_list_mul_2 _ _)
    (lm_list_mul_any p vs k d sl n u (by simp [Builtin.List.listFitsIndex]; lia) (by lia) (by simp [Builtin.List.listTooLong, sizeLine]; lia))
    ⟨ho, ?_⟩⟩)
 refine r.list (vs := List.foldl (fun x1 x2 => x1 ++ x2) #[] (List.replicate (if vs.isEmpty = true then 0 else n.toNat) vs)) ?_ _
 rw [listMul_foldl_if]
 exact hv.rep n.toNat
theorem bin_sound (r : R X Z V s) {op : Operator} {y : AV} {a b : Value} (h : bin op x y V = some (v, V')) (ha : VR Z x a) (hb : VR Z y b) : W X A (binaryOp op a b) (Post X Z V' v) s := by
 refine binE h (fun c d ec ed h => ?_) (fun c d ec ed eo h => ?_) (fun c n ec en eo q ev es => ?_) (fun i j xs ys ei ej eo h1 h2 hsz ev es => ?_) fun i n xs ei en eo h1 q ev es => ?_
 ·subst ec ed
  refine intV ha fun t => ?_
  refine intV hb fun u => ?_
  refine mapE h fun w h1 h2 => someP (congrArg some h2) ?_
  exact W.mono (binI_sound (Z := Z) h1) fun z s₁ hz => hz.elim fun k e => e.1 ▸ .intro (r.tok k) e.2
 ·subst ec ed eo
  refine strV ha fun t => ?_
  refine strV hb fun u => ?_
  refine mapE h fun w h1 h2 => someP (congrArg some h2) ?_
  refine e2 (mkS_some h1) fun z131 hs => ?_
  subst z131
  refine SB.add (fun t' k => .intro (r.tok k) ⟨t', rfl⟩) ?_
  have : (c ++ d).cps.size = c.cps.size + d.cps.size := Array.size_append
  refine (?_ : c.cps.size + d.cps.size <= sizeLine)
  refine rwL this ?_
  refine rwR sizeLine_eq ?_
  exact Nat.le_trans hs (by decide)
 ·subst ec en eo ev es
  refine strV ha fun t => ?_
  exact intV hb fun u => bin_rep r q
 ·subst ei ej eo ev es
  refine refV ha fun p hp => refV hb fun q hq => ?_
  exact liV r hp h1 fun vs hl hv e1 => liV r hq h2 fun ws hl2 hw e2 => bin_cat r hl hl2 hv hw (e1 ▸ e2 ▸ hsz)
 ·subst ei en eo ev es
  refine refV ha fun p hp => ?_
  exact intV hb fun u => liV r hp h1 fun vs hl hv e1 => bin_lrep r hl hv q.1 q.2.1 (e1 ▸ q.2.2)
end
section
open PySem.W
variable {X : Fx} {Z Z' : List Addr} {V V' : Sg} {s s' : Shared} {A : Around} {E : AE} {env : Env}
theorem letGoRun : W X A (runValue (.builtin "proto.let_go" {})) (fun _ s' => s' = s) s := by
 refine wpAny_runValue (codeAny_builtin entry_let_go ?_)
 exact wpAny_pure rfl
theorem letTemp0 {o r : Value} : W X A (letTemporaryGo (.Tuple [] 0 p) o r) (fun _ s' => s' = s) s := by
 rcases o <;> first | exact wpAny_pure rfl | exact wpAny_bind (wpAny_holding (W.mono letGoRun fun _ s' e => wpAny_pure e))
theorem letSame (base : Expr) (o r : Value) (p : Pos) : letTemporaryGo base o r = letTemporaryGo (.Tuple [] 0 p) o r \/ letTemporaryGo base o r = pure () := by
 rcases base <;> first | exact .inr rfl | exact .inl (by kernel_rfl)
theorem letTemp {base : Expr} {o r : Value} : W X A (letTemporaryGo base o r) (fun _ s' => s' = s) s :=
 (letSame base o r ⟨0, 0, 0, 0⟩).elim (fun e => e ▸ letTemp0) fun e => e ▸ wpAny_pure rfl
set_option maxHeartbeats 4000000 in
theorem nm_super (k : Nat) : (nm k == ("super" : Str)) = false := nm_ne_of (by decide +kernel) (by decide +kernel) k
theorem base_call (x : Nat) (q : Pos) (as : List Expr) (ks : List Keyword) (p : Pos) (a : Str) (env : Env) (t : Sem Value) : attributeBase (.Call (.Name (nm x) q) as ks p) a env t = t := by
 rcases as with _ | _
 ·rcases ks with _ | _
  ·have h : (nm x != ("super" : Str)) = true := by rw [bne, nm_super]; rfl
   exact (if_pos (c := _ = true) (Bool.or_eq_true_iff.mpr (.inl (Bool.or_eq_true_iff.mpr (.inl (Bool.or_eq_true_iff.mpr (.inl h))))))).trans rfl
  ·rfl
 ·rfl
theorem base_py (e : Ex) (a : Str) (env : Env) (t : Sem Value) : attributeBase e.py a env t = t := by
 cases e with
 | call f args kwn kwe p => rcases f <;> first | rfl | exact base_call ..
 | _ => rfl
theorem name_ev (K : Ok X) (hR : R X Z V s) (he : EnvR X Z E env) {x : Nat} (h : getN E x V = some v) : W X A (eval (Ex.name x p).py env) (Post X Z V v) s :=
 wpAny_Name (W.mono (loadName_sound K hR he h) fun y s' hy => hy.1 ▸ .intro hR hy.2) (nm_debug x)
theorem attr_ev (K : Ok X) (S : Sd X r n) (hm : Room A n) (hR : R X Z V s) (he : EnvR X Z E env) (h : stepEv r E (.attr e a p) V = some (v, V')) : W X A (eval (Ex.attr e a p).py env) (Post X Z V' v) s := by
 refine bindP h fun w V₁ h1 h => ?_
 refine bindE h fun z h2 h => ?_
 refine someP h ?_
 refine (?_ : W X A (eval (.Attribute e.py (nm a) p) env) _ _)
 rw [arm_eval_Attribute, base_py]
 refine wpAny_bind (W.mono (S.ev h1 hR he hm) fun y s₁ hp => ?_)
 refine postE hp fun Z₁ p₁ r₁ v₁ => ?_
 refine wpAny_bind (wpAny_standAt (wpAny_bind (wpAny_holding (W.mono (attrA_sound K r₁ h2 v₁) fun z s₂ hz => ?_))))
 exact wpAny_bind (W.mono letTemp fun _ s₃ e => e ▸ wpAny_pure ⟨Z₁, p₁, hz.1, hz.2⟩)
theorem bin_ev (S : Sd X r n) (hm : Room A n) (hR : R X Z V s) (he : EnvR X Z E env) {l : Ex} {op : Operator} (h : stepEv r E (.bin l op rr p) V = some (v, V')) : W X A (eval (Ex.bin l op rr p).py env) (Post X Z V' v) s := by
 refine bindP h fun x V₁ h1 h => ?_
 refine bindP h fun y V₂ h2 h => ?_
 refine wpAny_BinOp (W.mono (S.ev h1 hR he hm) fun a s₁ hp => ?_)
 refine postE hp fun Z₁ p₁ r₁ v₁ => ?_
 refine W.mono (S.ev h2 r₁ (he.mono p₁) hm) fun b s₂ hq => ?_
 refine postE hq fun Z₂ p₂ r₂ v₂ => ?_
 exact W.mono (bin_sound r₂ h (v₁.mono p₂) v₂) fun z s₃ hz => hz.pre (p₁.trans p₂)
theorem ite_ev (S : Sd X r n) (hm : Room A n) (hR : R X Z V s) (he : EnvR X Z E env) {t b o : Ex} (h : stepEv r E (.ite t b o p) V = some (v, V')) : W X A (eval (Ex.ite t b o p).py env) (Post X Z V' v) s := by
 refine bindP h fun x V₁ h1 h => ?_
 refine bindE h fun c h2 h => ?_
 refine (?_ : W X A (eval (.IfExp t.py b.py o.py p) env) _ _)
 rw [arm_eval_IfExp]
 refine wpAny_bind (W.mono (S.tr h1 h2 hR he hm) fun c' s₁ hp => hp.2.elim fun Z₁ z => ?_)
 obtain rfl := hp.1
 rcases c'
 ·exact W.mono (S.ev h z.2 (he.mono z.1) hm) fun _ s₂ hz => hz.pre z.1
 ·exact W.mono (S.ev h z.2 (he.mono z.1) hm) fun _ s₂ hz => hz.pre z.1
theorem evs_size {vs : List AV} {ys : List Value} (hl : es.length <= 100) (h1 : evs r E es V = some (vs, V₁)) (hv : VRs Z vs ys) : ys.length <= sizeLine := by
 refine rwR sizeLine_eq ?_
 refine rwL hv.length ?_
 refine rwR (evs_len h1) ?_
 exact Nat.le_trans hl (by decide)
theorem list_ev (S : Sd X r n) (hm : Room A n) (hR : R X Z V s) (he : EnvR X Z E env) (h : stepEv r E (.list es p) V = some (v, V')) : W X A (eval (Ex.list es p).py env) (Post X Z V' v) s := by
 refine bindP h fun vs V₁ h1 h => ?_
 refine iteS h fun hl h => someP h ?_
 refine (?_ : W X A (eval (.List (pyL es) p) env) _ _)
 rw [arm_eval_List, starEach_py, back_map]
 refine wpAny_bind (wpAny_standAt (wpAny_bind (W.mono (spliced_sound S hm es (fun e => eval e.py env) (fun e Z V s V' v r₁ e₁ h => S.ev h r₁ e₁ hm) h1 hR he) fun ys s₁ hp => ?_)))
 refine postSE hp fun Z₁ p₁ r₁ v₁ => ?_
 exact wpAny_newList ((r₁.list (vs := ys.toArray) v₁ s₁.toks).pre p₁) (evs_size hl h1 v₁)
theorem R.tuple (r : R X Z V s) {vs : Array Value} (h : VRs Z xs vs.toList) (t : Nat) : Post X Z (V ++ [.tuple xs]) (.ref V.length) (.ref s.heap.objs.size) { s with heap := s.heap.push { cls := .type "tuple", data := .seq vs }, toks := t } :=
 ⟨_, List.prefix_append .., R.new1 r (fun b o e => Heap.get?_push_of_some _ e) (Heap.get?_none_of_le (Nat.le_refl _)) ⟨_, Heap.get?_push_size _ rfl⟩ rfl rfl ⟨vs, ⟨_, Heap.get?_push_size _ rfl, rfl, 0, rfl⟩, h.mono (List.prefix_append ..)⟩, refI (getNew r.len)⟩
theorem tuple_ev (S : Sd X r n) (hm : Room A n) (hR : R X Z V s) (he : EnvR X Z E env) (h : stepEv r E (.tuple es p) V = some (v, V')) : W X A (eval (Ex.tuple es p).py env) (Post X Z V' v) s := by
 refine bindP h fun vs V₁ h1 h => ?_
 refine iteS h fun hl h => someP h ?_
 refine (?_ : W X A (eval (.Tuple (pyL es) 0 p) env) _ _)
 rw [arm_eval_Tuple, starEach_py, back_map]
 refine wpAny_bind (wpAny_standAt (wpAny_bind (W.mono (spliced_sound S hm es (fun e => eval e.py env) (fun e Z V s V' v r₁ e₁ h => S.ev h r₁ e₁ hm) h1 hR he) fun ys s₁ hp => ?_)))
 refine postSE hp fun Z₁ p₁ r₁ v₁ => ?_
 exact wpAny_newTuple ((r₁.tuple (vs := ys.toArray) v₁ s₁.toks).pre p₁) (evs_size hl h1 v₁)
end
section
open PySem.W
variable {X : Fx} {Z Z' : List Addr} {V V' : Sg} {s s' : Shared} {A : Around} {E : AE} {env : Env}
theorem str_truth (x : Str) : (((x.cps.size : Nat) : Int) != 0) = decide (x.cps.size ≠ 0) := by
 rcases x.cps.size <;> rfl
theorem truthy_sound {b : Bool} (h : truth v = some b) (hv : VR Z v y) : W X A (truthy y) (fun c s' => c = b /\ ∃ k, s' = { s with toks := k }) s := by
 induction v with
 | none =>
  obtain rfl : y = .none := hv
  exact PyProof.Rows.truthy_none ⟨Option.some.inj h, s.toks, rfl⟩
 | bool c =>
  obtain rfl : y = .bool c := hv
  exact wpAny_truthy_bool ⟨Option.some.inj h, s.toks, rfl⟩
 | int i => exact intV hv fun t => PyProof.Rows.truthy_int ⟨Option.some.inj h, s.toks, rfl⟩
 | str x =>
  refine strV hv fun t => iteS h fun q h => P.truthy_str (?_ : ¬ ((x.cps.size : Nat) : Int) >= 2 ^ 63) ⟨(str_truth x).trans (Option.some.inj h), _, rfl⟩
  exact fun e => absurd (Int.le_trans e (Int.ofNat_le.mpr q)) (by decide)
 | _ => exact noneS h
theorem not_ev (S : Sd X r n) (hm : Room A n) (hR : R X Z V s) (he : EnvR X Z E env) (h : stepEv r E (.not e p) V = some (v, V')) : W X A (eval (Ex.not e p).py env) (Post X Z V' v) s := by
 refine bindP h fun w V₁ h1 h => ?_
 refine bindE h fun b h2 h => ?_
 refine someP h ?_
 refine (?_ : W X A (eval (.UnaryOp .Not e.py p) env) _ _)
 rw [arm_eval_UnaryOp]
 refine wpAny_bind (W.mono (S.ev h1 hR he hm) fun y s₁ hp => ?_)
 refine postE hp fun Z₁ p₁ r₁ v₁ => ?_
 refine wpAny_bind (wpAny_standAt (wpAny_holding (PyProof.Rows.not_of (W.mono (truthy_sound h2 v₁) fun c s₂ hc => hc.2.elim fun k e => ⟨Z₁, p₁, e ▸ r₁.tok k, congrArg (fun q => Value.bool (!q)) hc.1⟩))))
theorem neg_ev (S : Sd X r n) (hm : Room A n) (hR : R X Z V s) (he : EnvR X Z E env) (h : stepEv r E (.neg e p) V = some (v, V')) : W X A (eval (Ex.neg e p).py env) (Post X Z V' v) s := by
 refine bindP h fun w V₁ h1 h => intE h fun i e h => bindE h fun b h2 h => someP h ?_
 subst e
 obtain rfl := (mkI_some h2).1
 refine (?_ : W X A (eval (.UnaryOp .USub e.py p) env) _ _)
 rw [arm_eval_UnaryOp]
 refine wpAny_bind (W.mono (S.ev h1 hR he hm) fun y s₁ hp => postE hp fun Z₁ p₁ r₁ v₁ => ?_)
 refine intV v₁ fun t => ?_
 exact wpAny_bind (wpAny_standAt (wpAny_holding (PyProof.Rows.neg_int ⟨Z₁, p₁, r₁.tok _, _, rfl⟩)))
theorem bool2_ev (S : Sd X r n) (hm : Room A n) (hR : R X Z V s) (he : EnvR X Z E env) {op : BoolOp} {l : Ex} (h : stepEv r E (.bool2 op l rr p) V = some (v, V')) : W X A (eval (Ex.bool2 op l rr p).py env) (Post X Z V' v) s := by
 refine bindP h fun w V₁ h1 h => ?_
 refine bindE h fun b h2 h => ?_
 refine (?_ : W X A (eval l.py env >>= _) _ _)
 refine wpAny_bind (W.mono (S.ev h1 hR he hm) fun y s₁ hp => ?_)
 refine postE hp fun Z₁ p₁ r₁ v₁ => ?_
 refine wpAny_bind (wpAny_standAt (wpAny_bind (wpAny_holding (W.mono (truthy_sound h2 v₁) fun c s₂ hc => hc.2.elim fun k e => ?_))))
 obtain rfl := hc.1
 subst e
 rcases op <;> rcases c
 ·exact someP h (wpAny_pure ⟨Z₁, p₁, r₁.tok k, v₁⟩)
 ·exact W.mono (S.ev h (r₁.tok k) (he.mono p₁) hm) fun z s₂ hz => hz.pre p₁
 ·exact W.mono (S.ev h (r₁.tok k) (he.mono p₁) hm) fun z s₂ hz => hz.pre p₁
 ·exact someP h (wpAny_pure ⟨Z₁, p₁, r₁.tok k, v₁⟩)
theorem int_ev (hR : R X Z V s) {i : Int} : W X A (eval (Ex.int i p).py env) (Post X Z V (.int i)) s := wpAny_Constant_int ⟨Z, List.prefix_refl _, hR.tok _, _, rfl⟩
theorem str_ev (hR : R X Z V s) {x : Str} : W X A (eval (Ex.str x p).py env) (Post X Z V (.str x)) s := Calls.Constant_str ⟨Z, List.prefix_refl _, hR.tok _, _, rfl⟩
theorem bool_ev (hR : R X Z V s) {b : Bool} : W X A (eval (Ex.bool b p).py env) (Post X Z V (.bool b)) s := PyProof.Rows.Constant_bool ⟨Z, List.prefix_refl _, hR, rfl⟩
theorem none_ev (hR : R X Z V s) : W X A (eval (Ex.none p).py env) (Post X Z V .none) s := PyProof.Rows.Constant_none ⟨Z, List.prefix_refl _, hR, rfl⟩
end
section
open PySem.W
open PySem.SeqAt MeetsSeq MeetsSeq2 MeetsSeq3 SeqRoads2
open AutoSeq1 (wpAny_loadPart')
noncomputable def EqW (prog : Program) (w : World) (A : Around) (s : Shared) (y x : Value) (b : Bool) : Prop := ∀ (E : Value -> Shared -> Prop) (Q : Bool -> Shared -> Prop), Q b s -> wpAny (model prog w) A (eqBool y x) Q E s
noncomputable def RcW (prog : Program) (w : World) (A : Around) (s : Shared) (y x : Value) (b : Bool) : Prop := ∀ (E : Value -> Shared -> Prop) (Q : Value -> Shared -> Prop), Q (.bool b) s -> wpAny (model prog w) A (richCompare .Eq y x) Q E s
section
variable {prog : Program} {w : World}
theorem EqW.of_refs {s : Shared} {l b : Addr} {k : Bool} (hne : l ≠ b) (h : RcW prog w A s (.ref l) (.ref b) k) : EqW prog w A s (.ref l) (.ref b) k := fun E Q hq => by
 unfold eqBool
 refine wpAny_holding ?_
 refine wpAny_ite_split (fun hab => absurd (by have := eq_of_beq hab; injection this) hne) (fun _ => ?_)
 exact wpAny_bind (h E _ (wpAny_truthy_bool hq))
theorem eqLoopW {l b : Addr} {items items2 : Array Value} {dd dd2 : Option Addr} {sl sl2 : Array (Option Value)} (hsz : items.size = items2.size) (e : Nat -> Bool) (k : Nat) :
  ∀ i : Nat, items.size - i = k -> MeetsIn prog w (Builtin.«list.__eq__.loop» ⟨[.ref l, .ref b, rawInt i, rawInt 2], []⟩)
   (fun A R s => s.heap.get? l = some { cls := .type "list", dict := dd, data := .seq items n, slots := sl } /\ s.heap.get? b = some { cls := .type "list", dict := dd2, data := .seq items2 n2, slots := sl2 } /\
    (∀ j (h1 : j < items.size) (h2 : j < items2.size), EqW prog w A.in1 s items[j] items2[j] (e j)) /\
    R (.ok (.ret (.bool (((List.range items.size).drop i).all e)))) s) := by
 induction k with
 | zero =>
  intro i hk A R s h
  obtain ⟨hp, g, d, tk, os⟩ := s
  refine e4 h fun hl hb he h => ?_
  wp_walk using wpAny_loadPart' hl, wpAny_loadPart' hb
  have h1 : items[((i : Nat) : Int).toNat]? = none := by simp; lia
  have h2 : items2[((i : Nat) : Int).toNat]? = none := by simp; lia
  refine rwR h1 ?_
  refine rwR h2 ?_
  wp_walk using wpAny_loadPart' hl, wpAny_loadPart' hb
  have hd : (List.range items.size).drop i = [] := by simp; lia
  rw [hd] at h
  refine (?_ : R (.ok (.ret (.bool (items.size == items2.size)))) _)
  refine rwR hsz ?_
  simpa using h
 | succ k ih =>
  intro i hk A R s h
  obtain ⟨hp, g, d, tk, os⟩ := s
  refine e4 h fun hl hb he h => ?_
  wp_walk using wpAny_loadPart' hl, wpAny_loadPart' hb
  have k1 : i < items.size := (sub3 hk)
  have k2 : i < items2.size := by lia
  have h1 : items[((i : Nat) : Int).toNat]? = some items[i] := by simp [k1]
  have h2 : items2[((i : Nat) : Int).toNat]? = some items2[i] := by simp [k2]
  have hd : (List.range items.size).drop i = i :: (List.range items.size).drop (i + 1) := by simp [List.drop_eq_getElem_cons, k1]
  rw [hd, List.all_cons] at h
  refine rwR h1 ?_
  refine rwR h2 ?_
  refine wpAny_bind (he i k1 k2 _ _ ?_)
  cases hv : e i with
  | true =>
   rw [hv] at h
   wp_walk
   rw [show ((i : Int) + 1) = ((i + 1 : Nat) : Int) by push_cast; rfl]
   exact ⟨plainId_quiet plain_eq_loop _, codeAny_builtin entry_eq_loop (by
    refine rwR (Around.under_plainId plain_eq_loop _) ?_
    exact ih (i + 1) (sub2 hk) A R _ ⟨hl, hb, he, by simpa using h⟩)⟩
  | false =>
   rw [hv] at h
   wp_walk using wpAny_loadPart' hl, wpAny_loadPart' hb
   refine rwR h1 ?_
   refine rwR h2 ?_
   wp_walk
   simpa using h
theorem listEqW {l b : Addr} {items items2 : Array Value} {dd dd2 : Option Addr} {sl sl2 : Array (Option Value)} (hsz : items.size = items2.size) (e : Nat -> Bool) :
  MeetsIn prog w (Builtin.«list.__eq__» ⟨[.ref l, .ref b], []⟩)
   (fun A R s => s.heap.get? l = some { cls := .type "list", dict := dd, data := .seq items n, slots := sl } /\ s.heap.get? b = some { cls := .type "list", dict := dd2, data := .seq items2 n2, slots := sl2 } /\
    (∀ j (h1 : j < items.size) (h2 : j < items2.size), EqW prog w A.in1 s items[j] items2[j] (e j)) /\
    R (.ok (.ret (.bool ((List.range items.size).all e)))) s) := by
 intro A R s h
 obtain ⟨hp, g, d, tk, os⟩ := s
 refine e4 h fun hl hb he h => ?_
 have f3 := AutoSeq1.sub_list_list
 have hne : ¬ (items.size != items2.size) = true := by simp [hsz]
 wp_walk using wpAny_loadPart' hl, wpAny_loadPart' hb
 exact ⟨plainId_quiet plain_eq_loop _, codeAny_builtin entry_eq_loop (by
  refine rwR (Around.under_plainId plain_eq_loop _) ?_
  exact eqLoopW hsz e _ 0 rfl A R _ ⟨hl, hb, he, by simpa using h⟩)⟩
theorem RcW.lists {s : Shared} {l b : Addr} {items items2 : Array Value} {e : Nat -> Bool} (hl : s.heap.IsList l items) (hb : s.heap.IsList b items2) (hsz : items.size = items2.size) (hu : A.units < cLine)
  (he : ∀ j (h1 : j < items.size) (h2 : j < items2.size), EqW prog w A.in1 s items[j] items2[j] (e j)) : RcW prog w A s (.ref l) (.ref b) ((List.range items.size).all e) := fun E Q h => by
 obtain ⟨⟨cls, dd, data, sl⟩, ho, hc, n, hd⟩ := id hl
 obtain ⟨⟨cls2, dd2, data2, sl2⟩, ho2, hc2, n2, hd2⟩ := id hb
 simp only at hc hd hc2 hd2
 subst hc hd hc2 hd2
 exact wpAny_richCompare_same_room (op := .Eq) ⟨_, ho, rfl⟩ ⟨_, ho2, rfl⟩ PySem.F.slot_list_eq (call_meetsIn PySem.F.slot_list_eq ⟨_, ho, rfl⟩ PySem.F.entry_list_eq (PySem.F.args_list_eq_2 _ _) (listEqW hsz e)
  ⟨ho, ho2, he, show Value.bool ((List.range items.size).all e) ≠ Value.notImplemented /\ Q (.bool ((List.range items.size).all e)) s from ⟨(fun x => nomatch x), h⟩⟩) hu
end
end
section
open PySem.W
variable {X : Fx} {Z Z' : List Addr} {V V' : Sg} {s s' : Shared} {A : Around} {E : AE} {env : Env}
open PySem.SeqAt
theorem all_succ (e : Nat -> Bool) (n : Nat) : (List.range (n + 1)).all e = (e 0 && (List.range n).all fun j => e (j + 1)) := by
 refine rwR List.range_succ_eq_map ?_
 refine rwR List.all_cons ?_
 refine rwR List.all_map ?_
 rfl
theorem allEq_spec {f : AV -> AV -> Option Bool} {g : Value -> Value -> Bool -> Prop} {ws : List Value} {b : Bool} (h : allEq f xs ys = some b) (hv : VRs Z xs vs) (hw : VRs Z ys ws)
  (hf : ∀ x y v w c, f x y = some c -> VR Z x v -> VR Z y w -> g v w c) : ∃ e : Nat -> Bool, (∀ j (h1 : j < vs.length) (h2 : j < ws.length), g vs[j] ws[j] (e j)) /\ b = (List.range vs.length).all e := by
 induction hv generalizing ys ws b with
 | nil =>
  rcases ys with _ | ⟨y, ys⟩
  ·exact someE h ⟨fun _ => true, fun j h1 => absurd h1 (Nat.not_lt_zero j), rfl⟩
  ·exact noneS h
 | cons h1 h2 ih =>
  rcases ys with _ | ⟨y, ys⟩
  ·exact noneS h
  refine consE hw fun w ws h3 h4 => bindE h fun c e1 h => bindE h fun d e2 h => someE h ?_
  refine (ih e2 h4).elim fun e i => ⟨fun j => Nat.casesOn j c e, fun j => ?_, (congrArg (c && ·) i.2).trans (all_succ (fun j => Nat.casesOn j c e) _).symm⟩
  induction j with
  | zero => exact fun _ _ => hf _ _ _ _ _ e1 h1 h3
  | succ j => exact fun k1 k2 => i.1 j (Nat.lt_of_succ_lt_succ k1) (Nat.lt_of_succ_lt_succ k2)
theorem in1_lt (h : A.units + n + 1 < cLine) : A.in1.units + n < cLine := by rw [Around.in1_units]; lia
theorem size_eq {α : Type} {vs ws : Array α} (e1 : xs.length = vs.size) (e2 : ys.length = ws.size) (e : xs.length = ys.length) : vs.size = ws.size := e1.symm.trans (e.trans e2)
theorem bothAt (r : R X Z V s) (n : Nat) (ih : ∀ {x y : AV} {b : Bool} {v w : Value}, aeq1 V n x y = some b -> VR Z x v -> VR Z y w -> EqAt A.in1 s v w b) {j : Nat} {b : Bool} {p q : Addr}
  (h : aeq1 V (n + 1) (.ref i) (.ref j) = some b) (hp : Z[i]? = some p) (hq : Z[j]? = some q) (hu : A.units < cLine) : i ≠ j /\ RcAt A s (.ref p) (.ref q) b /\ RcNeAt A s (.ref p) (.ref q) (!b) := by
 refine iteN h fun hij h => ⟨hij, oSeq2 h (fun xs ys h1 h2 h => ?_) fun xs ys h1 h2 h => ?_⟩
 ·refine liV r hp h1 fun vs hl hv e1 => liV r hq h2 fun ws hl2 hw e2 => iteC h (fun hlen h => ?_) fun hlen h => ?_
  ·refine (allEq_spec (g := EqAt A.in1 s) h hv hw fun x y v w c hc h1 h2 => ih hc h1 h2).elim fun e z => ?_
   refine rwR z.2 ?_
   exact ⟨RcAt.lists hl hl2 (size_eq e1 e2 hlen) hu z.1, RcNeAt.lists hl hl2 (size_eq e1 e2 hlen) hu z.1⟩
  ·have hs : (vs.size != ws.size) = true := bne_iff_ne.mpr fun e => hlen (e1.trans (e.trans e2.symm))
   exact someE h ⟨RcAt.lists_lengths hl hl2 hs hu, RcNeAt.lists_lengths hl hl2 hs hu⟩
 ·refine tuV r hp h1 fun vs hl hv e1 => tuV r hq h2 fun ws hl2 hw e2 => iteS h fun hlen h => ?_
  refine (allEq_spec (g := EqAt A.in1 s) h hv hw fun x y v w c hc h1 h2 => ih hc h1 h2).elim fun e z => ?_
  have hs := size_eq e1 e2 hlen
  have q : ((List.range (min vs.size ws.size)).all e && vs.size == ws.size) = b := by rw [z.2, <- hs, Nat.min_self, beq_self_eq_true, Bool.and_true, Array.length_toList]
  exact q ▸ ⟨RcAt.tuples hl hl2 hu z.1, RcNeAt.tuples hl hl2 hu z.1⟩
theorem aeq1E {y : AV} {b : Bool} (h : aeq1 V n x y = some b) (k1 : ∀ a c, x = .int a -> y = .int c -> (a == c) = b -> G) (k2 : ∀ a c, x = .str a -> y = .str c -> decide (a = c) = b -> G)
  (k3 : ∀ m i j, n = m + 1 -> x = .ref i -> y = .ref j -> aeq1 V (m + 1) (.ref i) (.ref j) = some b -> G) : G := by
 induction x with
 | int a =>
  induction y with
  | int c => exact k1 a c rfl rfl (by rcases n with _ | n <;> exact Option.some.inj h)
  | _ => rcases n with _ | n <;> exact noneS h
 | str a =>
  induction y with
  | str c => exact k2 a c rfl rfl (by rcases n with _ | n <;> exact Option.some.inj h)
  | _ => rcases n with _ | n <;> exact noneS h
 | ref i =>
  induction y with
  | ref j =>
   rcases n with _ | n
   ·exact noneS h
   ·exact k3 n i j rfl rfl rfl h
  | _ => rcases n with _ | n <;> exact noneS h
 | _ => rcases n with _ | n <;> exact noneS h
theorem eqAt_step (r : R X Z V s) (n : Nat) {y : AV} {b : Bool} {v : Value} (ih : ∀ m, n = m + 1 -> ∀ {x y : AV} {b : Bool} {v w : Value}, aeq1 V m x y = some b -> VR Z x v -> VR Z y w -> EqAt A.in1 s v w b)
  (h : aeq1 V n x y = some b) (hx : VR Z x v) (hy : VR Z y w) (hu : A.units < cLine) : EqAt A s v w b := by
 refine aeq1E h (fun a c ex ey e => ?_) (fun a c ex ey e => ?_) fun m i j en ex ey h' => ?_
 ·subst ex ey e
  refine intV hx fun t => ?_
  refine intV hy fun u => ?_
  exact fun prog w E Q hq => wpAny_eqBool_int hq
 ·subst ex ey e
  refine strV hx fun t => ?_
  refine strV hy fun u => ?_
  exact fun prog w E Q hq => wpAny_eqBool_str hq
 ·subst ex ey
  refine refV hx fun p hp => refV hy fun q hq => ?_
  have z := bothAt r m (ih m en) h' hp hq hu
  exact EqAt.of_refs (r.ne hp hq z.1) z.2.1
theorem eqAt_sound (r : R X Z V s) (n : Nat) {y : AV} {b : Bool} {v : Value} (h : aeq1 V n x y = some b) (hx : VR Z x v) (hy : VR Z y w) (hu : A.units + n < cLine) : EqAt A s v w b := by
 induction n generalizing A x y b v w with
 | zero => exact eqAt_step r 0 (fun m e => nomatch e) h hx hy hu
 | succ n ih => exact eqAt_step r (n + 1) (fun m e => Nat.succ.inj e ▸ fun h1 h2 h3 => ih h1 h2 h3 (in1_lt hu)) h hx hy (Nat.lt_of_le_of_lt (Nat.le_add_right ..) hu)
end
section
open PySem.W
open PySem.SeqAt MeetsSeq MeetsSeq2 MeetsSeq3 SeqRoads2
open AutoSeq1 (wpAny_loadPart')
noncomputable def RcNeW (prog : Program) (w : World) (A : Around) (s : Shared) (y x : Value) (b : Bool) : Prop := ∀ (E : Value -> Shared -> Prop) (Q : Value -> Shared -> Prop), Q (.bool b) s -> wpAny (model prog w) A (richCompare .NotEq y x) Q E s
section
variable {prog : Program} {w : World}
theorem neLoopW {l b : Addr} {items items2 : Array Value} {dd dd2 : Option Addr} {sl sl2 : Array (Option Value)} (hsz : items.size = items2.size) (e : Nat -> Bool) (k : Nat) :
  ∀ i : Nat, items.size - i = k -> MeetsIn prog w (Builtin.«list.__eq__.loop» ⟨[.ref l, .ref b, rawInt i, rawInt 3], []⟩)
   (fun A R s => s.heap.get? l = some { cls := .type "list", dict := dd, data := .seq items n, slots := sl } /\ s.heap.get? b = some { cls := .type "list", dict := dd2, data := .seq items2 n2, slots := sl2 } /\
    (∀ j (h1 : j < items.size) (h2 : j < items2.size), EqW prog w A.in1 s items[j] items2[j] (e j)) /\
    R (.ok (.ret (.bool (!((List.range items.size).drop i).all e)))) s) := by
 induction k with
 | zero =>
  intro i hk A R s h
  obtain ⟨hp, g, d, tk, os⟩ := s
  refine e4 h fun hl hb he h => ?_
  wp_walk using wpAny_loadPart' hl, wpAny_loadPart' hb
  have h1 : items[((i : Nat) : Int).toNat]? = none := by simp; lia
  have h2 : items2[((i : Nat) : Int).toNat]? = none := by simp; lia
  refine rwR h1 ?_
  refine rwR h2 ?_
  wp_walk using wpAny_loadPart' hl, wpAny_loadPart' hb
  have hd : (List.range items.size).drop i = [] := by simp; lia
  rw [hd] at h
  refine (?_ : R (.ok (.ret (.bool (items.size != items2.size)))) _)
  refine rwR hsz ?_
  simpa using h
 | succ k ih =>
  intro i hk A R s h
  obtain ⟨hp, g, d, tk, os⟩ := s
  refine e4 h fun hl hb he h => ?_
  wp_walk using wpAny_loadPart' hl, wpAny_loadPart' hb
  have k1 : i < items.size := (sub3 hk)
  have k2 : i < items2.size := by lia
  have h1 : items[((i : Nat) : Int).toNat]? = some items[i] := by simp [k1]
  have h2 : items2[((i : Nat) : Int).toNat]? = some items2[i] := by simp [k2]
  have hd : (List.range items.size).drop i = i :: (List.range items.size).drop (i + 1) := by simp [List.drop_eq_getElem_cons, k1]
  rw [hd, List.all_cons] at h
  refine rwR h1 ?_
  refine rwR h2 ?_
  refine wpAny_bind (he i k1 k2 _ _ ?_)
  cases hv : e i with
  | true =>
   rw [hv] at h
   wp_walk
   rw [show ((i : Int) + 1) = ((i + 1 : Nat) : Int) by push_cast; rfl]
   exact ⟨plainId_quiet plain_eq_loop _, codeAny_builtin entry_eq_loop (by
    refine rwR (Around.under_plainId plain_eq_loop _) ?_
    exact ih (i + 1) (sub2 hk) A R _ ⟨hl, hb, he, by simpa using h⟩)⟩
  | false =>
   rw [hv] at h
   wp_walk using wpAny_loadPart' hl, wpAny_loadPart' hb
   refine rwR h1 ?_
   refine rwR h2 ?_
   wp_walk
   simpa using h
theorem listNeW {l b : Addr} {items items2 : Array Value} {dd dd2 : Option Addr} {sl sl2 : Array (Option Value)} (hsz : items.size = items2.size) (e : Nat -> Bool) :
  MeetsIn prog w (Builtin.«list.__ne__» ⟨[.ref l, .ref b], []⟩)
   (fun A R s => s.heap.get? l = some { cls := .type "list", dict := dd, data := .seq items n, slots := sl } /\ s.heap.get? b = some { cls := .type "list", dict := dd2, data := .seq items2 n2, slots := sl2 } /\
    (∀ j (h1 : j < items.size) (h2 : j < items2.size), EqW prog w A.in1 s items[j] items2[j] (e j)) /\
    R (.ok (.ret (.bool (!(List.range items.size).all e)))) s) := by
 intro A R s h
 obtain ⟨hp, g, d, tk, os⟩ := s
 refine e4 h fun hl hb he h => ?_
 have f3 := AutoSeq1.sub_list_list
 have hne : ¬ (items.size != items2.size) = true := by simp [hsz]
 wp_walk using wpAny_loadPart' hl, wpAny_loadPart' hb
 exact ⟨plainId_quiet plain_eq_loop _, codeAny_builtin entry_eq_loop (by
  refine rwR (Around.under_plainId plain_eq_loop _) ?_
  exact neLoopW hsz e _ 0 rfl A R _ ⟨hl, hb, he, by simpa using h⟩)⟩
theorem RcNeW.lists {s : Shared} {l b : Addr} {items items2 : Array Value} {e : Nat -> Bool} (hl : s.heap.IsList l items) (hb : s.heap.IsList b items2) (hsz : items.size = items2.size) (hu : A.units < cLine)
  (he : ∀ j (h1 : j < items.size) (h2 : j < items2.size), EqW prog w A.in1 s items[j] items2[j] (e j)) : RcNeW prog w A s (.ref l) (.ref b) (!(List.range items.size).all e) := fun E Q h => by
 obtain ⟨⟨cls, dd, data, sl⟩, ho, hc, n, hd⟩ := id hl
 obtain ⟨⟨cls2, dd2, data2, sl2⟩, ho2, hc2, n2, hd2⟩ := id hb
 simp only at hc hd hc2 hd2
 subst hc hd hc2 hd2
 exact wpAny_richCompare_same_room (op := .NotEq) ⟨_, ho, rfl⟩ ⟨_, ho2, rfl⟩ PySem.F.slot_list_ne (call_meetsIn PySem.F.slot_list_ne ⟨_, ho, rfl⟩ PySem.F.entry_list_ne (PySem.F.args_list_ne_2 _ _) (listNeW hsz e)
  ⟨ho, ho2, he, show Value.bool (!(List.range items.size).all e) ≠ Value.notImplemented /\ Q (.bool (!(List.range items.size).all e)) s from ⟨(fun x => nomatch x), h⟩⟩) hu
end
end
section
open PySem.W
variable {X : Fx} {Z Z' : List Addr} {V V' : Sg} {s s' : Shared} {A : Around} {E : AE} {env : Env}
open PySem.SeqAt
theorem allKey_spec (r : R X Z V s) (hu : A.units + n < cLine) {ys : List (Str × AV)} {kb : List (Str × Value)} (hb : KVs Z ys kb) {xs : List (Str × AV)} {ka : List (Str × Value)} {b : Bool} (h : allKey (aeq1 V n) ys xs = some b) (hv : KVs Z xs ka) : KeqHits A s kb ka b := by
 induction hv generalizing b with
 | nil => exact someE h .nil
 | @cons k x v xs vs hv hr ih =>
  have h : (match sget k ys with | some w => (aeq1 V n x w).bind fun b => (allKey (aeq1 V n) ys xs).bind fun c => some (b && c) | none => some false) = some b := h
  have hg := hb.get k
  generalize sget k ys = o at h hg
  rcases o with _ | w
  ·exact someE h (.miss hg)
  ·refine e3 hg fun y hy hyr => bindE h fun c h1 h => bindE h fun d h2 h => someE h ?_
   exact .hit hy (eqAt_sound r n h1 hv hyr hu) (ih h2)
theorem R.notSys (K : Ok X) (r : R X Z V s) {j : Nat} {a : Addr} (hj : nTop <= j) (ha : Z[j]? = some a) : (a == sysModules) = false :=
 K.sysm.elim fun _ ho => beq_eq_false_iff_ne.mpr fun e => noneS ((r.new j a hj ha).symm.trans (e ▸ K.base _ _ ho))
theorem bothD (K : Ok X) (r : R X Z V s) (n : Nat) (ih : ∀ {x y : AV} {b : Bool} {v w : Value}, aeqD V n x y = some b -> VR Z x v -> VR Z y w -> EqW X.prog X.w A.in1 s v w b) {j : Nat} {b : Bool} {p q : Addr}
  (h : aeqD V (n + 1) (.ref i) (.ref j) = some b) (hp : Z[i]? = some p) (hq : Z[j]? = some q) (hu : A.units + 4 < cLine) : i ≠ j /\ RcW X.prog X.w A s (.ref p) (.ref q) b /\ RcNeW X.prog X.w A s (.ref p) (.ref q) (!b) := by
 refine iteN h fun hij h => ⟨hij, oLD2 h (fun xs ys h1 h2 h => ?_) fun xs ea ys eb h1 h2 h => ?_⟩
 ·refine liV r hp h1 fun vs hl hv e1 => liV r hq h2 fun ws hl2 hw e2 => iteS h fun hlen h => ?_
  refine (allEq_spec (g := EqW X.prog X.w A.in1 s) h hv hw fun x y v w c hc h1 h2 => ih hc h1 h2).elim fun e z => ?_
  refine rwR z.2 ?_
  have hu : A.units < cLine := Nat.lt_of_le_of_lt (Nat.le_add_right ..) hu
  exact ⟨RcW.lists hl hl2 (size_eq e1 e2 hlen) hu z.1, RcNeW.lists hl hl2 (size_eq e1 e2 hlen) hu z.1⟩
 ·refine diV r hp h1 fun ps e hd hv _ => diV r hq h2 fun qs e' hd' hv' _ => iteS h fun hc h => ?_
  have hits := allKey_spec r (A := A.in1) (n := 3) (in1_lt hu) hv' h hv
  have hu : A.units < cLine := Nat.lt_of_le_of_lt (Nat.le_add_right ..) hu
  have hb : (ps.length == qs.length && b) = b := by rw [<- hv.length, <- hv'.length, beq_iff_eq.mpr hc.1]; rfl
  have k1 := R.notSys K r hc.2.1 hp
  have k2 := R.notSys K r hc.2.2 hq
  exact ⟨fun E Q hQ => keq_eq k1 k2 hd.dictOf hd'.dictOf hu (fun _ => hits) (hb.symm ▸ hQ), fun E Q hQ => keq_ne k1 k2 hd.dictOf hd'.dictOf hu (fun _ => hits) (hb.symm ▸ hQ)⟩
theorem aeqDE {y : AV} {b : Bool} (h : aeqD V n x y = some b) (k3 : ∀ m i j, n = m + 1 -> x = .ref i -> y = .ref j -> aeqD V (m + 1) (.ref i) (.ref j) = some b -> G) : G := by
 rcases n with _ | n
 ·exact noneS h
 induction x with
 | ref i =>
  induction y with
  | ref j => exact k3 n i j rfl rfl rfl h
  | _ => exact noneS h
 | _ => exact noneS h
theorem aeqD_sound (K : Ok X) (r : R X Z V s) (n : Nat) {y : AV} {b : Bool} {v : Value} (h : aeqD V n x y = some b) (hx : VR Z x v) (hy : VR Z y w) (hu : A.units + (n + 10) < cLine) : EqW X.prog X.w A s v w b := by
 induction n generalizing A x y b v w with
 | zero => exact noneS h
 | succ n ih =>
  refine aeqDE h fun m i j en ex ey h' => ?_
  obtain rfl := Nat.succ.inj en
  subst ex ey
  refine refV hx fun p hp => refV hy fun q hq => ?_
  have z := bothD K r n (A := A) (fun h1 h2 h3 => ih h1 h2 h3 (in1_lt (by lia))) h' hp hq (by lia)
  exact EqW.of_refs (r.ne hp hq z.1) z.2.1
theorem aeqE {y : AV} {b : Bool} (h : aeq V x y = some b) (k1 : aeq1 V 5 x y = some b -> G) (k2 : aeqD V 3 x y = some b -> G) : G := by
 have h : (match aeq1 V 5 x y with | some b => some b | none => aeqD V 3 x y) = some b := h
 generalize aeq1 V 5 x y = o at h k1
 rcases o with _ | c
 ·exact k2 h
 ·exact k1 h
end
section
open PySem.W
variable {X : Fx} {Z Z' : List Addr} {V V' : Sg} {s s' : Shared} {A : Around} {E : AE} {env : Env}
open PySem.SeqAt
noncomputable def CmpPost (X : Fx) (Z : List Addr) (V : Sg) (b : Bool) : Value -> Shared -> Prop := fun z s' => z = .bool b /\ R X Z V s'
theorem cmpBoth (K : Ok X) (r : R X Z V s) {y : AV} {b : Bool} {v : Value} (h : aeq V x y = some b) (hx : VR Z x v) (hy : VR Z y w) (hu : A.units + 15 < cLine) :
  W X A (compareOp .Eq v w) (CmpPost X Z V b) s /\ W X A (compareOp .NotEq v w) (CmpPost X Z V (!b)) s := by
 have hu1 : A.units < cLine := Nat.lt_of_le_of_lt (Nat.le_add_right ..) hu
 refine aeqE h (fun h => aeq1E h (fun a c ex ey e => ?_) (fun a c ex ey e => ?_) fun m i j en ex ey h' => ?_) fun h => aeqDE h fun m i j en ex ey h' => ?_
 ·subst ex ey e
  refine intV hx fun t => ?_
  refine intV hy fun u => ?_
  exact ⟨PyProof.Rows.eq_int ⟨rfl, r⟩, PyProof.Rows.ne_int ⟨rfl, r⟩⟩
 ·subst ex ey e
  refine strV hx fun t => ?_
  refine strV hy fun u => ?_
  exact ⟨PyProof.Rows.eq_str ⟨by congr 1, r⟩, PyProof.Rows.ne_str ⟨by congr 1, r⟩⟩
 ·subst ex ey
  refine refV hx fun p hp => refV hy fun q hq => ?_
  obtain rfl := Nat.succ.inj en
  have z := bothAt r 4 (A := A) (fun h1 h2 h3 => eqAt_sound r 4 h1 h2 h3 (in1_lt (by lia))) h' hp hq hu1
  exact ⟨z.2.1 _ _ _ _ ⟨rfl, r⟩, z.2.2 _ _ _ _ ⟨rfl, r⟩⟩
 ·subst ex ey
  refine refV hx fun p hp => refV hy fun q hq => ?_
  obtain rfl := Nat.succ.inj en
  have z := bothD K r 2 (A := A) (fun h1 h2 h3 => aeqD_sound K r 2 h1 h2 h3 (in1_lt (by lia))) h' hp hq (Nat.lt_of_le_of_lt (Nat.add_le_add_left (by decide) _) hu)
  exact ⟨z.2.1 _ _ ⟨rfl, r⟩, z.2.2 _ _ ⟨rfl, r⟩⟩
noncomputable def dec : Value -> Option (AV ⊕ Addr)
 | .none => some (.inl .none)
 | .bool b => some (.inl (.bool b))
 | .int i _ => some (.inl (.int i))
 | .str s _ => some (.inl (.str s))
 | .ref a => some (.inr a)
 | .builtin s => if s = "len" then some (.inl (.bi .len)) else if s = "sum" then some (.inl (.bi .sum)) else if s = "max" then some (.inl (.bi .max)) else if s = "hex" then some (.inl (.bi .hex)) else none
 | .type s => if s = "range" then some (.inl (.bi .range)) else if s = "tuple" then some (.inl (.bi .tuple)) else none
 | _ => none
theorem VR.dec1 {v : Value} (h : VR Z x v) (hx : ∀ j, x ≠ .ref j) : dec v = some (.inl x) := by
 induction x with
 | none => cases h; rfl
 | bool b => cases h; rfl
 | int i => obtain ⟨t, rfl⟩ := h; rfl
 | str i => obtain ⟨t, rfl⟩ := h; rfl
 | ref j => exact absurd rfl (hx j)
 | bi b =>
  have h : v = b.val := h
  subst h
  rcases b <;> kernel_rfl
theorem VR.inj (hn : Z.Nodup) {y : AV} {v : Value} (hx : VR Z x v) (hy : VR Z y v) : x = y := by
 by_cases h1 : ∃ j, x = .ref j
 ·refine h1.elim fun j h1 => ?_
  subst h1
  refine hx.elim fun a hx => ?_
  by_cases h2 : ∃ k, y = .ref k
  ·refine h2.elim fun k h2 => ?_
   subst h2
   refine hy.elim fun b hy => ?_
   have e := Value.ref.inj (hx.2.symm.trans hy.2)
   exact congrArg AV.ref ((List.getElem?_inj (List.getElem?_eq_some_iff.mp hx.1).1 hn).mp (hx.1.trans (e ▸ hy.1.symm)))
  ·exact nomatch (congrArg dec hx.2).symm.trans (hy.dec1 fun k e => h2 ⟨k, e⟩)
 ·have e1 := hx.dec1 fun k e => h1 ⟨k, e⟩
  by_cases h2 : ∃ k, y = .ref k
  ·refine h2.elim fun k h2 => ?_
   subst h2
   exact hy.elim fun b hy => nomatch (congrArg dec hy.2).symm.trans e1
  ·exact Sum.inl.inj (Option.some.inj (e1.symm.trans (hy.dec1 fun k e => h2 ⟨k, e⟩)))
theorem anyEq_sound (r : R X Z V s) (hw : VR Z x w) (hu : A.units + 5 < cLine) : ∃ e : Value -> Bool, ∀ (xs : List AV) (vs : List Value) (b : Bool), anyEq V x xs = some b -> VRs Z xs vs -> (∀ y ∈ vs, EqAt A s y w (e y)) /\ b = vs.any e := by
 classical
 refine ⟨fun y => decide (∃ v, VR Z v y /\ aeq1 V 5 v x = some true), fun xs vs b h hv => ?_⟩
 induction hv generalizing b with
 | nil => exact someE h ⟨fun y hy => absurd hy List.not_mem_nil, rfl⟩
 | @cons a v xs vs hv hr ih =>
  refine bindE h fun c h1 h => bindE h fun d h2 h => someE h ?_
  have z := ih d h2
  have key : decide (∃ z, VR Z z v /\ aeq1 V 5 z x = some true) = c := by
   rcases c with _ | _
   ·exact decide_eq_false fun q => q.elim fun z q => absurd (h1.symm.trans (VR.inj r.nodup q.1 hv ▸ q.2)) (by decide)
   ·exact decide_eq_true ⟨a, hv, h1⟩
  refine ⟨fun y hy => ?_, by rw [List.any_cons, key, z.2]⟩
  rcases List.mem_cons.mp hy with e | hy
  ·refine rwR e (?_ : EqAt A s v w (decide (∃ z, VR Z z v /\ aeq1 V 5 z x = some true)))
   exact key.symm ▸ eqAt_sound r 5 h1 hv hw hu
  ·exact z.1 y hy
theorem inE {y : AV} {b : Bool} (h : isIn x y V = some b) (k1 : ∀ j ys, y = .ref j -> V[j]? = some (.list ys) -> anyEq V x ys = some b -> G)
  (k2 : ∀ j kvs e c, y = .ref j -> x = .str c -> V[j]? = some (.dict kvs e) -> nTop <= j -> (sget c kvs).isSome = b -> G) : G := by
 refine refE h fun j e h => ?_
 have k1 := fun ys => k1 j ys e
 have k2 := fun kvs ep c => k2 j kvs ep c e
 generalize V[j]? = o at h k1 k2
 rcases o with _ | o
 ·exact noneS h
 induction o with
 | list ys => exact k1 ys rfl h
 | dict kvs ep =>
  induction x with
  | str c => exact iteS h fun hj h => k2 kvs ep c rfl rfl hj (Option.some.inj h)
  | _ => exact noneS h
 | _ => exact noneS h
theorem in_sound (K : Ok X) (r : R X Z V s) {y : AV} {b : Bool} {v : Value} (h : isIn x y V = some b) (hx : VR Z x v) (hy : VR Z y w) (hu : A.units + 15 < cLine) :
  W X A (compareOp .In v w) (CmpPost X Z V b) s /\ W X A (compareOp .NotIn v w) (CmpPost X Z V (!b)) s := by
 refine inE h (fun j ys e hys h' => ?_) fun j kvs ep c e ex hys hc h' => ?_
 ·subst e
  refine refV hy fun q hq => liV r hq hys fun vs hl hv _ => ?_
  refine (anyEq_sound r hx (A := A.in1) (in1_lt (by lia))).elim fun e he => ?_
  have z := he _ _ _ h' hv
  have h3 : vs.any e = b := z.2.symm ▸ (Array.any_toList ..).symm
  exact ⟨in_listAt e hl (fun y hy => z.1 y (Array.mem_toList_iff.mpr hy)) ⟨by rw [h3], r⟩, notIn_listAt e hl (fun y hy => z.1 y (Array.mem_toList_iff.mpr hy)) ⟨by rw [h3], r⟩⟩
 ·subst e ex h'
  refine refV hy fun q hq => diV r hq hys fun ps e hd hk _ => ?_
  refine strV hx fun t => ?_
  have hkey : (strKind X.prog X.w).is c (.str c t) = true := beq_self_eq_true c
  have he : (sget c kvs).isSome = (valueAt ps c).isSome := hk.any c
  exact ⟨wpAny_in_of hkey (r.notSys K hc hq) hd.dictOf.mapOf ⟨by rw [he], r.tok _⟩, wpAny_notIn_of hkey (r.notSys K hc hq) hd.dictOf.mapOf ⟨by rw [he], r.tok _⟩⟩
theorem intsE {f : Int -> Int -> Bool} {y : AV} {b : Bool} {v : Value} {P : Value -> Value -> Bool -> Prop} (h : (match x, y with | .int a, .int b => some (f a b) | _, _ => none) = some b) (hx : VR Z x v) (hy : VR Z y w)
  (k : ∀ a c t u, P (.int a t) (.int c u) (f a c)) : P v w b := by
 induction x with
 | int a =>
  induction y with
  | int c =>
   refine someE h ?_
   refine intV hx fun t => ?_
   refine intV hy fun u => ?_
   exact k a c t u
  | _ => exact noneS h
 | _ => exact noneS h
theorem boolsE {f : Bool -> Bool -> Bool} {y : AV} {b : Bool} {v : Value} {P : Value -> Value -> Bool -> Prop} (h : (match x, y with | .bool a, .bool b => some (f a b) | _, _ => none) = some b) (hx : VR Z x v) (hy : VR Z y w)
  (k : ∀ a c, P (.bool a) (.bool c) (f a c)) : P v w b := by
 induction x with
 | bool a =>
  induction y with
  | bool c =>
   refine someE h ?_
   refine boolV hx ?_
   refine boolV hy ?_
   exact k a c
  | _ => exact noneS h
 | _ => exact noneS h
theorem cmp_sound (K : Ok X) (r : R X Z V s) {op : CmpOp} {y : AV} {b : Bool} {v : Value} (h : cmp op x y V = some b) (hx : VR Z x v) (hy : VR Z y w) (hu : A.units + 15 < cLine) : W X A (compareOp op v w) (CmpPost X Z V b) s := by
 rcases op
 ·exact (cmpBoth K r h hx hy hu).1
 ·exact mapE h fun c h1 h2 => h2 ▸ (cmpBoth K r h1 hx hy hu).2
 ·exact intsE (P := fun v w b => W X A (compareOp .Lt v w) (CmpPost X Z V b) s) h hx hy fun _ _ _ _ => PyProof.Rows.lt_int ⟨rfl, r⟩
 ·exact intsE (P := fun v w b => W X A (compareOp .LtE v w) (CmpPost X Z V b) s) h hx hy fun _ _ _ _ => PyProof.Rows.le_int ⟨rfl, r⟩
 ·exact intsE (P := fun v w b => W X A (compareOp .Gt v w) (CmpPost X Z V b) s) h hx hy fun _ _ _ _ => PyProof.Rows.gt_int ⟨rfl, r⟩
 ·exact intsE (P := fun v w b => W X A (compareOp .GtE v w) (CmpPost X Z V b) s) h hx hy fun _ _ _ _ => PyProof.Rows.ge_int ⟨rfl, r⟩
 ·exact boolsE (P := fun v w b => W X A (compareOp .Is v w) (CmpPost X Z V b) s) h hx hy fun _ _ => PyProof.Rows.is_bool ⟨rfl, r⟩
 ·exact boolsE (P := fun v w b => W X A (compareOp .IsNot v w) (CmpPost X Z V b) s) h hx hy fun _ _ => PyProof.Rows.isnot_bool ⟨rfl, r⟩
 ·exact (in_sound K r h hx hy hu).1
 ·exact mapE h fun c h1 h2 => h2 ▸ (in_sound K r h1 hx hy hu).2
end
section
open PySem.W
variable {X : Fx} {Z Z' : List Addr} {V V' : Sg} {s s' : Shared} {A : Around} {E : AE} {env : Env}
theorem noMarks (op : CmpOp) (e : Ex) : behindInMarks op e.py = false := by rcases e <;> rfl
theorem cmp_ev (K : Ok X) (S : Sd X r n) (hm : Room A n) (hR : R X Z V s) (he : EnvR X Z E env) {l : Ex} {op : CmpOp} (h : stepEv r E (.cmp l op rr p) V = some (v, V')) : W X A (eval (Ex.cmp l op rr p).py env) (Post X Z V' v) s := by
 refine bindP h fun x V₁ h1 h => ?_
 refine bindP h fun y V₂ h2 h => ?_
 refine bindE h fun b h3 h => ?_
 refine someP h ?_
 refine wpAny_Compare1 (W.mono (S.ev h1 hR he hm) fun a s₁ hp => ?_) (noMarks op rr)
 refine postE hp fun Z₁ p₁ r₁ v₁ => ?_
 refine W.mono (S.ev h2 r₁ (he.mono p₁) hm) fun c s₂ hq => ?_
 refine postE hq fun Z₂ p₂ r₂ v₂ => ?_
 refine W.mono (cmp_sound K r₂ h3 (v₁.mono p₂) v₂ (by have := hm.u; lia)) fun z s₃ hz => ?_
 refine e2 hz fun z247 r₃ => ?_
 subst z247
 exact i4 Z₂ (p₁.trans p₂) r₃ rfl
theorem plain_tr {b : Bool} (hE : W X A (eval e.py env) (Post X Z V' v) s) (h2 : truth v = some b) (hform : ∀ whole, isTrue e.py env whole = (do let v <- whole; standAt e.py.pos; holding [v] (truthy v))) :
  W X A (isTrue e.py env (eval e.py env)) (PostB X Z V' b) s := by
 rw [hform]
 refine wpAny_bind (W.mono hE fun y s₁ hp => wpAny_bind (wpAny_standAt (wpAny_holding ?_)))
 refine postE hp fun Z₁ p₁ r₁ v₁ => ?_
 exact W.mono (truthy_sound h2 v₁) fun c s₂ hc => ⟨hc.1, hc.2.elim fun k q => ⟨Z₁, p₁, q ▸ r₁.tok k⟩⟩
section
variable {r : Rec} {n : Nat} (S : Sd X r n) (hm : Room A n) (hR : R X Z V s) (he : EnvR X Z E env) {v : AV} {b : Bool}
include S hm hR he
theorem tr_not {x : Ex} (h : stepEv r E (.not x p) V = some (v, V')) (h2 : truth v = some b) : W X A (isTrue (Ex.not x p).py env (eval (Ex.not x p).py env)) (PostB X Z V' b) s := by
 refine bindP h fun w V₁ h1 h => bindE h fun c h3 h => someP h (fun h2 => someE h2 ?_) h2
 exact wpAny_isTrue_Not (W.mono (S.tr h1 h3 hR he hm) fun c' s₁ hp => ⟨congrArg _ hp.1, hp.2⟩)
theorem tr_second {op : BoolOp} {s₁ : Shared} (p₁ : Z <+: Z₁) (r₁ : R X Z₁ V₁ s₁) (h4 : r.ev E rr V₁ = some (v, V')) (h2 : truth v = some b) : W X A (allTrue op [rr.py] env) (PostB X Z V' b) s₁ := by
 rw [arm_allTrue_cons]
 refine wpAny_bind (W.mono (S.tr h4 h2 r₁ (he.mono p₁) hm) fun d s₂ hq => hq.2.elim fun Z₂ q => ?_)
 have e := hq.1
 rcases op <;> rcases d <;> exact wpAny_pure ⟨e, Z₂, p₁.trans q.1, q.2⟩
theorem tr_bool2 {op : BoolOp} {l : Ex} (h : stepEv r E (.bool2 op l rr p) V = some (v, V')) (h2 : truth v = some b) : W X A (isTrue (Ex.bool2 op l rr p).py env (eval (Ex.bool2 op l rr p).py env)) (PostB X Z V' b) s := by
 refine bindP h fun w V₁ h1 h => bindE h fun c h3 h => ?_
 refine (?_ : W X A (isTrue (.BoolOp op [l.py, rr.py] p) env _) _ s)
 rw [arm_isTrue_BoolOp, arm_allTrue_cons]
 refine wpAny_bind (W.mono (S.tr h1 h3 hR he hm) fun c' s₁ hp => hp.2.elim fun Z₁ z => ?_)
 obtain rfl := hp.1
 have stop : some (w, V₁) = some (v, V') -> c' = b /\ V₁ = V' := fun h => have e := pairI h; ⟨Option.some.inj (h3.symm.trans (e.1 ▸ h2)), e.2⟩
 rcases op <;> rcases c'
 ·exact (stop h).1 ▸ (stop h).2 ▸ wpAny_pure ⟨rfl, Z₁, z⟩
 ·exact tr_second S hm hR he z.1 z.2 h h2
 ·exact tr_second S hm hR he z.1 z.2 h h2
 ·exact (stop h).1 ▸ (stop h).2 ▸ wpAny_pure ⟨rfl, Z₁, z⟩
theorem tr_ite {t x o : Ex} (h : stepEv r E (.ite t x o p) V = some (v, V')) (h2 : truth v = some b) : W X A (isTrue (Ex.ite t x o p).py env (eval (Ex.ite t x o p).py env)) (PostB X Z V' b) s := by
 refine bindP h fun w V₁ h1 h => bindE h fun c h3 h => ?_
 refine (?_ : W X A (isTrue (.IfExp t.py x.py o.py p) env _) _ s)
 rw [arm_isTrue_IfExp]
 refine wpAny_bind (W.mono (S.tr h1 h3 hR he hm) fun c' s₁ hp => hp.2.elim fun Z₁ z => ?_)
 obtain rfl := hp.1
 rcases c'
 ·exact W.mono (S.tr h h2 z.2 (he.mono z.1) hm) fun d s₂ hq => ⟨hq.1, hq.2.elim fun Z₂ q => ⟨Z₂, z.1.trans q.1, q.2⟩⟩
 ·exact W.mono (S.tr h h2 z.2 (he.mono z.1) hm) fun d s₂ hq => ⟨hq.1, hq.2.elim fun Z₂ q => ⟨Z₂, z.1.trans q.1, q.2⟩⟩
theorem tr_cmp (K : Ok X) {l : Ex} {op : CmpOp} (h : stepEv r E (.cmp l op rr p) V = some (v, V')) (h2 : truth v = some b) : W X A (isTrue (Ex.cmp l op rr p).py env (eval (Ex.cmp l op rr p).py env)) (PostB X Z V' b) s := by
 refine bindP h fun x V₁ h1 h => bindP h fun y V₂ h3 h => bindE h fun c h4 h => someP h (fun h2 => someE h2 ?_) h2
 refine (?_ : W X A (isTrue (.Compare l.py [op] [rr.py] p) env _) _ s)
 have hmk : markedEach [op] [rr.py] (evalEach [rr.py] env) = [eval rr.py env] := by
  refine (?_ : [markedBehindIn op rr.py (eval rr.py env)] = _)
  unfold markedBehindIn
  rw [noMarks]
 rw [arm_isTrue_Compare]
 refine rwR hmk ?_
 refine wpAny_bind (W.mono (S.ev h1 hR he hm) fun a s₁ hp => postE hp fun Z₁ p₁ r₁ v₁ => ?_)
 delta testChain
 refine wpAny_bind (wpAny_holding (W.mono (S.ev h3 r₁ (he.mono p₁) hm) fun d s₂ hq => postE hq fun Z₂ p₂ r₂ v₂ => ?_))
 refine wpAny_bind (wpAny_standAt (wpAny_bind (wpAny_operating (W.mono (cmp_sound K r₂ h4 (v₁.mono p₂) v₂ (Nat.lt_of_le_of_lt (by lia) hm.u)) fun z s₃ hz => ?_))))
 exact rwR hz.1 (wpAny_holding (wpAny_truthy_bool ⟨rfl, Z₂, p₁.trans p₂, hz.2⟩))
end
theorem tr_step (K : Ok X) (S : Sd X r n) (hm : Room A n) (hR : R X Z V s) (he : EnvR X Z E env) {b : Bool} (hE : W X A (eval e.py env) (Post X Z V' v) s)
  (h : stepEv r E e V = some (v, V')) (h2 : truth v = some b) : W X A (isTrue e.py env (eval e.py env)) (PostB X Z V' b) s := by
 cases e with
 | not x p => exact tr_not S hm hR he h h2
 | bool2 op l rr p => exact tr_bool2 S hm hR he h h2
 | ite t x o p => exact tr_ite S hm hR he h h2
 | cmp l op rr p => exact tr_cmp S hm hR he K h h2
 | _ => exact plain_tr hE h2 fun _ => rfl
end
section
open PySem.W
open AutoSeq1 (wpAny_loadPart')
section
variable {prog : Program} {w : World} {A : Around} {E : Value -> Shared -> Prop} {s : Shared}
theorem raise_end {α : Type} {a : Addr} {Q : Option Value -> Shared -> Prop} {F : α -> Shared -> Prop} (hh : A.handled = none) (hT : ∃ o, s.heap.get? a = some o /\ o.cls = .type "StopIteration") (h : Q none s) :
  wpAny (model prog w) A.in1 (raiseNew (.ref a)) F (fun e s' => wpAny (model prog w) A (do let b <- isInstance e (Value.type "StopIteration"); if b = true then pure none else throw e) Q E s') s := by
 simp only [raiseNew]
 refine wpAny_bind (wpAny_handled ?_)
 rw [show A.in1.handled = none from hh]
 refine wpAny_bind (wpAny_pure (wpAny_throw ?_))
 refine wpAny_bind (wpAny_isInstance (T := "StopIteration") (b := true) hT isSubtype_stop ?_)
 exact wpAny_pure h
noncomputable def Ends (it : Addr) (s : Shared) (Q : Option Value -> Shared -> Prop) : Prop := ∀ h', Heap.ExtBut it s.heap h' -> (∃ o, h'.get? it = some o) -> Q none { s with heap := h' }
theorem next_list_end {it l : Addr} {items : Array Value} {Q : Option Value -> Shared -> Prop} (hh : A.handled = none)
  (hi : s.heap.IsListIter it l i) (hli : s.heap.IsList l items) (hx : items[i]? = none) (hQ : Ends it s Q) : wpAny (model prog w) A (pyNext (.ref it)) Q E s := by
 refine e4 hi fun z187 hit hc hd => ?_
 obtain ⟨c, dd, dat, sl⟩ := z187
 obtain ⟨⟨c2, dd2, dat2, sl2⟩, hl, hc2, n, hd2⟩ := hli
 simp only at hc hd hc2 hd2
 subst hc hd hc2 hd2
 have hT : s.TypeIs (.ref it) "list_iterator" := ⟨_, hit, rfl⟩
 unfold pyNext
 refine wpAny_bind (wpAny_attempt (wpAny_callSpecial?_slot (name := Str.ofString "__next__") hT slot_listiter_next
  (wpAny_call_entry slot_listiter_next hT entry_listiter_next ?_ (args_listiter_next _))))
 unfold Builtin.«list_iterator.__next__»
 obtain ⟨hp, g, d, tk, os⟩ := s
 wp_walk using wpAny_loadPart' hit, wpAny_loadPart' hl
 have hx' : items[((i : Nat) : Int).toNat]? = none := hx
 rw [hx']
 wp_walk using wpAny_loadPart' hit, wpAny_loadPart' hl
 exact raise_end hh ⟨_, Heap.get?_push_size _ rfl, rfl⟩ (hQ _ (((Heap.SameBut.update ..).extBut.push _).push _) ⟨_, Heap.get?_push_of_some _ (Heap.get?_push_of_some _ (Heap.get?_update_self _ hit rfl))⟩)
theorem next_tuple_end {it l : Addr} {items : Array Value} {Q : Option Value -> Shared -> Prop} (hh : A.handled = none)
  (hi : s.heap.IsTupleIter it l i) (hli : s.heap.IsTuple l items) (hx : items[i]? = none) (hQ : Ends it s Q) : wpAny (model prog w) A (pyNext (.ref it)) Q E s := by
 refine e4 hi fun z192 hit hc hd => ?_
 obtain ⟨c, dd, dat, sl⟩ := z192
 obtain ⟨⟨c2, dd2, dat2, sl2⟩, hl, hc2, n, hd2⟩ := hli
 simp only at hc hd hc2 hd2
 subst hc hd hc2 hd2
 have hT : s.TypeIs (.ref it) "tuple_iterator" := ⟨_, hit, rfl⟩
 unfold pyNext
 refine wpAny_bind (wpAny_attempt (wpAny_callSpecial?_slot (name := Str.ofString "__next__") hT F.slot_tuple_iterator_next
  (wpAny_call_entry F.slot_tuple_iterator_next hT F.entry_tuple_iterator_next ?_ (F.args_tuple_iterator_next_1 _))))
 unfold Builtin.«tuple_iterator.__next__»
 obtain ⟨hp, g, d, tk, os⟩ := s
 wp_walk using wpAny_loadPart' hit, wpAny_loadPart' hl
 have hx' : items[((i : Nat) : Int).toNat]? = none := hx
 rw [hx']
 wp_walk using wpAny_loadPart' hit, wpAny_loadPart' hl
 exact raise_end hh ⟨_, Heap.get?_push_size _ rfl, rfl⟩ (hQ _ (((Heap.SameBut.update ..).extBut.push _).push _) ⟨_, Heap.get?_push_of_some _ (Heap.get?_push_of_some _ (Heap.get?_update_self _ hit rfl))⟩)
theorem next_range_end {it : Addr} {x left step : Int} {Q : Option Value -> Shared -> Prop} (hh : A.handled = none) (hit : IsRangeIter s.heap it x left step) (hleft : left <= 0)
  (hQ : Ends it s Q) : wpAny (model prog w) A (pyNext (.ref it)) Q E s := by
 have hT : s.TypeIs (.ref it) "range_iterator" := ⟨_, hit, rfl⟩
 unfold pyNext
 refine wpAny_bind (wpAny_attempt (wpAny_callSpecial?_slot (name := Str.ofString "__next__") hT F.slot_range_iterator_next
  (wpAny_call_entry F.slot_range_iterator_next hT F.entry_range_iterator_next ?_ (F.args_range_iterator_next_1 _))))
 unfold Builtin.«range_iterator.__next__»
 obtain ⟨hp, g, d, tk, os⟩ := s
 wp_walk using wpAny_loadPart' hit
 refine raise_end hh ?_ ?_
 ·exact ⟨_, Heap.get?_push_size _ rfl, rfl⟩
 ·exact hQ _ (((Heap.ExtBut.refl it hp).push _).push _) ⟨_, Heap.get?_push_of_some _ (Heap.get?_push_of_some _ hit)⟩
theorem next_ascii_end {it : Addr} {x : Str} {t : Tok} {Q : Option Value -> Shared -> Prop} (hh : A.handled = none)
  (hi : s.heap.IsStrIter it "str_ascii_iterator" x t i) (hx : x.cps[i]? = none)
  (hQ : Ends it s Q) : wpAny (model prog w) A (pyNext (.ref it)) Q E s := by
 refine e4 hi fun z197 hit hc hd => ?_
 obtain ⟨c, dd, dat, sl⟩ := z197
 simp only at hc hd
 subst hc hd
 have hT : s.TypeIs (.ref it) "str_ascii_iterator" := ⟨_, hit, rfl⟩
 unfold pyNext
 refine wpAny_bind (wpAny_attempt (wpAny_callSpecial?_slot (name := Str.ofString "__next__") hT F.slot_str_ascii_iterator_next
  (wpAny_call_entry F.slot_str_ascii_iterator_next hT F.entry_str_ascii_iterator_next ?_ (F.args_str_ascii_iterator_next_1 _))))
 unfold Builtin.«str_ascii_iterator.__next__»
 obtain ⟨hp, g, d, tk, os⟩ := s
 wp_walk using wpAny_loadPart' hit
 have hx' : x.cps[((i : Nat) : Int).toNat]? = none := hx
 rw [hx']
 wp_walk using wpAny_loadPart' hit
 exact raise_end hh ⟨_, Heap.get?_push_size _ rfl, rfl⟩ (hQ _ (((Heap.SameBut.update ..).extBut.push _).push _) ⟨_, Heap.get?_push_of_some _ (Heap.get?_push_of_some _ (Heap.get?_update_self _ hit rfl))⟩)
theorem next_dict_end {K : Type} [DecidableEq K] {knd : KeyKind prog w K} {it d : Addr} {ep : Nat} {kvs : List (K × Value)} {Q : Option Value -> Shared -> Prop} (hh : A.handled = none) (hi : s.heap.IsKeyIter it d i kvs.length ep)
  (hm : s.heap.DictAt knd d kvs ep) (hx : kvs[i]? = none) (hQ : Ends it s Q) : wpAny (model prog w) A (pyNext (.ref it)) Q E s := by
 refine e4 hi fun z201 hit hc hd => ?_
 obtain ⟨c, dd, dat, sl⟩ := z201
 refine e8 (id hm) fun z202 es hod hcd hdd hk hp hn => ?_
 obtain ⟨c2, dd2, dat2, sl2⟩ := z202
 simp only at hc hd hdd
 subst hc hd hdd
 have hT : s.TypeIs (.ref it) "dict_keyiterator" := ⟨_, hit, rfl⟩
 have hsz : es.size = kvs.length := by rw [<- hp.length]; simp
 have hge : es.size <= i := by rw [hsz]; simpa using hx
 have hown : Builtin.Dict_items.ownsTuple "dict_keyiterator" = false := by decide
 unfold pyNext
 refine wpAny_bind (wpAny_attempt (wpAny_callSpecial?_slot (name := Str.ofString "__next__") hT F.slot_dict_keyiterator_next
  (wpAny_call_entry F.slot_dict_keyiterator_next hT F.entry_dict_keyiterator_next ?_ (F.args_dict_keyiterator_next_1 _))))
 unfold Builtin.«dict_keyiterator.__next__»
 obtain ⟨hp', g, d', tk, os⟩ := s
 wp_walk using wpAny_loadPart' hit, wpAny_loadPart' hod
 rw [show (if ((i : Nat) : Int) < 0 then none else es[((i : Nat) : Int).toNat]?) = none by
  rw [if_neg (Int.not_lt.mpr (Int.natCast_nonneg _))]; simp only [Int.toNat_natCast]; exact Array.getElem?_eq_none hge]
 wp_walk using wpAny_loadPart' hit, wpAny_loadPart' hod
 exact raise_end hh ⟨_, Heap.get?_push_size _ rfl, rfl⟩ (hQ _ (((Heap.SameBut.update ..).extBut.push _).push _) ⟨_, Heap.get?_push_of_some _ (Heap.get?_push_of_some _ (Heap.get?_update_self _ hit rfl))⟩)
end
variable {X : Fx} {Z Z' : List Addr} {V V' : Sg} {s s' : Shared} {A : Around} {E : AE} {env : Env}
theorem R.push (r : R X Z V s) {ob : Obj} {o : AO} (hf : ob.isFreed = false) (h : ∀ Z', Z <+: Z' -> OR X Z' (s.heap.push ob) s.heap.objs.size o) (hnd : ∀ xs, o = .list xs -> ob.dict = none := by intro _ h; cases h) :
  Post X Z (V ++ [o]) (.ref V.length) (.ref s.heap.objs.size) { s with heap := s.heap.push ob } := by
 have hpre : Z <+: Z ++ [s.heap.objs.size] := List.prefix_append ..
 refine ⟨_, hpre, R.new1 r (fun b o e => Heap.get?_push_of_some _ e) (Heap.get?_none_of_le (Nat.le_refl _)) ⟨_, Heap.get?_push_size _ hf⟩ rfl rfl (h _ hpre) (fun xs e x hx => by rw [Heap.get?_push_size _ hf] at hx; cases hx; exact hnd xs e), s.heap.objs.size, ?_, rfl⟩
 rw [<- r.len, List.getElem?_append_right (Nat.le_refl _)]; simp
theorem R.noSys (K : Ok X) (r : R X Z V s) {j : Nat} {a : Addr} (hj : nTop <= j) (ha : Z[j]? = some a) : (a == sysModules) = false := by
 refine e2 K.sysm fun o ho => ?_
 refine beq_eq_false_iff_ne.mpr fun e => ?_
 have := r.new j a hj ha
 rw [e, K.base _ _ ho] at this
 exact someN this
theorem smallE {a : Int} (h : small a = true) : -4611686018427387904 < a /\ a < 4611686018427387904 := (Bool.and_eq_true_iff.mp h).imp of_decide_eq_true of_decide_eq_true
theorem rng_small {a b : Int} (h1 : small a = true) (h2 : small b = true) : Builtin.Range.small a b 1 = true /\ Builtin.Range.rangeSize a b 1 = if a < b then b - a else 0 :=
 ⟨small_one (Int.le_of_lt (smallE h1).1) (smallE h1).2 (Int.le_of_lt (smallE h2).1) (smallE h2).2, rangeSize_one a b⟩
theorem aiter_sound (K : Ok X) (r : R X Z V s) {j : Nat} (h : aiter v V = some (j, V')) (hv : VR Z v y) : W X A (pyIter y) (Post X Z V' (.ref j)) s := by
 induction v with
 | ref i =>
  refine hv.elim fun p z => ?_
  refine rwR z.2 ?_
  refine oIter h (fun xs hx h => liV r z.1 hx fun vs hl _ _ => someP h ?_) (fun xs hx h => tuV r z.1 hx fun vs hl _ _ => someP h ?_) (fun a b hx h => iteS h fun hc h => (r.obj _ _ _ z.1 hx).elim fun t w => w.elim fun u w => w.elim fun v hl => someP h ?_) fun kvs ep hx h => iteS h fun hc h => diV r z.1 hx fun ps e hd hk hn => someP h ?_
  ·exact wpAny_pyIter_list hl (r.push rfl fun Z' hpre => ⟨p, get_prefix hpre z.1, _, Heap.get?_push_size _ rfl, rfl, rfl⟩)
  ·exact wpAny_pyIter_tuple hl (r.push rfl fun Z' hpre => ⟨p, get_prefix hpre z.1, _, Heap.get?_push_size _ rfl, rfl, rfl⟩)
  ·have q := rng_small hc.1 hc.2
   refine wpAny_pyIter_range hl q.1 (r.push rfl fun Z' hpre => ?_)
   rw [q.2]
   exact Heap.get?_push_size _ rfl
  ·obtain rfl := hn ep rfl
   refine wpAny_pyIter_dict (r.noSys K hc z.1) hd (r.push rfl fun Z' hpre => ⟨p, get_prefix hpre z.1, _, Heap.get?_push_size _ rfl, rfl, ?_⟩)
   rw [hk.length]; rfl
 | str x => exact hv.elim fun t z => rwR z (iteS h fun hc h => someP h (wpAny_pyIter_ascii hc (r.push rfl fun Z' hpre => ⟨t, _, Heap.get?_push_size _ rfl, rfl, rfl⟩)))
 | _ => exact noneS h
end
section
open PySem.W
variable {X : Fx} {Z Z' : List Addr} {V V' : Sg} {s s' : Shared} {A : Around} {E : AE} {env : Env}
theorem iter_not_code {a : Addr} {c : Value} {vs : Array Value} (hc : ∀ q t, vs[1]? ≠ some (.str q t)) (ho : ∃ o, h.get? a = some o /\ o.cls = c /\ o.data = .fields vs) (x : Obj) (hx : h.get? a = some x) : ¬ CodeLike x := by
 refine e4 ho fun o h1 _ h2 => ?_
 obtain rfl := uq h1 hx
 intro y164
 refine e5 y164 fun ws q t e e2 => ?_
 exact hc q t (Data.fields.inj (h2.symm.trans e) ▸ e2)
theorem extKeep {a : Addr} (x : Heap.ExtBut a h h') (b : Addr) (o : Obj) (hb : b ≠ a) (e : h.get? b = some o) : h'.get? b = some o := x b o hb e
theorem KVs.at {xs : List (Str × AV)} (h : KVs Z xs ps) {kv : Str × AV} (e : xs[i]? = some kv) : ∃ v, ps[i]? = some (kv.1, v) := by
 induction h generalizing i with
 | nil => exact noneS e
 | cons hv hr ih =>
  rcases i with _ | i
  ·exact someE e ⟨_, rfl⟩
  ·exact ih e
noncomputable def NextR (X : Fx) (Z : List Addr) (V' : Sg) (r : Option AV) : Option Value -> Shared -> Prop := fun z s' => R X Z V' s' /\ VRo Z r z
theorem toEnd (r : R X Z V s) {a : Addr} (k1 : nTop <= it) (ha : Z[it]? = some a) (nc : ∀ x, s.heap.get? a = some x -> ¬ CodeLike x) : Ends a s (NextR X Z (V.set it .dead) none) :=
 fun h' hs hl' => ⟨r.set1 (s' := { s with heap := h' }) k1 ha (extKeep hs) nc rfl rfl trivial hl', rfl⟩
theorem toNext (r : R X Z V s) {a : Addr} {o : AO} (k1 : nTop <= it) (ha : Z[it]? = some a) (nc : ∀ x, s.heap.get? a = some x -> ¬ CodeLike x) (hs : Heap.SameBut a s.heap h') (hor : OR X Z h' a o) (hl : ∃ x, h'.get? a = some x) (hv : VR Z v y) (hno : ∀ xs, o ≠ .list xs := by exact nofun) :
  NextR X Z (V.set it o) (some v) (some y) { s with heap := h', toks := t } := ⟨r.set1 (s' := { s with heap := h', toks := t }) k1 ha (butOf hs) nc rfl rfl hor hl (fun xs e => absurd e (hno xs)), y, rfl, hv⟩
theorem anext_sound (hh : A.handled = none) (r : R X Z V s) {rr : Option AV} {a : Addr} (h : anext it V = some (rr, V')) (ha : Z[it]? = some a) : W X A (pyNext (.ref a)) (NextR X Z V' rr) s := by
 refine oNext h (fun l i hit h => ?_) (fun l i hit h => ?_) (fun x left hit h => ?_) (fun x i hit h => ?_) fun d i n ep hit h => ?_
 ·refine (r.obj _ _ _ ha hit).elim fun la z => ?_
  have nc := iter_not_code (by intro q t; simp) z.2
  refine oList h fun xs hxs h => liV r z.1 hxs fun vs hl hv _ => optCA h (fun x hx h => updM h fun k1 _ => ?_) fun hx h => updM h fun k1 _ => ?_
  ·exact (hv.get hx).elim fun y e => wpAny_pyNext_list_item z.2 hl (x := y) (Array.getElem?_toList.symm.trans e.1) fun h' hI' hs => toNext r k1 ha nc hs ⟨la, z.1, hI'⟩ (hI'.elim fun o e => ⟨o, e.1⟩) e.2
  ·exact next_list_end hh z.2 hl (Array.getElem?_toList.symm.trans (hv.none hx)) (toEnd r k1 ha nc)
 ·refine (r.obj _ _ _ ha hit).elim fun la z => ?_
  have nc := iter_not_code (by intro q t; simp) z.2
  refine oTuple h fun xs hxs h => tuV r z.1 hxs fun vs hl hv _ => optCA h (fun x hx h => updM h fun k1 _ => ?_) fun hx h => updM h fun k1 _ => ?_
  ·exact (hv.get hx).elim fun y e => wpAny_pyNext_tuple_item z.2 hl (x := y) (Array.getElem?_toList.symm.trans e.1) fun h' hI' hs => toNext r k1 ha nc hs ⟨la, z.1, hI'⟩ (hI'.elim fun o e => ⟨o, e.1⟩) e.2
  ·exact next_tuple_end hh z.2 hl (Array.getElem?_toList.symm.trans (hv.none hx)) (toEnd r k1 ha nc)
 ·have hI : IsRangeIter s.heap a x left 1 := r.obj _ _ _ ha hit
  have nc := iter_not_code (h := s.heap) (a := a) (c := .type "range_iterator") (vs := #[rawInt x, rawInt left, rawInt 1]) (by intro q t; simp [rawInt]) ⟨_, hI, rfl, rfl⟩
  refine iteC h (fun hlt h => updM h fun k1 _ => ?_) fun hlt h => updM h fun k1 _ => ?_
  ·exact wpAny_pyNext_range_item hI hlt fun h' hI' hs => toNext r k1 ha nc hs hI' ⟨_, hI'⟩ ⟨_, rfl⟩
  ·exact next_range_end hh hI (Int.not_lt.mp hlt) (toEnd r k1 ha nc)
 ·refine (r.obj _ _ _ ha hit).elim fun t hI => ?_
  have nc := iter_not_code (by intro q t; simp) hI
  refine optCN h (fun c hx h => updM h fun k1 _ => ?_) fun hx h => updM h fun k1 _ => ?_
  ·exact wpAny_pyNext_ascii_item hI hx fun h' hI' hs => toNext r k1 ha nc hs ⟨t, hI'⟩ (hI'.elim fun o e => ⟨o, e.1⟩) ⟨_, rfl⟩
  ·exact next_ascii_end hh hI hx (toEnd r k1 ha nc)
 ·refine (r.obj _ _ _ ha hit).elim fun da z => ?_
  have nc := iter_not_code (by intro q t; simp) z.2
  refine oDict h fun kvs ep' hxs h => diV r z.1 hxs fun ps e hd hk hn => iteS h fun hc h => ?_
  obtain rfl := hn ep hc.1
  have hlen : n = ps.length := hc.2.symm.trans hk.length
  have hI := hlen ▸ z.2
  refine optCK h (fun kv hx h => updM h fun k1 _ => ?_) fun hx h => updM h fun k1 _ => ?_
  ·exact (hk.at hx).elim fun v hv => wpAny_pyNext_dict_item hI hd hv fun key h' hkey hI' hs => toNext r k1 ha nc hs ⟨da, z.1, hlen ▸ hI'⟩ (hI'.elim fun o e => ⟨o, e.1⟩) (Value.isStrOf_shape hkey)
  ·exact next_dict_end hh hI hd (List.getElem?_eq_none (hk.length ▸ List.getElem?_eq_none_iff.mp hx)) (toEnd r k1 ha nc)
end
section
open PySem.W
variable {X : Fx} {Z Z' : List Addr} {V V' : Sg} {s s' : Shared} {A : Around} {E : AE} {env : Env}
noncomputable def nameEs (xs : List (Nat × Pos)) : List Expr := xs.map fun x => .Name (nm x.1) x.2
theorem assignEach_names (env : Env) (xs : List (Nat × Pos)) : assignEach (nameEs xs) env = xs.map fun x => (false, assign (.Name (nm x.1) x.2) env) := by
 induction xs with
 | nil => rfl
 | cons x xs ih => exact congrArg ((false, assign (.Name (nm x.1) x.2) env) :: ·) ih
theorem assign_name_sound (r : R X Z V s) (e : EnvR X Z E env) {x : Nat} (hv : VR Z v y) (h : setN E x v V = some V') : W X A (assign (.Name (nm x) p) env y) (fun _ s' => R X Z V' s') s :=
 wpAny_assign_Name (storeName_sound r e hv h)
theorem inOrder_sound (e : EnvR X Z E env) (f : Nat × Pos -> Value -> Sem Unit) (hf : ∀ (x : Nat × Pos) (v : AV) (y : Value) (V V' : Sg) (s : Shared), R X Z V s -> VR Z v y -> setN E x.1 v V = some V' -> W X A (f x y) (fun _ s' => R X Z V' s') s)
  (xs : List (Nat × Pos)) {vs : List AV} {ys : List Value} {V V' : Sg} {s : Shared} (r : R X Z V s) (hv : VRs Z vs ys) (h : setEach E xs vs V = some V') : W X A (assignInOrder (xs.map f) ys) (fun _ s' => R X Z V' s') s := by
 induction hv generalizing xs V s with
 | nil =>
  rcases xs with _ | ⟨x, xs⟩
  ·exact someE h (wpAny_pure r)
  ·exact noneS h
 | cons hv hr ih =>
  rcases xs with _ | ⟨x, xs⟩
  ·exact noneS h
  ·exact bindE h fun V₁ h1 h => wpAny_bind (wpAny_holding (W.mono (hf x _ _ V V₁ s r hv h1) fun _ s₁ r₁ => ih xs r₁ h))
theorem draw_list {l it : Addr} {items : Array Value} (hne : l ≠ it) (n i : Nat) (s : Shared) (Q : List Value -> Shared -> Prop) (hit : s.heap.IsListIter it l i) (ht : s.heap.IsList l items) (hle : i + n <= items.size)
  (hQ : ∀ h', h'.IsListIter it l (i + n) -> Heap.SameBut it s.heap h' -> Q ((items.toList.drop i).take n) { s with heap := h' }) : W X A (draw (.ref it) n) Q s := by
 induction n generalizing i s Q with
 | zero => exact wpAny_pure (hQ s.heap hit (Heap.SameBut.refl ..))
 | succ n ih =>
  have hlt : i < items.size := Nat.lt_of_lt_of_le (Nat.lt_add_of_pos_right (Nat.succ_pos n)) hle
  rw [draw]
  refine wpAny_bind (wpAny_pyNext_list_item hit ht (x := items[i]) (Array.getElem?_eq_getElem hlt) fun h₁ hit₁ hs₁ => ?_)
  refine wpAny_bind (wpAny_holding (ih (i + 1) _ _ hit₁ (ht.extBut hs₁.extBut hne) (Nat.le_trans (Nat.le_of_eq (Nat.add_right_comm ..)) hle) fun h₂ hit₂ hs₂ => wpAny_pure ?_))
  have := hQ h₂ (Nat.add_right_comm i 1 n ▸ hit₂) (hs₁.trans hs₂)
  rw [List.drop_eq_getElem_cons (Array.length_toList ▸ hlt), List.take_succ_cons] at this
  exact this
theorem unpack_list {l : Addr} {items : Array Value} {Q : List Value -> Shared -> Prop} (hh : A.handled = none) (hl : s.heap.IsList l items)
  (hQ : ∀ h', Heap.ExtBut s.heap.objs.size s.heap h' -> Q items.toList { s with heap := h' }) : W X A (unpackItems (.ref l) items.size none) Q s := by
 have hne : l ≠ s.heap.objs.size := by obtain ⟨o, ho, _⟩ := hl; exact Nat.ne_of_lt (Heap.lt_size ho)
 have hnat : ∀ {Q' : Bool -> Shared -> Prop}, Q' false s -> W X A (notIterableAtAll (.ref l)) Q' s := fun h => by
  unfold notIterableAtAll
  exact wpAny_bind (wpAny_specialOf hl.typeIs slot_list_iter.lookup (wpAny_pure h))
 unfold unpackItems
 refine wpAny_bind (hnat ?_)
 refine rwR (if_neg Bool.false_ne_true) ?_
 refine wpAny_bind (wpAny_holding (wpAny_pyIter_list hl ?_))
 refine wpAny_bind (wpAny_holding (draw_list hne items.size 0 _ _ ⟨_, Heap.get?_push_size _ rfl, rfl, rfl⟩ (hl.push _) (by lia) fun h₁ hit₁ hs₁ => ?_))
 have hall : List.take items.size (List.drop 0 items.toList) = items.toList := by
  refine rwR List.drop_zero ?_
  exact List.take_of_length_le (by simp)
 refine rwR hall ?_
 refine rwR (if_neg (by simp)) ?_
 have hl₁ : h₁.IsList l items := (hl.push _).extBut hs₁.extBut hne
 refine wpAny_bind (wpAny_holding (wpAny_pyNext_list_end hh hit₁ hl₁ (by simp) fun h₂ he₂ => ?_))
 refine rwR (if_neg (by simp)) ?_
 exact wpAny_pure (hQ h₂ fun b o hb e => he₂ b o hb (hs₁.extBut b o hb (Heap.get?_push_of_some _ e)))
theorem R.ext (r : R X Z V s) (hs : Heap.ExtBut s.heap.objs.size s.heap h') : R X Z V { s with heap := h' } :=
 r.grow (fun b o e => hs b o (fun q => by rw [q, Heap.get?_none_of_le (Nat.le_refl _)] at e; cases e) e) rfl rfl
theorem unpackA_sound (hh : A.handled = none) (r : R X Z V s) (h : unpackA v n V = some xs) (hv : VR Z v y) : W X A (unpackItems y n none) (fun ys s' => R X Z V s' /\ VRs Z xs ys) s := by
 refine refE h fun j e h => ?_
 subst e
 refine refV hv fun p hp => oSeq h (fun zs hz h => iteS h fun hlen h => someE h ?_) fun zs hz h => iteS h fun hlen h => someE h ?_
 ·exact liV r hp hz fun vs hl hr e1 => hlen ▸ e1 ▸ unpack_list hh hl fun h' hs => ⟨r.ext hs, hr⟩
 ·exact tuV r hp hz fun vs hl hr e1 => hlen ▸ e1 ▸ wpAny_unpackItems_tuple hh hl fun h' hs => ⟨r.ext hs, hr⟩
theorem findIdx_names {α β : Type} (xs : List α) (f : α -> β) : (xs.map fun x => (false, f x)).findIdx? (fun x => x.1) = none := by
 rw [List.findIdx?_eq_none_iff]
 intro x hx
 refine e3 (List.mem_map.mp hx) fun y _ z206 => ?_
 subst z206
 rfl
theorem assignT_sound (hh : A.handled = none) (r : R X Z V s) (e : EnvR X Z E env) {xs : List (Nat × Pos)} {vs : List AV} (hu : unpackA v xs.length V = some vs) (hv : VR Z v y) (h : setEach E xs vs V = some V') :
  W X A (assign (.Tuple (nameEs xs) 0 pt) env y) (fun _ s' => R X Z V' s') s := by
 rw [arm_assign_Tuple]
 refine wpAny_bind (wpAny_standAt ?_)
 rw [assignEach_names]
 unfold unpack
 rw [List.length_map, findIdx_names]
 refine wpAny_bind (wpAny_holding (W.mono (unpackA_sound hh r hu hv) fun ys s₁ hq => ?_))
 refine e2 hq fun r₁ hys => ?_
 refine rwR List.map_map ?_
 exact inOrder_sound e (fun x => assign (.Name (nm x.1) x.2) env) (fun x v y V V' s r hv h => assign_name_sound r e hv h) xs r₁ hys h
theorem assignTo_sound (hh : A.handled = none) (r : R X Z V s) (e : EnvR X Z E env) {tp : Option Pos} (hv : VR Z v y) (h : assignTo E tg tp v V = some V') :
  W X A (assign (targetOf tg tp) env y) (fun _ s' => R X Z V' s') s := by
 rcases tp with _ | tp
 ·rcases tg with _ | ⟨x, _ | ⟨z, l⟩⟩
  ·exact noneS h
  ·exact assign_name_sound r e hv h
  ·exact noneS h
 ·exact bindE h fun vs h1 h2 => assignT_sound hh r e h1 hv h2
noncomputable def NoTuples (a : Addr) (s : Shared) : Prop := ∃ o c vs, s.heap.get? a = some o /\ o.cls = .type c /\ o.data = .fields vs /\
  ["enumerate", "zip", "dict_itemiterator", "dict_reverseitemiterator", "odict_iterator", "itertools.zip_longest", "itertools.pairwise"].contains c = false
theorem NoTuples.mk {a : Addr} {c : String} {vs : Array Value} (h : ∃ o, s.heap.get? a = some o /\ o.cls = .type c /\ o.data = .fields vs) (hc : ["enumerate", "zip", "dict_itemiterator", "dict_reverseitemiterator", "odict_iterator", "itertools.zip_longest", "itertools.pairwise"].contains c = false) : NoTuples a s :=
 h.elim fun o e => ⟨o, c, vs, e.1, e.2.1, e.2.2, hc⟩
theorem owned_sound {M : Model} {tp : Option Pos} {a : Addr} {v : Value} {Q : Unit -> Shared -> Prop} {E : Value -> Shared -> Prop} (ho : NoTuples a s) (hQ : Q () s) :
  wpAny M A (letOwnedTupleGo (targetOf tg tp) (.ref a) v) Q E s := by
 have tup : ∀ es l p, wpAny M A (letOwnedTupleGo (.Tuple es l p) (.ref a) v) Q E s := fun es l p => by
  refine e7 ho fun o c vs ho hc hd hn => ?_
  by_cases h : ∃ q, v = .ref q
  ·refine e2 h fun q z160 => ?_
   subst z160
   refine wpAny_bind (wpAny_load ho ?_)
   refine rwR hc ?_
   refine rwR hd ?_
   dsimp only
   rw [hn, Bool.false_and, if_neg Bool.false_ne_true]
   exact wpAny_pure hQ
  ·rcases v <;> first | exact wpAny_pure hQ | exact absurd ⟨_, rfl⟩ h
 rcases tp with _ | p
 ·rcases tg with _ | ⟨x, _ | ⟨y, l⟩⟩
  ·exact tup _ _ _
  ·exact wpAny_pure hQ
  ·exact tup _ _ _
 ·exact tup _ _ _
noncomputable def isIter : AO -> Bool
 | .liter .. | .titer .. | .riter .. | .siter .. | .kiter .. => true
 | _ => false
theorem iter_owned (r : R X Z V s) {o : AO} {a : Addr} (ho : V[it]? = some o) (hi : isIter o = true) (ha : Z[it]? = some a) : NoTuples a s := by
 have h := r.obj _ _ _ ha ho
 clear ho
 induction o with
 | liter l i => exact h.elim fun _ h => .mk h.2 (by decide)
 | titer l i => exact h.elim fun _ h => .mk h.2 (by decide)
 | riter x l => exact ⟨_, "range_iterator", _, h, rfl, rfl, by decide⟩
 | siter x i => exact h.elim fun _ h => .mk h (by decide)
 | kiter d i n e => exact h.elim fun _ h => .mk h.2 (by decide)
 | _ => exact absurd hi Bool.false_ne_true
theorem step_iter {o : AO} (hi : isIter o = true) (e : (upd it o V).map (some x, ·) = some (some v, V')) : ∃ o, V'[it]? = some o /\ isIter o = true :=
 mapE e fun _ h1 h2 => (Prod.mk.inj h2).2 ▸ updE h1 fun _ k2 => ⟨o, List.getElem?_set_self k2, hi⟩
theorem step_end {P : Prop} (e : (upd it .dead V).map (fun x => ((none : Option AV), x)) = some (some v, V')) : P :=
 mapE e fun _ _ h2 => noneS (Prod.mk.inj h2).1
theorem anext_iter (h : anext it V = some (some v, V')) : ∃ o, V'[it]? = some o /\ isIter o = true :=
 oNext h (fun _ _ _ h => oList h fun _ _ h => optCA h (fun _ _ h => step_iter rfl h) fun _ h => step_end h)
  (fun _ _ _ h => oTuple h fun _ _ h => optCA h (fun _ _ h => step_iter rfl h) fun _ h => step_end h)
  (fun _ _ _ h => iteC h (fun _ h => step_iter rfl h) fun _ h => step_end h)
  (fun _ _ _ h => optCN h (fun _ _ h => step_iter rfl h) fun _ h => step_end h)
  (fun _ _ _ _ _ h => oDict h fun _ _ _ h => iteS h fun _ h => optCK h (fun _ _ h => step_iter rfl h) fun _ h => step_end h)
end
section
open PySem.W
variable {X : Fx} {Z Z' : List Addr} {V V' : Sg} {s s' : Shared} {A : Around} {E : AE} {env : Env}
theorem folded_py (e : Ex) (env : Env) (x : Value) : foldedSetIterable e.py env x = pure x := by rcases e <;> rfl
theorem forLoop_sound (S : Sd X r n) (hm : Room A n) {tp : Option Pos} {b o : List Sm} {k : Nat} {a : Addr} {f : AF} (hR : R X Z V s) (he : EnvR X Z E env) (ha : Z[it]? = some a)
  (h : loopFor r E tg tp b o it k V = some (f, V')) :
  codeAny (model X.prog X.w) A (.forLoop (targetOf tg tp) (.ref a) (pyS b) (pyS o) env) (fun q s' => ∃ fl, q = .ok fl /\ PostF X Z V' f fl s') s := by
 refine codeAny_forLoop_any (fun k s => ∃ Z₁ V₁, Z <+: Z₁ /\ R X Z₁ V₁ s /\ loopFor r E tg tp b o it k V₁ = some (f, V')) (fun k s hI => ?_) k ⟨Z, V, List.prefix_refl _, hR, h⟩
 refine e5 hI fun Z₁ V₁ p₁ r₁ h => ?_
 rcases k with _ | k
 ·exact noneS h
 refine bindP h fun rr V₂ h1 h => W.to (anext_sound hm.h r₁ h1 (get_prefix p₁ ha)) fun z s₁ hz => ?_
 rcases rr with _ | v
 ·obtain rfl : z = none := hz.2
  exact W.to (S.ex h hz.1 (he.mono p₁) hm) fun fl s₃ hq => ⟨fl, rfl, hq.elim fun Z₃ q => ⟨Z₃, p₁.trans q.1, q.2⟩⟩
 ·refine hz.2.elim fun y e => ?_
  obtain rfl := e.1
  refine (anext_iter h1).elim fun ob ho => owned_sound (iter_owned hz.1 ho.1 ho.2 (get_prefix p₁ ha)) ?_
  refine bindE h fun V₃ h2 h => bindP h fun f' V₄ h3 h => ?_
  refine W.to (assignTo_sound hm.h hz.1 (he.mono p₁) e.2 h2) fun _ s₂ r₃ => ?_
  refine W.to (S.ex h3 r₃ (he.mono p₁) hm) fun fl s₃ hq => ?_
  refine postFE hq fun Z₄ p₄ r₄ hf => ?_
  rcases f' with _ | _ | w
  ·obtain rfl : fl = .next := hf
   exact ⟨k, Nat.lt_succ_self k, Z₄, V₄, p₁.trans p₄, r₄, h⟩
  ·obtain rfl : fl = .brk := hf
   exact someP h ⟨.next, rfl, Z₄, p₁.trans p₄, r₄, rfl⟩
  ·exact hf.elim fun z q => rwR q.1 (someP h ⟨.ret z, rfl, Z₄, p₁.trans p₄, r₄, z, rfl, q.2⟩)
theorem for_ex (K : Ok X) (S : Sd X r n) (hm : Room A n) (hR : R X Z V s) (he : EnvR X Z E env) {tp : Option Pos} {it : Ex} {b o : List Sm} {f : AF} (h : exec1 r E (.forS tg tp it b o p) V = some (f, V')) :
  W X A (exec (Sm.forS tg tp it b o p).py env) (PostF X Z V' f) s := by
 refine bindP h fun v V₁ h1 h => ?_
 refine bindP h fun j V₂ h2 h => ?_
 refine (?_ : W X A (exec (.For (targetOf tg tp) it.py (pyS b) (pyS o) p) env) _ s)
 refine wpAny_For (W.mono (S.ev h1 hR he hm) fun x s₁ hp => ?_) (folded_py it env)
 refine postE hp fun Z₁ p₁ r₁ v₁ => ?_
 refine W.mono (aiter_sound K r₁ h2 v₁) fun z s₂ hz => postE hz fun Z₂ p₂ r₂ hv => refV hv fun a ha => ?_
 exact codeAny_mono (forLoop_sound S hm r₂ (he.mono (p₁.trans p₂)) ha h) fun q s₃ hq => hq.elim fun fl z => rwR z.1 (z.2.elim fun Z₃ q => ⟨Z₃, p₁.trans (p₂.trans q.1), q.2⟩)
theorem mapSeq_dict (o : Obj) (f : Array Value -> Array Value) : (o.mapSeq f).dict = o.dict := by
 rcases o with ⟨c, d, dat, sl⟩; rcases dat <;> rfl
theorem append_call (r : R X Z V s) {a : Addr} (ha : Z[acc]? = some a) (hx : V[acc]? = some (.list xs)) (hlen : xs.length <= 100000) (hu : upd acc (.list (xs ++ [v])) V = some V') (hv : VR Z v y) :
  W X A (call (.builtin "list.append") [.ref a, y]) (fun z s' => z = .none /\ R X Z V' s') s := by
 refine updE hu fun h1 h2 => liV r ha hx fun vs hl hr e1 => ?_
 obtain ⟨o, ho, hc, n, hd⟩ := id hl
 refine (Obj.data_mapSeq hd (·.push y)).elim fun n' hd' => ?_
 refine wpAny_call_entry slot_list_append hl.typeIs entry_list_append ?_ (args_list_append _ _)
 refine (?_ : wpAny _ _ (updateSeq a (·.push y) >>= fun _ => ret .none) _ _ s)
 have hs : vs.size <= 100000 := e1 ▸ hlen
 have hg : (s.heap.update a (Obj.mapSeq (·.push y))).get? a = some (o.mapSeq (·.push y)) := Heap.get?_update_self _ ho (Obj.isFreed_of_seq hd')
 refine wpAny_bind (wpAny_updateSeq (hz := by rw [sizeLine_eq]; exact Nat.le_trans hs (by decide)) (_hz' := by rw [Array.size_push, sizeLine_eq]; exact Nat.le_trans (Nat.succ_le_succ hs) (by decide)) ho hd (wpAny_pure ⟨.none, rfl, rfl, ?_⟩))
 refine r.set1 (s' := { s with heap := s.heap.update a (Obj.mapSeq (·.push y)) }) h1 ha (butOf (Heap.SameBut.update ..)) (fun x hx => ?_) rfl rfl ⟨vs.push y, ⟨_, hg, (Obj.cls_mapSeq ..).trans hc, n', hd'⟩, ?_⟩ ⟨_, hg⟩ (fun zs _ x hx' => ?_)
 ·obtain rfl := uq ho hx
  intro y163
  refine e5 y163 fun ws q t e _ => ?_
  exact nomatch hd.symm.trans e
 ·refine rwR Array.toList_push ?_
  exact hr.append (.cons hv .nil)
 ·obtain rfl := uq hg hx'
  exact (mapSeq_dict ..).trans (r.nd acc a xs ha hx o ho)
theorem pushL_sound (r : R X Z V s) {a : Addr} (ha : Z[acc]? = some a) (h : pushL acc v V = some V') (hv : VR Z v y) : W X A (call (.builtin "list.append") [.ref a, y]) (fun z s' => z = .none /\ R X Z V' s') s :=
 oList h fun _ hx h => iteS h fun hlen h => append_call r ha hx hlen h hv
end
section
open PySem.W
variable {X : Fx} {Z Z' : List Addr} {V V' : Sg} {s s' : Shared} {A : Around} {E : AE} {env : Env}
theorem small_iff {a : Int} (h : small a = true) : -4611686018427387904 < a /\ a < 4611686018427387904 := by
 simpa only [small, Bool.and_eq_true, decide_eq_true_eq] using h
noncomputable def GI (s : Shared) (o : Value) : Prop := ∃ T id, s.TypeIs o T /\ typeLookup (.type T) "__getitem__" = pure (some (.builtin id))
theorem sub_wp {value slice : Expr} {Q : Value -> Shared -> Prop} (hsl : ∀ o i, subscripted slice false o i = operate [o, i] (getItem o i) \/ subscripted slice false o i = operate [i, o] (getItem o i))
  (h : W X A (eval value env) (fun o s₁ => W X A (eval slice env) (fun i s₂ => GI s₂ o /\ W X A (getItem o i) Q s₂) s₁) s) :
  W X A (eval (.Subscript value slice pos) env) Q s := by
 rw [eval_Subscript]
 refine wpAny_bind (wpAny_mono h (fun o s₁ h₁ => wpAny_bind (wpAny_holding (wpAny_mono h₁ (fun i s₂ h₂ => wpAny_bind (wpAny_standAt ?_)) fun _ _ x => x))) fun _ _ x => x)
 refine e2 h₂ fun z165 h₂ => ?_
 refine e4 z165 fun T id hT hl => ?_
 refine wpAny_bind ?_
 refine rwR (getitemInPython_of_ne hT.not_modules) ?_
 refine wpAny_bind (wpAny_specialOf hT hl ?_)
 have fin : ∀ vs, wpAny (model X.prog X.w) A (operate vs (getItem o i)) (fun r s₃ => wpAny (model X.prog X.w) A (letTemporaryGo value o r >>= fun _ => pure r) Q (fun _ _ => False) s₃) (fun _ _ => False) s₂ :=
  fun vs => wpAny_operating (wpAny_mono h₂ (fun r s₃ h₃ => wpAny_bind (W.mono letTemp fun _ s' e => by subst e; exact wpAny_pure h₃)) fun _ _ x => x)
 have fin' : wpAny (model X.prog X.w) A (subscripted slice false o i) (fun r s₃ => wpAny (model X.prog X.w) A (letTemporaryGo value o r >>= fun _ => pure r) Q (fun _ _ => False) s₃) (fun _ _ => False) s₂ := by
  rcases hsl o i with e | e <;> rw [e] <;> exact fin _
 exact wpAny_pure (wpAny_bind fin')
theorem size_get {vs : Array Value} (h : vs.toList[i]? = some y) : vs[i]? = some y := Array.getElem?_toList.symm.trans h
theorem itemL (r : R X Z V s) {k : Int} {u : Tok} {p : Addr} {vs : Array Value} (hl : s.heap.IsList p vs) (hv : VRs Z xs vs.toList) (e1 : xs.length = vs.size) (hc : small k = true /\ -(xs.length : Int) <= k /\ k < xs.length) (h : xs[idx k xs.length]? = some v) : W X A (getItem (.ref p) (.int k u)) (Post X Z V v) s := by
 refine (hv.get h).elim fun y z => ?_
 have hs := small_iff hc.1
 have hy := size_get z.1
 rw [e1] at hc hy
 by_cases hk : k < 0
 ·exact wpAny_getItem_list_neg hl hk hc.2.1 (by lia) ((congrArg (vs[·]?) (if_pos hk)).symm.trans hy) (.intro r z.2)
 ·exact wpAny_getItem_list hl (Int.not_lt.mp hk) (by lia) ((congrArg (vs[·]?) (if_neg hk)).symm.trans hy) (.intro r z.2)
theorem itemT (r : R X Z V s) {k : Int} {u : Tok} {p : Addr} {vs : Array Value} (hl : s.heap.IsTuple p vs) (hv : VRs Z xs vs.toList) (e1 : xs.length = vs.size) (hc : small k = true /\ 0 <= k) (h : xs[k.toNat]? = some v) : W X A (getItem (.ref p) (.int k u)) (Post X Z V v) s := by
 refine (hv.get h).elim fun y z => ?_
 have hs := small_iff hc.1
 have hlt : k.toNat < vs.size := e1 ▸ (List.getElem?_eq_some_iff.mp h).1
 exact PyProof.Rows.getItem_tuple (j := k.toNat) hl (by lia) (by lia) (seqIndex_of hc.2 (by lia)) (size_get z.1) (.intro r z.2)
theorem item_sound (K : Ok X) (r : R X Z V s) {o i : AV} {a b : Value} (h : item o i V = some v) (ha : VR Z o a) (hb : VR Z i b) : GI s a /\ W X A (getItem a b) (Post X Z V v) s := by
 refine refIntRefStrE h (fun j k e e' h => ?_) fun j k e e' h => ?_
 ·subst e e'
  refine refV ha fun p hp => ?_
  refine intV hb fun u => ?_
  refine oSeq h (fun xs hx h => iteS h fun hc h => ?_) fun xs hx h => iteS h fun hc h => ?_
  ·exact liV r hp hx fun vs hl hv e1 => ⟨⟨"list", _, hl.typeIs, slot_list_getitem.lookup⟩, itemL r hl hv e1 hc h⟩
  ·exact tuV r hp hx fun vs hl hv e1 => ⟨⟨"tuple", _, hl.typeIs, slot_tuple_getitem.lookup⟩, itemT r hl hv e1 hc h⟩
 ·subst e e'
  refine refV ha fun p hp => ?_
  refine strV hb fun u => ?_
  refine oDict h fun kvs ep hx h => diV r hp hx fun ps e hd hv _ => ⟨⟨"dict", _, hd.dictOf.mapOf.typeIs, slot_dict_getitem.lookup⟩, ?_⟩
  refine someV h (hv.get k) fun y hy hyr => ?_
  exact wpAny_getItem_of (knd := strKind X.prog X.w) (k := k) (beq_self_eq_true k) hd.dictOf.mapOf hy (.intro (r.tok _) hyr)
theorem subscripted_py (e : Ex) (o i : Value) : subscripted e.py false o i = operate [o, i] (getItem o i) := by cases e <;> rfl
theorem sub_ev (K : Ok X) (S : Sd X r n) (hm : Room A n) (hR : R X Z V s) (he : EnvR X Z E env) {i : Ex} (h : stepEv r E (.sub e i p) V = some (v, V')) : W X A (eval (Ex.sub e i p).py env) (Post X Z V' v) s := by
 refine bindP h fun x V₁ h1 h => ?_
 refine bindP h fun y V₂ h2 h => ?_
 refine bindE h fun z h3 h => ?_
 refine someP h ?_
 refine sub_wp (fun o j => .inl (subscripted_py i o j)) (W.mono (S.ev h1 hR he hm) fun a s₁ hp => ?_)
 refine postE hp fun Z₁ p₁ r₁ v₁ => ?_
 refine W.mono (S.ev h2 r₁ (he.mono p₁) hm) fun b s₂ hq => ?_
 refine postE hq fun Z₂ p₂ r₂ v₂ => ?_
 refine e2 (item_sound (A := A) K r₂ h3 (v₁.mono p₂) v₂) fun g hw => ?_
 exact ⟨g, W.mono hw fun z s₃ hz => hz.pre (p₁.trans p₂)⟩
theorem minmax0 (n : Nat) : (0 : Int) = max 0 (min ((0 : Nat) : Int) (n : Int)) := (Int.max_eq_left (Int.min_le_left (0 : Int) n)).symm
theorem cmin (m n : Nat) : min (m : Int) (n : Int) = ((min m n : Nat) : Int) := by
 rcases Nat.le_total m n with h | h
 ·refine rwR (Nat.min_eq_left h) ?_
  exact rwR (Int.min_eq_left (Int.ofNat_le.mpr h)) rfl
 ·refine rwR (Nat.min_eq_right h) ?_
  exact rwR (Int.min_eq_right (Int.ofNat_le.mpr h)) rfl
theorem minmax (c : Int) (n : Nat) : max 0 (min c (n : Int)) = max 0 (min ((min c.toNat n : Nat) : Int) (n : Int)) := by
 rw [<- cmin, Int.ofNat_toNat, Int.min_assoc, Int.min_self]
 rcases Int.le_total 0 c with h | h
 ·exact rwR (Int.max_eq_left h) rfl
 ·refine rwR (Int.max_eq_right h) ?_
  refine rwR (Int.max_eq_left (Int.le_trans (Int.min_le_left ..) h)) ?_
  exact rwR (Int.max_eq_left (Int.min_le_left ..)) rfl
theorem slice_to (items : Array Value) (k : Int) : (slicePick items none (some k) none).toList = items.toList.take (if k < 0 then (k + items.size).toNat else k.toNat) := by
 generalize hc : (if k < 0 then k + (items.size : Int) else k) = c
 have e0 : (if k < 0 then (k + (items.size : Int)).toNat else k.toNat) = c.toNat := by rw [<- hc]; exact (apply_ite Int.toNat ..).symm
 have e : sliceBounds none (some k) none items.size = sliceBounds (some ((0 : Nat) : Int)) (some ((min c.toNat items.size : Nat) : Int)) none items.size := by
  refine (?_ : ((0 : Int), max 0 (min (if k < 0 then k + (items.size : Int) else k) (items.size : Int)), (1 : Int)) = _)
  refine rwR hc ?_
  refine (?_ : _ = (max 0 (min (if ((0 : Nat) : Int) < 0 then ((0 : Nat) : Int) + (items.size : Int) else ((0 : Nat) : Int)) (items.size : Int)), max 0 (min (if ((min c.toNat items.size : Nat) : Int) < 0 then ((min c.toNat items.size : Nat) : Int) + (items.size : Int) else ((min c.toNat items.size : Nat) : Int)) (items.size : Int)), (1 : Int)))
  refine rwR (if_neg (by decide)) ?_
  refine rwR (if_neg (Int.not_lt.mpr (Int.natCast_nonneg _))) ?_
  exact Prod.ext (minmax0 _) (Prod.ext (minmax _ _) rfl)
 have := slicePick_run items 0 (min c.toNat items.size) (Nat.min_le_right ..) (Nat.zero_le _)
 unfold slicePick at this ⊢
 rw [e, this, e0, List.drop_zero, Nat.sub_zero, <- Array.length_toList, <- List.take_eq_take_min]
theorem VRs.take (h : VRs Z xs vs) : ∀ n, VRs Z (xs.take n) (vs.take n) := by
 induction h with
 | nil => intro n; simp only [List.take_nil]; exact .nil
 | cons a _ ih =>
  intro n
  induction n with
  | zero => exact .nil
  | succ n => exact .cons a (ih n)
theorem cut_sound (r₂ : R X Z V s) {y : AV} {a b : Value} (h : cutTo x y V = some (v, V')) (va : VR Z x a) (vb : VR Z y b) :
  GI { s with heap := s.heap.push { cls := .type "slice", data := .fields #[.none, b, .none] } } a /\
  W X A (getItem a (.ref s.heap.objs.size)) (Post X Z V' v) { s with heap := s.heap.push { cls := .type "slice", data := .fields #[.none, b, .none] } } := by
 refine refInt2E h fun j k e e' h => ?_
 subst e e'
 refine refV va fun q hq => ?_
 refine intV vb fun t => ?_
 refine oList h fun xs hx h => iteS h fun hc h => someP h ?_
 refine liV r₂ hq hx fun vs hl hv e1 => ⟨⟨"list", _, (hl.push _).typeIs, slot_list_getitem.lookup⟩, wpAny_getItem_list_slice (hl.push _) (Heap.IsSliceOf.new ..) .none (.int k t) .none (by simp) ?_ ?_⟩
 have r₃ := r₂.grow (s' := { s with heap := s.heap.push { cls := .type "slice", data := .fields #[.none, .int k t, .none] } }) (fun b o e => Heap.get?_push_of_some _ e) rfl rfl
 exact r₃.list (xs := xs.take (if k < 0 then (k + xs.length).toNat else k.toNat)) (vs := slicePick vs none (some k) none) (by rw [slice_to, e1]; exact hv.take _) s.toks
 refine rwR sizeLine_eq ?_
 exact Nat.le_trans (e1 ▸ hc.2) (by decide)
theorem subTo_ev (K : Ok X) (S : Sd X r n) (hm : Room A n) (hR : R X Z V s) (he : EnvR X Z E env) {hi : Ex} {ps : Pos} (h : stepEv r E (.subTo e hi ps p) V = some (v, V')) : W X A (eval (Ex.subTo e hi ps p).py env) (Post X Z V' v) s := by
 refine bindP h fun x V₁ h1 h => ?_
 refine bindP h fun y V₂ h2 h => ?_
 refine sub_wp (fun o j => .inr rfl) (W.mono (S.ev h1 hR he hm) fun a s₁ hp => wpAny_Slice ?_)
 refine postE hp fun Z₁ p₁ r₁ v₁ => ?_
 rw [evalPart_none, evalPart_some]
 refine wpAny_pure (W.mono (S.ev h2 r₁ (he.mono p₁) hm) fun b s₂ hq => wpAny_pure ?_)
 refine postE hq fun Z₂ p₂ r₂ v₂ => ?_
 refine e2 (cut_sound (A := A) r₂ h (v₁.mono p₂) v₂) fun g hw => ?_
 exact ⟨g, W.mono hw fun z s₃ hz => hz.pre (p₁.trans p₂)⟩
end
section
open PySem.W
variable {X : Fx} {Z Z' : List Addr} {V V' : Sg} {s s' : Shared} {A : Around} {E : AE} {env : Env}
theorem list_set_at {w : World} {E : Value -> Shared -> Prop} {l : Addr} {items : Array Value} {k : Int} {t : Tok} {v : Value} {o : Obj} {Q : Unit -> Shared -> Prop} (ho : s.heap.get? l = some o) (hc : o.cls = .type "list") (hd : o.data = .seq items n)
  (h0 : 0 <= k) (hfit : k < 2 ^ 63) (hn : k < items.size) (hQ : Q () { s with heap := s.heap.update l (Obj.mapSeq (·.setIfInBounds k.toNat v)) }) : wpAny (model prog w) A (setItem (.ref l) (.int k t) v) Q E s := by
 have hT : s.TypeIs (.ref l) "list" := ⟨o, ho, hc⟩
 unfold setItem
 try with_reducible refine wpAny_holding ?_
 first | refine wpAny_bind (wpAny_pure ?_) | skip
 refine wpAny_bind (wpAny_sequenceKey hT (by decide) ?_)
 refine wpAny_bind (wpAny_callSpecial?_slot (name := Str.ofString "__setitem__") hT slot_list_setitem
  (wpAny_call_entry slot_list_setitem hT entry_list_setitem ?_ (args_list_setitem _ _ _)))
 show wpAny _ _ (Builtin.List.listSubscript? (.int k t) >>= _) _ _ s
 refine wpAny_bind (wpAny_listSubscript_int (fitsIndex_of h0 hfit) ?_)
 clear hfit
 obtain ⟨j, rfl⟩ := Int.eq_ofNat_of_zero_le h0
 have hj : j < items.size := Int.ofNat_lt.mp hn
 show wpAny _ _ ((seqItemAt l j >>= fun r => pure (r.map (j, ·))) >>= _) _ _ s
 refine wpAny_bind (wpAny_bind (wpAny_seqItemAt ho hd (wpAny_pure ?_)))
 rw [Array.getElem?_eq_getElem hj]
 show wpAny _ _ (setSeqItemAt l j v >>= _) _ _ s
 refine wpAny_bind (wpAny_setSeqItemAt ho hd ?_)
 first
  | exact wpAny_bind (wpAny_pure (wpAny_pure ⟨.none, rfl, wpAny_pure hQ⟩))
  | exact wpAny_pure ⟨.none, rfl, wpAny_pure hQ⟩
theorem dictAt_not_code {a : Addr} {e : Nat} {w : World} (hd : h.DictAt (strKind prog w) a ps e) (x : Obj) (hx : h.get? a = some x) : ¬ CodeLike x := by
 refine e6 hd fun o es ho _ hdd _ => ?_
 obtain rfl := uq ho hx
 intro y15
 refine e5 y15 fun vs q t e _ => ?_
 exact nomatch hdd.symm.trans e
theorem ep_after {kvs : List (Str × AV)} {e : Nat} {k : Str} (hk : KVs Z kvs ps) (hn : ∀ n, ep = some n -> e = n) (n : Nat) (h : (dput k v (kvs, ep)).2 = some n) : epAfter ps k e = n := by
 have h : (if (sget k kvs).isSome = true then ep else ep.map (· + 1)) = some n := h
 refine (?_ : (if (valueAt ps k).isSome = true then e else e + 1) = n)
 refine rwL (hk.any k) ?_
 by_cases q : (sget k kvs).isSome = true
 ·rw [if_pos q] at h ⊢; exact hn n h
 ·rw [if_neg q] at h ⊢
  exact mapE h fun m h1 h2 => (hn m h1).symm ▸ h2
theorem setL (r : R X Z V s) {j m : Nat} {u : Tok} {p : Addr} (hp : Z[j]? = some p) (hx : V[j]? = some (.list xs)) (hm : small m = true) (hlt : (m : Int) < xs.length) (k1 : nTop <= j) (hv : VR Z v y) : W X A (setItem (.ref p) (.int m u) y) (fun _ s' => R X Z (V.set j (.list (xs.set m v))) s') s :=
 liV r hp hx fun vs hl hr e1 => by
  have hs := small_iff hm
  obtain ⟨ob, ho, hcl, n, hd⟩ := id hl
  refine (Obj.data_mapSeq hd (·.setIfInBounds m y)).elim fun n' hd' => ?_
  have hg : (s.heap.update p (Obj.mapSeq (·.setIfInBounds m y))).get? p = some (ob.mapSeq (·.setIfInBounds m y)) := Heap.get?_update_self _ ho (Obj.isFreed_of_seq hd')
  refine list_set_at ho hcl hd (Int.natCast_nonneg m) (by lia) (e1 ▸ hlt) ?_
  refine r.set1 (s' := { s with heap := s.heap.update p (Obj.mapSeq (·.setIfInBounds m y)) }) k1 hp (butOf (Heap.SameBut.update ..)) (fun x hx => ?_) rfl rfl ⟨_, ⟨_, hg, (Obj.cls_mapSeq ..).trans hcl, n', hd'⟩, ?_⟩ ⟨_, hg⟩ (fun zs _ x hx' => ?_)
  ·obtain rfl := uq ho hx
   intro y16
   refine e5 y16 fun ws q t e _ => ?_
   exact nomatch hd.symm.trans e
  ·refine rwR Array.toList_setIfInBounds ?_
   exact hr.set hv m
  ·obtain rfl := uq hg hx'
   exact (mapSeq_dict ..).trans (r.nd j p xs hp hx ob ho)
theorem setItm_sound (r : R X Z V s) {o i : AV} {a b : Value} (h : setItm o i v V = some V') (ha : VR Z o a) (hb : VR Z i b) (hv : VR Z v y) : W X A (setItem a b y) (fun _ s' => R X Z V' s') s := by
 refine refIntRefStrE h (fun j k e e' h => ?_) fun j k e e' h => ?_
 ·subst e e'
  refine refV ha fun p hp => ?_
  refine intV hb fun u => oList h fun xs hx h => iteS h fun hc h => updE h fun k1 _ => ?_
  obtain ⟨m, rfl⟩ := Int.eq_ofNat_of_zero_le hc.2.1
  exact setL r hp hx hc.1 hc.2.2 k1 hv
 ·subst e e'
  refine refV ha fun p hp => ?_
  refine strV hb fun u => oDict h fun kvs ep hx h => iteS h fun hc h => updE h fun k1 _ => ?_
  refine diV r hp hx fun ps e hd hk hn => setItem_at (k := k) (beq_self_eq_true k) hd (Nat.le_trans (hk.length ▸ hc) (by decide)) fun h' hd' hs => ?_
  exact r.set1 (s' := { s with heap := h', toks := s.toks + 1 }) k1 hp (butOf hs) (dictAt_not_code hd) rfl rfl ⟨_, _, hd', hk.put hd.nodup hv, ep_after hk hn⟩ (hd'.elim fun o z => z.elim fun _ z => ⟨o, z.1⟩)
theorem assignAll_sound (xs : List (Nat × Pos)) {s : Shared} (r : R X Z V s) (e : EnvR X Z E env) (hv : VR Z v y) (h : setNs E v xs V = some V') : W X A (assignAll y (xs.map fun x => assign (.Name (nm x.1) x.2) env)) (fun _ s' => R X Z V' s') s := by
 induction xs generalizing V s with
 | nil => exact someE h (wpAny_pure r)
 | cons x xs ih =>
  refine bindE h fun V₁ h1 h2 => ?_
  rcases xs with _ | ⟨z, xs⟩
  ·exact someE h2 (assign_name_sound r e hv h1)
  ·exact wpAny_bind (wpAny_holding (W.mono (assign_name_sound r e hv h1) fun _ s₁ r₁ => ih r₁ h2))
theorem noSwaps (xs : List (Nat × Pos)) (e : Ex) (env : Env) : swappedStores (nameEs xs) e.py env = pure none := by
 rcases xs with _ | ⟨x, _ | ⟨y, xs⟩⟩ <;> rcases e <;> rfl
theorem noUse (h : isComp e = false) (t : Option Expr) (l : Nat) (env : Env) : swapsWith e.py t l env = pure false := by
 rcases e <;> first | rfl | exact nomatch h
theorem swaps_b (e : Ex) (x : Nat × Pos) (l : Nat) (env : Env) : ∃ b, swapsWith e.py (some (.Name (nm x.1) x.2)) l env = pure b := by
 rcases e <;> exact ⟨_, rfl⟩
theorem each_snd (xs : List (Nat × Pos)) (env : Env) : (assignEach (nameEs xs) env).map (·.2) = xs.map fun x => assign (.Name (nm x.1) x.2) env := by
 rw [assignEach_names]
 refine rwR List.map_map ?_
 rfl
theorem setNs_one {x : Nat × Pos} (h : setNs E v [x] V = some V') : setN E x.1 v V = some V' := bindE h fun _ h3 h4 => h3.trans h4
theorem assign_plain (S : Sd X r n) (hm : Room A n) (hR : R X Z V s) (he : EnvR X Z E env) {xs : List (Nat × Pos)} (h1 : r.ev E e V = some (v, V₁)) (h2 : setNs E v xs V₁ = some V') (hs : swapsWithSole (nameEs xs) e.py p.line env = pure false) :
  W X A (exec (.Assign (nameEs xs) e.py p) env) (PostF X Z V' .next) s := by
 refine wpAny_Assign_stores (W.mono (S.ev h1 hR he hm) fun y s₁ hp => ?_) hs (noSwaps xs e env)
 refine postE hp fun Z₁ p₁ r₁ v₁ => ?_
 rw [each_snd]
 exact W.mono (assignAll_sound xs r₁ (he.mono p₁) v₁ h2) fun _ s₂ r₂ => ⟨Z₁, p₁, r₂, rfl⟩
theorem assign_ex (S : Sd X r n) (hm : Room A n) (hR : R X Z V s) (he : EnvR X Z E env) {xs : List (Nat × Pos)} {f : AF} (h : exec1 r E (.assign xs e p) V = some (f, V')) :
  W X A (exec (Sm.assign xs e p).py env) (PostF X Z V' f) s := by
 refine bindP h fun v V₁ h1 h => bindE h fun V₂ h2 h => someP h ?_
 refine (?_ : W X A (exec (.Assign (nameEs xs) e.py p) env) _ s)
 rcases xs with _ | ⟨x, _ | ⟨z, xs⟩⟩
 ·exact assign_plain S hm hR he h1 h2 rfl
 ·by_cases hc : isComp e = true
  ·refine (swaps_b e x p.line env).elim fun b hb => ?_
   rcases b with _ | _
   ·exact assign_plain S hm hR he h1 h2 hb
   ·rw [exec_Assign_arm]
    refine wpAny_bind (wpAny_standAt ?_)
    rw [show swapsWithSole (nameEs [x]) e.py p.line env = pure true from hb]
    refine wpAny_bind (wpAny_pure ?_)
    refine rwR (if_pos rfl) ?_
    rw [each_snd]
    exact wpAny_bind (W.mono (S.us hc h1 (setNs_one h2) hR he hm) fun _ s₂ hq => wpAny_pure (hq.elim fun Z₂ q => ⟨Z₂, q.1, q.2, rfl⟩))
  ·exact assign_plain S hm hR he h1 h2 (noUse (Bool.eq_false_iff.mpr hc) (some (.Name (nm x.1) x.2)) p.line env)
 ·exact assign_plain S hm hR he h1 h2 rfl
theorem swapsA (e : Ex) (o : Expr) (a : Str) (q : Pos) (l : Nat) (env : Env) : swapsWith e.py (some (.Attribute o a q)) l env = pure false := by rcases e <;> rfl
theorem swappedA (e : Ex) (o : Expr) (a : Str) (q : Pos) (env : Env) : swappedStores [.Attribute o a q] e.py env = pure none := by rcases e <;> rfl
theorem swapsS (e : Ex) (o i : Expr) (q : Pos) (l : Nat) (env : Env) : swapsWith e.py (some (.Subscript o i q)) l env = pure false := by rcases e <;> rfl
theorem swappedS (e : Ex) (o i : Expr) (q : Pos) (env : Env) : swappedStores [.Subscript o i q] e.py env = pure none := by rcases e <;> rfl
theorem assignA_ex (K : Ok X) (S : Sd X r n) (hm : Room A n) (hR : R X Z V s) (he : EnvR X Z E env) {o : Ex} {f : AF} (h : exec1 r E (.assignA o a pa e p) V = some (f, V')) :
  W X A (exec (Sm.assignA o a pa e p).py env) (PostF X Z V' f) s := by
 refine bindP h fun v V₁ h1 h => ?_
 refine bindP h fun ov V₂ h2 h => ?_
 refine bindE h fun V₃ h3 h => ?_
 refine someP h ?_
 refine (?_ : W X A (exec (.Assign [.Attribute o.py (nm a) pa] e.py p) env) _ s)
 refine wpAny_Assign_stores (W.mono (S.ev h1 hR he hm) fun y s₁ hp => ?_) (swapsA e o.py (nm a) pa p.line env) (swappedA e o.py (nm a) pa env)
 refine postE hp fun Z₁ p₁ r₁ v₁ => ?_
 refine (?_ : W X A (assign (.Attribute o.py (nm a) pa) env y) _ s₁)
 rw [arm_assign_Attribute]
 refine wpAny_bind (wpAny_holding (W.mono (S.ev h2 r₁ (he.mono p₁) hm) fun z s₂ hz => ?_))
 refine postE hz fun Z₂ p₂ r₂ v₂ => ?_
 refine wpAny_bind (wpAny_standAt (wpAny_bind (wpAny_holding (W.mono (setAttrA_sound K r₂ h3 v₂ (v₁.mono p₂)) fun _ s₃ hq => wpAny_release ?_))))
 refine e3 hq fun Z₃ p₃ r₃ => ?_
 exact i4 Z₃ (p₁.trans (p₂.trans p₃)) r₃ rfl
theorem assignS_ex (K : Ok X) (S : Sd X r n) (hm : Room A n) (hR : R X Z V s) (he : EnvR X Z E env) {o i : Ex} {ps : Pos} {f : AF} (h : exec1 r E (.assignS o i ps e p) V = some (f, V')) :
  W X A (exec (Sm.assignS o i ps e p).py env) (PostF X Z V' f) s := by
 refine bindP h fun v V₁ h1 h => ?_
 refine bindP h fun ov V₂ h2 h => ?_
 refine bindP h fun iv V₃ h3 h => ?_
 refine bindE h fun V₄ h4 h => ?_
 refine someP h ?_
 refine (?_ : W X A (exec (.Assign [.Subscript o.py i.py ps] e.py p) env) _ s)
 refine wpAny_Assign_stores (W.mono (S.ev h1 hR he hm) fun y s₁ hp => ?_) (swapsS e o.py i.py ps p.line env) (swappedS e o.py i.py ps env)
 refine postE hp fun Z₁ p₁ r₁ v₁ => ?_
 refine (?_ : W X A (assign (.Subscript o.py i.py ps) env y) _ s₁)
 rw [arm_assign_Subscript]
 refine wpAny_bind (wpAny_holding (W.mono (S.ev h2 r₁ (he.mono p₁) hm) fun z s₂ hz => ?_))
 refine postE hz fun Z₂ p₂ r₂ v₂ => ?_
 refine wpAny_bind (wpAny_holding (W.mono (S.ev h3 r₂ (he.mono (p₁.trans p₂)) hm) fun w s₃ hw => ?_))
 refine postE hw fun Z₃ p₃ r₃ v₃ => ?_
 refine wpAny_bind (wpAny_standAt (wpAny_bind (wpAny_holding (W.mono (setItm_sound r₃ h4 (v₂.mono p₃) v₃ (v₁.mono (p₂.trans p₃))) fun _ s₄ r₄ => wpAny_release ?_))))
 exact i4 Z₃ (p₁.trans (p₂.trans p₃)) r₄ rfl
theorem xorE {α : Type} {r : α} {op : Operator} {y : AV} {f : Int -> Int -> Option α} (h : (match op, x, y with | .BitXor, .int a, .int b => f a b | _, _, _ => none) = some r) (k : ∀ a b, op = .BitXor -> x = .int a -> y = .int b -> f a b = some r -> G) : G := by
 induction op with
 | BitXor =>
  induction x with
  | int a =>
   induction y with
   | int b => exact k a b rfl rfl rfl h
   | _ => exact noneS h
  | _ => exact noneS h
 | _ => exact noneS h
theorem addE {α : Type} {r : α} {op : Operator} {y : AV} {f : Int -> Int -> Option α} (h : (match op, x, y with | .Add, .int a, .int b => f a b | _, _, _ => none) = some r) (k : ∀ a b, op = .Add -> x = .int a -> y = .int b -> f a b = some r -> G) : G := by
 induction op with
 | Add =>
  induction x with
  | int a =>
   induction y with
   | int b => exact k a b rfl rfl rfl h
   | _ => exact noneS h
  | _ => exact noneS h
 | _ => exact noneS h
theorem aug_ex (K : Ok X) (S : Sd X r n) (hm : Room A n) (hR : R X Z V s) (he : EnvR X Z E env) {x : Nat} {px : Pos} {op : Operator} {f : AF} (h : exec1 r E (.aug x px op e p) V = some (f, V')) :
  W X A (exec (Sm.aug x px op e p).py env) (PostF X Z V' f) s := by
 refine bindE h fun old h1 h => ?_
 refine bindP h fun v V₁ h2 h => ?_
 refine wpAny_AugAssign_Name (W.mono (loadName_sound K hR he h1) fun a s₁ ha => ?_)
 obtain ⟨rfl, ha⟩ := ha
 refine W.mono (S.ev h2 hR he hm) fun b s₂ hb => postE hb fun Z₂ p₂ r₂ v₂ => ?_
 have ha := ha.mono p₂
 refine xorE h fun i j eo ei ej h => bindE h fun c h3 h => bindE h fun V₃ h4 h => someP h ?_
 subst eo ei ej
 refine intV ha fun t => ?_
 refine intV v₂ fun u => ?_
 refine e2 (mkI_some h3) fun z23 _ => ?_
 subst z23
 refine ixor_int ?_
 exact W.mono (storeName_sound (r₂.tok _) (he.mono p₂) (show VR _ (.int _) _ from ⟨_, rfl⟩) h4) fun _ s₃ r₃ => ⟨Z₂, p₂, r₃, rfl⟩
theorem augS_ex (K : Ok X) (S : Sd X r n) (hm : Room A n) (hR : R X Z V s) (he : EnvR X Z E env) {o i : Ex} {ps : Pos} {op : Operator} {f : AF} (h : exec1 r E (.augS o i ps op e p) V = some (f, V')) :
  W X A (exec (Sm.augS o i ps op e p).py env) (PostF X Z V' f) s := by
 refine bindP h fun ov V₁ h1 h => ?_
 refine bindP h fun iv V₂ h2 h => ?_
 refine bindE h fun old h3 h => ?_
 refine bindP h fun v V₃ h4 h => ?_
 refine wpAny_AugAssign_SubscriptAny (W.mono (S.ev h1 hR he hm) fun a s₁ ha => ?_) (by intros; rcases i <;> rfl)
 refine postE ha fun Z₁ p₁ r₁ v₁ => ?_
 refine W.mono (S.ev h2 r₁ (he.mono p₁) hm) fun b s₂ hb => ?_
 refine postE hb fun Z₂ p₂ r₂ v₂ => ?_
 refine W.mono (item_sound (A := A) K r₂ h3 (v₁.mono p₂) v₂).2 fun c s₃ hc => ?_
 refine postE hc fun Z₃ p₃ r₃ v₃ => ?_
 refine W.mono (S.ev h4 r₃ (he.mono (p₁.trans (p₂.trans p₃))) hm) fun d s₄ hd => ?_
 refine postE hd fun Z₄ p₄ r₄ v₄ => ?_
 have v₃ := v₃.mono p₄
 refine addE h fun x y eo ex ey h => bindE h fun z h5 h => bindE h fun V₅ h6 h => someP h ?_
 subst eo ex ey
 refine intV v₃ fun t => ?_
 refine intV v₄ fun u => ?_
 refine e2 (mkI_some h5) fun z26 _ => ?_
 subst z26
 refine PyProof.Rows.iadd_int ?_
 exact W.mono (setItm_sound (r₄.tok _) h6 (v₁.mono (p₂.trans (p₃.trans p₄))) (v₂.mono (p₃.trans p₄)) (show VR _ (.int _) _ from ⟨_, rfl⟩)) fun _ s₅ r₅ => ⟨Z₄, p₁.trans (p₂.trans (p₃.trans p₄)), r₅, rfl⟩
theorem if_ex (S : Sd X r n) (hm : Room A n) (hR : R X Z V s) (he : EnvR X Z E env) {c : Ex} {b o : List Sm} {f : AF} (h : exec1 r E (.ifS c b o p) V = some (f, V')) :
  W X A (exec (Sm.ifS c b o p).py env) (PostF X Z V' f) s := by
 refine bindP h fun v V₁ h1 h => ?_
 refine bindE h fun d h2 h => ?_
 refine (?_ : W X A (exec (.If c.py (pyS b) (pyS o) p) env) _ s)
 rw [arm_exec_If]
 refine wpAny_bind (wpAny_standAt (wpAny_bind (W.mono (S.tr h1 h2 hR he hm) fun d' s₁ hp => hp.2.elim fun Z₁ z => ?_)))
 obtain rfl := hp.1
 rcases d' with _ | _
 ·exact W.mono (S.ex h z.2 (he.mono z.1) hm) fun fl s₂ hq => hq.elim fun Z₂ q => ⟨Z₂, z.1.trans q.1, q.2⟩
 ·exact W.mono (S.ex h z.2 (he.mono z.1) hm) fun fl s₂ hq => hq.elim fun Z₂ q => ⟨Z₂, z.1.trans q.1, q.2⟩
theorem ret_ex (S : Sd X r n) (hm : Room A n) (hR : R X Z V s) (he : EnvR X Z E env) {f : AF} (h : exec1 r E (.ret e p) V = some (f, V')) :
  W X A (exec (Sm.ret e p).py env) (PostF X Z V' f) s := by
 refine bindP h fun v V₁ h1 h => ?_
 refine someP h ?_
 refine wpAny_Return_some (W.mono (S.ev h1 hR he hm) fun y s₁ hp => ?_)
 refine postE hp fun Z₁ p₁ r₁ v₁ => ?_
 exact ⟨Z₁, p₁, r₁, y, rfl, v₁⟩
theorem callLike_py (h : callLike e = true) (l : Nat) (env : Env) : swapsWith e.py none l env = pure false := by rcases e <;> first | rfl | exact nomatch h
theorem expr_ex (S : Sd X r n) (hm : Room A n) (hR : R X Z V s) (he : EnvR X Z E env) {f : AF} (h : exec1 r E (.expr e p) V = some (f, V')) :
  W X A (exec (Sm.expr e p).py env) (PostF X Z V' f) s := by
 refine iteS h fun hc h => bindP h fun v V₁ h1 h => ?_
 have k : v = .none /\ (AF.next, V₁) = (f, V') := by
  rcases v <;> first | exact ⟨rfl, Option.some.inj h⟩ | exact noneS h
 obtain rfl := k.1
 refine someP (congrArg some k.2) ?_
 exact wpAny_Expr (W.mono (S.ev h1 hR he hm) fun y s₁ hp => postE hp fun Z₁ p₁ r₁ v₁ => v₁.symm ▸ ⟨Z₁, p₁, r₁, rfl⟩) (by unfold interactive; rw [he.kind]; rfl) (callLike_py hc _ env)
end
section
open PySem.W
variable {X : Fx} {Z Z' : List Addr} {V V' : Sg} {s s' : Shared} {A : Around} {E : AE} {env : Env}
theorem forIn_false {f : Expr -> Bool -> Sem (ForInStep Bool)} (hf : ∀ e, f e false = pure (.yield false)) {Q : Bool -> Shared -> Prop} (hq : Q false s) (l : List Expr) : W X A (forIn l false f) Q s := by
 induction l with
 | nil => exact wpAny_pure hq
 | cons e l ih => exact by rw [List.forIn_cons, hf]; exact wpAny_bind (wpAny_pure ih)
theorem conds_sound (S : Sd X r n) (hm : Room A n) {f : Expr -> Bool -> Sem (ForInStep Bool)} (hf0 : ∀ e, f e false = pure (.yield false)) (hf1 : ∀ e, f e true = (isTrue e env (eval e env) >>= fun b => pure (.yield b)))
  (cond : List Ex) {Z : List Addr} {V V' : Sg} {s : Shared} {c : Bool} (h : conds r E cond V = some (c, V')) (hR : R X Z V s) (he : EnvR X Z E env) : W X A (forIn (pyL cond) true f) (PostB X Z V' c) s := by
 induction cond generalizing Z V s with
 | nil => exact someP h (wpAny_pure ⟨rfl, Z, List.prefix_refl _, hR⟩)
 | cons e cond ih =>
  refine bindP h fun v V₁ h1 h => bindE h fun b h2 h => ?_
  rw [pyL, List.forIn_cons, hf1]
  refine wpAny_bind (wpAny_bind (W.mono (S.tr h1 h2 hR he hm) fun b' s₁ hp => wpAny_pure (hp.2.elim fun Z₁ z => ?_)))
  obtain rfl := hp.1
  rcases b' with _ | _
  ·exact someP h (forIn_false hf0 ⟨rfl, Z₁, z⟩ _)
  ·exact W.mono (ih h z.2 (he.mono z.1)) fun c' s₂ hq => ⟨hq.1, hq.2.elim fun Z₂ q => ⟨Z₂, z.1.trans q.1, q.2⟩⟩
noncomputable def OkS (X : Fx) (Z : List Addr) (V' : Sg) : Result -> Shared -> Prop := fun q s' => q = .ok .next /\ ∃ Z', Z <+: Z' /\ R X Z' V' s'
theorem compLoop_sound (S : Sd X r n) (hm : Room A n) {tp : Option Pos} {iter : Expr} {gs : List Comprehension} {scope : Scope} 
  (hg : gs[d]? = some ⟨targetOf tg tp, iter, pyL cond, 0⟩) (hg' : gs[d + 1]? = none) {it acc k : Nat} {a ac : Addr} (hR : R X Z V s) (he : EnvR X Z E env) (ha : Z[it]? = some a) (hac : Z[acc]? = some ac)
  (h : loopComp r E elt tg tp cond acc it k V = some V') :
  codeAny (model X.prog X.w) A (.compLoop (.ListComp elt.py gs scope pos) d (.ref a) (.ref ac) env) (OkS X Z V') s := by
 refine codeAny_loop rfl (fun k s => ∃ Z₁ V₁, Z <+: Z₁ /\ R X Z₁ V₁ s /\ loopComp r E elt tg tp cond acc it k V₁ = some V') (fun k s hI => ?_) k ⟨Z, V, List.prefix_refl _, hR, h⟩
 refine e5 hI fun Z₁ V₁ p₁ r₁ h => ?_
 rcases k with _ | k
 ·exact noneS h
 ·refine bindP h fun rr V₂ h1 h => ?_
  show wpAny _ A ((compTurn (.ListComp elt.py gs scope pos) d (.ref a) (.ref ac) env).onRaise (fun x => do noteFrame x env; theTreesLotGoes x)) _ _ s
  refine wpAny_noted ?_
  unfold compTurn
  dsimp only
  refine rwR hg ?_
  dsimp only
  refine wpAny_bind (wpAny_standAt ?_)
  refine wpAny_bind (m := pyNext (.ref a)) (W.to (anext_sound hm.h r₁ h1 (get_prefix p₁ ha)) fun z s₁ hz => ?_)
  refine e2 hz fun r₂ hz => ?_
  rcases rr with _ | v
  ·obtain rfl : z = none := hz
   exact someE h (wpAny_pure ⟨rfl, Z₁, p₁, r₂⟩)
  ·refine hz.elim fun y e => ?_
   have hy := e.2
   obtain rfl := e.1
   refine bindE h fun V₃ h2 h => bindP h fun c V₄ h3 h => ?_
   refine wpAny_bind ((anext_iter h1).elim fun ob ho => owned_sound (iter_owned r₂ ho.1 ho.2 (get_prefix p₁ ha)) ?_)
   refine wpAny_bind (W.to (assignTo_sound hm.h r₂ (he.mono p₁) hy h2) fun _ s₂ r₃ => ?_)
   refine wpAny_bind (W.to (conds_sound S hm (fun e => rfl) (fun e => rfl) cond h3 r₃ (he.mono p₁)) fun c' s₃ hq => ?_)
   refine hq.2.elim fun Z₄ q => ?_
   have p₄ := q.1
   have r₄ := q.2
   obtain rfl := hq.1
   rcases c' with _ | _
   ·refine rwR (if_neg Bool.false_ne_true) ?_
    exact wpAny_pure ⟨rfl, k, Nat.lt_succ_self k, Z₄, V₄, p₁.trans p₄, r₄, h⟩
   ·refine bindP h fun x V₅ h4 h => ?_
    refine bindE h fun V₆ h5 h => ?_
    refine rwR (if_pos rfl) ?_
    refine rwR hg' ?_
    refine wpAny_bind (wpAny_bind (W.to (S.ev h4 r₄ (he.mono (p₁.trans p₄)) hm) fun z s₄ hz => ?_))
    refine postE hz fun Z₅ p₅ r₅ v₅ => ?_
    refine wpAny_bind (W.to (pushL_sound r₅ (get_prefix (p₁.trans (p₄.trans p₅)) hac) h5 v₅) fun _ s₅ hw => wpAny_pure (wpAny_pure ⟨rfl, k, Nat.lt_succ_self k, Z₅, V₆, p₁.trans (p₄.trans p₅), hw.2, h⟩))
theorem iter_self {Q : Value -> Shared -> Prop} (r : R X Z V s) {o : AO} {a : Addr} (ho : V[it]? = some o) (hi : isIter o = true) (ha : Z[it]? = some a) (hq : Q (.ref a) s) : W X A (pyIter (.ref a)) Q s := by
 have h := r.obj _ _ _ ha ho
 clear ho
 induction o with
 | liter l i => exact h.elim fun _ h => wpAny_pyIter_listiter h.2 hq
 | titer l i => exact h.elim fun _ h => wpAny_pyIter_tupleiter h.2 hq
 | riter x l => exact wpAny_pyIter_rangeiter h hq
 | siter x i => exact h.elim fun _ h => wpAny_pyIter_striter_ascii h hq
 | kiter d i n e => exact h.elim fun _ h => wpAny_pyIter_keyiter h.2 hq
 | _ => exact absurd hi Bool.false_ne_true
theorem mk_iter {o : AO} {j : Nat} (hi : isIter o = true) (h : some (mk o V) = some (j, V')) : ∃ o, V' = V ++ [o] /\ j = V.length /\ isIter o = true :=
 have e := pairI h
 ⟨o, e.2.symm, e.1.symm, hi⟩
theorem aiter_iter {j : Nat} (h : aiter v V = some (j, V')) : ∃ o, V' = V ++ [o] /\ j = V.length /\ isIter o = true :=
 refStrE h (fun _ _ h => oIter h (fun _ _ h => mk_iter rfl h) (fun _ _ h => mk_iter rfl h) (fun _ _ _ h => iteS h fun _ h => mk_iter rfl h) fun _ _ _ h => iteS h fun _ h => mk_iter rfl h) fun _ _ h => iteS h fun _ h => mk_iter rfl h
theorem compStart_sound {elt iter target : Expr} {ifs : List Expr} {gs : List Comprehension} {scope : Scope} {Q : Result -> Shared -> Prop} (hg : gs[d]? = some ⟨target, iter, ifs, 0⟩)
  (r : R X Z V s) {it : Nat} {o : AO} {a : Addr} {acc : Value} (ho : V[it]? = some o) (hi : isIter o = true) (ha : Z[it]? = some a)
  (h : codeAny (model X.prog X.w) A (.compLoop (.ListComp elt gs scope pos) d (.ref a) acc env) Q s) :
  codeAny (model X.prog X.w) A (.compStart (.ListComp elt gs scope pos) d (.ref a) acc env) Q s := by
 refine codeAny_of_tree ?_
 show wpAny _ _ ((compStart (.ListComp elt gs scope pos) d (.ref a) acc env).onRaise (fun x => do noteFrame x env; standAt theWindowsPlace)) _ _ s
 refine wpAny_notedAt ?_
 have hcl : clausesOf (.ListComp elt gs scope pos) = gs := rfl
 unfold compStart
 refine rwR hcl ?_
 refine rwR hg ?_
 refine (?_ : wpAny _ A (ask >>= _) _ _ s)
 refine wpAny_bind (wpAny_askSetting ?_)
 split
 ·exact wpAny_pure ⟨rfl, h⟩
 ·refine wpAny_bind (wpAny_rule ?_)
  refine (?_ : wpAny _ A (standAt iter.pos >>= _) _ _ s)
  exact wpAny_bind (wpAny_standAt (wpAny_bind (W.to (iter_self r ho hi ha (show Value.ref a = .ref a /\ s = s from ⟨rfl, rfl⟩) (Q := fun z s' => z = .ref a /\ s' = s)) fun z s₁ hz => by obtain ⟨rfl, rfl⟩ := hz; exact wpAny_pure ⟨rfl, h⟩)))
theorem compLoop2_sound (K : Ok X) (S : Sd X r n) (hm : Room A n) {p2 : Pos} {it1 : Expr} {scope : Scope} 
  {it acc k : Nat} {a ac : Addr} (hR : R X Z V s) (he : EnvR X Z E env) (ha : Z[it]? = some a) (hac : Z[acc]? = some ac) (h : loopComp2 r E elt x1 p1 x2 p2 it2 cond acc it k V = some V') :
  codeAny (model X.prog X.w) A (.compLoop (.ListComp elt.py [⟨.Name (nm x1) p1, it1, [], 0⟩, ⟨.Name (nm x2) p2, it2.py, pyL cond, 0⟩] scope pos) 0 (.ref a) (.ref ac) env) (OkS X Z V') s := by
 refine codeAny_loop rfl (fun k s => ∃ Z₁ V₁, Z <+: Z₁ /\ R X Z₁ V₁ s /\ loopComp2 r E elt x1 p1 x2 p2 it2 cond acc it k V₁ = some V') (fun k s hI => ?_) k ⟨Z, V, List.prefix_refl _, hR, h⟩
 refine e5 hI fun Z₁ V₁ p₁ r₁ h => ?_
 rcases k with _ | k
 ·exact noneS h
 ·refine bindP h fun rr V₂ h1 h => ?_
  show wpAny _ A ((compTurn (.ListComp elt.py [⟨.Name (nm x1) p1, it1, [], 0⟩, ⟨.Name (nm x2) p2, it2.py, pyL cond, 0⟩] scope pos) 0 (.ref a) (.ref ac) env).onRaise (fun x => do noteFrame x env; theTreesLotGoes x)) _ _ s
  refine wpAny_noted ?_
  unfold compTurn
  dsimp only
  rw [show ([⟨.Name (nm x1) p1, it1, [], 0⟩, ⟨.Name (nm x2) p2, it2.py, pyL cond, 0⟩] : List Comprehension)[0]? = some ⟨.Name (nm x1) p1, it1, [], 0⟩ from rfl]
  dsimp only
  refine wpAny_bind (wpAny_standAt ?_)
  refine wpAny_bind (m := pyNext (.ref a)) (W.to (anext_sound hm.h r₁ h1 (get_prefix p₁ ha)) fun z s₁ hz => ?_)
  refine e2 hz fun r₂ hz => ?_
  rcases rr with _ | v
  ·obtain rfl : z = none := hz
   exact someE h (wpAny_pure ⟨rfl, Z₁, p₁, r₂⟩)
  ·refine hz.elim fun y e => ?_
   have hy := e.2
   obtain rfl := e.1
   refine bindE h fun V₃ h2 h => ?_
   refine bindP h fun w V₄ h3 h => ?_
   refine bindP h fun j V₅ h4 h => ?_
   refine bindE h fun V₆ h5 h => ?_
   refine wpAny_bind ((anext_iter h1).elim fun ob ho => owned_sound (tg := [(x1, p1)]) (tp := none) (iter_owned r₂ ho.1 ho.2 (get_prefix p₁ ha)) ?_)
   refine wpAny_bind (W.to (assign_name_sound r₂ (he.mono p₁) hy h2) fun _ s₂ r₃ => ?_)
   refine rwR List.forIn_nil ?_
   refine wpAny_bind (wpAny_pure ?_)
   rw [if_pos rfl, show ([⟨.Name (nm x1) p1, it1, [], 0⟩, ⟨.Name (nm x2) p2, it2.py, pyL cond, 0⟩] : List Comprehension)[0 + 1]? = some ⟨.Name (nm x2) p2, it2.py, pyL cond, 0⟩ from rfl]
   refine wpAny_bind (W.to (S.ev h3 r₃ (he.mono p₁) hm) fun z s₄ hz => ?_)
   refine postE hz fun Z₄ p₄ r₄ v₄ => ?_
   refine wpAny_bind (wpAny_standAt ?_)
   show wpAny _ A (foldedSetIterable it2.py env z >>= fun x => holding [x] (pyIter x) >>= fun i => runOwn (.compStart (.ListComp elt.py [⟨.Name (nm x1) p1, it1, [], 0⟩, ⟨.Name (nm x2) p2, it2.py, pyL cond, 0⟩] scope pos) 1 i (.ref ac) env) env >>= fun _ =>
    again (.compLoop (.ListComp elt.py [⟨.Name (nm x1) p1, it1, [], 0⟩, ⟨.Name (nm x2) p2, it2.py, pyL cond, 0⟩] scope pos) 0 (.ref a) (.ref ac) env)) _ _ s₄
   rw [folded_py]
   refine wpAny_bind (wpAny_pure ?_)
   refine wpAny_bind (wpAny_holding (W.to (aiter_sound K r₄ h4 v₄) fun z s₅ hz => postE hz fun Z₅ p₅ r₅ hv => refV hv fun b hb => (aiter_iter h4).elim fun ob' q => ?_))
   have hoj : V₅[j]? = some ob' := q.1 ▸ getNew q.2.1.symm
   have hi' := q.2.2
   have p15 := p₁.trans (p₄.trans p₅)
   refine wpAny_bind (wpAny_runOwn (compStart_sound (d := 1) (target := .Name (nm x2) p2) (iter := it2.py) (ifs := pyL cond) rfl r₅ hoj hi' hb
    (codeAny_mono (compLoop_sound (d := 1) (tg := [(x2, p2)]) (tp := none) (cond := cond) (iter := it2.py) S hm rfl rfl r₅ (he.mono p15) hb (get_prefix p15 hac) h5) fun q s₆ hq => ?_)))
   exact hq.2.elim fun Z₆ q => rwR hq.1 (wpAny_pure ⟨rfl, k, Nat.lt_succ_self k, Z₆, V₆, p15.trans q.1, q.2, h⟩)
end
section
open PySem.W
variable {X : Fx} {Z Z' : List Addr} {V V' : Sg} {s s' : Shared} {A : Around} {E : AE} {env : Env}
theorem map_lookup (f : Str × NameKind -> Str × NameKind) (hf : ∀ p, (f p).1 = p.1) (n : Str) (l : List (Str × NameKind)) : (l.map f).lookup n = (l.lookup n).map fun k => (f (n, k)).2 := by
 induction l with
 | nil => rfl
 | cons p l ih =>
  refine (?_ : (match n == (f p).1 with | true => some (f p).2 | false => (l.map f).lookup n) = _)
  rw [hf, ih]
  by_cases q : n = p.1
  ·subst q
   refine (?_ : _ = Option.map _ (match p.1 == p.1 with | true => some p.2 | false => l.lookup p.1))
   rw [beq_self_eq_true]; rfl
  ·refine (?_ : _ = Option.map _ (match n == p.1 with | true => some p.2 | false => l.lookup n))
   exact rwR (beq_eq_false_iff_ne.mpr q) rfl
theorem look_mem (hn : (sc.map (·.1)).Nodup) {x : Nat} {k : NK} (h : (x, k) ∈ sc) : look x sc = some k := by
 induction sc with
 | nil => exact absurd h List.not_mem_nil
 | cons p r ih =>
  have hn := List.nodup_cons.mp hn
  refine (?_ : (if p.1 = x then some p.2 else look x r) = some k)
  rcases List.mem_cons.mp h with e | h
  ·exact e ▸ if_pos rfl
  ·refine rwR (if_neg fun e => hn.1 (List.mem_map.mpr ⟨_, h, e.symm⟩)) ?_
   exact ih hn.2 h
theorem layCells_app (sc : List (Nat × NK)) (acc : List (Nat × Nat)) (V : Sg) : ∃ t, (layCells sc acc V).2 = V ++ t := by
 induction sc generalizing acc V with
 | nil => exact ⟨[], (List.append_nil V).symm⟩
 | cons p r ih =>
  obtain ⟨x, k⟩ := p
  rcases k
  ·exact ih acc V
  ·exact (ih ((x, V.length) :: acc) (V ++ [AO.cell none])).elim fun t h => ⟨.cell none :: t, h.trans (List.append_assoc V [AO.cell none] t)⟩
  ·exact ih acc V
  ·exact ih acc V
theorem compEnv_some {E' : AE} (h : compEnv E sc V = some (E', V')) : ∃ cl, closes E sc = some cl /\ (sc.map (·.1)).Nodup /\ E' = ⟨sc, V.length, (layCells sc cl.reverse (V ++ [.ns []])).1, E.q, E.tab⟩ /\ V' = (layCells sc cl.reverse (V ++ [.ns []])).2 := by
 refine bindE h fun cl h1 h => ?_
 exact iteS h fun hn h => ⟨cl, h1, hn, (pairI h).1.symm, (pairI h).2.symm⟩
theorem dropNs_some (h : dropNs l V = some V') : ∃ m, V[l]? = some (.ns m) /\ nTop <= l /\ V' = V.set l .dead :=
 oNs h fun m hm h => updE h fun h1 _ => ⟨m, hm, h1, rfl⟩
theorem R.drop (r : R X Z V s) {a : Addr} (hj : nTop <= l) (ha : Z[l]? = some a) (hm : V[l]? = some (.ns m)) {M : Str -> Option Value} (hn : h'.Ns a M) (hs : Heap.SameBut a s.heap h') : R X Z (V.set l .dead) { s with heap := h' } := by
 exact (r.obj _ _ _ ha hm).elim fun _ z => r.set1 hj ha (butOf hs) (ns_not_code z.1) rfl rfl trivial (hn.elim fun o z => z.elim fun _ z => z.elim fun _ z => ⟨o, z.1⟩)
noncomputable def compCenv (cenv env : Env) (sc : List (Nat × NK)) : Env := { cenv with scope := { scopeOf sc with names := (scopeOf sc).names.map fun x => if (x.snd == NameKind.free && env.scope.kind == ScopeKind.function && env.kindOf x.fst == some NameKind.cell) = true then (x.fst, NameKind.cell) else (x.fst, x.snd) } }
theorem compKind {env : Env} (x : Nat) (k : NK) (hx : look x sc = some k) : (compCenv cenv env sc).kindOf (nm x) = some k.py \/ (k = .fre /\ (compCenv cenv env sc).kindOf (nm x) = some .cell) := by
 refine (?_ : List.lookup (nm x) (List.map _ (scopeOf sc).names) = _ \/ _ /\ List.lookup (nm x) (List.map _ (scopeOf sc).names) = _)
 rw [map_lookup _ (fun p => by split <;> rfl), show (scopeOf sc).names.lookup (nm x) = some k.py from sc_lookup hx]
 dsimp only [Option.map_some]
 split
 ·rename_i hc
  refine .inr ⟨?_, rfl⟩
  have hc := (Bool.and_eq_true_iff.mp (Bool.and_eq_true_iff.mp hc).1).1
  rcases k <;> first | rfl | exact nomatch hc
 ·exact .inl rfl
theorem compLocal {env : Env} (hnd : (sc.map (·.1)).Nodup) (y : Str × NameKind) (hy : y ∈ (scopeOf sc).names) (hl : y.2 = .local) : (compCenv cenv env sc).kindOf y.1 = some .local := by
 refine e3 (List.mem_map.mp hy) fun z1 hx z2 => ?_
 obtain ⟨x, k⟩ := z1
 subst z2
 obtain rfl : k = .loc := by rcases k <;> first | rfl | exact nomatch hl
 rcases compKind (cenv := cenv) (env := env) x .loc (look_mem hnd hx) with h | h
 ·exact h
 ·exact nomatch h.1
theorem compGo (hnd : (sc.map (·.1)).Nodup) {Z₆ : List Addr} {V₆ : Sg} {s₆ : Shared} (hj : nTop <= l) (vs : List (Str × NameKind)) (cellsOf : List (Str × NameKind) -> List Value) {Q' : Unit -> Shared -> Prop} (hvs : ∀ y ∈ vs, y ∈ (scopeOf sc).names)
  (hloc : Z₆[l]? = some cenv.locals) (r₆ : R X Z₆ V₆ s₆) (hm' : V₆[l]? = some (.ns m')) (hq' : ∀ s₇, R X Z₆ (V₆.set l .dead) s₇ -> Q' () s₇) : W X A (comprehension.letGo (compCenv cenv env sc) cellsOf vs) Q' s₆ :=
 (r₆.obj _ _ _ hloc hm').elim fun M z => wpAny_comp_letGo (cenv := compCenv cenv env sc) rfl vs s₆ M (fun y hy hl => compLocal hnd y (hvs y hy) hl) z.1 fun h' m'' hn hs => hq' _ (r₆.drop hj hloc hm' hn hs)
theorem comprehension_sound (K : Ok X) (S : Sd X r n) (hm : Room A n) {elt : Expr} {g : Comprehension} {gs : List Comprehension} {it : Ex} (hg : g.iter = it.py) {fpos : Pos} {use : Option (Value -> Sem Unit)}
  {v : AV} {j : Nat} {E' : AE} {V₁ V₂ V₃ V₄ : Sg} {m : List (Nat × AV)} {Q : Value -> Shared -> Prop} (hR : R X Z V s) (he : EnvR X Z E env)
  (h1 : r.ev E it V = some (v, V₁)) (h2 : aiter v V₁ = some (j, V₂)) (h3 : compEnv E sc (V₂ ++ [.list []]) = some (E', V₃))
  (hloop : ∀ Z₃ s₃ env' a ac, Z <+: Z₃ -> R X Z₃ V₃ s₃ -> EnvR X Z₃ E' env' -> Z₃[j]? = some a -> Z₃[V₂.length]? = some ac ->
   codeAny (model X.prog X.w) A (.compStart (.ListComp elt (g :: gs) (scopeOf sc) pos) 0 (.ref a) (.ref ac) env') (OkS X Z₃ V₄) s₃)
  (hns : V₄[E'.loc]? = some (.ns m)) (hnt : nTop <= E'.loc)
  (hend : match use with
   | none => ∀ Z₄ s₄ ac, Z <+: Z₄ -> R X Z₄ (V₄.set E'.loc .dead) s₄ -> Z₄[V₂.length]? = some ac -> Q (.ref ac) s₄
   | some u => ∀ Z₄ s₄ ac, Z <+: Z₄ -> R X Z₄ V₄ s₄ -> Z₄[V₂.length]? = some ac -> W X A (u (.ref ac)) (fun _ s₅ => ∃ Z₅ V₅ m', Z₄ <+: Z₅ /\ R X Z₅ V₅ s₅ /\ V₅[E'.loc]? = some (.ns m') /\ ∀ s₆, R X Z₅ (V₅.set E'.loc .dead) s₆ -> Q .none s₆) s₄) :
  W X A (comprehension (.ListComp elt (g :: gs) (scopeOf sc) pos) (scopeOf sc) env fpos (newList []) false (eval it.py env) use) Q s := by
 refine e5 (compEnv_some h3) fun cl hcl hnd z265 z266 => ?_
 subst z265
 subst z266
 refine e3 (closureFor_sound (more := []) he hcl) fun clos hclos hcs => ?_
 unfold comprehension
 rw [show clausesOf (.ListComp elt (g :: gs) (scopeOf sc) pos) = g :: gs from rfl, hclos]
 dsimp only
 refine rwR hg ?_
 refine wpAny_bind (W.to (S.ev h1 hR he hm) fun x s₁ hx => wpAny_bind (wpAny_standAt ?_))
 refine postE hx fun Z₁ p₁ r₁ v₁ => ?_
 rw [folded_py]
 refine wpAny_bind (wpAny_pure (wpAny_bind (wpAny_holding (W.to (aiter_sound K r₁ h2 v₁) fun z s₂ hz => ?_))))
 refine postE hz fun Z₂ p₂ r₂ hv => refV hv fun a ha => ?_
 refine wpAny_standIf ?_
 refine wpAny_bind (wpAny_newList ?_ (by rw [sizeLine_eq]; decide))
 refine postE (r₂.list (xs := []) (vs := #[]) .nil s₂.toks) fun Z₃ p₃ r₃ hace => ?_
 have hac : Z₃[V₂.length]? = some s₂.heap.objs.size := hace.elim fun ac z => (Value.ref.inj z.2) ▸ z.1
 refine wpAny_bind (wpAny_pure ?_)
 have p03 := p₁.trans (p₂.trans p₃)
 refine rwR he.globals ?_
 refine wpAny_bind (W.to (newEnv_sound (bs := []) (binds := []) (q := E.q) (tab := E.tab) (qual := env.qual) (func := none) (code := .none) (around := some env) r₃ (sc := sc) (scope := scopeOf sc) rfl rfl (hcs.mono p03) .nil he.q (fun k hk => he.tab k hk) (by show env.builtins = _; exact he.builtins) rfl) fun cenv s₄ hq => ?_)
 refine e5 hq fun Z₄ p₄ r₄ e₄ _ => ?_
 have p04 := p03.trans p₄
 have e₅ : EnvR X Z₄ ⟨sc, (V₂ ++ [AO.list []]).length, (layCells sc cl.reverse (V₂ ++ [AO.list []] ++ [AO.ns []])).1, E.q, E.tab⟩ (compCenv cenv env sc) := { e₄ with kind := rfl, names := compKind }
 rw [show ({ cenv with scope := { scopeOf sc with names := (scopeOf sc).names.map fun x => if (x.snd == NameKind.free && env.scope.kind == ScopeKind.function && env.kindOf x.fst == some NameKind.cell) = true then (x.fst, NameKind.cell) else (x.fst, x.snd) } } : Env) = compCenv cenv env sc from rfl]
 refine wpAny_holding (wpAny_bind (wpAny_attempt (wpAny_holding (wpAny_run (codeAny_mono (hloop Z₄ s₄ _ a _ p04 r₄ e₅ (get_prefix (p₃.trans p₄) ha) (get_prefix p₄ hac)) fun q s₅ hq => hq.2.elim fun Z₅ z => rwR hq.1 ?_)))))
 have p₅ := z.1
 have hloc : Z₅[(V₂ ++ [AO.list []]).length]? = some cenv.locals := get_prefix p₅ e₄.loc
 have hac := get_prefix (p₄.trans p₅) hac
 clear hq hloop e₅ hclos hcs h1 h2 hz hx hv hace
 rcases use with _ | u
 ·refine wpAny_bind (wpAny_holding (compGo hnd hnt _ _ (fun y hy => ?_) hloc z.2 hns fun s₇ r₇ => wpAny_pure ?_))
  ·exact (List.mem_filter.mp (List.mem_reverse.mp hy)).1
  ·exact hend Z₅ s₇ _ (p04.trans p₅) r₇ hac
 ·refine wpAny_bind (wpAny_rule (wpAny_bind (wpAny_holding (W.mono (hend Z₅ s₅ _ (p04.trans p₅) z.2 hac) fun _ s₆ hq => ?_))))
  refine e7 hq fun Z₆ V₆ m' p₆ r₆ hm' hq' => ?_
  refine wpAny_bind (compGo hnd hnt _ _ (fun y hy => ?_) (get_prefix p₆ hloc) r₆ hm' fun s₇ r₇ => wpAny_pure (hq' s₇ r₇))
  rcases List.mem_append.mp hy with hy | hy
  ·exact (List.mem_filter.mp (List.mem_reverse.mp (List.mem_of_mem_drop hy))).1
  ·exact (List.mem_filter.mp (List.mem_reverse.mp (List.mem_of_mem_take hy))).1
end
section
open PySem.W
open N0 N1 N2 N3 N4
variable {X : Fx} {Z Z' : List Addr} {V V' : Sg} {s s' : Shared} {A : Around} {E : AE} {env : Env}
theorem VRs.reverse (h : VRs Z xs vs) : VRs Z xs.reverse vs.reverse := by
 induction h with
 | nil => exact .nil
 | cons a _ ih => rw [List.reverse_cons, List.reverse_cons]; exact ih.append (.cons a .nil)
theorem pyL_len : ∀ es : List Ex, (pyL es).length = es.length
 | [] => rfl
 | e :: r => by rw [pyL, List.length_cons, List.length_cons, pyL_len r]
theorem pyL_any {f : Expr -> Bool} (hf : ∀ e : Ex, f e.py = false) : ∀ es : List Ex, (pyL es).any f = false
 | [] => rfl
 | e :: r => by rw [pyL, List.any_cons, pyL_any hf r, hf]; rfl
theorem isAM_fold (h : isAM e = true) : foldedForSure 8 e.py = false /\ constantsAlone 8 e.py = false := by
 rcases e <;> first | exact ⟨rfl, rfl⟩ | cases h
theorem pyL_all {f : Expr -> Bool} (hf : ∀ e, isAM e = true -> f e.py = false) : ∀ es : List Ex, es.any isAM = true -> (pyL es).all f = false
 | e :: r, h => by
  rw [pyL, List.all_cons]
  rw [List.any_cons, Bool.or_eq_true] at h
  rcases h with h | h
  ·rw [hf e h, Bool.false_and]
  ·rw [pyL_all hf r h, Bool.and_false]
theorem swap_sound (he : EnvR X Z E env) {xs : List (Nat × Pos)} (h : swapOk E xs es = true) : swappedStores [.Tuple (nameEs xs) 0 pt] (Ex.tuple es p).py env = pure (some (xs.map fun x => nm x.1)) := by
 simp only [swapOk, Bool.and_eq_true, Bool.or_eq_true, beq_iff_eq, decide_eq_true_eq, List.all_eq_true] at h
 obtain ⟨⟨⟨⟨hl, hx⟩, hall⟩, hnd⟩, ham⟩ := h
 have hbk : env.blockKind = .function := by unfold Env.blockKind; rw [he.kind]; rfl
 have hloc : ∀ x ∈ xs, env.kindOf (nm x.1) = some .local := fun x hx => by
  rcases he.names _ _ (hall x hx).1 with q | ⟨q, _⟩
  ·exact q
  ·contradiction
 have hlines : ∀ x ∈ xs, x.2.line = (xs.head?.map (·.2.line)).getD 0 := fun x hx => (hall x hx).2
 have hfm : ∀ (g : Expr -> Option Str) (l : Nat) (_ : ∀ id pos, g (.Name id pos) = if (env.kindOf id == some NameKind.local && pos.line == l) = true then some id else none) (ys : List (Nat × Pos)), (∀ x ∈ ys, env.kindOf (nm x.1) = some .local /\ x.2.line = l) -> (nameEs ys).filterMap g = ys.map fun x => nm x.1 := by
  intro g l hg ys hy
  induction ys with
  | nil => rfl
  | cons y ys ih =>
   have h1 := hy y List.mem_cons_self
   unfold nameEs at ih ⊢
   rw [List.map_cons, List.filterMap_cons, hg, h1.1, h1.2, if_pos (by simp), ih fun x hx => hy x (List.mem_cons_of_mem _ hx)]
   rfl
 have hhead : ((nameEs xs).head?.map (·.pos.line)).getD 0 = (xs.head?.map (·.2.line)).getD 0 := by
  cases xs <;> rfl
 have hdup : ((xs.map fun x => nm x.1).eraseDups.length != (xs.map fun x => nm x.1).length) = false := by
  have hn : (xs.map fun x => nm x.1).Nodup := by
   have e : (xs.map fun x => nm x.1) = (xs.map (·.1)).map nm := by rw [List.map_map]; rfl
   rw [e]
   exact List.Pairwise.map _ (fun a b hab => fun e => hab (nm_inj e)) hnd
  rcases xs with _ | ⟨a, _ | ⟨b, _ | ⟨c, _ | ⟨d, r⟩⟩⟩⟩
  ·rfl
  ·simp [List.eraseDups_cons]
  ·simp only [List.map_cons, List.map_nil, List.nodup_cons, List.mem_cons, List.not_mem_nil, or_false] at hn
   have : (nm b.1 == nm a.1) = false := beq_eq_false_iff_ne.mpr fun e => hn.1 e.symm
   simp [List.eraseDups_cons, this, bne]
  ·simp only [List.map_cons, List.map_nil, List.nodup_cons, List.mem_cons, List.not_mem_nil, or_false, not_or] at hn
   have h1 : (nm b.1 == nm a.1) = false := beq_eq_false_iff_ne.mpr fun e => hn.1.1 e.symm
   have h2 : (nm c.1 == nm a.1) = false := beq_eq_false_iff_ne.mpr fun e => hn.1.2 e.symm
   have h3 : (nm c.1 == nm b.1) = false := beq_eq_false_iff_ne.mpr fun e => hn.2.1 e.symm
   simp [List.eraseDups_cons, h1, h2, h3, bne]
  ·simp only [List.length_cons] at hx; lia
 have hlen2 : (nameEs xs).length = xs.length := by unfold nameEs; rw [List.length_map]
 unfold swappedStores
 refine (?_ : (if (!((nameEs xs).length == 2 || (nameEs xs).length == 3) || (pyL es).length != (nameEs xs).length || env.blockKind != .function) = true then _ else _ : Sem (Option (List Str))) = _)
 rw [if_neg (by rw [hlen2, pyL_len, hbk, hx]; rcases hl with h | h <;> simp [h])]
 rw [if_neg (by rw [pyL_any (fun e => by cases e <;> rfl)]; exact Bool.false_ne_true)]
 dsimp only
 rw [hhead, hfm _ _ (fun _ _ => rfl) xs fun x hx => ⟨hloc x hx, hlines x hx⟩]
 rw [if_neg (by rw [hdup, List.length_map, hlen2]; simp)]
 rw [if_neg (by rw [pyL_all (fun e h => (isAM_fold h).1) es ham]; exact Bool.false_ne_true)]
 rw [if_neg (by rw [pyL_all (fun e h => (isAM_fold h).2) es ham]; exact Bool.false_ne_true)]
theorem swaps_T (e : Ex) (ts : List Expr) (c : Nat) (pt : Pos) (l : Nat) (env : Env) : swapsWith e.py (some (.Tuple ts c pt)) l env = pure false := by rcases e <;> rfl
noncomputable def isTup : Ex -> Bool
 | .tuple .. => true
 | _ => false
theorem swapped_T (h : isTup e = false) (xs : List (Nat × Pos)) (pt : Pos) (env : Env) : swappedStores [.Tuple (nameEs xs) 0 pt] e.py env = pure none := by
 rcases e <;> first | rfl | exact tfE h
theorem tup_or (e : Ex) : (∃ es q, e = .tuple es q) \/ isTup e = false := by
 rcases e <;> first | exact .inr rfl | exact .inl ⟨_, _, rfl⟩
theorem assignT_eq {xs : List (Nat × Pos)} (h : isTup e = false) : exec1 r E (.assignT xs pt e p) V = (r.ev E e V).bind fun t => (unpackA t.1 xs.length t.2).bind fun vs => (setEach E xs vs t.2).bind fun s => some (AF.next, s) := by
 rcases e <;> first | rfl | exact tfE h
theorem assignT_plain (S : Sd X r n) (hm : Room A n) (hR : R X Z V s) (he : EnvR X Z E env) {xs : List (Nat × Pos)} {f : AF} (ht : isTup e = false) (h : exec1 r E (.assignT xs pt e p) V = some (f, V')) :
  W X A (exec (Sm.assignT xs pt e p).py env) (PostF X Z V' f) s := by
 rw [assignT_eq ht] at h
 refine bindP h fun v V₁ h1 h => bindE h fun vs h2 h => bindE h fun V₂ h3 h => someP h ?_
 refine wpAny_Assign_stores (W.mono (S.ev h1 hR he hm) fun y s₁ hp => postE hp fun Z₁ p₁ r₁ v₁ => ?_) (swaps_T e (nameEs xs) 0 pt p.line env) (swapped_T ht xs pt env)
 exact W.mono (assignT_sound hm.h r₁ (he.mono p₁) h2 v₁ h3) fun _ s₂ r₂ => ⟨Z₁, p₁, r₂, rfl⟩
theorem assignT_tup (S : Sd X r n) (hm : Room A n) (hR : R X Z V s) (he : EnvR X Z E env) {xs : List (Nat × Pos)} {f : AF} (h : exec1 r E (.assignT xs pt (.tuple es q) p) V = some (f, V')) :
  W X A (exec (Sm.assignT xs pt (.tuple es q) p).py env) (PostF X Z V' f) s := by
 refine bindP h fun v V₁ h1 h => bindE h fun vs h2 h => iteS h fun hs h => bindE h fun V₂ h3 h => someP h ?_
 refine (?_ : W X A (exec (.Assign [.Tuple (nameEs xs) 0 pt] (Ex.tuple es q).py p) env) _ s)
 refine rwR (exec_Assign_arm ..) ?_
 refine wpAny_bind (wpAny_standAt ?_)
 refine rwR (swaps_T (.tuple es q) (nameEs xs) 0 pt p.line env : swapsWithSole [.Tuple (nameEs xs) 0 pt] (Ex.tuple es q).py p.line env = pure false) ?_
 refine wpAny_bind (wpAny_pure ?_)
 refine rwR (if_neg (by decide)) ?_
 refine wpAny_bind (W.mono (S.ev h1 hR he hm) fun y s₁ hp => postE hp fun Z₁ p₁ r₁ v₁ => ?_)
 refine rwR (swap_sound he hs) ?_
 refine wpAny_bind (wpAny_pure ?_)
 unfold assignStores
 dsimp only
 rw [List.length_map]
 refine wpAny_bind (wpAny_rule (wpAny_bind (W.mono (unpackA_sound hm.h r₁ h2 v₁) fun ys s₂ hq => ?_)))
 refine rwL List.map_reverse ?_
 refine rwR List.map_map ?_
 refine wpAny_bind (W.mono (inOrder_sound (he.mono p₁) (fun x => bindName env (nm x.1)) (fun x v y V V' s r hv h => wpAny_bindName (storeName_sound r (he.mono p₁) hv h)) xs.reverse hq.1 hq.2.reverse h3) fun _ s₃ r₃ => wpAny_pure ⟨Z₁, p₁, r₃, rfl⟩)
theorem assignT_ex (S : Sd X r n) (hm : Room A n) (hR : R X Z V s) (he : EnvR X Z E env) {xs : List (Nat × Pos)} {f : AF} (h : exec1 r E (.assignT xs pt e p) V = some (f, V')) :
  W X A (exec (Sm.assignT xs pt e p).py env) (PostF X Z V' f) s :=
 (tup_or e).elim (fun ⟨_, _, q⟩ => by subst q; exact assignT_tup S hm hR he h) fun q => assignT_plain S hm hR he q h
theorem exec1_sound (K : Ok X) (S : Sd X r n) (hm : Room A n) (hR : R X Z V s) (he : EnvR X Z E env) {st : Sm} {f : AF} (h : exec1 r E st V = some (f, V')) : W X A (exec st.py env) (PostF X Z V' f) s := by
 cases st with
 | assign xs e p => exact assign_ex S hm hR he h
 | assignT xs pt e p => exact assignT_ex S hm hR he h
 | assignA o a pa e p => exact assignA_ex K S hm hR he h
 | assignS o i ps e p => exact assignS_ex K S hm hR he h
 | aug x px op e p => exact aug_ex K S hm hR he h
 | augS o i ps op e p => exact augS_ex K S hm hR he h
 | forS tg tp it b o p => exact for_ex K S hm hR he h
 | ifS c b o p => exact if_ex S hm hR he h
 | ret e p => exact ret_ex S hm hR he h
 | expr e p => exact expr_ex S hm hR he h
 | brk p => cases h; exact wpAny_Break ⟨Z, List.prefix_refl _, hR, rfl⟩
theorem ex_step (K : Ok X) (S : Sd X r n) (hm : Room A n) : ∀ (b : List Sm) {Z : List Addr} {V V' : Sg} {s : Shared} {f : AF}, stepEx r E b V = some (f, V') -> R X Z V s -> EnvR X Z E env -> W X A (execs (pyS b) env) (PostF X Z V' f) s
 | [], Z, V, V', s, f, h, hR, he => by
  refine someP h ?_
  exact wpAny_execs_nil ⟨Z, List.prefix_refl _, hR, rfl⟩
 | st :: b, Z, V, V', s, f, h, hR, he => by
  refine bindP h fun g V₁ h1 h => ?_
  rw [pyS, execs_cons]
  refine wpAny_bind (W.mono (exec1_sound K S hm hR he h1) fun fl s₁ hp => ?_)
  refine postFE hp fun Z₁ p₁ r₁ hf => ?_
  cases g with
  | next =>
   subst hf
   refine W.mono (ex_step K S hm b h r₁ (he.mono p₁)) fun fl s₂ hq => ?_
   refine e3 hq fun Z₂ p₂ q => ?_
   exact ⟨Z₂, p₁.trans p₂, q⟩
  | brk => cases hf; cases h; exact wpAny_pure ⟨Z₁, p₁, r₁, rfl⟩
  | ret w => obtain ⟨y, rfl, hy⟩ := hf; cases h; exact wpAny_pure ⟨Z₁, p₁, r₁, y, rfl, hy⟩
end
section
open PySem.W
variable {X : Fx} {Z Z' : List Addr} {V V' : Sg} {s s' : Shared} {A : Around} {E : AE} {env : Env}
theorem get_app {o : AO} (t : Sg) {j : Nat} (h : V[j]? = some o) : (V ++ t)[j]? = some o := by
 refine rwR (List.getElem?_append_left (List.getElem?_eq_some_iff.mp h).1) ?_
 exact h
theorem setN_drop {x : Nat} (hl : V[l]? = some (.ns m)) (h : setN E x v (V.set l .dead) = some V') : ∃ V₆, setN E x v V = some V₆ /\ V₆[l]? = some (.ns m) /\ V₆.set l .dead = V' := by
 have hlt := (List.getElem?_eq_some_iff.mp hl).1
 have ne : ∀ {c : Nat} {o : AO}, o ≠ .dead -> (V.set l .dead)[c]? = some o -> c ≠ l /\ V[c]? = some o := fun {c o} ho e => by
  have : c ≠ l := fun q => by
   subst q
   rw [List.getElem?_set_self hlt] at e
   cases e; exact ho rfl
  exact ⟨this, by rw [List.getElem?_set_ne (fun q => this q.symm)] at e; exact e⟩
 have fin : ∀ {c : Nat} {o : AO}, c ≠ l -> upd c o (V.set l .dead) = some V' -> ∃ V₆, upd c o V = some V₆ /\ V₆[l]? = some (.ns m) /\ V₆.set l .dead = V' := fun {c o} hc e => by
  refine updE e fun k1 k2 => ?_
  rw [List.length_set] at k2
  refine i4 (V.set c o) (by unfold upd; rw [if_pos ⟨k1, k2⟩]) ?_ ?_
  ·refine rwR (List.getElem?_set_ne hc) ?_
   exact hl
  ·exact List.set_comm _ _ hc
 unfold setN at h ⊢
 split at h
 ·rename_i hk
  split at h
  ·rename_i m' hm'
   refine e2 (ne (fun e => by contradiction) hm') fun h1 h2 => ?_
   refine e4 (fin h1 h) fun V₆ a b c => ?_
   exact ⟨V₆, by simp only [hk, h2]; exact a, b, c⟩
  ·exact noneS h
 ·rename_i hk
  split at h
  ·rename_i c hc
   split at h
   ·rename_i o ho
    refine e2 (ne (fun e => by contradiction) ho) fun h1 h2 => ?_
    refine e4 (fin h1 h) fun V₆ a b d => ?_
    exact ⟨V₆, by simp only [hk, hc, h2]; exact a, b, d⟩
   ·exact noneS h
  ·exact noneS h
 ·exact noneS h
structure CompOk (X : Fx) (A : Around) (E : AE) (env : Env) (Z : List Addr) (s : Shared) (elt : Expr) (gens : List Comprehension) (sc : List (Nat × NK)) (p : Pos) (acc : Nat) (V₄ : Sg) (l : Nat) (m : List (Nat × AV)) : Prop where
 run : ∀ (use : Option (Value -> Sem Unit)) (Q : Value -> Shared -> Prop),
  (match use with
   | none => ∀ Z₄ s₄ ac, Z <+: Z₄ -> R X Z₄ (V₄.set l .dead) s₄ -> Z₄[acc]? = some ac -> Q (.ref ac) s₄
   | some u => ∀ Z₄ s₄ ac, Z <+: Z₄ -> R X Z₄ V₄ s₄ -> Z₄[acc]? = some ac -> W X A (u (.ref ac)) (fun _ s₅ => ∃ Z₅ V₅ m', Z₄ <+: Z₅ /\ R X Z₅ V₅ s₅ /\ V₅[l]? = some (.ns m') /\ ∀ s₆, R X Z₅ (V₅.set l .dead) s₆ -> Q .none s₆) s₄) ->
  W X A (comprehension (.ListComp elt gens (scopeOf sc) p) (scopeOf sc) env (firstIterPos gens p) (newList []) (firstAsync gens) (firstIter gens env) use) Q s
 ns : V₄[l]? = some (.ns m)
theorem comp_ok (K : Ok X) (S : Sd X r n) (hm : Room A n) (hR : R X Z V s) (he : EnvR X Z E env) {tp : Option Pos} {it : Ex} 
  (h : stepEv r E (.comp elt tg tp it cond sc p) V = some (v, V')) : ∃ acc V₄ l m, v = .ref acc /\ V' = V₄.set l .dead /\ CompOk X A E env Z s elt.py [⟨targetOf tg tp, it.py, pyL cond, 0⟩] sc p acc V₄ l m := by
 refine bindP h fun w V₁ h1 h => ?_
 refine bindP h fun j V₂ h2 h => ?_
 refine bindP h fun E' V₃ h3 h => ?_
 refine bindE h fun V₄ h4 h => ?_
 refine bindE h fun V₅ h5 h => ?_
 refine someP h ?_
 refine e4 (dropNs_some h5) fun m hns hnt z279 => ?_
 subst z279
 refine ⟨V₂.length, V₄, E'.loc, m, rfl, rfl, fun use Q hend => ?_, hns⟩
 refine comprehension_sound K S hm (it := it) rfl hR he h1 h2 h3 (fun Z₃ s₃ env' a ac p₃ r₃ e₃ ha hac => ?_) hns hnt (by cases use <;> exact hend)
 refine e4 (aiter_iter h2) fun o ho hj hi => ?_
 have hoj : V₃[j]? = some o := by
  refine e5 (compEnv_some h3) fun cl _ _ _ z280 => ?_
  subst z280
  refine e2 (layCells_app sc cl.reverse (V₂ ++ [.list []] ++ [.ns []])) fun t ht => ?_
  rw [ht]
  refine get_app _ (get_app _ (get_app _ ?_))
  rw [ho, hj, List.getElem?_append_right (Nat.le_refl _)]; simp
 exact compStart_sound (d := 0) (target := targetOf tg tp) (iter := it.py) (ifs := pyL cond) rfl r₃ hoj hi ha (compLoop_sound (d := 0) (cond := cond) (iter := it.py) S hm rfl rfl r₃ e₃ ha hac h4)
theorem comp2_ok (K : Ok X) (S : Sd X r n) (hm : Room A n) (hR : R X Z V s) (he : EnvR X Z E env) {p2 : Pos} {it1 : Ex} 
  (h : stepEv r E (.comp2 elt x1 p1 it1 x2 p2 it2 cond sc p) V = some (v, V')) : ∃ acc V₄ l m, v = .ref acc /\ V' = V₄.set l .dead /\ CompOk X A E env Z s elt.py [⟨.Name (nm x1) p1, it1.py, [], 0⟩, ⟨.Name (nm x2) p2, it2.py, pyL cond, 0⟩] sc p acc V₄ l m := by
 refine bindP h fun w V₁ h1 h => ?_
 refine bindP h fun j V₂ h2 h => ?_
 refine bindP h fun E' V₃ h3 h => ?_
 refine bindE h fun V₄ h4 h => ?_
 refine bindE h fun V₅ h5 h => ?_
 refine someP h ?_
 refine e4 (dropNs_some h5) fun m hns hnt z284 => ?_
 subst z284
 refine ⟨V₂.length, V₄, E'.loc, m, rfl, rfl, fun use Q hend => ?_, hns⟩
 refine comprehension_sound K S hm (it := it1) rfl hR he h1 h2 h3 (fun Z₃ s₃ env' a ac p₃ r₃ e₃ ha hac => ?_) hns hnt (by cases use <;> exact hend)
 refine e4 (aiter_iter h2) fun o ho hj hi => ?_
 have hoj : V₃[j]? = some o := by
  refine e5 (compEnv_some h3) fun cl _ _ _ z285 => ?_
  subst z285
  refine e2 (layCells_app sc cl.reverse (V₂ ++ [.list []] ++ [.ns []])) fun t ht => ?_
  refine rwR ht ?_
  refine get_app _ (get_app _ (get_app _ ?_))
  rw [ho, hj, List.getElem?_append_right (Nat.le_refl _)]; simp
 exact compStart_sound (d := 0) (target := .Name (nm x1) p1) (iter := it1.py) (ifs := []) rfl r₃ hoj hi ha (compLoop2_sound K S hm r₃ e₃ ha hac h4)
theorem CompOk.ev {elt : Expr} {gens : List Comprehension} {V₄ : Sg} (C : CompOk X A E env Z s elt gens sc p acc V₄ l m) : W X A (eval (.ListComp elt gens (scopeOf sc) p) env) (Post X Z (V₄.set l .dead) (.ref acc)) s := by
 rw [eval_ListComp]
 exact C.run none _ fun Z₄ s₄ ac p₄ r₄ h => ⟨Z₄, p₄, r₄, ac, h, rfl⟩
theorem CompOk.us {elt : Expr} {gens : List Comprehension} {V₄ : Sg} (C : CompOk X A E env Z s elt gens sc p acc V₄ l m) (he : EnvR X Z E env) {x : Nat} {px : Pos} (h : setN E x (.ref acc) (V₄.set l .dead) = some V') :
  W X A (evalThenUse (.ListComp elt gens (scopeOf sc) p) env fun v => assignAll v [assign (.Name (nm x) px) env]) (fun _ s' => ∃ Z', Z <+: Z' /\ R X Z' V' s') s := by
 refine e4 (setN_drop C.ns h) fun V₆ h1 h2 h3 => ?_
 show W X A (do let _ <- comprehension (.ListComp elt gens (scopeOf sc) p) (scopeOf sc) env (firstIterPos gens p) (newList []) (firstAsync gens) (firstIter gens env) (some fun v => assignAll v [assign (.Name (nm x) px) env]); pure ()) _ s
 refine wpAny_bind (C.run (some _) (fun _ s' => W X A (pure ()) (fun _ s' => ∃ Z', Z <+: Z' /\ R X Z' V' s') s') fun Z₄ s₄ ac p₄ r₄ hac => ?_)
 refine (?_ : W X A (assign (.Name (nm x) px) env (.ref ac)) _ s₄)
 refine W.mono (assign_name_sound r₄ (he.mono p₄) (v := .ref acc) ⟨ac, hac, rfl⟩ h1) fun _ s₅ r₅ => ⟨Z₄, V₆, m, List.prefix_refl _, r₅, h2, fun s₆ r₆ => wpAny_pure ⟨Z₄, p₄, h3 ▸ r₆⟩⟩
end
section
open PySem.W
variable {X : Fx} {Z Z' : List Addr} {V V' : Sg} {s s' : Shared} {A : Around} {E : AE} {env : Env}
inductive PVs (Z : List Addr) : List (Str × AV) -> List (Value × Value) -> Prop
 | nil : PVs Z [] []
 | cons {k : Str} {t : Tok} {x : AV} {v : Value} {xs : List (Str × AV)} {vs : List (Value × Value)} : VR Z x v -> PVs Z xs vs -> PVs Z ((k, x) :: xs) ((.str k t, v) :: vs)
noncomputable def dPairs (env : Env) (pos : Pos) : List (Str × Pos) -> List Ex -> List (Sem Value × Sem Value)
 | k :: ks, e :: es => (eval (.Constant (.str k.1) 0 k.2) env, do let x <- eval e.py env; standAt pos; pure x) :: dPairs env pos ks es
 | _, _ => []
theorem dPairs_shape (env : Env) (pos : Pos) (ks : List (Str × Pos)) (es : List Ex) (h : ks.length = es.length) :
  (evalEachOpt (ks.map fun k => some (.Constant (.str k.1) 0 k.2)) env).zip ((evalEach (pyL es) env).map fun v => do let x <- v; standAt pos; pure x) = (dPairs env pos ks es).map fun p => (some p.1, p.2) := by
 induction ks generalizing es with
 | nil => rfl
 | cons k ks ih =>
  rcases es with _ | ⟨e, es⟩
  ·exact nomatch h
  ·exact congrArg ((some (eval (.Constant (.str k.1) 0 k.2) env), do let x <- eval e.py env; standAt pos; pure x) :: ·) (ih es (Nat.succ.inj h))
theorem dPairs_len (env : Env) (pos : Pos) (ks : List (Str × Pos)) (es : List Ex) (h : ks.length = es.length) : (dPairs env pos ks es).length = ks.length := by
 induction ks generalizing es with
 | nil => rfl
 | cons k ks ih =>
  rcases es with _ | ⟨e, es⟩
  ·exact nomatch h
  ·exact congrArg (· + 1) (ih es (Nat.succ.inj h))
theorem evalPairs_sound (S : Sd X r n) (hm : Room A n) (ks : List (Str × Pos)) (es : List Ex) {s : Shared} {vs : List AV} (hl : ks.length = es.length) (h : evs r E es V = some (vs, V')) (hR : R X Z V s) (he : EnvR X Z E env) :
  W X A (evalPairs (dPairs env pos ks es)) (fun ys s' => ∃ Z', Z <+: Z' /\ R X Z' V' s' /\ PVs Z' ((ks.map (·.1)).zip vs) ys) s := by
 induction ks generalizing es Z V s vs with
 | nil =>
  obtain rfl : es = [] := List.length_eq_zero_iff.mp hl.symm
  exact someP h (evalPairs_nil ⟨Z, List.prefix_refl _, hR, .nil⟩)
 | cons k ks ih =>
  rcases es with _ | ⟨e, es⟩
  ·exact nomatch hl
  refine bindP h fun v V₁ h1 h => bindP h fun ws V₂ h2 h => ?_
  refine e2 (pairI h) fun z138 z139 => ?_
  subst z138
  subst z139
  refine evalPairs_cons (Calls.Constant_str ?_)
  refine wpAny_bind (W.mono (S.ev h1 (hR.tok _) he hm) fun y s₁ hp => wpAny_bind (wpAny_standAt (wpAny_pure ?_)))
  refine postE hp fun Z₁ p₁ r₁ v₁ => ?_
  exact W.mono (ih es (Nat.succ.inj hl) h2 r₁ (he.mono p₁)) fun ys s₂ hq => hq.elim fun Z₂ z => ⟨Z₂, p₁.trans z.1, z.2.1, .cons (v₁.mono z.1) z.2.2⟩
theorem sput_len (k : Str) (v : AV) (m : List (Str × AV)) : (sput k v m).length <= m.length + 1 := by
 induction m with
 | nil => exact Nat.le_refl _
 | cons p r ih =>
  refine (?_ : (if p.1 = k then (p.1, v) :: r else p :: sput k v r).length <= _)
  by_cases q : p.1 = k
  ·refine rwR (if_pos q) ?_
   exact Nat.le_succ _
  ·refine rwR (if_neg q) ?_
   exact Nat.succ_le_succ ih
theorem set_same {l : Sg} {j : Nat} {x : AO} (h : l[j]? = some x) : l.set j x = l := by
 have e := List.getElem?_eq_some_iff.mp h
 refine rwL e.2 ?_
 exact List.set_getElem_self e.1
theorem storeAll_sound {d : Addr} {j : Nat} (hj : nTop <= j) (hd : Z[j]? = some d) {f : Value × Value -> PUnit -> Sem (ForInStep PUnit)} (hf : ∀ x u, f x u = (do dictSet d x.1 x.2; pure (.yield ⟨⟩)))
  {xs : List (Str × AV)} {vs : List (Value × Value)} (hp : PVs Z xs vs) : ∀ {m : List (Str × AV) × Option Nat} {V : Sg} {s : Shared}, R X Z V s -> V[j]? = some (.dict m.1 m.2) -> m.1.length + xs.length <= 1000 ->
   W X A (forIn vs PUnit.unit f) (fun _ s' => R X Z (V.set j (.dict (dputs xs m).1 (dputs xs m).2)) s') s := by
 induction hp with
 | nil => exact fun {m V s} r hs _ => wpAny_pure ((set_same hs).symm ▸ r : R X Z (V.set j (.dict m.1 m.2)) s)
 | @cons k t x v xs vs hv hr ih =>
  intro m V s r hs hlen
  have hlt := (List.getElem?_eq_some_iff.mp hs).1
  rw [List.forIn_cons, hf]
  refine diV r hd hs fun ps e hD hk hn => ?_
  have hle : ps.length <= 5000 := Nat.le_trans (hk.length ▸ Nat.le_trans (Nat.le_add_right ..) hlen) (by decide)
  refine wpAny_bind (wpAny_bind (dictSet_at (k := k) (beq_self_eq_true k) hD hle fun h' hD' hs' => wpAny_pure ?_))
  have r' := dict_set1 (k := k) (v := x) r hj hd hs hv hk hD.nodup hn hD' hs' (s.toks + 1)
  refine W.mono (ih (m := dput k x m) r' (List.getElem?_set_self hlt) (Nat.le_trans (Nat.add_le_add_right (sput_len k x m.1) _) (Nat.le_trans (Nat.le_of_eq (Nat.add_right_comm ..)) hlen))) fun _ s₂ r₂ => ?_
  rw [List.set_set] at r₂
  exact r₂
theorem dict0E {α : Type} {r : α} {o : Option AO} {f : Option α} (h : (match o with | some (.dict [] (some 0)) => f | _ => none) = some r) (k : o = some (.dict [] (some 0)) -> f = some r -> G) : G := by
 rcases o with _ | o
 ·exact noneS h
 induction o with
 | dict m e =>
  rcases m with _ | _
  ·rcases e with _ | _ | e
   ·exact noneS h
   ·exact k rfl h
   ·exact noneS h
  ·exact noneS h
 | _ => exact noneS h
theorem dict0 {w : World} : (h.push { cls := .type "dict", data := .dict #[] }).DictAt (strKind prog w) h.objs.size [] 0 := ⟨_, #[], Heap.get?_push_size _ rfl, ⟨rfl, rfl, rfl⟩, rfl, fun _ he => absurd he (Array.not_mem_empty _), Pairs.nil, List.nodup_nil⟩
theorem dict_ev (S : Sd X r n) (hm : Room A n) (hR : R X Z V s) (he : EnvR X Z E env) {ks : List (Str × Pos)} {vs : List Ex} (h : stepEv r E (.dict ks vs p) V = some (v, V')) : W X A (eval (Ex.dict ks vs p).py env) (Post X Z V' v) s := by
 refine bindP h fun xs V₁ h1 h => dict0E h fun hs h => iteS h fun hc h => bindE h fun V₂ h2 h => someP h (updE h2 fun k1 _ => ?_)
 have hlen := dPairs_len env p ks vs hc.1
 have h15 : (dPairs env p ks vs).length <= 15 := hlen ▸ hc.2.1
 refine (?_ : W X A (eval (.Dict (ks.map fun k => some (.Constant (.str k.1) 0 k.2)) (pyL vs) p) env) _ s)
 rw [arm_eval_Dict]
 refine rwR (dPairs_shape env p ks vs hc.1) ?_
 refine rwR (dictDisplay_pairs (dPairs env p ks vs) (fun e => hc.2.2 (List.length_eq_zero_iff.mp (hlen.symm.trans (congrArg List.length e)))) (Nat.lt_of_le_of_lt h15 (by decide))) ?_
 refine wpAny_bind (wpAny_standAt (wpAny_bind ?_))
 delta subDict
 refine wpAny_bind (wpAny_alloc ?_)
 refine postE (hR.push (ob := { cls := .type "dict", data := .dict #[] }) (o := .dict [] (some 0)) rfl fun Z' _ => ⟨[], 0, dict0, .nil, fun n hn => Option.some.inj hn⟩) fun Z₀ p₀ r₀ hde => ?_
 have hd : Z₀[V.length]? = some s.heap.objs.size := hde.elim fun d z => (Value.ref.inj z.2) ▸ z.1
 refine wpAny_bind (wpAny_holding ?_)
 dsimp only
 refine rwR (if_pos h15) ?_
 refine wpAny_bind (W.mono (evalPairs_sound S hm ks vs hc.1 h1 r₀ (he.mono p₀)) fun ys s₂ hq => wpAny_holding (hq.elim fun Z₂ z => ?_))
 have hzl : 0 + ((ks.map (·.1)).zip xs).length <= 1000 := by
  rw [List.length_zip, List.length_map, Nat.zero_add]
  exact Nat.le_trans (Nat.min_le_left ..) (Nat.le_trans hc.2.1 (by decide))
 exact wpAny_bind (W.mono (storeAll_sound (m := ([], some 0)) k1 (get_prefix z.1 hd) (fun _ _ => rfl) z.2.2 z.2.1 hs hzl) fun _ s₃ r₃ => wpAny_pure (wpAny_pure (wpAny_pure ⟨Z₂, p₀.trans z.1, r₃, s.heap.objs.size, get_prefix z.1 hd, rfl⟩)))
end
section
open PySem.W
section
variable {prog : Program} {w : World} {A : Around} {E : Value -> Shared -> Prop} {s : Shared} {d a : Addr} {kvs more : List (Str × Value)} {ep eo : Nat} {k : Str} {key v : Value}
theorem dictPut_at {Q : Unit -> Shared -> Prop} (hkey : (strKind prog w).is k key = true) (hm : s.heap.DictAt (strKind prog w) d kvs ep) (hsz : kvs.length <= 5000)
  (hQ : ∀ h', h'.DictAt (strKind prog w) d (stored kvs k v) (epAfter kvs k ep) -> Heap.SameBut d s.heap h' -> Q () { s with heap := h' }) :
  wpAny (model prog w) A (dictPut d ((strKind prog w).hash k) key v) Q E s := by
 refine e8 hm fun o es ho hc hd hk hp hn => ?_
 have hlen : es.size = kvs.length := Array.length_toList.symm.trans hp.length
 have D := dict_change (v := v) (s := s) ho hc hd hk hp hn hkey 0
 unfold dictPut
 refine wpAny_bind (wpAny_dictFind_of hkey ho hd hk ?_)
 cases hi : es.findIdx? fun e => (strKind prog w).is k e.key with
 | some i => exact wpAny_updateDict ho hd (hQ _ (D.1 i hi) (Heap.SameBut.update ..))
 | none => exact wpAny_updateDictKeys (hz := by rw [hlen, sizeLine_eq]; exact Nat.le_trans hsz (by decide)) ho hd (hQ _ (D.2 hi) (Heap.SameBut.update ..))
theorem forIn_unit {α : Type} {f : α -> PUnit -> Sem (ForInStep PUnit)} (l : List α) (h : ∀ x ∈ l, f x ⟨⟩ = pure (.yield ⟨⟩)) : forIn l PUnit.unit f = pure ⟨⟩ := by
 induction l with
 | nil => rfl
 | cons x l ih =>
  rw [List.forIn_cons]
  refine rwR (h x List.mem_cons_self) ?_
  exact ih fun y hy => h y (List.mem_cons_of_mem _ hy)
theorem range_end (h : ([] : List Nat) = List.range' i (n - i)) (hi : i <= n) : i = n := by
 have e := congrArg List.length h
 rw [List.length_range'] at e
 exact Nat.le_antisymm hi (Nat.le_of_sub_eq_zero e.symm)
theorem range_step {x : Nat} {rest : List Nat} (h : x :: rest = List.range' i (n - i)) : i < n /\ x = i /\ rest = List.range' (i + 1) (n - (i + 1)) := by
 have hlt : i < n := by
  rcases Nat.lt_or_ge i n with q | q
  ·exact q
  ·rw [Nat.sub_eq_zero_of_le q] at h; exact nomatch h
 have e : n - i = (n - (i + 1)) + 1 := (sub1 hlt)
 rw [e, List.range'_succ] at h
 exact ⟨hlt, (List.cons.inj h).1, (List.cons.inj h).2⟩
theorem two_ways {α : Type} {c : Prop} {d : Decidable c} {m m' : Sem α} {Q : α -> Shared -> Prop} (h : wpAny (model prog w) A m' Q E s -> wpAny (model prog w) A m Q E s) (h' : wpAny (model prog w) A m' Q E s) : wpAny (model prog w) A (@ite _ c d m m') Q E s := by
 by_cases q : c
 ·refine rwR (if_pos q) ?_
  exact h h'
 ·refine rwR (if_neg q) ?_
  exact h'
structure Merging (prog : Program) (w : World) (s : Shared) (d a : Addr) (kvs more : List (Str × Value)) (oo : Obj) (n : Nat) (rest : List Nat) (s' : Shared) (h' : Heap) (i e' : Nat) : Prop where
 st : s' = { s with heap := h' }
 re : rest = List.range' i (n - i)
 le : i <= n
 di : h'.DictAt (strKind prog w) d (merged kvs (more.take i)) e'
 ot : h'.get? a = some oo
 but : Heap.SameBut d s.heap h'
theorem strKey {key : Value} (h : (strKind prog w).is k key = true) : ∃ t, key = .str k t := Value.isStrOf_shape h
theorem mergeMapping_at {Q : Unit -> Shared -> Prop} (hne : d ≠ a) (hS : (a == sysModules) = false) (hd : s.heap.DictAt (strKind prog w) d kvs ep) (ho : s.heap.DictAt (strKind prog w) a more eo) (hlen : kvs.length + more.length <= 5000)
  (hQ : ∀ h' ep', h'.DictAt (strKind prog w) d (merged kvs more) ep' -> Heap.SameBut d s.heap h' -> Q () { s with heap := h' }) : wpAny (model prog w) A (mergeMapping d (.ref a) false) Q E s := by
 have hT : s.TypeIs (.ref a) "dict" := ho.dictOf.mapOf.typeIs
 refine e8 (id hd) fun od esd hod hcd hdd hkd hpd hnd => ?_
 refine e8 (id ho) fun oo eso hoo hco hdo hko hpo hno => ?_
 have hl : more.length = eso.size := by rw [<- hpo.length]; simp
 unfold mergeMapping
 refine wpAny_bind (wpAny_isInstance (T := "dict") hT PySem.F.sub_dict_dict ?_)
 refine rwR (if_pos rfl) ?_
 refine wpAny_bind (wpAny_specialOf hT PySem.F.slot_dict_iter.lookup (wpAny_bind (wpAny_pure ?_)))
 rw [show (some (Value.builtin "dict.__iter__") == some (Value.builtin "dict.__iter__")) = true by decide +kernel]
 dsimp only
 refine rwR (if_neg (by rw [hS]; exact Bool.false_ne_true)) ?_
 refine wpAny_bind (wpAny_dictEntries hod hdd ?_)
 refine two_ways (fun rest => ?_) ?_
 ·refine wpAny_bind (wpAny_dictEntries hoo hdo ?_)
  refine rwL Array.forIn_toList ?_
  refine rwR (forIn_unit eso.toList fun x hx => (hko x (Array.mem_toList_iff.mp hx)).elim fun k' z => (strKey z.1).elim fun t ht => by rw [ht]) ?_
  exact wpAny_bind (wpAny_pure rest)
 refine wpAny_bind (wpAny_dictEntries hoo hdo (wpAny_bind (wpAny_dictEpoch hoo hdo ?_)))
 refine rwR List.range_eq_range' ?_
 refine wpAny_bind ?_
 refine wpAny_forIn_list _ (fun rest _ s' => ∃ h' i e', Merging prog w s d a kvs more oo eso.size rest s' h' i e') _ (fun x rest b s' z => ?_) (fun b s' z => ?_) _ _ ⟨s.heap, 0, ep, rfl, rfl, Nat.zero_le _, hd, hoo, Heap.SameBut.refl _ _⟩
 ·refine e4 z fun h' i e' z => ?_
  refine e3 (range_step z.re) fun hlt z134 hrest => ?_
  subst z134
  obtain rfl := z.st
  refine wpAny_bind (wpAny_dictEntries z.ot hdo ?_)
  refine rwR (Array.getElem?_eq_getElem hlt) ?_
  have hm : x < more.length := hl.symm ▸ hlt
  have hkv := List.getElem?_eq_getElem hm
  generalize more[x] = kv at hkv
  obtain ⟨k, v⟩ := kv
  refine e2 (hpo.get? (e := eso[x]) (Array.getElem?_toList.trans (Array.getElem?_eq_getElem hlt)) hkv) fun hkey hval => ?_
  refine e3 (hko eso[x] (Array.getElem_mem hlt)) fun k' hkey' hhash => ?_
  obtain rfl : k' = k := (strKind prog w).inj _ _ _ hkey' hkey
  dsimp only
  refine rwR hhash ?_
  refine rwR hval ?_
  have hmx : (merged kvs (more.take x)).length <= 5000 := Nat.le_trans (merged_length_le kvs (more.take x)) (Nat.le_trans (Nat.add_le_add_left (List.length_take_le' ..) _) hlen)
  refine wpAny_bind (wpAny_holding (dictPut_at hkey z.di hmx fun h'' hd'' hs'' => ?_))
  have hoo'' : h''.get? a = some oo := (hs''.2 a (Ne.symm hne)).trans z.ot
  refine wpAny_bind (wpAny_dictEpoch hoo'' hdo ?_)
  refine rwR (if_neg (by simp)) ?_
  exact wpAny_pure ⟨h'', x + 1, _, rfl, hrest, hlt, merged_take_succ kvs more x (k', v) hkv ▸ hd'', hoo'', z.but.trans hs''⟩
 ·refine e4 z fun h' i e' z => ?_
  obtain rfl := z.st
  have e : more.take i = more := by rw [range_end z.re z.le, <- hl, List.take_length]
  exact wpAny_pure (hQ h' e' (e ▸ z.di) z.but)
end
end
section
open PySem.W
variable {X : Fx} {Z Z' : List Addr} {V V' : Sg} {s s' : Shared} {A : Around} {E : AE} {env : Env}
structure Ok2 (X : Fx) : Prop extends Ok X where
 notS : ∀ j a, j < nTop -> X.Z₀[j]? = some a -> (a == sysModules) = false
theorem R.notSys2 (K : Ok2 X) (r : R X Z V s) {j : Nat} {a : Addr} (ha : Z[j]? = some a) : (a == sysModules) = false := by
 by_cases hj : nTop <= j
 ·exact R.notSys K.toOk r hj ha
 ·have hj := Nat.not_le.mp hj
  have hlt : j < X.Z₀.length := K.top.symm ▸ hj
  have e := List.getElem?_eq_getElem hlt
  exact K.notS j a hj (e.trans ((get_prefix r.pre e).symm.trans ha))
theorem merged_kvs {xs : List (Str × AV)} (h : KVs Z xs ps) {m : List (Str × AV) × Option Nat} {qs : List (Str × Value)} (h1 : KVs Z m.1 qs) (hn : (qs.map (·.1)).Nodup) : KVs Z (dputs xs m).1 (merged qs ps) /\ ((merged qs ps).map (·.1)).Nodup := by
 induction h generalizing m qs with
 | nil => exact ⟨h1, hn⟩
 | @cons k x v xs vs hv hr ih => exact ih (m := dput k x m) (h1.put hn hv) (stored_nodup hn k v)
theorem merge_names {a b : Ex} {x : AV × Sg} (h : stepEv r E (.merge a b p) V = some x) : ∃ y q z u, a = .name y q /\ b = .name z u := by
 rcases a <;> first | exact noneS h | rcases b <;> first | exact noneS h | exact ⟨_, _, _, _, rfl, rfl⟩
theorem refRefE {α : Type} {r : α} {w : AV} {f : Nat -> Nat -> Option α} (h : (match v, w with | .ref i, .ref j => f i j | _, _ => none) = some r) (k : ∀ i j, v = .ref i -> w = .ref j -> f i j = some r -> G) : G := by
 induction v with
 | ref i =>
  induction w with
  | ref j => exact k i j rfl rfl h
  | _ => exact noneS h
 | _ => exact noneS h
theorem oDict2 {α : Type} {r : α} {o o' : Option AO} {g : List (Str × AV) -> Option Nat -> List (Str × AV) -> Option Nat -> Option α} (h : (match o, o' with | some (.dict xs e), some (.dict ys e') => g xs e ys e' | _, _ => none) = some r)
  (k2 : ∀ xs e ys e', o = some (.dict xs e) -> o' = some (.dict ys e') -> g xs e ys e' = some r -> G) : G := by
 rcases o with _ | o
 ·exact noneS h
 induction o with
 | dict xs e =>
  rcases o' with _ | o'
  ·exact noneS h
  induction o' with
  | dict ys e' => exact k2 xs e ys e' rfl rfl h
  | _ => exact noneS h
 | _ => exact noneS h
theorem mergeE {a b : AV} (h : mergeA V a b = some (v, V')) (k : ∀ i j xs ex ys ey, a = .ref i -> b = .ref j -> V[i]? = some (.dict xs ex) -> V[j]? = some (.dict ys ey) -> xs.length <= 10 -> ys.length <= 10 -> v = .ref V.length -> V' = V ++ [.dict (dputs ys (dputs xs ([], none))).1 none] -> G) : G :=
 refRefE h fun i j ea eb h => oDict2 h fun xs ex ys ey hx hy h => iteS h fun hc h => k i j xs ex ys ey ea eb hx hy hc.1 hc.2 (pairI h).1.symm (pairI h).2.symm
theorem merge_ev (K : Ok2 X) (S : Sd X r n) (hm : Room A n) (hR : R X Z V s) (he : EnvR X Z E env) {a b : Ex} (h : stepEv r E (.merge a b p) V = some (v, V')) : W X A (eval (Ex.merge a b p).py env) (Post X Z V' v) s := by
 refine e6 (merge_names h) fun x px y py z64 z65 => ?_
 subst z64
 subst z65
 refine bindE h fun vx h1 h => bindE h fun vy h2 h => mergeE h fun i j xs ex ys ey ei ej hx hy l1 l2 ev es => ?_
 subst ei ej ev es
 obtain ⟨ax, hax, ps, e1, hd1, hk1, _⟩ := hR.addr hx
 obtain ⟨ay, hay, qs, e2, hd2, hk2, _⟩ := hR.addr hy
 have l1 : ps.length <= 10 := hk1.length ▸ l1
 have l2 : qs.length <= 10 := hk2.length ▸ l2
 have fresh : ∀ {c : Addr} {o : Obj}, s.heap.get? c = some o -> s.heap.objs.size ≠ c := fun {c o} hc q => noneS ((Heap.get?_none_of_le (Nat.le_of_eq q)).symm.trans hc)
 have ne1 : s.heap.objs.size ≠ ax := hd1.elim fun o z => z.elim fun _ z => fresh z.1
 have ne2 : s.heap.objs.size ≠ ay := hd2.elim fun o z => z.elim fun _ z => fresh z.1
 have r₁ : R X Z V { s with heap := s.heap.push { cls := .type "dict", data := .dict #[] } } := hR.grow (fun b o e => Heap.get?_push_of_some _ e) rfl rfl
 clear h hx hy
 refine (?_ : W X A (eval (.Dict [none, none] [.Name (nm x) px, .Name (nm y) py] p) env) _ s)
 rw [arm_eval_Dict]
 refine wpAny_bind (wpAny_standAt ?_)
 refine (?_ : W X A (dictDisplay [(none, do let x <- eval (.Name (nm x) px) env; standAt p; pure x), (none, do let x <- eval (.Name (nm y) py) env; standAt p; pure x)]) _ s)
 delta dictDisplay
 dsimp only
 refine wpAny_bind ?_
 rw [List.forIn_cons]
 refine wpAny_bind ?_
 dsimp only
 refine wpAny_bind (m := pure none) (wpAny_pure ?_)
 dsimp only
 refine wpAny_bind (wpAny_alloc ?_)
 refine wpAny_bind (wpAny_holding (wpAny_bind (wpAny_Name (W.to (loadName_sound K.toOk r₁ he h1) fun y1 s₁ hy1 => ?_) (nm_debug x))))
 obtain rfl := hy1.1
 refine hy1.2.elim fun c1 z => ?_
 obtain rfl := uq hax z.1
 obtain rfl := z.2
 clear z hy1
 refine wpAny_bind (wpAny_standAt (wpAny_pure ?_))
 refine wpAny_bind (wpAny_onRaise (wpAny_tryCatch (wpAny_onRaise (wpAny_holding (mergeMapping_at ne1 (R.notSys2 K hR hax) dict0 (hd1.keep fun b o e => Heap.get?_push_of_some _ e) (Nat.le_trans (Nat.le_of_eq (Nat.zero_add _)) (Nat.le_trans l1 (by decide))) fun h₁ ep₁ hD₁ hs₁ => ?_)))))
 refine wpAny_pure ?_
 dsimp only
 have keep1 : ∀ b o, s.heap.get? b = some o -> h₁.get? b = some o := fun b o e => (hs₁.2 b (fresh e).symm).trans (Heap.get?_push_of_some _ e)
 have r₂ : R X Z V { s with heap := h₁ } := hR.grow keep1 rfl rfl
 clear hs₁ r₁
 rw [List.forIn_cons]
 refine wpAny_bind ?_
 dsimp only
 refine wpAny_bind (m := pure (some s.heap.objs.size)) (wpAny_pure ?_)
 dsimp only
 refine wpAny_bind (wpAny_pure ?_)
 refine wpAny_bind (wpAny_holding (wpAny_bind (wpAny_Name (W.to (loadName_sound K.toOk r₂ he h2) fun y2 s₂ hy2 => ?_) (nm_debug y))))
 obtain rfl := hy2.1
 refine hy2.2.elim fun c1 z => ?_
 obtain rfl := uq hay z.1
 obtain rfl := z.2
 clear z hy2
 refine wpAny_bind (wpAny_standAt (wpAny_pure ?_))
 have hml : (merged ([] : List (Str × Value)) ps).length + qs.length <= 5000 := Nat.le_trans (Nat.add_le_add (Nat.le_trans (merged_length_le [] ps) (Nat.le_trans (Nat.le_of_eq (Nat.zero_add _)) l1)) l2) (by decide)
 refine wpAny_bind (wpAny_onRaise (wpAny_tryCatch (wpAny_onRaise (wpAny_holding (mergeMapping_at (s := { s with heap := h₁ }) ne2 (R.notSys2 K hR hay) hD₁ (hd2.keep keep1) hml fun h₂ ep₂ hD₂ hs₂ => ?_)))))
 refine wpAny_pure ?_
 dsimp only
 refine rwR List.forIn_nil ?_
 refine wpAny_pure ?_
 refine wpAny_bind (m := pure (some s.heap.objs.size)) (wpAny_pure ?_)
 have m1 := merged_kvs (m := ([], none)) hk1 .nil List.nodup_nil
 have m2 := merged_kvs (m := dputs xs ([], none)) hk2 m1.1 m1.2
 exact wpAny_pure ⟨_, List.prefix_append .., R.new1 hR (s' := { s with heap := h₂ }) (fun b o e => (hs₂.2 b (fresh e).symm).trans (keep1 b o e)) (Heap.get?_none_of_le (Nat.le_refl _)) (hD₂.elim fun o z => z.elim fun _ z => ⟨o, z.1⟩) rfl rfl ⟨_, _, hD₂, m2.1.mono (List.prefix_append ..), fun n hn => noneS hn⟩, refI (getNew hR.len)⟩
end
section
open PySem.W
open N0 N1 N2 N3 N4
variable {X : Fx} {Z Z' : List Addr} {V V' : Sg} {s s' : Shared} {A : Around} {E : AE} {env : Env}
theorem Post.keepGrow (r : R X Z V s) (h : VR Z v y) (hk : ∀ b o, s.heap.get? b = some o -> h'.get? b = some o) : Post X Z V v y { s with heap := h', toks := t } :=
 .intro (r.grow hk rfl rfl) h
theorem sumA_spec {a : Int} (h : sumA xs a = some v) (hv : VRs Z xs vs) (ha : small a = true) :
  ∃ ns : List (Int × Tok), vs = ns.map (fun p => .int p.1 p.2) /\ v = .int ((ns.map (·.1)).foldl (· + ·) a) /\ ∀ j, j <= ns.length -> small (((ns.map (·.1)).take j).foldl (· + ·) a) = true := by
 induction hv generalizing a with
 | nil => exact ⟨[], rfl, (mkI_some h).1, fun j _ => by rw [List.map_nil, List.take_nil]; exact ha⟩
 | @cons x v xs vs hx hr ih =>
  induction x with
  | int i =>
   refine iteS h fun hs h => (ih h hs).elim fun ns z => hx.elim fun t e => ⟨(i, t) :: ns, by rw [e, z.1]; rfl, z.2.1, fun j hj => ?_⟩
   induction j with
   | zero => exact ha
   | succ j => exact z.2.2 j (Nat.le_of_succ_le_succ hj)
  | _ => exact noneS h
theorem preSum_fold (ns : List (Int × Tok)) (j : Nat) (h : j <= ns.length) : preSum (numAt ns.toArray) j = ((ns.map (·.1)).take j).foldl (· + ·) 0 := by
 induction j with
 | zero => rfl
 | succ j ih =>
  have hj : j < ns.length := h
  have e : numAt ns.toArray j = ns[j].1 := by simp [numAt, hj]
  rw [preSum]
  refine rwR (ih (Nat.le_of_lt hj)) ?_
  refine rwR List.take_add_one ?_
  refine rwR List.foldl_append ?_
  refine rwR e ?_
  simp [hj]
theorem hex_text (n : Nat) : baseText "0x" 16 (n : Int) = hexA n := by
 refine rwR (baseText_nonneg (Int.natCast_nonneg n)) ?_
 unfold hexA
 rw [Str.ofString_eq_toList, Str.ofString_eq_toList, Str.ofString_eq_toList]
 refine (?_ : Str.mk _ = Str.mk _)
 have e : (String.ofList (Nat.toDigits 16 (n : Int).natAbs)).toList = Nat.toDigits 16 n := by rw [String.toList_ofList]; rfl
 refine rwR e ?_
 congr 1
theorem sum_run (hh : A.handled = none) (r : R X Z V s) {p : Addr} {ws : Array Value} (h3 : sumA xs 0 = some v) (hli : s.heap.IsList p ws) (hr : VRs Z xs ws.toList) : W X A (call (.builtin "sum") [.ref p]) (Post X Z V v) s := by
 refine (sumA_spec h3 hr (by decide)).elim fun ns z => ?_
 have e4 : ws = intItems ns.toArray := by
  apply Array.ext'
  rw [z.1]; simp [intItems]
 have k0 := z.2.2
 have e2 := z.2.1
 clear z h3 hr
 subst e4
 have pin : ∀ j, j <= ns.length -> -4611686018427387904 < preSum (numAt ns.toArray) j /\ preSum (numAt ns.toArray) j < 4611686018427387904 := fun j hj => preSum_fold ns j hj ▸ small_iff (k0 j hj)
 refine sum_intList hh hli (fun j hj => ?_) fun h' tk t' hk => Post.keepGrow r (v := v) ?_ hk
 ·have k1 := pin j (Nat.le_of_lt hj)
  have k2 := pin (j + 1) hj
  have k3 : preSum (numAt ns.toArray) (j + 1) = preSum (numAt ns.toArray) j + numAt ns.toArray j := rfl
  unfold InLong
  lia
 ·refine rwR e2 ?_
  exact ⟨t', congrArg (Value.int · t') ((preSum_fold ns ns.length (Nat.le_refl _)).trans (by rw [List.take_of_length_le (Nat.le_of_eq (List.length_map ..))]))⟩
theorem callR_sound (hh : A.handled = none) (r : R X Z V s) {b : BI} {j : Nat} {p : Addr} (h : callR b j V = some (v, V')) (hp : Z[j]? = some p) : W X A (call b.val [.ref p]) (Post X Z V' v) s := by
 induction b with
 | len =>
  refine oSeq h (fun xs hx h => iteS h fun hl h => someP h ?_) fun xs hx h => iteS h fun hl h => someP h ?_
  ·exact liV r hp hx fun ws hli hr e1 => PyProof.Rows.len_list hli (by lia) (.intro (r.tok _) ⟨_, by rw [e1]⟩)
  ·exact tuV r hp hx fun ws hli hr e1 => PyProof.Rows.len_tuple hli (by lia) (.intro (r.tok _) ⟨_, by rw [e1]⟩)
 | sum => exact oList h fun xs hx h => mapE h fun w h3 h4 => liV r hp hx fun ws hli hr e1 => someP (congrArg some h4) (sum_run hh r h3 hli hr)
 | tuple =>
  refine oList h fun xs hx h => iteS h fun hl h => someP h ?_
  refine liV r hp hx fun ws hli hr e1 => call_tuple_list hli (fun h' hk => ?_) (by rw [sizeLine_eq]; lia)
  exact R.tuple (r.grow (s' := { s with heap := h' }) hk rfl rfl) hr s.toks
 | _ => exact noneS h
theorem callI_sound (r : R X Z V s) {b : BI} {i : Int} {t : Tok} (h : callI b i V = some (v, V')) : W X A (call b.val [.int i t]) (Post X Z V' v) s := by
 induction b with
 | hex =>
  rcases i with n | n
  ·refine iteS h fun hn h => someP h ?_
   refine P.hex_of_int (.intro (r.tok _) ⟨_, by rw [<- hex_text]; rfl⟩) ?_
   exact baseText_under (pre := "0x") (base := 16) (i := Int.ofNat n) (by decide +kernel) (by decide) (Nat.lt_of_le_of_lt hn (by decide))
  ·exact noneS h
 | range => exact iteS h fun _ h => someP h (call_range_1 ((r.tok (s.toks + 1 + 1)).push (o := .rng 0 _) rfl fun Z' _ => ⟨_, _, _, Heap.get?_push_size _ rfl⟩))
 | _ => exact noneS h
theorem callII_sound (hh : A.handled = none) (r : R X Z V s) {b : BI} {i j : Int} {t u : Tok} (h : callII b i j V = some (v, V')) : W X A (call b.val [.int i t, .int j u]) (Post X Z V' v) s := by
 induction b with
 | max =>
  refine someP h (max_two_ints hh fun h' tk hk => Post.keepGrow r ?_ hk)
  by_cases q : j > i
  ·refine rwR (if_pos q) ?_
   refine rwR (if_pos q) ?_
   exact ⟨_, rfl⟩
  ·refine rwR (if_neg q) ?_
   refine rwR (if_neg q) ?_
   exact ⟨_, rfl⟩
 | range => exact iteS h fun _ h => someP h (call_range_2 ((r.tok (s.toks + 1)).push (o := .rng _ _) rfl fun Z' _ => ⟨_, _, _, Heap.get?_push_size _ rfl⟩))
 | _ => exact noneS h
theorem callB_sound (hh : A.handled = none) (r : R X Z V s) {b : BI} (h : callB b args V = some (v, V')) (ha : VRs Z args vs) : W X A (call b.val vs) (Post X Z V' v) s := by
 refine args12E h (fun x e h => ?_) fun x y e h => ?_
 ·subst e
  refine oneE ha fun w hw => refIntE h (fun j e h => ?_) fun i e h => ?_
  ·subst e
   exact refV hw fun p hp => callR_sound hh r h hp
  ·subst e
   exact intV hw fun t => callI_sound r h
 ·subst e
  refine twoE ha fun w z hw hz => intIntE h fun i j e e' h => ?_
  subst e e'
  refine intV hw fun t => ?_
  exact intV hz fun u => callII_sound hh r h
end
section
open PySem.W
variable {X : Fx} {Z Z' : List Addr} {V V' : Sg} {s s' : Shared} {A : Around} {E : AE} {env : Env}
theorem strsFrom_rel : ∀ (ys : List Str) (t : Nat), VRs Z (strAVs ys) (strsFrom t ys)
 | [], _ => .nil
 | y :: ys, t => .cons ⟨_, rfl⟩ (strsFrom_rel ys (t + 1))
theorem split_call (r : R X Z V s) {x y : Str} {t u : Tok} (hy : y.cps.size = 2) (hx : x.cps.size <= 1000) : W X A (call (.builtin "str.split") [.str x t, .str y u]) (Post X Z (V ++ [.list (strAVs (Txt.split x y))]) (.ref V.length)) s := by
 have hx' : x.length <= 1000 := hx
 have hy0 : (y.length == 0) = false := by
  have : y.length = 2 := hy
  refine rwR this ?_
  rfl
 have hocc := StrLaws.occ_length_le x y 0 x.length (x.length + 1)
 have itself : Txt.split x y = [x] -> True -> Post X Z (V ++ [.list (strAVs (Txt.split x y))]) (.ref V.length) (.ref s.heap.objs.size) { s with heap := s.heap.push { cls := .type "list", data := .seq #[.str x t] } } := fun e _ => by
  refine rwR e ?_
  exact r.list (xs := [.str x]) (vs := #[.str x t]) (.cons ⟨t, rfl⟩ .nil) s.toks
 cases h1 : (decide (x.length < y.length) || decide (Builtin.Str.strKind x < Builtin.Str.strKind y))
 ·cases hf : (Builtin.Str.occurrences x y 0 x.length (x.length + 1)).isEmpty
  ·refine call_meets F.slot_str_split (typeIs_str _ _ _) F.entry_str_split (F.args_str_split_2 _ _) (meets_str_split_sep x y t u h1 hy0 hf (by rw [sizeLine_eq]; lia) (by rw [length_partsBetween, sizeLine_eq]; lia)) ?_
   have e : Txt.split x y = Builtin.Str.partsBetween x (Builtin.Str.occurrences x y 0 x.length (x.length + 1)) y.length := by
    unfold Txt.split; rw [h1, hf]; rfl
   refine rwR e ?_
   exact r.list (xs := strAVs _) (vs := (strsFrom s.toks (Builtin.Str.partsBetween x (Builtin.Str.occurrences x y 0 x.length (x.length + 1)) y.length)).toArray) (strsFrom_rel _ _) _
  ·exact call_meets F.slot_str_split (typeIs_str _ _ _) F.entry_str_split (F.args_str_split_2 _ _) (meets_str_split_not_found x y t u h1 hy0 hf)
    (itself (by unfold Txt.split; rw [h1, hf]; rfl) trivial)
 ·exact call_meets F.slot_str_split (typeIs_str _ _ _) F.entry_str_split (F.args_str_split_2 _ _) (meets_str_split_cannot_occur x y t u h1)
   (itself (by unfold Txt.split; rw [h1]; rfl) trivial)
theorem joinA_spec (sep : Str) {z : Str} (h : joinA sep xs = some z) : ∃ ys, xs = strAVs ys /\ z = Str.join sep ys := by
 induction xs generalizing z with
 | nil => exact ⟨[], rfl, (Option.some.inj h).symm⟩
 | cons x r ih =>
  induction x with
  | str s =>
   rcases r with _ | ⟨y, r⟩
   ·exact i3 ([s]) rfl ((Option.some.inj h).symm)
   ·refine bindE h fun w h1 h2 => (ih h1).elim fun ys e => ?_
    rcases ys with _ | ⟨a, ys⟩
    ·exact nomatch e.1
    ·exact ⟨s :: a :: ys, congrArg (AV.str s :: ·) e.1, by rw [<- Option.some.inj h2, e.2]; rfl⟩
  | _ => rcases r with _ | ⟨y, r⟩ <;> exact noneS h
theorem join_len_ge (sep : Str) : ∀ ys : List Str, (ys.map (·.length)).sum <= (Str.join sep ys).length
 | [] => by simp
 | [y] => by simp [Str.join]
 | x :: y :: r => by
  have ih := join_len_ge sep (y :: r)
  refine (?_ : _ <= (x ++ sep ++ Str.join sep (y :: r)).length)
  rw [Str.length_append, Str.length_append, List.map_cons, List.sum_cons]
  lia
theorem strs_rel {ys : List Str} (h : VRs Z (strAVs ys) vs) : StrsAre vs ys := by
 induction ys generalizing vs with
 | nil => exact nilE h .nil
 | cons y ys ih => exact consE h fun v ws a b => strV a fun t => .cons y t (ih b)
theorem strAVs_len (ys : List Str) : (strAVs ys).length = ys.length := by
 induction ys with
 | nil => rfl
 | cons y ys ih => exact congrArg (· + 1) ih
theorem join_run (r : R X Z V s) {x z : Str} {t : Tok} {p : Addr} {ws : Array Value} (hl : s.heap.IsList p ws) (hr : VRs Z xs ws.toList) (e1 : xs.length = ws.size) (h1 : xs.length <= 1000) (h2 : x.cps.size <= 100) (h3 : joinA x xs = some z) (hs : z.cps.size <= 100000) :
  W X A (call (.builtin "str.join") [.str x t, .ref p]) (Post X Z V (.str z)) s := by
 refine (joinA_spec x h3).elim fun ys e => ?_
 obtain ⟨rfl, rfl⟩ := e
 have hge := join_len_ge x ys
 have hlen := strAVs_len ys
 have hm : ys.length * x.length <= 1000 * 100 := Nat.mul_le_mul (hlen ▸ h1) h2
 have hs' : (Str.join x ys).length <= 100000 := hs
 clear h3 hs h1 h2
 exact PyProof.Rows.join_list hl (strs_rel hr) (by lia) fun t' k => .intro (r.tok k) ⟨t', congrArg (Value.str · t') (StrLaws.glued_eq_join ..)⟩
theorem methS_sound (r : R X Z V s) {x : Str} {t : Tok} (h : methS x a args V = some (v, V')) (ha : VRs Z args vs) :
  (a = 61 -> W X A (call (.builtin "str.join") (.str x t :: vs)) (Post X Z V' v) s) /\ (a = 79 -> W X A (call (.builtin "str.split") (.str x t :: vs)) (Post X Z V' v) s) := by
 refine args1E h fun y e h => ?_
 subst e
 refine oneE ha fun w hw => refStrE h (fun j e h => ?_) fun sep e h => ?_
 ·subst e
  refine refV hw fun p hp => iteS h fun q h => ⟨fun _ => ?_, fun e => absurd (q.symm.trans e) (by decide)⟩
  refine oList h fun xs hx h => iteS h fun hc h => bindE h fun z h3 h => bindE h fun w h4 h => someP h ?_
  exact liV r hp hx fun ws hl hr e1 => (mkS_some h4).1 ▸ join_run r hl hr e1 hc.1 hc.2 h3 (mkS_some h4).2
 ·subst e
  refine strV hw fun u => iteS h fun q h => ⟨fun e => absurd (q.symm.trans e) (by decide), fun _ => ?_⟩
  exact iteS h fun hc h => someP h (split_call r hc.1 hc.2)
theorem strsOf_spec {ss : List Str} (h : strsOf xs = some ss) : xs = strAVs ss := by
 induction xs generalizing ss with
 | nil => exact someE h rfl
 | cons x r ih =>
  induction x with
  | str s => exact mapE h fun ss h1 h2 => h2 ▸ congrArg (AV.str s :: ·) (ih h1)
  | _ => exact noneS h
noncomputable def isStrV (x : Str) : Value -> Bool
 | .str y _ => decide (y = x)
 | _ => false
theorem strAVs_get {ys : List Str} {y : Str} (h : ys[i]? = some y) : (strAVs ys)[i]? = some (.str y) := by
 induction ys generalizing i with
 | nil => exact noneS h
 | cons z ys ih =>
  rcases i with _ | i
  ·exact congrArg (Option.map AV.str) h
  ·exact ih h
theorem index_run (r : R X Z V s) {p : Addr} {ss : List Str} {ws : Array Value} {x : Str} {u : Tok} {k : Nat} (hli : s.heap.IsList p ws) (hr : VRs Z (strAVs ss) ws.toList) (e1 : ss.length = ws.size) (hl : ss.length <= 100000) (h6 : (ss.findIdx? fun s => decide (s = x)) = some k) :
  W X A (call (.builtin "list.index") [.ref p, .str x u]) (Post X Z V (.int k)) s := by
 refine e3 (List.findIdx?_eq_some_iff_getElem.mp h6) fun hk hit hno => ?_
 obtain ⟨⟨cls, dd, data, sl⟩, ho, hc, n, hd⟩ := id hli
 simp only at hc hd
 subst hc hd
 have at_ : ∀ i (hi : i < ws.size), ∃ t, ws[i] = .str (ss[i]'(e1 ▸ hi)) t := fun i hi =>
  (hr.get (strAVs_get (List.getElem?_eq_getElem (e1 ▸ hi)))).elim fun y z => z.2.elim fun t e => ⟨t, Option.some.inj ((Array.getElem?_eq_getElem hi).symm.trans (Array.getElem?_toList.symm.trans (z.1.trans (congrArg some e))))⟩
 have hall : ∀ y, y ∈ ws -> SeqAt.EqAt A.in1 s y (.str x u) (isStrV x y) := fun y hy => by
  obtain ⟨i, hi, rfl⟩ := Array.getElem_of_mem hy
  refine (at_ i hi).elim fun t e => e ▸ ?_
  exact fun prog w E Q hq => wpAny_eqBool_str hq
 refine call_meets F.slot_list_index hli.typeIs F.entry_list_index (F.args_list_index_2 _ _)
  (SeqAt.list_indexAt p ws n dd sl (.str x u) (isStrV x) k (e1 ▸ hk) (by lia) ?_ ?_) ⟨ho, hall, .intro (r.tok _) ⟨_, rfl⟩⟩
 ·exact (at_ k (e1 ▸ hk)).elim fun t e => e ▸ hit
 ·exact fun m hm hlt => (at_ m hm).elim fun t e => e ▸ Bool.eq_false_iff.mpr (hno m hlt)
theorem methL_sound (r : R X Z V s) {j : Nat} {p : Addr} (hp : Z[j]? = some p) (hx : V[j]? = some (.list xs)) (h : methL j xs a args V = some (v, V')) (ha : VRs Z args vs) :
  (a = 37 -> W X A (call (.builtin "list.append") (.ref p :: vs)) (Post X Z V' v) s) /\ (a = 100 -> W X A (call (.builtin "list.index") (.ref p :: vs)) (Post X Z V' v) s) := by
 refine args1E h fun y e h => ?_
 subst e
 refine oneE ha fun w hw => iteC h (fun q h => ⟨fun _ => ?_, fun e => absurd (q.symm.trans e) (by decide)⟩) fun _ h => iteS h fun q h => ⟨fun e => absurd (q.symm.trans e) (by decide), fun _ => ?_⟩
 ·refine iteS h fun hl h => mapE h fun V₁ h3 h4 => someP (congrArg some h4) ?_
  refine W.mono (append_call r hp hx hl h3 hw) fun z s' hz => ?_
  exact hz.1 ▸ .intro hz.2 rfl
 ·refine strE h fun x e h => iteS h fun hl h => mapE h fun k h3 h4 => someP (congrArg some h4) ?_
  subst e
  refine strV hw fun u => bindE h3 fun k' h5 h6 => bindE h5 fun ss h5 h7 => ?_
  obtain rfl := strsOf_spec h5
  obtain rfl := Option.some.inj h6
  exact liV r hp hx fun ws hli hr e1 => index_run r hli hr (strAVs_len ss ▸ e1) (strAVs_len ss ▸ hl) h7
end
section
open PySem.W
variable {X : Fx} {Z Z' : List Addr} {V V' : Sg} {s s' : Shared} {A : Around} {E : AE} {env : Env}
theorem flagsMap (K : Ok X) (r : R X Z V s) (k : ∀ f, (X.fl == sysModules) = false -> s.heap.MapOf (intKind X.prog X.w) X.fl f -> (∀ k, (∀ s, flagName k = some s -> ∃ t, f k = some (.str s t)) /\ (flagName k = none -> f k = none)) -> G) : G := by
 obtain ⟨hs, f, ⟨o, es, ep, ho, q⟩, hv⟩ := K.flagsD
 exact k f hs ⟨o, es, ep, r.base K _ _ ho, q⟩ hv
theorem flags_call (K : Ok X) (r : R X Z V s) (h : methF a args V = some (v, V')) (ha : VRs Z args vs) : W X A (call (.builtin "dict.get") (.ref X.fl :: vs)) (Post X Z V' v) s := by
 refine args2E h fun x d e h => ?_
 subst e
 refine twoE ha fun y z hy hz => intE h fun k e h => ?_
 subst e
 refine intV hy fun t => iteS h fun _ h => flagsMap K r fun f hs hf hv => ?_
 refine call_meetsIn F.slot_dict_get hf.typeIs F.entry_dict_get (F.args_dict_get_3 _ _ _) (meets_dict_get_default (intKind X.prog X.w) (k := k) X.fl (intKind_is X.prog X.w k t) hs _) ⟨f, hf, ?_⟩
 have q := hv k
 generalize flagName k = o at h q
 rcases o with _ | x
 ·refine someP h (rwR (q.2 rfl) ?_)
  exact .intro (r.tok _) hz
 ·refine someP h ((q.1 x rfl).elim fun u hu => rwR hu ?_)
  exact .intro (r.tok _) ⟨u, rfl⟩
noncomputable def MR (X : Fx) (Z : List Addr) (V : Sg) (v : AV) (a : Nat) (y : Value) : AM -> Value × List Value -> Prop
 | .str, z => ∃ x t, v = .str x /\ y = .str x t /\ ((a = 61 /\ z = (.builtin "str.join", [y])) \/ (a = 79 /\ z = (.builtin "str.split", [y])))
 | .list, z => ∃ j p, v = .ref j /\ y = .ref p /\ ((a = 37 /\ z = (.builtin "list.append", [y])) \/ (a = 100 /\ z = (.builtin "list.index", [y])))
 | .flags, z => y = .ref X.fl /\ z = (.builtin "dict.get", [y])
 | .inst, z => ∃ w, VR Z (.ref a) w /\ z = (w, [y])
 | .fn f, z => ∃ w, VR Z f w /\ z = (w, [])
theorem methList (r : R X Z V s) {j : Nat} {p : Addr} {pl : Sem Bool} (hp : Z[j]? = some p) (hx : V[j]? = some (.list xs)) (ha : a = 37 \/ a = 100) : W X A (getMethod (.ref p) (nm a) pl) (fun z s' => R X Z V s' /\ MR X Z V (.ref j) a (.ref p) .list z) s :=
 liV r hp hx fun ws hl hr _ => by
  have hd : ∀ a, Value.ref p = .ref a -> ∃ o, s.heap.get? a = some o /\ o.dict = none := fun a e => hl.elim fun o ho => Value.ref.inj e ▸ ⟨o, ho.1, r.nd j _ xs hp hx o ho.1⟩
  rcases ha with rfl | rfl
  ·exact getMethod_builtin hl.typeIs F.plainAttrs_list slot_list_append F.type_list_append hd ⟨r, j, p, rfl, rfl, .inl ⟨rfl, rfl⟩⟩
  ·exact getMethod_builtin hl.typeIs F.plainAttrs_list F.slot_list_index F.type_list_index hd ⟨r, j, p, rfl, rfl, .inr ⟨rfl, rfl⟩⟩
theorem methFlags (K : Ok X) (r : R X Z V s) {pl : Sem Bool} : W X A (getMethod (.ref X.fl) (nm 101) pl) (fun z s' => R X Z V s' /\ MR X Z V v 101 (.ref X.fl) .flags z) s :=
 flagsMap K r fun f _ hf _ => getMethod_builtin hf.typeIs F.plainAttrs_dict F.slot_dict_get F.type_dict_get (fun a e => by
  obtain rfl := Value.ref.inj e
  refine e6 hf fun o es ep ho q _ => ?_
  exact ⟨o, ho, q.2.1⟩) ⟨r, rfl, rfl⟩
theorem methInst (K : Ok X) (r : R X Z V s) {j : Nat} {p : Addr} {pl : Sem Bool} (hp : Z[j]? = some p) (hx : V[j]? = some (.inst d)) (hm : V[d]? = some (.attrs m)) (h13 : 13 <= a) (h17 : a <= 17) (hn : look a m = none) :
  W X A (getMethod (.ref p) (nm a) pl) (fun z s' => R X Z V s' /\ MR X Z V v a (.ref p) .inst z) s :=
 inst_fk r hp hx hm fun da o M hda ho hdict hM hI hr _ => clsE (K.cls.keeps (r.base K)) fun _ _ _ _ _ _ _ _ _ _ _ _ hC => by
  refine e6 (K.clsM a h13 (Nat.le_succ_of_le h17)) fun f of hf hZ hfo hfc => ?_
  rw [if_neg (Nat.ne_of_lt (Nat.lt_of_le_of_lt h17 (by decide)))] at hf
  have hsh : M (nm a) = none := show VRo Z none (M (nm a)) from hn ▸ hr a
  exact method_ofFk hC (K.cls.keeps (r.base K)).ns K.clsNo.1 K.clsNo.2.1 hf (r.base K _ _ hfo) hfc (methB h13 h17) hI hsh ⟨r, .ref f, ⟨f, get_prefix r.pre hZ, rfl⟩, rfl⟩
theorem methOf_sound (K : Ok X) (r : R X Z V s) {k : AM} {pl : Sem Bool} (h : methOf v a V = some k) (hv : VR Z v y) : W X A (getMethod y (nm a) pl) (fun z s' => R X Z V s' /\ MR X Z V v a y k z) s := by
 refine strRefE h (fun x e h => ?_) fun j e h => ?_
 ·subst e
  refine strV hv fun t => iteS h fun ha h => someE h ?_
  rcases ha with rfl | rfl
  ·exact GM.join ⟨r, x, t, rfl, rfl, .inl ⟨rfl, rfl⟩⟩
  ·exact GM.split ⟨r, x, t, rfl, rfl, .inr ⟨rfl, rfl⟩⟩
 ·subst e
  refine refV hv fun p hp => oMeth h (fun xs hx h => ?_) (fun hx h => ?_) (fun f cl d hx h => ?_) fun d hx h => ?_
  ·exact iteS h fun ha h => someE h (methList r hp hx ha)
  ·obtain rfl : p = X.fl := r.obj _ _ _ hp hx
   exact iteS h fun ha h => someE h (ha ▸ methFlags K r)
  ·refine oAttrs h fun m hm h => iteS h fun hfa h => mapE h fun f hl e => ?_
   subst e
   exact fnV r hp hx hm fun _ _ _ ho _ hM _ hr _ => someV hl (hr a) fun w hw hwr => fn_getMethod ho (fnB hfa) hM hw (vr_handed hwr) ⟨r.tok _, w, hwr, rfl⟩
  ·exact oAttrs h fun m hm h => iteS h fun hc h => someE h (methInst K r hp hx hm hc.1 hc.2.1 hc.2.2)
theorem noKw (h : BRs Z [] kvs) : kvs = [] := match h with | .nil => rfl
theorem meth_args (S : Sd X r n) (hm : Room A n) {args : List Ex} {vs : List AV} (h1 : evs r E args V = some (vs, V')) (hR : R X Z V s) (he : EnvR X Z E env) :
  W X A (evalArgs fv true (args.map fun e => (false, eval e.py env)) []) (fun a s' => a.kw = [] /\ ∃ Z', Z <+: Z' /\ R X Z' V' s' /\ VRs Z' vs a.pos) s :=
 W.mono (evalArgs_sound (fv := fv) (kwn := []) (kwe := []) (pos := ⟨0, 0, 0, 0⟩) S hm h1 rfl rfl hR he) fun a s' hq => hq.elim fun Z' z => ⟨noKw z.2.2.2, Z', z.1, z.2.1, z.2.2.1⟩
theorem viaB (S : Sd X r n) (hm : Room A n) {args : List Ex} {vs : List AV} {z : Value × List Value} (p₁ : Z <+: Z₁) (he : EnvR X Z₁ E env) (plain : (args.map fun e => (false, eval e.py env)).any (·.1) = false)
  (h3 : evs r E args V₁ = some (vs, V₂)) (r₂ : R X Z₁ V₁ s₂) (id : String) (e : z = (.builtin id, [y])) (hcall : ∀ Z₃ (ys : List Value) s₃, Z₁ <+: Z₃ -> R X Z₃ V₂ s₃ -> VRs Z₃ vs ys -> W X A (call (.builtin id) (y :: ys)) (Post X Z₃ V' v) s₃) :
  W X A (callWith p z.1 z.2 (args.map fun e => (false, eval e.py env)) []) (Post X Z V' v) s₂ := by
 subst e
 refine callWith_builtin plain (W.mono (meth_args S hm h3 r₂ he) fun aa s₃ hq => hq.2.elim fun Z₃ z => rwR hq.1 ?_)
 exact W.mono (hcall Z₃ aa.pos s₃ z.1 z.2.1 z.2.2) fun w s₄ hw => hw.pre (p₁.trans z.1)
theorem viaF (K : Ok X) (S : Sd X r n) (hm : Room A n) {args : List Ex} {vs : List AV} {z : Value × List Value} (p₁ : Z <+: Z₁) (he : EnvR X Z₁ E env) (plain : (args.map fun e => (false, eval e.py env)).any (·.1) = false)
  (h3 : evs r E args V₁ = some (vs, V₂)) (r₂ : R X Z₁ V₁ s₂) (f : AV) (first : List AV) (fv : Value) (fs : List Value) (e : z = (fv, fs)) (hf : VR Z₁ f fv) (hfs : VRs Z₁ first fs) (hcl : r.cl f (first ++ vs) [] V₂ = some (v, V')) :
  W X A (callWith p z.1 z.2 (args.map fun e => (false, eval e.py env)) []) (Post X Z V' v) s₂ := by
 subst e
 refine callWith_of (P := fun hh => ∃ k, (k = Keeper.frame \/ k = Keeper.machine \/ k = Keeper.boundFrame) /\ Looks (model X.prog X.w) hh (keeperOf fv) k) (by rw [plain]; rfl) (fun _ p => p)
  (W.mono (meth_args S hm h3 r₂ he) fun aa s₃ hq => hq.2.elim fun Z₃ z => ⟨keeper_sound K z.2.1 (S.cb hcl) (hf.mono z.1), rwR hq.1 ?_⟩)
 exact W.mono (S.cl hcl z.2.1 (hf.mono z.1) ((hfs.mono z.1).append z.2.2) .nil hm) fun w s₄ hw => hw.pre (p₁.trans z.1)
theorem meth_run (K : Ok X) (S : Sd X r n) (hm : Room A n) {args : List Ex} {vs : List AV} {ov : AV} {z : Value × List Value} {k : AM} (p₁ : Z <+: Z₁) (he : EnvR X Z₁ E env)
  (h3 : evs r E args V₁ = some (vs, V₂)) (r₂ : R X Z₁ V₁ s₂) (v₁ : VR Z₁ ov y) (hz : MR X Z₁ V₁ ov a y k z) (h : methA r k ov a vs V₂ = some (v, V')) :
  W X A (callWith p z.1 z.2 (args.map fun e => (false, eval e.py env)) []) (Post X Z V' v) s₂ := by
 have plain : (args.map fun e => (false, eval e.py env)).any (·.1) = false := by
  rw [List.any_map]
  exact List.any_eq_false.mpr fun _ _ => Bool.false_ne_true
 induction k with
 | str =>
  obtain ⟨x, t, rfl, rfl, hz⟩ := hz
  rcases hz with ⟨rfl, hz⟩ | ⟨rfl, hz⟩
  ·exact viaB S hm p₁ he plain h3 r₂ _ hz fun Z₃ ys s₃ p₃ r₃ v₃ => (methS_sound r₃ h v₃).1 rfl
  ·exact viaB S hm p₁ he plain h3 r₂ _ hz fun Z₃ ys s₃ p₃ r₃ v₃ => (methS_sound r₃ h v₃).2 rfl
 | list =>
  obtain ⟨j, q, rfl, rfl, hz⟩ := hz
  refine v₁.elim fun q' v₁ => oList h fun xs hx h => ?_
  obtain rfl := Value.ref.inj v₁.2
  rcases hz with ⟨rfl, hz⟩ | ⟨rfl, hz⟩
  ·exact viaB S hm p₁ he plain h3 r₂ _ hz fun Z₃ ys s₃ p₃ r₃ v₃ => (methL_sound r₃ (get_prefix p₃ v₁.1) hx h v₃).1 rfl
  ·exact viaB S hm p₁ he plain h3 r₂ _ hz fun Z₃ ys s₃ p₃ r₃ v₃ => (methL_sound r₃ (get_prefix p₃ v₁.1) hx h v₃).2 rfl
 | flags =>
  obtain ⟨rfl, hz⟩ := hz
  exact viaB S hm p₁ he plain h3 r₂ _ hz fun Z₃ ys s₃ p₃ r₃ v₃ => flags_call K r₃ h v₃
 | inst => exact hz.elim fun w hz => viaF K S hm p₁ he plain h3 r₂ (.ref a) [ov] w [y] hz.2 hz.1 (.cons v₁ .nil) h
 | fn f => exact hz.elim fun w hz => viaF K S hm p₁ he plain h3 r₂ f [] w [] hz.2 hz.1 .nil h
theorem meth_form (args : List Ex) (p : Pos) (env : Env) (h : args.length <= 20) : methodCallForm ((pyL args).length + ([] : List Keyword).length) (backTo p (starEach (pyL args) env)) (backToKw p (keywordEach [] env)) = true := by
 have : (backTo p (starEach (pyL args) env)).all (!·.1) = true := by
  rw [starEach_py, back_map, List.all_map]
  exact List.all_eq_true.mpr fun _ _ => rfl
 unfold methodCallForm
 refine rwR this ?_
 rw [pyL_len]
 exact decide_eq_true (Nat.lt_of_le_of_lt h (by decide : 20 < 30))
theorem meth_ev (K : Ok X) (S : Sd X r n) (hm : Room A n) (hR : R X Z V s) (he : EnvR X Z E env) {o : Ex} {args : List Ex} (h : stepEv r E (.meth o a pa args p) V = some (v, V')) : W X A (eval (Ex.meth o a pa args p).py env) (Post X Z V' v) s := by
 refine iteS h fun hc h => bindP h fun ov V₁ h1 h => bindE h fun k h2 h => bindP h fun vs V₂ h3 h => ?_
 refine (?_ : W X A (eval (.Call (.Attribute o.py (nm a) pa) (pyL args) [] p) env) _ s)
 rw [arm_eval_Call, base_py]
 refine wpAny_bind (W.mono (S.ev h1 hR he hm) fun y s₁ hp => wpAny_bind (wpAny_standAt ?_))
 refine postE hp fun Z₁ p₁ r₁ v₁ => ?_
 unfold methodCall
 refine rwR (meth_form args p env (of_decide_eq_true (Bool.and_eq_true_iff.mp hc).2)) ?_
 unfold calleeOf
 refine rwR (if_pos rfl) ?_
 refine wpAny_bind (wpAny_holding (W.mono (methOf_sound K r₁ h2 v₁) fun z s₂ hz => ?_))
 have hkw : backToKw p (keywordEach [] env) = [] := by rw [arm_keywordEach_nil]; rfl
 unfold methodCallPos
 rw [if_pos (by rw [beq_iff_eq.mp (Bool.and_eq_true_iff.mp hc).1]; simp), starEach_py, back_map, hkw]
 exact wpAny_bind (wpAny_pure (meth_run K S hm p₁ (he.mono p₁) h3 hz.1 v₁ hz.2 h))
theorem R.name (r : R X Z V s) {a : Addr} {o : AO} (hl : ∃ x, s.heap.get? a = some x) (hna : a ∉ Z) (hk0 : X.k₀ a = none) (hP : ∀ k, k < 2 -> a ≠ X.P k) (hor : OR X (Z ++ [a]) s.heap a o) (hnd : ∀ xs, o ≠ .list xs) : R X (Z ++ [a]) (V ++ [o]) s := by
 have hp : Z <+: Z ++ [a] := List.prefix_append ..
 refine { r with pre := r.pre.trans hp, len := by simp [r.len], nodup := nodup_snoc r.nodup hna, obj := fun j b q e1 e2 => ?_, new := fun j b hj e => ?_, live := fun j b e => ?_, tne := fun b hb k hk => ?_, nd := fun j b xs e1 e2 => ?_ }
 ·rcases snoc_get e1 with e1 | ⟨rfl, rfl⟩
  ·have hl := (List.getElem?_eq_some_iff.mp e1).1
   rw [List.getElem?_append_left (r.len ▸ hl)] at e2
   exact (r.obj j b q e1 e2).mono hp
  ·rw [r.len, List.getElem?_append_right (Nat.le_refl _)] at e2
   simp at e2; subst e2; exact hor
 ·rcases snoc_get e with e | ⟨_, rfl⟩
  ·exact r.new j b hj e
  ·exact hk0
 ·rcases snoc_get e with e | ⟨_, rfl⟩
  ·exact r.live j b e
  ·exact hl
 ·rcases List.mem_append.mp hb with hb | hb
  ·exact r.tne b hb k hk
  ·simp at hb; subst hb; exact hP k hk
 ·rcases snoc_get e1 with e1 | ⟨rfl, rfl⟩
  ·have hl := (List.getElem?_eq_some_iff.mp e1).1
   rw [List.getElem?_append_left (r.len ▸ hl)] at e2
   exact r.nd j b xs e1 e2
  ·rw [r.len, List.getElem?_append_right (Nat.le_refl _)] at e2
   simp at e2
   exact absurd e2 (hnd xs)
theorem R.fresh (r : R X Z V s) {a : Addr} (h : s.heap.get? a = none) : a ∉ Z /\ X.k₀ a = none /\ ∀ k, k < 2 -> a ≠ X.P k := by
 refine ⟨fun hm => ?_, ?_, fun k hk q => ?_⟩
 ·refine e2 (List.getElem?_of_mem hm) fun j hj => ?_
  refine e2 (r.live j a hj) fun x hx => ?_
  exact noneS (h.symm.trans hx)
 ·cases hx : X.k₀ a with
  | none => rfl
  | some o => rw [r.keep a o hx] at h; cases h
 ·refine e3 (r.tabs k hk) fun ps e _ => ?_
  rw [<- q, h] at e
  exact noneS e
theorem clsCall {j : Nat} (hj : V[j]? = some .cls) (h : stepCl r (.ref j) args kw V = some (v, V'))
  (k : ∀ x, args = [x] -> kw = [] -> AV.ref (V ++ [AO.attrs []]).length = v -> r.cl (.ref 18) [.ref (V ++ [AO.attrs []]).length, x] [] (V ++ [.attrs []] ++ [.inst V.length]) = some (.none, V') -> G) : G := by
 delta stepCl at h
 dsimp only at h
 rw [hj] at h
 rcases args with _ | ⟨x, _ | ⟨y, l⟩⟩
 ·exact noneS h
 ·rcases kw with _ | _
  ·refine bindP h fun w V₁ h3 h => ?_
   induction w with
   | none =>
    refine e2 (pairI h) fun e z61 => ?_
    subst z61
    exact k x rfl rfl e h3
   | _ => exact noneS h
  ·exact noneS h
 ·exact noneS h
theorem cls_room (hm : Room A (n + 1)) : Room (A.under (.builtin "type.__call__" ⟨[.ref X.ws, y], []⟩)) n := by
 have hw : (Code.builtin "type.__call__" ⟨[.ref X.ws, y], []⟩).weight = 1 := rfl
 have hu : (Code.builtin "type.__call__" ⟨[.ref X.ws, y], []⟩).cUnits = 1 := rfl
 refine ⟨hm.h, (?_ : A.depth + _ + n < _), (?_ : A.units + _ + 4 * n + 20 < _)⟩
 ·rw [hw]; have := hm.d; lia
 ·rw [hu]; have := hm.u; lia
theorem cls_sound (K : Ok X) (S : Sd X r n) {j : Nat} (hj : V[j]? = some .cls) (h : stepCl r (.ref j) args kw V = some (v, V'))
  (hR : R X Z V s) (hv : VR Z (.ref j) fv) (ha : VRs Z args vs) (hk : BRs Z kw kvs) (hm : Room A (n + 1)) : W X A (call fv vs kvs) (Post X Z V' v) s := by
 refine refV hv fun p hp => ?_
 obtain rfl : p = X.ws := hR.obj _ _ _ hp hj
 refine clsCall hj h fun x e ek ev h3 => ?_
 subst e ek ev
 obtain rfl := noKw hk
 refine oneE ha fun y h1 => ?_
 refine e6 (K.clsM 18 (by decide) (by decide)) fun f of hf hZ hfo hfc => ?_
 rw [if_pos rfl] at hf
 refine clsE (K.cls.keeps (hR.base K)) fun _ _ _ _ _ _ _ _ _ _ _ _ hC => ?_
 refine wpAny_call_obj_initFk PySem.F.objNew hC (K.cls.keeps (hR.base K)).ns hf (hR.base K _ _ hfo) hfc fun h' i dx M => ?_
 have d := hR.fresh M.newD
 have i' := hR.fresh M.newX
 refine e5 M.inst fun o ho hoc honc hod => ?_
 have hdx := M.dict o ho
 refine hod.elim (fun q => noneS (q.1.symm.trans hdx)) fun q => q.elim fun dx' q => ?_
 obtain rfl := uq hdx q.1
 clear hod
 have r₂ : R X (Z ++ [dx]) (V ++ [.attrs []]) { s with heap := h' } := R.name (s := { s with heap := h' }) (hR.grow M.keeps rfl rfl) (q.2.2.2.elim fun o e => ⟨o, e.1⟩) d.1 d.2.1 d.2.2 ⟨fun _ => none, q.2.2.1, q.2.2.2, fun k => rfl, fun _ _ => rfl⟩ (fun _ e => nomatch e)
 have r₃ : R X (Z ++ [dx] ++ [i]) (V ++ [.attrs []] ++ [.inst V.length]) { s with heap := h' } :=
  r₂.name ⟨o, ho⟩ (fun hm => (List.mem_append.mp hm).elim i'.1 fun hm => q.2.1 (List.mem_singleton.mp hm).symm) i'.2.1 i'.2.2 ⟨dx, get_prefix (List.prefix_append ..) (getNew hR.len), o, ho, hoc, honc, hdx, q.2.1⟩ (fun _ e => nomatch e)
 refine W.to (S.cl h3 r₃ (fv := .ref f) (vs := [.ref i, y]) (kvs := []) (refI (get_prefix r₃.pre hZ)) (.cons (refI (getNew r₂.len)) (.cons (h1.mono ((List.prefix_append ..).trans (List.prefix_append ..))) .nil)) .nil (cls_room hm)) fun z s₂ hz => ?_
 refine postE hz fun Z₄ p4 r₄ hz => ?_
 exact ⟨hz, Z₄, (List.prefix_append ..).trans ((List.prefix_append ..).trans p4), r₄, refI (get_prefix p4 (getNew r₂.len))⟩
end
section
open PySem.W
variable {X : Fx} {Z Z' : List Addr} {V V' : Sg} {s s' : Shared} {A : Around} {E : AE} {env : Env}
theorem callE {f : Ex} {args : List Ex} {y : AV × Sg} (h : stepEv r E (.call f args kwn kwe p) V = some y) (k : ∀ x px, f = .name x px -> G) : G := by
 induction f using Ex.casesOn with
 | name x px => exact k x px rfl
 | _ => exact noneS h
theorem compE (hc : isComp e = true) (k1 : ∀ elt tg tp it cond sc p, e = .comp elt tg tp it cond sc p -> G) (k2 : ∀ elt x1 p1 it1 x2 p2 it2 cond sc p, e = .comp2 elt x1 p1 it1 x2 p2 it2 cond sc p -> G) : G := by
 induction e using Ex.casesOn with
 | comp => exact k1 _ _ _ _ _ _ _ rfl
 | comp2 => exact k2 _ _ _ _ _ _ _ _ _ _ rfl
 | _ => exact ftE hc
theorem ev_step (K : Ok2 X) (S : Sd X r n) (hm : Room A n) (hR : R X Z V s) (he : EnvR X Z E env) (h : stepEv r E e V = some (v, V')) : W X A (eval e.py env) (Post X Z V' v) s := by
 induction e using Ex.casesOn with
 | int i p =>
  have h : (if small i then some (AV.int i, V) else none) = some (v, V') := h
  exact iteS h fun _ h => someP h (int_ev hR)
 | str x p => exact someP h (str_ev hR)
 | bool b p => exact someP h (bool_ev hR)
 | none p => exact someP h (none_ev hR)
 | name x p =>
  have h : (getN E x V).map (·, V) = some (v, V') := h
  refine mapE h fun w h1 h2 => ?_
  have q := Prod.mk.inj h2
  exact q.1 ▸ q.2 ▸ name_ev K.toOk hR he h1
 | attr e a p => exact attr_ev K.toOk S hm hR he h
 | sub e i p => exact sub_ev K.toOk S hm hR he h
 | subTo e hi ps p => exact subTo_ev K.toOk S hm hR he h
 | call f args kwn kwe p => exact callE h fun x px e => by subst e; exact call_ev_sound K.toOk S hm h hR he
 | meth o a pa args p => exact meth_ev K.toOk S hm hR he h
 | bin l op rr p => exact bin_ev S hm hR he h
 | not e p => exact not_ev S hm hR he h
 | neg e p => exact neg_ev S hm hR he h
 | bool2 op l rr p => exact bool2_ev S hm hR he h
 | cmp l op rr p => exact cmp_ev K.toOk S hm hR he h
 | ite t b o p => exact ite_ev S hm hR he h
 | list es p => exact list_ev S hm hR he h
 | tuple es p => exact tuple_ev S hm hR he h
 | dict ks vs p => exact dict_ev S hm hR he h
 | merge a b p => exact merge_ev K S hm hR he h
 | comp elt tg tp it cond sc p =>
  exact e7 (comp_ok K.toOk S hm hR he h) fun acc V₄ l m z1 z2 C => z1 ▸ z2 ▸ C.ev
 | comp2 elt x1 p1 it1 x2 p2 it2 cond sc p =>
  exact e7 (comp2_ok K.toOk S hm hR he h) fun acc V₄ l m z1 z2 C => z1 ▸ z2 ▸ C.ev
 | lam ps body sc fast p => exact lam_sound K.toOk hR he h
theorem us_step (K : Ok2 X) (S : Sd X r n) (hm : Room A n) (hR : R X Z V s) (he : EnvR X Z E env) {x : Nat} {px : Pos} (hc : isComp e = true) (h : stepEv r E e V = some (v, V₁)) (h2 : setN E x v V₁ = some V') :
  W X A (evalThenUse e.py env fun v => assignAll v [assign (.Name (nm x) px) env]) (fun _ s' => ∃ Z', Z <+: Z' /\ R X Z' V' s') s := by
 refine compE hc (fun elt tg tp it cond sc p e1 => ?_) fun elt x1 p1 it1 x2 p2 it2 cond sc p e1 => ?_
 ·subst e1
  refine e7 (comp_ok K.toOk S hm hR he h) fun acc V₄ l m z1 z2 C => ?_
  subst z1
  subst z2
  exact C.us he h2
 ·subst e1
  refine e7 (comp2_ok K.toOk S hm hR he h) fun acc V₄ l m z1 z2 C => ?_
  subst z1
  subst z2
  exact C.us he h2
theorem oFC {α : Type} {r : α} {o : Option AO} {f0 : FI -> List (Nat × Nat) -> Option Nat -> Option α} {f1 : Option α} (h : (match o with | some (.func fi cl a) => f0 fi cl a | some .cls => f1 | _ => none) = some r) (k0 : ∀ fi cl a, o = some (.func fi cl a) -> G) (k1 : o = some .cls -> G) : G := by
 rcases o with _ | o
 ·exact noneS h
 induction o with
 | func fi cl a => exact k0 fi cl a rfl
 | cls => exact k1 rfl
 | _ => exact noneS h
theorem clE {f : AV} {y : AV × Sg} (h : stepCl r f args kw V = some y) (k0 : ∀ b, f = .bi b -> (if kw.isEmpty then callB b args V else none) = some y -> G) (k1 : ∀ j fi cl a, f = .ref j -> V[j]? = some (.func fi cl a) -> G) (k2 : ∀ j, f = .ref j -> V[j]? = some .cls -> G) : G := by
 induction f with
 | bi b => exact k0 b rfl h
 | ref j => exact oFC h (fun _ _ _ => k1 j _ _ _ rfl) (k2 j rfl)
 | _ => exact noneS h
theorem biV {b : BI} {v : Value} (h : VR Z (.bi b) v) : v = b.val := h
theorem emptyE {α : Type} {l : List α} (h : l.isEmpty = true) : l = [] := by
 rcases l with _ | _
 ·rfl
 ·exact ftE h
theorem brs_nil (h : BRs Z [] kvs) : kvs = [] := by cases h; rfl
theorem cl_step (K : Ok2 X) (BO : BindsOk X) (S : Sd X r n) {f : AV} (h : stepCl r f args kw V = some (v, V')) (hR : R X Z V s) (hf : VR Z f fv) (ha : VRs Z args vs) (hk : BRs Z kw kvs)
  (hm : Room A (n + 1)) : W X A (call fv vs kvs) (Post X Z V' v) s := by
 refine clE h (fun b e q => iteS q fun e2 q => ?_) (fun j fi cl a e hj => ?_) fun j e hj => ?_
 ·subst e
  obtain rfl := emptyE e2
  obtain rfl := brs_nil hk
  obtain rfl := biV hf
  exact callB_sound hm.h hR q ha
 ·subst e; exact PostR.code (call_sound K.toOk BO S hj h hR hf ha hk hm)
 ·subst e; exact cls_sound K.toOk S hj h hR hf ha hk hm
theorem cb_step {f : AV} (h : stepCl r f args kw V = some (v, V')) : Callable f V :=
 clE h (fun b e _ => .inl ⟨b, e⟩) (fun j fi cl a e hj => .inr ⟨j, e, .inl ⟨fi, cl, a, hj⟩⟩) fun j e hj => .inr ⟨j, e, .inr (.inl hj)⟩
theorem Sd.step (K : Ok2 X) (BO : BindsOk X) (S : Sd X r n) : Sd X (step r) (n + 1) where
 ev := fun h hR he hm => ev_step K S hm.pred hR he h
 tr := fun h h2 hR he hm => tr_step K.toOk S hm.pred hR he (ev_step K S hm.pred hR he h) h h2
 ex := fun h hR he hm => ex_step K.toOk S hm.pred _ h hR he
 cl := fun h hR hf ha hk hm => cl_step K BO S h hR hf ha hk hm
 us := fun hc h h2 hR he hm => us_step K S hm.pred hR he hc h h2
 cb := fun h => cb_step h
theorem Sd.all (K : Ok2 X) (BO : BindsOk X) : ∀ n, Sd X (lvl n) n
 | 0 => .zero
 | n + 1 => .step K BO (Sd.all K BO n)
end
section
open PySem.W
section
variable {X : Fx} {g : Nat -> Nat} {Z Z' : List Addr} {h : Heap} {a : Addr} (H : ∀ j a, Z[j]? = some a -> Z'[g j]? = some a)
include H
theorem VR.mp {v : Value} (h : VR Z x v) : VR Z' (x.mp g) v := by
 induction x with
 | ref j => exact h.elim fun a z => ⟨a, H _ a z.1, z.2⟩
 | _ => exact h
theorem VRo.mp {x : Option AV} {v : Option Value} (h : VRo Z x v) : VRo Z' (x.map (AV.mp g)) v := by
 induction x with
 | none => exact h
 | some x => exact h.elim fun y z => ⟨y, z.1, VR.mp H z.2⟩
theorem VRs.mp (h : VRs Z xs vs) : VRs Z' (mpL g xs) vs := by
 induction h with
 | nil => exact .nil
 | cons x _ ih => exact .cons (x.mp H) ih
theorem KVs.mp {xs : List (Str × AV)} {vs : List (Str × Value)} (h : KVs Z xs vs) : KVs Z' (mpS g xs) vs := by
 induction h with
 | nil => exact .nil
 | cons x _ ih => exact .cons (x.mp H) ih
theorem CLs.mp {xs : List (Nat × Nat)} {vs : List (Str × Addr)} (h : CLs Z xs vs) : CLs Z' (mpC g xs) vs := by
 induction h with
 | nil => exact .nil
 | cons x _ ih => exact .cons (H _ _ x) ih
theorem FR.mp {fd : FuncData} {k : Addr -> Option Obj} {q : List Addr} (r : FR { X with k₀ := k, Z₀ := q } Z f cl fd) : FR X Z' f (mpC g cl) fd :=
 ⟨r.ok, r.params, r.body, r.scope, r.globals, r.builtins, r.qual, r.closure.mp H, r.code, r.dfl, r.kwd⟩
theorem atMp {at_ : Option Nat} {od : Option Addr} (q : od = at_.bind fun d => Z[d]?) (k : ∀ d, at_ = some d -> (Z[d]?).isSome) : od = (at_.map g).bind (fun d => Z'[d]?) /\ ∀ d, at_.map g = some d -> (Z'[d]?).isSome := by
 rcases at_ with _ | d
 ·exact ⟨q, fun d h => noneS h⟩
 ·refine (Option.isSome_iff_exists.mp (k d rfl)).elim fun x hx => ⟨q.trans (hx.trans (H d x hx).symm), fun d' h => Option.some.inj h ▸ Option.isSome_iff_exists.mpr ⟨x, H d x hx⟩⟩
theorem lookMp {M : Str -> Option Value} (r : ∀ k, VRo Z (look k m) (M (nm k))) (k : Nat) : VRo Z' (look k (mpN g m)) (M (nm k)) := look_mp g k m ▸ (r k).mp H
theorem OR.mp {k : Addr -> Option Obj} {q : List Addr} {o : AO} (h' : OR { X with k₀ := k, Z₀ := q } Z h a o) : OR X Z' h a (o.mp g) := by
 induction o with
 | list xs => exact h'.elim fun vs z => ⟨vs, z.1, z.2.mp H⟩
 | tuple xs => exact h'.elim fun vs z => ⟨vs, z.1, z.2.mp H⟩
 | dict kvs ep => exact h'.elim fun ps z => z.elim fun e z => ⟨ps, e, z.1, z.2.1.mp H, z.2.2⟩
 | cell v => exact h'.elim fun v' z => ⟨v', z.1, z.2.mp H⟩
 | ns m => exact h'.elim fun M z => ⟨M, z.1, lookMp H z.2⟩
 | attrs m => exact h'.elim fun M z => ⟨M, z.1, z.2.1, lookMp H z.2.2.1, z.2.2.2⟩
 | func f cl at_ => exact h'.elim fun fd z => z.elim fun od z => ⟨fd, od, z.1, z.2.1.mp H, (atMp H z.2.2.1 z.2.2.2.1).1, (atMp H z.2.2.1 z.2.2.2.1).2, z.2.2.2.2⟩
 | inst d => exact h'.elim fun da z => ⟨da, H _ _ z.1, z.2⟩
 | liter l i => exact h'.elim fun la z => ⟨la, H _ _ z.1, z.2⟩
 | titer l i => exact h'.elim fun la z => ⟨la, H _ _ z.1, z.2⟩
 | kiter d i n ep => exact h'.elim fun la z => ⟨la, H _ _ z.1, z.2⟩
 | _ => exact h'
end
end
section
open PySem.W
variable {X : Fx} {Z Z' : List Addr} {V V' : Sg} {s s' : Shared} {A : Around} {E : AE} {env : Env}
structure Ok3 (X : Fx) : Prop extends Ok2 X where
 topO : ∀ (h : Heap) (k₀ : Addr -> Option Obj) (q Z : List Addr) (j : Nat) (a : Addr) (o : AO), (∀ b o, X.h₀.get? b = some o -> h.get? b = some o) -> j < 20 -> X.Z₀[j]? = some a -> sg0[j]? = some o -> OR { X with k₀ := k₀, Z₀ := q } Z h a o
noncomputable def Fx.small (X : Fx) (h : Heap) (d : Addr) : Fx := { X with k₀ := fun b => if b = X.P 0 \/ b = X.P 1 then none else h.get? b, Z₀ := X.Z₀.set 20 d }
theorem lt2 {k : Nat} (h : k < 2) : k = 0 \/ k = 1 := by lia
theorem small_k {d : Addr} {b : Addr} (n : ∀ k, k < 2 -> b ≠ X.P k) : (X.small h d).k₀ b = h.get? b :=
 if_neg fun e => e.elim (n 0 (by decide)) (n 1 (by decide))
theorem small_l {d : Addr} {j : Nat} (h : j < 20) : (X.Z₀.set 20 d)[j]? = X.Z₀[j]? := List.getElem?_set_ne (Nat.ne_of_gt h)
theorem glob_lt {k j : Nat} (h : glob k = some (.ref j)) : j < 20 :=
 glob_ind (P := fun _ v => ∀ j, v = .ref j -> j < 20) (fun k hk j e => AV.ref.inj e ▸ Nat.lt_of_lt_of_le (List.mem_range.mp hk) (by decide)) (by repeat first | exact fm_nil | refine fm_cons (fun j e => nomatch e) ?_) k _ h j rfl
theorem VR.small {d : Addr} {x : Value} (h : VR X.Z₀ v x) (hv : ∀ j, v = .ref j -> j < 20) : VR (X.Z₀.set 20 d) v x := by
 induction v with
 | ref j => exact h.elim fun a z => ⟨a, (small_l (hv j rfl)).trans z.1, z.2⟩
 | _ => exact h
theorem Ok2.small (K : Ok2 X) (r : R X Z V s) {d : Addr} (hd : (d == sysModules) = false) : Ok2 (X.small s.heap d) where
 base := fun b o h => by
  have hk := K.base b o h
  exact (small_k fun k hk' e => by rw [e, K.kP k hk'] at hk; exact noneS hk).trans (r.keep b o hk)
 top := by show (X.Z₀.set 20 d).length = _; rw [List.length_set]; exact K.top
 nolimit := K.nolimit
 frag := K.frag
 g := K.g
 b := K.b
 names := fun k v h => (K.names k v h).elim fun x z => ⟨x, z.1.small fun j e => glob_lt (e ▸ h), z.2⟩
 bat := K.bat
 gP := K.gP
 code := K.code
 cls := K.cls
 clsNo := K.clsNo
 clsM := fun k h1 h2 => (K.clsM k h1 h2).elim fun f z => z.elim fun o z => ⟨f, o, z.1, (small_l (by lia)).trans z.2.1, z.2.2⟩
 clsS := K.clsS
 wsA := (small_l (by decide)).trans K.wsA
 tD := K.tD.elim fun a z => z.elim fun b z => z.elim fun c z => z.elim fun d z => ⟨a, b, c, d, z.1, z.2.1, z.2.2.1, (small_l (by decide)).trans z.2.2.2⟩
 kP := fun k hk => if_pos ((lt2 hk).elim (fun e => .inl (e ▸ rfl)) fun e => .inr (e ▸ rfl))
 PP := K.PP
 sysm := K.sysm
 flagsD := K.flagsD
 orcF := fun j h1 h2 => (K.orcF j h1 h2).elim fun a z => z.elim fun b z => z.elim fun c z => ⟨a, b, c, (small_l (by lia)).trans z.1, z.2⟩
 notS := fun j a hj h => by
  by_cases q : j = 20
  ·subst q
   rw [show (X.small s.heap d).Z₀ = X.Z₀.set 20 d from rfl, List.getElem?_set_self (by rw [K.top]; decide)] at h
   exact Option.some.inj h ▸ hd
  ·exact K.notS j a hj ((small_l (by unfold nTop at hj; lia)).symm.trans h)
theorem R.small (K : Ok3 X) (r : R X Z V s) {d : Addr} (hd : Z[da]? = some d) (h20 : 20 <= da) : R (X.small s.heap d) (X.Z₀.set 20 d) top21 s where
 pre := List.prefix_refl _
 len := by rw [List.length_set]; exact K.top
 nodup := by
  have ht : X.Z₀.length = 21 := K.top
  refine rwR List.set_eq_take_append_cons_drop ?_
  refine rwR (if_pos (by rw [ht]; decide)) ?_
  refine rwR (List.drop_eq_nil_of_le (by rw [ht]; decide)) ?_
  refine nodup_snoc ((List.take_sublist 20 _).nodup (r.pre.sublist.nodup r.nodup)) fun hm => ?_
  refine N1.e2 (List.mem_iff_getElem?.mp hm) fun i hi => ?_
  rw [List.getElem?_take] at hi
  refine iteS hi fun hlt hi => ?_
  have e := (List.getElem?_inj (List.getElem?_eq_some_iff.mp hd).1 r.nodup).mp (hd.trans (get_prefix r.pre hi).symm)
  exact absurd e (by lia)
 obj := fun j a o h1 h2 => by
  by_cases q : j < 20
  ·exact K.topO s.heap _ _ _ j a o (r.base K.toOk) q ((small_l q).symm.trans h1) ((List.getElem?_append_left (l₂ := [AO.dead]) (show j < sg0.length from q)).symm.trans h2)
  ·have hl := (List.getElem?_eq_some_iff.mp h2).1
   have hl : j < 21 := hl
   obtain rfl : j = 20 := by lia
   have h2 : some AO.dead = some o := h2
   obtain rfl := Option.some.inj h2
   exact trivial
 new := fun j a hj h => by
  have := (List.getElem?_eq_some_iff.mp h).1
  rw [List.length_set, K.top] at this
  exact absurd hj (by lia)
 live := fun j a h => by
  by_cases q : j < 20
  ·exact r.live j a (get_prefix r.pre ((small_l q).symm.trans h))
  ·have hl := (List.getElem?_eq_some_iff.mp h).1
   rw [List.length_set, K.top] at hl
   unfold nTop at hl
   obtain rfl : j = 20 := by lia
   rw [List.getElem?_set_self (by rw [K.top]; decide)] at h
   exact r.live da a (h ▸ hd)
 keep := fun b o h => by
  have h : (if b = X.P 0 \/ b = X.P 1 then none else s.heap.get? b) = some o := h
  split at h
  ·exact noneS h
  ·exact h
 tne := fun a ha k hk => by
  refine e2 (List.getElem?_of_mem ha) fun j hj => ?_
  by_cases q : j < 20
  ·exact r.tne a (List.mem_of_getElem? (get_prefix r.pre ((small_l q).symm.trans hj))) k hk
  ·have hl := (List.getElem?_eq_some_iff.mp hj).1
   rw [List.length_set, K.top] at hl
   unfold nTop at hl
   obtain rfl : j = 20 := by lia
   rw [List.getElem?_set_self (by rw [K.top]; decide)] at hj
   obtain rfl := Option.some.inj hj
   exact r.tne d (List.mem_of_getElem? hd) k hk
 tabs := r.tabs
 gens := r.gens
 os := r.os
 nd := fun j a xs _ h2 => absurd rfl (sg0_nl _ (List.mem_of_getElem? h2) xs)
theorem back_keep (r : R X Z V s) {d : Addr} (q : R (X.small s.heap d) Z₁ V₁ s') (b : Addr) (o : Obj) (hb : ∀ k, k < 2 -> b ≠ X.P k) (h : s.heap.get? b = some o) : s'.heap.get? b = some o :=
 q.keep b o ((small_k hb).trans h)
theorem fresh_of (r : R X Z V s) {d : Addr} (q : R (X.small s.heap d) Z₁ V₁ s') {j : Nat} {a : Addr} (hj : nTop <= j) (h : Z₁[j]? = some a) : s.heap.get? a = none :=
 (small_k (X := X) (q.tne a (List.mem_of_getElem? h))).symm.trans (q.new j a hj h)
theorem R.back (K : Ok3 X) (r : R X Z V s) {d : Addr} (q : R (X.small s.heap d) Z₁ V₁ s') : R X Z V s' :=
 have at_ : ∀ {j a}, Z[j]? = some a -> ∀ o, s.heap.get? a = some o -> s'.heap.get? a = some o := fun {j a} h o => back_keep r q a o (r.tne a (List.mem_of_getElem? h))
 {r with
  obj := fun j a o h1 h2 => (r.obj j a o h1 h2).at (at_ h1) fun b o h c => back_keep r q b o (fun k hk e => by
   refine N1.e4 (r.tabs k hk) fun ps e1 e2 _ => ?_
   rw [e, e1] at h
   exact tab_not_code e2 (Option.some.inj h ▸ c)) h
  live := fun j a h => let ⟨o, ho⟩ := r.live j a h; ⟨o, at_ h o ho⟩
  keep := fun b o h => back_keep r q b o (fun k hk e => by rw [e, K.kP k hk] at h; exact noneS h) (r.keep b o h)
  tabs := q.tabs
  gens := q.gens
  os := q.os
  nd := fun j a xs h1 h2 o ho => by
   refine N1.e2 (r.live j a h1) fun o' h' => ?_
   obtain rfl := uq (at_ h1 o' h') ho
   exact r.nd j a xs h1 h2 _ h' }
end
section
open PySem.W
variable {X : Fx} {Z Z' : List Addr} {V V' : Sg} {s s' : Shared} {A : Around} {E : AE} {env : Env}
theorem all_cons' {α : Type} {p : α -> Bool} {a : α} {l : List α} (h : (a :: l).all p = true) : p a = true /\ l.all p = true := Bool.and_eq_true_iff.mp h
theorem args_small {q : List Addr} {da : Addr} (hd : Z[d]? = some da) (hq : q[20]? = some da) (h : oneRef d B args = true) (r : VRs Z args vs) : VRs q (args.map smV) vs := by
 induction r with
 | nil => exact .nil
 | @cons v w _ _ x _ ih =>
  have h := all_cons' h
  refine .cons ?_ (ih h.2)
  have e := h.1
  clear h ih
  induction v with
  | ref j => exact x.elim fun a z => ⟨_, hq, uq hd (beq_iff_eq.mp (Bool.and_eq_true_iff.mp e).1 ▸ z.1) ▸ z.2⟩
  | _ => exact x
theorem AO.mp_list {g : Nat -> Nat} {o : AO} (h : o.mp g = .list xs) : ∃ ys, o = .list ys := by
 induction o <;> first | exact ⟨_, rfl⟩ | exact nomatch h
theorem orc_sound (K : Ok3 X) (BO : ∀ {X}, Ok X -> BindsOk X) (r : R X Z V s) (hm : Room A 12) {j : Nat} (h : orc j args V = some (v, V')) (hf : VR Z (.ref j) fv) (ha : VRs Z args vs) : W X A (call fv vs []) (Post X Z V' v) s := by
 unfold orc at h
 refine iteS h fun hc h => ?_
 refine e6 hc fun h5 h8 hone h20 hlt h21 => ?_
 refine mapE h fun p hrun h => ?_
 obtain ⟨v0, Vs⟩ := p
 refine someP (congrArg some h) ?_
 clear h
 generalize refOf args = da at hone h20 hlt
 have hrl : Z.length = V.length := r.len
 have hd : Z[da]? = some Z[da] := List.getElem?_eq_getElem (by rw [hrl]; exact hlt)
 generalize Z[da] = d at hd
 have ht : X.Z₀.length = 21 := K.top
 have hj : j < 20 := by lia
 have K' := K.toOk2.small r (R.notSys2 K.toOk2 r hd)
 have hf' : VR (X.Z₀.set 20 d) (.ref j) fv := by
  refine e3 hf fun a h1 z165 => ?_
  subst z165
  refine i3 a ((small_l hj).trans ?_) rfl
  refine rwR (List.getElem?_eq_getElem (by lia)) ?_
  refine rwL h1 ?_
  exact (get_prefix r.pre (List.getElem?_eq_getElem (by lia))).symm
 refine wpAny_mono ((Sd.all K' (BO K'.toOk) 12).cl hrun (r.small K hd h20) hf' (args_small hd (List.getElem?_set_self (by lia)) hone ha) .nil hm) (fun y s' hp => ?_) fun _ _ h => h
 refine postE hp fun Z₁ p₁ q hv => ?_
 have rb := r.back K q
 have l1 : 21 <= Z₁.length := by
  have := p₁.length_le
  rw [List.length_set, ht] at this
  exact this
 have new : ∀ i a, (Z₁.drop 21)[i]? = some a -> Z₁[21 + i]? = some a := fun i a h => by rw [List.getElem?_drop] at h; exact h
 have fr : ∀ i a, (Z₁.drop 21)[i]? = some a -> s.heap.get? a = none := fun i a h => fresh_of r q (Nat.le_add_right 21 i) (new i a h)
 have H : ∀ i a, Z₁[i]? = some a -> (Z ++ Z₁.drop 21)[gO da V.length i]? = some a := fun i a h => by
  unfold gO
  by_cases q1 : i < 20
  ·refine rwR (if_pos q1) ?_
   have e : X.Z₀[i]? = some a := by
    have h2 := get_prefix p₁ (List.getElem?_eq_getElem (l := X.Z₀.set 20 d) (i := i) (by rw [List.length_set]; lia))
    rw [<- List.getElem?_eq_getElem, small_l q1] at h2
    refine rwL h ?_
    have h3 : i < X.Z₀.length := by lia
    rw [List.getElem?_eq_getElem h3] at h2 ⊢
    exact h2.symm
   exact get_prefix (r.pre.trans (List.prefix_append ..)) e
  ·refine rwR (if_neg q1) ?_
   by_cases q2 : i = 20
   ·subst q2
    refine rwR (if_pos rfl) ?_
    have h2 := get_prefix p₁ (List.getElem?_set_self (l := X.Z₀) (i := 20) (a := d) (by lia))
    obtain rfl := uq h h2
    exact get_prefix (List.prefix_append ..) hd
   ·refine rwR (if_neg q2) ?_
    refine rwR (List.getElem?_append_right (hrl ▸ Nat.le_add_right _ _)) ?_
    refine rwR (List.getElem?_drop) ?_
    rw [hrl, Nat.add_sub_cancel_left, Nat.add_sub_cancel' (Nat.lt_of_le_of_ne (Nat.not_lt.mp q1) (Ne.symm q2))]
    exact h
 have cases2 : ∀ i a, (Z ++ Z₁.drop 21)[i]? = some a -> Z[i]? = some a \/ V.length <= i /\ (Z₁.drop 21)[i - V.length]? = some a := fun i a h => by
  by_cases q1 : i < Z.length
  ·rw [List.getElem?_append_left q1] at h; exact .inl h
  ·rw [List.getElem?_append_right (Nat.not_lt.mp q1), hrl] at h; exact .inr ⟨hrl ▸ Nat.not_lt.mp q1, h⟩
 refine i4 (Z ++ Z₁.drop 21) (List.prefix_append ..) ?_ (hv.mp H)
 exact {
  pre := r.pre.trans (List.prefix_append ..)
  len := by rw [List.length_append, List.length_append, List.length_map, List.length_drop, List.length_drop, hrl, q.len]
  nodup := List.nodup_append.mpr ⟨r.nodup, (List.drop_sublist 21 Z₁).nodup q.nodup, fun a h1 b h2 e => by
   subst e
   refine N1.e2 (List.mem_iff_getElem?.mp h1) fun i hi => N1.e2 (List.mem_iff_getElem?.mp h2) fun k hk => N1.e2 (r.live i a hi) fun o ho => ?_
   rw [fr k a hk] at ho; exact noneS ho⟩
  obj := fun i a o h1 h2 => by
   rcases cases2 i a h1 with h1 | ⟨hi, h1⟩
   ·rw [List.getElem?_append_left (by rw [<- hrl]; exact (List.getElem?_eq_some_iff.mp h1).1)] at h2
    exact (rb.obj i a o h1 h2).mono (List.prefix_append ..)
   ·rw [List.getElem?_append_right hi, List.getElem?_map, List.getElem?_drop] at h2
    refine mapE h2 fun o' h3 h4 => ?_
    subst h4
    exact (q.obj _ a o' (new _ a h1) h3).mp H
  new := fun i a hi h1 => by
   rcases cases2 i a h1 with h1 | ⟨_, h1⟩
   ·exact r.new i a hi h1
   ·cases hk : X.k₀ a with
    | none => rfl
    | some o => exact noneS ((fr _ a h1).symm.trans (r.keep a o hk))
  live := fun i a h1 => by
   rcases cases2 i a h1 with h1 | ⟨_, h1⟩
   ·exact rb.live i a h1
   ·exact q.live _ a (new _ a h1)
  keep := rb.keep
  tne := fun a h k hk => by
   rcases List.mem_append.mp h with h | h
   ·exact r.tne a h k hk
   ·exact q.tne a (List.mem_of_mem_drop h) k hk
  tabs := q.tabs
  gens := q.gens
  os := q.os
  nd := fun i a xs h1 h2 => by
   rcases cases2 i a h1 with h1 | ⟨hi, h1⟩
   ·rw [List.getElem?_append_left (by rw [<- hrl]; exact (List.getElem?_eq_some_iff.mp h1).1)] at h2
    exact rb.nd i a xs h1 h2
   ·rw [List.getElem?_append_right hi, List.getElem?_map, List.getElem?_drop] at h2
    refine mapE h2 fun o' h3 h4 => ?_
    refine e2 (AO.mp_list h4) fun ys z169 => ?_
    subst z169
    exact q.nd _ a ys (new _ a h1) h3 }
theorem orc_some {j : Nat} {r : AV × Sg} (h : orc j args V = some r) : 5 <= j /\ j <= 8 := by
 unfold orc at h
 exact iteS h fun hc _ => ⟨hc.1, hc.2.1⟩
theorem oDead {α : Type} {r : α} {o : Option AO} {x y : Option α} (h : (match o with | some .dead => x | _ => y) = some r) (k1 : x = some r -> G) (k2 : y = some r -> G) : G := by
 rcases o with _ | o
 ·exact k2 h
 induction o with
 | dead => exact k1 h
 | _ => exact k2 h
theorem clOE {f : AV} {y : AV × Sg} (h : (stepO r).cl f args kw V = some y) (k1 : ∀ j, f = .ref j -> kw.isEmpty = true -> orc j args V = some y -> G) (k2 : stepCl r f args kw V = some y -> G) : G := by
 induction f with
 | ref j => exact oDead h (fun h => iteS h fun he h => k1 j rfl he h) k2
 | _ => exact k2 h
theorem SdO.step (K : Ok3 X) (BO : ∀ {X}, Ok X -> BindsOk X) (S : Sd X r (n + 12)) : Sd X (stepO r) (n + 1 + 12) :=
 have SZ := Sd.step K.toOk2 (BO K.toOk) S
 {ev := SZ.ev
  tr := SZ.tr
  ex := SZ.ex
  us := SZ.us
  cl := fun h hR hf ha hk hm => clOE h (fun j e he h1 => by
   subst e
   obtain rfl := emptyE he
   obtain rfl := brs_nil hk
   exact orc_sound K BO hR (hm.le (by lia)) h1 hf ha) fun h => SZ.cl h hR hf ha hk hm
  cb := fun h => clOE h (fun j e _ h => .inr ⟨j, e, .inr (.inr (orc_some h))⟩) SZ.cb }
theorem SdO.all (K : Ok3 X) (BO : ∀ {X}, Ok X -> BindsOk X) : ∀ n, Sd X (lvO n) (n + 12)
 | 0 => ⟨fun h => noneS h, fun h => noneS h, fun h => noneS h, fun h => noneS h, fun _ h => noneS h, fun h => noneS h⟩
 | n + 1 => SdO.step K BO (SdO.all K BO n)
theorem R.kill (r : R X Z V s) (j : Nat) : R X Z (V.set j .dead) s := { r with
 len := by rw [List.length_set]; exact r.len
 obj := fun i a o h1 h2 => by
  by_cases q : j = i
  ·subst q
   rw [List.getElem?_set_self (by rw [<- r.len]; exact (List.getElem?_eq_some_iff.mp h1).1)] at h2
   obtain rfl := Option.some.inj h2
   exact trivial
  ·exact r.obj i a o h1 ((List.getElem?_set_ne q).symm.trans h2)
 nd := fun i a xs h1 h2 => by
  by_cases q : j = i
  ·subst q
   rw [List.getElem?_set_self (by rw [<- r.len]; exact (List.getElem?_eq_some_iff.mp h1).1)] at h2
   exact absurd (Option.some.inj h2) (by nofun)
  ·exact r.nd i a xs h1 ((List.getElem?_set_ne q).symm.trans h2) }
end
section
open PySem.W
set_option maxHeartbeats 8000000
variable {w : World} {s₁ : Shared} {mg mb mN : Str -> Option Value} {l : Addr}
theorem ok2J (J : JF w s₁ mg mb) {items : Array Value} (hL : s₁.heap.IsList l items) (hN : (ghostOf s₁.heap tabsJ).Ns 106 mN) : Ok2 (FxJ w s₁ mg mb mN l) where
 toOk := okJ J hN
 notS := by
  intro j a hj h
  have hl : (l == sysModules) = false := by
   refine beq_eq_false_iff_ne.mpr fun e => ?_
   obtain ⟨o, ho, hc, n, hd⟩ := hL
   refine e3 J.seer.mods fun mm z186 _ => ?_
   obtain ⟨o', es, ep, e', hd', _⟩ := z186
   rw [<- e, ho] at e'
   rcases e'
   rw [hd] at hd'; cases hd'
  rcases snoc_get h with h | ⟨_, rfl⟩
  ·have hm : a ∈ addrsJ := List.mem_of_getElem? h
   have : ∀ a ∈ addrsJ, (a == sysModules) = false := by decide
   exact this a hm
  ·exact hl
theorem ok3J (J : JF w s₁ mg mb) {items : Array Value} (hL : s₁.heap.IsList l items) (hN : (ghostOf s₁.heap tabsJ).Ns 106 mN) : Ok3 (FxJ w s₁ mg mb mN l) where
 toOk2 := ok2J J hL hN
 topO := by
  intro h k₀ q Z j a o hk hj h1 h2
  have h1 := (List.getElem?_append_left (l₂ := [l]) (show j < addrsJ.length from hj)).symm.trans h1
  exact top_obj (fun b x e => hk b x (J.at e)) h1 h2
noncomputable def LawHolds : Prop := ∀ xs : List Int, xs.length <= 63 -> ∃ V', stepCl (lvO 50) (.ref 11) [.ref 20] [] (sgL ++ [.list (xs.map .int)]) = some (.bool true, V')
theorem law_sound (H : LawHolds) (J : JF w s₁ mg mb) {items : List Value} {xs : List Int} (hx : xs.length <= 63) (hL : s₁.heap.IsList l items.toArray) (hI : IntsAre items xs) (hd0 : ∀ o, s₁.heap.get? l = some o -> o.dict = none) (hg : s₁.gens = #[]) {fa : Addr} (hfa : mg "law" = some (.ref fa)) :
  codeAny (model PySem.Challenge.rw_uy0007_01.row.prog w) callerA (.call (.ref fa) ⟨[.ref l], []⟩) (fun r s' => r = .ok (.ret (.bool true)) /\ (∀ b o, (ghostOf s₁.heap tabsJ).get? b = some o -> s'.heap.get? b = some o) /\ s'.os = s₁.os /\ s'.gens = #[] /\ GrownAll tabsJ s'.heap) s₁ := by
 refine e2 J.nsC fun mN hN => ?_
 refine e2 (H xs hx) fun V' hr => ?_
 have e : mg "law" = some (.ref 157) := mg_of J.K J.g (by kernel_rfl)
 rw [hfa] at e
 rcases e
 have K := ok3J J hL hN
 have R0 := ((((rJ (mN := mN) J hL hI hd0 hg).kill 5).kill 6).kill 7).kill 8
 refine codeAny_mono (call_sound (X := FxJ w s₁ mg mb mN l) (n := 62) K.toOk (binds_ok K.toOk) (SdO.all K (fun {X} K => binds_ok K) 50) (j := 11) rfl hr R0 (fv := .ref 157) (vs := [.ref l]) (kvs := []) ⟨157, rfl, rfl⟩ (.cons ⟨l, rfl, rfl⟩ .nil) .nil
  ⟨rfl, by decide, by decide +kernel⟩) fun r s' h => ?_
 obtain ⟨y, rfl, Z', p, r', hv⟩ := h
 have hv : y = .bool true := hv
 subst hv
 refine e3 (r'.tabs 0 (by decide)) fun ps e1 _ => ?_
 refine e3 (r'.tabs 1 (by decide)) fun qs e2 _ => ?_
 exact i7 rfl r'.keep r'.os r'.gens (⟨ps, e1⟩) (⟨qs, e2⟩) trivial
noncomputable def lawP : DefRec × List (Str × Expr) := (defOf viewP PySem.Challenge.rw_uy0007_01.row.name).get (by kernel_rfl)
theorem holds_of (H : LawHolds) : PySem.Challenge.rw_uy0007_01.Holds := by
 w_on
 refine holds_law (by kernel_rfl) fun said => ?_
 refine holds_open (d := lawP.1) (kwd := lawP.2) left_ok (Hook.of hkX) (Hook.keeps hkX) (fun s e => xl_of s (Bool.and_eq_true_iff.mp e).1) XL.keeps (by kernel_rfl) (by kernel_rfl) (by kernel_rfl) (fun s e => recFacts_of (Bool.and_eq_true_iff.mp e).2) (by rfl) (by first | assumption | decide +kernel) (by decide +kernel) ⟨rfl, rfl, rfl, rfl, rfl, by decide +kernel⟩ ?hw ?hc
 case hw => w_witness2
 intro w s₀ s₁ mg mb G Y fa o pm cd doc dV kV ho hd hcd hD hmg hg args vals as hpre hlay hrd hwl hlo
 have KX := km_in_of Y
 have hT8 := km_tabs_of Y
 have X := (Ground.X G).1
 have VG := (Ground.X G).2
 refine Ground.open G ?_
 intro T B D TE TW
 try (refine guard_noD D (by decide +kernel) ?_; clear D)
 have hmg' := hmg
 have hT9 : TabsAt tabsJ s₁.heap := List.forall_mem_cons.mpr ⟨⟨codeHd_of_K (c := 136) (P := 132) KX (by kernel_rfl), hT8 132 (by decide)⟩, List.forall_mem_cons.mpr ⟨⟨codeHd_of_K (c := 146) (P := 144) KX (by kernel_rfl), hT8 144 (by decide)⟩, fun _ h => nomatch h⟩⟩
 wrow_args hpre hlay hrd hwl hlo
 all_goals (
  first | refine callC_kw (enter_call ?_) | refine enter_call ?_
  w_top on
  kn_posts
  rename_i xs hs hl0 hL1 hr1 hl2 w4 w3 l items w0 hL ra w1 r0 hI hr hc1 hc2
  have J : JF w s₁ mg mb := ⟨KX, hT9, T.g, T.b, T.nolimit, T.builtins, T.bmain, T.seer (by decide)⟩
  have hd0 : ∀ o, s₁.heap.get? l = some o -> o.dict = none := by
   intro o ho
   cases w1 with
   | list h1 _ => rw [h1] at ho; cases ho; rfl
  refine codeAny_mono (law_sound H J (by lia) hL hI hd0 hg hmg') fun r s' h => ?_
  refine e5 h fun z197 h1 h2 h3 h4 => ?_
  clear h
  subst z197
  refine ⟨⟨.inl ⟨.bool true, .bool true, [], rfl, ?_, ?_, ?_, ?_⟩, h1, h2, h3⟩, h4⟩
  ·exact fun _ => rfl
  ·exact .bool true
  ·wrow_post
  ·exact fun _ => ⟨List.nodup_nil, fun a ha => by cases ha⟩)
end
structure Top (V : Sg) : Prop where
 len : 21 <= V.length
 at_ : ∀ i : Nat, i < 20 -> V[i]? = sgL[i]?
noncomputable def Keep (V V' : Sg) : Prop := V.length <= V'.length /\ ∀ j : Nat, j < V.length -> V'[j]? = V[j]?
theorem Keep.refl (V : Sg) : Keep V V := ⟨Nat.le_refl _, fun _ _ => rfl⟩
theorem Keep.trans (h : Keep V V') (k : Keep V' V'') : Keep V V'' := ⟨Nat.le_trans h.1 k.1, fun j hj => (k.2 j (Nat.lt_of_lt_of_le hj h.1)).trans (h.2 j hj)⟩
theorem lt_of_get {j : Nat} {o : AO} (h : V[j]? = some o) : j < V.length := (List.getElem?_eq_some_iff.mp h).1
theorem Keep.get (k : Keep V V') {j : Nat} {o : AO} (h : V[j]? = some o) : V'[j]? = some o := (k.2 j (lt_of_get h)).trans h
theorem Keep.app (V t : Sg) : Keep V (V ++ t) := ⟨List.length_append ▸ Nat.le_add_right .., fun _ hj => List.getElem?_append_left hj⟩
theorem Top.keep (T : Top V) (k : Keep V V') : Top V' := ⟨Nat.le_trans T.len k.1, fun i hi => (k.2 i (Nat.lt_of_lt_of_le hi (Nat.le_trans (by decide) T.len))).trans (T.at_ i hi)⟩
theorem lvO_fn {j : Nat} {at_ : Option Nat} (h : V[j]? = some (.func fi cl at_)) : (lvO (n + 1)).cl (.ref j) args kw V = stepCl (lvO n) (.ref j) args kw V := by
 show (match V[j]? with
  | some .dead => if kw.isEmpty then orc j args V else none
  | _ => stepCl (lvO n) (.ref j) args kw V) = _
 exact rwR h rfl
theorem lvO_cls {j : Nat} (h : V[j]? = some .cls) : (lvO (n + 1)).cl (.ref j) args kw V = stepCl (lvO n) (.ref j) args kw V := by
 show (match V[j]? with
  | some .dead => if kw.isEmpty then orc j args V else none
  | _ => stepCl (lvO n) (.ref j) args kw V) = _
 exact rwR h rfl
theorem orc_run {j : Nat} {Vs : Sg} (T : Top V) (h5 : 5 <= j) (h8 : j <= 8) (h1 : oneRef (refOf args) V.length args = true) (h2 : 20 <= refOf args) (h3 : refOf args < V.length) (hr : (lvl 12).cl (.ref j) (args.map smV) [] top21 = some (v, Vs)) :
  (lvO (n + 1)).cl (.ref j) args [] V = some (v.mp (gO (refOf args) V.length), V ++ (Vs.drop 21).map (AO.mp (gO (refOf args) V.length))) := by
 have e : (lvO (n + 1)).cl (.ref j) args [] V = match V[j]? with
  | some .dead => orc j args V
  | _ => stepCl (lvO n) (.ref j) args [] V := rfl
 have q : j = 5 \/ j = 6 \/ j = 7 \/ j = 8 := (or58 h5 h8)
 rw [e, T.at_ j (Nat.lt_of_le_of_lt h8 (by decide)), show sgL[j]? = some .dead by rcases q with rfl | rfl | rfl | rfl <;> rfl]
 show orc j args V = _
 unfold orc
 refine rwR (if_pos ⟨h5, h8, h1, h2, h3, T.len⟩) ?_
 refine rwR hr ?_
 rfl
theorem app_get {α : Type} {V : List α} {t : List α} (i : Nat) : (V ++ t)[V.length + i]? = t[i]? := by
 refine rwR (List.getElem?_append_right (Nat.le_add_right ..)) ?_
 rw [Nat.add_sub_cancel_left]
theorem methS_join {s : Str} {j : Nat} : methS s 61 [.ref j] V = match V[j]? with
  | some (.list xs) => if xs.length <= 1000 /\ s.cps.size <= 100 then (joinA s xs).bind fun z => (mkS z).bind fun w => some (w, V) else none
  | _ => none := rfl
theorem methS_split {s sep : Str} : methS s 79 [.str sep] V = if sep.cps.size = 2 /\ s.cps.size <= 1000 then some (.ref V.length, V ++ [.list (strAVs (Txt.split s sep))]) else none := rfl
theorem methL_idx {j : Nat} {x : Str} : methL j xs 100 [.str x] V = if xs.length <= 100000 then ((findIx x xs).bind fun k => some (k : Int)).map fun k => (.int k, V) else none := rfl
theorem methL_app {j : Nat} : methL j xs 37 [v] V = if xs.length <= 100000 then (upd j (.list (xs ++ [v])) V).map (.none, ·) else none := rfl
section
inductive O1 {α : Type} (o : Option α) (Q : α -> Prop) : Prop
 | mk (x : α) (h : o = some x) (q : Q x) : O1 o Q
inductive O2 {α β : Type} (o : Option (α × β)) (Q : α -> β -> Prop) : Prop
 | mk (x : α) (y : β) (h : o = some (x, y)) (q : Q x y) : O2 o Q
structure Ev (n : Nat) (E : AE) (e : Ex) (V : Sg) (Q : AV -> Sg -> Prop) : Prop where
 out : ∃ v V', (lvO n).ev E e V = some (v, V') /\ Q v V'
structure Evs (n : Nat) (E : AE) (es : List Ex) (V : Sg) (Q : List AV -> Sg -> Prop) : Prop where
 out : ∃ v V', evs (lvO n) E es V = some (v, V') /\ Q v V'
structure Exs (n : Nat) (E : AE) (b : List Sm) (V : Sg) (Q : AF -> Sg -> Prop) : Prop where
 out : ∃ v V', (lvO n).ex E b V = some (v, V') /\ Q v V'
structure Clk (n : Nat) (f : AV) (args : List AV) (kw : List (Nat × AV)) (V : Sg) (Q : AV -> Sg -> Prop) : Prop where
 out : ∃ v V', (lvO n).cl f args kw V = some (v, V') /\ Q v V'
noncomputable abbrev Cl (n : Nat) (f : AV) (args : List AV) (V : Sg) (Q : AV -> Sg -> Prop) : Prop := Clk n f args [] V Q
structure Cds (n : Nat) (E : AE) (cs : List Ex) (V : Sg) (Q : Bool -> Sg -> Prop) : Prop where
 out : ∃ v V', conds (lvO n) E cs V = some (v, V') /\ Q v V'
section
variable {n : Nat} {E : AE} {V : Sg}
theorem Ev.mono {Q' : AV -> Sg -> Prop} (h : Ev n E e V Q) (q : ∀ v V', Q v V' -> Q' v V') : Ev n E e V Q' := by
 obtain ⟨v, V', h1, h2⟩ := h; exact ⟨v, V', h1, q _ _ h2⟩
theorem Exs.mono {b : List Sm} {Q Q' : AF -> Sg -> Prop} (h : Exs n E b V Q) (q : ∀ v V', Q v V' -> Q' v V') : Exs n E b V Q' := by
 obtain ⟨v, V', h1, h2⟩ := h; exact ⟨v, V', h1, q _ _ h2⟩
theorem Clk.mono {f : AV} {Q' : AV -> Sg -> Prop} (h : Clk n f args kw V Q) (q : ∀ v V', Q v V' -> Q' v V') : Clk n f args kw V Q' := by
 obtain ⟨v, V', h1, h2⟩ := h; exact ⟨v, V', h1, q _ _ h2⟩
variable {Q : AV -> Sg -> Prop}
theorem ev_int {i : Int} (h : small i = true) (q : Q (.int i) V) : Ev (n + 1) E (.int i p) V Q :=
 ⟨_, _, show (if small i then _ else _) = _ by rw [if_pos h], q⟩
theorem ev_str {s : Str} (q : Q (.str s) V) : Ev (n + 1) E (.str s p) V Q := ⟨_, _, rfl, q⟩
theorem ev_bool {b : Bool} (q : Q (.bool b) V) : Ev (n + 1) E (.bool b p) V Q := ⟨_, _, rfl, q⟩
theorem ev_name {x : Nat} (h : getN E x V = some v) (q : Q v V) : Ev (n + 1) E (.name x p) V Q :=
 ⟨_, _, show (getN E x V).map (·, V) = _ by rw [h]; rfl, q⟩
theorem ev_glo {x : Nat} (h : look x E.sc = some .glo) (hg : glob x = some v) (q : Q v V) : Ev (n + 1) E (.name x p) V Q :=
 ev_name (by unfold getN; rw [h]; exact hg) q
theorem ev_attr (h : Ev n E e V fun v V1 => O1 (attrA v a V1) fun x => Q x V1) : Ev (n + 1) E (.attr e a p) V Q := by
 obtain ⟨v, V1, h1, x, h2, q⟩ := h
 refine ⟨x, V1, ?_, q⟩
 refine (?_ : ((lvO n).ev E e V).bind (fun r => (attrA r.1 a r.2).bind fun x => some (x, r.2)) = _)
 rw [h1]; show (attrA v a V1).bind _ = _; rw [h2]; rfl
theorem ev_sub {i : Ex} (h : Ev n E e V fun v V1 => Ev n E i V1 fun k V2 => O1 (item v k V2) fun x => Q x V2) : Ev (n + 1) E (.sub e i p) V Q := by
 obtain ⟨v, V1, h1, k, V2, h2, x, h3, q⟩ := h
 refine ⟨x, V2, ?_, q⟩
 refine (?_ : ((lvO n).ev E e V).bind (fun r => ((lvO n).ev E i r.2).bind fun t => (item r.1 t.1 t.2).bind fun x => some (x, t.2)) = _)
 rw [h1]; show ((lvO n).ev E i V1).bind _ = _; rw [h2]; show (item v k V2).bind _ = _; rw [h3]; rfl
theorem ev_subTo {i : Ex} (h : Ev n E e V fun v V1 => Ev n E i V1 fun k V2 => O2 (cutTo v k V2) Q) : Ev (n + 1) E (.subTo e i p q) V Q := by
 obtain ⟨v, V1, h1, k, V2, h2, x, V3, h3, q⟩ := h
 refine ⟨x, V3, ?_, q⟩
 refine (?_ : ((lvO n).ev E e V).bind (fun r => ((lvO n).ev E i r.2).bind fun t => cutTo r.1 t.1 t.2) = _)
 rw [h1]; show ((lvO n).ev E i V1).bind _ = _; rw [h2]; exact h3
theorem ev_bin {l r : Ex} {op : Operator} (h : Ev n E l V fun v V1 => Ev n E r V1 fun k V2 => O2 (bin op v k V2) Q) : Ev (n + 1) E (.bin l op r p) V Q := by
 obtain ⟨v, V1, h1, k, V2, h2, x, V3, h3, q⟩ := h
 refine ⟨x, V3, ?_, q⟩
 refine (?_ : ((lvO n).ev E l V).bind (fun r1 => ((lvO n).ev E r r1.2).bind fun t => bin op r1.1 t.1 t.2) = _)
 rw [h1]; show ((lvO n).ev E r V1).bind _ = _; rw [h2]; exact h3
theorem ev_cmp {l r : Ex} {op : CmpOp} (h : Ev n E l V fun v V1 => Ev n E r V1 fun k V2 => O1 (cmp op v k V2) fun b => Q (.bool b) V2) : Ev (n + 1) E (.cmp l op r p) V Q := by
 obtain ⟨v, V1, h1, k, V2, h2, x, h3, q⟩ := h
 refine ⟨.bool x, V2, ?_, q⟩
 refine (?_ : ((lvO n).ev E l V).bind (fun r1 => ((lvO n).ev E r r1.2).bind fun t => (cmp op r1.1 t.1 t.2).bind fun b => some (AV.bool b, t.2)) = _)
 rw [h1]; show ((lvO n).ev E r V1).bind _ = _; rw [h2]; show (cmp op v k V2).bind _ = _; rw [h3]; rfl
theorem ev_neg (h : Ev n E e V fun v V1 => ∃ i, v = .int i /\ small (-i) = true /\ Q (.int (-i)) V1) : Ev (n + 1) E (.neg e p) V Q := by
 obtain ⟨v, V1, h1, i, rfl, h2, q⟩ := h
 refine ⟨_, V1, ?_, q⟩
 refine (?_ : ((lvO n).ev E e V).bind (fun r => match r.1 with | .int i => (mkI (-i)).bind fun x => some (x, r.2) | _ => none) = _)
 refine rwR h1 ?_
 refine (?_ : (mkI (-i)).bind _ = _)
 unfold mkI; rw [if_pos h2]; rfl
theorem ev_and {l r : Ex} (h : Ev n E l V fun v V1 => O1 (truth v) fun b => if b then Ev n E r V1 Q else Q v V1) : Ev (n + 1) E (.bool2 .And l r p) V Q := by
 obtain ⟨v, V1, h1, b, h2, q⟩ := h
 have e : (lvO (n + 1)).ev E (.bool2 .And l r p) V = ((lvO n).ev E l V).bind (fun x => (truth x.1).bind fun b => match BoolOp.And, b with | .And, false => some (x.1, x.2) | .Or, true => some (x.1, x.2) | _, _ => (lvO n).ev E r x.2) := rfl
 rw [h1] at e
 have e : (lvO (n + 1)).ev E (.bool2 .And l r p) V = (truth v).bind fun b => match BoolOp.And, b with | .And, false => some (v, V1) | .Or, true => some (v, V1) | _, _ => (lvO n).ev E r V1 := e
 rw [h2] at e
 induction b with
 | true =>
  obtain ⟨w, V2, h3, q⟩ := q
  exact ⟨w, V2, e.trans h3, q⟩
 | false => exact ⟨v, V1, e, q⟩
theorem ev_or {l r : Ex} (h : Ev n E l V fun v V1 => O1 (truth v) fun b => if b then Q v V1 else Ev n E r V1 Q) : Ev (n + 1) E (.bool2 .Or l r p) V Q := by
 obtain ⟨v, V1, h1, b, h2, q⟩ := h
 have e : (lvO (n + 1)).ev E (.bool2 .Or l r p) V = ((lvO n).ev E l V).bind (fun x => (truth x.1).bind fun b => match BoolOp.Or, b with | .And, false => some (x.1, x.2) | .Or, true => some (x.1, x.2) | _, _ => (lvO n).ev E r x.2) := rfl
 rw [h1] at e
 have e : (lvO (n + 1)).ev E (.bool2 .Or l r p) V = (truth v).bind fun b => match BoolOp.Or, b with | .And, false => some (v, V1) | .Or, true => some (v, V1) | _, _ => (lvO n).ev E r V1 := e
 rw [h2] at e
 induction b with
 | false =>
  obtain ⟨w, V2, h3, q⟩ := q
  exact ⟨w, V2, e.trans h3, q⟩
 | true => exact ⟨v, V1, e, q⟩
theorem ev_ite {t b o : Ex} (h : Ev n E t V fun v V1 => O1 (truth v) fun c => if c then Ev n E b V1 Q else Ev n E o V1 Q) : Ev (n + 1) E (.ite t b o p) V Q := by
 obtain ⟨v, V1, h1, c, h2, q⟩ := h
 have e : (lvO (n + 1)).ev E (.ite t b o p) V = ((lvO n).ev E t V).bind (fun x => (truth x.1).bind fun c => if c then (lvO n).ev E b x.2 else (lvO n).ev E o x.2) := rfl
 rw [h1] at e
 have e : (lvO (n + 1)).ev E (.ite t b o p) V = (truth v).bind fun c => if c then (lvO n).ev E b V1 else (lvO n).ev E o V1 := e
 rw [h2] at e
 induction c with
 | true => obtain ⟨w, V2, h3, q⟩ := q; exact ⟨w, V2, e.trans h3, q⟩
 | false => obtain ⟨w, V2, h3, q⟩ := q; exact ⟨w, V2, e.trans h3, q⟩
theorem evs_nil {Q : List AV -> Sg -> Prop} (q : Q [] V) : Evs n E [] V Q := ⟨_, _, rfl, q⟩
theorem evs_cons {Q : List AV -> Sg -> Prop} (h : Ev n E e V fun v V1 => Evs n E es V1 fun vs V2 => Q (v :: vs) V2) : Evs n E (e :: es) V Q := by
 obtain ⟨v, V1, h1, vs, V2, h2, q⟩ := h
 refine ⟨_, V2, ?_, q⟩
 refine (?_ : ((lvO n).ev E e V).bind (fun r => (evs (lvO n) E es r.2).bind fun t => some (r.1 :: t.1, t.2)) = _)
 rw [h1]; show (evs (lvO n) E es V1).bind _ = _; rw [h2]; rfl
theorem ev_call {y : Nat} {args : List Ex} (h : Ev n E (.name y q) V fun f V1 => Evs n E args V1 fun vs V2 => Cl n f vs V2 Q) : Ev (n + 1) E (.call (.name y q) args [] [] p) V Q := by
 obtain ⟨f, V1, h1, vs, V2, h2, w, V3, h3, q⟩ := h
 refine ⟨w, V3, ?_, q⟩
 refine (?_ : ((lvO n).ev E (.name y _) V).bind (fun r => (evs (lvO n) E args r.2).bind fun t => (lvO n).cl r.1 t.1 [] t.2) = _)
 rw [h1]; show (evs (lvO n) E args V1).bind _ = _; rw [h2]; exact h3
theorem ev_callk {y : Nat} {args : List Ex} (hk : kwn.length = kwe.length) (h : Ev n E (.name y q) V fun f V1 => Evs n E args V1 fun vs V2 => Evs n E kwe V2 fun ks V3 => Clk n f vs ((kwn.map (·.1)).zip ks) V3 Q) : Ev (n + 1) E (.call (.name y q) args kwn kwe p) V Q := by
 obtain ⟨f, V1, h1, vs, V2, h2, ks, V3, h3, w, V4, h4, q⟩ := h
 refine ⟨w, V4, ?_, q⟩
 refine (?_ : ((lvO n).ev E (.name y _) V).bind (fun r => (evs (lvO n) E args r.2).bind fun t => (evs (lvO n) E kwe t.2).bind fun u => if kwn.length = kwe.length then (lvO n).cl r.1 t.1 ((kwn.map (·.1)).zip u.1) u.2 else none) = _)
 rw [h1]; show (evs (lvO n) E args V1).bind _ = _; rw [h2]; show (evs (lvO n) E kwe V2).bind _ = _; rw [h3]
 refine (?_ : (if kwn.length = kwe.length then _ else _) = _)
 refine rwR (if_pos hk) ?_
 exact h4
theorem ev_meth {o : Ex} {args : List Ex} (hp : (pa.endLine == p.line && decide (args.length <= 20)) = true) (h : Ev n E o V fun v V1 => O1 (methOf v a V1) fun k => Evs n E args V1 fun vs V2 => O2 (methA (lvO n) k v a vs V2) Q) : Ev (n + 1) E (.meth o a pa args p) V Q := by
 obtain ⟨v, V1, h1, k, h2, vs, V2, h3, w, V3, h4, q⟩ := h
 refine ⟨w, V3, ?_, q⟩
 refine (?_ : (if (pa.endLine == p.line && decide (args.length <= 20)) = true then ((lvO n).ev E o V).bind (fun r => (methOf r.1 a r.2).bind fun k => (evs (lvO n) E args r.2).bind fun t => methA (lvO n) k r.1 a t.1 t.2) else none) = _)
 refine rwR (if_pos hp) ?_
 rw [h1]; show (methOf v a V1).bind _ = _; rw [h2]; show (evs (lvO n) E args V1).bind _ = _; rw [h3]
 exact h4
theorem ev_list (hl : es.length <= 100) (h : Evs n E es V fun vs V1 => Q (.ref V1.length) (V1 ++ [.list vs])) : Ev (n + 1) E (.list es p) V Q := by
 obtain ⟨vs, V1, h1, q⟩ := h
 refine ⟨_, _, ?_, q⟩
 refine (?_ : (evs (lvO n) E es V).bind (fun r => if es.length <= 100 then some (AV.ref r.2.length, r.2 ++ [.list r.1]) else none) = _)
 rw [h1]; show (if es.length <= 100 then _ else _) = _; rw [if_pos hl]
theorem ev_tuple (hl : es.length <= 100) (h : Evs n E es V fun vs V1 => Q (.ref V1.length) (V1 ++ [.tuple vs])) : Ev (n + 1) E (.tuple es p) V Q := by
 obtain ⟨vs, V1, h1, q⟩ := h
 refine ⟨_, _, ?_, q⟩
 refine (?_ : (evs (lvO n) E es V).bind (fun r => if es.length <= 100 then some (AV.ref r.2.length, r.2 ++ [.tuple r.1]) else none) = _)
 rw [h1]; show (if es.length <= 100 then _ else _) = _; rw [if_pos hl]
theorem cds_nil {Q : Bool -> Sg -> Prop} (q : Q true V) : Cds n E [] V Q := ⟨_, _, rfl, q⟩
theorem cds_cons {c : Ex} {cs : List Ex} {Q : Bool -> Sg -> Prop} (h : Ev n E c V fun v V1 => O1 (truth v) fun b => if b then Cds n E cs V1 Q else Q false V1) : Cds n E (c :: cs) V Q := by
 obtain ⟨v, V1, h1, b, h2, q⟩ := h
 have e : conds (lvO n) E (c :: cs) V = ((lvO n).ev E c V).bind (fun x => (truth x.1).bind fun b => if b then conds (lvO n) E cs x.2 else some (false, x.2)) := rfl
 rw [h1] at e
 have e : conds (lvO n) E (c :: cs) V = (truth v).bind fun b => if b then conds (lvO n) E cs V1 else some (false, V1) := e
 rw [h2] at e
 induction b with
 | true => obtain ⟨w, V2, h3, q⟩ := q; exact ⟨w, V2, e.trans h3, q⟩
 | false => exact ⟨_, _, e, q⟩
end
noncomputable def Go (f : AF) (A B : Prop) : Prop := match f with
 | .next => A
 | _ => B
section
variable {n : Nat} {E : AE} {V : Sg} {Q : AF -> Sg -> Prop} {r : List Sm}
theorem ex_nil (q : Q .next V) : Exs (n + 1) E [] V Q := ⟨_, _, rfl, q⟩
theorem ex_run {s : Sm} (h1 : exec1 (lvO n) E s V = some (.next, V1)) (h : Exs (n + 1) E r V1 Q) : Exs (n + 1) E (s :: r) V Q := by
 obtain ⟨f, V2, h2, q⟩ := h
 refine ⟨f, V2, ?_, q⟩
 refine (?_ : (exec1 (lvO n) E s V).bind (fun x => match x.1 with | .next => stepEx (lvO n) E r x.2 | f => some (f, x.2)) = _)
 refine rwR h1 ?_
 exact h2
theorem ex_ret (h : Ev n E e V fun v V1 => Q (.ret v) V1) : Exs (n + 1) E (.ret e p :: r) V Q := by
 obtain ⟨v, V1, h1, q⟩ := h
 refine ⟨_, V1, ?_, q⟩
 refine (?_ : (((lvO n).ev E e V).bind fun x => some (AF.ret x.1, x.2)).bind (fun x => match x.1 with | .next => stepEx (lvO n) E r x.2 | f => some (f, x.2)) = _)
 refine rwR h1 ?_
 rfl
theorem ex_assign {x : Nat} (h : Ev n E e V fun v V1 => O1 (setN E x v V1) fun V2 => Exs (n + 1) E r V2 Q) : Exs (n + 1) E (.assign [(x, q)] e p :: r) V Q := by
 obtain ⟨v, V1, h1, V2, h2, h⟩ := h
 refine ex_run ?_ h
 refine (?_ : ((lvO n).ev E e V).bind (fun t => ((setN E x t.1 t.2).bind fun s => some s).bind fun s => some (AF.next, s)) = _)
 rw [h1]; show ((setN E x v V1).bind _).bind _ = _; rw [h2]; rfl
theorem ex_assignN {xs : List (Nat × Pos)} (h : Ev n E e V fun v V1 => O1 (setNs E v xs V1) fun V2 => Exs (n + 1) E r V2 Q) : Exs (n + 1) E (.assign xs e p :: r) V Q := by
 obtain ⟨v, V1, h1, V2, h2, h⟩ := h
 refine ex_run ?_ h
 refine (?_ : ((lvO n).ev E e V).bind (fun t => (setNs E t.1 xs t.2).bind fun s => some (AF.next, s)) = _)
 rw [h1]; show (setNs E v xs V1).bind _ = _; rw [h2]; rfl
theorem ex_assignT {xs : List (Nat × Pos)} (hn : ∀ es p, e ≠ .tuple es p) (h : Ev n E e V fun v V1 => ∃ vs V2, unpackA v xs.length V1 = some vs /\ setEach E xs vs V1 = some V2 /\ Exs (n + 1) E r V2 Q) : Exs (n + 1) E (.assignT xs q e p :: r) V Q := by
 obtain ⟨v, V1, h1, vs, V2, h2, h3, h⟩ := h
 refine ex_run ?_ h
 have e1 : exec1 (lvO n) E (.assignT xs q e p) V = ((lvO n).ev E e V).bind (fun t => (unpackA t.1 xs.length t.2).bind fun vs => (setEach E xs vs t.2).bind fun s => some (AF.next, s)) := by
  cases e with
  | tuple es p => exact (hn _ _ rfl).elim
  | _ => rfl
 rw [e1, h1]; show (unpackA v xs.length V1).bind _ = _; rw [h2]; show (setEach E xs vs V1).bind _ = _; rw [h3]; rfl
theorem ex_assignTT {xs : List (Nat × Pos)} {p' : Pos} (hs : swapOk E xs es = true) (h : Ev n E (.tuple es p') V fun v V1 => ∃ vs V2, unpackA v xs.length V1 = some vs /\ setEach E xs.reverse vs.reverse V1 = some V2 /\ Exs (n + 1) E r V2 Q) : Exs (n + 1) E (.assignT xs q (.tuple es p') p :: r) V Q := by
 obtain ⟨v, V1, h1, vs, V2, h2, h3, h⟩ := h
 refine ex_run ?_ h
 refine (?_ : ((lvO n).ev E (.tuple es p') V).bind (fun t => (unpackA t.1 xs.length t.2).bind fun vs => if swapOk E xs es then (setEach E xs.reverse vs.reverse t.2).bind fun s => some (AF.next, s) else none) = _)
 rw [h1]; show (unpackA v xs.length V1).bind _ = _; rw [h2]; show (if swapOk E xs es = true then _ else _) = _; rw [if_pos hs]
 refine rwR h3 ?_
 rfl
theorem ex_assignA {o : Ex} (h : Ev n E e V fun v V1 => Ev n E o V1 fun ov V2 => O1 (setAttrA ov a v V2) fun V3 => Exs (n + 1) E r V3 Q) : Exs (n + 1) E (.assignA o a q e p :: r) V Q := by
 obtain ⟨v, V1, h1, ov, V2, h2, V3, h3, h⟩ := h
 refine ex_run ?_ h
 refine (?_ : ((lvO n).ev E e V).bind (fun t => ((lvO n).ev E o t.2).bind fun u => (setAttrA u.1 a t.1 u.2).bind fun s => some (AF.next, s)) = _)
 rw [h1]; show ((lvO n).ev E o V1).bind _ = _; rw [h2]; show (setAttrA ov a v V2).bind _ = _; rw [h3]; rfl
theorem ex_assignS {o i : Ex} (h : Ev n E e V fun v V1 => Ev n E o V1 fun ov V2 => Ev n E i V2 fun iv V3 => O1 (setItm ov iv v V3) fun V4 => Exs (n + 1) E r V4 Q) : Exs (n + 1) E (.assignS o i q e p :: r) V Q := by
 obtain ⟨v, V1, h1, ov, V2, h2, iv, V3, h3, V4, h4, h⟩ := h
 refine ex_run ?_ h
 refine (?_ : ((lvO n).ev E e V).bind (fun t => ((lvO n).ev E o t.2).bind fun u => ((lvO n).ev E i u.2).bind fun w => (setItm u.1 w.1 t.1 w.2).bind fun s => some (AF.next, s)) = _)
 rw [h1]; show ((lvO n).ev E o V1).bind _ = _; rw [h2]; show ((lvO n).ev E i V2).bind _ = _; rw [h3]; show (setItm ov iv v V3).bind _ = _; rw [h4]; rfl
theorem ex_augS {o i : Ex} (h : Ev n E o V fun ov V1 => Ev n E i V1 fun iv V2 => ∃ a, item ov iv V2 = some (.int a) /\ Ev n E e V2 fun v V3 => ∃ b w V4, v = .int b /\ binI .Add a b = some w /\ setItm ov iv w V3 = some V4 /\ Exs (n + 1) E r V4 Q) : Exs (n + 1) E (.augS o i q .Add e p :: r) V Q := by
 obtain ⟨ov, V1, h1, iv, V2, h2, a, h3, v, V3, h4, b, w, V4, rfl, h5, h6, h⟩ := h
 refine ex_run ?_ h
 have e1 : exec1 (lvO n) E (.augS o i q .Add e p) V = ((lvO n).ev E o V).bind (fun t => ((lvO n).ev E i t.2).bind fun u => (item t.1 u.1 u.2).bind fun old => ((lvO n).ev E e u.2).bind fun w => match Operator.Add, old, w.1 with
  | .Add, .int a, .int b => (binI .Add a b).bind fun y => (setItm t.1 u.1 y w.2).bind fun s => some (AF.next, s)
  | _, _, _ => none) := rfl
 rw [e1, h1]; show ((lvO n).ev E i V1).bind _ = _; rw [h2]; show (item ov iv V2).bind _ = _; rw [h3]; show ((lvO n).ev E e V2).bind _ = _; rw [h4]
 refine (?_ : (binI .Add a b).bind _ = _)
 rw [h5]; show (setItm ov iv w V3).bind _ = _; rw [h6]; rfl
theorem ex_if {c : Ex} {b o : List Sm} (h : Ev n E c V fun v V1 => O1 (truth v) fun t => Exs n E (if t then b else o) V1 fun f V2 => Go f (Exs (n + 1) E r V2 Q) (Q f V2)) : Exs (n + 1) E (.ifS c b o p :: r) V Q := by
 obtain ⟨v, V1, h1, t, h2, f, V2, h3, h⟩ := h
 have e1 : exec1 (lvO n) E (.ifS c b o p) V = ((lvO n).ev E c V).bind (fun x => (truth x.1).bind fun t => if t then (lvO n).ex E b x.2 else (lvO n).ex E o x.2) := rfl
 rw [h1] at e1
 have e1 : exec1 (lvO n) E (.ifS c b o p) V = (truth v).bind fun t => if t then (lvO n).ex E b V1 else (lvO n).ex E o V1 := e1
 rw [h2] at e1
 have e1 : exec1 (lvO n) E (.ifS c b o p) V = some (f, V2) := by cases t <;> exact e1.trans h3
 induction f with
 | next => exact ex_run e1 h
 | brk =>
  refine ⟨_, V2, ?_, h⟩
  refine (?_ : (exec1 (lvO n) E _ V).bind (fun x => match x.1 with | .next => stepEx (lvO n) E r x.2 | f => some (f, x.2)) = _)
  refine rwR e1 ?_
  rfl
 | ret w =>
  refine ⟨_, V2, ?_, h⟩
  refine (?_ : (exec1 (lvO n) E _ V).bind (fun x => match x.1 with | .next => stepEx (lvO n) E r x.2 | f => some (f, x.2)) = _)
  refine rwR e1 ?_
  rfl
theorem ex_expr (hc : callLike e = true) (h : Ev n E e V fun v V1 => v = .none /\ Exs (n + 1) E r V1 Q) : Exs (n + 1) E (.expr e p :: r) V Q := by
 obtain ⟨v, V1, h1, rfl, h⟩ := h
 refine ex_run ?_ h
 refine (?_ : (if callLike e = true then ((lvO n).ev E e V).bind (fun t => match t.1 with | .none => some (AF.next, t.2) | _ => none) else none) = _)
 refine rwR (if_pos hc) ?_
 refine rwR h1 ?_
 rfl
theorem ex_for {tp : Option Pos} {it : Ex} {b o : List Sm} (h : Ev n E it V fun v V1 => ∃ j V2 f V3, aiter v V1 = some (j, V2) /\ loopFor (lvO n) E tg tp b o j 1000 V2 = some (f, V3) /\ Go f (Exs (n + 1) E r V3 Q) (Q f V3)) : Exs (n + 1) E (.forS tg tp it b o p :: r) V Q := by
 obtain ⟨v, V1, h1, j, V2, f, V3, h2, h3, h⟩ := h
 have e1 : exec1 (lvO n) E (.forS tg tp it b o p) V = some (f, V3) := by
  refine (?_ : ((lvO n).ev E it V).bind (fun t => (aiter t.1 t.2).bind fun u => loopFor (lvO n) E tg tp b o u.1 1000 u.2) = _)
  rw [h1]; show (aiter v V1).bind _ = _; rw [h2]; exact h3
 induction f with
 | next => exact ex_run e1 h
 | brk =>
  refine ⟨_, V3, ?_, h⟩
  refine (?_ : (exec1 (lvO n) E _ V).bind (fun x => match x.1 with | .next => stepEx (lvO n) E r x.2 | f => some (f, x.2)) = _)
  refine rwR e1 ?_
  rfl
 | ret w =>
  refine ⟨_, V3, ?_, h⟩
  refine (?_ : (exec1 (lvO n) E _ V).bind (fun x => match x.1 with | .next => stepEx (lvO n) E r x.2 | f => some (f, x.2)) = _)
  refine rwR e1 ?_
  rfl
end
end
section
noncomputable def plain : AO -> Bool
 | .ns _ => false
 | .cell _ => false
 | _ => true
noncomputable def Pl (V V' : Sg) : Prop := V.length <= V'.length /\ ∀ (j : Nat) (o : AO), plain o = true -> V[j]? = some o -> V'[j]? = some o
theorem Pl.refl (V : Sg) : Pl V V := ⟨Nat.le_refl _, fun _ _ _ h => h⟩
theorem Pl.trans (h : Pl V V') (k : Pl V' V'') : Pl V V'' := ⟨Nat.le_trans h.1 k.1, fun j o hp e => k.2 j o hp (h.2 j o hp e)⟩
theorem Keep.pl (k : Keep V V') : Pl V V' := ⟨k.1, fun _ _ _ e => k.get e⟩
theorem getN_loc {x : Nat} {r : Option AV} (h1 : look x E.sc = some .loc) (h2 : V[E.loc]? = some (.ns m)) (h3 : look x m = r) : getN E x V = r := by
 delta getN
 refine rwR h1 ?_
 refine (?_ : (match V[E.loc]? with | some (.ns m) => look x m | _ => none) = r)
 refine rwR h2 ?_
 exact h3
theorem getN_cel {x : Nat} {r : Option AV} (h1 : look x E.sc = some .cel \/ look x E.sc = some .fre) (h2 : look x E.cells = some c) (h3 : V[c]? = some (.cell r)) : getN E x V = r := by
 delta getN
 have e : (match look x E.cells with | some c => (match V[c]? with | some (.cell v) => v | _ => none) | none => none) = r := by
  rw [h2]
  refine (?_ : (match V[c]? with | some (.cell v) => v | _ => none) = r)
  exact rwR h3 rfl
 rcases h1 with h1 | h1
 ·refine rwR h1 ?_
  exact e
 ·refine rwR h1 ?_
  exact e
theorem getN_glo {x : Nat} (h1 : look x E.sc = some .glo) : getN E x V = glob x := by delta getN; rw [h1]
theorem getN_to {x : Nat} (h : getN E x V = some v) (kl : ∀ m, look x E.sc = some .loc -> V[E.loc]? = some (.ns m) -> look x m = some v -> ∃ m', V'[E.loc]? = some (.ns m') /\ look x m' = some v)
  (kc : ∀ c, (look x E.sc = some .cel \/ look x E.sc = some .fre) -> look x E.cells = some c -> V[c]? = some (.cell (some v)) -> V'[c]? = some (.cell (some v))) : getN E x V' = some v :=
 getE h (fun m h1 h2 h3 => (kl m h1 h2 h3).elim fun _ z => getN_loc h1 z.1 z.2) (fun c k h1 h2 h3 h4 => have q := h2.imp (fun e => e ▸ h1) fun e => e ▸ h1
  getN_cel q h3 (kc c q h3 h4)) fun h1 h2 => (getN_glo h1).trans h2
theorem getN_same {x : Nat} (h : getN E x V = some v) (k : ∀ (j : Nat) (o : AO), plain o = false -> V[j]? = some o -> V'[j]? = some o) : getN E x V' = some v :=
 getN_to h (fun m _ e q => ⟨m, k _ _ rfl e, q⟩) fun c _ _ e => k _ _ rfl e
theorem getN_keep (k : Keep V V') {x : Nat} (h : getN E x V = some v) : getN E x V' = some v := getN_same h fun _ _ _ e => k.get e
structure S (V0 : Sg) (E : AE) (V : Sg) (m : List (Nat × AV)) (D : List (Nat × AO)) : Prop where
 top : Top V0
 keep : Keep V0 V
 loc : V0.length <= E.loc
 ns : ∃ b, V[E.loc]? = some (.ns b)
 cel : ∀ x, look x E.sc = some .cel -> ∃ c b, look x E.cells = some c /\ V[c]? = some (.cell b) /\ V0.length <= c
 inj : ∀ x y c, look x E.sc = some .cel -> look y E.sc = some .cel -> look x E.cells = some c -> look y E.cells = some c -> x = y
 fre : ∀ x c, look x E.sc = some .fre -> look x E.cells = some c -> c < V0.length
 get : ∀ x v, look x m = some v -> getN E x V = some v
 dat : ∀ j o, (j, o) ∈ D -> V[j]? = some o /\ plain o = true
variable {V0 V V' : Sg} {E : AE} {m : List (Nat × AV)} {D : List (Nat × AO)}
theorem S.topN (h : S V0 E V m D) : Top V := h.top.keep h.keep
theorem S.to (h : S V0 E V m D) (k : Keep V V') : S V0 E V' m D where
 top := h.top
 keep := h.keep.trans k
 loc := h.loc
 ns := by obtain ⟨b, e⟩ := h.ns; exact ⟨b, k.get e⟩
 cel := fun x hx => by obtain ⟨c, b, h1, h2, h3⟩ := h.cel x hx; exact ⟨c, b, h1, k.get h2, h3⟩
 inj := h.inj
 fre := h.fre
 get := fun x v hv => getN_keep k (h.get x v hv)
 dat := fun j o hm => ⟨k.get (h.dat j o hm).1, (h.dat j o hm).2⟩
theorem S.add (h : S V0 E V m D) {j : Nat} {o : AO} (ho : V[j]? = some o) (hp : plain o = true) : S V0 E V m ((j, o) :: D) :=
 {h with dat := fun i o' hm => (List.mem_cons.mp hm).elim (fun e => by cases e; exact ⟨ho, hp⟩) (fun e => h.dat i o' e) }
theorem S.new (h : S V0 E V m D) (o : AO) (hp : plain o = true) : S V0 E (V ++ [o]) m ((V.length, o) :: D) :=
 (h.to (Keep.app V [o])).add (by simp) hp
theorem S.base (h : S V0 E V m D) {j : Nat} {o : AO} (ho : V0[j]? = some o) : V[j]? = some o := h.keep.get ho
theorem S.at_ (h : S V0 E V m D) {j : Nat} {o : AO} (ho : (j, o) ∈ D) : V[j]? = some o := (h.dat j o ho).1
theorem S.noD (h : S V0 E V m D) : S V0 E V m [] := { h with dat := fun _ _ hm => (by cases hm) }
theorem S.noM (h : S V0 E V m D) : S V0 E V [] D := { h with get := fun _ _ hm => (by cases hm) }
theorem S.less (h : S V0 E V m D) (hm : ∀ x v, look x m' = some v -> look x m = some v) : S V0 E V m' D := { h with get := fun x v e => h.get x v (hm x v e) }
noncomputable def Pf (E : AE) (V V' : Sg) : Prop := V'.length = V.length /\ ∀ j : Nat, j ≠ E.loc -> (∀ x, look x E.sc = some .cel -> look x E.cells ≠ some j) -> V'[j]? = V[j]?
theorem Pf.trans (h : Pf E V V') (k : Pf E V' V'') : Pf E V V'' := ⟨k.1.trans h.1, fun j h1 h2 => (k.2 j h1 h2).trans (h.2 j h1 h2)⟩
theorem set_cases {j : Nat} {o x : AO} (ho : V[i]? = some o) (e : V[j]? = some x) (k1 : x = o -> (V.set i o')[j]? = some o' -> G) (k2 : (V.set i o')[j]? = some x -> G) : G := by
 by_cases q : j = i
 ·subst q; exact k1 (uq e ho) (List.getElem?_set_self (lt_of_get ho))
 ·exact k2 ((List.getElem?_set_ne fun e => q e.symm).trans e)
theorem set_far {j : Nat} {o x : AO} (ho : V[i]? = some o) (e : V[j]? = some x) (k : x ≠ o) : (V.set i o')[j]? = some x := set_cases ho e (fun q _ => absurd q k) id
theorem S.chg (h : S V0 E V m D) {o : AO} (ho : V[i]? = some o) (hi : V0.length <= i) (hn : ∀ b, .ns b = o -> ∃ b', o' = .ns b') (hc : ∀ b, .cell b = o -> ∃ b', o' = .cell b') (hD : ∀ j o2, (j, o2) ∈ D -> j ≠ i)
  (hg : ∀ y w, look y m' = some w -> getN E y (V.set i o') = some w) : S V0 E (V.set i o') m' D where
 top := h.top
 keep := ⟨rwR List.length_set h.keep.1, fun j hj => (List.getElem?_set_ne (Nat.ne_of_gt (Nat.lt_of_lt_of_le hj hi))).trans (h.keep.2 j hj)⟩
 loc := h.loc
 ns := h.ns.elim fun b e => set_cases ho e (fun q e' => (hn b q).elim fun b' z => ⟨b', z ▸ e'⟩) fun e' => ⟨b, e'⟩
 cel := fun y hy => e5 (h.cel y hy) fun c b h1 h2 h3 => set_cases ho h2 (fun q e' => (hc b q).elim fun b' z => ⟨c, b', h1, z ▸ e', h3⟩) fun e' => ⟨c, b, h1, e', h3⟩
 inj := h.inj
 fre := h.fre
 get := hg
 dat := fun j o2 hm => ⟨(List.getElem?_set_ne fun e => hD j o2 hm e.symm).trans (h.dat j o2 hm).1, (h.dat j o2 hm).2⟩
theorem pf_ne {o x : AO} (h : plain o = false) (k : plain x = true) : x ≠ o := fun e => ftE (h.symm.trans (e ▸ k))
theorem lookC {α : Type} {x y : Nat} {v w : α} {m : List (Nat × α)} (h : look y ((x, v) :: m) = some w) (k1 : x = y -> v = w -> G) (k2 : x ≠ y -> look y m = some w -> G) : G := by
 have h : (if x = y then some v else look y m) = some w := h
 exact iteC h (fun q e => k1 q (Option.some.inj e)) k2
theorem S.setO (h : S V0 E V m D) {o : AO} (ho : V[i]? = some o) (hi : V0.length <= i) (hp : plain o = false) (hn : ∀ b, .ns b = o -> ∃ b', o' = .ns b') (hc : ∀ b, .cell b = o -> ∃ b', o' = .cell b') (hg : ∀ y w, look y m' = some w -> getN E y (V.set i o') = some w) (hf : i = E.loc \/ ∃ x, look x E.sc = some .cel /\ look x E.cells = some i) :
  S V0 E (V.set i o') m' D /\ Pl V (V.set i o') /\ Pf E V (V.set i o') :=
 ⟨h.chg ho hi hn hc (fun j o2 hm e => pf_ne hp (h.dat j o2 hm).2 (uq (h.dat j o2 hm).1 (e ▸ ho))) hg, ⟨rwR List.length_set (Nat.le_refl _), fun j o2 q e => set_far ho e (pf_ne hp q)⟩, List.length_set, fun j h1 h2 => List.getElem?_set_ne fun e => hf.elim (fun q => h1 (e.symm.trans q)) fun q => q.elim fun x q => h2 x q.1 (q.2.trans (congrArg some e))⟩
theorem nsI {a b : List (Nat × AV)} (h : AO.ns a = .ns b) : a = b := by injection h
theorem S.set (h : S V0 E V m D) {x : Nat} (hx : look x E.sc = some .loc \/ look x E.sc = some .cel) (v : AV) :
  ∃ V', setN E x v V = some V' /\ S V0 E V' ((x, v) :: m) D /\ Pl V V' /\ Pf E V V' := by
 refine e2 h.ns fun b hb => ?_
 have hll := lt_of_get hb
 refine hx.elim (fun hx => ⟨_, ?_, h.setO (o' := .ns (put x v b)) hb h.loc rfl (fun _ _ => ⟨_, rfl⟩) (fun _ q => nomatch q) (fun y w hy => ?_) (.inl rfl)⟩) fun hx => e5 (h.cel x hx) fun c b' h1 h2 h3 => ⟨_, ?_, h.setO (o' := .cell (some v)) h2 h3 rfl (fun _ q => nomatch q) (fun _ _ => ⟨_, rfl⟩) (fun y w hy => ?_) (.inr ⟨x, hx, h1⟩)⟩
 ·delta setN; rw [hx]
  refine (?_ : (match V[E.loc]? with | some (.ns m) => upd E.loc (.ns (put x v m)) V | _ => none) = _)
  refine rwR hb ?_
  exact if_pos ⟨Nat.le_trans h.top.len h.loc, hll⟩
 ·refine lookC hy (fun q e => ?_) fun q e => ?_
  ·subst q
   exact getN_loc hx (List.getElem?_set_self hll) ((look_put x x v b).trans ((if_pos rfl).trans (congrArg some e)))
  ·exact getN_to (h.get y w e) (fun m2 _ e2 e3 => ⟨_, List.getElem?_set_self hll, (look_put x y v b).trans ((if_neg fun q' => q q'.symm).trans (nsI (uq e2 hb) ▸ e3))⟩) fun c _ _ e => set_far hb e nofun
 ·delta setN; rw [hx]
  refine (?_ : (match look x E.cells with | some c => (match V[c]? with | some (.cell _) => upd c (.cell (some v)) V | _ => none) | none => none) = _)
  refine rwR h1 ?_
  refine (?_ : (match V[c]? with | some (.cell _) => upd c (.cell (some v)) V | _ => none) = _)
  refine rwR h2 ?_
  exact if_pos ⟨Nat.le_trans h.top.len h3, lt_of_get h2⟩
 ·refine lookC hy (fun q e => ?_) fun q e => ?_
  ·subst q
   exact getN_cel (.inl hx) h1 (e ▸ List.getElem?_set_self (lt_of_get h2))
  ·refine getN_to (h.get y w e) (fun m2 _ e2 e3 => ⟨m2, set_far h2 e2 nofun, e3⟩) fun c' k e1 e2 => (List.getElem?_set_ne fun q2 => ?_).trans e2
   subst q2
   exact k.elim (fun k => q (h.inj x y _ hx k h1 e1)) fun k => absurd (h.fre y _ k e1) (Nat.not_lt.mpr h3)
theorem get_new (V : Sg) (o : AO) : (V ++ [o])[V.length]? = some o := by simp
theorem noD0 {j : Nat} : ∀ (i : Nat) (o : AO), (i, o) ∈ ([] : List (Nat × AO)) -> i ≠ j := fun _ _ h => absurd h List.not_mem_nil
theorem S.updP (h : S V0 E V m D) {j : Nat} {o : AO} (hj : V[j]? = some o) (hp : plain o = true) (h0 : V0.length <= j) (hD : ∀ i o2, (i, o2) ∈ D -> i ≠ j) : S V0 E (V.set j o') m D :=
 h.chg hj h0 (fun b e => ftE (hp ▸ congrArg plain e)) (fun b e => ftE (hp ▸ congrArg plain e)) hD fun y w e => getN_same (h.get y w e) fun i x q e => set_far hj e fun r => ftE (q.symm.trans (r ▸ hp))
end
section
theorem look_self {α : Type} {k : Nat} {v : α} {r : List (Nat × α)} : look k ((k, v) :: r) = some v := if_pos rfl
theorem look_eq {α : Type} {k x : Nat} {v : α} {r : List (Nat × α)} (h : x = k) : look x ((k, v) :: r) = some v := if_pos h.symm
theorem look_ne {α : Type} {k x : Nat} {v : α} {r : List (Nat × α)} (h : x ≠ k) : look x ((k, v) :: r) = look x r := if_neg fun e => h e.symm
theorem look_none {α : Type} {x : Nat} {m : List (Nat × α)} (h : x ∉ m.map (·.1)) : look x m = none := by
 induction m with
 | nil => rfl
 | cons p r ih => exact (look_ne (v := p.2) fun e => h (List.mem_cons.mpr (.inl e))).trans (ih fun e => h (List.mem_cons_of_mem _ e))
theorem look_app {α : Type} {x : Nat} {b a : List (Nat × α)} (h : look x a = none) : look x (a ++ b) = look x b := by
 induction a with
 | nil => rfl
 | cons p r ih =>
  by_cases q : x = p.1
  ·exact someN ((look_eq (v := p.2) (r := r) q).symm.trans h)
  ·exact (look_ne (v := p.2) q).trans (ih ((look_ne (v := p.2) q).symm.trans h))
theorem look_app_some {α : Type} {x : Nat} {v : α} {b a : List (Nat × α)} (h : look x a = some v) : look x (a ++ b) = some v := by
 induction a with
 | nil => exact noneS h
 | cons p r ih =>
  by_cases q : x = p.1
  ·exact (look_eq (v := p.2) (r := r ++ b) q).trans ((look_eq (v := p.2) (r := r) q).symm.trans h)
  ·exact (look_ne (v := p.2) q).trans (ih ((look_ne (v := p.2) q).symm.trans h))
theorem layCells_spec (sc : List (Nat × NK)) : ∀ (acc : List (Nat × Nat)) (V : Sg), (sc.map (·.1)).Nodup ->
  Keep V (layCells sc acc V).2 /\ (∀ x, look x sc = some .cel -> ∃ c, look x (layCells sc acc V).1 = some c /\ (layCells sc acc V).2[c]? = some (.cell none) /\ V.length <= c) /\ (∀ x, look x sc ≠ some .cel -> look x (layCells sc acc V).1 = look x acc) /\
  (∀ x y c, look x sc = some .cel -> look y sc = some .cel -> look x (layCells sc acc V).1 = some c -> look y (layCells sc acc V).1 = some c -> x = y) := by
 induction sc with
 | nil => exact fun acc V _ => ⟨Keep.refl V, fun x h => noneS h, fun x _ => rfl, fun x y c h => noneS h⟩
 | cons p r ih =>
  intro acc V hn
  have hn2 : p.1 ∉ r.map (·.1) /\ (r.map (·.1)).Nodup := List.nodup_cons.mp hn
  have hk : look p.1 r = none := look_none hn2.1
  rcases p with ⟨k, kd⟩
  have no : look k r ≠ some NK.cel := fun e => noneS (hk.symm.trans e)
  have other : ∀ L, L = layCells r acc V -> kd ≠ .cel -> Keep V L.2 /\ (∀ x, look x ((k, kd) :: r) = some .cel -> ∃ c, look x L.1 = some c /\ L.2[c]? = some (.cell none) /\ V.length <= c) /\ (∀ x, look x ((k, kd) :: r) ≠ some .cel -> look x L.1 = look x acc) /\ (∀ x y c, look x ((k, kd) :: r) = some .cel -> look y ((k, kd) :: r) = some .cel -> look x L.1 = some c -> look y L.1 = some c -> x = y) := fun L e hc => by
   subst e
   have lk : ∀ x, look x ((k, kd) :: r) = some .cel -> look x r = some .cel := fun x e => by
    by_cases q : x = k
    ·exact absurd (Option.some.inj ((look_eq q).symm.trans e)) hc
    ·exact (look_ne q).symm.trans e
   have kl : ∀ x, look x r = some .cel -> look x ((k, kd) :: r) = some .cel := fun x e => (look_ne fun q : x = k => no (q ▸ e)).trans e
   exact e4 (ih acc V hn2.2) fun h1 h2 h3 h4 => ⟨h1, fun x hx => h2 x (lk x hx), fun x hx => h3 x fun e => hx (kl x e), fun x y c hx hy => h4 x y c (lk x hx) (lk y hy)⟩
  induction kd with
  | cel =>
   clear other
   refine e4 (ih ((k, V.length) :: acc) (V ++ [.cell none]) hn2.2) fun h1 h2 h3 h4 => ?_
   have la : ∀ c, (V ++ [AO.cell none]).length <= c -> V.length < c := fun c h => Nat.lt_of_succ_le (Nat.le_trans (Nat.le_of_eq (List.length_append (as := V) (bs := [AO.cell none])).symm) h)
   refine (?_ : Keep V (layCells r ((k, V.length) :: acc) (V ++ [.cell none])).2 /\ (∀ x, _ -> ∃ c, look x (layCells r ((k, V.length) :: acc) (V ++ [.cell none])).1 = some c /\ (layCells r ((k, V.length) :: acc) (V ++ [.cell none])).2[c]? = _ /\ _) /\ (∀ x, _ -> look x (layCells r ((k, V.length) :: acc) (V ++ [.cell none])).1 = look x acc) /\ ∀ x y c, _ -> _ -> look x (layCells r ((k, V.length) :: acc) (V ++ [.cell none])).1 = some c -> look y (layCells r ((k, V.length) :: acc) (V ++ [.cell none])).1 = some c -> _)
   generalize layCells r ((k, V.length) :: acc) (V ++ [.cell none]) = L at h1 h2 h3 h4
   have kk : look k L.1 = some V.length := (h3 k no).trans look_self
   have far : ∀ x c, x ≠ k -> look x ((k, NK.cel) :: r) = some .cel -> look x L.1 = some c -> c ≠ V.length := fun x c q hx e => (h2 x ((look_ne q).symm.trans hx)).elim fun c' z => uq z.1 e ▸ Nat.ne_of_gt (la _ z.2.2)
   refine i4 ((Keep.app V _).trans h1) (fun x hx => ?_) (fun x hx => ?_) (fun x y c hx hy hcx hcy => ?_)
   ·by_cases q : x = k
    ·exact i4 _ (q ▸ kk) (h1.get (get_new _ _)) (Nat.le_refl _)
    ·exact (h2 x ((look_ne q).symm.trans hx)).elim fun c z => ⟨c, z.1, z.2.1, Nat.le_of_lt (la _ z.2.2)⟩
   ·have q : x ≠ k := fun q => hx (look_eq q)
    exact (h3 x fun e => hx ((look_ne q).trans e)).trans (look_ne q)
   ·by_cases q : x = k
    ·by_cases q' : y = k
     ·exact q.trans q'.symm
     ·exact absurd (uq hcx (q ▸ kk)) (far y c q' hy hcy)
    ·by_cases q' : y = k
     ·exact absurd (uq hcy (q' ▸ kk)) (far x c q hx hcx)
     ·exact h4 x y c ((look_ne q).symm.trans hx) ((look_ne q').symm.trans hy) hcx hcy
  | _ => exact other _ rfl (fun e => nomatch e)
theorem closes_spec (sc : List (Nat × NK)) : (sc.map (·.1)).Nodup -> (∀ x, look x sc = some .fre -> (look x E.cells).isSome = true) ->
  ∃ cl, closes E sc = some cl /\ (∀ x, look x sc = some .fre -> look x cl.reverse = look x E.cells) /\ (∀ x, look x sc ≠ some .fre -> look x cl.reverse = none) := by
 induction sc with
 | nil => exact fun _ _ => ⟨[], rfl, fun x h => noneS h, fun x _ => rfl⟩
 | cons p r ih =>
  intro hn hs
  have hn2 : p.1 ∉ r.map (·.1) /\ (r.map (·.1)).Nodup := List.nodup_cons.mp hn
  have hk : look p.1 r = none := look_none hn2.1
  rcases p with ⟨k, kd⟩
  have no : look k r ≠ some NK.fre := fun e => noneS (hk.symm.trans e)
  have up : ∀ x, look x r = some .fre -> look x ((k, kd) :: r) = some .fre := fun x e => (look_ne fun q : x = k => no (q ▸ e)).trans e
  refine e4 (ih hn2.2 fun x hx => hs x (up x hx)) fun cl h1 h2 h3 => ?_
  have other : closes E ((k, kd) :: r) = closes E r -> kd ≠ .fre -> ∃ cl, closes E ((k, kd) :: r) = some cl /\ (∀ x, look x ((k, kd) :: r) = some .fre -> look x cl.reverse = look x E.cells) /\ (∀ x, look x ((k, kd) :: r) ≠ some .fre -> look x cl.reverse = none) := fun e hc => ⟨cl, e.trans h1, fun x e => h2 x (by
    by_cases q : x = k
    ·exact absurd (Option.some.inj ((look_eq q).symm.trans e)) hc
    ·exact (look_ne q).symm.trans e), fun x hx => h3 x fun e => hx (up x e)⟩
  induction kd with
  | fre =>
   refine (Option.isSome_iff_exists.mp (hs k look_self)).elim fun c h5 => ⟨(k, c) :: cl, ?_, fun x hx => ?_, fun x hx => ?_⟩
   ·refine (?_ : (look k E.cells).bind (fun a => (closes E r).bind fun b => some ((k, a) :: b)) = _)
    refine rwR h5 ?_
    refine rwR h1 ?_
    rfl
   ·refine rwR List.reverse_cons ?_
    by_cases q : x = k
    ·exact q ▸ (look_app (h3 k no)).trans (look_self.trans h5.symm)
    ·have e := h2 x ((look_ne q).symm.trans hx)
     exact (Option.isSome_iff_exists.mp (hs x hx)).elim fun c' h6 => (look_app_some (e.trans h6)).trans h6.symm
   ·have q : x ≠ k := fun q => hx (look_eq q)
    exact rwR List.reverse_cons ((look_app (h3 x fun e => hx ((look_ne q).trans e))).trans (look_ne q))
  | _ => exact other rfl (fun e => nomatch e)
theorem bindAll_S (bs : List (Nat × AV)) : ∀ {V : Sg} {m : List (Nat × AV)}, S V0 E V m D -> (∀ p, p ∈ bs -> look p.1 E.sc = some .loc \/ look p.1 E.sc = some .cel) -> ∃ V', bindAll E bs V = some V' /\ S V0 E V' (bs.reverse ++ m) D /\ Pl V V' := by
 induction bs with
 | nil => exact fun h _ => ⟨_, rfl, h, Pl.refl _⟩
 | cons p r ih =>
  intro V m h hb
  refine e5 (h.set (hb _ List.mem_cons_self) p.2) fun V1 h1 h2 h3 _ => ?_
  refine e4 (ih h2 fun p hp => hb p (List.mem_cons_of_mem _ hp)) fun V2 h4 h5 h6 => ⟨V2, ?_, ?_, h3.trans h6⟩
  ·refine (?_ : (setN E p.1 p.2 V).bind (fun s => bindAll E r s) = _)
   refine rwR h1 ?_
   exact h4
  ·refine rwR List.reverse_cons ?_
   rw [List.append_assoc]
   exact h5
theorem S.start {q : Str} {tab : Option Nat} (T : Top V) (Vb : Sg) (hb : Keep V Vb) (hn : (sc.map (·.1)).Nodup)
  (hcl : ∀ x c, look x sc = some .fre -> look x cl = some c -> c < V.length)
  (hfr : ∀ x v, look x fr = some v -> look x sc = some .fre /\ ∃ c, look x cl = some c /\ V[c]? = some (.cell (some v))) :
  S V ⟨sc, Vb.length, (layCells sc cl (Vb ++ [.ns []])).1, q, tab⟩ (layCells sc cl (Vb ++ [.ns []])).2 fr [] := by
 refine e4 (layCells_spec sc cl (Vb ++ [.ns []]) hn) fun h1 h2 h3 h4 => ?_
 generalize layCells sc cl (Vb ++ [.ns []]) = L at h1 h2 h3 h4
 have k0 : Keep V L.2 := (hb.trans (Keep.app _ _)).trans h1
 have nf : ∀ {x}, look x sc = some .fre -> look x sc ≠ some .cel := fun e q => nomatch e.symm.trans q
 exact { top := T, keep := k0, loc := hb.1, ns := ⟨[], h1.get (get_new _ _)⟩, inj := h4, dat := fun _ _ h => absurd h List.not_mem_nil, cel := fun x hx => e4 (h2 x hx) fun c a1 a2 a3 => ⟨c, none, a1, a2, Nat.le_trans hb.1 (Nat.le_trans (Keep.app _ _).1 a3)⟩, fre := fun x c hx hc => hcl x c hx ((h3 x (nf hx)).symm.trans hc), get := fun x v hx => (hfr x v hx).elim fun hx1 z => z.elim fun c z => getN_cel (.inr hx1) ((h3 x (nf hx1)).trans z.1) (k0.get z.2) }
noncomputable abbrev fiE (fi : FI) (l : Nat) (cells : List (Nat × Nat)) : AE := ⟨fi.sc, l, cells, fi.qual, fi.tab⟩
noncomputable def FinQ (Q : AV -> Sg -> Prop) (f : AF) (V : Sg) : Prop := match f with
 | .ret v => Q v V
 | .next => Q .none V
 | .brk => False
noncomputable def kindOk (sc : List (Nat × NK)) (x : Nat) : Bool := decide (look x sc = some .loc \/ look x sc = some .cel)
theorem kindOk_or {x : Nat} (h : kindOk sc x = true) : look x sc = some .loc \/ look x sc = some .cel := of_decide_eq_true h
noncomputable def fiOk (fi : FI) (k : Nat) : Bool := fi.kwp.isNone && !fi.dfl && fi.ps.length == k && decide ((fi.ps.map (·.1)).Nodup) && decide ((fi.sc.map (·.1)).Nodup) && fi.ps.all (fun p => kindOk fi.sc p.1)
theorem cl_start {j : Nat} {at_ : Option Nat} (T : Top V) (hf : V[j]? = some (.func fi cl at_)) (hok : fiOk fi args.length = true) 
  (hcl : ∀ x c, look x fi.sc = some .fre -> look x cl = some c -> c < V.length)
  (hfr : ∀ x v, look x fr = some v -> look x fi.sc = some .fre /\ ∃ c, look x cl = some c /\ V[c]? = some (.cell (some v))) :
  ∃ l cells V1, S V (fiE fi l cells) V1 (((fi.ps.map (·.1)).zip args).reverse ++ fr) [] /\
   (lvO (n + 1)).cl (.ref j) args [] V = match fi.body with
    | .stmts b => ((lvO n).ex (fiE fi l cells) b V1).bind fun x => match x.1 with
     | .ret v => some (v, x.2)
     | .next => some (.none, x.2)
     | .brk => none
    | .expr e => (lvO n).ev (fiE fi l cells) e V1 := by
 unfold fiOk at hok
 simp only [Bool.and_eq_true, beq_iff_eq, decide_eq_true_eq, Bool.not_eq_true'] at hok
 have hb : bindsA fi args [] V = some ((fi.ps.map (·.1)).zip args, V) := by
  unfold bindsA
  refine rwR (Option.isNone_iff_eq_none.mp hok.1.1.1.1.1) ?_
  exact if_pos (by simp [hok.1.1.1.1.2, hok.1.1.1.2, hok.1.1.2])
 refine e4 (bindAll_S ((fi.ps.map (·.1)).zip args) (S.start (q := fi.qual) (tab := fi.tab) T V (Keep.refl V) hok.1.2 hcl hfr) fun p hp =>
  (List.mem_map.mp (List.of_mem_zip hp).1).elim fun p' z => z.2 ▸ kindOk_or (List.all_eq_true.mp hok.2 p' z.1)) fun V1 h1 h2 h3 => ⟨_, _, V1, h2, (lvO_fn hf).trans ?_⟩
 refine (?_ : (match V[j]? with | some (.func fi cl _) => _ | some .cls => _ | _ => none) = _)
 refine rwR hf ?_
 refine (?_ : (bindsA fi args [] V).bind _ = _)
 refine rwR hb ?_
 refine (?_ : (bindAll ⟨fi.sc, V.length, (layCells fi.sc cl (V ++ [.ns []])).1, fi.qual, fi.tab⟩ ((fi.ps.map (·.1)).zip args) (layCells fi.sc cl (V ++ [.ns []])).2).bind _ = _)
 refine rwR h1 ?_
 rfl
theorem cl_stmts {j : Nat} {at_ : Option Nat} {b : List Sm} (T : Top V) (hf : V[j]? = some (.func fi cl at_)) (hok : fiOk fi args.length = true) (hb : fi.body = .stmts b) 
  (hcl : ∀ x c, look x fi.sc = some .fre -> look x cl = some c -> c < V.length)
  (hfr : ∀ x v, look x fr = some v -> look x fi.sc = some .fre /\ ∃ c, look x cl = some c /\ V[c]? = some (.cell (some v)))
  (h : ∀ l cells V1, S V (fiE fi l cells) V1 (((fi.ps.map (·.1)).zip args).reverse ++ fr) [] -> Exs n (fiE fi l cells) b V1 (FinQ Q)) : Cl (n + 1) (.ref j) args V Q := by
 refine e5 (cl_start (n := n) T hf hok hcl hfr) fun l cells V1 h1 h2 => ?_
 refine e4 (h l cells V1 h1).out fun f V2 h3 q => ?_
 rw [hb] at h2
 have h2 : _ = ((lvO n).ex (fiE fi l cells) b V1).bind _ := h2
 rw [h3] at h2
 induction f with
 | ret v => exact ⟨v, V2, h2, q⟩
 | next => exact ⟨.none, V2, h2, q⟩
 | brk => exact q.elim
theorem cl_expr {j : Nat} {at_ : Option Nat} (T : Top V) (hf : V[j]? = some (.func fi cl at_)) (hok : fiOk fi args.length = true) (hb : fi.body = .expr e) 
  (hcl : ∀ x c, look x fi.sc = some .fre -> look x cl = some c -> c < V.length)
  (hfr : ∀ x v, look x fr = some v -> look x fi.sc = some .fre /\ ∃ c, look x cl = some c /\ V[c]? = some (.cell (some v)))
  (h : ∀ l cells V1, S V (fiE fi l cells) V1 (((fi.ps.map (·.1)).zip args).reverse ++ fr) [] -> Ev n (fiE fi l cells) e V1 Q) : Cl (n + 1) (.ref j) args V Q := by
 refine e5 (cl_start (n := n) T hf hok hcl hfr) fun l cells V1 h1 h2 => ?_
 rw [hb] at h2
 exact e4 (h l cells V1 h1).out fun v V2 h3 q => ⟨v, V2, h2.trans h3, q⟩
theorem cl_top {j : Nat} {at_ : Option Nat} {b : List Sm} (T : Top V) (hf : V[j]? = some (.func fi [] at_)) (hok : fiOk fi args.length = true) (hb : fi.body = .stmts b)
  (h : ∀ l cells V1, S V (fiE fi l cells) V1 ((fi.ps.map (·.1)).zip args).reverse [] -> Exs n (fiE fi l cells) b V1 (FinQ Q)) : Cl (n + 1) (.ref j) args V Q :=
 cl_stmts (fr := []) T hf hok hb (fun _ _ _ h => noneS h) (fun _ _ h => noneS h) fun l cells V1 hS => h l cells V1 (by rw [List.append_nil] at hS; exact hS)
noncomputable def Base (V1 : Sg) (j : Nat) (o : AO) : Prop := V1[j]? = some o
noncomputable def isItr : AO -> Bool
 | .liter _ _ => true
 | .titer _ _ => true
 | .riter _ _ => true
 | .siter _ _ => true
 | .kiter _ _ _ _ => true
 | .dead => true
 | _ => false
noncomputable def isData : AO -> Bool
 | .list _ => true
 | .tuple _ => true
 | .dict _ _ => true
 | _ => false
noncomputable def Itr (P : Nat -> AO -> Prop) : AO -> List AV -> Prop
 | .liter l i, xs => ∃ zs, P l (.list zs) /\ zs.drop i = xs
 | .titer l i, xs => ∃ zs, P l (.tuple zs) /\ zs.drop i = xs
 | .riter x left, xs => xs = (List.range left.toNat).map fun k : Nat => .int (x + k)
 | .siter s i, xs => xs = (s.cps.toList.drop i).map fun c => .str ⟨#[c]⟩
 | .kiter d i n ep, xs => ∃ kvs, P d (.dict kvs (some ep)) /\ kvs.length = n /\ (kvs.drop i).map (fun kv => .str kv.1) = xs
 | _, _ => False
theorem Itr.isItr {P : Nat -> AO -> Prop} {o : AO} (h : Itr P o xs) : isItr o = true := by
 induction o <;> first | rfl | exact h.elim
theorem upd_ok {o : AO} (h : 21 <= it) (hl : it < V.length) : upd it o V = some (V.set it o) := if_pos ⟨h, hl⟩
theorem drop_cons {α : Type} {zs : List α} {x : α} {xs : List α} (h : zs.drop i = x :: xs) : zs[i]? = some x /\ zs.drop (i + 1) = xs := by
 have h1 : (zs.drop i)[0]? = some x := by rw [h]; rfl
 rw [List.getElem?_drop] at h1
 refine ⟨h1, ?_⟩
 have : (zs.drop i).drop 1 = xs := by rw [h]; rfl
 rw [List.drop_drop] at this
 exact this
section
variable {P : Nat -> AO -> Prop} {V : Sg} {o : AO} {it : Nat} (k : ∀ (j : Nat) (o : AO), P j o -> V[j]? = some o) (h21 : 21 <= it)
include k h21
noncomputable def nx (o : AO) (it : Nat) (V : Sg) : Option (Option AV × Sg) := match o with
 | .liter l i => (match V[l]? with
  | some (.list xs) => (match xs[i]? with
   | some x => (upd it (.liter l (i + 1)) V).map (some x, ·)
   | none => (upd it .dead V).map (none, ·))
  | _ => none)
 | .titer l i => (match V[l]? with
  | some (.tuple xs) => (match xs[i]? with
   | some x => (upd it (.titer l (i + 1)) V).map (some x, ·)
   | none => (upd it .dead V).map (none, ·))
  | _ => none)
 | .riter x left => if 0 < left then (upd it (.riter (x + 1) (left - 1)) V).map (some (.int x), ·) else (upd it .dead V).map (none, ·)
 | .siter s i => (match s.cps[i]? with
  | some c => (upd it (.siter s (i + 1)) V).map (some (.str ⟨#[c]⟩), ·)
  | none => (upd it .dead V).map (none, ·))
 | .kiter d i n ep => (match V[d]? with
  | some (.dict kvs ep') => if ep' = some ep /\ kvs.length = n then (match kvs[i]? with
    | some kv => (upd it (.kiter d (i + 1) n ep) V).map (some (.str kv.1), ·)
    | none => (upd it .dead V).map (none, ·))
   else none
  | _ => none)
 | _ => none
omit k h21 in
theorem anext_nx {r : Option (Option AV × Sg)} (hi : V[it]? = some o) (h : nx o it V = r) : anext it V = r := by
 delta anext
 refine rwR hi ?_
 induction o <;> exact h
theorem upS (hl : it < V.length) : (upd it o' V).map (some x, ·) = some (some x, V.set it o') := congrArg _ (upd_ok h21 hl)
theorem upN (hl : it < V.length) : (upd it .dead V).map ((none : Option AV), ·) = some (none, V.set it .dead) := congrArg _ (upd_ok h21 hl)
theorem nxL (e : V[l]? = some (.list zs)) {r : Option (Option AV × Sg)} (q : (match zs[i]? with | some x => (upd it (.liter l (i + 1)) V).map (some x, ·) | none => (upd it .dead V).map (none, ·)) = r) : nx (.liter l i) it V = r := by
 refine (?_ : (match V[l]? with | some (.list xs) => _ | _ => none) = r)
 refine rwR e ?_
 exact q
theorem nxT (e : V[l]? = some (.tuple zs)) {r : Option (Option AV × Sg)} (q : (match zs[i]? with | some x => (upd it (.titer l (i + 1)) V).map (some x, ·) | none => (upd it .dead V).map (none, ·)) = r) : nx (.titer l i) it V = r := by
 refine (?_ : (match V[l]? with | some (.tuple xs) => _ | _ => none) = r)
 refine rwR e ?_
 exact q
theorem nxK {ep : Nat} {kvs : List (Str × AV)} (e : V[d]? = some (.dict kvs (some ep))) (hn : kvs.length = n) {r : Option (Option AV × Sg)} (q : (match kvs[i]? with | some kv => (upd it (.kiter d (i + 1) n ep) V).map (some (.str kv.1), ·) | none => (upd it .dead V).map (none, ·)) = r) : nx (.kiter d i n ep) it V = r := by
 refine (?_ : (match V[d]? with | some (.dict kvs ep') => _ | _ => none) = r)
 refine rwR e ?_
 exact (if_pos ⟨rfl, hn⟩).trans q
theorem Itr.next (h : Itr P o (x :: xs)) (hi : V[it]? = some o) : ∃ o', anext it V = some (some x, V.set it o') /\ Itr P o' xs := by
 have hl := lt_of_get hi
 suffices q : ∃ o', nx o it V = some (some x, V.set it o') /\ Itr P o' xs from q.elim fun o' z => ⟨o', anext_nx hi z.1, z.2⟩
 clear hi
 induction o with
 | liter l i => exact e3 h fun zs h1 h2 => (drop_cons h2).elim fun h3 h4 => ⟨.liter l (i + 1), nxL k h21 (k _ _ h1) (by rw [h3]; exact upS k h21 hl), zs, h1, h4⟩
 | titer l i => exact e3 h fun zs h1 h2 => (drop_cons h2).elim fun h3 h4 => ⟨.titer l (i + 1), nxT k h21 (k _ _ h1) (by rw [h3]; exact upS k h21 hl), zs, h1, h4⟩
 | riter y left =>
  have h : x :: xs = (List.range left.toNat).map fun k : Nat => AV.int (y + k) := h
  have hp : 0 < left := by
   by_cases q : 0 < left
   ·exact q
   ·rw [Int.toNat_of_nonpos (Int.not_lt.mp q)] at h; exact nomatch h
  rw [show left.toNat = (left - 1).toNat + 1 by lia, List.range_succ_eq_map, List.map_cons, List.map_map] at h
  refine (List.cons.inj h).elim fun z1 z2 => ?_
  subst z1
  subst z2
  refine i3 (.riter (y + 1) (left - 1)) ((if_pos hp).trans ((upS k h21 hl).trans ?_)) (List.map_congr_left fun k _ => ?_)
  ·rw [show AV.int (y + (0 : Nat)) = AV.int y from congrArg AV.int (Int.add_zero y)]
  ·exact congrArg AV.int (by lia : y + ((k + 1 : Nat) : Int) = y + 1 + k)
 | siter s i =>
  have h : x :: xs = (s.cps.toList.drop i).map fun c => AV.str ⟨#[c]⟩ := h
  rcases hd : s.cps.toList.drop i with _ | ⟨c, cs⟩
  ·rw [hd] at h; exact nomatch h
  ·rw [hd] at h
   refine (List.cons.inj h).elim fun z1 z2 => (drop_cons hd).elim fun h3 h4 => ?_
   subst z1
   subst z2
   rw [Array.getElem?_toList] at h3
   refine i3 (.siter s (i + 1)) ?_ ((congrArg _ h4).symm)
   refine (?_ : (match s.cps[i]? with | some c => _ | none => _) = _)
   refine rwR h3 ?_
   exact upS k h21 hl
 | kiter d i n ep =>
  refine e4 h fun kvs h1 h2 h3 => ?_
  rcases hd : kvs.drop i with _ | ⟨kv, r⟩
  ·rw [hd] at h3; exact nomatch h3
  ·rw [hd] at h3
   refine (List.cons.inj h3).elim fun z1 z2 => (drop_cons hd).elim fun h4 h5 => ?_
   subst z1
   subst z2
   exact ⟨.kiter d (i + 1) n ep, nxK k h21 (k _ _ h1) h2 (by rw [h4]; exact upS k h21 hl), kvs, h1, h2, congrArg _ h5⟩
 | _ => exact h.elim
omit k h21 in
theorem drop_nil {α : Type} {zs : List α} (h : zs.drop i = []) : zs[i]? = none := List.getElem?_eq_none (List.drop_eq_nil_iff.mp h)
theorem Itr.done (h : Itr P o []) (hi : V[it]? = some o) : anext it V = some (none, V.set it .dead) := by
 have hl := lt_of_get hi
 refine anext_nx hi ?_
 clear hi
 induction o with
 | liter l i => exact e3 h fun zs h1 h2 => nxL k h21 (k _ _ h1) (by rw [drop_nil h2]; exact upN k h21 hl)
 | titer l i => exact e3 h fun zs h1 h2 => nxT k h21 (k _ _ h1) (by rw [drop_nil h2]; exact upN k h21 hl)
 | riter y left =>
  have h : [] = (List.range left.toNat).map fun k : Nat => AV.int (y + k) := h
  have e : left.toNat = 0 := (List.length_range (n := left.toNat)).symm.trans (congrArg List.length (List.map_eq_nil_iff.mp h.symm))
  exact (if_neg fun q => by lia).trans (upN k h21 hl)
 | siter s i =>
  have h : [] = (s.cps.toList.drop i).map fun c => AV.str ⟨#[c]⟩ := h
  have h := drop_nil (List.map_eq_nil_iff.mp h.symm)
  rw [Array.getElem?_toList] at h
  refine (?_ : (match s.cps[i]? with | some c => _ | none => _) = _)
  refine rwR h ?_
  exact upN k h21 hl
 | kiter d i n ep => exact e4 h fun kvs h1 h2 h3 => nxK k h21 (k _ _ h1) h2 (by rw [drop_nil (List.map_eq_nil_iff.mp h3)]; exact upN k h21 hl)
 | _ => exact h.elim
end
theorem aiter_list (h : V[l]? = some (.list xs)) : aiter (.ref l) V = some (V.length, V ++ [.liter l 0]) /\ Itr (Base V) (.liter l 0) xs := by
 refine ⟨?_, xs, h, rfl⟩
 unfold aiter; dsimp only; rw [h]; rfl
theorem aiter_range {P : Nat -> AO -> Prop} {a b : Int} (h : V[l]? = some (.rng a b)) (ha : small a = true) (hb : small b = true) : aiter (.ref l) V = some (V.length, V ++ [.riter a (if a < b then b - a else 0)]) /\ Itr P (.riter a (if a < b then b - a else 0)) ((List.range (b - a).toNat).map fun k : Nat => .int (a + k)) := by
 refine ⟨?_, ?_⟩
 ·unfold aiter; dsimp only; rw [h]; dsimp only; rw [if_pos ⟨ha, hb⟩]; rfl
 ·refine (?_ : _ = _)
  by_cases q : a < b
  ·rw [if_pos q]
  ·rw [if_neg q, show (b - a).toNat = 0 by lia]; rfl
theorem aiter_str {P : Nat -> AO -> Prop} {s : Str} (h : s.cps.all (· < 128) = true) : aiter (.str s) V = some (V.length, V ++ [.siter s 0]) /\ Itr P (.siter s 0) (s.cps.toList.map fun c => .str ⟨#[c]⟩) := by
 refine ⟨?_, rfl⟩
 unfold aiter; dsimp only; rw [if_pos h]; rfl
theorem aiter_dict {kvs : List (Str × AV)} {ep : Nat} (h : V[d]? = some (.dict kvs (some ep))) (hd : 21 <= d) : aiter (.ref d) V = some (V.length, V ++ [.kiter d 0 kvs.length ep]) /\ Itr (Base V) (.kiter d 0 kvs.length ep) (kvs.map fun kv => .str kv.1) := by
 refine ⟨?_, kvs, h, rfl, rfl⟩
 unfold aiter; dsimp only; rw [h]; dsimp only; rw [if_pos (show nTop <= d from hd)]; rfl
end
section
inductive F2 {α β : Type} (R : α -> β -> Prop) : List α -> List β -> Prop
 | nil : F2 R [] []
 | cons {a : α} {b : β} {l : List α} {k : List β} : R a b -> F2 R l k -> F2 R (a :: l) (b :: k)
inductive Rsl where
 | val (v : AV)
 | obj (o : AO)
noncomputable def Is (V : Sg) (lo : Nat) (y : AV) : Rsl -> Prop
 | .val v => y = v
 | .obj o => ∃ j, y = .ref j /\ lo <= j /\ V[j]? = some o /\ isData o = true
noncomputable def Px (a : Nat) (V V' : Sg) : Prop := V.length <= V'.length /\ ∀ (j : Nat) (o : AO), isData o = true -> j ≠ a -> V[j]? = some o -> V'[j]? = some o
theorem Px.trans (h : Px a V V') (k : Px a V' V'') : Px a V V'' := ⟨Nat.le_trans h.1 k.1, fun j o hp hj e => k.2 j o hp hj (h.2 j o hp hj e)⟩
theorem data_plain {o : AO} (h : isData o = true) : plain o = true := by induction o <;> first | rfl | exact ftE h
theorem iter_plain {o : AO} (h : isItr o = true) : plain o = true := by induction o <;> first | rfl | exact ftE h
theorem data_itr {o : AO} (h : isData o = true) : isItr o = false := by induction o <;> first | rfl | exact ftE h
theorem itr_ne {o x : AO} (h : isItr o = true) (k : isItr x = false) : x ≠ o := fun e => ftE (k.symm.trans (e ▸ h))
theorem iteF {A B : Prop} (h : if false = true then A else B) : B := h
theorem iteT {A B : Prop} (h : if true = true then A else B) : A := h
theorem Pl.px (h : Pl V V') : Px a V V' := ⟨h.1, fun j o hp _ e => h.2 j o (data_plain hp) e⟩
theorem Px.is (h : Px a V V') (hlo : a < lo) {y : AV} {r : Rsl} (e : Is V lo y r) : Is V' lo y r := by
 induction r with
 | val v => exact e
 | obj o => exact e5 e fun j e1 e2 e3 e4 => ⟨j, e1, e2, h.2 j o e4 (Nat.ne_of_gt (Nat.lt_of_lt_of_le hlo e2)) e3, e4⟩
theorem Px.setIter {o : AO} (hi : V[it]? = some o) (ho : isItr o = true) : Px a V (V.set it o') := ⟨rwR List.length_set (Nat.le_refl _), fun j o2 hd _ e => set_far hi e (itr_ne ho (data_itr hd))⟩
theorem Px.setAcc : Px a V (V.set a o') := ⟨rwR List.length_set (Nat.le_refl _), fun j o2 hd hj e => (List.getElem?_set_ne fun q => hj q.symm).trans e⟩
theorem forall2_imp {α β : Type} {R R' : α -> β -> Prop} (h : ∀ a b, R a b -> R' a b) {xs : List α} {ys : List β} (k : F2 R xs ys) : F2 R' xs ys := by
 induction k with
 | nil => exact .nil
 | cons a _ ih => exact .cons (h _ _ a) ih
theorem forall2_app {α β : Type} {R : α -> β -> Prop} {xs' : List α} {ys' : List β} (k : F2 R xs' ys') {xs : List α} {ys : List β} (h : F2 R xs ys) : F2 R (xs ++ xs') (ys ++ ys') := by
 induction h with
 | nil => exact k
 | cons a _ ih => exact .cons a ih
theorem forall2_len {α β : Type} {R : α -> β -> Prop} {xs : List α} {ys : List β} (h : F2 R xs ys) : xs.length = ys.length := by
 induction h with
 | nil => rfl
 | cons a _ ih => exact congrArg (· + 1) ih
theorem F2.unc {α β : Type} {R : α -> β -> Prop} {xs : List α} {b : β} {k : List β} (h : F2 R xs (b :: k)) : ∃ a l, xs = a :: l /\ R a b /\ F2 R l k := by
 generalize e : b :: k = ys at h
 induction h with
 | nil => exact nomatch e
 | cons a h _ => exact ⟨_, _, rfl, (List.cons.inj e).1 ▸ a, (List.cons.inj e).2 ▸ h⟩
theorem F2.unn {α β : Type} {R : α -> β -> Prop} {xs : List α} (h : F2 R xs []) : xs = [] := List.length_eq_zero_iff.mp (forall2_len h)
noncomputable def PB (a b : Nat) (V V' : Sg) : Prop := V.length <= V'.length /\ ∀ (j : Nat) (o : AO), plain o = true -> j ≠ a -> j ≠ b -> V[j]? = some o -> V'[j]? = some o
theorem PB.trans (h : PB a b V V') (k : PB a b V' V'') : PB a b V V'' := ⟨Nat.le_trans h.1 k.1, fun j o p x y e => k.2 j o p x y (h.2 j o p x y e)⟩
theorem Pl.pb (h : Pl V V') : PB a b V V' := ⟨h.1, fun j o p _ _ e => h.2 j o p e⟩
theorem PB.seta {o : AO} : PB a b V (V.set a o) := ⟨rwR List.length_set (Nat.le_refl _), fun j o p x _ e => (List.getElem?_set_ne fun q => x q.symm).trans e⟩
theorem PB.setb {o : AO} : PB a b V (V.set b o) := ⟨rwR List.length_set (Nat.le_refl _), fun j o p _ x e => (List.getElem?_set_ne fun q => x q.symm).trans e⟩
noncomputable def BodyC (n : Nat) (E : AE) (tg : List (Nat × Pos)) (tp : Option Pos) (cond : List Ex) (elt : Ex) (V1 : Sg) (m0 : List (Nat × AV)) (lo : Nat) (f : AV -> Option Rsl) (x : AV) : Prop :=
 ∀ V, S V1 E V m0 [] -> lo <= V.length -> ∃ Va, assignTo E tg tp x V = some Va /\ Cds n E cond Va fun c Vc =>
  if c then Ev n E elt Vc fun y Ve => ∃ r, f x = some r /\ Is Ve lo y r /\ S V1 E Ve m0 [] /\ Pl V Ve
  else f x = none /\ S V1 E Vc m0 [] /\ Pl V Vc
theorem pushL_ok {y : AV} (h : V[acc]? = some (.list ys)) (hl : ys.length <= 100000) (h21 : 21 <= acc) : pushL acc y V = some (V.set acc (.list (ys ++ [y]))) := by
 refine (?_ : (match V[acc]? with | some (.list xs) => if xs.length <= 100000 then upd acc (.list (xs ++ [y])) V else none | _ => none) = _)
 refine rwR h ?_
 exact (if_pos hl).trans (upd_ok h21 (lt_of_get h))
section
variable {n : Nat} {E : AE} {elt : Ex} {tg : List (Nat × Pos)} {tp : Option Pos} {cond : List Ex} {acc it lo : Nat} {V1 : Sg} {m0 : List (Nat × AV)} {P : Nat -> AO -> Prop} {f : AV -> Option Rsl}
theorem lc_nil {R : Rec} {k : Nat} (h : anext it V = some (none, V')) : loopComp R E elt tg tp cond acc it (k + 1) V = some V' := by
 refine (?_ : (anext it V).bind _ = _)
 refine rwR h ?_
 rfl
theorem lc_step {R : Rec} {k : Nat} {Va Vc : Sg} {c : Bool} (h1 : anext it V = some (some x, V0)) (h2 : assignTo E tg tp x V0 = some Va) (h3 : conds R E cond Va = some (c, Vc)) :
  loopComp R E elt tg tp cond acc it (k + 1) V = if c then (R.ev E elt Vc).bind (fun y => (pushL acc y.1 y.2).bind fun s => loopComp R E elt tg tp cond acc it k s) else loopComp R E elt tg tp cond acc it k Vc := by
 refine (?_ : (anext it V).bind _ = _)
 refine rwR h1 ?_
 refine (?_ : (assignTo E tg tp x V0).bind _ = _)
 refine rwR h2 ?_
 refine (?_ : (conds R E cond Va).bind _ = _)
 refine rwR h3 ?_
 rfl
theorem lc_push {R : Rec} {k : Nat} {Vc Ve Vf : Sg} {y : AV} {r : Option Sg} (h : R.ev E elt Vc = some (y, Ve)) (hp : pushL acc y Ve = some Vf) (g : loopComp R E elt tg tp cond acc it k Vf = r) :
  (R.ev E elt Vc).bind (fun y => (pushL acc y.1 y.2).bind fun s => loopComp R E elt tg tp cond acc it k s) = r := by
 refine rwR h ?_
 refine (?_ : (pushL acc y Ve).bind _ = _)
 refine rwR hp ?_
 exact g
theorem loopComp_run (hb : V1.length <= acc) (hlo : acc < lo) (hit : V1.length <= it) (hP : ∀ (j : Nat) (o : AO), P j o -> isData o = true -> j ≠ acc) :
  ∀ (xs : List AV) (k : Nat) (V : Sg) (ys : List AV) (rs : List Rsl) (o : AO), xs.length < k -> (∀ x, x ∈ xs -> BodyC n E tg tp cond elt V1 m0 lo f x) -> S V1 E V m0 [] -> V[it]? = some o -> Itr (fun j o => P j o /\ isData o = true) o xs -> (∀ (j : Nat) (o : AO), P j o -> isData o = true -> V[j]? = some o) ->
   V[acc]? = some (.list ys) -> lo <= V.length -> F2 (Is V lo) ys rs -> ys.length + xs.length <= 10000 ->
   ∃ V' ys', loopComp (lvO n) E elt tg tp cond acc it k V = some V' /\ S V1 E V' m0 [] /\ V'[acc]? = some (.list ys') /\ F2 (Is V' lo) ys' (rs ++ xs.filterMap f) /\ Px acc V V' /\ ys'.length <= ys.length + xs.length /\ PB acc it V V' := by
 intro xs
 induction xs with
 | nil =>
  intro k V ys rs o hk H hS hi hI hPs ha hlen hF hn
  rcases k with _ | k
  ·exact absurd hk (Nat.not_lt_zero _)
  have hx : Px acc V (V.set it .dead) := Px.setIter hi hI.isItr
  exact i9 (V.set it .dead) ys (lc_nil (hI.done (fun j o h => hPs j o h.1 h.2) (Nat.le_trans hS.top.len hit) hi)) (hS.updP hi (iter_plain hI.isItr) hit noD0) (set_far hi ha (itr_ne hI.isItr rfl))
   (rwR (List.append_nil rs) (forall2_imp (fun a b e => hx.is hlo e) hF) : F2 (Is _ lo) ys (rs ++ [])) hx (Nat.le_refl _) PB.setb
 | cons x xs ih =>
  intro k V ys rs o hk H hS hi hI hPs ha hlen hF hn
  rcases k with _ | k
  ·exact absurd hk (Nat.not_lt_zero _)
  refine e3 (hI.next (fun j o h => hPs j o h.1 h.2) (Nat.le_trans hS.top.len hit) hi) fun o' h1 hI' => ?_
  have hx1 : Px acc V (V.set it o') := Px.setIter hi hI.isItr
  have ha1 : (V.set it o')[acc]? = some (.list ys) := set_far hi ha (itr_ne hI.isItr rfl)
  have hi1 : (V.set it o')[it]? = some o' := List.getElem?_set_self (lt_of_get hi)
  have hlen1 : lo <= (V.set it o').length := rwR List.length_set hlen
  refine e3 (H x List.mem_cons_self _ (hS.updP hi (iter_plain hI.isItr) hit noD0) hlen1) fun Va h2 hc => e4 hc.out fun c Vc h3 h4 => ?_
  have hn : ys.length + (xs.length + 1) <= 10000 := hn
  rcases c with _ | _
  ·refine e3 (iteF h4) fun hf hS2 hpl => ?_
   have hx2 := hx1.trans (a := acc) hpl.px
   refine e9 (ih k Vc ys rs o' (Nat.lt_of_succ_lt_succ hk) (fun y hy => H y (List.mem_cons_of_mem _ hy)) hS2 (hpl.2 _ _ (iter_plain hI'.isItr) hi1) hI' (fun j o hp hd => hx2.2 j o hd (hP j o hp hd) (hPs j o hp hd)) (hpl.2 _ _ rfl ha1) (Nat.le_trans hlen1 hpl.1) (forall2_imp (fun a b e => hx2.is hlo e) hF) (Nat.le_of_succ_le hn)) fun V' ys' g1 g2 g3 g4 g5 g6 g7 => ?_
   exact i9 V' ys' ((lc_step h1 h2 h3).trans g1) g2 g3 (rwR (List.filterMap_cons_none hf) g4) (hx2.trans g5) (Nat.le_succ_of_le g6) ((PB.setb.trans hpl.pb).trans g7)
  ·refine e4 (iteT h4).out fun y Ve h5 hr => e5 hr fun r hf his hS2 hpl => ?_
   have ha2 : Ve[acc]? = some (.list ys) := hpl.2 _ _ rfl ha1
   have hx3 : Px acc Ve (Ve.set acc (.list (ys ++ [y]))) := Px.setAcc
   have hx2 := (hx1.trans (a := acc) hpl.px).trans hx3
   have ly : (ys ++ [y]).length = ys.length + 1 := List.length_append
   refine e9 (ih k (Ve.set acc (.list (ys ++ [y]))) (ys ++ [y]) (rs ++ [r]) o' (Nat.lt_of_succ_lt_succ hk) (fun y hy => H y (List.mem_cons_of_mem _ hy)) (hS2.updP ha2 rfl hb noD0) (set_far ha2 (hpl.2 _ _ (iter_plain hI'.isItr) hi1) (itr_ne hI'.isItr rfl).symm) hI' (fun j o hp hd => hx2.2 j o hd (hP j o hp hd) (hPs j o hp hd)) (List.getElem?_set_self (lt_of_get ha2)) (rwR List.length_set (Nat.le_trans hlen1 hpl.1)) (forall2_app (.cons (hx3.is hlo his) .nil) (forall2_imp (fun a b e => hx2.is hlo e) hF)) (by lia)) fun V' ys' g1 g2 g3 g4 g5 g6 g7 => ?_
   exact i9 V' ys' ((lc_step h1 h2 h3).trans (lc_push h5 (pushL_ok ha2 (by lia) (Nat.le_trans hS.top.len hb)) g1)) g2 g3 (rwR (List.filterMap_cons_some hf) (rwR (List.append_cons rs r _) g4)) (hx2.trans g5) (by rw [List.length_cons]; lia) ((PB.setb.trans hpl.pb).trans (PB.seta.trans g7))
theorem look_lessC (hm : look x1 m0 = none) (x : Nat) (w : AV) (e : look x m0 = some w) : look x ((x1, v) :: m0) = some w := (if_neg fun q => noneS (hm.symm.trans (q ▸ e)) : (if x1 = x then some v else look x m0) = look x m0).trans e
theorem BodyC.one (hk : kindOk E.sc x1 = true) (hm : look x1 m0 = none) (h : ∀ Va, S V1 E Va ((x1, v) :: m0) [] -> lo <= Va.length -> Cds n E cond Va fun c Vc => if c then Ev n E elt Vc fun y Ve => ∃ r, f v = some r /\ Is Ve lo y r /\ Keep Va Ve else f v = none /\ Keep Va Vc) : BodyC n E [(x1, q)] none cond elt V1 m0 lo f v := by
 intro V hS hlo
 refine e5 (hS.set (kindOk_or hk) v) fun Va h1 h2 h3 h4 => ⟨Va, h1, ?_⟩
 refine e4 (h Va h2 (h4.1.symm ▸ hlo)).out fun c Vc h5 h6 => ⟨c, Vc, h5, ?_⟩
 rcases c with _ | _
 ·have h6 := iteF h6
  exact i3 h6.1 ((h2.to h6.2).less (look_lessC hm)) (h3.trans h6.2.pl)
 ·exact e4 (iteT h6).out fun y Ve g1 hr => e4 hr fun r g2 g3 g4 => ⟨y, Ve, g1, r, g2, g3, (h2.to g4).less (look_lessC hm), h3.trans g4.pl⟩
end
structure Fre (E : AE) (sc : List (Nat × NK)) (V1 : Sg) (m0 : List (Nat × AV)) : Prop where
 h1 : ∀ x v, look x m0 = some v -> look x sc = some .fre /\ getN E x V1 = some v /\ (look x E.sc = some .cel \/ look x E.sc = some .fre)
 h2 : ∀ x, look x sc = some .fre -> ∃ v, look x m0 = some v
theorem Fre.of (h1 : ∀ p, p ∈ m0 -> look p.1 sc = some .fre /\ getN E p.1 V1 = some p.2 /\ (look p.1 E.sc = some .cel \/ look p.1 E.sc = some .fre)) (h2 : sc.all (fun p => match p.2 with | .fre => (look p.1 m0).isSome | _ => true) = true) : Fre E sc V1 m0 :=
 ⟨fun x v e => h1 _ (look_memL e), fun x e => by
  have := List.all_eq_true.mp h2 _ (look_memL e)
  exact Option.isSome_iff_exists.mp this⟩
theorem compEnv_run (T : Top V1) (hn : (sc.map (·.1)).Nodup) (F : Fre E sc V1 m0) (V : Sg) (hk : Keep V1 V) : ∃ l cells V', compEnv E sc V = some (⟨sc, l, cells, E.q, E.tab⟩, V') /\ S V1 ⟨sc, l, cells, E.q, E.tab⟩ V' m0 [] /\ Keep V V' := by
 have cellOf : ∀ x v, look x m0 = some v -> ∃ c, look x E.cells = some c /\ V1[c]? = some (.cell (some v)) := fun x v e =>
  getE (F.h1 x v e).2.1 (fun m h1 _ _ => (F.h1 x v e).2.2.elim (fun q => nomatch h1.symm.trans q) fun q => nomatch h1.symm.trans q) (fun c k _ _ h3 h4 => ⟨c, h3, h4⟩) fun h1 _ => (F.h1 x v e).2.2.elim (fun q => nomatch h1.symm.trans q) fun q => nomatch h1.symm.trans q
 refine e4 (closes_spec (E := E) sc hn fun x hx => (F.h2 x hx).elim fun v e => (cellOf x v e).elim fun c z => Option.isSome_iff_exists.mpr ⟨c, z.1⟩) fun cl h1 h2 h3 => ?_
 have hS := S.start (cl := cl.reverse) (q := E.q) (tab := E.tab) (fr := m0) T V hk hn (fun x c hx hc => (F.h2 x hx).elim fun v e => (cellOf x v e).elim fun c' z => lt_of_get (uq z.1 ((h2 x hx).symm.trans hc) ▸ z.2))
  (fun x v e => (cellOf x v e).elim fun c' z => ⟨(F.h1 x v e).1, c', (h2 x (F.h1 x v e).1).trans z.1, z.2⟩)
 refine i6 _ _ _ ?_ hS ((Keep.app V _).trans (layCells_spec sc cl.reverse _ hn).1)
 refine (?_ : (closes E sc).bind _ = _)
 refine rwR h1 ?_
 exact if_pos hn
theorem drop_run (h : S V1 E V m []) : ∃ V', dropNs E.loc V = some V' /\ Keep V1 V' /\ Pl V V' := by
 refine h.ns.elim fun b hb => ⟨V.set E.loc .dead, ?_, ⟨rwR List.length_set h.keep.1, fun j hj => (List.getElem?_set_ne (Nat.ne_of_gt (Nat.lt_of_lt_of_le hj h.loc))).trans (h.keep.2 j hj)⟩, ⟨rwR List.length_set (Nat.le_refl _), fun j o hp e => set_far hb e (pf_ne rfl hp)⟩⟩
 refine (?_ : (match V[E.loc]? with | some (.ns _) => upd E.loc .dead V | _ => none) = _)
 refine rwR hb ?_
 exact upd_ok (Nat.le_trans h.top.len h.loc) (lt_of_get hb)
theorem comp_eq {E' : AE} {V2 V3 V4 V5 : Sg} {it : Ex} {tp : Option Pos} {j : Nat} (h1 : (lvO n).ev E it V = some (v, V1)) (h2 : aiter v V1 = some (j, V2)) (e1 : compEnv E sc (V2 ++ [.list []]) = some (E', V3))
  (g1 : loopComp (lvO n) E' elt tg tp cond V2.length j 1000 V3 = some V4) (d1 : dropNs E'.loc V4 = some V5) : (lvO (n + 1)).ev E (.comp elt tg tp it cond sc p) V = some (.ref V2.length, V5) := by
 refine (?_ : ((lvO n).ev E it V).bind (fun r => (aiter r.1 r.2).bind fun t => (compEnv E sc (t.2 ++ [.list []])).bind fun x => (loopComp (lvO n) x.1 elt tg tp cond t.2.length t.1 1000 x.2).bind fun s => (dropNs x.1.loc s).bind fun s => some (AV.ref t.2.length, s)) = _)
 refine rwR h1 ?_
 refine (?_ : (aiter v V1).bind _ = _)
 refine rwR h2 ?_
 refine (?_ : (compEnv E sc (V2 ++ [.list []])).bind _ = _)
 refine rwR e1 ?_
 refine (?_ : (loopComp (lvO n) E' elt tg tp cond V2.length j 1000 V3).bind _ = _)
 refine rwR g1 ?_
 refine (?_ : (dropNs E'.loc V4).bind _ = _)
 refine rwR d1 ?_
 rfl
theorem Itr.mono {P P' : Nat -> AO -> Prop} {o : AO} (h : Itr P o xs) (k : ∀ (j : Nat) (o : AO), isData o = true -> P j o -> P' j o) : Itr P' o xs := by
 induction o with
 | liter l i => exact h.elim fun zs z => ⟨zs, k _ _ rfl z.1, z.2⟩
 | titer l i => exact h.elim fun zs z => ⟨zs, k _ _ rfl z.1, z.2⟩
 | kiter d i n ep => exact h.elim fun zs z => ⟨zs, k _ _ rfl z.1, z.2⟩
 | riter y left => exact h
 | siter s i => exact h
 | _ => exact h.elim
theorem ev_comp {it : Ex} {tp : Option Pos} (hsc : (sc.map (·.1)).Nodup)
  (h : Ev n E it V fun v V1 => ∃ o xs f m0, (aiter v V1 = some (V1.length, V1 ++ [o]) /\ Itr (Base V1) o xs) /\ xs.length < 1000 /\ Top V1 /\ Fre E sc V1 m0 /\
   (∀ l cells lo x, x ∈ xs -> BodyC n ⟨sc, l, cells, E.q, E.tab⟩ tg tp cond elt V1 m0 lo f x) /\
   (∀ acc ys V', Keep V1 V' -> V1.length <= acc -> V'[acc]? = some (.list ys) -> F2 (Is V' (acc + 1)) ys (xs.filterMap f) -> Q (.ref acc) V')) : Ev (n + 1) E (.comp elt tg tp it cond sc p) V Q := by
 refine e4 h.out fun v V1 h1 hq => e10 hq fun o xs f m0 hA hl T F H q => ?_
 have k1 : Keep V1 (V1 ++ [o] ++ [.list []]) := (Keep.app _ _).trans (Keep.app _ _)
 refine e6 (compEnv_run T hsc F _ k1) fun l cells V2 e1 hS k2 => ?_
 have el : (V1 ++ [o]).length = V1.length + 1 := List.length_append
 have lb : V1.length <= (V1 ++ [o]).length := el ▸ Nat.le_succ _
 refine N2.e9 (loopComp_run (lo := (V1 ++ [o]).length + 1) (P := Base V1) (acc := (V1 ++ [o]).length) (it := V1.length) lb (Nat.lt_succ_self _) (Nat.le_refl _) (fun j o hj _ => Nat.ne_of_lt (Nat.lt_of_lt_of_le (lt_of_get hj) lb)) xs 1000 V2 [] [] o hl (fun x hx => H l cells _ x hx) hS (k2.get ((Keep.app (V1 ++ [o]) _).get (get_new _ _))) (hA.2.mono fun j o hd hb => ⟨hb, hd⟩) (fun j o hb _ => (k1.trans k2).get hb) (k2.get (get_new _ _)) (Nat.le_trans (Nat.le_of_eq (List.length_append (bs := [AO.list []])).symm) k2.1) .nil (by rw [List.length_nil]; lia)) fun V3 ys g1 g2 g3 g4 g5 g6 _ => ?_
 exact e4 (drop_run g2) fun V4 d1 d2 d3 => ⟨_, V4, comp_eq h1 hA.1 e1 g1 d1, q _ ys V4 d2 lb (d3.2 _ _ rfl g3) (forall2_imp (fun a b e => (d3.px (a := (V1 ++ [o]).length)).is (Nat.lt_succ_self _) e) g4)⟩
noncomputable def ItAt (P : Nat -> AO -> Prop) (V : Sg) (it : Nat) (xs : List AV) : Prop := ∃ o, V[it]? = some o /\ Itr P o xs /\ ∀ (j : Nat) (o : AO), P j o -> V[j]? = some o
theorem lf_nil {R : Rec} {tp : Option Pos} {b o : List Sm} {k : Nat} (h : anext it V = some (none, V')) : loopFor R E tg tp b o it (k + 1) V = R.ex E o V' := by
 refine (?_ : (anext it V).bind _ = _)
 refine rwR h ?_
 rfl
theorem lf_step {R : Rec} {tp : Option Pos} {b o : List Sm} {k : Nat} {Va : Sg} {f : AF} (h1 : anext it V = some (some x, V0)) (h2 : assignTo E tg tp x V0 = some Va) (h3 : R.ex E b Va = some (f, Vb)) :
  loopFor R E tg tp b o it (k + 1) V = match (generalizing := false) f with
    | .next => loopFor R E tg tp b o it k Vb
    | .brk => some (.next, Vb)
    | .ret v => some (.ret v, Vb) := by
 refine (?_ : (anext it V).bind _ = _)
 refine rwR h1 ?_
 refine (?_ : (assignTo E tg tp x V0).bind _ = _)
 refine rwR h2 ?_
 refine (?_ : (R.ex E b Va).bind _ = _)
 refine rwR h3 ?_
 rfl
theorem loopFor_run {tp : Option Pos} {b o : List Sm} {P : Nat -> AO -> Prop} {Qf : AF -> Sg -> Prop} {K : List AV -> Sg -> Prop} (h21 : 21 <= it)
  (hP : ∀ (j : Nat) (o : AO), P j o -> isItr o = false)
  (hK : ∀ xs V o o', K xs V -> V[it]? = some o -> isItr o = true -> K xs (V.set it o'))
  (step : ∀ x xs V, K (x :: xs) V -> ItAt P V it xs -> ∃ Va, assignTo E tg tp x V = some Va /\ Exs n E b Va fun f V' => match f with
   | .next => K xs V' /\ ItAt P V' it xs
   | .brk => Qf .next V'
   | .ret v => Qf (.ret v) V')
  (fin : ∀ V, K [] V -> Exs n E o V Qf) :
  ∀ (xs : List AV) (k : Nat) (V : Sg), xs.length < k -> K xs V -> ItAt P V it xs -> ∃ f V', loopFor (lvO n) E tg tp b o it k V = some (f, V') /\ Qf f V' := by
 intro xs
 induction xs with
 | nil =>
  intro k V hk hJ hA
  rcases k with _ | k
  ·exact absurd hk (Nat.not_lt_zero _)
  exact e4 hA fun ob hi hI hPs => e4 (fin _ (hK [] V ob .dead hJ hi hI.isItr)).out fun f V' h1 h2 => ⟨f, V', (lf_nil (hI.done hPs h21 hi)).trans h1, h2⟩
 | cons x xs ih =>
  intro k V hk hJ hA
  rcases k with _ | k
  ·exact absurd hk (Nat.not_lt_zero _)
  refine e4 hA fun ob hi hI hPs => e3 (hI.next hPs h21 hi) fun o' h1 hI' => ?_
  refine e3 (step x xs _ (hK _ _ _ o' hJ hi hI.isItr) ⟨o', List.getElem?_set_self (lt_of_get hi), hI', fun j oj hj => set_far hi (hPs j oj hj) (itr_ne hI.isItr (hP _ _ hj))⟩) fun Va h2 hb => e4 hb.out fun f Vb h3 h4 => ?_
  have e1 := lf_step (o := o) (k := k) h1 h2 h3
  rcases f with _ | _ | v
  ·exact e4 (ih k Vb (Nat.lt_of_succ_lt_succ hk) h4.1 h4.2) fun f V' g1 g2 => ⟨f, V', e1.trans g1, g2⟩
  ·exact i4 _ _ e1 h4
  ·exact i4 _ _ e1 h4
end
theorem S.drop1 {x : Nat} (h : S V0 E V ((x, v) :: m) D) (hx : look x m = none) : S V0 E V m D :=
 h.less fun y w e => by
  rw [show look y ((x, v) :: m) = if x = y then some v else look y m from rfl, if_neg (fun q => by subst q; rw [hx] at e; cases e)]; exact e
theorem small_of {i : Int} (h1 : -4611686018427387904 < i) (h2 : i < 4611686018427387904) : small i = true := by
 unfold small; rw [decide_eq_true h1, decide_eq_true h2]; rfl
theorem mkI_of {i : Int} (h1 : -4611686018427387904 < i) (h2 : i < 4611686018427387904) : mkI i = some (.int i) := by
 unfold mkI; rw [if_pos (small_of h1 h2)]
theorem bin_int {op : Operator} {a b : Int} {w : AV} (h : binI op a b = some w) : bin op (.int a) (.int b) V = some (w, V) := by
 show (binI op a b).map (·, V) = _; rw [h]; rfl
theorem binI_mod {a b : Int} (hb : 0 < b) (hs : b < 4611686018427387904) : binI .Mod a b = some (.int (a % b)) := by
 refine (?_ : (if 0 < b then mkI (Int.fmod a b) else none) = _)
 refine rwR (if_pos hb) ?_
 refine rwR (Int.fmod_eq_emod_of_nonneg a (Int.le_of_lt hb)) ?_
 have h1 := Int.emod_nonneg a (show b ≠ 0 by lia)
 have h2 := Int.emod_lt_of_pos a hb
 exact mkI_of (by lia) (by lia)
theorem binI_div {a b : Int} (hb : 0 < b) (hs : b < 4611686018427387904) (h1 : -4611686018427387904 < a / b) (h2 : a / b < 4611686018427387904) : binI .FloorDiv a b = some (.int (a / b)) := by
 refine (?_ : (if 0 < b /\ small b then mkI (Int.fdiv a b) else none) = _)
 refine rwR (if_pos ⟨hb, small_of (Int.lt_trans (by decide) hb) hs⟩) ?_
 refine rwR (Int.fdiv_eq_ediv_of_nonneg a (Int.le_of_lt hb)) ?_
 exact mkI_of h1 h2
theorem binI_add {a b : Int} (h1 : -4611686018427387904 < a + b) (h2 : a + b < 4611686018427387904) : binI .Add a b = some (.int (a + b)) := mkI_of h1 h2
inductive LetP (n : Nat) (E : AE) (x : Nat) (r : List Sm) (Q : AF -> Sg -> Prop) (v : AV) (V1 : Sg) : Prop
 | mk (V0 : Sg) (m : List (Nat × AV)) (D : List (Nat × AO)) (h : S V0 E V1 m D) (k : kindOk E.sc x = true) (q : ∀ V2, S V0 E V2 ((x, v) :: m) D -> Pl V1 V2 -> Exs n E r V2 Q) : LetP n E x r Q v V1
theorem ex_let {x : Nat} {r : List Sm} {Q : AF -> Sg -> Prop} (h : Ev n E e V (LetP (n + 1) E x r Q)) : Exs (n + 1) E (.assign [(x, q)] e p :: r) V Q := by
 refine ex_assign (h.mono fun v V1 h => ?_)
 obtain ⟨V0, m, D, hS, hk, h⟩ := h
 refine e5 (hS.set (kindOk_or hk) v) fun V2 h1 h2 h3 _ => ?_
 exact ⟨V2, h1, h V2 h2 h3⟩
inductive LoopP (n : Nat) (E : AE) (tg : List (Nat × Pos)) (tp : Option Pos) (b r : List Sm) (Q : AF -> Sg -> Prop) (v : AV) (V1 : Sg) : Prop
 | mk (o : AO) (xs : List AV) (P : Nat -> AO -> Prop) (K : List AV -> Sg -> Prop) (hi : aiter v V1 = some (V1.length, V1 ++ [o]) /\ Itr P o xs) (hP : ∀ (j : Nat) (o : AO), P j o -> V1[j]? = some o /\ isItr o = false) (h21 : 21 <= V1.length) (hl : xs.length < 1000) (h0 : K xs (V1 ++ [o]))
   (hK : ∀ xs V o o', K xs V -> V[V1.length]? = some o -> isItr o = true -> K xs (V.set V1.length o'))
   (hb : ∀ x xs V, K (x :: xs) V -> ItAt P V V1.length xs -> ∀ Qb : AF -> Sg -> Prop, (∀ V', K xs V' -> ItAt P V' V1.length xs -> Qb .next V') -> (∀ V', Exs (n + 1) E r V' Q -> Qb .brk V') -> (∀ v V', Q (.ret v) V' -> Qb (.ret v) V') -> O1 (assignTo E tg tp x V) fun Va => Exs n E b Va Qb)
   (he : ∀ V, K [] V -> Exs (n + 1) E r V Q) : LoopP n E tg tp b r Q v V1
theorem ex_loop {tp : Option Pos} {it : Ex} {b r : List Sm} {Q : AF -> Sg -> Prop} (h : Ev n E it V (LoopP n E tg tp b r Q)) (hn : 0 < n) : Exs (n + 1) E (.forS tg tp it b [] p :: r) V Q := by
 obtain ⟨v, V1, h1, o, xs, P, K, ⟨h2, h3⟩, h4, h5, h6, h7, h8, h9, h10⟩ := h
 obtain ⟨n', rfl⟩ : ∃ n', n = n' + 1 := ⟨n - 1, (Nat.sub_add_cancel hn).symm⟩
 obtain ⟨f, V2, g1, g2⟩ := loopFor_run (Qf := fun f V' => Go f (Exs (n' + 1 + 1) E r V' Q) (Q f V')) h5 (fun j o hp => (h4 j o hp).2) h8 (fun x xs V hk ha => by
  obtain ⟨Va, a1, a2⟩ := h9 x xs V hk ha (fun f V' => match f with
   | .next => K xs V' /\ ItAt P V' V1.length xs
   | .brk => Exs (n' + 1 + 1) E r V' Q
   | .ret v => Q (.ret v) V') (fun _ a b => ⟨a, b⟩) (fun _ h => h) (fun _ _ h => h)
  refine i3 Va a1 (a2.mono fun f V' hf => ?_)
  rcases f <;> exact hf) (fun V hk => ex_nil (h10 V hk)) xs 1000 (V1 ++ [o]) h6 h7 ⟨o, get_new _ _, h3, fun j o hp => (Keep.app _ _).get (h4 j o hp).1⟩
 exact ex_for ⟨v, V1, h1, _, _, f, V2, h2, g1, g2⟩
theorem assign_one {x : Nat} {A : Sg -> Prop} (hS : S V0 E V m D) (hk : kindOk E.sc x = true) (h : ∀ Va, S V0 E Va ((x, v) :: m) D -> Pl V Va -> A Va) : O1 (assignTo E [(x, q)] none v V) A := by
 refine e5 (hS.set (kindOk_or hk) v) fun V2 h1 h2 h3 _ => ?_
 exact ⟨V2, h1, h V2 h2 h3⟩
theorem ItAt.pl {P : Nat -> AO -> Prop} (h : ItAt P V it xs) (k : Pl V V') (hp : ∀ (j : Nat) (o : AO), P j o -> plain o = true) : ItAt P V' it xs := by
 refine e4 h fun o h1 h2 h3 => ?_
 exact i4 o (k.2 _ _ (iter_plain h2.isItr) h1) h2 (fun j o hj => k.2 _ _ (hp j o hj) (h3 j o hj))
theorem cl_bi {b : BI} (h : callB b args V = some (v, V')) (q : Q v V') : Cl (n + 1) (.bi b) args V Q := ⟨v, V', h, q⟩
theorem len_list (h : V[l]? = some (.list xs)) (hl : xs.length <= 100000) : callB .len [.ref l] V = some (.int xs.length, V) := by
 refine (?_ : (match V[l]? with | some (.list xs) => if xs.length <= 100000 then some (AV.int xs.length, V) else none | some (.tuple xs) => if xs.length <= 100000 then some (AV.int xs.length, V) else none | _ => none) = _)
 rw [h]; dsimp only; rw [if_pos hl]
theorem len_tuple (h : V[l]? = some (.tuple xs)) (hl : xs.length <= 100000) : callB .len [.ref l] V = some (.int xs.length, V) := by
 refine (?_ : (match V[l]? with | some (.list xs) => if xs.length <= 100000 then some (AV.int xs.length, V) else none | some (.tuple xs) => if xs.length <= 100000 then some (AV.int xs.length, V) else none | _ => none) = _)
 rw [h]; dsimp only; rw [if_pos hl]
theorem range_one {b : Int} (hb : small b = true) : callB .range [.int b] V = some (.ref V.length, V ++ [.rng 0 b]) := by
 exact if_pos hb
theorem range_two {a b : Int} (ha : small a = true) (hb : small b = true) : callB .range [.int a, .int b] V = some (.ref V.length, V ++ [.rng a b]) := by
 exact if_pos (by rw [ha, hb]; rfl)
theorem item_list {k : Int} (h : V[l]? = some (.list xs)) (h0 : 0 <= k) (hk : k < 4611686018427387904) (hv : xs[k.toNat]? = some v) : item (.ref l) (.int k) V = some v := by
 have hlt := (List.getElem?_eq_some_iff.mp hv).1
 unfold item; dsimp only; rw [h]; dsimp only
 refine rwR (if_pos ⟨small_of (Int.lt_of_lt_of_le (by decide) h0) hk, by lia, by lia⟩) ?_
 unfold idx
 refine rwR (if_neg (Int.not_lt.mpr h0)) ?_
 exact hv
theorem set_list {k : Int} (h : V[l]? = some (.list xs)) (h0 : 0 <= k) (hk : k < 4611686018427387904) (hlt : k.toNat < xs.length) (h21 : 21 <= l) : setItm (.ref l) (.int k) v V = some (V.set l (.list (xs.set k.toNat v))) := by
 unfold setItm; dsimp only; rw [h]; dsimp only
 refine rwR (if_pos ⟨small_of (Int.lt_of_lt_of_le (by decide) h0) hk, h0, by lia⟩) ?_
 exact rwR (upd_ok h21 (lt_of_get h)) rfl
theorem fn_at (T : Top V) {k : Nat} {o : AO} (hk : k < 20) (h : sgL[k]? = some o) : V[k]? = some o := (T.at_ k hk).trans h
theorem numbers_sum {xs : List Int} (T : Top V) (hl : V[l]? = some (.list (xs.map .int))) (hx : xs.length <= 63) :
  Cl 48 (.ref 4) [.ref l] V fun v V' => Keep V V' /\ ∃ (j : Nat) (vs : List Int), v = .ref j /\ V'[j]? = some (.list (vs.map .int)) /\ vs.length = 5 /\ ∀ i ∈ vs, 0 <= i /\ i <= 100000000 := by
 refine cl_top T (fn_at T (k := 4) (by decide) rfl) (by rfl) rfl fun lo cells V1 hS => ?_
 unfold f_law_numbers_b
 repeat first
  | refine ev_int (by rfl) ?_
  | refine ev_list (by decide) ?_
  | refine evs_cons ?_
  | refine evs_nil ?_
  | refine ex_let ?_
 refine ⟨_, _, _, hS.to (Keep.app V1 _), rfl, fun V2 hS2 p2 => ?_⟩
 have hj : V2[V1.length]? = some (.list ([2, 9, 13, 5, 17].map .int)) := p2.2 _ _ rfl (get_new _ _)
 have hj0 : V.length <= V1.length := hS.keep.1
 generalize V1.length = j at hj hj0 hS2
 repeat first
  | refine ev_glo (by rfl) (by rfl) ?_
  | refine ev_name (S.get (by assumption) _ _ (by rfl)) ?_
  | refine ev_call ?_
  | refine evs_cons ?_
  | refine evs_nil ?_
  | refine ex_loop ?_ (by decide)
 refine cl_bi (len_list (hS2.base hl) (by rw [List.length_map]; lia)) ?_
 repeat first
  | refine evs_nil ?_
 rw [List.length_map]
 refine cl_bi (range_one (small_of (nb _) (nub hx (by decide)))) ?_
 have hS3 := hS2.to (Keep.app V2 [.rng 0 (xs.length : Int)])
 have a := aiter_range (P := fun _ _ => False) (get_new V2 (.rng 0 (xs.length : Int))) (by rfl) (small_of (nb _) (nub hx (by decide)))
 have hj3 := (Keep.app V2 [.rng 0 (xs.length : Int)]).get hj
 generalize V2 ++ [.rng 0 (xs.length : Int)] = V3 at *
 have h21 := hS3.topN.len
 have hjl := lt_of_get hj3
 have h21j := T.len
 refine ⟨_, _, fun _ _ => False, fun ys V' => S V (fiE f_law_numbers lo cells) V' [(31, .ref j), (30, .ref l)] [] /\ ∃ (i : Nat) (vs : List Int), ys = (List.range (xs.length - i)).map (fun k : Nat => .int ((i : Int) + k)) /\ i <= xs.length /\ V'[j]? = some (.list (vs.map .int)) /\ vs.length = 5 /\ ∀ v ∈ vs, 0 <= v /\ v <= 17 + i * 1000000, a, fun _ _ h => h.elim, h21, ?_, ?_, ?_, ?_, ?_⟩
 ·rw [List.length_map, List.length_range]; lia
 ·refine ⟨hS3.to (Keep.app _ _), 0, [2, 9, 13, 5, 17], ?_, (Nat.zero_le _), (Keep.app _ _).get hj3, rfl, by decide⟩
  simp
 ·intro ys V' o o' I ho hio
  exact ⟨I.1.updP ho (iter_plain hio) hS3.keep.1 noD0, N2.e7 I.2 fun i vs h2 h3 h4 h5 h6 => N2.i7 i vs h2 h3 ((List.getElem?_set_ne (Nat.ne_of_gt hjl)).trans h4) h5 h6⟩
 ·intro x ys V' I hA Qb hn _ _
  refine I.elim fun h1 I2 => N2.e7 I2 fun i vs h2 h3 h4 h5 h6 => ?_
  clear I I2
  have hi : i < xs.length := by
   by_cases q : i < xs.length
   ·exact q
   ·rw [Nat.sub_eq_zero_of_le (Nat.not_lt.mp q)] at h2; exact nomatch h2
  rw [sub1 hi, List.range_succ_eq_map, List.map_cons, List.map_map] at h2
  refine e2 (List.cons.inj h2) fun z132 z133 => ?_
  subst z132
  subst z133
  refine assign_one h1 rfl fun Va hSa pa => ?_
  have hja := pa.2 _ _ rfl h4
  have hAa := hA.pl pa (fun _ _ h => h.elim)
  repeat first
   | refine ev_int (by rfl) ?_
   | refine ev_name (S.get (by assumption) _ _ (by rfl)) ?_
   | refine ev_bin ?_
   | refine ex_augS ?_
  refine ⟨_, _, bin_int (binI_mod (by decide) (by decide)), ?_⟩
  have hm := Int.emod_nonneg ((i : Int) + (0 : Nat)) (show (5 : Int) ≠ 0 by decide)
  have hm2 := Int.emod_lt_of_pos ((i : Int) + (0 : Nat)) (show (0 : Int) < 5 by decide)
  generalize ((i : Int) + (0 : Nat)) % 5 = k at hm hm2 ⊢
  have hkl : k.toNat < vs.length := by lia
  have hv := List.getElem?_eq_getElem hkl
  generalize vs[k.toNat] = old at hv
  have hold := h6 old (List.mem_of_getElem? hv)
  refine i3 old (item_list hja hm (by lia) (by rw [List.getElem?_map, hv]; rfl)) ?_
  repeat first
   | refine ev_name (S.get (by assumption) _ _ (by rfl)) ?_
   | refine ev_bin ?_
   | refine ev_sub ?_
  have hxi := List.getElem?_eq_getElem hi
  generalize xs[i] = z at hxi
  refine ⟨.int z, item_list (hSa.base hl) (by lia) (by lia) (by rw [show ((i : Int) + (0 : Nat)).toNat = i by lia, List.getElem?_map, hxi]; rfl), ?_⟩
  repeat first
   | refine ev_int (by rfl) ?_
  refine ⟨.int 1000000, _, rfl, ?_⟩
  refine ⟨_, _, bin_int (binI_mod (by decide) (by decide)), ?_⟩
  have hz := Int.emod_nonneg z (show (1000000 : Int) ≠ 0 by decide)
  have hz2 := Int.emod_lt_of_pos z (show (0 : Int) < 1000000 by decide)
  generalize z % 1000000 = y at hz hz2 ⊢
  refine i7 y (.int (old + y)) _ rfl (binI_add (by lia) (by lia)) (set_list hja hm (by lia) (by rw [List.length_map]; exact hkl) (Nat.le_trans h21j hj0)) ?_
  repeat first
   | refine ex_nil ?_
  refine hn _ ⟨(hSa.updP hja rfl (hj0) noD0).drop1 rfl, i + 1, vs.set k.toNat (old + y), ?_, hi, ?_, ?_, ?_⟩ ?_
  ·refine List.map_congr_left fun q _ => ?_
   refine (?_ : AV.int ((i : Int) + (q + 1 : Nat)) = AV.int (((i + 1 : Nat) : Int) + q))
   congr 1; lia
  ·refine rwR (List.getElem?_set_self (lt_of_get hja)) ?_
   exact rwR List.map_set rfl
  ·refine rwR List.length_set ?_
   exact h5
  ·intro v hv'
   rcases List.mem_or_eq_of_mem_set hv' with e | e
   ·have := h6 v e; lia
   ·lia
  ·refine e4 hAa fun o a1 a2 a3 => ?_
   exact i4 o (by rw [List.getElem?_set_ne (Nat.ne_of_lt hjl)]; exact a1) a2 (fun _ _ h => h.elim)
 ·intro V' I
  refine I.elim fun h1 I2 => N2.e7 I2 fun i vs h2 h3 h4 h5 h6 => ?_
  clear I I2
  repeat first
   | refine ev_name (S.get (by assumption) _ _ (by rfl)) ?_
   | refine ex_ret ?_
  refine ⟨h1.keep, j, vs, rfl, h4, h5, fun v hv => ?_⟩
  have := h6 v hv
  lia
noncomputable def exOf : Sm -> Ex
 | .assign _ e _ => e
 | .assignA _ _ _ e _ => e
 | _ => .none ⟨0, 0, 0, 0⟩
noncomputable def lamFI (q : Str) : Ex -> FI
 | .lam ps body sc fast _ => { ps, body := .expr body, sc, qual := q ++ Str.ofString ".<locals>.<lambda>", args := argsOf ps, scope := scopeOf sc (fastOf fast) }
 | _ => f_law_given
noncomputable def smAt (b : List Sm) (k : Nat) : Sm := (b[k]?).getD (.brk ⟨0, 0, 0, 0⟩)
noncomputable def fiL0 : FI := lamFI (Str.ofString "_law_element") (exOf (smAt f_law_element_b 1))
noncomputable def fiL1 : FI := lamFI (Str.ofString "_law_element") (exOf (smAt f_law_element_b 4))
noncomputable def fiL2 : FI := lamFI (Str.ofString "_law_element") (exOf (smAt f_law_element_b 6))
noncomputable def sLead : Str := ⟨#[108,101,97,100]⟩
noncomputable def sEnd : Str := ⟨#[101,110,100]⟩
noncomputable def sE : Str := ⟨#[]⟩
noncomputable def sTab : Str := ⟨#[9]⟩
structure Nd (V : Sg) (b da : Nat) (tag tail : Str) (kids : List AV) : Prop where
 ca : V[b + 1]? = some (.cell (some (.ref da)))
 cb : V[b + 2]? = some (.cell (some (.ref (b + 3))))
 li : V[b + 3]? = some (.list kids)
 fe : V[b + 4]? = some (.func fiL0 [] (some (b + 5)))
 at_ : V[b + 5]? = some (.attrs [(19, .str tag), (26, .str tail), (37, .ref (b + 6)), (38, .ref 7), (39, .ref (b + 7))])
 fa : V[b + 6]? = some (.func fiL1 [(36, b + 2)] none)
 fi : V[b + 7]? = some (.func fiL2 [(36, b + 2), (20, b + 1)] none)
theorem elem_small (t : Str) : (lvl 12).cl (.ref 7) [.str t, .ref 20] [] top21 = some (.ref 25, top21 ++ [.ns [(19, .str t), (22, .ref 25)], .cell (some (.ref 20)), .cell (some (.ref 24)), .list [], .func fiL0 [] (some 26),
  .attrs [(19, .str t), (26, .str sE), (37, .ref 27), (38, .ref 7), (39, .ref 28)], .func fiL1 [(36, 23)] none, .func fiL2 [(36, 23), (20, 22)] none]) := by kernel_rfl
theorem elem_run {t x y : Str} (hn : 8 <= n) (T : Top V) (hd : V[da]? = some (.dict [(sLead, .str x), (sEnd, .str y)] ep)) (h21 : 21 <= da) :
  Cl n (.ref 7) [.str t, .ref da] V fun v V' => v = .ref (V.length + 4) /\ Keep V V' /\ V'.length = V.length + 8 /\ Nd V' V.length da t sE [] := by
 obtain ⟨m, rfl⟩ := Nat.exists_eq_add_of_le' hn
 have l := lt_of_get hd
 have h : 20 <= da /\ da < V.length := ⟨(Nat.le_trans (by decide) h21), l⟩
 have e := orc_run (n := m + 7) (args := [.str t, .ref da]) T (by decide) (by decide) (by
  show ((da == da) && decide (20 <= da /\ da < V.length) && true) = true
  rw [beq_self_eq_true, decide_eq_true h]; rfl) h.1 l (elem_small t)
 exact ⟨_, _, e, rfl, Keep.app _ _, List.length_append, (app_get 1).trans rfl, (app_get 2).trans rfl, (app_get 3).trans rfl, (app_get 4).trans rfl, (app_get 5).trans rfl, (app_get 6).trans rfl, (app_get 7).trans rfl⟩
section
noncomputable def KB (l : Nat) (V V' : Sg) : Prop := V.length <= V'.length /\ ∀ j : Nat, j < V.length -> j ≠ l -> V'[j]? = V[j]?
theorem Keep.kb (k : Keep V V') : KB l V V' := ⟨k.1, fun j h _ => k.2 j h⟩
theorem KB.trans (h : KB l V V') (k : KB l V' V'') : KB l V V'' := ⟨Nat.le_trans h.1 k.1, fun j hj hl => (k.2 j (Nat.lt_of_lt_of_le hj h.1) hl).trans (h.2 j hj hl)⟩
theorem KB.get (k : KB l V V') {j : Nat} {o : AO} (h : V[j]? = some o) (hj : j ≠ l) : V'[j]? = some o := (k.2 j (lt_of_get h) hj).trans h
theorem Nd.of {kids : List AV} (h : Nd V b da tag tail kids) (k : ∀ j : Nat, b + 1 <= j -> j <= b + 7 -> V'[j]? = V[j]?) : Nd V' b da tag tail kids :=
 ⟨(k _ (by lia) (by lia)).trans h.ca, (k _ (by lia) (by lia)).trans h.cb, (k _ (by lia) (by lia)).trans h.li, (k _ (by lia) (by lia)).trans h.fe, (k _ (by lia) (by lia)).trans h.at_, (k _ (by lia) (by lia)).trans h.fa, (k _ (by lia) (by lia)).trans h.fi⟩
theorem Nd.lt {kids : List AV} (h : Nd V b da tag tail kids) : b + 7 < V.length := lt_of_get h.fi
theorem Nd.keep {kids : List AV} (h : Nd V b da tag tail kids) (k : Keep V V') : Nd V' b da tag tail kids := h.of fun j _ hj => k.2 j (by have := h.lt; lia)
theorem Nd.kb {kids : List AV} (h : Nd V b da tag tail kids) (k : KB l V V') (hl : ∀ xs, V[l]? = some (.list xs) -> l = b + 3 -> False) (hs : ∃ xs, V[l]? = some (.list xs)) : Nd V' b da tag tail kids := by
 obtain ⟨xs, hs⟩ := hs
 have ne : ∀ {j : Nat} {o : AO}, V[j]? = some o -> (∀ ys, o ≠ .list ys) -> j ≠ l := fun h1 h2 e => by subst e; rw [hs] at h1; cases h1; exact h2 _ rfl
 exact ⟨k.get h.ca (ne h.ca (by nofun)), k.get h.cb (ne h.cb (by nofun)), k.get h.li (fun e => hl xs hs e.symm), k.get h.fe (ne h.fe (by nofun)), k.get h.at_ (ne h.at_ (by nofun)), k.get h.fa (ne h.fa (by nofun)), k.get h.fi (ne h.fi (by nofun))⟩
section
variable {n : Nat} {E : AE} {V : Sg}
theorem ev_merge {j : Nat} {pb : Pos} {xs ys : List (Str × AV)} {ea eb : Option Nat} (h1 : getN E a V = some (.ref i)) (h2 : getN E b V = some (.ref j)) (hi : V[i]? = some (.dict xs ea)) (hj : V[j]? = some (.dict ys eb)) (hl : xs.length <= 10 /\ ys.length <= 10)
  (q : Q (.ref V.length) (V ++ [.dict (dputs ys (dputs xs ([], none))).1 none])) : Ev (n + 1) E (.merge (.name a pa) (.name b pb) p) V Q := by
 refine ⟨_, _, ?_, q⟩
 refine (?_ : (getN E a V).bind (fun x => (getN E b V).bind fun y => mergeA V x y) = _)
 rw [h1, h2]
 refine (?_ : mergeA V (.ref i) (.ref j) = _)
 unfold mergeA
 dsimp only
 rw [hi, hj]
 dsimp only [mk]
 rw [if_pos hl]
inductive LetF (n : Nat) (E : AE) (x : Nat) (r : List Sm) (Q : AF -> Sg -> Prop) (v : AV) (V1 : Sg) : Prop
 | mk (V0 : Sg) (m : List (Nat × AV)) (D : List (Nat × AO)) (h : S V0 E V1 m D) (k : kindOk E.sc x = true) (q : ∀ V2, S V0 E V2 ((x, v) :: m) D -> Pl V1 V2 -> Pf E V1 V2 -> Exs n E r V2 Q) : LetF n E x r Q v V1
theorem ex_letF {x : Nat} {r : List Sm} {Q : AF -> Sg -> Prop} (h : Ev n E e V (LetF (n + 1) E x r Q)) : Exs (n + 1) E (.assign [(x, q)] e p :: r) V Q := by
 refine ex_assign (h.mono fun v V1 h => ?_)
 obtain ⟨V0, m, D, hS, hk, h⟩ := h
 refine e5 (hS.set (kindOk_or hk) v) fun V2 h1 h2 h3 h4 => ?_
 exact ⟨V2, h1, h V2 h2 h3 h4⟩
end
noncomputable def noCel (sc : List (Nat × NK)) : Bool := sc.all fun p => decide (p.2 ≠ .cel)
theorem noCel_of (h : noCel sc = true) (x : Nat) : look x sc ≠ some .cel := fun e => by
 have := List.all_eq_true.mp h _ (look_memL e)
 exact (of_decide_eq_true this) rfl
theorem Pf.at_ (h : Pf E V V') (hn : noCel E.sc = true) {j : Nat} (hj : j ≠ E.loc) : V'[j]? = V[j]? := h.2 j hj fun x hx => (noCel_of hn x hx).elim
theorem cl_stmtsG {j : Nat} {at_ : Option Nat} {b : List Sm} (T : Top V) (hf : V[j]? = some (.func fi [] at_)) (hb : fi.body = .stmts b) (hB : bindsA fi args kw V = some (bs, Vb)) (kb : Keep V Vb)
  (hsc : (fi.sc.map (·.1)).Nodup) (hk : ∀ p, p ∈ bs -> kindOk fi.sc p.1 = true)
  (h : ∀ l cells V1, S V (fiE fi l cells) V1 bs.reverse [] -> Pl Vb V1 -> Exs n (fiE fi l cells) b V1 (FinQ Q)) : Clk (n + 1) (.ref j) args kw V Q := by
 have hS := S.start (cl := []) (q := fi.qual) (tab := fi.tab) (fr := []) T Vb kb hsc (fun _ _ _ h => by cases h) (fun _ _ h => by cases h)
 refine e4 (bindAll_S bs hS (fun p hp => kindOk_or (hk p hp))) fun V1 h1 h2 h3 => ?_
 have kl := (layCells_spec fi.sc [] (Vb ++ [.ns []]) hsc).1
 rw [List.append_nil] at h2
 refine N2.e4 ((h _ _ V1 h2 (((Keep.app Vb [.ns []]).trans kl).pl.trans h3)).out) fun f V2 h4 q => ?_
 have e : (lvO (n + 1)).cl (.ref j) args kw V = match (generalizing := false) f with
  | .ret v => some (v, V2)
  | .next => some (.none, V2)
  | .brk => none := by
  refine (lvO_fn hf).trans ?_
  unfold stepCl
  dsimp only
  refine rwR hf ?_
  dsimp only
  refine rwR hB ?_
  refine (?_ : (bindAll ⟨fi.sc, Vb.length, (layCells fi.sc [] (Vb ++ [.ns []])).1, fi.qual, fi.tab⟩ bs (layCells fi.sc [] (Vb ++ [.ns []])).2).bind _ = _)
  refine rwR h1 ?_
  refine rwR hb ?_
  refine (?_ : ((lvO n).ex (fiE fi Vb.length (layCells fi.sc [] (Vb ++ [.ns []])).1) b V1).bind _ = _)
  refine rwR h4 ?_
  rcases f <;> rfl
 induction f with
 | ret v => exact ⟨v, V2, e, q⟩
 | next => exact ⟨.none, V2, e, q⟩
 | brk => exact q.elim
theorem app_run {kids : List AV} (hn : 4 <= n) (T : Top V) (h : Nd V b da tag tail kids) (h21 : 18 <= b) (hk : kids.length <= 100000) :
  Cl n (.ref (b + 6)) [v] V fun r V' => r = .none /\ KB (b + 3) V V' /\ V'[b + 3]? = some (.list (kids ++ [v])) := by
 refine e2 (Nat.exists_eq_add_of_le' hn) fun m z41 => ?_
 subst z41
 refine cl_expr T h.fa (by rfl) (by rfl) (fr := [(36, .ref (b + 3))]) (fun x c hx hc => ?_) (fun x v hx => ?_) fun l cells V1 hS => ?_
 ·unfold look at hc
  split at hc
  ·cases hc; exact lt_of_get h.cb
  ·exact noneS hc
 ·unfold look at hx
  refine iteS hx fun e hx => ?_
  cases hx; subst e
  exact ⟨rfl, b + 2, rfl, h.cb⟩
 refine ev_meth (by rfl) (ev_name (hS.get _ _ (by rfl)) ⟨.list, ?_, evs_cons (ev_name (hS.get _ _ (by rfl)) (evs_nil ⟨.none, V1.set (b + 3) (.list (kids ++ [v])), ?_, rfl, ⟨?_, ?_⟩, ?_⟩))⟩)
 ·have e := hS.base h.li
  unfold methOf; dsimp only; rw [e]; rfl
 ·have e := hS.base h.li
  unfold methA; dsimp only; rw [e]; dsimp only
  refine rwR methL_app ?_
  refine rwR (if_pos hk) ?_
  refine rwR (upd_ok (Nat.le_trans (by decide) (Nat.add_le_add_right h21 _)) (lt_of_get e)) ?_
  rfl
 ·refine rwR List.length_set ?_
  exact hS.keep.1
 ·intro j hj hne
  refine rwR (List.getElem?_set_ne (fun e => hne e.symm)) ?_
  exact hS.keep.2 j hj
 ·exact List.getElem?_set_self (lt_of_get (hS.base h.li))
theorem meth_fn {kids : List AV} {f : AV} (h : Nd V b da tag tail kids) (ha : fnAttr a = true) (hl : look a [(19, AV.str tag), (26, .str tail), (37, .ref (b + 6)), (38, .ref 7), (39, .ref (b + 7))] = some f) : methOf (.ref (b + 4)) a V = some (.fn f) := by
 unfold methOf; dsimp only; rw [h.fe]; dsimp only; rw [h.at_]; dsimp only; rw [if_pos ha, hl]; rfl
theorem sub_run {pb pda dd : Nat} {ptag ptail t x y : Str} {kids : List AV} {xs ys : List (Str × AV)} {ep' : Option Nat} (hn : 16 <= n) (T : Top V) (hp : Nd V pb pda ptag ptail kids) (h21 : 21 <= pb)
  (hb : bindsA fSubElement args kw V = some ([(18, .ref (pb + 4)), (19, .str t), (20, .ref dd), (21, .ref V.length)], V ++ [.dict ys ep])) (hdd : V[dd]? = some (.dict xs ep')) (hm : (dputs ys (dputs xs ([], none))).1 = [(sLead, .str x), (sEnd, .str y)]) (hl : xs.length <= 10 /\ ys.length <= 10) (hk : kids.length <= 100000) :
  Clk n (.ref 0) args kw V fun v V' => ∃ b da, v = .ref (b + 4) /\ V.length <= b /\ V.length <= da /\ KB (pb + 3) V V' /\ V'[pb + 3]? = some (.list (kids ++ [.ref (b + 4)])) /\ Nd V' b da t sE [] /\ V'[da]? = some (.dict [(sLead, .str x), (sEnd, .str y)] none) := by
 refine e2 (Nat.exists_eq_add_of_le' hn) fun m z42 => ?_
 subst z42
 refine cl_stmtsG T (fn_at T (k := 0) (by decide) rfl) rfl hb (Keep.app _ _) (by decide) (fm_cons rfl (fm_cons rfl (fm_cons rfl (fm_cons rfl fm_nil)))) fun lo cells V1 hS p1 => ?_
 unfold fSubElement_b
 have hex : V1[V.length]? = some (.dict ys ep) := p1.2 _ _ rfl (get_new _ _)
 refine ex_letF (ev_merge (hS.get _ _ (by rfl)) (hS.get _ _ (by rfl)) (hS.base hdd) hex hl ⟨_, _, _, hS.to (Keep.app V1 _), rfl, fun V2 hS2 p2 f2 => ?_⟩)
 rw [hm] at p2 f2
 have hd2 : V2[V1.length]? = some (.dict [(sLead, .str x), (sEnd, .str y)] none) := p2.2 _ _ rfl (get_new _ _)
 have hda : V.length <= V1.length := hS.keep.1
 generalize V1.length = da at hd2 hda hS2
 have h21s := T.len
 refine ex_letF (ev_meth (by rfl) (ev_name (hS2.get _ _ (by rfl)) ⟨_, meth_fn (hp.keep hS2.keep) rfl rfl, evs_cons (ev_name (hS2.get _ _ (by rfl)) (evs_cons (ev_name (hS2.get _ _ (by rfl)) (evs_nil ?_))))⟩))
 obtain ⟨v3, V3, h3, rfl, k3, l3, n3⟩ := elem_run (n := m + 13) (Nat.le_add_left_of_le (by decide)) hS2.topN hd2 (Nat.le_trans h21s hda)
 refine ⟨_, V3, h3, _, _, _, hS2.to k3, rfl, fun V4 hS4 p4 f4 => ?_⟩
 have hloc : lo < V2.length := by obtain ⟨b, e⟩ := hS2.ns; exact lt_of_get e
 have hlo : V.length <= lo := hS.loc
 have hd4 : V4[da]? = some (.dict [(sLead, .str x), (sEnd, .str y)] none) := p4.2 _ _ rfl (k3.get hd2)
 have hb4 : V.length <= V2.length := hS2.keep.1
 have n4 : Nd V4 V2.length da t sE [] := n3.of fun j h1 h2 => f4.at_ rfl (show j ≠ lo by lia)
 generalize V2.length = b at n4 hb4 hS4
 refine ex_expr rfl (ev_meth (by rfl) (ev_name (hS4.get _ _ (by rfl)) ⟨_, meth_fn (hp.keep hS4.keep) rfl rfl, evs_cons (ev_name (hS4.get _ _ (by rfl)) (evs_nil ?_))⟩))
 have hp4 := hp.keep hS4.keep
 have hplt := hp.lt
 refine N2.e6 ((app_run (n := m + 13) (v := .ref (b + 4)) (Nat.le_add_left_of_le (by decide)) hS4.topN hp4 (Nat.le_trans (by decide) h21) hk).out) fun v5 V5 h5 z154 k5 l5 => ?_
 subst z154
 refine ⟨_, V5, h5, rfl, ?_⟩
 have hg : getN (fiE fSubElement lo cells) 22 V5 = some (.ref (b + 4)) := by
  refine e2 hS4.ns fun m4 hm4 => ?_
  have e := hS4.get 22 _ rfl
  have e1 : getN (fiE fSubElement lo cells) 22 V4 = look 22 m4 := by
   refine (?_ : (match V4[lo]? with | some (.ns m) => look 22 m | _ => none) = _)
   rw [show V4[lo]? = some (.ns m4) from hm4]
  refine (?_ : (match V5[lo]? with | some (.ns m) => look 22 m | _ => none) = _)
  refine rwR (k5.get hm4 (show lo ≠ pb + 3 by lia)) ?_
  exact e1.symm.trans e
 refine ex_ret (ev_name hg ?_)
 refine i9 b da rfl hb4 hda ?_ l5 ?_ ?_
 ·exact ⟨Nat.le_trans hS4.keep.1 k5.1, fun j hj hne => (k5.2 j (Nat.lt_of_lt_of_le hj hS4.keep.1) hne).trans (hS4.keep.2 j hj)⟩
 ·exact n4.of fun j h1 h2 => k5.2 j (by have := n4.lt; lia) (by lia)
 ·exact k5.get hd4 (Nat.ne_of_gt (Nat.lt_of_le_of_lt (Nat.add_le_add_left (by decide) _) (Nat.lt_of_lt_of_le hplt hda)))
end
noncomputable def sp (k : Nat) : Str := ⟨(List.replicate k 32).toArray⟩
noncomputable def sSep : Str := ⟨#[44, 32]⟩
noncomputable def gEnd (k : Nat) : Str := if k = 3 then sTab else sE
noncomputable def gD (k : Nat) : AO := .dict [(sLead, .str (sp k)), (sEnd, .str (gEnd k))] (some 2)
theorem given_small : (lvl 12).cl (.ref 8) [] [] top21 = some (.ref 24, top21 ++ [.ns [], .rng 0 4, .dead, .list [.ref 26, .ref 27, .ref 28, .ref 29], .dead, gD 0, gD 1, gD 2, gD 3]) := by kernel_rfl
theorem given_run (hn : 8 <= n) (T : Top V) : Cl n (.ref 8) [] V fun v V' => v = .ref (V.length + 3) /\ Keep V V' /\ V'[V.length + 3]? = some (.list [.ref (V.length + 5), .ref (V.length + 6), .ref (V.length + 7), .ref (V.length + 8)]) /\
  V'[V.length + 5]? = some (gD 0) /\ V'[V.length + 6]? = some (gD 1) /\ V'[V.length + 7]? = some (gD 2) /\ V'[V.length + 8]? = some (gD 3) := by
 refine e2 (Nat.exists_eq_add_of_le' hn) fun m z238 => ?_
 subst z238
 exact ⟨_, _, orc_run (n := m + 7) T (by decide) (by decide) rfl (by decide) T.len given_small, rfl, Keep.app _ _, (app_get 3).trans rfl, (app_get 5).trans rfl, (app_get 6).trans rfl, (app_get 7).trans rfl, (app_get 8).trans rfl⟩
structure Hi (E : AE) (hi : Nat) : Prop where
 loc : E.loc < hi
 cel : ∀ x c, look x E.sc = some .cel -> look x E.cells = some c -> c < hi
theorem S.hiOk (h : S V0 E V m D) : Hi E V.length :=
 ⟨by obtain ⟨b, e⟩ := h.ns; exact lt_of_get e, fun x c h1 h2 => by
  refine e5 (h.cel x h1) fun c' b h3 h4 _ => ?_
  rw [h2] at h3; cases h3; exact lt_of_get h4⟩
theorem Pf.hi {hi j : Nat} (h : Pf E V V') (H : Hi E hi) (hj : hi <= j) : V'[j]? = V[j]? :=
 h.2 j (by have := H.loc; lia) fun x h1 h2 => by have := H.cel x j h1 h2; exact (absurd (Nat.lt_of_le_of_lt hj this) (Nat.lt_irrefl _))
theorem S.kb (h : S V0 E V m D) (k : KB l V V') (hl : V[l]? = some (.list xs)) (h0 : V0.length <= l) (hD : ∀ i o2, (i, o2) ∈ D -> i ≠ l) : S V0 E V' m D := by
 have hlt := lt_of_get hl
 have hlt' : l < V'.length := Nat.lt_of_lt_of_le hlt k.1
 refine (h.updP (o' := V'[l]) hl rfl h0 hD).to ⟨by rw [List.length_set]; exact k.1, fun j hj => ?_⟩
 rw [List.length_set] at hj
 by_cases q : j = l
 ·subst q
  refine rwR (List.getElem?_set_self hlt) ?_
  exact rwR (List.getElem?_eq_getElem hlt') rfl
 ·refine rwR (List.getElem?_set_ne (fun e => q e.symm)) ?_
  exact k.2 j hj q
structure Nn where
 k : List Str
 b : Nat
 da : Nat
noncomputable def kidsOf (F : List Nn) (p : List Str) : List AV := (F.filter fun n => decide (n.k ≠ [] /\ n.k.dropLast = p)).map fun n => AV.ref (n.b + 4)
noncomputable def tagOf (k : List Str) : Str := k.getLast?.getD sE
noncomputable def part (k : Nat) : Str := sp k ++ sTab
structure Fo (V : Sg) (hi : Nat) (F : List Nn) : Prop where
 node : ∀ n, n ∈ F -> Nd V n.b n.da (tagOf n.k) sE (kidsOf F n.k)
 dat : ∀ n, n ∈ F -> ∃ x y, V[n.da]? = some (.dict [(sLead, .str x), (sEnd, .str y)] none) /\ x ++ y = part n.k.length
 hi : ∀ n, n ∈ F -> hi <= n.b /\ hi <= n.da
 nk : (F.map (·.k)).Nodup
 nb : ∀ n n', n ∈ F -> n' ∈ F -> n.b = n'.b -> n = n'
 par : ∀ n, n ∈ F -> n.k ≠ [] -> n.k.dropLast ∈ F.map (·.k)
noncomputable def jn : List Str -> Str
 | [] => sE
 | [s] => s
 | s :: r => s ++ sSep ++ jn r
noncomputable def FD (F : List Nn) : List (Str × AV) := F.map fun n => (jn n.k, AV.ref (n.b + 4))
theorem Fo.of {hi : Nat} {F : List Nn} (h : Fo V hi F) (k : ∀ j, hi <= j -> V'[j]? = V[j]?) : Fo V' hi F :=
 {h with
  node := fun n hn => (h.node n hn).of fun j h1 h2 => k j (by have := (h.hi n hn).1; lia)
  dat := fun n hn => by obtain ⟨x, y, h1, h2⟩ := h.dat n hn; exact ⟨x, y, (k _ (h.hi n hn).2).trans h1, h2⟩ }
theorem joinA_jn : ∀ ks : List Str, joinA sSep (strAVs ks) = some (jn ks)
 | [] => rfl
 | [s] => rfl
 | s :: t :: r => by
  refine (?_ : (joinA sSep (strAVs (t :: r))).bind _ = _)
  rw [joinA_jn (t :: r)]; rfl
theorem nodup_map_mem {α β : Type} {f : α -> β} {F : List α} (h : (F.map f).Nodup) {a b : α} (ha : a ∈ F) (hb : b ∈ F) (e : f a = f b) : a = b := by
 induction F with
 | nil => cases ha
 | cons x r ih =>
  rw [List.map_cons, List.nodup_cons] at h
  rcases List.mem_cons.mp ha with q | ha' <;> rcases List.mem_cons.mp hb with q' | hb'
  ·refine rwR q ?_
   exact rwR q' rfl
  ·exact (h.1 (by rw [<- q, e]; exact List.mem_map_of_mem hb')).elim
  ·exact (h.1 (by rw [<- q', <- e]; exact List.mem_map_of_mem ha')).elim
  ·exact ih h.2 ha' hb'
theorem kidsOf_snoc {F : List Nn} {n : Nn} {p : List Str} : kidsOf (F ++ [n]) p = if n.k ≠ [] /\ n.k.dropLast = p then kidsOf F p ++ [AV.ref (n.b + 4)] else kidsOf F p := by
 unfold kidsOf
 rw [List.filter_append]
 refine rwR List.map_append ?_
 by_cases h : n.k ≠ [] /\ n.k.dropLast = p
 ·refine rwR (if_pos h) ?_
  refine rwR (List.filter_cons_of_pos (by exact decide_eq_true h)) ?_
  rfl
 ·rw [if_neg h, List.filter_cons_of_neg (by rw [decide_eq_true_iff]; exact h)]; simp
theorem Fo.add {hi : Nat} {F : List Nn} {k : List Str} {p : Nn} {x y : Str} (h : Fo V hi F) (hp : p ∈ F) (hk : k ≠ []) (hpk : k.dropLast = p.k) (hnew : k ∉ F.map (·.k)) (kb : KB (p.b + 3) V V') (hb : V.length <= b) (hda : V.length <= da) (hhi : hi <= V.length)
  (hl : V'[p.b + 3]? = some (.list (kidsOf F p.k ++ [.ref (b + 4)]))) (hN : Nd V' b da (tagOf k) sE []) (hd : V'[da]? = some (.dict [(sLead, .str x), (sEnd, .str y)] none)) (hxy : x ++ y = part k.length) : Fo V' hi (F ++ [⟨k, b, da⟩]) where
 node := fun n hn => by
  have hne : k.length ≠ 0 := fun e => hk (List.length_eq_zero_iff.mp e)
  rcases List.mem_append.mp hn with hn | hn
  ·refine rwR kidsOf_snoc ?_
   have N := h.node n hn
   have lt := N.lt
   by_cases e : n = p
   ·subst e
    refine rwR (if_pos ⟨hk, hpk⟩) ?_
    exact ⟨kb.get N.ca (neA (by decide)), kb.get N.cb (neA (by decide)), hl, kb.get N.fe (neA (by decide)), kb.get N.at_ (neA (by decide)), kb.get N.fa (neA (by decide)), kb.get N.fi (neA (by decide))⟩
   ·refine rwR (if_neg (fun q => e (nodup_map_mem h.nk hn hp (q.2.symm.trans hpk)))) ?_
    refine N.kb kb (fun ys _ q => e (h.nb n p hn hp (by lia))) ⟨_, (h.node p hp).li⟩
  ·rw [List.mem_singleton] at hn
   subst hn
   refine rwR kidsOf_snoc ?_
   have e1 : kidsOf F k = [] := by
    unfold kidsOf
    rw [List.map_eq_nil_iff, List.filter_eq_nil_iff]
    intro n hn q
    have q := of_decide_eq_true q
    exact hnew (q.2 ▸ h.par n hn q.1)
   have e2 : ¬ (k ≠ [] /\ k.dropLast = k) := fun q => by
    have := congrArg List.length q.2
    rw [List.length_dropLast] at this; lia
   refine rwR (if_neg e2) ?_
   refine rwR e1 ?_
   exact hN
 dat := fun n hn => by
  rcases List.mem_append.mp hn with hn | hn
  ·refine e4 (h.dat n hn) fun x y h1 h2 => ?_
   refine i4 x y (kb.get h1 (fun e => ?_)) h2
   have := (h.node p hp).li
   rw [<- e, h1] at this
   have this := this
   rcases this
  ·rw [List.mem_singleton] at hn
   subst hn
   exact i4 x y hd hxy
 hi := fun n hn => by
  rcases List.mem_append.mp hn with hn | hn
  ·exact h.hi n hn
  ·rw [List.mem_singleton] at hn
   subst hn
   exact ⟨Nat.le_trans hhi hb, Nat.le_trans hhi hda⟩
 nk := by
  refine rwR List.map_append ?_
  rw [List.nodup_append]
  refine i3 h.nk (by simp) (fun a ha b hb e => ?_)
  rw [List.map_cons, List.map_nil, List.mem_singleton] at hb
  exact hnew (by rw [<- show b = k from hb, <- e]; exact ha)
 nb := fun n n' hn hn' e => by
  rcases List.mem_append.mp hn with hn | hn <;> rcases List.mem_append.mp hn' with hn' | hn'
  ·exact h.nb n n' hn hn' e
  ·rw [List.mem_singleton] at hn'; subst hn'
   have := (h.node n hn).lt
   dsimp only at e; lia
  ·rw [List.mem_singleton] at hn; subst hn
   have := (h.node n' hn').lt
   dsimp only at e; lia
  ·rw [List.mem_singleton] at hn hn'; rw [hn, hn']
 par := fun n hn hne => by
  refine rwR List.map_append ?_
  rw [List.mem_append]
  rcases List.mem_append.mp hn with hn | hn
  ·exact .inl (h.par n hn hne)
  ·rw [List.mem_singleton] at hn; subst hn
   exact .inl (by rw [hpk]; exact List.mem_map_of_mem hp)
theorem sget_FD {F : List Nn} (hj : ∀ n n', n ∈ F -> n' ∈ F -> jn n.k = jn n'.k -> n.k = n'.k) (hk : (F.map (·.k)).Nodup) {n : Nn} (hn : n ∈ F) : sget (jn n.k) (FD F) = some (.ref (n.b + 4)) := by
 induction F with
 | nil => cases hn
 | cons x r ih =>
  rw [List.map_cons, List.nodup_cons] at hk
  refine (?_ : (if jn x.k = jn n.k then some (AV.ref (x.b + 4)) else sget (jn n.k) (FD r)) = _)
  rcases List.mem_cons.mp hn with rfl | hn'
  ·exact rwR (if_pos rfl) rfl
  ·by_cases e : jn x.k = jn n.k
   ·exact (hk.1 (hj x n List.mem_cons_self hn e ▸ List.mem_map_of_mem hn')).elim
   ·refine rwR (if_neg e) ?_
    exact ih (fun a b ha hb => hj a b (List.mem_cons_of_mem _ ha) (List.mem_cons_of_mem _ hb)) hk.2 hn'
theorem sget_FD_none {F : List Nn} {k : List Str} (hj : ∀ n, n ∈ F -> jn n.k ≠ jn k) : sget (jn k) (FD F) = none := by
 induction F with
 | nil => rfl
 | cons x r ih =>
  refine (?_ : (if jn x.k = jn k then some (AV.ref (x.b + 4)) else sget (jn k) (FD r)) = _)
  refine rwR (if_neg (hj x List.mem_cons_self)) ?_
  exact ih fun n hn => hj n (List.mem_cons_of_mem _ hn)
theorem sput_new {k : Str} : ∀ {m : List (Str × AV)}, sget k m = none -> sput k v m = m ++ [(k, v)]
 | [], _ => rfl
 | (j, u) :: r, h => by
  unfold sget at h
  unfold sput
  by_cases e : j = k
  ·rw [if_pos e] at h; cases h
  ·rw [if_neg e] at h
   rw [if_neg e, sput_new h]; rfl
theorem join_ok {R : Rec} {r : Nat} (h : V[r]? = some (.list (strAVs ks))) (hl : ks.length <= 1000) (hs : (jn ks).cps.size <= 1000) : methA R .str (.str sSep) 61 [.ref r] V = some (.str (jn ks), V) := by
 refine (?_ : methS sSep 61 [.ref r] V = _)
 refine rwR methS_join ?_
 refine rwR h ?_
 have e : (strAVs ks).length = ks.length := by
  clear h hl hs
  induction ks with
  | nil => rfl
  | cons s r ih => show (strAVs r).length + 1 = _; rw [ih]; rfl
 dsimp only
 refine rwR e ?_
 refine rwR (if_pos ⟨hl, by decide⟩) ?_
 rw [joinA_jn]
 refine (?_ : (mkS (jn ks)).bind _ = _)
 unfold mkS
 refine rwR (if_pos (Nat.le_trans hs (by decide))) ?_
 rfl
theorem strAVs_take : ∀ (n : Nat) (ks : List Str), (strAVs ks).take n = strAVs (ks.take n)
 | 0, ks => by rw [List.take_zero, List.take_zero]; rfl
 | n + 1, [] => rfl
 | n + 1, s :: r => by
  refine (?_ : AV.str s :: (strAVs r).take n = AV.str s :: strAVs (r.take n))
  rw [strAVs_take n r]
theorem strAVs_lenL : ∀ ks : List Str, (strAVs ks).length = ks.length
 | [] => rfl
 | s :: r => by show (strAVs r).length + 1 = _; rw [strAVs_lenL r]; rfl
theorem strAVs_getL : ∀ (ks : List Str) (i : Nat), (strAVs ks)[i]? = (ks[i]?).map .str
 | [], i => by cases i <;> rfl
 | s :: r, 0 => rfl
 | s :: r, i + 1 => strAVs_getL r i
theorem cut_last {r : Nat} (h : V[r]? = some (.list (strAVs ks))) (hl : ks.length <= 1000) (hne : ks ≠ []) : cutTo (.ref r) (.int (-1)) V = some (.ref V.length, V ++ [.list (strAVs ks.dropLast)]) := by
 have e := strAVs_lenL ks
 have hp := List.length_pos_iff.mpr hne
 unfold cutTo
 dsimp only
 refine rwR h ?_
 dsimp only
 rw [e, if_pos ⟨by decide, by lia⟩, if_pos (by decide), strAVs_take, List.dropLast_eq_take, show ((-1 : Int) + ks.length).toNat = ks.length - 1 from tn1 hp]; rfl
theorem item_last {r : Nat} (h : V[r]? = some (.list (strAVs ks))) (hl : ks.length <= 1000) (hne : ks ≠ []) : item (.ref r) (.int (-1)) V = some (.str (tagOf ks)) := by
 have e := strAVs_lenL ks
 have hp := List.length_pos_iff.mpr hne
 unfold item
 dsimp only
 refine rwR h ?_
 dsimp only
 refine rwR e ?_
 refine rwR (if_pos ⟨by decide, (tn2 hp), tn3⟩) ?_
 unfold idx
 rw [if_pos (by decide), strAVs_getL, show ((-1 : Int) + ks.length).toNat = ks.length - 1 from tn1 hp]
 unfold tagOf
 refine rwR (List.getLast?_eq_getElem?) ?_
 cases h2 : ks[ks.length - 1]? with
 | none => rw [List.getElem?_eq_none_iff] at h2; lia
 | some s => rfl
theorem setEach2 {x y : Nat} {w : AV} (hS : S V0 E V m D) (hx : kindOk E.sc x = true) (hy : kindOk E.sc y = true) :
  ∃ V', setEach E [(x, q), (y, p)] [v, w] V = some V' /\ S V0 E V' ((y, w) :: (x, v) :: m) D /\ Pl V V' /\ Pf E V V' := by
 refine e5 (hS.set (kindOk_or hx) v) fun V1 h1 h2 h3 h4 => ?_
 refine e5 (h2.set (kindOk_or hy) w) fun V2 g1 g2 g3 g4 => ?_
 refine i5 V2 ?_ g2 (h3.trans g3) (h4.trans g4)
 refine (?_ : (setN E x v V).bind (fun s => (setN E y w s).bind fun s => some s) = _)
 refine rwR h1 ?_
 refine (?_ : (setN E y w V1).bind _ = _)
 refine rwR g1 ?_
 rfl
noncomputable abbrev ldE (lo : Nat) (cells : List (Nat × Nat)) : AE := fiE f_law_lead lo cells
noncomputable def forB : Sm -> List Sm
 | .forS _ _ _ b _ _ => b
 | _ => []
noncomputable def addK (l : List (List Str)) (k : List Str) : List (List Str) := if k ∈ l then l else l ++ [k]
noncomputable def rowB : List Sm := forB (smAt (forB (smAt f_law_lead_b 4)) 0)
structure Ld (V0 : Sg) (lo : Nat) (cells : List (Nat × Nat)) (U : List (List Str)) (gv nd fh : Nat) (Vg : Sg) (m : List (Nat × AV)) (D : List (Nat × AO)) (F : List Nn) (V : Sg) : Prop where
 fr : S V0 (ldE lo cells) V m D
 H : Hi (ldE lo cells) fh
 hf : fh <= nd
 low : ∀ j, fh <= j -> j < nd -> V[j]? = Vg[j]?
 h0 : V0.length <= nd
 fo : Fo V (nd + 1) F
 dict : ∃ ep, V[nd]? = some (.dict (FD F) (some ep))
 m44 : look 44 m = some (.ref nd)
 m42 : look 42 m = some (.ref gv)
 m98 : look 98 m = none
 m99 : look 99 m = none
 D1 : ∃ g0 g1 g2 g3, (gv, .list [.ref g0, .ref g1, .ref g2, .ref g3]) ∈ D /\ (g1, gD 1) ∈ D /\ (g2, gD 2) ∈ D /\ (g3, gD 3) ∈ D
 D2 : ∀ i o, (i, o) ∈ D -> i ≠ nd /\ ∀ n, n ∈ F -> i ≠ n.b + 3
 U1 : ∀ k, k ∈ U -> (jn k).cps.size <= 1000 /\ k.length <= 3
 U2 : ∀ k k', k ∈ U -> k' ∈ U -> jn k = jn k' -> k = k'
 FU : ∀ n, n ∈ F -> n.k ∈ U
 len : U.length <= 900
theorem nodup_len {α : Type} [DecidableEq α] : ∀ {l l' : List α}, l.Nodup -> (∀ a, a ∈ l -> a ∈ l') -> l.length <= l'.length
 | [], _, _, _ => Nat.zero_le _
 | a :: r, l', h, s => by
  rw [List.nodup_cons] at h
  have hm := s a List.mem_cons_self
  have := nodup_len (l' := l'.erase a) h.2 fun b hb => (List.mem_erase_of_ne (fun e => h.1 (by rw [<- e]; exact hb))).mpr (s b (List.mem_cons_of_mem _ hb))
  rw [List.length_erase_of_mem hm] at this
  have := List.length_pos_of_mem hm
  rw [List.length_cons]; lia
theorem Ld.lenF {U : List (List Str)} {F : List Nn} (h : Ld V0 lo cells U gv nd fh Vg m D F V) : F.length <= 900 := by
 have := nodup_len (l' := U) h.fo.nk fun a ha => by
  refine e3 (List.mem_map.mp ha) fun n hn z22 => ?_
  subst z22
  exact h.FU n hn
 rw [List.length_map] at this
 exact Nat.le_trans this h.len
theorem Ld.kids {U : List (List Str)} {F : List Nn} (h : Ld V0 lo cells U gv nd fh Vg m D F V) (p : List Str) : (kidsOf F p).length <= 100000 := by
 unfold kidsOf
 rw [List.length_map]
 have := List.length_filter_le (fun n : Nn => decide (n.k ≠ [] /\ n.k.dropLast = p)) F
 have := h.lenF
 lia
theorem gD_binds {a b c : AV} : bindsA fSubElement [a, b, c] [] V = some ([(18, a), (19, b), (20, c), (21, .ref V.length)], V ++ [.dict [] (some 0)]) := by rfl
theorem gD_bindsK {a b c : AV} : bindsA fSubElement [a, b, c] [(91, .str sTab)] V = some ([(18, a), (19, b), (20, c), (21, .ref V.length)], V ++ [.dict [(nm 91, .str sTab)] (some 1)]) := by rfl
theorem merge3 (x y : Str) : (dputs [] (dputs [(sLead, .str x), (sEnd, .str y)] ([], none))).1 = [(sLead, AV.str x), (sEnd, .str y)] := by rfl
theorem mergeK (x y : Str) : (dputs [(nm 91, .str sTab)] (dputs [(sLead, .str x), (sEnd, .str y)] ([], none))).1 = [(sLead, AV.str x), (sEnd, .str sTab)] := by rfl
theorem Ld.add {U : List (List Str)} {F : List Nn} {k : List Str} {p : Nn} {x y : Str} (h : Ld V0 lo cells U gv nd fh Vg m D F V) (hp : p ∈ F) (hk : k ≠ []) (hU : k ∈ U) (hpk : k.dropLast = p.k) (hnew : k ∉ F.map (·.k)) (kb : KB (p.b + 3) V V1) (hb : V.length <= b) (hda : V.length <= da)
  (hl : V1[p.b + 3]? = some (.list (kidsOf F p.k ++ [.ref (b + 4)]))) (hN : Nd V1 b da (tagOf k) sE []) (hd : V1[da]? = some (.dict [(sLead, .str x), (sEnd, .str y)] none)) (hxy : x ++ y = part k.length) :
  ∃ V2, setItm (.ref nd) (.str (jn k)) (.ref (b + 4)) V1 = some V2 /\ Ld V0 lo cells U gv nd fh Vg m D (F ++ [⟨k, b, da⟩]) V2 := by
 refine e2 h.dict fun ep hdict => ?_
 have hlt := lt_of_get hdict
 have hh := h.h0
 have h21 := h.fr.top.len
 have hli := (h.fo.node p hp).li
 have phi := (h.fo.hi p hp).1
 have hS1 : S V0 (ldE lo cells) V1 m D := h.fr.kb kb hli (Nat.le_add_right_of_le (Nat.le_of_lt (Nat.lt_of_le_of_lt hh phi))) fun i o hm => (h.D2 i o hm).2 p hp
 have hd1 : V1[nd]? = some (.dict (FD F) (some ep)) := kb.get hdict (Nat.ne_of_lt (Nat.lt_add_right _ phi))
 have fo1 := h.fo.add hp hk hpk hnew kb hb hda (hlt) hl hN hd hxy
 have hnone : sget (jn k) (FD F) = none := sget_FD_none fun n hn e => hnew (by rw [<- h.U2 _ _ (h.FU n hn) hU e]; exact List.mem_map_of_mem hn)
 have lF : (FD F).length <= 1000 := by unfold FD; rw [List.length_map]; have := h.lenF; exact (Nat.le_trans this (by decide))
 refine ⟨V1.set nd (.dict (FD (F ++ [⟨k, b, da⟩])) (some (ep + 1))), ?_, hS1.updP hd1 rfl hh (fun i o hm => (h.D2 i o hm).1), h.H, h.hf, fun j h1 h2 => (List.getElem?_set_ne (Nat.ne_of_gt h2)).trans ((kb.2 j (Nat.lt_trans h2 hlt) (Nat.ne_of_lt (Nat.lt_add_right _ (Nat.lt_trans h2 phi)))).trans (h.low j h1 h2)), hh, fo1.of (fun j hj => List.getElem?_set_ne (Nat.ne_of_lt hj)), ⟨_, List.getElem?_set_self (lt_of_get hd1)⟩, h.m44, h.m42, h.m98, h.m99, h.D1, ?_, h.U1, h.U2, ?_, h.len⟩
 ·unfold setItm
  dsimp only
  refine rwR hd1 ?_
  dsimp only
  refine rwR (if_pos lF) ?_
  refine rwR (upd_ok (Nat.le_trans h21 hh) (lt_of_get hd1)) ?_
  unfold dput
  refine rwR (sput_new hnone) ?_
  refine rwR hnone ?_
  unfold FD
  refine rwR List.map_append ?_
  rfl
 ·refine fun i o hm => ⟨(h.D2 i o hm).1, fun n hn => ?_⟩
  rcases List.mem_append.mp hn with hn | hn
  ·exact (h.D2 i o hm).2 n hn
  ·rw [List.mem_singleton] at hn; subst hn
   have := lt_of_get (h.fr.dat i o hm).1
   dsimp only; exact (Nat.ne_of_lt (Nat.lt_add_right _ (Nat.lt_of_lt_of_le this hb)))
 ·intro n hn
  rcases List.mem_append.mp hn with hn | hn
  ·exact h.FU n hn
  ·rw [List.mem_singleton] at hn; subst hn; exact hU
theorem Ld.step {U : List (List Str)} {F : List Nn} (h : Ld V0 lo cells U gv nd fh Vg m D F V) (hS : S V0 (ldE lo cells) V' m' D) (k : ∀ j, fh <= j -> j < V.length -> V'[j]? = V[j]?)
  (m44 : look 44 m' = some (.ref nd)) (m42 : look 42 m' = some (.ref gv)) (m98 : look 98 m' = none) (m99 : look 99 m' = none) : Ld V0 lo cells U gv nd fh Vg m' D F V' :=
 {h with
  fr := hS
  fo := { h.fo with
   node := fun n hn => (h.fo.node n hn).of fun j h1 h2 => k j (by have := (h.fo.hi n hn).1; have := h.hf; lia) (by have := (h.fo.node n hn).lt; lia)
   dat := fun n hn => by
    refine e4 (h.fo.dat n hn) fun x y h1 h2 => ?_
    exact ⟨x, y, (k _ (by have := (h.fo.hi n hn).2; have := h.hf; lia) (lt_of_get h1)).trans h1, h2⟩ }
  dict := by obtain ⟨ep, e⟩ := h.dict; exact ⟨ep, (k nd h.hf (lt_of_get e)).trans e⟩
  low := fun j h1 h2 => (k j h1 (by obtain ⟨ep, e⟩ := h.dict; have := lt_of_get e; lia)).trans (h.low j h1 h2)
  m44 := m44, m42 := m42, m98 := m98, m99 := m99 }
noncomputable def KI (V V' : Sg) : Prop := ∀ (j : Nat) (o : AO), V[j]? = some o -> isItr o = true -> V'[j]? = some o
theorem KI.trans (h : KI V V') (k : KI V' V'') : KI V V'' := fun j o e i => k j o (h j o e i) i
theorem Pl.ki (h : Pl V V') : KI V V' := fun j o e i => h.2 j o (iter_plain i) e
theorem upd_some' {j : Nat} {o : AO} (h : upd j o V = some V') : 21 <= j /\ j < V.length /\ V' = V.set j o := by
 unfold upd at h
 split at h
 ·rename_i q; cases h; exact ⟨q.1, q.2, rfl⟩
 ·exact noneS h
theorem row_step {r : Nat} {U : List (List Str)} {F : List Nn} {k : List Str} {p : Nn} {Q : AF -> Sg -> Prop} (h : Ld V0 lo cells U gv nd fh Vg m D F V) (hp : p ∈ F) (hk : k ≠ []) (hU : k ∈ U) (hpk : k.dropLast = p.k)
  (m83 : look 83 m = some (.ref r)) (hr : (r, .list (strAVs k)) ∈ D)
  (hq : ∀ V' F', Ld V0 lo cells U gv nd fh Vg m D F' V' -> F'.map (·.k) = addK (F.map (·.k)) k -> (∀ n, n ∈ F -> n ∈ F') -> KI V V' -> Q .next V') : Exs 44 (ldE lo cells) rowB V Q := by
 have h21 : 21 <= nd := Nat.le_trans h.fr.top.len h.h0
 have kl := (h.U1 k hU).2
 have hS := h.fr
 have r0 := hS.at_ hr
 refine ex_assignTT (by rfl) (ev_tuple (by decide) (evs_cons (ev_meth (by rfl) (ev_str ⟨.str, rfl, evs_cons (ev_name (hS.get _ _ m83) (evs_nil ⟨_, _, join_ok r0 (Nat.le_trans kl (by decide)) (h.U1 k hU).1, ?_⟩))⟩))))
 refine evs_cons (ev_meth (by rfl) (ev_str ⟨.str, rfl, evs_cons (ev_subTo (ev_name (hS.get _ _ m83) (ev_neg (ev_int (by rfl) ⟨1, rfl, by rfl, _, _, cut_last r0 (Nat.le_trans kl (by decide)) hk, ?_⟩))))⟩))
 have hpU := h.FU p hp
 have pl := (h.U1 p.k hpU).2
 refine rwR hpk ?_
 refine evs_nil ⟨_, _, join_ok (get_new _ _) (Nat.le_trans pl (by decide)) (h.U1 p.k hpU).1, evs_nil ?_⟩
 have K2 : Keep V (V ++ [.list (strAVs p.k)] ++ [.tuple [.str (jn k), .str (jn p.k)]]) := (Keep.app _ _).trans (Keep.app _ _)
 refine e5 (setEach2 (x := 99) (y := 98) (q := ⟨121, 18, 121, 23⟩) (p := ⟨121, 12, 121, 16⟩) (v := .str (jn p.k)) (w := .str (jn k)) (hS.to K2) rfl rfl) fun V3 e3 S3 p3 f3 => ?_
 refine ⟨[.str (jn k), .str (jn p.k)], V3, ?_, e3, ?_⟩
 ·unfold unpackA
  dsimp only
  rw [get_new]; rfl
 have k3 : ∀ j, fh <= j -> j < V.length -> V3[j]? = V[j]? := fun j h1 h2 => (f3.hi h.H h1).trans (K2.2 j h2)
 have kp : ∀ j o, V[j]? = some o -> plain o = true -> V3[j]? = some o := fun j o e1 e2 => p3.2 _ _ e2 (K2.get e1)
 have h3 : Ld V0 lo cells U gv nd fh Vg m D F V3 := h.step ((S3.drop1 (m := (99, .str (jn p.k)) :: m) (by show (if 99 = 98 then _ else look 98 m) = none; rw [if_neg (by decide)]; exact h.m98)).drop1 h.m99) k3 h.m44 h.m42 h.m98 h.m99
 refine e2 h3.dict fun ep hdict => ?_
 refine ex_if (ev_cmp (ev_name (S3.get 98 _ rfl) (ev_name (S3.get 44 _ h.m44) ⟨!((sget (jn k) (FD F)).isSome), ?_, _, rfl, ?_⟩)))
 ·show (isIn (.str (jn k)) (.ref nd) V3).map _ = _
  unfold isIn
  dsimp only
  refine rwR hdict ?_
  dsimp only
  refine rwR (if_pos (show nTop <= nd from h21)) ?_
  rfl
 by_cases hnew : k ∈ F.map (·.k)
 ·obtain ⟨n, hn, e⟩ := List.mem_map.mp hnew
  have : sget (jn k) (FD F) = some (.ref (n.b + 4)) := by
   refine rwL e ?_
   exact sget_FD (fun a b ha hb q => h.U2 _ _ (h.FU a ha) (h.FU b hb) q) h.fo.nk hn
  refine rwR this ?_
  refine ex_nil (ex_nil (hq V3 F h3 ?_ (fun _ h => h) fun j o e1 e2 => kp j o e1 (iter_plain e2)))
  unfold addK; rw [if_pos hnew]
 ·have : sget (jn k) (FD F) = none := sget_FD_none fun n hn e => hnew (by rw [<- h.U2 _ _ (h.FU n hn) hU e]; exact List.mem_map_of_mem hn)
  refine rwR this ?_
  have r3 := kp _ _ r0 (h.fr.dat _ _ hr).2
  refine e8 h.D1 fun g0 g1 g2 g3 d0 d1 d2 d3 => ?_
  have hgv := S3.at_ d0
  have hgt : sget (jn p.k) (FD F) = some (.ref (p.b + 4)) := sget_FD (fun a b ha hb q => h.U2 _ _ (h.FU a ha) (h.FU b hb) q) h.fo.nk hp
  have hit : item (.ref nd) (.str (jn p.k)) V3 = some (.ref (p.b + 4)) := by
   unfold item
   dsimp only
   refine rwR hdict ?_
   exact hgt
  have phi := (h3.fo.hi p hp).1
  have fin : ∀ (v : AV) (V5 : Sg), (∃ b da x y, v = .ref (b + 4) /\ V3.length <= b /\ V3.length <= da /\ KB (p.b + 3) V3 V5 /\ V5[p.b + 3]? = some (.list (kidsOf F p.k ++ [.ref (b + 4)])) /\ Nd V5 b da (tagOf k) sE [] /\ V5[da]? = some (.dict [(sLead, .str x), (sEnd, .str y)] none) /\ x ++ y = part k.length) ->
    Ev 42 (ldE lo cells) (.name 44 ⟨123, 16, 123, 21⟩) V5 fun ov V2 => Ev 42 (ldE lo cells) (.name 98 ⟨123, 22, 123, 26⟩) V2 fun iv V3 => O1 (setItm ov iv v V3) fun V4 => Exs 43 (ldE lo cells) [] V4 fun f V2 => Go f (Exs 44 (ldE lo cells) [] V2 Q) (Q f V2) := by
   intro v V5 y35
   refine e12 y35 fun b da x y z36 hb hda kb hl hN hd hxy => ?_
   clear y35
   subst z36
   have S5 := S3.kb kb (h3.fo.node p hp).li (by have := h.h0; lia) fun i o hm => (h3.D2 i o hm).2 p hp
   obtain ⟨V6, e6, L6⟩ := h3.add hp hk hU hpk hnew kb hb hda hl hN hd hxy
   refine ev_name (S5.get 44 _ h.m44) (ev_name (S5.get 98 _ rfl) ⟨V6, e6, ex_nil (ex_nil (hq V6 _ L6 ?_ (fun n hn => List.mem_append_left _ hn) ?_))⟩)
   ·unfold addK; rw [if_neg hnew, List.map_append]; rfl
   ·intro j o e1 e2
    have e4 := kp j o e1 (iter_plain e2)
    have e5 := kb.get e4 (fun q => by rw [q, (h3.fo.node p hp).li] at e4; cases e4; cases e2)
    have e3 : j ≠ nd := fun q => by rw [q, hdict] at e4; cases e4; cases e2
    unfold setItm at e6
    dsimp only at e6
    rw [kb.get hdict (Nat.ne_of_lt (Nat.lt_add_right _ phi))] at e6
    dsimp only at e6
    split at e6
    ·obtain ⟨_, _, q⟩ := upd_some' e6
     refine rwR q ?_
     refine rwR (List.getElem?_set_ne (fun q => e3 q.symm)) ?_
     exact e5
    ·rcases e6
  refine ex_assignS (ev_ite (ev_cmp (ev_call (ev_glo (by rfl) (by rfl) (evs_cons (ev_name (S3.get 83 _ m83) (evs_nil (cl_bi (len_list r3 (by rw [strAVs_lenL]; lia)) (ev_int (by rfl) ⟨decide (k.length = 3), ?_, _, rfl, ?_⟩)))))))))
  ·rw [strAVs_lenL]
   show some ((k.length : Int) == 3) = _
   by_cases q : k.length = 3
   ·refine rwR q ?_
    rfl
   ·rw [decide_eq_false q, show ((k.length : Int) == 3) = false from beq_false_of_ne (by lia)]
  have hN3 := h3.fo.node p hp
  have hlast := item_last r3 (Nat.le_trans kl (by decide)) hk
  have tail : ∀ {g : Nat} {x y : Str} {kw : List (Nat × AV)} {ys : List (Str × AV)} {e1 : Option Nat}, V3[g]? = some (.dict [(sLead, .str x), (sEnd, .str y)] (some 2)) -> (∃ y', (dputs ys (dputs [(sLead, .str x), (sEnd, .str y)] ([], none))).1 = [(sLead, .str x), (sEnd, .str y')] /\ x ++ y' = part k.length) -> ys.length <= 10 ->
    bindsA fSubElement [.ref (p.b + 4), .str (tagOf k), .ref g] kw V3 = some ([(18, .ref (p.b + 4)), (19, .str (tagOf k)), (20, .ref g), (21, .ref V3.length)], V3 ++ [.dict ys e1]) ->
    Clk 40 (.ref 0) [.ref (p.b + 4), .str (tagOf k), .ref g] kw V3 fun v V5 => Ev 42 (ldE lo cells) (.name 44 ⟨123, 16, 123, 21⟩) V5 fun ov V2 => Ev 42 (ldE lo cells) (.name 98 ⟨123, 22, 123, 26⟩) V2 fun iv V3 => O1 (setItm ov iv v V3) fun V4 => Exs 43 (ldE lo cells) [] V4 fun f V2 => Go f (Exs 44 (ldE lo cells) [] V2 Q) (Q f V2) := by
   intro g x y kw ys e1 hg ⟨y', hm, hxy⟩ hl hb
   refine (sub_run (by decide) S3.topN hN3 (Nat.le_of_lt (Nat.lt_of_le_of_lt h21 phi)) hb hg hm ⟨by show 2 <= 10; decide, hl⟩ (h3.kids p.k)).mono fun v V5 hv => ?_
   refine e9 hv fun b da z37 hb hda kb hl hN hd => ?_
   clear hv
   subst z37
   exact fin _ _ ⟨b, da, _, _, rfl, hb, hda, kb, hl, hN, hd, hxy⟩
  by_cases q : k.length = 3
  ·refine rwR (decide_eq_true q) ?_
   refine rwR (if_pos rfl) ?_
   refine ev_call (ev_glo (by rfl) (by rfl) (evs_cons (ev_sub (ev_name (S3.get 44 _ h.m44) (ev_name (S3.get 99 _ rfl) ⟨_, hit, ?_⟩)))))
   refine evs_cons (ev_sub (ev_name (S3.get 83 _ m83) (ev_neg (ev_int (by rfl) ⟨1, rfl, by rfl, _, hlast, ?_⟩))))
   refine evs_cons (ev_sub (ev_name (S3.get 42 _ h.m42) (ev_int (by rfl) ⟨.ref g3, item_list hgv (by decide) (by decide) rfl, ?_⟩)))
   exact evs_nil (tail (S3.at_ d3) ⟨_, merge3 _ _, by rw [q]; rfl⟩ (by decide) gD_binds)
  ·refine rwR (decide_eq_false q) ?_
   refine rwR (if_neg (by nofun)) ?_
   have hp1 := List.length_pos_iff.mpr hk
   refine ev_callk rfl (ev_glo (by rfl) (by rfl) (evs_cons (ev_sub (ev_name (S3.get 44 _ h.m44) (ev_name (S3.get 99 _ rfl) ⟨_, hit, ?_⟩)))))
   refine evs_cons (ev_sub (ev_name (S3.get 83 _ m83) (ev_neg (ev_int (by rfl) ⟨1, rfl, by rfl, _, hlast, ?_⟩))))
   refine evs_cons (ev_sub (ev_name (S3.get 42 _ h.m42) (ev_call (ev_glo (by rfl) (by rfl) (evs_cons (ev_name (S3.get 83 _ m83) (evs_nil (cl_bi (len_list r3 (by rw [strAVs_lenL]; lia)) ?_))))))))
   rw [strAVs_lenL]
   have two : k.length = 1 \/ k.length = 2 := by lia
   rcases two with q | q <;> rw [q]
   ·exact ⟨.ref g1, item_list hgv (by decide) (by decide) rfl, evs_nil (evs_cons (ev_str (evs_nil (tail (S3.at_ d1) ⟨_, mergeK _ _, by rw [q]; rfl⟩ (by decide) gD_bindsK))))⟩
   ·exact ⟨.ref g2, item_list hgv (by decide) (by decide) rfl, evs_nil (evs_cons (ev_str (evs_nil (tail (S3.at_ d2) ⟨_, mergeK _ _, by rw [q]; rfl⟩ (by decide) gD_bindsK))))⟩
noncomputable def okR (U : List (List Str)) : List (List Str) -> List (List Str) -> Prop
 | _, [] => True
 | ks, k :: r => k ≠ [] /\ k ∈ U /\ k.dropLast ∈ ks /\ okR U (addK ks k) r
noncomputable def refsOf' (rows : List (Nat × List Str)) : List AV := rows.map fun p => AV.ref p.1
theorem Ld.itr {U : List (List Str)} {F : List Nn} {o : AO} (h : Ld V0 lo cells U gv nd fh Vg m D F V) (hi : V[it]? = some o) (io : isItr o = true) (h0 : V0.length <= it) (hg : it < nd -> fh <= it -> False) (hD : ∀ i o, (i, o) ∈ D -> i ≠ it) : Ld V0 lo cells U gv nd fh Vg m D F (V.set it o') := by
 have ne : ∀ {j : Nat} {x : AO}, V[j]? = some x -> isItr x = false -> (V.set it o')[j]? = some x := fun {j x} e q => by
  rw [List.getElem?_set_ne (fun e2 => by subst e2; rw [hi] at e; cases e; rw [io] at q; cases q)]; exact e
 exact { h with
  fr := h.fr.updP hi (iter_plain io) h0 hD
  fo := { h.fo with
   node := fun n hn => by
    have N := h.fo.node n hn
    exact ⟨ne N.ca rfl, ne N.cb rfl, ne N.li rfl, ne N.fe rfl, ne N.at_ rfl, ne N.fa rfl, ne N.fi rfl⟩
   dat := fun n hn => by
    refine e4 (h.fo.dat n hn) fun x y h1 h2 => ?_
    exact ⟨x, y, ne h1 rfl, h2⟩ }
  dict := by obtain ⟨ep, e⟩ := h.dict; exact ⟨ep, ne e rfl⟩
  low := fun j h1 h2 => by
   rw [List.getElem?_set_ne (fun q => by subst q; exact hg h2 h1)]; exact h.low j h1 h2 }
theorem look_skip {α : Type} {x y : Nat} {v : α} {m : List (Nat × α)} (h : x ≠ y) : look y ((x, v) :: m) = look y m := by
 rw [show look y ((x, v) :: m) = if x = y then some v else look y m from rfl, if_neg h]
theorem getKI {P : Nat -> AO -> Prop} (h : ItAt P V it xs) (k : KI V V') (hp : ∀ (j : Nat) (o : AO), P j o -> V'[j]? = some o) : ItAt P V' it xs := by
 refine e4 h fun o h1 h2 h3 => ?_
 clear h
 exact i4 o (k _ _ h1 h2.isItr) h2 hp
theorem rows_loop {U : List (List Str)} {it : Ex} {rest : List Sm} {Q : AF -> Sg -> Prop} (m83 : look 83 m = none)
  (hit : Ev 44 (ldE lo cells) it Vb fun v V => ∃ jl rows D F, v = .ref jl /\ Ld V0 lo cells U gv nd fh Vg m D F V /\ (∀ p, p ∈ rows -> (p.1, .list (strAVs p.2)) ∈ D) /\ (jl, .list (refsOf' rows)) ∈ D /\ okR U (F.map (·.k)) (rows.map (·.2)) /\ rows.length < 1000 /\
   (∀ V' F', Ld V0 lo cells U gv nd fh Vg m D F' V' -> F'.map (·.k) = (rows.map (·.2)).foldl addK (F.map (·.k)) -> (∀ n, n ∈ F -> n ∈ F') -> KI V V' -> Exs 45 (ldE lo cells) rest V' Q)) : Exs 45 (ldE lo cells) (.forS [(83, q)] none it rowB [] p :: rest) Vb Q := by
 refine ex_loop (hit.mono fun v V' hv => ?_) (by decide)
 refine e11 hv fun jl rows D F z1 h hD hj ok hl hq => ?_
 clear hv
 subst z1
 have nlt : nd < V'.length := by obtain ⟨ep, e⟩ := h.dict; exact lt_of_get e
 have h21 : 21 <= nd := Nat.le_trans h.fr.top.len h.h0
 have lj := h.fr.at_ hj
 refine ⟨.liter jl 0, refsOf' rows, fun j o => j = jl /\ o = .list (refsOf' rows), fun xs V1 => ∃ rows' F', xs = refsOf' rows' /\ (∀ p, p ∈ rows' -> (p.1, AO.list (strAVs p.2)) ∈ D) /\ Ld V0 lo cells U gv nd fh Vg m D F' V1 /\ okR U (F'.map (·.k)) (rows'.map (·.2)) /\ (rows'.map (·.2)).foldl addK (F'.map (·.k)) = (rows.map (·.2)).foldl addK (F.map (·.k)) /\ (∀ n, n ∈ F -> n ∈ F') /\ (∀ (j : Nat) (o : AO), V'[j]? = some o -> isItr o = true -> V1[j]? = some o),
  ⟨(aiter_list lj).1, _, ⟨rfl, rfl⟩, rfl⟩, ?_, (Nat.le_of_lt (Nat.lt_of_le_of_lt h21 nlt)), by unfold refsOf'; rw [List.length_map]; exact hl, ?_, ?_, ?_, ?_⟩
 ·intro j o y2
  refine e2 y2 fun z3 z4 => ?_
  clear y2
  subst z3
  subst z4
  exact ⟨lj, rfl⟩
 ·refine i9 rows F rfl hD (h.step (h.fr.to (Keep.app _ _)) (fun j h1 h2 => (Keep.app _ _).2 j h2) h.m44 h.m42 h.m98 h.m99) ok rfl (fun _ h => h) (fun j o e _ => (Keep.app _ _).get e)
 ·intro xs V1 o o' y5 ho io
  refine e9 y5 fun rows' F' z6 a1 a2 a3 a4 a5 a6 => ?_
  clear y5
  subst z6
  refine i9 rows' F' rfl a1 (a2.itr ho io (by have := h.h0; lia) (fun q _ => (absurd (Nat.lt_trans nlt q) (Nat.lt_irrefl _))) (fun i o2 hm e => ?_)) a3 a4 a5 (fun j o2 e i2 => ?_)
  ·have := lt_of_get (h.fr.dat i o2 hm).1; lia
  ·refine rwR (List.getElem?_set_ne (fun q => by have := lt_of_get e; lia)) ?_
   exact a6 j o2 e i2
 ·intro x xs V1 y7 hA Qb hn _ _
  refine e9 y7 fun rows' F' hx a1 a2 a3 a4 a5 a6 => ?_
  clear y7
  obtain _ | ⟨⟨r, k⟩, rows''⟩ := rows'
  ·contradiction
  ·refine e2 (List.cons.inj hx) fun z24 z25 => ?_
   subst z24
   subst z25
   refine e4 a3 fun b1 b2 b3 b4 => ?_
   refine e3 (List.mem_map.mp b3) fun pn hp hpk => ?_
   refine e5 (a2.fr.set (x := 83) (kindOk_or rfl) (.ref r)) fun V2 e2 S2 p2 f2 => ?_
   refine ⟨V2, e2, ?_⟩
   have L2 : Ld V0 lo cells U gv nd fh Vg ((83, .ref r) :: m) D F' V2 := a2.step S2 (fun j h1 h2 => f2.hi a2.H h1) ((look_skip (by decide)).trans a2.m44) ((look_skip (by decide)).trans a2.m42) ((look_skip (by decide)).trans a2.m98) ((look_skip (by decide)).trans a2.m99)
   refine row_step L2 hp b1 b2 hpk.symm (by rfl) (a1 _ List.mem_cons_self) fun V3 F3 L3 k3 s3 i3 => ?_
   have ki : KI V1 V3 := p2.ki.trans i3
   refine hn _ ⟨rows'', F3, rfl, fun p hp => a1 p (List.mem_cons_of_mem _ hp), L3.step (L3.fr.drop1 m83) (fun _ _ _ => rfl) a2.m44 a2.m42 a2.m98 a2.m99, ?_, ?_, fun n hn => s3 n (a5 n hn), fun j o e i => ki j o (a6 j o e i) i⟩ (getKI hA ki ?_)
   ·refine rwR k3 ?_
    exact b4
   ·refine rwR k3 ?_
    exact a4
   ·rintro j o ⟨rfl, rfl⟩
    exact L3.fr.at_ hj
 ·intro V1 y11
  refine e9 y11 fun rows' F' hx a1 a2 a3 a4 a5 a6 => ?_
  clear y11
  obtain _ | ⟨x, rows''⟩ := rows'
  ·exact hq V1 F' a2 a4 a5 a6
  ·contradiction
theorem Ld.new {U : List (List Str)} {F : List Nn} (h : Ld V0 lo cells U gv nd fh Vg m D F V) (o : AO) (hp : plain o = true) : Ld V0 lo cells U gv nd fh Vg m ((V.length, o) :: D) F (V ++ [o]) := by
 have a := h.step (h.fr.to (Keep.app _ [o])) (fun j h1 h2 => (Keep.app _ _).2 j h2) h.m44 h.m42 h.m98 h.m99
 exact { a with
  fr := h.fr.new o hp
  D1 := by
   refine e8 h.D1 fun g0 g1 g2 g3 d0 d1 d2 d3 => ?_
   exact i8 g0 g1 g2 g3 (List.mem_cons_of_mem _ d0) (List.mem_cons_of_mem _ d1) (List.mem_cons_of_mem _ d2) (List.mem_cons_of_mem _ d3)
  D2 := fun i o2 hm => by
   rcases List.mem_cons.mp hm with e | hm
   ·injection e
    refine e2 h.dict fun ep e => ?_
    refine ⟨?_, fun n hn => ?_⟩
    ·have := lt_of_get e; lia
    ·have := (h.fo.node n hn).lt; lia
   ·exact h.D2 i o2 hm }
theorem Ld.lessD {U : List (List Str)} {D' : List (Nat × AO)} {F : List Nn} (h : Ld V0 lo cells U gv nd fh Vg m D' F V) (hD : ∀ x, x ∈ D -> x ∈ D') (d1 : ∃ g0 g1 g2 g3, (gv, .list [.ref g0, .ref g1, .ref g2, .ref g3]) ∈ D /\ (g1, gD 1) ∈ D /\ (g2, gD 2) ∈ D /\ (g3, gD 3) ∈ D) : Ld V0 lo cells U gv nd fh Vg m D F V :=
 {h with fr := { h.fr with dat := fun j o hm => h.fr.dat j o (hD _ hm) }, D1 := d1, D2 := fun i o hm => h.D2 i o (hD _ hm) }
noncomputable abbrev Tr := Str × Str × Str
noncomputable def seven (t : Tr) : List (List Str) := [[t.1], [t.2.1], [t.2.2], [t.1, t.2.1], [t.1, t.2.2], [t.2.1, t.2.2], [t.1, t.2.1, t.2.2]]
noncomputable def trAO (t : Tr) : AO := .list [.str t.1, .str t.2.1, .str t.2.2]
theorem mem_addK {l : List (List Str)} {k : List Str} : k ∈ addK l k := by
 unfold addK; split
 ·assumption
 ·simp
theorem sub_addK {l : List (List Str)} {k x : List Str} (h : x ∈ l) : x ∈ addK l k := by
 unfold addK; split
 ·exact h
 ·exact List.mem_append_left _ h
theorem sub_fold {x : List Str} : ∀ {ks l : List (List Str)}, x ∈ l -> x ∈ ks.foldl addK l
 | [], _, h => h
 | _ :: r, _, h => sub_fold (ks := r) (sub_addK h)
theorem okR_seven {U l : List (List Str)} {t : Tr} (h : [] ∈ l) (hU : ∀ k, k ∈ seven t -> k ∈ U) : okR U l (seven t) := by
 have m : ∀ k, k ∈ seven t -> k ∈ U := hU
 unfold seven at m ⊢
 refine ⟨by simp, m _ (by simp), h, by simp, m _ (by simp), sub_addK h, by simp, m _ (by simp), sub_addK (sub_addK h), by simp, m _ (by simp), ?_, by simp, m _ (by simp), ?_, by simp, m _ (by simp), ?_, by simp, m _ (by simp), ?_, trivial⟩
 ·exact sub_addK (sub_addK mem_addK)
 ·exact sub_addK (sub_addK (sub_addK mem_addK))
 ·exact sub_addK (sub_addK (sub_addK mem_addK))
 ·exact sub_addK (sub_addK mem_addK)
noncomputable def outB : List Sm := forB (smAt f_law_lead_b 4)
theorem setEach3 {x y z : Nat} {r : Pos} {u w : AV} (hS : S V0 E V m D) (hx : kindOk E.sc x = true) (hy : kindOk E.sc y = true) (hz : kindOk E.sc z = true) :
  ∃ V', setEach E [(x, q), (y, p), (z, r)] [u, v, w] V = some V' /\ S V0 E V' ((z, w) :: (y, v) :: (x, u) :: m) D /\ Pl V V' /\ Pf E V V' := by
 refine e5 (hS.set (kindOk_or hx) u) fun V1 h1 h2 h3 h4 => ?_
 refine e5 (setEach2 (q := p) (p := r) (v := v) (w := w) h2 hy hz) fun V2 g1 g2 g3 g4 => ?_
 refine i5 V2 ?_ g2 (h3.trans g3) (h4.trans g4)
 refine (?_ : (setN E x u V).bind (fun s => setEach E [(y, p), (z, r)] [v, w] s) = _)
 refine rwR h1 ?_
 exact g1
theorem triple_step {U : List (List Str)} {F : List Nn} {Q : AF -> Sg -> Prop} {t : Tr} (h : Ld V0 lo cells U gv nd fh Vg m D F V) (m80 : look 80 m = some (.str t.1)) (m81 : look 81 m = some (.str t.2.1)) (m82 : look 82 m = some (.str t.2.2)) (m83 : look 83 m = none) (hU : ∀ k, k ∈ seven t -> k ∈ U) (h0 : [] ∈ F.map (·.k))
  (hq : ∀ V' F', Ld V0 lo cells U gv nd fh Vg m D F' V' -> F'.map (·.k) = (seven t).foldl addK (F.map (·.k)) -> (∀ n, n ∈ F -> n ∈ F') -> KI V V' -> Q .next V') : Exs 45 (ldE lo cells) outB V Q := by
 have disp : ∀ {ks : List Str} {els es : List Ex} {p : Pos} {D : List (Nat × AO)} {V : Sg} {Q : List AV -> Sg -> Prop}, Ld V0 lo cells U gv nd fh Vg m D F V -> els.length <= 100 -> (Evs 42 (ldE lo cells) els V fun vs V' => vs = strAVs ks /\ V' = V) ->
   (∀ V' r, Ld V0 lo cells U gv nd fh Vg m ((r, .list (strAVs ks)) :: D) F V' -> KI V V' -> Evs 43 (ldE lo cells) es V' fun vs V2 => Q (.ref r :: vs) V2) -> Evs 43 (ldE lo cells) (.list els p :: es) V Q := by
  intro ks els es p D V Q h hl hev k
  refine N2.e5 hev.out fun vs V' h1 z253 z254 => ?_
  subst z253
  subst z254
  exact evs_cons (ev_list hl ⟨_, _, h1, k _ _ (h.new _ rfl) (Keep.app _ _).pl.ki⟩)
 refine rows_loop (V0 := V0) (gv := gv) (nd := nd) (fh := fh) (Vg := Vg) (U := U) m83 (ev_list (by decide) ?_)
 refine disp (ks := [t.1]) h (by show 1 <= 100; decide) (evs_cons (ev_name (h.fr.get _ _ m80) (evs_nil ⟨rfl, rfl⟩))) fun V1 r1 h1 k1 => ?_
 refine disp (ks := [t.2.1]) h1 (by show 1 <= 100; decide) (evs_cons (ev_name (h1.fr.get _ _ m81) (evs_nil ⟨rfl, rfl⟩))) fun V2 r2 h2 k2 => ?_
 refine disp (ks := [t.2.2]) h2 (by show 1 <= 100; decide) (evs_cons (ev_name (h2.fr.get _ _ m82) (evs_nil ⟨rfl, rfl⟩))) fun V3 r3 h3 k3 => ?_
 refine disp (ks := [t.1, t.2.1]) h3 (by show 2 <= 100; decide) (evs_cons (ev_name (h3.fr.get _ _ m80) (evs_cons (ev_name (h3.fr.get _ _ m81) (evs_nil ⟨rfl, rfl⟩))))) fun V4 r4 h4 k4 => ?_
 refine disp (ks := [t.1, t.2.2]) h4 (by show 2 <= 100; decide) (evs_cons (ev_name (h4.fr.get _ _ m80) (evs_cons (ev_name (h4.fr.get _ _ m82) (evs_nil ⟨rfl, rfl⟩))))) fun V5 r5 h5 k5 => ?_
 refine disp (ks := [t.2.1, t.2.2]) h5 (by show 2 <= 100; decide) (evs_cons (ev_name (h5.fr.get _ _ m81) (evs_cons (ev_name (h5.fr.get _ _ m82) (evs_nil ⟨rfl, rfl⟩))))) fun V6 r6 h6 k6 => ?_
 refine disp (ks := [t.1, t.2.1, t.2.2]) h6 (by show 3 <= 100; decide) (evs_cons (ev_name (h6.fr.get _ _ m80) (evs_cons (ev_name (h6.fr.get _ _ m81) (evs_cons (ev_name (h6.fr.get _ _ m82) (evs_nil ⟨rfl, rfl⟩))))))) fun V7 r7 h7 k7 => ?_
 refine evs_nil ⟨V7.length, [(r1, [t.1]), (r2, [t.2.1]), (r3, [t.2.2]), (r4, [t.1, t.2.1]), (r5, [t.1, t.2.2]), (r6, [t.2.1, t.2.2]), (r7, [t.1, t.2.1, t.2.2])], _, F, rfl, h7.new _ rfl, ?_, List.mem_cons_self, okR_seven h0 hU, (by show 7 < 1000; decide), fun V' F' L' k' s' i' => ex_nil (hq V' F' (L'.lessD (fun x hx => by simp [hx]) h.D1) k' s' (k1.trans (k2.trans (k3.trans (k4.trans (k5.trans (k6.trans (k7.trans ((Keep.app _ _).pl.ki.trans i')))))))))⟩
 simp
noncomputable def addT (ks : List (List Str)) (t : Tr) : List (List Str) := (seven t).foldl addK ks
theorem triples_loop {mi : Nat} {U : List (List Str)} {F : List Nn} {q1 q2 q3 q4 q5 : Pos} {rest : List Sm} {Q : AF -> Sg -> Prop} {tr : List (Nat × Tr)} (h : Ld V0 lo cells U gv nd fh Vg m D F V)
  (m40 : look 40 m = some (.ref mi)) (m80 : look 80 m = none) (m81 : look 81 m = none) (m82 : look 82 m = none) (m83 : look 83 m = none) (hmi : V0[mi]? = some (.list (tr.map fun x => .ref x.1))) (htr : ∀ x, x ∈ tr -> V0[x.1]? = some (trAO x.2)) (hU : ∀ x, x ∈ tr -> ∀ k, k ∈ seven x.2 -> k ∈ U) (h0 : [] ∈ F.map (·.k)) (hl : tr.length < 1000)
  (hq : ∀ V' F', Ld V0 lo cells U gv nd fh Vg m D F' V' -> F'.map (·.k) = (tr.map (·.2)).foldl addT (F.map (·.k)) -> (∀ n, n ∈ F -> n ∈ F') -> Exs 46 (ldE lo cells) rest V' Q) : Exs 46 (ldE lo cells) (.forS [(80, q1), (81, q2), (82, q3)] (some q4) (.name 40 q5) outB [] p :: rest) V Q := by
 refine ex_loop (ev_name (h.fr.get _ _ m40) ?_) (by decide)
 have nlt : nd < V.length := by obtain ⟨ep, e⟩ := h.dict; exact lt_of_get e
 have h21 : 21 <= nd := Nat.le_trans h.fr.top.len h.h0
 have lj := h.fr.base hmi
 refine ⟨.liter mi 0, tr.map (fun x => .ref x.1), fun j o => j = mi /\ o = .list (tr.map fun x => .ref x.1), fun xs V1 => ∃ (tr' : List (Nat × Tr)) (F' : List Nn), xs = tr'.map (fun x => .ref x.1) /\ (∀ x, x ∈ tr' -> x ∈ tr) /\ Ld V0 lo cells U gv nd fh Vg m D F' V1 /\ [] ∈ F'.map (·.k) /\ (tr'.map (·.2)).foldl addT (F'.map (·.k)) = (tr.map (·.2)).foldl addT (F.map (·.k)) /\ (∀ n, n ∈ F -> n ∈ F'),
  ⟨(aiter_list lj).1, _, ⟨rfl, rfl⟩, rfl⟩, ?_, (Nat.le_of_lt (Nat.lt_of_le_of_lt h21 nlt)), by rw [List.length_map]; exact hl, ?_, ?_, ?_, ?_⟩
 ·intro j o y27
  refine e2 y27 fun z28 z29 => ?_
  clear y27
  subst z28
  subst z29
  exact ⟨lj, rfl⟩
 ·exact i8 tr F rfl (fun _ h => h) (h.step (h.fr.to (Keep.app _ _)) (fun j h1 h2 => (Keep.app _ _).2 j h2) h.m44 h.m42 h.m98 h.m99) h0 rfl (fun _ h => h)
 ·intro xs V1 o o' y30 ho io
  refine e8 y30 fun tr' F' z31 a1 a2 a3 a4 a5 => ?_
  clear y30
  subst z31
  refine i8 tr' F' rfl a1 (a2.itr ho io (by have := h.h0; lia) (fun q _ => (absurd (Nat.lt_trans nlt q) (Nat.lt_irrefl _))) (fun i o2 hm e => ?_)) a3 a4 a5
  have := lt_of_get (h.fr.dat i o2 hm).1; lia
 ·intro x xs V1 y32 hA Qb hn _ _
  refine e8 y32 fun tr' F' hx a1 a2 a3 a4 a5 => ?_
  clear y32
  obtain _ | ⟨⟨r, t⟩, tr''⟩ := tr'
  ·contradiction
  ·refine e2 (List.cons.inj hx) fun z31 z32 => ?_
   subst z31
   subst z32
   have hr := a2.fr.base (htr _ (a1 _ List.mem_cons_self))
   refine e5 (setEach3 (q := q1) (p := q2) (r := q3) (u := .str t.1) (v := .str t.2.1) (w := .str t.2.2) a2.fr (x := 80) (y := 81) (z := 82) rfl rfl rfl) fun V2 e2 S2 p2 f2 => ?_
   refine ⟨V2, ?_, ?_⟩
   ·refine (?_ : (unpackA (.ref r) 3 V1).bind _ = _)
    unfold unpackA
    dsimp only
    refine rwR hr ?_
    exact e2
   have L2 : Ld V0 lo cells U gv nd fh Vg ((82, .str t.2.2) :: (81, .str t.2.1) :: (80, .str t.1) :: m) D F' V2 := a2.step S2 (fun j h1 h2 => f2.hi a2.H h1) a2.m44 a2.m42 a2.m98 a2.m99
   refine triple_step (t := t) L2 (by rfl) (by rfl) (by rfl) m83 (hU _ (a1 _ List.mem_cons_self)) a3 fun V3 F3 L3 k3 s3 i3 => ?_
   refine hn _ ⟨tr'', F3, rfl, fun x hx => a1 x (List.mem_cons_of_mem _ hx), L3.step (((L3.fr.drop1 m82).drop1 m81).drop1 m80) (fun _ _ _ => rfl) a2.m44 a2.m42 a2.m98 a2.m99, ?_, ?_, fun n hn => s3 n (a5 n hn)⟩ (getKI hA (p2.ki.trans i3) ?_)
   ·refine rwR k3 ?_
    exact sub_fold a3
   ·refine rwR k3 ?_
    exact a4
   ·rintro j o ⟨rfl, rfl⟩
    exact L3.fr.base hmi
 ·intro V1 y36
  refine e8 y36 fun tr' F' hx a1 a2 a3 a4 a5 => ?_
  clear y36
  obtain _ | ⟨x, tr''⟩ := tr'
  ·exact hq V1 F' a2 a4 a5
  ·contradiction
section
section
variable {n : Nat} {E : AE} {V1 : Sg} {acc x1 x2 : Nat} {p1 p2 q : Pos} {it2 : Ex}
theorem copy_loop {j : Nat} {vs : List AV} (k : kindOk E.sc x2 = true) (hb : V1.length <= acc) (hit : V1.length <= it) (hja : j ≠ acc) (hai : acc ≠ it) :
  ∀ (rest : List AV) (i f : Nat) (V : Sg) (ys : List AV), vs.drop i = rest -> rest.length < f -> S V1 E V [] [] -> V[acc]? = some (.list ys) -> V[j]? = some (.list vs) -> V[it]? = some (.liter j i) -> ys.length + rest.length <= 900 ->
  ∃ V', loopComp (lvO (n + 1)) E (.name x2 q) [(x2, p2)] none [] acc it f V = some V' /\ S V1 E V' [] [] /\ V'[acc]? = some (.list (ys ++ rest)) /\ PB acc it V V'
 | rest, i, 0, V, ys, hd, hf, hS, ha, hl, hi, hn => (absurd hf (Nat.not_lt_zero _))
 | [], i, f + 1, V, ys, hd, hf, hS, ha, hl, hi, hn => by
  have h21 := hS.top.len
  have e : anext it V = some (none, V.set it .dead) := by
   unfold anext
   rw [hi]; dsimp only
   rw [hl]; dsimp only
   rw [drop_nil hd]; dsimp only
   rw [upd_ok (Nat.le_trans h21 hit) (lt_of_get hi)]; rfl
  refine ⟨V.set it .dead, ?_, hS.updP hi rfl hit noD0, ?_, PB.setb⟩
  ·unfold loopComp; rw [e]; rfl
  ·rw [List.getElem?_set_ne (fun e => hai e.symm), List.append_nil]; exact ha
 | x :: r, i, f + 1, V, ys, hd, hf, hS, ha, hl, hi, hn => by
  have h21 := hS.top.len
  refine e2 (drop_cons hd) fun hx hd' => ?_
  have e : anext it V = some (some x, V.set it (.liter j (i + 1))) := by
   unfold anext
   rw [hi]; dsimp only
   rw [hl]; dsimp only
   rw [hx]; dsimp only
   rw [upd_ok (Nat.le_trans h21 hit) (lt_of_get hi)]; rfl
  have S1 : S V1 E (V.set it (.liter j (i + 1))) [] [] := hS.updP hi rfl hit noD0
  refine e5 (S1.set (kindOk_or k) x) fun V2 e2 S2 pl2 f2 => ?_
  have pb2 : PB acc it V V2 := PB.setb.trans pl2.pb
  have ij : j ≠ it := fun q => by rw [q, hi] at hl; cases hl
  have a2 : V2[acc]? = some (.list ys) := pl2.2 _ _ rfl (by rw [List.getElem?_set_ne (fun e => hai e.symm)]; exact ha)
  have j2 := pb2.2 _ _ rfl hja ij hl
  have i2 : V2[it]? = some (.liter j (i + 1)) := pl2.2 _ _ rfl (List.getElem?_set_self (lt_of_get hi))
  rw [List.length_cons] at hf hn
  have pb3 : PB acc it V2 (V2.set acc (.list (ys ++ [x]))) := PB.seta
  have S3 : S V1 E (V2.set acc (.list (ys ++ [x]))) [] [] := (S2.updP a2 rfl hb noD0).noM
  refine e5 (copy_loop k hb hit hja hai r (i + 1) f (V2.set acc (.list (ys ++ [x]))) (ys ++ [x]) hd' (Nat.lt_of_succ_lt_succ hf) S3 (List.getElem?_set_self (lt_of_get a2)) (pb3.2 _ _ rfl hja ij j2) (by rw [List.getElem?_set_ne hai]; exact i2) (by rw [List.length_append]; simp; lia)) fun V' g1 g2 g3 g4 => ?_
  refine ⟨V', ?_, g2, ?_, pb2.trans (pb3.trans g4)⟩
  ·unfold loopComp
   rw [e]
   refine (?_ : (setN E x2 x (V.set it (.liter j (i + 1)))).bind _ = _)
   rw [e2]
   refine (?_ : ((getN E x2 V2).map (·, V2)).bind (fun y => (pushL acc y.1 y.2).bind fun s => loopComp (lvO (n + 1)) E (.name x2 q) [(x2, p2)] none [] acc it f s) = _)
   rw [S2.get x2 x (by unfold look; rw [if_pos rfl])]
   refine (?_ : (pushL acc x V2).bind _ = _)
   rw [pushL_ok a2 (by lia) (Nat.le_trans h21 hb)]
   exact g1
  ·rw [List.append_assoc] at g3; exact g3
noncomputable def cat (T : Nat -> List Str) (cs : List Nat) : List AV := (cs.map fun c => strAVs (T c)).flatten
theorem cat_cons (T : Nat -> List Str) (c : Nat) (cs : List Nat) : cat T (c :: cs) = strAVs (T c) ++ cat T cs := rfl
theorem kids_loop {kids : List AV} {T : Nat -> List Str} (k1 : kindOk E.sc x1 = true) (k2 : kindOk E.sc x2 = true) (hb : V1.length <= acc) (hit : V1.length <= it) (hai : acc ≠ it) (hl : V1[l]? = some (.list kids)) {pm : Pos} (hp : (pa.endLine == pm.line && decide (([] : List Ex).length <= 20)) = true) :
  ∀ (cs : List Nat) (i f : Nat) (V : Sg) (ys : List AV), kids.drop i = cs.map (fun c => AV.ref (c + 4)) -> cs.length < f ->
  (∀ c, c ∈ cs -> ∀ V, Keep V1 V -> methOf (.ref (c + 4)) 39 V = some (.fn (.ref (c + 7))) /\ Cl (n + 1) (.ref (c + 7)) [] V fun v V' => Keep V V' /\ ∃ j, v = .ref j /\ V.length <= j /\ V'[j]? = some (.list (strAVs (T c)))) -> S V1 E V [] [] -> V[acc]? = some (.list ys) -> V[it]? = some (.liter l i) -> ys.length + (cat T cs).length <= 900 ->
  ∃ V', loopComp2 (lvO (n + 2)) E (.name x2 q) x1 p1 x2 p2 (.meth (.name x1 p3) 39 pa [] pm) [] acc it f V = some V' /\ S V1 E V' [] [] /\ V'[acc]? = some (.list (ys ++ cat T cs))
 | cs, i, 0, V, ys, hd, hf, H, hS, ha, hi, hn => (absurd hf (Nat.not_lt_zero _))
 | [], i, f + 1, V, ys, hd, hf, H, hS, ha, hi, hn => by
  have h21 := hS.top.len
  have e : anext it V = some (none, V.set it .dead) := by
   unfold anext
   rw [hi]; dsimp only
   rw [hS.base hl]; dsimp only
   rw [drop_nil hd]; dsimp only
   rw [upd_ok (Nat.le_trans h21 hit) (lt_of_get hi)]; rfl
  refine ⟨V.set it .dead, ?_, hS.updP hi rfl hit noD0, ?_⟩
  ·unfold loopComp2; rw [e]; rfl
  ·rw [List.getElem?_set_ne (fun e => hai e.symm)]
   rw [ha, show cat T [] = [] from rfl, List.append_nil]
 | c :: cs, i, f + 1, V, ys, hd, hf, H, hS, ha, hi, hn => by
  have h21 := hS.top.len
  rw [List.map_cons] at hd
  refine e2 (drop_cons hd) fun hx hd' => ?_
  have e : anext it V = some (some (.ref (c + 4)), V.set it (.liter l (i + 1))) := by
   unfold anext
   rw [hi]; dsimp only
   rw [hS.base hl]; dsimp only
   rw [hx]; dsimp only
   rw [upd_ok (Nat.le_trans h21 hit) (lt_of_get hi)]; rfl
  have S1 : S V1 E (V.set it (.liter l (i + 1))) [] [] := hS.updP hi rfl hit noD0
  refine e5 (S1.set (kindOk_or k1) (.ref (c + 4))) fun V2 e2 S2 pl2 f2 => ?_
  have a2 : V2[acc]? = some (.list ys) := pl2.2 _ _ rfl (by rw [List.getElem?_set_ne (fun e => hai e.symm)]; exact ha)
  have i2 : V2[it]? = some (.liter l (i + 1)) := pl2.2 _ _ rfl (List.getElem?_set_self (lt_of_get hi))
  obtain ⟨hm, v, V3, h3, k3, j, rfl, hj, l3⟩ := H c List.mem_cons_self V2 S2.keep
  have e3 : (lvO (n + 2)).ev E (.meth (.name x1 p3) 39 pa [] pm) V2 = some (.ref j, V3) := by
   obtain ⟨w, Vw, q1, q2, q3⟩ := ev_meth (n := n + 1) (E := E) (Q := fun v s => v = .ref j /\ s = V3) hp (ev_name (S2.get x1 _ (by unfold look; rw [if_pos rfl])) ⟨_, hm, evs_nil ⟨.ref j, V3, h3, rfl, rfl⟩⟩)
   rw [q1, q2, q3]
  have S3 := (S2.to k3).noM.to (Keep.app V3 [.liter j 0])
  have kk := k3.trans (Keep.app V3 [.liter j 0])
  rw [cat_cons, List.length_append] at hn
  rw [List.length_cons] at hf
  have lac := lt_of_get a2
  have lit := lt_of_get i2
  have k3l := k3.1
  refine e5 (copy_loop (n := n + 1) (q := q) (p2 := p2) (it := V3.length) (j := j) (vs := strAVs (T c)) k2 hb (Nat.le_of_lt (Nat.lt_of_lt_of_le (Nat.lt_of_le_of_lt hit lit) k3l)) (Nat.ne_of_gt (Nat.lt_of_lt_of_le lac hj)) (Nat.ne_of_lt (Nat.lt_of_lt_of_le lac k3l)) (strAVs (T c)) 0 1000 (V3 ++ [.liter j 0]) ys rfl (by lia) S3 (kk.get a2) ((Keep.app _ _).get l3) (get_new _ _) (by lia)) fun V4 g1 S4 a4 b4 => ?_
  obtain ⟨V', g5, S5, a5⟩ := kids_loop k1 k2 hb hit hai hl hp cs (i + 1) f V4 (ys ++ strAVs (T c)) hd' (Nat.lt_of_succ_lt_succ hf) (fun d hd => H d (List.mem_cons_of_mem _ hd)) S4 a4 (b4.2 _ _ rfl (Ne.symm hai) (Nat.ne_of_lt (Nat.lt_of_lt_of_le lit k3l)) (kk.get i2)) (by rw [List.length_append]; lia)
  refine ⟨V', ?_, S5, by rw [cat_cons, <- List.append_assoc]; exact a5⟩
  unfold loopComp2
  rw [e]
  refine (?_ : (setN E x1 (.ref (c + 4)) (V.set it (.liter l (i + 1)))).bind _ = _)
  rw [e2]
  refine (?_ : ((lvO (n + 2)).ev E (.meth (.name x1 p3) 39 pa [] pm) V2).bind _ = _)
  rw [e3]
  refine (?_ : (aiter (.ref j) V3).bind _ = _)
  rw [(aiter_list l3).1]
  refine (?_ : (loopComp (lvO (n + 2)) E (.name x2 q) [(x2, p2)] none [] acc V3.length 1000 (V3 ++ [.liter j 0])).bind _ = _)
  rw [g1]; exact g5
end
end
theorem strAVs_app : ∀ xs ys : List Str, strAVs (xs ++ ys) = strAVs xs ++ strAVs ys
 | [], ys => rfl
 | x :: r, ys => by show AV.str x :: strAVs (r ++ ys) = _; rw [strAVs_app r ys]; rfl
theorem cat_eq (T : Nat -> List Str) : ∀ cs : List Nat, cat T cs = strAVs (cs.flatMap T)
 | [] => rfl
 | c :: cs => by rw [cat_cons, cat_eq T cs, List.flatMap_cons, strAVs_app]
theorem item_lead {x y : Str} (h : V[da]? = some (.dict [(sLead, .str x), (sEnd, .str y)] ep)) : item (.ref da) (.str sLead) V = some (.str x) := by
 unfold item; dsimp only; rw [h]; rfl
theorem item_end {x y : Str} (h : V[da]? = some (.dict [(sLead, .str x), (sEnd, .str y)] ep)) : item (.ref da) (.str sEnd) V = some (.str y) := by
 unfold item; dsimp only; rw [h]; rfl
theorem bin_str {x y : Str} (h : (x ++ y).cps.size <= 100000) : bin .Add (.str x) (.str y) V = some (.str (x ++ y), V) := by
 refine (?_ : (mkS (x ++ y)).map (·, V) = _)
 unfold mkS; rw [if_pos h]; rfl
theorem bin_lists {j : Nat} (h1 : V[i]? = some (.list xs)) (h2 : V[j]? = some (.list ys)) (h : xs.length + ys.length <= 100000) : bin .Add (.ref i) (.ref j) V = some (.ref V.length, V ++ [.list (xs ++ ys)]) := by
 unfold bin; dsimp only; rw [h1, h2]; dsimp only; rw [if_pos h]; rfl
theorem ev_comp2 {it1 : Ex} {p2 : Pos} (hsc : (sc.map (·.1)).Nodup)
  (h : Ev n E it1 V fun v V1 => ∃ o m0, aiter v V1 = some (V1.length, V1 ++ [o]) /\ Top V1 /\ Fre E sc V1 m0 /\
   (∀ l cells V2, S V1 ⟨sc, l, cells, E.q, E.tab⟩ V2 m0 [] -> V2[V1.length]? = some o -> V2[V1.length + 1]? = some (.list []) -> Keep V1 V2 -> ∃ V3 ys, loopComp2 (lvO n) ⟨sc, l, cells, E.q, E.tab⟩ elt x1 p1 x2 p2 it2 cond (V1.length + 1) V1.length 1000 V2 = some V3 /\ S V1 ⟨sc, l, cells, E.q, E.tab⟩ V3 m0 [] /\ V3[V1.length + 1]? = some (.list ys) /\
    ∀ V', Keep V1 V' -> Pl V3 V' -> V'[V1.length + 1]? = some (.list ys) -> Q (.ref (V1.length + 1)) V')) : Ev (n + 1) E (.comp2 elt x1 p1 it1 x2 p2 it2 cond sc p) V Q := by
 obtain ⟨v, V1, h1, o, m0, h2, T, F, H⟩ := h
 have k1 : Keep V1 (V1 ++ [o] ++ [.list []]) := (Keep.app _ _).trans (Keep.app _ _)
 refine e6 (compEnv_run T hsc F (V1 ++ [o] ++ [.list []]) k1) fun l cells V2 e1 hS k2 => ?_
 have hi : V2[V1.length]? = some o := k2.get (by rw [List.getElem?_append_left (by simp)]; simp)
 have ha : V2[V1.length + 1]? = some (.list []) := k2.get (by rw [List.getElem?_append_right (by simp)]; simp)
 refine e6 (H l cells V2 hS hi ha (k1.trans k2)) fun V3 ys g1 g2 g3 q => ?_
 refine e4 (drop_run (g2.noM)) fun V4 d1 d2 d3 => ?_
 refine ⟨.ref (V1.length + 1), V4, ?_, q V4 d2 d3 (d3.2 _ _ rfl g3)⟩
 refine (?_ : ((lvO n).ev E it1 V).bind (fun r => (aiter r.1 r.2).bind fun t => (compEnv E sc (t.2 ++ [.list []])).bind fun x => (loopComp2 (lvO n) x.1 elt x1 p1 x2 p2 it2 cond t.2.length t.1 1000 x.2).bind fun s => (dropNs x.1.loc s).bind fun s => some (AV.ref t.2.length, s)) = _)
 refine rwR h1 ?_
 refine (?_ : (aiter v V1).bind _ = _)
 refine rwR h2 ?_
 refine (?_ : (compEnv E sc (V1 ++ [o] ++ [.list []])).bind _ = _)
 refine rwR e1 ?_
 have el : (V1 ++ [o]).length = V1.length + 1 := by simp
 refine (?_ : (loopComp2 (lvO n) _ elt x1 p1 x2 p2 it2 cond (V1 ++ [o]).length V1.length 1000 V2).bind _ = _)
 refine rwR el ?_
 refine rwR g1 ?_
 refine (?_ : (dropNs l V3).bind _ = _)
 refine rwR d1 ?_
 rfl
theorem it_run {x y : Str} {cs : List Nat} {T : Nat -> List Str} (T0 : Top V) (h : Nd V b da tag tail (cs.map fun c => AV.ref (c + 4))) (hd : V[da]? = some (.dict [(sLead, .str x), (sEnd, .str y)] ep)) (h21 : 21 <= b)
  (H : ∀ c, c ∈ cs -> ∀ V', Keep V V' -> methOf (.ref (c + 4)) 39 V' = some (.fn (.ref (c + 7))) /\ Cl (n + 2) (.ref (c + 7)) [] V' fun v V'' => Keep V' V'' /\ ∃ j, v = .ref j /\ V'.length <= j /\ V''[j]? = some (.list (strAVs (T c))))
  (hsz : (x ++ y).cps.size <= 100000) (hn : (cs.flatMap T).length <= 900) (hc : cs.length <= 900) :
  Cl (n + 6) (.ref (b + 7)) [] V fun v V' => Keep V V' /\ ∃ j, v = .ref j /\ V.length <= j /\ V'[j]? = some (.list (strAVs ((x ++ y) :: cs.flatMap T))) := by
 refine cl_expr (n := n + 5) T0 h.fi (by rfl) (by rfl) (fr := [(36, .ref (b + 3)), (20, .ref da)]) (fun z c hz hc => ?_) (fun z v hz => ?_) fun l cells V1 hS => ?_
 ·have := h.lt
  unfold look at hc
  split at hc
  ·cases hc; exact (Nat.lt_of_le_of_lt (Nat.add_le_add_left (by decide) _) this)
  ·unfold look at hc
   split at hc
   ·cases hc; exact (Nat.lt_of_le_of_lt (Nat.add_le_add_left (by decide) _) this)
   ·exact noneS hc
 ·unfold look at hz
  split at hz
  ·rename_i e
   cases hz; subst e
   exact ⟨rfl, b + 2, rfl, h.cb⟩
  ·unfold look at hz
   refine iteS hz fun e hz => ?_
   cases hz; subst e
   exact ⟨rfl, b + 1, rfl, h.ca⟩
 have hd1 := hS.base hd
 refine ev_bin (ev_list (by decide) (evs_cons (ev_bin (ev_sub (ev_name (hS.get 20 _ (by rfl)) (ev_str ⟨_, item_lead hd1, ?_⟩))))))
 refine ev_sub (ev_name (hS.get 20 _ (by rfl)) (ev_str ⟨_, item_end hd1, _, _, bin_str hsz, evs_nil ?_⟩))
 have S2 := hS.to (Keep.app V1 [.list [.str (x ++ y)]])
 have g2 : (V1 ++ [AO.list [.str (x ++ y)]])[V1.length]? = some (.list [.str (x ++ y)]) := get_new _ _
 have l12 : V.length <= V1.length := hS.keep.1
 have lt2 := lt_of_get g2
 generalize V1 ++ [AO.list [.str (x ++ y)]] = V2 at S2 g2 lt2 ⊢
 generalize V1.length = r at g2 lt2 l12 ⊢
 have hl2 := S2.base h.li
 refine ev_comp2 (by decide) (ev_name (S2.get 36 _ (by rfl)) ⟨_, [], (aiter_list hl2).1, S2.topN, Fre.of fm_nil (by decide), fun lo cells' V3 S3 hi ha k3 => ?_⟩)
 refine e4 (kids_loop (n := n + 1) (V1 := V2) (acc := V2.length + 1) (it := V2.length) (l := b + 3) (x1 := 88) (x2 := 25) (p1 := ⟨110,76,110,81⟩) (p2 := ⟨110,95,110,99⟩) (q := ⟨110,67,110,71⟩) (p3 := ⟨110,103,110,108⟩) (pa := ⟨110,103,110,117⟩) (pm := ⟨110,103,110,119⟩) rfl rfl (Nat.le_add_right _ _) (Nat.le_refl _) (Nat.succ_ne_self _) hl2 (by rfl) cs 0 1000 V3 [] rfl (Nat.lt_of_le_of_lt hc (by decide)) (fun c hc V' k => H c hc V' (S2.keep.trans k)) S3 ha hi (by rw [cat_eq, strAVs_lenL, List.length_nil, Nat.zero_add]; exact hn)) fun V4 g4 S4 a4 => ?_
 refine i6 V4 _ g4 S4 a4 (fun V5 k5 p5 a5 => ⟨_, _, bin_lists (k5.get g2) a5 ?_, (S2.keep.trans k5).trans (Keep.app _ _), _, rfl, ?_, ?_⟩)
 ·rw [cat_eq]; simp only [List.nil_append, List.length_cons, List.length_nil, strAVs_lenL]; lia
 ·have := k5.1; have := S2.keep.1; lia
 ·rw [get_new, cat_eq]; rfl
noncomputable def chB (p : List Str) (n : Nn) : Bool := decide (n.k ≠ [] /\ n.k.dropLast = p)
noncomputable def kidsN (F : List Nn) (n : Nn) : List Nn := F.filter (chB n.k)
theorem kidsOf_eq (F : List Nn) (n : Nn) : kidsOf F n.k = ((kidsN F n).map (·.b)).map fun c => AV.ref (c + 4) := by
 unfold kidsOf kidsN; rw [List.map_map]; rfl
noncomputable def sz (F : List Nn) : Nat -> Nn -> List Nat
 | 0, n => [n.k.length]
 | f + 1, n => n.k.length :: (kidsN F n).flatMap (sz F f)
theorem filter_or_perm {α : Type} (p q : α -> Bool) (h : ∀ a, p a = true -> q a = true -> False) : ∀ l : List α, (l.filter p ++ l.filter q).Perm (l.filter fun a => p a || q a)
 | [] => .nil
 | a :: l => by
  have ih := filter_or_perm p q h l
  cases hp : p a with
  | true =>
   have hq : q a = false := by cases e : q a with | false => rfl | true => exact (h a hp e).elim
   rw [List.filter_cons_of_pos hp, List.filter_cons_of_neg (by rw [hq]; decide), List.filter_cons_of_pos (by rw [hp]; rfl)]
   exact ih.cons a
  | false =>
   cases hq : q a with
   | true =>
    rw [List.filter_cons_of_neg (by rw [hp]; decide), List.filter_cons_of_pos hq, List.filter_cons_of_pos (by rw [hp, hq]; rfl)]
    exact List.perm_middle.trans (ih.cons a)
   | false =>
    rw [List.filter_cons_of_neg (by rw [hp]; decide), List.filter_cons_of_neg (by rw [hq]; decide), List.filter_cons_of_neg (by rw [hp, hq]; decide)]
    exact ih
theorem kids_perm {F : List Nn} : ∀ {P : List Nn}, (P.map (·.k)).Nodup -> (P.flatMap (kidsN F)).Perm (F.filter fun n => decide (n.k ≠ [] /\ n.k.dropLast ∈ P.map (·.k)))
 | [], _ => by simp
 | p :: P, h => by
  rw [List.map_cons, List.nodup_cons] at h
  rw [List.flatMap_cons]
  refine ((kids_perm h.2).append_left _).trans ((filter_or_perm _ _ (fun n h1 h2 => ?_) F).trans (.of_eq ?_))
  ·have h1 := of_decide_eq_true h1
   have h2 := of_decide_eq_true h2
   exact h.1 (by rw [<- h1.2]; exact h2.2)
  ·refine List.filter_congr fun n _ => ?_
   unfold chB
   by_cases e : n.k = []
   ·simp [e]
   ·simp [e, List.mem_cons]
theorem nodup_filter_keys {F : List Nn} (h : (F.map (·.k)).Nodup) (p : Nn -> Bool) : ((F.filter p).map (·.k)).Nodup := List.Nodup.sublist (List.filter_sublist.map _) h
theorem kids_nodup {F P : List Nn} (h : (F.map (·.k)).Nodup) (hP : (P.map (·.k)).Nodup) : ((P.flatMap (kidsN F)).map (·.k)).Nodup := ((kids_perm hP).map _).nodup_iff.mpr (nodup_filter_keys h _)
theorem kids_len {F P : List Nn} (hP : (P.map (·.k)).Nodup) : (P.flatMap (kidsN F)).length <= F.length := by
 refine rwR ((kids_perm hP).length_eq) ?_
 exact List.length_filter_le _ _
theorem flat_cons_len {α : Type} (g : Nn -> List α) (s : Nn -> α) : ∀ L : List Nn, (L.flatMap fun n => s n :: g n).length = L.length + (L.flatMap g).length
 | [] => rfl
 | n :: L => by
  rw [List.flatMap_cons, List.flatMap_cons, List.length_append, List.length_append, flat_cons_len g s L, List.length_cons, List.length_cons]; lia
theorem sz_len {F : List Nn} (h : (F.map (·.k)).Nodup) : ∀ (f : Nat) (L : List Nn), (L.map (·.k)).Nodup -> L.length <= F.length + 1 -> (L.flatMap (sz F f)).length <= (f + 1) * (F.length + 1)
 | 0, L, hL, hl => by
  have e : L.flatMap (sz F 0) = L.flatMap fun n => n.k.length :: [] := rfl
  rw [e, flat_cons_len, show (L.flatMap fun _ => ([] : List Nat)) = [] by simp, List.length_nil, Nat.zero_add, Nat.one_mul]; lia
 | f + 1, L, hL, hl => by
  have e : L.flatMap (sz F (f + 1)) = L.flatMap fun n => n.k.length :: (kidsN F n).flatMap (sz F f) := rfl
  rw [e, flat_cons_len, <- List.flatMap_assoc]
  have := sz_len h f (L.flatMap (kidsN F)) (kids_nodup h hL) (Nat.le_succ_of_le (kids_len hL))
  have e2 : (f + 1 + 1) * (F.length + 1) = (f + 1) * (F.length + 1) + (F.length + 1) := Nat.succ_mul _ _
  lia
theorem flat_cons_count (g : Nn -> List Nat) (s j : Nat) : ∀ L : List Nn, (∀ n, n ∈ L -> n.k.length = s) -> (L.flatMap fun n => n.k.length :: g n).count j = (if s = j then L.length else 0) + (L.flatMap g).count j
 | [], _ => by simp
 | n :: L, h => by
  rw [List.flatMap_cons, List.flatMap_cons, List.count_append, List.count_append, flat_cons_count g s j L fun m hm => h m (List.mem_cons_of_mem _ hm), List.count_cons, h n List.mem_cons_self, List.length_cons]
  by_cases e : s = j
  ·simp [e]; lia
  ·simp [e]
noncomputable def lev (F : List Nn) (j : Nat) : List Nn := F.filter fun n => decide (n.k.length = j)
theorem lev_kids {F P : List Nn} (hpar : ∀ n, n ∈ F -> n.k ≠ [] -> n.k.dropLast ∈ F.map (·.k)) (hP : (P.map (·.k)).Nodup) (hPF : P.Perm (lev F s)) : (P.flatMap (kidsN F)).Perm (lev F (s + 1)) := by
 refine (kids_perm hP).trans (.of_eq (List.filter_congr fun n hn => decide_eq_decide.mpr ⟨fun h => ?_, fun h => ?_⟩))
 ·refine e2 h fun h1 h2 => ?_
  refine e3 (List.mem_map.mp h2) fun p hp e => ?_
  have hp := of_decide_eq_true (List.mem_filter.mp (hPF.mem_iff.mp hp)).2
  have := congrArg List.length e
  rw [hp, List.length_dropLast] at this
  have := List.length_pos_iff.mpr h1
  lia
 ·have hne : n.k ≠ [] := fun e => by rw [e] at h; cases h
  refine ⟨hne, ?_⟩
  refine e3 (List.mem_map.mp (hpar n hn hne)) fun p hp e => ?_
  refine List.mem_map.mpr ⟨p, hPF.mem_iff.mpr (List.mem_filter.mpr ⟨hp, ?_⟩), e⟩
  have := congrArg List.length e
  rw [List.length_dropLast] at this
  exact decide_eq_true (by lia)
theorem sz_count {F : List Nn} {r : Nn} (hr : r ∈ F) (h0 : r.k = []) (h : (F.map (·.k)).Nodup) (hpar : ∀ n, n ∈ F -> n.k ≠ [] -> n.k.dropLast ∈ F.map (·.k)) (j : Nat) (hj : j <= 3) : (sz F 3 r).count j = (lev F j).length := by
 have nd : ∀ s, ((lev F s).map (·.k)).Nodup := fun s => nodup_filter_keys h _
 have P0 : [r].Perm (lev F 0) := by
  have hr' : r ∈ lev F 0 := List.mem_filter.mpr ⟨hr, by rw [h0]; rfl⟩
  have : lev F 0 = [r] := by
   have one : ∀ n, n ∈ lev F 0 -> n.k = [] := fun n hn => List.length_eq_zero_iff.mp (of_decide_eq_true (List.mem_filter.mp hn).2)
   have nd0 := nd 0
   generalize lev F 0 = L at hr' one nd0
   match L, hr', one, nd0 with
   | [a], hr', _, _ => rw [List.mem_singleton.mp hr']
   | a :: b :: L, _, one, nd0 =>
    rw [List.map_cons, List.map_cons, List.nodup_cons] at nd0
    exact (nd0.1 (by rw [one a (by simp), one b (by simp)]; simp)).elim
  rw [this]
 have P1 := lev_kids hpar (P0.map (·.k) |>.nodup_iff.mpr (nd 0)) P0
 have P2 := lev_kids hpar ((P1.map (·.k)).nodup_iff.mpr (nd 1)) P1
 have P3 := lev_kids hpar ((P2.map (·.k)).nodup_iff.mpr (nd 2)) P2
 have len : ∀ {s : Nat} {P : List Nn}, P.Perm (lev F s) -> ∀ n, n ∈ P -> n.k.length = s := fun hp n hn => of_decide_eq_true (List.mem_filter.mp (hp.mem_iff.mp hn)).2
 have e : sz F 3 r = [r].flatMap fun n => n.k.length :: (kidsN F n).flatMap (sz F 2) := by simp [sz]
 have e2 : ∀ L : List Nn, L.flatMap (sz F 2) = L.flatMap fun n => n.k.length :: (kidsN F n).flatMap (sz F 1) := fun _ => rfl
 have e1 : ∀ L : List Nn, L.flatMap (sz F 1) = L.flatMap fun n => n.k.length :: (kidsN F n).flatMap (sz F 0) := fun _ => rfl
 have e0 : ∀ L : List Nn, L.flatMap (sz F 0) = L.flatMap fun n => n.k.length :: [] := fun _ => rfl
 rw [e, flat_cons_count _ 0 j _ (len P0), <- List.flatMap_assoc, e2, flat_cons_count _ 1 j _ (len P1), <- List.flatMap_assoc, e1, flat_cons_count _ 2 j _ (len P2), <- List.flatMap_assoc, e0, flat_cons_count _ 3 j _ (len P3), P0.length_eq, P1.length_eq, P2.length_eq, P3.length_eq]
 have : ∀ L : List Nn, (L.flatMap fun _ => ([] : List Nat)) = [] := fun L => by simp
 rw [this]
 match j, hj with
 | 0, _ => rfl
 | 1, _ => simp
 | 2, _ => simp
 | 3, _ => simp
theorem sz_le {F : List Nn} (hF : ∀ n, n ∈ F -> n.k.length <= 3) : ∀ (f : Nat) (n : Nn), n ∈ F -> ∀ j, j ∈ sz F f n -> j <= 3
 | 0, n, hn, j, hj => by rw [List.mem_singleton.mp hj]; exact hF n hn
 | f + 1, n, hn, j, hj => by
  rcases List.mem_cons.mp hj with e | e
  ·rw [e]; exact hF n hn
  ·refine e3 (List.mem_flatMap.mp e) fun c hc h => ?_
   exact sz_le hF f c (List.mem_filter.mp hc).1 j h
theorem part_size {k : Nat} (hk : k <= 3) : (part k).cps.size <= 100000 := by
 have : k = 0 \/ k = 1 \/ k = 2 \/ k = 3 := (or4 (Nat.lt_succ_of_le hk))
 rcases this with rfl | rfl | rfl | rfl <;> decide
theorem find_b {F : List Nn} (nb : ∀ n n', n ∈ F -> n' ∈ F -> n.b = n'.b -> n = n') {c : Nn} (hc : c ∈ F) : F.find? (fun x => decide (x.b = c.b)) = some c := by
 cases h : F.find? (fun x => decide (x.b = c.b)) with
 | none =>
  have := List.find?_eq_none.mp h c hc
  exact (this (decide_eq_true rfl)).elim
 | some x =>
  have h1 := List.find?_some h
  have h2 := List.mem_of_find?_eq_some h
  rw [nb x c h2 hc (of_decide_eq_true h1)]
noncomputable def TT (F : List Nn) (f : Nat) (b : Nat) : List Str := match F.find? (fun x => decide (x.b = b)) with
 | some c => (sz F f c).map part
 | none => []
theorem TT_flat {F : List Nn} (nb : ∀ n n', n ∈ F -> n' ∈ F -> n.b = n'.b -> n = n') (f : Nat) : ∀ L : List Nn, (∀ n, n ∈ L -> n ∈ F) -> (L.map (·.b)).flatMap (TT F f) = (L.flatMap (sz F f)).map part
 | [], _ => rfl
 | n :: L, h => by
  rw [List.map_cons, List.flatMap_cons, List.flatMap_cons, List.map_append, TT_flat nb f L fun m hm => h m (List.mem_cons_of_mem _ hm)]
  congr 1
  unfold TT
  rw [find_b nb (h n List.mem_cons_self)]
theorem texts {d : Nat} {V : Sg} {hi : Nat} {F : List Nn} (fo : Fo V hi F) (h21 : 21 <= hi) (T0 : Top V) (hF : ∀ n, n ∈ F -> n.k.length <= 3) (hlen : F.length <= 200) : ∀ (f : Nat) (n : Nn), n ∈ F -> n.k.length + f = 3 -> ∀ V', Keep V V' -> Cl (d + (4 * f + 6)) (.ref (n.b + 7)) [] V' fun v V'' => Keep V' V'' /\ ∃ j, v = .ref j /\ V'.length <= j /\ V''[j]? = some (.list (strAVs ((sz F f n).map part)))
 | 0, n, hn, hk, V', K => by
  have e : kidsN F n = [] := by
   unfold kidsN
   rw [List.filter_eq_nil_iff]
   intro c hc q
   have q := of_decide_eq_true q
   have h1 := hF c hc
   have h2 := congrArg List.length q.2
   rw [List.length_dropLast] at h2
   have := List.length_pos_iff.mpr q.1
   lia
  have N := fo.node n hn
  refine e4 (fo.dat n hn) fun x y hd hxy => ?_
  rw [kidsOf_eq, e] at N
  refine (it_run (n := d + 0) (cs := []) (T := fun _ => []) (T0.keep K) (N.keep K) (K.get hd) (by have := (fo.hi n hn).1; lia) (fun c hc => by cases hc) (by rw [hxy]; exact part_size (hF n hn)) (by decide) (by decide)).mono fun v V'' h => ?_
  rw [hxy] at h
  exact h
 | f + 1, n, hn, hk, V', K => by
  have N := fo.node n hn
  refine e4 (fo.dat n hn) fun x y hd hxy => ?_
  have sub : ∀ c, c ∈ kidsN F n -> c ∈ F := fun c hc => (List.mem_filter.mp hc).1
  have P : [n].flatMap (kidsN F) = kidsN F n := by simp
  have ndk : ((kidsN F n).map (·.k)).Nodup := by rw [<- P]; exact kids_nodup fo.nk (by simp)
  have kl : (kidsN F n).length <= F.length := by rw [<- P]; exact kids_len (by simp)
  have tl := sz_len fo.nk f (kidsN F n) ndk (Nat.le_add_right_of_le kl)
  have hf : f + 1 <= 3 := by lia
  have tl2 : (f + 1) * (F.length + 1) <= 3 * (F.length + 1) := Nat.mul_le_mul_right _ hf
  rw [kidsOf_eq] at N
  refine (it_run (n := d + (4 * f + 4)) (cs := (kidsN F n).map (·.b)) (T := TT F f) (T0.keep K) (N.keep K) (K.get hd) (by have := (fo.hi n hn).1; lia) (fun c hc V2 K2 => ?_) (by rw [hxy]; exact part_size (hF n hn)) (by rw [TT_flat fo.nb f _ sub, List.length_map]; lia) (by rw [List.length_map]; lia)).mono fun v V'' h => ?_
  ·refine e3 (List.mem_map.mp hc) fun c hc' z34 => ?_
   subst z34
   have hcF := sub c hc'
   have q := of_decide_eq_true (List.mem_filter.mp hc').2
   refine ⟨meth_fn ((fo.node c hcF).keep (K.trans K2)) rfl rfl, ?_⟩
   have h2 := congrArg List.length q.2
   rw [List.length_dropLast] at h2
   have := List.length_pos_iff.mpr q.1
   refine (texts (d := d) fo h21 T0 hF hlen f c hcF (by lia) V2 (K.trans K2)).mono fun v V'' h => ?_
   unfold TT
   rw [find_b fo.nb hcF]
   exact h
  ·rw [hxy, TT_flat fo.nb f _ sub] at h
   exact h
noncomputable def argOf : Sm -> Ex
 | .expr (.call _ (e :: _) _ _ _) _ => e
 | _ => .none ⟨0, 0, 0, 0⟩
noncomputable def fiW : FI := lamFI (Str.ofString "_law_lead") (argOf (smAt f_law_lead_b 8))
structure Wr (V : Sg) (wf c pl : Nat) (ys : List AV) : Prop where
 fn : V[wf]? = some (.func fiW [(45, c)] none)
 cel : V[c]? = some (.cell (some (.ref pl)))
 li : V[pl]? = some (.list ys)
theorem write_run {pl : Nat} (hn : 4 <= n) (T : Top V) (h : Wr V wf c pl ys) (h21 : 21 <= pl) (hk : ys.length <= 100000) :
  Cl n (.ref wf) [v] V fun r V' => r = .none /\ KB pl V V' /\ V'[pl]? = some (.list (ys ++ [v])) := by
 refine e2 (Nat.exists_eq_add_of_le' hn) fun m z272 => ?_
 subst z272
 refine cl_expr T h.fn (by rfl) (by rfl) (fr := [(45, .ref pl)]) (fun x c' hx hc => ?_) (fun x v hx => ?_) fun l cells V1 hS => ?_
 ·unfold look at hc
  split at hc
  ·cases hc; exact lt_of_get h.cel
  ·exact noneS hc
 ·unfold look at hx
  refine iteS hx fun e hx => ?_
  cases hx; subst e
  exact ⟨rfl, c, rfl, h.cel⟩
 have e := hS.base h.li
 refine ev_meth (by rfl) (ev_name (hS.get _ _ (by rfl)) ⟨.list, ?_, evs_cons (ev_name (hS.get _ _ (by rfl)) (evs_nil ⟨.none, V1.set pl (.list (ys ++ [v])), ?_, rfl, ⟨?_, ?_⟩, ?_⟩))⟩)
 ·unfold methOf; dsimp only; rw [e]; rfl
 ·unfold methA; dsimp only; rw [e]; dsimp only
  refine rwR methL_app ?_
  refine rwR (if_pos hk) ?_
  refine rwR (upd_ok h21 (lt_of_get e)) ?_
  rfl
 ·refine rwR List.length_set ?_
  exact hS.keep.1
 ·intro j hj hne
  refine rwR (List.getElem?_set_ne (fun e => hne e.symm)) ?_
  exact hS.keep.2 j hj
 ·exact List.getElem?_set_self (lt_of_get e)
theorem S.rebP {o : AO} (h : S V0 E V m []) (k : KB d V V') (h0 : V0[d]? = some o) (hp : plain o = true) (h21 : 21 <= d) (hn : V'[d]? = some o') : S (V0.set d o') E V' m [] :=
 have e0 := h.base h0
 have ne : ∀ {j : Nat} {x : AO}, V[j]? = some x -> plain x = false -> j ≠ d := fun e q r => pf_ne q hp (uq e0 (r ▸ e))
 have len : (V0.set d o').length = V0.length := List.length_set
 {top := ⟨len.symm ▸ h.top.len, fun i hi => (List.getElem?_set_ne (by lia)).trans (h.top.at_ i hi)⟩
  keep := ⟨len.symm ▸ Nat.le_trans h.keep.1 k.1, fun j hj => by
   have hj' : j < V0.length := len ▸ hj
   by_cases q : j = d
   ·subst q
    have e : (V0.set j o')[j]? = some o' := List.getElem?_set_self hj'
    exact hn.trans e.symm
   ·exact (k.2 j (Nat.lt_of_lt_of_le hj' h.keep.1) q).trans ((h.keep.2 j hj').trans (List.getElem?_set_ne fun e => q e.symm).symm)⟩
  loc := len.symm ▸ h.loc
  ns := h.ns.elim fun b e => ⟨b, k.get e (ne e rfl)⟩
  cel := fun x hx => e5 (h.cel x hx) fun c b h1 h2 h3 => ⟨c, b, h1, k.get h2 (ne h2 rfl), len.symm ▸ h3⟩
  inj := h.inj
  fre := fun x c hx hc => len.symm ▸ h.fre x c hx hc
  get := fun x v e => getN_same (h.get x v e) fun j o2 q e => k.get e (ne e q)
  dat := fun _ _ hm => nomatch hm }
theorem S.reb {pl : Nat} (h : S V0 E V m []) (k : KB pl V V') (h0 : V0[pl]? = some (.list xs)) (h21 : 21 <= pl) (hn : V'[pl]? = some (.list ys)) : S (V0.set pl (.list ys)) E V' m [] := h.rebP k h0 rfl h21 hn
theorem attr_el {kids : List AV} (h : Nd V b da tag tail kids) (ha : fnAttr a = true) (hl : look a [(19, AV.str tag), (26, .str tail), (37, .ref (b + 6)), (38, .ref 7), (39, .ref (b + 7))] = some v) : attrA (.ref (b + 4)) a V = some v := by
 unfold attrA; dsimp only; rw [h.fe]; dsimp only; rw [h.at_]; dsimp only; rw [if_pos ha]; exact hl
theorem Wr.frame {pl : Nat} (h : Wr V wf c pl ys) (hS : S (V.set pl (.list zs)) E V' m []) : Wr V' wf c pl zs := by
 have ne : ∀ {j : Nat} {o : AO}, V[j]? = some o -> (∀ xs, o ≠ .list xs) -> (V.set pl (.list zs))[j]? = some o := fun e q => by
  rw [List.getElem?_set_ne (fun r => by subst r; rw [h.li] at e; cases e; exact q _ rfl)]; exact e
 exact ⟨hS.base (ne h.fn (by nofun)), hS.base (ne h.cel (by nofun)), hS.base (List.getElem?_set_self (lt_of_get h.li))⟩
theorem ser_run {pl : Nat} {kids : List AV} {ts : List Str} (hn : 4 <= n) (T0 : Top V) (h : Nd V b da tag tail kids) (w : Wr V wf c pl ys) (hb : b + 7 < pl) (h21 : 21 <= b)
  (H : ∀ V', Keep V V' -> Cl (n + 1) (.ref (b + 7)) [] V' fun v V'' => Keep V' V'' /\ ∃ j, v = .ref j /\ V'.length <= j /\ V''[j]? = some (.list (strAVs ts))) (hl : ys.length + ts.length <= 900) (ht : tail.cps.size <= 100000) :
  Cl (n + 4) (.ref 1) [.ref wf, .ref (b + 4)] V fun v V' => v = .none /\ KB pl V V' /\ V'[pl]? = some (.list (ys ++ strAVs ts ++ if tail.cps.size ≠ 0 then [.str tail] else [])) := by
 obtain ⟨n, rfl⟩ : ∃ k, n = k + 4 := ⟨n - 4, (Nat.sub_add_cancel hn).symm⟩
 refine cl_top T0 (fn_at T0 (k := 1) (by decide) rfl) (by rfl) rfl fun lo cells V1 hS => ?_
 unfold f_serialize_text_b
 have hp := lt_of_get w.li
 have len1 : V.length <= V1.length := hS.keep.1
 have base : ∀ {zs : List AV} {V2 : Sg} {m : List (Nat × AV)}, S (V.set pl (.list zs)) (fiE f_serialize_text lo cells) V2 m [] -> Nd V2 b da tag tail kids := fun {zs V2 m} s => h.of fun j h1 h2 => by
  have := h.lt
  refine rwR (s.keep.2 j (by rw [List.length_set]; lia)) ?_
  exact rwR (List.getElem?_set_ne (Nat.ne_of_gt (Nat.lt_of_le_of_lt h2 hb))) rfl
 have wr : ∀ {m : Nat} {zs : List AV} {V2 : Sg} {m' : List (Nat × AV)} {v : AV}, 4 <= m -> S (V.set pl (.list zs)) (fiE f_serialize_text lo cells) V2 m' [] -> zs.length <= 100000 -> Cl m (.ref wf) [v] V2 fun r V3 => r = .none /\ S (V.set pl (.list (zs ++ [v]))) (fiE f_serialize_text lo cells) V3 m' [] /\ KB pl V2 V3 := fun {m zs V2 m' v} hm s hz => by
  refine (write_run hm s.topN (w.frame s) (Nat.le_trans h21 (Nat.le_of_lt (ltX hb (Nat.le_refl _)))) hz).mono fun r V3 hr => ⟨hr.1, ?_, hr.2.1⟩
  have e := s.reb hr.2.1 (List.getElem?_set_self hp) (Nat.le_trans h21 (Nat.le_of_lt (ltX hb (Nat.le_refl _)))) hr.2.2
  rw [List.set_set] at e; exact e
 have hS' : S (V.set pl (.list ys)) (fiE f_serialize_text lo cells) V1 [(24, .ref (b + 4)), (23, .ref wf)] [] :=
  hS.reb (Keep.refl _).kb w.li (Nat.le_trans h21 (Nat.le_of_lt (ltX hb (Nat.le_refl _)))) (hS.base w.li)
 refine ex_loop (ev_meth (n := n + 5) (by rfl) (ev_name (hS.get 24 _ (by rfl)) ⟨_, meth_fn (h.keep hS.keep) rfl rfl, evs_nil ?_⟩)) (Nat.succ_pos _)
 obtain ⟨v, V2, h2, k2, j, rfl, hj, l2⟩ := H V1 hS.keep
 refine ⟨_, _, h2, .liter j 0, strAVs ts, fun i o => i = j /\ o = .list (strAVs ts), fun xs V' => ∃ zs, zs ++ xs = ys ++ strAVs ts /\ S (V.set pl (.list zs)) (fiE f_serialize_text lo cells) V' [(24, .ref (b + 4)), (23, .ref wf)] [], ⟨(aiter_list l2).1, _, ⟨rfl, rfl⟩, rfl⟩, ?_, by have := T0.len; have := k2.1; lia, by rw [strAVs_lenL]; lia, ?_, ?_, ?_, ?_⟩
 ·intro i o y10
  refine e2 y10 fun z11 z12 => ?_
  clear y10
  subst z11
  subst z12
  exact ⟨l2, rfl⟩
 ·exact i3 ys rfl (hS'.to (k2.trans (Keep.app _ _)))
 ·intro xs V' o o' y31 ho io
  refine e3 y31 fun zs e s => ?_
  clear y31
  exact i3 zs e (s.updP ho (iter_plain io) (by rw [List.length_set]; have := k2.1; lia) fun _ _ h => by cases h)
 ·intro x xs V' y38 hA Qb hn' _ _
  refine e3 y38 fun zs e s => ?_
  clear y38
  refine assign_one s rfl fun Va sa pa => ?_
  refine ex_expr rfl (ev_call (ev_name (sa.get 23 _ (by rfl)) (evs_cons (ev_name (sa.get 25 _ (by rfl)) (evs_nil ?_)))))
  have lz : zs.length <= 900 := by
   have := congrArg List.length e
   simp only [List.length_append, List.length_cons, strAVs_lenL] at this
   lia
  refine (wr (Nat.le_add_left_of_le (by decide)) sa (Nat.le_trans lz (by decide))).mono fun r V3 hr => ?_
  refine e3 hr fun z36 s3 k3 => ?_
  subst z36
  refine ⟨rfl, ex_nil (hn' _ ⟨zs ++ [x], by rw [List.append_assoc]; exact e, s3.drop1 rfl⟩ ?_)⟩
  refine e4 hA fun o a1 a2 a3 => ?_
  have ep : ∀ {i : Nat} {o : AO}, V'[i]? = some o -> plain o = true -> i ≠ pl -> V3[i]? = some o := fun e q r => k3.get (pa.2 _ _ q e) r
  refine i4 o (ep a1 (iter_plain a2.isItr) (by have := k2.1; lia)) a2 ?_
  intro i o y45
  refine e2 y45 fun z46 z47 => ?_
  clear y45
  subst z46
  subst z47
  exact ep (a3 _ _ ⟨rfl, rfl⟩) rfl (Nat.ne_of_gt (Nat.lt_of_lt_of_le (Nat.lt_of_lt_of_le hp len1) hj))
 ·intro V' y66
  refine e3 y66 fun zs e s => ?_
  clear y66
  rw [List.append_nil] at e
  subst e
  have hN := base s
  refine ex_if (ev_attr (ev_name (s.get 24 _ (by rfl)) ⟨_, attr_el hN rfl rfl, decide (tail.cps.size ≠ 0), by show (if tail.cps.size <= 100000 then some (decide (tail.cps.size ≠ 0)) else none) = _; rw [if_pos ht], ?_⟩))
  have fin : ∀ {V3 : Sg} {zs : List AV} {m : List (Nat × AV)}, S (V.set pl (.list zs)) (fiE f_serialize_text lo cells) V3 m [] -> KB pl V V3 /\ V3[pl]? = some (.list zs) := fun {V3 zs m} s3 => by
   refine ⟨⟨by have := s3.keep.1; rw [List.length_set] at this; exact this, fun i h1 h2 => ?_⟩, s3.base (List.getElem?_set_self hp)⟩
   refine rwR (s3.keep.2 i (by rw [List.length_set]; exact h1)) ?_
   exact rwR (List.getElem?_set_ne (fun q => h2 q.symm)) rfl
  by_cases q : tail.cps.size ≠ 0
  ·refine rwR (decide_eq_true q) ?_
   refine rwR (if_pos rfl) ?_
   refine rwR (if_pos q) ?_
   refine ex_expr rfl (ev_call (ev_name (s.get 23 _ (by rfl)) (evs_cons (ev_attr (ev_name (s.get 24 _ (by rfl)) ⟨_, attr_el hN rfl rfl, evs_nil ?_⟩)))))
   refine (wr (Nat.le_add_left_of_le (by decide)) s (by rw [List.length_append, strAVs_lenL]; lia)).mono fun r V3 hr => ?_
   refine e3 hr fun z37 s3 k3 => ?_
   clear hr
   subst z37
   exact ⟨rfl, ex_nil (ex_nil ⟨rfl, fin s3⟩)⟩
  ·refine rwR (decide_eq_false q) ?_
   refine rwR (if_neg (by nofun)) ?_
   refine rwR (if_neg q) ?_
   rw [List.append_nil]
   exact ex_nil (ex_nil ⟨rfl, fin s⟩)
theorem str_toList (a b : Str) : (a ++ b).cps.toList = a.cps.toList ++ b.cps.toList := by
 refine (?_ : (a.cps ++ b.cps).toList = _)
 exact rwR Array.toList_append rfl
noncomputable def cj : List Str -> Str
 | [] => sE
 | [s] => s
 | s :: r => s ++ sE ++ cj r
theorem cj_list : ∀ L : List Str, (cj L).cps.toList = L.flatMap (·.cps.toList)
 | [] => rfl
 | [s] => (List.append_nil _).symm
 | s :: t :: r => by
  refine (?_ : (s ++ sE ++ cj (t :: r)).cps.toList = _)
  rw [str_toList, str_toList, cj_list (t :: r), show sE.cps.toList = [] from rfl, List.append_nil, List.flatMap_cons (x := s)]
theorem joinA_cj : ∀ L : List Str, joinA sE (strAVs L) = some (cj L)
 | [] => rfl
 | [s] => rfl
 | s :: t :: r => by
  refine (?_ : (joinA sE (strAVs (t :: r))).bind _ = _)
  rw [joinA_cj (t :: r)]; rfl
theorem ev_lam {ps : List (Nat × Pos)} {body : Ex} {fast : List Nat} {k : Nat} (ht : E.tab = some k) (hc : closes E sc = some cl)
  (q : Q (.ref V.length) (V ++ [.func (lamFI E.q (.lam ps body sc fast p)) cl.reverse none])) : Ev (n + 1) E (.lam ps body sc fast p) V Q := by
 refine ⟨_, _, ?_, q⟩
 refine (?_ : lamA E ps body sc fast V = _)
 unfold lamA
 refine rwR hc ?_
 refine rwR ht ?_
 rfl
theorem given_eq {a0 a1 a2 a3 b0 b1 b2 b3 : Nat} (hab : a ≠ b) (h0 : a0 ≠ b0) (h1 : a1 ≠ b1) (h2 : a2 ≠ b2) (h3 : a3 ≠ b3) (ha : V[a]? = some (.list [.ref a0, .ref a1, .ref a2, .ref a3])) (hb : V[b]? = some (.list [.ref b0, .ref b1, .ref b2, .ref b3]))
  (p0 : V[a0]? = some (gD 0)) (p1 : V[a1]? = some (gD 1)) (p2 : V[a2]? = some (gD 2)) (p3 : V[a3]? = some (gD 3)) (q0 : V[b0]? = some (gD 0)) (q1 : V[b1]? = some (gD 1)) (q2 : V[b2]? = some (gD 2)) (q3 : V[b3]? = some (gD 3))
  (l0 : 21 <= a0) (l1 : 21 <= a1) (l2 : 21 <= a2) (l3 : 21 <= a3) (m0 : 21 <= b0) (m1 : 21 <= b1) (m2 : 21 <= b2) (m3 : 21 <= b3) : aeq V (.ref a) (.ref b) = some true := by
 have dd : ∀ {x y : Nat} {k : Nat}, x ≠ y -> V[x]? = some (gD k) -> V[y]? = some (gD k) -> 21 <= x -> 21 <= y -> aeqD V 2 (.ref x) (.ref y) = some true := fun {x y k} hxy hx hy l m => by
  refine aeqD_dd hxy hx hy ((if_pos ⟨rfl, l, m⟩).trans ?_)
  refine (?_ : ((some (decide (sp k = sp k))).bind fun b => ((some (decide (gEnd k = gEnd k))).bind fun b => some (b && true)).bind fun c => some (b && c)) = _)
  refine rwR (decide_eq_true rfl) ?_
  refine rwR (decide_eq_true rfl) ?_
  rfl
 refine aeq_D (aeq1_ll hab ha hb ?_) (aeqD_ll hab ha hb ?_)
 ·refine (?_ : (aeq1 V 4 (.ref a0) (.ref b0)).bind _ = _)
  refine rwR (aeq1_dd h0 p0 q0) ?_
  rfl
 refine (?_ : ((aeqD V 2 (.ref a0) (.ref b0)).bind fun b => ((aeqD V 2 (.ref a1) (.ref b1)).bind fun b => ((aeqD V 2 (.ref a2) (.ref b2)).bind fun b => ((aeqD V 2 (.ref a3) (.ref b3)).bind fun b => some (b && true)).bind fun c => some (b && c)).bind fun c => some (b && c)).bind fun c => some (b && c)) = _)
 refine rwR (dd h0 p0 q0 l0 m0) ?_
 refine rwR (dd h1 p1 q1 l1 m1) ?_
 refine rwR (dd h2 p2 q2 l2 m2) ?_
 refine rwR (dd h3 p3 q3 l3 m3) ?_
 rfl
theorem nil_eq (hab : a ≠ b) (ha : V[a]? = some (.list [])) (hb : V[b]? = some (.list [])) : aeq V (.ref a) (.ref b) = some true := aeq_1 (aeq1_ll hab ha hb rfl)
theorem FD_mem {F : List Nn} (h : x ∈ (FD F).map fun kv => AV.str kv.1) : ∃ n, n ∈ F /\ x = .str (jn n.k) := by
 refine e3 (List.mem_map.mp h) fun kv hkv z40 => ?_
 subst z40
 refine e3 (List.mem_map.mp hkv) fun n hn z41 => ?_
 subst z41
 exact i3 n hn rfl
theorem split_run {R : Rec} {s : Str} (hs : s.cps.size <= 1000) : methA R .str (.str s) 79 [.str sSep] V = some (.ref V.length, V ++ [.list (strAVs (Txt.split s sSep))]) := by
 refine (?_ : methS s 79 [.str sSep] V = _)
 refine rwR methS_split ?_
 exact rwR (if_pos ⟨rfl, hs⟩) rfl
theorem cmp_ne {y : AV} : cmp .NotEq x y V = (aeq V x y).map (!·) := rfl
theorem str_eq (V : Sg) (s : Str) : aeq V (.str s) (.str s) = some true := aeq_1 (congrArg some (decide_eq_true rfl))
theorem tags_run {U : List (List Str)} {F : List Nn} (L : Ld V0 lo cells U gv nd fh Vg m D F V)
  (U3 : ∀ k, k ∈ U -> (Txt.split (jn k) sSep).getLast? = some (tagOf k) /\ (Txt.split (jn k) sSep).length <= 1000) (q : ∀ a V', Keep V V' -> V'[a]? = some (.list []) -> Q (.ref a) V') {p1 p2 p3 p4 p5 p6 p7 p8 p9 p10 p11 p12 p13 p14 p15 p16 : Pos} (hp : p10.endLine = p12.line) :
  Ev 43 (ldE lo cells) (.comp (.name 98 p1) [(98, p2)] none (.name 44 p3) [.cmp (.attr (.sub (.name 44 p4) (.name 98 p5) p6) 19 p7) .NotEq (.sub (.meth (.name 98 p8) 79 p10 [.str sSep p11] p12) (.neg (.int 1 p9) p13) p14) p15] [(103, .loc), (98, .loc), (44, .fre)] p16) V Q := by
 refine e2 L.dict fun ep hdict => ?_
 have h21 : 21 <= nd := Nat.le_trans L.fr.top.len L.h0
 refine ev_comp (by decide) (ev_name (L.fr.get 44 _ L.m44) ⟨_, _, fun _ => none, [(44, .ref nd)], aiter_dict hdict h21, ?_, L.fr.topN, Fre.of (fm_cons ⟨rfl, L.fr.get 44 _ L.m44, .inl rfl⟩ fm_nil) (by rfl), ?_, ?_⟩)
 ·rw [List.length_map]; unfold FD; rw [List.length_map]; have := L.lenF; exact (Nat.lt_of_le_of_lt this (by decide))
 ·intro l cells' lo' x hx
  refine e3 (FD_mem hx) fun n hn z42 => ?_
  subst z42
  refine BodyC.one rfl rfl fun Va Sa _ => ?_
  have hU := L.FU n hn
  refine e2 (U3 n.k hU) fun s1 s2 => ?_
  have N := (L.fo.node n hn).keep Sa.keep
  have hit : item (.ref nd) (.str (jn n.k)) Va = some (.ref (n.b + 4)) := by
   unfold item; dsimp only; rw [Sa.base hdict]
   exact sget_FD (fun a b ha hb q => L.U2 _ _ (L.FU a ha) (L.FU b hb) q) L.fo.nk hn
  have hne : Txt.split (jn n.k) sSep ≠ [] := fun e => by rw [e] at s1; cases s1
  have ht : tagOf (Txt.split (jn n.k) sSep) = tagOf n.k := by
   refine (?_ : (Txt.split (jn n.k) sSep).getLast?.getD sE = _)
   refine rwR s1 ?_
   rfl
  refine cds_cons (ev_cmp (ev_attr (ev_sub (ev_name (Sa.get 44 _ (by rfl)) (ev_name (Sa.get 98 _ (by rfl)) ⟨_, hit, _, attr_el N rfl rfl, ?_⟩)))))
  refine ev_sub (ev_meth (by rw [hp]; simp) (ev_name (Sa.get 98 _ (by rfl)) ⟨.str, rfl, evs_cons (ev_str (evs_nil ⟨_, _, split_run (L.U1 _ hU).1, ev_neg (ev_int (by rfl) ⟨1, rfl, by rfl, _, item_last (get_new _ _) s2 hne, ?_⟩)⟩))⟩))
  refine rwR ht ?_
  refine ⟨false, ?_, false, rfl, ?_⟩
  ·refine rwR cmp_ne ?_
   rw [str_eq]
   rfl
  ·exact ⟨rfl, Keep.app _ _⟩
 ·intro acc ys V' K ha hl hF
  have e : ys = [] := by
   have := forall2_len hF
   have e2 : ∀ L : List AV, (L.filterMap fun _ => (none : Option Rsl)) = [] := fun L => by simp
   rw [e2] at this
   exact List.length_eq_zero_iff.mp this
  rw [e] at hl
  exact q acc V' K hl
theorem sp_list (k : Nat) : (sp k).cps.toList = List.replicate k 32 := by unfold sp; simp
theorem part_list (k : Nat) : (part k).cps.toList = List.replicate k 32 ++ [9] := by unfold part; rw [str_toList, sp_list]; rfl
noncomputable def leadL (szs : List Nat) (bl : Nat) : List Nat := (szs.flatMap fun k => List.replicate k 32 ++ [9]) ++ List.replicate bl 32
noncomputable def leadOf (szs : List Nat) (bl : Nat) : List Str := (sE :: szs.map part) ++ if (sp bl).cps.size ≠ 0 then [sp bl] else []
theorem leadOf_list (szs : List Nat) (bl : Nat) : (cj (leadOf szs bl)).cps.toList = leadL szs bl := by
 rw [cj_list]
 unfold leadOf leadL
 rw [List.flatMap_append, List.flatMap_cons, show sE.cps.toList = [] from rfl, List.nil_append, List.flatMap_map]
 congr 1
 ·rw [show (fun k => (part k).cps.toList) = fun k => List.replicate k 32 ++ [9] from funext part_list]
 ·by_cases h : (sp bl).cps.size ≠ 0
  ·rw [if_pos h, List.flatMap_cons, sp_list]; simp
  ·rw [if_neg h]
   have : bl = 0 := by
    have : (sp bl).cps.size = bl := by unfold sp; simp
    lia
   subst this; rfl
theorem leadL_len : ∀ (szs : List Nat) (bl : Nat), (∀ k, k ∈ szs -> k <= 3) -> (leadL szs bl).length <= 4 * szs.length + bl
 | [], bl, _ => by unfold leadL; simp
 | k :: r, bl, h => by
  have := leadL_len r bl fun j hj => h j (List.mem_cons_of_mem _ hj)
  unfold leadL at this ⊢
  rw [List.flatMap_cons, List.append_assoc, List.length_append]
  have := h k List.mem_cons_self
  simp only [List.length_append, List.length_replicate, List.length_cons, List.length_nil] at *
  lia
theorem closes45 (h : look 45 cells = some c) : closes (ldE lo cells) [(25, .loc), (45, .fre)] = some [(45, c)] := by
 refine (?_ : (look 45 cells).bind (fun a => (closes (ldE lo cells) []).bind fun b => some ((45, a) :: b)) = _)
 refine rwR h ?_
 rfl
theorem lead_tail {gb g0 g1 g2 g3 : Nat} {U : List (List Str)} {F : List Nn} {r : Nn} (L : Ld V0 lo cells U gv nd fh Vg m D F V)
  (U3 : ∀ k, k ∈ U -> (Txt.split (jn k) sSep).getLast? = some (tagOf k) /\ (Txt.split (jn k) sSep).length <= 1000) (dv : (gv, .list [.ref g0, .ref g1, .ref g2, .ref g3]) ∈ D) (d0 : (g0, gD 0) ∈ D) (d1 : (g1, gD 1) ∈ D) (d2 : (g2, gD 2) ∈ D) (d3 : (g3, gD 3) ∈ D)
  (l0 : V0.length <= g0) (l1 : V0.length <= g1) (l2 : V0.length <= g2) (l3 : V0.length <= g3) (gN : Nd Vg gb g0 sE (sp bl) [.ref (r.b + 4)]) (hgb : fh <= gb) (hgb2 : gb + 7 < nd) (hr : r ∈ F) (hrk : r.k = []) (m43 : look 43 m = some (.ref (gb + 4))) (g3n : g3 < nd) (hlen : F.length <= 200) (hbl : bl < 1000)
  (hq : ∀ V', Keep V0 V' -> Q (.str (cj (leadOf (sz F 3 r) bl))) V') : Exs 46 (ldE lo cells) (f_law_lead_b.drop 5) V (FinQ Q) := by
 have h21 := L.fr.top.len
 have c0 := L.fr.at_ d0
 have c1 := L.fr.at_ d1
 have c2 := L.fr.at_ d2
 have c3 := L.fr.at_ d3
 have cv := L.fr.at_ dv
 refine ex_if (ev_or (ev_cmp (ev_name (L.fr.get 42 _ L.m42) (ev_call (ev_glo (by rfl) (by rfl) (evs_nil ?_))))))
 obtain ⟨v1, V1, e1, rfl, K1, w, w0, w1, w2, w3⟩ := given_run (n := 42) (by decide) L.fr.topN
 have q0 := lt_of_get c0
 have q1 := lt_of_get c1
 have q2 := lt_of_get c2
 have q3 := lt_of_get c3
 have qv := lt_of_get cv
 have q21 := L.fr.topN.len
 refine ⟨_, V1, e1, false, ?_, false, rfl, ?_⟩
 ·refine (?_ : (aeq V1 _ _).map _ = _)
  rw [given_eq (a0 := g0) (a1 := g1) (a2 := g2) (a3 := g3) (Nat.ne_of_lt (Nat.lt_add_right _ qv)) (Nat.ne_of_lt (Nat.lt_add_right _ q0)) (Nat.ne_of_lt (Nat.lt_add_right _ q1)) (Nat.ne_of_lt (Nat.lt_add_right _ q2)) (Nat.ne_of_lt (Nat.lt_add_right _ q3)) (K1.get cv) w (K1.get c0) (K1.get c1) (K1.get c2) (K1.get c3) w0 w1 w2 w3 (Nat.le_trans h21 l0) (Nat.le_trans h21 l1) (Nat.le_trans h21 l2) (Nat.le_trans h21 l3) (Nat.le_add_right_of_le (Nat.le_of_lt (Nat.lt_of_le_of_lt (Nat.le_trans h21 l0) q0))) (Nat.le_add_right_of_le (Nat.le_of_lt (Nat.lt_of_le_of_lt (Nat.le_trans h21 l0) q0))) (Nat.le_add_right_of_le (Nat.le_of_lt (Nat.lt_of_le_of_lt (Nat.le_trans h21 l0) q0))) (Nat.le_add_right_of_le (Nat.le_of_lt (Nat.lt_of_le_of_lt (Nat.le_trans h21 l0) q0)))]; rfl
 have L1 := L.step (L.fr.to K1) (fun j _ h => K1.2 j h) L.m44 L.m42 L.m98 L.m99
 refine ev_cmp (tags_run L1 U3 (fun a V2 K2 ha => ev_list (by decide) (evs_nil ⟨false, ?_, false, rfl, ?_⟩)) rfl)
 ·refine (?_ : (aeq _ _ _).map _ = _)
  rw [nil_eq (by have := lt_of_get ha; lia) ((Keep.app _ _).get ha) (get_new _ _)]; rfl
 have K2' : Keep V1 (V2 ++ [AO.list []]) := K2.trans (Keep.app _ _)
 have L2 := L1.step (L1.fr.to K2') (fun j _ h => K2'.2 j h) L.m44 L.m42 L.m98 L.m99
 generalize V2 ++ [AO.list []] = V3 at L2
 refine ex_nil ?_
 have c3' := L2.fr.at_ d3
 refine ex_assignS (ev_str (ev_sub (ev_name (L2.fr.get 42 _ L.m42) (ev_int (by rfl) ⟨.ref g3, item_list (L2.fr.at_ dv) (by decide) (by decide) rfl, ev_str ⟨V3.set g3 (.dict [(sLead, .str (sp 3)), (sEnd, .str sE)] (some 2)), ?_, ?_⟩⟩))))
 ·unfold setItm
  dsimp only
  rw [c3']
  unfold gD
  dsimp only
  rw [if_pos (show [(sLead, AV.str (sp 3)), (sEnd, AV.str (gEnd 3))].length <= 1000 from (by show 2 <= 1000; decide)), upd_ok (Nat.le_trans h21 l3) (lt_of_get c3')]; rfl
 have fo3 : Fo (V3.set g3 (.dict [(sLead, .str (sp 3)), (sEnd, .str sE)] (some 2))) (nd + 1) F := L2.fo.of fun j hj => List.getElem?_set_ne (Nat.ne_of_lt (Nat.lt_trans g3n hj))
 have S3 : S V0 (ldE lo cells) (V3.set g3 (.dict [(sLead, .str (sp 3)), (sEnd, .str sE)] (some 2))) m [] := L2.fr.noD.updP c3' rfl l3 fun _ _ h => by cases h
 have gN3 : Nd (V3.set g3 (.dict [(sLead, .str (sp 3)), (sEnd, .str sE)] (some 2))) gb g0 sE (sp bl) [.ref (r.b + 4)] := by
  have hkk : ∀ {j : Nat} {o : AO}, fh <= j -> j < nd -> Vg[j]? = some o -> (∀ kvs ep, o ≠ .dict kvs ep) -> (V3.set g3 (.dict [(sLead, .str (sp 3)), (sEnd, .str sE)] (some 2)))[j]? = some o := fun h1 h2 e h3 => by
   have e2 := (L2.low _ h1 h2).trans e
   rw [List.getElem?_set_ne (fun q => by subst q; rw [c3'] at e2; exact h3 _ _ (Option.some.inj e2.symm))]; exact e2
  exact ⟨hkk (Nat.le_add_right_of_le hgb) (Nat.lt_of_le_of_lt (Nat.add_le_add_left (by decide) _) hgb2) gN.ca (by nofun), hkk (Nat.le_add_right_of_le hgb) (Nat.lt_of_le_of_lt (Nat.add_le_add_left (by decide) _) hgb2) gN.cb (by nofun), hkk (Nat.le_add_right_of_le hgb) (Nat.lt_of_le_of_lt (Nat.add_le_add_left (by decide) _) hgb2) gN.li (by nofun), hkk (Nat.le_add_right_of_le hgb) (Nat.lt_of_le_of_lt (Nat.add_le_add_left (by decide) _) hgb2) gN.fe (by nofun), hkk (Nat.le_add_right_of_le hgb) (Nat.lt_of_le_of_lt (Nat.add_le_add_left (by decide) _) hgb2) gN.at_ (by nofun), hkk (Nat.le_add_right_of_le hgb) (Nat.lt_of_le_of_lt (Nat.add_le_add_left (by decide) _) hgb2) gN.fa (by nofun), hkk (Nat.le_add_right_of_le hgb) (hgb2) gN.fi (by nofun)⟩
 have cg : (V3.set g3 (.dict [(sLead, .str (sp 3)), (sEnd, .str sE)] (some 2)))[g0]? = some (gD 0) := by
  have e2 := L2.fr.at_ d0
  rw [List.getElem?_set_ne (fun q => by subst q; rw [c3'] at e2; cases e2)]; exact e2
 have n3 : nd < V3.length := by obtain ⟨ep, e⟩ := L2.dict; exact lt_of_get e
 have n4 : nd < (V3.set g3 (.dict [(sLead, .str (sp 3)), (sEnd, .str sE)] (some 2))).length := by rw [List.length_set]; exact n3
 generalize V3.set g3 (.dict [(sLead, .str (sp 3)), (sEnd, .str sE)] (some 2)) = V4 at fo3 S3 gN3 cg n4 ⊢
 refine ex_letF (ev_list (by decide) (evs_nil ⟨_, _, _, S3.to (Keep.app V4 [.list []]), rfl, fun V5 S5 p5 f5 => ?_⟩))
 have K4 := Keep.app V4 [AO.list []]
 have low5 : ∀ j, fh <= j -> j < V4.length -> V5[j]? = V4[j]? := fun j h1 h2 => (f5.hi L.H h1).trans (K4.2 j h2)
 have hf := L.hf
 have fo5 : Fo V5 (nd + 1) F := { fo3 with
  node := fun n hn => (fo3.node n hn).of fun j h1 h2 => low5 j (by have := (fo3.hi n hn).1; lia) (by have := (fo3.node n hn).lt; lia)
  dat := fun n hn => by
   refine e4 (fo3.dat n hn) fun x y h1 h2 => ?_
   exact ⟨x, y, (low5 _ (by have := (fo3.hi n hn).2; lia) (lt_of_get h1)).trans h1, h2⟩ }
 have gN5 := gN3.of fun j h1 h2 => low5 j (Nat.le_of_lt (Nat.lt_of_le_of_lt hgb h1)) (Nat.lt_trans (Nat.lt_of_le_of_lt h2 hgb2) n4)
 have cg5 : V5[g0]? = some (gD 0) := p5.2 _ _ rfl (K4.get cg)
 have pl5 : V5[V4.length]? = some (.list []) := p5.2 _ _ rfl (get_new _ _)
 refine e5 (S5.cel 45 rfl) fun c b hc1 hc2 hc3 => ?_
 have hc4 : V5[c]? = some (.cell (some (.ref V4.length))) := by
  have := S5.get 45 _ rfl
  unfold getN at this
  rw [show look 45 (ldE lo cells).sc = some .cel from rfl] at this
  dsimp only at this
  rw [hc1] at this
  dsimp only at this
  rw [hc2] at this ⊢
  dsimp only at this
  exact rwR this rfl
 have l5 : V4.length < V5.length := lt_of_get pl5
 have hgt : ∀ V', Keep V5 V' -> Cl 41 (.ref (gb + 7)) [] V' fun v V'' => Keep V' V'' /\ ∃ j, v = .ref j /\ V'.length <= j /\ V''[j]? = some (.list (strAVs (sE :: (sz F 3 r).map part))) := fun V' K => by
  have R := fo5.node r hr
  refine (it_run (n := 35) (cs := [r.b]) (T := fun _ => (sz F 3 r).map part) (S5.topN.keep K) (gN5.keep K) (K.get cg5) (by have := L.h0; have := S3.loc; have := L.H.loc; lia) (fun c hc V2 K2 => ?_) (by decide) ?_ (by show 1 <= 900; decide)).mono fun v V'' h => ?_
  ·rw [List.mem_singleton] at hc
   subst hc
   exact ⟨meth_fn (R.keep (K.trans K2)) rfl rfl, texts (d := 19) fo5 (by have := L.h0; lia) S5.topN (fun n hn => (L.U1 _ (L.FU n hn)).2) hlen 3 r hr (by rw [hrk]; rfl) V2 (K.trans K2)⟩
  ·have := sz_len fo5.nk 3 [r] (by simp) (by simp)
   simp only [List.flatMap_cons, List.flatMap_nil, List.append_nil, List.length_map] at this ⊢
   lia
  ·simp only [List.flatMap_cons, List.flatMap_nil, List.append_nil] at h
   exact h
 have hsz : ((sz F 3 r).map part).length <= 804 := by
  have := sz_len fo5.nk 3 [r] (by simp) (by simp)
  simp only [List.flatMap_cons, List.flatMap_nil, List.append_nil, List.length_map] at this ⊢
  lia
 refine ex_expr rfl (ev_call (ev_glo (by rfl) (by rfl) (evs_cons (ev_lam rfl (closes45 hc1) (evs_cons (ev_name ((S5.to (Keep.app V5 _)).get 43 _ m43) (evs_nil ?_)))))))
 have W5 : Wr (V5 ++ [.func fiW [(45, c)] none]) V5.length c V4.length [] := ⟨get_new _ _, (Keep.app _ _).get hc4, (Keep.app _ _).get pl5⟩
 have K5 := Keep.app V5 [AO.func fiW [(45, c)] none]
 have hts : (leadOf (sz F 3 r) bl).length <= 806 := by
  unfold leadOf
  split <;> simp only [List.length_append, List.length_cons, List.length_nil] <;> lia
 have hbs : (sp bl).cps.size = bl := by unfold sp; simp
 refine N2.e6 ((ser_run (n := 40) (by decide) (S5.topN.keep K5) (gN5.keep K5) W5 (Nat.lt_trans hgb2 n4) (by have := L.h0; have := S3.loc; have := L.H.loc; lia) (fun V' K => hgt V' (K5.trans K)) (by simp only [List.length_cons, List.length_nil]; lia) (by lia)).out) fun v6 V6 e6 z110 k6 l6 => ?_
 subst z110
 refine ⟨_, V6, e6, rfl, ?_⟩
 have S6 := (S5.to K5).kb k6 ((Keep.app _ _).get pl5) (by have := S3.keep.1; lia) (fun _ _ h => by cases h)
 have l6' : V6[V4.length]? = some (.list (strAVs (leadOf (sz F 3 r) bl))) := by
  refine rwR l6 ?_
  rw [List.nil_append]
  unfold leadOf
  rw [strAVs_app]
  by_cases h : (sp bl).cps.size ≠ 0
  ·refine rwR (if_pos h) ?_
   refine rwR (if_pos h) ?_
   rfl
  ·refine rwR (if_neg h) ?_
   refine rwR (if_neg h) ?_
   rfl
 refine ex_ret (ev_meth (by rfl) (ev_str ⟨.str, rfl, evs_cons (ev_name (S6.get 45 _ (by rfl)) (evs_nil ⟨_, _, ?_, hq V6 S6.keep⟩))⟩))
 refine (?_ : methS sE 61 [.ref V4.length] V6 = _)
 refine rwR methS_join ?_
 refine rwR l6' ?_
 dsimp only
 rw [strAVs_lenL, if_pos ⟨(Nat.le_trans hts (by decide)), by decide⟩, joinA_cj]
 refine (?_ : (mkS (cj (leadOf (sz F 3 r) bl))).bind _ = _)
 unfold mkS
 rw [if_pos ?_]
 ·rfl
 ·refine rwL Array.length_toList ?_
  rw [leadOf_list]
  have := leadL_len (sz F 3 r) bl (sz_le (fun n hn => (L.U1 _ (L.FU n hn)).2) 3 r hr)
  rw [List.length_map] at hsz
  lia
theorem ev_dict1 {k : Str} (h : Ev n E e (V ++ [.dict [] (some 0)]) fun v V1 => V1[V.length]? = some (.dict [] (some 0)) /\ 21 <= V.length /\ Q (.ref V.length) (V1.set V.length (.dict [(k, v)] (some 1)))) : Ev (n + 1) E (.dict [(k, p1)] [e] p) V Q := by
 refine N2.e6 h.out fun v V1 h1 h2 h3 q => ?_
 refine ⟨_, _, ?_, q⟩
 show (evs (lvO n) E [e] (V ++ [.dict [] (some 0)])).bind (fun x => match x.2[V.length]? with
  | some (.dict [] (some 0)) => if (1 = 1 /\ 1 <= 15 /\ [(k, p1)] ≠ []) then (upd V.length (.dict (dputs ([k].zip x.1) ([], some 0)).1 (dputs ([k].zip x.1) ([], some 0)).2) x.2).bind fun s => some (AV.ref V.length, s) else none
  | _ => none) = _
 have e1 : evs (lvO n) E [e] (V ++ [.dict [] (some 0)]) = some ([v], V1) := by
  refine (?_ : ((lvO n).ev E e _).bind _ = _)
  refine rwR h1 ?_
  rfl
 refine rwR e1 ?_
 refine (?_ : (match V1[V.length]? with | some (.dict [] (some 0)) => _ | _ => none) = _)
 refine rwR h2 ?_
 refine rwR (if_pos ⟨rfl, by decide, by nofun⟩) ?_
 refine rwR (upd_ok h3 (lt_of_get h2)) ?_
 rfl
theorem mul_sp (bl : Nat) (h : bl < 3) : Txt.mul ⟨#[32]⟩ (bl : Int) = sp bl := by
 have : bl = 0 \/ bl = 1 \/ bl = 2 := (or3 h)
 rcases this with rfl | rfl | rfl <;> decide
theorem mul_run (h : bl < 3) : bin .Mult (.str ⟨#[32]⟩) (.int bl) V = some (.str (sp bl), V) := by
 refine (?_ : (if 0 <= (bl : Int) /\ (bl : Int) <= 1000 /\ (⟨#[32]⟩ : Str).cps.size <= 100 then some (AV.str (Txt.mul ⟨#[32]⟩ bl), V) else none) = _)
 refine rwR (if_pos ⟨(Int.natCast_nonneg _), by lia, by decide⟩) ?_
 exact rwR (mul_sp bl h) rfl
theorem tail_set {t : Str} {kids : List AV} (h : Nd V b da tag tail kids) (h21 : 21 <= b) : ∃ V', setAttrA (.ref (b + 4)) 26 (.str t) V = some V' /\ Nd V' b da tag t kids /\ V' = V.set (b + 5) (.attrs [(19, .str tag), (26, .str t), (37, .ref (b + 6)), (38, .ref 7), (39, .ref (b + 7))]) := by
 refine i4 _ ?_ ?_ rfl
 ·unfold setAttrA
  dsimp only
  refine rwR h.fe ?_
  dsimp only
  refine rwR h.at_ ?_
  dsimp only
  refine rwR (if_pos (by rfl)) ?_
  refine rwR (upd_ok (Nat.le_add_right_of_le (Nat.le_trans (by decide) h21)) (lt_of_get h.at_)) ?_
  rfl
 ·have ne : ∀ {j : Nat} {o : AO}, V[j]? = some o -> j ≠ b + 5 -> (V.set (b + 5) (.attrs [(19, .str tag), (26, .str t), (37, .ref (b + 6)), (38, .ref 7), (39, .ref (b + 7))]))[j]? = some o := fun e q => by rw [List.getElem?_set_ne (fun r => q r.symm)]; exact e
  exact ⟨ne h.ca (neA (by decide)), ne h.cb (neA (by decide)), ne h.li (neA (by decide)), ne h.fe (neA (by decide)), List.getElem?_set_self (lt_of_get h.at_), ne h.fa (neA (by decide)), ne h.fi (neA (by decide))⟩
theorem root_binds {a : AV} : bindsA fSubElement [a, .str sE] [(90, .str sE), (91, .str sTab)] V = some ([(18, a), (19, .str sE), (20, .ref 19), (21, .ref V.length)], V ++ [.dict [(nm 90, .str sE), (nm 91, .str sTab)] (some 2)]) := by rfl
theorem root_merge : (dputs [(nm 90, .str sE), (nm 91, .str sTab)] (dputs [] ([], none))).1 = [(sLead, AV.str sE), (sEnd, .str sTab)] := by rfl
structure Uok (U : List (List Str)) : Prop where
 U0 : [] ∈ U
 U1 : ∀ k, k ∈ U -> (jn k).cps.size <= 1000 /\ k.length <= 3
 U2 : ∀ k k', k ∈ U -> k' ∈ U -> jn k = jn k' -> k = k'
 U3 : ∀ k, k ∈ U -> (Txt.split (jn k) sSep).getLast? = some (tagOf k) /\ (Txt.split (jn k) sSep).length <= 1000
 len : U.length <= 50
noncomputable def keysOf (tr : List Tr) : List (List Str) := tr.foldl addT [[]]
noncomputable def Lead (tr : List Tr) (bl : Nat) (v : AV) : Prop := ∃ szs : List Nat, v = .str (cj (leadOf szs bl)) /\ (∀ k, k ∈ szs -> k <= 3) /\ szs.length <= 204 /\ ∀ j, j <= 3 -> szs.count j = (keysOf tr).countP fun k => decide (k.length = j)
theorem lead_run {mi : Nat} {tr : List (Nat × Tr)} {U : List (List Str)} (T0 : Top V) (hmi : V[mi]? = some (.list (tr.map fun x => .ref x.1))) (htr : ∀ x, x ∈ tr -> V[x.1]? = some (trAO x.2)) (ok : Uok U) (hU : ∀ x, x ∈ tr -> ∀ k, k ∈ seven x.2 -> k ∈ U) (hl : tr.length < 1000) (hbl : bl < 3) :
  Cl 47 (.ref 9) [.ref mi, .int bl] V fun v V' => Keep V V' /\ Lead (tr.map (·.2)) bl v := by
 refine cl_top T0 (fn_at T0 (k := 9) (by decide) rfl) (by rfl) rfl fun lo cells V1 hS => ?_
 unfold f_law_lead_b
 have h21 := T0.len
 have hs1 := hS.keep.1
 refine ex_letF (ev_call (ev_glo (by rfl) (by rfl) (evs_nil ((given_run (by decide) hS.topN).mono fun v V2 hv => ?_))))
 refine e7 hv fun z44 K2 w w0 w1 w2 w3 => ?_
 subst z44
 refine ⟨_, _, _, hS.to K2, rfl, fun V3 S3 p3 f3 => ?_⟩
 have e3 : V2.length = V3.length := f3.1.symm
 have lK2 := lt_of_get w3
 have v0 := p3.2 _ _ rfl w
 have v1 := p3.2 _ _ rfl w0
 have v2 := p3.2 _ _ rfl w1
 have v3 := p3.2 _ _ rfl w2
 have v4 := p3.2 _ _ rfl w3
 have H1 := hS.hiOk
 generalize V1.length = fh at *
 refine ex_letF (ev_call (ev_glo (by rfl) (by rfl) (evs_cons (ev_str (evs_cons (ev_sub (ev_name (S3.get 42 _ (by rfl)) (ev_int (by rfl) ⟨.ref (fh + 5), item_list v0 (by decide) (by decide) rfl, evs_nil ?_⟩))))))))
 refine (elem_run (n := 44) (t := sE) (x := sp 0) (y := gEnd 0) (by decide) S3.topN v1 (Nat.le_add_right_of_le (Nat.le_trans h21 hs1))).mono fun v V4 hv => ?_
 refine e4 hv fun z48 K4 l4 N4 => ?_
 subst z48
 refine ⟨_, _, _, S3.to K4, rfl, fun V5 S5 p5 f5 => ?_⟩
 have e5 : V5.length = V3.length + 8 := f5.1.trans l4
 have N5 := N4.of fun j h1 h2 => f5.hi H1 (by lia)
 have v0 := p5.2 _ _ rfl (K4.get v0)
 have v1 := p5.2 _ _ rfl (K4.get v1)
 have v2 := p5.2 _ _ rfl (K4.get v2)
 have v3 := p5.2 _ _ rfl (K4.get v3)
 have v4 := p5.2 _ _ rfl (K4.get v4)
 have hgb : fh + 8 < V3.length := by lia
 generalize V3.length = gb at *
 refine ex_assignA (ev_bin (ev_str (ev_name (S5.get 41 _ (by rfl)) ⟨_, _, mul_run hbl, ?_⟩)))
 refine ev_name (S5.get 43 _ (by rfl)) ?_
 refine e4 (tail_set (t := sp bl) N5 (Nat.le_trans h21 (Nat.le_trans hs1 (leX (i := 0) lK2 e3)))) fun V6 e6 N6 z52 => ?_
 subst z52
 refine ⟨_, e6, ?_⟩
 have S6 := S5.updP (o' := .attrs [(19, .str sE), (26, .str (sp bl)), (37, .ref (gb + 6)), (38, .ref 7), (39, .ref (gb + 7))]) N5.at_ rfl (Nat.le_trans hs1 (leX lK2 e3)) noD0
 have ne : ∀ {j : Nat} {o : AO}, V5[j]? = some o -> j ≠ gb + 5 -> (V5.set (gb + 5) (.attrs [(19, .str sE), (26, .str (sp bl)), (37, .ref (gb + 6)), (38, .ref 7), (39, .ref (gb + 7))]))[j]? = some o := fun e q => by rw [List.getElem?_set_ne (fun r => q r.symm)]; exact e
 have v0 := ne v0 (neX lK2 e3 (by decide))
 have v1 := ne v1 (neX lK2 e3 (by decide))
 have v2 := ne v2 (neX lK2 e3 (by decide))
 have v3 := ne v3 (neX lK2 e3 (by decide))
 have v4 := ne v4 (neX lK2 e3 (by decide))
 have l6 : (V5.set (gb + 5) (.attrs [(19, .str sE), (26, .str (sp bl)), (37, .ref (gb + 6)), (38, .ref 7), (39, .ref (gb + 7))])).length = gb + 8 := by rw [List.length_set]; exact e5
 generalize V5.set (gb + 5) (.attrs [(19, .str sE), (26, .str (sp bl)), (37, .ref (gb + 6)), (38, .ref 7), (39, .ref (gb + 7))]) = V6 at *
 refine ex_letF (ev_dict1 (ev_callk rfl (ev_glo (by rfl) (by rfl) (evs_cons (ev_name ((S6.to (Keep.app V6 [.dict [] (some 0)])).get 43 _ (by rfl)) (evs_cons (ev_str (evs_nil (evs_cons (ev_str (evs_cons (ev_str (evs_nil ?_)))))))))))))
 have K7 := Keep.app V6 [AO.dict [] (some 0)]
 have T7 := S6.topN.keep K7
 refine (sub_run (by decide) T7 (N6.keep K7) (Nat.le_trans h21 (Nat.le_trans hs1 (leX (i := 0) lK2 e3))) root_binds (fn_at T7 (k := 19) (by decide) rfl) root_merge ⟨by decide, (by show 2 <= 10; decide)⟩ (by decide)).mono fun v V8 hv => ?_
 refine e9 hv fun b da z53 hb hda k8 li8 N8 d8 => ?_
 clear hv
 subst z53
 rw [List.length_append, l6] at hb hda
 have hb : gb + 9 <= b := hb
 have hda : gb + 9 <= da := hda
 have nd7 : (V6 ++ [AO.dict [] (some 0)])[gb + 8]? = some (.dict [] (some 0)) := by rw [<- l6]; exact get_new _ _
 have nd8 := k8.get nd7 (neA (by decide))
 have S8 := (S6.to K7).kb k8 (K7.get N6.li) (Nat.le_trans hs1 (leX lK2 e3)) (fun _ _ h => by cases h)
 refine rwR l6 ?_
 refine i3 nd8 (Nat.le_trans h21 (Nat.le_trans hs1 (leX lK2 e3))) ?_
 have S9 := S8.updP (o' := .dict [(sE, .ref (b + 4))] (some 1)) nd8 rfl (Nat.le_trans hs1 (leX lK2 e3)) noD0
 refine ⟨_, _, _, S9, rfl, fun V10 S10 p10 f10 => ?_⟩
 have g9 : ∀ {j : Nat} {o : AO}, V8[j]? = some o -> j ≠ gb + 8 -> fh <= j -> V10[j]? = some o := fun {j o} e q r => by
  refine rwR (f10.hi H1 r) ?_
  refine rwR (List.getElem?_set_ne (fun x => q x.symm)) ?_
  exact e
 have g6 : ∀ {j : Nat} {o : AO}, V6[j]? = some o -> j ≠ gb + 3 -> fh <= j -> V10[j]? = some o := fun {j o} e q r => g9 (k8.get (K7.get e) q) (by have := lt_of_get e; lia) r
 have v0 := g6 v0 (neX lK2 e3 (by decide)) (Nat.le_add_right _ _)
 have v1 := g6 v1 (neX lK2 e3 (by decide)) (Nat.le_add_right _ _)
 have v2 := g6 v2 (neX lK2 e3 (by decide)) (Nat.le_add_right _ _)
 have v3 := g6 v3 (neX lK2 e3 (by decide)) (Nat.le_add_right _ _)
 have v4 := g6 v4 (neX lK2 e3 (by decide)) (Nat.le_add_right _ _)
 have nd10 : V10[gb + 8]? = some (.dict [(sE, .ref (b + 4))] (some 1)) := by
  refine rwR (f10.hi H1 (leX lK2 e3)) ?_
  refine rwR (List.getElem?_set_self (lt_of_get nd8)) ?_
  rfl
 have G10 : Nd V10 gb (fh + 5) sE (sp bl) [.ref (b + 4)] := ⟨g6 N6.ca (neA (by decide)) (leX lK2 e3), g6 N6.cb (neA (by decide)) (leX lK2 e3), g9 li8 (neA (by decide)) (leX lK2 e3), g6 N6.fe (neA (by decide)) (leX lK2 e3), g6 N6.at_ (neA (by decide)) (leX lK2 e3), g6 N6.fa (neA (by decide)) (leX lK2 e3), g6 N6.fi (neA (by decide)) (leX lK2 e3)⟩
 have R10 : Nd V10 b da sE sE [] := ⟨g9 N8.ca (neY hb (by decide)) (leY lK2 e3 hb), g9 N8.cb (neY hb (by decide)) (leY lK2 e3 hb), g9 N8.li (neY hb (by decide)) (leY lK2 e3 hb), g9 N8.fe (neY hb (by decide)) (leY lK2 e3 hb), g9 N8.at_ (neY hb (by decide)) (leY lK2 e3 hb), g9 N8.fa (neY hb (by decide)) (leY lK2 e3 hb), g9 N8.fi (neY hb (by decide)) (leY lK2 e3 hb)⟩
 have d10 := g9 d8 (neY (i := 0) hda (by decide)) (leY (i := 0) lK2 e3 hda)
 have S11 := ((((S10.add v0 rfl).add v1 rfl).add v2 rfl).add v3 rfl).add v4 rfl
 have L : Ld V lo cells U (fh + 3) (gb + 8) fh V10 [(44, .ref (gb + 8)), (43, .ref (gb + 4)), (42, .ref (fh + 3)), (41, .int bl), (40, .ref mi)] [(fh + 8, gD 3), (fh + 7, gD 2), (fh + 6, gD 1), (fh + 5, gD 0), (fh + 3, .list [.ref (fh + 5), .ref (fh + 6), .ref (fh + 7), .ref (fh + 8)])] [⟨[], b, da⟩] V10 := by
  refine ⟨S11, H1, (leX lK2 e3), fun _ _ _ => rfl, (Nat.le_trans hs1 (leX lK2 e3)), ⟨fun n hn => ?_, fun n hn => ?_, fun n hn => ?_, by simp, fun n n' hn hn' _ => ?_, fun n hn h => ?_⟩, ⟨1, nd10⟩, rfl, rfl, rfl, rfl, ⟨fh + 5, fh + 6, fh + 7, fh + 8, by simp, by simp, by simp, by simp⟩, fun i o hm => ?_, ok.U1, ok.U2, fun n hn => ?_, by have := ok.len; lia⟩
  ·rw [List.mem_singleton] at hn; subst hn; exact R10
  ·rw [List.mem_singleton] at hn; subst hn
   exact i4 sE sTab d10 rfl
  ·rw [List.mem_singleton] at hn; subst hn
   exact ⟨by dsimp only; lia, by dsimp only; lia⟩
  ·rw [List.mem_singleton] at hn hn'; rw [hn, hn']
  ·rw [List.mem_singleton] at hn; subst hn; exact (h rfl).elim
  ·have : i <= fh + 8 := by
    simp only [List.mem_cons, List.not_mem_nil, or_false, Prod.mk.injEq] at hm
    lia
   refine ⟨by lia, fun n hn => ?_⟩
   rw [List.mem_singleton] at hn; subst hn
   dsimp only; lia
  ·rw [List.mem_singleton] at hn; subst hn; exact ok.U0
 refine triples_loop (tr := tr) L (by rfl) rfl rfl rfl rfl hmi htr hU (by simp) hl fun V' F' L' k' s' => ?_
 have r' := s' ⟨[], b, da⟩ (by simp)
 have lF : F'.length <= 50 := by
  have := nodup_len (l' := U) L'.fo.nk fun a ha => by
   refine N1.e3 (List.mem_map.mp ha) fun n hn z222 => ?_
   subst z222
   exact L'.FU n hn
  rw [List.length_map] at this
  have := ok.len
  lia
 refine (?_ : Exs 46 _ (f_law_lead_b.drop 5) _ _)
 refine lead_tail L' ok.U3 (g0 := fh + 5) (g1 := fh + 6) (g2 := fh + 7) (g3 := fh + 8) (by simp) (by simp) (by simp) (by simp) (by simp) (Nat.le_add_right_of_le hs1) (Nat.le_add_right_of_le hs1) (Nat.le_add_right_of_le hs1) (Nat.le_add_right_of_le hs1) G10 (leX (i := 0) lK2 e3) (Nat.add_lt_add_left (by decide) _) r' rfl (by rfl) (by lia) (Nat.le_trans lF (by decide)) (Nat.lt_of_lt_of_le hbl (by decide)) fun V'' K => ⟨K, _, rfl, ?_, ?_, fun j hj => ?_⟩
 ·exact sz_le (fun n hn => (L'.U1 _ (L'.FU n hn)).2) 3 _ r'
 ·have := sz_len L'.fo.nk 3 [⟨[], b, da⟩] (by simp) (by simp)
  simp only [List.flatMap_cons, List.flatMap_nil, List.append_nil] at this
  lia
 ·refine rwR (sz_count r' rfl L'.fo.nk L'.fo.par j hj) ?_
  unfold lev keysOf
  refine rwL List.countP_eq_length_filter ?_
  refine rwL (show F'.map (·.k) = (tr.map (·.2)).foldl addT [[]] from k') ?_
  refine rwR List.countP_map ?_
  rfl
structure Wc where
 c : List Nat
 b : Nat
 n : Nat
 nt : Nat
noncomputable def grow (c : List Nat) (b : Nat) : List Nat := if c.length <= b then c ++ List.replicate (b - c.length + 1) 0 else c
noncomputable def bump (c : List Nat) (b : Nat) : List Nat := (grow c b).set b ((grow c b).getD b 0 + 1)
noncomputable def wst (w : Wc) (ch : Nat) : Wc := if ch = 32 then ⟨w.c, w.b + 1, w.n + 1, w.nt⟩ else ⟨bump w.c w.b, 0, w.n + 1, w.nt + 1⟩
noncomputable def wcOf (cs : List Nat) : Wc := cs.foldl wst ⟨[], 0, 0, 0⟩
theorem wst_spaces : ∀ (k : Nat) (w : Wc), (List.replicate k 32).foldl wst w = ⟨w.c, w.b + k, w.n + k, w.nt⟩
 | 0, w => rfl
 | k + 1, w => by
  refine (?_ : (List.replicate k 32).foldl wst (wst w 32) = _)
  rw [wst_spaces k]
  refine (?_ : Wc.mk w.c (w.b + 1 + k) (w.n + 1 + k) w.nt = _)
  rw [show w.b + 1 + k = w.b + (k + 1) by lia, show w.n + 1 + k = w.n + (k + 1) by lia]
theorem grow_len (c : List Nat) (b : Nat) : (grow c b).length = max c.length (b + 1) := by
 unfold grow; split
 ·rw [List.length_append, List.length_replicate]; lia
 ·lia
theorem grow_get (c : List Nat) (b j : Nat) : (grow c b).getD j 0 = c.getD j 0 := by
 unfold grow; split
 ·refine rwR (List.getD_eq_getElem?_getD) ?_
  refine rwR (List.getD_eq_getElem?_getD) ?_
  by_cases h : j < c.length
  ·exact rwR (List.getElem?_append_left h) rfl
  ·refine rwR (List.getElem?_append_right (Nat.not_lt.mp h)) ?_
   refine rwR (List.getElem?_eq_none (l := c) (Nat.not_lt.mp h)) ?_
   refine rwR (List.getElem?_replicate) ?_
   split <;> rfl
 ·rfl
theorem bump_len (c : List Nat) (b : Nat) : (bump c b).length = max c.length (b + 1) := by unfold bump; rw [List.length_set, grow_len]
theorem bump_get (c : List Nat) (b j : Nat) : (bump c b).getD j 0 = c.getD j 0 + if b = j then 1 else 0 := by
 unfold bump
 by_cases h : b = j
 ·subst h
  refine rwR (List.getD_eq_getElem?_getD) ?_
  refine rwR (List.getElem?_set_self (by rw [grow_len]; lia)) ?_
  refine rwR (if_pos rfl) ?_
  rw [grow_get]
  rfl
 ·refine rwR (List.getD_eq_getElem?_getD) ?_
  refine rwR (List.getElem?_set_ne h) ?_
  refine rwR (if_neg h) ?_
  refine rwL (List.getD_eq_getElem?_getD) ?_
  rw [grow_get]
  rfl
theorem wst_parts : ∀ (szs : List Nat) (w : Wc), w.b = 0 -> ∃ c', (szs.flatMap fun k => List.replicate k 32 ++ [9]).foldl wst w = ⟨c', 0, w.n + (szs.flatMap fun k => List.replicate k 32 ++ [9]).length, w.nt + szs.length⟩ /\ (∀ j, c'.getD j 0 = w.c.getD j 0 + szs.count j) /\ w.c.length <= c'.length /\ ∀ m, w.c.length <= m -> (∀ k, k ∈ szs -> k + 1 <= m) -> c'.length <= m
 | [], w, h => ⟨w.c, by cases w; cases h; rfl, fun j => by simp, Nat.le_refl _, fun m h _ => h⟩
 | k :: r, w, h => by
  refine e5 (wst_parts r ⟨bump w.c k, 0, w.n + (k + 1), w.nt + 1⟩ rfl) fun c' h1 h2 h3 h4 => ?_
  refine ⟨c', ?_, fun j => ?_, ?_, fun m hm hk => ?_⟩
  ·rw [List.flatMap_cons, List.foldl_append, List.foldl_append, wst_spaces, h, Nat.zero_add]
   refine (?_ : List.foldl wst (wst ⟨w.c, k, w.n + k, w.nt⟩ 9) _ = _)
   rw [show wst ⟨w.c, k, w.n + k, w.nt⟩ 9 = ⟨bump w.c k, 0, w.n + (k + 1), w.nt + 1⟩ from rfl, h1]
   simp only [List.length_append, List.length_replicate, List.length_cons, List.length_nil]
   congr 1 <;> lia
  ·rw [h2 j, bump_get, List.count_cons]
   by_cases e : k = j
   ·simp [e]; lia
   ·simp [e]
  ·dsimp only at h3; rw [bump_len] at h3; lia
  ·refine h4 m ?_ fun j hj => hk j (List.mem_cons_of_mem _ hj)
   have := hk k List.mem_cons_self
   rw [bump_len]; lia
theorem list4 {l : List Nat} {f : Nat -> Nat} (h : l.length = 4) (g : ∀ j, l.getD j 0 = f j) : l = [f 0, f 1, f 2, f 3] :=
 List.ext_getElem h fun j h1 h2 => (List.getElem_eq_getD 0).trans ((g j).trans (fm_cons (P := fun j => ∀ h2 : j < 4, f j = [f 0, f 1, f 2, f 3][j]) (fun _ => rfl) (fm_cons (fun _ => rfl) (fm_cons (fun _ => rfl) (fm_cons (fun _ => rfl) fm_nil))) j (List.mem_range.mpr h2 : j ∈ List.range 4) h2))
theorem wcOf_lead {szs : List Nat} (h : ∀ k, k ∈ szs -> k <= 3) (h3 : 0 < szs.count 3) : wcOf ((szs.flatMap fun k => List.replicate k 32 ++ [9]) ++ List.replicate bl 32) = ⟨[szs.count 0, szs.count 1, szs.count 2, szs.count 3], bl, ((szs.flatMap fun k => List.replicate k 32 ++ [9]) ++ List.replicate bl 32).length, szs.length⟩ := by
 refine e5 (wst_parts szs ⟨[], 0, 0, 0⟩ rfl) fun c' h1 h2 _ h4 => ?_
 unfold wcOf
 rw [List.foldl_append, h1, wst_spaces, List.length_append, List.length_replicate]
 have l4 := h4 4 (by simp) fun k hk => by have := h k hk; exact (Nat.succ_le_succ this)
 have e : c' = [szs.count 0, szs.count 1, szs.count 2, szs.count 3] := by
  have g : ∀ j, c'.getD j 0 = szs.count j := fun j => by rw [h2 j]; simp
  have l3 : 3 < c'.length := by
   have := g 3
   rw [List.getD_eq_getElem?_getD] at this
   cases e : c'[3]? with
   | none => rw [e] at this; simp only [Option.getD_none] at this; lia
   | some x => exact (List.getElem?_eq_some_iff.mp e).1
  exact list4 (Nat.le_antisymm l4 l3) g
 refine rwR e ?_
 simp only [Nat.zero_add]
theorem KB.set {o : AO} : KB d V (V.set d o) := ⟨by rw [List.length_set]; exact Nat.le_refl _, fun j _ h => List.getElem?_set_ne fun e => h e.symm⟩
theorem cmp_eqs {a b : Str} : cmp .Eq (.str a) (.str b) V = some (decide (a = b)) := (aeq_1 rfl : aeq V (.str a) (.str b) = _)
noncomputable def cI (c : List Nat) : List AV := c.map fun k : Nat => AV.int k
theorem attr_inst (hi : V[i]? = some (.inst d)) (hd : V[d]? = some (.attrs m)) (ha : inAttr a = true) (hl : look a m = some v) : attrA (.ref i) a V = some v := by
 unfold attrA; dsimp only; rw [hi]; dsimp only; rw [hd]; dsimp only; rw [if_pos ha]; exact hl
theorem set_inst (hi : V[i]? = some (.inst d)) (hd : V[d]? = some (.attrs m)) (ha : inAttr a = true) (hm : m.length <= 20) (h21 : 21 <= d) : setAttrA (.ref i) a v V = some (V.set d (.attrs (put a v m))) := by
 unfold setAttrA; dsimp only; rw [hi]; dsimp only; rw [hd]; dsimp only
 refine rwR (if_pos (by rw [ha, decide_eq_true hm]; rfl)) ?_
 exact rwR (upd_ok h21 (lt_of_get hd)) rfl
structure Bd (w : Wc) (m : Nat) : Prop where
 b : w.b <= m
 n : w.n <= m
 nt : w.nt <= m
 l : w.c.length <= m
 c : ∀ j, w.c.getD j 0 <= m
theorem Bd.step {w : Wc} {m : Nat} (h : Bd w m) (ch : Nat) : Bd (wst w ch) (m + 1) := by
 have h1 := h.b
 have h2 := h.n
 have h3 := h.nt
 have h4 := h.l
 unfold wst
 split
 ·exact ⟨by dsimp only; lia, by dsimp only; lia, by dsimp only; lia, by dsimp only; lia, fun j => by have := h.c j; dsimp only; lia⟩
 ·refine ⟨by dsimp only; lia, by dsimp only; lia, by dsimp only; lia, by dsimp only; rw [bump_len]; lia, fun j => ?_⟩
  rw [bump_get]
  have := h.c j
  split <;> lia
noncomputable def wsB : List Sm := forB (smAt fWhitespace___init___b 4)
noncomputable abbrev wsE (lo : Nat) (cells : List (Nat × Nat)) : AE := fiE fWhitespace___init__ lo cells
structure Wl (V0 : Sg) (lo : Nat) (cells : List (Nat × Nat)) (i : Nat) (w : Wc) (m : List (Nat × AV)) (V : Sg) : Prop where
 fr : S V0 (wsE lo cells) V m []
 m64 : look 64 m = some (.ref i)
 m62 : look 62 m = some (.str ⟨#[32]⟩)
 m63 : look 63 m = some (.str ⟨#[9]⟩)
 m68 : look 68 m = some (.int w.b)
 m69 : look 69 m = some (.int w.n)
 m70 : look 70 m = some (.int w.nt)
 li : ∃ cl, look 67 m = some (.ref cl) /\ V[cl]? = some (.list (cI w.c)) /\ V0.length <= cl
theorem cI_len (c : List Nat) : (cI c).length = c.length := List.length_map _
theorem cI_rep (k : Nat) : rep [AV.int 0] k = cI (List.replicate k 0) := by
 unfold rep cI
 refine rwR List.map_replicate ?_
 induction k with
 | zero => rfl
 | succ k ih => rw [List.replicate_succ, List.flatten_cons, ih]; rfl
theorem mul_list {k : Nat} (h : V[i]? = some (.list [.int 0])) (hk : k <= 1000) : bin .Mult (.ref i) (.int k) V = some (.ref V.length, V ++ [.list (cI (List.replicate k 0))]) := by
 unfold bin; dsimp only; rw [h]; dsimp only
 refine rwR (if_pos ⟨(Int.natCast_nonneg _), (Int.ofNat_le.mpr hk), by show 1 <= 10; decide⟩) ?_
 refine (?_ : some (AV.ref V.length, V ++ [.list (rep [.int 0] (k : Int).toNat)]) = _)
 rw [Int.toNat_natCast, cI_rep]
theorem cI_get (c : List Nat) (j : Nat) (h : j < c.length) : (cI c)[j]? = some (.int (c.getD j 0 : Nat)) := by
 unfold cI
 refine rwR (List.getElem?_map) ?_
 refine rwR (List.getD_eq_getElem?_getD) ?_
 refine rwR (List.getElem?_eq_getElem h) ?_
 rfl
theorem cI_set (c : List Nat) (j v : Nat) : (cI c).set j (.int v) = cI (c.set j v) := by unfold cI; rw [List.map_set]
theorem cI_app (c d : List Nat) : cI c ++ cI d = cI (c ++ d) := by unfold cI; rw [List.map_append]
theorem ws_space {w : Wc} {Q : AF -> Sg -> Prop} (h : Wl V0 lo cells i w m V) (m71 : look 71 m = some (.str ⟨#[32]⟩)) (bd : Bd w 1000)
  (q : ∀ m' V', Wl V0 lo cells i (wst w 32) m' V' -> Pl V V' -> Q .next V') : Exs 45 (wsE lo cells) wsB V Q := by
 have b1 := bd.b
 have b2 := bd.n
 refine ex_if (ev_cmp (ev_name (h.fr.get 71 _ m71) (ev_name (h.fr.get 62 _ h.m62) ⟨_, cmp_eqs, true, by rfl, ?_⟩)))
 refine ex_let (ev_bin (ev_name (h.fr.get 69 _ h.m69) (ev_int (by rfl) ⟨_, _, bin_int (binI_add (nb1 _) (nub1 b2 (by decide))), _, _, _, h.fr, rfl, fun V1 S1 p1 => ?_⟩)))
 refine ex_let (ev_bin (ev_name (S1.get 68 _ h.m68) (ev_int (by rfl) ⟨_, _, bin_int (binI_add (nb1 _) (nub1 b1 (by decide))), _, _, _, S1, rfl, fun V2 S2 p2 => ?_⟩)))
 refine e4 h.li fun cl c1 c2 c3 => ?_
 exact ex_nil (ex_nil (q _ V2 ⟨S2, h.m64, h.m62, h.m63, rfl, rfl, h.m70, cl, c1, (p1.trans p2).2 _ _ rfl c2, c3⟩ (p1.trans p2)))
theorem ws_tab {w : Wc} {Q : AF -> Sg -> Prop} (h : Wl V0 lo cells i w m V) (m71 : look 71 m = some (.str ⟨#[9]⟩)) (bd : Bd w 900)
  (q : ∀ m' V', Wl V0 lo cells i (wst w 9) m' V' -> KI V V' -> Q .next V') : Exs 45 (wsE lo cells) wsB V Q := by
 have b1 := bd.b
 have b2 := bd.n
 have b3 := bd.nt
 have b4 := bd.l
 refine e4 h.li fun cl c1 c2 c3 => ?_
 have h21 := h.fr.top.len
 refine ex_if (ev_cmp (ev_name (h.fr.get 71 _ m71) (ev_name (h.fr.get 62 _ h.m62) ⟨_, cmp_eqs, false, by rfl, ?_⟩)))
 refine ex_if (ev_cmp (ev_name (h.fr.get 71 _ m71) (ev_name (h.fr.get 63 _ h.m63) ⟨_, cmp_eqs, true, by rfl, ?_⟩)))
 refine ex_let (ev_bin (ev_name (h.fr.get 69 _ h.m69) (ev_int (by rfl) ⟨_, _, bin_int (binI_add (nb1 _) (nub1 b2 (by decide))), _, _, _, h.fr, rfl, fun V1 S1 p1 => ?_⟩)))
 refine ex_let (ev_bin (ev_name (S1.get 70 _ h.m70) (ev_int (by rfl) ⟨_, _, bin_int (binI_add (nb1 _) (nub1 b3 (by decide))), _, _, _, S1, rfl, fun V2 S2 p2 => ?_⟩)))
 have d2 := (p1.trans p2).2 _ _ rfl c2
 have k2 := (p1.trans p2).ki
 generalize hm2 : ((70, AV.int ((w.nt : Int) + 1)) :: (69, AV.int ((w.n : Int) + 1)) :: m) = m2 at S2
 have n64 : look 64 m2 = some (.ref i) := by rw [<- hm2]; exact h.m64
 have n62 : look 62 m2 = some (.str ⟨#[32]⟩) := by rw [<- hm2]; exact h.m62
 have n63 : look 63 m2 = some (.str ⟨#[9]⟩) := by rw [<- hm2]; exact h.m63
 have n68 : look 68 m2 = some (.int w.b) := by rw [<- hm2]; exact h.m68
 have n69 : look 69 m2 = some (.int (w.n + 1 : Nat)) := by rw [<- hm2]; rfl
 have n70 : look 70 m2 = some (.int (w.nt + 1 : Nat)) := by rw [<- hm2]; rfl
 have n67 : look 67 m2 = some (.ref cl) := by rw [<- hm2]; exact c1
 have rest : ∀ {V3 : Sg} {m3 : List (Nat × AV)} {cl : Nat}, S V0 (wsE lo cells) V3 m3 [] -> look 64 m3 = some (.ref i) -> look 62 m3 = some (.str ⟨#[32]⟩) -> look 63 m3 = some (.str ⟨#[9]⟩) -> look 68 m3 = some (.int w.b) -> look 69 m3 = some (.int (w.n + 1 : Nat)) -> look 70 m3 = some (.int (w.nt + 1 : Nat)) -> look 67 m3 = some (.ref cl) -> V3[cl]? = some (.list (cI (grow w.c w.b))) -> V0.length <= cl -> KI V V3 ->
   Exs 43 (wsE lo cells) [.assignS (.name 67 ⟨47,16,47,21⟩) (.name 68 ⟨47,22,47,23⟩) ⟨47,16,47,24⟩ (.bin (.sub (.name 67 ⟨47,27,47,32⟩) (.name 68 ⟨47,33,47,34⟩) ⟨47,27,47,35⟩) .Add (.int 1 ⟨47,38,47,39⟩) ⟨47,27,47,39⟩) ⟨47,16,47,39⟩, .assign [(68,⟨48,16,48,17⟩)] (.int 0 ⟨48,20,48,21⟩) ⟨48,16,48,21⟩] V3 fun f V2 => Go f (Exs 44 (wsE lo cells) [] V2 fun f V2 => Go f (Exs 45 (wsE lo cells) [] V2 Q) (Q f V2)) (Go f (Exs 45 (wsE lo cells) [] V2 Q) (Q f V2)) := by
  intro V3 m3 cl S3 a64 a62 a63 a68 a69 a70 a67 d3 h0 k3
  have lg : w.b < (grow w.c w.b).length := by rw [grow_len]; lia
  have bc := bd.c w.b
  refine ex_assignS (ev_bin (ev_sub (ev_name (S3.get 67 _ a67) (ev_name (S3.get 68 _ a68) ⟨_, item_list d3 (Int.natCast_nonneg _) (nub b1 (by decide)) (by rw [Int.toNat_natCast]; exact cI_get _ _ lg), ?_⟩))))
  rw [grow_get]
  refine ev_int (by rfl) ⟨_, _, bin_int (binI_add (nb1 _) (nub1 bc (by decide))), ev_name (S3.get 67 _ a67) (ev_name (S3.get 68 _ a68) ⟨_, set_list d3 (Int.natCast_nonneg _) (nub b1 (by decide)) (by rw [cI_len, Int.toNat_natCast]; exact lg) (Nat.le_trans h21 h0), ?_⟩)⟩
  have S4 := S3.updP (o' := .list ((cI (grow w.c w.b)).set (w.b : Int).toNat (.int ((w.c.getD w.b 0 : Nat) + 1 : Int)))) d3 rfl h0 noD0
  have d4 : (V3.set cl (.list ((cI (grow w.c w.b)).set (w.b : Int).toNat (.int ((w.c.getD w.b 0 : Nat) + 1 : Int)))))[cl]? = some (.list (cI (bump w.c w.b))) := by
   rw [List.getElem?_set_self (lt_of_get d3), Int.toNat_natCast]
   unfold bump
   rw [<- cI_set, grow_get]; rfl
  have k4 : KI V3 (V3.set cl (.list ((cI (grow w.c w.b)).set (w.b : Int).toNat (.int ((w.c.getD w.b 0 : Nat) + 1 : Int))))) := fun j o e io => by
   rw [List.getElem?_set_ne (fun q => by subst q; rw [d3] at e; cases e; cases io)]; exact e
  generalize V3.set cl (.list ((cI (grow w.c w.b)).set (w.b : Int).toNat (.int ((w.c.getD w.b 0 : Nat) + 1 : Int)))) = V4 at *
  refine ex_let (ev_int (by rfl) ⟨_, _, _, S4, rfl, fun V5 S5 p5 => ?_⟩)
  exact ex_nil (ex_nil (ex_nil (q _ V5 ⟨S5, a64, a62, a63, rfl, a69, a70, cl, a67, p5.2 _ _ rfl d4, h0⟩ (k3.trans (k4.trans p5.ki)))))
 have d2' := d2
 refine ex_if (ev_cmp (ev_name (S2.get 68 _ n68) (ev_call (ev_glo (by rfl) (by rfl) (evs_cons (ev_name (S2.get 67 _ n67) (evs_nil (cl_bi (len_list d2 (by rw [cI_len]; lia)) ⟨decide ((w.b : Int) >= ((cI w.c).length : Int)), rfl, _, rfl, ?_⟩))))))))
 rw [cI_len]
 by_cases hg : w.c.length <= w.b
 ·rw [decide_eq_true (show (w.b : Int) >= (w.c.length : Int) by lia), if_pos rfl]
  refine ex_let (ev_bin (ev_name (S2.get 67 _ n67) (ev_bin (ev_list (by decide) (evs_cons (ev_int (by rfl) (evs_nil ?_)))))))
  have K3 := Keep.app V2 [AO.list [.int 0]]
  have S3 := S2.to K3
  refine ev_bin (ev_bin (ev_name (S3.get 68 _ n68) (ev_call (ev_glo (by rfl) (by rfl) (evs_cons (ev_name (S3.get 67 _ n67) (evs_nil (cl_bi (len_list (K3.get d2) (by rw [cI_len]; lia)) ⟨_, _, bin_int (w := .int ((w.b - w.c.length : Nat) : Int)) (by
   rw [cI_len]
   refine (?_ : mkI _ = _)
   rw [show (w.b : Int) - (w.c.length : Int) = ((w.b - w.c.length : Nat) : Int) by lia]
   exact mkI_of (nb _) (by lia)), ?_⟩))))))))
  refine ev_int (by rfl) ⟨_, _, bin_int (w := .int ((w.b - w.c.length + 1 : Nat) : Int)) (by
   rw [show ((w.b - w.c.length + 1 : Nat) : Int) = ((w.b - w.c.length : Nat) : Int) + 1 by lia]
   exact binI_add (nb1 _) (by lia)), _, _, mul_list (get_new _ _) (by lia), ?_⟩
  have K4 := Keep.app (V2 ++ [AO.list [.int 0]]) [AO.list (cI (List.replicate (w.b - w.c.length + 1) 0))]
  refine ⟨_, _, bin_lists (K4.get (K3.get d2)) (get_new _ _) (by rw [cI_len, cI_len, List.length_replicate]; lia), ?_⟩
  have K5 := (K3.trans K4).trans (Keep.app _ [AO.list (cI w.c ++ cI (List.replicate (w.b - w.c.length + 1) 0))])
  refine ⟨_, _, _, S2.to K5, rfl, fun V6 S6 p6 => ex_nil ?_⟩
  have d6 := p6.2 _ _ rfl (get_new (V2 ++ [AO.list [.int 0]] ++ [AO.list (cI (List.replicate (w.b - w.c.length + 1) 0))]) (AO.list (cI w.c ++ cI (List.replicate (w.b - w.c.length + 1) 0))))
  refine rest S6 ((look_skip (by decide)).trans n64) ((look_skip (by decide)).trans n62) ((look_skip (by decide)).trans n63) ((look_skip (by decide)).trans n68) ((look_skip (by decide)).trans n69) ((look_skip (by decide)).trans n70) rfl ?_ ?_ (k2.trans (K5.pl.ki.trans p6.ki))
  ·rw [d6, cI_app]
   unfold grow
   rw [if_pos hg]
  ·have := S2.keep.1
   simp only [List.length_append, List.length_cons, List.length_nil]
   lia
 ·rw [decide_eq_false (show ¬ (w.b : Int) >= (w.c.length : Int) by lia), if_neg (by nofun)]
  refine ex_nil (rest S2 n64 n62 n63 n68 n69 n70 n67 ?_ c3 k2)
  rw [d2]
  unfold grow
  exact rwR (if_neg hg) rfl
structure Wsx (V : Sg) (d tc : Nat) (s : Str) (w : Wc) : Prop where
 i : V[d + 1]? = some (.inst d)
 a : V[d]? = some (.attrs [(66, .str s), (69, .int w.n), (70, .int w.nt), (72, .ref (tc + 1)), (73, .bool (decide (w.c.length <= 1)))])
 n : V[tc + 1]? = some (.tuple [.ref tc, .int w.b])
 c : V[tc]? = some (.tuple (cI w.c))
 lt : d + 1 < tc
theorem Wsx.to {s : Str} {w : Wc} (h : Wsx V d tc s w) (k : ∀ (j : Nat) (o : AO), plain o = true -> V[j]? = some o -> V'[j]? = some o) : Wsx V' d tc s w := ⟨k _ _ rfl h.i, k _ _ rfl h.a, k _ _ rfl h.n, k _ _ rfl h.c, h.lt⟩
theorem tuple_bi (h : V[l]? = some (.list xs)) (hl : xs.length <= 100000) : callB .tuple [.ref l] V = some (.ref V.length, V ++ [.tuple xs]) := by
 refine (?_ : (match V[l]? with | some (.list xs) => if xs.length <= 100000 then some (AV.ref V.length, V ++ [AO.tuple xs]) else none | _ => none) = _)
 rw [h]; dsimp only; rw [if_pos hl]
theorem ex_setA {am : List (Nat × AV)} {r : List Sm} {Q : AF -> Sg -> Prop} (hn : 0 < n) (hi : V0[i]? = some (.inst d)) (ha : inAttr a = true) (hm : am.length <= 20) (h21 : 21 <= d)
  (h : Ev n E e V fun x V1 => x = v /\ S V0 E V1 m [] /\ look 64 m = some (.ref i) /\ V0[d]? = some (.attrs am) /\ ∀ V2, S (V0.set d (.attrs (put a v am))) E V2 m [] -> KI V1 V2 -> (∀ (j : Nat) (o : AO), V1[j]? = some o -> j ≠ d -> V2[j]? = some o) -> Exs (n + 1) E r V2 Q) : Exs (n + 1) E (.assignA (.name 64 p1) a q e p :: r) V Q := by
 obtain ⟨n, rfl⟩ : ∃ k, n = k + 1 := ⟨n - 1, (Nat.sub_add_cancel hn).symm⟩
 refine ex_assignA (h.mono fun x V1 h => ?_)
 refine e5 h fun z55 hS h64 hd h => ?_
 subst z55
 have hd1 := hS.base hd
 refine ev_name (hS.get 64 _ h64) ⟨_, set_inst (hS.base hi) hd1 ha hm h21, ?_⟩
 refine h _ (hS.rebP KB.set hd rfl h21 (List.getElem?_set_self (lt_of_get hd1))) (fun j o e io => ?_) fun j o e q => ?_
 ·rw [List.getElem?_set_ne (fun q => by subst q; rw [hd1] at e; cases e; cases io)]; exact e
 ·rw [List.getElem?_set_ne (fun r => q r.symm)]; exact e
theorem init_run {s : Str} (T : Top V) (hi : V[i]? = some (.inst d)) (hd : V[d]? = some (.attrs [])) (h21 : 21 <= d) (hs : ∀ c, c ∈ s.cps.toList -> c = 32 \/ c = 9) (hl : s.cps.size <= 890) (hid : i ≠ d) :
  Cl 47 (.ref 18) [.ref i, .str s] V fun v V' => v = .none /\ KB d V V' /\ ∃ tc, V.length <= tc /\ V'[d]? = some (.attrs [(66, .str s), (69, .int (wcOf s.cps.toList).n), (70, .int (wcOf s.cps.toList).nt), (72, .ref (tc + 1)), (73, .bool (decide ((wcOf s.cps.toList).c.length <= 1)))]) /\ V'[tc + 1]? = some (.tuple [.ref tc, .int (wcOf s.cps.toList).b]) /\ V'[tc]? = some (.tuple (cI (wcOf s.cps.toList).c)) := by
 refine cl_top T (fn_at T (k := 18) (by decide) rfl) (by rfl) rfl fun lo cells V1 hS => ?_
 unfold fWhitespace___init___b
 have dlt := lt_of_get hd
 have ilt := lt_of_get hi
 refine ex_setA (by decide) hi rfl (by decide) h21 (ev_name (hS.get 65 _ (by rfl)) ⟨rfl, hS, by rfl, hd, fun V2 S2 _ _ => ?_⟩)
 have i2 : (V.set d (.attrs (put 66 (.str s) [])))[i]? = some (.inst d) := by rw [List.getElem?_set_ne (fun q => hid q.symm)]; exact hi
 have d2 : (V.set d (.attrs (put 66 (.str s) [])))[d]? = some (.attrs [(66, .str s)]) := List.getElem?_set_self dlt
 have len2 : (V.set d (.attrs (put 66 (.str s) []))).length = V.length := List.length_set
 generalize hb2 : V.set d (.attrs (put 66 (.str s) [])) = Vb at *
 have s3 := fn_at S2.topN (k := 3) (by decide) rfl
 refine ex_assignTT (by rfl) (ev_tuple (by decide) (evs_cons (ev_attr (ev_glo (by rfl) (by rfl) ⟨.str ⟨#[32]⟩, by unfold attrA; dsimp only; rw [s3]; rfl, evs_cons (ev_attr (ev_glo (by rfl) (by rfl) ⟨.str ⟨#[9]⟩, by unfold attrA; dsimp only; rw [s3]; rfl, evs_nil ?_⟩))⟩))))
 refine e5 (setEach2 (x := 63) (y := 62) (q := ⟨35, 11, 35, 12⟩) (p := ⟨35, 8, 35, 9⟩) (v := .str ⟨#[9]⟩) (w := .str ⟨#[32]⟩) (S2.to (Keep.app V2 [.tuple [.str ⟨#[32]⟩, .str ⟨#[9]⟩]])) rfl rfl) fun V3 e3 S3 p3 f3 => ?_
 refine ⟨[.str ⟨#[32]⟩, .str ⟨#[9]⟩], V3, by unfold unpackA; dsimp only; rw [get_new]; rfl, e3, ?_⟩
 refine ex_let (ev_list (by decide) (evs_nil ⟨_, _, _, S3.to (Keep.app V3 [.list []]), rfl, fun V4 S4 p4 => ?_⟩))
 have l4 := p4.2 _ _ rfl (get_new V3 (.list []))
 have h4 : Vb.length <= V3.length := S3.keep.1
 generalize V3.length = cl at l4 h4 S4
 refine ex_assignN (ev_int (by rfl) ?_)
 refine e5 (S4.set (x := 68) (kindOk_or rfl) (.int 0)) fun V5 e5 S5 p5 f5 => ?_
 refine N1.e5 (S5.set (x := 69) (kindOk_or rfl) (.int 0)) fun V6 e6 S6 p6 f6 => ?_
 refine N1.e5 (S6.set (x := 70) (kindOk_or rfl) (.int 0)) fun V7 e7 S7 p7 f7 => ?_
 refine ⟨V7, ?_, ?_⟩
 ·refine (?_ : (setN (wsE lo cells) 68 (.int 0) V4).bind (fun s => (setN (wsE lo cells) 69 (.int 0) s).bind fun s => (setN (wsE lo cells) 70 (.int 0) s).bind fun s => some s) = _)
  rw [e5]
  refine (?_ : (setN (wsE lo cells) 69 (.int 0) V5).bind _ = _)
  rw [e6]
  refine (?_ : (setN (wsE lo cells) 70 (.int 0) V6).bind _ = _)
  rw [e7]; rfl
 have W7 : Wl Vb lo cells i ⟨[], 0, 0, 0⟩ ((70, .int 0) :: (69, .int 0) :: (68, .int 0) :: (67, .ref cl) :: (62, .str ⟨#[32]⟩) :: (63, .str ⟨#[9]⟩) :: (65, .str s) :: (64, .ref i) :: []) V7 := ⟨S7, rfl, rfl, rfl, rfl, rfl, rfl, cl, rfl, ((p5.trans p6).trans p7).2 _ _ rfl l4, h4⟩
 generalize ((70, AV.int 0) :: (69, .int 0) :: (68, .int 0) :: (67, .ref cl) :: (62, .str ⟨#[32]⟩) :: (63, .str ⟨#[9]⟩) :: (65, .str s) :: (64, .ref i) :: []) = m7 at W7
 have hall : s.cps.all (· < 128) = true := by
  rw [<- Array.all_toList, List.all_eq_true]
  intro c hc
  rcases hs c hc with rfl | rfl <;> decide
 have h21b := W7.fr.top.len
 refine ex_loop (ev_attr (ev_name (W7.fr.get 64 _ W7.m64) ⟨_, attr_inst (W7.fr.base i2) (W7.fr.base d2) rfl rfl, ?_⟩)) (by decide)
 refine ⟨.siter s 0, s.cps.toList.map fun c => .str ⟨#[c]⟩, fun _ _ => False, fun xs V' => ∃ done cs m', done ++ cs = s.cps.toList /\ xs = cs.map (fun c => .str ⟨#[c]⟩) /\ Wl Vb lo cells i (done.foldl wst ⟨[], 0, 0, 0⟩) m' V' /\ Bd (done.foldl wst ⟨[], 0, 0, 0⟩) done.length, aiter_str hall, fun _ _ h => h.elim, by have := S7.keep.1; lia, by rw [List.length_map, Array.length_toList]; lia, ?_, ?_, ?_, ?_⟩
 ·exact N3.i7 [] s.cps.toList m7 rfl rfl { W7 with fr := W7.fr.to (Keep.app _ _), li := e4 W7.li fun cl a b c => ⟨cl, a, (Keep.app _ _).get b, c⟩ } ⟨by decide, by decide, by decide, by decide, fun j => by simp⟩
 ·intro xs V' o o' I ho io
  refine N3.e7 I fun done cs m' a1 a2 a3 a4 => ?_
  clear I
  refine N3.i7 done cs m' a1 a2 ({ a3 with fr := a3.fr.updP ho (iter_plain io) S7.keep.1 noD0, li := ?_ }) a4
  refine e4 a3.li fun cl a b c => ?_
  exact ⟨cl, a, by rw [List.getElem?_set_ne (fun q => by subst q; rw [b] at ho; cases ho; cases io)]; exact b, c⟩
 ·intro x xs V' I hA Qb hn _ _
  refine N3.e7 I fun done cs m' a1 a2 a3 a4 => ?_
  clear I
  rcases cs with _ | ⟨c, cs⟩
  ·contradiction
  ·refine e2 (List.cons.inj a2) fun z56 z57 => ?_
   subst z56
   subst z57
   refine N1.e5 (a3.fr.set (x := 71) (kindOk_or rfl) (.str ⟨#[c]⟩)) fun Va ea Sa pa fa => ?_
   refine ⟨Va, ea, ?_⟩
   have Wa : Wl Vb lo cells i (done.foldl wst ⟨[], 0, 0, 0⟩) ((71, .str ⟨#[c]⟩) :: m') Va := ⟨Sa, a3.m64, a3.m62, a3.m63, a3.m68, a3.m69, a3.m70, e4 a3.li fun cl x1 x2 x3 => ⟨cl, x1, pa.2 _ _ rfl x2, x3⟩⟩
   have hlen : done.length + (cs.length + 1) = s.cps.size := by
    have := congrArg List.length a1
    rw [List.length_append, List.length_cons, Array.length_toList] at this; exact this
   have bd := a4.step c
   have e1 : (done ++ [c]).foldl wst ⟨[], 0, 0, 0⟩ = wst (done.foldl wst ⟨[], 0, 0, 0⟩) c := by rw [List.foldl_append]; rfl
   have up : ∀ {m : Nat}, done.length <= m -> Bd (done.foldl wst ⟨[], 0, 0, 0⟩) m := fun h => ⟨Nat.le_trans a4.b h, Nat.le_trans a4.n h, Nat.le_trans a4.nt h, Nat.le_trans a4.l h, fun j => Nat.le_trans (a4.c j) h⟩
   have fin : ∀ (m2 : List (Nat × AV)) (V2 : Sg), Wl Vb lo cells i (wst (done.foldl wst ⟨[], 0, 0, 0⟩) c) m2 V2 -> KI Va V2 -> Qb .next V2 := fun m2 V2 W2 k2 =>
    hn _ (N3.i7 (done ++ [c]) cs m2 (by rw [List.append_assoc]; exact a1) rfl (e1 ▸ W2) (by rw [e1, List.length_append]; exact bd)) (getKI hA (pa.ki.trans k2) fun _ _ h => h.elim)
   have hc := hs c (by rw [<- a1]; simp)
   rcases hc with rfl | rfl
   ·exact ws_space Wa rfl (up (by lia)) fun m2 V2 W2 p2 => fin m2 V2 W2 p2.ki
   ·exact ws_tab Wa rfl (up (by lia)) fun m2 V2 W2 k2 => fin m2 V2 W2 k2
 ·intro V8 I
  refine N3.e7 I fun done cs m8 a1 a2 W8 bd => ?_
  clear I
  have : cs = [] := List.map_eq_nil_iff.mp a2.symm
  subst this
  rw [List.append_nil] at a1
  subst a1
  have bl := bd.l
  have bb := bd.b
  rw [Array.length_toList] at bl bb
  refine (?_ : Exs 46 _ _ _ _)
  have ew : s.cps.toList.foldl wst ⟨[], 0, 0, 0⟩ = wcOf s.cps.toList := rfl
  rw [ew] at W8 bl bb
  generalize wcOf s.cps.toList = w at *
  refine e4 W8.li fun cl8 c81 c82 c83 => ?_
  have l8 := W8.fr.keep.1
  refine ex_setA (am := [(66, .str s)]) (by decide) i2 rfl (by show 1 <= 20; decide) h21 (ev_name (W8.fr.get 69 _ W8.m69) ⟨rfl, W8.fr, W8.m64, d2, fun V9 S9 _ g9 => ?_⟩)
  have c92 := g9 _ _ c82 (Nat.ne_of_gt (Nat.lt_of_lt_of_le (len2 ▸ dlt) c83))
  have i3 : (Vb.set d (.attrs (put 69 (.int w.n) [(66, .str s)])))[i]? = some (.inst d) := by rw [List.getElem?_set_ne (fun q => hid q.symm)]; exact i2
  have d3 : (Vb.set d (.attrs (put 69 (.int w.n) [(66, .str s)])))[d]? = some (.attrs [(66, .str s), (69, .int w.n)]) := List.getElem?_set_self (lt_of_get d2)
  have kb3 : KB d V (Vb.set d (.attrs (put 69 (.int w.n) [(66, .str s)]))) := by rw [<- hb2, List.set_set]; exact KB.set
  have l93 : (Vb.set d (.attrs (put 69 (.int w.n) [(66, .str s)]))).length = V.length := by rw [List.length_set]; exact len2
  generalize Vb.set d (.attrs (put 69 (.int w.n) [(66, .str s)])) = Vc at *
  refine ex_setA (am := [(66, .str s), (69, .int w.n)]) (by decide) i3 rfl (by show 2 <= 20; decide) h21 (ev_name (S9.get 70 _ W8.m70) ⟨rfl, S9, W8.m64, d3, fun V10 S10 _ g10 => ?_⟩)
  have c102 := g10 _ _ c92 (Nat.ne_of_gt (Nat.lt_of_lt_of_le (len2 ▸ dlt) c83))
  have i4 : (Vc.set d (.attrs (put 70 (.int w.nt) [(66, .str s), (69, .int w.n)])))[i]? = some (.inst d) := by rw [List.getElem?_set_ne (fun q => hid q.symm)]; exact i3
  have d4 : (Vc.set d (.attrs (put 70 (.int w.nt) [(66, .str s), (69, .int w.n)])))[d]? = some (.attrs [(66, .str s), (69, .int w.n), (70, .int w.nt)]) := List.getElem?_set_self (lt_of_get d3)
  have kb4 : KB d V (Vc.set d (.attrs (put 70 (.int w.nt) [(66, .str s), (69, .int w.n)]))) := kb3.trans KB.set
  have l94 : (Vc.set d (.attrs (put 70 (.int w.nt) [(66, .str s), (69, .int w.n)]))).length = V.length := by rw [List.length_set]; exact l93
  generalize Vc.set d (.attrs (put 70 (.int w.nt) [(66, .str s), (69, .int w.n)])) = Vd at *
  have l10 := S10.keep.1
  have K11 := Keep.app V10 [AO.tuple (cI w.c)]
  have S11 := S10.to K11
  have g11 := get_new V10 (AO.tuple (cI w.c))
  have lt11 := lt_of_get g11
  refine ex_setA (v := .ref (V10 ++ [AO.tuple (cI w.c)]).length) (am := [(66, .str s), (69, .int w.n), (70, .int w.nt)]) (m := m8) (by decide) i4 rfl (by show 3 <= 20; decide) h21 (ev_tuple (by decide) (evs_cons (ev_call (ev_glo (by rfl) (by rfl) (evs_cons (ev_name (S10.get 67 _ c81) (evs_nil (cl_bi (tuple_bi c102 (by rw [cI_len]; lia)) ?_))))))))
  refine evs_cons (ev_name (S11.get 68 _ W8.m68) (evs_nil ⟨rfl, S11.to (Keep.app _ [.tuple [.ref V10.length, .int w.b]]), W8.m64, d4, fun V12 S12 _ g12 => ?_⟩))
  have t12 := g12 _ _ (get_new (V10 ++ [AO.tuple (cI w.c)]) (.tuple [.ref V10.length, .int w.b])) (by lia)
  have u12 := g12 _ _ ((Keep.app _ [AO.tuple [.ref V10.length, .int w.b]]).get g11) (Nat.ne_of_gt (Nat.lt_of_lt_of_le (l94 ▸ dlt) l10))
  have c122 := g12 _ _ ((Keep.app _ [AO.tuple [.ref V10.length, .int w.b]]).get (K11.get c102)) (Nat.ne_of_gt (Nat.lt_of_lt_of_le (len2 ▸ dlt) c83))
  have tl : V10.length + 1 = (V10 ++ [AO.tuple (cI w.c)]).length := by rw [List.length_append]; rfl
  rw [<- tl] at t12 S12
  have i5 : (Vd.set d (.attrs (put 72 (.ref (V10.length + 1)) [(66, .str s), (69, .int w.n), (70, .int w.nt)])))[i]? = some (.inst d) := by rw [List.getElem?_set_ne (fun q => hid q.symm)]; exact i4
  have d5 : (Vd.set d (.attrs (put 72 (.ref (V10.length + 1)) [(66, .str s), (69, .int w.n), (70, .int w.nt)])))[d]? = some (.attrs [(66, .str s), (69, .int w.n), (70, .int w.nt), (72, .ref (V10.length + 1))]) := List.getElem?_set_self (lt_of_get d4)
  have kb5 : KB d V (Vd.set d (.attrs (put 72 (.ref (V10.length + 1)) [(66, .str s), (69, .int w.n), (70, .int w.nt)]))) := kb4.trans KB.set
  have l95 : (Vd.set d (.attrs (put 72 (.ref (V10.length + 1)) [(66, .str s), (69, .int w.n), (70, .int w.nt)]))).length = V.length := by rw [List.length_set]; exact l94
  generalize Vd.set d (.attrs (put 72 (.ref (V10.length + 1)) [(66, .str s), (69, .int w.n), (70, .int w.nt)])) = Ve at *
  refine ex_setA (v := .bool (decide (w.c.length <= 1))) (am := [(66, .str s), (69, .int w.n), (70, .int w.nt), (72, .ref (V10.length + 1))]) (m := m8) (by decide) i5 rfl (by show 4 <= 20; decide) h21 (ev_cmp (ev_call (ev_glo (by rfl) (by rfl) (evs_cons (ev_name (S12.get 67 _ c81) (evs_nil (cl_bi (len_list c122 (by rw [cI_len]; lia)) (ev_int (by rfl) ⟨_, rfl, ?_⟩))))))))
  refine ⟨by rw [cI_len]; congr 1; exact decide_eq_decide.mpr (by lia), S12, W8.m64, d5, fun V13 S13 _ g13 => ?_⟩
  refine ex_nil ⟨rfl, ⟨by have := S13.keep.1; rw [List.length_set] at this; lia, fun j h1 h2 => ?_⟩, V10.length, by lia, S13.base (List.getElem?_set_self (lt_of_get d5)), g13 _ _ t12 (by lia), g13 _ _ u12 (Nat.ne_of_gt (Nat.lt_of_lt_of_le (l94 ▸ dlt) l10))⟩
  refine rwR (S13.keep.2 j (by rw [List.length_set]; lia)) ?_
  refine rwR (List.getElem?_set_ne (fun q => h2 q.symm)) ?_
  exact rwR (kb5.2 j h1 h2) rfl
noncomputable def T20 : List Nat := [7, 11, 13, 14, 19, 21, 22, 25, 26, 28, 35, 37, 38, 41, 42, 44, 49, 50, 52, 56]
noncomputable def namesL : List Str := [⟨#[79,80,84,73,77,73,90,69,68]⟩, ⟨#[78,69,87,76,79,67,65,76,83]⟩, ⟨#[86,65,82,65,82,71,83]⟩, ⟨#[86,65,82,75,69,89,87,79,82,68,83]⟩, ⟨#[78,69,83,84,69,68]⟩, ⟨#[71,69,78,69,82,65,84,79,82]⟩, ⟨#[78,79,70,82,69,69]⟩, ⟨#[67,79,82,79,85,84,73,78,69]⟩, ⟨#[73,84,69,82,65,66,76,69,95,67,79,82,79,85,84,73,78,69]⟩, ⟨#[65,83,89,78,67,95,71,69,78,69,82,65,84,79,82]⟩, ⟨#[48,120,52,48,48]⟩, ⟨#[48,120,56,48,48]⟩, ⟨#[48,120,49,48,48,48]⟩]
noncomputable def wd (base k : Nat) : Str := (namesL[base + k]?).getD sE
noncomputable def bitsOf (n : Nat) : List Nat := (List.range 6).filter fun k => n / 2 ^ k % 2 == 1
noncomputable def trOf (base n : Nat) : Tr := match bitsOf n with
 | [a, b, c] => (wd base a, wd base b, wd base c)
 | _ => (sE, sE, sE)
noncomputable def trL (t : Tr) : List AV := [.str t.1, .str t.2.1, .str t.2.2]
noncomputable def okW (n b : Nat) : Bool := match (lvl 12).cl (.ref 6) [.int n, .int b] [] top21 with
 | some (.ref k, V) => decide (21 <= k) && match V[k]? with
  | some (.list l) => decide (l = trL (trOf b n))
  | _ => false
 | _ => false
theorem refRunE {x : Option (AV × Sg)} {f : Nat -> Sg -> Bool} (h : (match x with | some (.ref k, V) => f k V | _ => false) = true) (k : ∀ j V, x = some (.ref j, V) -> f j V = true -> G) : G := by
 rcases x with _ | ⟨v, V⟩
 ·exact ftE h
 induction v with
 | ref j => exact k j V rfl h
 | _ => exact ftE h
theorem listLE {o : Option AO} {l : List AV} (h : (match o with | some (.list k) => decide (k = l) | _ => false) = true) : o = some (.list l) := by
 rcases o with _ | o
 ·exact ftE h
 induction o with
 | list k => exact of_decide_eq_true h ▸ rfl
 | _ => exact ftE h
theorem okW_7 : ((List.range 8).all (okW 7)) = true := by decide +kernel
theorem okW_11 : ((List.range 8).all (okW 11)) = true := by decide +kernel
theorem okW_13 : ((List.range 8).all (okW 13)) = true := by decide +kernel
theorem okW_14 : ((List.range 8).all (okW 14)) = true := by decide +kernel
theorem okW_19 : ((List.range 8).all (okW 19)) = true := by decide +kernel
theorem okW_21 : ((List.range 8).all (okW 21)) = true := by decide +kernel
theorem okW_22 : ((List.range 8).all (okW 22)) = true := by decide +kernel
theorem okW_25 : ((List.range 8).all (okW 25)) = true := by decide +kernel
theorem okW_26 : ((List.range 8).all (okW 26)) = true := by decide +kernel
theorem okW_28 : ((List.range 8).all (okW 28)) = true := by decide +kernel
theorem okW_35 : ((List.range 8).all (okW 35)) = true := by decide +kernel
theorem okW_37 : ((List.range 8).all (okW 37)) = true := by decide +kernel
theorem okW_38 : ((List.range 8).all (okW 38)) = true := by decide +kernel
theorem okW_41 : ((List.range 8).all (okW 41)) = true := by decide +kernel
theorem okW_42 : ((List.range 8).all (okW 42)) = true := by decide +kernel
theorem okW_44 : ((List.range 8).all (okW 44)) = true := by decide +kernel
theorem okW_49 : ((List.range 8).all (okW 49)) = true := by decide +kernel
theorem okW_50 : ((List.range 8).all (okW 50)) = true := by decide +kernel
theorem okW_52 : ((List.range 8).all (okW 52)) = true := by decide +kernel
theorem okW_56 : ((List.range 8).all (okW 56)) = true := by decide +kernel
theorem okW_all : ∀ n, n ∈ T20 -> ((List.range 8).all (okW n)) = true := fm_cons okW_7 (fm_cons okW_11 (fm_cons okW_13 (fm_cons okW_14 (fm_cons okW_19 (fm_cons okW_21 (fm_cons okW_22 (fm_cons okW_25 (fm_cons okW_26 (fm_cons okW_28 (fm_cons okW_35 (fm_cons okW_37 (fm_cons okW_38 (fm_cons okW_41 (fm_cons okW_42 (fm_cons okW_44 (fm_cons okW_49 (fm_cons okW_50 (fm_cons okW_52 (fm_cons okW_56 fm_nil)))))))))))))))))))
theorem words_run {x : Nat} (hn : 12 <= n) (T : Top V) (hx : x ∈ T20) (hb : b < 8) : Cl n (.ref 6) [.int x, .int b] V fun v V' => Keep V V' /\ ∃ j, v = .ref j /\ V.length <= j /\ V'[j]? = some (trAO (trOf b x)) := by
 refine refRunE (List.all_eq_true.mp (okW_all x hx) b (List.mem_range.mpr hb)) fun k Vs hr h => ?_
 have e : 21 <= k := of_decide_eq_true (Bool.and_eq_true_iff.mp h).1
 have ho : Vs[k]? = some (trAO (trOf b x)) := listLE (Bool.and_eq_true_iff.mp h).2
 refine (Nat.exists_eq_add_of_le' hn).elim fun m z => ?_
 subst z
 refine ⟨_, _, orc_run (n := m + 11) T (by decide) (by decide) rfl (Nat.le_refl 20) T.len hr, Keep.app _ _, V.length + (k - 21), ?_, Nat.le_add_right .., ?_⟩
 ·refine (?_ : AV.ref (gO 20 V.length k) = _)
  unfold gO
  refine rwR (if_neg (by lia)) ?_
  exact rwR (if_neg (by lia)) rfl
 ·rw [app_get, List.getElem?_map, List.getElem?_drop, show 21 + (k - 21) = k by lia, ho]; rfl
theorem ws_run {s : Str} (T : Top V) (hs : ∀ c, c ∈ s.cps.toList -> c = 32 \/ c = 9) (hl : s.cps.size <= 890) : Cl 48 (.ref 3) [.str s] V fun v V' => Keep V V' /\ ∃ d tc, v = .ref (d + 1) /\ V.length <= d /\ Wsx V' d tc s (wcOf s.cps.toList) := by
 have K1 := Keep.app V [AO.attrs []]
 have K2 := Keep.app (V ++ [AO.attrs []]) [AO.inst V.length]
 have hi := get_new (V ++ [AO.attrs []]) (.inst V.length)
 have hd := K2.get (get_new V (.attrs []))
 have T2 := T.keep (K1.trans K2)
 have h21 := T.len
 have li : (V ++ [AO.attrs []]).length = V.length + 1 := by rw [List.length_append]; rfl
 rw [li] at hi
 obtain ⟨v, V', h1, rfl, kb, tc, a2, a3, a4, a5⟩ := init_run T2 hi hd (h21) hs hl (Nat.succ_ne_self _)
 have l2 : (V ++ [AO.attrs []] ++ [AO.inst V.length]).length = V.length + 2 := by rw [List.length_append, li]; rfl
 refine ⟨.ref (V.length + 1), V', ?_, ⟨by have := kb.1; lia, fun j hj => (kb.2 j (by lia) (Nat.ne_of_lt hj)).trans ((K1.trans K2).2 j hj)⟩, V.length, tc, rfl, Nat.le_refl _, kb.get hi (Nat.succ_ne_self _), a3, a4, a5, by lia⟩
 refine (lvO_cls (n := 47) (T.at_ 3 (by decide))).trans ?_
 unfold stepCl
 dsimp only
 rw [T.at_ 3 (by decide), show sgL[3]? = some .cls from rfl]
 dsimp only [mk]
 rw [li]
 refine (?_ : ((lvO 47).cl (.ref 18) [.ref (V.length + 1), .str s] [] (V ++ [AO.attrs []] ++ [AO.inst V.length])).bind _ = _)
 rw [h1]; rfl
theorem F2_val : ∀ {ys vs : List AV}, F2 (Is V lo) ys (vs.map .val) -> ys = vs
 | _, [], h => by cases h; rfl
 | _, v :: vs, h => by
  cases h with
  | cons a b => rw [show _ = v from a, F2_val b]
noncomputable def lawCells (B : Nat) : List (Nat × Nat) := [(57, B + 7), (46, B + 6), (50, B + 5), (49, B + 4), (48, B + 3), (41, B + 2), (34, B + 1)]
noncomputable abbrev lawE (B : Nat) : AE := ⟨flaw.sc, B, lawCells B, flaw.qual, flaw.tab⟩
theorem lawCells_eq (V : Sg) : (layCells flaw.sc [] (V ++ [.ns []])).1 = lawCells V.length := by
 simp [flaw, layCells, mk, lawCells]
theorem cl_topE {j : Nat} {at_ : Option Nat} {b : List Sm} (T : Top V) (hf : V[j]? = some (.func fi [] at_)) (hb : fi.body = .stmts b) (hB : bindsA fi args [] V = some (bs, V)) (hsc : (fi.sc.map (·.1)).Nodup) (hk : ∀ p, p ∈ bs -> kindOk fi.sc p.1 = true)
  (h : ∀ V1, S V ⟨fi.sc, V.length, (layCells fi.sc [] (V ++ [.ns []])).1, fi.qual, fi.tab⟩ V1 bs.reverse [] -> Exs n ⟨fi.sc, V.length, (layCells fi.sc [] (V ++ [.ns []])).1, fi.qual, fi.tab⟩ b V1 (FinQ Q)) : Cl (n + 1) (.ref j) args V Q := by
 have hS := S.start (cl := []) (q := fi.qual) (tab := fi.tab) (fr := []) T V (Keep.refl V) hsc (fun _ _ _ h => by cases h) (fun _ _ h => by cases h)
 refine e4 (bindAll_S bs hS (fun p hp => kindOk_or (hk p hp))) fun V1 h1 h2 h3 => ?_
 rw [List.append_nil] at h2
 refine N2.e4 ((h V1 h2).out) fun f V2 h4 q => ?_
 have e : (lvO (n + 1)).cl (.ref j) args [] V = match (generalizing := false) f with
  | .ret v => some (v, V2)
  | .next => some (.none, V2)
  | .brk => none := by
  refine (lvO_fn hf).trans ?_
  unfold stepCl
  dsimp only
  refine rwR hf ?_
  dsimp only
  refine rwR hB ?_
  refine (?_ : (bindAll ⟨fi.sc, V.length, (layCells fi.sc [] (V ++ [.ns []])).1, fi.qual, fi.tab⟩ bs (layCells fi.sc [] (V ++ [.ns []])).2).bind _ = _)
  refine rwR h1 ?_
  refine rwR hb ?_
  refine (?_ : ((lvO n).ex ⟨fi.sc, V.length, (layCells fi.sc [] (V ++ [.ns []])).1, fi.qual, fi.tab⟩ b V1).bind _ = _)
  refine rwR h4 ?_
  rcases f <;> rfl
 induction f with
 | ret v => exact ⟨v, V2, e, q⟩
 | next => exact ⟨.none, V2, e, q⟩
 | brk => exact q.elim
theorem law_enter (T : Top V) (h : ∀ V1, S V (lawE V.length) V1 [(30, .ref l)] [] -> Exs n (lawE V.length) flaw_b V1 (FinQ Q)) : Cl (n + 1) (.ref 11) [.ref l] V Q := by
 refine cl_topE (fi := flaw) (bs := [(30, .ref l)]) (b := flaw_b) T (fn_at T (by decide) rfl) rfl rfl (by decide) (fm_cons rfl fm_nil) fun V1 hS => ?_
 rw [lawCells_eq] at hS ⊢
 exact h V1 hS
theorem sumA_ok : ∀ (vs : List Int) (a : Int), 0 <= a -> (∀ i, i ∈ vs -> 0 <= i /\ i <= 100000000) -> a + 100000000 * vs.length < 4611686018427387904 -> sumA (vs.map .int) a = some (.int (a + vs.sum))
 | [], a, h0, _, h => by
  refine (?_ : mkI a = _)
  rw [mkI_of (Int.lt_of_lt_of_le (by decide) h0) (by simp at h; lia)]; simp
 | i :: r, a, h0, hb, h => by
  have := hb i List.mem_cons_self
  rw [List.length_cons] at h
  refine (?_ : (if small (a + i) then sumA (r.map .int) (a + i) else none) = _)
  rw [if_pos (small_of (by lia) (by lia)), sumA_ok r (a + i) (by lia) (fun j hj => hb j (List.mem_cons_of_mem _ hj)) (by lia), List.sum_cons]
  congr 2; lia
theorem sum_bi {vs : List Int} (h : V[l]? = some (.list (vs.map .int))) (hb : ∀ i, i ∈ vs -> 0 <= i /\ i <= 100000000) (hl : vs.length = 5) : callB .sum [.ref l] V = some (.int vs.sum, V) := by
 refine (?_ : (match V[l]? with | some (.list xs) => (sumA xs 0).map (·, V) | _ => none) = _)
 rw [h]; dsimp only
 refine rwR (sumA_ok vs 0 (by lia) hb (by lia)) ?_
 rw [Int.zero_add]
 rfl
theorem sum_bd : ∀ (vs : List Int), (∀ i, i ∈ vs -> 0 <= i /\ i <= 100000000) -> 0 <= vs.sum /\ vs.sum <= 100000000 * vs.length
 | [], _ => by simp
 | i :: r, h => by
  have h1 := h i List.mem_cons_self
  have h2 := sum_bd r fun j hj => h j (List.mem_cons_of_mem _ hj)
  rw [List.sum_cons, List.length_cons]; lia
theorem anyEq_int {x : Int} : ∀ vs : List Int, anyEq V (.int x) (vs.map .int) = some (vs.any fun y => y == x)
 | [] => rfl
 | y :: r => by
  refine (?_ : ((aeq1 V 5 (.int y) (.int x)).bind fun b => (anyEq V (.int x) (r.map .int)).bind fun c => some (b || c)) = _)
  rw [anyEq_int r, aeq1_ii]; rfl
theorem in_ints {x : Int} {vs : List Int} (h : V[l]? = some (.list (vs.map .int))) : cmp .In (.int x) (.ref l) V = some (vs.any fun y => y == x) := by
 refine (?_ : isIn (.int x) (.ref l) V = _)
 unfold isIn; dsimp only; rw [h]; dsimp only
 exact anyEq_int vs
noncomputable def PT : List (Nat × Nat) := [(7, 7), (11, 25), (13, 42), (14, 52), (19, 193), (21, 322), (22, 388), (25, 584), (26, 656), (28, 800), (35, 3073), (37, 5122), (38, 6148), (41, 9224), (42, 10256), (44, 12320), (49, 17472), (50, 18560), (52, 20736), (56, 25088)]
noncomputable def pairsL : List (Nat × Nat) := [(0, 1), (0, 2), (1, 2), (0, 3), (1, 3), (2, 3), (0, 4), (1, 4), (2, 4), (3, 4), (0, 5), (1, 5), (2, 5), (3, 5), (4, 5)]
noncomputable def pop (k m : Nat) : Nat := ((List.range k).filter fun i => m.testBit i).length
noncomputable def combos : List (Nat × Nat × Nat) := [(3, 3, 1), (4, 5, 2), (5, 6, 2), (6, 6, 2), (4, 6, 3), (5, 7, 3), (5, 8, 3), (6, 8, 3), (6, 9, 3), (4, 6, 4), (5, 8, 4), (5, 9, 4), (5, 10, 4), (6, 9, 4), (6, 10, 4), (6, 11, 4), (6, 12, 4), (5, 8, 5), (5, 9, 5), (5, 10, 5), (6, 9, 5), (6, 10, 5), (6, 11, 5), (6, 12, 5), (6, 13, 5)]
noncomputable def okM (sm pm t : Nat) : Bool := t == 0 || combos.any fun c => c.1 == pop 6 sm && (c.2.1 == pop 15 pm && c.2.2 == t)
noncomputable def chk : List (Nat × Nat) -> Nat -> Nat -> Nat -> Nat -> Bool
 | _, 0, sm, pm, t => okM sm pm t
 | [], _ + 1, sm, pm, t => okM sm pm t
 | x :: r, k + 1, sm, pm, t => chk r (k + 1) sm pm t && chk r k (sm ||| x.1) (pm ||| x.2) (t + 1)
theorem fold_bit (f : Nat × Nat -> Nat) (i : Nat) : ∀ (S : List (Nat × Nat)) (a : Nat), (S.foldl (fun a x => a ||| f x) a).testBit i = (a.testBit i || S.any fun x => (f x).testBit i)
 | [], a => by simp
 | x :: S, a => by rw [List.foldl_cons, fold_bit f i S, Nat.testBit_or, List.any_cons, Bool.or_assoc]
noncomputable def singlesOf (fam : List Nat) : List Nat := (List.range 6).filter fun i => fam.any fun n => n.testBit i
noncomputable def pairsOf (fam : List Nat) : List (Nat × Nat) := pairsL.filter fun q => fam.any fun n => n.testBit q.1 && n.testBit q.2
theorem pt_pairs : ∀ x, x ∈ PT -> ∀ i, i < 15 -> x.2.testBit i = (x.1.testBit ((pairsL[i]?).getD (0, 0)).1 && x.1.testBit ((pairsL[i]?).getD (0, 0)).2) := by decide +kernel
theorem filter_map_len {α β : Type} (f : α -> β) (p : β -> Bool) : ∀ l : List α, ((l.map f).filter p).length = (l.filter fun a => p (f a)).length := fun l => by rw [List.filter_map, List.length_map]; rfl
theorem pairs_range : pairsL = (List.range 15).map fun i => (pairsL[i]?).getD (0, 0) := by decide
theorem pop_pairs {S : List (Nat × Nat)} (h : ∀ x, x ∈ S -> x ∈ PT) : pop 15 (S.foldl (fun a x => a ||| x.2) 0) = (pairsOf (S.map (·.1))).length := by
 unfold pop pairsOf
 refine rwR pairs_range ?_
 rw [filter_map_len]
 congr 1
 refine List.filter_congr fun i hi => ?_
 have hi := List.mem_range.mp hi
 rw [fold_bit (fun x => x.2) i S 0, Nat.zero_testBit, Bool.false_or, List.any_map]
 rw [Bool.eq_iff_iff, List.any_eq_true, List.any_eq_true]
 constructor
 ·intro y215
  refine e3 y215 fun x hx e => ?_
  exact i3 x hx (by rw [pt_pairs x (h x hx) i hi] at e; exact e)
 ·intro y216
  refine e3 y216 fun x hx e => ?_
  exact i3 x hx (by rw [pt_pairs x (h x hx) i hi]; exact e)
theorem pop_singles (S : List (Nat × Nat)) : pop 6 (S.foldl (fun a x => a ||| x.1) 0) = (singlesOf (S.map (·.1))).length := by
 unfold pop singlesOf
 congr 1
 refine List.filter_congr fun i _ => ?_
 rw [fold_bit (fun x => x.1) i S 0, Nat.zero_testBit, Bool.false_or, List.any_map]; rfl
theorem S.pick (h : S V0 E V m D) (k : ∀ p, p ∈ m' -> look p.1 m = some p.2) : S V0 E V m' D := h.less fun x v e => k (x, v) (look_memL e)
theorem fm_if {α β : Type} (p : α -> Bool) (g : α -> β) : ∀ l : List α, (l.filterMap fun a => if p a then some (g a) else none) = (l.filter p).map g
 | [] => rfl
 | a :: l => by
  rw [List.filterMap_cons]
  cases h : p a with
  | true => rw [if_pos rfl, List.filter_cons_of_pos h, List.map_cons, fm_if p g l]
  | false => rw [if_neg (by nofun), List.filter_cons_of_neg (by rw [h]; nofun), fm_if p g l]
noncomputable def famOk (fam : List Nat) : Prop := ∃ S : List (Nat × Nat), S.Sublist PT /\ S ≠ [] /\ S.length <= 5 /\ fam = S.map (·.1)
noncomputable def nI (l : List Nat) : List AV := l.map fun n : Nat => AV.int n
theorem pt_range : PT = (List.range 20).map fun r => PT.getD r (0, 0) := by decide
theorem t20_pt (r : Nat) : T20.getD r 0 = (PT.getD r (0, 0)).1 := by
 have : T20 = PT.map (·.1) := by decide
 refine rwR this ?_
 refine rwR (List.getD_eq_getElem?_getD) ?_
 refine rwR (List.getD_eq_getElem?_getD) ?_
 refine rwR (List.getElem?_map) ?_
 cases PT[r]? <;> rfl
theorem famOk_of {ranks : List Int} (hl : ranks.length = 5) (hr : ∀ i, i ∈ ranks -> 0 <= i /\ i < 20) : famOk (((List.range 20).filter fun k : Nat => ranks.any fun y => y == (k : Int)).map fun k => T20.getD k 0) := by
 refine i5 (((List.range 20).filter fun k : Nat => ranks.any fun y => y == (k : Int)).map fun k => PT.getD k (0, 0)) ?_ ?_ ?_ ?_
 ·have := (List.filter_sublist (l := List.range 20) (p := fun k : Nat => ranks.any fun y => y == (k : Int))).map fun r => PT.getD r (0, 0)
  rw [<- pt_range] at this; exact this
 ·obtain ⟨r, rs, rfl⟩ : ∃ r rs, ranks = r :: rs := by
   induction ranks with
   | nil => cases hl
   | cons r rs => exact ⟨r, rs, rfl⟩
  have h := hr r List.mem_cons_self
  intro e
  rw [List.map_eq_nil_iff, List.filter_eq_nil_iff] at e
  refine e r.toNat (List.mem_range.mpr (by lia)) ?_
  rw [List.any_cons, show (r == ((r.toNat : Nat) : Int)) = true from beq_iff_eq.mpr (by lia)]; rfl
 ·rw [List.length_map]
  refine rwL hl ?_
  refine rwL (List.length_map (f := fun k : Nat => (k : Int))) ?_
  refine nodup_len ?_ ?_
  ·rw [List.nodup_iff_pairwise_ne, List.pairwise_map]
   have := List.nodup_range (n := 20)
   refine (List.nodup_iff_pairwise_ne.mp (List.Nodup.sublist List.filter_sublist this)).imp fun h e => h (by lia)
  ·intro a ha
   refine e3 (List.mem_map.mp ha) fun k hk z58 => ?_
   subst z58
   refine e3 (List.any_eq_true.mp (List.mem_filter.mp hk).2) fun y hy e => ?_
   refine rwL (beq_iff_eq.mp e) ?_
   exact hy
 ·refine rwR List.map_map ?_
  exact List.map_congr_left fun k _ => t20_pt k
theorem law_A {xs : List Int} {Q : AF -> Sg -> Prop} (T : Top V) (hl : V[l]? = some (.list (xs.map .int))) (hx : xs.length <= 63) (hS : S V (lawE V.length) V1 [(30, .ref l)] [])
  (k : ∀ V2 B bl fl tl fam, B < 8 -> bl < 3 -> famOk fam -> S V (lawE V.length) V2 [(50, .ref fl), (48, .ref tl), (41, .int (bl : Nat)), (34, .int (B : Nat))] [] -> V2[fl]? = some (.list (nI fam)) -> V2[tl]? = some (.list (nI T20)) -> V.length <= fl -> V.length <= tl -> Exs 50 (lawE V.length) (flaw_b.drop 6) V2 Q) : Exs 50 (lawE V.length) flaw_b V1 Q := by
 have h21 := T.len
 unfold flaw_b
 refine ex_let (ev_call (ev_glo (by rfl) (by rfl) (evs_cons (ev_name (hS.get 30 _ (by rfl)) (evs_nil ?_)))))
 refine (numbers_sum hS.topN (hS.base hl) hx).mono fun v V2 hv => ?_
 obtain ⟨K2, j, vs, rfl, j2, v5, vb⟩ := hv
 refine ⟨_, _, _, hS.to K2, rfl, fun V3 S3 p3 => ?_⟩
 have j3 := p3.2 _ _ rfl j2
 have sb := sum_bd vs vb
 rw [v5] at sb
 refine ex_let (ev_bin (ev_call (ev_glo (by rfl) (by rfl) (evs_cons (ev_name (S3.get 31 _ (by rfl)) (evs_nil (cl_bi (sum_bi j3 vb v5) (ev_int (by rfl) ⟨_, _, bin_int (binI_mod (by decide) (by decide)), ?_⟩))))))))
 refine ⟨_, _, _, S3, rfl, fun V4 S4 p4 => ?_⟩
 have j4 := p4.2 _ _ rfl j3
 refine ex_let (ev_bin (ev_bin (ev_call (ev_glo (by rfl) (by rfl) (evs_cons (ev_name (S4.get 31 _ (by rfl)) (evs_nil (cl_bi (sum_bi j4 vb v5) (ev_int (by rfl) ⟨_, _, bin_int (binI_div (by decide) (by decide) (by lia) (by lia)), ?_⟩)))))))))
 refine ev_int (by rfl) ⟨_, _, bin_int (binI_mod (by decide) (by decide)), _, _, _, S4, rfl, fun V5 S5 p5 => ?_⟩
 have j5 := p5.2 _ _ rfl j4
 obtain ⟨B, hB, eB⟩ : ∃ B : Nat, B < 8 /\ vs.sum % 8 = (B : Int) := ⟨(vs.sum % 8).toNat, by lia, by lia⟩
 obtain ⟨bl, hbl, ebl⟩ : ∃ B : Nat, B < 3 /\ vs.sum / 8 % 3 = (B : Int) := ⟨(vs.sum / 8 % 3).toNat, by lia, by lia⟩
 rw [eB, ebl] at S5
 refine ex_let (ev_list (by decide) ?_)
 repeat refine evs_cons (ev_int (by rfl) ?_)
 refine evs_nil ⟨_, _, _, S5.to (Keep.app V5 [.list (nI T20)]), rfl, fun V6 S6 p6 => ?_⟩
 have t6 := p6.2 _ _ rfl (get_new V5 (.list (nI T20)))
 have ht : V.length <= V5.length := S5.keep.1
 have j6 := p6.2 _ _ rfl ((Keep.app V5 [.list (nI T20)]).get j5)
 generalize V5.length = tl at t6 ht S6
 have j6l := lt_of_get j6
 refine ex_let (ev_comp (by decide) (ev_name (S6.get 31 _ (by rfl)) ⟨_, _, fun x => match x with | .int i => some (.val (.int (i % 20))) | _ => none, [], aiter_list j6, by rw [List.length_map]; lia, S6.topN, Fre.of fm_nil (by decide), fun lo cells lw x hx => ?_, fun acc ys V7 K7 ha hy hF => ?_⟩))
 ·refine e3 (List.mem_map.mp hx) fun i hi z60 => ?_
  subst z60
  exact BodyC.one rfl rfl fun Va Sa _ => cds_nil (by
   refine rwR (if_pos rfl) ?_
   exact ev_bin (ev_name (Sa.get 33 _ (by rfl)) (ev_int (by rfl) ⟨_, _, bin_int (binI_mod (by decide) (by decide)), _, rfl, rfl, Keep.refl _⟩)))
 have ey : ys = (vs.map (· % 20)).map .int := F2_val (by
  rw [List.filterMap_map] at hF
  refine rwR List.map_map ?_
  refine rwR List.map_map ?_
  have e : vs.filterMap ((fun x => match x with | AV.int i => some (Rsl.val (.int (i % 20))) | _ => none) ∘ AV.int) = vs.map (Rsl.val ∘ (AV.int ∘ fun x => x % 20)) := List.filterMap_eq_map (f := Rsl.val ∘ (AV.int ∘ fun x => x % 20)) ▸ rfl
  rw [e] at hF; exact hF)
 subst ey
 refine ⟨_, _, _, S6.to K7, rfl, fun V8 S8 p8 => ?_⟩
 have r8 := p8.2 _ _ rfl hy
 have t8 := p8.2 _ _ rfl (K7.get t6)
 have rb : ∀ i, i ∈ vs.map (· % 20) -> 0 <= i /\ i < 20 := fun i hi => by
  refine e3 (List.mem_map.mp hi) fun y _ z61 => ?_
  subst z61
  exact ⟨Int.emod_nonneg y (by decide), Int.emod_lt_of_pos y (by decide)⟩
 have rl : (vs.map (· % 20)).length = 5 := by rw [List.length_map]; exact v5
 generalize vs.map (· % 20) = ranks at r8 rb rl
 have R8 := Keep.app V8 [AO.rng 0 20]
 have T9 := S8.to R8
 refine ex_let (ev_comp (by decide) (ev_call (ev_glo (by rfl) (by rfl) (evs_cons (ev_int (by rfl) (evs_nil (cl_bi (range_one (by rfl)) ⟨_, _, fun x => match x with | .int r => if ranks.any (fun y => y == r) then some (.val (.int (T20.getD r.toNat 0 : Nat))) else none | _ => none, [(48, .ref tl), (49, .ref acc)], aiter_range (P := Base _) (get_new V8 (.rng 0 20)) (by rfl) (by rfl), by rw [List.length_map, List.length_range]; decide, T9.topN, Fre.of (fm_cons ⟨rfl, T9.get 48 _ (by rfl), .inl rfl⟩ (fm_cons ⟨rfl, T9.get 49 _ (by rfl), .inl rfl⟩ fm_nil)) (by rfl), fun lo cells lw x hx => ?_, fun acc' ys V7 K7 ha hy hF => ?_⟩)))))))
 ·refine e3 (List.mem_map.mp hx) fun r hr z62 => ?_
  subst z62
  have hr := List.mem_range.mp hr
  have hr : r < 20 := hr
  rw [Int.zero_add]
  refine BodyC.one rfl rfl fun Va Sa _ => ?_
  have ra := Sa.base (R8.get r8)
  have ta := Sa.base (R8.get t8)
  refine cds_cons (ev_cmp (ev_name (Sa.get 93 _ (by rfl)) (ev_name (Sa.get 49 _ (by rfl)) ⟨_, in_ints ra, _, rfl, ?_⟩)))
  cases hq : ranks.any fun y => y == (r : Int) with
  | true =>
   refine rwR (if_pos rfl) ?_
   refine cds_nil ?_
   refine rwR (if_pos rfl) ?_
   refine ev_sub (ev_name (Sa.get 48 _ (by rfl)) (ev_name (Sa.get 93 _ (by rfl)) ⟨.int (T20.getD r 0 : Nat), item_list ta (Int.natCast_nonneg _) (by lia) ?_, .val (.int (T20.getD r 0 : Nat)), by
    refine (?_ : (if (ranks.any fun y => y == (r : Int)) then some (Rsl.val (.int (T20.getD (r : Int).toNat 0 : Nat))) else none) = _)
    rw [if_pos hq, Int.toNat_natCast], rfl, Keep.refl _⟩))
   rw [Int.toNat_natCast]
   unfold nI
   refine rwR (List.getElem?_map) ?_
   refine rwR (List.getD_eq_getElem?_getD) ?_
   refine rwR (List.getElem?_eq_getElem (show r < T20.length by exact hr)) ?_
   rfl
  | false =>
   refine rwR (if_neg (by nofun)) ?_
   refine rwR (if_neg (by nofun)) ?_
   exact ⟨by
    refine (?_ : (if (ranks.any fun y => y == (r : Int)) then some (Rsl.val (.int (T20.getD (r : Int).toNat 0 : Nat))) else none) = _)
    rw [if_neg (by rw [hq]; nofun)], Keep.refl _⟩
 have ey : ys = nI (((List.range 20).filter fun k : Nat => ranks.any fun y => y == (k : Int)).map fun k => T20.getD k 0) := F2_val (by
  have e := fm_if (fun k : Nat => ranks.any fun y => y == (k : Int)) (fun k => Rsl.val (AV.int (T20.getD k 0 : Nat))) (List.range 20)
  have e3 : (nI (((List.range 20).filter fun k : Nat => ranks.any fun y => y == (k : Int)).map fun k => T20.getD k 0)).map Rsl.val = ((List.range 20).filter fun k : Nat => ranks.any fun y => y == (k : Int)).map fun k => Rsl.val (AV.int (T20.getD k 0 : Nat)) := by
   unfold nI; rw [List.map_map, List.map_map]; rfl
  refine rwR e3 ?_
  refine rwL e ?_
  rw [List.filterMap_map] at hF
  refine cast ?_ hF
  congr 1)
 subst ey
 refine ⟨_, _, _, (T9.to K7).pick (m' := [(48, .ref tl), (41, .int (bl : Nat)), (34, .int (B : Nat))]) (fm_cons rfl (fm_cons rfl (fm_cons rfl fm_nil))), rfl, fun V9 S9 p9 => ?_⟩
 refine k V9 B bl _ _ _ hB hbl (famOk_of rl rb) S9 (p9.2 _ _ rfl hy) (p9.2 _ _ rfl (K7.get (R8.get t8))) ?_ ht
 have := R8.1; have := S8.keep.1
 lia
theorem trs_of : ∀ {fam : List Nat} {ys : List AV}, F2 (Is V lo) ys (fam.map fun n => .obj (trAO (trOf B n))) -> ∃ tr : List (Nat × Tr), ys = tr.map (fun x => .ref x.1) /\ tr.map (·.2) = fam.map (trOf B) /\ ∀ x, x ∈ tr -> V[x.1]? = some (trAO x.2) /\ lo <= x.1
 | [], _, h => by cases h; exact ⟨[], rfl, rfl, fun _ h => by cases h⟩
 | n :: fam, _, h => by
  cases h with
  | cons a b =>
   refine e5 a fun j z63 h1 h2 _ => ?_
   subst z63
   refine e4 (trs_of b) fun tr z67 h3 h4 => ?_
   subst z67
   exact ⟨(j, trOf B n) :: tr, rfl, by rw [List.map_cons, h3]; rfl, fun x hx => by
    rcases List.mem_cons.mp hx with rfl | hx
    ·exact ⟨h2, h1⟩
    ·exact h4 x hx⟩
theorem words_comp {it : Ex} {p2 : Pos} (hn : 13 <= n) (hB : B < 8) (hL : ∀ x, x ∈ L -> x ∈ T20) (hLl : L.length < 1000)
  (h : Ev n (lawE V.length) it Vb fun v V1 => ∃ j m, v = .ref j /\ S V (lawE V.length) V1 m [] /\ look 34 m = some (.int B) /\ V1[j]? = some (.list (nI L)) /\
   ∀ (a : Nat) (tr : List (Nat × Tr)) (V' : Sg), Keep V1 V' -> V1.length <= a -> V'[a]? = some (.list (tr.map fun x : Nat × Tr => .ref x.1)) -> tr.map (·.2) = L.map (trOf B) -> (∀ x, x ∈ tr -> V'[x.1]? = some (trAO x.2) /\ V1.length <= x.1) -> Q (.ref a) V') :
  Ev (n + 1) (lawE V.length) (.comp (.call (.name 6 p1) [.name 33 p2, .name 34 p3] [] [] p4) [(33, p5)] none it [] [(103, .loc), (33, .loc), (6, .glo), (34, .fre)] p6) Vb Q := by
 obtain ⟨n, rfl⟩ : ∃ k, n = k + 2 := ⟨n - 2, (Nat.sub_add_cancel (Nat.le_trans (by decide) hn)).symm⟩
 refine ev_comp (by decide) (h.mono fun v V1 hv => ?_)
 refine e7 hv fun j m z68 hS m34 hj k => ?_
 subst z68
 refine i10 _ _ (fun x => match x with | .int i => some (.obj (trAO (trOf B i.toNat))) | _ => none) ([(34, .int B)]) (aiter_list hj) ?_ hS.topN (Fre.of (fm_cons ⟨rfl, hS.get 34 _ m34, .inl rfl⟩ fm_nil) (by rfl)) (fun lo cells lw x hx => ?_) (fun a ys V' K ha hy hF => ?_)
 ·unfold nI; rw [List.length_map]; exact hLl
 ·refine e3 (List.mem_map.mp hx) fun i hi z69 => ?_
  subst z69
  refine BodyC.one rfl rfl fun Va Sa hlw => cds_nil ?_
  refine rwR (if_pos rfl) ?_
  refine ev_call (ev_glo (by rfl) (by rfl) (evs_cons (ev_name (Sa.get 33 _ (by rfl)) (evs_cons (ev_name (Sa.get 34 _ (by rfl)) (evs_nil ?_))))))
  refine (words_run (by lia) Sa.topN (hL i hi) hB).mono fun v V2 hv => ?_
  obtain ⟨K2, j2, rfl, h2, h3⟩ := hv
  exact i4 _ rfl (⟨j2, rfl, (Nat.le_trans hlw h2), by rw [Int.toNat_natCast]; exact h3, rfl⟩) K2
 ·have e : (nI L).filterMap (fun x => match x with | .int i => some (Rsl.obj (trAO (trOf B i.toNat))) | _ => none) = L.map fun n => Rsl.obj (trAO (trOf B n)) := by
   unfold nI
   refine rwR List.filterMap_map ?_
   have : ((fun x => match x with | AV.int i => some (Rsl.obj (trAO (trOf B i.toNat))) | _ => none) ∘ fun n : Nat => AV.int n) = fun n => some (Rsl.obj (trAO (trOf B n))) := funext fun n => by
    refine (?_ : some (Rsl.obj (trAO (trOf B (n : Int).toNat))) = _)
    rw [Int.toNat_natCast]
   refine rwR this ?_
   exact congrFun List.filterMap_eq_map L
  rw [e] at hF
  refine e4 (trs_of hF) fun tr z74 h1 h2 => ?_
  subst z74
  exact k a tr V' K ha hy h1 fun x hx => ⟨(h2 x hx).1, by have := (h2 x hx).2; lia⟩
theorem anyEq_no {e : Nat} (he : V[e]? = some (.list [])) : ∀ tr : List (Nat × Tr), (∀ x, x ∈ tr -> V[x.1]? = some (trAO x.2)) -> anyEq V (.ref e) (tr.map fun x => .ref x.1) = some false
 | [], _ => rfl
 | x :: r, h => by
  have hx := h x List.mem_cons_self
  refine (?_ : ((aeq1 V 5 (.ref x.1) (.ref e)).bind fun b => (anyEq V (.ref e) (r.map fun x => .ref x.1)).bind fun c => some (b || c)) = _)
  rw [anyEq_no he r fun y hy => h y (List.mem_cons_of_mem _ hy)]
  have : aeq1 V 5 (.ref x.1) (.ref e) = some false := by
   have hne : x.1 ≠ e := fun q => by rw [q, he] at hx; cases hx
   exact aeq1_ll hne hx he rfl
  rw [this]; rfl
noncomputable def Uk : List (List Nat) := ((List.range 64).map bitsOf).filter fun k => decide (k.length <= 3)
noncomputable def nameAt (k : Nat) : Str := (namesL[k]?).getD sE
noncomputable def AK : List (List Nat) := [] :: (List.range 13).flatMap fun i => [i] :: (List.range 13).flatMap fun j => if i < j /\ j < i + 6 then [i, j] :: (List.range 13).flatMap fun k => if j < k /\ k < i + 6 then [[i, j, k]] else [] else []
noncomputable def txtOf (k : List Nat) : List Nat := (jn (k.map nameAt)).cps.toList
theorem ak_nodup : (AK.map txtOf).Nodup := by decide +kernel
theorem uk_ak : ∀ b, b ∈ List.range 8 -> ∀ k, k ∈ Uk -> (k.map (b + ·)) ∈ AK := by decide +kernel
noncomputable def akOk (k : List Nat) : Bool := decide ((jn (k.map nameAt)).cps.size <= 1000) && (decide (k.length <= 3) && (decide ((Txt.split (jn (k.map nameAt)) sSep).length <= 1000) && decide ((Txt.split (jn (k.map nameAt)) sSep).getLast? = some (tagOf (k.map nameAt)))))
theorem ak_ok : (AK.all akOk) = true := by decide +kernel
noncomputable def Ub (b : Nat) : List (List Str) := Uk.map fun k => k.map (wd b)
theorem wd_map (b : Nat) (k : List Nat) : k.map (wd b) = (k.map (b + ·)).map nameAt := by rw [List.map_map]; rfl
theorem wd_inj (hb : b < 8) {k k' : List Nat} (h : k ∈ Uk) (h' : k' ∈ Uk) (e : jn (k.map (wd b)) = jn (k'.map (wd b))) : k = k' := by
 rw [wd_map, wd_map] at e
 have := nodup_map_mem ak_nodup (uk_ak b (List.mem_range.mpr hb) k h) (uk_ak b (List.mem_range.mpr hb) k' h') (by unfold txtOf; rw [e])
 exact (List.map_inj_right (fun x y h => by omega)).mp this
theorem Ub_ok (hb : b < 8) : Uok (Ub b) := by
 have ak : ∀ k, k ∈ Uk -> akOk (k.map (b + ·)) = true := fun k hk => List.all_eq_true.mp ak_ok _ (uk_ak b (List.mem_range.mpr hb) k hk)
 refine ⟨?_, fun u hu => ?_, fun u u' hu hu' e => ?_, fun u hu => ?_, ?_⟩
 ·exact List.mem_map.mpr ⟨[], by decide, rfl⟩
 ·obtain ⟨k, hk, rfl⟩ := List.mem_map.mp hu
  have := ak k hk
  unfold akOk at this
  rw [<- wd_map] at this
  simp only [Bool.and_eq_true, decide_eq_true_eq] at this
  exact ⟨this.1, by rw [List.length_map]; have := this.2.1; rw [List.length_map] at this; exact this⟩
 ·obtain ⟨k, hk, rfl⟩ := List.mem_map.mp hu
  obtain ⟨k', hk', rfl⟩ := List.mem_map.mp hu'
  rw [wd_inj hb hk hk' e]
 ·obtain ⟨k, hk, rfl⟩ := List.mem_map.mp hu
  have := ak k hk
  unfold akOk at this
  rw [<- wd_map] at this
  simp only [Bool.and_eq_true, decide_eq_true_eq] at this
  exact ⟨this.2.2.2, this.2.2.1⟩
 ·unfold Ub; rw [List.length_map]; decide +kernel
noncomputable def sevenN (n : Nat) : List (List Nat) := match bitsOf n with
 | [a, b, c] => [[a], [b], [c], [a, b], [a, c], [b, c], [a, b, c]]
 | _ => []
theorem seven_map (h : n ∈ T20) : seven (trOf b n) = (sevenN n).map fun k => k.map (wd b) := by
 have : ∀ n, n ∈ T20 -> (bitsOf n).length = 3 := by decide
 have h3 := this n h
 unfold seven trOf sevenN
 match bitsOf n, h3 with
 | [x, y, z], _ => rfl
theorem seven_uk : ∀ n, n ∈ T20 -> ∀ k, k ∈ sevenN n -> k ∈ Uk := by decide +kernel
theorem seven_ub (h : n ∈ T20) : ∀ u, u ∈ seven (trOf b n) -> u ∈ Ub b := fun u hu => by
 rw [seven_map h] at hu
 obtain ⟨k, hk, rfl⟩ := List.mem_map.mp hu
 exact List.mem_map_of_mem (seven_uk n h k hk)
noncomputable def addN (l : List (List Nat)) (k : List Nat) : List (List Nat) := if k ∈ l then l else l ++ [k]
noncomputable def keysN (fam : List Nat) : List (List Nat) := fam.foldl (fun ks n => (sevenN n).foldl addN ks) [[]]
theorem addN_mem {l : List (List Nat)} {k x : List Nat} : x ∈ addN l k ↔ x ∈ l \/ x = k := by
 unfold addN
 split
 ·exact ⟨.inl, fun h => h.elim (fun h => h) fun e => by rw [e]; assumption⟩
 ·rw [List.mem_append, List.mem_singleton]
theorem addN_nodup {l : List (List Nat)} {k : List Nat} (h : l.Nodup) : (addN l k).Nodup := by
 unfold addN
 split
 ·exact h
 ·rename_i hk
  rw [List.nodup_append]
  exact ⟨h, by simp, fun a ha b hb e => by rw [List.mem_singleton] at hb; exact hk (by rw [<- hb, <- e]; exact ha)⟩
theorem foldN_mem {x : List Nat} : ∀ (ks l : List (List Nat)), x ∈ ks.foldl addN l ↔ x ∈ l \/ x ∈ ks
 | [], l => by simp
 | k :: r, l => by rw [List.foldl_cons, foldN_mem r, addN_mem, List.mem_cons, or_assoc]
theorem foldN_nodup : ∀ (ks l : List (List Nat)), l.Nodup -> (ks.foldl addN l).Nodup
 | [], _, h => h
 | k :: r, l, h => foldN_nodup r _ (addN_nodup h)
theorem famN_mem {x : List Nat} : ∀ (fam : List Nat) (l : List (List Nat)), x ∈ fam.foldl (fun ks n => (sevenN n).foldl addN ks) l ↔ x ∈ l \/ ∃ n, n ∈ fam /\ x ∈ sevenN n
 | [], l => by simp
 | n :: r, l => by
  rw [List.foldl_cons, famN_mem r, foldN_mem, or_assoc]
  simp only [List.mem_cons, exists_eq_or_imp]
theorem famN_nodup : ∀ (fam : List Nat) (l : List (List Nat)), l.Nodup -> (fam.foldl (fun ks n => (sevenN n).foldl addN ks) l).Nodup
 | [], _, h => h
 | n :: r, l, h => famN_nodup r _ (foldN_nodup _ _ h)
theorem addK_map (hb : b < 8) {l : List (List Nat)} {k : List Nat} (hl : ∀ x, x ∈ l -> x ∈ Uk) (hk : k ∈ Uk) : addK (l.map fun k => k.map (wd b)) (k.map (wd b)) = (addN l k).map fun k => k.map (wd b) := by
 unfold addK addN
 by_cases h : k ∈ l
 ·rw [if_pos h, if_pos (List.mem_map_of_mem h)]
 ·rw [if_neg h, if_neg (fun q => by
   obtain ⟨x, hx, e⟩ := List.mem_map.mp q
   exact h (by rw [<- wd_inj hb (hl x hx) hk (by rw [e])]; exact hx)), List.map_append]; rfl
theorem fold_map (hb : b < 8) : ∀ (ks l : List (List Nat)), (∀ x, x ∈ l -> x ∈ Uk) -> (∀ x, x ∈ ks -> x ∈ Uk) -> (ks.map fun k => k.map (wd b)).foldl addK (l.map fun k => k.map (wd b)) = (ks.foldl addN l).map fun k => k.map (wd b)
 | [], _, _, _ => rfl
 | k :: r, l, hl, hk => by
  have hk1 := hk k List.mem_cons_self
  rw [List.map_cons, List.foldl_cons, List.foldl_cons, addK_map hb hl hk1]
  exact fold_map hb r _ (fun x hx => (addN_mem.mp hx).elim (hl x) fun e => by rw [e]; exact hk1) fun x hx => hk x (List.mem_cons_of_mem _ hx)
theorem fam_map (hb : b < 8) : ∀ (fam : List Nat) (l : List (List Nat)), (∀ n, n ∈ fam -> n ∈ T20) -> (∀ x, x ∈ l -> x ∈ Uk) -> (fam.map (trOf b)).foldl addT (l.map fun k => k.map (wd b)) = (fam.foldl (fun ks n => (sevenN n).foldl addN ks) l).map fun k => k.map (wd b)
 | [], _, _, _ => rfl
 | n :: r, l, hf, hl => by
  have hn := hf n List.mem_cons_self
  rw [List.map_cons, List.foldl_cons, List.foldl_cons]
  unfold addT
  rw [seven_map hn, fold_map hb _ _ hl (seven_uk n hn)]
  exact fam_map hb r _ (fun m hm => hf m (List.mem_cons_of_mem _ hm)) fun x hx => ((foldN_mem _ _).mp hx).elim (hl x) (seven_uk n hn x)
noncomputable def cntJ (fam : List Nat) (j : Nat) : Nat := (keysN fam).countP fun k => decide (k.length = j)
theorem keys_count (hb : b < 8) (hf : ∀ n, n ∈ fam -> n ∈ T20) (j : Nat) : ((keysOf (fam.map (trOf b))).countP fun k => decide (k.length = j)) = cntJ fam j := by
 unfold keysOf cntJ keysN
 have := fam_map hb fam [[]] hf (fun x hx => by rw [List.mem_singleton.mp hx]; decide)
 rw [show (([[]] : List (List Nat)).map fun k => k.map (wd b)) = [[]] from rfl] at this
 rw [this, List.countP_map]
 congr 1
 funext k
 show decide ((k.map (wd b)).length = j) = _
 rw [List.length_map]
theorem same_len {L M : List (List Nat)} {p : List Nat -> Bool} (hL : L.Nodup) (hM : M.Nodup) (h : ∀ x, x ∈ M ↔ x ∈ L /\ p x = true) : L.countP p = M.length := by
 rw [List.countP_eq_length_filter]
 refine Nat.le_antisymm (nodup_len (List.Nodup.sublist List.filter_sublist hL) fun a ha => (h a).mpr (List.mem_filter.mp ha)) (nodup_len hM fun a ha => List.mem_filter.mpr ((h a).mp ha))
theorem seven1 : ∀ n, n ∈ T20 -> (sevenN n).filter (fun k => decide (k.length = 1)) = ((List.range 6).filter fun i => n.testBit i).map fun i => [i] := by decide +kernel
theorem seven2 : ∀ n, n ∈ T20 -> (sevenN n).filter (fun k => decide (k.length = 2)) = (pairsL.filter fun q => n.testBit q.1 && n.testBit q.2).map fun q => [q.1, q.2] := by decide +kernel
theorem seven3 : ∀ n, n ∈ T20 -> (sevenN n).filter (fun k => decide (k.length = 3)) = [bitsOf n] := by decide +kernel
theorem seven0 : ∀ n, n ∈ T20 -> (sevenN n).filter (fun k => decide (k.length = 0)) = [] := by decide +kernel
theorem counts_ok (hf : ∀ n, n ∈ fam -> n ∈ T20) (hn : fam.Nodup) : cntJ fam 0 = 1 /\ cntJ fam 1 = (singlesOf fam).length /\ cntJ fam 2 = (pairsOf fam).length /\ cntJ fam 3 = fam.length := by
 have hL : (keysN fam).Nodup := famN_nodup fam [[]] (by simp)
 have mem : ∀ x j, (x ∈ keysN fam /\ decide (x.length = j) = true) ↔ ((x = [] /\ j = 0) \/ ∃ n, n ∈ fam /\ x ∈ (sevenN n).filter fun k => decide (k.length = j)) := fun x j => by
  unfold keysN
  rw [famN_mem]
  constructor
  ·rintro ⟨h | ⟨n, h1, h2⟩, h3⟩
   ·rw [List.mem_singleton] at h
    exact .inl ⟨h, by rw [h] at h3; exact (of_decide_eq_true h3).symm⟩
   ·exact .inr ⟨n, h1, List.mem_filter.mpr ⟨h2, h3⟩⟩
  ·rintro (⟨rfl, rfl⟩ | ⟨n, h1, h2⟩)
   ·exact ⟨.inl (by simp), rfl⟩
   ·exact ⟨.inr ⟨n, h1, (List.mem_filter.mp h2).1⟩, (List.mem_filter.mp h2).2⟩
 refine ⟨?_, ?_, ?_, ?_⟩
 ·refine same_len (M := [[]]) hL (by simp) fun x => ?_
  rw [mem x 0, List.mem_singleton]
  constructor
  ·exact fun h => .inl ⟨h, rfl⟩
  ·rintro (⟨h, _⟩ | ⟨n, h1, h2⟩)
   ·exact h
   ·rw [seven0 n (hf n h1)] at h2; cases h2
 ·rw [<- List.length_map (f := fun i : Nat => [i])]
  refine same_len hL ?_ fun x => ?_
  ·rw [List.nodup_iff_pairwise_ne, List.pairwise_map]
   exact (List.nodup_iff_pairwise_ne.mp (List.Nodup.sublist List.filter_sublist List.nodup_range)).imp fun h e => h (by cases e; rfl)
  ·rw [mem x 1]
   unfold singlesOf
   simp only [List.mem_map, List.mem_filter, List.any_eq_true]
   constructor
   ·rintro ⟨i, ⟨hi, n, h1, h2⟩, rfl⟩
    refine .inr ⟨n, h1, ?_⟩
    have g : [i] ∈ (sevenN n).filter fun k => decide (k.length = 1) := by
     rw [seven1 n (hf n h1)]
     exact List.mem_map.mpr ⟨i, List.mem_filter.mpr ⟨hi, h2⟩, rfl⟩
    exact List.mem_filter.mp g
   ·rintro (⟨_, h⟩ | ⟨n, h1, h2⟩)
    ·cases h
    ·have h2 : x ∈ (sevenN n).filter fun k => decide (k.length = 1) := List.mem_filter.mpr h2
     rw [seven1 n (hf n h1)] at h2
     obtain ⟨i, hi, rfl⟩ := List.mem_map.mp h2
     exact ⟨i, ⟨(List.mem_filter.mp hi).1, n, h1, (List.mem_filter.mp hi).2⟩, rfl⟩
 ·rw [<- List.length_map (f := fun q : Nat × Nat => [q.1, q.2])]
  refine same_len hL ?_ fun x => ?_
  ·rw [List.nodup_iff_pairwise_ne, List.pairwise_map]
   exact (List.nodup_iff_pairwise_ne.mp (List.Nodup.sublist List.filter_sublist (by decide : pairsL.Nodup))).imp fun {a b} h e => h (by
    obtain ⟨a1, a2⟩ := a
    obtain ⟨b1, b2⟩ := b
    simp only [List.cons.injEq, and_true] at e
    rw [e.1, e.2])
  ·rw [mem x 2]
   unfold pairsOf
   simp only [List.mem_map, List.mem_filter, List.any_eq_true]
   constructor
   ·rintro ⟨q, ⟨hq, n, h1, h2⟩, rfl⟩
    refine .inr ⟨n, h1, ?_⟩
    have g : [q.1, q.2] ∈ (sevenN n).filter fun k => decide (k.length = 2) := by
     rw [seven2 n (hf n h1)]
     exact List.mem_map.mpr ⟨q, List.mem_filter.mpr ⟨hq, h2⟩, rfl⟩
    exact List.mem_filter.mp g
   ·rintro (⟨_, h⟩ | ⟨n, h1, h2⟩)
    ·cases h
    ·have h2 : x ∈ (sevenN n).filter fun k => decide (k.length = 2) := List.mem_filter.mpr h2
     rw [seven2 n (hf n h1)] at h2
     obtain ⟨q, hq, rfl⟩ := List.mem_map.mp h2
     exact ⟨q, ⟨(List.mem_filter.mp hq).1, n, h1, (List.mem_filter.mp hq).2⟩, rfl⟩
 ·rw [<- List.length_map (f := bitsOf) (as := fam)]
  refine same_len hL ?_ fun x => ?_
  ·rw [List.nodup_iff_pairwise_ne, List.pairwise_map]
   have nd : (T20.map bitsOf).Nodup := by decide +kernel
   exact (List.nodup_iff_pairwise_ne.mp hn).imp_of_mem fun ha hb h e => h (nodup_map_mem nd (hf _ ha) (hf _ hb) e)
  ·rw [mem x 3]
   constructor
   ·intro h
    obtain ⟨n, h1, rfl⟩ := List.mem_map.mp h
    exact .inr ⟨n, h1, by rw [seven3 n (hf n h1)]; simp⟩
   ·rintro (⟨_, h⟩ | ⟨n, h1, h2⟩)
    ·cases h
    ·rw [seven3 n (hf n h1), List.mem_singleton] at h2
     rw [h2]; exact List.mem_map_of_mem h1
theorem szs_len : ∀ szs : List Nat, (∀ k, k ∈ szs -> k <= 3) -> szs.length = szs.count 0 + szs.count 1 + szs.count 2 + szs.count 3 /\ (szs.flatMap fun k => List.replicate k 32 ++ [9]).length = szs.count 0 + 2 * szs.count 1 + 3 * szs.count 2 + 4 * szs.count 3
 | [], _ => ⟨rfl, rfl⟩
 | k :: r, h => by
  refine e2 (szs_len r fun j hj => h j (List.mem_cons_of_mem _ hj)) fun h1 h2 => ?_
  have hk := h k List.mem_cons_self
  rw [List.flatMap_cons, List.length_append, h2, List.length_cons, h1]
  simp only [List.count_cons, List.length_append, List.length_replicate, List.length_cons, List.length_nil]
  have : k = 0 \/ k = 1 \/ k = 2 \/ k = 3 := (or4 (Nat.lt_succ_of_le hk))
  rcases this with rfl | rfl | rfl | rfl <;> simp <;> lia
noncomputable def wF (fam : List Nat) (bl : Nat) : Wc := ⟨[1, (singlesOf fam).length, (pairsOf fam).length, fam.length], bl, 1 + 2 * (singlesOf fam).length + 3 * (pairsOf fam).length + 4 * fam.length + bl, 1 + (singlesOf fam).length + (pairsOf fam).length + fam.length⟩
theorem lead_ws (hB : B < 8) (hf : ∀ n, n ∈ fam -> n ∈ T20) (hn : fam.Nodup) (h0 : fam ≠ []) (hbl : bl < 3) (h : Lead (fam.map (trOf B)) bl v) : ∃ s, v = .str s /\ (∀ c, c ∈ s.cps.toList -> c = 32 \/ c = 9) /\ s.cps.size <= 890 /\ wcOf s.cps.toList = wF fam bl := by
 refine e5 h fun szs z75 h1 h2 h3 => ?_
 clear h
 subst z75
 refine e4 (counts_ok hf hn) fun c0 c1 c2 c3 => ?_
 have k : ∀ j, j <= 3 -> szs.count j = cntJ fam j := fun j hj => (h3 j hj).trans (keys_count hB hf j)
 have k0 := (k 0 (by decide)).trans c0
 have k1 := (k 1 (by decide)).trans c1
 have k2 := (k 2 (by decide)).trans c2
 have k3 := (k 3 (by decide)).trans c3
 refine e2 (szs_len szs h1) fun l1 l2 => ?_
 have hp := List.length_pos_iff.mpr h0
 refine i5 _ rfl (fun c hc => ?_) ?_ ?_
 ·rw [leadOf_list] at hc
  rcases List.mem_append.mp hc with hc | hc
  ·refine e3 (List.mem_flatMap.mp hc) fun z _ hc => ?_
   rcases List.mem_append.mp hc with hc | hc
   ·exact .inl (List.mem_replicate.mp hc).2
   ·exact .inr (List.mem_singleton.mp hc)
  ·exact .inl (List.mem_replicate.mp hc).2
 ·refine rwL Array.length_toList ?_
  rw [leadOf_list]
  have := leadL_len szs bl h1
  lia
 ·rw [leadOf_list]
  unfold leadL
  refine rwR (wcOf_lead h1 (by lia)) ?_
  refine rwR List.length_append ?_
  refine rwR List.length_replicate ?_
  refine rwR l2 ?_
  refine rwR l1 ?_
  refine rwR k0 ?_
  refine rwR k1 ?_
  refine rwR k2 ?_
  refine rwR k3 ?_
  unfold wF
  rfl
theorem famOk.sub (h : famOk fam) : (∀ n, n ∈ fam -> n ∈ T20) /\ fam.Nodup /\ fam ≠ [] /\ fam.length <= 5 := by
 refine e5 h fun S h1 h2 h3 z76 => ?_
 clear h
 subst z76
 have e : T20 = PT.map (·.1) := by decide
 have hs := h1.map (fun x : Nat × Nat => x.1)
 refine i4 (fun n hn => by rw [e]; exact hs.subset hn) (List.Nodup.sublist hs (by decide)) (fun q => h2 (List.map_eq_nil_iff.mp q)) (by rw [List.length_map]; exact h3)
theorem mk_ws {tr : List (Nat × Tr)} {p2 : Pos} (hB : B < 8) (hbl : bl < 3) (hf : ∀ n, n ∈ L -> n ∈ T20) (hn : L.Nodup) (h0 : L ≠ []) (h5 : L.length <= 6)
  (he : Ev 47 (lawE V.length) e V1 fun v V2 => v = .ref a /\ Keep V1 V2 /\ S V (lawE V.length) V2 m [] /\ look 41 m = some (.int bl) /\ V2[a]? = some (.list (tr.map fun x => .ref x.1)) /\ tr.map (·.2) = L.map (trOf B) /\ (∀ x, x ∈ tr -> V2[x.1]? = some (trAO x.2)))
  (hq : ∀ d tc s V', Keep V1 V' -> V1.length <= d -> Wsx V' d tc s (wF L bl) -> Q (.ref (d + 1)) V') : Ev 49 (lawE V.length) (.call (.name 3 p1) [.call (.name 9 p2) [e, .name 41 p4] [] [] p5] [] [] p6) V1 Q := by
 refine ev_call (ev_glo (by rfl) (by rfl) (evs_cons (ev_call (ev_glo (by rfl) (by rfl) (evs_cons (he.mono fun v V2 hv => ?_))))))
 refine e7 hv fun z77 K1 hS m41 ha ht hx => ?_
 subst z77
 have hmem : ∀ x, x ∈ tr -> ∃ n, n ∈ L /\ x.2 = trOf B n := fun x hx => by
  have : x.2 ∈ L.map (trOf B) := by rw [<- ht]; exact List.mem_map_of_mem hx
  refine e3 (List.mem_map.mp this) fun n hn e => ?_
  exact i3 n hn e.symm
 have hlen : tr.length = L.length := by have := congrArg List.length ht; rw [List.length_map, List.length_map] at this; exact this
 refine evs_cons (ev_name (hS.get 41 _ m41) (evs_nil (((lead_run hS.topN ha hx (Ub_ok hB) (fun x hx k hk => by
  refine e3 (hmem x hx) fun n hn e => ?_
  rw [e] at hk
  exact seven_ub (hf n hn) k hk) (by lia) hbl)).mono fun v V3 hv => ?_)))
 refine e2 hv fun K2 hL => ?_
 rw [ht] at hL
 refine e5 (lead_ws hB hf hn h0 hbl hL) fun s z78 s1 s2 s3 => ?_
 subst z78
 refine evs_nil ((ws_run (hS.topN.keep K2) s1 s2).mono fun v V4 hv => ?_)
 refine e2 hv fun K3 W => ?_
 clear hv
 rw [s3] at W
 obtain ⟨d, tc, rfl, hd, W⟩ := W
 have := K1.1; have := K2.1
 exact hq d tc s V4 ((K1.trans K2).trans K3) (by omega) W
theorem cmp_in {y : AV} : cmp .In x y V = isIn x y V := rfl
theorem nI_take (k : Nat) (L : List Nat) : (nI L).take k = nI (L.take k) := by unfold nI; rw [List.map_take]
theorem nI_len (L : List Nat) : (nI L).length = L.length := List.length_map _
theorem cut_nI {j k : Nat} (h : V[j]? = some (.list (nI L))) (hl : L.length <= 1000) (hk : k <= 1000) : cutTo (.ref j) (.int k) V = some (.ref V.length, V ++ [.list (nI (L.take k))]) := by
 unfold cutTo
 dsimp only
 refine rwR h ?_
 dsimp only
 rw [nI_len, if_pos ⟨small_of (nb _) (nub hk (by decide)), (Nat.le_trans hl (by decide))⟩, if_neg (Int.not_lt.mpr (Int.natCast_nonneg _)), Int.toNat_natCast, nI_take]; rfl
theorem cut_refs {j : Nat} {tr : List (Nat × Tr)} (h : V[j]? = some (.list (tr.map fun x => .ref x.1))) (hl : tr.length <= 1000) (h0 : 0 < tr.length) : cutTo (.ref j) (.int (-1)) V = some (.ref V.length, V ++ [.list (tr.dropLast.map fun x => .ref x.1)]) := by
 unfold cutTo
 dsimp only
 refine rwR h ?_
 dsimp only
 rw [List.length_map, if_pos ⟨by decide, by lia⟩, if_pos (by decide), List.map_dropLast, List.dropLast_eq_take, List.length_map, show ((-1 : Int) + tr.length).toNat = tr.length - 1 from tn1 h0]; rfl
theorem law_B {tl : Nat} {Q : AF -> Sg -> Prop} (hB : B < 8) (hbl : bl < 3) (hfam : famOk fam) (hS : S V (lawE V.length) V1 [(50, .ref fl), (48, .ref tl), (41, .int (bl : Nat)), (34, .int (B : Nat))] []) (hfl : V1[fl]? = some (.list (nI fam))) (htl : V1[tl]? = some (.list (nI T20)))
  (k : ∀ (V2 : Sg) (fr : Nat) (tr : List (Nat × Tr)) (d1 tc1 d2 tc2 : Nat) (s1 s2 : Str), S V (lawE V.length) V2 [(54, .ref (d2 + 1)), (53, .ref (d1 + 1)), (52, .ref fr), (50, .ref fl), (41, .int (bl : Nat)), (34, .int (B : Nat))] [] -> V2[fl]? = some (.list (nI fam)) -> V2[fr]? = some (.list (tr.map fun x : Nat × Tr => .ref x.1)) -> tr.map (·.2) = (T20.take (fam.length + 1)).map (trOf B) -> (∀ x, x ∈ tr -> V2[x.1]? = some (trAO x.2)) ->
   V.length + 7 < d1 -> Wsx V2 d1 tc1 s1 (wF fam bl) -> tc1 + 1 < d2 -> Wsx V2 d2 tc2 s2 (wF (T20.take fam.length) bl) -> Exs 50 (lawE V.length) (flaw_b.drop 11) V2 Q) : Exs 50 (lawE V.length) (flaw_b.drop 6) V1 Q := by
 have h21 := hS.top.len
 refine e4 hfam.sub fun f1 f2 f3 f4 => ?_
 refine ex_let (words_comp (n := 48) (by decide) hB f1 (Nat.lt_of_le_of_lt f4 (by decide)) (ev_name (hS.get 50 _ (by rfl)) ⟨fl, _, rfl, hS, rfl, hfl, fun a tr V2 K2 ha hy ht hx => ⟨_, _, _, hS.to K2, rfl, fun V3 S3 p3 => ?_⟩⟩))
 have a3 := p3.2 _ _ rfl hy
 have x3 : ∀ x, x ∈ tr -> V3[x.1]? = some (trAO x.2) := fun x h => p3.2 _ _ rfl (hx x h).1
 have fl3 := p3.2 _ _ rfl (K2.get hfl)
 have tl3 := p3.2 _ _ rfl (K2.get htl)
 have F1 : ∀ x, x ∈ T20.take (fam.length + 1) -> x ∈ T20 := fun x h => List.mem_of_mem_take h
 have Fl : (T20.take (fam.length + 1)).length = fam.length + 1 := by rw [List.length_take]; show min _ 20 = _; lia
 refine ex_let (words_comp (n := 48) (L := T20.take (fam.length + 1)) (by decide) hB F1 (by lia) (ev_subTo (ev_name (S3.get 48 _ (by rfl)) (ev_bin (ev_call (ev_glo (by rfl) (by rfl) (evs_cons (ev_name (S3.get 50 _ (by rfl)) (evs_nil (cl_bi (len_list fl3 (by rw [nI_len]; lia)) (ev_int (by rfl) ⟨_, _, bin_int (w := .int ((fam.length + 1 : Nat) : Int)) (by
  rw [nI_len, show ((fam.length + 1 : Nat) : Int) = (fam.length : Int) + 1 by lia]
  exact binI_add (nb1 _) (nub1 f4 (by decide))), ?_⟩)))))))))))
 refine ⟨_, _, cut_nI tl3 (by decide) (Nat.le_trans (Nat.succ_le_succ f4) (by decide)), _, _, rfl, S3.to (Keep.app _ _), rfl, get_new _ _, fun fr tr2 V4 K4 ha4 hy4 ht4 hx4 => ?_⟩
 have K34 := (Keep.app V3 [AO.list (nI (T20.take (fam.length + 1)))]).trans K4
 refine ⟨_, _, _, S3.to K34, rfl, fun V5 S5 p5 => ?_⟩
 have a5 := p5.2 _ _ rfl (K34.get a3)
 have x5 : ∀ x, x ∈ tr -> V5[x.1]? = some (trAO x.2) := fun x h => p5.2 _ _ rfl (K34.get (x3 x h))
 have fl5 := p5.2 _ _ rfl (K34.get fl3)
 have b5 := p5.2 _ _ rfl hy4
 have y5 : ∀ x, x ∈ tr2 -> V5[x.1]? = some (trAO x.2) := fun x h => p5.2 _ _ rfl (hx4 x h).1
 have lt1 : tr.length = fam.length := by have := congrArg List.length ht; rw [List.length_map, List.length_map] at this; exact this
 have lt2 : tr2.length = fam.length + 1 := by have := congrArg List.length ht4; rw [List.length_map, List.length_map, Fl] at this; exact this
 refine ex_if (ev_cmp (ev_list (by decide) (evs_nil (ev_bin (ev_name ((S5.to (Keep.app V5 [.list []])).get 51 _ (by rfl)) (ev_name ((S5.to (Keep.app V5 [.list []])).get 52 _ (by rfl)) ⟨_, _, bin_lists ((Keep.app V5 [AO.list []]).get a5) ((Keep.app V5 [AO.list []]).get b5) (by rw [List.length_map, List.length_map]; lia), false, ?_, false, rfl, ?_⟩))))))
 ·refine rwR cmp_in ?_
  unfold isIn
  dsimp only
  rw [get_new]
  dsimp only
  refine rwL List.map_append ?_
  refine anyEq_no ((Keep.app _ _).get (get_new V5 (.list []))) (tr ++ tr2) fun x hx => (Keep.app _ _).get ((Keep.app V5 [AO.list []]).get ?_)
  rcases List.mem_append.mp hx with hx | hx
  ·exact x5 x hx
  ·exact y5 x hx
 have K6 := (Keep.app V5 [AO.list []]).trans (Keep.app _ [AO.list (tr.map (fun x => AV.ref x.1) ++ tr2.map fun x => AV.ref x.1)])
 generalize V5 ++ [AO.list []] ++ [AO.list (tr.map (fun x => AV.ref x.1) ++ tr2.map fun x => AV.ref x.1)] = V6 at K6
 have S6 := S5.to K6
 refine ex_nil ?_
 refine ex_let (mk_ws hB hbl f1 f2 f3 (Nat.le_trans f4 (by decide)) (ev_name (S6.get 51 _ (by rfl)) ⟨rfl, Keep.refl _, S6, rfl, K6.get a5, ht, fun x h => K6.get (x5 x h)⟩) fun d1 tc1 s1 V7 K7 h7 W7 => ⟨_, _, _, S6.to K7, rfl, fun V8 S8 p8 => ?_⟩)
 have K67 := K6.trans K7
 have fl8 := p8.2 _ _ rfl (K67.get fl5)
 have b8 := p8.2 _ _ rfl (K67.get b5)
 have y8 : ∀ x, x ∈ tr2 -> V8[x.1]? = some (trAO x.2) := fun x h => p8.2 _ _ rfl (K67.get (y5 x h))
 have W8 := W7.to p8.2
 have hdl : (tr2.dropLast).map (·.2) = (T20.take fam.length).map (trOf B) := by
  refine rwR List.map_dropLast ?_
  refine rwR ht4 ?_
  refine rwL List.map_dropLast ?_
  congr 1
  refine rwR List.dropLast_eq_take ?_
  refine rwR Fl ?_
  refine rwR List.take_take ?_
  congr 1; lia
 have Fn : (T20.take fam.length) ≠ [] := fun e => by
  have := congrArg List.length e
  rw [List.length_take] at this
  have h := List.length_pos_iff.mpr f3
  have : min fam.length 20 = 0 := this
  lia
 refine ex_let (mk_ws (tr := tr2.dropLast) hB hbl (fun n hn => List.mem_of_mem_take hn) (List.Nodup.sublist (List.take_sublist _ _) (by decide)) Fn (by rw [List.length_take]; lia) (ev_subTo (ev_name (S8.get 52 _ (by rfl)) (ev_neg (ev_int (by rfl) ⟨1, rfl, by rfl, _, _, cut_refs b8 (by lia) (by lia), rfl, Keep.app _ _, S8.to (Keep.app _ _), rfl, get_new _ _, hdl, fun x h => (Keep.app _ _).get (y8 x ((List.dropLast_sublist tr2).subset h))⟩)))) fun d2 tc2 s2 V9 K9 h9 W9 => ⟨_, _, _, S8.to K9, rfl, fun V10 S10 p10 => ?_⟩)
 have h57 : V.length + 7 < V6.length := by
  refine e5 (S6.cel 57 rfl) fun c b e1 e2 _ => ?_
  have e1 : some (V.length + 7) = some c := e1
  obtain rfl := Option.some.inj e1
  exact lt_of_get e2
 have l8 := lt_of_get W8.n
 refine k V10 fr tr2 d1 tc1 d2 tc2 s1 s2 (S10.pick (fm_cons rfl (fm_cons rfl (fm_cons rfl (fm_cons rfl (fm_cons rfl (fm_cons rfl fm_nil))))))) (p10.2 _ _ rfl (K9.get fl8)) (p10.2 _ _ rfl (K9.get b8)) ht4 (fun x h => p10.2 _ _ rfl (K9.get (y8 x h))) (Nat.lt_of_lt_of_le h57 h7) ((W8.to fun j o _ e => K9.get e).to p10.2) (Nat.lt_of_lt_of_le l8 h9) (W9.to p10.2)
theorem bits1 : ∀ n, n ∈ T20 -> ∀ p, p ∈ List.range 6 -> ((binI .RShift (n : Nat) (p : Nat)).bind fun v => match v with | .int a => binI .BitAnd a 1 | _ => none) = some (.int (if n.testBit p then 1 else 0)) := by decide +kernel
theorem bits2 : ∀ n, n ∈ T20 -> ∀ p, p ∈ List.range 6 -> ∀ q, q ∈ List.range 6 -> ((binI .RShift (n : Nat) (p : Nat)).bind fun v => (binI .RShift (n : Nat) (q : Nat)).bind fun w => match v, w with | .int a, .int b => (binI .BitAnd a b).bind fun u => (match u with | .int c => binI .BitAnd c 1 | _ => none) | _, _ => none) = some (.int (if n.testBit p && n.testBit q then 1 else 0)) := by decide +kernel
theorem bit1 {p : Nat} (h : n ∈ T20) (hp : p < 6) : ∃ a : Int, binI .RShift (n : Nat) (p : Nat) = some (.int a) /\ binI .BitAnd a 1 = some (.int (if n.testBit p then 1 else 0)) :=
 bindE (bits1 n h p (List.mem_range.mpr hp)) fun v h1 h2 => intE h2 fun a e h3 => ⟨a, e ▸ h1, h3⟩
theorem bit2 {p q : Nat} (h : n ∈ T20) (hp : p < 6) (hq : q < 6) : ∃ a b c : Int, binI .RShift (n : Nat) (p : Nat) = some (.int a) /\ binI .RShift (n : Nat) (q : Nat) = some (.int b) /\ binI .BitAnd a b = some (.int c) /\ binI .BitAnd c 1 = some (.int (if n.testBit p && n.testBit q then 1 else 0)) :=
 bindE (bits2 n h p (List.mem_range.mpr hp) q (List.mem_range.mpr hq)) fun v h1 h2 => bindE h2 fun w h3 h4 => intIntE h4 fun a b ea eb h => bindE h fun u h5 h6 => intE h6 fun c ec h7 => ⟨a, b, c, ea ▸ h1, eb ▸ h3, ec ▸ h5, h7⟩
theorem truth_ite (b : Bool) : truth (.int (if b then 1 else 0)) = some b := by cases b <;> rfl
theorem ne_nil {M : List Nat} (hab : a ≠ b) (ha : V[a]? = some (.list (nI M))) (hb : V[b]? = some (.list [])) : cmp .NotEq (.ref a) (.ref b) V = some (!decide (M = [])) := by
 rw [cmp_ne]
 refine rwR (aeq_1 (b := decide (M = [])) (aeq1_ll hab ha hb ?_)) rfl
 induction M with
 | nil => rfl
 | cons x r => rfl
theorem any_ne (L : List Nat) (g : Nat -> Bool) : (!decide (L.filter g = [])) = L.any g := by
 rw [Bool.eq_iff_iff, List.any_eq_true]
 simp [List.filter_eq_nil_iff]
theorem filt_ne {N : Nat} {cond : Ex} {g : Nat -> Bool} {scI : List (Nat × NK)} {p2 : Pos} (hN : 4 <= N) (hS : S V0 E V m []) (h50 : look 50 m = some (.ref fl)) (hfl : V[fl]? = some (.list (nI L))) (hL : L.length <= 900) (hsc : (scI.map (·.1)).Nodup) (F : Fre E scI V m0) (h33 : look 33 m0 = none) (k33 : kindOk scI 33 = true)
  (hc : ∀ n, n ∈ L -> ∀ l cells Vb, S V ⟨scI, l, cells, E.q, E.tab⟩ Vb ((33, .int (n : Nat)) :: m0) [] -> Ev N ⟨scI, l, cells, E.q, E.tab⟩ cond Vb fun v Vc => Vc = Vb /\ truth v = some (g n))
  (q : ∀ V', Keep V V' -> Q (.bool (L.any g)) V') : Ev (N + 2) E (.cmp (.comp (.name 33 p1) [(33, p2)] none (.name 50 p3) [cond] scI p4) .NotEq (.list [] p5) p6) V Q := by
 obtain ⟨N, rfl⟩ : ∃ k, N = k + 4 := ⟨N - 4, (Nat.sub_add_cancel hN).symm⟩
 refine ev_cmp (ev_comp hsc (ev_name (hS.get 50 _ h50) ⟨_, _, fun x => match x with | .int i => if g i.toNat then some (.val (.int i)) else none | _ => none, m0, aiter_list hfl, by rw [nI_len]; lia, hS.topN, F, fun l cells lw x hx => ?_, fun a ys V' K ha hy hF => ?_⟩))
 ·refine e3 (List.mem_map.mp hx) fun n hn z80 => ?_
  subst z80
  refine BodyC.one k33 h33 fun Va Sa _ => cds_cons ((hc n hn l cells Va Sa).mono fun v Vc hv => ?_)
  refine e2 hv fun z81 ht => ?_
  clear hv
  subst z81
  refine ⟨g n, ht, ?_⟩
  cases hg : g n with
  | true =>
   rw [if_pos rfl]
   refine cds_nil ?_
   rw [if_pos rfl]
   refine ev_name (Sa.get 33 _ (by unfold look; rw [if_pos rfl])) ⟨.val (.int n), ?_, rfl, Keep.refl _⟩
   refine (?_ : (if g (n : Int).toNat then some (Rsl.val (.int n)) else none) = _)
   rw [Int.toNat_natCast, if_pos hg]
  | false =>
   rw [if_neg (by nofun), if_neg (by nofun)]
   refine ⟨?_, Keep.refl _⟩
   refine (?_ : (if g (n : Int).toNat then some (Rsl.val (.int n)) else none) = _)
   rw [Int.toNat_natCast, if_neg (by rw [hg]; nofun)]
 ·have e : ys = nI (L.filter g) := F2_val (by
   have e1 := fm_if g (fun n : Nat => Rsl.val (AV.int n)) L
   have e2 : (nI (L.filter g)).map Rsl.val = (L.filter g).map fun n : Nat => Rsl.val (AV.int n) := by unfold nI; rw [List.map_map]; rfl
   rw [e2, <- e1]
   unfold nI at hF
   rw [List.filterMap_map] at hF
   refine cast ?_ hF
   congr 1)
  subst e
  refine ev_list (by decide) (evs_nil ⟨_, ne_nil (by have := lt_of_get hy; lia) ((Keep.app _ _).get hy) (get_new _ _), ?_⟩)
  rw [any_ne]
  exact q _ (K.trans (Keep.app _ _))
section
noncomputable def pairR (fam : List Nat) (y : Nat) : List Rsl := ((List.range y).filter fun z => fam.any fun n => n.testBit z && n.testBit y).map fun z : Nat => Rsl.obj (.tuple [.int z, .int y])
theorem pairs_len (fam : List Nat) : ((List.range 6).flatMap (pairR fam)).length = (pairsOf fam).length := by
 unfold pairsOf
 rw [show pairsL = (List.range 6).flatMap fun y => (List.range y).map fun z => (z, y) from by decide, List.filter_flatMap]
 simp only [List.length_flatMap, pairR, List.length_map, filter_map_len]
noncomputable def prSc : List (Nat × NK) := [(103, .loc), (76, .cel), (94, .cel), (59, .glo), (50, .fre)]
noncomputable def prI : List (Nat × NK) := [(103, .loc), (33, .loc), (94, .fre), (76, .fre)]
section
variable {n lo fl acc it : Nat} {cells : List (Nat × Nat)} {Qs : Str} {tab : Option Nat} {V1 : Sg} {fam : List Nat} {p1 p2 p3 p4 p5 p6 p7 p8 p9 p10 p11 p12 p13 p14 p15 p16 p17 p18 p19 p20 p21 p22 p23 : Pos}
theorem pairs_loop (hL : ∀ x, x ∈ fam -> x ∈ T20) (hLl : fam.length <= 900) (hfl : V1[fl]? = some (.list (nI fam))) (hb : V1.length <= acc) (hit : V1.length <= it) (hai : acc ≠ it) :
  ∀ (os : List Nat) (k : Nat) (V : Sg) (ys : List AV) (rs : List Rsl) (o : AO), os.length < k -> (∀ y, y ∈ os -> y < 6) -> S V1 ⟨prSc, lo, cells, Qs, tab⟩ V [(50, .ref fl)] [] -> V[it]? = some o -> Itr (fun _ _ => False) o (os.map fun y : Nat => .int y) -> V[acc]? = some (.list ys) -> F2 (Is V (acc + 1)) ys rs -> ys.length + 6 * os.length <= 900 ->
  ∃ V' ys', loopComp2 (lvO (n + 12)) ⟨prSc, lo, cells, Qs, tab⟩ (.tuple [.name 94 p1, .name 76 p2] p3) 76 p4 94 p5 (.call (.name 59 p6) [.name 76 p7] [] [] p8) [.cmp (.comp (.name 33 p9) [(33, p10)] none (.name 50 p11) [.bin (.bin (.bin (.name 33 p12) .RShift (.name 94 p13) p14) .BitAnd (.bin (.name 33 p15) .RShift (.name 76 p16) p17) p18) .BitAnd (.int 1 p19) p22] prI p20) .NotEq (.list [] p21) p23] acc it k V = some V' /\
   S V1 ⟨prSc, lo, cells, Qs, tab⟩ V' [(50, .ref fl)] [] /\ V'[acc]? = some (.list ys') /\ F2 (Is V' (acc + 1)) ys' (rs ++ os.flatMap (pairR fam))
 | os, 0, V, ys, rs, o, hk, hy, hS, hi, hI, ha, hF, hn => (absurd hk (Nat.not_lt_zero _))
 | [], k + 1, V, ys, rs, o, hk, hy, hS, hi, hI, ha, hF, hn => by
  have h21 := hS.top.len
  have hx : Px acc V (V.set it .dead) := Px.setIter hi hI.isItr
  refine ⟨V.set it .dead, ys, ?_, hS.updP hi (iter_plain hI.isItr) hit noD0, by rw [List.getElem?_set_ne (fun e => hai e.symm)]; exact ha, ?_⟩
  ·unfold loopComp2
   rw [hI.done (fun _ _ h => h.elim) (Nat.le_trans h21 hit) hi]; rfl
  ·rw [List.flatMap_nil, List.append_nil]
   exact forall2_imp (fun a b e => hx.is (Nat.lt_succ_self _) e) hF
 | y :: os, k + 1, V, ys, rs, o, hk, hy, hS, hi, hI, ha, hF, hn => by
  have h21 := hS.top.len
  have hy6 := hy y List.mem_cons_self
  refine e3 (hI.next (fun _ _ h => h.elim) (Nat.le_trans h21 hit) hi) fun o' e1 hI' => ?_
  have x1 : Px acc V (V.set it o') := Px.setIter hi hI.isItr
  have S1 := hS.updP (o' := o') hi (iter_plain hI.isItr) hit noD0
  have i1 : (V.set it o')[it]? = some o' := List.getElem?_set_self (lt_of_get hi)
  have a1 : (V.set it o')[acc]? = some (.list ys) := by rw [List.getElem?_set_ne (fun e => hai e.symm)]; exact ha
  refine e5 (S1.set (x := 76) (kindOk_or rfl) (.int y)) fun V2 e2 S2 pl2 f2 => ?_
  have a2 := pl2.2 _ _ rfl a1
  have i2 := pl2.2 _ _ (iter_plain hI'.isItr) i1
  have K3 := Keep.app V2 [AO.rng 0 (y : Int)]
  have e3 : (lvO (n + 12)).ev ⟨prSc, lo, cells, Qs, tab⟩ (.call (.name 59 p6) [.name 76 p7] [] [] p8) V2 = some (.ref V2.length, V2 ++ [.rng 0 (y : Int)]) := by
   have h3 : Ev (n + 12) ⟨prSc, lo, cells, Qs, tab⟩ (.call (.name 59 p6) [.name 76 p7] [] [] p8) V2 fun v s => v = .ref V2.length /\ s = V2 ++ [.rng 0 (y : Int)] := ev_call (ev_glo (by rfl) (by rfl) (evs_cons (ev_name (S2.get 76 _ (by rfl)) (evs_nil (cl_bi (range_one (small_of (nb _) (nub (Nat.le_of_lt hy6) (by decide)))) ⟨rfl, rfl⟩)))))
   obtain ⟨w, Vw, q1, q2, q3⟩ := h3
   rw [q1, q2, q3]
  have it4 := aiter_range (P := fun i o => (fun _ _ => False) i o /\ isData o = true) (get_new V2 (.rng 0 (y : Int))) (by rfl) (small_of (nb _) (nub (Nat.le_of_lt hy6) (by decide)))
  have K4 := K3.trans (Keep.app (V2 ++ [AO.rng 0 (y : Int)]) [AO.riter 0 (if 0 < (y : Int) then (y : Int) - 0 else 0)])
  have S4 := S2.to K4
  have lac := lt_of_get a2
  have lit := lt_of_get i2
  have l3 : (V2 ++ [AO.rng 0 (y : Int)]).length = V2.length + 1 := by rw [List.length_append]; rfl
  have hbase := hS.keep.1
  have hs2 : V.length = V2.length := by have := f2.1; rw [List.length_set] at this; exact this.symm
  obtain ⟨V5, ys5, g1, g2, g3, g4, g5, g6, g7⟩ := loopComp_run (n := n + 12) (E := ⟨prSc, lo, cells, Qs, tab⟩) (elt := .tuple [.name 94 p1, .name 76 p2] p3) (tg := [(94, p5)]) (tp := none) (acc := acc) (it := (V2 ++ [AO.rng 0 (y : Int)]).length) (lo := acc + 1) (m0 := [(76, .int y), (50, .ref fl)]) (P := fun _ _ => False) (f := fun x => match x with | .int z => if fam.any (fun n => n.testBit z.toNat && n.testBit y) then some (.obj (.tuple [.int z, .int y])) else none | _ => none) (cond := [.cmp (.comp (.name 33 p9) [(33, p10)] none (.name 50 p11) [.bin (.bin (.bin (.name 33 p12) .RShift (.name 94 p13) p14) .BitAnd (.bin (.name 33 p15) .RShift (.name 76 p16) p17) p18) .BitAnd (.int 1 p19) p22] prI p20) .NotEq (.list [] p21) p23])
   hb (by lia) (by lia) (fun _ _ h _ => h.elim) _ 1000 _ ys rs _ (by rw [List.length_map, List.length_range]; lia) (fun x hx => by
    obtain ⟨z, hz, rfl⟩ := List.mem_map.mp hx
    have hz := List.mem_range.mp hz
    have hz : z < y := by lia
    rw [Int.zero_add]
    refine BodyC.one rfl rfl fun Va Sa hlw => cds_cons (filt_ne (N := n + 10) (m0 := [(94, .int z), (76, .int y)]) (g := fun n => n.testBit z && n.testBit y) (Nat.le_add_left_of_le (by decide)) Sa (by rfl) (Sa.base hfl) hLl (by decide) (Fre.of (fm_cons ⟨rfl, Sa.get 94 _ (by rfl), .inl rfl⟩ (fm_cons ⟨rfl, Sa.get 76 _ (by rfl), .inl rfl⟩ fm_nil)) (by rfl)) rfl rfl (fun m hm l' cells' Vb Sb => ?_) fun V' K => ⟨_, rfl, ?_⟩)
    ·refine e7 (bit2 (hL m hm) (show z < 6 by lia) hy6) fun a b c b1 b2 b3 b4 => ?_
     exact ev_bin (ev_bin (ev_bin (ev_name (Sb.get 33 _ (by rfl)) (ev_name (Sb.get 94 _ (by rfl)) ⟨_, _, bin_int b1, ev_bin (ev_name (Sb.get 33 _ (by rfl)) (ev_name (Sb.get 76 _ (by rfl)) ⟨_, _, bin_int b2, _, _, bin_int b3, ev_int (by rfl) ⟨_, _, bin_int b4, rfl, truth_ite _⟩⟩))⟩))))
    ·cases hq : fam.any fun n => n.testBit z && n.testBit y with
     | true =>
      rw [if_pos rfl]
      refine cds_nil ?_
      rw [if_pos rfl]
      refine ev_tuple (by show 2 <= 100; decide) (evs_cons (ev_name ((Sa.to K).get 94 _ (by rfl)) (evs_cons (ev_name ((Sa.to K).get 76 _ (by rfl)) (evs_nil ⟨.obj (.tuple [.int z, .int y]), ?_, ⟨_, rfl, ?_, get_new _ _, rfl⟩, K.trans (Keep.app _ _)⟩)))))
      ·refine (?_ : (if fam.any (fun n => n.testBit (z : Int).toNat && n.testBit y) then some (Rsl.obj (.tuple [.int z, .int y])) else none) = _)
       rw [Int.toNat_natCast, if_pos hq]
      ·have := K.1; exact (Nat.lt_of_lt_of_le hlw this)
     | false =>
      rw [if_neg (by nofun), if_neg (by nofun)]
      refine ⟨?_, K⟩
      refine (?_ : (if fam.any (fun n => n.testBit (z : Int).toNat && n.testBit y) then some (Rsl.obj (.tuple [.int z, .int y])) else none) = _)
      rw [Int.toNat_natCast, if_neg (by rw [hq]; nofun)]) S4 (get_new _ _) it4.2 (fun _ _ h _ => h.elim) (K4.get a2) (by have := K4.1; lia) (forall2_imp (fun a b e => ((x1.trans pl2.px).trans K4.pl.px).is (Nat.lt_succ_self _) e) hF) (by rw [List.length_map, List.length_range]; lia)
  have eF : ((List.range ((y : Int) - 0).toNat).map fun k : Nat => AV.int (0 + (k : Int))).filterMap (fun x => match x with | .int z => if fam.any (fun n => n.testBit z.toNat && n.testBit y) then some (Rsl.obj (.tuple [.int z, .int y])) else none | _ => none) = pairR fam y := by
   unfold pairR
   rw [<- fm_if, List.filterMap_map, show ((y : Int) - 0).toNat = y by lia]
   congr 1
   funext z
   refine (?_ : (if fam.any (fun n => n.testBit (0 + (z : Int)).toNat && n.testBit y) then some (Rsl.obj (.tuple [.int (0 + (z : Int)), .int y])) else none) = _)
   rw [Int.zero_add, Int.toNat_natCast]
  rw [eF] at g4
  have l5 : ys5.length = ys.length + (pairR fam y).length := by
   have h1 := forall2_len g4
   have h2 := forall2_len hF
   rw [h1, List.length_append, h2]
  have l6 : (pairR fam y).length <= y := by
   unfold pairR
   rw [List.length_map]
   have := List.length_filter_le (fun z => fam.any fun n => n.testBit z && n.testBit y) (List.range y)
   rw [List.length_range] at this; exact this
  rw [List.length_cons] at hk hn
  refine e6 (pairs_loop hL hLl hfl hb hit hai os k V5 ys5 (rs ++ pairR fam y) o' (Nat.lt_of_succ_lt_succ hk) (fun z hz => hy z (List.mem_cons_of_mem _ hz)) (g2.drop1 rfl) (g7.2 _ _ (iter_plain hI'.isItr) (fun e => hai e.symm) (by lia) (K4.get i2)) hI' g3 g4 (by lia)) fun V' ys' q1 q2 q3 q4 => ?_
  refine ⟨V', ys', ?_, q2, q3, by rw [List.flatMap_cons, <- List.append_assoc]; exact q4⟩
  unfold loopComp2
  rw [e1]
  refine (?_ : (setN _ 76 (.int y) (V.set it o')).bind _ = _)
  rw [e2]
  refine (?_ : ((lvO (n + 12)).ev ⟨prSc, lo, cells, Qs, tab⟩ (.call (.name 59 p6) [.name 76 p7] [] [] p8) V2).bind _ = _)
  rw [e3]
  refine (?_ : (aiter (.ref V2.length) (V2 ++ [AO.rng 0 (y : Int)])).bind _ = _)
  rw [it4.1]
  refine (?_ : (loopComp (lvO (n + 12)) _ _ [(94, p5)] none _ acc (V2 ++ [AO.rng 0 (y : Int)]).length 1000 _).bind _ = _)
  rw [g1]; exact q1
end
end
theorem names_small : (lvl 12).cl (.ref 5) [] [] top21 = some (.ref 22, top21 ++ [.ns [], .list (strAVs namesL)]) := by kernel_rfl
theorem names_run (hn : 8 <= n) (T : Top V) : Cl n (.ref 5) [] V fun v V' => v = .ref (V.length + 1) /\ Keep V V' /\ V'[V.length + 1]? = some (.list (strAVs namesL)) := by
 refine e2 (Nat.exists_eq_add_of_le' hn) fun m z229 => ?_
 subst z229
 exact ⟨_, _, orc_run (n := m + 7) T (by decide) (by decide) rfl (by decide) T.len names_small, rfl, Keep.app _ _, (app_get 1).trans rfl⟩
theorem names_ix : ∀ k, k ∈ List.range 13 -> findIx (nameAt k) (strAVs namesL) = some k := by decide +kernel
noncomputable def tup (s p t : Nat) : AO := .tuple (cI [1, s, p, t])
theorem ev_ite2 {t b o : Ex} {c : Bool} {x y : Int} (ht : Ev n E t V fun v V1 => v = .bool c /\ V1 = V) (hb : c = true -> Ev n E b V fun v V1 => v = .int x /\ V1 = V) (ho : c = false -> Ev n E o V fun v V1 => v = .int y /\ V1 = V) (q : Q (.int (if c then x else y)) V) : Ev (n + 1) E (.ite t b o p) V Q := by
 refine ev_ite (ht.mono fun v V1 hv => ?_)
 obtain ⟨rfl, rfl⟩ := hv
 refine ⟨c, rfl, ?_⟩
 cases c with
 | true =>
  rw [if_pos rfl] at q ⊢
  exact (hb rfl).mono fun v V2 hv => by obtain ⟨rfl, rfl⟩ := hv; exact q
 | false =>
  rw [if_neg (by nofun)] at q ⊢
  exact (ho rfl).mono fun v V2 hv => by obtain ⟨rfl, rfl⟩ := hv; exact q
theorem law_C {fr : Nat} {v1 v2 : AV} {Q : AF -> Sg -> Prop} (hfam : famOk fam) (hS : S V (lawE V.length) V1 [(54, v2), (53, v1), (52, .ref fr), (50, .ref fl), (41, .int (bl : Nat)), (34, .int (B : Nat))] []) (hfl : V1[fl]? = some (.list (nI fam)))
  (k : ∀ V2 ca, S V (lawE V.length) V2 [(46, .ref ca), (54, v2), (53, v1), (52, .ref fr), (50, .ref fl), (41, .int (bl : Nat)), (34, .int (B : Nat))] [] -> (∀ (j : Nat) (o : AO), plain o = true -> V1[j]? = some o -> V2[j]? = some o) -> V1.length <= ca -> V2[ca]? = some (tup (singlesOf fam).length (pairsOf fam).length fam.length) -> Exs 50 (lawE V.length) (flaw_b.drop 14) V2 Q) : Exs 50 (lawE V.length) (flaw_b.drop 11) V1 Q := by
 refine e4 hfam.sub fun f1 f2 f3 f4 => ?_
 have h21 := hS.top.len
 have R1 := Keep.app V1 [AO.rng 0 6]
 have S1 := hS.to R1
 refine ex_let (ev_comp (by decide) (ev_call (ev_glo (by rfl) (by rfl) (evs_cons (ev_int (by rfl) (evs_nil (cl_bi (range_one (by rfl)) ⟨_, _, fun x => match x with | .int i => if fam.any (fun n => n.testBit i.toNat) then some (.val (.int i)) else none | _ => none, [(50, .ref fl)], aiter_range (P := Base _) (get_new V1 (.rng 0 6)) (by rfl) (by rfl), by rw [List.length_map, List.length_range]; decide, S1.topN, Fre.of (fm_cons ⟨rfl, S1.get 50 _ (by rfl), .inl rfl⟩ fm_nil) (by rfl), fun lo cells lw x hx => ?_, fun acc ys V2 K2 ha hy hF => ?_⟩)))))))
 ·refine e3 (List.mem_map.mp hx) fun p hp z85 => ?_
  subst z85
  have hp := List.mem_range.mp hp
  have hp : p < 6 := hp
  rw [Int.zero_add]
  refine BodyC.one rfl rfl fun Va Sa _ => cds_cons (filt_ne (N := 46) (m0 := [(32, .int p)]) (g := fun n => n.testBit p) (by decide) Sa (by rfl) (Sa.base (R1.get hfl)) (Nat.le_trans f4 (by decide)) (by decide) (Fre.of (fm_cons ⟨rfl, Sa.get 32 _ (by rfl), .inl rfl⟩ fm_nil) (by rfl)) rfl rfl (fun n hn l' cells' Vb Sb => ?_) fun V' K => ⟨_, rfl, ?_⟩)
  ·refine e3 (bit1 (f1 n hn) hp) fun a b1 b2 => ?_
   exact ev_bin (ev_bin (ev_name (Sb.get 33 _ (by rfl)) (ev_name (Sb.get 32 _ (by rfl)) ⟨_, _, bin_int b1, ev_int (by rfl) ⟨_, _, bin_int b2, rfl, truth_ite _⟩⟩)))
  ·cases hq : fam.any fun n => n.testBit p with
   | true =>
    rw [if_pos rfl]
    refine cds_nil ?_
    rw [if_pos rfl]
    refine ev_name ((Sa.to K).get 32 _ (by rfl)) ⟨.val (.int p), ?_, rfl, K⟩
    refine (?_ : (if fam.any (fun n => n.testBit (p : Int).toNat) then some (Rsl.val (.int p)) else none) = _)
    rw [Int.toNat_natCast, if_pos hq]
   | false =>
    rw [if_neg (by nofun), if_neg (by nofun)]
    refine ⟨?_, K⟩
    refine (?_ : (if fam.any (fun n => n.testBit (p : Int).toNat) then some (Rsl.val (.int p)) else none) = _)
    rw [Int.toNat_natCast, if_neg (by rw [hq]; nofun)]
 have ls : ys.length = (singlesOf fam).length := by
  refine rwR (forall2_len hF) ?_
  refine rwR List.filterMap_map ?_
  have e := fm_if (fun i : Nat => fam.any fun n => n.testBit i) (fun i => Rsl.val (AV.int i)) (List.range 6)
  unfold singlesOf
  refine rwL (List.length_map (f := fun i : Nat => Rsl.val (AV.int i))) ?_
  refine rwL e ?_
  congr 1
 have lsb : ys.length <= 6 := by rw [ls]; unfold singlesOf; have := List.length_filter_le (fun i => fam.any fun n => n.testBit i) (List.range 6); rw [List.length_range] at this; exact this
 refine ⟨_, _, _, S1.to K2, rfl, fun V3 S3 p3 => ?_⟩
 have K12 := R1.trans K2
 have y3 := p3.2 _ _ rfl hy
 have fl3 := p3.2 _ _ rfl (K12.get hfl)
 have R3 := Keep.app V3 [AO.rng 0 6]
 have S4 := S3.to R3
 have ar := aiter_range (P := fun _ _ => False) (get_new V3 (.rng 0 6)) (by rfl) (by rfl)
 refine ex_let (ev_comp2 (by decide) (ev_call (ev_glo (by rfl) (by rfl) (evs_cons (ev_int (by rfl) (evs_nil (cl_bi (range_one (by rfl)) ⟨_, [(50, .ref fl)], ar.1, S4.topN, Fre.of (fm_cons ⟨rfl, S4.get 50 _ (by rfl), .inl rfl⟩ fm_nil) (by rfl), fun lo cells V5 S5 hi5 ha5 K5 => ?_⟩)))))))
 have hI : Itr (fun _ _ => False) (.riter 0 (if (0 : Int) < 6 then 6 - 0 else 0)) ((List.range 6).map fun y : Nat => .int y) := by
  have := ar.2
  refine cast ?_ this
  congr 1
 refine e6 (pairs_loop (n := 36) (lo := lo) (cells := cells) (Qs := flaw.qual) (tab := flaw.tab) (V1 := V3 ++ [AO.rng 0 6]) (fl := fl) (acc := (V3 ++ [AO.rng 0 6]).length + 1) (it := (V3 ++ [AO.rng 0 6]).length) (p1 := ⟨146,14,146,17⟩) (p2 := ⟨146,19,146,24⟩) (p3 := ⟨146,13,146,25⟩) (p4 := ⟨146,30,146,35⟩) (p5 := ⟨146,52,146,55⟩) (p6 := ⟨146,59,146,64⟩) (p7 := ⟨146,65,146,70⟩) (p8 := ⟨146,59,146,71⟩) (p9 := ⟨146,76,146,82⟩) (p10 := ⟨146,87,146,93⟩) (p11 := ⟨146,97,146,103⟩) (p12 := ⟨146,107,146,113⟩) (p13 := ⟨146,117,146,120⟩) (p14 := ⟨146,107,146,120⟩) (p15 := ⟨146,123,146,129⟩) (p16 := ⟨146,133,146,138⟩) (p17 := ⟨146,123,146,138⟩) (p18 := ⟨146,107,146,138⟩) (p19 := ⟨146,141,146,142⟩) (p20 := ⟨146,75,146,143⟩) (p21 := ⟨146,147,146,149⟩) (p22 := ⟨146,107,146,142⟩) (p23 := ⟨146,75,146,149⟩) f1 (Nat.le_trans f4 (by decide)) (R3.get fl3) (by lia) (Nat.le_refl _) (by lia) (List.range 6) 1000 V5 [] [] _ (by decide) (fun y hy => List.mem_range.mp hy) S5 hi5 hI ha5 .nil (by decide)) fun V6 ys6 g1 g2 g3 g4 => ?_
 have lp : ys6.length = (pairsOf fam).length := by
  refine rwR (forall2_len g4) ?_
  rw [List.nil_append]
  exact pairs_len fam
 have lpb : ys6.length <= 15 := by rw [lp]; unfold pairsOf; exact List.length_filter_le (fun q : Nat × Nat => fam.any fun n => n.testBit q.1 && n.testBit q.2) pairsL
 refine i6 V6 ys6 g1 g2 g3 (fun V7 K7 p7 hy7 => ⟨_, _, _, S4.to K7, rfl, fun V8 S8 p8 => ?_⟩)
 have y8 := p8.2 _ _ rfl hy7
 have x8 := p8.2 _ _ rfl (K7.get (R3.get y3))
 have fl8 := p8.2 _ _ rfl (K7.get (R3.get fl3))
 refine ex_let (ev_tuple (by decide) (evs_cons (ev_int (by rfl) (evs_cons (ev_call (ev_glo (by rfl) (by rfl) (evs_cons (ev_name (S8.get 55 _ (by rfl)) (evs_nil (cl_bi (len_list x8 (Nat.le_trans lsb (by decide))) ?_))))))))))
 refine evs_cons (ev_call (ev_glo (by rfl) (by rfl) (evs_cons (ev_name (S8.get 56 _ (by rfl)) (evs_nil (cl_bi (len_list y8 (Nat.le_trans lpb (by decide))) ?_))))))
 refine evs_cons (ev_call (ev_glo (by rfl) (by rfl) (evs_cons (ev_name (S8.get 50 _ (by rfl)) (evs_nil (cl_bi (len_list fl8 (by rw [nI_len]; lia)) ?_))))))
 refine rwR ls ?_
 refine rwR lp ?_
 rw [nI_len]
 refine evs_nil ⟨_, _, _, S8.to (Keep.app V8 [tup (singlesOf fam).length (pairsOf fam).length fam.length]), rfl, fun V9 S9 p9 => ?_⟩
 refine k V9 _ (S9.pick (fm_cons rfl (fm_cons rfl (fm_cons rfl (fm_cons rfl (fm_cons rfl (fm_cons rfl (fm_cons rfl fm_nil)))))))) (fun j o hp e => p9.2 _ _ hp ((Keep.app _ _).get (p8.2 _ _ hp (K7.get (R3.get (p3.2 _ _ hp (K12.get e))))))) ?_ (p9.2 _ _ rfl (get_new V8 (tup (singlesOf fam).length (pairsOf fam).length fam.length)))
 have := K12.1; have := p3.1; have := R3.1; have := K7.1; have := p8.1
 lia
noncomputable def told1 (b c : Nat) : Int := if decide ((b : Int) > 1) then (c : Int) + 1 else c
noncomputable def told2 (a b c : Nat) : Int := (c : Int) * ((c : Int) - 1) / 2 + (if decide ((b : Int) > 1) then (b : Int) else 0) + (if decide ((a : Int) > 0) then 1 else 0)
noncomputable def toldB (t : Nat) : Bool := match bitsOf (T20.getD t 0) with
 | [a, b, c] => decide (a < 6) && (decide (b < 6) && (decide (c < 6) && (decide (told1 b c = (singlesOf (T20.take t)).length) && decide (told2 a b c = (pairsOf (T20.take t)).length))))
 | _ => false
theorem told_all : ∀ t, t ∈ [1, 2, 3, 4, 5] -> toldB t = true := by decide +kernel
theorem last_all : ∀ t, t ∈ [1, 2, 3, 4, 5] -> (T20.take (t + 1)).getLast? = some (T20.getD t 0) := by decide
theorem told_ok (h1 : 1 <= t) (h5 : t <= 5) : ∃ a b c, bitsOf (T20.getD t 0) = [a, b, c] /\ a < 6 /\ b < 6 /\ c < 6 /\ told1 b c = (singlesOf (T20.take t)).length /\ told2 a b c = (pairsOf (T20.take t)).length := by
 have h := told_all t (by simp; lia)
 unfold toldB at h
 split at h
 ·rename_i a b c e
  simp only [Bool.and_eq_true, decide_eq_true_eq] at h
  exact i9 a b c e h.1 h.2.1 h.2.2.1 h.2.2.2.1 h.2.2.2.2
 ·rcases h
theorem item_lastref {fr : Nat} {tr : List (Nat × Tr)} {x : Nat × Tr} (h : V[fr]? = some (.list (tr.map fun x => .ref x.1))) (hx : tr.getLast? = some x) (hl : tr.length <= 1000) : item (.ref fr) (.int (-1)) V = some (.ref x.1) := by
 rw [List.getLast?_eq_getElem?] at hx
 have hlt := (List.getElem?_eq_some_iff.mp hx).1
 unfold item
 dsimp only
 refine rwR h ?_
 dsimp only
 rw [List.length_map]
 refine rwR (if_pos ⟨by decide, (tn2 (Nat.lt_of_le_of_lt (Nat.zero_le _) hlt)), tn3⟩) ?_
 unfold idx
 rw [if_pos (by decide), show ((-1 : Int) + tr.length).toNat = tr.length - 1 from tn1 (Nat.lt_of_le_of_lt (Nat.zero_le _) hlt), List.getElem?_map, hx]; rfl
theorem word_ix {k : Nat} (hB : B < 8) (hk : k < 6) : findIx (wd B k) (strAVs namesL) = some (B + k) := names_ix (B + k) (List.mem_range.mpr (by lia))
theorem law_D {fr : Nat} {v1 v2 : AV} {tr : List (Nat × Tr)} {Q : AF -> Sg -> Prop} (hB : B < 8) (hfam : famOk fam) (hS : S V (lawE V.length) V1 [(46, .ref ca), (54, v2), (53, v1), (52, .ref fr), (50, .ref fl), (41, .int (bl : Nat)), (34, .int (B : Nat))] []) (hfl : V1[fl]? = some (.list (nI fam)))
  (hfr : V1[fr]? = some (.list (tr.map fun x => .ref x.1))) (ht : tr.map (·.2) = (T20.take (fam.length + 1)).map (trOf B)) (hx : ∀ x, x ∈ tr -> V1[x.1]? = some (trAO x.2))
  (k : ∀ V2 ta, S V (lawE V.length) V2 [(57, .ref ta), (46, .ref ca), (54, v2), (53, v1), (50, .ref fl), (41, .int (bl : Nat))] [] -> (∀ (j : Nat) (o : AO), plain o = true -> V1[j]? = some o -> V2[j]? = some o) -> V1.length <= ta -> V2[ta]? = some (tup (singlesOf (T20.take fam.length)).length (pairsOf (T20.take fam.length)).length fam.length) -> Exs 50 (lawE V.length) (flaw_b.drop 16) V2 Q) : Exs 50 (lawE V.length) (flaw_b.drop 14) V1 Q := by
 obtain ⟨f1, f2, f3, f4⟩ := hfam.sub
 have h21 := hS.top.len
 have fp := List.length_pos_iff.mpr f3
 obtain ⟨a, b, c, eb, ha, hb, hc, t1, t2⟩ := told_ok fp f4
 have lt : tr.length = fam.length + 1 := by
  have := congrArg List.length ht
  rw [List.length_map, List.length_map, List.length_take] at this
  have h20 : T20.length = 20 := rfl
  lia
 obtain ⟨x, hxl⟩ : ∃ x, tr.getLast? = some x := by
  cases h : tr.getLast? with
  | none => rw [List.getLast?_eq_none_iff] at h; rw [h] at lt; simp at lt
  | some x => exact ⟨x, rfl⟩
 have ex : x.2 = (wd B a, wd B b, wd B c) := by
  have e1 : (tr.map (·.2)).getLast? = some x.2 := by rw [List.getLast?_map, hxl]; rfl
  rw [ht, List.getLast?_map, last_all fam.length (by simp; lia)] at e1
  have e1 : trOf B (T20.getD fam.length 0) = x.2 := Option.some.inj e1
  rw [<- e1]
  unfold trOf
  exact rwR eb rfl
 have hxo := hx x (List.mem_of_getLast? hxl)
 rw [ex] at hxo
 refine ex_assignT (by nofun) (ev_comp (by decide) (ev_sub (ev_name (hS.get 52 _ (by rfl)) (ev_neg (ev_int (by rfl) ⟨1, rfl, by rfl, _, item_lastref hfr hxl (by lia), _, _, fun v => match v with | .str w => (findIx w (strAVs namesL)).map fun k => .val (.int ((k : Int) - B)) | _ => none, [(34, .int B)], aiter_list hxo, (by show 3 < 1000; decide), hS.topN, Fre.of (fm_cons ⟨rfl, hS.get 34 _ (by rfl), .inl rfl⟩ fm_nil) (by rfl), fun lo cells lw y hy => ?_, fun acc ys V2 K2 hacc hys hF => ?_⟩)))))
 ·have : ∃ k, k < 6 /\ y = .str (wd B k) := by
   simp only [List.mem_cons, List.not_mem_nil, or_false] at hy
   rcases hy with rfl | rfl | rfl
   ·exact i3 a ha rfl
   ·exact i3 b hb rfl
   ·exact i3 c hc rfl
  refine e3 this fun k' hk' z165 => ?_
  subst z165
  refine BodyC.one rfl rfl fun Va Sa _ => cds_nil ?_
  refine rwR (if_pos rfl) ?_
  refine ev_bin (ev_meth (by rfl) (ev_call (ev_glo (by rfl) (by rfl) (evs_nil ((names_run (by decide) Sa.topN).mono fun v Vb hv => ?_)))))
  refine e3 hv fun z170 Kb hnb => ?_
  clear hv
  subst z170
  refine ⟨.list, by unfold methOf; dsimp only; rw [hnb]; rfl, evs_cons (ev_name ((Sa.to Kb).get 95 _ (by rfl)) (evs_nil ⟨.int ((B + k' : Nat) : Int), Vb, ?_, ?_⟩))⟩
  ·unfold methA
   dsimp only
   refine rwR hnb ?_
   dsimp only
   refine rwR methL_idx ?_
   refine rwR (if_pos (by decide)) ?_
   refine rwR (word_ix hB hk') ?_
   rfl
  refine ev_name ((Sa.to Kb).get 34 _ (by rfl)) ⟨_, _, bin_int (w := .int (((B + k' : Nat) : Int) - B)) (by show mkI _ = _; exact mkI_of (by lia) (by lia)), .val (.int (((B + k' : Nat) : Int) - B)), ?_, rfl, Kb⟩
  show (findIx (wd B k') (strAVs namesL)).map (fun k => Rsl.val (.int ((k : Int) - B))) = _
  refine rwR (word_ix hB hk') ?_
  rfl
 have ey : ys = [.int a, .int b, .int c] := F2_val (by
  have e : ([AV.str (wd B a), .str (wd B b), .str (wd B c)] : List AV).filterMap (fun v => match v with | .str w => (findIx w (strAVs namesL)).map fun k => Rsl.val (.int ((k : Int) - B)) | _ => none) = ([AV.int a, .int b, .int c] : List AV).map Rsl.val := by
   have one : ∀ k, k < 6 -> ((findIx (wd B k) (strAVs namesL)).map fun k => Rsl.val (.int ((k : Int) - B))) = some (Rsl.val (.int k)) := fun k hk => by
    refine rwR (word_ix hB hk) ?_
    show some (Rsl.val (.int (((B + k : Nat) : Int) - B))) = _
    rw [show (((B + k : Nat) : Int) - B) = k by lia]
   simp only [List.filterMap_cons, one a ha, one b hb, one c hc, List.filterMap_nil, List.map_cons, List.map_nil]
  refine rwL e ?_
  exact hF)
 subst ey
 refine e5 (setEach3 (x := 78) (y := 68) (z := 84) (q := ⟨148,4,148,5⟩) (p := ⟨148,7,148,8⟩) (r := ⟨148,10,148,11⟩) (u := .int a) (v := .int b) (w := .int c) (hS.to K2) rfl rfl rfl) fun V3 e3 S3 p3 f3' => ?_
 refine ⟨[.int a, .int b, .int c], V3, by unfold unpackA; dsimp only; rw [hys]; rfl, e3, ?_⟩
 have fl3 := p3.2 _ _ rfl (K2.get hfl)
 have gb : Ev 47 (lawE V.length) (.cmp (.name 68 ⟨149,24,149,25⟩) .Gt (.int 1 ⟨149,28,149,29⟩) ⟨149,24,149,29⟩) V3 fun v s => v = .bool (decide ((b : Int) > 1)) /\ s = V3 := ev_cmp (ev_name (S3.get 68 _ (by rfl)) (ev_int (by rfl) ⟨_, rfl, rfl, rfl⟩))
 refine ex_let (ev_tuple (by decide) (evs_cons (ev_int (by rfl) (evs_cons (ev_ite2 (c := decide ((b : Int) > 1)) (x := (c : Int) + 1) (y := c) (ev_cmp (ev_name (S3.get 68 _ (by rfl)) (ev_int (by rfl) ⟨_, rfl, rfl, rfl⟩))) (fun _ => ev_bin (ev_name (S3.get 84 _ (by rfl)) (ev_int (by rfl) ⟨_, _, bin_int (binI_add (nb1 _) (nub1 (Nat.le_of_lt hc) (by decide))), rfl, rfl⟩))) (fun _ => ev_name (S3.get 84 _ (by rfl)) ⟨rfl, rfl⟩) ?_)))))
 have c25 : (c : Int) * ((c : Int) - 1) <= 30 /\ -30 <= (c : Int) * ((c : Int) - 1) := by
  have : c = 0 \/ c = 1 \/ c = 2 \/ c = 3 \/ c = 4 \/ c = 5 := by lia
  rcases this with rfl | rfl | rfl | rfl | rfl | rfl <;> decide
 refine evs_cons (ev_bin (ev_bin (ev_bin (ev_bin (ev_name (S3.get 84 _ (by rfl)) (ev_bin (ev_name (S3.get 84 _ (by rfl)) (ev_int (by rfl) ⟨_, _, bin_int (w := .int ((c : Int) - 1)) (by show mkI _ = _; exact mkI_of (by lia) (by lia)), _, _, bin_int (w := .int ((c : Int) * ((c : Int) - 1))) (by
  show (if small (c : Int) then mkI ((c : Int) * ((c : Int) - 1)) else none) = _
  refine rwR (if_pos (small_of (nb _) (nub (Nat.le_of_lt hc) (by decide)))) ?_
  exact mkI_of (by lia) (by lia)), ev_int (by rfl) ⟨_, _, bin_int (binI_div (by decide) (by decide) (by lia) (by lia)), ?_⟩⟩))))))))
 refine ev_ite2 (c := decide ((b : Int) > 1)) (x := b) (y := 0) (ev_cmp (ev_name (S3.get 68 _ (by rfl)) (ev_int (by rfl) ⟨_, rfl, rfl, rfl⟩))) (fun _ => ev_name (S3.get 68 _ (by rfl)) ⟨rfl, rfl⟩) (fun _ => ev_int (by rfl) ⟨rfl, rfl⟩) ⟨_, _, bin_int (binI_add (by split <;> lia) (by split <;> lia)), ?_⟩
 refine ev_ite2 (c := decide ((a : Int) > 0)) (x := 1) (y := 0) (ev_cmp (ev_name (S3.get 78 _ (by rfl)) (ev_int (by rfl) ⟨_, rfl, rfl, rfl⟩))) (fun _ => ev_int (by rfl) ⟨rfl, rfl⟩) (fun _ => ev_int (by rfl) ⟨rfl, rfl⟩) ⟨_, _, bin_int (binI_add (by split <;> split <;> lia) (by split <;> split <;> lia)), ?_⟩
 refine evs_cons (ev_call (ev_glo (by rfl) (by rfl) (evs_cons (ev_name (S3.get 50 _ (by rfl)) (evs_nil (cl_bi (len_list fl3 (by rw [nI_len]; lia)) ?_))))))
 rw [nI_len]
 have et : AO.tuple [.int 1, .int (if decide ((b : Int) > 1) then (c : Int) + 1 else c), .int ((c : Int) * ((c : Int) - 1) / 2 + (if decide ((b : Int) > 1) then (b : Int) else 0) + (if decide ((a : Int) > 0) then 1 else 0)), .int (fam.length : Nat)] = tup (singlesOf (T20.take fam.length)).length (pairsOf (T20.take fam.length)).length fam.length := by
  unfold told1 at t1
  unfold told2 at t2
  refine rwR t1 ?_
  refine rwR t2 ?_
  rfl
 refine evs_nil ?_
 refine rwR et ?_
 refine ⟨_, _, _, S3.to (Keep.app V3 [tup (singlesOf (T20.take fam.length)).length (pairsOf (T20.take fam.length)).length fam.length]), rfl, fun V4 S4 p4 => ?_⟩
 refine k V4 _ (S4.pick (fm_cons rfl (fm_cons rfl (fm_cons rfl (fm_cons rfl (fm_cons rfl (fm_cons rfl fm_nil))))))) (fun j o hp e => p4.2 _ _ hp ((Keep.app _ _).get (p3.2 _ _ hp (K2.get e)))) ?_ (p4.2 _ _ rfl (get_new V3 (tup (singlesOf (T20.take fam.length)).length (pairsOf (T20.take fam.length)).length fam.length)))
 have := K2.1; have := p3.1
 lia
structure W4 (w : Wc) (s p t bl : Nat) : Prop where
 c : w.c = [1, s, p, t]
 b : w.b = bl
 nt : w.nt = 1 + s + p + t
 n : w.n = 1 + 2 * s + 3 * p + 4 * t + bl
 hs : s <= 20
 hp : p <= 20
 ht : t <= 20
 hb : bl < 3
theorem lrs_run {p : Nat} {r : Str} {w : Wc} (hn : 8 <= n) (T : Top V) (h : Wsx V d tc r w) (h4 : W4 w s p t bl) : Cl n (.ref 13) [.ref (d + 1)] V fun v V' => v = .int 3 /\ Keep V V' := by
 obtain ⟨m, rfl⟩ := Nat.exists_eq_add_of_le' hn
 refine cl_top T (fn_at T (k := 13) (by decide) rfl) (by rfl) rfl fun lo cells V1 hS => ?_
 unfold fWhitespace_longest_run_of_spaces_b
 have a1 := hS.base h.a
 have n1 := hS.base h.n
 refine ex_assignT (by nofun) (ev_attr (ev_name (hS.get 64 _ (by rfl)) ⟨_, attr_inst (hS.base h.i) a1 rfl rfl, ?_⟩))
 refine e5 (setEach2 (x := 67) (y := 85) (q := ⟨57,8,57,13⟩) (p := ⟨57,15,57,23⟩) (v := .ref tc) (w := .int w.b) hS rfl rfl) fun V2 e2 S2 p2 f2 => ?_
 refine ⟨[.ref tc, .int w.b], V2, by unfold unpackA; dsimp only; rw [n1]; rfl, e2, ?_⟩
 have c2 := S2.base h.c
 have hb := h4.hb
 have hbw := h4.b
 refine ex_ret (ev_call (ev_glo (by rfl) (by rfl) (evs_cons (ev_bin (ev_call (ev_glo (by rfl) (by rfl) (evs_cons (ev_name (S2.get 67 _ (by rfl)) (evs_nil (cl_bi (len_tuple c2 (by rw [cI_len, h4.c]; show 4 <= 100000; decide)) ?_))))))))))
 rw [cI_len, h4.c]
 refine ev_int (by rfl) ⟨_, _, bin_int (w := .int 3) (by show mkI (((4 : Nat) : Int) - 1) = some (.int (((4 : Nat) : Int) - 1)); exact mkI_of (by decide) (by decide)), evs_cons (ev_name (S2.get 85 _ (by rfl)) (evs_nil (cl_bi (v := .int 3) ?_ ⟨rfl, S2.keep⟩)))⟩
 refine (?_ : some (AV.int (if (w.b : Int) > 3 then w.b else 3), V2) = _)
 rw [if_neg (by lia)]
noncomputable def ilF (ts : Nat) (c : List Nat) (i : Nat) : Nat := i / ts * c.getD i 0
noncomputable def ilS (ts : Nat) (c : List Nat) : List Nat -> Nat -> Nat
 | [], a => a
 | i :: r, a => ilS ts c r (a + ilF ts c i)
noncomputable def ilV (ts : Nat) (s p t bl : Nat) : Nat := bl + ts * (ilS ts [1, s, p, t] (List.range' ts (4 - ts)) 0 + (1 + s + p + t))
theorem ilF_le {p : Nat} (hs : s <= 20) (hp : p <= 20) (ht : t <= 20) (hi : i < 4) : ilF ts [1, s, p, t] i <= 60 := by
 unfold ilF
 have h1 : i / ts <= 3 := Nat.le_trans (Nat.div_le_self _ _) (Nat.le_of_lt_succ hi)
 have h2 : [1, s, p, t].getD i 0 <= 20 := by
  have : i = 0 \/ i = 1 \/ i = 2 \/ i = 3 := (or4 hi)
  rcases this with rfl | rfl | rfl | rfl <;> simp <;> lia
 exact Nat.le_trans (Nat.mul_le_mul h1 h2) (by decide)
theorem item_tup {c : List Nat} (h : V[tc]? = some (.tuple (cI c))) (hi : i < c.length) (hl : c.length <= 100) : item (.ref tc) (.int i) V = some (.int (c.getD i 0 : Nat)) := by
 unfold item; dsimp only; rw [h]; dsimp only
 rw [if_pos ⟨small_of (nb _) (nub (Nat.le_of_lt (Nat.lt_of_lt_of_le hi hl)) (by decide)), (Int.natCast_nonneg _)⟩, Int.toNat_natCast]
 exact cI_get c i hi
theorem il_run {p : Nat} {r : Str} {w : Wc} (hn : 12 <= n) (T : Top V) (h : Wsx V d tc r w) (h4 : W4 w s p t bl) (h1 : 1 <= ts) (h5 : ts <= 4) : Cl n (.ref 14) [.ref (d + 1), .int ts] V fun v V' => v = .int (ilV ts s p t bl) /\ Keep V V' := by
 obtain ⟨m, rfl⟩ := Nat.exists_eq_add_of_le' hn
 refine cl_top T (fn_at T (k := 14) (by decide) rfl) (by rfl) rfl fun lo cells V1 hS => ?_
 unfold fWhitespace_indent_level_b
 have h21 := T.len
 have hb := h4.hb
 have hs := h4.hs
 have hp := h4.hp
 have ht := h4.ht
 refine ex_assignT (by nofun) (ev_attr (ev_name (hS.get 64 _ (by rfl)) ⟨_, attr_inst (hS.base h.i) (hS.base h.a) rfl rfl, ?_⟩))
 refine e5 (setEach2 (x := 67) (y := 85) (q := ⟨61,8,61,13⟩) (p := ⟨61,15,61,23⟩) (v := .ref tc) (w := .int w.b) hS rfl rfl) fun V2 e2 S2 p2 f2 => ?_
 refine ⟨[.ref tc, .int w.b], V2, by unfold unpackA; dsimp only; rw [hS.base h.n]; rfl, e2, ?_⟩
 refine ex_let (ev_int (by rfl) ⟨_, _, _, S2, rfl, fun V3 S3 p3 => ?_⟩)
 refine ex_loop (ev_call (ev_glo (by rfl) (by rfl) (evs_cons (ev_name (S3.get 74 _ (by rfl)) (evs_cons (ev_call (ev_glo (by rfl) (by rfl) (evs_cons (ev_name (S3.get 67 _ (by rfl)) (evs_nil (cl_bi (len_tuple (S3.base h.c) (by rw [cI_len, h4.c]; show 4 <= 100000; decide)) ?_))))))))))) (Nat.succ_pos _)
 rw [cI_len, h4.c, show ((([1, s, p, t] : List Nat).length : Nat) : Int) = 4 from rfl]
 refine evs_nil (cl_bi (range_two (small_of (nb _) (nub h5 (by decide))) (by rfl)) ?_)
 have S4 := S3.to (Keep.app V3 [AO.rng (ts : Int) 4])
 have ar := aiter_range (P := fun _ _ => False) (get_new V3 (.rng (ts : Int) 4)) (small_of (nb _) (nub h5 (by decide))) (by rfl)
 refine ⟨_, (List.range' ts (4 - ts)).map (fun i : Nat => .int i), fun _ _ => False, fun xs V' => ∃ done rest m', done ++ rest = List.range' ts (4 - ts) /\ xs = rest.map (fun i : Nat => .int i) /\ S V (fiE fWhitespace_indent_level lo cells) V' m' [] /\ look 64 m' = some (.ref (d + 1)) /\ look 67 m' = some (.ref tc) /\ look 85 m' = some (.int w.b) /\ look 74 m' = some (.int ts) /\ look 75 m' = some (.int (ilS ts [1, s, p, t] done 0 : Nat)) /\ ilS ts [1, s, p, t] done 0 <= 60 * done.length, ⟨ar.1, ?_⟩, fun _ _ h => h.elim, S4.topN.len, by rw [List.length_map, List.length_range']; lia, ?_, ?_, ?_, ?_⟩
 ·have := ar.2
  refine cast ?_ this
  congr 1
  rw [show ((4 : Int) - ts).toNat = 4 - ts by lia, List.range'_eq_map_range, List.map_map]
  refine List.map_congr_left fun k _ => ?_
  refine (?_ : AV.int ((ts : Int) + k) = AV.int ((ts + k : Nat) : Int))
  congr 1
 ·exact N3.i12 [] _ _ rfl rfl (S4.to (Keep.app _ _)) rfl rfl rfl rfl rfl (Nat.zero_le _)
 ·intro xs V' o o' I ho io
  refine N3.e7 I fun done rest m' b1 b2 b3 b4 => ?_
  exact N3.i7 done rest m' b1 b2 (b3.updP ho (iter_plain io) S4.keep.1 noD0) b4
 ·intro x xs V' I hA Qb hn _ _
  refine N3.e12 I fun done rest m' b1 b2 b3 b4 b5 b6 b7 b8 b9 => ?_
  clear I
  rcases rest with _ | ⟨i, rest⟩
  ·contradiction
  ·refine (List.cons.inj b2).elim fun z1 z2 => ?_
   subst z1
   subst z2
   refine e5 (b3.set (x := 29) (kindOk_or rfl) (.int i)) fun Va ea Sa pa fa => ?_
   refine ⟨Va, ea, ?_⟩
   have hmem : i ∈ List.range' ts (4 - ts) := by rw [<- b1]; simp
   have hi : ts <= i /\ i < 4 := (List.mem_range'_1.mp hmem).imp id fun q => Nat.lt_of_lt_of_eq q (Nat.add_sub_cancel' h5)
   have hd : done.length <= 3 := by
    have := congrArg List.length b1
    rw [List.length_append, List.length_cons, List.length_range'] at this; lia
   have fl := ilF_le (ts := ts) hs hp ht hi.2
   obtain ⟨dv, hdv⟩ : ∃ dv, dv = i / ts := ⟨_, rfl⟩
   have hdiv : (i : Int) / (ts : Int) = (dv : Int) := by rw [hdv]; rfl
   have hd3 : dv <= 3 := by rw [hdv]; exact Nat.le_trans (Nat.div_le_self _ _) (Nat.le_of_lt_succ hi.2)
   refine ex_let (ev_bin (ev_name (Sa.get 75 _ b8) (ev_bin (ev_bin (ev_name (Sa.get 29 _ (by rfl)) (ev_name (Sa.get 74 _ b7) ⟨_, _, bin_int (binI_div (Int.natCast_pos.mpr h1) (nub h5 (by decide)) (by rw [hdiv]; lia) (by rw [hdiv]; lia)), ?_⟩))))))
   have hitem := item_tup (i := i) (Sa.base h.c) (by rw [h4.c]; exact hi.2) (by rw [h4.c]; show 4 <= 100; decide)
   rw [h4.c] at hitem
   refine ev_sub (ev_name (Sa.get 67 _ b5) (ev_name (Sa.get 29 _ (by rfl)) ⟨_, hitem, .int (ilF ts [1, s, p, t] i : Nat), _, bin_int ?_, _, _, bin_int (binI_add (nb2 _ _) (by lia)), _, _, _, Sa, rfl, fun V5 S5 p5 => ex_nil ?_⟩))
   ·refine (?_ : (if small ((i : Int) / (ts : Int)) then mkI ((i : Int) / (ts : Int) * ((([1, s, p, t] : List Nat).getD i 0 : Nat) : Int)) else none) = _)
    rw [hdiv, if_pos (small_of (nb _) (nub hd3 (by decide))), show (dv : Int) * ((([1, s, p, t] : List Nat).getD i 0 : Nat) : Int) = ((ilF ts [1, s, p, t] i : Nat) : Int) by rw [hdv]; exact (Int.natCast_mul _ _).symm]
    exact mkI_of (nb _) (nub fl (by decide))
   ·have ea2 : ∀ (l : List Nat) (a : Nat), ilS ts [1, s, p, t] (l ++ [i]) a = ilS ts [1, s, p, t] l a + ilF ts [1, s, p, t] i := fun l => by
     induction l with
     | nil => intro a; rfl
     | cons x l ih => intro a; exact ih _
    have sk : ∀ {x : Nat} {v w u : AV}, 75 ≠ x -> 29 ≠ x -> look x m' = some u -> look x ((75, v) :: (29, w) :: m') = some u := fun h1 h2 e => (look_skip h1).trans ((look_skip h2).trans e)
    refine hn _ (N3.i12 (done ++ [i]) rest _ (by rw [List.append_assoc]; exact b1) rfl S5 (sk (by decide) (by decide) b4) (sk (by decide) (by decide) b5) (sk (by decide) (by decide) b6) (sk (by decide) (by decide) b7) ?_ ?_) (getKI hA (pa.ki.trans p5.ki) fun _ _ h => h.elim)
    ·rw [ea2]; rfl
    ·rw [ea2, List.length_append]
     refine (?_ : _ <= 60 * (done.length + 1))
     lia
 ·intro V' I
  refine N3.e12 I fun done rest m' b1 b2 b3 b4 b5 b6 b7 b8 b9 => ?_
  clear I
  have : rest = [] := List.map_eq_nil_iff.mp b2.symm
  subst this
  rw [List.append_nil] at b1
  subst b1
  rw [List.length_range'] at b9
  have ea3 := attr_inst (a := 70) (b3.base h.i) (b3.base h.a) rfl rfl
  rw [h4.nt] at ea3
  rw [h4.b] at b6
  generalize hil : ilS ts [1, s, p, t] (List.range' ts (4 - ts)) 0 = il at b8 b9
  have b9 : il <= 60 * 4 := Nat.le_trans b9 (Nat.mul_le_mul_left 60 (Nat.sub_le 4 ts))
  have m0 : 1 + s + p + t <= 1 + 20 + 20 + 20 := Nat.add_le_add (Nat.add_le_add (Nat.add_le_add_left hs 1) hp) ht
  have m1 : ts * (il + (1 + s + p + t)) <= 4 * (60 * 4 + (1 + 20 + 20 + 20)) := Nat.mul_le_mul h5 (Nat.add_le_add b9 m0)
  refine ex_ret (ev_bin (ev_name (b3.get 85 _ b6) (ev_bin (ev_name (b3.get 74 _ b7) (ev_bin (ev_name (b3.get 75 _ b8) (ev_attr (ev_name (b3.get 64 _ b4) ⟨_, ea3, .int ((il + (1 + s + p + t) : Nat) : Int), _, bin_int ?_, .int ((ts * (il + (1 + s + p + t)) : Nat) : Int), _, bin_int ?_, .int ((bl + ts * (il + (1 + s + p + t)) : Nat) : Int), _, bin_int ?_, ?_, b3.keep⟩))))))))
  ·rw [show ((il + (1 + s + p + t) : Nat) : Int) = (il : Int) + ((1 + s + p + t : Nat) : Int) from Int.natCast_add _ _]
   exact binI_add (nb2 _ _) (nub2 b9 m0 (by decide))
  ·refine (?_ : (if small (ts : Int) then mkI ((ts : Int) * ((il + (1 + s + p + t) : Nat) : Int)) else none) = _)
   rw [if_pos (small_of (nb _) (nub h5 (by decide))), show (ts : Int) * ((il + (1 + s + p + t) : Nat) : Int) = ((ts * (il + (1 + s + p + t)) : Nat) : Int) from (Int.natCast_mul _ _).symm]
   exact mkI_of (nb _) (nub m1 (by decide))
  ·rw [show ((bl + ts * (il + (1 + s + p + t)) : Nat) : Int) = (bl : Int) + ((ts * (il + (1 + s + p + t)) : Nat) : Int) from Int.natCast_add _ _]
   exact binI_add (nb2 _ _) (nub2 (Nat.le_of_lt hb) m1 (by decide))
  ·unfold ilV
   rw [hil]
section
theorem meth_inst {r : Str} {w : Wc} (h : Wsx V d tc r w) (h1 : 13 <= a) (h2 : a <= 17) : methOf (.ref (d + 1)) a V = some .inst := by
 unfold methOf; dsimp only; rw [h.i]; dsimp only; rw [h.a]; dsimp only
 refine if_pos ⟨h1, h2, ?_⟩
 unfold look; rw [if_neg (Nat.ne_of_gt (Nat.lt_of_le_of_lt h2 (by decide)))]
 unfold look; rw [if_neg (Nat.ne_of_gt (Nat.lt_of_le_of_lt h2 (by decide)))]
 unfold look; rw [if_neg (Nat.ne_of_gt (Nat.lt_of_le_of_lt h2 (by decide)))]
 unfold look; rw [if_neg (Nat.ne_of_gt (Nat.lt_of_le_of_lt h2 (by decide)))]
 unfold look; rw [if_neg (Nat.ne_of_gt (Nat.lt_of_le_of_lt h2 (by decide)))]; rfl
section
variable {N d tc s p t bl : Nat} {V0 V : Sg} {E : AE} {m : List (Nat × AV)} {r : Str} {w : Wc} {x : Nat} {p1 pa pm p2 : Pos} {Q : AV -> Sg -> Prop}
theorem il_ev (hN : 12 <= N) (hS : S V0 E V m []) (hx : look x m = some (.ref (d + 1))) (h77 : look 77 m = some (.int ts)) (h : Wsx V0 d tc r w) (h4 : W4 w s p t bl) (h1 : 1 <= ts) (h5 : ts <= 4) (hp : (pa.endLine == pm.line && decide (([.name 77 p2] : List Ex).length <= 20)) = true)
  (q : ∀ V', Keep V V' -> S V0 E V' m [] -> Q (.int (ilV ts s p t bl)) V') : Ev (N + 1) E (.meth (.name x p1) 14 pa [.name 77 p2] pm) V Q := by
 obtain ⟨N, rfl⟩ : ∃ k, N = k + 1 := ⟨N - 1, (Nat.sub_add_cancel (Nat.le_trans (by decide) hN)).symm⟩
 have h' := h.to fun j o _ e => hS.base e
 refine ev_meth hp (ev_name (hS.get x _ hx) ⟨_, meth_inst h' (by decide) (by decide), evs_cons (ev_name (hS.get 77 _ h77) (evs_nil ?_))⟩)
 refine N2.e5 ((il_run hN hS.topN h' h4 h1 h5).out) fun v V' e z211 K => ?_
 subst z211
 exact ⟨_, V', e, q V' K (hS.to K)⟩
theorem lrs_ev (hN : 8 <= N) (hS : S V0 E V m []) (hx : look x m = some (.ref (d + 1))) (h : Wsx V0 d tc r w) (h4 : W4 w s p t bl) (hp : (pa.endLine == pm.line && decide (([] : List Ex).length <= 20)) = true)
  (q : ∀ V', Keep V V' -> S V0 E V' m [] -> Q (.int 3) V') : Ev (N + 1) E (.meth (.name x p1) 13 pa [] pm) V Q := by
 obtain ⟨N, rfl⟩ : ∃ k, N = k + 1 := ⟨N - 1, (Nat.sub_add_cancel (Nat.le_trans (by decide) hN)).symm⟩
 have h' := h.to fun j o _ e => hS.base e
 refine ev_meth hp (ev_name (hS.get x _ hx) ⟨_, meth_inst h' (by decide) (by decide), evs_nil ?_⟩)
 refine N2.e5 ((lrs_run hN hS.topN h' h4).out) fun v V' e z219 K => ?_
 subst z219
 exact ⟨_, V', e, q V' K (hS.to K)⟩
end
theorem max33 : callB .max [.int 3, .int 3] V = some (.int 3, V) := rfl
theorem add31 : binI .Add 3 1 = some (.int 4) := binI_add (by decide) (by decide)
theorem add41 : binI .Add 4 1 = some (.int 5) := binI_add (by decide) (by decide)
noncomputable def nlwR (s p t s2 p2 t2 bl : Nat) (l : List Nat) : List Rsl := (l.filter fun ts => decide (ilV ts s2 p2 t2 bl <= ilV ts s p t bl)).map fun ts : Nat => .obj (.tuple [.int ts, .int (ilV ts s p t bl), .int (ilV ts s2 p2 t2 bl)])
theorem nlw_run {p : Nat} {w1 w2 : Wc} (hn : 24 <= n) (T : Top V) (g1 : Wsx V d1 tc1 r1 w1) (k1 : W4 w1 s p t bl) (g2 : Wsx V d2 tc2 r2 w2) (k2 : W4 w2 s2 p2 t2 bl) :
  Cl n (.ref 17) [.ref (d1 + 1), .ref (d2 + 1)] V fun v V' => Keep V V' /\ ∃ j ys, v = .ref j /\ V.length <= j /\ V'[j]? = some (.list ys) /\ F2 (Is V' (j + 1)) ys (nlwR s p t s2 p2 t2 bl [1, 2, 3, 4]) := by
 refine e2 (Nat.exists_eq_add_of_le' hn) fun m z8 => ?_
 subst z8
 refine cl_top T (fn_at T (k := 17) (by decide) rfl) (by rfl) rfl fun lo cells V1 hS => ?_
 unfold fWhitespace_not_less_witness_b
 have h21 := T.len
 refine ex_let (ev_bin (ev_call (ev_glo (by rfl) (by rfl) (evs_cons (lrs_ev (Nat.le_add_left_of_le (by decide)) hS (by rfl) g1 k1 (by rfl) fun V2 K2 S2 => evs_cons (lrs_ev (Nat.le_add_left_of_le (by decide)) S2 (by rfl) g2 k2 (by rfl) fun V3 K3 S3 => evs_nil (cl_bi max33 (ev_int (by rfl) ⟨_, _, bin_int add31, _, _, _, S3, rfl, fun V4 S4 p4 => ?_⟩))))))))
 refine ex_let (ev_list (by decide) (evs_nil ⟨_, _, _, S4.to (Keep.app V4 [.list []]), rfl, fun V5 S5 p5 => ?_⟩))
 have a5 := p5.2 _ _ rfl (get_new V4 (.list []))
 have hj := S4.keep.1
 generalize V4.length = j at a5 hj S5
 refine ex_loop (ev_call (ev_glo (by rfl) (by rfl) (evs_cons (ev_int (by rfl) (evs_cons (ev_bin (ev_name (S5.get 69 _ (by rfl)) (ev_int (by rfl) ⟨_, _, bin_int add41, evs_nil (cl_bi (range_two (by rfl) (by rfl)) ?_)⟩)))))))) (Nat.succ_pos _)
 have S6 := S5.to (Keep.app V5 [AO.rng 1 5])
 have a6 := (Keep.app V5 [AO.rng 1 5]).get a5
 have jl := lt_of_get a6
 have ar := aiter_range (P := fun _ _ => False) (get_new V5 (.rng 1 5)) (by rfl) (by rfl)
 refine ⟨_, ([1, 2, 3, 4] : List Nat).map (fun i : Nat => .int i), fun _ _ => False, fun xs V' => ∃ done rest m' ys, done ++ rest = [1, 2, 3, 4] /\ xs = rest.map (fun i : Nat => .int i) /\ S V (fiE fWhitespace_not_less_witness lo cells) V' m' [] /\ look 64 m' = some (.ref (d1 + 1)) /\ look 76 m' = some (.ref (d2 + 1)) /\ look 78 m' = some (.ref j) /\ V'[j]? = some (.list ys) /\ F2 (Is V' (j + 1)) ys (nlwR s p t s2 p2 t2 bl done), ⟨ar.1, ar.2⟩, fun _ _ h => h.elim, S6.topN.len, by decide, ?_, ?_, ?_, ?_⟩
 ·exact i12 ([]) _ _ ([]) rfl rfl (S6.to (Keep.app _ _)) rfl rfl rfl ((Keep.app _ _).get a6) .nil
 ·intro xs V' o o' y9 ho io
  refine e12 y9 fun done rest m' ys b1 b2 b3 b4 b5 b6 b7 b8 => ?_
  clear y9
  refine i12 done rest m' ys b1 b2 (b3.updP ho (iter_plain io) S6.keep.1 noD0) b4 b5 b6 ?_ (forall2_imp (fun a b e => (Px.setIter ho io).is (Nat.lt_succ_self j) e) b8)
  refine rwR (List.getElem?_set_ne (by lia)) ?_
  exact b7
 ·intro x xs V' y10 hA Qb hn _ _
  refine e12 y10 fun done rest m' ys b1 b2 b3 b4 b5 b6 b7 b8 => ?_
  clear y10
  obtain _ | ⟨i, rest⟩ := rest
  ·contradiction
  ·refine e2 (List.cons.inj b2) fun z92 z93 => ?_
   subst z92
   subst z93
   refine e5 (b3.set (x := 77) (kindOk_or rfl) (.int i)) fun Va ea Sa pa fa => ?_
   refine ⟨Va, ea, ?_⟩
   have hmem : i ∈ [1, 2, 3, 4] := by rw [<- b1]; simp
   have hi : 1 <= i /\ i <= 4 := fm_cons (P := fun i => 1 <= i /\ i <= 4) (by decide) (fm_cons (by decide) (fm_cons (by decide) (fm_cons (by decide) fm_nil))) i hmem
   have hyl : ys.length <= 4 := by
    refine rwR (forall2_len b8) ?_
    unfold nlwR
    rw [List.length_map]
    have h1 := List.length_filter_le (fun ts => decide (ilV ts s2 p2 t2 bl <= ilV ts s p t bl)) done
    have h2 := congrArg List.length b1
    rw [List.length_append] at h2
    simp only [List.length_cons, List.length_nil] at h2
    lia
   have app1 : nlwR s p t s2 p2 t2 bl (done ++ [i]) = nlwR s p t s2 p2 t2 bl done ++ (if ilV i s2 p2 t2 bl <= ilV i s p t bl then [.obj (.tuple [.int i, .int (ilV i s p t bl), .int (ilV i s2 p2 t2 bl)])] else []) := by
    unfold nlwR
    rw [List.filter_append]
    refine rwR List.map_append ?_
    by_cases q : ilV i s2 p2 t2 bl <= ilV i s p t bl
    ·refine rwR (if_pos q) ?_
     refine rwR (List.filter_cons_of_pos (by exact decide_eq_true q)) ?_
     rfl
    ·refine rwR (if_neg q) ?_
     refine rwR (List.filter_cons_of_neg (by show ¬ decide _ = true; rw [decide_eq_false q]; nofun)) ?_
     rfl
   have n64 : look 64 ((77, AV.int i) :: m') = some (.ref (d1 + 1)) := (look_skip (by decide)).trans b4
   have n76 : look 76 ((77, AV.int i) :: m') = some (.ref (d2 + 1)) := (look_skip (by decide)).trans b5
   have n78 : look 78 ((77, AV.int i) :: m') = some (.ref j) := (look_skip (by decide)).trans b6
   refine ex_if (ev_cmp (il_ev (Nat.le_add_left_of_le (by decide)) Sa n64 (by rfl) g1 k1 hi.1 hi.2 (by rfl) fun Vb Kb Sb => il_ev (Nat.le_add_left_of_le (by decide)) Sb n76 (by rfl) g2 k2 hi.1 hi.2 (by rfl) fun Vc Kc Sc => ⟨decide ((ilV i s p t bl : Int) >= (ilV i s2 p2 t2 bl : Int)), rfl, _, rfl, ?_⟩))
   have Kac := Kb.trans Kc
   have jc := Kac.get (pa.2 _ _ rfl b7)
   have x8 : Px j V' Vc := pa.px.trans Kac.pl.px
   by_cases q : ilV i s2 p2 t2 bl <= ilV i s p t bl
   ·rw [if_pos q] at app1
    refine rwR (decide_eq_true (show (ilV i s p t bl : Int) >= (ilV i s2 p2 t2 bl : Int) by lia)) ?_
    refine rwR (if_pos rfl) ?_
    have jm : methOf (.ref j) 37 Vc = some .list := by unfold methOf; dsimp only; rw [jc]; rfl
    refine ex_expr rfl (ev_meth (by rfl) (ev_name (Sc.get 78 _ n78) ⟨.list, jm, evs_cons (ev_tuple (by show 3 <= 100; decide) (evs_cons (ev_name (Sc.get 77 _ (by rfl)) (evs_cons (il_ev (Nat.le_add_left_of_le (by decide)) Sc n64 (by rfl) g1 k1 hi.1 hi.2 (by rfl) fun Vd Kd Sd => evs_cons (il_ev (Nat.le_add_left_of_le (by decide)) Sd n76 (by rfl) g2 k2 hi.1 hi.2 (by rfl) fun Ve Ke Se => evs_nil ?_)))))) ⟩))
    have Kce := Kd.trans Ke
    have jn' := (Keep.app Ve [AO.tuple [.int i, .int (ilV i s p t bl), .int (ilV i s2 p2 t2 bl)]]).get (Kce.get jc)
    have Sf := Se.to (Keep.app Ve [AO.tuple [.int i, .int (ilV i s p t bl), .int (ilV i s2 p2 t2 bl)]])
    have tf := get_new Ve (AO.tuple [.int i, .int (ilV i s p t bl), .int (ilV i s2 p2 t2 bl)])
    have xf : Px j V' (Ve ++ [AO.tuple [.int i, .int (ilV i s p t bl), .int (ilV i s2 p2 t2 bl)]]) := x8.trans (Kce.trans (Keep.app _ _)).pl.px
    have jle := lt_of_get (Kce.get jc)
    have kif : KI V' (Ve ++ [AO.tuple [.int i, .int (ilV i s p t bl), .int (ilV i s2 p2 t2 bl)]]) := pa.ki.trans ((Kac.trans Kce).trans (Keep.app _ _)).pl.ki
    generalize hVf : Ve ++ [AO.tuple [.int i, .int (ilV i s p t bl), .int (ilV i s2 p2 t2 bl)]] = Vf at *
    refine evs_nil ⟨.none, Vf.set j (.list (ys ++ [.ref Ve.length])), ?_, rfl, ?_⟩
    ·unfold methA; dsimp only; rw [jn']; dsimp only
     refine rwR methL_app ?_
     refine rwR (if_pos (Nat.le_trans hyl (by decide))) ?_
     refine rwR (upd_ok (Nat.le_trans h21 hj) (lt_of_get jn')) ?_
     rfl
    refine ex_nil (ex_nil (hn _ ⟨done ++ [i], rest, _, ys ++ [.ref Ve.length], by rw [List.append_assoc]; exact b1, rfl, Sf.updP jn' rfl hj noD0, n64, n76, n78, List.getElem?_set_self (lt_of_get jn'), ?_⟩ (getKI hA (kif.trans ?_) fun _ _ h => h.elim)))
    ·refine rwR app1 ?_
     refine forall2_app (.cons ?_ .nil) (forall2_imp (fun a b e => (xf.trans Px.setAcc).is (Nat.lt_succ_self j) e) b8)
     exact i5 _ rfl jle (by rw [List.getElem?_set_ne (Nat.ne_of_lt jle)]; exact tf) rfl
    ·intro j' o' e io
     rw [List.getElem?_set_ne (fun q => by subst q; rw [jn'] at e; cases e; cases io)]; exact e
   ·rw [if_neg q, List.append_nil] at app1
    refine rwR (decide_eq_false (show ¬ (ilV i s p t bl : Int) >= (ilV i s2 p2 t2 bl : Int) by lia)) ?_
    refine rwR (if_neg (by nofun)) ?_
    refine ex_nil (ex_nil (hn _ ⟨done ++ [i], rest, _, ys, by rw [List.append_assoc]; exact b1, rfl, Sc, n64, n76, n78, jc, ?_⟩ (getKI hA (pa.ki.trans Kac.pl.ki) fun _ _ h => h.elim)))
    refine rwR app1 ?_
    exact forall2_imp (fun a b e => x8.is (Nat.lt_succ_self j) e) b8
 ·intro V' y11
  refine e12 y11 fun done rest m' ys b1 b2 b3 b4 b5 b6 b7 b8 => ?_
  clear y11
  have : rest = [] := List.map_eq_nil_iff.mp b2.symm
  subst this
  rw [List.append_nil] at b1
  subst b1
  exact ex_ret (ev_name (b3.get 78 _ b6) ⟨b3.keep, j, ys, rfl, hj, b7, b8⟩)
end
noncomputable def lessB (n1 s p t n2 s2 p2 t2 bl : Nat) : Bool := !decide (n2 <= n1) && [2, 3, 4].all fun ts => decide (ilV ts s p t bl < ilV ts s2 p2 t2 bl)
theorem less_run {p : Nat} {w1 w2 : Wc} (hn : 24 <= n) (T : Top V) (g1 : Wsx V d1 tc1 r1 w1) (k1 : W4 w1 s p t bl) (g2 : Wsx V d2 tc2 r2 w2) (k2 : W4 w2 s2 p2 t2 bl) :
  Cl n (.ref 16) [.ref (d1 + 1), .ref (d2 + 1)] V fun v V' => Keep V V' /\ v = .bool (lessB w1.n s p t w2.n s2 p2 t2 bl) := by
 refine e2 (Nat.exists_eq_add_of_le' hn) fun m z1 => ?_
 subst z1
 refine cl_top T (fn_at T (k := 16) (by decide) rfl) (by rfl) rfl fun lo cells V1 hS => ?_
 unfold fWhitespace_less_b
 have h21 := T.len
 have a64 := attr_inst (a := 69) (hS.base g1.i) (hS.base g1.a) rfl rfl
 have a76 := attr_inst (a := 69) (hS.base g2.i) (hS.base g2.a) rfl rfl
 have b64 := attr_inst (a := 73) (hS.base g1.i) (hS.base g1.a) rfl rfl
 rw [k1.c] at b64
 refine ex_if (ev_cmp (ev_attr (ev_name (hS.get 64 _ (by rfl)) ⟨_, a64, ev_attr (ev_name (hS.get 76 _ (by rfl)) ⟨_, a76, decide ((w1.n : Int) >= (w2.n : Int)), rfl, _, rfl, ?_⟩)⟩)))
 by_cases q : w2.n <= w1.n
 ·refine rwR (decide_eq_true (show (w1.n : Int) >= (w2.n : Int) by lia)) ?_
  refine rwR (if_pos rfl) ?_
  refine ex_ret (ev_bool ⟨hS.keep, ?_⟩)
  unfold lessB
  refine rwR (decide_eq_true q) ?_
  rfl
 refine rwR (decide_eq_false (show ¬ (w1.n : Int) >= (w2.n : Int) by lia)) ?_
 refine rwR (if_neg (by nofun)) ?_
 refine ex_nil (ex_if (ev_and (ev_attr (ev_name (hS.get 64 _ (by rfl)) ⟨_, b64, false, rfl, ?_⟩))))
 refine rwR (if_neg (by nofun)) ?_
 refine ⟨false, rfl, ?_⟩
 refine rwR (if_neg (by nofun)) ?_
 refine ex_nil (ex_let (ev_bin (ev_call (ev_glo (by rfl) (by rfl) (evs_cons (lrs_ev (Nat.le_add_left_of_le (by decide)) hS (by rfl) g1 k1 (by rfl) fun V2 K2 S2 => evs_cons (lrs_ev (Nat.le_add_left_of_le (by decide)) S2 (by rfl) g2 k2 (by rfl) fun V3 K3 S3 => evs_nil (cl_bi max33 (ev_int (by rfl) ⟨_, _, bin_int add31, _, _, _, S3, rfl, fun V5 S5 p5 => ?_⟩)))))))))
 refine ex_loop (ev_call (ev_glo (by rfl) (by rfl) (evs_cons (ev_int (by rfl) (evs_cons (ev_bin (ev_name (S5.get 69 _ (by rfl)) (ev_int (by rfl) ⟨_, _, bin_int add41, evs_nil (cl_bi (range_two (by rfl) (by rfl)) ?_)⟩)))))))) (Nat.succ_pos _)
 have S6 := S5.to (Keep.app V5 [AO.rng 2 5])
 have ar := aiter_range (P := fun _ _ => False) (get_new V5 (.rng 2 5)) (by rfl) (by rfl)
 refine ⟨_, ([2, 3, 4] : List Nat).map (fun i : Nat => .int i), fun _ _ => False, fun xs V' => ∃ done rest m', done ++ rest = [2, 3, 4] /\ xs = rest.map (fun i : Nat => .int i) /\ S V (fiE fWhitespace_less lo cells) V' m' [] /\ look 64 m' = some (.ref (d1 + 1)) /\ look 76 m' = some (.ref (d2 + 1)) /\ (done.all fun ts => decide (ilV ts s p t bl < ilV ts s2 p2 t2 bl)) = true, ⟨ar.1, ar.2⟩, fun _ _ h => h.elim, S6.topN.len, by decide, ?_, ?_, ?_, ?_⟩
 ·exact i9 ([]) _ _ rfl rfl (S6.to (Keep.app _ _)) rfl rfl rfl
 ·intro xs V' o o' y2 ho io
  refine e7 y2 fun done rest m' b1 b2 b3 b4 => ?_
  clear y2
  exact i7 done rest m' b1 b2 (b3.updP ho (iter_plain io) S6.keep.1 noD0) b4
 ·intro x xs V' y3 hA Qb hn _ hr
  refine e9 y3 fun done rest m' b1 b2 b3 b4 b5 b6 => ?_
  clear y3
  obtain _ | ⟨i, rest⟩ := rest
  ·contradiction
  ·refine e2 (List.cons.inj b2) fun z94 z95 => ?_
   subst z94
   subst z95
   refine e5 (b3.set (x := 77) (kindOk_or rfl) (.int i)) fun Va ea Sa pa fa => ?_
   refine ⟨Va, ea, ?_⟩
   have hmem : i ∈ [2, 3, 4] := by rw [<- b1]; simp
   have hi : 1 <= i /\ i <= 4 := fm_cons (P := fun i => 1 <= i /\ i <= 4) (by decide) (fm_cons (by decide) (fm_cons (by decide) fm_nil)) i hmem
   have n64 : look 64 ((77, AV.int i) :: m') = some (.ref (d1 + 1)) := (look_skip (by decide)).trans b4
   have n76 : look 76 ((77, AV.int i) :: m') = some (.ref (d2 + 1)) := (look_skip (by decide)).trans b5
   refine ex_if (ev_cmp (il_ev (Nat.le_add_left_of_le (by decide)) Sa n64 (by rfl) g1 k1 hi.1 hi.2 (by rfl) fun Vb Kb Sb => il_ev (Nat.le_add_left_of_le (by decide)) Sb n76 (by rfl) g2 k2 hi.1 hi.2 (by rfl) fun Vc Kc Sc => ⟨decide ((ilV i s p t bl : Int) >= (ilV i s2 p2 t2 bl : Int)), rfl, _, rfl, ?_⟩))
   have Kac := Kb.trans Kc
   by_cases q2 : ilV i s p t bl < ilV i s2 p2 t2 bl
   ·refine rwR (decide_eq_false (show ¬ (ilV i s p t bl : Int) >= (ilV i s2 p2 t2 bl : Int) by lia)) ?_
    refine rwR (if_neg (by nofun)) ?_
    refine ex_nil (ex_nil (hn _ ⟨done ++ [i], rest, _, by rw [List.append_assoc]; exact b1, rfl, Sc, n64, n76, ?_⟩ (getKI hA (pa.ki.trans Kac.pl.ki) fun _ _ h => h.elim)))
    refine rwR List.all_append ?_
    refine rwR b6 ?_
    refine rwR List.all_cons ?_
    refine rwR (decide_eq_true q2) ?_
    rfl
   ·refine rwR (decide_eq_true (show (ilV i s p t bl : Int) >= (ilV i s2 p2 t2 bl : Int) by lia)) ?_
    refine rwR (if_pos rfl) ?_
    refine ex_ret (ev_bool (hr _ _ ⟨Sc.keep, ?_⟩))
    unfold lessB
    have : ([2, 3, 4].all fun ts => decide (ilV ts s p t bl < ilV ts s2 p2 t2 bl)) = false := by
     rw [<- b1, List.all_append, List.all_cons, decide_eq_false q2, Bool.false_and, Bool.and_false]
    refine rwR this ?_
    rw [Bool.and_false]
 ·intro V' y4
  refine e9 y4 fun done rest m' b1 b2 b3 b4 b5 b6 => ?_
  clear y4
  have : rest = [] := List.map_eq_nil_iff.mp b2.symm
  subst this
  rw [List.append_nil] at b1
  subst b1
  refine ex_ret (ev_bool ⟨b3.keep, ?_⟩)
  unfold lessB
  refine rwR b6 ?_
  refine rwR (decide_eq_false q) ?_
  rfl
theorem cI_eq : ∀ {c c' : List Nat}, c.length = c'.length -> allEq (aeq1 V n) (cI c) (cI c') = some (decide (c = c'))
 | [], [], _ => rfl
 | a :: c, b :: c', h => by
  have ih : allEq (aeq1 V n) (cI c) (cI c') = some (decide (c = c')) := cI_eq (Nat.succ.inj h)
  refine (?_ : ((aeq1 V n (.int a) (.int b)).bind fun x => (allEq (aeq1 V n) (cI c) (cI c')).bind fun y => some (x && y)) = _)
  rw [ih, show aeq1 V n (.int (a : Nat)) (.int (b : Nat)) = some ((a : Int) == (b : Int)) from by cases n <;> rfl]
  refine (?_ : some (((a : Int) == (b : Int)) && decide (c = c')) = _)
  congr 1
  by_cases q : a = b
  ·subst q; simp
  ·have : ((a : Int) == (b : Int)) = false := beq_false_of_ne (fun e => q (Int.ofNat.inj e))
   rw [this]; simp [q]
theorem tup_eq {c c' : List Nat} (hab : a ≠ b) (ha : V[a]? = some (.tuple (cI c))) (hb : V[b]? = some (.tuple (cI c'))) (hl : c.length = c'.length) : aeq1 V (n + 1) (.ref a) (.ref b) = some (decide (c = c')) := by
 refine aeq1_tt hab ha hb ?_
 rw [cI_len, cI_len, if_pos hl, cI_eq hl]
theorem norm_eq {a' b' : Nat} {c c' : List Nat} (hab : a ≠ b) (hab' : a' ≠ b') (ha : V[a]? = some (.tuple [.ref a', .int bl])) (hb : V[b]? = some (.tuple [.ref b', .int bl])) (ha' : V[a']? = some (.tuple (cI c))) (hb' : V[b']? = some (.tuple (cI c'))) (hl : c.length = c'.length) : aeq1 V (n + 2) (.ref a) (.ref b) = some (decide (c = c')) := by
 refine aeq1_tt hab ha hb ?_
 refine (?_ : (if (2 : Nat) = 2 then ((aeq1 V (n + 1) (.ref a') (.ref b')).bind fun x => ((aeq1 V (n + 1) (.int bl) (.int bl)).bind fun x => some (x && true)).bind fun y => some (x && y)) else none) = _)
 rw [if_pos rfl, tup_eq hab' ha' hb' hl, show aeq1 V (n + 1) (.int (bl : Nat)) (.int bl) = some ((bl : Int) == bl) from rfl]
 refine (?_ : some (decide (c = c') && (((bl : Int) == bl) && true)) = _)
 simp
theorem eq_run {p : Nat} {w1 w2 : Wc} (hn : 6 <= n) (T : Top V) (g1 : Wsx V d1 tc1 r1 w1) (k1 : W4 w1 s p t bl) (g2 : Wsx V d2 tc2 r2 w2) (k2 : W4 w2 s2 p2 t2 bl) (h12 : tc1 + 1 < tc2) :
  Cl n (.ref 15) [.ref (d1 + 1), .ref (d2 + 1)] V fun v V' => Keep V V' /\ v = .bool (decide ([1, s, p, t] = [1, s2, p2, t2])) := by
 refine e2 (Nat.exists_eq_add_of_le' hn) fun m z5 => ?_
 subst z5
 refine cl_top T (fn_at T (k := 15) (by decide) rfl) (by rfl) rfl fun lo cells V1 hS => ?_
 unfold fWhitespace_equal_b
 have n1 := hS.base g1.n
 have n2 := hS.base g2.n
 have c1 := hS.base g1.c
 have c2 := hS.base g2.c
 rw [k1.b] at n1
 rw [k2.b] at n2
 rw [k1.c] at c1
 rw [k2.c] at c2
 refine ex_ret (ev_cmp (ev_attr (ev_name (hS.get 64 _ (by rfl)) ⟨_, attr_inst (a := 72) (hS.base g1.i) (hS.base g1.a) rfl rfl, ev_attr (ev_name (hS.get 76 _ (by rfl)) ⟨_, attr_inst (a := 72) (hS.base g2.i) (hS.base g2.a) rfl rfl, _, ?_, hS.keep, rfl⟩)⟩)))
 exact aeq_1 (norm_eq (by lia) (Nat.ne_of_lt (Nat.lt_of_le_of_lt (Nat.le_add_right _ _) h12)) n1 n2 c1 c2 rfl)
noncomputable def colF (ts : Nat) (c : List Nat) (i : Nat) : Nat := c.getD i 0 * (i / ts + 1) * ts
noncomputable def colL (ts : Nat) (c : List Nat) : List Int := (List.range 4).map fun i => ((colF ts c i : Nat) : Int)
noncomputable def colV (ts s p t bl : Nat) : Nat := bl + (colF ts [1, s, p, t] 0 + (colF ts [1, s, p, t] 1 + (colF ts [1, s, p, t] 2 + (colF ts [1, s, p, t] 3 + 0))))
theorem getD_le {p : Nat} (hs : s <= 20) (hp : p <= 20) (ht : t <= 20) (hi : i < 4) : [1, s, p, t].getD i 0 <= 20 := by
 have : i = 0 \/ i = 1 \/ i = 2 \/ i = 3 := (or4 hi)
 rcases this with rfl | rfl | rfl | rfl <;> simp <;> lia
theorem col_il {p : Nat} (h1 : 1 <= ts) (h5 : ts <= 4) : colV ts s p t bl = ilV ts s p t bl := by
 have : ts = 1 \/ ts = 2 \/ ts = 3 \/ ts = 4 := (or14 h1 h5)
 rcases this with rfl | rfl | rfl | rfl <;> simp [colV, ilV, colF, ilS, ilF, List.range', List.getD] <;> lia
theorem col_run {p : Nat} (hn : 12 <= n) (T : Top V) (h : V[ca]? = some (tup s p t)) (hs : s <= 20) (hp : p <= 20) (ht : t <= 20) (hb : bl < 3) (h1 : 1 <= ts) (h5 : ts <= 4) :
  Cl n (.ref 10) [.ref ca, .int bl, .int ts] V fun v V' => v = .int (ilV ts s p t bl : Nat) /\ Keep V V' := by
 obtain ⟨m, rfl⟩ := Nat.exists_eq_add_of_le' hn
 refine cl_top T (fn_at T (k := 10) (by decide) rfl) (by rfl) rfl fun lo cells V1 hS => ?_
 unfold f_law_column_b
 have h21 := T.len
 have hc := hS.base h
 have R1 := Keep.app V1 [AO.rng 0 4]
 have S1 := hS.to R1
 refine ex_ret (ev_bin (ev_name (hS.get 41 _ (by rfl)) (ev_call (ev_glo (by rfl) (by rfl) (evs_cons (ev_comp (by decide) (ev_call (ev_glo (by rfl) (by rfl) (evs_cons (ev_call (ev_glo (by rfl) (by rfl) (evs_cons (ev_name (hS.get 46 _ (by rfl)) (evs_nil (cl_bi (len_tuple hc (by rw [cI_len]; show 4 <= 100000; decide)) ?_)))))))))))))))
 rw [cI_len, show ((([1, s, p, t] : List Nat).length : Nat) : Int) = 4 from rfl]
 refine evs_nil (cl_bi (range_one (by rfl)) ⟨_, _, fun x => match x with | .int i => some (.val (.int (colF ts [1, s, p, t] i.toNat : Nat))) | _ => none, [(46, .ref ca), (47, .int ts)], aiter_range (P := Base _) (get_new V1 (.rng 0 4)) (by rfl) (by rfl), by rw [List.length_map, List.length_range]; decide, S1.topN, Fre.of (fm_cons ⟨rfl, S1.get 46 _ (by rfl), .inl rfl⟩ (fm_cons ⟨rfl, S1.get 47 _ (by rfl), .inl rfl⟩ fm_nil)) (by rfl), fun l cells lo x hx => ?_, fun acc ys V2 K2 ha hy hF => ?_⟩)
 ·refine e3 (List.mem_map.mp hx) fun i hi z96 => ?_
  subst z96
  have hi : i < 4 := List.mem_range.mp hi
  rw [Int.zero_add]
  refine BodyC.one rfl rfl fun Va Sa _ => cds_nil ?_
  rw [if_pos rfl]
  have hitem := item_tup (i := i) (Sa.base (R1.get hc)) hi (show 4 <= 100 by decide)
  have gl := getD_le hs hp ht hi
  obtain ⟨g, hg⟩ : ∃ g, g = [1, s, p, t].getD i 0 := ⟨_, rfl⟩
  rw [<- hg] at hitem gl
  obtain ⟨dv, hdv⟩ : ∃ dv, dv = i / ts := ⟨_, rfl⟩
  have hdiv : (i : Int) / (ts : Int) = (dv : Int) := by rw [hdv]; rfl
  have hd3 : dv <= 3 := by rw [hdv]; exact Nat.le_trans (Nat.div_le_self _ _) (Nat.le_of_lt_succ hi)
  have m1 : g * (dv + 1) <= 80 := Nat.le_trans (Nat.mul_le_mul gl (show dv + 1 <= 4 by lia)) (by decide)
  have m2 : g * (dv + 1) * ts <= 320 := Nat.le_trans (Nat.mul_le_mul m1 h5) (by decide)
  refine ev_bin (ev_bin (ev_sub (ev_name (Sa.get 46 _ (by rfl)) (ev_name (Sa.get 102 _ (by rfl)) ⟨_, hitem, ev_bin (ev_bin (ev_name (Sa.get 102 _ (by rfl)) (ev_name (Sa.get 47 _ (by rfl)) ⟨_, _, bin_int (binI_div (Int.natCast_pos.mpr h1) (nub h5 (by decide)) (by rw [hdiv]; lia) (by rw [hdiv]; lia)), ?_⟩)))⟩))))
  rw [hdiv]
  refine ev_int (by rfl) ⟨_, _, bin_int (binI_add (nb1 _) (nub1 hd3 (by decide))), .int ((g * (dv + 1) : Nat) : Int), _, bin_int ?_, ev_name (Sa.get 47 _ (by rfl)) ⟨.int ((g * (dv + 1) * ts : Nat) : Int), _, bin_int ?_, .val (.int ((g * (dv + 1) * ts : Nat) : Int)), ?_, rfl, Keep.refl _⟩⟩
  ·refine (?_ : (if small (g : Int) then mkI ((g : Int) * ((dv : Int) + 1)) else none) = _)
   rw [if_pos (small_of (nb _) (nub gl (by decide))), show (g : Int) * ((dv : Int) + 1) = ((g * (dv + 1) : Nat) : Int) by rw [Int.natCast_mul]; rfl]
   exact mkI_of (nb _) (nub m1 (by decide))
  ·refine (?_ : (if small ((g * (dv + 1) : Nat) : Int) then mkI (((g * (dv + 1) : Nat) : Int) * (ts : Int)) else none) = _)
   rw [if_pos (small_of (nb _) (nub m1 (by decide))), show ((g * (dv + 1) : Nat) : Int) * (ts : Int) = ((g * (dv + 1) * ts : Nat) : Int) by rw [Int.natCast_mul (g * (dv + 1))]]
   exact mkI_of (nb _) (nub m2 (by decide))
  ·refine (?_ : some (Rsl.val (.int (colF ts [1, s, p, t] (i : Int).toNat : Nat))) = _)
   rw [Int.toNat_natCast]
   unfold colF
   refine rwL hg ?_
   exact rwL hdv rfl
 have ey : ys = (colL ts [1, s, p, t]).map .int := F2_val (by
  have e : (((List.range ((4 : Int) - 0).toNat).map fun k : Nat => AV.int (0 + (k : Int))).filterMap (fun x => match x with | .int i => some (Rsl.val (.int (colF ts [1, s, p, t] i.toNat : Nat))) | _ => none)) = ((colL ts [1, s, p, t]).map .int).map .val := rfl
  refine rwL e ?_
  exact hF)
 subst ey
 have bnd : ∀ i, i < 4 -> colF ts [1, s, p, t] i <= 320 := fun i hi => by
  have hd3 : i / ts <= 3 := Nat.le_trans (Nat.div_le_self _ _) (Nat.le_of_lt_succ hi)
  unfold colF
  exact Nat.le_trans (Nat.mul_le_mul (Nat.mul_le_mul (getD_le hs hp ht hi) (show i / ts + 1 <= 4 by lia)) h5) (by decide)
 have b0 := bnd 0 (by decide)
 have b1 := bnd 1 (by decide)
 have b2 := bnd 2 (by decide)
 have b3 := bnd 3 (by decide)
 have es : (colL ts [1, s, p, t]).sum = ((colF ts [1, s, p, t] 0 + (colF ts [1, s, p, t] 1 + (colF ts [1, s, p, t] 2 + (colF ts [1, s, p, t] 3 + 0))) : Nat) : Int) := rfl
 have cs : callB .sum [.ref acc] V2 = some (.int (colL ts [1, s, p, t]).sum, V2) := by
  refine (?_ : (match V2[acc]? with | some (.list xs) => (sumA xs 0).map (·, V2) | _ => none) = _)
  rw [hy]; dsimp only
  rw [sumA_ok _ 0 (by lia) (fun i hi => by
   refine e3 (List.mem_map.mp hi) fun k hk z97 => ?_
   subst z97
   have := bnd k (List.mem_range.mp hk)
   lia) (by show (0 : Int) + 100000000 * ((4 : Nat) : Int) < _; lia), Int.zero_add]; rfl
 refine evs_nil (cl_bi cs ?_)
 refine rwR es ?_
 refine ⟨_, _, bin_int (binI_add (nb2 _ _) (by lia)), ?_, (hS.to (R1.trans K2)).keep⟩
 refine rwL (col_il h1 h5) ?_
 rfl
section
section
variable {N d tc s p t bl ca : Nat} {V0 V : Sg} {E : AE} {m : List (Nat × AV)} {r : Str} {w : Wc} {x y a : Nat} {p1 p2 p3 p4 p5 p6 pa pm : Pos} {Q : AV -> Sg -> Prop}
theorem norm_cmp (hS : S V0 E V m []) (hx : look x m = some (.ref (d + 1))) (hy : look y m = some (.ref ca)) (h41 : look 41 m = some (.int (bl : Nat))) (g : Wsx V d tc r w) (k : W4 w s p t bl) (hc : V[ca]? = some (tup s p t)) (hne : tc < ca)
  (q : ∀ V', Keep V V' -> Q (.bool false) V') : Ev (N + 3) E (.cmp (.attr (.name x p1) 72 p2) .NotEq (.tuple [.name y p3, .name 41 p4] p5) p6) V Q := by
 refine ev_cmp (ev_attr (ev_name (hS.get x _ hx) ⟨_, attr_inst (a := 72) g.i g.a rfl rfl, ev_tuple (by show 2 <= 100; decide) (evs_cons (ev_name (hS.get y _ hy) (evs_cons (ev_name (hS.get 41 _ h41) (evs_nil ⟨false, ?_, q _ (Keep.app _ _)⟩)))))⟩))
 have n1 := g.n
 have c1 := g.c
 rw [k.b] at n1
 rw [k.c] at c1
 have l1 := lt_of_get n1
 have K := Keep.app V [AO.tuple [.ref ca, .int (bl : Nat)]]
 refine rwR cmp_ne ?_
 refine rwR (aeq_1 (norm_eq (Nat.ne_of_lt l1) (Nat.ne_of_lt hne) (K.get n1) (get_new _ _) (K.get c1) (K.get hc) rfl)) ?_
 refine rwR (decide_eq_true rfl) ?_
 rfl
theorem meth1_ev (h1 : 13 <= a) (h2 : a <= 17) (hS : S V0 E V m []) (hx : look x m = some (.ref (d + 1))) (hy : look y m = some v) (g : Wsx V d tc r w) (hp : (pa.endLine == pm.line && decide (([.name y p2] : List Ex).length <= 20)) = true) (h : Cl (N + 1) (.ref a) [.ref (d + 1), v] V Q) : Ev (N + 2) E (.meth (.name x p1) a pa [.name y p2] pm) V Q :=
 ev_meth hp (ev_name (hS.get x _ hx) ⟨_, meth_inst g h1 h2, evs_cons (ev_name (hS.get y _ hy) (evs_nil (by obtain ⟨u, V', e, q⟩ := h; exact ⟨u, V', e, q⟩)))⟩)
end
noncomputable def Trio : Rsl -> Prop
 | .obj o => ∃ a b c : Nat, o = .tuple [.int a, .int b, .int c]
 | .val _ => False
theorem trio_eq {j : Nat} (h : i ≠ j) (hi : V[i]? = some (.tuple [.int a, .int b, .int c])) (hj : V[j]? = some (.tuple [.int a, .int b, .int c])) : aeq1 V (n + 1) (.ref i) (.ref j) = some true := by
 refine aeq1_tt h hi hj ?_
 have e : ∀ a : Nat, aeq1 V n (.int a) (.int a) = some true := fun a => by
  rw [show aeq1 V n (.int (a : Nat)) (.int a) = some ((a : Int) == a) from by cases n <;> rfl, beq_self_eq_true]
 refine (?_ : (if (3 : Nat) = 3 then ((aeq1 V n (.int a) (.int a)).bind fun x => ((aeq1 V n (.int b) (.int b)).bind fun x => ((aeq1 V n (.int c) (.int c)).bind fun x => some (x && true)).bind fun y => some (x && y)).bind fun y => some (x && y)) else none) = _)
 rw [if_pos rfl, e, e, e]; rfl
theorem all2 {f : AV -> AV -> Option Bool} {y : AV} (h : f x y = some true) (k : allEq f xs ys = some true) : allEq f (x :: xs) (y :: ys) = some true := by
 refine (?_ : (f x y).bind (fun b => (allEq f xs ys).bind fun c => some (b && c)) = _)
 refine rwR h ?_
 refine rwR k ?_
 rfl
theorem rows_eq {lo' : Nat} (hl : V0.length <= lo') (kp : ∀ (j : Nat) (o : AO), isData o = true -> V0[j]? = some o -> V[j]? = some o) {rs : List Rsl} (ht : ∀ r, r ∈ rs -> Trio r) (h : F2 (Is V0 lo) ys rs) (g : F2 (Is V lo') zs rs) :
  allEq (aeq1 V (n + 1)) ys zs = some true /\ allEq (aeq1 V (n + 1)) zs ys = some true := by
 induction h generalizing zs with
 | nil => obtain rfl := g.unn; exact ⟨rfl, rfl⟩
 | @cons y r ys rs h1 h2 ih =>
  refine e5 g.unc fun z zl e g1 g2 => ?_
  subst e
  refine (ih (fun r hr => ht r (List.mem_cons_of_mem _ hr)) g2).elim fun e1 e2 => ?_
  have q := ht r List.mem_cons_self
  clear ih h2 g2 ht g
  induction r with
  | val v => exact q.elim
  | obj o =>
   refine e4 q fun a b c z101 => ?_
   subst z101
   refine e5 h1 fun i z102 i1 i2 i3 => e5 g1 fun j z103 j1 j2 j3 => ?_
   subst z102
   subst z103
   have li := lt_of_get i2
   have hij : i ≠ j := Nat.ne_of_lt (Nat.lt_of_lt_of_le li (Nat.le_trans hl j1))
   exact ⟨all2 (trio_eq (n := n) hij (kp _ _ rfl i2) j2) e1, all2 (trio_eq (n := n) hij.symm j2 (kp _ _ rfl i2)) e2⟩
theorem list_eq {j : Nat} (h : i ≠ j) (hi : V[i]? = some (.list ys)) (hj : V[j]? = some (.list zs)) (l : ys.length = zs.length) (e : allEq (aeq1 V 4) ys zs = some true) : aeq V (.ref i) (.ref j) = some true := by
 exact aeq_1 (aeq1_ll h hi hj ((if_pos l).trans e))
theorem law_E16 {p : Nat} {w1 w2 : Wc} {Q : AF -> Sg -> Prop} (hS : S V (lawE V.length) V1 [(57, .ref ta), (46, .ref ca), (54, .ref (d2 + 1)), (53, .ref (d1 + 1)), (50, .ref fl), (41, .int (bl : Nat))] [])
  (g1 : Wsx V1 d1 tc1 r1 w1) (k1 : W4 w1 s p t bl) (g2 : Wsx V1 d2 tc2 r2 w2) (k2 : W4 w2 s2 p2 t bl) (hc : V1[ca]? = some (tup s p t)) (ht : V1[ta]? = some (tup s2 p2 t)) (l1 : tc1 < ca) (l2 : tc2 < ta)
  (k : ∀ V2, Keep V1 V2 -> S V (lawE V.length) V2 [(57, .ref ta), (46, .ref ca), (54, .ref (d2 + 1)), (53, .ref (d1 + 1)), (50, .ref fl), (41, .int (bl : Nat))] [] -> Exs 50 (lawE V.length) (flaw_b.drop 17) V2 Q) : Exs 50 (lawE V.length) (flaw_b.drop 16) V1 Q := by
 have h21 := hS.top.len
 refine ex_if (ev_or (norm_cmp (N := 45) hS (by rfl) (by rfl) (by rfl) g1 k1 hc l1 fun V2 K2 => ⟨false, rfl, ?_⟩))
 refine rwR (if_neg (by nofun)) ?_
 have S2 := hS.to K2
 refine norm_cmp (N := 45) S2 (by rfl) (by rfl) (by rfl) (g2.to fun j o _ e => K2.get e) k2 (K2.get ht) l2 fun V3 K3 => ⟨false, rfl, ?_⟩
 refine rwR (if_neg (by nofun)) ?_
 exact ex_nil (k V3 (K2.trans K3) (S2.to K3))
end
noncomputable def colsR (s p t s2 p2 bl : Nat) (l : List Nat) : List Rsl := l.map fun ts : Nat => .obj (.tuple [.int ts, .int (ilV ts s p t bl), .int (ilV ts s2 p2 t bl)])
theorem colsR_trio {p : Nat} {l : List Nat} : ∀ r, r ∈ colsR s p t s2 p2 bl l -> Trio r := fun r hr => by
 refine e3 (List.mem_map.mp hr) fun ts _ z111 => ?_
 subst z111
 exact i4 _ _ _ rfl
theorem law_E17 {p : Nat} {Q : AF -> Sg -> Prop} (hS : S V (lawE V.length) V1 [(57, .ref ta), (46, .ref ca), (54, .ref (d2 + 1)), (53, .ref (d1 + 1)), (50, .ref fl), (41, .int (bl : Nat))] [])
  (hc : V1[ca]? = some (tup s p t)) (ht : V1[ta]? = some (tup s2 p2 t)) (hs : s <= 20) (hp : p <= 20) (h20 : t <= 20) (hs2 : s2 <= 20) (hp2 : p2 <= 20) (hb : bl < 3)
  (k : ∀ V2 cl ys, S V (lawE V.length) V2 [(58, .ref cl), (57, .ref ta), (46, .ref ca), (54, .ref (d2 + 1)), (53, .ref (d1 + 1)), (50, .ref fl), (41, .int (bl : Nat))] [] -> (∀ (j : Nat) (o : AO), plain o = true -> V1[j]? = some o -> V2[j]? = some o) -> V2[cl]? = some (.list ys) -> F2 (Is V2 (cl + 1)) ys (colsR s p t s2 p2 bl [1, 2, 3, 4]) -> Exs 50 (lawE V.length) (flaw_b.drop 18) V2 Q) : Exs 50 (lawE V.length) (flaw_b.drop 17) V1 Q := by
 have h21 := hS.top.len
 have R1 := Keep.app V1 [AO.rng 1 5]
 have S1 := hS.to R1
 refine ex_let (ev_comp (by decide) (ev_call (ev_glo (by rfl) (by rfl) (evs_cons (ev_int (by rfl) (evs_cons (ev_int (by rfl) (evs_nil (cl_bi (range_two (by rfl) (by rfl)) ⟨_, _, fun x => match x with | .int i => some (.obj (.tuple [.int i, .int (ilV i.toNat s p t bl : Nat), .int (ilV i.toNat s2 p2 t bl : Nat)])) | _ => none, [(41, .int (bl : Nat)), (46, .ref ca), (57, .ref ta)], aiter_range (P := Base _) (get_new V1 (.rng 1 5)) (by rfl) (by rfl), by rw [List.length_map, List.length_range]; decide, S1.topN, Fre.of (fm_cons ⟨rfl, S1.get 41 _ (by rfl), .inl rfl⟩ (fm_cons ⟨rfl, S1.get 46 _ (by rfl), .inl rfl⟩ (fm_cons ⟨rfl, S1.get 57 _ (by rfl), .inl rfl⟩ fm_nil))) (by rfl), fun lo cells lw x hx => ?_, fun acc ys V2 K2 ha hy hF => ?_⟩)))))))))
 ·refine e3 (List.mem_map.mp hx) fun i hi z112 => ?_
  subst z112
  have hi : i < 4 := List.mem_range.mp hi
  obtain ⟨ts, hts⟩ : ∃ ts : Nat, ts = 1 + i := ⟨_, rfl⟩
  rw [show (1 : Int) + (i : Int) = ((ts : Nat) : Int) by lia]
  refine BodyC.one rfl rfl fun Va Sa wa => cds_nil ?_
  rw [if_pos rfl]
  refine ev_tuple (by show 3 <= 100; decide) (evs_cons (ev_name (Sa.get 47 _ (by rfl)) (evs_cons (ev_call (ev_glo (by rfl) (by rfl) (evs_cons (ev_name (Sa.get 46 _ (by rfl)) (evs_cons (ev_name (Sa.get 41 _ (by rfl)) (evs_cons (ev_name (Sa.get 47 _ (by rfl)) (evs_nil ((col_run (by decide) Sa.topN (Sa.base (R1.get hc)) hs hp h20 hb (hts ▸ Nat.le_add_right _ _) (by lia)).mono fun v Vb hv => ?_)))))))))))))
  refine e2 hv fun z113 Kb => ?_
  subst z113
  have Sb := Sa.to Kb
  refine evs_cons (ev_call (ev_glo (by rfl) (by rfl) (evs_cons (ev_name (Sb.get 57 _ (by rfl)) (evs_cons (ev_name (Sb.get 41 _ (by rfl)) (evs_cons (ev_name (Sb.get 47 _ (by rfl)) (evs_nil ((col_run (by decide) Sb.topN (Sb.base (R1.get ht)) hs2 hp2 h20 hb (hts ▸ Nat.le_add_right _ _) (by lia)).mono fun v Vc hv => ?_))))))))))
  refine e2 hv fun z114 Kc => ?_
  clear hv
  subst z114
  refine evs_nil ⟨_, rfl, ⟨Vc.length, rfl, ?_, get_new _ _, rfl⟩, (Kb.trans Kc).trans (Keep.app _ _)⟩
  have := Kb.1; have := Kc.1
  lia
 refine ⟨_, _, _, S1.to K2, rfl, fun V3 S3 p3 => k V3 acc ys S3 (fun j o hp e => p3.2 _ _ hp (K2.get (R1.get e))) (p3.2 _ _ rfl hy) (forall2_imp (fun a b e => (p3.px (a := acc)).is (Nat.lt_succ_self _) e) hF)⟩
theorem tup_cmp {p : Nat} (hab : a ≠ b) (ha : V[a]? = some (tup s p t)) (hb : V[b]? = some (tup s2 p2 t2)) : aeq V (.ref a) (.ref b) = some (decide ([1, s, p, t] = [1, s2, p2, t2])) := by
 exact aeq_1 (tup_eq (n := 4) hab ha hb rfl)
theorem body3 {j v1 v2 p : Nat} {q : Str} {tab : Option Nat} {f : AV -> Option Rsl} {q1 q2 q3 q4 q5 q6 q7 q8 q9 q10 q11 : Pos} (hne : ca ≠ ta) (hc : V1[ca]? = some (tup s p t)) (ht : V1[ta]? = some (tup s2 p2 t2)) (hj : V1[j]? = some (.tuple [.int a, .int v1, .int v2]))
  (hf : f (.ref j) = if decide ([1, s, p, t] = [1, s2, p2, t2]) then some (.obj (.tuple [.int a, .int v2, .int v1])) else none) : BodyC (n + 3) ⟨[(103, .loc), (47, .loc), (82, .loc), (80, .loc), (46, .fre), (57, .fre)], l, cells, q, tab⟩ [(47, q1), (82, q2), (80, q3)] (some q4) [.cmp (.name 46 q5) .Eq (.name 57 q6) q7] (.tuple [.name 47 q8, .name 80 q9, .name 82 q10] q11) V1 [(46, .ref ca), (57, .ref ta)] lo f (.ref j) := by
 intro V hS hlo
 refine e5 (setEach3 (x := 47) (y := 82) (z := 80) (q := q1) (p := q2) (r := q3) (u := .int a) (v := .int v1) (w := .int v2) hS rfl rfl rfl) fun Va ea Sa pa fa => ?_
 have le : ∀ x w, look x [(46, AV.ref ca), (57, AV.ref ta)] = some w -> look x [(80, AV.int v2), (82, AV.int v1), (47, AV.int a), (46, AV.ref ca), (57, AV.ref ta)] = some w := fun x w e => by
  have h1 : 80 ≠ x := fun q => by subst q; cases e
  have h2 : 82 ≠ x := fun q => by subst q; cases e
  have h3 : 47 ≠ x := fun q => by subst q; cases e
  exact (look_skip h1).trans ((look_skip h2).trans ((look_skip h3).trans e))
 refine i3 Va (by unfold assignTo; dsimp only; unfold unpackA; dsimp only; rw [hS.base hj]; exact ea) ?_
 refine cds_cons (ev_cmp (ev_name (Sa.get 46 _ (by rfl)) (ev_name (Sa.get 57 _ (by rfl)) ⟨_, tup_cmp hne (Sa.base hc) (Sa.base ht), _, rfl, ?_⟩)))
 cases hb : decide ([1, s, p, t] = [1, s2, p2, t2]) with
 | false =>
  rw [hb] at hf
  refine rwR (if_neg (by nofun)) ?_
  refine rwR (if_neg (by nofun)) ?_
  exact i3 hf (Sa.less le) pa
 | true =>
  rw [hb] at hf
  refine rwR (if_pos rfl) ?_
  refine cds_nil ?_
  refine rwR (if_pos rfl) ?_
  refine ev_tuple (by show 3 <= 100; decide) (evs_cons (ev_name (Sa.get 47 _ (by rfl)) (evs_cons (ev_name (Sa.get 80 _ (by rfl)) (evs_cons (ev_name (Sa.get 82 _ (by rfl)) (evs_nil ⟨_, hf, ⟨Va.length, rfl, Nat.le_trans hlo pa.1, get_new _ _, rfl⟩, (Sa.to (Keep.app _ _)).less le, pa.trans (Keep.app _ _).pl⟩)))))))
section
theorem nlwR_all {p : Nat} (G : ∀ ts, ts ∈ [1, 2, 3, 4] -> ilV ts s2 p2 t bl <= ilV ts s p t bl) : nlwR s p t s2 p2 t bl [1, 2, 3, 4] = colsR s p t s2 p2 bl [1, 2, 3, 4] := by
 unfold nlwR colsR
 rw [List.filter_eq_self.mpr fun ts h => decide_eq_true (G ts h)]
theorem nlwR_none {p : Nat} (G : ∀ ts, ts ∈ [1, 2, 3, 4] -> ilV ts s p t bl < ilV ts s2 p2 t bl) : nlwR s p t s2 p2 t bl [1, 2, 3, 4] = [] := by
 unfold nlwR
 rw [List.filter_eq_nil_iff.mpr fun ts h => by rw [decide_eq_true_iff]; exact Nat.not_le.mpr (G ts h)]; rfl
theorem nofm : ∀ l : List AV, l.filterMap (fun _ => (none : Option Rsl)) = []
 | [] => rfl
 | a :: l => by rw [List.filterMap_cons]; exact nofm l
section
variable {V V1 : Sg} {bl fl ca ta cl d1 tc1 d2 tc2 s p t s2 p2 : Nat} {r1 r2 : Str} {w1 w2 : Wc} {ys : List AV} {Q : AF -> Sg -> Prop}
theorem law_E18 (hS : S V (lawE V.length) V1 [(58, .ref cl), (57, .ref ta), (46, .ref ca), (54, .ref (d2 + 1)), (53, .ref (d1 + 1)), (50, .ref fl), (41, .int (bl : Nat))] [])
  (g1 : Wsx V1 d1 tc1 r1 w1) (k1 : W4 w1 s p t bl) (g2 : Wsx V1 d2 tc2 r2 w2) (k2 : W4 w2 s2 p2 t bl) (hc : V1[ca]? = some (tup s p t)) (ht : V1[ta]? = some (tup s2 p2 t)) (hne : ca ≠ ta) (h12 : tc1 + 1 < tc2) (hcl : V1[cl]? = some (.list ys)) (hF : F2 (Is V1 (cl + 1)) ys (colsR s p t s2 p2 bl [1, 2, 3, 4]))
  (G : ∀ ts, ts ∈ [1, 2, 3, 4] -> ilV ts s2 p2 t bl <= ilV ts s p t bl)
  (k : ∀ V2, Keep V1 V2 -> S V (lawE V.length) V2 [(58, .ref cl), (57, .ref ta), (46, .ref ca), (54, .ref (d2 + 1)), (53, .ref (d1 + 1)), (50, .ref fl), (41, .int (bl : Nat))] [] -> Exs 50 (lawE V.length) (flaw_b.drop 19) V2 Q) : Exs 50 (lawE V.length) (flaw_b.drop 18) V1 Q := by
 have h21 := hS.top.len
 refine ex_if (ev_or (ev_cmp (meth1_ev (a := 17) (by decide) (by decide) hS (by rfl) (by rfl) g1 (by rfl) ((nlw_run (by decide) hS.topN g1 k1 g2 k2).mono fun v V2 hv => ?_))))
 obtain ⟨K2, j, zs, rfl, hj, hjs, hG⟩ := hv
 rw [nlwR_all G] at hG
 have S2 := hS.to K2
 have lc := lt_of_get hcl
 have e2 := (rows_eq (n := 3) (show V1.length <= j + 1 by lia) (fun j o _ e => K2.get e) colsR_trio hF hG).2
 refine ev_name (S2.get 58 _ (by rfl)) ⟨false, ?_, false, rfl, ?_⟩
 ·rw [cmp_ne, list_eq (Nat.ne_of_gt (Nat.lt_of_lt_of_le lc hj)) hjs (K2.get hcl) ((forall2_len hG).trans (forall2_len hF).symm) e2]; rfl
 rw [if_neg (by nofun)]
 refine ev_cmp (meth1_ev (a := 15) (by decide) (by decide) S2 (by rfl) (by rfl) (g1.to fun j o _ e => K2.get e) (by rfl) ((eq_run (by decide) S2.topN (g1.to fun j o _ e => K2.get e) k1 (g2.to fun j o _ e => K2.get e) k2 h12).mono fun v V3 hv => ?_))
 obtain ⟨K3, rfl⟩ := hv
 have S3 := S2.to K3
 refine ev_cmp (ev_name (S3.get 46 _ (by rfl)) (ev_name (S3.get 57 _ (by rfl)) ⟨_, tup_cmp hne (K3.get (K2.get hc)) (K3.get (K2.get ht)), false, ?_, false, rfl, ?_⟩))
 ·refine (?_ : some (!(decide ([1, s, p, t] = [1, s2, p2, t]) == decide ([1, s, p, t] = [1, s2, p2, t]))) = _)
  rw [beq_self_eq_true]; rfl
 rw [if_neg (by nofun)]
 exact ex_nil (k V3 (K2.trans K3) S3)
noncomputable def rowOf (V : Sg) : AV -> Option Rsl
 | .ref j => (V[j]?).map Rsl.obj
 | _ => none
theorem rows_fm {rs : List Rsl} (ht : ∀ r, r ∈ rs -> Trio r) (h : F2 (Is V lo) ys rs) : ys.filterMap (rowOf V) = rs := by
 induction h with
 | nil => rfl
 | @cons y r ys rs h1 h2 ih =>
  have ih := ih fun r hr => ht r (List.mem_cons_of_mem _ hr)
  have q := ht r List.mem_cons_self
  clear h2 ht
  induction r with
  | val v => exact q.elim
  | obj o =>
   refine e5 h1 fun j z117 j1 j2 j3 => ?_
   subst z117
   have e : rowOf V (.ref j) = some (.obj o) := congrArg (Option.map Rsl.obj) j2
   exact (List.filterMap_cons_some e).trans (congrArg _ ih)
theorem law_E19 (hS : S V (lawE V.length) V1 [(58, .ref cl), (57, .ref ta), (46, .ref ca), (54, .ref (d2 + 1)), (53, .ref (d1 + 1)), (50, .ref fl), (41, .int (bl : Nat))] [])
  (g1 : Wsx V1 d1 tc1 r1 w1) (k1 : W4 w1 s p t bl) (g2 : Wsx V1 d2 tc2 r2 w2) (k2 : W4 w2 s2 p2 t bl) (hc : V1[ca]? = some (tup s p t)) (ht : V1[ta]? = some (tup s2 p2 t)) (hne : ca ≠ ta) (hcl : V1[cl]? = some (.list ys)) (hF : F2 (Is V1 (cl + 1)) ys (colsR s p t s2 p2 bl [1, 2, 3, 4]))
  (hL : lessB w2.n s2 p2 t w1.n s p t bl = !decide ([1, s, p, t] = [1, s2, p2, t])) (G : ¬ [1, s, p, t] = [1, s2, p2, t] -> ∀ ts, ts ∈ [1, 2, 3, 4] -> ilV ts s2 p2 t bl < ilV ts s p t bl)
  (q : ∀ V2, Keep V1 V2 -> Q (.ret (.bool true)) V2) : Exs 50 (lawE V.length) (flaw_b.drop 19) V1 Q := by
 have h21 := hS.top.len
 refine ex_ret (ev_and (ev_cmp (meth1_ev (a := 16) (by decide) (by decide) hS (by rfl) (by rfl) g2 (by rfl) ((less_run (by decide) hS.topN g2 k2 g1 k1).mono fun v V2 hv => ?_))))
 refine e2 hv fun K2 z118 => ?_
 subst z118
 have S2 := hS.to K2
 have ec := tup_cmp hne (K2.get hc) (K2.get ht)
 refine ev_cmp (ev_name (S2.get 46 _ (by rfl)) (ev_name (S2.get 57 _ (by rfl)) ⟨!decide ([1, s, p, t] = [1, s2, p2, t]), by rw [cmp_ne, ec]; rfl, true, ?_, true, rfl, ?_⟩))
 ·rw [hL]
  refine (?_ : some ((!decide ([1, s, p, t] = [1, s2, p2, t])) == !decide ([1, s, p, t] = [1, s2, p2, t])) = _)
  rw [beq_self_eq_true]
 rw [if_pos rfl]
 refine ev_cmp (meth1_ev (a := 17) (by decide) (by decide) S2 (by rfl) (by rfl) (g2.to fun j o _ e => K2.get e) (by rfl) ((nlw_run (by decide) S2.topN (g2.to fun j o _ e => K2.get e) k2 (g1.to fun j o _ e => K2.get e) k1).mono fun v V3 hv => ?_))
 obtain ⟨K3, j, zs, rfl, hj, hjs, hG⟩ := hv
 have S3 := S2.to K3
 have K13 := K2.trans K3
 have hF3 : F2 (Is V3 (cl + 1)) ys (colsR s p t s2 p2 bl [1, 2, 3, 4]) := forall2_imp (fun a b e => (K13.pl.px (a := cl)).is (Nat.lt_succ_self _) e) hF
 have hcl3 := K13.get hcl
 have ly : ys.length = 4 := forall2_len hF
 have fin : ∀ rs : List Rsl, (∀ r, r ∈ rs -> Trio r) -> nlwR s2 p2 t s p t bl [1, 2, 3, 4] = rs -> ∀ (acc : Nat) (us : List AV) (V' : Sg), Keep V3 V' -> V3.length <= acc -> V'[acc]? = some (.list us) -> F2 (Is V' (acc + 1)) us rs -> O1 (cmp .Eq (.ref j) (.ref acc) V') fun b => Q (.ret (.bool b)) V' := by
  intro rs hT e acc us V' K' ha hu hU
  rw [e] at hG
  have lj := lt_of_get hjs
  have e2 := (rows_eq (n := 3) (show V3.length <= acc + 1 by lia) (fun j o _ e => K'.get e) hT hG hU).1
  exact ⟨true, list_eq (Nat.ne_of_lt (Nat.lt_of_lt_of_le lj ha)) (K'.get hjs) hu ((forall2_len hG).trans (forall2_len hU).symm) e2, q V' (K13.trans K')⟩
 have rows : ∀ x, x ∈ ys -> ∃ jx a v1 v2 : Nat, x = .ref jx /\ V3[jx]? = some (.tuple [.int a, .int v1, .int v2]) /\ ([1, s, p, t] = [1, s2, p2, t] -> v1 = v2) := by
  intro x hx
  have gen : ∀ (l : List Nat) (ys : List AV), F2 (Is V3 (cl + 1)) ys (colsR s p t s2 p2 bl l) -> ∀ x, x ∈ ys -> ∃ jx a v1 v2 : Nat, x = .ref jx /\ V3[jx]? = some (.tuple [.int a, .int v1, .int v2]) /\ ([1, s, p, t] = [1, s2, p2, t] -> v1 = v2) := by
   intro l
   induction l with
   | nil => intro ys h x hx; cases h; cases hx
   | cons ts l ih =>
    intro ys h x hx
    cases h with
    | cons h1 h2 =>
     rcases List.mem_cons.mp hx with rfl | hx
     ·refine e5 h1 fun jx z120 _ j2 _ => ?_
      subst z120
      exact ⟨jx, ts, _, _, rfl, j2, fun e => by injection e with _ e; injection e with e1 e; injection e with e2 e; rw [e1, e2]⟩
     ·exact ih _ h2 x hx
  exact gen _ _ hF3 x hx
 refine ev_comp (by decide) (ev_name (S3.get 58 _ (by rfl)) ?_)
 by_cases c : [1, s, p, t] = [1, s2, p2, t]
 ·have e1 : s2 = s /\ p2 = p := by injection c with _ e; injection e with e1 e; injection e with e2 e; exact ⟨e1.symm, e2.symm⟩
  refine e2 e1 fun z121 z122 => ?_
  subst z121
  subst z122
  refine ⟨_, _, rowOf V3, [(46, .ref ca), (57, .ref ta)], aiter_list hcl3, (ly ▸ (by decide)), S3.topN, Fre.of (fm_cons ⟨rfl, S3.get 46 _ (by rfl), .inl rfl⟩ (fm_cons ⟨rfl, S3.get 57 _ (by rfl), .inl rfl⟩ fm_nil)) (by rfl), fun lo cells lw x hx => ?_, fun acc us V' K' ha hu hU => ?_⟩
  ·refine e7 (rows x hx) fun jx a v1 v2 z123 j2 ev => ?_
   subst z123
   have ev := ev c
   subst ev
   refine body3 hne (K13.get hc) (K13.get ht) j2 ?_
   rw [if_pos (decide_eq_true c)]
   refine (?_ : (V3[jx]?).map Rsl.obj = _)
   rw [j2]; rfl
  ·rw [rows_fm colsR_trio hF3] at hU
   exact fin _ colsR_trio (nlwR_all fun ts _ => Nat.le_refl _) acc us V' K' ha hu hU
 ·refine ⟨_, _, fun x => none, [(46, .ref ca), (57, .ref ta)], aiter_list hcl3, (ly ▸ (by decide)), S3.topN, Fre.of (fm_cons ⟨rfl, S3.get 46 _ (by rfl), .inl rfl⟩ (fm_cons ⟨rfl, S3.get 57 _ (by rfl), .inl rfl⟩ fm_nil)) (by rfl), fun lo cells lw x hx => ?_, fun acc us V' K' ha hu hU => ?_⟩
  ·refine e7 (rows x hx) fun jx a v1 v2 z124 j2 ev => ?_
   subst z124
   refine body3 hne (K13.get hc) (K13.get ht) j2 ?_
   rw [if_neg (by rw [decide_eq_true_iff]; exact c)]
  ·rw [nofm ys] at hU
   exact fin [] (fun r hr => by cases hr) (nlwR_none (G c)) acc us V' K' ha hu hU
end
end
theorem pop_mono {k : Nat} (h : ∀ i, a.testBit i = true -> b.testBit i = true) : pop k a <= pop k b := by
 unfold pop
 rw [<- List.countP_eq_length_filter, <- List.countP_eq_length_filter]
 exact List.countP_mono_left fun i _ e => h i e
noncomputable def okT (a b sm pm : Nat) : Bool := Nat.ble a (pop 6 sm) && Nat.ble b (pop 15 pm)
noncomputable def chkT (a b : Nat) : List (Nat × Nat) -> Nat -> Nat -> Nat -> Bool
 | _, 0, sm, pm => okT a b sm pm
 | [], _ + 1, _, _ => true
 | x :: r, k + 1, sm, pm => chkT a b r (k + 1) sm pm && (okT a b (sm ||| x.1) (pm ||| x.2) || chkT a b r k (sm ||| x.1) (pm ||| x.2))
theorem okT_mono {sm pm : Nat} {S : List (Nat × Nat)} (h : okT a b sm pm = true) : okT a b (S.foldl (fun a x => a ||| x.1) sm) (S.foldl (fun a x => a ||| x.2) pm) = true := by
 unfold okT at h ⊢
 rw [Bool.and_eq_true] at h ⊢
 refine ⟨Nat.ble_eq.mpr (Nat.le_trans (Nat.ble_eq.mp h.1) (pop_mono fun i e => ?_)), Nat.ble_eq.mpr (Nat.le_trans (Nat.ble_eq.mp h.2) (pop_mono fun i e => ?_))⟩
 ·rw [fold_bit (fun x => x.1), e, Bool.true_or]
 ·rw [fold_bit (fun x => x.2), e, Bool.true_or]
theorem chkT_sub : ∀ {L : List (Nat × Nat)} {k sm pm : Nat} {S : List (Nat × Nat)}, chkT a b L k sm pm = true -> S.Sublist L -> S.length = k -> okT a b (S.foldl (fun a x => a ||| x.1) sm) (S.foldl (fun a x => a ||| x.2) pm) = true := by
 intro L
 induction L with
 | nil =>
  intro k sm pm S h hs hl
  have : S = [] := List.sublist_nil.mp hs
  subst this
  subst hl
  exact h
 | cons x r ih =>
  intro k sm pm S h hs hl
  induction k with
  | zero =>
   have : S = [] := List.length_eq_zero_iff.mp hl
   refine rwR this ?_
   exact h
  | succ k =>
   have h : (chkT a b r (k + 1) sm pm && (okT a b (sm ||| x.1) (pm ||| x.2) || chkT a b r k (sm ||| x.1) (pm ||| x.2))) = true := h
   rw [Bool.and_eq_true, Bool.or_eq_true] at h
   cases hs with
   | cons _ hs => exact ih h.1 hs hl
   | cons_cons _ hs =>
    rw [List.length_cons] at hl
    refine rwR List.foldl_cons ?_
    refine rwR List.foldl_cons ?_
    rcases h.2 with h2 | h2
    ·exact okT_mono h2
    ·exact ih h2 hs (by lia)
noncomputable def loSt (t : Nat) : Nat := [0, 3, 4, 4, 4, 5].getD t 0
noncomputable def loPt (t : Nat) : Nat := [0, 3, 5, 6, 6, 8].getD t 0
theorem chk1 : chkT 3 3 PT 1 0 0 = true := by decide +kernel
theorem chk2 : chkT 4 5 PT 2 0 0 = true := by decide +kernel
theorem chk3 : chkT 4 6 PT 3 0 0 = true := by decide +kernel
theorem chk4 : chkT 4 6 PT 4 0 0 = true := by decide +kernel
theorem chk5 : chkT 5 8 PT 5 0 0 = true := by decide +kernel
theorem chk_lo {S : List (Nat × Nat)} (h : chkT a b PT S.length 0 0 = true) (hs : S.Sublist PT) : a <= (singlesOf (S.map (·.1))).length /\ b <= (pairsOf (S.map (·.1))).length := by
 have := chkT_sub h hs rfl
 unfold okT at this
 rw [Bool.and_eq_true, pop_singles, pop_pairs (fun x hx => hs.subset hx)] at this
 exact ⟨Nat.le_of_ble_eq_true this.1, Nat.le_of_ble_eq_true this.2⟩
theorem fam_lo {S : List (Nat × Nat)} (hs : S.Sublist PT) (h0 : S ≠ []) (h5 : S.length <= 5) : loSt S.length <= (singlesOf (S.map (·.1))).length /\ loPt S.length <= (pairsOf (S.map (·.1))).length := by
 have h1 := List.length_pos_iff.mpr h0
 have : S.length = 1 \/ S.length = 2 \/ S.length = 3 \/ S.length = 4 \/ S.length = 5 := (or15 h1 h5)
 rcases this with e | e | e | e | e
 ·have k := chk_lo (S := S) (by rw [e]; exact chk1) hs
  rw [e]; exact k
 ·have k := chk_lo (S := S) (by rw [e]; exact chk2) hs
  refine rwR e ?_
  exact k
 ·have k := chk_lo (S := S) (by rw [e]; exact chk3) hs
  refine rwR e ?_
  exact k
 ·have k := chk_lo (S := S) (by rw [e]; exact chk4) hs
  refine rwR e ?_
  exact k
 ·have k := chk_lo (S := S) (by rw [e]; exact chk5) hs
  refine rwR e ?_
  exact k
theorem singles_le (fam : List Nat) : (singlesOf fam).length <= 6 := List.length_filter_le _ _
theorem pairs_le (fam : List Nat) : (pairsOf fam).length <= 15 := List.length_filter_le _ _
noncomputable def loS (t : Nat) : Nat := (singlesOf (T20.take t)).length
noncomputable def loP (t : Nat) : Nat := (pairsOf (T20.take t)).length
theorem lo_eq : ∀ t, t ∈ [1, 2, 3, 4, 5] -> loS t = loSt t /\ loP t = loPt t /\ loS t <= 20 /\ loP t <= 20 := by decide +kernel
theorem ilV_le {p : Nat} (hs : s2 <= s) (hp : p2 <= p) : ∀ ts, ts ∈ [1, 2, 3, 4] -> ilV ts s2 p2 t bl <= ilV ts s p t bl := by
 intro ts h
 have : ts = 1 \/ ts = 2 \/ ts = 3 \/ ts = 4 := by simpa using h
 rcases this with rfl | rfl | rfl | rfl <;> simp [ilV, ilS, ilF, List.range', List.getD] <;> lia
theorem ilV_lt {p : Nat} (hs : s2 <= s) (hp : p2 <= p) (h : ¬ (s2 = s /\ p2 = p)) : ∀ ts, ts ∈ [1, 2, 3, 4] -> ilV ts s2 p2 t bl < ilV ts s p t bl := by
 intro ts h
 have : ts = 1 \/ ts = 2 \/ ts = 3 \/ ts = 4 := by simpa using h
 rcases this with rfl | rfl | rfl | rfl <;> simp [ilV, ilS, ilF, List.range', List.getD] <;> lia
theorem lessB_eq {p : Nat} (hs : s2 <= s) (hp : p2 <= p) : lessB (1 + 2 * s2 + 3 * p2 + 4 * t + bl) s2 p2 t (1 + 2 * s + 3 * p + 4 * t + bl) s p t bl = !decide ([1, s, p, t] = [1, s2, p2, t]) := by
 unfold lessB
 by_cases h : s2 = s /\ p2 = p
 ·refine e2 h fun z125 z126 => ?_
  subst z125
  subst z126
  refine rwR (decide_eq_true (Nat.le_refl _)) ?_
  refine rwR (decide_eq_true rfl) ?_
  rfl
 ·refine rwR (decide_eq_false (show ¬ (1 + 2 * s + 3 * p + 4 * t + bl <= 1 + 2 * s2 + 3 * p2 + 4 * t + bl) by lia)) ?_
  refine rwR (decide_eq_false (fun e => h (by injection e with _ e; injection e with e1 e; injection e with e2 e; exact ⟨e1.symm, e2.symm⟩))) ?_
  have k := ilV_lt (t := t) (bl := bl) hs hp h
  refine rwR (List.all_eq_true.mpr fun ts hts => decide_eq_true (k ts (List.mem_cons_of_mem _ hts))) ?_
  rfl
theorem law_holds : LawHolds := by
 intro xs hx
 have T : Top (sgL ++ [.list (xs.map .int)]) := ⟨by rw [List.length_append]; show 20 + 1 >= 21; decide, fun i hi => List.getElem?_append_left hi⟩
 have hl : (sgL ++ [AO.list (xs.map .int)])[20]? = some (.list (xs.map .int)) := get_new sgL _
 generalize sgL ++ [AO.list (xs.map .int)] = V at T hl
 have h : Cl 51 (.ref 11) [.ref 20] V fun v _ => v = .bool true := law_enter T fun V1 hS => law_A T hl hx hS fun V2 B bl fl tl fam hB hbl hfam S2 hfl htl _ _ => law_B hB hbl hfam S2 hfl htl fun V3 fr tr d1 tc1 d2 tc2 s1 s2 S3 hfl3 hfr3 ht3 hx3 hd g1 hlt g2 => law_C hfam S3 hfl3 fun V4 ca S4 p4 hca hc => law_D hB hfam S4 (p4 _ _ rfl hfl3) (p4 _ _ rfl hfr3) ht3 (fun x hx => p4 _ _ rfl (hx3 x hx)) fun V5 ta S5 p5 hta ht => by
  have hc5 := p5 _ _ rfl hc
  have lc := lt_of_get hc
  have l1 := lt_of_get g1.c
  have l2 := lt_of_get g2.c
  have e2 := g2.lt
  have g1 := g1.to fun j o hp e => p5 j o hp (p4 j o hp e)
  have g2 := g2.to fun j o hp e => p5 j o hp (p4 j o hp e)
  refine e5 hfam fun Sf hs h0 h5 z127 => ?_
  subst z127
  have fl := fam_lo hs h0 h5
  have h1 := List.length_pos_iff.mpr h0
  have c1 := singles_le (Sf.map (·.1))
  have c2 := pairs_le (Sf.map (·.1))
  rw [List.length_map] at g2 hc hc5 ht
  obtain ⟨e1, e3, d1', d2'⟩ := lo_eq Sf.length (by
   have : Sf.length = 1 \/ Sf.length = 2 \/ Sf.length = 3 \/ Sf.length = 4 \/ Sf.length = 5 := (or15 h1 h5)
   simpa using this)
  rw [<- e1, <- e3] at fl
  have lT : (T20.take Sf.length).length = Sf.length := by rw [List.length_take]; show min _ 20 = _; lia
  have k1 : W4 (wF (Sf.map (·.1)) bl) (singlesOf (Sf.map (·.1))).length (pairsOf (Sf.map (·.1))).length Sf.length bl := ⟨by unfold wF; rw [List.length_map], rfl, by unfold wF; rw [List.length_map], by unfold wF; rw [List.length_map], (Nat.le_trans c1 (by decide)), (Nat.le_trans c2 (by decide)), (Nat.le_trans h5 (by decide)), hbl⟩
  have k2 : W4 (wF (T20.take Sf.length) bl) (loS Sf.length) (loP Sf.length) Sf.length bl := ⟨by unfold wF; rw [lT]; rfl, rfl, by unfold wF; rw [lT]; rfl, by unfold wF; rw [lT]; rfl, d1', d2', (Nat.le_trans h5 (by decide)), hbl⟩
  have ht : V5[ta]? = some (tup (loS Sf.length) (loP Sf.length) Sf.length) := ht
  refine law_E16 S5 g1 k1 g2 k2 hc5 ht (Nat.lt_of_lt_of_le l1 hca) (by lia) fun V6 K6 S6 => ?_
  refine law_E17 S6 (K6.get hc5) (K6.get ht) (Nat.le_trans c1 (by decide)) (Nat.le_trans c2 (by decide)) (Nat.le_trans h5 (by decide)) d1' d2' hbl fun V7 cl ys S7 p7 hcl hF => ?_
  have P7 : ∀ (j : Nat) (o : AO), plain o = true -> V5[j]? = some o -> V7[j]? = some o := fun j o hp e => p7 j o hp (K6.get e)
  refine law_E18 S7 (g1.to P7) k1 (g2.to P7) k2 (P7 _ _ rfl hc5) (P7 _ _ rfl ht) (Nat.ne_of_lt (Nat.lt_of_lt_of_le lc hta)) (by lia) hcl hF (ilV_le fl.1 fl.2) fun V8 K8 S8 => ?_
  have P8 : ∀ (j : Nat) (o : AO), plain o = true -> V5[j]? = some o -> V8[j]? = some o := fun j o hp e => K8.get (P7 j o hp e)
  exact law_E19 S8 (g1.to P8) k1 (g2.to P8) k2 (P8 _ _ rfl hc5) (P8 _ _ rfl ht) (Nat.ne_of_lt (Nat.lt_of_lt_of_le lc hta)) (K8.get hcl) (forall2_imp (fun a b e => (K8.pl.px (a := cl)).is (Nat.lt_succ_self _) e) hF) (by rw [k1.n, k2.n]; exact lessB_eq fl.1 fl.2) (fun ne => ilV_lt fl.1 fl.2 fun e => ne (by rw [e.1, e.2])) fun V9 _ => rfl
 refine N2.e4 h.out fun v V' e z270 => ?_
 subst z270
 exact ⟨V', (lvO_fn (fi := flaw) (fn_at T (by decide) rfl)).symm.trans e⟩
end Mine
theorem PySem.Challenge.cw_uy0007_01_holds : PySem.Challenge.rw_uy0007_01.Holds :=
 Mine.holds_of Mine.law_holds
