import PyProof.Rows.All
import Wide.All
import OpenK.AllK
import Wide.FinOn
import KE.BitLaws
import Lean
import PySem.Challenge.RW_pk0098_01
open PySem PySem.W PyProof.Rows PySem.Calls
set_option Elab.async false
set_option linter.all false
set_option linter.unusedVariables false
set_option maxRecDepth 100000
set_option compiler.extract_closed false
namespace Mine
open Builtin.Int (intBits)
theorem el_0_2 {A0 A1 : Prop} {G : Prop} (h : A0 ∧ A1) (k : A0 → A1 → G) : G := k h.1 h.2
theorem el_0_3 {A0 A1 A2 : Prop} {G : Prop} (h : A0 ∧ A1 ∧ A2) (k : A0 → A1 → A2 → G) : G := k h.1 h.2.1 h.2.2
theorem el_0_4 {A0 A1 A2 A3 : Prop} {G : Prop} (h : A0 ∧ A1 ∧ A2 ∧ A3) (k : A0 → A1 → A2 → A3 → G) : G := k h.1 h.2.1 h.2.2.1 h.2.2.2
theorem el_0_5 {A0 A1 A2 A3 A4 : Prop} {G : Prop} (h : A0 ∧ A1 ∧ A2 ∧ A3 ∧ A4) (k : A0 → A1 → A2 → A3 → A4 → G) : G := k h.1 h.2.1 h.2.2.1 h.2.2.2.1 h.2.2.2.2
theorem el_0_6 {A0 A1 A2 A3 A4 A5 : Prop} {G : Prop} (h : A0 ∧ A1 ∧ A2 ∧ A3 ∧ A4 ∧ A5) (k : A0 → A1 → A2 → A3 → A4 → A5 → G) : G := k h.1 h.2.1 h.2.2.1 h.2.2.2.1 h.2.2.2.2.1 h.2.2.2.2.2
theorem el_0_7 {A0 A1 A2 A3 A4 A5 A6 : Prop} {G : Prop} (h : A0 ∧ A1 ∧ A2 ∧ A3 ∧ A4 ∧ A5 ∧ A6) (k : A0 → A1 → A2 → A3 → A4 → A5 → A6 → G) : G := k h.1 h.2.1 h.2.2.1 h.2.2.2.1 h.2.2.2.2.1 h.2.2.2.2.2.1 h.2.2.2.2.2.2
theorem el_0_8 {A0 A1 A2 A3 A4 A5 A6 A7 : Prop} {G : Prop} (h : A0 ∧ A1 ∧ A2 ∧ A3 ∧ A4 ∧ A5 ∧ A6 ∧ A7) (k : A0 → A1 → A2 → A3 → A4 → A5 → A6 → A7 → G) : G := k h.1 h.2.1 h.2.2.1 h.2.2.2.1 h.2.2.2.2.1 h.2.2.2.2.2.1 h.2.2.2.2.2.2.1 h.2.2.2.2.2.2.2
theorem el_1_1 {α0 : Sort _} {A0 : α0 → Prop} {G : Prop} (h : ∃ x0, A0 x0) (k : ∀ x0, A0 x0 → G) : G := h.elim k
theorem el_1_2 {α0 : Sort _} {A0 A1 : α0 → Prop} {G : Prop} (h : ∃ x0, A0 x0 ∧ A1 x0) (k : ∀ x0, A0 x0 → A1 x0 → G) : G := h.elim fun x h => el_0_2 h (k x)
theorem el_1_3 {α0 : Sort _} {A0 A1 A2 : α0 → Prop} {G : Prop} (h : ∃ x0, A0 x0 ∧ A1 x0 ∧ A2 x0) (k : ∀ x0, A0 x0 → A1 x0 → A2 x0 → G) : G := h.elim fun x h => el_0_3 h (k x)
theorem el_1_4 {α0 : Sort _} {A0 A1 A2 A3 : α0 → Prop} {G : Prop} (h : ∃ x0, A0 x0 ∧ A1 x0 ∧ A2 x0 ∧ A3 x0) (k : ∀ x0, A0 x0 → A1 x0 → A2 x0 → A3 x0 → G) : G := h.elim fun x h => el_0_4 h (k x)
theorem el_1_5 {α0 : Sort _} {A0 A1 A2 A3 A4 : α0 → Prop} {G : Prop} (h : ∃ x0, A0 x0 ∧ A1 x0 ∧ A2 x0 ∧ A3 x0 ∧ A4 x0) (k : ∀ x0, A0 x0 → A1 x0 → A2 x0 → A3 x0 → A4 x0 → G) : G := h.elim fun x h => el_0_5 h (k x)
theorem el_1_6 {α0 : Sort _} {A0 A1 A2 A3 A4 A5 : α0 → Prop} {G : Prop} (h : ∃ x0, A0 x0 ∧ A1 x0 ∧ A2 x0 ∧ A3 x0 ∧ A4 x0 ∧ A5 x0) (k : ∀ x0, A0 x0 → A1 x0 → A2 x0 → A3 x0 → A4 x0 → A5 x0 → G) : G := h.elim fun x h => el_0_6 h (k x)
theorem el_1_7 {α0 : Sort _} {A0 A1 A2 A3 A4 A5 A6 : α0 → Prop} {G : Prop} (h : ∃ x0, A0 x0 ∧ A1 x0 ∧ A2 x0 ∧ A3 x0 ∧ A4 x0 ∧ A5 x0 ∧ A6 x0) (k : ∀ x0, A0 x0 → A1 x0 → A2 x0 → A3 x0 → A4 x0 → A5 x0 → A6 x0 → G) : G := h.elim fun x h => el_0_7 h (k x)
theorem el_1_8 {α0 : Sort _} {A0 A1 A2 A3 A4 A5 A6 A7 : α0 → Prop} {G : Prop} (h : ∃ x0, A0 x0 ∧ A1 x0 ∧ A2 x0 ∧ A3 x0 ∧ A4 x0 ∧ A5 x0 ∧ A6 x0 ∧ A7 x0) (k : ∀ x0, A0 x0 → A1 x0 → A2 x0 → A3 x0 → A4 x0 → A5 x0 → A6 x0 → A7 x0 → G) : G := h.elim fun x h => el_0_8 h (k x)
theorem el_2_1 {α0 α1 : Sort _} {A0 : α0 → α1 → Prop} {G : Prop} (h : ∃ x0, ∃ x1, A0 x0 x1) (k : ∀ x0 x1, A0 x0 x1 → G) : G := h.elim fun x h => el_1_1 h (k x)
theorem el_2_2 {α0 α1 : Sort _} {A0 A1 : α0 → α1 → Prop} {G : Prop} (h : ∃ x0, ∃ x1, A0 x0 x1 ∧ A1 x0 x1) (k : ∀ x0 x1, A0 x0 x1 → A1 x0 x1 → G) : G := h.elim fun x h => el_1_2 h (k x)
theorem el_2_3 {α0 α1 : Sort _} {A0 A1 A2 : α0 → α1 → Prop} {G : Prop} (h : ∃ x0, ∃ x1, A0 x0 x1 ∧ A1 x0 x1 ∧ A2 x0 x1) (k : ∀ x0 x1, A0 x0 x1 → A1 x0 x1 → A2 x0 x1 → G) : G := h.elim fun x h => el_1_3 h (k x)
theorem el_2_4 {α0 α1 : Sort _} {A0 A1 A2 A3 : α0 → α1 → Prop} {G : Prop} (h : ∃ x0, ∃ x1, A0 x0 x1 ∧ A1 x0 x1 ∧ A2 x0 x1 ∧ A3 x0 x1) (k : ∀ x0 x1, A0 x0 x1 → A1 x0 x1 → A2 x0 x1 → A3 x0 x1 → G) : G := h.elim fun x h => el_1_4 h (k x)
theorem el_2_5 {α0 α1 : Sort _} {A0 A1 A2 A3 A4 : α0 → α1 → Prop} {G : Prop} (h : ∃ x0, ∃ x1, A0 x0 x1 ∧ A1 x0 x1 ∧ A2 x0 x1 ∧ A3 x0 x1 ∧ A4 x0 x1) (k : ∀ x0 x1, A0 x0 x1 → A1 x0 x1 → A2 x0 x1 → A3 x0 x1 → A4 x0 x1 → G) : G := h.elim fun x h => el_1_5 h (k x)
theorem el_2_6 {α0 α1 : Sort _} {A0 A1 A2 A3 A4 A5 : α0 → α1 → Prop} {G : Prop} (h : ∃ x0, ∃ x1, A0 x0 x1 ∧ A1 x0 x1 ∧ A2 x0 x1 ∧ A3 x0 x1 ∧ A4 x0 x1 ∧ A5 x0 x1) (k : ∀ x0 x1, A0 x0 x1 → A1 x0 x1 → A2 x0 x1 → A3 x0 x1 → A4 x0 x1 → A5 x0 x1 → G) : G := h.elim fun x h => el_1_6 h (k x)
theorem el_2_7 {α0 α1 : Sort _} {A0 A1 A2 A3 A4 A5 A6 : α0 → α1 → Prop} {G : Prop} (h : ∃ x0, ∃ x1, A0 x0 x1 ∧ A1 x0 x1 ∧ A2 x0 x1 ∧ A3 x0 x1 ∧ A4 x0 x1 ∧ A5 x0 x1 ∧ A6 x0 x1) (k : ∀ x0 x1, A0 x0 x1 → A1 x0 x1 → A2 x0 x1 → A3 x0 x1 → A4 x0 x1 → A5 x0 x1 → A6 x0 x1 → G) : G := h.elim fun x h => el_1_7 h (k x)
theorem el_2_8 {α0 α1 : Sort _} {A0 A1 A2 A3 A4 A5 A6 A7 : α0 → α1 → Prop} {G : Prop} (h : ∃ x0, ∃ x1, A0 x0 x1 ∧ A1 x0 x1 ∧ A2 x0 x1 ∧ A3 x0 x1 ∧ A4 x0 x1 ∧ A5 x0 x1 ∧ A6 x0 x1 ∧ A7 x0 x1) (k : ∀ x0 x1, A0 x0 x1 → A1 x0 x1 → A2 x0 x1 → A3 x0 x1 → A4 x0 x1 → A5 x0 x1 → A6 x0 x1 → A7 x0 x1 → G) : G := h.elim fun x h => el_1_8 h (k x)
theorem el_3_1 {α0 α1 α2 : Sort _} {A0 : α0 → α1 → α2 → Prop} {G : Prop} (h : ∃ x0, ∃ x1, ∃ x2, A0 x0 x1 x2) (k : ∀ x0 x1 x2, A0 x0 x1 x2 → G) : G := h.elim fun x h => el_2_1 h (k x)
theorem el_3_2 {α0 α1 α2 : Sort _} {A0 A1 : α0 → α1 → α2 → Prop} {G : Prop} (h : ∃ x0, ∃ x1, ∃ x2, A0 x0 x1 x2 ∧ A1 x0 x1 x2) (k : ∀ x0 x1 x2, A0 x0 x1 x2 → A1 x0 x1 x2 → G) : G := h.elim fun x h => el_2_2 h (k x)
theorem el_3_3 {α0 α1 α2 : Sort _} {A0 A1 A2 : α0 → α1 → α2 → Prop} {G : Prop} (h : ∃ x0, ∃ x1, ∃ x2, A0 x0 x1 x2 ∧ A1 x0 x1 x2 ∧ A2 x0 x1 x2) (k : ∀ x0 x1 x2, A0 x0 x1 x2 → A1 x0 x1 x2 → A2 x0 x1 x2 → G) : G := h.elim fun x h => el_2_3 h (k x)
theorem el_3_4 {α0 α1 α2 : Sort _} {A0 A1 A2 A3 : α0 → α1 → α2 → Prop} {G : Prop} (h : ∃ x0, ∃ x1, ∃ x2, A0 x0 x1 x2 ∧ A1 x0 x1 x2 ∧ A2 x0 x1 x2 ∧ A3 x0 x1 x2) (k : ∀ x0 x1 x2, A0 x0 x1 x2 → A1 x0 x1 x2 → A2 x0 x1 x2 → A3 x0 x1 x2 → G) : G := h.elim fun x h => el_2_4 h (k x)
theorem el_3_5 {α0 α1 α2 : Sort _} {A0 A1 A2 A3 A4 : α0 → α1 → α2 → Prop} {G : Prop} (h : ∃ x0, ∃ x1, ∃ x2, A0 x0 x1 x2 ∧ A1 x0 x1 x2 ∧ A2 x0 x1 x2 ∧ A3 x0 x1 x2 ∧ A4 x0 x1 x2) (k : ∀ x0 x1 x2, A0 x0 x1 x2 → A1 x0 x1 x2 → A2 x0 x1 x2 → A3 x0 x1 x2 → A4 x0 x1 x2 → G) : G := h.elim fun x h => el_2_5 h (k x)
theorem el_3_6 {α0 α1 α2 : Sort _} {A0 A1 A2 A3 A4 A5 : α0 → α1 → α2 → Prop} {G : Prop} (h : ∃ x0, ∃ x1, ∃ x2, A0 x0 x1 x2 ∧ A1 x0 x1 x2 ∧ A2 x0 x1 x2 ∧ A3 x0 x1 x2 ∧ A4 x0 x1 x2 ∧ A5 x0 x1 x2) (k : ∀ x0 x1 x2, A0 x0 x1 x2 → A1 x0 x1 x2 → A2 x0 x1 x2 → A3 x0 x1 x2 → A4 x0 x1 x2 → A5 x0 x1 x2 → G) : G := h.elim fun x h => el_2_6 h (k x)
theorem el_3_7 {α0 α1 α2 : Sort _} {A0 A1 A2 A3 A4 A5 A6 : α0 → α1 → α2 → Prop} {G : Prop} (h : ∃ x0, ∃ x1, ∃ x2, A0 x0 x1 x2 ∧ A1 x0 x1 x2 ∧ A2 x0 x1 x2 ∧ A3 x0 x1 x2 ∧ A4 x0 x1 x2 ∧ A5 x0 x1 x2 ∧ A6 x0 x1 x2) (k : ∀ x0 x1 x2, A0 x0 x1 x2 → A1 x0 x1 x2 → A2 x0 x1 x2 → A3 x0 x1 x2 → A4 x0 x1 x2 → A5 x0 x1 x2 → A6 x0 x1 x2 → G) : G := h.elim fun x h => el_2_7 h (k x)
theorem el_3_8 {α0 α1 α2 : Sort _} {A0 A1 A2 A3 A4 A5 A6 A7 : α0 → α1 → α2 → Prop} {G : Prop} (h : ∃ x0, ∃ x1, ∃ x2, A0 x0 x1 x2 ∧ A1 x0 x1 x2 ∧ A2 x0 x1 x2 ∧ A3 x0 x1 x2 ∧ A4 x0 x1 x2 ∧ A5 x0 x1 x2 ∧ A6 x0 x1 x2 ∧ A7 x0 x1 x2) (k : ∀ x0 x1 x2, A0 x0 x1 x2 → A1 x0 x1 x2 → A2 x0 x1 x2 → A3 x0 x1 x2 → A4 x0 x1 x2 → A5 x0 x1 x2 → A6 x0 x1 x2 → A7 x0 x1 x2 → G) : G := h.elim fun x h => el_2_8 h (k x)
theorem el_4_1 {α0 α1 α2 α3 : Sort _} {A0 : α0 → α1 → α2 → α3 → Prop} {G : Prop} (h : ∃ x0, ∃ x1, ∃ x2, ∃ x3, A0 x0 x1 x2 x3) (k : ∀ x0 x1 x2 x3, A0 x0 x1 x2 x3 → G) : G := h.elim fun x h => el_3_1 h (k x)
theorem el_4_2 {α0 α1 α2 α3 : Sort _} {A0 A1 : α0 → α1 → α2 → α3 → Prop} {G : Prop} (h : ∃ x0, ∃ x1, ∃ x2, ∃ x3, A0 x0 x1 x2 x3 ∧ A1 x0 x1 x2 x3) (k : ∀ x0 x1 x2 x3, A0 x0 x1 x2 x3 → A1 x0 x1 x2 x3 → G) : G := h.elim fun x h => el_3_2 h (k x)
theorem el_4_4 {α0 α1 α2 α3 : Sort _} {A0 A1 A2 A3 : α0 → α1 → α2 → α3 → Prop} {G : Prop} (h : ∃ x0, ∃ x1, ∃ x2, ∃ x3, A0 x0 x1 x2 x3 ∧ A1 x0 x1 x2 x3 ∧ A2 x0 x1 x2 x3 ∧ A3 x0 x1 x2 x3) (k : ∀ x0 x1 x2 x3, A0 x0 x1 x2 x3 → A1 x0 x1 x2 x3 → A2 x0 x1 x2 x3 → A3 x0 x1 x2 x3 → G) : G := h.elim fun x h => el_3_4 h (k x)
theorem el_4_5 {α0 α1 α2 α3 : Sort _} {A0 A1 A2 A3 A4 : α0 → α1 → α2 → α3 → Prop} {G : Prop} (h : ∃ x0, ∃ x1, ∃ x2, ∃ x3, A0 x0 x1 x2 x3 ∧ A1 x0 x1 x2 x3 ∧ A2 x0 x1 x2 x3 ∧ A3 x0 x1 x2 x3 ∧ A4 x0 x1 x2 x3) (k : ∀ x0 x1 x2 x3, A0 x0 x1 x2 x3 → A1 x0 x1 x2 x3 → A2 x0 x1 x2 x3 → A3 x0 x1 x2 x3 → A4 x0 x1 x2 x3 → G) : G := h.elim fun x h => el_3_5 h (k x)
theorem el_4_7 {α0 α1 α2 α3 : Sort _} {A0 A1 A2 A3 A4 A5 A6 : α0 → α1 → α2 → α3 → Prop} {G : Prop} (h : ∃ x0, ∃ x1, ∃ x2, ∃ x3, A0 x0 x1 x2 x3 ∧ A1 x0 x1 x2 x3 ∧ A2 x0 x1 x2 x3 ∧ A3 x0 x1 x2 x3 ∧ A4 x0 x1 x2 x3 ∧ A5 x0 x1 x2 x3 ∧ A6 x0 x1 x2 x3) (k : ∀ x0 x1 x2 x3, A0 x0 x1 x2 x3 → A1 x0 x1 x2 x3 → A2 x0 x1 x2 x3 → A3 x0 x1 x2 x3 → A4 x0 x1 x2 x3 → A5 x0 x1 x2 x3 → A6 x0 x1 x2 x3 → G) : G := h.elim fun x h => el_3_7 h (k x)
theorem el_5_1 {α0 α1 α2 α3 α4 : Sort _} {A0 : α0 → α1 → α2 → α3 → α4 → Prop} {G : Prop} (h : ∃ x0, ∃ x1, ∃ x2, ∃ x3, ∃ x4, A0 x0 x1 x2 x3 x4) (k : ∀ x0 x1 x2 x3 x4, A0 x0 x1 x2 x3 x4 → G) : G := h.elim fun x h => el_4_1 h (k x)
theorem el_5_4 {α0 α1 α2 α3 α4 : Sort _} {A0 A1 A2 A3 : α0 → α1 → α2 → α3 → α4 → Prop} {G : Prop} (h : ∃ x0, ∃ x1, ∃ x2, ∃ x3, ∃ x4, A0 x0 x1 x2 x3 x4 ∧ A1 x0 x1 x2 x3 x4 ∧ A2 x0 x1 x2 x3 x4 ∧ A3 x0 x1 x2 x3 x4) (k : ∀ x0 x1 x2 x3 x4, A0 x0 x1 x2 x3 x4 → A1 x0 x1 x2 x3 x4 → A2 x0 x1 x2 x3 x4 → A3 x0 x1 x2 x3 x4 → G) : G := h.elim fun x h => el_4_4 h (k x)
theorem el_6_1 {α0 α1 α2 α3 α4 α5 : Sort _} {A0 : α0 → α1 → α2 → α3 → α4 → α5 → Prop} {G : Prop} (h : ∃ x0, ∃ x1, ∃ x2, ∃ x3, ∃ x4, ∃ x5, A0 x0 x1 x2 x3 x4 x5) (k : ∀ x0 x1 x2 x3 x4 x5, A0 x0 x1 x2 x3 x4 x5 → G) : G := h.elim fun x h => el_5_1 h (k x)
theorem lenIs1 {l : List Value} (h : l.length = 1) : ∃ a, l = [a] := by
  cases l with
  | nil => cases h
  | cons a t => cases t with
    | nil => exact ⟨a, rfl⟩
    | cons b u => cases h
theorem lenIs2 {l : List Value} (h : l.length = 2) : ∃ a b, l = [a, b] := by
  cases l with
  | nil => cases h
  | cons a t => (with_reducible refine el_1_1 (lenIs1 (Nat.succ.inj h)) fun b oq1 => ?_); obtain rfl := oq1; exact ⟨a, b, rfl⟩
theorem lenIs3 {l : List Value} (h : l.length = 3) : ∃ a b c, l = [a, b, c] := by
  cases l with
  | nil => cases h
  | cons a t => (with_reducible refine el_2_1 (lenIs2 (Nat.succ.inj h)) fun b c oq2 => ?_); obtain rfl := oq2; exact ⟨a, b, c, rfl⟩
set_option genSizeOf false

/-! ## pure data, and what a value stands for -/
noncomputable abbrev FMap := Addr → Option Obj
noncomputable def FLe (Φ Ψ : FMap) : Prop := ∀ a o, Φ a = some o → Ψ a = some o
noncomputable def FIn (Φ : FMap) (h : Heap) : Prop := ∀ a o, Φ a = some o → h.get? a = some o
noncomputable def FGrow (F Φ Φ' : FMap) : Prop := FLe Φ Φ' ∧ ∀ a o, Φ' a = some o → Φ a = some o ∨ F a = none
theorem FLe.refl (Φ : FMap) : FLe Φ Φ := fun _ _ e => e
theorem FLe.trans {Φ Ψ Ω : FMap} (h : FLe Φ Ψ) (k : FLe Ψ Ω) : FLe Φ Ω := fun a o e => k a o (h a o e)
theorem FGrow.refl (F Φ : FMap) : FGrow F Φ Φ := ⟨FLe.refl _, fun _ _ e => .inl e⟩
theorem FGrow.trans {F Φ Ψ Ω : FMap} (h : FGrow F Φ Ψ) (k : FGrow F Ψ Ω) : FGrow F Φ Ω :=
  ⟨h.1.trans k.1, fun a o e => (k.2 a o e).elim (h.2 a o) .inr⟩
noncomputable def FMap.ins (Φ : FMap) (a : Addr) (o : Obj) : FMap := fun b => if b = a then some o else Φ b
theorem FMap.ins_self (Φ : FMap) (a : Addr) (o : Obj) : Φ.ins a o a = some o := by simp [FMap.ins]
theorem FMap.ins_ne (Φ : FMap) {a b : Addr} (o : Obj) (h : b ≠ a) : Φ.ins a o b = Φ b := by simp [FMap.ins, h]

inductive D where
  | none
  | bool (b : Bool)
  | int (i : Int)
  | str (s : Str)
  | tup (l : List D)
  | list (l : List D)
  | dict (l : List (Int × D))
  | range (a b c : Int)
  | items (l : List (Int × D))
  | vals (l : List (Int × D))
  | fn (fd : FuncData) (qual : Str)
  | raw (v : Value)

mutual
inductive RV (Φ : FMap) : Value → D → Prop
  | none : RV Φ .none .none
  | bool (b : Bool) : RV Φ (.bool b) (.bool b)
  | int (i : Int) (t : Tok) : RV Φ (.int i t) (.int i)
  | str (x : Str) (t : Tok) : RV Φ (.str x t) (.str x)
  | tup {a : Addr} {o : Obj} {vs : List Value} {n : Nat} {ds : List D} : Φ a = some o → o.cls = .type "tuple" → o.data = .seq vs.toArray n → RVs Φ vs ds → RV Φ (.ref a) (.tup ds)
  | list {a : Addr} {vs : List Value} {n : Nat} {ds : List D} : Φ a = some { cls := .type "list", data := .seq vs.toArray n } → RVs Φ vs ds → RV Φ (.ref a) (.list ds)
  | dict {a : Addr} {o : Obj} {es : Array DictEntry} {n : Nat} {kvs : List (Int × D)} : Φ a = some o → o.ExactDict → o.data = .dict es n → RVd Φ es.toList kvs → (kvs.map (·.1)).Nodup → a ≠ sysModules → RV Φ (.ref a) (.dict kvs)
  | range {r : Addr} {a b c : Int} {t u v : Tok} : Φ r = some { cls := .type "range", dict := none, data := .fields #[.int a t, .int b u, .int c v], slots := #[] } → RV Φ (.ref r) (.range a b c)
  | items {a d : Addr} {kvs : List (Int × D)} : Φ a = some { cls := .type "dict_items", data := .fields #[.ref d] } → RV Φ (.ref d) (.dict kvs) → RV Φ (.ref a) (.items kvs)
  | vals {a d : Addr} {kvs : List (Int × D)} : Φ a = some { cls := .type "dict_values", data := .fields #[.ref d] } → RV Φ (.ref d) (.dict kvs) → RV Φ (.ref a) (.vals kvs)
  | fn {a c' : Addr} {o oc : Obj} {fd : FuncData} {vs : Array Value} {qual : Str} {t : Tok} : Φ a = some o → o.data = .func fd → fd.code = .ref c' → Φ c' = some oc → oc.data = .fields vs → vs[1]? = some (.str qual t) → RV Φ (.ref a) (.fn fd qual)
  | raw (v : Value) : RV Φ v (.raw v)
inductive RVs (Φ : FMap) : List Value → List D → Prop
  | nil : RVs Φ [] []
  | cons {v : Value} {vs : List Value} {d : D} {ds : List D} : RV Φ v d → RVs Φ vs ds → RVs Φ (v :: vs) (d :: ds)
inductive RVd (Φ : FMap) : List DictEntry → List (Int × D) → Prop
  | nil : RVd Φ [] []
  | cons {e : DictEntry} {k : Int} {t : Tok} {d : D} {es : List DictEntry} {kvs : List (Int × D)} : e.key = .int k t → e.hash = hashInt k → RV Φ e.val d → RVd Φ es kvs → RVd Φ (e :: es) ((k, d) :: kvs)
end
theorem RV.mono {Φ Ψ : FMap} (h : FLe Φ Ψ) {v : Value} {d : D} (r : RV Φ v d) : RV Ψ v d :=
  RV.rec (motive_1 := fun v d _ => RV Ψ v d) (motive_2 := fun vs ds _ => RVs Ψ vs ds) (motive_3 := fun es kvs _ => RVd Ψ es kvs) .none .bool .int .str
    (fun e c q _ ih => .tup (h _ _ e) c q ih) (fun e _ ih => .list (h _ _ e) ih) (fun e c q _ n m ih => .dict (h _ _ e) c q ih n m) (fun e => .range (h _ _ e))
    (fun e _ ih => .items (h _ _ e) ih) (fun e _ ih => .vals (h _ _ e) ih) (fun e1 e2 e3 e4 e5 e6 => .fn (h _ _ e1) e2 e3 (h _ _ e4) e5 e6) .raw .nil (fun _ _ a b => .cons a b) .nil (fun a b _ _ c d => .cons a b c d) r
theorem RVs.mono {Φ Ψ : FMap} (h : FLe Φ Ψ) {vs : List Value} {ds : List D} (r : RVs Φ vs ds) : RVs Ψ vs ds := by
  induction ds generalizing vs with
  | nil => cases r; exact .nil
  | cons d ds ih => cases r with | cons a b => exact .cons (a.mono h) (ih b)
theorem RVd.mono {Φ Ψ : FMap} (h : FLe Φ Ψ) {es : List DictEntry} {kvs : List (Int × D)} (r : RVd Φ es kvs) : RVd Ψ es kvs := by
  induction kvs generalizing es with
  | nil => cases r; exact .nil
  | cons d ds ih => cases r with | cons a b c d => exact .cons a b (c.mono h) (ih d)
theorem RV.i {Φ : FMap} {v : Value} {i : Int} (r : RV Φ v (.int i)) : ∃ t, v = .int i t := by cases r; exact ⟨_, rfl⟩
theorem RV.s {Φ : FMap} {v : Value} {x : Str} (r : RV Φ v (.str x)) : ∃ t, v = .str x t := by cases r; exact ⟨_, rfl⟩
theorem RV.w {Φ : FMap} {v w : Value} (r : RV Φ v (.raw w)) : v = w := by cases r; rfl
theorem RV.n {Φ : FMap} {v : Value} (r : RV Φ v .none) : v = .none := by cases r; rfl
theorem RV.b {Φ : FMap} {v : Value} {b : Bool} (r : RV Φ v (.bool b)) : v = .bool b := by cases r; rfl
theorem RVs.n {Φ : FMap} {v : List Value} (r : RVs Φ v []) : v = [] := by cases r; rfl
theorem RVs.c {Φ : FMap} {v : List Value} {d : D} {ds : List D} (r : RVs Φ v (d :: ds)) : ∃ x xs, v = x :: xs ∧ RV Φ x d ∧ RVs Φ xs ds := by cases r with | cons a b => exact ⟨_, _, rfl, a, b⟩
theorem RVs.nv {Φ : FMap} {ds : List D} (r : RVs Φ [] ds) : ds = [] := by cases r; rfl
theorem RVs.cv {Φ : FMap} {x : Value} {v : List Value} {ds : List D} (r : RVs Φ (x :: v) ds) : ∃ e es, ds = e :: es ∧ RV Φ x e ∧ RVs Φ v es := by cases r with | cons a b => exact ⟨_, _, rfl, a, b⟩
theorem RVs.cc {Φ : FMap} {x : Value} {v : List Value} {d : D} {ds : List D} (r : RVs Φ (x :: v) (d :: ds)) : RV Φ x d ∧ RVs Φ v ds := by
  obtain ⟨y, ys, e, a, b⟩ := r.c; cases e; exact ⟨a, b⟩
theorem RVs.one {Φ : FMap} {v : List Value} {d : D} (h : RVs Φ v [d]) : ∃ x, v = [x] ∧ RV Φ x d := by
  (with_reducible refine el_2_3 (h.c) fun x xs oq3 a b => ?_); obtain rfl := oq3; rw [b.n]; exact ⟨x, rfl, a⟩
theorem RVs.two {Φ : FMap} {v : List Value} {d e : D} (h : RVs Φ v [d, e]) : ∃ x y, v = [x, y] ∧ RV Φ x d ∧ RV Φ y e := by
  (with_reducible refine el_2_3 (h.c) fun x xs oq4 a b => ?_); obtain rfl := oq4; (with_reducible refine el_1_2 (b.one) fun y oq5 c => ?_); obtain rfl := oq5; exact ⟨x, y, rfl, a, c⟩
theorem RVs.three {Φ : FMap} {v : List Value} {d e f : D} (h : RVs Φ v [d, e, f]) : ∃ x y z, v = [x, y, z] ∧ RV Φ x d ∧ RV Φ y e ∧ RV Φ z f := by
  (with_reducible refine el_2_3 (h.c) fun x xs oq6 a b => ?_); obtain rfl := oq6; (with_reducible refine el_2_3 (b.two) fun y z oq7 c d => ?_); obtain rfl := oq7; exact ⟨x, y, z, rfl, a, c, d⟩
theorem RVs.length {Φ : FMap} {vs : List Value} {ds : List D} (r : RVs Φ vs ds) : vs.length = ds.length := by
  induction ds generalizing vs with
  | nil => rw [r.n]; rfl
  | cons d ds ih => (with_reducible refine el_2_3 (r.c) fun x xs oq8 _ b => ?_); obtain rfl := oq8; exact congrArg Nat.succ (ih b)
theorem RVs.append {Φ : FMap} {ws : List Value} {es : List D} (k : RVs Φ ws es) {vs : List Value} {ds : List D} (r : RVs Φ vs ds) : RVs Φ (vs ++ ws) (ds ++ es) := by
  induction ds generalizing vs with
  | nil => rw [r.n]; exact k
  | cons d ds ih => (with_reducible refine el_2_3 (r.c) fun x xs oq9 a b => ?_); obtain rfl := oq9; exact .cons a (ih b)
theorem RVs.get {Φ : FMap} {vs : List Value} {ds : List D} (r : RVs Φ vs ds) {i : Nat} {d : D} (e : ds[i]? = some d) : ∃ v, vs[i]? = some v ∧ RV Φ v d := by
  induction ds generalizing vs i with
  | nil => cases e
  | cons d' ds ih =>
    with_reducible refine el_2_3 (r.c) fun x xs oq10 a b => ?_
    obtain rfl := oq10
    cases i with
    | zero => cases e; exact ⟨x, rfl, a⟩
    | succ i => exact ih b e
theorem RVs.getV {Φ : FMap} {vs : List Value} {ds : List D} (r : RVs Φ vs ds) {i : Nat} {v : Value} (e : vs[i]? = some v) : ∃ d, ds[i]? = some d ∧ RV Φ v d := by
  with_reducible refine el_1_1 (List.getElem?_eq_some_iff.mp e) fun h _ => ?_
  rw [r.length] at h
  have hd := List.getElem?_eq_getElem h
  with_reducible refine el_1_2 (r.get hd) fun w hw q => ?_
  rw [e] at hw
  cases hw
  exact ⟨_, hd, q⟩
theorem RVs.set {Φ : FMap} {vs : List Value} {ds : List D} (r : RVs Φ vs ds) (n : Nat) {v : Value} {d : D} (h : RV Φ v d) : RVs Φ (vs.set n v) (ds.set n d) := by
  induction n generalizing vs ds with
  | zero => cases ds with
    | nil => rw [r.n]; exact .nil
    | cons d ds => (with_reducible refine el_2_3 (r.c) fun x xs oq11 a b => ?_); obtain rfl := oq11; exact .cons h b
  | succ n ih => cases ds with
    | nil => rw [r.n]; exact .nil
    | cons d ds => (with_reducible refine el_2_3 (r.c) fun x xs oq12 a b => ?_); obtain rfl := oq12; exact .cons a (ih b)
theorem RVs.reverse {Φ : FMap} {vs : List Value} {ds : List D} (r : RVs Φ vs ds) : RVs Φ vs.reverse ds.reverse := by
  induction ds generalizing vs with
  | nil => rw [r.n]; exact .nil
  | cons d ds ih => (with_reducible refine el_2_3 (r.c) fun x xs oq13 a b => ?_); obtain rfl := oq13; rw [List.reverse_cons, List.reverse_cons]; exact RVs.append (.cons a .nil) (ih b)

/-! ## the state of an activation -/
inductive OD where
  | list (l : List D)
  | dict (l : List (Int × D))
noncomputable def OwnIs (Φ : FMap) (h : Heap) (a : Addr) : OD → Prop
  | .list l => ∃ (vs : List Value) (n : Nat), h.get? a = some { cls := .type "list", data := .seq vs.toArray n } ∧ RVs Φ vs l
  | .dict l => ∃ o es n, h.get? a = some o ∧ o.ExactDict ∧ o.data = .dict es n ∧ RVd Φ es.toList l ∧ (l.map (·.1)).Nodup ∧ a ≠ sysModules
theorem OwnIs.mono {Φ Ψ : FMap} {h : Heap} {a : Addr} {od : OD} (k : FLe Φ Ψ) (z : OwnIs Φ h a od) : OwnIs Ψ h a od := by
  cases od with
  | list => obtain ⟨vs, n, e, r⟩ := z; exact ⟨vs, n, e, r.mono k⟩
  | dict => obtain ⟨o, es, n, e, c, q, r, z⟩ := z; exact ⟨o, es, n, e, c, q, r.mono k, z⟩
theorem OwnIs.keep {Φ : FMap} {h h' : Heap} {a : Addr} {od : OD} (k : ∀ o, h.get? a = some o → h'.get? a = some o) (z : OwnIs Φ h a od) : OwnIs Φ h' a od := by
  cases od with
  | list => obtain ⟨vs, n, e, r⟩ := z; exact ⟨vs, n, k _ e, r⟩
  | dict => obtain ⟨o, es, n, e, c, q, r, z⟩ := z; exact ⟨o, es, n, k _ e, c, q, r, z⟩
theorem OwnIs.there {Φ : FMap} {h : Heap} {a : Addr} {od : OD} (z : OwnIs Φ h a od) : ∃ o, h.get? a = some o := by
  cases od with
  | list => obtain ⟨_, _, e, _⟩ := z; exact ⟨_, e⟩
  | dict => obtain ⟨o, _, _, e, _⟩ := z; exact ⟨o, e⟩

structure Sig where
  vars : List (Str × D)
  own : List (Addr × OD) := []

/-- a code table of the text: the code object, its table, the nested def's place and its qualname -/
structure Tab where
  code : Addr
  tab : Addr
  pos : Pos
  qual : Str

/-- what does not change while the law runs -/
structure GC where
  prog : Program
  w : World
  gh : Heap
  tabs : List Tab
  rest : Shared

noncomputable def TabOk (Φ : FMap) (h : Heap) (t : Tab) : Prop :=
  ∃ ps, h.get? t.tab = some (tabObj ps) ∧ (ps = #[] ∨ ∃ c' o vs q, ps = #[rawInt t.pos.line, rawInt t.pos.col, .ref c'] ∧ Φ c' = some o ∧ o.data = .fields vs ∧ vs[1]? = some (.str t.qual q))

/-- the world of a call: ground, frozen part, tables -/
structure GS (G : GC) (Φ : FMap) (s : Shared) : Prop where
  rest : ∃ h tk, s = { G.rest with heap := h, toks := tk }
  gr : ∀ a o, G.gh.get? a = some o → Φ a = some o
  sub : FIn Φ s.heap
  tab : ∀ t ∈ G.tabs, TabOk Φ s.heap t ∧ Φ t.tab = none

structure Act where
  G : GC
  A : Around
  env : Env
  mc : List (Str × Addr) := []
  fc : List Addr := []

/-- the addresses that an activation may change -/
noncomputable def Act.muts (K : Act) (σ : Sig) : List Addr := K.env.locals :: (K.mc.map (·.2) ++ σ.own.map (·.1))

noncomputable def VarAt (K : Act) (h : Heap) (x : Str) (v : Value) : Prop := match K.env.kindOf x with
  | some .local => ∃ m, h.Ns K.env.locals m ∧ m x = some v
  | some .cell => ∃ c, K.env.cells.lookup x = some c ∧ h.IsCell c (some v) ∧ (K.mc.lookup x = some c ∨ c ∈ K.fc)
  | some .free => ∃ c, K.env.cells.lookup x = some c ∧ h.IsCell c (some v) ∧ c ∈ K.fc
  | _ => False

structure St (K : Act) (F Φ : FMap) (σ : Sig) (s : Shared) : Prop where
  gs : GS K.G Φ s
  keep : FIn F s.heap
  fcs : ∀ c ∈ K.fc, ∃ o, F c = some o
  tabF : ∀ t ∈ K.G.tabs, F t.tab = none
  mu : ∀ a ∈ K.muts σ, Φ a = none ∧ F a = none ∧ (∃ o, s.heap.get? a = some o) ∧ ∀ t ∈ K.G.tabs, t.tab ≠ a
  nd : (K.muts σ).Nodup
  ns : ∃ m, s.heap.Ns K.env.locals m
  cells : ∀ x c, K.mc.lookup x = some c → ∃ v, s.heap.IsCell c v
  vars : ∀ x d, σ.vars.lookup x = some d → ∃ v, VarAt K s.heap x v ∧ RV Φ v d
  own : ∀ p ∈ σ.own, OwnIs Φ s.heap p.1 p.2

theorem VarAt.keepBut {K : Act} {h h' : Heap} {x : Str} {v : Value} (V : VarAt K h x v) (hL : ∀ o, h.get? K.env.locals = some o → h'.get? K.env.locals = some o)
    (hm : ∀ y c, K.mc.lookup y = some c → ∀ o, h.get? c = some o → h'.get? c = some o) (hf : ∀ c ∈ K.fc, ∀ o, h.get? c = some o → h'.get? c = some o) : VarAt K h' x v := by
  unfold VarAt at V ⊢
  split at V
  · obtain ⟨m, ⟨o, es, ep, e, r⟩, hv⟩ := V
    exact ⟨m, ⟨o, es, ep, hL _ e, r⟩, hv⟩
  · obtain ⟨c, hc, ⟨o, e, r⟩, hd⟩ := V
    exact ⟨c, hc, ⟨o, hd.elim (fun q => hm _ _ q _ e) fun q => hf _ q _ e, r⟩, hd⟩
  · obtain ⟨c, hc, ⟨o, e, r⟩, hd⟩ := V
    exact ⟨c, hc, ⟨o, hf _ hd _ e, r⟩, hd⟩
  · exact V
theorem fc_keep {K : Act} {F : FMap} {h h' : Heap} (hc : ∀ c ∈ K.fc, ∃ o, F c = some o) (hF : FIn F h) (hF' : FIn F h') : ∀ c ∈ K.fc, ∀ o, h.get? c = some o → h'.get? c = some o := fun c hm o e => by
  with_reducible refine el_1_1 (hc c hm) fun o' q => ?_
  rw [hF _ _ q] at e; cases e
  exact hF' _ _ q

theorem lookup_mem {α β : Type} [BEq α] [LawfulBEq α] : ∀ {l : List (α × β)} {x : α} {c : β}, l.lookup x = some c → (x, c) ∈ l
  | [], _, _, e => by cases e
  | (y, b) :: r, x, c, e => by
    rw [List.lookup_cons] at e
    cases hb : x == y with
    | true => rw [hb] at e; cases e; rw [eq_of_beq hb]; exact .head _
    | false => rw [hb] at e; exact .tail _ (lookup_mem e)

section
variable {K : Act} {F Φ Φ' : FMap} {σ : Sig} {s : Shared} {h' : Heap} {tk : Nat}

theorem TabOk.keep {h : Heap} {t : Tab} (T : TabOk Φ h t) (hΦ : FLe Φ Φ') (hk : ∀ o, h.get? t.tab = some o → h'.get? t.tab = some o) : TabOk Φ' h' t := by
  refine el_1_2 (T) fun ps e r => ?_
  try clear T
  refine ⟨ps, hk _ e, r.imp id fun z => ?_⟩
  obtain ⟨c', o, vs, q, h1, h2, h3⟩ := z
  exact ⟨c', o, vs, q, h1, hΦ _ _ h2, h3⟩

theorem St.locals_mem : K.env.locals ∈ K.muts σ := List.mem_cons_self
theorem St.cell_mem {x : Str} {c : Addr} (h : K.mc.lookup x = some c) : c ∈ K.muts σ :=
  List.mem_cons_of_mem _ (List.mem_append_left _ (List.mem_map.mpr ⟨_, lookup_mem h, rfl⟩))
theorem St.own_mem {p : Addr × OD} (h : p ∈ σ.own) : p.1 ∈ K.muts σ :=
  List.mem_cons_of_mem _ (List.mem_append_right _ (List.mem_map.mpr ⟨p, h, rfl⟩))

/-- the heap has grown (the code tables too), and new things are frozen -/
theorem St.after (S : St K F Φ σ s) (hk : ∀ b o, s.heap.get? b = some o → (∀ t ∈ K.G.tabs, t.tab ≠ b) → h'.get? b = some o) (ht : ∀ t ∈ K.G.tabs, TabOk Φ' h' t) (hΦ : FLe Φ Φ')
    (hn : ∀ a o, Φ' a = some o → Φ a = some o ∨ (s.heap.get? a = none ∧ h'.get? a = some o)) : St K F Φ' σ { s with heap := h', toks := tk } ∧ FGrow F Φ Φ' := by
  have hnone : ∀ a o, s.heap.get? a = some o → Φ a = none → Φ' a = none := fun a o e q => by
    cases z : Φ' a with
    | none => rfl
    | some o' =>
      rcases hn a o' z with x | ⟨x, _⟩
      · rw [q] at x; cases x
      · rw [x] at e; cases e
  have tΦ : ∀ a o, Φ a = some o → ∀ t ∈ K.G.tabs, t.tab ≠ a := fun a o e t ht q => by
    have := (S.gs.tab t ht).2
    rw [q, e] at this; cases this
  have tF : ∀ a o, F a = some o → ∀ t ∈ K.G.tabs, t.tab ≠ a := fun a o e t ht q => by
    have := S.tabF t ht
    rw [q, e] at this; cases this
  have kf : FIn F h' := fun a o e => hk _ _ (S.keep a o e) (tF a o e)
  have hL := (S.mu _ (List.mem_cons_self : K.env.locals ∈ K.muts σ)).2.2.2
  have hM : ∀ y c, K.mc.lookup y = some c → ∀ t ∈ K.G.tabs, t.tab ≠ c := fun y c e => (S.mu c (List.mem_cons_of_mem _ (List.mem_append_left _ (List.mem_map.mpr ⟨_, lookup_mem e, rfl⟩)))).2.2.2
  refine ⟨⟨⟨?_, fun a o e => hΦ _ _ (S.gs.gr a o e), fun a o e => ?_, fun t htm => ?_⟩, kf, S.fcs, S.tabF, fun a ha => ?_, S.nd, ?_, fun x c e => ?_, fun x d e => ?_, fun p hp => ?_⟩, hΦ, fun a o e => ?_⟩
  · with_reducible refine el_2_1 (S.gs.rest) fun h t e => ?_
    exact ⟨h', tk, by rw [e]⟩
  · exact (hn a o e).elim (fun x => hk _ _ (S.gs.sub a o x) (tΦ a o x)) (·.2)
  · have T := S.gs.tab t htm
    exact ⟨ht t htm, let ⟨_, e, _⟩ := T.1; hnone _ _ e T.2⟩
  · with_reducible refine el_0_4 (S.mu a ha) fun h1 h2 oq14 h4 => ?_
    obtain ⟨o, h3⟩ := oq14
    exact ⟨hnone _ _ h3 h1, h2, ⟨o, hk _ _ h3 h4⟩, h4⟩
  · with_reducible refine el_4_2 (S.ns) fun m o es ep e r => ?_
    exact ⟨m, o, es, ep, hk _ _ e hL, r⟩
  · with_reducible refine el_2_2 (S.cells x c e) fun v o e' r => ?_
    exact ⟨v, o, hk _ _ e' (hM x c e), r⟩
  · with_reducible refine el_1_2 (S.vars x d e) fun v hv r => ?_
    exact ⟨v, hv.keepBut (fun o e => hk _ _ e hL) (fun y c hc o e => hk _ _ e (hM y c hc)) (fc_keep S.fcs S.keep kf), r.mono hΦ⟩
  · refine ((S.own p hp).mono hΦ).keep fun o e => hk _ _ e ?_
    exact (S.mu p.1 (List.mem_cons_of_mem _ (List.mem_append_right _ (List.mem_map.mpr ⟨p, hp, rfl⟩)))).2.2.2
  · rcases hn a o e with x | ⟨x, _⟩
    · exact .inl x
    · refine .inr ?_
      cases z : F a with
      | none => rfl
      | some o' => rw [S.keep a o' z] at x; cases x
theorem St.extF (S : St K F Φ σ s) (hk : ∀ b o, s.heap.get? b = some o → h'.get? b = some o) (hΦ : FLe Φ Φ')
    (hn : ∀ a o, Φ' a = some o → Φ a = some o ∨ (s.heap.get? a = none ∧ h'.get? a = some o)) : St K F Φ' σ { s with heap := h', toks := tk } ∧ FGrow F Φ Φ' :=
  S.after (fun b o e _ => hk b o e) (fun t ht => (S.gs.tab t ht).1.keep hΦ fun o e => hk _ _ e) hΦ hn
theorem St.ext (S : St K F Φ σ s) (hk : ∀ b o, s.heap.get? b = some o → h'.get? b = some o) : St K F Φ σ { s with heap := h', toks := tk } :=
  (S.extF hk (FLe.refl _) fun _ _ e => .inl e).1
theorem St.withToks (S : St K F Φ σ s) : St K F Φ σ { s with toks := tk } := S.ext fun _ _ e => e
theorem St.ins (S : St K F Φ σ s) (hk : ∀ b o, s.heap.get? b = some o → h'.get? b = some o) {a : Addr} {o : Obj} (ha : s.heap.get? a = none) (ho : h'.get? a = some o) :
    St K F (Φ.ins a o) σ { s with heap := h', toks := tk } ∧ FGrow F Φ (Φ.ins a o) := by
  have hne : ∀ b o', Φ b = some o' → b ≠ a := fun b o' e q => by rw [q] at e; rw [S.gs.sub _ _ e] at ha; cases ha
  refine S.extF hk (fun b o' e => by rw [FMap.ins_ne _ _ (hne b o' e)]; exact e) fun b o' e => ?_
  by_cases hb : b = a
  · subst hb; rw [FMap.ins_self] at e; cases e; exact .inr ⟨ha, ho⟩
  · rw [FMap.ins_ne _ _ hb] at e; exact .inl e
end

noncomputable abbrev Act.M (K : Act) : Model := model K.G.prog K.G.w
noncomputable abbrev NoE : Value → Shared → Prop := fun _ _ => False

inductive LF where
  | next | brk | cont
  | ret (d : D)
noncomputable def FlowIs (Φ : FMap) : Flow → LF → Prop
  | .next, .next => True
  | .brk, .brk => True
  | .cont, .cont => True
  | .ret v, .ret d => RV Φ v d
  | _, _ => False
inductive PE (K : Act) (F Φ : FMap) (Q : D → Sig → Prop) (v : Value) (s' : Shared) : Prop
  | mk (Φ' : FMap) (d : D) (σ' : Sig) (S : St K F Φ' σ' s') (g : FGrow F Φ Φ') (r : RV Φ' v d) (q : Q d σ')
inductive PT (K : Act) (F Φ : FMap) (Q : Bool → Sig → Prop) (b : Bool) (s' : Shared) : Prop
  | mk (Φ' : FMap) (σ' : Sig) (S : St K F Φ' σ' s') (g : FGrow F Φ Φ') (q : Q b σ')
inductive PX (K : Act) (F Φ : FMap) (R : LF → Sig → Prop) (f : Flow) (s' : Shared) : Prop
  | mk (Φ' : FMap) (lf : LF) (σ' : Sig) (S : St K F Φ' σ' s') (g : FGrow F Φ Φ') (fl : FlowIs Φ' f lf) (q : R lf σ')
inductive PA (K : Act) (F Φ : FMap) (k : Sig → Prop) (u : Unit) (s' : Shared) : Prop
  | mk (Φ' : FMap) (σ' : Sig) (S : St K F Φ' σ' s') (g : FGrow F Φ Φ') (q : k σ')
inductive PL (K : Act) (F Φ : FMap) (Q : List D → Sig → Prop) (vs : List Value) (s' : Shared) : Prop
  | mk (Φ' : FMap) (ds : List D) (σ' : Sig) (S : St K F Φ' σ' s') (g : FGrow F Φ Φ') (r : RVs Φ' vs ds) (q : Q ds σ')
/-- an expression's value, lifted -/
noncomputable def LE (K : Act) (e : Expr) (Q : D → Sig → Prop) (σ : Sig) : Prop :=
  ∀ F Φ s, St K F Φ σ s → wpAny K.M K.A (eval e K.env) (PE K F Φ Q) NoE s
/-- a test, lifted -/
noncomputable def LT (K : Act) (e : Expr) (Q : Bool → Sig → Prop) (σ : Sig) : Prop :=
  ∀ F Φ s, St K F Φ σ s → wpAny K.M K.A (isTrue e K.env (eval e K.env)) (PT K F Φ Q) NoE s
/-- statements, lifted -/
noncomputable def LX (K : Act) (l : List Stmt) (R : LF → Sig → Prop) (σ : Sig) : Prop :=
  ∀ F Φ s, St K F Φ σ s → wpAny K.M K.A (execs l K.env) (PX K F Φ R) NoE s
structure KF (K : Act) (sc : Scope) (n : Nat) : Prop where
  scope : K.env.scope = sc
  kind : sc.kind = .function
  glob : K.env.globals = mainGlobals
  blt : K.env.builtins = builtinsNs
  hd : K.A.handled = none
  depth : K.A.depth + n ≤ 900
  units : K.A.units + 20 * n ≤ 9000

section
variable {K : Act} {F Φ Φ' : FMap} {σ : Sig} {s : Shared} {Q : D → Sig → Prop} {R : LF → Sig → Prop} {sc : Scope} {n : Nat}

theorem LE.use {e : Expr} {E : Value → Shared → Prop} (H : LE K e Q σ) (S : St K F Φ σ s) {P : Value → Shared → Prop} (k : ∀ v s' Φ' d σ', St K F Φ' σ' s' → FGrow F Φ Φ' → RV Φ' v d → Q d σ' → P v s') :
    wpAny K.M K.A (eval e K.env) P E s :=
  wpAny_mono (H F Φ s S) (fun v s' ⟨Φ', d, σ', a, b, c, q⟩ => k v s' Φ' d σ' a b c q) fun _ _ x => x.elim
theorem LT.use {e : Expr} {E : Value → Shared → Prop} {Q : Bool → Sig → Prop} (H : LT K e Q σ) (S : St K F Φ σ s) {P : Bool → Shared → Prop} (k : ∀ b s' Φ' σ', St K F Φ' σ' s' → FGrow F Φ Φ' → Q b σ' → P b s') :
    wpAny K.M K.A (isTrue e K.env (eval e K.env)) P E s :=
  wpAny_mono (H F Φ s S) (fun v s' ⟨Φ', σ', a, b, q⟩ => k v s' Φ' σ' a b q) fun _ _ x => x.elim
theorem LX.use {l : List Stmt} {E : Value → Shared → Prop} (H : LX K l R σ) (S : St K F Φ σ s) {P : Flow → Shared → Prop} (k : ∀ f s' Φ' lf σ', St K F Φ' σ' s' → FGrow F Φ Φ' → FlowIs Φ' f lf → R lf σ' → P f s') :
    wpAny K.M K.A (execs l K.env) P E s :=
  wpAny_mono (H F Φ s S) (fun v s' ⟨Φ', d, σ', a, b, c, q⟩ => k v s' Φ' d σ' a b c q) fun _ _ x => x.elim

theorem LE.mono {e : Expr} {Q' : D → Sig → Prop} (H : LE K e Q σ) (h : ∀ d σ', Q d σ' → Q' d σ') : LE K e Q' σ :=
  fun F Φ s S => H.use S fun _ _ _ _ _ a b c q => ⟨_, _, _, a, b, c, h _ _ q⟩
theorem LT.mono {e : Expr} {Q Q' : Bool → Sig → Prop} (H : LT K e Q σ) (h : ∀ d σ', Q d σ' → Q' d σ') : LT K e Q' σ :=
  fun F Φ s S => H.use S fun _ _ _ _ a b q => ⟨_, _, a, b, h _ _ q⟩
theorem LX.mono {l : List Stmt} {R' : LF → Sig → Prop} (H : LX K l R σ) (h : ∀ d σ', R d σ' → R' d σ') : LX K l R' σ :=
  fun F Φ s S => H.use S fun _ _ _ _ _ a b c q => ⟨_, _, _, a, b, c, h _ _ q⟩

/-! ### constants and names -/
theorem LE_int {i : Int} {k : Nat} {pos : Pos} (h : Q (.int i) σ) : LE K (.Constant (.int i) k pos) Q σ :=
  fun F Φ s S => wpAny_Constant_int ⟨Φ, _, σ, S.withToks, .refl .., .int i _, h⟩
theorem LE_str {x : Str} {k : Nat} {pos : Pos} (h : Q (.str x) σ) : LE K (.Constant (.str x) k pos) Q σ :=
  fun F Φ s S => by
    show wpAny K.M K.A (mkText x) _ _ _
    exact wpAny_mkText ⟨Φ, _, σ, S.withToks, .refl .., .str x _, h⟩
theorem LE_none {k : Nat} {pos : Pos} (h : Q .none σ) : LE K (.Constant .none k pos) Q σ :=
  fun F Φ s S => wpAny_pure ⟨Φ, _, σ, S, .refl .., .none, h⟩
theorem wpAny_loadVar {x : Str} {v : Value} {P : Value → Shared → Prop} {E : Value → Shared → Prop} (hK : KF K sc n) (V : VarAt K s.heap x v) (h : P v s) (hn : (x == ("__classdict__" : Str)) = false) :
    wpAny K.M K.A (loadName K.env x) P E s := by
  have hk : K.env.scope.kind = .function := by rw [hK.scope]; exact hK.kind
  unfold VarAt at V
  split at V
  · rename_i q
    with_reducible refine el_1_2 (V) fun m hm hv => ?_
    try clear V
    exact wpAny_loadName_local hk q hm hv h
  · rename_i q
    with_reducible refine el_1_3 (V) fun c hc hv _ => ?_
    try clear V
    exact wpAny_loadName_cell hk q hc hv h
  · rename_i q
    with_reducible refine el_1_3 (V) fun c hc hv _ => ?_
    try clear V
    exact wpAny_loadName_free hk q hc hv h hn
  · exact V.elim
/-- the names that a scope treats apart -/
noncomputable def plainName (x : Str) : Bool := !(x == ("__debug__" : Str)) && !(x == ("__classdict__" : Str))
theorem plainName.debug {x : Str} (h : plainName x = true) : (x == ("__debug__" : Str)) = false := by
  unfold plainName at h; revert h; cases (x == ("__debug__" : Str)) <;> simp
theorem plainName.cls {x : Str} (h : plainName x = true) : (x == ("__classdict__" : Str)) = false := by
  unfold plainName at h; revert h; cases (x == ("__classdict__" : Str)) <;> simp
theorem LE_name {x : Str} {pos : Pos} {d : D} (hK : KF K sc n) (hx : σ.vars.lookup x = some d) (hp : plainName x = true) (h : Q d σ) : LE K (.Name x pos) Q σ :=
  fun F Φ s S => by
    with_reducible refine el_1_2 (S.vars x d hx) fun v V r => ?_
    exact wpAny_Name (wpAny_loadVar hK V ⟨Φ, d, σ, S, .refl .., r, h⟩ (plainName.cls hp)) (plainName.debug hp)

/-! ### operators -/
noncomputable def BinIs (K : Act) (op : Operator) (d₁ d₂ d : D) : Prop := ∀ F Φ σ s v₁ v₂ (P : Value → Shared → Prop), St K F Φ σ s → RV Φ v₁ d₁ → RV Φ v₂ d₂ →
  (∀ v s' Φ', St K F Φ' σ s' → FGrow F Φ Φ' → RV Φ' v d → P v s') → wpAny K.M K.A (binaryOp op v₁ v₂) P NoE s
theorem LE_bin {l r : Expr} {op : Operator} {pos : Pos} (h : LE K l (fun d₁ σ₁ => LE K r (fun d₂ σ₂ => ∃ d, BinIs K op d₁ d₂ d ∧ Q d σ₂) σ₁) σ) : LE K (.BinOp l op r pos) Q σ :=
  fun F Φ s S => wpAny_BinOp (h.use S fun v₁ s₁ Φ₁ d₁ σ₁ S₁ g₁ r₁ h₁ => h₁.use S₁ fun v₂ s₂ Φ₂ d₂ σ₂ S₂ g₂ r₂ zq => by
    with_reducible refine el_1_2 (zq) fun d hb hq => ?_
    try clear zq
    exact hb F Φ₂ σ₂ s₂ v₁ v₂ _ S₂ (r₁.mono g₂.1) r₂ fun v s' Φ' S' g' r' => ⟨Φ', d, σ₂, S', (g₁.trans g₂).trans g', r', hq⟩)
theorem bin_int2 {op : Operator} {a b c : Int} (h : ∀ (s : Shared) (t u : Tok) (P : Value → Shared → Prop), P (.int c s.toks) { s with toks := s.toks + 1 } → wpAny K.M K.A (binaryOp op (.int a t) (.int b u)) P NoE s) : BinIs K op (.int a) (.int b) (.int c) := fun F Φ σ s v₁ v₂ P S r₁ r₂ k => by
  (with_reducible refine el_1_1 (r₁.i) fun t oq15 => ?_); obtain rfl := oq15; (with_reducible refine el_1_1 (r₂.i) fun u oq16 => ?_); obtain rfl := oq16; exact h s t u P (k _ _ _ S.withToks (.refl ..) (.int _ _))
theorem bin_add {a b : Int} : BinIs K .Add (.int a) (.int b) (.int (a + b)) := bin_int2 fun s t u P k => PyProof.Rows.add_int k
theorem bin_sub {a b : Int} : BinIs K .Sub (.int a) (.int b) (.int (a - b)) := bin_int2 fun s t u P k => PyProof.Rows.sub_int k
theorem bin_mul {a b : Int} (hm : IntMulOk a b) : BinIs K .Mult (.int a) (.int b) (.int (a * b)) := bin_int2 fun s t u P k => PyProof.Rows.mul_int k hm
theorem bin_mod {a b : Int} (hb : b ≠ 0) : BinIs K .Mod (.int a) (.int b) (.int (a.fmod b)) := bin_int2 fun s t u P k => PyProof.Rows.mod_int' hb k
theorem bin_pow {a b : Int} (hb : 0 ≤ b) (hsz : (Builtin.Int.intBits a : Int) * b ≤ 2 ^ 27) : BinIs K .Pow (.int a) (.int b) (.int (a ^ b.toNat)) := bin_int2 fun s t u P k => PyProof.Rows.pow_int hb hsz k
theorem bin_shl {a b : Int} (hb : 0 ≤ b) (hsz : (Builtin.Int.intBits a : Int) + b ≤ 2 ^ 27) : BinIs K .LShift (.int a) (.int b) (.int (a * 2 ^ b.toNat)) := bin_int2 fun s t u P k => PyProof.Rows.lshift_int hb hsz k
theorem bin_shr {a b : Int} (hb : 0 ≤ b) : BinIs K .RShift (.int a) (.int b) (.int (a.fdiv (2 ^ b.toNat))) := bin_int2 fun s t u P k => PyProof.Rows.rshift_int hb k
theorem bin_xor {a b : Int} : BinIs K .BitXor (.int a) (.int b) (.int (Builtin.bitXor a b)) := bin_int2 fun s t u P k => PyProof.Rows.xor_int k
theorem bin_div {a b : Int} (hb : b ≠ 0) (hp : Builtin.divisionGoesByPylong a b = false) : BinIs K .FloorDiv (.int a) (.int b) (.int (a.fdiv b)) := bin_int2 fun s t u P k => PyProof.Rows.floordiv_int hb k (.inl hp)
theorem bin_cat {x y : Str} (hs : x.length + y.length ≤ sizeLine) : BinIs K .Add (.str x) (.str y) (.str (x ++ y)) := fun F Φ σ s v₁ v₂ P S r₁ r₂ k => by
  (with_reducible refine el_1_1 (r₁.s) fun t oq17 => ?_); obtain rfl := oq17; (with_reducible refine el_1_1 (r₂.s) fun u oq18 => ?_); obtain rfl := oq18; exact PyProof.Rows.add_str (fun t' tk => k _ _ _ S.withToks (.refl ..) (.str _ _)) hs

noncomputable def UnIs (K : Act) (op : UnaryOp) (d₁ d : D) : Prop := ∀ F Φ σ s v₁ (P : Value → Shared → Prop), St K F Φ σ s → RV Φ v₁ d₁ →
  (∀ v s' Φ', St K F Φ' σ s' → FGrow F Φ Φ' → RV Φ' v d → P v s') → wpAny K.M K.A (unaryOp op v₁) P NoE s
theorem LE_un {x : Expr} {op : UnaryOp} {pos : Pos} (h : LE K x (fun d₁ σ₁ => ∃ d, UnIs K op d₁ d ∧ Q d σ₁) σ) : LE K (.UnaryOp op x pos) Q σ :=
  fun F Φ s S => by
    show wpAny K.M K.A (do let v ← eval x K.env; standAt pos; holding [v] (unaryOp op v)) _ _ _
    exact wpAny_bind (h.use S fun v₁ s₁ Φ₁ d₁ σ₁ S₁ g₁ r₁ ⟨d, hb, hq⟩ => wpAny_bind (wpAny_standAt (wpAny_holding (hb F Φ₁ σ₁ s₁ v₁ _ S₁ r₁ fun v s' Φ' S' g' r' => ⟨Φ', d, σ₁, S', g₁.trans g', r', hq⟩))))
theorem un_inv {a : Int} : UnIs K .Invert (.int a) (.int (Builtin.bitNot a)) := fun F Φ σ s v₁ P S r₁ k => by
  (with_reducible refine el_1_1 (r₁.i) fun t oq19 => ?_); obtain rfl := oq19; exact PyProof.Rows.invert_int (k _ _ _ S.withToks (.refl ..) (.int _ _))
end

noncomputable def setV : List (Str × D) → Str → D → List (Str × D)
  | [], x, d => [(x, d)]
  | (y, e) :: r, x, d => if x == y then (y, d) :: r else (y, e) :: setV r x d
theorem setV_lookup (x : Str) (d : D) (y : Str) : ∀ l : List (Str × D), (setV l x d).lookup y = if y = x then some d else l.lookup y
  | [] => by
    unfold setV
    rw [List.lookup_cons]
    by_cases h : y = x
    · subst h; simp
    · have : (y == x) = false := beq_eq_false_iff_ne.mpr h
      simp [this, h]
  | (z, e) :: r => by
    unfold setV
    cases hz : x == z with
    | true =>
      have hz' := eq_of_beq hz
      subst hz'
      simp only [if_true, List.lookup_cons]
      by_cases h : y = x
      · subst h; simp
      · have : (y == x) = false := beq_eq_false_iff_ne.mpr h
        simp [this, h]
    | false =>
      have hz' : x ≠ z := beq_eq_false_iff_ne.mp hz
      simp only [Bool.false_eq_true, if_false, List.lookup_cons]
      by_cases h : y = z
      · subst h
        have : ¬ y = x := fun q => hz' q.symm
        simp [this]
      · have : (y == z) = false := beq_eq_false_iff_ne.mpr h
        simp [this, setV_lookup x d y r]
noncomputable def Sig.set (σ : Sig) (x : Str) (d : D) : Sig := { σ with vars := setV σ.vars x d }

theorem ns_unique {h : Heap} {a : Addr} {m m' : Str → Option Value} (x : h.Ns a m) (y : h.Ns a m') : m = m' := by
  refine el_3_4 (x) fun o es ep e hd _ hm => ?_
  try clear x
  refine el_3_4 (y) fun o' es' ep' e' hd' _ hm' => ?_
  try clear y
  rw [e] at e'; cases e'
  rw [hd] at hd'; cases hd'
  funext n; rw [← hm, ← hm']

section
variable {K : Act} {F Φ Φ' : FMap} {σ : Sig} {s : Shared} {h' : Heap} {tk : Nat} {a : Addr}

theorem St.ne_of_mem (S : St K F Φ σ s) (ha : a ∈ K.muts σ) : (∀ b o, Φ b = some o → b ≠ a) ∧ (∀ b o, F b = some o → b ≠ a) ∧ (∀ t ∈ K.G.tabs, t.tab ≠ a) := by
  with_reducible refine el_0_4 (S.mu a ha) fun h1 h2 _ h4 => ?_
  exact ⟨fun b o e q => (by rw [q, h1] at e; cases e), fun b o e q => (by rw [q, h2] at e; cases e), h4⟩

/-- the parts that stand when one mutable thing is changed -/
theorem St.upd (S : St K F Φ σ s) (ha : a ∈ K.muts σ) (hx : Heap.ExtBut a s.heap h') (hz : ∃ o, h'.get? a = some o) :
    GS K.G Φ { s with heap := h', toks := tk } ∧ FIn F h' ∧ (∀ b ∈ K.muts σ, Φ b = none ∧ F b = none ∧ (∃ o, h'.get? b = some o) ∧ ∀ t ∈ K.G.tabs, t.tab ≠ b) := by
  with_reducible refine el_0_3 (S.ne_of_mem ha) fun n1 n2 n3 => ?_
  refine ⟨⟨?_, S.gs.gr, fun b o e => hx _ _ (n1 _ _ e) (S.gs.sub b o e), fun t ht => ⟨(S.gs.tab t ht).1.keep (FLe.refl _) fun o e => hx _ _ (n3 t ht) e, (S.gs.tab t ht).2⟩⟩, fun b o e => hx _ _ (n2 _ _ e) (S.keep b o e), fun b hb => ?_⟩
  · with_reducible refine el_2_1 (S.gs.rest) fun h t e => ?_
    exact ⟨h', tk, by rw [e]⟩
  · with_reducible refine el_0_4 (S.mu b hb) fun h1 h2 oq20 h4 => ?_
    obtain ⟨o, h3⟩ := oq20
    refine ⟨h1, h2, ?_, h4⟩
    by_cases hb' : b = a
    · rw [hb']; exact hz
    · exact ⟨o, hx _ _ hb' h3⟩

theorem St.locals_ne_cell (S : St K F Φ σ s) {x : Str} {c : Addr} (h : K.mc.lookup x = some c) : K.env.locals ≠ c := fun q => by
  have nd := S.nd
  unfold Act.muts at nd
  exact (List.nodup_cons.mp nd).1 (List.mem_append_left _ (List.mem_map.mpr ⟨_, lookup_mem h, q.symm⟩))
theorem St.locals_ne_own (S : St K F Φ σ s) {p : Addr × OD} (h : p ∈ σ.own) : K.env.locals ≠ p.1 := fun q => by
  have nd := S.nd
  unfold Act.muts at nd
  exact (List.nodup_cons.mp nd).1 (List.mem_append_right _ (List.mem_map.mpr ⟨_, h, q.symm⟩))
theorem St.cell_ne_own (S : St K F Φ σ s) {x : Str} {c : Addr} (h : K.mc.lookup x = some c) {p : Addr × OD} (hp : p ∈ σ.own) : c ≠ p.1 := fun q => by
  have nd := S.nd
  unfold Act.muts at nd
  have nd2 := (List.nodup_cons.mp nd).2
  exact (List.nodup_append.mp nd2).2.2 c (List.mem_map.mpr ⟨_, lookup_mem h, rfl⟩) p.1 (List.mem_map.mpr ⟨_, hp, rfl⟩) q
theorem St.cell_unique (S : St K F Φ σ s) {x y : Str} {c : Addr} (h : K.mc.lookup x = some c) (k : K.mc.lookup y = some c) : x = y := by
  have nd := S.nd
  unfold Act.muts at nd
  have nd2 := (List.nodup_append.mp (List.nodup_cons.mp nd).2).1
  have key : ∀ (l : List (Str × Addr)), (l.map (·.2)).Nodup → ∀ {x y : Str} {c : Addr}, (x, c) ∈ l → (y, c) ∈ l → x = y := by
    intro l
    induction l with
    | nil => intro _ x y c h; cases h
    | cons p r ih =>
      intro hn x y c h1 h2
      rw [List.map_cons, List.nodup_cons] at hn
      rcases List.mem_cons.mp h1 with h1 | h1 <;> rcases List.mem_cons.mp h2 with h2 | h2
      · rw [← h1] at h2; cases h2; rfl
      · exact absurd (List.mem_map.mpr ⟨_, h2, by rw [← h1]⟩) hn.1
      · exact absurd (List.mem_map.mpr ⟨_, h1, by rw [← h2]⟩) hn.1
      · exact ih hn.2 h1 h2
  exact key K.mc nd2 (lookup_mem h) (lookup_mem k)

theorem St.setLocal (S : St K F Φ σ s) {x : Str} {v : Value} {d : D} {m : Str → Option Value} (hk : K.env.kindOf x = some .local) (hm : s.heap.Ns K.env.locals m) (hn : h'.Ns K.env.locals (fun y => if y = x then some v else m y)) (hs : Heap.SameBut K.env.locals s.heap h') (r : RV Φ v d) :
    St K F Φ (σ.set x d) { s with heap := h', toks := tk } := by
  have hx := hs.extBut
  have hz : ∃ o, h'.get? K.env.locals = some o := let ⟨o, _, _, e, _⟩ := hn; ⟨o, e⟩
  with_reducible refine el_0_3 (S.upd (tk := tk) St.locals_mem hx hz) fun g kf mu => ?_
  with_reducible refine el_0_3 (S.ne_of_mem St.locals_mem) fun n1 n2 n3 => ?_
  refine ⟨g, kf, S.fcs, S.tabF, mu, S.nd, ⟨_, hn⟩, fun y c e => ?_, fun y e' he => ?_, fun p hp => ?_⟩
  · with_reducible refine el_1_1 (S.cells y c e) fun v' hv' => ?_
    exact ⟨v', hv'.sameBut hs (S.locals_ne_cell e).symm⟩
  · have he' : (setV σ.vars x d).lookup y = some e' := he
    rw [setV_lookup] at he'
    by_cases hy : y = x
    · subst hy
      rw [if_pos rfl] at he'
      cases he'
      refine ⟨v, ?_, r⟩
      unfold VarAt
      rw [hk]
      exact ⟨_, hn, by simp⟩
    · rw [if_neg hy] at he'
      with_reducible refine el_1_2 (S.vars y e' he') fun v' V r' => ?_
      refine ⟨v', ?_, r'⟩
      unfold VarAt at V ⊢
      split at V
      · with_reducible refine el_1_2 (V) fun m' hm' hv => ?_
        try clear V
        rw [ns_unique hm' hm] at hv
        exact ⟨_, hn, by simp only [if_neg hy]; exact hv⟩
      · with_reducible refine el_1_3 (V) fun c hc hcell hd => ?_
        try clear V
        refine ⟨c, hc, hcell.sameBut hs ?_, hd⟩
        rcases hd with hd | hd
        · exact (S.locals_ne_cell hd).symm
        · with_reducible refine el_1_1 (S.fcs c hd) fun o q => ?_
          exact n2 _ _ q
      · with_reducible refine el_1_3 (V) fun c hc hcell hd => ?_
        try clear V
        with_reducible refine el_1_1 (S.fcs c hd) fun o q => ?_
        exact ⟨c, hc, hcell.sameBut hs (n2 _ _ q), hd⟩
      · exact V
  · exact (S.own p hp).keep fun o e => hx _ _ (S.locals_ne_own hp).symm e

theorem St.setCell (S : St K F Φ σ s) {x : Str} {v : Value} {d : D} {c : Addr} (hk : K.env.kindOf x = some .cell) (hc : K.env.cells.lookup x = some c) (hmc : K.mc.lookup x = some c) (hn : h'.IsCell c (some v)) (hs : Heap.SameBut c s.heap h') (r : RV Φ v d) :
    St K F Φ (σ.set x d) { s with heap := h', toks := tk } := by
  have hx := hs.extBut
  have hz : ∃ o, h'.get? c = some o := let ⟨o, e, _⟩ := hn; ⟨o, e⟩
  with_reducible refine el_0_3 (S.upd (tk := tk) (St.cell_mem hmc) hx hz) fun g kf mu => ?_
  with_reducible refine el_0_3 (S.ne_of_mem (St.cell_mem (σ := σ) hmc)) fun n1 n2 n3 => ?_
  have hL := S.locals_ne_cell hmc
  refine ⟨g, kf, S.fcs, S.tabF, mu, S.nd, ?_, fun y c' e => ?_, fun y e' he => ?_, fun p hp => ?_⟩
  · with_reducible refine el_1_1 (S.ns) fun m hm => ?_
    exact ⟨m, hm.sameBut hs hL⟩
  · with_reducible refine el_1_1 (S.cells y c' e) fun v' hv' => ?_
    by_cases hcc : c' = c
    · subst hcc; exact ⟨_, hn⟩
    · exact ⟨v', hv'.sameBut hs hcc⟩
  · have he' : (setV σ.vars x d).lookup y = some e' := he
    rw [setV_lookup] at he'
    by_cases hy : y = x
    · subst hy
      rw [if_pos rfl] at he'
      cases he'
      refine ⟨v, ?_, r⟩
      unfold VarAt
      rw [hk]
      exact ⟨c, hc, hn, .inl hmc⟩
    · rw [if_neg hy] at he'
      with_reducible refine el_1_2 (S.vars y e' he') fun v' V r' => ?_
      refine ⟨v', ?_, r'⟩
      unfold VarAt at V ⊢
      split at V
      · with_reducible refine el_1_2 (V) fun m' hm' hv => ?_
        try clear V
        exact ⟨m', hm'.sameBut hs hL, hv⟩
      · with_reducible refine el_1_3 (V) fun c' hc' hcell hd => ?_
        try clear V
        refine ⟨c', hc', hcell.sameBut hs ?_, hd⟩
        rcases hd with hd | hd
        · intro q
          subst q
          exact hy (S.cell_unique hd hmc)
        · with_reducible refine el_1_1 (S.fcs c' hd) fun o q => ?_
          exact n2 _ _ q
      · with_reducible refine el_1_3 (V) fun c' hc' hcell hd => ?_
        try clear V
        with_reducible refine el_1_1 (S.fcs c' hd) fun o q => ?_
        exact ⟨c', hc', hcell.sameBut hs (n2 _ _ q), hd⟩
      · exact V
  · exact (S.own p hp).keep fun o e => hx _ _ (S.cell_ne_own hmc hp).symm e

/-- where a name of the frame may be stored -/
noncomputable def Stores (K : Act) (x : Str) : Prop := K.env.kindOf x = some .local ∨ ∃ c, K.env.kindOf x = some .cell ∧ K.env.cells.lookup x = some c ∧ K.mc.lookup x = some c

theorem wpAny_store (hk : K.env.scope.kind = .function) (S : St K F Φ σ s) {x : Str} {v : Value} {d : D} (hst : Stores K x) (r : RV Φ v d) {P : Unit → Shared → Prop} {E : Value → Shared → Prop}
    (h : ∀ s', St K F Φ (σ.set x d) s' → P () s') : wpAny K.M K.A (storeName K.env x v) P E s := by
  rcases hst with hl | ⟨c, hl, hc, hmc⟩
  · with_reducible refine el_1_1 (S.ns) fun m hm => ?_
    exact wpAny_storeName_local hl hm (fun h' hn hs => h _ (S.setLocal hl hm hn hs r)) (by rw [hk]; rfl)
  · with_reducible refine el_1_1 (S.cells x c hmc) fun v₀ hv₀ => ?_
    exact wpAny_storeName_cell hk hl hc hv₀ fun h' hn hs => h _ (S.setCell (tk := s.toks) hl hc hmc hn hs r)

/-! own things -/
theorem set_map {a : Addr} {od₀ od : OD} : ∀ {l : List (Addr × OD)} {i : Nat}, l[i]? = some (a, od₀) → (l.set i (a, od)).map (·.1) = l.map (·.1)
  | [], _, h => by simp at h
  | p :: r, 0, h => by simp at h; subst h; rfl
  | p :: r, i + 1, h => by simp at h; simpa using set_map (od := od) h
theorem set_mem {a : Addr} {od₀ od : OD} : ∀ {l : List (Addr × OD)} {i : Nat} {p : Addr × OD}, (l.map (·.1)).Nodup → l[i]? = some (a, od₀) → p ∈ l.set i (a, od) → p = (a, od) ∨ (p ∈ l ∧ p.1 ≠ a)
  | [], _, _, _, h, _ => by simp at h
  | q :: r, 0, p, nd, h, hp => by
    simp at h; subst h
    rw [List.map_cons, List.nodup_cons] at nd
    rcases List.mem_cons.mp hp with hp | hp
    · exact .inl hp
    · exact .inr ⟨.tail _ hp, fun e => nd.1 (List.mem_map.mpr ⟨p, hp, e⟩)⟩
  | q :: r, i + 1, p, nd, h, hp => by
    simp at h
    rw [List.map_cons, List.nodup_cons] at nd
    rcases List.mem_cons.mp hp with hp | hp
    · subst hp
      exact .inr ⟨.head _, fun e => nd.1 (List.mem_map.mpr ⟨_, List.mem_of_getElem? h, e.symm⟩)⟩
    · exact (set_mem nd.2 h hp).imp id fun x => ⟨.tail _ x.1, x.2⟩
noncomputable def Sig.put (σ : Sig) (i : Nat) (a : Addr) (od : OD) : Sig := { σ with own := σ.own.set i (a, od) }
theorem erase_mem {a : Addr} {od₀ : OD} : ∀ {l : List (Addr × OD)} {i : Nat} {p : Addr × OD}, (l.map (·.1)).Nodup → l[i]? = some (a, od₀) → p ∈ l.eraseIdx i → p ∈ l ∧ p.1 ≠ a
  | [], _, _, _, h, _ => by simp at h
  | q :: r, 0, p, nd, h, hp => by
    simp at h; subst h
    rw [List.map_cons, List.nodup_cons] at nd
    have hp' : p ∈ r := hp
    exact ⟨.tail _ hp', fun e => nd.1 (List.mem_map.mpr ⟨p, hp', e⟩)⟩
  | q :: r, i + 1, p, nd, h, hp => by
    simp at h
    rw [List.map_cons, List.nodup_cons] at nd
    rcases List.mem_cons.mp hp with hp | hp
    · subst hp
      exact ⟨.head _, fun e => nd.1 (List.mem_map.mpr ⟨_, List.mem_of_getElem? h, e.symm⟩)⟩
    · have := erase_mem nd.2 h hp
      exact ⟨.tail _ this.1, this.2⟩
noncomputable def Sig.del (σ : Sig) (i : Nat) : Sig := { σ with own := σ.own.eraseIdx i }

theorem St.own_nodup (S : St K F Φ σ s) : (σ.own.map (·.1)).Nodup := by
  have nd := S.nd
  unfold Act.muts at nd
  exact (List.nodup_append.mp (List.nodup_cons.mp nd).2).2.1

theorem St.setOwn (S : St K F Φ σ s) {od₀ od : OD} {i : Nat} (hi : σ.own[i]? = some (a, od₀)) (hx : Heap.ExtBut a s.heap h') (ho : OwnIs Φ h' a od) :
    St K F Φ (σ.put i a od) { s with heap := h', toks := tk } := by
  have hm := List.mem_of_getElem? hi
  have ha : a ∈ K.muts σ := St.own_mem hm
  with_reducible refine el_0_3 (S.upd (tk := tk) ha hx ho.there) fun g kf mu => ?_
  with_reducible refine el_0_3 (S.ne_of_mem ha) fun n1 n2 n3 => ?_
  have hmuts : K.muts (σ.put i a od) = K.muts σ := by
    unfold Act.muts Sig.put
    simp only [set_map hi]
  have hL : K.env.locals ≠ a := S.locals_ne_own hm
  refine ⟨g, kf, S.fcs, S.tabF, by rw [hmuts]; exact mu, by rw [hmuts]; exact S.nd, ?_, fun y c e => ?_, fun y d e => ?_, fun p hp => ?_⟩
  · with_reducible refine el_1_1 (S.ns) fun m hn => ?_
    exact ⟨m, hn.extBut hx hL⟩
  · with_reducible refine el_2_2 (S.cells y c e) fun v o e' r => ?_
    exact ⟨v, o, hx _ _ (S.cell_ne_own e hm) e', r⟩
  · refine el_1_2 (S.vars y d e) fun v V r => ?_
    exact ⟨v, V.keepBut (fun o e => hx _ _ hL e) (fun y c hc o e => hx _ _ (S.cell_ne_own hc hm) e) (fc_keep S.fcs S.keep kf), r⟩
  · rcases set_mem S.own_nodup hi hp with rfl | ⟨hp, hne⟩
    · exact ho
    · exact (S.own p hp).keep fun o e => hx _ _ hne e

/-- a new thing of one's own -/
noncomputable def Sig.new (σ : Sig) (a : Addr) (od : OD) : Sig := { σ with own := (a, od) :: σ.own }
theorem St.newOwn (S : St K F Φ σ s) {od : OD} (ha : s.heap.get? a = none) (hk : ∀ b o, s.heap.get? b = some o → h'.get? b = some o) (ho : OwnIs Φ h' a od) : St K F Φ (σ.new a od) { s with heap := h', toks := tk } := by
  have S' : St K F Φ σ { s with heap := h', toks := tk } := S.ext hk
  have hne : ∀ b ∈ K.muts σ, b ≠ a := fun b hb q => by
    with_reducible refine el_0_4 (S.mu b hb) fun _ _ oq21 _ => ?_
    obtain ⟨o, e⟩ := oq21
    rw [q, ha] at e; cases e
  have hmem : ∀ b, b ∈ K.muts (σ.new a od) → b = a ∨ b ∈ K.muts σ := fun b hb => by
    simp only [Act.muts, Sig.new, List.map_cons, List.mem_cons, List.mem_append] at hb ⊢
    rcases hb with h | h | h | h
    · exact .inr (.inl h)
    · exact .inr (.inr (.inl h))
    · exact .inl h
    · exact .inr (.inr (.inr h))
  refine ⟨S'.gs, S'.keep, S'.fcs, S'.tabF, fun b hb => ?_, ?_, S'.ns, S'.cells, S'.vars, fun p hp => ?_⟩
  · rcases hmem b hb with rfl | hb
    · refine ⟨?_, ?_, ho.there, fun t ht q => ?_⟩
      · cases z : Φ b with
        | none => rfl
        | some o => rw [S.gs.sub _ _ z] at ha; cases ha
      · cases z : F b with
        | none => rfl
        | some o => rw [S.keep _ _ z] at ha; cases ha
      · obtain ⟨⟨ps, e, _⟩, _⟩ := S.gs.tab t ht
        rw [q, ha] at e; cases e
    · exact S'.mu b hb
  · have nd := S.nd
    simp only [Act.muts, Sig.new, List.map_cons] at nd ⊢
    rw [List.nodup_cons] at nd ⊢
    have hap := List.nodup_append.mp nd.2
    refine ⟨fun hm => ?_, List.nodup_append.mpr ⟨hap.1, ?_, fun x hx y hy => ?_⟩⟩
    · rcases List.mem_append.mp hm with h | h
      · exact nd.1 (List.mem_append_left _ h)
      · rcases List.mem_cons.mp h with h | h
        · exact hne _ St.locals_mem h
        · exact nd.1 (List.mem_append_right _ h)
    · refine List.nodup_cons.mpr ⟨fun h => hne a ?_ rfl, hap.2.1⟩
      with_reducible refine el_1_2 (List.mem_map.mp h) fun p hp q => ?_
      rw [← q]; exact St.own_mem hp
    · rcases List.mem_cons.mp hy with rfl | hy
      · exact hne x (by simp only [Act.muts, List.mem_cons, List.mem_append]; exact .inr (.inl hx))
      · exact hap.2.2 x hx y hy
  · rcases List.mem_cons.mp hp with rfl | hp
    · exact ho
    · exact S'.own p hp

theorem nodup_eraseIdx {l : List Addr} (h : l.Nodup) (i : Nat) : (l.eraseIdx i).Nodup := List.Sublist.nodup (List.eraseIdx_sublist ..) h
theorem map_eraseIdx' {α β : Type} (f : α → β) : ∀ (l : List α) (i : Nat), (l.eraseIdx i).map f = (l.map f).eraseIdx i
  | [], _ => rfl
  | _ :: _, 0 => rfl
  | a :: l, i + 1 => by simp [map_eraseIdx' f l i]
noncomputable def OD.toD : OD → D
  | .list l => .list l
  | .dict l => .dict l
/-- what was one's own is frozen -/
theorem St.freeze (S : St K F Φ σ s) {od : OD} {i : Nat} (hi : σ.own[i]? = some (a, od)) : ∃ Φ', St K F Φ' (σ.del i) s ∧ FGrow F Φ Φ' ∧ RV Φ' (.ref a) od.toD := by
  have hm := List.mem_of_getElem? hi
  have ha : a ∈ K.muts σ := St.own_mem hm
  with_reducible refine el_0_4 (S.mu a ha) fun h1 h2 _ h4 => ?_
  have ho := S.own _ hm
  with_reducible refine el_1_1 (ho.there) fun o e => ?_
  have le : FLe Φ (Φ.ins a o) := fun b o' q => by
    by_cases hb : b = a
    · rw [hb, h1] at q; cases q
    · rw [FMap.ins_ne _ _ hb]; exact q
  have gr : FGrow F Φ (Φ.ins a o) := ⟨le, fun b o' q => by
    by_cases hb : b = a
    · rw [hb]; exact .inr h2
    · rw [FMap.ins_ne _ _ hb] at q; exact .inl q⟩
  have sub : ∀ b, b ∈ K.muts (σ.del i) → b ∈ K.muts σ ∧ b ≠ a := fun b hb => by
    simp only [Act.muts, Sig.del, List.mem_cons, List.mem_append] at hb ⊢
    rcases hb with h | h | h
    · exact ⟨.inl h, h ▸ S.locals_ne_own hm⟩
    · refine ⟨.inr (.inl h), ?_⟩
      have nd := S.nd
      unfold Act.muts at nd
      exact (List.nodup_append.mp (List.nodup_cons.mp nd).2).2.2 b h a (List.mem_map.mpr ⟨_, hm, rfl⟩)
    · with_reducible refine el_1_2 (List.mem_map.mp h) fun p hp oq22 => ?_
      obtain rfl := oq22
      have := erase_mem S.own_nodup hi hp
      exact ⟨.inr (.inr (List.mem_map.mpr ⟨p, this.1, rfl⟩)), this.2⟩
  refine ⟨Φ.ins a o, ⟨⟨S.gs.rest, fun b o' q => le _ _ (S.gs.gr b o' q), fun b o' q => ?_, fun t ht => ⟨(S.gs.tab t ht).1.keep le fun _ e => e, ?_⟩⟩, S.keep, S.fcs, S.tabF, fun b hb => ?_, ?_, S.ns, S.cells, fun x d q => ?_, fun p hp => ?_⟩, gr, ?_⟩
  · by_cases hb : b = a
    · rw [hb] at q ⊢; rw [FMap.ins_self] at q; cases q; exact e
    · rw [FMap.ins_ne _ _ hb] at q; exact S.gs.sub b o' q
  · rw [FMap.ins_ne _ _ (h4 t ht)]; exact (S.gs.tab t ht).2
  · with_reducible refine el_0_2 (sub b hb) fun hb1 hb2 => ?_
    with_reducible refine el_0_4 (S.mu b hb1) fun m1 m2 m3 m4 => ?_
    exact ⟨by rw [FMap.ins_ne _ _ hb2]; exact m1, m2, m3, m4⟩
  · have nd := S.nd
    simp only [Act.muts, Sig.del] at nd ⊢
    rw [List.nodup_cons] at nd ⊢
    have hap := List.nodup_append.mp nd.2
    have hsub : ∀ x, x ∈ (σ.own.eraseIdx i).map (·.1) → x ∈ σ.own.map (·.1) := fun x hx => by
      rw [map_eraseIdx'] at hx; exact List.mem_of_mem_eraseIdx hx
    refine ⟨fun hm' => nd.1 ?_, List.nodup_append.mpr ⟨hap.1, ?_, fun x hx y hy => hap.2.2 x hx y (hsub y hy)⟩⟩
    · rcases List.mem_append.mp hm' with h | h
      · exact List.mem_append_left _ h
      · exact List.mem_append_right _ (hsub _ h)
    · rw [map_eraseIdx']; exact nodup_eraseIdx hap.2.1 i
  · refine el_1_2 (S.vars x d q) fun v V r => ?_
    exact ⟨v, V, r.mono le⟩
  · exact (S.own p (erase_mem S.own_nodup hi hp).1).mono le
  · cases od with
    | list l =>
      refine el_2_2 (ho) fun vs n e' r => ?_
      try clear ho
      rw [e] at e'; cases e'
      exact .list (FMap.ins_self ..) (r.mono le)
    | dict l =>
      refine el_3_5 (ho) fun o' es n e' c q r z => ?_
      try clear ho
      rw [e] at e'; cases e'
      exact .dict (FMap.ins_self ..) c q (r.mono le) z.1 z.2
/-- a name may be told anew -/
theorem St.retell (S : St K F Φ σ s) {x : Str} {d d' : D} (hx : σ.vars.lookup x = some d) (h : ∀ v, RV Φ v d → RV Φ v d') : St K F Φ (σ.set x d') s :=
  ⟨S.gs, S.keep, S.fcs, S.tabF, S.mu, S.nd, S.ns, S.cells, fun y e he => by
    have he' : (setV σ.vars x d').lookup y = some e := he
    rw [setV_lookup] at he'
    by_cases hy : y = x
    · subst hy
      rw [if_pos rfl] at he'; cases he'
      with_reducible refine el_1_2 (S.vars y d hx) fun v V r => ?_
      exact ⟨v, V, h v r⟩
    · rw [if_neg hy] at he'; exact S.vars y e he', S.own⟩
theorem LX_freeze {l : List Stmt} {R : LF → Sig → Prop} (x : Str) {od : OD} {i : Nat} (hx : σ.vars.lookup x = some (.raw (.ref a))) (hi : σ.own[i]? = some (a, od)) (h : LX K l R ((σ.del i).set x od.toD)) : LX K l R σ :=
  fun F Φ s S => by
    with_reducible refine el_1_3 (S.freeze hi) fun Φ' S' g r => ?_
    have S'' := S'.retell (x := x) (d := .raw (.ref a)) (d' := od.toD) hx fun v q => by cases q; exact r
    exact h.use S'' fun _ _ _ _ _ a b c q => ⟨_, _, _, a, g.trans b, c, q⟩
end

section
variable {K : Act} {F Φ Φ' : FMap} {σ : Sig} {s : Shared} {Q : D → Sig → Prop} {R : LF → Sig → Prop} {sc : Scope} {n : Nat} {rest : List Stmt}

theorem KF.fn (hK : KF K sc n) : K.env.scope.kind = .function := by rw [hK.scope]; exact hK.kind
theorem KF.kindOf (hK : KF K sc n) {x : Str} {k : NameKind} (h : sc.names.lookup x = some k) : K.env.kindOf x = some k := by
  unfold Env.kindOf; rw [hK.scope]; exact h
theorem KF.less {m : Nat} (hK : KF K sc n) (h : m ≤ n) : KF K sc m :=
  ⟨hK.scope, hK.kind, hK.glob, hK.blt, hK.hd, by have := hK.depth; (first | lia | omega), by have := hK.units; (first | lia | omega)⟩
/-! ### statements -/
theorem LX_nil (h : R .next σ) : LX K [] R σ := fun F Φ s S => wpAny_execs_nil ⟨Φ, .next, σ, S, .refl .., trivial, h⟩
@[reducible] noncomputable def LF.seq (f : LF) (k : Sig → Prop) (R : LF → Sig → Prop) (σ : Sig) : Prop := match f with
  | .next => k σ
  | f => R f σ
/-- one statement, then the rest -/
noncomputable def LS (K : Act) (st : Stmt) (R : LF → Sig → Prop) (σ : Sig) : Prop :=
  ∀ F Φ s, St K F Φ σ s → wpAny K.M K.A (exec st K.env) (PX K F Φ R) NoE s
theorem LX_cons {st : Stmt} (h : LS K st (fun f σ' => f.seq (fun σ'' => LX K rest R σ'') R σ') σ) : LX K (st :: rest) R σ :=
  fun F Φ s S => wpAny_execs_cons (wpAny_mono (h F Φ s S) (fun f s' zq => by
    obtain ⟨Φ', lf, σ', S', g, fl, r⟩ := zq
    cases f <;> cases lf <;> first | exact fl.elim | skip
    · exact LX.use r S' fun _ _ _ _ _ a b c q => ⟨_, _, _, a, g.trans b, c, q⟩
    · exact ⟨Φ', .brk, σ', S', g, trivial, r⟩
    · exact ⟨Φ', .cont, σ', S', g, trivial, r⟩
    · exact ⟨Φ', .ret _, σ', S', g, fl, r⟩) fun _ _ x => x)

/-- a target takes a value -/
noncomputable def LA (K : Act) (tgt : Expr) (d : D) (k : Sig → Prop) (σ : Sig) : Prop :=
  ∀ F Φ s v, St K F Φ σ s → RV Φ v d → wpAny K.M K.A (assign tgt K.env v) (PA K F Φ k) NoE s
theorem LA_name {x : Str} {pos : Pos} {d : D} {k : Sig → Prop} (hK : KF K sc n) (hst : Stores K x) (h : k (σ.set x d)) : LA K (.Name x pos) d k σ :=
  fun F Φ s v S r => PyProof.Rows.assign_Name (wpAny_store hK.fn S hst r fun s' S' => ⟨Φ, _, S', .refl .., h⟩)
/-- names take the items of a tuple, in their order -/
noncomputable def setAll : List (Str × D) → List Str → List D → List (Str × D)
  | vs, x :: xs, d :: ds => setAll (setV vs x d) xs ds
  | vs, _, _ => vs
theorem isTuple_of {a : Addr} {ds : List D} (S : FIn Φ s.heap) (r : RV Φ (.ref a) (.tup ds)) : ∃ vs, s.heap.IsTuple a (List.toArray vs) ∧ RVs Φ vs ds := by
  cases r with
  | tup e c q r => exact ⟨_, ⟨_, S _ _ e, c, _, q⟩, r⟩
theorem ref_of_tup {v : Value} {ds : List D} (r : RV Φ v (.tup ds)) : ∃ a, v = .ref a := by cases r with | tup => exact ⟨_, rfl⟩
theorem assignEach_names (env : Env) : ∀ ns : List (Str × Pos), assignEach (ns.map fun p => Expr.Name p.1 p.2) env = ns.map fun p => (false, assign (.Name p.1 p.2) env)
  | [] => rfl
  | p :: r => by rw [List.map_cons, List.map_cons, ← assignEach_names env r]; rfl
theorem wpAny_names {k : Sig → Prop} (hK : KF K sc n) (ns : List (Str × Pos)) (vs : List Value) (ds : List D) (σ : Sig) (Φ : FMap) (s : Shared) (hl : ns.length = vs.length) (hst : ∀ p ∈ ns, Stores K p.1) (S : St K F Φ σ s) (rs : RVs Φ vs ds)
    (h : k { σ with vars := setAll σ.vars (ns.map (·.1)) ds }) : wpAny K.M K.A (assignInOrder (ns.map fun p => assign (.Name p.1 p.2) K.env) vs) (PA K F Φ k) NoE s := by
  induction ns generalizing vs ds σ Φ s with
  | nil => cases vs with
    | nil => obtain rfl := rs.nv; exact wpAny_pure ⟨Φ, σ, S, .refl .., h⟩
    | cons => exact (Nat.succ_ne_zero _ hl.symm).elim
  | cons p ns ih => cases vs with
    | nil => exact (Nat.succ_ne_zero _ hl).elim
    | cons v vs =>
      obtain ⟨d, ds, rfl, r, rs⟩ := rs.cv
      show wpAny K.M K.A (do holding vs (assign (.Name p.1 p.2) K.env v); assignInOrder (ns.map fun p => assign (.Name p.1 p.2) K.env) vs) _ _ _
      refine wpAny_bind (wpAny_holding (PyProof.Rows.assign_Name (wpAny_store hK.fn S (hst p (.head _)) r fun s' S' => ?_)))
      exact ih vs ds (σ.set p.1 _) Φ s' (Nat.succ.inj hl) (fun q hq => hst q (.tail _ hq)) S' rs h
theorem LA_tup {elts : List Expr} {x1 : Nat} {pos : Pos} {ds : List D} {ns : List (Str × Pos)} {k : Sig → Prop} (hK : KF K sc n) (hn : elts = ns.map fun p => Expr.Name p.1 p.2) (hl : ns.length = ds.length) (hst : ∀ p ∈ ns, Stores K p.1)
    (h : k { σ with vars := setAll σ.vars (ns.map (·.1)) ds }) : LA K (.Tuple elts x1 pos) (.tup ds) k σ :=
  fun F Φ s v S r => by
    with_reducible refine el_1_1 (ref_of_tup r) fun a oq23 => ?_
    obtain rfl := oq23
    with_reducible refine el_1_2 (isTuple_of S.gs.sub r) fun vs ht rs => ?_
    have hlen := rs.length
    rw [hn]
    refine wpAny_assign_Tuple hK.hd ht (by rw [assignEach_names]; simp [hl, hlen]) (by rw [assignEach_names]; exact List.findIdx?_eq_none_iff.mpr (by simp)) fun h' hx => ?_
    have hk : ∀ b o, s.heap.get? b = some o → h'.get? b = some o := fun b o e => hx b o (Nat.ne_of_lt (Heap.lt_size e)) e
    rw [assignEach_names, List.map_map]
    exact wpAny_names hK ns vs ds σ Φ _ (by rw [hl, hlen]) hst (S.ext (tk := s.toks) hk) rs h

theorem LS_assign {x : Str} {pos' pos : Pos} {value : Expr} (hK : KF K sc n) (hst : Stores K x) (h : LE K value (fun d σ' => R .next (σ'.set x d)) σ)
    (hs : swapsWith value (some (.Name x pos')) pos.line K.env = pure false := by rfl) : LS K (.Assign [.Name x pos'] value pos) R σ :=
  fun F Φ s S => wpAny_Assign_Name (h.use S fun v s' Φ' d σ' S' g r q => wpAny_store hK.fn S' hst r fun s'' S'' => ⟨Φ', .next, _, S'', g, trivial, q⟩) hs
theorem LS_assignT {elts : List Expr} {k : Nat} {tpos pos : Pos} {value : Expr} (h : LE K value (fun d σ' => LA K (.Tuple elts k tpos) d (fun σ'' => R .next σ'') σ') σ)
    (hs : swapsWithSole [.Tuple elts k tpos] value pos.line K.env = pure false := by rfl) (hw : swappedStores [.Tuple elts k tpos] value K.env = pure none := by rfl) : LS K (.Assign [.Tuple elts k tpos] value pos) R σ :=
  fun F Φ s S => PyProof.Rows.Assign_Tuple (h.use S fun v s' Φ' d σ' S' g r q => wpAny_mono (q F Φ' s' v S' r) (fun _ s'' ⟨Φ'', σ'', S'', g', z⟩ => ⟨Φ'', .next, σ'', S'', g.trans g', trivial, z⟩) fun _ _ x => x.elim) hs hw
theorem LS_assign2 {t₁ t₂ value : Expr} {pos : Pos} (h : LE K value (fun d σ' => LA K t₁ d (fun σ₁ => LA K t₂ d (fun σ₂ => R .next σ₂) σ₁) σ') σ)
    (he : (assignEach [t₁, t₂] K.env).map (·.2) = [assign t₁ K.env, assign t₂ K.env] := by rfl) (hw : swappedStores [t₁, t₂] value K.env = pure none := by rfl) : LS K (.Assign [t₁, t₂] value pos) R σ :=
  fun F Φ s S => wpAny_Assign_two (h.use S fun v s' Φ' d σ' S' g r q => wpAny_mono (q F Φ' s' v S' r) (fun _ s'' ⟨Φ'', σ'', S'', g', z⟩ => wpAny_mono (z F Φ'' s'' v S'' (r.mono g'.1)) (fun _ s₃ ⟨Φ₃, σ₃, S₃, g₃, z₃⟩ => ⟨Φ₃, .next, σ₃, S₃, (g.trans g').trans g₃, trivial, z₃⟩) fun _ _ x => x.elim) fun _ _ x => x.elim) he hw
theorem LS_ret {e : Expr} {pos : Pos} (h : LE K e (fun d σ' => R (.ret d) σ') σ) : LS K (.Return (some e) pos) R σ :=
  fun F Φ s S => wpAny_Return_some (h.use S fun v s' Φ' d σ' S' g r q => ⟨Φ', .ret d, σ', S', g, r, q⟩)
theorem LS_retN {pos : Pos} (h : R (.ret .none) σ) : LS K (.Return none pos) R σ :=
  fun F Φ s S => wpAny_Return_none ⟨Φ, .ret .none, σ, S, .refl .., .none, h⟩
theorem LS_if {test : Expr} {body orelse : List Stmt} {pos : Pos} (h : LT K test (fun b σ' => if b then LX K body R σ' else LX K orelse R σ') σ) : LS K (.If test body orelse pos) R σ :=
  fun F Φ s S => wpAny_If (h.use S fun b s' Φ' σ' S' g q => by
    cases b with
    | true => exact LX.use q S' fun _ _ _ _ _ a b c q => ⟨_, _, _, a, g.trans b, c, q⟩
    | false => exact LX.use q S' fun _ _ _ _ _ a b c q => ⟨_, _, _, a, g.trans b, c, q⟩)
/-- an expression for its effect: its value is None -/
theorem LS_expr {e : Expr} {pos : Pos} (hK : KF K sc n) (h : LE K e (fun d σ' => d = .none ∧ R .next σ') σ) (hs : swapsWith e none pos.line K.env = pure false := by rfl) : LS K (.Expr e pos) R σ :=
  fun F Φ s S => wpAny_Expr (h.use S fun v s' Φ' d σ' S' g r zq => by (with_reducible refine el_0_2 (zq) fun q z => ?_); try clear zq; subst q; cases r; exact ⟨Φ', .next, σ', S', g, trivial, z⟩) (by unfold interactive; rw [hK.fn]; rfl) hs

theorem LS_while {test : Expr} {body : List Stmt} {pos : Pos} (J : Nat → Sig → Prop) (k : Nat) (h0 : J k σ)
    (turn : ∀ m σ', J m σ' → LT K test (fun b σ₁ => if b then LX K body (fun f σ₂ => match f with
      | .next | .cont => ∃ m', m' < m ∧ J m' σ₂
      | .brk => R .next σ₂
      | .ret d => R (.ret d) σ₂) σ₁ else R .next σ₁) σ') : LS K (.While test body [] pos) R σ :=
  fun F Φ s S => by
    refine wpAny_While (codeAny_whileLoop (fun m s' => ∃ Φ' σ', St K F Φ' σ' s' ∧ FGrow F Φ Φ' ∧ J m σ') (fun m s' zq => ?_) k ⟨Φ, σ, S, .refl .., h0⟩); (with_reducible refine el_2_3 (zq) fun Φ' σ' S' g j => ?_); try clear zq
    refine (turn m σ' j).use S' fun b s₁ Φ₁ σ₁ S₁ g₁ q => ?_
    cases b with
    | true =>
      rw [if_pos rfl] at q
      rw [if_pos rfl]
      refine LX.use q S₁ fun f s₂ Φ₂ lf σ₂ S₂ g₂ fl r => ?_
      cases f <;> cases lf <;> first | exact fl.elim | skip
      · with_reducible refine el_1_2 (r) fun m' hm j' => ?_
        try clear r
        exact ⟨m', hm, Φ₂, σ₂, S₂, (g.trans g₁).trans g₂, j'⟩
      · exact ⟨Φ₂, .next, σ₂, S₂, (g.trans g₁).trans g₂, trivial, r⟩
      · with_reducible refine el_1_2 (r) fun m' hm j' => ?_
        try clear r
        exact ⟨m', hm, Φ₂, σ₂, S₂, (g.trans g₁).trans g₂, j'⟩
      · exact ⟨Φ₂, .ret _, σ₂, S₂, (g.trans g₁).trans g₂, fl, r⟩
    | false =>
      rw [if_neg (by decide)] at q
      rw [if_neg (by decide)]
      exact wpAny_execs_nil ⟨Φ₁, .next, σ₁, S₁, g.trans g₁, trivial, q⟩

/-! ### tests -/
noncomputable def CmpIs (K : Act) (op : CmpOp) (d₁ d₂ : D) (b : Bool) (σ : Sig) : Prop := ∀ F Φ s v₁ v₂ (P : Value → Shared → Prop), St K F Φ σ s → RV Φ v₁ d₁ → RV Φ v₂ d₂ →
  (∀ s' Φ', St K F Φ' σ s' → FGrow F Φ Φ' → P (.bool b) s') → wpAny K.M K.A (compareOp op v₁ v₂) P NoE s
theorem LT_cmp {l r : Expr} {op : CmpOp} {pos : Pos} {Q : Bool → Sig → Prop} (h : LE K l (fun d₁ σ₁ => LE K r (fun d₂ σ₂ => ∃ b, CmpIs K op d₁ d₂ b σ₂ ∧ Q b σ₂) σ₁) σ)
    (hm : behindInMarks op r = false := by with_unfolding_all rfl) : LT K (.Compare l [op] [r] pos) Q σ :=
  fun F Φ s S => wpAny_isTrue_Compare1 (h.use S fun v₁ s₁ Φ₁ d₁ σ₁ S₁ g₁ r₁ h₁ => h₁.use S₁ fun v₂ s₂ Φ₂ d₂ σ₂ S₂ g₂ r₂ zq => by
    with_reducible refine el_1_2 (zq) fun b hb hq => ?_
    try clear zq
    exact hb F Φ₂ s₂ v₁ v₂ _ S₂ (r₁.mono g₂.1) r₂ fun s' Φ' S' g' => wpAny_truthy_bool ⟨Φ', σ₂, S', (g₁.trans g₂).trans g', hq⟩) hm
theorem LE_cmp {l r : Expr} {op : CmpOp} {pos : Pos} (h : LE K l (fun d₁ σ₁ => LE K r (fun d₂ σ₂ => ∃ b, CmpIs K op d₁ d₂ b σ₂ ∧ Q (.bool b) σ₂) σ₁) σ)
    (hm : behindInMarks op r = false := by with_unfolding_all rfl) : LE K (.Compare l [op] [r] pos) Q σ :=
  fun F Φ s S => wpAny_Compare1 (h.use S fun v₁ s₁ Φ₁ d₁ σ₁ S₁ g₁ r₁ h₁ => h₁.use S₁ fun v₂ s₂ Φ₂ d₂ σ₂ S₂ g₂ r₂ zq => by
    with_reducible refine el_1_2 (zq) fun b hb hq => ?_
    try clear zq
    exact hb F Φ₂ s₂ v₁ v₂ _ S₂ (r₁.mono g₂.1) r₂ fun s' Φ' S' g' => ⟨Φ', .bool b, σ₂, S', (g₁.trans g₂).trans g', .bool b, hq⟩) hm
noncomputable def TruIs (K : Act) (d : D) (b : Bool) (σ : Sig) : Prop := ∀ F Φ s v (P : Bool → Shared → Prop), St K F Φ σ s → RV Φ v d → (∀ s' Φ', St K F Φ' σ s' → FGrow F Φ Φ' → P b s') → wpAny K.M K.A (truthy v) P NoE s
theorem LT_val {e : Expr} {Q : Bool → Sig → Prop} (h : LE K e (fun d σ₁ => ∃ b, TruIs K d b σ₁ ∧ Q b σ₁) σ)
    (he : isTrue e K.env (eval e K.env) = (do let v ← eval e K.env; standAt e.pos; holding [v] (truthy v)) := by rfl) : LT K e Q σ :=
  fun F Φ s S => PyProof.Rows.isTrue_plain (h.use S fun v s₁ Φ₁ d σ₁ S₁ g r ⟨b, ht, hq⟩ => ht F Φ₁ s₁ v _ S₁ r fun s' Φ' S' g' => ⟨Φ', σ₁, S', g.trans g', hq⟩) he
theorem LT_not {x : Expr} {pos : Pos} {Q : Bool → Sig → Prop} (h : LT K x (fun b σ' => Q (!b) σ') σ) : LT K (.UnaryOp .Not x pos) Q σ :=
  fun F Φ s S => PyProof.Rows.isTrue_not (h.use S fun b s' Φ' σ' S' g q => ⟨Φ', σ', S', g, q⟩)
theorem LT_and0 {pos : Pos} {Q : Bool → Sig → Prop} (h : Q true σ) : LT K (.BoolOp .And [] pos) Q σ := fun F Φ s S => PyProof.Rows.isTrue_and_nil ⟨Φ, σ, S, .refl .., h⟩
theorem LT_or0 {pos : Pos} {Q : Bool → Sig → Prop} (h : Q false σ) : LT K (.BoolOp .Or [] pos) Q σ := fun F Φ s S => PyProof.Rows.isTrue_or_nil ⟨Φ, σ, S, .refl .., h⟩
theorem LT_and {x : Expr} {es : List Expr} {pos : Pos} {Q : Bool → Sig → Prop} (h : LT K x (fun b σ' => if b then LT K (.BoolOp .And es pos) Q σ' else Q false σ') σ) : LT K (.BoolOp .And (x :: es) pos) Q σ :=
  fun F Φ s S => PyProof.Rows.isTrue_and (h.use S fun b s' Φ' σ' S' g q => by
    cases b with
    | true => exact LT.use q S' fun b s'' Φ'' σ'' S'' g' q' => ⟨Φ'', σ'', S'', g.trans g', q'⟩
    | false => exact ⟨Φ', σ', S', g, q⟩)
theorem LT_or {x : Expr} {es : List Expr} {pos : Pos} {Q : Bool → Sig → Prop} (h : LT K x (fun b σ' => if b then Q true σ' else LT K (.BoolOp .Or es pos) Q σ') σ) : LT K (.BoolOp .Or (x :: es) pos) Q σ :=
  fun F Φ s S => PyProof.Rows.isTrue_or (h.use S fun b s' Φ' σ' S' g q => by
    cases b with
    | true => exact ⟨Φ', σ', S', g, q⟩
    | false => exact LT.use q S' fun b s'' Φ'' σ'' S'' g' q' => ⟨Φ'', σ'', S'', g.trans g', q'⟩)
theorem LE_ite {test body orelse : Expr} {pos : Pos} (h : LT K test (fun b σ' => if b then LE K body Q σ' else LE K orelse Q σ') σ) : LE K (.IfExp test body orelse pos) Q σ :=
  fun F Φ s S => PyProof.Rows.IfExp_ (h.use S fun b s' Φ' σ' S' g q => by
    cases b with
    | true => exact LE.use q S' fun _ _ _ _ _ a b c q => ⟨_, _, _, a, g.trans b, c, q⟩
    | false => exact LE.use q S' fun _ _ _ _ _ a b c q => ⟨_, _, _, a, g.trans b, c, q⟩)
theorem LE_and {e₁ e₂ : Expr} {es : List Expr} {pos : Pos} (h : LE K e₁ (fun d σ₁ => ∃ b, TruIs K d b σ₁ ∧ if b then LE K (.BoolOp .And (e₂ :: es) pos) Q σ₁ else Q d σ₁) σ) : LE K (.BoolOp .And (e₁ :: e₂ :: es) pos) Q σ :=
  fun F Φ s S => PyProof.Rows.BoolOp_and (h.use S fun v s₁ Φ₁ d σ₁ S₁ g r ⟨b, ht, hq⟩ => ht F Φ₁ s₁ v _ S₁ r fun s' Φ' S' g' => by
    cases b with
    | true => exact LE.use hq S' fun _ _ _ _ _ a b c q => ⟨_, _, _, a, (g.trans g').trans b, c, q⟩
    | false => exact ⟨Φ', d, σ₁, S', g.trans g', r.mono g'.1, hq⟩)
theorem LE_or {e₁ e₂ : Expr} {es : List Expr} {pos : Pos} (h : LE K e₁ (fun d σ₁ => ∃ b, TruIs K d b σ₁ ∧ if b then Q d σ₁ else LE K (.BoolOp .Or (e₂ :: es) pos) Q σ₁) σ) : LE K (.BoolOp .Or (e₁ :: e₂ :: es) pos) Q σ :=
  fun F Φ s S => PyProof.Rows.BoolOp_or (h.use S fun v s₁ Φ₁ d σ₁ S₁ g r ⟨b, ht, hq⟩ => ht F Φ₁ s₁ v _ S₁ r fun s' Φ' S' g' => by
    cases b with
    | true => exact ⟨Φ', d, σ₁, S', g.trans g', r.mono g'.1, hq⟩
    | false => exact LE.use hq S' fun _ _ _ _ _ a b c q => ⟨_, _, _, a, (g.trans g').trans b, c, q⟩)
theorem LE_bool1 {op : BoolOp} {e : Expr} {pos : Pos} (h : LE K e Q σ) : LE K (.BoolOp op [e] pos) Q σ := fun F Φ s S => PyProof.Rows.BoolOp_one (h F Φ s S)
end

/-! ### what an activation may not touch -/
noncomputable def GC.tabB (G : GC) (a : Addr) : Bool := G.tabs.any fun t => t.tab == a
theorem GC.tabB_iff (G : GC) (a : Addr) : G.tabB a = true ↔ ∃ t ∈ G.tabs, t.tab = a := by simp [GC.tabB, List.any_eq_true]
noncomputable def Fof (G : GC) (h : Heap) : FMap := fun a => if G.tabB a then none else h.get? a
theorem Fof_in (G : GC) (h : Heap) : FIn (Fof G h) h := fun a o e => by unfold Fof at e; split at e <;> first | cases e | exact e
theorem Fof_tab (G : GC) (h : Heap) {t : Tab} (ht : t ∈ G.tabs) : Fof G h t.tab = none := by
  unfold Fof; rw [if_pos ((G.tabB_iff _).mpr ⟨t, ht, rfl⟩)]
theorem Fof_some {G : GC} {h : Heap} {a : Addr} {o : Obj} (e : h.get? a = some o) (hn : ∀ t ∈ G.tabs, t.tab ≠ a) : Fof G h a = some o := by
  unfold Fof
  rw [if_neg (fun q => by (with_reducible refine el_1_2 ((G.tabB_iff a).mp q) fun t ht z => ?_); exact hn t ht z)]
  exact e
theorem Fof_none {G : GC} {h : Heap} {a : Addr} (e : h.get? a = none) : Fof G h a = none := by unfold Fof; split <;> first | rfl | exact e

theorem get?_size (h : Heap) {a : Addr} (ha : h.objs.size ≤ a) : h.get? a = none := by
  cases q : h.get? a with
  | none => rfl
  | some o => exact absurd (Heap.lt_size q) (Nat.not_lt.mpr ha)
theorem map_nodup_of_apart : ∀ {l : List (Str × Addr)}, (l.Pairwise fun x y => x.2 ≠ y.2) → (l.map (·.2)).Nodup
  | [], _ => List.nodup_nil
  | p :: r, h => by
    with_reducible refine el_0_2 (List.pairwise_cons.mp h) fun h1 h2 => ?_
    rw [List.map_cons]
    exact List.nodup_cons.mpr ⟨fun hm => by (with_reducible refine el_1_2 (List.mem_map.mp hm) fun q hq e => ?_); exact h1 q hq e.symm, map_nodup_of_apart h2⟩

/-- a new frame: nothing is bound yet -/
theorem St.frame {G : GC} {F Φ : FMap} {s : Shared} {K : Act} {ob : Obj} {names : List (Str × NameKind)} {tk : Nat} (gs : GS G Φ s) (hF : FIn F s.heap) (hT : ∀ t ∈ G.tabs, F t.tab = none)
    (hG : K.G = G) (hL : K.env.locals = s.heap.objs.size) (hmc : K.mc = cellsFrom (s.heap.objs.size + 1) names []) (hfc : ∀ c ∈ K.fc, ∃ o, F c = some o) (hob : ob.data = .dict #[] 0) (hfr : ob.isFreed = false) :
    St K F Φ ⟨[], []⟩ { s with heap := pushCells (s.heap.push ob) names, toks := tk } := by
  subst hG
  have hk : ∀ b o, s.heap.get? b = some o → (pushCells (s.heap.push ob) names).get? b = some o := fun b o e => pushCells_keeps _ _ _ _ (Heap.get?_push_of_some _ e)
  have hLo : (pushCells (s.heap.push ob) names).get? s.heap.objs.size = some ob := pushCells_keeps _ _ _ _ (Heap.get?_push_size _ hfr)
  have hok : CellsOk (pushCells (s.heap.push ob) names) (s.heap.objs.size + 1) (cellsFrom (s.heap.push ob).objs.size names []) :=
    cellsFrom_ok names _ _ [] ⟨fun _ _ h => (by cases h), List.Pairwise.nil⟩ (by rw [Heap.size_push]; exact Nat.le_refl _)
  rw [Heap.size_push, ← hmc] at hok
  have fresh : ∀ a, s.heap.objs.size ≤ a → Φ a = none ∧ F a = none ∧ ∀ t ∈ K.G.tabs, t.tab ≠ a := fun a ha => by
    have e := get?_size s.heap ha
    refine ⟨?_, ?_, fun t ht q => ?_⟩
    · cases z : Φ a with
      | none => rfl
      | some o => rw [gs.sub _ _ z] at e; cases e
    · cases z : F a with
      | none => rfl
      | some o => rw [hF _ _ z] at e; cases e
    · obtain ⟨⟨ps, e', _⟩, _⟩ := gs.tab t ht
      rw [q, e] at e'; cases e'
  have cell_mem : ∀ c, c ∈ K.mc.map (·.2) → ∃ x, (x, c) ∈ K.mc := fun c hc => by
    with_reducible refine el_1_2 (List.mem_map.mp hc) fun p hp oq24 => ?_
    obtain rfl := oq24
    exact ⟨p.1, hp⟩
  refine ⟨⟨?_, gs.gr, fun a o e => hk _ _ (gs.sub a o e), fun t ht => ⟨(gs.tab t ht).1.keep (FLe.refl _) fun o e => hk _ _ e, (gs.tab t ht).2⟩⟩, fun a o e => hk _ _ (hF a o e), hfc, hT, fun a ha => ?_, ?_, ?_, fun x c e => ?_, fun x d e => ?_, fun p hp => ?_⟩
  · with_reducible refine el_2_1 (gs.rest) fun h t e => ?_
    exact ⟨_, _, by rw [e]⟩
  · simp only [Act.muts, List.map_nil, List.append_nil] at ha
    rcases List.mem_cons.mp ha with rfl | ha
    · rw [hL]
      with_reducible refine el_0_3 (fresh _ (Nat.le_refl _)) fun f1 f2 f3 => ?_
      exact ⟨f1, f2, ⟨ob, hLo⟩, f3⟩
    · with_reducible refine el_1_1 (cell_mem a ha) fun x hx => ?_
      obtain ⟨⟨o, e, _⟩, hge⟩ := hok.empty x a hx
      refine el_0_3 (fresh a (by (first | lia | omega))) fun f1 f2 f3 => ?_
      exact ⟨f1, f2, ⟨o, e⟩, f3⟩
  · simp only [Act.muts, List.map_nil, List.append_nil]
    refine List.nodup_cons.mpr ⟨fun hm => ?_, map_nodup_of_apart hok.apart⟩
    with_reducible refine el_1_1 (cell_mem _ hm) fun x hx => ?_
    have := (hok.empty x _ hx).2
    rw [hL] at this; (first | lia | omega)
  · rw [hL]
    exact ⟨fun _ => none, ob, #[], 0, hLo, hob, fun _ he => by simp at he, fun _ => rfl⟩
  · exact ⟨none, (hok.empty x c (lookup_mem e)).1⟩
  · cases e
  · cases hp

theorem cellsFrom_append (names : List (Str × NameKind)) : ∀ (n : Nat) (acc : List (Str × Addr)), cellsFrom n names acc = cellsFrom n names [] ++ acc := by
  induction names with
  | nil => intro n acc; rfl
  | cons p r ih =>
    intro n acc
    obtain ⟨x, k⟩ := p
    unfold cellsFrom
    split
    · rw [ih (n + 1) ((x, n) :: acc), ih (n + 1) [(x, n)], List.append_assoc]; rfl
    · exact ih n acc

section
variable {M : Model} {A : Around} {E : Value → Shared → Prop} {s : Shared}
/-- a frame's making: the names are bound one by one -/
theorem wpAny_newEnv {scope : Scope} {globals : Addr} {closure : List (Str × Addr)} {binds : List (Str × Value)} {qual : Str} {func : Option Addr} {code : Value} {around : Option Env} {builtins : Addr} {Q : Env → Shared → Prop}
    (hQ : wpAny M A (forIn binds PUnit.unit fun x _ => do
        storeName (newEnv scope s.heap.objs.size globals (cellsFrom (s.heap.objs.size + 1) scope.names closure) qual func code around builtins) x.1 x.2
        pure (ForInStep.yield PUnit.unit))
      (fun _ s' => Q (newEnv scope s.heap.objs.size globals (cellsFrom (s.heap.objs.size + 1) scope.names closure) qual func code around builtins) s') E
      { s with heap := pushCells (s.heap.push { cls := .type (if around.isSome then "dict" else "frame"), data := .dict #[] }) scope.names }) :
    wpAny M A (newFunctionEnv scope globals closure binds qual func code around builtins) Q E s := by
  unfold newFunctionEnv
  refine wpAny_bind (wpAny_alloc (wpAny_bind ?_))
  refine wpAny_layCells _ (fun name kind cells => ?_) scope.names closure _ _ ?_
  · by_cases h : (kind == NameKind.cell) = true
    · simp only [h, if_true]
    · have h' : (kind == NameKind.cell) = false := by simpa using h
      simp only [h', Bool.false_eq_true, if_false]
  · have hz : ({ s with heap := s.heap.push { cls := .type (if around.isSome then "dict" else "frame"), data := .dict #[] } } : Shared).heap.objs.size = s.heap.objs.size + 1 := Heap.size_push ..
    rw [hz]
    cases around with
    | none => exact wpAny_bind (wpAny_mono hQ (fun _ _ h => wpAny_pure h) fun _ _ x => x)
    | some outer => exact wpAny_bind (wpAny_mono hQ (fun _ _ h => wpAny_pure h) fun _ _ x => x)
end

section
variable {K : Act} {F Φ Φ' : FMap} {σ : Sig} {s : Shared} {sc : Scope} {n : Nat}
/-- the parameters take their values -/
theorem wpAny_binds (hk : K.env.scope.kind = .function) {P : Shared → Prop} (binds : List (Str × Value)) (ds : List D) (σ : Sig) (s : Shared) (hst : ∀ p ∈ binds, Stores K p.1) (S : St K F Φ σ s) (rs : RVs Φ (binds.map (·.2)) ds)
    (h : ∀ s', St K F Φ { σ with vars := setAll σ.vars (binds.map (·.1)) ds } s' → P s') :
    wpAny K.M A (forIn binds PUnit.unit fun x _ => do storeName K.env x.1 x.2; pure (ForInStep.yield PUnit.unit)) (fun _ s' => P s') E s := by
  induction binds generalizing ds σ s with
  | nil =>
    obtain rfl := RVs.nv rs
    rw [List.forIn_nil]; exact wpAny_pure (h s S)
  | cons p r ih =>
    obtain ⟨d, ds, rfl, a, b⟩ := RVs.cv rs
    rw [List.forIn_cons]
    have S' : St { K with A := A } F Φ σ s := ⟨S.gs, S.keep, S.fcs, S.tabF, S.mu, S.nd, S.ns, S.cells, S.vars, S.own⟩
    refine wpAny_bind (wpAny_bind (wpAny_store (K := { K with A := A }) hk S' (hst p (.head _)) a fun s' S'' => wpAny_pure ?_))
    exact ih ds (σ.set p.1 _) s' (fun q hq => hst q (.tail _ hq)) ⟨S''.gs, S''.keep, S''.fcs, S''.tabF, S''.mu, S''.nd, S''.ns, S''.cells, S''.vars, S''.own⟩ b h
end

/-! ### contracts -/
noncomputable def RoomA (A : Around) (n : Nat) : Prop := A.handled = none ∧ A.depth + n ≤ 900 ∧ A.units + 20 * n ≤ 9000
theorem KF.room {K : Act} {sc : Scope} {n : Nat} (hK : KF K sc n) : RoomA K.A n := ⟨hK.hd, hK.depth, hK.units⟩
theorem RoomA.less {A : Around} {n m : Nat} (h : RoomA A n) (hm : m ≤ n) : RoomA A m := ⟨h.1, by have := h.2.1; (first | lia | omega), by have := h.2.2; (first | lia | omega)⟩

/-- what stands behind a call that keeps everything -/
noncomputable def Behind (G : GC) (Φ : FMap) (s : Shared) (r : D) (v : Value) (s' : Shared) : Prop :=
  ∃ Φ' h' tk, s' = { s with heap := h', toks := tk } ∧ (∀ b o, s.heap.get? b = some o → (∀ t ∈ G.tabs, t.tab ≠ b) → h'.get? b = some o) ∧ (∀ t ∈ G.tabs, TabOk Φ' h' t) ∧ FLe Φ Φ' ∧
    (∀ a o, Φ' a = some o → Φ a = some o ∨ (s.heap.get? a = none ∧ h'.get? a = some o)) ∧ RV Φ' v r
/-- a function's contract -/
noncomputable def CallOk (G : GC) (fa : Addr) (n : Nat) (ds : List D) (r : D) : Prop := ∀ A s Φ vs, RoomA A n → GS G Φ s → RVs Φ vs ds →
  codeAny (model G.prog G.w) A (.call (.ref fa) ⟨vs, []⟩) (fun res s' => ∃ v, res = .ok (.ret v) ∧ Behind G Φ s r v s') s
noncomputable def FnOk (G : GC) (fa : Addr) (n : Nat) (ds : List D) (r : D) : Prop := (∃ o fd, G.gh.get? fa = some o ∧ o.data = .func fd) ∧ CallOk G fa n ds r

/-- the names that the new frame may store into -/
noncomputable def StoresAll (K : Act) (sc : Scope) : Prop := ∀ x, sc.names.lookup x = some .local ∨ sc.names.lookup x = some .cell → Stores K x

/-- how a returned value is told once all that the frame owns is frozen -/
inductive Res (own : List (Addr × OD)) : D → D → Prop
  | self (d : D) : Res own d d
  | list {a : Addr} {l l' : List D} : (a, .list l) ∈ own → l.length = l'.length → (∀ (i : Nat) d d', l[i]? = some d → l'[i]? = some d' → Res own d d') → Res own (.raw (.ref a)) (.list l')
  | dict {a : Addr} {l l' : List (Int × D)} : (a, .dict l) ∈ own → l.length = l'.length → (∀ (i : Nat) (p p' : Int × D), l[i]? = some p → l'[i]? = some p' → p.1 = p'.1) → (∀ (i : Nat) (p p' : Int × D), l[i]? = some p → l'[i]? = some p' → Res own p.2 p'.2) → Res own (.raw (.ref a)) (.dict l')
theorem Res.own_list {own : List (Addr × OD)} {a : Addr} {l : List D} (h : (a, .list l) ∈ own) : Res own (.raw (.ref a)) (.list l) :=
  .list h rfl fun i d d' e e' => by rw [e] at e'; cases e'; exact .self _
theorem Res.own_dict {own : List (Addr × OD)} {a : Addr} {l : List (Int × D)} (h : (a, .dict l) ∈ own) : Res own (.raw (.ref a)) (.dict l) :=
  .dict h rfl (fun i d d' e e' => by rw [e] at e'; cases e'; rfl) fun i d d' e e' => by rw [e] at e'; cases e'; exact .self _

theorem RVs.of_get {Φ : FMap} {vs : List Value} {ds : List D} (hl : vs.length = ds.length) (h : ∀ (i : Nat) v d, vs[i]? = some v → ds[i]? = some d → RV Φ v d) : RVs Φ vs ds := by
  induction ds generalizing vs with
  | nil => rw [List.eq_nil_of_length_eq_zero hl]; exact .nil
  | cons d ds ih => cases vs with
    | nil => cases hl
    | cons v vs => exact .cons (h 0 v d rfl rfl) (ih (Nat.succ.inj hl) fun i v' d' e e' => h (i + 1) v' d' e e')
theorem RVd.c {Φ : FMap} {es : List DictEntry} {p : Int × D} {kvs : List (Int × D)} (r : RVd Φ es (p :: kvs)) : ∃ e es' t, es = e :: es' ∧ e.key = .int p.1 t ∧ e.hash = hashInt p.1 ∧ RV Φ e.val p.2 ∧ RVd Φ es' kvs := by
  cases r with | cons a b c d => exact ⟨_, _, _, rfl, a, b, c, d⟩
theorem RVd.n {Φ : FMap} {es : List DictEntry} (r : RVd Φ es []) : es = [] := by cases r; rfl
theorem RVd.length {Φ : FMap} {es : List DictEntry} {kvs : List (Int × D)} (r : RVd Φ es kvs) : es.length = kvs.length := by
  induction kvs generalizing es with
  | nil => rw [r.n]; rfl
  | cons p kvs ih => (with_reducible refine el_3_5 (r.c) fun e es' t oq25 _ _ _ b => ?_); obtain rfl := oq25; exact congrArg Nat.succ (ih b)
theorem RVd.get {Φ : FMap} {es : List DictEntry} {kvs : List (Int × D)} (r : RVd Φ es kvs) {i : Nat} {p : Int × D} (h : kvs[i]? = some p) : ∃ e t, es[i]? = some e ∧ e.key = .int p.1 t ∧ e.hash = hashInt p.1 ∧ RV Φ e.val p.2 := by
  induction kvs generalizing es i with
  | nil => cases h
  | cons q kvs ih =>
    with_reducible refine el_3_5 (r.c) fun e es' t oq26 a1 a2 a3 b => ?_
    obtain rfl := oq26
    cases i with
    | zero => cases h; exact ⟨e, t, rfl, a1, a2, a3⟩
    | succ i => exact ih b h
theorem RVd.of_get {Φ : FMap} {es : List DictEntry} {kvs : List (Int × D)} (hl : es.length = kvs.length) (h : ∀ (i : Nat) p, kvs[i]? = some p → ∃ e t, es[i]? = some e ∧ e.key = .int p.1 t ∧ e.hash = hashInt p.1 ∧ RV Φ e.val p.2) : RVd Φ es kvs := by
  induction kvs generalizing es with
  | nil => rw [List.eq_nil_of_length_eq_zero hl]; exact .nil
  | cons p kvs ih => cases es with
    | nil => cases hl
    | cons e es =>
      with_reducible refine el_2_4 (h 0 p rfl) fun e' t h1 h2 h3 h4 => ?_
      cases h1
      exact .cons h2 h3 h4 (ih (Nat.succ.inj hl) fun i p hp => h (i + 1) p hp)

noncomputable def frzAll (Φ : FMap) (own : List (Addr × OD)) (h : Heap) : FMap := fun a => if a ∈ own.map (·.1) then h.get? a else Φ a
section
variable {K : Act} {F Φ Φ' : FMap} {σ : Sig} {s : Shared}
theorem St.frz_le (S : St K F Φ σ s) : FLe Φ (frzAll Φ σ.own s.heap) := fun a o e => by
  unfold frzAll
  split
  · rename_i hm
    with_reducible refine el_1_2 (List.mem_map.mp hm) fun p hp oq27 => ?_
    obtain rfl := oq27
    rw [(S.mu p.1 (St.own_mem hp)).1] at e; cases e
  · exact e
theorem St.frz_res (S : St K F Φ σ s) {d r : D} (h : Res σ.own d r) : ∀ {v : Value}, RV Φ v d → RV (frzAll Φ σ.own s.heap) v r := by
  have at' : ∀ {a : Addr} {od : OD}, (a, od) ∈ σ.own → ∀ {o : Obj}, s.heap.get? a = some o → frzAll Φ σ.own s.heap a = some o := fun hm o e => by
    unfold frzAll; rw [if_pos (List.mem_map.mpr ⟨_, hm, rfl⟩)]; exact e
  induction h with
  | self d => intro v q; exact q.mono S.frz_le
  | @list a l l' hm hl _ ih =>
    intro v q
    cases q
    refine el_2_2 (S.own _ hm) fun vs n e r => ?_
    refine .list (at' hm e) (RVs.of_get (by rw [r.length, hl]) fun i v d' hv hd => ?_)
    with_reducible refine el_1_2 (r.getV hv) fun d hd1 hr => ?_
    exact ih i d d' hd1 hd hr
  | @dict a l l' hm hl hk _ ih =>
    intro v q
    cases q
    refine el_3_5 (S.own _ hm) fun o es n e c q r z => ?_
    have hkeys : l'.map (·.1) = l.map (·.1) := by
      apply List.ext_getElem?
      intro i
      rw [List.getElem?_map, List.getElem?_map]
      cases h1 : l[i]? with
      | none =>
        have : l'[i]? = none := by rw [List.getElem?_eq_none_iff] at h1 ⊢; (first | lia | omega)
        rw [this]
      | some p =>
        with_reducible refine el_1_1 (List.getElem?_eq_some_iff.mp h1) fun hlt _ => ?_
        have h2 : l'[i]? = some l'[i] := List.getElem?_eq_getElem (by (first | lia | omega))
        rw [h2]
        simp [hk i p _ h1 h2]
    refine .dict (at' hm e) c q (RVd.of_get (by rw [r.length, hl]) fun i p' hp' => ?_) (by rw [hkeys]; exact z.1) z.2
    with_reducible refine el_1_1 (List.getElem?_eq_some_iff.mp hp') fun hlt _ => ?_
    have h1 : l[i]? = some l[i] := List.getElem?_eq_getElem (by (first | lia | omega))
    with_reducible refine el_2_4 (r.get h1) fun e' t g1 g2 g3 g4 => ?_
    have hk' := hk i _ _ h1 hp'
    exact ⟨e', t, g1, by rw [← hk']; exact g2, by rw [← hk']; exact g3, ih i _ _ h1 hp' g4⟩

/-- back from a frame: what it owned is frozen -/
theorem St.leave {G : GC} {s₀ : Shared} (S : St K (Fof G s₀.heap) Φ' σ s) (hG : K.G = G) (gs : GS G Φ s₀) (g : FGrow (Fof G s₀.heap) Φ Φ') {d r : D} {v : Value} (hr : RV Φ' v d) (h : Res σ.own d r) : Behind G Φ s₀ r v s := by
  subst hG
  with_reducible refine el_2_1 (S.gs.rest) fun h' tk e => ?_
  with_reducible refine el_2_1 (gs.rest) fun h₀ tk₀ e₀ => ?_
  refine ⟨frzAll Φ' σ.own s.heap, s.heap, tk, ?_, fun b o q hn => S.keep b o (Fof_some q hn), fun t ht => (S.gs.tab t ht).1.keep S.frz_le fun o q => q, g.1.trans S.frz_le, fun a o q => ?_, S.frz_res h hr⟩
  · subst e; subst e₀; rfl
  · unfold frzAll at q
    split at q
    · rename_i hm
      with_reducible refine el_1_2 (List.mem_map.mp hm) fun p hp oq28 => ?_
      obtain rfl := oq28
      with_reducible refine el_0_4 (S.mu p.1 (St.own_mem hp)) fun _ h2 _ h4 => ?_
      refine .inr ⟨?_, q⟩
      cases z : s₀.heap.get? p.1 with
      | none => rfl
      | some o' => rw [Fof_some z h4] at h2; cases h2
    · rcases g.2 a o q with x | x
      · exact .inl x
      · refine .inr ⟨?_, S.gs.sub a o q⟩
        cases z : s₀.heap.get? a with
        | none => rfl
        | some o' =>
          rw [Fof_some z (fun t ht hh => ?_)] at x
          · cases x
          · have := (S.gs.tab t ht).2
            rw [hh, q] at this; cases this
end

/-- the ground that stands while the law runs -/
structure Grd (G : GC) (mg mb : Str → Option Value) : Prop where
  g : G.gh.Ns mainGlobals mg
  b : G.gh.Ns builtinsNs mb
  nolimit : G.gh.NoLimit
  blt : ∀ x : Str, x ≠ "__name__" → mb x = bootBuiltins x
theorem GS.keeps {G : GC} {Φ : FMap} {s : Shared} (gs : GS G Φ s) : ∀ b o, G.gh.get? b = some o → s.heap.get? b = some o := fun b o e => gs.sub _ _ (gs.gr b o e)

/-- a def of the text, as the top left it -/
structure DefAt (G : GC) (mg : Str → Option Value) (name : Str) (params : Arguments) (body : List Stmt) (scope : Scope) (fa : Addr) (cd : Value) : Prop where
  nm : mg name = some (.ref fa)
  ob : ∃ o pm doc, G.gh.get? fa = some o ∧ o.data = .func (docDef name params body scope pm cd doc)
  code : G.gh.CodeRec cd name

/-- the end of a body: what is returned -/
noncomputable def RetIs (r : D) (f : LF) (σ : Sig) : Prop := match f with
  | .ret d => Res σ.own d r
  | .next => r = .none
  | _ => False

structure BodyK (K : Act) (G : GC) (sc : Scope) (n : Nat) (name : Str) (cd : Value) : Prop where
  G : K.G = G
  kf : KF K sc n
  st : StoresAll K sc
  qual : K.env.qual = name ++ ".<locals>."
  code : K.env.code = cd
  cells : K.env.cells = K.mc

theorem lookup_cellsFrom {x : Str} {k : NameKind} : ∀ (names : List (Str × NameKind)) (n : Nat), names.lookup x = some .cell → ∃ c, (cellsFrom n names []).lookup x = some c := fun names n h => by
  have := cellsFrom_some (x := x) names n [] (.inl h)
  exact Option.isSome_iff_exists.mp this

section
variable {G : GC} {mg mb : Str → Option Value} {name : Str} {params : Arguments} {body : List Stmt} {scope : Scope} {fa : Addr} {cd : Value} {n : Nat} {ds : List D} {r : D}
theorem callOk_intro (gr : Grd G mg mb) (dA : DefAt G mg name params body scope fa cd) (hpar : ∀ pm cd doc, ∀ vs : List Value, vs.length = ds.length → bindArgs (docDef name params body scope pm cd doc) ⟨vs, []⟩ = pure ((params.args.map (·.arg)).zip vs))
    (hlen : params.args.length = ds.length)
    (hloc : ∀ x ∈ params.args.map (·.arg), scope.names.lookup x = some .local ∨ scope.names.lookup x = some .cell) (hk : scope.kind = .function)
    (hbody : ∀ K, BodyK K G scope n name cd → LX K body (RetIs r) ⟨setAll [] (params.args.map (·.arg)) ds, []⟩)
    (hco : scope.isCoroutine = false := by rfl) (hgen : scope.isGenerator = false := by rfl) : FnOk G fa (n + 1) ds r := by
  with_reducible refine el_3_2 (dA.ob) fun o pm doc ho hdata => ?_
  refine ⟨⟨o, _, ho, hdata⟩, fun A s Φ vs hA gs hv => ?_⟩
  have hvl : vs.length = ds.length := hv.length
  have hroom : A.depth < recursionLimit := by have := hA.2.1; unfold recursionLimit; (first | lia | omega)
  refine codeAny_call_function hroom (gs.keeps _ _ ho) hdata hco hgen rfl (dA.code.keeps gs.keeps) ?_
  rw [hpar pm cd doc vs hvl]
  refine wpAny_pure (wpAny_newEnv ?_)
  let env : Env := newEnv scope s.heap.objs.size mainGlobals (cellsFrom (s.heap.objs.size + 1) scope.names []) (name ++ ".<locals>.") (some fa) cd none builtinsNs
  let K : Act := { G := G, A := A.deeper env, env := env, mc := cellsFrom (s.heap.objs.size + 1) scope.names [] }
  have hst : StoresAll K scope := fun x hx => by
    rcases hx with hx | hx
    · exact .inl hx
    · with_reducible refine el_1_1 (lookup_cellsFrom (k := .cell) scope.names (s.heap.objs.size + 1) hx) fun c hc => ?_
      exact .inr ⟨c, hx, hc, hc⟩
  have S₀ : St K (Fof G s.heap) Φ ⟨[], []⟩ { s with heap := pushCells (s.heap.push { cls := .type "frame", data := .dict #[] }) scope.names, toks := s.toks } :=
    St.frame gs (Fof_in G s.heap) (fun t ht => Fof_tab G s.heap ht) rfl rfl rfl (fun c hc => nomatch hc) rfl rfl
  have hmap : ((params.args.map (·.arg)).zip vs).map (·.2) = vs := by rw [List.map_snd_zip]; simp; (first | lia | omega)
  have hmap1 : ((params.args.map (·.arg)).zip vs).map (·.1) = params.args.map (·.arg) := by rw [List.map_fst_zip]; simp; (first | lia | omega)
  refine wpAny_binds (K := K) (A := A.in1) hk _ ds ⟨[], []⟩ _ (fun p hp => hst p.1 (hloc p.1 ?_)) S₀ (by rw [hmap]; exact hv) fun s' S' => ⟨?_, ?_⟩
  · rw [← hmap1]; exact List.mem_map.mpr ⟨p, hp, rfl⟩
  · exact gr.nolimit.keeps S'.gs.keeps
  · rw [hmap1] at S'
    have bk : BodyK K G scope n name cd := ⟨rfl, ⟨rfl, hk, rfl, rfl, hA.1, ?_, ?_⟩, hst, rfl, rfl, rfl⟩
    · show codeAny _ A (.func body env) _ s'
      refine codeAny_func ?_
      refine (hbody K bk).use S' fun f s'' Φ'' lf σ'' S'' g fl rr => ?_
      have key : ∀ d v, RV Φ'' v d → Res σ''.own d r → ∃ v', Except.ok (ε := Value) (Flow.ret v) = Except.ok (Flow.ret v') ∧ Behind G Φ s r v' s'' := fun d v q z => ⟨v, rfl, S''.leave rfl gs g q z⟩
      cases f <;> cases lf <;> first | exact fl.elim | exact rr.elim | skip
      · subst rr; exact key .none _ .none (.self _)
      · exact key _ _ fl rr
    · show A.depth + 1 + n ≤ 900
      have := hA.2.1; (first | lia | omega)
    · show A.units + 3 + 20 * n ≤ 9000
      have := hA.2.2; (first | lia | omega)
end

/-! ### arguments and calls -/
noncomputable def LEs (K : Act) (es : List Expr) (Q : List D → Sig → Prop) (σ : Sig) : Prop :=
  ∀ pos F Φ s, St K F Φ σ s → wpAny K.M K.A (spliced (backTo pos (starEach es K.env))) (PL K F Φ Q) NoE s
section
variable {K : Act} {F Φ Φ' : FMap} {σ : Sig} {s : Shared} {Q : D → Sig → Prop} {sc : Scope} {n : Nat} {mg mb : Str → Option Value}
theorem LEs.use {es : List Expr} {Q : List D → Sig → Prop} {E : Value → Shared → Prop} {pos : Pos} (H : LEs K es Q σ) (S : St K F Φ σ s) {P : List Value → Shared → Prop} (k : ∀ vs s' Φ' ds σ', St K F Φ' σ' s' → FGrow F Φ Φ' → RVs Φ' vs ds → Q ds σ' → P vs s') :
    wpAny K.M K.A (spliced (backTo pos (starEach es K.env))) P E s :=
  wpAny_mono (H pos F Φ s S) (fun v s' ⟨Φ', d, σ', a, b, c, q⟩ => k v s' Φ' d σ' a b c q) fun _ _ x => x.elim
theorem LEs_nil {Q : List D → Sig → Prop} (h : Q [] σ) : LEs K [] Q σ := fun pos F Φ s S => spliced_nil ⟨Φ, [], σ, S, .refl .., .nil, h⟩
theorem LEs_cons {e : Expr} {es : List Expr} {Q : List D → Sig → Prop} (h : LE K e (fun d σ₁ => LEs K es (fun ds σ₂ => Q (d :: ds) σ₂) σ₁) σ) (hs : starEach (e :: es) K.env = (false, eval e K.env) :: starEach es K.env := by rfl) : LEs K (e :: es) Q σ :=
  fun pos F Φ s S => by
    rw [hs]
    show wpAny K.M K.A (spliced ((false, eval e K.env) :: backTo pos (starEach es K.env))) _ _ _
    exact spliced_cons (h.use S fun v s₁ Φ₁ d σ₁ S₁ g r q => LEs.use q S₁ fun vs s₂ Φ₂ ds σ₂ S₂ g₂ r₂ q₂ => ⟨Φ₂, d :: ds, σ₂, S₂, g.trans g₂, .cons (r.mono g₂.1) r₂, q₂⟩)

/-- a global name: a def of the text, or a built-in -/
theorem wpAny_globalName {x : Str} {pos : Pos} {v : Value} {P : Value → Shared → Prop} {E : Value → Shared → Prop} (hK : KF K sc n) (gr : Grd K.G mg mb) (gs : GS K.G Φ s) (hx : sc.names.lookup x = some .globalImplicit)
    (hv : mg x = some v ∨ (mg x = none ∧ mb x = some v)) (hd : (x == ("__debug__" : Str)) = false) (h : P v s) : wpAny K.M K.A (eval (.Name x pos) K.env) P E s := by
  refine Name_function_global hK.fn (hK.kindOf hx) ?_ hd
  rcases hv with hv | ⟨h1, h2⟩
  · exact loadGlobal_global (by rw [hK.glob]; exact gr.g.keeps gs.keeps) hv h
  · exact loadGlobal_builtin (by rw [hK.glob]; exact gr.g.keeps gs.keeps) h1 (by rw [hK.blt]; exact gr.b.keeps gs.keeps) h2 h
theorem wpAny_evalArgs {es : List Expr} {f : Value} {pos : Pos} {P : Args → Shared → Prop} {E : Value → Shared → Prop} (hs : (starEach es K.env).any (·.1) = false) (h : wpAny K.M K.A (spliced (backTo pos (starEach es K.env))) (fun vs s' => P ⟨vs, []⟩ s') E s) :
    wpAny K.M K.A (evalArgs f true (backTo pos (starEach es K.env)) []) P E s := by
  unfold evalArgs
  cases hl : starEach es K.env with
  | nil =>
    rw [hl] at h
    refine wpAny_bind (wpAny_mono h (fun vs s' q => wpAny_bind (wpAny_pure (wpAny_holding ?_))) fun _ _ x => x)
    exact wpAny_bind (wpAny_pure (wpAny_bind (wpAny_pure (wpAny_pure q))))
  | cons p l =>
    rw [hl] at h hs
    obtain ⟨b, t⟩ := p
    have hb : b = false := by simp at hs; exact hs.1
    subst hb
    exact evalArgs_plain h
/-- a call of a def of the text -/
theorem Behind.st {r : D} {v : Value} {s' : Shared} (S : St K F Φ σ s) (b : Behind K.G Φ s r v s') : ∃ Φ', St K F Φ' σ s' ∧ FGrow F Φ Φ' ∧ RV Φ' v r := by
  refine el_3_6 (b) fun Φ' h' tk oq29 h1 h2 h3 h4 h5 => ?_
  try clear b
  obtain rfl := oq29
  with_reducible refine el_0_2 (S.after (tk := tk) h1 h2 h3 h4) fun S' g => ?_
  exact ⟨Φ', S', g, h5⟩
noncomputable def IsFn (G : GC) (fa : Addr) : Prop := ∃ o fd, G.gh.get? fa = some o ∧ o.data = .func fd
theorem LE_call {x : Str} {p pos : Pos} {es : List Expr} {fa : Addr} (hK : KF K sc n) (gr : Grd K.G mg mb) (hx : sc.names.lookup x = some .globalImplicit) (hm : mg x = some (.ref fa)) (hd : plainName x = true) (hf : IsFn K.G fa)
    (h : LEs K es (fun ds σ₁ => ∃ r, CallOk K.G fa n ds r ∧ Q r σ₁) σ) (hs : (starEach es K.env).any (·.1) = false := by rfl) : LE K (.Call (.Name x p) es [] pos) Q σ :=
  fun F Φ s S => by
    refine PyProof.Rows.Call_Name rfl (wpAny_globalName hK gr S.gs hx (.inl hm) (plainName.debug hd) ?_)
    refine el_2_2 (hf) fun o fd ho hfd => ?_
    try clear hf
    refine callWith_function (wpAny_evalArgs hs (h.use S fun vs s₁ Φ₁ ds σ₁ S₁ g rs ⟨r, hc, hq⟩ => ⟨⟨S₁.gs.keeps _ _ ho, hfd⟩, ?_⟩))
    refine wpAny_call (codeAny_mono (hc K.A s₁ Φ₁ vs hK.room S₁.gs rs) fun res s₂ zq => ?_); (with_reducible refine el_1_2 (zq) fun v hv b => ?_); try clear zq
    subst hv
    with_reducible refine el_1_3 (b.st S₁) fun Φ₂ S₂ g₂ r₂ => ?_
    exact ⟨Φ₂, r, σ₁, S₂, g.trans g₂, r₂, hq⟩
/-- a call of a built-in function by its name -/
noncomputable def BltIs (K : Act) (f : Value) (ds : List D) (r : D) (σ : Sig) : Prop := ∀ F Φ s vs (P : Value → Shared → Prop), St K F Φ σ s → RVs Φ vs ds →
  (∀ v s' Φ', St K F Φ' σ s' → FGrow F Φ Φ' → RV Φ' v r → P v s') → wpAny K.M K.A (call f vs) P NoE s
theorem LE_blt {x : Str} {p pos : Pos} {es : List Expr} {id : String} (hK : KF K sc n) (gr : Grd K.G mg mb) (hx : sc.names.lookup x = some .globalImplicit) (hm : mg x = none) (hb : mb x = some (.builtin id)) (hd : plainName x = true)
    (h : LEs K es (fun ds σ₁ => ∃ r, BltIs K (.builtin id) ds r σ₁ ∧ Q r σ₁) σ) (hs : (starEach es K.env).any (·.1) = false := by rfl) : LE K (.Call (.Name x p) es [] pos) Q σ :=
  fun F Φ s S => by
    refine PyProof.Rows.Call_Name rfl (wpAny_globalName hK gr S.gs hx (.inr ⟨hm, hb⟩) (plainName.debug hd) ?_)
    have hs' : (backTo pos (starEach es K.env)).any (·.1) = false := by
      have : ∀ l : List (Bool × Sem Value), (backTo pos l).any (·.1) = l.any (·.1) := fun l => by
        unfold backTo; rw [List.any_map]; rfl
      rw [this]; exact hs
    refine callWith_builtin hs' (wpAny_evalArgs hs (h.use S fun vs s₁ Φ₁ ds σ₁ S₁ g rs zq => ?_)); (with_reducible refine el_1_2 (zq) fun r hc hq => ?_); try clear zq
    exact hc F Φ₁ s₁ vs _ S₁ rs fun v s₂ Φ₂ S₂ g₂ r₂ => ⟨Φ₂, r, σ₁, S₂, g.trans g₂, r₂, hq⟩
theorem LE_typ {x : Str} {p pos : Pos} {es : List Expr} {T : String} (hK : KF K sc n) (gr : Grd K.G mg mb) (hx : sc.names.lookup x = some .globalImplicit) (hm : mg x = none) (hb : mb x = some (.type T)) (hd : plainName x = true)
    (h : LEs K es (fun ds σ₁ => ∃ r, BltIs K (.type T) ds r σ₁ ∧ Q r σ₁) σ) (hs : (starEach es K.env).any (·.1) = false := by rfl) : LE K (.Call (.Name x p) es [] pos) Q σ :=
  fun F Φ s S => by
    refine PyProof.Rows.Call_Name rfl (wpAny_globalName hK gr S.gs hx (.inr ⟨hm, hb⟩) (plainName.debug hd) ?_)
    have hs' : (backTo pos (starEach es K.env)).any (·.1) = false := by
      have : ∀ l : List (Bool × Sem Value), (backTo pos l).any (·.1) = l.any (·.1) := fun l => by
        unfold backTo; rw [List.any_map]; rfl
      rw [this]; exact hs
    refine PyProof.Rows.callWith_type hs' (wpAny_evalArgs hs (h.use S fun vs s₁ Φ₁ ds σ₁ S₁ g rs zq => ?_)); (with_reducible refine el_1_2 (zq) fun r hc hq => ?_); try clear zq
    exact hc F Φ₁ s₁ vs _ S₁ rs fun v s₂ Φ₂ S₂ g₂ r₂ => ⟨Φ₂, r, σ₁, S₂, g.trans g₂, r₂, hq⟩
/-- a global that holds plain data -/
theorem LE_glob {x : Str} {pos : Pos} {v : Value} {d : D} (hK : KF K sc n) (gr : Grd K.G mg mb) (hx : sc.names.lookup x = some .globalImplicit) (hm : mg x = some v) (hd : plainName x = true) (hr : ∀ Φ, RV Φ v d) (h : Q d σ) : LE K (.Name x pos) Q σ :=
  fun F Φ s S => wpAny_globalName hK gr S.gs hx (.inl hm) (plainName.debug hd) ⟨Φ, d, σ, S, .refl .., hr Φ, h⟩
end

section
variable {K : Act} {F Φ Φ' : FMap} {σ : Sig} {s : Shared} {Q : D → Sig → Prop} {R : LF → Sig → Prop} {sc : Scope} {n : Nat}

/-! ### how data lie -/
theorem RV.listAt {a : Addr} {ds : List D} {h : Heap} (r : RV Φ (.ref a) (.list ds)) (S : FIn Φ h) : ∃ (vs : List Value) (n : Nat), h.get? a = some { cls := .type "list", data := .seq vs.toArray n } ∧ RVs Φ vs ds := by
  cases r with
  | list e r => exact ⟨_, _, S _ _ e, r⟩
theorem RV.listRef {v : Value} {ds : List D} (r : RV Φ v (.list ds)) : ∃ a, v = .ref a := by cases r with | list => exact ⟨_, rfl⟩
theorem RV.dictRef {v : Value} {ds : List (Int × D)} (r : RV Φ v (.dict ds)) : ∃ a, v = .ref a := by cases r with | dict => exact ⟨_, rfl⟩
theorem isList_at {h : Heap} {a : Addr} {vs : List Value} {n : Nat} (e : h.get? a = some { cls := .type "list", data := .seq vs.toArray n }) : h.IsList a vs.toArray := ⟨_, e, rfl, n, rfl⟩
/-- a dict of ints, as the library says it -/
theorem RVd.pairs (prog : Program) (w : World) {es : List DictEntry} {kvs : List (Int × D)} (r : RVd Φ es kvs) : ∃ vks : List (Int × Value), Pairs (intKind prog w) es vks ∧ vks.map (·.1) = kvs.map (·.1) ∧ (∀ e ∈ es, ∃ k, (intKind prog w).is k e.key = true ∧ e.hash = (intKind prog w).hash k) ∧ RVs Φ (vks.map (·.2)) (kvs.map (·.2)) := by
  induction kvs generalizing es with
  | nil => rw [r.n]; exact ⟨[], .nil, rfl, fun _ h => absurd h List.not_mem_nil, .nil⟩
  | cons p kvs ih =>
    with_reducible refine el_3_5 (r.c) fun e es' t oq30 h1 h2 h3 h4 => ?_
    obtain rfl := oq30
    with_reducible refine el_1_4 (ih h4) fun vks q1 q2 hk q3 => ?_
    have his : (intKind prog w).is p.1 e.key = true := by rw [h1]; simp [intKind, Value.isInt]
    refine ⟨(p.1, e.val) :: vks, .cons his rfl q1, congrArg (p.1 :: ·) q2, fun e' he => ?_, .cons h3 q3⟩
    rcases List.mem_cons.mp he with rfl | he
    · exact ⟨p.1, his, h2⟩
    · exact hk e' he
theorem dictOf_at {h : Heap} {a : Addr} {o : Obj} {es : Array DictEntry} {n : Nat} {kvs : List (Int × D)} (prog : Program) (w : World) (e : h.get? a = some o) (hx : o.ExactDict) (hd : o.data = .dict es n) (r : RVd Φ es.toList kvs) (hn : (kvs.map (·.1)).Nodup) :
    ∃ vks : List (Int × Value), h.DictAt (intKind prog w) a vks n ∧ vks.map (·.1) = kvs.map (·.1) ∧ RVs Φ (vks.map (·.2)) (kvs.map (·.2)) := by
  with_reducible refine el_1_4 (r.pairs prog w) fun vks p q hk rr => ?_
  exact ⟨vks, ⟨o, es, e, hx, hd, fun e he => hk e (by simpa using he), p, by rw [q]; exact hn⟩, q, rr⟩
/-- and back: a dict of the library's -/
theorem rvd_of_pairs {prog : Program} {w : World} {es : List DictEntry} {vks : List (Int × Value)} {kvs : List (Int × D)} (hp : Pairs (intKind prog w) es vks) (hk : ∀ e ∈ es, ∃ k, (intKind prog w).is k e.key = true ∧ e.hash = (intKind prog w).hash k) (hm : vks.map (·.1) = kvs.map (·.1)) (hr : RVs Φ (vks.map (·.2)) (kvs.map (·.2))) : RVd Φ es kvs := by
  induction hp generalizing kvs with
  | nil => cases kvs with
    | nil => exact .nil
    | cons => cases hm
  | @cons e kv es vks h1 h2 h3 ih => cases kvs with
    | nil => cases hm
    | cons p kvs =>
      with_reducible refine el_2_3 (hr.c) fun x xs e1 ha hb => ?_
      cases e1
      have hkv : kv.1 = p.1 := (List.cons.inj hm).1
      refine el_1_1 (Value.isInt_shape (k := kv.1) (v := e.key) h1) fun t ht => ?_
      refine el_1_2 (hk e (.head _)) fun k' hk1 hk2 => ?_
      have hkk : k' = kv.1 := (intKind prog w).inj _ _ _ hk1 h1
      refine .cons (t := t) (by rw [ht, hkv]) ?_ (by rw [h2]; exact ha) (ih (fun e' he => hk e' (.tail _ he)) (List.cons.inj hm).2 hb)
      rw [hk2, hkk, hkv]; rfl

/-! ### compare, truth, len -/
theorem cmp_int {op : CmpOp} {a b : Int} {c : Bool} (h : ∀ {E : Value → Shared → Prop} {s : Shared} {t u : Tok} {P : Value → Shared → Prop}, P (.bool c) s → wpAny K.M K.A (compareOp op (.int a t) (.int b u)) P E s) : CmpIs K op (.int a) (.int b) c σ :=
  fun F Φ s v₁ v₂ P S r₁ r₂ k => by (with_reducible refine el_1_1 (r₁.i) fun t₁ oq31 => ?_); obtain rfl := oq31; (with_reducible refine el_1_1 (r₂.i) fun t₂ oq32 => ?_); obtain rfl := oq32; exact h (k _ _ S (.refl ..))
theorem cmp_eq {a b : Int} : CmpIs K .Eq (.int a) (.int b) (a == b) σ := cmp_int fun h => PyProof.Rows.eq_int h
theorem cmp_lt {a b : Int} : CmpIs K .Lt (.int a) (.int b) (decide (a < b)) σ := cmp_int fun h => PyProof.Rows.lt_int h
theorem cmp_gt {a b : Int} : CmpIs K .Gt (.int a) (.int b) (decide (a > b)) σ := cmp_int fun h => PyProof.Rows.gt_int h
theorem cmp_le {a b : Int} : CmpIs K .LtE (.int a) (.int b) (decide (a ≤ b)) σ := cmp_int fun h => PyProof.Rows.le_int h
theorem cmp_ge {a b : Int} : CmpIs K .GtE (.int a) (.int b) (decide (a ≥ b)) σ := cmp_int fun h => PyProof.Rows.ge_int h
theorem cmp_ne {a b : Int} : CmpIs K .NotEq (.int a) (.int b) (a != b) σ := cmp_int fun h => PyProof.Rows.ne_int h
theorem cmp_str {x y : Str} : CmpIs K .Eq (.str x) (.str y) (x == y) σ :=
  fun F Φ s v₁ v₂ P S r₁ r₂ k => by (with_reducible refine el_1_1 (r₁.s) fun t₁ oq33 => ?_); obtain rfl := oq33; (with_reducible refine el_1_1 (r₂.s) fun t₂ oq34 => ?_); obtain rfl := oq34; exact PyProof.Rows.eq_str (k _ _ S (.refl ..))

theorem tru_int {a : Int} : TruIs K (.int a) (a != 0) σ := fun F Φ s v P S r k => by (with_reducible refine el_1_1 (r.i) fun t oq35 => ?_); obtain rfl := oq35; exact PySem.P.truthy_int (k _ _ S (.refl ..))
theorem tru_bool {b : Bool} : TruIs K (.bool b) b σ := fun F Φ s v P S r k => by rw [r.b]; exact wpAny_truthy_bool (k _ _ S (.refl ..))
theorem tru_str {x : Str} (hx : x.length < 2 ^ 60) : TruIs K (.str x) ((x.length : Int) != 0) σ := fun F Φ s v P S r k => by (with_reducible refine el_1_1 (r.s) fun t oq36 => ?_); obtain rfl := oq36; exact PySem.P.truthy_str (by (first | lia | omega)) (k _ _ S.withToks (.refl ..))
theorem tru_list {l : List D} (hl : l.length < 2 ^ 60) : TruIs K (.list l) (!l.isEmpty) σ := fun F Φ s v P S r k => by
  with_reducible refine el_1_1 (r.listRef) fun a oq37 => ?_
  obtain rfl := oq37
  with_reducible refine el_2_2 (r.listAt S.gs.sub) fun vs n e rs => ?_
  have hlen := rs.length
  have he : (!vs.toArray.isEmpty) = !l.isEmpty := by cases vs <;> cases l <;> simp_all
  refine wpAny_truthy_list (isList_at e) (by simp; (first | lia | omega)) ?_
  rw [he]; exact k _ _ S.withToks (.refl ..)

theorem blt_len_str {x : Str} (hx : x.length < 2 ^ 60) : BltIs K (.builtin "len") [.str x] (.int x.length) σ := fun F Φ s vs P S rs k => by
  with_reducible refine el_1_2 (rs.one) fun x oq38 a => ?_
  obtain rfl := oq38
  with_reducible refine el_1_1 (a.s) fun t oq39 => ?_
  obtain rfl := oq39
  exact PyProof.Rows.len_str (by (first | lia | omega)) (k _ _ _ S.withToks (.refl ..) (.int _ _))
theorem len_at {prog : Program} {w : World} {A : Around} {E : Value → Shared → Prop} {a : Addr} {ws : List Value} {l : List D} {m : Nat} {P : Value → Shared → Prop} (e : s.heap.get? a = some { cls := .type "list", data := .seq ws.toArray m }) (rs : RVs Φ ws l) (hl : l.length < 2 ^ 60)
    (h : P (.int l.length (s.toks + 1)) { s with toks := s.toks + 1 + 1 }) : wpAny (model prog w) A (call (.builtin "len") [.ref a]) P E s := by
  have hlen := rs.length
  refine call_len_list (isList_at e) (by simp; (first | lia | omega)) ?_
  have hz : ((ws.toArray.size : Nat) : Int) = (l.length : Int) := by simp [hlen]
  rw [hz]
  exact h
theorem blt_len_list {l : List D} (hl : l.length < 2 ^ 60) : BltIs K (.builtin "len") [.list l] (.int l.length) σ := fun F Φ s vs P S rs k => by
  with_reducible refine el_1_2 (rs.one) fun x oq40 r => ?_
  obtain rfl := oq40
  with_reducible refine el_1_1 (r.listRef) fun a oq41 => ?_
  obtain rfl := oq41
  with_reducible refine el_2_2 (r.listAt S.gs.sub) fun ws n e rs => ?_
  exact len_at e rs hl (k _ _ _ S.withToks (.refl ..) (.int _ _))
theorem blt_len_own {a : Addr} {l : List D} (hm : (a, .list l) ∈ σ.own) (hl : l.length < 2 ^ 60) : BltIs K (.builtin "len") [.raw (.ref a)] (.int l.length) σ := fun F Φ s vs P S rs k => by
  with_reducible refine el_1_2 (rs.one) fun x oq42 r => ?_
  obtain rfl := oq42
  rw [r.w]
  refine el_2_2 (S.own _ hm) fun ws n e rs => ?_
  exact len_at e rs hl (k _ _ _ S.withToks (.refl ..) (.int _ _))
theorem blt_min2 {a b : Int} (hK : KF K sc n) : BltIs K (.builtin "min") [.int a, .int b] (.int (if b < a then b else a)) σ := fun F Φ s vs P S rs k => by
  with_reducible refine el_2_3 (rs.two) fun x y oq43 r r' => ?_
  obtain rfl := oq43
  with_reducible refine el_1_1 (r.i) fun t oq44 => ?_
  obtain rfl := oq44
  with_reducible refine el_1_1 (r'.i) fun u oq45 => ?_
  obtain rfl := oq45
  refine min_two_ints hK.hd fun h' tk hk => ?_
  have S' := S.ext (tk := tk) hk
  split
  · exact k _ _ _ S' (.refl ..) (by rw [if_pos (by assumption)]; exact .int _ _)
  · exact k _ _ _ S' (.refl ..) (by rw [if_neg (by assumption)]; exact .int _ _)

/-! ### augmented assignment to a name -/
noncomputable def InpIs (K : Act) (op : Operator) (d₁ d₂ d : D) : Prop := ∀ F Φ σ s v₁ v₂ (P : Value → Shared → Prop), St K F Φ σ s → RV Φ v₁ d₁ → RV Φ v₂ d₂ →
  (∀ v s' Φ', St K F Φ' σ s' → FGrow F Φ Φ' → RV Φ' v d → P v s') → wpAny K.M K.A (inplaceOp op v₁ v₂) P NoE s
theorem inp_add {a b : Int} : InpIs K .Add (.int a) (.int b) (.int (a + b)) := fun F Φ σ s v₁ v₂ P S r₁ r₂ k => by
  (with_reducible refine el_1_1 (r₁.i) fun t₁ oq46 => ?_); obtain rfl := oq46; (with_reducible refine el_1_1 (r₂.i) fun t₂ oq47 => ?_); obtain rfl := oq47; exact PyProof.Rows.iadd_int (k _ _ _ S.withToks (.refl ..) (.int _ _))
theorem inp_sub {a b : Int} : InpIs K .Sub (.int a) (.int b) (.int (a - b)) := fun F Φ σ s v₁ v₂ P S r₁ r₂ k => by
  (with_reducible refine el_1_1 (r₁.i) fun t₁ oq48 => ?_); obtain rfl := oq48; (with_reducible refine el_1_1 (r₂.i) fun t₂ oq49 => ?_); obtain rfl := oq49; exact PyProof.Rows.isub_int (k _ _ _ S.withToks (.refl ..) (.int _ _))
theorem LS_aug {x : Str} {pos' pos : Pos} {op : Operator} {value : Expr} {d₀ : D} (hK : KF K sc n) (hx : σ.vars.lookup x = some d₀) (hst : Stores K x) (hp : plainName x = true)
    (h : LE K value (fun d₁ σ₁ => ∃ d, InpIs K op d₀ d₁ d ∧ R .next (σ₁.set x d)) σ) : LS K (.AugAssign (.Name x pos') op value pos) R σ :=
  fun F Φ s S => by
    with_reducible refine el_1_2 (S.vars x d₀ hx) fun v V r => ?_
    refine wpAny_AugAssign_Name (wpAny_loadVar hK V ?_ (plainName.cls hp))
    exact h.use S fun v₁ s₁ Φ₁ d₁ σ₁ S₁ g₁ r₁ ⟨d, hb, hq⟩ => hb F Φ₁ σ₁ s₁ v v₁ _ S₁ (r.mono g₁.1) r₁ fun v₂ s₂ Φ₂ S₂ g₂ r₂ =>
      wpAny_store hK.fn S₂ hst r₂ fun s₃ S₃ => ⟨Φ₂, .next, _, S₃, g₁.trans g₂, trivial, hq⟩

/-! ### displays -/
theorem LE_tuple {es : List Expr} {k : Nat} {pos : Pos} (h : LEs K es (fun ds σ₁ => ds.length ≤ 100 ∧ Q (.tup ds) σ₁) σ) : LE K (.Tuple es k pos) Q σ :=
  fun F Φ s S => PyProof.Rows.Tuple_ (h.use S fun vs s₁ Φ₁ ds σ₁ S₁ g₁ rs zq => by
    with_reducible refine el_0_2 (zq) fun hl hq => ?_
    try clear zq
    have hlen := rs.length
    have hn := get?_size s₁.heap (Nat.le_refl _)
    refine wpAny_newObj_type ?_ (by show vs.toArray.size ≤ sizeLine; rw [List.size_toArray]; unfold sizeLine; (first | lia | omega))
    with_reducible refine el_0_2 (S₁.ins (tk := s₁.toks) (fun b o e => Heap.get?_push_of_some { cls := .type "tuple", dict := none, data := .seq vs.toArray } e) hn (Heap.get?_push_size _ rfl)) fun S₂ g₂ => ?_
    exact ⟨_, _, σ₁, S₂, g₁.trans g₂, .tup (FMap.ins_self ..) rfl rfl (rs.mono g₂.1), hq⟩)
theorem LE_list {es : List Expr} {pos : Pos} (h : LEs K es (fun ds σ₁ => ds.length ≤ 100 ∧ Q (.list ds) σ₁) σ) : LE K (.List es pos) Q σ :=
  fun F Φ s S => PyProof.Rows.List_ (h.use S fun vs s₁ Φ₁ ds σ₁ S₁ g₁ rs zq => by
    with_reducible refine el_0_2 (zq) fun hl hq => ?_
    try clear zq
    have hlen := rs.length
    have hn := get?_size s₁.heap (Nat.le_refl _)
    refine wpAny_newObj_type ?_ (by show vs.toArray.size ≤ sizeLine; rw [List.size_toArray]; unfold sizeLine; (first | lia | omega))
    with_reducible refine el_0_2 (S₁.ins (tk := s₁.toks) (fun b o e => Heap.get?_push_of_some { cls := .type "list", dict := none, data := .seq vs.toArray } e) hn (Heap.get?_push_size _ rfl)) fun S₂ g₂ => ?_
    exact ⟨_, _, σ₁, S₂, g₁.trans g₂, .list (FMap.ins_self ..) (rs.mono g₂.1), hq⟩)
/-- a list that is to be changed later -/
theorem LE_listOwn {es : List Expr} {pos : Pos} (h : LEs K es (fun ds σ₁ => ds.length ≤ 100 ∧ ∀ a, Q (.raw (.ref a)) (σ₁.new a (.list ds))) σ) : LE K (.List es pos) Q σ :=
  fun F Φ s S => PyProof.Rows.List_ (h.use S fun vs s₁ Φ₁ ds σ₁ S₁ g₁ rs zq => by
    with_reducible refine el_0_2 (zq) fun hl hq => ?_
    try clear zq
    have hlen := rs.length
    have hn := get?_size s₁.heap (Nat.le_refl _)
    refine wpAny_newObj_type ?_ (by show vs.toArray.size ≤ sizeLine; rw [List.size_toArray]; unfold sizeLine; (first | lia | omega))
    have S₂ : St K F Φ₁ (σ₁.new s₁.heap.objs.size (.list ds)) { s₁ with heap := s₁.heap.push { cls := .type "list", dict := none, data := .seq vs.toArray }, toks := s₁.toks } :=
      S₁.newOwn hn (fun b o e => Heap.get?_push_of_some _ e) ⟨vs, 0, Heap.get?_push_size _ rfl, rs⟩
    exact ⟨_, _, _, S₂, g₁, .raw _, hq _⟩)

/-! ### items -/
noncomputable def GetIs (K : Act) (d₁ d₂ d : D) (σ : Sig) : Prop := ∀ F Φ s v₁ v₂ (P : Value → Shared → Prop), St K F Φ σ s → RV Φ v₁ d₁ → RV Φ v₂ d₂ →
  (∀ v s' Φ', St K F Φ' σ s' → FGrow F Φ Φ' → RV Φ' v d → P v s') → (∃ T id, s.TypeIs v₁ T ∧ typeLookup (.type T) "__getitem__" = pure (some (.builtin id))) ∧ wpAny K.M K.A (getItem v₁ v₂) P NoE s
theorem LE_sub {value slice : Expr} {pos : Pos} (h : LE K value (fun d₁ σ₁ => LE K slice (fun d₂ σ₂ => ∃ d, GetIs K d₁ d₂ d σ₂ ∧ Q d σ₂) σ₁) σ)
    (hs : ∀ o i, subscripted slice false o i = operate [o, i] (getItem o i) := by intro _ _; rfl) : LE K (.Subscript value slice pos) Q σ :=
  fun F Φ s S => PyProof.Rows.Subscript_ (h.use S fun v₁ s₁ Φ₁ d₁ σ₁ S₁ g₁ r₁ h₁ => h₁.use S₁ fun v₂ s₂ Φ₂ d₂ σ₂ S₂ g₂ r₂ zq => by
    with_reducible refine el_1_2 (zq) fun d hb hq => ?_
    try clear zq
    refine el_0_2 (hb F Φ₂ s₂ v₁ v₂ (PE K F Φ Q) S₂ (r₁.mono g₂.1) r₂ (fun v s' Φ' S' g' r' => ⟨Φ', d, σ₂, S', (g₁.trans g₂).trans g', r', hq⟩)) fun oq50 hw => ?_
    obtain ⟨T, id, hT, hl⟩ := oq50
    exact PyProof.Rows.tail_any hT hl hw (hs v₁ v₂))
theorem get_list {l : List D} {i : Int} {d : D} (h0 : 0 ≤ i) (hi : i < 2 ^ 60) (hd : l[i.toNat]? = some d) : GetIs K (.list l) (.int i) d σ := fun F Φ s v₁ v₂ P S r₁ r₂ k => by
  with_reducible refine el_1_1 (r₁.listRef) fun a oq51 => ?_
  obtain rfl := oq51
  with_reducible refine el_1_1 (r₂.i) fun t₂ oq52 => ?_
  obtain rfl := oq52
  with_reducible refine el_2_2 (r₁.listAt S.gs.sub) fun vs n e rs => ?_
  with_reducible refine el_1_2 (rs.get hd) fun v hv r => ?_
  exact ⟨⟨"list", _, (isList_at e).typeIs, slot_list_getitem.lookup⟩, wpAny_getItem_list (isList_at e) h0 (by (first | lia | omega)) (by simpa using hv) (k _ _ _ S (.refl ..) r)⟩
theorem get_own {a : Addr} {l : List D} {i : Int} {d : D} (hm : (a, .list l) ∈ σ.own) (h0 : 0 ≤ i) (hi : i < 2 ^ 60) (hd : l[i.toNat]? = some d) : GetIs K (.raw (.ref a)) (.int i) d σ := fun F Φ s v₁ v₂ P S r₁ r₂ k => by
  rw [r₁.w]
  with_reducible refine el_1_1 (r₂.i) fun t₂ oq53 => ?_
  obtain rfl := oq53
  refine el_2_2 (S.own _ hm) fun vs n e rs => ?_
  with_reducible refine el_1_2 (rs.get hd) fun v hv r => ?_
  exact ⟨⟨"list", _, (isList_at e).typeIs, slot_list_getitem.lookup⟩, wpAny_getItem_list (isList_at e) h0 (by (first | lia | omega)) (by simpa using hv) (k _ _ _ S (.refl ..) r)⟩
end

/-! ### texts as lists of signs -/
noncomputable abbrev tx (l : List Nat) : Str := ⟨l.toArray⟩
theorem tx_length (l : List Nat) : (tx l).length = l.length := by simp [tx, Str.length]
theorem tx_inj {l m : List Nat} (h : tx l = tx m) : l = m := by
  have := congrArg (fun x : Str => x.cps.toList) h
  simpa using this
theorem tx_beq (l m : List Nat) : (tx l == tx m) = (l == m) := by
  by_cases h : l = m
  · subst h; simp
  · have : tx l ≠ tx m := fun e => h (tx_inj e)
    rw [beq_eq_false_iff_ne.mpr this, beq_eq_false_iff_ne.mpr h]
/-- a part of a list, as a slice takes it -/
noncomputable def part {α : Type} (l : List α) (lo hi : Option Int) : List α := (l.drop (lo.elim 0 (clipAt l.length))).take (hi.elim l.length (clipAt l.length) - lo.elim 0 (clipAt l.length))
theorem clipAt_le (n : Nat) (i : Int) : clipAt n i ≤ n := by
  have := clipAt_cast n i
  (first | lia | omega)
theorem indices_eq (lo hi : Option Int) (n : Nat) : Builtin.Str.strSliceIndices lo hi 1 n = (List.range (hi.elim n (clipAt n) - lo.elim 0 (clipAt n))).map (lo.elim 0 (clipAt n) + ·) := by
  rw [← sliceRange_one]
  unfold Builtin.Str.strSliceIndices
  cases lo <;> cases hi <;> simp [clipAt_cast]
theorem slice_tx (l : List Nat) (lo hi : Option Int) : Txt.slice (tx l) lo hi = tx (part l lo hi) := by
  have hp : (Builtin.Str.strSliceIndices lo hi 1 (tx l).length).filterMap ((tx l).cps[·]?) = part l lo hi := by
    rw [indices_eq, pick_run, tx_length]
    unfold part
    simp
  unfold Txt.slice
  rw [hp]
  split
  · rename_i h
    simp only [beq_self_eq_true, Bool.true_and, beq_iff_eq] at h
    rw [indices_eq, List.length_map, List.length_range, tx_length] at h
    have h1 : lo.elim 0 (clipAt l.length) ≤ l.length := by cases lo <;> simp [clipAt_le]
    have h2 : hi.elim l.length (clipAt l.length) ≤ l.length := by cases hi <;> simp [clipAt_le]
    have h3 : part l lo hi = l := by
      unfold part
      by_cases hz : l.length = 0
      · have : l = [] := List.eq_nil_of_length_eq_zero hz
        subst this; simp
      · have e1 : lo.elim 0 (clipAt l.length) = 0 := by (first | lia | omega)
        have e2 : hi.elim l.length (clipAt l.length) = l.length := by (first | lia | omega)
        rw [e1, e2]; simp
    rw [h3]
  · rfl
theorem part_from {α : Type} (l : List α) (n : Nat) : part l (some (n : Int)) none = l.drop n := by
  unfold part
  simp only [Option.elim, clipAt_nat]
  by_cases h : n ≤ l.length
  · rw [Nat.min_eq_left h]; rw [List.take_of_length_le (by simp)]
  · rw [Nat.min_eq_right (by (first | lia | omega)), List.drop_of_length_le (Nat.le_refl _), List.drop_of_length_le (by (first | lia | omega))]; simp
theorem part_all {α : Type} (l : List α) : part l none none = l := by unfold part; simp
theorem part_upto {α : Type} (l : List α) (n : Nat) : part l none (some (n : Int)) = l.take n := by
  unfold part
  simp only [Option.elim, clipAt_nat, List.drop_zero, Nat.sub_zero]
  by_cases h : n ≤ l.length
  · rw [Nat.min_eq_left h]
  · rw [Nat.min_eq_right (by (first | lia | omega)), List.take_of_length_le (Nat.le_refl _), List.take_of_length_le (by (first | lia | omega))]
theorem part_butLast {α : Type} (l : List α) (k : Nat) (hk : 1 ≤ k) : part l none (some (-(k : Int))) = l.take (l.length - k) := by
  unfold part
  simp only [Option.elim, clipAt_neg _ _ hk, List.drop_zero, Nat.sub_zero]

theorem item_tx {l : List Nat} {i : Nat} {c : Nat} (h : l[i]? = some c) : Txt.item (tx l) (i : Int) = tx [c] := by
  have hlt : i < l.length := (List.getElem?_eq_some_iff.mp h).1
  unfold Txt.item Txt.charAt seqIndex?
  rw [tx_length]
  have e : ((0 ≤ (if (i : Int) < 0 then (i : Int) + l.length else i)) && decide ((if (i : Int) < 0 then (i : Int) + l.length else i) < (l.length : Int))) = true := by
    rw [if_neg (by (first | lia | omega))]; simp; (first | lia | omega)
  simp only [e, if_true]
  rw [if_neg (by (first | lia | omega))]
  simp [h]
theorem item_tx_neg {l : List Nat} {k : Nat} {c : Nat} (hk : 1 ≤ k) (hkl : k ≤ l.length) (h : l[l.length - k]? = some c) : Txt.item (tx l) (-(k : Int)) = tx [c] := by
  unfold Txt.item Txt.charAt seqIndex?
  rw [tx_length]
  have e : ((0 ≤ (if (-(k : Int)) < 0 then (-(k : Int)) + l.length else -(k : Int))) && decide ((if (-(k : Int)) < 0 then (-(k : Int)) + l.length else -(k : Int)) < (l.length : Int))) = true := by
    rw [if_pos (by (first | lia | omega))]; simp; (first | lia | omega)
  simp only [e, if_true]
  rw [if_pos (by (first | lia | omega))]
  have e2 : (-(k : Int) + (l.length : Int)).toNat = l.length - k := by (first | lia | omega)
  simp [e2, h]

section
variable {K : Act} {F Φ Φ' : FMap} {σ : Sig} {s : Shared} {Q : D → Sig → Prop} {R : LF → Sig → Prop} {sc : Scope} {n : Nat}
theorem get_str {l : List Nat} {i : Nat} {c : Nat} (hi : i < 2 ^ 60) (h : l[i]? = some c) : GetIs K (.str (tx l)) (.int i) (.str (tx [c])) σ := fun F Φ s v₁ v₂ P S r₁ r₂ k => by
  (with_reducible refine el_1_1 (r₁.s) fun t₁ oq54 => ?_); obtain rfl := oq54; (with_reducible refine el_1_1 (r₂.i) fun t₂ oq55 => ?_); obtain rfl := oq55
  have hlt : i < l.length := (List.getElem?_eq_some_iff.mp h).1
  refine ⟨⟨"str", _, typeIs_str .., PySem.F.slot_str_getitem.lookup⟩, SB.getItem ?_ ?_ ?_⟩
  · unfold fitsSsize; simp; (first | lia | omega)
  · exact charAt_isSome (by (first | lia | omega)) (by rw [tx_length]; (first | lia | omega))
  · rw [item_tx h]; exact k _ _ _ S.withToks (.refl ..) (.str _ _)
theorem get_str_neg {l : List Nat} {j : Nat} {c : Nat} (hj : 1 ≤ j) (hjl : j ≤ l.length) (hl : l.length < 2 ^ 60) (h : l[l.length - j]? = some c) : GetIs K (.str (tx l)) (.int (-(j : Int))) (.str (tx [c])) σ := fun F Φ s v₁ v₂ P S r₁ r₂ k => by
  (with_reducible refine el_1_1 (r₁.s) fun t₁ oq56 => ?_); obtain rfl := oq56; (with_reducible refine el_1_1 (r₂.i) fun t₂ oq57 => ?_); obtain rfl := oq57
  refine ⟨⟨"str", _, typeIs_str .., PySem.F.slot_str_getitem.lookup⟩, SB.getItem ?_ ?_ ?_⟩
  · unfold fitsSsize; simp; (first | lia | omega)
  · exact charAt_isSome (by rw [tx_length]; (first | lia | omega)) (by (first | lia | omega))
  · rw [item_tx_neg hj hjl h]; exact k _ _ _ S.withToks (.refl ..) (.str _ _)

/-! ### slices -/
@[reducible] noncomputable def LP (K : Act) (x : Option Expr) (Q : Option Int → Sig → Prop) (σ : Sig) : Prop := match x with
  | none => Q none σ
  | some e => LE K e (fun d σ' => (d = .none ∧ Q none σ') ∨ ∃ i, d = .int i ∧ Q (some i) σ') σ
noncomputable def PartIs (v : Value) (p : Option Int) : Prop := (v = .none ∧ p = none) ∨ ∃ i t, v = .int i t ∧ p = some i
theorem PartIs.isPart {v : Value} {p : Option Int} (h : PartIs v p) : IsPart v p := by
  rcases h with ⟨rfl, rfl⟩ | ⟨i, t, rfl, rfl⟩
  · exact .none
  · exact .int i t
theorem LP.use {x : Option Expr} {Q : Option Int → Sig → Prop} {E : Value → Shared → Prop} (H : LP K x Q σ) (S : St K F Φ σ s) {P : Value → Shared → Prop} (k : ∀ v s' Φ' p σ', St K F Φ' σ' s' → FGrow F Φ Φ' → PartIs v p → Q p σ' → P v s') :
    wpAny K.M K.A (evalPart x K.env) P E s := by
  cases x with
  | none => exact wpAny_pure (k _ _ _ _ _ S (.refl ..) (.inl ⟨rfl, rfl⟩) H)
  | some e =>
    refine LE.use H S fun v s' Φ' d σ' S' g r q => ?_
    · rcases q with ⟨rfl, q⟩ | ⟨i, rfl, q⟩
      · rw [r.n]; exact k _ _ _ _ _ S' g (.inl ⟨rfl, rfl⟩) q
      · (with_reducible refine el_1_1 (r.i) fun t oq58 => ?_); obtain rfl := oq58; exact k _ _ _ _ _ S' g (.inr ⟨_, _, rfl, rfl⟩) q
noncomputable def SliIs (K : Act) (d : D) (lo hi st : Option Int) (r : D) (σ : Sig) : Prop := ∀ F Φ s v vl vu vs a (P : Value → Shared → Prop), St K F Φ σ s → RV Φ v d → s.heap.get? a = some { cls := .type "slice", data := .fields #[vl, vu, vs] } → PartIs vl lo → PartIs vu hi → PartIs vs st →
  (∀ v' s' Φ', St K F Φ' σ s' → FGrow F Φ Φ' → RV Φ' v' r → P v' s') → (∃ T id, s.TypeIs v T ∧ typeLookup (.type T) "__getitem__" = pure (some (.builtin id))) ∧ wpAny K.M K.A (getItem v (.ref a)) P NoE s
theorem LE_slice {value : Expr} {lower upper step : Option Expr} {p pos : Pos}
    (h : LE K value (fun d σ₀ => LP K lower (fun lo σ₁ => LP K upper (fun hi σ₂ => LP K step (fun st σ₃ => ∃ r, SliIs K d lo hi st r σ₃ ∧ Q r σ₃) σ₂) σ₁) σ₀) σ)
    (hs : ∀ o i, ∃ ops, subscripted (.Slice lower upper step p) false o i = operate ops (getItem o i) := by intro _ _; exact ⟨_, rfl⟩) : LE K (.Subscript value (.Slice lower upper step p) pos) Q σ :=
  fun F Φ s S => PyProof.Rows.Subscript_ (h.use S fun v s₀ Φ₀ d σ₀ S₀ g₀ r₀ h₀ => wpAny_Slice (LP.use h₀ S₀ fun vl s₁ Φ₁ lo σ₁ S₁ g₁ p₁ h₁ => LP.use h₁ S₁ fun vu s₂ Φ₂ hi σ₂ S₂ g₂ p₂ h₂ => LP.use h₂ S₂ fun vs s₃ Φ₃ st σ₃ S₃ g₃ p₃ zq => by
    with_reducible refine el_1_2 (zq) fun r hb hq => ?_
    try clear zq
    have S₄ : St K F Φ₃ σ₃ { s₃ with heap := s₃.heap.push { cls := .type "slice", data := .fields #[vl, vu, vs] }, toks := s₃.toks } := S₃.ext fun b o e => Heap.get?_push_of_some _ e
    obtain ⟨⟨T, id, hT, hl⟩, hw⟩ := hb F Φ₃ { s₃ with heap := s₃.heap.push { cls := .type "slice", data := .fields #[vl, vu, vs] } } v vl vu vs s₃.heap.objs.size (PE K F Φ Q) S₄ (((r₀.mono g₁.1).mono g₂.1).mono g₃.1) (Heap.get?_push_size _ rfl) p₁ p₂ p₃
      (fun v' s' Φ' S' g' r' => ⟨Φ', r, σ₃, S', (((g₀.trans g₁).trans g₂).trans g₃).trans g', r', hq⟩)
    with_reducible refine el_1_1 (hs v (.ref s₃.heap.objs.size)) fun ops ho => ?_
    exact PyProof.Rows.tail_any hT hl hw ho))
theorem PartIs.some' {v : Value} {p : Option Int} (h : PartIs v p) : ∃ q : Option (Int × Tok), v = partValue q ∧ q.map (·.1) = p := by
  rcases h with ⟨rfl, rfl⟩ | ⟨i, t, rfl, rfl⟩
  · exact ⟨none, rfl, rfl⟩
  · exact ⟨some (i, t), rfl, rfl⟩
theorem sli_str {l : List Nat} {lo hi : Option Int} (hl : l.length ≤ sizeLine) : SliIs K (.str (tx l)) lo hi none (.str (tx (part l lo hi))) σ := fun F Φ s v vl vu vs a P S r e p₁ p₂ p₃ k => by
  with_reducible refine el_1_1 (r.s) fun t oq59 => ?_
  obtain rfl := oq59
  with_reducible refine el_1_2 (p₁.some') fun q₁ oq60 oq61 => ?_
  obtain rfl := oq60
  obtain rfl := oq61
  with_reducible refine el_1_2 (p₂.some') fun q₂ oq62 oq63 => ?_
  obtain rfl := oq62
  obtain rfl := oq63
  have h3 : vs = .none := by
    rcases p₃ with ⟨h, _⟩ | ⟨i, t, _, h⟩
    · exact h
    · cases h
  subst h3
  refine ⟨⟨"str", _, typeIs_str .., PySem.F.slot_str_getitem.lookup⟩, wpAny_getItem_str_slice (l := q₁) (u := q₂) (st := none) ⟨_, e, rfl, rfl⟩ rfl ?_⟩
  have hle : (Txt.slice (tx l) (q₁.map (·.1)) (q₂.map (·.1))).length ≤ sizeLine := Nat.le_trans (Txt.slice_le _ _ _) (by rw [tx_length]; exact hl)
  refine post_val_or_str ⟨hle, fun t' tk => ?_⟩
  have hh : RV Φ (.str (Txt.slice (tx l) (q₁.map (·.1)) (q₂.map (·.1))) t') (.str (tx (part l (q₁.map (·.1)) (q₂.map (·.1))))) := by rw [slice_tx]; exact .str _ _
  exact k _ _ _ S.withToks (.refl ..) hh
/-- a list's part, with a step too -/
noncomputable def picked {α : Type} (l : List α) (lo hi st : Option Int) : List α := (sliceRange (sliceBounds lo hi st l.length).1 (sliceBounds lo hi st l.length).2.1 (sliceBounds lo hi st l.length).2.2).filterMap (l[·]?)
theorem RVs.pick {Φ : FMap} {vs : List Value} {ds : List D} (r : RVs Φ vs ds) : ∀ idx : List Nat, RVs Φ (idx.filterMap (vs[·]?)) (idx.filterMap (ds[·]?))
  | [] => .nil
  | i :: rest => by
    have hl := r.length
    cases h : ds[i]? with
    | none =>
      have h' : vs[i]? = none := by rw [List.getElem?_eq_none_iff] at h ⊢; (first | lia | omega)
      simp only [List.filterMap_cons, h, h']; exact RVs.pick r rest
    | some d =>
      with_reducible refine el_1_2 (r.get h) fun v hv q => ?_
      simp only [List.filterMap_cons, h, hv]; exact .cons q (RVs.pick r rest)
theorem sli_list {l : List D} {lo hi st : Option Int} (hl : l.length ≤ sizeLine) (h0 : st ≠ some 0) : SliIs K (.list l) lo hi st (.list (picked l lo hi st)) σ := fun F Φ s v vl vu vs a P S r e p₁ p₂ p₃ k => by
  with_reducible refine el_1_1 (r.listRef) fun b oq64 => ?_
  obtain rfl := oq64
  with_reducible refine el_2_2 (r.listAt S.gs.sub) fun ws n e' rs => ?_
  have hlen := rs.length
  refine ⟨⟨"list", _, (isList_at e').typeIs, slot_list_getitem.lookup⟩, wpAny_getItem_list_slice (isList_at e') ⟨_, e, rfl, rfl⟩ p₁.isPart p₂.isPart p₃.isPart h0 ?_ (by rw [List.size_toArray]; (first | lia | omega))⟩
  have hp : RVs Φ (slicePick ws.toArray lo hi st).toList (picked l lo hi st) := by
    have : (slicePick ws.toArray lo hi st).toList = (sliceRange (sliceBounds lo hi st l.length).1 (sliceBounds lo hi st l.length).2.1 (sliceBounds lo hi st l.length).2.2).filterMap (ws[·]?) := by
      unfold slicePick
      simp only [List.size_toArray, hlen, List.getElem?_toArray]
    rw [this]; exact rs.pick _
  with_reducible refine el_0_2 (S.ins (tk := s.toks) (fun b o e => Heap.get?_push_of_some { cls := .type "list", data := .seq (slicePick ws.toArray lo hi st) } e) (get?_size s.heap (Nat.le_refl _)) (Heap.get?_push_size _ rfl)) fun S₂ g₂ => ?_
  exact k _ _ _ S₂ g₂ (.list (vs := (slicePick ws.toArray lo hi st).toList) (by rw [Array.toArray_toList]; exact FMap.ins_self ..) (hp.mono g₂.1))
theorem picked_part {α : Type} (l : List α) (lo hi : Option Int) : picked l lo hi none = part l lo hi := by
  unfold picked part
  rw [sliceBounds_plain]
  rw [sliceRange_one]
  have := pick_run l.toArray (lo.elim 0 (clipAt l.length)) (hi.elim l.length (clipAt l.length) - lo.elim 0 (clipAt l.length))
  simpa using this

/-! ### methods -/
noncomputable def TyIs (K : Act) (d : D) (T : String) (σ : Sig) : Prop := ∀ F Φ s v, St K F Φ σ s → RV Φ v d → s.TypeIs v T ∧ ∀ a, v = .ref a → ∃ ob, s.heap.get? a = some ob ∧ ob.dict = none
/-- what a built-in method does to the state -/
noncomputable def MetIs (K : Act) (id : String) (ds : List D) (r : D) (σ σ' : Sig) : Prop := ∀ F Φ s vs (P : Value → Shared → Prop), St K F Φ σ s → RVs Φ vs ds →
  (∀ v s' Φ', St K F Φ' σ' s' → FGrow F Φ Φ' → RV Φ' v r → P v s') → wpAny K.M K.A (call (.builtin id) vs) P NoE s
theorem LE_meth {o : Expr} {name : Str} {apos pos : Pos} {es : List Expr} {T id : String} (pa : PlainAttrs T) (slot : Slot T name id) (hty : typeOf (.builtin id) = pure (.type "method_descriptor"))
    (h : LE K o (fun d₀ σ₀ => TyIs K d₀ T σ₀ ∧ LEs K es (fun ds σ₁ => ∃ r σ₂, MetIs K id (d₀ :: ds) r σ₁ σ₂ ∧ Q r σ₂) σ₀) σ)
    (hbase : attributeBase o name K.env (eval o K.env) = eval o K.env := by rfl) (hline : (apos.endLine == pos.line) = true := by rfl) (hlen : es.length < 29 := by decide) (hs : (starEach es K.env).any (·.1) = false := by rfl) : LE K (.Call (.Attribute o name apos) es [] pos) Q σ :=
  fun F Φ s S => by
    have hany : ∀ l : List (Bool × Sem Value), (backTo pos l).any (·.1) = l.any (·.1) := fun l => by unfold backTo; rw [List.any_map]; rfl
    have hall : (backTo pos (starEach es K.env)).all (fun x => !x.1) = true := by
      have h1 : (backTo pos (starEach es K.env)).any (·.1) = false := by rw [hany]; exact hs
      rw [List.all_eq_true]
      intro x hx
      have := List.any_eq_false.mp h1 x hx
      simpa using this
    refine wpAny_Call_method_lateS hbase ?_ hline (h.use S fun v₀ s₀ Φ₀ d₀ σ₀ S₀ g₀ r₀ ⟨ht, h₀⟩ => ?_)
    · rw [hall]
      simp [backToKw, keywordEach]
      (first | lia | omega)
    · refine el_0_2 (ht F Φ₀ s₀ v₀ S₀ r₀) fun hT hd => ?_
      refine ⟨T, id, pa, slot, hty, hT, hd, ?_⟩
      refine callWith_builtin (by rw [hany]; exact hs) (wpAny_evalArgs hs (h₀.use S₀ fun vs s₁ Φ₁ ds σ₁ S₁ g₁ rs zq => ?_)); (with_reducible refine el_2_2 (zq) fun r σ₂ hc hq => ?_); try clear zq
      exact hc F Φ₁ s₁ (v₀ :: vs) _ S₁ (.cons (r₀.mono g₁.1) rs) fun v s₂ Φ₂ S₂ g₂ r₂ => ⟨Φ₂, r, σ₂, S₂, (g₀.trans g₁).trans g₂, r₂, hq⟩
theorem ty_str {x : Str} : TyIs K (.str x) "str" σ := fun F Φ s v S r => by (with_reducible refine el_1_1 (r.s) fun t oq65 => ?_); obtain rfl := oq65; exact ⟨typeIs_str .., fun a e => by cases e⟩
theorem ty_int {i : Int} : TyIs K (.int i) "int" σ := fun F Φ s v S r => by (with_reducible refine el_1_1 (r.i) fun t oq66 => ?_); obtain rfl := oq66; exact ⟨typeIs_int .., fun a e => by cases e⟩
theorem ty_dict {l : List (Int × D)} : TyIs K (.dict l) "dict" σ := fun F Φ s v S r => by
  cases r with
  | dict e hx hd r hn hm =>
    refine ⟨⟨_, S.gs.sub _ _ e, hx.1⟩, fun a q => ?_⟩
    cases q
    exact ⟨_, S.gs.sub _ _ e, hx.2.1⟩
theorem ty_own {a : Addr} {l : List D} (hm : (a, .list l) ∈ σ.own) : TyIs K (.raw (.ref a)) "list" σ := fun F Φ s v S r => by
  obtain rfl := r.w
  refine el_2_2 (S.own _ hm) fun vs n e rs => ?_
  refine ⟨⟨_, e, rfl⟩, fun b q => ?_⟩
  cases q
  exact ⟨_, e, rfl⟩
theorem ty_ownD {a : Addr} {l : List (Int × D)} (hm : (a, .dict l) ∈ σ.own) : TyIs K (.raw (.ref a)) "dict" σ := fun F Φ s v S r => by
  obtain rfl := r.w
  refine el_3_5 (S.own _ hm) fun o es n e hx hd rs _ => ?_
  refine ⟨⟨_, e, hx.1⟩, fun b q => ?_⟩
  cases q
  exact ⟨_, e, hx.2.1⟩
/-- to a list of one's own -/
theorem met_append {a : Addr} {l : List D} {d : D} {i : Nat} (hi : σ.own[i]? = some (a, .list l)) (hl : l.length ≤ sizeLine) : MetIs K "list.append" [.raw (.ref a), d] .none σ (σ.put i a (.list (l ++ [d]))) := fun F Φ s vs P S rs k => by
      with_reducible refine el_2_3 (rs.two) fun x y oq67 r r' => ?_
      obtain rfl := oq67
      obtain rfl := r.w
      refine el_2_2 (S.own _ (List.mem_of_getElem? hi)) fun ws n e rs => ?_
      have hlen := rs.length
      refine wpAny_list_append_plain (items := ws.toArray) ⟨n, e⟩ (fun h' hp hs => ?_) (by rw [List.size_toArray]; (first | lia | omega))
      refine el_1_1 (hp) fun n' e' => ?_
      try clear hp
      refine k _ _ _ (S.setOwn (tk := s.toks) hi hs.extBut ⟨ws ++ [_], n', ?_, RVs.append (.cons r' .nil) rs⟩) (.refl ..) .none
      rw [e']; simp
end

/-! ### dicts of ints -/
noncomputable def valD (l : List (Int × D)) (k : Int) : Option D := (l.find? fun kv => kv.1 = k).map (·.2)
noncomputable def stD (l : List (Int × D)) (k : Int) (d : D) : List (Int × D) := if l.any (fun kv => kv.1 = k) then l.map (fun kv => if kv.1 = k then (kv.1, d) else kv) else l ++ [(k, d)]
theorem valD_rel {Φ : FMap} {k : Int} {vks : List (Int × Value)} {kvs : List (Int × D)} (h : vks.map (·.1) = kvs.map (·.1)) (r : RVs Φ (vks.map (·.2)) (kvs.map (·.2))) :
    (∀ d, valD kvs k = some d → ∃ v, valueAt vks k = some v ∧ RV Φ v d) ∧ (valD kvs k = none → valueAt vks k = none) := by
  induction vks generalizing kvs with
  | nil => cases kvs with
    | nil => exact ⟨fun d h => (by cases h), fun _ => rfl⟩
    | cons => cases h
  | cons p vks ih => cases kvs with
    | nil => cases h
    | cons q kvs =>
      have h := List.cons.inj h
      have hc := RVs.cc r
      have ha := hc.1
      have ih := ih h.2 hc.2
      unfold valD valueAt
      simp only [List.find?_cons, h.1]
      by_cases hk : q.1 = k
      · simp only [hk, decide_true]
        exact ⟨fun d e => (by simp at e; subst e; exact ⟨_, rfl, ha⟩), fun e => (by simp at e)⟩
      · simp only [hk, decide_false]
        exact ih
theorem any_keys {k : Int} {α β : Type} {l : List (Int × α)} {m : List (Int × β)} (h : l.map (·.1) = m.map (·.1)) : l.any (fun kv => decide (kv.1 = k)) = m.any (fun kv => decide (kv.1 = k)) := by
  have e : ∀ {γ : Type} (l : List (Int × γ)), l.any (fun kv => decide (kv.1 = k)) = (l.map (·.1)).any (fun x => decide (x = k)) := fun l => by rw [List.any_map]; rfl
  rw [e, e, h]
theorem stD_rel {Φ : FMap} {k : Int} {v : Value} {d : D} (hr : RV Φ v d) {vks : List (Int × Value)} {kvs : List (Int × D)} (h : vks.map (·.1) = kvs.map (·.1)) (r : RVs Φ (vks.map (·.2)) (kvs.map (·.2))) :
    (stored vks k v).map (·.1) = (stD kvs k d).map (·.1) ∧ RVs Φ ((stored vks k v).map (·.2)) ((stD kvs k d).map (·.2)) := by
  unfold stored stD
  rw [any_keys (k := k) h]
  split
  · have key : ∀ {vks : List (Int × Value)} {kvs : List (Int × D)}, vks.map (·.1) = kvs.map (·.1) → RVs Φ (vks.map (·.2)) (kvs.map (·.2)) →
      ((vks.map fun kv => if kv.1 = k then (kv.1, v) else kv).map (·.1)) = ((kvs.map fun kv => if kv.1 = k then (kv.1, d) else kv).map (·.1)) ∧
      RVs Φ ((vks.map fun kv => if kv.1 = k then (kv.1, v) else kv).map (·.2)) ((kvs.map fun kv => if kv.1 = k then (kv.1, d) else kv).map (·.2)) := by
      intro vks
      induction vks with
      | nil => intro kvs h r; cases kvs with
        | nil => exact ⟨rfl, .nil⟩
        | cons => simp at h
      | cons p vks ih =>
        intro kvs h r
        cases kvs with
        | nil => simp at h
        | cons q kvs =>
          simp only [List.map_cons, List.cons.injEq] at h
          cases r with
          | cons ha hb =>
            with_reducible refine el_0_2 (ih h.2 hb) fun i1 i2 => ?_
            simp only [List.map_cons, h.1]
            by_cases hk : q.1 = k
            · simp only [hk, if_true]
              exact ⟨by rw [i1], .cons hr i2⟩
            · simp only [hk, if_false, h.1]
              exact ⟨by rw [i1], .cons ha i2⟩
    exact key h r
  · simp only [List.map_append, List.map_cons, List.map_nil, h]
    exact ⟨trivial, RVs.append (.cons hr .nil) r⟩

section
variable {K : Act} {F Φ Φ' : FMap} {σ : Sig} {s : Shared} {Q : D → Sig → Prop} {R : LF → Sig → Prop} {sc : Scope} {n : Nat} {mg mb : Str → Option Value}
theorem own_dictAt {a : Addr} {l : List (Int × D)} {h : Heap} (prog : Program) (w : World) (ho : OwnIs Φ h a (.dict l)) :
    ∃ (vks : List (Int × Value)) (n : Nat), h.DictAt (intKind prog w) a vks n ∧ vks.map (·.1) = l.map (·.1) ∧ RVs Φ (vks.map (·.2)) (l.map (·.2)) ∧ (a == sysModules) = false := by
  refine el_3_6 (ho) fun o es n e hx hd r hn hm => ?_
  try clear ho
  with_reducible refine el_1_3 (dictOf_at prog w e hx hd r hn) fun vks x y z => ?_
  exact ⟨vks, n, x, y, z, beq_eq_false_iff_ne.mpr hm⟩
theorem own_of_dictOf {a : Addr} {l : List (Int × D)} {h : Heap} {prog : Program} {w : World} {vks : List (Int × Value)} (hd : h.DictOf (intKind prog w) a vks) (hk : vks.map (·.1) = l.map (·.1)) (hr : RVs Φ (vks.map (·.2)) (l.map (·.2))) (hm : a ≠ sysModules) : OwnIs Φ h a (.dict l) := by
  refine el_3_6 (hd) fun o es ep e hx hd hko hp hn => ?_
  exact ⟨o, es, ep, e, hx, hd, rvd_of_pairs hp (fun e he => hko e (by simpa using he)) hk hr, by rw [← hk]; exact hn, hm⟩
theorem rv_dictAt {v : Value} {l : List (Int × D)} {h : Heap} (prog : Program) (w : World) (r : RV Φ v (.dict l)) (S : FIn Φ h) :
    ∃ (a : Addr) (vks : List (Int × Value)) (n : Nat), v = .ref a ∧ h.DictAt (intKind prog w) a vks n ∧ vks.map (·.1) = l.map (·.1) ∧ RVs Φ (vks.map (·.2)) (l.map (·.2)) ∧ (a == sysModules) = false := by
  cases r with
  | dict e hx hd r hn hm =>
    refine el_1_3 (dictOf_at prog w (S _ _ e) hx hd r hn) fun vks x y z => ?_
    exact ⟨_, vks, _, rfl, x, y, z, beq_eq_false_iff_ne.mpr hm⟩
theorem int_is (prog : Program) (w : World) (k : Int) (t : Tok) : (intKind prog w).is k (.int k t) = true := by simp [intKind, Value.isInt]

/-- how a dict is at hand: frozen, or one's own -/
noncomputable def DictD (σ : Sig) (d : D) (l : List (Int × D)) : Prop := d = .dict l ∨ ∃ a, d = .raw (.ref a) ∧ (a, .dict l) ∈ σ.own
theorem DictD.at {d : D} {l : List (Int × D)} (h : DictD σ d l) (prog : Program) (w : World) (S : St K F Φ σ s) {v : Value} (r : RV Φ v d) :
    ∃ (a : Addr) (vks : List (Int × Value)) (n : Nat), v = .ref a ∧ s.heap.DictAt (intKind prog w) a vks n ∧ vks.map (·.1) = l.map (·.1) ∧ RVs Φ (vks.map (·.2)) (l.map (·.2)) ∧ (a == sysModules) = false := by
  rcases h with rfl | ⟨a, rfl, hm⟩
  · exact rv_dictAt prog w r S.gs.sub
  · obtain rfl := r.w
    with_reducible refine el_2_1 (own_dictAt prog w (S.own _ hm)) fun vks n x => ?_
    exact ⟨a, vks, n, rfl, x⟩
theorem get_dict {d : D} {l : List (Int × D)} {k : Int} {e : D} (hd : DictD σ d l) (he : valD l k = some e) : GetIs K d (.int k) e σ := fun F Φ s v₁ v₂ P S r₁ r₂ kk => by
  with_reducible refine el_3_5 (hd.at K.G.prog K.G.w S r₁) fun a vks n oq68 hm hk hr hs => ?_
  obtain rfl := oq68
  with_reducible refine el_1_1 (r₂.i) fun t₂ oq69 => ?_
  obtain rfl := oq69
  with_reducible refine el_1_2 ((valD_rel hk hr).1 e he) fun v hv rv => ?_
  have hmo := hm.dictOf.mapOf
  exact ⟨⟨"dict", _, hmo.typeIs, slot_dict_getitem.lookup⟩, wpAny_getItem_of (int_is _ _ _ _) hmo hv (kk _ _ _ S.withToks (.refl ..) rv)⟩
theorem cmp_in {d : D} {l : List (Int × D)} {k : Int} (hd : DictD σ d l) : CmpIs K .In (.int k) d (valD l k).isSome σ := fun F Φ s v₁ v₂ P S r₁ r₂ kk => by
  with_reducible refine el_3_5 (hd.at K.G.prog K.G.w S r₂) fun a vks n oq70 hm hk hr hs => ?_
  obtain rfl := oq70
  with_reducible refine el_1_1 (r₁.i) fun t₁ oq71 => ?_
  obtain rfl := oq71
  refine wpAny_in_of (int_is K.G.prog K.G.w _ _) hs hm.dictOf.mapOf ?_
  have e : (valueAt vks k).isSome = (valD l k).isSome := by
    cases h : valD l k with
    | none => rw [(valD_rel hk hr).2 h]; rfl
    | some d => (with_reducible refine el_1_2 ((valD_rel hk hr).1 d h) fun v hv _ => ?_); rw [hv]; rfl
  rw [e]; exact kk _ _ S.withToks (.refl ..)
theorem met_get {d : D} {l : List (Int × D)} {k : Int} {e : D} (hd : DictD σ d l) : MetIs K "dict.get" [d, .int k, e] ((valD l k).getD e) σ σ := fun F Φ s vs P S rs kk => by
        with_reducible refine el_3_4 (rs.three) fun v₁ v₂ v₃ oq72 r₁ r₂ r₃ => ?_
        obtain rfl := oq72
        with_reducible refine el_3_5 (hd.at K.G.prog K.G.w S r₁) fun a vks n oq73 hm hk hr hs => ?_
        obtain rfl := oq73
        with_reducible refine el_1_1 (r₂.i) fun tk oq74 => ?_
        obtain rfl := oq74
        have hmo := hm.dictOf.mapOf
        refine wpAny_call_entry PySem.F.slot_dict_get hmo.typeIs PySem.F.entry_dict_get ?_ (PySem.F.args_dict_get_3 _ _ _)
        show wpAny K.M _ (dictGet a (.int k tk) >>= _) _ _ s
        refine wpAny_bind (wpAny_dictGet_of (int_is K.G.prog K.G.w _ _) hmo ?_)
        cases h : valD l k with
        | none =>
          rw [(valD_rel hk hr).2 h]
          show wpAny K.M _ (Builtin.Dict.missed a (.int k tk) >>= _) _ _ _
          exact wpAny_bind (wpAny_missed_other hs (wpAny_pure ⟨v₃, rfl, kk _ _ _ S.withToks (.refl ..) (by rw [h]; exact r₃)⟩))
        | some d =>
          with_reducible refine el_1_2 ((valD_rel hk hr).1 d h) fun v hv rv => ?_
          rw [hv]
          exact wpAny_pure ⟨v, rfl, kk _ _ _ S.withToks (.refl ..) (by rw [h]; exact rv)⟩

/-! ### stores into one's own -/
noncomputable def SetIs (K : Act) (d₁ d₂ d : D) (σ σ' : Sig) : Prop := ∀ F Φ s v₁ v₂ v (P : Unit → Shared → Prop), St K F Φ σ s → RV Φ v₁ d₁ → RV Φ v₂ d₂ → RV Φ v d → (∀ s' Φ', St K F Φ' σ' s' → FGrow F Φ Φ' → P () s') → wpAny K.M K.A (setItem v₁ v₂ v) P NoE s
theorem LS_set {o i value : Expr} {pos' pos : Pos} (h : LE K value (fun d σ₁ => LE K o (fun d₁ σ₂ => LE K i (fun d₂ σ₃ => ∃ σ₄, SetIs K d₁ d₂ d σ₃ σ₄ ∧ R .next σ₄) σ₂) σ₁) σ)
    (hs : swapsWith value (some (.Subscript o i pos')) pos.line K.env = pure false := by rfl) : LS K (.Assign [.Subscript o i pos'] value pos) R σ :=
  fun F Φ s S => wpAny_Assign_Subscript (h.use S fun v s₁ Φ₁ d σ₁ S₁ g₁ r h₁ => h₁.use S₁ fun v₁ s₂ Φ₂ d₁ σ₂ S₂ g₂ r₁ h₂ => h₂.use S₂ fun v₂ s₃ Φ₃ d₂ σ₃ S₃ g₃ r₂ zq => by
    with_reducible refine el_1_2 (zq) fun σ₄ hb hq => ?_
    try clear zq
    exact hb F Φ₃ s₃ v₁ v₂ v _ S₃ (r₁.mono g₃.1) r₂ ((r.mono g₂.1).mono g₃.1) fun s₄ Φ₄ S₄ g₄ => ⟨Φ₄, .next, σ₄, S₄, ((g₁.trans g₂).trans g₃).trans g₄, trivial, hq⟩) hs
theorem set_dict {a : Addr} {l : List (Int × D)} {k : Int} {d : D} {j : Nat} (hj : σ.own[j]? = some (a, .dict l)) (hl : l.length ≤ sizeLine) : SetIs K (.raw (.ref a)) (.int k) d σ (σ.put j a (.dict (stD l k d))) := fun F Φ s v₁ v₂ v P S r₁ r₂ r kk => by
  obtain rfl := r₁.w; (with_reducible refine el_1_1 (r₂.i) fun t₂ oq75 => ?_); obtain rfl := oq75
  have ho := S.own _ (List.mem_of_getElem? hj)
  with_reducible refine el_2_4 (own_dictAt K.G.prog K.G.w ho) fun vks n hm hk hr hs => ?_
  have hlen : vks.length = l.length := by have := congrArg List.length hk; simpa using this
  refine wpAny_setItem_pairs (int_is K.G.prog K.G.w _ _) hm.dictOf (fun h' hd' hsb => ?_) (by (first | lia | omega))
  with_reducible refine el_0_2 (stD_rel (k := k) r hk hr) fun e1 e2 => ?_
  exact kk _ _ (S.setOwn hj hsb.extBut (own_of_dictOf hd' e1 e2 (beq_eq_false_iff_ne.mp hs))) (.refl ..)
theorem mapSeq_set_plain (its : Array Value) (n : Nat) (i : Nat) (x : Value) : Obj.mapSeq (·.setIfInBounds i x) { cls := .type "list", data := .seq its n } = { cls := .type "list", data := .seq (its.setIfInBounds i x) n } := by
  simp [Obj.mapSeq]
theorem setItem_plain {prog : Program} {w : World} {A : Around} {l : Addr} {items : Array Value} {m : Nat} {k : Int} {t : Tok} {v : Value} {P : Unit → Shared → Prop} {E : Value → Shared → Prop} (e : s.heap.get? l = some { cls := .type "list", data := .seq items m }) (h0 : 0 ≤ k) (hfit : k < 2 ^ 63) (hn : k < items.size)
    (hQ : ∀ h', h'.get? l = some { cls := .type "list", data := .seq (items.setIfInBounds k.toNat v) m } → Heap.SameBut l s.heap h' → P () { s with heap := h' }) : wpAny (model prog w) A (setItem (.ref l) (.int k t) v) P E s := by
  have hl : s.heap.IsList l items := ⟨_, e, rfl, m, rfl⟩
  unfold setItem
  try with_reducible refine wpAny_holding ?_
  first | refine wpAny_bind (wpAny_pure ?_) | skip
  refine wpAny_bind (wpAny_sequenceKey hl.typeIs (by decide) ?_)
  refine wpAny_bind (wpAny_callSpecial?_slot (name := Str.ofString "__setitem__") hl.typeIs slot_list_setitem (wpAny_call_entry slot_list_setitem hl.typeIs entry_list_setitem ?_ (args_list_setitem _ _ _)))
  show wpAny _ _ (Builtin.List.listSubscript? (.int k t) >>= _) _ _ s
  refine wpAny_bind (wpAny_listSubscript_int (fitsIndex_of h0 hfit) ?_)
  clear hfit
  with_reducible refine el_1_1 (Int.eq_ofNat_of_zero_le h0) fun j oq76 => ?_
  obtain rfl := oq76
  have hj : j < items.size := by (first | lia | omega)
  have hx' : items[j]? = some items[j] := Array.getElem?_eq_getElem hj
  show wpAny _ _ ((seqItemAt l j >>= fun r => pure (r.map (j, ·))) >>= _) _ _ s
  refine wpAny_bind (wpAny_bind (wpAny_seqItemAt e rfl (wpAny_pure ?_)))
  rw [hx']
  show wpAny _ _ (setSeqItemAt l j v >>= _) _ _ s
  have hfin := Heap.get?_update_self (Obj.mapSeq (·.setIfInBounds j v)) e (by rw [mapSeq_set_plain]; rfl)
  rw [mapSeq_set_plain] at hfin
  refine wpAny_bind (wpAny_setSeqItemAt e rfl ?_)
  first
    | exact wpAny_bind (wpAny_pure (wpAny_pure ⟨.none, rfl, wpAny_pure (hQ _ hfin (Heap.SameBut.update ..))⟩))
    | exact wpAny_pure ⟨.none, rfl, wpAny_pure (hQ _ hfin (Heap.SameBut.update ..))⟩
theorem set_list {a : Addr} {l : List D} {i : Nat} {d : D} {j : Nat} (hj : σ.own[j]? = some (a, .list l)) (hi : i < l.length) (hf : i < 2 ^ 60) : SetIs K (.raw (.ref a)) (.int i) d σ (σ.put j a (.list (l.set i d))) := fun F Φ s v₁ v₂ v P S r₁ r₂ r kk => by
  obtain rfl := r₁.w; (with_reducible refine el_1_1 (r₂.i) fun t₂ oq77 => ?_); obtain rfl := oq77
  refine el_2_2 (S.own _ (List.mem_of_getElem? hj)) fun ws m e rs => ?_
  have hlen := rs.length
  refine setItem_plain e (by (first | lia | omega)) (by (first | lia | omega)) (by rw [List.size_toArray]; (first | lia | omega)) fun h' e' hsb => ?_
  refine kk _ _ (S.setOwn (tk := s.toks) hj hsb.extBut ⟨ws.set i v, m, ?_, rs.set i r⟩) (.refl ..)
  rw [e']; simp
theorem LS_augSet {o value : Expr} {x : Str} {px pos' pos : Pos} {op : Operator} (h : LE K o (fun d₁ σ₁ => LE K (.Name x px) (fun d₂ σ₂ => ∃ d₀, GetIs K d₁ d₂ d₀ σ₂ ∧ LE K value (fun d₃ σ₃ => ∃ d σ₄, InpIs K op d₀ d₃ d ∧ SetIs K d₁ d₂ d σ₃ σ₄ ∧ R .next σ₄) σ₂) σ₁) σ) :
    LS K (.AugAssign (.Subscript o (.Name x px) pos') op value pos) R σ :=
  fun F Φ s S => wpAny_AugAssign_Subscript (h.use S fun v₁ s₁ Φ₁ d₁ σ₁ S₁ g₁ r₁ h₁ => h₁.use S₁ fun v₂ s₂ Φ₂ d₂ σ₂ S₂ g₂ r₂ zq => by
    with_reducible refine el_1_2 (zq) fun d₀ hg h₂ => ?_
    try clear zq
    exact (hg F Φ₂ s₂ v₁ v₂ _ S₂ (r₁.mono g₂.1) r₂ fun v₀ s₃ Φ₃ S₃ g₃ r₀ => h₂.use S₃ fun v₃ s₄ Φ₄ d₃ σ₃ S₄ g₄ r₃ ⟨d, σ₄, hi, hs, hq⟩ => hi F Φ₄ σ₃ s₄ v₀ v₃ _ S₄ (r₀.mono g₄.1) r₃ fun v s₅ Φ₅ S₅ g₅ r =>
      hs F Φ₅ s₅ v₁ v₂ v _ S₅ ((((r₁.mono g₂.1).mono g₃.1).mono g₄.1).mono g₅.1) (((r₂.mono g₃.1).mono g₄.1).mono g₅.1) r fun s₆ Φ₆ S₆ g₆ => ⟨Φ₆, .next, σ₄, S₆, ((((g₁.trans g₂).trans g₃).trans g₄).trans g₅).trans g₆, trivial, hq⟩).2)

/-! ### dict displays -/
theorem fresh_ne (gr : Grd K.G mg mb) (gs : GS K.G Φ s) : s.heap.objs.size ≠ sysModules := by
  have h3 : 3 < s.heap.objs.size := (gr.g.keeps gs.keeps).lt
  intro e
  have e1 : s.heap.objs.size = 1 := e
  (first | lia | omega)
theorem LE_dict0Own {pos : Pos} (gr : Grd K.G mg mb) (h : ∀ a, Q (.raw (.ref a)) (σ.new a (.dict []))) : LE K (.Dict [] [] pos) Q σ :=
  fun F Φ s S => wpAny_Dict_empty (by
    have S₂ : St K F Φ (σ.new s.heap.objs.size (.dict [])) { s with heap := s.heap.push { cls := .type "dict", data := .dict #[] }, toks := s.toks } :=
      S.newOwn (get?_size s.heap (Nat.le_refl _)) (fun b o e => Heap.get?_push_of_some _ e) ⟨_, #[], 0, Heap.get?_push_size _ rfl, ⟨rfl, rfl, rfl⟩, rfl, .nil, List.nodup_nil, fresh_ne gr S.gs⟩
    exact ⟨Φ, _, _, S₂, .refl .., .raw _, h _⟩)
theorem LE_frzTop {e : Expr} (h : LE K e (fun d σ' => (∃ a od own, d = .raw (.ref a) ∧ σ'.own = (a, od) :: own ∧ Q od.toD ⟨σ'.vars, own⟩) ∨ Q d σ') σ) : LE K e Q σ :=
  fun F Φ s S => h.use S fun v s' Φ' d σ' S' g r q => by
    rcases q with ⟨a, od, own, rfl, ho, q⟩ | q
    · obtain rfl := r.w
      refine el_1_3 (S'.freeze (i := 0) (a := a) (od := od) (by rw [ho]; rfl)) fun Φ'' S'' g' r' => ?_
      refine ⟨Φ'', od.toD, _, S'', g.trans g', r', ?_⟩
      have : σ'.del 0 = ⟨σ'.vars, own⟩ := by unfold Sig.del; rw [ho]; rfl
      rw [this]; exact q
    · exact ⟨Φ', d, σ', S', g, r, q⟩
theorem LE_dict0 {pos : Pos} (gr : Grd K.G mg mb) (h : Q (.dict []) σ) : LE K (.Dict [] [] pos) Q σ :=
  LE_frzTop (LE_dict0Own gr fun a => .inl ⟨a, .dict [], σ.own, rfl, rfl, h⟩)
theorem LE_dict1Own {k v : Expr} {pos : Pos} (gr : Grd K.G mg mb) (h : ∀ a, LE K k (fun dk σ₁ => ∃ i, dk = .int i ∧ LE K v (fun dv σ₂ => ∃ j, σ₂.own[j]? = some (a, .dict []) ∧ Q (.raw (.ref a)) (σ₂.put j a (.dict [(i, dv)]))) σ₁) (σ.new a (.dict []))) : LE K (.Dict [some k] [v] pos) Q σ :=
  fun F Φ s S => by
    have hs : s.heap.objs.size ≠ sysModules := fresh_ne gr S.gs
    have S₀ : St K F Φ (σ.new s.heap.objs.size (.dict [])) { s with heap := s.heap.push { cls := .type "dict", data := .dict #[] }, toks := s.toks } :=
      S.newOwn (get?_size s.heap (Nat.le_refl _)) (fun b o e => Heap.get?_push_of_some _ e) ⟨_, #[], 0, Heap.get?_push_size _ rfl, ⟨rfl, rfl, rfl⟩, rfl, .nil, List.nodup_nil, hs⟩
    refine wpAny_Dict_pairs (knd := intKind K.G.prog K.G.w) (pairs := [(eval k K.env, do let x ← eval v K.env; standAt pos; pure x)]) rfl (by simp) (by simp) ?_
    refine evalPairs_cons ((h s.heap.objs.size).use S₀ fun vk s₁ Φ₁ dk σ₁ S₁ g₁ rk zq => ?_); (with_reducible refine el_1_2 (zq) fun i hi h₁ => ?_); try clear zq
    subst hi
    refine wpAny_bind (h₁.use S₁ fun vv s₂ Φ₂ dv σ₂ S₂ g₂ rv ⟨j, hj, hq⟩ => wpAny_bind (wpAny_standAt (wpAny_pure (evalPairs_nil ?_))))
    with_reducible refine el_1_1 (rk.i) fun tk oq78 => ?_
    obtain rfl := oq78
    have ho := S₂.own _ (List.mem_of_getElem? hj)
    with_reducible refine el_2_4 (own_dictAt K.G.prog K.G.w ho) fun vks n hm hk hr _ => ?_
    have hnil : vks = [] := by
      have := congrArg List.length hk
      simpa using this
    subst hnil
    refine ⟨[(i, vv)], ⟨int_is _ _ _ _, rfl, trivial⟩, hm.dictOf, fun h' hd' hsb => ?_⟩
    have hd2 : h'.DictOf (intKind K.G.prog K.G.w) s.heap.objs.size [(i, vv)] := hd'
    have S₃ := S₂.setOwn (tk := s₂.toks + 1) hj hsb.extBut (own_of_dictOf (l := [(i, dv)]) hd2 rfl (.cons rv .nil) hs)
    exact ⟨Φ₂, _, _, S₃, g₁.trans g₂, .raw _, hq⟩
theorem LE_dict1 {k v : Expr} {pos : Pos} (gr : Grd K.G mg mb) (h : ∀ a, LE K k (fun dk σ₁ => ∃ i, dk = .int i ∧ LE K v (fun dv σ₂ => ∃ own, σ₂.own = (a, .dict []) :: own ∧ Q (.dict [(i, dv)]) ⟨σ₂.vars, own⟩) σ₁) (σ.new a (.dict []))) : LE K (.Dict [some k] [v] pos) Q σ :=
  LE_frzTop (LE_dict1Own gr fun a => (h a).mono fun dk σ₁ ⟨i, hi, h₁⟩ => ⟨i, hi, h₁.mono fun dv σ₂ ⟨own, ho, q⟩ => ⟨0, by rw [ho]; rfl, .inl ⟨a, .dict [(i, dv)], own, rfl, by unfold Sig.put; rw [ho]; rfl, q⟩⟩⟩)
end

/-! ### iterators -/
structure It (K : Act) (tgt : Expr) (I : Addr) (wr : List Addr) (Ψ : FMap) (ds : List D) (W : Nat → Heap → Prop) : Prop where
  frame : ∀ i h h', W i h → FIn Ψ h → (∀ b ∈ wr, ∀ o, h.get? b = some o → h'.get? b = some o) → FIn Ψ h' → W i h'
  there : ∀ i h, W i h → ∀ b ∈ wr, ∃ o, h.get? b = some o
  item : ∀ i d s, ds[i]? = some d → W i s.heap → FIn Ψ s.heap → wpAny K.M K.A (pyNext (.ref I)) (fun r s₁ => match r with
    | none => False
    | some v => wpAny K.M K.A (letOwnedTupleGo tgt (.ref I) v) (fun _ s₂ => ∃ h' tk Ψ', s₂ = { s with heap := h', toks := tk } ∧ W (i + 1) h' ∧ (∀ b o, b ∉ wr → s.heap.get? b = some o → h'.get? b = some o) ∧ FLe Ψ Ψ' ∧
        (∀ a o, Ψ' a = some o → Ψ a = some o ∨ (s.heap.get? a = none ∧ h'.get? a = some o)) ∧ RV Ψ' v d) NoE s₁) NoE s
  done : ∀ s, W ds.length s.heap → FIn Ψ s.heap → wpAny K.M K.A (pyNext (.ref I)) (fun r s' => r = none ∧ ∃ h' tk, s' = { s with heap := h', toks := tk } ∧ ∀ b o, b ∉ wr → s.heap.get? b = some o → h'.get? b = some o) NoE s
  self : ∀ i s, W i s.heap → wpAny K.M K.A (pyIter (.ref I)) (fun v s' => v = .ref I ∧ s' = s) NoE s
/-- an iterator that stands in the heap -/
structure ItAt (K : Act) (F Φ : FMap) (σ : Sig) (tgt : Expr) (it : Value) (ds : List D) (s : Shared) (I : Addr) (wr : List Addr) (W : Nat → Heap → Prop) : Prop where
  eq : it = .ref I
  walk : It K tgt I wr Φ ds W
  at0 : W 0 s.heap
  off : ∀ b ∈ wr, Φ b = none ∧ F b = none ∧ b ∉ K.muts σ ∧ ∀ t ∈ K.G.tabs, t.tab ≠ b
inductive PI (K : Act) (F Φ : FMap) (tgt : Expr) (Q : List D → Sig → Prop) (it : Value) (s' : Shared) : Prop
  | mk (I : Addr) (wr : List Addr) (W : Nat → Heap → Prop) (Φ' : FMap) (σ' : Sig) (ds : List D) (S : St K F Φ' σ' s') (g : FGrow F Φ Φ') (a : ItAt K F Φ' σ' tgt it ds s' I wr W) (q : Q ds σ')
/-- what is run through -/
noncomputable def LI (K : Act) (tgt iter : Expr) (Q : List D → Sig → Prop) (σ : Sig) : Prop :=
  ∀ F Φ s, St K F Φ σ s → wpAny K.M K.A (eval iter K.env) (fun x s₁ => wpAny K.M K.A (pyIter x) (PI K F Φ tgt Q) NoE s₁) NoE s

noncomputable def Quiet (o : Obj) : Prop := ∃ n, o.cls = .type n ∧ ["enumerate", "zip", "dict_itemiterator", "dict_reverseitemiterator", "odict_iterator", "itertools.zip_longest", "itertools.pairwise"].contains n = false
theorem wpAny_letGo {M : Model} {A : Around} {E : Value → Shared → Prop} {s : Shared} {tgt : Expr} {I : Addr} {v : Value} {P : Unit → Shared → Prop} (ho : ∃ o, s.heap.get? I = some o ∧ Quiet o) (h : P () s) : wpAny M A (letOwnedTupleGo tgt (.ref I) v) P E s := by
  obtain ⟨o, e, n, hc, hq⟩ := ho
  have key : wpAny M A (do
      let (.ref r, .ref a) := (Value.ref I, v) | return
      let o ← load r
      match o.cls, o.data with
      | .type n, .fields vs =>
        if ["enumerate", "zip", "dict_itemiterator", "dict_reverseitemiterator", "odict_iterator", "itertools.zip_longest", "itertools.pairwise"].contains n && vs[0]? == some (rawInt a) then
          rule "for.unpacks-the-owned-tuple"
          updateField r 0 .none
      | _, _ => pure ()) P E s := by
    cases v <;> first | exact wpAny_pure h | skip
    refine wpAny_bind (wpAny_load e ?_)
    rw [hc]
    cases hd : o.data <;> first | exact wpAny_pure h | skip
    simp only [hq, Bool.false_and, Bool.false_eq_true, if_false]
    exact wpAny_pure h
  unfold letOwnedTupleGo
  split
  · exact key
  · exact key
  · exact wpAny_pure h

theorem It.ofWalks {K : Act} {tgt : Expr} {I : Addr} {fp wr : List Addr} {Ψ : FMap} {ds : List D} {P : Nat → Value → Prop} {W : Nat → Heap → Prop} (w : Walks K.G.prog K.G.w K.A I fp wr ds.length P W) (hP : ∀ i v, P i v → ∃ d, ds[i]? = some d ∧ RV Ψ v d)
    (hfp : ∀ b ∈ fp, b ∈ wr ∨ ∃ o, Ψ b = some o) (hI : I ∈ wr) (hq : ∀ i h, W i h → ∃ o, h.get? I = some o ∧ Quiet o) (hw : ∀ b ∈ wr, b = I) : It K tgt I wr Ψ ds W where
  frame := fun i h h' st hf hk hf' => w.frame i h h' st fun b hb o e => by
    rcases hfp b hb with hm | ⟨o', q⟩
    · exact hk b hm o e
    · rw [hf _ _ q] at e; cases e; exact hf' _ _ q
  there := fun i h st b hb => by rw [hw b hb]; (with_reducible refine el_1_2 (hq i h st) fun o e _ => ?_); exact ⟨o, e⟩
  item := fun i d s hd st hf => by
    have hi : i < ds.length := (List.getElem?_eq_some_iff.mp hd).1
    refine w.item i s _ _ hi st fun v h' tk hp st' hk => ?_
    refine wpAny_letGo (hq _ _ st') ⟨h', tk, Ψ, rfl, st', hk, FLe.refl _, fun a o e => .inl e, ?_⟩
    with_reducible refine el_1_2 (hP i v hp) fun d' hd' r => ?_
    rw [hd] at hd'; cases hd'; exact r
  done := fun s st hf => w.done s _ _ st fun h' tk hk => ⟨rfl, h', tk, rfl, hk⟩
  self := fun i s st => w.self i s _ _ st ⟨rfl, rfl⟩

/-! ### the for statement -/
noncomputable def FMap.over (F : FMap) (wr : List Addr) (h : Heap) : FMap := fun b => if b ∈ wr then h.get? b else F b
section
variable {K : Act} {F Φ Φ' : FMap} {σ : Sig} {s : Shared} {Q : D → Sig → Prop} {R : LF → Sig → Prop} {sc : Scope} {n : Nat}
theorem over_off {wr : List Addr} {h : Heap} {b : Addr} (hb : b ∉ wr) : F.over wr h b = F b := by unfold FMap.over; rw [if_neg hb]
theorem over_on {wr : List Addr} {h : Heap} {b : Addr} (hb : b ∈ wr) : F.over wr h b = h.get? b := by unfold FMap.over; rw [if_pos hb]
theorem St.over {wr : List Addr} (S : St K F Φ σ s) (hoff : ∀ b ∈ wr, Φ b = none ∧ F b = none ∧ b ∉ K.muts σ ∧ ∀ t ∈ K.G.tabs, t.tab ≠ b) : St K (F.over wr s.heap) Φ σ s := by
  refine ⟨S.gs, fun a o e => ?_, fun c hc => ?_, fun t ht => ?_, fun a ha => ?_, S.nd, S.ns, S.cells, S.vars, S.own⟩
  · by_cases h : a ∈ wr
    · rw [over_on h] at e; exact e
    · rw [over_off h] at e; exact S.keep a o e
  · with_reducible refine el_1_1 (S.fcs c hc) fun o e => ?_
    refine ⟨o, ?_⟩
    rw [over_off (fun h => by rw [(hoff c h).2.1] at e; cases e)]; exact e
  · rw [over_off (fun h => (hoff _ h).2.2.2 t ht rfl)]; exact S.tabF t ht
  · with_reducible refine el_0_3 (S.mu a ha) fun h1 h2 h3 => ?_
    exact ⟨h1, by rw [over_off (fun h => (hoff _ h).2.2.1 ha)]; exact h2, h3⟩
theorem St.under {wr : List Addr} {h : Heap} (S : St K (F.over wr h) Φ σ s) (hF : ∀ b ∈ wr, F b = none) (hfc : ∀ c ∈ K.fc, ∃ o, F c = some o) : St K F Φ σ s := by
  have le : ∀ a o, F a = some o → F.over wr h a = some o := fun a o e => by
    rw [over_off (fun q => by rw [hF a q] at e; cases e)]; exact e
  refine ⟨S.gs, fun a o e => S.keep a o (le a o e), hfc, fun t ht => ?_, fun a ha => ?_, S.nd, S.ns, S.cells, S.vars, S.own⟩
  · cases q : F t.tab with
    | none => rfl
    | some o => have := S.tabF t ht; rw [le _ _ q] at this; cases this
  · with_reducible refine el_0_3 (S.mu a ha) fun h1 h2 h3 => ?_
    refine ⟨h1, ?_, h3⟩
    cases q : F a with
    | none => rfl
    | some o => rw [le _ _ q] at h2; cases h2
theorem FGrow.under {wr : List Addr} {h : Heap} (g : FGrow (F.over wr h) Φ Φ') (hF : ∀ b ∈ wr, F b = none) : FGrow F Φ Φ' := ⟨g.1, fun a o e => (g.2 a o e).imp id fun q => by
  by_cases hm : a ∈ wr
  · exact hF a hm
  · rw [over_off hm] at q; exact q⟩
/-- what a turn leaves, outside of the iterator -/
theorem St.turn {wr : List Addr} {Ψ Ψ' : FMap} {h' : Heap} {tk : Nat} (S : St K F Φ σ s) (hoff : ∀ b ∈ wr, Φ b = none ∧ F b = none ∧ b ∉ K.muts σ ∧ ∀ t ∈ K.G.tabs, t.tab ≠ b) (hwr : ∀ b ∈ wr, ∃ o, s.heap.get? b = some o)
    (hle : FLe Ψ Φ) (hk : ∀ b o, b ∉ wr → s.heap.get? b = some o → h'.get? b = some o) (hΨ : FLe Ψ Ψ') (hn : ∀ a o, Ψ' a = some o → Ψ a = some o ∨ (s.heap.get? a = none ∧ h'.get? a = some o)) :
    ∃ Φ', St K F Φ' σ { s with heap := h', toks := tk } ∧ FGrow F Φ Φ' ∧ FLe Ψ' Φ' ∧ ∀ b ∈ wr, Φ' b = none := by
  let Φ' : FMap := fun a => (Φ a).or (Ψ' a)
  have le1 : FLe Φ Φ' := fun a o e => by show (Φ a).or (Ψ' a) = some o; rw [e]; rfl
  have hn' : ∀ a o, Φ' a = some o → Φ a = some o ∨ (s.heap.get? a = none ∧ h'.get? a = some o) := fun a o e => by
    have e' : (Φ a).or (Ψ' a) = some o := e
    cases q : Φ a with
    | some o' => rw [q] at e'; cases e'; exact .inl rfl
    | none =>
      rw [q] at e'
      have e2 : Ψ' a = some o := e'
      rcases hn a o e2 with x | x
      · rw [hle _ _ x] at q; cases q
      · exact .inr x
  have le2 : FLe Ψ' Φ' := fun a o e => by
    show (Φ a).or (Ψ' a) = some o
    rcases hn a o e with x | ⟨x, _⟩
    · rw [hle _ _ x]; rfl
    · cases q : Φ a with
      | none => exact e
      | some o' => rw [S.gs.sub _ _ q] at x; cases x
  have offM : ∀ a ∈ K.muts σ, a ∉ wr := fun a ha hw => (hoff a hw).2.2.1 ha
  have kf : FIn F h' := fun a o e => hk a o (fun hw => by rw [(hoff a hw).2.1] at e; cases e) (S.keep a o e)
  have hnone : ∀ a o, s.heap.get? a = some o → Φ a = none → Φ' a = none := fun a o e q => by
    cases z : Φ' a with
    | none => rfl
    | some o' =>
      rcases hn' a o' z with x | ⟨x, _⟩
      · rw [q] at x; cases x
      · rw [x] at e; cases e
  refine ⟨Φ', ⟨⟨?_, fun a o e => le1 _ _ (S.gs.gr a o e), fun a o e => ?_, fun t ht => ?_⟩, kf, S.fcs, S.tabF, fun a ha => ?_, S.nd, ?_, fun x c e => ?_, fun x d e => ?_, fun p hp => ?_⟩, ⟨le1, fun a o e => ?_⟩, le2, fun b hb => ?_⟩
  · with_reducible refine el_2_1 (S.gs.rest) fun h t e => ?_
    exact ⟨h', tk, by rw [e]⟩
  · rcases hn' a o e with x | ⟨_, x⟩
    · exact hk a o (fun hw => by rw [(hoff a hw).1] at x; cases x) (S.gs.sub a o x)
    · exact x
  · have T := S.gs.tab t ht
    refine el_1_2 (id T.1) fun ps e _ => ?_
    exact ⟨T.1.keep le1 fun o e => hk _ _ (fun hw => (hoff _ hw).2.2.2 t ht rfl) e, hnone _ _ e T.2⟩
  · with_reducible refine el_0_4 (S.mu a ha) fun h1 h2 oq79 h4 => ?_
    obtain ⟨o, h3⟩ := oq79
    exact ⟨hnone _ _ h3 h1, h2, ⟨o, hk _ _ (offM a ha) h3⟩, h4⟩
  · with_reducible refine el_4_2 (S.ns) fun m o es ep e r => ?_
    exact ⟨m, o, es, ep, hk _ _ (offM _ St.locals_mem) e, r⟩
  · with_reducible refine el_2_2 (S.cells x c e) fun v o e' r => ?_
    exact ⟨v, o, hk _ _ (offM _ (St.cell_mem e)) e', r⟩
  · with_reducible refine el_1_2 (S.vars x d e) fun v V r => ?_
    exact ⟨v, V.keepBut (fun o e => hk _ _ (offM _ St.locals_mem) e) (fun y c hc o e => hk _ _ (offM _ (St.cell_mem hc)) e) (fc_keep S.fcs S.keep kf), r.mono le1⟩
  · exact ((S.own p hp).mono le1).keep fun o e => hk _ _ (offM _ (St.own_mem hp)) e
  · rcases hn' a o e with x | ⟨x, _⟩
    · exact .inl x
    · refine .inr ?_
      cases z : F a with
      | none => rfl
      | some o' => rw [S.keep a o' z] at x; cases x
  · with_reducible refine el_1_1 (hwr b hb) fun o e => ?_
    exact hnone b o e (hoff b hb).1

theorem fuel_lt {n i k : Nat} (hk : k = n + 1 - i) (h : i + 1 ≤ n) : n + 1 - (i + 1) < k := by (first | lia | omega)
theorem LS_for {tgt iter : Expr} {body : List Stmt} {pos : Pos}
    (h : LI K tgt iter (fun ds σ₁ => ∃ J : List D → Sig → Prop, J [] σ₁ ∧
      (∀ pre d post σ₂, ds = pre ++ d :: post → J pre σ₂ → LA K tgt d (fun σ₃ => LX K body (fun f σ₄ => match f with
        | .next | .cont => J (pre ++ [d]) σ₄
        | .brk => R .next σ₄
        | .ret e => R (.ret e) σ₄) σ₃) σ₂) ∧ ∀ σ₂, J ds σ₂ → R .next σ₂) σ)
    (hs : ∀ x, foldedSetIterable iter K.env x = pure x := by intro _; rfl) : LS K (.For tgt iter body [] pos) R σ :=
  fun F Φ s S => by
    refine wpAny_For (wpAny_mono (h F Φ s S) (fun x s₁ h₁ => wpAny_mono h₁ (fun it s₂ h₂ => ?_) fun _ _ x => x.elim) fun _ _ x => x.elim) hs
    obtain ⟨I, wr, W, Φ₂, σ₂, ds, S₂, g₂, A₂, J, hJ0, hturn, hend⟩ := h₂
    obtain rfl := A₂.eq
    have wFF : ∀ b ∈ wr, F b = none := fun b hb => (A₂.off b hb).2.1
    refine codeAny_forLoop_any (fun k s' => ∃ i Φ' σ', St K F Φ' σ' s' ∧ FGrow F Φ Φ' ∧ FLe Φ₂ Φ' ∧ W i s'.heap ∧ J (ds.take i) σ' ∧ i ≤ ds.length ∧ k = ds.length + 1 - i ∧ (∀ b ∈ wr, Φ' b = none ∧ F b = none ∧ b ∉ K.muts σ' ∧ ∀ t ∈ K.G.tabs, t.tab ≠ b))
      (fun k s' zq => ?_) (ds.length + 1) ⟨0, Φ₂, σ₂, S₂, g₂, FLe.refl _, A₂.at0, by simpa using hJ0, Nat.zero_le _, rfl, A₂.off⟩; (with_reducible refine el_3_8 (zq) fun i Φ' σ' S' g' le' st hj hi hk hoff => ?_); try clear zq
    have fΨ : FIn Φ₂ s'.heap := fun a o e => S'.gs.sub _ _ (le' _ _ e)
    cases hd : ds[i]? with
    | none =>
      have hi' : i = ds.length := by
        exact Nat.le_antisymm hi (List.getElem?_eq_none_iff.mp hd)
      subst hi'
      refine wpAny_mono (A₂.walk.done s' st fΨ) (fun r s'' zq => ?_) fun _ _ x => x.elim; (with_reducible refine el_0_2 (zq) fun hr oq80 => ?_); try clear zq; obtain ⟨h', tk, hs', hk'⟩ := oq80
      subst hr; subst hs'
      with_reducible refine el_1_4 (S'.turn (h' := h') (tk := tk) hoff (A₂.walk.there _ _ st) le' hk' (FLe.refl _) (fun a o e => .inl e)) fun Φ₃ S₃ g₃ _ _ => ?_
      refine wpAny_execs_nil ⟨Φ₃, .next, σ', S₃, g'.trans g₃, trivial, hend σ' ?_⟩
      rw [List.take_length] at hj
      exact hj
    | some d =>
      have hlt : i < ds.length := (List.getElem?_eq_some_iff.mp hd).1
      refine wpAny_mono (A₂.walk.item i d s' hd st fΨ) (fun r s₃ h₃ => ?_) fun _ _ x => x.elim
      cases r with
      | none => exact h₃.elim
      | some v =>
        refine wpAny_mono h₃ (fun _ s₄ zq => ?_) fun _ _ x => x.elim; (with_reducible refine el_3_6 (zq) fun h' tk Ψ' hs' st' hk' hle hn hr => ?_); try clear zq
        subst hs'
        with_reducible refine el_1_4 (S'.turn (h' := h') (tk := tk) hoff (A₂.walk.there _ _ st) le' hk' hle hn) fun Φ₄ S₄ g₄ le4 off4 => ?_
        have hoff4 : ∀ b ∈ wr, Φ₄ b = none ∧ F b = none ∧ b ∉ K.muts σ' ∧ ∀ t ∈ K.G.tabs, t.tab ≠ b := fun b hb => ⟨off4 b hb, (hoff b hb).2⟩
        have S₅ := S₄.over hoff4
        have hsplit : ds = ds.take i ++ d :: ds.drop (i + 1) := by
          have e1 := List.take_append_drop i ds
          rw [List.drop_eq_getElem_cons hlt] at e1
          have e2 : ds[i] = d := by have := List.getElem?_eq_getElem hlt; rw [this] at hd; exact Option.some.inj hd
          rw [e2] at e1; exact e1.symm
        refine wpAny_mono (hturn (ds.take i) d _ σ' hsplit hj (F.over wr h') Φ₄ _ v S₅ (hr.mono le4)) (fun _ s₆ zq => ?_) fun _ _ x => x.elim; obtain ⟨Φ₆, σ₆, S₆, g₆, hx⟩ := zq
        refine LX.use hx S₆ fun f s₇ Φ₇ lf σ₇ S₇ g₇ fl rr => ?_
        have gB : FGrow F Φ Φ₇ := (g'.trans g₄).trans ((g₆.trans g₇).under wFF)
        have SB := S₇.under wFF S'.fcs
        have le7 : FLe Φ₂ Φ₇ := le'.trans (g₄.1.trans (g₆.1.trans g₇.1))
        have fwd : J (ds.take i ++ [d]) σ₇ → ∃ m, m < k ∧ ∃ i Φ' σ', St K F Φ' σ' s₇ ∧ FGrow F Φ Φ' ∧ FLe Φ₂ Φ' ∧ W i s₇.heap ∧ J (ds.take i) σ' ∧ i ≤ ds.length ∧ m = ds.length + 1 - i ∧ (∀ b ∈ wr, Φ' b = none ∧ F b = none ∧ b ∉ K.muts σ' ∧ ∀ t ∈ K.G.tabs, t.tab ≠ b) := fun hj' => by
          have tk1 : ds.take (i + 1) = ds.take i ++ [d] := by rw [List.take_add_one, hd]; rfl
          have there7 : ∀ b ∈ wr, ∀ o, h'.get? b = some o → s₇.heap.get? b = some o := fun b hb o e => S₇.keep b o (by rw [over_on hb]; exact e)
          refine ⟨ds.length + 1 - (i + 1), fuel_lt hk hlt, i + 1, Φ₇, σ₇, SB, gB, le7, A₂.walk.frame _ _ _ st' (fun a o e => S₄.gs.sub _ _ (g₄.1 _ _ (le' _ _ e))) there7 (fun a o e => SB.gs.sub _ _ (le7 _ _ e)), by rw [tk1]; exact hj', hlt, rfl, fun b hb => ⟨?_, wFF b hb, fun hm => ?_, (hoff b hb).2.2.2⟩⟩
          · with_reducible refine el_1_1 (A₂.walk.there _ _ st' b hb) fun o e => ?_
            cases z : Φ₇ b with
            | none => rfl
            | some o' =>
              rcases (g₆.trans g₇).2 b o' z with x | x
              · rw [off4 b hb] at x; cases x
              · rw [over_on hb, e] at x; cases x
          · have := (S₇.mu b hm).2.1
            with_reducible refine el_1_1 (A₂.walk.there _ _ st' b hb) fun o e => ?_
            rw [over_on hb, e] at this; cases this
        cases f <;> cases lf <;> first | exact fl.elim | skip
        · exact fwd rr
        · exact ⟨Φ₇, .next, σ₇, SB, gB, trivial, rr⟩
        · exact fwd rr
        · exact ⟨Φ₇, .ret _, σ₇, SB, gB, fl, rr⟩

/-! ### sources -/
theorem muts_lt (S : St K F Φ σ s) {b : Addr} (hb : s.heap.get? b = none) : Φ b = none ∧ F b = none ∧ b ∉ K.muts σ ∧ ∀ t ∈ K.G.tabs, t.tab ≠ b := by
  refine ⟨?_, ?_, fun hm => ?_, fun t ht q => ?_⟩
  · cases z : Φ b with
    | none => rfl
    | some o => rw [S.gs.sub _ _ z] at hb; cases hb
  · cases z : F b with
    | none => rfl
    | some o => rw [S.keep _ _ z] at hb; cases hb
  · with_reducible refine el_0_4 (S.mu b hm) fun _ _ oq81 _ => ?_
    obtain ⟨o, e⟩ := oq81
    rw [hb] at e; cases e
  · obtain ⟨⟨ps, e, _⟩, _⟩ := S.gs.tab t ht
    rw [q, hb] at e; cases e
/-- a list that stands frozen -/
theorem LI_list {tgt iter : Expr} {Q : List D → Sig → Prop} (hK : KF K sc n) (h : LE K iter (fun d σ₁ => ∃ ds, d = .list ds ∧ Q ds σ₁) σ) : LI K tgt iter Q σ :=
  fun F Φ s S => h.use S fun v s₁ Φ₁ d σ₁ S₁ g₁ r zq => by
    with_reducible refine el_1_2 (zq) fun ds hd hq => ?_
    try clear zq
    subst hd
    with_reducible refine el_1_1 (r.listRef) fun a oq82 => ?_
    obtain rfl := oq82
    cases r with
    | @list _ vs m _ e rs =>
      have e' := S₁.gs.sub _ _ e
      have hl := isList_at e'
      have hne : a ≠ s₁.heap.objs.size := Nat.ne_of_lt (Heap.lt_size e')
      refine wpAny_pyIter_list hl ?_
      have hk : ∀ b o, s₁.heap.get? b = some o → (s₁.heap.push { cls := .type "list_iterator", data := .fields #[.ref a, .int 0 0] }).get? b = some o := fun b o e => Heap.get?_push_of_some _ e
      have S₂ := S₁.ext (tk := s₁.toks) hk
      have w := Walks.list (prog := K.G.prog) (w := K.G.w) (A := K.A) hK.hd s₁.heap.objs.size a hne vs.toArray
      have hz : vs.toArray.size = ds.length := by rw [List.size_toArray, rs.length]
      rw [hz] at w
      refine ⟨s₁.heap.objs.size, [s₁.heap.objs.size], _, Φ₁, σ₁, ds, S₂, g₁, ⟨rfl, It.ofWalks w (fun i v hp => ?_) (fun b hb => ?_) (List.mem_singleton.mpr rfl) (fun i h st => ?_) (fun b hb => List.mem_singleton.mp hb), ?_, fun b hb => ?_⟩, hq⟩
      · exact rs.getV (by simpa using hp)
      · simp only [List.mem_cons, List.not_mem_nil, or_false] at hb
        rcases hb with rfl | rfl
        · exact .inl (List.mem_singleton.mpr rfl)
        · exact .inr ⟨_, e⟩
      · obtain ⟨⟨o, e, hc, _⟩, _⟩ := st
        exact ⟨o, e, "list_iterator", hc, by decide⟩
      · exact ⟨⟨_, Heap.get?_push_size _ rfl, rfl, rfl⟩, isList_at (hk _ _ e')⟩
      · rw [List.mem_singleton.mp hb]
        exact muts_lt S₁ (get?_size s₁.heap (Nat.le_refl _))
end

section
variable {K : Act} {F Φ Φ' : FMap} {σ : Sig} {s : Shared} {Q : D → Sig → Prop} {R : LF → Sig → Prop} {sc : Scope} {n : Nat}

theorem St.push (S : St K F Φ σ s) (o : Obj) {tk : Nat} (hf : o.isFreed = false := by rfl) : St K F (Φ.ins s.heap.objs.size o) σ { s with heap := s.heap.push o, toks := tk } ∧ FGrow F Φ (Φ.ins s.heap.objs.size o) :=
  S.ins (fun b o e => Heap.get?_push_of_some _ e) (get?_size s.heap (Nat.le_refl _)) (Heap.get?_push_size _ hf)

/-! ### ranges -/
theorem blt_range1 {m : Int} : BltIs K (.type "range") [.int m] (.range 0 m 1) σ := fun F Φ s vs P S rs k => by
    with_reducible refine el_1_2 (rs.one) fun x oq83 r => ?_
    obtain rfl := oq83
    with_reducible refine el_1_1 (r.i) fun t oq84 => ?_
    obtain rfl := oq84
    refine call_range_1 ?_
    obtain ⟨S₂, g₂⟩ := S.push { cls := .type "range", data := .fields #[.int 0 s.toks, .int m _, .int 1 (s.toks + 1)] } (tk := s.toks + 1 + 1)
    exact k _ _ _ S₂ g₂ (.range (FMap.ins_self ..))
theorem blt_range3 {a b c : Int} (hc : c ≠ 0) (hp : Builtin.divisionGoesByPylong (b - a) c = false) : BltIs K (.type "range") [.int a, .int b, .int c] (.range a b c) σ := fun F Φ s vs P S rs k => by
        with_reducible refine el_3_4 (rs.three) fun x y z oq85 r r' r'' => ?_
        obtain rfl := oq85
        with_reducible refine el_1_1 (r.i) fun t oq86 => ?_
        obtain rfl := oq86
        with_reducible refine el_1_1 (r'.i) fun t' oq87 => ?_
        obtain rfl := oq87
        with_reducible refine el_1_1 (r''.i) fun t'' oq88 => ?_
        obtain rfl := oq88
        refine call_range_3 hc ?_ (.inl hp)
        obtain ⟨S₂, g₂⟩ := S.push { cls := .type "range", data := .fields #[.int a _, .int b _, .int c _] } (tk := s.toks)
        exact k _ _ _ S₂ g₂ (.range (FMap.ins_self ..))
/-- the ints of a range -/
noncomputable def rints (a c : Int) (n : Nat) : List D := (List.range n).map fun (i : Nat) => D.int (a + (i : Int) * c)
theorem rints_get {a c : Int} {n i : Nat} (h : i < n) : (rints a c n)[i]? = some (D.int (a + i * c)) := by
  unfold rints; rw [List.getElem?_map, List.getElem?_range h]; rfl
theorem rints_length (a c : Int) (n : Nat) : (rints a c n).length = n := by unfold rints; simp
theorem range_small {a b : Int} (ha : -(2 ^ 62) < a) (ha' : a < 2 ^ 62) (hb : -(2 ^ 62) < b) (hb' : b < 2 ^ 62) : Builtin.Range.small a b 1 = true := by
  unfold Builtin.Range.small Builtin.Range.rangeFitsLong Builtin.Range.rangeSize
  simp
  split <;> (first | lia | omega)
theorem rangeSize_one (a b : Int) : Builtin.Range.rangeSize a b 1 = ((b - a).toNat : Int) := by
  unfold Builtin.Range.rangeSize
  simp
  split <;> (first | lia | omega)
theorem LI_range {tgt iter : Expr} {Q : List D → Sig → Prop} (hK : KF K sc n) (h : LE K iter (fun d σ₁ => ∃ a b, d = .range a b 1 ∧ (-(2 ^ 62) < a ∧ a < 2 ^ 62 ∧ -(2 ^ 62) < b ∧ b < 2 ^ 62) ∧ Q (rints a 1 (b - a).toNat) σ₁) σ) : LI K tgt iter Q σ :=
  fun F Φ s S => h.use S fun v s₁ Φ₁ d σ₁ S₁ g₁ r zq => by
    with_reducible refine el_2_3 (zq) fun a b hd oq89 hq => ?_
    try clear zq
    obtain ⟨h1, h2, h3, h4⟩ := oq89
    subst hd
    cases r with
    | @range rr _ _ _ t u v e =>
      have e' := S₁.gs.sub _ _ e
      refine wpAny_pyIter_range e' (range_small h1 h2 h3 h4) ?_
      have hk : ∀ x o, s₁.heap.get? x = some o → (s₁.heap.push { cls := .type "range_iterator", data := .fields #[rawInt a, rawInt (Builtin.Range.rangeSize a b 1), rawInt 1] }).get? x = some o := fun x o e => Heap.get?_push_of_some _ e
      have S₂ := S₁.ext (tk := s₁.toks) hk
      have w := Walks.range (prog := K.G.prog) (w := K.G.w) (A := K.A) hK.hd s₁.heap.objs.size a 1 (b - a).toNat
      rw [show (b - a).toNat = (rints a 1 (b - a).toNat).length from (rints_length ..).symm] at w
      refine ⟨s₁.heap.objs.size, [s₁.heap.objs.size], _, Φ₁, σ₁, _, S₂, g₁, ⟨rfl, It.ofWalks (w.bound) (fun i v hp => ?_) (fun b hb => .inl hb) (List.mem_singleton.mpr rfl) (fun i h st => ?_) (fun b hb => List.mem_singleton.mp hb), ?_, fun b hb => ?_⟩, hq⟩
      · with_reducible refine el_0_2 (hp) fun hi oq90 => ?_
        try clear hp
        obtain ⟨t, rfl⟩ := oq90
        rw [rints_length] at hi
        exact ⟨_, rints_get hi, .int _ _⟩
      · exact ⟨_, st, "range_iterator", rfl, by decide⟩
      · show IsRangeIter _ _ _ _ _
        have := Heap.get?_push_size s₁.heap (o := { cls := .type "range_iterator", data := .fields #[rawInt a, rawInt (Builtin.Range.rangeSize a b 1), rawInt 1] }) rfl
        refine this.trans ?_
        rw [rangeSize_one, rints_length]
        simp
      · rw [List.mem_singleton.mp hb]
        exact muts_lt S₁ (get?_size s₁.heap (Nat.le_refl _))

/-! ### dict views -/
theorem met_items {l : List (Int × D)} : MetIs K "dict.items" [.dict l] (.items l) σ σ := fun F Φ s vs P S rs k => by
    with_reducible refine el_1_2 (rs.one) fun x oq91 r => ?_
    obtain rfl := oq91
    with_reducible refine el_3_5 (rv_dictAt K.G.prog K.G.w r S.gs.sub) fun a vks m oq92 hm hk hr hs => ?_
    obtain rfl := oq92
    refine call_meetsIn PySem.F.slot_dict_items hm.dictOf.mapOf.typeIs PySem.F.entry_dict_items (PySem.F.args_dict_items_1 _) (meets_dict_items (intKind K.G.prog K.G.w) a hs) ⟨⟨vks, hm.dictOf⟩, ?_⟩
    with_reducible refine el_0_2 (S.ins (tk := s.toks) (fun b o e => Heap.get?_push_of_some _ e) (get?_size s.heap (Nat.le_refl _)) (Heap.get?_push_size s.heap (o := { cls := .type "dict_items", data := .fields #[.ref a] }) rfl)) fun S₂ g₂ => ?_
    exact k _ _ _ S₂ g₂ (.items (FMap.ins_self ..) (r.mono g₂.1))
theorem met_values {l : List (Int × D)} : MetIs K "dict.values" [.dict l] (.vals l) σ σ := fun F Φ s vs P S rs k => by
    with_reducible refine el_1_2 (rs.one) fun x oq93 r => ?_
    obtain rfl := oq93
    with_reducible refine el_3_5 (rv_dictAt K.G.prog K.G.w r S.gs.sub) fun a vks m oq94 hm hk hr hs => ?_
    obtain rfl := oq94
    refine call_meetsIn PySem.F.slot_dict_values hm.dictOf.mapOf.typeIs PySem.F.entry_dict_values (PySem.F.args_dict_values_1 _) (meets_dict_values (intKind K.G.prog K.G.w) a hs) ⟨⟨vks, hm.dictOf⟩, ?_⟩
    with_reducible refine el_0_2 (S.ins (tk := s.toks) (fun b o e => Heap.get?_push_of_some _ e) (get?_size s.heap (Nat.le_refl _)) (Heap.get?_push_size s.heap (o := { cls := .type "dict_values", data := .fields #[.ref a] }) rfl)) fun S₂ g₂ => ?_
    exact k _ _ _ S₂ g₂ (.vals (FMap.ins_self ..) (r.mono g₂.1))
end

/-! ### the scope of a comprehension -/
noncomputable def relabelS (scope sc : Scope) : Scope :=
  { scope with names := scope.names.map fun (n, k) => if (k == .free && sc.kind == .function && sc.names.lookup n == some .cell) then (n, .cell) else (n, k) }
noncomputable def clOf (cells : List (Str × Addr)) : List (Str × NameKind) → List (Str × Addr) → List (Str × Addr)
  | [], acc => acc
  | (n, k) :: r, acc => if k == .free then clOf cells r ((n, (cells.lookup n).getD 0) :: acc) else clOf cells r acc
theorem closure_loop {env : Env} : ∀ (names : List (Str × NameKind)) (acc : List (Str × Addr)), (∀ p ∈ names, p.2 = .free → ∃ c, env.cells.lookup p.1 = some c) →
    (forIn names acc fun (x : Str × NameKind) (r : List (Str × Addr)) => (match x with
      | (name, kind) => if (kind == NameKind.free) = true then do let c ← cellOf env name; pure (ForInStep.yield ((name, c) :: r)) else pure (ForInStep.yield r) : Sem (ForInStep (List (Str × Addr))))) = (pure (clOf env.cells names acc) : Sem _) := by
  intro names
  induction names with
  | nil => exact fun acc _ => rfl
  | cons p r ih0 =>
    obtain ⟨n, k⟩ := p
    intro acc h
    rw [List.forIn_cons]
    have ih := fun acc => ih0 acc fun p hp => h p (.tail _ hp)
    by_cases hk : (k == NameKind.free) = true
    · refine el_1_1 (h (n, k) (.head _) (by simpa using hk)) fun c hc => ?_
      have hc' : env.cells.lookup n = some c := hc
      have e : cellOf env n = pure c := by unfold cellOf; rw [hc']
      unfold clOf
      simp only [hk, if_true, e, hc', Option.getD_some]
      exact ih _
    · have hk' : (k == NameKind.free) = false := by simpa using hk
      unfold clOf
      simp only [hk', Bool.false_eq_true, if_false]
      exact ih _
theorem closureFor_eq {scope : Scope} {env : Env} (h : ∀ p ∈ scope.names, p.2 = .free → ∃ c, env.cells.lookup p.1 = some c) : closureFor scope env = pure (clOf env.cells scope.names []) := by
  unfold closureFor
  have := closure_loop (env := env) scope.names [] h
  simp only [] at this ⊢
  first
    | (rw [this]; rfl)
    | (refine Eq.trans ?_ (congrArg (· >>= pure) this); rfl)
theorem clOf_free {cells : List (Str × Addr)} {x : Str} {c : Addr} (hc : cells.lookup x = some c) : ∀ (names : List (Str × NameKind)) (acc : List (Str × Addr)), (x, .free) ∈ names ∨ acc.lookup x = some c → (clOf cells names acc).lookup x = some c := by
  intro names
  induction names with
  | nil => intro acc h; rcases h with h | h; cases h; exact h
  | cons p r ih =>
    obtain ⟨n, k⟩ := p
    intro acc h
    unfold clOf
    split
    · rename_i hk
      refine ih _ ?_
      by_cases hx : x = n
      · subst hx; right; rw [List.lookup_cons, beq_self_eq_true]; simp [hc]
      · rcases h with h | h
        · rcases List.mem_cons.mp h with h | h
          · exact absurd (congrArg Prod.fst h) hx
          · exact .inl h
        · right
          rw [List.lookup_cons, (beq_eq_false_iff_ne.mpr hx : (x == n) = false)]; exact h
    · rename_i hk
      refine ih _ (h.imp (fun h => ?_) id)
      rcases List.mem_cons.mp h with h | h
      · cases h; exact absurd rfl hk
      · exact h
theorem cellsFrom_none {x : Str} : ∀ (names : List (Str × NameKind)) (n : Nat) (acc : List (Str × Addr)), (x, .cell) ∉ names → (cellsFrom n names acc).lookup x = acc.lookup x
  | [], _, acc, _ => rfl
  | (y, k) :: r, n, acc, h => by
    unfold cellsFrom
    have hr : (x, NameKind.cell) ∉ r := fun q => h (.tail _ q)
    split
    · rename_i hk
      rw [cellsFrom_none r _ _ hr, List.lookup_cons]
      have : (x == y) = false := by
        rw [beq_eq_false_iff_ne]; intro q; subst q
        exact h (by have : k = .cell := by simpa using hk
                    subst this; exact .head _)
      rw [this]
    · exact cellsFrom_none r _ _ hr
/-- what a comprehension sees of the names around it -/
noncomputable def capOf (names : List (Str × NameKind)) (vars : List (Str × D)) : List (Str × D) := names.filterMap fun (n, k) => if k == .free then (vars.lookup n).map (n, ·) else none
theorem capOf_lookup {names : List (Str × NameKind)} {vars : List (Str × D)} {x : Str} {d : D} (h : (capOf names vars).lookup x = some d) : (x, .free) ∈ names ∧ vars.lookup x = some d := by
  have := lookup_mem h
  with_reducible refine el_1_2 (List.mem_filterMap.mp this) fun oq95 hm e => ?_
  obtain ⟨n, k⟩ := oq95
  simp only at e
  split at e
  · rename_i hk
    have hk' : k = .free := by simpa using hk
    subst hk'
    cases q : vars.lookup n with
    | none => rw [q] at e; cases e
    | some d' => rw [q] at e; cases e; exact ⟨hm, q⟩
  · cases e
/-- the scope is plain: each name once; each captured name is a cell around, with a value -/
noncomputable def compOk (scope sc : Scope) (vars : List (Str × D)) : Bool :=
  scope.names.all fun (n, k) => scope.names.lookup n == some k && (k != .free || ((vars.lookup n).isSome && (sc.names.lookup n == some .cell || sc.names.lookup n == some .free)))
theorem compOk.names {scope sc : Scope} {vars : List (Str × D)} (h : compOk scope sc vars = true) {p : Str × NameKind} (hp : p ∈ scope.names) : scope.names.lookup p.1 = some p.2 := by
  unfold compOk at h
  have := (List.all_eq_true.mp h) p hp
  simp only [Bool.and_eq_true] at this
  exact eq_of_beq this.1
theorem compOk.free {scope sc : Scope} {vars : List (Str × D)} (h : compOk scope sc vars = true) {p : Str × NameKind} (hp : p ∈ scope.names) (hf : p.2 = .free) : (∃ d, vars.lookup p.1 = some d) ∧ (sc.names.lookup p.1 = some .cell ∨ sc.names.lookup p.1 = some .free) := by
  unfold compOk at h
  have := (List.all_eq_true.mp h) p hp
  simp only [Bool.and_eq_true] at this
  have h2 := this.2
  rw [hf] at h2
  simp only [bne_self_eq_false, Bool.false_or, Bool.and_eq_true, Bool.or_eq_true] at h2
  exact ⟨Option.isSome_iff_exists.mp h2.1, h2.2.imp eq_of_beq eq_of_beq⟩

section
variable {K : Act} {F Φ Φ' : FMap} {σ : Sig} {s : Shared} {Q : D → Sig → Prop} {R : LF → Sig → Prop} {sc : Scope} {n : Nat}
theorem relabel_eq (hK : KF K sc n) (scope : Scope) : relabel scope K.env = relabelS scope sc := by unfold relabel relabelS Env.kindOf; rw [hK.scope]
theorem relabelS_keep {scope sc : Scope} {x : Str} {k : NameKind} (hk : k ≠ .free) (h : scope.names.lookup x = some k) : (relabelS scope sc).names.lookup x = some k := by
  show List.lookup x (scope.names.map _) = _
  generalize scope.names = l at h
  induction l with
  | nil => cases h
  | cons p r ih =>
    obtain ⟨n, k'⟩ := p
    rw [List.map_cons]
    cases hx : x == n with
    | true =>
      rw [List.lookup_cons, hx] at h
      cases h
      have : (k == NameKind.free) = false := by simpa using hk
      simp [List.lookup_cons, hx, this]
    | false =>
      rw [List.lookup_cons, hx] at h
      have := ih h
      simp only []
      split <;> (rw [List.lookup_cons, hx]; exact this)
theorem relabelS_free {scope sc : Scope} {x : Str} (hkd : sc.kind = .function) (h : scope.names.lookup x = some .free) : (sc.names.lookup x = some .cell → (relabelS scope sc).names.lookup x = some .cell) ∧ (sc.names.lookup x = some .free → (relabelS scope sc).names.lookup x = some .free) := by
  have gen : ∀ l : List (Str × NameKind), l.lookup x = some .free → (l.map fun (n, k) => if (k == NameKind.free && sc.kind == .function && sc.names.lookup n == some .cell) then (n, NameKind.cell) else (n, k)).lookup x = some (if sc.names.lookup x == some .cell then .cell else .free) := fun l => by
    induction l with
    | nil => intro h; cases h
    | cons p r ih =>
      intro h
      obtain ⟨n, k'⟩ := p
      rw [List.map_cons]
      cases hx : x == n with
      | true =>
        rw [List.lookup_cons, hx] at h
        cases h
        have hx' := eq_of_beq hx
        subst hx'
        simp only [beq_self_eq_true, hkd, Bool.true_and]
        split <;> simp [List.lookup_cons]
      | false =>
        rw [List.lookup_cons, hx] at h
        have := ih h
        simp only []
        split <;> (rw [List.lookup_cons, hx]; exact this)
  have g := gen _ h
  exact ⟨fun e => by rw [e] at g; exact g, fun e => by rw [e] at g; exact g⟩

/-! ### more about states -/
theorem St.weakF {F' : FMap} (S : St K F Φ σ s) (h : ∀ a o, F' a = some o → F a = some o) (hfc : ∀ c ∈ K.fc, ∃ o, F' c = some o) : St K F' Φ σ s := by
  have hn : ∀ a, F a = none → F' a = none := fun a e => by
    cases q : F' a with
    | none => rfl
    | some o => rw [h _ _ q] at e; cases e
  exact ⟨S.gs, fun a o e => S.keep a o (h a o e), hfc, fun t ht => hn _ (S.tabF t ht), fun a ha => ⟨(S.mu a ha).1, hn _ (S.mu a ha).2.1, (S.mu a ha).2.2⟩, S.nd, S.ns, S.cells, S.vars, S.own⟩
theorem St.setVars {vars : List (Str × D)} (S : St K F Φ σ s) (h : ∀ x d, vars.lookup x = some d → ∃ v, VarAt K s.heap x v ∧ RV Φ v d) : St K F Φ ⟨vars, σ.own⟩ s :=
  ⟨S.gs, S.keep, S.fcs, S.tabF, S.mu, S.nd, S.ns, S.cells, h, S.own⟩
theorem St.adopt {a : Addr} {od : OD} (S : St K F Φ σ s) (ha : Φ a = none ∧ F a = none ∧ a ∉ K.muts σ ∧ ∀ t ∈ K.G.tabs, t.tab ≠ a) (ho : OwnIs Φ s.heap a od) : St K F Φ (σ.new a od) s := by
  have hm : ∀ b, b ∈ K.muts (σ.new a od) ↔ b = a ∨ b ∈ K.muts σ := fun b => by
    unfold Act.muts Sig.new
    simp only [List.map_cons, List.mem_cons, List.mem_append]
    constructor
    · rintro (h | h | h | h)
      · exact .inr (.inl h)
      · exact .inr (.inr (.inl h))
      · exact .inl h
      · exact .inr (.inr (.inr h))
    · rintro (h | h | h | h)
      · exact .inr (.inr (.inl h))
      · exact .inl h
      · exact .inr (.inl h)
      · exact .inr (.inr (.inr h))
  refine ⟨S.gs, S.keep, S.fcs, S.tabF, fun b hb => ?_, ?_, S.ns, S.cells, S.vars, fun p hp => ?_⟩
  · rcases (hm b).mp hb with rfl | hb
    · exact ⟨ha.1, ha.2.1, ho.there, ha.2.2.2⟩
    · exact S.mu b hb
  · have hp : (K.muts (σ.new a od)).Perm (a :: K.muts σ) := by
      show List.Perm (K.env.locals :: (K.mc.map (·.2) ++ a :: σ.own.map (·.1))) (a :: K.env.locals :: (K.mc.map (·.2) ++ σ.own.map (·.1)))
      exact (List.Perm.cons _ List.perm_middle).trans (List.Perm.swap ..)
    exact hp.nodup_iff.mpr (List.nodup_cons.mpr ⟨ha.2.2.1, S.nd⟩)
  · rcases List.mem_cons.mp hp with rfl | hp
    · exact ho
    · exact S.own p hp
/-- outside of the iterator and of the tables all stays -/
theorem St.pass {wr : List Addr} {h' : Heap} {tk : Nat} (S : St K F Φ σ s) (hoff : ∀ b ∈ wr, Φ b = none ∧ F b = none ∧ b ∉ K.muts σ ∧ ∀ t ∈ K.G.tabs, t.tab ≠ b)
    (hk : ∀ b o, s.heap.get? b = some o → b ∉ wr → (∀ t ∈ K.G.tabs, t.tab ≠ b) → h'.get? b = some o) (ht : ∀ t ∈ K.G.tabs, TabOk Φ' h' t) (hΦ : FLe Φ Φ')
    (hn : ∀ a o, Φ' a = some o → Φ a = some o ∨ (s.heap.get? a = none ∧ h'.get? a = some o)) : St K F Φ' σ { s with heap := h', toks := tk } ∧ FGrow F Φ Φ' := by
  have hnone : ∀ a o, s.heap.get? a = some o → Φ a = none → Φ' a = none := fun a o e q => by
    cases z : Φ' a with
    | none => rfl
    | some o' =>
      rcases hn a o' z with x | ⟨x, _⟩
      · rw [q] at x; cases x
      · rw [x] at e; cases e
  have tΦ : ∀ a o, Φ a = some o → a ∉ wr ∧ ∀ t ∈ K.G.tabs, t.tab ≠ a := fun a o e => ⟨fun q => (by rw [(hoff a q).1] at e; cases e), fun t ht q => by
    have := (S.gs.tab t ht).2
    rw [q, e] at this; cases this⟩
  have tF : ∀ a o, F a = some o → a ∉ wr ∧ ∀ t ∈ K.G.tabs, t.tab ≠ a := fun a o e => ⟨fun q => (by rw [(hoff a q).2.1] at e; cases e), fun t ht q => by
    have := S.tabF t ht
    rw [q, e] at this; cases this⟩
  have offM : ∀ a ∈ K.muts σ, a ∉ wr := fun a ha hw => (hoff a hw).2.2.1 ha
  have kf : FIn F h' := fun a o e => hk _ _ (S.keep a o e) (tF a o e).1 (tF a o e).2
  have hM : ∀ a ∈ K.muts σ, ∀ o, s.heap.get? a = some o → h'.get? a = some o := fun a ha o e => hk _ _ e (offM a ha) (S.mu a ha).2.2.2
  refine ⟨⟨⟨?_, fun a o e => hΦ _ _ (S.gs.gr a o e), fun a o e => ?_, fun t htm => ?_⟩, kf, S.fcs, S.tabF, fun a ha => ?_, S.nd, ?_, fun x c e => ?_, fun x d e => ?_, fun p hp => ?_⟩, hΦ, fun a o e => ?_⟩
  · with_reducible refine el_2_1 (S.gs.rest) fun h t e => ?_
    exact ⟨h', tk, by rw [e]⟩
  · exact (hn a o e).elim (fun x => hk _ _ (S.gs.sub a o x) (tΦ a o x).1 (tΦ a o x).2) (·.2)
  · have T := S.gs.tab t htm
    exact ⟨ht t htm, let ⟨_, e, _⟩ := T.1; hnone _ _ e T.2⟩
  · with_reducible refine el_0_4 (S.mu a ha) fun h1 h2 oq96 h4 => ?_
    obtain ⟨o, h3⟩ := oq96
    exact ⟨hnone _ _ h3 h1, h2, ⟨o, hM a ha o h3⟩, h4⟩
  · with_reducible refine el_4_2 (S.ns) fun m o es ep e r => ?_
    exact ⟨m, o, es, ep, hM _ St.locals_mem _ e, r⟩
  · with_reducible refine el_2_2 (S.cells x c e) fun v o e' r => ?_
    exact ⟨v, o, hM _ (St.cell_mem e) _ e', r⟩
  · with_reducible refine el_1_2 (S.vars x d e) fun v hv r => ?_
    exact ⟨v, hv.keepBut (fun o e => hM _ St.locals_mem _ e) (fun y c hc o e => hM _ (St.cell_mem hc) _ e) (fc_keep S.fcs S.keep kf), r.mono hΦ⟩
  · exact ((S.own p hp).mono hΦ).keep fun o e => hM _ (St.own_mem hp) _ e
  · rcases hn a o e with x | ⟨x, _⟩
    · exact .inl x
    · refine .inr ?_
      cases z : F a with
      | none => rfl
      | some o' => rw [S.keep a o' z] at x; cases x
end

/-- what stands for a target once it has its value -/
noncomputable def TgtIs (tgt : Expr) (d : D) (xs : List Str) (vs : List D) : Prop := match tgt with
  | .Name x _ => xs = [x] ∧ vs = [d]
  | .Tuple elts _ _ => (∃ ns : List (Str × Pos), elts = (ns.map fun p => Expr.Name p.1 p.2) ∧ xs = ns.map (·.1)) ∧ d = .tup vs ∧ xs.length = vs.length
  | _ => False
/-- the tests of a clause: none, or one -/
noncomputable def LTs (K : Act) (ifs : List Expr) (Q : Bool → Sig → Prop) (σ : Sig) : Prop := match ifs with
  | [] => Q true σ
  | [c] => LT K c Q σ
  | _ => False

structure CompK (K' K : Act) (scope sc : Scope) (n : Nat) : Prop where
  G : K'.G = K.G
  A : K'.A = K.A
  kf : KF K' (relabelS scope sc) n
  st : ∀ x, scope.names.lookup x = some .local ∨ scope.names.lookup x = some .cell → Stores K' x

section
variable {K : Act} {F Φ Φ' : FMap} {σ : Sig} {s : Shared} {Q : D → Sig → Prop} {R : LF → Sig → Prop} {sc : Scope} {n : Nat}
theorem TgtIs.la {tgt : Expr} {d : D} {xs : List Str} {vs : List D} {k : Sig → Prop} (h : TgtIs tgt d xs vs) (hK : KF K sc n) (hst : ∀ x ∈ xs, Stores K x) (hk : k { σ with vars := setAll σ.vars xs vs }) : LA K tgt d k σ := by
  cases tgt <;> first | exact h.elim | skip
  · refine el_0_2 (h) fun oq97 oq98 => ?_
    try clear h
    obtain rfl := oq97
    obtain rfl := oq98
    exact LA_name hK (hst _ (.head _)) hk
  · refine el_0_3 (h) fun oq99 oq100 hl => ?_
    try clear h
    obtain ⟨ns, hn, rfl⟩ := oq99
    obtain rfl := oq100
    exact LA_tup hK hn (by simpa using hl) (fun p hp => hst p.1 (List.mem_map.mpr ⟨p, hp, rfl⟩)) hk
theorem LTs.use {ifs : List Expr} {Q : Bool → Sig → Prop} {E : Value → Shared → Prop} (H : LTs K ifs Q σ) (S : St K F Φ σ s) {P : Bool → Shared → Prop} (k : ∀ b s' Φ' σ', St K F Φ' σ' s' → FGrow F Φ Φ' → Q b σ' → P b s') :
    wpAny K.M K.A (forIn ifs true fun c r => if r = true then do let ok ← isTrue c K.env (eval c K.env); pure (ForInStep.yield ok) else pure (ForInStep.yield r)) P E s := by
  match ifs, H with
  | [], H => exact wpAny_tests_nil (k true s Φ σ S (.refl ..) H)
  | [c], H => exact wpAny_tests_one (LT.use H S k)
  | _ :: _ :: _, H => exact H.elim

theorem codeAny_compLoop_own {prog : Program} {w : World} {A : Around} {R : Result → Shared → Prop} {elt target iter : Expr} {ifs : List Expr} {scope : Scope} {pos : Pos} {it acc : Value} {env : Env} (I : Nat → Shared → Prop)
    (turn : ∀ n s, I n s → wpAny (model prog w) A (pyNext it) (fun r s₁ => match r with
      | none => R (.ok .next) s₁
      | some v => wpAny (model prog w) A (letOwnedTupleGo target it v) (fun _ s₁ => wpAny (model prog w) A (assign target env v) (fun _ s₂ =>
          wpAny (model prog w) A (forIn ifs true fun c r => if r = true then do let ok ← isTrue c env (eval c env); pure (ForInStep.yield ok) else pure (ForInStep.yield r)) (fun ok s₃ =>
            if ok = true then wpAny (model prog w) A (eval elt env) (fun x s₄ =>
              wpAny (model prog w) A (call (.builtin "list.append") [acc, x]) (fun _ s₅ => ∃ m, m < n ∧ I m s₅) NoE s₄) NoE s₃
            else ∃ m, m < n ∧ I m s₃) NoE s₂) NoE s₁) NoE s₁) NoE s)
    (n : Nat) (h : I n s) :
    codeAny (model prog w) A (.compLoop (.ListComp elt [⟨target, iter, ifs, 0⟩] scope pos) 0 it acc env) R s := by
  refine codeAny_loop rfl I (fun n s hI => ?_) n h
  show wpAny _ A ((compTurn (.ListComp elt [⟨target, iter, ifs, 0⟩] scope pos) 0 it acc env).onRaise (fun x => do noteFrame x env; theTreesLotGoes x)) _ _ s
  refine wpAny_noted ?_
  rw [compTurn_list]
  refine wpAny_bind (wpAny_standAt (wpAny_bind (wpAny_mono (turn n s hI) (fun r s₁ h₁ => ?_) fun _ _ h' => h'.elim)))
  cases r with
  | none => exact wpAny_pure h₁
  | some v =>
    refine wpAny_bind (wpAny_mono h₁ (fun _ s₁ h₁ => ?_) fun _ _ h' => h'.elim)
    refine wpAny_bind (wpAny_mono h₁ (fun _ s₂ h₂ => wpAny_bind (wpAny_mono h₂ (fun ok s₃ h₃ => ?_) fun _ _ h' => h'.elim)) fun _ _ h' => h'.elim)
    cases ok with
    | false => exact wpAny_pure ⟨rfl, h₃⟩
    | true =>
      exact wpAny_bind (wpAny_bind (wpAny_mono h₃ (fun x s₄ h₄ => wpAny_bind (wpAny_mono h₄ (fun _ s₅ h₅ => wpAny_pure (wpAny_pure ⟨rfl, h₅⟩)) fun _ _ h' => h'.elim)) fun _ _ h' => h'.elim))

theorem take_filter_map {α β : Type} (p : α → Bool) (f : α → β) (l : List α) (i : Nat) (d : α) (h : l[i]? = some d) : ((l.take (i + 1)).filter p).map f = ((l.take i).filter p).map f ++ (if p d then [f d] else []) := by
  rw [List.take_add_one, h, List.filter_append, List.map_append]
  cases hp : p d <;> simp [hp]

/-- the turns of a comprehension -/
theorem comp_loop {K' : Act} {F₁ : FMap} {tgt iter elt : Expr} {ifs : List Expr} {scope : Scope} {pos : Pos} {I B : Addr} {wr : List Addr} {W : Nat → Heap → Prop} {ds : List D} {cap : List (Str × D)} {xs : List Str} {sc' : Scope} {p : D → Bool} {f : D → D} {RR : Result → Shared → Prop}
    (hK : KF K' sc' n) (hst : ∀ x ∈ xs, Stores K' x) (w : It K' tgt I wr Φ ds W) (S₀ : St K' F₁ Φ ⟨cap, [(B, .list [])]⟩ s) (hW : W 0 s.heap) (hoff₀ : ∀ b ∈ wr, Φ b = none ∧ F₁ b = none ∧ b ∉ K'.muts ⟨cap, [(B, .list [])]⟩ ∧ ∀ t ∈ K'.G.tabs, t.tab ≠ b)
    (hlen : ds.length ≤ sizeLine) (hcap : ∀ x ∈ xs, cap.lookup x = none)
    (hturn : ∀ d ∈ ds, ∃ vs, TgtIs tgt d xs vs ∧ ∀ own, LTs K' ifs (fun b σ' => σ' = ⟨setAll cap xs vs, own⟩ ∧ b = p d) ⟨setAll cap xs vs, own⟩ ∧ (p d = true → LE K' elt (fun e σ' => σ' = ⟨setAll cap xs vs, own⟩ ∧ e = f d) ⟨setAll cap xs vs, own⟩))
    (hend : ∀ s' Φ', St K' F₁ Φ' ⟨cap, [(B, .list ((ds.filter p).map f))]⟩ s' → FGrow F₁ Φ Φ' → (∀ b ∈ wr, Φ' b = none) → RR (.ok .next) s') :
    codeAny K'.M K'.A (.compLoop (.ListComp elt [⟨tgt, iter, ifs, 0⟩] scope pos) 0 (.ref I) (.ref B) K'.env) RR s := by
  have wFF : ∀ b ∈ wr, F₁ b = none := fun b hb => (hoff₀ b hb).2.1
  have hM : ∀ (v : List (Str × D)) (l : OD), K'.muts ⟨v, [(B, l)]⟩ = K'.muts ⟨cap, [(B, .list [])]⟩ := fun v l => rfl
  refine codeAny_compLoop_own (fun k s' => ∃ i Φ', St K' F₁ Φ' ⟨cap, [(B, .list (((ds.take i).filter p).map f))]⟩ s' ∧ FGrow F₁ Φ Φ' ∧ W i s'.heap ∧ i ≤ ds.length ∧ k = ds.length + 1 - i ∧ (∀ b ∈ wr, Φ' b = none))
    (fun k s' zq => ?_) (ds.length + 1) ⟨0, Φ, by simpa using S₀, .refl .., hW, Nat.zero_le _, rfl, fun b hb => (hoff₀ b hb).1⟩; (with_reducible refine el_2_6 (zq) fun i Φ' S' g' st hi hk hoff' => ?_); try clear zq
  have fΨ : FIn Φ s'.heap := fun a o e => S'.gs.sub _ _ (g'.1 _ _ e)
  have hoff : ∀ b ∈ wr, Φ' b = none ∧ F₁ b = none ∧ b ∉ K'.muts ⟨cap, [(B, .list (((ds.take i).filter p).map f))]⟩ ∧ ∀ t ∈ K'.G.tabs, t.tab ≠ b := fun b hb => ⟨hoff' b hb, (hoff₀ b hb).2.1, (hoff₀ b hb).2.2.1, (hoff₀ b hb).2.2.2⟩
  cases hd : ds[i]? with
  | none =>
    have hi' : i = ds.length := by
      exact Nat.le_antisymm hi (List.getElem?_eq_none_iff.mp hd)
    subst hi'
    refine wpAny_mono (w.done s' st fΨ) (fun r s'' zq => ?_) fun _ _ x => x.elim; (with_reducible refine el_0_2 (zq) fun hr oq101 => ?_); try clear zq; obtain ⟨h', tk, hs', hk'⟩ := oq101
    subst hr; subst hs'
    refine el_1_4 (S'.turn (h' := h') (tk := tk) hoff (w.there _ _ st) g'.1 hk' (FLe.refl _) (fun a o e => .inl e)) fun Φ₃ S₃ g₃ _ off3 => ?_
    rw [List.take_length] at S₃
    exact hend _ Φ₃ S₃ (g'.trans g₃) off3
  | some d =>
    have hlt : i < ds.length := (List.getElem?_eq_some_iff.mp hd).1
    refine wpAny_mono (w.item i d s' hd st fΨ) (fun r s₃ h₃ => ?_) fun _ _ x => x.elim
    cases r with
    | none => exact h₃.elim
    | some v =>
      refine wpAny_mono h₃ (fun _ s₄ zq => ?_) fun _ _ x => x.elim; (with_reducible refine el_3_6 (zq) fun h' tk Ψ' hs' st' hk' hle hn hr => ?_); try clear zq
      subst hs'
      refine el_1_4 (S'.turn (h' := h') (tk := tk) hoff (w.there _ _ st) g'.1 hk' hle hn) fun Φ₄ S₄ g₄ le4 off4 => ?_
      have S₅ := S₄.over (wr := wr) fun b hb => ⟨off4 b hb, (hoff b hb).2⟩
      with_reducible refine el_1_2 (hturn d (List.mem_of_getElem? hd)) fun vs ht hte => ?_
      with_reducible refine el_0_2 (hte [(B, .list (((ds.take i).filter p).map f))]) fun h1 h2 => ?_
      have la : LA K' tgt d (fun σ₃ => σ₃ = ⟨setAll cap xs vs, [(B, .list (((ds.take i).filter p).map f))]⟩) ⟨cap, [(B, .list (((ds.take i).filter p).map f))]⟩ := ht.la hK hst rfl
      refine wpAny_mono (la _ _ _ v S₅ (hr.mono le4)) (fun _ s₆ zq => ?_) fun _ _ x => x.elim; obtain ⟨Φ₆, σ₆, S₆, g₆, hx⟩ := zq
      subst hx
      have fwd : ∀ s₇ Φ₇ vars l, St K' (F₁.over wr h') Φ₇ ⟨vars, [(B, .list l)]⟩ s₇ → FGrow (F₁.over wr h') Φ₆ Φ₇ → vars = setAll cap xs vs → l = ((ds.take (i + 1)).filter p).map f → ∃ m, m < k ∧ ∃ i Φ', St K' F₁ Φ' ⟨cap, [(B, .list (((ds.take i).filter p).map f))]⟩ s₇ ∧ FGrow F₁ Φ Φ' ∧ W i s₇.heap ∧ i ≤ ds.length ∧ m = ds.length + 1 - i ∧ (∀ b ∈ wr, Φ' b = none) := fun s₇ Φ₇ vars l S₇ g₇ hvars hl => by
        subst hvars; subst hl
        have gB : FGrow F₁ Φ Φ₇ := (g'.trans g₄).trans ((g₆.trans g₇).under wFF)
        have SB := S₇.under wFF S'.fcs
        have there7 : ∀ b ∈ wr, ∀ o, h'.get? b = some o → s₇.heap.get? b = some o := fun b hb o e => S₇.keep b o (by rw [over_on hb]; exact e)
        refine ⟨ds.length + 1 - (i + 1), fuel_lt hk hlt, i + 1, Φ₇, SB.setVars fun x d' hx => SB.vars x d' ?_, gB, w.frame _ _ _ st' (fun a o e => S₄.gs.sub _ _ (g₄.1 _ _ (g'.1 _ _ e))) there7 (fun a o e => SB.gs.sub _ _ (gB.1 _ _ e)), hlt, rfl, fun b hb => ?_⟩
        · have key : ∀ (xs : List Str) (vs : List D) (l : List (Str × D)), (∀ x ∈ xs, cap.lookup x = none) → l.lookup x = some d' → (setAll l xs vs).lookup x = some d' := fun xs => by
            induction xs with
            | nil => intro vs l _ h; exact h
            | cons y ys ih =>
              intro vs l hc h
              cases vs with
              | nil => exact h
              | cons v vs =>
                refine ih vs _ (fun z hz => hc z (.tail _ hz)) ?_
                rw [setV_lookup]
                have : x ≠ y := fun q => by
                  have := hc y (.head _)
                  rw [← q, hx] at this; cases this
                rw [if_neg this]; exact h
          exact key xs vs cap hcap hx
        · with_reducible refine el_1_1 (w.there _ _ st' b hb) fun o e => ?_
          cases z : Φ₇ b with
          | none => rfl
          | some o' =>
            rcases (g₆.trans g₇).2 b o' z with x | x
            · rw [off4 b hb] at x; cases x
            · rw [over_on hb, e] at x; cases x
      have htk := take_filter_map p f ds i d hd
      refine LTs.use h1 S₆ fun b s₇ Φ₇ σ₇ S₇ g₇ zq => ?_; (with_reducible refine el_0_2 (zq) fun hσ hb => ?_); try clear zq
      subst hσ
      cases hpd : p d with
      | false =>
        rw [hpd] at hb; subst hb
        rw [if_neg (by decide)]
        rw [hpd] at htk
        exact fwd s₇ Φ₇ _ _ S₇ g₇ rfl (by rw [htk]; simp)
      | true =>
        rw [hpd] at hb; subst hb
        rw [if_pos rfl]
        rw [hpd, if_pos rfl] at htk
        refine (h2 hpd).use S₇ fun v₈ s₈ Φ₈ d₈ σ₈ S₈ g₈ r₈ zq => ?_; (with_reducible refine el_0_2 (zq) fun hσ hd8 => ?_); try clear zq
        subst hσ; subst hd8
        have hm := met_append (K := K') (σ := ⟨setAll cap xs vs, [(B, .list (((ds.take i).filter p).map f))]⟩) (d := f d) (i := 0) (a := B) (l := ((ds.take i).filter p).map f) rfl (by
          rw [List.length_map]
          refine Nat.le_trans (List.length_filter_le ..) ?_
          rw [List.length_take]; (first | lia | omega))
        refine hm _ Φ₈ s₈ [.ref B, v₈] _ S₈ (.cons (.raw _) (.cons r₈ .nil)) fun v₉ s₉ Φ₉ S₉ g₉ r₉ => ?_
        exact fwd s₉ Φ₉ _ _ S₉ (g₇.trans (g₈.trans g₉)) rfl htk.symm
end

noncomputable def FMap.less (F : FMap) (wr : List Addr) : FMap := fun a => if a ∈ wr then none else F a
theorem less_on {F : FMap} {wr : List Addr} {a : Addr} (h : a ∈ wr) : F.less wr a = none := by unfold FMap.less; rw [if_pos h]
theorem less_off {F : FMap} {wr : List Addr} {a : Addr} (h : a ∉ wr) : F.less wr a = F a := by unfold FMap.less; rw [if_neg h]
theorem clOf_mem {cells : List (Str × Addr)} {p : Str × Addr} : ∀ (names : List (Str × NameKind)) (acc : List (Str × Addr)), p ∈ clOf cells names acc → p ∈ acc ∨ ((p.1, .free) ∈ names ∧ p.2 = (cells.lookup p.1).getD 0)
  | [], acc, h => .inl h
  | (n, k) :: r, acc, h => by
    unfold clOf at h
    split at h
    · rename_i hk
      have hk' : k = .free := by simpa using hk
      subst hk'
      rcases clOf_mem r _ h with h | h
      · rcases List.mem_cons.mp h with rfl | h
        · exact .inr ⟨.head _, rfl⟩
        · exact .inl h
      · exact .inr ⟨.tail _ h.1, h.2⟩
    · exact (clOf_mem r _ h).imp id fun h => ⟨.tail _ h.1, h.2⟩

section
variable {K : Act} {F Φ Φ' : FMap} {σ : Sig} {s : Shared} {Q : D → Sig → Prop} {R : LF → Sig → Prop} {sc : Scope} {n : Nat}
/-- a name that a comprehension captures -/
theorem St.captured (S : St K F Φ σ s) (hK : KF K sc n) {scope : Scope} (hok : compOk scope sc σ.vars = true) {x : Str} (hx : (x, .free) ∈ scope.names) :
    ∃ c d v, K.env.cells.lookup x = some c ∧ s.heap.IsCell c (some v) ∧ RV Φ v d ∧ σ.vars.lookup x = some d ∧ (c ∈ K.muts σ ∨ c ∈ K.fc) ∧ (sc.names.lookup x = some .cell ∨ sc.names.lookup x = some .free) := by
  with_reducible refine el_0_2 (compOk.free hok hx rfl) fun oq102 hk => ?_
  obtain ⟨d, hd⟩ := oq102
  with_reducible refine el_1_2 (S.vars x d hd) fun v V r => ?_
  rcases id hk with hk' | hk'
  · have := hK.kindOf hk'
    unfold VarAt at V
    rw [this] at V
    with_reducible refine el_1_3 (V) fun c hc hi hm => ?_
    try clear V
    exact ⟨c, d, v, hc, hi, r, hd, hm.imp (fun h => St.cell_mem h) id, hk⟩
  · have := hK.kindOf hk'
    unfold VarAt at V
    rw [this] at V
    with_reducible refine el_1_3 (V) fun c hc hi hm => ?_
    try clear V
    exact ⟨c, d, v, hc, hi, r, hd, .inr hm, hk⟩

theorem comp_enter {tgt iter elt : Expr} {ifs : List Expr} {scope : Scope} {pos : Pos} {it : Value} {I : Addr} {wr : List Addr} {W : Nat → Heap → Prop} {ds : List D} {xs : List Str} {p : D → Bool} {f : D → D} {RR : Value → Addr → Result → Shared → Prop}
    (hK : KF K sc n) (S : St K F Φ σ s) (A₂ : ItAt K F Φ σ tgt it ds s I wr W) (hok : compOk scope sc σ.vars = true) (hkd : scope.kind = .function) (hlen : ds.length ≤ sizeLine)
    (hxs : ∀ x ∈ xs, scope.names.lookup x = some .local ∨ scope.names.lookup x = some .cell)
    (hturn : ∀ K', CompK K' K scope sc n → ∀ d ∈ ds, ∃ vs, TgtIs tgt d xs vs ∧ ∀ own, LTs K' ifs (fun b σ' => σ' = ⟨setAll (capOf scope.names σ.vars) xs vs, own⟩ ∧ b = p d) ⟨setAll (capOf scope.names σ.vars) xs vs, own⟩ ∧
      (p d = true → LE K' elt (fun e σ' => σ' = ⟨setAll (capOf scope.names σ.vars) xs vs, own⟩ ∧ e = f d) ⟨setAll (capOf scope.names σ.vars) xs vs, own⟩))
    (hRR : ∀ B C s' Φ', (∃ m, s'.heap.Ns C m) → (∀ h'', Heap.SameBut C s'.heap h'' → St K F Φ' σ { s' with heap := h'' }) → FGrow F Φ Φ' → RV Φ' (.ref B) (.list ((ds.filter p).map f)) → (Φ' C = none ∧ F C = none ∧ C ∉ K.muts σ ∧ ∀ t ∈ K.G.tabs, t.tab ≠ C) → RR (.ref B) C (.ok .next) s') :
    wpAny K.M K.A (newList []) (fun acc s₃ => wpAny K.M K.A (newFunctionEnv scope K.env.globals (clOf K.env.cells scope.names []) [] K.env.qual none .none (some K.env)) (fun cenv s₄ =>
      codeAny K.M K.A (.compStart (.ListComp elt [⟨tgt, iter, ifs, 0⟩] scope pos) 0 it acc { cenv with scope := relabel scope K.env }) (RR acc cenv.locals) s₄) NoE s₃) NoE s := by
  obtain rfl := A₂.eq
  refine wpAny_newObj_type (wpAny_newEnv ?_)
  rw [List.forIn_nil]
  refine wpAny_pure ?_
  dsimp only
  generalize hH : s.heap.push { cls := .type "list", dict := none, data := .seq ([] : List Value).toArray } = H
  have hBn : s.heap.get? s.heap.objs.size = none := get?_size s.heap (Nat.le_refl _)
  have kH : ∀ b o, s.heap.get? b = some o → H.get? b = some o := fun b o e => by rw [← hH]; exact Heap.get?_push_of_some _ e
  have hB : H.get? s.heap.objs.size = some { cls := .type "list", dict := none, data := .seq ([] : List Value).toArray } := by rw [← hH]; exact Heap.get?_push_size _ rfl
  have hsz : H.objs.size = s.heap.objs.size + 1 := by rw [← hH, Heap.size_push]
  have hCn : s.heap.get? H.objs.size = none := get?_size s.heap (by (first | lia | omega))
  let K' : Act := { G := K.G, A := K.A, env := { newEnv scope H.objs.size K.env.globals (cellsFrom (H.objs.size + 1) scope.names (clOf K.env.cells scope.names [])) K.env.qual none .none (some K.env) builtinsNs with scope := relabel scope K.env },
                    mc := cellsFrom (H.objs.size + 1) scope.names [], fc := (clOf K.env.cells scope.names []).map (·.2) }
  have S₃ : St K F Φ σ { s with heap := H, toks := s.toks } := S.ext kH
  have hkind : (relabelS scope sc).kind = .function := hkd
  have kf : KF K' (relabelS scope sc) n := ⟨relabel_eq hK scope, hkind, hK.glob, hK.blt, hK.hd, hK.depth, hK.units⟩
  have hfcI : ∀ c ∈ K'.fc, ∃ x, (x, .free) ∈ scope.names ∧ K.env.cells.lookup x = some c ∧ (∃ o, s.heap.get? c = some o) ∧ (c ∈ K.muts σ ∨ c ∈ K.fc) := fun c hc => by
    with_reducible refine el_1_2 (List.mem_map.mp hc) fun q hq oq103 => ?_
    obtain rfl := oq103
    rcases clOf_mem _ _ hq with h | ⟨hf, he⟩
    · cases h
    · obtain ⟨c, d, v, h1, ⟨o, h2, _⟩, _, _, h3, _⟩ := S.captured hK hok hf
      rw [h1] at he
      have he' : q.2 = c := he
      rw [he']
      exact ⟨q.1, hf, h1, ⟨o, h2⟩, h3⟩
  have hfcW : ∀ c ∈ K'.fc, c ∉ wr ∧ (∀ t ∈ K.G.tabs, t.tab ≠ c) ∧ ∃ o, s.heap.get? c = some o := fun c hc => by
    with_reducible refine el_1_4 (hfcI c hc) fun x _ _ ho hm => ?_
    refine ⟨fun hw => ?_, fun t ht hq => ?_, ho⟩
    · rcases hm with hm | hm
      · exact (A₂.off c hw).2.2.1 hm
      · with_reducible refine el_1_1 (S.fcs c hm) fun o e => ?_
        rw [(A₂.off c hw).2.1] at e; cases e
    · rcases hm with hm | hm
      · exact (S.mu c hm).2.2.2 t ht hq
      · with_reducible refine el_1_1 (S.fcs c hm) fun o e => ?_
        rw [← hq, S.tabF t ht] at e; cases e
  have SF : St K' (Fof K.G H) Φ ⟨[], []⟩ { s with heap := pushCells (H.push { cls := .type (if (some K.env).isSome then "dict" else "frame"), data := .dict #[] }) scope.names, toks := s.toks } :=
    St.frame (s := { s with heap := H, toks := s.toks }) (K := K') S₃.gs (Fof_in K.G H) (fun t ht => Fof_tab K.G H ht) rfl rfl rfl (fun c hc => by
      with_reducible refine el_0_3 (hfcW c hc) fun _ h2 oq104 => ?_
      obtain ⟨o, h3⟩ := oq104
      exact ⟨o, Fof_some (kH _ _ h3) h2⟩) rfl rfl
  have inH : ∀ b o, H.get? b = some o → (∀ t ∈ K.G.tabs, t.tab ≠ b) → b ∉ K'.muts ⟨[], []⟩ := fun b o e ht hm => by
    have := (SF.mu b hm).2.1
    rw [Fof_some e ht] at this; cases this
  have hBo := muts_lt S hBn
  have hCo := muts_lt S hCn
  let F₁ : FMap := (Fof K.G s.heap).less wr
  have S₁ : St K' F₁ Φ ⟨[], []⟩ _ := SF.weakF (F' := F₁) (fun a o e => by
    by_cases hw : a ∈ wr
    · rw [show F₁ a = none from less_on hw] at e; cases e
    · rw [show F₁ a = Fof K.G s.heap a from less_off hw] at e
      refine Fof_some (kH _ _ (Fof_in _ _ _ _ e)) fun t ht hq => ?_
      rw [← hq, Fof_tab K.G s.heap ht] at e; cases e) (fun c hc => by
      with_reducible refine el_0_3 (hfcW c hc) fun h1 h2 oq105 => ?_
      obtain ⟨o, h3⟩ := oq105
      exact ⟨o, (less_off h1).trans (Fof_some h3 h2)⟩)
  have hB4 : (pushCells (H.push { cls := .type (if (some K.env).isSome then "dict" else "frame"), data := .dict #[] }) scope.names).get? s.heap.objs.size = some { cls := .type "list", dict := none, data := .seq ([] : List Value).toArray } :=
    pushCells_keeps _ _ _ _ (Heap.get?_push_of_some _ hB)
  have k4 : ∀ b o, s.heap.get? b = some o → (pushCells (H.push { cls := .type (if (some K.env).isSome then "dict" else "frame"), data := .dict #[] }) scope.names).get? b = some o := fun b o e => pushCells_keeps _ _ _ _ (Heap.get?_push_of_some _ (kH b o e))
  have hF1B : F₁ s.heap.objs.size = none := by
    show FMap.less _ _ _ = none
    unfold FMap.less; split
    · rfl
    · exact Fof_none hBn
  have S₅ := (S₁.adopt (a := s.heap.objs.size) (od := .list []) ⟨hBo.1, hF1B, inH _ _ hB hBo.2.2.2, hBo.2.2.2⟩ ⟨[], 0, hB4, .nil⟩).setVars (vars := capOf scope.names σ.vars) (fun x d hx => by
    with_reducible refine el_0_2 (capOf_lookup hx) fun hf hv => ?_
    with_reducible refine el_3_6 (S.captured hK hok hf) fun c d' v h1 h2 h3 h4 _ h6 => ?_
    rw [hv] at h4; cases h4
    refine ⟨v, ?_, h3⟩
    have hlk := compOk.names hok hf
    have hcl : (clOf K.env.cells scope.names []).lookup x = some c := clOf_free h1 _ _ (.inl hf)
    have hnc : (x, NameKind.cell) ∉ scope.names := fun hm => by
      have := compOk.names hok hm
      rw [hlk] at this; cases this
    have hcells : K'.env.cells.lookup x = some c := by
      show (cellsFrom (H.objs.size + 1) scope.names (clOf K.env.cells scope.names [])).lookup x = some c
      rw [cellsFrom_none _ _ _ hnc]; exact hcl
    have hfc : c ∈ K'.fc := List.mem_map.mpr ⟨(x, c), lookup_mem hcl, rfl⟩
    refine el_1_2 (h2) fun o ho hr => ?_
    try clear h2
    have hk := relabelS_free (scope := scope) (sc := sc) hK.kind hlk
    unfold VarAt
    rcases h6 with h6 | h6
    · rw [kf.kindOf (hk.1 h6)]
      exact ⟨c, hcells, ⟨o, k4 _ _ ho, hr⟩, .inr hfc⟩
    · rw [kf.kindOf (hk.2 h6)]
      exact ⟨c, hcells, ⟨o, k4 _ _ ho, hr⟩, hfc⟩)
  have hst : ∀ x, scope.names.lookup x = some .local ∨ scope.names.lookup x = some .cell → Stores K' x := fun x hx => by
    rcases hx with hx | hx
    · exact .inl (kf.kindOf (relabelS_keep (by decide) hx))
    · with_reducible refine el_1_1 (lookup_cellsFrom (k := .cell) scope.names (H.objs.size + 1) hx) fun c hc => ?_
      refine .inr ⟨c, kf.kindOf (relabelS_keep (by decide) hx), ?_, hc⟩
      show (cellsFrom (H.objs.size + 1) scope.names (clOf K.env.cells scope.names [])).lookup x = some c
      rw [cellsFrom_append]
      have : ∀ (l m : List (Str × Addr)), l.lookup x = some c → (l ++ m).lookup x = some c := fun l m => by
        induction l with
        | nil => intro h; cases h
        | cons q r ih =>
          intro h
          rw [List.cons_append, List.lookup_cons]
          rw [List.lookup_cons] at h
          revert h
          split <;> intro h
          · exact h
          · exact ih h
      exact this _ _ hc
  have ck : CompK K' K scope sc n := ⟨rfl, rfl, kf, hst⟩
  have hcap : ∀ x ∈ xs, (capOf scope.names σ.vars).lookup x = none := fun x hx => by
    cases q : (capOf scope.names σ.vars).lookup x with
    | none => rfl
    | some d =>
      have := compOk.names hok (capOf_lookup q).1
      rcases hxs x hx with h | h <;> (rw [h] at this; cases this)
  have hoff : ∀ b ∈ wr, Φ b = none ∧ F₁ b = none ∧ b ∉ K'.muts ⟨capOf scope.names σ.vars, [(s.heap.objs.size, .list [])]⟩ ∧ ∀ t ∈ K'.G.tabs, t.tab ≠ b := fun b hb => by
    with_reducible refine el_1_1 (A₂.walk.there 0 _ A₂.at0 b hb) fun o e => ?_
    have ho := A₂.off b hb
    refine ⟨ho.1, less_on hb, fun hm => ?_, ho.2.2.2⟩
    have hm' : b = s.heap.objs.size ∨ b ∈ K'.muts ⟨[], []⟩ := by
      unfold Act.muts at hm ⊢
      simp only [List.map_cons, List.map_nil, List.mem_cons, List.mem_append, List.not_mem_nil, or_false, List.append_nil] at hm ⊢
      rcases hm with h | h | h
      · exact .inr (.inl h)
      · exact .inr (.inr h)
      · exact .inl h
    rcases hm' with rfl | hm'
    · rw [hBn] at e; cases e
    · exact inH b o (kH _ _ e) ho.2.2.2 hm'
  have w : It K' tgt I wr Φ ds W := ⟨A₂.walk.frame, A₂.walk.there, A₂.walk.item, A₂.walk.done, A₂.walk.self⟩
  have hW4 : W 0 (pushCells (H.push { cls := .type (if (some K.env).isSome then "dict" else "frame"), data := .dict #[] }) scope.names) :=
    A₂.walk.frame 0 _ _ A₂.at0 S.gs.sub (fun b _ o e => k4 b o e) (fun a o e => k4 a o (S.gs.sub a o e))
  have loop := comp_loop (K' := K') (F₁ := F₁) (iter := iter) (scope := scope) (pos := pos) (elt := elt) (ifs := ifs) (RR := RR (.ref s.heap.objs.size) H.objs.size) kf (fun x hx => hst x (hxs x hx)) w S₅ hW4 hoff hlen hcap (hturn K' ck) (fun s' Φ' S' g' off' => by
    have hCm : H.objs.size ∈ K'.muts ⟨capOf scope.names σ.vars, [(s.heap.objs.size, .list ((ds.filter p).map f))]⟩ := List.mem_cons_self
    have hCmu := S'.mu _ hCm
    have hBC : s.heap.objs.size ≠ H.objs.size := by (first | lia | omega)
    let Φ₂ : FMap := frzAll Φ' [(s.heap.objs.size, OD.list ((ds.filter p).map f))] s'.heap
    have hB2 : ∀ a, a = s.heap.objs.size → Φ₂ a = s'.heap.get? a := fun a ha => by
      show frzAll _ _ _ _ = _
      unfold frzAll; rw [if_pos (by simp [ha])]
    have hne2 : ∀ a, a ≠ s.heap.objs.size → Φ₂ a = Φ' a := fun a ha => by
      show frzAll _ _ _ _ = _
      unfold frzAll; rw [if_neg (by simp [ha])]
    have le2 : FLe Φ' Φ₂ := S'.frz_le
    have hrv : RV Φ₂ (.ref s.heap.objs.size) (.list ((ds.filter p).map f)) := S'.frz_res (.own_list (List.mem_singleton.mpr rfl)) (.raw _)
    have hC2 : Φ₂ H.objs.size = none := by rw [hne2 _ hBC.symm]; exact hCmu.1
    have back : ∀ h'', Heap.SameBut H.objs.size s'.heap h'' → St K F Φ₂ σ { s' with heap := h'' } ∧ FGrow F Φ Φ₂ := fun h'' hs'' => by
      have kk : ∀ b o, b ≠ H.objs.size → s'.heap.get? b = some o → h''.get? b = some o := fun b o hb e => hs''.extBut b o hb e
      have key := S.pass (Φ' := Φ₂) (wr := wr) (h' := h'') (tk := s'.toks) A₂.off (fun b o e hw ht => kk b o (fun hq => by rw [hq, hCn] at e; cases e) (S'.keep b o ((less_off hw).trans (Fof_some e ht))))
        (fun t ht => (S'.gs.tab t ht).1.keep le2 fun o e => kk _ o (hCmu.2.2.2 t ht) e) (g'.1.trans le2) (fun a o e => by
          by_cases ha : a = s.heap.objs.size
          · rw [hB2 a ha] at e
            exact .inr ⟨by rw [ha]; exact hBn, kk a o (by rw [ha]; exact hBC) e⟩
          · rw [hne2 a ha] at e
            rcases g'.2 a o e with x | x
            · exact .inl x
            · have hw : a ∉ wr := fun hw => by rw [off' a hw] at e; cases e
              rw [show F₁ a = Fof K.G s.heap a from less_off hw] at x
              refine .inr ⟨?_, kk a o (fun hq => by rw [hq, hCmu.1] at e; cases e) (S'.gs.sub a o e)⟩
              cases z : s.heap.get? a with
              | none => rfl
              | some o' =>
                rw [Fof_some z (fun t ht hh => by have := (S'.gs.tab t ht).2; rw [hh, e] at this; cases this)] at x
                cases x)
      with_reducible refine el_2_1 (S'.gs.rest) fun h1 t1 e1 => ?_
      with_reducible refine el_2_1 (S.gs.rest) fun h2 t2 e2 => ?_
      have e : ({ s' with heap := h'' } : Shared) = { s with heap := h'', toks := s'.toks } := by rw [e1, e2]
      rw [e]; exact key
    exact hRR _ _ s' Φ₂ S'.ns (fun h'' hs'' => (back h'' hs'').1) (back s'.heap (.refl ..)).2 hrv ⟨hC2, hCo.2⟩)
  exact codeAny_compStart_list loop (wpAny_mono (A₂.walk.self 0 _ hW4) (fun v s' zq => by (with_reducible refine el_0_2 (zq) fun h1 h2 => ?_); try clear zq; subst h1; subst h2; exact loop) fun _ _ x => x.elim)
end

section
variable {K : Act} {F Φ Φ' : FMap} {σ : Sig} {s : Shared} {Q : D → Sig → Prop} {R : LF → Sig → Prop} {sc : Scope} {n : Nat}
/-- one comprehension: what its iterable gives, and what each turn tells -/
noncomputable def CompIs (K : Act) (sc : Scope) (n : Nat) (tgt elt : Expr) (ifs : List Expr) (scope : Scope) (xs : List Str) (Q : D → Sig → Prop) (ds : List D) (σ₁ : Sig) : Prop :=
  ∃ (p : D → Bool) (f : D → D), ds.length ≤ sizeLine ∧ compOk scope sc σ₁.vars = true ∧
    (∀ K', CompK K' K scope sc n → ∀ d ∈ ds, ∃ vs, TgtIs tgt d xs vs ∧ ∀ own, LTs K' ifs (fun b σ' => σ' = ⟨setAll (capOf scope.names σ₁.vars) xs vs, own⟩ ∧ b = p d) ⟨setAll (capOf scope.names σ₁.vars) xs vs, own⟩ ∧
      (p d = true → LE K' elt (fun e σ' => σ' = ⟨setAll (capOf scope.names σ₁.vars) xs vs, own⟩ ∧ e = f d) ⟨setAll (capOf scope.names σ₁.vars) xs vs, own⟩)) ∧
    Q (.list ((ds.filter p).map f)) σ₁
noncomputable def xsOk (scope : Scope) (xs : List Str) : Bool := scope.kind == .function && xs.all fun x => scope.names.lookup x == some .local || scope.names.lookup x == some .cell
theorem xsOk.kind {scope : Scope} {xs : List Str} (h : xsOk scope xs = true) : scope.kind = .function := by
  unfold xsOk at h; rw [Bool.and_eq_true] at h; exact eq_of_beq h.1
theorem xsOk.mem {scope : Scope} {xs : List Str} (h : xsOk scope xs = true) : ∀ x ∈ xs, scope.names.lookup x = some .local ∨ scope.names.lookup x = some .cell := fun x hx => by
  unfold xsOk at h; rw [Bool.and_eq_true] at h
  have := (List.all_eq_true.mp h.2) x hx
  rw [Bool.or_eq_true] at this
  exact this.imp eq_of_beq eq_of_beq
theorem St.closure (S : St K F Φ σ s) (hK : KF K sc n) {scope : Scope} (hok : compOk scope sc σ.vars = true) : closureFor scope K.env = pure (clOf K.env.cells scope.names []) :=
  closureFor_eq fun p hp hf => by
    refine el_3_2 (S.captured hK hok (x := p.1) (by rw [← hf]; exact hp)) fun c _ _ h _ => ?_
    exact ⟨c, h⟩
theorem LE_comp {tgt iter elt : Expr} {ifs : List Expr} {scope : Scope} {pos : Pos} (xs : List Str) (hK : KF K sc n) (hxs : xsOk scope xs = true) (hok : compOk scope sc σ.vars = true)
    (h : LI K tgt iter (CompIs K sc n tgt elt ifs scope xs Q) σ)
    (hs : ∀ x, foldedSetIterable iter K.env x = pure x := by intro _; rfl) : LE K (.ListComp elt [⟨tgt, iter, ifs, 0⟩] scope pos) Q σ :=
  fun F Φ s S => by
    rw [eval_ListComp]
    refine wpAny_comprehension_free (use := none) rfl hs (S.closure hK hok) (xsOk.kind hxs) (fun p hp _ => by rename_i hl; rw [← hl]; exact compOk.names hok hp) ?_
    show wpAny K.M K.A (eval iter K.env) _ _ _
    refine wpAny_mono (h F Φ s S) (fun x s₁ h₁ => wpAny_mono h₁ (fun it s₂ h₂ => ?_) fun _ _ x => x.elim) fun _ _ x => x.elim
    obtain ⟨I, wr, W, Φ₂, σ₂, ds, S₂, g₂, A₂, p, f, hlen, hok₂, hturn, hq⟩ := h₂
    refine comp_enter (RR := fun acc C => compPost K.M K.A NoE none _ acc C) hK S₂ A₂ hok₂ (xsOk.kind hxs) hlen (xsOk.mem hxs) hturn fun B C s' Φ' hns hst g' r _ => ?_
    with_reducible refine el_1_1 (hns) fun m hm => ?_
    try clear hns
    exact ⟨m, hm, fun h' hsb => ⟨Φ', _, σ₂, hst h' hsb, g₂.trans g', r, hq⟩⟩
/-- a name takes a comprehension that stands on its own line: the store comes ahead of the variables' end -/
theorem LS_comp {tgt iter elt : Expr} {ifs : List Expr} {scope : Scope} {pos spos py : Pos} {y : Str} (xs : List Str) (hK : KF K sc n) (hst : Stores K y) (hxs : xsOk scope xs = true) (hok : compOk scope sc σ.vars = true)
    (hsw : swapsWith (.ListComp elt [⟨tgt, iter, ifs, 0⟩] scope pos) (some (.Name y py)) spos.line K.env = pure true)
    (h : LI K tgt iter (CompIs K sc n tgt elt ifs scope xs (fun d σ' => R .next (σ'.set y d))) σ)
    (hs : ∀ x, foldedSetIterable iter K.env x = pure x := by intro _; rfl) : LS K (.Assign [.Name y py] (.ListComp elt [⟨tgt, iter, ifs, 0⟩] scope pos) spos) R σ :=
  fun F Φ s S => by
    rw [exec_Assign_Name_used _ _ _ _ hsw]
    refine wpAny_bind (wpAny_standAt (wpAny_bind ?_))
    show wpAny K.M K.A (do let _ ← comprehension (.ListComp elt [⟨tgt, iter, ifs, 0⟩] scope pos) scope K.env _ (newList []) false (eval iter K.env) (some (assign (.Name y py) K.env))) _ _ s
    refine wpAny_bind (wpAny_mono (wpAny_comprehension_free (use := some (assign (.Name y py) K.env)) (Q := fun _ => PA K F Φ (R .next) ()) rfl hs (S.closure hK hok) (xsOk.kind hxs) (fun p hp hl => by rw [← hl]; exact compOk.names hok hp) ?_)
      (fun _ s' ⟨Φ', σ', S', g', hr⟩ => wpAny_pure (wpAny_pure ⟨Φ', .next, σ', S', g', trivial, hr⟩)) fun _ _ e => e)
    refine wpAny_mono (h F Φ s S) (fun x s₁ h₁ => wpAny_mono h₁ (fun it s₂ h₂ => ?_) fun _ _ x => x.elim) fun _ _ x => x.elim
    obtain ⟨I, wr, W, Φ₂, σ₂, ds, S₂, g₂, A₂, p, f, hlen, hok₂, hturn, hq⟩ := h₂
    refine comp_enter (RR := fun acc C => compPost K.M K.A NoE (some (assign (.Name y py) K.env)) _ acc C) hK S₂ A₂ hok₂ (xsOk.kind hxs) hlen (xsOk.mem hxs) hturn fun B C s' Φ' hns hst' g' r hC => ?_
    with_reducible refine el_1_1 (hns) fun m hm => ?_
    try clear hns
    have S₃ : St K F Φ' σ₂ s' := hst' s'.heap (.refl ..)
    have hoff : ∀ b ∈ [C], Φ' b = none ∧ F b = none ∧ b ∉ K.muts σ₂ ∧ ∀ t ∈ K.G.tabs, t.tab ≠ b := fun b hb => by rw [List.mem_singleton.mp hb]; exact hC
    have S₄ := S₃.over hoff
    show wpAny K.M K.A (assign (.Name y py) K.env (.ref B)) _ _ s'
    refine PyProof.Rows.assign_Name (wpAny_store hK.fn S₄ hst r fun s₅ S₅ => ?_)
    refine el_3_2 (id hm) fun o es ep e hr => ?_
    have eC : s₅.heap.get? C = some o := S₅.keep C o (by rw [over_on (List.mem_singleton.mpr rfl)]; exact e)
    have S₆ : St K F Φ' (σ₂.set y (.list ((ds.filter p).map f))) s₅ := S₅.under (fun b hb => (hoff b hb).2.1) S₃.fcs
    refine ⟨m, ⟨o, es, ep, eC, hr⟩, fun h' hsb => ?_⟩
    refine el_1_4 (S₆.turn (wr := [C]) (h' := h') (tk := s₅.toks) hoff (fun b hb => by rw [List.mem_singleton.mp hb]; exact ⟨o, eC⟩) (FLe.refl _) (fun b o' hb e => hsb.extBut b o' (fun q => hb (List.mem_singleton.mpr q)) e) (FLe.refl _) (fun a o e => .inl e)) fun Φ₇ S₇ g₇ _ _ => ?_
    exact ⟨Φ₇, _, S₇, (g₂.trans g').trans g₇, hq⟩
end

/-! ### nested functions -/
structure TabAt (G : GC) (t : Tab) : Prop where
  mem : t ∈ G.tabs
  hd : CodeHd G.gh t.code t.tab
  uniq : ∀ t' ∈ G.tabs, t'.tab = t.tab → t' = t
noncomputable def BMain (G : GC) (mg : Str → Option Value) : Prop := ∃ bm ob, mg "__builtins__" = some (.ref bm) ∧ bm ≠ builtinsNs ∧ G.gh.get? bm = some ob ∧ ob.cls = .type "module" ∧ ob.dict = some builtinsNs ∧ ob.data = .plain

section
variable {K : Act} {F Φ Φ' : FMap} {σ : Sig} {s : Shared} {Q : D → Sig → Prop} {R : LF → Sig → Prop} {sc : Scope} {n : Nat} {mg mb : Str → Option Value}
theorem LS_def {name : Str} {params : Arguments} {body : List Stmt} {scope : Scope} {pos : Pos} {t : Tab} (hK : KF K sc n) (gr : Grd K.G mg mb) (gb : BMain K.G mg) (ht : TabAt K.G t) (hcode : K.env.code = .ref t.code) (hpos : t.pos = pos) (hqual : t.qual = K.env.qual ++ name)
    (hst : Stores K name) (hcells : ∀ p ∈ scope.names, p.2 = .free → ∃ c, K.env.cells.lookup p.1 = some c)
    (h : ∀ doc pm c' ctv, R .next (σ.set name (.fn (fnX name t.qual params body scope (clOf K.env.cells scope.names []) .none .none doc pm none (.ref c') ctv) t.qual)))
    (hd0 : params.defaults = [] := by rfl) (hk0 : params.kw_defaults = [] := by rfl) (ha : annTrees params none K.env = [] := by rfl) : LS K (.FunctionDef name params body [] none [] scope none name pos) R σ :=
  fun F Φ s S => by
    have hq : qualnameIn K.env name name = t.qual := by
      unfold qualnameIn
      rcases hst with h | ⟨c, h, _⟩ <;> (rw [h, hqual]; rfl)
    refine nestDef_K hd0 hk0 ha ?_
    rw [hq]
    refine el_2_6 (gb) fun bm ob b1 b2 b3 b4 b5 b6 => ?_
    try clear gb
    have hgs := gr.g.keeps S.gs.keeps
    have C := ht.hd.keeps S.gs.keeps
    obtain ⟨⟨ps, hP, hps⟩, hPn⟩ := S.gs.tab t ht.mem
    have hgP : mainGlobals ≠ t.tab := fun q => by
      refine el_3_3 (hgs) fun o es ep e hd _ => ?_
      try clear hgs
      rw [q, hP] at e; cases e; cases hd
    have hbP : bm ≠ t.tab := fun q => by
      have e := S.gs.keeps _ _ b3
      rw [q, hP] at e; cases e; cases b4
    have hbG : bm ≠ mainGlobals := fun q => by
      refine el_3_3 (gr.g) fun o es ep e hd _ => ?_
      rw [q, e] at b3; cases b3; rw [hd] at b6; cases b6
    have hBA : s.heap.BuiltinsAt mg t.tab := ⟨bm, ob, b1, b2, hbG, hbP, S.gs.keeps _ _ b3, b4, b5, b6⟩
    rcases hps with rfl | ⟨c', oc, vs, q, rfl, hc', hoc, hv⟩
    · refine makeFunction_K (mg := mg) (closureFor_eq hcells) hK.glob hgs hcode C hP trivial rfl hgP hBA fun c' ctv doc h' tk hx hge hlt hrec htb => ?_
      refine el_4_4 (hrec) fun c₂ oc vs tq e2 hoc hd hv => ?_
      try clear hrec
      cases e2
      have hcn : s.heap.get? c' = none := get?_size s.heap hge
      have hsz : s.heap.objs.size ≤ h'.objs.size := by (first | lia | omega)
      have hfn : s.heap.get? h'.objs.size = none := get?_size s.heap hsz
      generalize hfo : fnMade name t.qual params body scope (clOf K.env.cells scope.names []) doc ((mg "__name__").getD .none) c' ctv = fo
      have hff : fo.isFreed = false := by rw [← hfo]; rfl
      have f1 : (h'.push fo).get? h'.objs.size = some fo := Heap.get?_push_size _ hff
      have c1 : (h'.push fo).get? c' = some oc := Heap.get?_push_of_some _ hoc
      have hne : c' ≠ h'.objs.size := Nat.ne_of_lt hlt
      have offΦ : ∀ b o, Φ b = some o → b ≠ c' ∧ b ≠ h'.objs.size := fun b o e => ⟨fun q => (by rw [← q, S.gs.sub _ _ e] at hcn; cases hcn), fun q => (by rw [← q, S.gs.sub _ _ e] at hfn; cases hfn)⟩
      let Φ₁ : FMap := (Φ.ins c' oc).ins h'.objs.size fo
      have l1 : Φ₁ h'.objs.size = some fo := FMap.ins_self ..
      have l2 : Φ₁ c' = some oc := (FMap.ins_ne _ _ hne).trans (FMap.ins_self ..)
      have le : FLe Φ Φ₁ := fun b o e => (FMap.ins_ne _ _ (offΦ b o e).2).trans ((FMap.ins_ne _ _ (offΦ b o e).1).trans e)
      obtain ⟨S₁, g₁⟩ := S.after (Φ' := Φ₁) (h' := h'.push fo) (tk := tk) (fun b o e hn => Heap.get?_push_of_some _ (hx b o (fun q => hn t ht.mem q.symm) e)) (fun t' ht' => by
          by_cases hq' : t'.tab = t.tab
          · have := ht.uniq t' ht' hq'
            subst this
            refine ⟨_, Heap.get?_push_of_some _ htb, .inr ⟨c', oc, vs, tq, by rw [hpos]; rfl, l2, hd, hv⟩⟩
          · exact (S.gs.tab t' ht').1.keep le fun o e => Heap.get?_push_of_some _ (hx _ o hq' e)) le (fun a o e => by
          by_cases h1 : a = h'.objs.size
          · subst h1; rw [l1] at e; cases e; exact .inr ⟨hfn, f1⟩
          · by_cases h2 : a = c'
            · subst h2; rw [l2] at e; cases e; exact .inr ⟨hcn, c1⟩
            · have : Φ₁ a = Φ a := (FMap.ins_ne _ _ h1).trans (FMap.ins_ne _ _ h2)
              rw [this] at e; exact .inl e)
      refine wpAny_store hK.fn S₁ hst (d := .fn (fnX name t.qual params body scope (clOf K.env.cells scope.names []) .none .none doc ((mg "__name__").getD .none) none (.ref c') ctv) t.qual) (.fn l1 (by rw [← hfo]) rfl l2 hd hv) fun s₂ S₂ => ?_
      exact ⟨Φ₁, .next, _, S₂, g₁, trivial, h _ _ _ _⟩
    · refine makeFunction_hit (mg := mg) (cv := .ref c') (closureFor_eq hcells) hK.glob hgs hcode C hP ⟨⟩ (by rw [hpos]; simp [codeAmong, rawInt]) hBA fun ctv doc h' tk hk hsz => ?_
      have hfn : s.heap.get? h'.objs.size = none := get?_size s.heap hsz
      with_reducible refine el_0_2 (S.ins (tk := tk) (a := h'.objs.size) (h' := h'.push { cls := .type "function", data := .func (fnX name t.qual params body scope (clOf K.env.cells scope.names []) .none .none doc ((mg "__name__").getD .none) none (.ref c') ctv) }) (fun b o e => Heap.get?_push_of_some _ (hk b o e)) hfn (Heap.get?_push_size _ rfl)) fun S₁ g₁ => ?_
      refine wpAny_store hK.fn S₁ hst (d := .fn (fnX name t.qual params body scope (clOf K.env.cells scope.names []) .none .none doc ((mg "__name__").getD .none) none (.ref c') ctv) t.qual) (.fn (FMap.ins_self ..) rfl rfl (g₁.1 _ _ hc') hoc hv) fun s₂ S₂ => ?_
      exact ⟨_, .next, _, S₂, g₁, trivial, h _ _ _ _⟩
end

section
variable {K : Act} {F Φ Φ' : FMap} {σ : Sig} {s : Shared} {Q : D → Sig → Prop} {R : LF → Sig → Prop} {sc : Scope} {n : Nat} {mg mb : Str → Option Value}
theorem St.lendAll {K' : Act} {F' : FMap} (S : St K' F' Φ ⟨[], []⟩ s) : ∀ (own : List (Addr × OD)), (own.map (·.1)).Nodup → (∀ p ∈ own, Φ p.1 = none ∧ F' p.1 = none ∧ p.1 ∉ K'.muts ⟨[], []⟩ ∧ ∀ t ∈ K'.G.tabs, t.tab ≠ p.1) → (∀ p ∈ own, OwnIs Φ s.heap p.1 p.2) → St K' F' Φ ⟨[], own⟩ s
  | [], _, _, _ => S
  | p :: r, hn, ho, hi => by
    rw [List.map_cons, List.nodup_cons] at hn
    have ih := S.lendAll r hn.2 (fun q hq => ho q (.tail _ hq)) fun q hq => hi q (.tail _ hq)
    refine el_0_4 (ho p (.head _)) fun h1 h2 h3 h4 => ?_
    refine ih.adopt (a := p.1) (od := p.2) ⟨h1, h2, fun hm => ?_, h4⟩ (hi p (.head _))
    unfold Act.muts at hm h3
    simp only [List.mem_cons, List.mem_append, List.map_nil, List.append_nil] at hm h3
    rcases hm with h | h | h
    · exact h3 (.inl h)
    · exact h3 (.inr h)
    · exact hn.1 h
/-- back from a function to which all that one owns was lent -/
theorem St.lent {own' : List (Addr × OD)} {h' : Heap} {tk : Nat} (S : St K F Φ σ s) (hmap : own'.map (·.1) = σ.own.map (·.1))
    (hk : ∀ b o, s.heap.get? b = some o → b ∉ σ.own.map (·.1) → (∀ t ∈ K.G.tabs, t.tab ≠ b) → h'.get? b = some o) (ht : ∀ t ∈ K.G.tabs, TabOk Φ' h' t) (hΦ : FLe Φ Φ')
    (hn : ∀ a o, Φ' a = some o → Φ a = some o ∨ (s.heap.get? a = none ∧ h'.get? a = some o)) (hown : ∀ p ∈ own', OwnIs Φ' h' p.1 p.2) : St K F Φ' ⟨σ.vars, own'⟩ { s with heap := h', toks := tk } ∧ FGrow F Φ Φ' := by
  have hM : K.muts ⟨σ.vars, own'⟩ = K.muts σ := by unfold Act.muts; rw [hmap]
  have hnone : ∀ a o, s.heap.get? a = some o → Φ a = none → Φ' a = none := fun a o e q => by
    cases z : Φ' a with
    | none => rfl
    | some o' =>
      rcases hn a o' z with x | ⟨x, _⟩
      · rw [q] at x; cases x
      · rw [x] at e; cases e
  have om : ∀ a, a ∈ σ.own.map (·.1) → a ∈ K.muts σ := fun a ha => by
    with_reducible refine el_1_2 (List.mem_map.mp ha) fun p hp oq106 => ?_
    obtain rfl := oq106
    exact St.own_mem hp
  have tΦ : ∀ a o, Φ a = some o → a ∉ σ.own.map (·.1) ∧ ∀ t ∈ K.G.tabs, t.tab ≠ a := fun a o e => ⟨fun q => (by rw [(S.mu a (om a q)).1] at e; cases e), fun t ht q => by
    have := (S.gs.tab t ht).2
    rw [q, e] at this; cases this⟩
  have tF : ∀ a o, F a = some o → a ∉ σ.own.map (·.1) ∧ ∀ t ∈ K.G.tabs, t.tab ≠ a := fun a o e => ⟨fun q => (by rw [(S.mu a (om a q)).2.1] at e; cases e), fun t ht q => by
    have := S.tabF t ht
    rw [q, e] at this; cases this⟩
  have kf : FIn F h' := fun a o e => hk _ _ (S.keep a o e) (tF a o e).1 (tF a o e).2
  have locN : K.env.locals ∉ σ.own.map (·.1) := fun q => by
    with_reducible refine el_1_2 (List.mem_map.mp q) fun p hp e => ?_
    exact S.locals_ne_own hp e.symm
  have celN : ∀ x c, K.mc.lookup x = some c → c ∉ σ.own.map (·.1) := fun x c hc q => by
    with_reducible refine el_1_2 (List.mem_map.mp q) fun p hp e => ?_
    exact S.cell_ne_own hc hp e.symm
  have hL : ∀ o, s.heap.get? K.env.locals = some o → h'.get? K.env.locals = some o := fun o e => hk _ _ e locN (S.mu _ St.locals_mem).2.2.2
  have hC : ∀ x c, K.mc.lookup x = some c → ∀ o, s.heap.get? c = some o → h'.get? c = some o := fun x c hc o e => hk _ _ e (celN x c hc) (S.mu _ (St.cell_mem hc)).2.2.2
  refine ⟨⟨⟨?_, fun a o e => hΦ _ _ (S.gs.gr a o e), fun a o e => ?_, fun t htm => ?_⟩, kf, S.fcs, S.tabF, fun a ha => ?_, by rw [hM]; exact S.nd, ?_, fun x c e => ?_, fun x d e => ?_, hown⟩, hΦ, fun a o e => ?_⟩
  · with_reducible refine el_2_1 (S.gs.rest) fun h t e => ?_
    exact ⟨h', tk, by rw [e]⟩
  · exact (hn a o e).elim (fun x => hk _ _ (S.gs.sub a o x) (tΦ a o x).1 (tΦ a o x).2) (·.2)
  · have T := S.gs.tab t htm
    exact ⟨ht t htm, let ⟨_, e, _⟩ := T.1; hnone _ _ e T.2⟩
  · rw [hM] at ha
    with_reducible refine el_0_4 (S.mu a ha) fun h1 h2 oq107 h4 => ?_
    obtain ⟨o, h3⟩ := oq107
    refine ⟨hnone _ _ h3 h1, h2, ?_, h4⟩
    by_cases hq : a ∈ σ.own.map (·.1)
    · rw [← hmap] at hq
      with_reducible refine el_1_2 (List.mem_map.mp hq) fun p hp oq108 => ?_
      obtain rfl := oq108
      exact (hown p hp).there
    · exact ⟨o, hk _ _ h3 hq h4⟩
  · with_reducible refine el_4_2 (S.ns) fun m o es ep e r => ?_
    exact ⟨m, o, es, ep, hL _ e, r⟩
  · with_reducible refine el_2_2 (S.cells x c e) fun v o e' r => ?_
    exact ⟨v, o, hC x c e _ e', r⟩
  · with_reducible refine el_1_2 (S.vars x d e) fun v hv r => ?_
    exact ⟨v, hv.keepBut hL hC (fc_keep S.fcs S.keep kf), r.mono hΦ⟩
  · rcases hn a o e with x | ⟨x, _⟩
    · exact .inl x
    · refine .inr ?_
      cases z : F a with
      | none => rfl
      | some o' => rw [S.keep a o' z] at x; cases x

/-- a call of a nested function: what one owns is lent -/
noncomputable def ClosIs (K : Act) (fd : FuncData) (qual : Str) (ds : List D) (σ σ' : Sig) (r : D) : Prop :=
  ∀ F Φ s v vs (P : Value → Shared → Prop), St K F Φ σ s → RV Φ v (.fn fd qual) → RVs Φ vs ds → (∀ v' s' Φ', St K F Φ' σ' s' → FGrow F Φ Φ' → RV Φ' v' r → P v' s') → wpAny K.M K.A (call v vs) P NoE s
theorem LE_callVar {x : Str} {p pos : Pos} {es : List Expr} {fd : FuncData} {qual : Str} (hK : KF K sc n) (hx : σ.vars.lookup x = some (.fn fd qual)) (hp : plainName x = true)
    (h : LEs K es (fun ds σ₁ => ∃ r σ₂, ClosIs K fd qual ds σ₁ σ₂ r ∧ Q r σ₂) σ) (hs : (starEach es K.env).any (·.1) = false := by rfl) : LE K (.Call (.Name x p) es [] pos) Q σ :=
  fun F Φ s S => by
    with_reducible refine el_1_2 (S.vars x _ hx) fun v V r => ?_
    refine PyProof.Rows.Call_Name rfl (wpAny_Name (wpAny_loadVar hK V ?_ (plainName.cls hp)) (plainName.debug hp))
    cases r with
    | @fn a c' o oc _ vs _ t e1 e2 e3 e4 e5 e6 =>
      refine callWith_function (wpAny_evalArgs hs (h.use S fun vs s₁ Φ₁ ds σ₁ S₁ g rs ⟨r, σ₂, hc, hq⟩ => ⟨⟨S₁.gs.sub _ _ (g.1 _ _ e1), e2⟩, ?_⟩))
      exact hc F Φ₁ s₁ _ vs _ S₁ (.fn (g.1 _ _ e1) e2 e3 (g.1 _ _ e4) e5 e6) rs fun v' s' Φ' S' g' r' => ⟨Φ', r, σ₂, S', g.trans g', r', hq⟩

structure ClosK (K' K : Act) (scope : Scope) (n : Nat) (cl : List (Str × Addr)) : Prop where
  G : K'.G = K.G
  kf : KF K' scope n
  st : StoresAll K' scope
  cells : ∀ x, (x, .free) ∈ scope.names → K'.env.cells.lookup x = cl.lookup x
/-- the end of a nested function's body -/
noncomputable def RetC (r : D) (own : List (Addr × OD)) (f : LF) (σ : Sig) : Prop := σ.own = own ∧ match f with
  | .ret d => d = r
  | .next => r = .none
  | _ => False
noncomputable def namesOnce (scope : Scope) : Bool := scope.kind == .function && scope.names.all fun (n, k) => scope.names.lookup n == some k
theorem namesOnce.kind {scope : Scope} (h : namesOnce scope = true) : scope.kind = .function := by unfold namesOnce at h; rw [Bool.and_eq_true] at h; exact eq_of_beq h.1
theorem namesOnce.look {scope : Scope} (h : namesOnce scope = true) {p : Str × NameKind} (hp : p ∈ scope.names) : scope.names.lookup p.1 = some p.2 := by
  unfold namesOnce at h; rw [Bool.and_eq_true] at h
  exact eq_of_beq ((List.all_eq_true.mp h.2) p hp)

theorem clos_intro {name qual : Str} {params : Arguments} {body : List Stmt} {scope : Scope} {cl : List (Str × Addr)} {doc pm cd ctv : Value} {ds : List D} {r : D} {own' : List (Addr × OD)} (hK : KF K sc (n + 1)) (gr : Grd K.G mg mb) (hon : namesOnce scope = true)
    (hpar : ∀ doc pm cd ctv cl, ∀ vs : List Value, vs.length = ds.length → bindArgs (fnX name qual params body scope cl .none .none doc pm none cd ctv) ⟨vs, []⟩ = pure ((params.args.map (·.arg)).zip vs)) (hlen : params.args.length = ds.length)
    (hloc : ∀ x ∈ params.args.map (·.arg), scope.names.lookup x = some .local ∨ scope.names.lookup x = some .cell)
    (hcap : ∀ x, (x, .free) ∈ scope.names → (∃ c, cl.lookup x = some c ∧ K.env.cells.lookup x = some c) ∧ (∃ d, σ.vars.lookup x = some d) ∧ (sc.names.lookup x = some .cell ∨ sc.names.lookup x = some .free)) (hmap : own'.map (·.1) = σ.own.map (·.1))
    (hbody : ∀ K', ClosK K' K scope n cl → LX K' body (RetC r own') ⟨setAll (capOf scope.names σ.vars) (params.args.map (·.arg)) ds, σ.own⟩)
    (hco : scope.isCoroutine = false := by rfl) (hgen : scope.isGenerator = false := by rfl) :
    ClosIs K (fnX name qual params body scope cl .none .none doc pm none cd ctv) qual ds σ ⟨σ.vars, own'⟩ r := fun F Φ s v vs P S rf hv k => by
  cases rf with
  | @fn fa c' o oc _ fvs _ t e1 e2 e3 e4 e5 e6 =>
    have hvl : vs.length = ds.length := hv.length
    have hroom : K.A.depth < recursionLimit := by have := hK.depth; unfold recursionLimit; (first | lia | omega)
    have ho := S.gs.sub _ _ e1
    refine wpAny_call (codeAny_mono (?_ : codeAny K.M K.A (.call (.ref fa) ⟨vs, []⟩) (fun res s' => ∃ v', res = .ok (.ret v') ∧ P v' s') s) fun res s' zq => by (with_reducible refine el_1_2 (zq) fun v' hr hp => ?_); try clear zq; subst hr; exact hp)
    refine codeAny_call_function hroom ho e2 hco hgen rfl ⟨c', oc, fvs, t, e3, S.gs.sub _ _ e4, e5, e6⟩ ?_
    rw [hpar doc pm cd ctv cl vs hvl]
    refine wpAny_pure (wpAny_newEnv ?_)
    let env : Env := newEnv scope s.heap.objs.size mainGlobals (cellsFrom (s.heap.objs.size + 1) scope.names cl) (qual ++ ".<locals>.") (some fa) cd none builtinsNs
    let cap : List Addr := (scope.names.filter fun p => p.2 == .free).map fun p => (cl.lookup p.1).getD 0
    let K' : Act := { G := K.G, A := K.A.deeper env, env := env, mc := cellsFrom (s.heap.objs.size + 1) scope.names [], fc := cap }
    have hkd := namesOnce.kind hon
    have kf : KF K' scope n := ⟨rfl, hkd, rfl, rfl, hK.hd, by have := hK.depth; show K.A.depth + 1 + n ≤ 900; (first | lia | omega), by have := hK.units; show K.A.units + 3 + 20 * n ≤ 9000; (first | lia | omega)⟩
    have capI : ∀ x, (x, .free) ∈ scope.names → ∃ c d v, cl.lookup x = some c ∧ s.heap.IsCell c (some v) ∧ RV Φ v d ∧ σ.vars.lookup x = some d ∧ (K.mc.lookup x = some c ∨ c ∈ K.fc) := fun x hx => by
      with_reducible refine el_0_3 (hcap x hx) fun oq109 oq110 hk => ?_
      obtain ⟨c, hc1, hc2⟩ := oq109
      obtain ⟨d, hd⟩ := oq110
      with_reducible refine el_1_2 (S.vars x d hd) fun v V r => ?_
      unfold VarAt at V
      rcases hk with hk | hk
      · rw [hK.kindOf hk] at V
        with_reducible refine el_1_3 (V) fun c₂ h1 h2 h3 => ?_
        try clear V
        rw [hc2] at h1; cases h1
        exact ⟨c, d, v, hc1, h2, r, hd, h3⟩
      · rw [hK.kindOf hk] at V
        with_reducible refine el_1_3 (V) fun c₂ h1 h2 h3 => ?_
        try clear V
        rw [hc2] at h1; cases h1
        exact ⟨c, d, v, hc1, h2, r, hd, .inr h3⟩
    have capW : ∀ c ∈ cap, c ∉ σ.own.map (·.1) ∧ (∀ t ∈ K.G.tabs, t.tab ≠ c) ∧ ∃ o, s.heap.get? c = some o := fun c hc => by
      with_reducible refine el_1_2 (List.mem_map.mp hc) fun p hp oq111 => ?_
      obtain rfl := oq111
      with_reducible refine el_0_2 (List.mem_filter.mp hp) fun hp1 hp2 => ?_
      have hp2' : p.2 = .free := by simpa using hp2
      refine el_3_5 (capI p.1 (by rw [← hp2']; exact hp1)) fun c d v h1 oq112 _ _ h5 => ?_
      obtain ⟨o, h2, _⟩ := oq112
      rw [h1, Option.getD_some]
      refine ⟨fun hm => ?_, fun t ht q => ?_, ⟨o, h2⟩⟩
      · with_reducible refine el_1_2 (List.mem_map.mp hm) fun q hq oq113 => ?_
        obtain rfl := oq113
        rcases h5 with h5 | h5
        · exact S.cell_ne_own h5 hq rfl
        · with_reducible refine el_1_1 (S.fcs _ h5) fun o' e => ?_
          rw [(S.mu q.1 (St.own_mem hq)).2.1] at e; cases e
      · rcases h5 with h5 | h5
        · exact (S.mu _ (St.cell_mem h5)).2.2.2 t ht q
        · with_reducible refine el_1_1 (S.fcs _ h5) fun o' e => ?_
          rw [← q, S.tabF t ht] at e; cases e
    have hst : StoresAll K' scope := fun x hx => by
      rcases hx with hx | hx
      · exact .inl hx
      · with_reducible refine el_1_1 (lookup_cellsFrom (k := .cell) scope.names (s.heap.objs.size + 1) hx) fun c hc => ?_
        refine .inr ⟨c, hx, ?_, hc⟩
        show (cellsFrom (s.heap.objs.size + 1) scope.names cl).lookup x = some c
        rw [cellsFrom_append]
        have : ∀ (l m : List (Str × Addr)), l.lookup x = some c → (l ++ m).lookup x = some c := fun l m => by
          induction l with
          | nil => intro h; cases h
          | cons q r ih =>
            intro h
            rw [List.cons_append, List.lookup_cons]
            rw [List.lookup_cons] at h
            revert h
            split <;> intro h
            · exact h
            · exact ih h
        exact this _ _ hc
    have hfree : ∀ x, (x, .free) ∈ scope.names → K'.env.cells.lookup x = cl.lookup x := fun x hx => by
      show (cellsFrom (s.heap.objs.size + 1) scope.names cl).lookup x = cl.lookup x
      refine cellsFrom_none _ _ _ fun hm => ?_
      have h1 := namesOnce.look hon hx
      have h2 := namesOnce.look hon hm
      rw [h1] at h2; cases h2
    have SF : St K' (Fof K.G s.heap) Φ ⟨[], []⟩ { s with heap := pushCells (s.heap.push { cls := .type "frame", data := .dict #[] }) scope.names, toks := s.toks } :=
      St.frame (K := K') S.gs (Fof_in K.G s.heap) (fun t ht => Fof_tab K.G s.heap ht) rfl rfl rfl (fun c hc => by
        with_reducible refine el_0_3 (capW c hc) fun _ h2 oq114 => ?_
        obtain ⟨o, h3⟩ := oq114
        exact ⟨o, Fof_some h3 h2⟩) rfl rfl
    let F₁ : FMap := (Fof K.G s.heap).less (σ.own.map (·.1))
    have S₁ : St K' F₁ Φ ⟨[], []⟩ _ := SF.weakF (F' := F₁) (fun a o e => by
      by_cases hw : a ∈ σ.own.map (·.1)
      · rw [show F₁ a = none from less_on hw] at e; cases e
      · rw [show F₁ a = Fof K.G s.heap a from less_off hw] at e; exact e) (fun c hc => by
        with_reducible refine el_0_3 (capW c hc) fun h1 h2 oq115 => ?_
        obtain ⟨o, h3⟩ := oq115
        exact ⟨o, (less_off h1).trans (Fof_some h3 h2)⟩)
    have k4 : ∀ b o, s.heap.get? b = some o → (pushCells (s.heap.push { cls := .type "frame", data := .dict #[] }) scope.names).get? b = some o := fun b o e => pushCells_keeps _ _ _ _ (Heap.get?_push_of_some _ e)
    have S₂ := S₁.lendAll σ.own S.own_nodup (fun p hp => by
      with_reducible refine el_0_4 (S.mu p.1 (St.own_mem hp)) fun h1 h2 oq116 h4 => ?_
      obtain ⟨o, h3⟩ := oq116
      refine ⟨h1, less_on (List.mem_map.mpr ⟨p, hp, rfl⟩), fun hm => ?_, h4⟩
      have := (SF.mu _ hm).2.1
      rw [Fof_some h3 h4] at this; cases this) (fun p hp => (S.own p hp).keep fun o e => k4 _ o e)
    have S₃ := S₂.setVars (vars := capOf scope.names σ.vars) (fun x d hx => by
      with_reducible refine el_0_2 (capOf_lookup hx) fun hf hv' => ?_
      obtain ⟨c, d', v, h1, ⟨o, h2, h2'⟩, h3, h4, _⟩ := capI x hf
      rw [hv'] at h4; cases h4
      refine ⟨v, ?_, h3⟩
      unfold VarAt
      rw [kf.kindOf (namesOnce.look hon hf)]
      refine ⟨c, (hfree x hf).trans h1, ⟨o, k4 _ _ h2, h2'⟩, List.mem_map.mpr ⟨(x, .free), List.mem_filter.mpr ⟨hf, rfl⟩, by rw [h1]; rfl⟩⟩)
    have hmap2 : ((params.args.map (·.arg)).zip vs).map (·.2) = vs := by rw [List.map_snd_zip]; simp; (first | lia | omega)
    have hmap1 : ((params.args.map (·.arg)).zip vs).map (·.1) = params.args.map (·.arg) := by rw [List.map_fst_zip]; simp; (first | lia | omega)
    refine wpAny_binds (K := K') (A := K.A.in1) hkd _ ds _ _ (fun p hp => hst p.1 (hloc p.1 ?_)) S₃ (by rw [hmap2]; exact hv) fun s' S' => ⟨?_, ?_⟩
    · rw [← hmap1]; exact List.mem_map.mpr ⟨p, hp, rfl⟩
    · exact gr.nolimit.keeps S'.gs.keeps
    · rw [hmap1] at S'
      show codeAny _ K.A (.func body env) _ s'
      refine codeAny_func ?_
      refine (hbody K' ⟨rfl, kf, hst, hfree⟩).use S' fun f s'' Φ'' lf σ'' S'' g fl rr => ?_
      refine el_0_2 (rr) fun hown rr => ?_
      have back : ∃ Φ₃, St K F Φ₃ ⟨σ.vars, own'⟩ s'' ∧ FGrow F Φ Φ₃ ∧ Φ₃ = Φ'' := by
        have key := S.lent (Φ' := Φ'') (own' := own') (h' := s''.heap) (tk := s''.toks) hmap (fun b o e hw ht => S''.keep b o ((less_off hw).trans (Fof_some e ht))) (fun t ht => (S''.gs.tab t ht).1) g.1 (fun a o e => by
            rcases g.2 a o e with x | x
            · exact .inl x
            · have hw : a ∉ σ.own.map (·.1) := fun hw => by
                rw [← hmap, ← hown] at hw
                with_reducible refine el_1_2 (List.mem_map.mp hw) fun p hp oq117 => ?_
                obtain rfl := oq117
                rw [(S''.mu p.1 (St.own_mem hp)).1] at e; cases e
              rw [show F₁ a = Fof K.G s.heap a from less_off hw] at x
              refine .inr ⟨?_, S''.gs.sub a o e⟩
              cases z : s.heap.get? a with
              | none => rfl
              | some o' =>
                rw [Fof_some z (fun t ht hh => by have := (S''.gs.tab t ht).2; rw [hh, e] at this; cases this)] at x
                cases x) (fun p hp => S''.own p (by rw [hown]; exact hp))
        with_reducible refine el_2_1 (S''.gs.rest) fun h1 t1 e1' => ?_
        with_reducible refine el_2_1 (S.gs.rest) fun h2 t2 e2' => ?_
        have e : ({ s with heap := s''.heap, toks := s''.toks } : Shared) = s'' := by rw [e1', e2']
        rw [e] at key
        exact ⟨Φ'', key.1, key.2, rfl⟩
      with_reducible refine el_1_3 (back) fun Φ₃ S₄ g₄ oq118 => ?_
      try clear back
      obtain rfl := oq118
      cases f <;> cases lf <;> first | exact fl.elim | exact rr.elim | skip
      · exact ⟨.none, rfl, k _ _ _ S₄ g₄ (by have rr' : r = .none := rr; rw [rr']; exact .none)⟩
      · exact ⟨_, rfl, k _ _ _ S₄ g₄ (by have rr' := rr; rw [← show _ = r from rr']; exact fl)⟩
end

section
variable {K : Act} {F Φ Φ' : FMap} {σ : Sig} {s : Shared} {Q : D → Sig → Prop} {R : LF → Sig → Prop} {sc : Scope} {n : Nat} {mg mb : Str → Option Value}
/-! ### methods -/
noncomputable def lowerS (x : Str) : Str := ⟨placed x fun i _ => Unicode.lowerAt x.cps i⟩
theorem met_lower {x : Str} (hx : 3 * x.length ≤ sizeLine) : MetIs K "str.lower" [.str x] (.str (lowerS x)) σ σ := fun F Φ s vs P S rs k => by
  with_reducible refine el_1_2 (rs.one) fun v oq119 r => ?_
  obtain rfl := oq119
  with_reducible refine el_1_1 (r.s) fun t oq120 => ?_
  obtain rfl := oq120
  have hfit : Builtin.Str.tooLong (placed x fun i _ => Unicode.lowerAt x.cps i).size = false := by
    have h1 : (placed x fun i _ => Unicode.lowerAt x.cps i).size ≤ 3 * x.cps.size := PySem.StrLaws.placedRaw_le3 x.cps _ fun i c => PySem.StrLaws.lowerAt_le3 _ _
    have h2 : 3 * x.cps.size ≤ sizeLine := hx
    have h3 : (placed x fun i _ => Unicode.lowerAt x.cps i).size ≤ sizeLine := by (first | lia | omega)
    unfold Builtin.Str.tooLong; simpa using h3
  exact call_gives PySem.F.slot_str_lower (typeIs_str ..) PySem.F.entry_str_lower (PySem.F.args_str_lower_1 _) (gives_str_lower x t hfit) ⟨fit_le hfit, k _ _ _ S.withToks (.refl ..) (.str _ _)⟩
theorem met_bits {a : Int} : MetIs K "int.bit_length" [.int a] (.int (Builtin.Int.intBits a)) σ σ := fun F Φ s vs P S rs k => by
  with_reducible refine el_1_2 (rs.one) fun v oq121 r => ?_
  obtain rfl := oq121
  with_reducible refine el_1_1 (r.i) fun t oq122 => ?_
  obtain rfl := oq122
  exact PyProof.Rows.call_int_bit_length (k _ _ _ S.withToks (.refl ..) (.int _ _))
theorem mapSeq_reverse_plain (its : Array Value) (n : Nat) : Obj.mapSeq (fun x => x.reverse) { cls := .type "list", data := .seq its n } = { cls := .type "list", data := .seq its.reverse n } := by
  simp [Obj.mapSeq]
theorem met_reverse {a : Addr} {l : List D} {i : Nat} (hi : σ.own[i]? = some (a, .list l)) (hl : l.length ≤ sizeLine) : MetIs K "list.reverse" [.raw (.ref a)] .none σ (σ.put i a (.list l.reverse)) := fun F Φ s vs P S rs k => by
  with_reducible refine el_1_2 (rs.one) fun v oq123 r => ?_
  obtain rfl := oq123
  obtain rfl := r.w
  refine el_2_2 (S.own _ (List.mem_of_getElem? hi)) fun ws m e rs => ?_
  have hlen := rs.length
  have hT : s.TypeIs (.ref a) "list" := ⟨_, e, rfl⟩
  refine call_meets PySem.F.slot_list_reverse hT PySem.F.entry_list_reverse (PySem.F.args_list_reverse_1 _) ((PySem.AutoListH.list_reverse_list_0 a ws.toArray m (by rw [List.size_toArray]; (first | lia | omega)))) ⟨e, ?_⟩
  refine k _ _ _ (S.setOwn (tk := s.toks) hi (Heap.SameBut.update ..).extBut ⟨ws.reverse, m, ?_, rs.reverse⟩) (.refl ..) .none
  have := Heap.get?_update_self (Obj.mapSeq fun x => x.reverse) e (by rw [mapSeq_reverse_plain]; rfl)
  rw [this, mapSeq_reverse_plain]; simp

/-! ### built-ins -/
theorem LE_bltName {x : Str} {pos : Pos} {v : Value} (hK : KF K sc n) (gr : Grd K.G mg mb) (hx : sc.names.lookup x = some .globalImplicit) (hm : mg x = none) (hb : mb x = some v) (hd : plainName x = true) (h : Q (.raw v) σ) : LE K (.Name x pos) Q σ :=
  fun F Φ s S => wpAny_globalName hK gr S.gs hx (.inr ⟨hm, hb⟩) (plainName.debug hd) ⟨Φ, _, σ, S, .refl .., .raw v, h⟩
theorem blt_isTuple {a : Int} : BltIs K (.builtin "isinstance") [.int a, .raw (.type "tuple")] (.bool false) σ := fun F Φ s vs P S rs k => by
  with_reducible refine el_2_3 (rs.two) fun x y oq124 r1 r2 => ?_
  obtain rfl := oq124
  (with_reducible refine el_1_1 (r1.i) fun t oq125 => ?_); obtain rfl := oq125; obtain rfl := r2.w
  exact PySem.IsiPair.int_tuple (k _ _ _ S.withToks (.refl ..) (.bool _))
theorem blt_divmod {a b : Int} (hb : b ≠ 0) (hp : Builtin.divisionGoesByPylong a b = false) : BltIs K (.builtin "divmod") [.int a, .int b] (.tup [.int (a.fdiv b), .int (a.fmod b)]) σ := fun F Φ s vs P S rs k => by
  with_reducible refine el_2_3 (rs.two) fun x y oq126 r1 r2 => ?_
  obtain rfl := oq126
  (with_reducible refine el_1_1 (r1.i) fun t oq127 => ?_); obtain rfl := oq127; (with_reducible refine el_1_1 (r2.i) fun u oq128 => ?_); obtain rfl := oq128
  refine PyProof.Rows.divmod_int hb ?_ (.inl hp)
  refine el_0_2 (S.push { cls := .type "tuple", data := .seq #[.int (a.fdiv b) s.toks, .int (a.fmod b) (s.toks + 1)] } (tk := s.toks + 1 + 1)) fun S₂ g₂ => ?_
  exact k _ _ _ S₂ g₂ (.tup (vs := [.int (a.fdiv b) s.toks, .int (a.fmod b) (s.toks + 1)]) (FMap.ins_self ..) rfl rfl (.cons (.int _ _) (.cons (.int _ _) .nil)))
theorem preSum_list : ∀ (l : List Int) (val : Nat → Int), (∀ i : Nat, i < l.length → val i = l[i]!) → preSum val l.length = l.sum := fun l => by
  have key : ∀ (m : Nat) (val : Nat → Int), m ≤ l.length → (∀ i : Nat, i < l.length → val i = l[i]!) → preSum val m = (l.take m).sum := fun m val => by
    induction m with
    | zero => intro _ _; simp [preSum]
    | succ m ih =>
      intro hm hv
      rw [preSum, ih (by (first | lia | omega)) hv, List.take_add_one, List.sum_append]
      have : l[m]? = some l[m]! := by rw [List.getElem?_eq_getElem (by (first | lia | omega)), List.getElem!_eq_getElem?_getD, List.getElem?_eq_getElem (by (first | lia | omega))]; rfl
      rw [this, hv m (by (first | lia | omega))]; simp
  intro val hv
  rw [key l.length val (Nat.le_refl _) hv, List.take_length]
theorem blt_sum {l : List Int} (hK : KF K sc n) : BltIs K (.builtin "sum") [.list (l.map .int)] (.int l.sum) σ := fun F Φ s vs P S rs k => by
  with_reducible refine el_1_2 (rs.one) fun x oq129 r => ?_
  obtain rfl := oq129
  with_reducible refine el_1_1 (r.listRef) fun a oq130 => ?_
  obtain rfl := oq130
  cases r with
  | @list _ vs m _ e rs =>
    have e' := S.gs.sub _ _ e
    have hl := isList_at e'
    have hlt : a < s.heap.objs.size := Heap.lt_size e'
    have hz : vs.toArray.size = l.length := by rw [List.size_toArray, rs.length, List.length_map]
    refine call_sum_walkG (wpAny_pyIter_list hl ⟨s.heap.objs.size, [s.heap.objs.size, a], [s.heap.objs.size], vs.toArray.size, _, _, fun i => l[i]!, rfl, Walks.list (A := K.A.in1) hK.hd _ _ (Nat.ne_of_lt hlt) vs.toArray, ⟨⟨_, Heap.get?_push_size _ rfl, rfl, rfl⟩, hl.push _⟩, ?_, ?_, ?_⟩)
    · intro b hb
      show b < (s.heap.push _).objs.size
      rw [Heap.size_push]
      rcases List.mem_cons.mp hb with rfl | hb
      · exact Nat.lt_succ_self _
      · rw [List.mem_singleton.mp hb]; exact Nat.lt_succ_of_lt hlt
    · intro i v hp
      refine el_1_2 (rs.getV (i := i) (v := v) (by simpa using hp)) fun d hd rv => ?_
      rw [List.getElem?_map] at hd
      cases q : l[i]? with
      | none => rw [q] at hd; cases hd
      | some z =>
        rw [q] at hd; cases hd
        cases rv
        exact ⟨_, by show _ = Value.int (l[i]!) _; rw [List.getElem!_eq_getElem?_getD, q]; rfl⟩
    · intro h' tk t' hk
      rw [hz, preSum_list l _ (fun i _ => rfl)]
      refine k _ _ _ (S.ext (tk := tk) fun b o eb => hk b o (fun hm => ?_) (Heap.get?_push_of_some _ eb)) (.refl ..) (.int _ _)
      rw [List.mem_singleton.mp hm] at eb
      exact Nat.lt_irrefl _ (Heap.lt_size eb)
theorem toList_rints {acc : Array Value} {a c : Int} {m : Nat} (h : ItemsOf (fun i v => ∃ t, v = .int (a + i * c) t) acc m) : RVs Φ acc.toList (rints a c m) := by
  refine RVs.of_get (by rw [rints_length, Array.length_toList, h.1]) fun i v d hv hd => ?_
  have hi : i < m := by
    have := (List.getElem?_eq_some_iff.mp hd).1
    rwa [rints_length] at this
  rw [rints_get hi] at hd; cases hd
  refine el_1_1 (h.2 i v (by simpa using hv)) fun t oq131 => ?_
  obtain rfl := oq131
  exact .int _ _
/-- list(range(..)), one's own -/
theorem LE_listRange {x : Str} {p pos : Pos} {e : Expr} (hK : KF K sc n) (gr : Grd K.G mg mb) (hx : sc.names.lookup x = some .globalImplicit) (hm : mg x = none) (hb : mb x = some (.type "list")) (hd : plainName x = true)
    (h : LE K e (fun d σ₁ => ∃ a b c m, d = .range a b c ∧ Builtin.Range.small a b c = true ∧ Builtin.Range.rangeSize a b c = (m : Nat) ∧ m ≤ 2 ^ 24 ∧ ∀ A, Q (.raw (.ref A)) (σ₁.new A (.list (rints a c m)))) σ)
    (hs1 : starEach [e] K.env = (false, eval e K.env) :: starEach [] K.env := by rfl) : LE K (.Call (.Name x p) [e] [] pos) Q σ :=
  fun F Φ s S => by
    refine PyProof.Rows.Call_Name rfl (wpAny_globalName hK gr S.gs hx (.inr ⟨hm, hb⟩) (plainName.debug hd) ?_)
    have hs : (starEach [e] K.env).any (·.1) = false := by rw [hs1]; rfl
    have hs' : (backTo pos (starEach [e] K.env)).any (·.1) = false := by
      have : ∀ l : List (Bool × Sem Value), (backTo pos l).any (·.1) = l.any (·.1) := fun l => by
        unfold backTo; rw [List.any_map]; rfl
      rw [this]; exact hs
    have h' : LEs K [e] (fun ds σ₁ => ∃ a b c m, ds = [.range a b c] ∧ Builtin.Range.small a b c = true ∧ Builtin.Range.rangeSize a b c = (m : Nat) ∧ m ≤ 2 ^ 24 ∧ ∀ A, Q (.raw (.ref A)) (σ₁.new A (.list (rints a c m)))) σ :=
      LEs_cons (h.mono fun d σ₁ zz => el_4_2 zz fun a b c m hd r => LEs_nil ⟨a, b, c, m, by rw [hd], r⟩) hs1
    refine PyProof.Rows.callWith_type hs' (wpAny_evalArgs hs (h'.use S fun vs s₁ Φ₁ ds σ₁ S₁ g rs zq => ?_)); (with_reducible refine el_4_5 (zq) fun a b c m hds hsm hsz hle hq => ?_); try clear zq
    subst hds
    with_reducible refine el_1_2 (rs.one) fun v oq132 r => ?_
    obtain rfl := oq132
    cases r with
    | @range rr _ _ _ t u w er =>
      refine call_list_range hK.hd (S₁.gs.sub _ _ er) hsm hsz hle fun h₂ tk acc c' hk e₂ hit => ?_
      exact ⟨Φ₁, _, _, S₁.newOwn (tk := tk) (od := .list (rints a c m)) (get?_size s₁.heap (Nat.le_refl _)) hk ⟨acc.toList, c', by simpa using e₂, toList_rints hit⟩, g, .raw _, hq _⟩
end

section
variable {K : Act} {F Φ Φ' : FMap} {σ : Sig} {s : Shared} {Q : D → Sig → Prop} {R : LF → Sig → Prop} {sc : Scope} {n : Nat} {mg mb : Str → Option Value}

theorem It.ofWalksN {tgt : Expr} {I : Addr} {fp wr : List Addr} {Ψ : FMap} {ds : List D} {P : Nat → Value → Prop} {W : Nat → Heap → Prop} {N : Nat} (hN : N = ds.length) (w : Walks K.G.prog K.G.w K.A I fp wr N P W) (hP : ∀ i v, P i v → ∃ d, ds[i]? = some d ∧ RV Ψ v d)
    (hfp : ∀ b ∈ fp, b ∈ wr ∨ ∃ o, Ψ b = some o) (hI : I ∈ wr) (hq : ∀ i h, W i h → ∃ o, h.get? I = some o ∧ Quiet o) (hw : ∀ b ∈ wr, b = I) : It K tgt I wr Ψ ds W := by
  subst hN; exact It.ofWalks w hP hfp hI hq hw

/-! ### runs through dicts -/
theorem vals_get {vks : List (Int × Value)} {l : List (Int × D)} (hr : RVs Φ (vks.map (·.2)) (l.map (·.2))) {i : Nat} {k : Int} {v : Value} (h : vks[i]? = some (k, v)) : ∃ p, l[i]? = some p ∧ RV Φ v p.2 := by
  refine el_1_2 (hr.getV (i := i) (v := v) (by rw [List.getElem?_map, h]; rfl)) fun d hd rv => ?_
  rw [List.getElem?_map] at hd
  cases q : l[i]? with
  | none => rw [q] at hd; cases hd
  | some p => rw [q] at hd; cases hd; exact ⟨p, rfl, rv⟩
theorem LI_values {tgt iter : Expr} {Q : List D → Sig → Prop} (hK : KF K sc n) (h : LE K iter (fun d σ₁ => ∃ l, d = .vals l ∧ Q (l.map (·.2)) σ₁) σ) : LI K tgt iter Q σ :=
  fun F Φ s S => h.use S fun v s₁ Φ₁ d σ₁ S₁ g₁ r zq => by
    with_reducible refine el_1_2 (zq) fun l hd hq => ?_
    try clear zq
    subst hd
    cases r with
    | @vals a dd _ e rd =>
      with_reducible refine el_3_5 (rv_dictAt K.G.prog K.G.w rd S₁.gs.sub) fun a' vks m rfl' hm hk hr hs => ?_
      cases rfl'
      have e' := S₁.gs.sub _ _ e
      have hlen : vks.length = l.length := by have := congrArg List.length hk; simpa using this
      have hdd : ∃ o, Φ₁ dd = some o := by cases rd with | dict e0 => exact ⟨_, e0⟩
      with_reducible refine el_1_1 (hdd) fun od hod => ?_
      try clear hdd
      have hne : dd ≠ s₁.heap.objs.size := Nat.ne_of_lt (Heap.lt_size (S₁.gs.sub _ _ hod))
      refine wpAny_pyIter_values ⟨_, e', rfl, rfl⟩ hm ?_
      have hkp : ∀ b o, s₁.heap.get? b = some o → (s₁.heap.push { cls := .type "dict_valueiterator", data := .fields #[.ref dd, .int 0 0, .int vks.length 0, .int m 0] }).get? b = some o := fun b o e => Heap.get?_push_of_some _ e
      have S₂ := S₁.ext (tk := s₁.toks) hkp
      have w := Walks.dictValues (prog := K.G.prog) (w := K.G.w) (A := K.A) (knd := intKind K.G.prog K.G.w) hK.hd s₁.heap.objs.size dd hne vks m
      have hz : vks.length = (l.map (·.2)).length := by rw [List.length_map, hlen]
      refine ⟨s₁.heap.objs.size, [s₁.heap.objs.size], _, Φ₁, σ₁, l.map (·.2), S₂, g₁, ⟨rfl, It.ofWalksN hz w (fun i v hp => ?_) (fun b hb => ?_) (List.mem_singleton.mpr rfl) (fun i h st => ?_) (fun b hb => List.mem_singleton.mp hb), ?_, fun b hb => ?_⟩, hq⟩
      · with_reducible refine el_1_1 (hp) fun k hp => ?_
        with_reducible refine el_1_2 (vals_get hr hp) fun p h1 h2 => ?_
        exact ⟨p.2, by rw [List.getElem?_map, h1]; rfl, h2⟩
      · simp only [List.mem_cons, List.not_mem_nil, or_false] at hb
        rcases hb with rfl | rfl
        · exact .inl (List.mem_singleton.mpr rfl)
        · exact .inr ⟨_, hod⟩
      · obtain ⟨⟨o, eo, hc, _⟩, _⟩ := st
        exact ⟨o, eo, "dict_valueiterator", hc, by decide⟩
      · exact ⟨⟨_, Heap.get?_push_size _ rfl, rfl, rfl⟩, hm.at' fun o eo => hkp _ o eo⟩
      · rw [List.mem_singleton.mp hb]
        exact muts_lt S₁ (get?_size s₁.heap (Nat.le_refl _))
/-- the pairs of a dict -/
noncomputable def pairsD (l : List (Int × D)) : List D := l.map fun p => .tup [.int p.1, p.2]
theorem LI_items {elts : List Expr} {x1 : Nat} {tpos : Pos} {iter : Expr} {Q : List D → Sig → Prop} (hK : KF K sc n) (h : LE K iter (fun d σ₁ => ∃ l, d = .items l ∧ Q (pairsD l) σ₁) σ) : LI K (.Tuple elts x1 tpos) iter Q σ :=
  fun F Φ s S => h.use S fun v s₁ Φ₁ d σ₁ S₁ g₁ r zq => by
    with_reducible refine el_1_2 (zq) fun l hd hq => ?_
    try clear zq
    subst hd
    cases r with
    | @items a dd _ e rd =>
      with_reducible refine el_3_5 (rv_dictAt K.G.prog K.G.w rd S₁.gs.sub) fun a' vks m rfl' hm hk hr hs => ?_
      cases rfl'
      have e' := S₁.gs.sub _ _ e
      have hlen : vks.length = l.length := by have := congrArg List.length hk; simpa using this
      have hdd : ∃ o, Φ₁ dd = some o := by cases rd with | dict e0 => exact ⟨_, e0⟩
      with_reducible refine el_1_1 (hdd) fun od hod => ?_
      try clear hdd
      have hne : dd ≠ s₁.heap.objs.size := Nat.ne_of_lt (Heap.lt_size (S₁.gs.sub _ _ hod))
      refine wpAny_pyIter_items ⟨_, e', rfl, rfl⟩ hm ?_
      have hkp : ∀ b o, s₁.heap.get? b = some o → (s₁.heap.push { cls := .type "dict_itemiterator", data := .fields #[.none, .bool false, .ref dd, .int 0 0, .int vks.length 0, .int m 0, .none, .none] }).get? b = some o := fun b o e => Heap.get?_push_of_some _ e
      have S₂ := S₁.ext (tk := s₁.toks) hkp
      have hfr : ∀ (h h' : Heap), FIn Φ₁ h → FIn Φ₁ h' → h.DictAt (intKind K.G.prog K.G.w) dd vks m → h'.DictAt (intKind K.G.prog K.G.w) dd vks m := fun h h' f1 f2 hd => hd.at' fun o eo => by
        rw [f1 _ _ hod] at eo; cases eo; exact f2 _ _ hod
      have hPl : (pairsD l).length = vks.length := by unfold pairsD; rw [List.length_map, hlen]
      refine ⟨s₁.heap.objs.size, [s₁.heap.objs.size], fun i h => ∃ ok ov, IsItemIter h s₁.heap.objs.size dd i vks.length m ok ov ∧ h.DictAt (intKind K.G.prog K.G.w) dd vks m, Φ₁, σ₁, pairsD l, S₂, g₁, ⟨rfl, ⟨?_, ?_, ?_, ?_, ?_⟩, ?_, fun b hb => ?_⟩, hq⟩
      · rintro i h h' ⟨ok, ov, h1, h2⟩ f1 hk' f2
        exact ⟨ok, ov, hk' _ (List.mem_singleton.mpr rfl) _ h1, hfr _ _ f1 f2 h2⟩
      · rintro i h ⟨ok, ov, h1, h2⟩ b hb
        rw [List.mem_singleton.mp hb]; exact ⟨_, h1⟩
      · rintro i d s hd ⟨ok, ov, h1, h2⟩ hf
        unfold pairsD at hd
        rw [List.getElem?_map] at hd
        cases q : l[i]? with
        | none => rw [q] at hd; cases hd
        | some p =>
          rw [q] at hd; cases hd
          have hi : i < vks.length := by rw [hlen]; exact (List.getElem?_eq_some_iff.mp q).1
          obtain ⟨⟨k, x⟩, hx⟩ : ∃ z, vks[i]? = some z := ⟨vks[i], by simp [hi]⟩
          with_reducible refine el_1_2 (vals_get hr hx) fun p' hp' rv => ?_
          rw [q] at hp'; cases hp'
          have hkk : k = p.1 := by
            have e1 : (vks.map (·.1))[i]? = some k := by rw [List.getElem?_map, hx]; rfl
            have e2 : (l.map (·.1))[i]? = some p.1 := by rw [List.getElem?_map, q]; rfl
            rw [hk, e2] at e1; cases e1; rfl
          refine wpAny_pyNext_items_item h1 h2 hx fun key h' hkey hout hnew hsz hkeep => ?_
          have hnI : s.heap.objs.size ≠ s₁.heap.objs.size := fun hq' => by
            have : s₁.heap.objs.size < s.heap.objs.size := Heap.lt_size h1
            (first | lia | omega)
          refine wpAny_letOwnedTupleGo_items hout fun h'' hit'' hsb => ?_
          refine el_1_1 (Value.isInt_shape (k := k) (v := key) hkey) fun t oq133 => ?_
          obtain rfl := oq133
          have hnone : s.heap.get? s.heap.objs.size = none := get?_size s.heap (Nat.le_refl _)
          have hnew'' : h''.get? s.heap.objs.size = some { cls := .type "tuple", data := .seq #[.int k t, x] } := hsb.extBut _ _ hnI hnew
          refine ⟨h'', s.toks, Φ₁.ins s.heap.objs.size { cls := .type "tuple", data := .seq #[.int k t, x] }, rfl, ⟨_, _, hit'', h2.at' fun o eo => hsb.extBut _ _ hne (hkeep _ o hne eo)⟩, fun b o hb eo => ?_, fun b o eo => ?_, fun b o eo => ?_, ?_⟩
          · have hbI : b ≠ s₁.heap.objs.size := fun hq' => hb (List.mem_singleton.mpr hq')
            exact hsb.extBut b o hbI (hkeep b o hbI eo)
          · refine (FMap.ins_ne _ _ fun hq' => ?_).trans eo
            rw [hq'] at eo; rw [hf _ _ eo] at hnone; cases hnone
          · by_cases hb : b = s.heap.objs.size
            · subst hb; rw [FMap.ins_self] at eo; cases eo; exact .inr ⟨hnone, hnew''⟩
            · rw [FMap.ins_ne _ _ hb] at eo; exact .inl eo
          · have le : FLe Φ₁ (Φ₁.ins s.heap.objs.size { cls := .type "tuple", data := .seq #[.int k t, x] }) := fun b o eo => by
              refine (FMap.ins_ne _ _ fun hq' => ?_).trans eo
              rw [hq'] at eo; rw [hf _ _ eo] at hnone; cases hnone
            subst hkk
            exact .tup (vs := [.int p.1 t, x]) (FMap.ins_self ..) rfl rfl (.cons (.int _ _) (.cons (rv.mono le) .nil))
      · rintro s ⟨ok, ov, h1, h2⟩ hf
        rw [hPl] at h1
        refine wpAny_pyNext_items_end hK.hd h1 h2 (by simp) fun h' he' => ⟨rfl, h', s.toks, rfl, fun b o hb eo => he' b o (fun hq' => hb (List.mem_singleton.mpr hq')) eo⟩
      · rintro i s ⟨ok, ov, h1, h2⟩
        refine wpAny_pyIter_slot ⟨_, h1, rfl⟩ PySem.F.slot_dict_itemiterator_iter (wpAny_call_entry PySem.F.slot_dict_itemiterator_iter ⟨_, h1, rfl⟩ kcp_entry ?_ (PySem.F.args_dict_itemiterator_iter_1 _))
        show wpAny _ _ (ret (.ref s₁.heap.objs.size)) _ _ s
        exact wpAny_pure ⟨_, rfl, "dict_itemiterator", _, ⟨_, h1, rfl⟩, PySem.F.slot_dict_itemiterator_next.lookup, rfl, rfl⟩
      · refine ⟨.none, .none, Heap.get?_push_size _ rfl, hm.at' fun o eo => hkp _ o eo⟩
      · rw [List.mem_singleton.mp hb]
        exact muts_lt S₁ (get?_size s₁.heap (Nat.le_refl _))

/-! ### backwards through a list -/
theorem LI_reversed {tgt e : Expr} {x : Str} {p pos : Pos} {Q : List D → Sig → Prop} (hK : KF K sc n) (gr : Grd K.G mg mb) (hx : sc.names.lookup x = some .globalImplicit) (hmx : mg x = none) (hb : mb x = some (.type "reversed")) (hd : plainName x = true)
    (h : LE K e (fun d σ₁ => ∃ ds, d = .list ds ∧ Q ds.reverse σ₁) σ) (hs1 : starEach [e] K.env = (false, eval e K.env) :: starEach [] K.env := by rfl) : LI K tgt (.Call (.Name x p) [e] [] pos) Q σ :=
  fun F Φ s S => by
    refine PyProof.Rows.Call_Name rfl (wpAny_globalName hK gr S.gs hx (.inr ⟨hmx, hb⟩) (plainName.debug hd) ?_)
    have hs : (starEach [e] K.env).any (·.1) = false := by rw [hs1]; rfl
    have hs' : (backTo pos (starEach [e] K.env)).any (·.1) = false := by
      have : ∀ l : List (Bool × Sem Value), (backTo pos l).any (·.1) = l.any (·.1) := fun l => by
        unfold backTo; rw [List.any_map]; rfl
      rw [this]; exact hs
    have h' : LEs K [e] (fun l σ₁ => ∃ ds, l = [.list ds] ∧ Q ds.reverse σ₁) σ :=
      LEs_cons (h.mono fun d σ₁ ⟨ds, hd, r⟩ => LEs_nil ⟨ds, by rw [hd], r⟩) hs1
    refine PyProof.Rows.callWith_type hs' (wpAny_evalArgs hs (h'.use S fun vs s₁ Φ₁ l σ₁ S₁ g₁ rs zq => ?_)); (with_reducible refine el_1_2 (zq) fun ds hds hq => ?_); try clear zq
    subst hds
    with_reducible refine el_1_2 (rs.one) fun v oq134 r => ?_
    obtain rfl := oq134
    with_reducible refine el_1_1 (r.listRef) fun a oq135 => ?_
    obtain rfl := oq135
    cases r with
    | @list _ vs m _ e rs =>
      have e' := S₁.gs.sub _ _ e
      have hl := isList_at e'
      have hne : a ≠ s₁.heap.objs.size := Nat.ne_of_lt (Heap.lt_size e')
      refine call_reversed_list hl ?_
      have hk : ∀ b o, s₁.heap.get? b = some o → (s₁.heap.push (revObj a ((vs.toArray.size : Int) - 1))).get? b = some o := fun b o e => Heap.get?_push_of_some _ e
      have S₂ := S₁.ext (tk := s₁.toks) hk
      have hit : (s₁.heap.push (revObj a ((vs.toArray.size : Int) - 1))).IsRevIter s₁.heap.objs.size a ((vs.toArray.size : Int) - 1) := ⟨_, Heap.get?_push_size _ rfl, rfl, rfl⟩
      refine wpAny_pyIter_revIter hit ?_
      have w := Walks.listRev (prog := K.G.prog) (w := K.G.w) (A := K.A) hK.hd s₁.heap.objs.size a hne vs.toArray
      have hz : vs.toArray.size = ds.reverse.length := by rw [List.size_toArray, rs.length, List.length_reverse]
      have hz' : vs.toArray.size = vs.length := List.size_toArray ..
      refine ⟨s₁.heap.objs.size, [s₁.heap.objs.size], _, Φ₁, σ₁, ds.reverse, S₂, g₁, ⟨rfl, It.ofWalksN hz w.bound (fun i v hp => ?_) (fun b hb => ?_) (List.mem_singleton.mpr rfl) (fun i h st => ?_) (fun b hb => List.mem_singleton.mp hb), ?_, fun b hb => ?_⟩, hq⟩
      · with_reducible refine el_0_2 (hp) fun hi hp => ?_
        have hp' : vs[vs.length - 1 - i]? = some v := by rw [← hz']; simpa using hp
        with_reducible refine el_1_2 (rs.getV hp') fun d h1 h2 => ?_
        rw [rs.length] at h1
        exact ⟨d, by rw [List.getElem?_reverse (by rw [hz, List.length_reverse] at hi; exact hi)]; exact h1, h2⟩
      · simp only [List.mem_cons, List.not_mem_nil, or_false] at hb
        rcases hb with rfl | rfl
        · exact .inl (List.mem_singleton.mpr rfl)
        · exact .inr ⟨_, e⟩
      · obtain ⟨_, ⟨o, e, hc, _⟩, _⟩ := st
        exact ⟨o, e, "list_reverseiterator", hc, by decide⟩
      · exact ⟨Nat.zero_le _, by show Heap.IsRevIter _ _ _ (((vs.toArray.size : Nat) : Int) - 1 - ((0 : Nat) : Int)); rw [Int.natCast_zero, Int.sub_zero]; exact hit, isList_at (hk _ _ e')⟩
      · rw [List.mem_singleton.mp hb]
        exact muts_lt S₁ (get?_size s₁.heap (Nat.le_refl _))
end

/-! ### data that are equal -/
inductive EqD : Nat → D → D → Prop
  | int {n : Nat} (i : Int) : EqD n (.int i) (.int i)
  | tup {n : Nat} {l m : List D} : l.length = m.length → (∀ (i : Nat) d e, l[i]? = some d → m[i]? = some e → EqD n d e) → EqD (n + 1) (.tup l) (.tup m)
  | list {n : Nat} {l m : List D} : l.length = m.length → (∀ (i : Nat) d e, l[i]? = some d → m[i]? = some e → EqD n d e) → EqD (n + 1) (.list l) (.list m)
  | dict {n : Nat} {l m : List (Int × D)} : l.length = m.length → (∀ (i : Nat) p, l[i]? = some p → ∃ e, valD m p.1 = some e) → (∀ (i : Nat) p e, l[i]? = some p → valD m p.1 = some e → EqD n p.2 e) → EqD (n + 1) (.dict l) (.dict m)
section
variable {K : Act} {F Φ Φ' : FMap} {σ : Sig} {s : Shared} {Q : D → Sig → Prop} {R : LF → Sig → Prop} {sc : Scope} {n : Nat} {mg mb : Str → Option Value}
theorem eqAt_items {vs ws : List Value} {l m : List D} {A : Around} (r₁ : RVs Φ vs l) (r₂ : RVs Φ ws m) (h : ∀ (i : Nat) d e v w, l[i]? = some d → m[i]? = some e → RV Φ v d → RV Φ w e → SeqAt.EqAt A s v w true) :
    ∀ j (h1 : j < vs.toArray.size) (h2 : j < ws.toArray.size), SeqAt.EqAt A s vs.toArray[j] ws.toArray[j] ((fun _ => true) j) := fun j h1 h2 => by
  have h1' : j < vs.length := by simpa using h1
  have h2' : j < ws.length := by simpa using h2
  with_reducible refine el_1_2 (r₁.getV (List.getElem?_eq_getElem h1')) fun d hd rd => ?_
  with_reducible refine el_1_2 (r₂.getV (List.getElem?_eq_getElem h2')) fun e he re => ?_
  simpa using h j d e _ _ hd he rd re
theorem all_true (n : Nat) : (List.range n).all (fun _ => true) = true := by simp
theorem hits_of {A : Around} {prog : Program} {w : World} {vka vkb : List (Int × Value)} {l m : List (Int × D)} (ha : vka.map (·.1) = l.map (·.1)) (ra : RVs Φ (vka.map (·.2)) (l.map (·.2))) (hb : vkb.map (·.1) = m.map (·.1)) (rb : RVs Φ (vkb.map (·.2)) (m.map (·.2)))
    (h1 : ∀ (i : Nat) p, l[i]? = some p → ∃ e, valD m p.1 = some e) (h2 : ∀ (i : Nat) p e v w, l[i]? = some p → valD m p.1 = some e → RV Φ v p.2 → RV Φ w e → SeqAt.EqAt A s v w true) : KeqHits A s vkb vka true := by
  induction vka generalizing l with
  | nil => exact .nil
  | cons q r ih =>
    cases l with
    | nil => simp at ha
    | cons p l =>
      simp only [List.map_cons, List.cons.injEq] at ha
      cases ra with
      | cons hq hr =>
        obtain ⟨k, v⟩ := q
        with_reducible refine el_1_1 (h1 0 p rfl) fun e he => ?_
        with_reducible refine el_1_2 ((valD_rel hb rb).1 e he) fun y hy ry => ?_
        have hk : k = p.1 := ha.1
        refine .hit (e := true) (b := true) (by rw [hk]; exact hy) (h2 0 p e v y rfl he hq ry) (ih ha.2 hr (fun i p' hp => h1 (i + 1) p' (by simpa using hp)) fun i p' e' v' w' hp => h2 (i + 1) p' e' v' w' (by simpa using hp))

theorem EqD.at {n : Nat} {d e : D} (h : EqD n d e) (hf : FIn Φ s.heap) : ∀ (A : Around), A.units + n + 1 < cLine → ∀ v w, RV Φ v d → RV Φ w e → SeqAt.EqAt A s v w true := by
  induction h with
  | int i =>
    intro A hu v w rv rw'
    with_reducible refine el_1_1 (rv.i) fun t oq136 => ?_
    obtain rfl := oq136
    with_reducible refine el_1_1 (rw'.i) fun u oq137 => ?_
    obtain rfl := oq137
    have := SeqAt.eqAt_reads (.int i) (.int i) A s _ _ [] [] (.int i t) (.int i u) rfl rfl (by simp [PyData.depth]; (first | lia | omega))
    simpa [PyData.eqv] using this
  | @tup n l m hl hi ih =>
    intro A hu v w rv rw'
    with_reducible refine el_1_1 (ref_of_tup rv) fun a oq138 => ?_
    obtain rfl := oq138
    with_reducible refine el_1_1 (ref_of_tup rw') fun b oq139 => ?_
    obtain rfl := oq139
    with_reducible refine el_1_2 (isTuple_of hf rv) fun vs h1 r1 => ?_
    with_reducible refine el_1_2 (isTuple_of hf rw') fun ws h2 r2 => ?_
    have hz : vs.toArray.size = ws.toArray.size := by rw [List.size_toArray, List.size_toArray, r1.length, r2.length, hl]
    have := SeqAt.RcAt.tuples (A := A) (e := fun _ => true) h1 h2 (by (first | lia | omega)) (eqAt_items r1 r2 fun i d e v w hd he rd re => ih i d e hd he A.in1 (by simp; (first | lia | omega)) v w rd re)
    rw [all_true, hz, beq_self_eq_true] at this
    by_cases hab : a = b
    · subst hab; exact .same _
    · exact .of_refs hab this
  | @list n l m hl hi ih =>
    intro A hu v w rv rw'
    with_reducible refine el_1_1 (rv.listRef) fun a oq140 => ?_
    obtain rfl := oq140
    with_reducible refine el_1_1 (rw'.listRef) fun b oq141 => ?_
    obtain rfl := oq141
    with_reducible refine el_2_2 (rv.listAt hf) fun vs c1 h1 r1 => ?_
    with_reducible refine el_2_2 (rw'.listAt hf) fun ws c2 h2 r2 => ?_
    have hz : vs.toArray.size = ws.toArray.size := by rw [List.size_toArray, List.size_toArray, r1.length, r2.length, hl]
    have := SeqAt.RcAt.lists (A := A) (e := fun _ => true) (isList_at h1) (isList_at h2) hz (by (first | lia | omega)) (eqAt_items r1 r2 fun i d e v w hd he rd re => ih i d e hd he A.in1 (by simp; (first | lia | omega)) v w rd re)
    rw [all_true] at this
    by_cases hab : a = b
    · subst hab; exact .same _
    · exact .of_refs hab this
  | @dict n l m hl hm hi ih =>
    intro A hu v w rv rw'
    with_reducible refine el_1_1 (rv.dictRef) fun a oq142 => ?_
    obtain rfl := oq142
    with_reducible refine el_1_1 (rw'.dictRef) fun b oq143 => ?_
    obtain rfl := oq143
    by_cases hab : a = b
    · subst hab; exact .same _
    · refine .of_refs hab fun prog w E Q hq => ?_
      with_reducible refine el_3_5 (rv_dictAt prog w rv hf) fun a' vka c1 ea da ka ra sa => ?_
      with_reducible refine el_3_5 (rv_dictAt prog w rw' hf) fun b' vkb c2 eb db kb rb sb => ?_
      cases ea; cases eb
      have hlen : vka.length = vkb.length := by
        have h1 := congrArg List.length ka
        have h2 := congrArg List.length kb
        simp at h1 h2; (first | lia | omega)
      refine keq_eq (r := true) sa sb da.dictOf db.dictOf (by (first | lia | omega)) (fun _ => hits_of (prog := prog) (w := w) ka ra kb rb hm fun i p e v w hp he rd re => ih i p e hp he A.in1 (by simp; (first | lia | omega)) v w rd re) ?_
      rw [hlen, beq_self_eq_true]; exact hq
/-- what is equal is not unlike -/
theorem cmp_neSame {n : Nat} {d e : D} (hK : KF K sc 0) (hn : n ≤ 40) (h : EqD n d e) : CmpIs K .NotEq d e false σ := fun F Φ s v w P S rv rw' k => by
  have hu := hK.units
  have hc : 9900 ≤ cLine := by unfold cLine; decide
  have hf := S.gs.sub
  cases h with
  | int i => (with_reducible refine el_1_1 (rv.i) fun t oq144 => ?_); obtain rfl := oq144; (with_reducible refine el_1_1 (rw'.i) fun u oq145 => ?_); obtain rfl := oq145; exact PyProof.Rows.ne_int (by simpa using k _ _ S (.refl ..))
  | @tup n l m hl hi =>
    with_reducible refine el_1_1 (ref_of_tup rv) fun a oq146 => ?_
    obtain rfl := oq146
    with_reducible refine el_1_1 (ref_of_tup rw') fun b oq147 => ?_
    obtain rfl := oq147
    with_reducible refine el_1_2 (isTuple_of hf rv) fun vs h1 r1 => ?_
    with_reducible refine el_1_2 (isTuple_of hf rw') fun ws h2 r2 => ?_
    have hz : vs.toArray.size = ws.toArray.size := by rw [List.size_toArray, List.size_toArray, r1.length, r2.length, hl]
    have := SeqAt.RcNeAt.tuples (A := K.A) (e := fun _ => true) h1 h2 (by (first | lia | omega)) (eqAt_items r1 r2 fun i d e v w hd he rd re => (hi i d e hd he).at hf K.A.in1 (by simp; (first | lia | omega)) v w rd re)
    rw [all_true, hz, beq_self_eq_true] at this
    exact this _ _ _ _ (k _ _ S (.refl ..))
  | @list n l m hl hi =>
    with_reducible refine el_1_1 (rv.listRef) fun a oq148 => ?_
    obtain rfl := oq148
    with_reducible refine el_1_1 (rw'.listRef) fun b oq149 => ?_
    obtain rfl := oq149
    with_reducible refine el_2_2 (rv.listAt hf) fun vs c1 h1 r1 => ?_
    with_reducible refine el_2_2 (rw'.listAt hf) fun ws c2 h2 r2 => ?_
    have hz : vs.toArray.size = ws.toArray.size := by rw [List.size_toArray, List.size_toArray, r1.length, r2.length, hl]
    have := SeqAt.RcNeAt.lists (A := K.A) (e := fun _ => true) (isList_at h1) (isList_at h2) hz (by (first | lia | omega)) (eqAt_items r1 r2 fun i d e v w hd he rd re => (hi i d e hd he).at hf K.A.in1 (by simp; (first | lia | omega)) v w rd re)
    rw [all_true] at this
    exact this _ _ _ _ (k _ _ S (.refl ..))
  | @dict n l m hl hm hi =>
    with_reducible refine el_3_5 (rv_dictAt K.G.prog K.G.w rv hf) fun a' vka c1 oq150 da ka ra sa => ?_
    obtain rfl := oq150
    with_reducible refine el_3_5 (rv_dictAt K.G.prog K.G.w rw' hf) fun b' vkb c2 oq151 db kb rb sb => ?_
    obtain rfl := oq151
    have hlen : vka.length = vkb.length := by
      have h1 := congrArg List.length ka
      have h2 := congrArg List.length kb
      simp at h1 h2; (first | lia | omega)
    refine keq_ne (r := true) sa sb da.dictOf db.dictOf (by (first | lia | omega)) (fun _ => hits_of (prog := K.G.prog) (w := K.G.w) ka ra kb rb hm fun i p e v w hp he rd re => (hi i p e hp he).at hf K.A.in1 (by simp; (first | lia | omega)) v w rd re) ?_
    rw [hlen, beq_self_eq_true]; exact k _ _ S (.refl ..)
end

section
variable {K : Act} {F Φ Φ' : FMap} {σ : Sig} {s : Shared} {Q : D → Sig → Prop} {R : LF → Sig → Prop} {sc : Scope} {n : Nat} {mg mb : Str → Option Value}
theorem RVs.rep {vs : List Value} {l : List D} (h : RVs Φ vs l) : ∀ k : Nat, RVs Φ (List.replicate k vs).flatten (List.replicate k l).flatten
  | 0 => .nil
  | k + 1 => by
    rw [List.replicate_succ, List.replicate_succ, List.flatten_cons, List.flatten_cons]
    exact RVs.append (RVs.rep h k) h
theorem mulList {a : Addr} {vs : List Value} {c : Nat} {x : Int} {u : Tok} {prog : Program} {w : World} {A : Around} {P : Value → Shared → Prop} {E : Value → Shared → Prop} (hl : s.heap.get? a = some { cls := .type "list", data := .seq vs.toArray c })
    (hlo : -(2 ^ 63 : Int) ≤ x) (hhi : x < 2 ^ 63) (hsz : vs.length * x.toNat ≤ 2 ^ 24)
    (h : P (.ref s.heap.objs.size) { s with heap := s.heap.push { cls := .type "list", data := .seq (List.replicate x.toNat vs).flatten.toArray } }) : wpAny (model prog w) A (binaryOp .Mult (.ref a) (.int x u)) P E s := by
  have hsz' : vs.toArray.size * x.toNat ≤ 2 ^ 24 := by rw [List.size_toArray]; exact hsz
  refine wpAny_binaryOp_repeat_ref (T := "list") (U := "int") (by decide) ⟨_, hl, rfl⟩ (fun s' => typeIs_int s' x u) noFill_list_mul PySem.F.fills_int_mul PySem.F.slot_int_rmul repeat_list PySem.F.slot_int_index.lookup
    (call_meets PySem.F.slot_int_rmul (typeIs_int s x u) PySem.F.entry_int_rmul (PySem.F.args_int_rmul_2 _ _) (int___rmul___int_list x u a vs.toArray c)
      ⟨hl, rfl, ⟨_, hl, rfl⟩, call_meets PySem.F.slot_list_mul ⟨_, hl, rfl⟩ PySem.F.entry_list_mul (PySem.F.args_list_mul_2 _ _)
        (PySem.AutoListH.list___mul___list_int_3 a vs.toArray c x u (by simp [Builtin.List.listFitsIndex]; (first | lia | omega)) (by (first | lia | omega)) (by simp [Builtin.List.listTooLong, sizeLine]; simpa using hsz))
        ⟨hl, ?_⟩⟩)
  rw [listMul_foldl_if]
  exact h
/-- a list times an int, one's own -/
theorem LE_mulOwn {l r : Expr} {pos : Pos} (h : LE K l (fun d₁ σ₁ => LE K r (fun d₂ σ₂ => ∃ ds x, d₁ = .list ds ∧ d₂ = .int x ∧ -(2 ^ 63 : Int) ≤ x ∧ x < 2 ^ 63 ∧ ds.length * x.toNat ≤ 2 ^ 24 ∧ ∀ A, Q (.raw (.ref A)) (σ₂.new A (.list (List.replicate x.toNat ds).flatten))) σ₁) σ) : LE K (.BinOp l .Mult r pos) Q σ :=
  fun F Φ s S => wpAny_BinOp (h.use S fun v₁ s₁ Φ₁ d₁ σ₁ S₁ g₁ r₁ h₁ => h₁.use S₁ fun v₂ s₂ Φ₂ d₂ σ₂ S₂ g₂ r₂ zq => by
    with_reducible refine el_2_6 (zq) fun ds x hd1 hd2 hlo hhi hsz hq => ?_
    try clear zq
    subst hd1; subst hd2
    have r₁' := r₁.mono g₂.1
    with_reducible refine el_1_1 (r₁'.listRef) fun a oq152 => ?_
    obtain rfl := oq152
    cases r₂
    with_reducible refine el_2_2 (r₁'.listAt S₂.gs.sub) fun vs c1 h1 q1 => ?_
    refine mulList h1 hlo hhi (by rw [q1.length]; exact hsz) ?_
    exact ⟨Φ₂, _, _, S₂.newOwn (tk := s₂.toks) (od := .list (List.replicate x.toNat ds).flatten) (get?_size s₂.heap (Nat.le_refl _)) (fun b o e => Heap.get?_push_of_some _ e) ⟨_, 0, Heap.get?_push_size _ rfl, q1.rep _⟩, g₁.trans g₂, .raw _, hq _⟩)

/-! ### str.join -/
theorem strs_of {vs : List Value} : ∀ {l : List Str}, RVs Φ vs (l.map .str) → ∃ ps : List (Str × Tok), vs = strValues ps ∧ ps.map (·.1) = l := fun {l} => by
  induction l generalizing vs with
  | nil => intro h; cases h; exact ⟨[], rfl, rfl⟩
  | cons x r ih =>
    intro h
    cases h with
    | cons a b =>
      with_reducible refine el_1_2 (ih b) fun ps e1 e2 => ?_
      cases a with
      | str _ t => exact ⟨(x, t) :: ps, by rw [e1]; rfl, by simp [e2]⟩
theorem glued_nil : ∀ ls : List (List Nat), Builtin.Str.glued (tx []) (ls.map tx) = tx ls.flatten := fun ls => by
  cases ls with
  | nil => rfl
  | cons l r =>
    have key : ∀ (r : List (List Nat)) (a : Array Nat), (r.map tx).foldl (fun acc p => acc ++ (tx []).cps ++ p.cps) a = a ++ r.flatten.toArray := fun r => by
      induction r with
      | nil => intro a; simp
      | cons x r ih => intro a; rw [List.map_cons, List.foldl_cons, ih]; simp [tx]
    unfold Builtin.Str.glued
    rw [List.map_cons, List.drop_succ_cons, List.drop_zero, key]
    simp [tx]
theorem met_join {ls : List (List Nat)} (hl : ls.flatten.length ≤ 1000) : MetIs K "str.join" [.str (tx []), .list ((ls.map tx).map .str)] (.str (tx ls.flatten)) σ σ := fun F Φ s vs P S rs k => by
  with_reducible refine el_2_3 (rs.two) fun x y oq153 rx ry => ?_
  obtain rfl := oq153
  cases rx with
  | str _ t =>
    with_reducible refine el_1_1 (ry.listRef) fun a oq154 => ?_
    obtain rfl := oq154
    with_reducible refine el_2_2 (ry.listAt S.gs.sub) fun ws c1 e1 q1 => ?_
    with_reducible refine el_1_2 (strs_of q1) fun ps oq155 hps => ?_
    obtain rfl := oq155
    have hfit : Builtin.Str.tooLong ((ps.map (·.1)).toArray.foldl (fun x y => x + y.length + (tx []).length) 0) = false := by
      have key : ∀ (ls : List (List Nat)) (k : Nat), (ls.map tx).foldl (fun x y => x + y.length + (tx []).length) k = k + ls.flatten.length := fun ls => by
        induction ls with
        | nil => intro k; simp
        | cons l r ih => intro k; rw [List.map_cons, List.foldl_cons, ih]; simp [tx_length]; (first | lia | omega)
      rw [hps]
      unfold Builtin.Str.tooLong
      simp only [List.foldl_toArray, key, sizeLine_eq]
      exact decide_eq_false (by (first | lia | omega))
    refine call_meets PySem.F.slot_str_join (typeIs_str ..) PySem.F.entry_str_join (PySem.F.args_str_join_2 _ _) (meets_str_join_list (tx []) t a ps hfit) ⟨isList_at e1, ?_⟩
    have hg : Builtin.Str.glued (tx []) (ps.map (·.1)) = tx ls.flatten := by rw [hps]; exact glued_nil ls
    have key : ∀ tk u, P (.str (tx ls.flatten) u) { s with toks := tk } := fun tk u => k _ _ _ (S.withToks (tk := tk)) (.refl ..) (.str _ _)
    have hz : (tx ls.flatten).length ≤ sizeLine := by rw [tx_length, sizeLine_eq]; (first | lia | omega)
    match ps, hps, hg with
    | [], _, hg =>
      show Made.post (.str (Builtin.Str.glued (tx []) [])) _ _
      rw [show Builtin.Str.glued (tx []) [] = _ from hg]
      exact ⟨hz, key _ _⟩
    | [p], hps, hg =>
      have : p.1 = tx ls.flatten := by
        cases ls with
        | nil => simp at hps
        | cons l r => cases r with
          | nil => simp at hps; rw [hps]; simp
          | cons => simp at hps
      show P (.str p.1 p.2) s
      rw [this]; exact key s.toks _
    | p :: q :: r, _, hg =>
      show Made.post (.str (Builtin.Str.glued (tx []) ((p :: q :: r).map (·.1)))) _ _
      rw [hg]
      exact ⟨hz, key _ _⟩
end

/-- less is told -/
noncomputable def Sub (σ' σ : Sig) : Prop := σ'.own = σ.own ∧ ∀ x d, σ'.vars.lookup x = some d → σ.vars.lookup x = some d
noncomputable def HasAll (vars : List (Str × D)) : List (Str × D) → Prop
  | [] => True
  | p :: r => vars.lookup p.1 = some p.2 ∧ HasAll vars r
theorem HasAll.mem {vars : List (Str × D)} : ∀ {l : List (Str × D)}, HasAll vars l → ∀ p ∈ l, vars.lookup p.1 = some p.2
  | [], _, _, hp => by cases hp
  | _ :: _, ⟨h, r⟩, p, hp => by
    rcases List.mem_cons.mp hp with rfl | hp
    · exact h
    · exact HasAll.mem r p hp
theorem Sub.of {σ' σ : Sig} (ho : σ'.own = σ.own) (h : HasAll σ.vars σ'.vars) : Sub σ' σ := ⟨ho, fun x d e => h.mem _ (lookup_mem e)⟩
theorem HasAll.rf {vars : List (Str × D)} {l : List (Str × D)} (h : (l.map fun p => vars.lookup p.1) = l.map fun p => some p.2) : HasAll vars l := by
  induction l with
  | nil => trivial
  | cons p r ih => exact ⟨(List.cons.inj h).1, ih (List.cons.inj h).2⟩
theorem Sub.rf {σ' σ : Sig} (ho : σ'.own = σ.own) (h : (σ'.vars.map fun p => σ.vars.lookup p.1) = σ'.vars.map fun p => some p.2) : Sub σ' σ := .of ho (.rf h)
theorem Sub.refl (σ : Sig) : Sub σ σ := ⟨rfl, fun _ _ e => e⟩
section
variable {K : Act} {F Φ Φ' : FMap} {σ σ' : Sig} {s : Shared} {Q : D → Sig → Prop} {R : LF → Sig → Prop} {sc : Scope} {n : Nat} {rest : List Stmt}
theorem St.sub (S : St K F Φ σ s) (h : Sub σ' σ) : St K F Φ σ' s := by
  obtain ⟨vars', own'⟩ := σ'
  refine el_0_2 (h) fun ho hv => ?_
  try clear h
  have ho' : own' = σ.own := ho
  subst ho'
  exact S.setVars fun x d e => S.vars x d (hv x d e)
theorem LX.sub {l : List Stmt} (H : LX K l R σ') (h : Sub σ' σ) : LX K l R σ := fun F Φ s S => H F Φ s (S.sub h)
theorem LA.sub {tgt : Expr} {d : D} {k : Sig → Prop} (H : LA K tgt d k σ') (h : Sub σ' σ) : LA K tgt d k σ := fun F Φ s v S r => H F Φ s v (S.sub h) r
theorem LT.sub {e : Expr} {Q : Bool → Sig → Prop} (H : LT K e Q σ') (h : Sub σ' σ) : LT K e Q σ := fun F Φ s S => H F Φ s (S.sub h)
theorem wm_lt {m N : Nat} (hm : m ≤ N) (h1 : N - m < N) : m - 1 < m ∧ m - 1 ≤ N ∧ N - (m - 1) = N - m + 1 := by (first | lia | omega)
theorem LX_whileT {test : Expr} {body : List Stmt} {pos : Pos} (N : Nat) (inv : Nat → Sig) (h0 : Sub (inv 0) σ)
    (turn : ∀ i, i ≤ N → LT K test (fun b σ₁ => if b then LX K body (fun f σ₂ => match f with
      | .next | .cont => i < N ∧ Sub (inv (i + 1)) σ₂
      | .brk => LX K rest R σ₂
      | .ret d => R (.ret d) σ₂) σ₁ else LX K rest R σ₁) (inv i)) : LX K (.While test body [] pos :: rest) R σ :=
  LX_cons (LS_while (fun m σ' => m ≤ N ∧ Sub (inv (N - m)) σ') N ⟨Nat.le_refl _, by rw [Nat.sub_self]; exact h0⟩ fun m σ' zq => by
    with_reducible refine el_0_2 (zq) fun hm hs => ?_
    try clear zq
    refine LT.sub ((turn (N - m) (by (first | lia | omega))).mono fun b σ₁ hb => ?_) hs
    cases b with
    | false => exact hb
    | true =>
      rw [if_pos rfl] at hb ⊢
      refine hb.mono fun f σ₂ hf => ?_
      cases f with
      | next =>
        with_reducible refine el_0_2 (hf) fun h1 h2 => ?_
        try clear hf
        (with_reducible refine el_0_3 (wm_lt hm h1) fun w1 w2 w3 => ?_); exact ⟨m - 1, w1, w2, by rw [w3]; exact h2⟩
      | cont =>
        with_reducible refine el_0_2 (hf) fun h1 h2 => ?_
        try clear hf
        (with_reducible refine el_0_3 (wm_lt hm h1) fun w1 w2 w3 => ?_); exact ⟨m - 1, w1, w2, by rw [w3]; exact h2⟩
      | brk => exact hf
      | ret e => exact hf)
end

/-! ## a comprehension that runs through two things -/
section
variable {K : Act} {F Φ Φ' : FMap} {σ : Sig} {s : Shared} {Q : D → Sig → Prop} {R : LF → Sig → Prop} {sc : Scope} {n : Nat}
/-- a tree that stores -/
noncomputable def LB (K : Act) (B : Sem Unit) (k : Sig → Prop) (σ : Sig) : Prop := ∀ F Φ s, St K F Φ σ s → wpAny K.M K.A B (PA K F Φ k) NoE s
noncomputable def dcTurn (e : Expr) (depth : Nat) (tgt : Expr) (ipos : Pos) (B : Sem Unit) (it acc : Value) (env : Env) : Sem Fin := do
  standAt ipos
  match ← pyNext it with
  | none => pure (.done .next)
  | some v =>
    letOwnedTupleGo tgt it v
    assign tgt env v
    B
    again (.compLoop e depth it acc env)
theorem dc_loop {kx vx : Expr} {gens : List Comprehension} {scope : Scope} {pos ipos : Pos} {depth : Nat} {tgt : Expr} {B : Sem Unit} {I : Addr} {acc : Value} {wr : List Addr} {W : Nat → Heap → Prop} {ds : List D} {RR : Result → Shared → Prop}
    (hturn : compTurn (.DictComp kx vx gens scope pos) depth (.ref I) acc K.env = dcTurn (.DictComp kx vx gens scope pos) depth tgt ipos B (.ref I) acc K.env)
    (S₂ : St K F Φ σ s) (w : It K tgt I wr Φ ds W) (hW : W 0 s.heap) (hoff₀ : ∀ b ∈ wr, Φ b = none ∧ F b = none ∧ b ∉ K.muts σ ∧ ∀ t ∈ K.G.tabs, t.tab ≠ b)
    (J : List D → Sig → Prop) (hJ0 : J [] σ) (turn : ∀ pre d post σ₂, ds = pre ++ d :: post → J pre σ₂ → LA K tgt d (fun σ₃ => LB K B (fun σ₄ => J (pre ++ [d]) σ₄) σ₃) σ₂)
    (hend : ∀ s' Φ' σ', St K F Φ' σ' s' → FGrow F Φ Φ' → (∀ b ∈ wr, Φ' b = none ∧ b ∉ K.muts σ') → J ds σ' → RR (.ok .next) s') :
    codeAny K.M K.A (.compLoop (.DictComp kx vx gens scope pos) depth (.ref I) acc K.env) RR s := by
  have wFF : ∀ b ∈ wr, F b = none := fun b hb => (hoff₀ b hb).2.1
  refine codeAny_loop rfl (fun k s' => ∃ i Φ' σ', St K F Φ' σ' s' ∧ FGrow F Φ Φ' ∧ W i s'.heap ∧ J (ds.take i) σ' ∧ i ≤ ds.length ∧ k = ds.length + 1 - i ∧ (∀ b ∈ wr, Φ' b = none ∧ F b = none ∧ b ∉ K.muts σ' ∧ ∀ t ∈ K.G.tabs, t.tab ≠ b))
    (fun k s' zq => ?_) (ds.length + 1) ⟨0, Φ, σ, S₂, .refl .., hW, by simpa using hJ0, Nat.zero_le _, rfl, hoff₀⟩; (with_reducible refine el_3_7 (zq) fun i Φ' σ' S' g' st hj hi hk hoff => ?_); try clear zq
  show wpAny _ K.A ((compTurn (.DictComp kx vx gens scope pos) depth (.ref I) acc K.env).onRaise (fun x => do noteFrame x K.env; theTreesLotGoes x)) _ _ s'
  refine wpAny_noted ?_
  rw [hturn]
  unfold dcTurn
  refine wpAny_bind (wpAny_standAt (wpAny_bind ?_))
  have fΨ : FIn Φ s'.heap := fun a o e => S'.gs.sub _ _ (g'.1 _ _ e)
  cases hd : ds[i]? with
  | none =>
    have hi' : i = ds.length := by
      exact Nat.le_antisymm hi (List.getElem?_eq_none_iff.mp hd)
    subst hi'
    refine wpAny_mono (w.done s' st fΨ) (fun r s'' zq => ?_) fun _ _ x => x.elim; (with_reducible refine el_0_2 (zq) fun hr oq156 => ?_); try clear zq; obtain ⟨h', tk, hs', hk'⟩ := oq156
    subst hr; subst hs'
    refine el_1_4 (S'.turn (h' := h') (tk := tk) hoff (w.there _ _ st) g'.1 hk' (FLe.refl _) (fun a o e => .inl e)) fun Φ₃ S₃ g₃ _ off3 => ?_
    rw [List.take_length] at hj
    exact wpAny_pure (hend _ Φ₃ σ' S₃ (g'.trans g₃) (fun b hb => ⟨off3 b hb, (hoff b hb).2.2.1⟩) hj)
  | some d =>
    have hlt : i < ds.length := (List.getElem?_eq_some_iff.mp hd).1
    refine wpAny_mono (w.item i d s' hd st fΨ) (fun r s₃ h₃ => ?_) fun _ _ x => x.elim
    cases r with
    | none => exact h₃.elim
    | some v =>
      refine wpAny_bind (wpAny_mono h₃ (fun _ s₄ zq => ?_) fun _ _ x => x.elim); (with_reducible refine el_3_6 (zq) fun h' tk Ψ' hs' st' hk' hle hn hr => ?_); try clear zq
      subst hs'
      refine el_1_4 (S'.turn (h' := h') (tk := tk) hoff (w.there _ _ st) g'.1 hk' hle hn) fun Φ₄ S₄ g₄ le4 off4 => ?_
      have S₅ := S₄.over (wr := wr) fun b hb => ⟨off4 b hb, (hoff b hb).2⟩
      have hsplit : ds = ds.take i ++ d :: ds.drop (i + 1) := by
        have e1 := List.take_append_drop i ds
        rw [List.drop_eq_getElem_cons hlt] at e1
        have e2 : ds[i] = d := by have := List.getElem?_eq_getElem hlt; rw [this] at hd; exact Option.some.inj hd
        rw [e2] at e1; exact e1.symm
      refine wpAny_bind (wpAny_mono (turn (ds.take i) d _ σ' hsplit hj (F.over wr h') Φ₄ _ v S₅ (hr.mono le4)) (fun _ s₆ zq => ?_) fun _ _ x => x.elim); obtain ⟨Φ₆, σ₆, S₆, g₆, hx⟩ := zq
      refine wpAny_bind (wpAny_mono (hx _ _ _ S₆) (fun _ s₇ zq => ?_) fun _ _ x => x.elim); obtain ⟨Φ₇, σ₇, S₇, g₇, hj'⟩ := zq
      have gB : FGrow F Φ Φ₇ := (g'.trans g₄).trans ((g₆.trans g₇).under wFF)
      have SB := S₇.under wFF S'.fcs
      have tk1 : ds.take (i + 1) = ds.take i ++ [d] := by rw [List.take_add_one, hd]; rfl
      have there7 : ∀ b ∈ wr, ∀ o, h'.get? b = some o → s₇.heap.get? b = some o := fun b hb o e => S₇.keep b o (by rw [over_on hb]; exact e)
      refine wpAny_pure ⟨rfl, ds.length + 1 - (i + 1), fuel_lt hk hlt, i + 1, Φ₇, σ₇, SB, gB, w.frame _ _ _ st' (fun a o e => S₄.gs.sub _ _ (g₄.1 _ _ (g'.1 _ _ e))) there7 (fun a o e => SB.gs.sub _ _ (gB.1 _ _ e)), by rw [tk1]; exact hj', hlt, rfl, fun b hb => ⟨?_, wFF b hb, fun hm => ?_, (hoff b hb).2.2.2⟩⟩
      · with_reducible refine el_1_1 (w.there _ _ st' b hb) fun o e => ?_
        cases z : Φ₇ b with
        | none => rfl
        | some o' =>
          rcases (g₆.trans g₇).2 b o' z with x | x
          · rw [off4 b hb] at x; cases x
          · rw [over_on hb, e] at x; cases x
      · have := (S₇.mu b hm).2.1
        with_reducible refine el_1_1 (w.there _ _ st' b hb) fun o e => ?_
        rw [over_on hb, e] at this; cases this

noncomputable def dcIn (e : Expr) (d : Nat) (iter : Expr) (acc : Value) (env : Env) : Sem Unit := do
  let x ← eval iter env
  standAt iter.pos
  let x ← foldedSetIterable iter env x
  let _ ← runOwn (.compStart e d (← holding [x] (pyIter x)) acc env) env
noncomputable def dcPut (kx vx : Expr) (D : Addr) (env : Env) : Sem Unit := do
  let kv ← eval kx env
  let vv ← holding [kv] (eval vx env)
  standAt { kx.pos with endLine := vx.pos.endLine, endCol := vx.pos.endCol }
  holding [kv, vv] (dictSet D kv vv)
noncomputable def dcTurn0 (e : Expr) (t₁ i₁ i₂ : Expr) (it acc : Value) (env : Env) : Sem Fin := do
  standAt i₁.pos
  match ← pyNext it with
  | none => pure (.done .next)
  | some v =>
    letOwnedTupleGo t₁ it v
    assign t₁ env v
    let x ← eval i₂ env
    standAt i₂.pos
    let x ← foldedSetIterable i₂ env x
    let _ ← runOwn (.compStart e 1 (← holding [x] (pyIter x)) acc env) env
    again (.compLoop e 0 it acc env)
noncomputable abbrev dcE (kx vx t₁ i₁ t₂ i₂ : Expr) (scope : Scope) (pos : Pos) : Expr := .DictComp kx vx [⟨t₁, i₁, [], 0⟩, ⟨t₂, i₂, [], 0⟩] scope pos
theorem dc_turn0 (kx vx t₁ i₁ t₂ i₂ : Expr) (scope : Scope) (pos : Pos) (it acc : Value) (env : Env) :
    compTurn (dcE kx vx t₁ i₁ t₂ i₂ scope pos) 0 it acc env = dcTurn (dcE kx vx t₁ i₁ t₂ i₂ scope pos) 0 t₁ i₁.pos (dcIn (dcE kx vx t₁ i₁ t₂ i₂ scope pos) 1 i₂ acc env) it acc env := by
  have e : compTurn (dcE kx vx t₁ i₁ t₂ i₂ scope pos) 0 it acc env = dcTurn0 (dcE kx vx t₁ i₁ t₂ i₂ scope pos) t₁ i₁ i₂ it acc env := by rfl
  rw [e]
  unfold dcTurn0 dcTurn dcIn
  refine congrArg (standAt i₁.pos >>= ·) (funext fun _ => congrArg (pyNext it >>= ·) (funext fun r => ?_))
  cases r with
  | none => rfl
  | some v => simp only [bind_assoc, pure_bind]
theorem dc_turn1 (kx vx t₁ i₁ t₂ i₂ : Expr) (scope : Scope) (pos : Pos) (it : Value) (D : Addr) (env : Env) :
    compTurn (dcE kx vx t₁ i₁ t₂ i₂ scope pos) 1 it (.ref D) env = dcTurn (dcE kx vx t₁ i₁ t₂ i₂ scope pos) 1 t₂ i₂.pos (dcPut kx vx D env) it (.ref D) env := by rfl
theorem LB_put {kx vx : Expr} {D : Addr} {k : Sig → Prop} (h : LE K kx (fun d₁ σ₁ => ∃ i, d₁ = .int i ∧ LE K vx (fun d₂ σ₂ => ∃ j l, σ₂.own[j]? = some (D, .dict l) ∧ l.length ≤ sizeLine ∧ k (σ₂.put j D (.dict (stD l i d₂)))) σ₁) σ) : LB K (dcPut kx vx D K.env) k σ :=
  fun F Φ s S => by
    unfold dcPut
    refine wpAny_bind (h.use S fun kv s₁ Φ₁ d₁ σ₁ S₁ g₁ r₁ zq => ?_); (with_reducible refine el_1_2 (zq) fun i hi h₁ => ?_); try clear zq
    subst hi
    refine wpAny_bind (wpAny_holding (h₁.use S₁ fun vv s₂ Φ₂ d₂ σ₂ S₂ g₂ r₂ zq => ?_)); (with_reducible refine el_2_3 (zq) fun j l hj hl hk => ?_); try clear zq
    refine wpAny_bind (wpAny_standAt (wpAny_holding ?_))
    with_reducible refine el_1_1 (r₁.i) fun t oq157 => ?_
    obtain rfl := oq157
    have ho := S₂.own _ (List.mem_of_getElem? hj)
    with_reducible refine el_2_4 (own_dictAt K.G.prog K.G.w ho) fun vks n hm hkk hr hs => ?_
    have hlen : vks.length = l.length := by have := congrArg List.length hkk; simpa using this
    refine wpAny_dictSet_pairs (int_is K.G.prog K.G.w _ _) hm.dictOf (fun h' hd' hsb => ?_) (by (first | lia | omega))
    with_reducible refine el_0_2 (stD_rel (k := i) r₂ hkk hr) fun e1 e2 => ?_
    exact ⟨_, _, S₂.setOwn hj hsb.extBut (own_of_dictOf hd' e1 e2 (beq_eq_false_iff_ne.mp hs)), g₁.trans g₂, hk⟩
theorem codeAny_dcStart1 {kx vx t₁ i₁ t₂ i₂ : Expr} {scope : Scope} {pos : Pos} {it acc : Value} {env : Env} {RR : Result → Shared → Prop} {prog : Program} {w : World} {A : Around}
    (h0 : codeAny (model prog w) A (.compLoop (dcE kx vx t₁ i₁ t₂ i₂ scope pos) 1 it acc env) RR s)
    (h : wpAny (model prog w) A (pyIter it) (fun it' s' => codeAny (model prog w) A (.compLoop (dcE kx vx t₁ i₁ t₂ i₂ scope pos) 1 it' acc env) RR s') NoE s) :
    codeAny (model prog w) A (.compStart (dcE kx vx t₁ i₁ t₂ i₂ scope pos) 1 it acc env) RR s := by
  refine codeAny_of_tree ?_
  show wpAny _ A ((compStart (dcE kx vx t₁ i₁ t₂ i₂ scope pos) 1 it acc env).onRaise (fun x => do noteFrame x env; standAt theWindowsPlace)) _ _ s
  refine wpAny_notedAt ?_
  unfold compStart
  show wpAny _ A (ask >>= _) _ _ s
  refine wpAny_bind (wpAny_askSetting (wpAny_ite ?_))
  split
  · first
      | exact wpAny_bind (wpAny_pure (wpAny_pure (And.intro rfl h0)))
      | exact wpAny_pure (And.intro rfl h0)
  · first
      | exact wpAny_bind (wpAny_rule (wpAny_bind (wpAny_standAt (wpAny_bind (wpAny_mono h (fun it' s' h' => wpAny_pure (And.intro rfl h')) fun _ _ x => x.elim)))))
      | (refine wpAny_bind (wpAny_rule ?_); show wpAny _ _ (standAt i₂.pos >>= _) _ _ s; exact wpAny_bind (wpAny_standAt (wpAny_bind (wpAny_mono h (fun it' s' h' => wpAny_pure (And.intro rfl h')) fun _ _ x => x.elim))))
/-- the inner run -/
theorem LB_inner {kx vx t₁ i₁ t₂ i₂ : Expr} {scope : Scope} {pos : Pos} {B : Addr} {k : Sig → Prop}
    (h : LI K t₂ i₂ (fun ds σ₁ => ∃ J : List D → Sig → Prop, J [] σ₁ ∧ (∀ pre d post σ₂, ds = pre ++ d :: post → J pre σ₂ → LA K t₂ d (fun σ₃ => LB K (dcPut kx vx B K.env) (fun σ₄ => J (pre ++ [d]) σ₄) σ₃) σ₂) ∧ ∀ σ₂, J ds σ₂ → k σ₂) σ)
    (hs : ∀ x, foldedSetIterable i₂ K.env x = pure x := by intro _; rfl) : LB K (dcIn (dcE kx vx t₁ i₁ t₂ i₂ scope pos) 1 i₂ (.ref B) K.env) k σ :=
  fun F Φ s S => by
    unfold dcIn
    refine wpAny_bind (wpAny_mono (h F Φ s S) (fun x s₁ h₁ => wpAny_bind (wpAny_standAt (wpAny_bind (wpAny_of_eq (hs x) ?_)))) fun _ _ x => x.elim)
    refine wpAny_bind (wpAny_holding (wpAny_mono h₁ (fun it s₂ h₂ => wpAny_bind (wpAny_runOwn ?_)) fun _ _ x => x.elim))
    obtain ⟨I, wr, W, Φ₂, σ₂, ds, S₂, g₂, A₂, J, hJ0, hturn, hend⟩ := h₂
    obtain rfl := A₂.eq
    have loop := dc_loop (RR := fun r s' => match r with | .ok f => wpAny K.M K.A (pure ()) (PA K F Φ k) NoE s' | .error e => cameBackBy K.M K.A K.env NoE e s') (dc_turn1 kx vx t₁ i₁ t₂ i₂ scope pos (.ref I) B K.env) S₂ A₂.walk A₂.at0 A₂.off J hJ0 hturn (fun s' Φ' σ' S' g' _ hj => wpAny_pure ⟨Φ', σ', S', g₂.trans g', hend _ hj⟩)
    exact codeAny_dcStart1 loop (wpAny_mono (A₂.walk.self 0 _ A₂.at0) (fun v s' zq => by (with_reducible refine el_0_2 (zq) fun h1 h2 => ?_); try clear zq; subst h1; subst h2; exact loop) fun _ _ x => x.elim)
end

section
variable {K : Act} {F Φ Φ' : FMap} {σ : Sig} {s : Shared} {Q : D → Sig → Prop} {R : LF → Sig → Prop} {sc : Scope} {n : Nat} {mg mb : Str → Option Value}
theorem St.adoptAll (S : St K F Φ σ s) : ∀ (own : List (Addr × OD)), (own.map (·.1)).Nodup → (∀ p ∈ own, Φ p.1 = none ∧ F p.1 = none ∧ p.1 ∉ K.muts σ ∧ ∀ t ∈ K.G.tabs, t.tab ≠ p.1) → (∀ p ∈ own, OwnIs Φ s.heap p.1 p.2) → St K F Φ ⟨σ.vars, own ++ σ.own⟩ s
  | [], _, _, _ => S
  | p :: r, hn, ho, hi => by
    rw [List.map_cons, List.nodup_cons] at hn
    have ih := S.adoptAll r hn.2 (fun q hq => ho q (.tail _ hq)) fun q hq => hi q (.tail _ hq)
    refine el_0_4 (ho p (.head _)) fun h1 h2 h3 h4 => ?_
    refine ih.adopt (a := p.1) (od := p.2) ⟨h1, h2, fun hm => ?_, h4⟩ (hi p (.head _))
    unfold Act.muts at hm h3
    simp only [List.mem_cons, List.mem_append, List.map_append] at hm h3
    rcases hm with h | h | h | h
    · exact h3 (.inl h)
    · exact h3 (.inr (.inl h))
    · exact hn.1 h
    · exact h3 (.inr (.inr h))
theorem dc_enter {kx vx t₁ i₁ t₂ i₂ : Expr} {scope : Scope} {pos : Pos} {it : Value} {I : Addr} {wr : List Addr} {W : Nat → Heap → Prop} {ds : List D} {P : Addr → List (Addr × OD) → Prop} {RR : Value → Addr → Result → Shared → Prop}
    (hK : KF K sc n) (gr : Grd K.G mg mb) (S : St K F Φ σ s) (A₂ : ItAt K F Φ σ t₁ it ds s I wr W) (hok : compOk scope sc σ.vars = true) (hkd : scope.kind = .function)
    (hturn : ∀ K', CompK K' K scope sc n → ∀ B, ∃ J : List D → Sig → Prop, J [] ⟨capOf scope.names σ.vars, [(B, .dict [])]⟩ ∧ (∀ pre d post σ₂, ds = pre ++ d :: post → J pre σ₂ → LA K' t₁ d (fun σ₃ => LB K' (dcIn (dcE kx vx t₁ i₁ t₂ i₂ scope pos) 1 i₂ (.ref B) K'.env) (fun σ₄ => J (pre ++ [d]) σ₄) σ₃) σ₂) ∧ ∀ σ₂, J ds σ₂ → P B σ₂.own)
    (hRR : ∀ B C s' Φ' own', P B own' → (∃ m, s'.heap.Ns C m) → (∀ h'', Heap.SameBut C s'.heap h'' → St K F Φ' ⟨σ.vars, own' ++ σ.own⟩ { s' with heap := h'' }) → FGrow F Φ Φ' → (Φ' C = none ∧ F C = none ∧ C ∉ K.muts ⟨σ.vars, own' ++ σ.own⟩ ∧ ∀ t ∈ K.G.tabs, t.tab ≠ C) → RR (.ref B) C (.ok .next) s') :
    wpAny K.M K.A newDict (fun acc s₃ => wpAny K.M K.A (newFunctionEnv scope K.env.globals (clOf K.env.cells scope.names []) [] K.env.qual none .none (some K.env)) (fun cenv s₄ =>
      codeAny K.M K.A (.compStart (dcE kx vx t₁ i₁ t₂ i₂ scope pos) 0 it acc { cenv with scope := relabel scope K.env }) (RR acc cenv.locals) s₄) NoE s₃) NoE s := by
  obtain rfl := A₂.eq
  refine wpAny_newObj_type (wpAny_newEnv ?_)
  rw [List.forIn_nil]
  refine wpAny_pure ?_
  dsimp only
  generalize hH : s.heap.push { cls := .type "dict", dict := none, data := .dict (#[] : Array DictEntry) } = H
  have hBn : s.heap.get? s.heap.objs.size = none := get?_size s.heap (Nat.le_refl _)
  have kH : ∀ b o, s.heap.get? b = some o → H.get? b = some o := fun b o e => by rw [← hH]; exact Heap.get?_push_of_some _ e
  have hB : H.get? s.heap.objs.size = some { cls := .type "dict", dict := none, data := .dict (#[] : Array DictEntry) } := by rw [← hH]; exact Heap.get?_push_size _ rfl
  have hsz : H.objs.size = s.heap.objs.size + 1 := by rw [← hH, Heap.size_push]
  have hCn : s.heap.get? H.objs.size = none := get?_size s.heap (by (first | lia | omega))
  let K' : Act := { G := K.G, A := K.A, env := { newEnv scope H.objs.size K.env.globals (cellsFrom (H.objs.size + 1) scope.names (clOf K.env.cells scope.names [])) K.env.qual none .none (some K.env) builtinsNs with scope := relabel scope K.env },
                    mc := cellsFrom (H.objs.size + 1) scope.names [], fc := (clOf K.env.cells scope.names []).map (·.2) }
  have S₃ : St K F Φ σ { s with heap := H, toks := s.toks } := S.ext kH
  have hkind : (relabelS scope sc).kind = .function := hkd
  have kf : KF K' (relabelS scope sc) n := ⟨relabel_eq hK scope, hkind, hK.glob, hK.blt, hK.hd, hK.depth, hK.units⟩
  have hfcI : ∀ c ∈ K'.fc, ∃ x, (x, .free) ∈ scope.names ∧ K.env.cells.lookup x = some c ∧ (∃ o, s.heap.get? c = some o) ∧ (c ∈ K.muts σ ∨ c ∈ K.fc) := fun c hc => by
    with_reducible refine el_1_2 (List.mem_map.mp hc) fun q hq oq158 => ?_
    obtain rfl := oq158
    rcases clOf_mem _ _ hq with h | ⟨hf, he⟩
    · cases h
    · obtain ⟨c, d, v, h1, ⟨o, h2, _⟩, _, _, h3, _⟩ := S.captured hK hok hf
      rw [h1] at he
      have he' : q.2 = c := he
      rw [he']
      exact ⟨q.1, hf, h1, ⟨o, h2⟩, h3⟩
  have hfcW : ∀ c ∈ K'.fc, c ∉ wr ∧ (∀ t ∈ K.G.tabs, t.tab ≠ c) ∧ ∃ o, s.heap.get? c = some o := fun c hc => by
    with_reducible refine el_1_4 (hfcI c hc) fun x _ _ ho hm => ?_
    refine ⟨fun hw => ?_, fun t ht hq => ?_, ho⟩
    · rcases hm with hm | hm
      · exact (A₂.off c hw).2.2.1 hm
      · with_reducible refine el_1_1 (S.fcs c hm) fun o e => ?_
        rw [(A₂.off c hw).2.1] at e; cases e
    · rcases hm with hm | hm
      · exact (S.mu c hm).2.2.2 t ht hq
      · with_reducible refine el_1_1 (S.fcs c hm) fun o e => ?_
        rw [← hq, S.tabF t ht] at e; cases e
  have SF : St K' (Fof K.G H) Φ ⟨[], []⟩ { s with heap := pushCells (H.push { cls := .type (if (some K.env).isSome then "dict" else "frame"), data := .dict #[] }) scope.names, toks := s.toks } :=
    St.frame (s := { s with heap := H, toks := s.toks }) (K := K') S₃.gs (Fof_in K.G H) (fun t ht => Fof_tab K.G H ht) rfl rfl rfl (fun c hc => by
      with_reducible refine el_0_3 (hfcW c hc) fun _ h2 oq159 => ?_
      obtain ⟨o, h3⟩ := oq159
      exact ⟨o, Fof_some (kH _ _ h3) h2⟩) rfl rfl
  have inH : ∀ b o, H.get? b = some o → (∀ t ∈ K.G.tabs, t.tab ≠ b) → b ∉ K'.muts ⟨[], []⟩ := fun b o e ht hm => by
    have := (SF.mu b hm).2.1
    rw [Fof_some e ht] at this; cases this
  have hBo := muts_lt S hBn
  have hCo := muts_lt S hCn
  let F₁ : FMap := (Fof K.G s.heap).less wr
  have S₁ : St K' F₁ Φ ⟨[], []⟩ _ := SF.weakF (F' := F₁) (fun a o e => by
    by_cases hw : a ∈ wr
    · rw [show F₁ a = none from less_on hw] at e; cases e
    · rw [show F₁ a = Fof K.G s.heap a from less_off hw] at e
      refine Fof_some (kH _ _ (Fof_in _ _ _ _ e)) fun t ht hq => ?_
      rw [← hq, Fof_tab K.G s.heap ht] at e; cases e) (fun c hc => by
      with_reducible refine el_0_3 (hfcW c hc) fun h1 h2 oq160 => ?_
      obtain ⟨o, h3⟩ := oq160
      exact ⟨o, (less_off h1).trans (Fof_some h3 h2)⟩)
  have hB4 : (pushCells (H.push { cls := .type (if (some K.env).isSome then "dict" else "frame"), data := .dict #[] }) scope.names).get? s.heap.objs.size = some { cls := .type "dict", dict := none, data := .dict (#[] : Array DictEntry) } :=
    pushCells_keeps _ _ _ _ (Heap.get?_push_of_some _ hB)
  have k4 : ∀ b o, s.heap.get? b = some o → (pushCells (H.push { cls := .type (if (some K.env).isSome then "dict" else "frame"), data := .dict #[] }) scope.names).get? b = some o := fun b o e => pushCells_keeps _ _ _ _ (Heap.get?_push_of_some _ (kH b o e))
  have hF1B : F₁ s.heap.objs.size = none := by
    show FMap.less _ _ _ = none
    unfold FMap.less; split
    · rfl
    · exact Fof_none hBn
  have S₅ := (S₁.adopt (a := s.heap.objs.size) (od := .dict []) ⟨hBo.1, hF1B, inH _ _ hB hBo.2.2.2, hBo.2.2.2⟩ ⟨_, #[], 0, hB4, ⟨rfl, rfl, rfl⟩, rfl, .nil, List.nodup_nil, fresh_ne gr S.gs⟩).setVars (vars := capOf scope.names σ.vars) (fun x d hx => by
    with_reducible refine el_0_2 (capOf_lookup hx) fun hf hv => ?_
    with_reducible refine el_3_6 (S.captured hK hok hf) fun c d' v h1 h2 h3 h4 _ h6 => ?_
    rw [hv] at h4; cases h4
    refine ⟨v, ?_, h3⟩
    have hlk := compOk.names hok hf
    have hcl : (clOf K.env.cells scope.names []).lookup x = some c := clOf_free h1 _ _ (.inl hf)
    have hnc : (x, NameKind.cell) ∉ scope.names := fun hm => by
      have := compOk.names hok hm
      rw [hlk] at this; cases this
    have hcells : K'.env.cells.lookup x = some c := by
      show (cellsFrom (H.objs.size + 1) scope.names (clOf K.env.cells scope.names [])).lookup x = some c
      rw [cellsFrom_none _ _ _ hnc]; exact hcl
    have hfc : c ∈ K'.fc := List.mem_map.mpr ⟨(x, c), lookup_mem hcl, rfl⟩
    refine el_1_2 (h2) fun o ho hr => ?_
    try clear h2
    have hk := relabelS_free (scope := scope) (sc := sc) hK.kind hlk
    unfold VarAt
    rcases h6 with h6 | h6
    · rw [kf.kindOf (hk.1 h6)]
      exact ⟨c, hcells, ⟨o, k4 _ _ ho, hr⟩, .inr hfc⟩
    · rw [kf.kindOf (hk.2 h6)]
      exact ⟨c, hcells, ⟨o, k4 _ _ ho, hr⟩, hfc⟩)
  have hst : ∀ x, scope.names.lookup x = some .local ∨ scope.names.lookup x = some .cell → Stores K' x := fun x hx => by
    rcases hx with hx | hx
    · exact .inl (kf.kindOf (relabelS_keep (by decide) hx))
    · with_reducible refine el_1_1 (lookup_cellsFrom (k := .cell) scope.names (H.objs.size + 1) hx) fun c hc => ?_
      refine .inr ⟨c, kf.kindOf (relabelS_keep (by decide) hx), ?_, hc⟩
      show (cellsFrom (H.objs.size + 1) scope.names (clOf K.env.cells scope.names [])).lookup x = some c
      rw [cellsFrom_append]
      have : ∀ (l m : List (Str × Addr)), l.lookup x = some c → (l ++ m).lookup x = some c := fun l m => by
        induction l with
        | nil => intro h; cases h
        | cons q r ih =>
          intro h
          rw [List.cons_append, List.lookup_cons]
          rw [List.lookup_cons] at h
          revert h
          split <;> intro h
          · exact h
          · exact ih h
      exact this _ _ hc
  have ck : CompK K' K scope sc n := ⟨rfl, rfl, kf, hst⟩
  have hoff : ∀ b ∈ wr, Φ b = none ∧ F₁ b = none ∧ b ∉ K'.muts ⟨capOf scope.names σ.vars, [(s.heap.objs.size, .dict [])]⟩ ∧ ∀ t ∈ K'.G.tabs, t.tab ≠ b := fun b hb => by
    with_reducible refine el_1_1 (A₂.walk.there 0 _ A₂.at0 b hb) fun o e => ?_
    have ho := A₂.off b hb
    refine ⟨ho.1, less_on hb, fun hm => ?_, ho.2.2.2⟩
    have hm' : b = s.heap.objs.size ∨ b ∈ K'.muts ⟨[], []⟩ := by
      unfold Act.muts at hm ⊢
      simp only [List.map_cons, List.map_nil, List.mem_cons, List.mem_append, List.not_mem_nil, or_false, List.append_nil] at hm ⊢
      rcases hm with h | h | h
      · exact .inr (.inl h)
      · exact .inr (.inr h)
      · exact .inl h
    rcases hm' with rfl | hm'
    · rw [hBn] at e; cases e
    · exact inH b o (kH _ _ e) ho.2.2.2 hm'
  have w : It K' t₁ I wr Φ ds W := ⟨A₂.walk.frame, A₂.walk.there, A₂.walk.item, A₂.walk.done, A₂.walk.self⟩
  have hW4 : W 0 (pushCells (H.push { cls := .type (if (some K.env).isSome then "dict" else "frame"), data := .dict #[] }) scope.names) :=
    A₂.walk.frame 0 _ _ A₂.at0 S.gs.sub (fun b _ o e => k4 b o e) (fun a o e => k4 a o (S.gs.sub a o e))
  with_reducible refine el_1_3 (hturn K' ck s.heap.objs.size) fun J hJ0 hJt hJe => ?_
  have loop := dc_loop (K := K') (RR := RR (.ref s.heap.objs.size) H.objs.size) (dc_turn0 kx vx t₁ i₁ t₂ i₂ scope pos (.ref I) (.ref s.heap.objs.size) K'.env) S₅ w hW4 hoff J hJ0 hJt (fun s' Φ' σ' S' g' off' hj => by
    have hCm : H.objs.size ∈ K'.muts σ' := List.mem_cons_self
    have hCmu := S'.mu _ hCm
    have hP := hJe σ' hj
    have hfr : ∀ a, a ∈ K'.muts σ' → s.heap.get? a = none := fun a ha => by
      with_reducible refine el_0_4 (S'.mu a ha) fun m1 m2 m3 m4 => ?_
      have hw : a ∉ wr := fun hw => (off' a hw).2 ha
      rw [show F₁ a = Fof K.G s.heap a from less_off hw] at m2
      cases z : s.heap.get? a with
      | none => rfl
      | some o => rw [Fof_some z m4] at m2; cases m2
    have hom : ∀ p ∈ σ'.own, p.1 ∈ K'.muts σ' := fun p hp => St.own_mem hp
    have hnd := S'.own_nodup
    have hCn2 : ∀ p ∈ σ'.own, p.1 ≠ H.objs.size := fun p hp => (S'.locals_ne_own hp).symm
    have back : ∀ h'', Heap.SameBut H.objs.size s'.heap h'' → St K F Φ' ⟨σ.vars, σ'.own ++ σ.own⟩ { s' with heap := h'' } ∧ FGrow F Φ Φ' := fun h'' hs'' => by
      have kk : ∀ b o, b ≠ H.objs.size → s'.heap.get? b = some o → h''.get? b = some o := fun b o hb e => hs''.extBut b o hb e
      have key := S.pass (Φ' := Φ') (wr := wr) (h' := h'') (tk := s'.toks) A₂.off (fun b o e hw ht => kk b o (fun hq => by rw [hq, hCn] at e; cases e) (S'.keep b o ((less_off hw).trans (Fof_some e ht))))
        (fun t ht => (S'.gs.tab t ht).1.keep (FLe.refl _) fun o e => kk _ o (hCmu.2.2.2 t ht) e) g'.1 (fun a o e => by
          rcases g'.2 a o e with x | x
          · exact .inl x
          · have hw : a ∉ wr := fun hw => by rw [(off' a hw).1] at e; cases e
            rw [show F₁ a = Fof K.G s.heap a from less_off hw] at x
            refine .inr ⟨?_, kk a o (fun hq => by rw [hq, hCmu.1] at e; cases e) (S'.gs.sub a o e)⟩
            cases z : s.heap.get? a with
            | none => rfl
            | some o' =>
              rw [Fof_some z (fun t ht hh => by have := (S'.gs.tab t ht).2; rw [hh, e] at this; cases this)] at x
              cases x)
      with_reducible refine el_2_1 (S'.gs.rest) fun h1 t1 e1 => ?_
      with_reducible refine el_2_1 (S.gs.rest) fun h2 t2 e2 => ?_
      have e : ({ s' with heap := h'' } : Shared) = { s with heap := h'', toks := s'.toks } := by rw [e1, e2]
      rw [e]
      refine ⟨key.1.adoptAll σ'.own hnd (fun p hp => ?_) (fun p hp => (S'.own p hp).keep fun o q => kk _ o (hCn2 p hp) q), key.2⟩
      with_reducible refine el_0_4 (S'.mu p.1 (hom p hp)) fun m1 m2 m3 m4 => ?_
      exact ⟨m1, (muts_lt S (hfr _ (hom p hp))).2⟩
    refine hRR _ _ s' Φ' σ'.own hP S'.ns (fun h'' hs'' => (back h'' hs'').1) (back s'.heap (.refl ..)).2 ⟨hCmu.1, hCo.2.1, fun hm => ?_, hCo.2.2.2⟩
    unfold Act.muts at hm
    simp only [List.mem_cons, List.mem_append, List.map_append] at hm
    rcases hm with h | h | h | h
    · exact hCo.2.2.1 (by unfold Act.muts; simp only [List.mem_cons, List.mem_append]; exact .inl h)
    · exact hCo.2.2.1 (by unfold Act.muts; simp only [List.mem_cons, List.mem_append]; exact .inr (.inl h))
    · with_reducible refine el_1_2 (List.mem_map.mp h) fun p hp hq => ?_
      exact hCn2 p hp hq
    · exact hCo.2.2.1 (by unfold Act.muts; simp only [List.mem_cons, List.mem_append]; exact .inr (.inr h)))
  exact codeAny_compStart_dict loop (wpAny_mono (A₂.walk.self 0 _ hW4) (fun v s' zq => by (with_reducible refine el_0_2 (zq) fun h1 h2 => ?_); try clear zq; subst h1; subst h2; exact loop) fun _ _ x => x.elim)

/-- a name takes a dict that is built by running through two things -/
theorem LS_dc {kx vx t₁ i₁ t₂ i₂ : Expr} {scope : Scope} {pos spos py : Pos} {y : Str} (hK : KF K sc n) (gr : Grd K.G mg mb) (hst : Stores K y) (hkd : scope.kind = .function) (hok : compOk scope sc σ.vars = true)
    (hsw : swapsWith (dcE kx vx t₁ i₁ t₂ i₂ scope pos) (some (.Name y py)) spos.line K.env = pure true)
    (h : LI K t₁ i₁ (fun ds σ₁ => compOk scope sc σ₁.vars = true ∧ ∃ P : Addr → List (Addr × OD) → Prop,
      (∀ K', CompK K' K scope sc n → ∀ B, ∃ J : List D → Sig → Prop, J [] ⟨capOf scope.names σ₁.vars, [(B, .dict [])]⟩ ∧ (∀ pre d post σ₂, ds = pre ++ d :: post → J pre σ₂ → LA K' t₁ d (fun σ₃ => LB K' (dcIn (dcE kx vx t₁ i₁ t₂ i₂ scope pos) 1 i₂ (.ref B) K'.env) (fun σ₄ => J (pre ++ [d]) σ₄) σ₃) σ₂) ∧ ∀ σ₂, J ds σ₂ → P B σ₂.own) ∧
      ∀ B own', P B own' → R .next (Sig.set ⟨σ₁.vars, own' ++ σ₁.own⟩ y (.raw (.ref B)))) σ)
    (hs : ∀ x, foldedSetIterable i₁ K.env x = pure x := by intro _; rfl) : LS K (.Assign [.Name y py] (dcE kx vx t₁ i₁ t₂ i₂ scope pos) spos) R σ :=
  fun F Φ s S => by
    rw [exec_Assign_Name_used _ _ _ _ hsw]
    refine wpAny_bind (wpAny_standAt (wpAny_bind ?_))
    show wpAny K.M K.A (do let _ ← comprehension (dcE kx vx t₁ i₁ t₂ i₂ scope pos) scope K.env _ newDict false (eval i₁ K.env) (some (assign (.Name y py) K.env))) _ _ s
    refine wpAny_bind (wpAny_mono (wpAny_comprehension_free (use := some (assign (.Name y py) K.env)) (Q := fun _ => PA K F Φ (R .next) ()) rfl hs (S.closure hK hok) hkd (fun p hp hl => by rw [← hl]; exact compOk.names hok hp) ?_)
      (fun _ s' ⟨Φ', σ', S', g', hr⟩ => wpAny_pure (wpAny_pure ⟨Φ', .next, σ', S', g', trivial, hr⟩)) fun _ _ e => e)
    refine wpAny_mono (h F Φ s S) (fun x s₁ h₁ => wpAny_mono h₁ (fun it s₂ h₂ => ?_) fun _ _ x => x.elim) fun _ _ x => x.elim
    obtain ⟨I, wr, W, Φ₂, σ₂, ds, S₂, g₂, A₂, hok₂, P, hturn, hq⟩ := h₂
    refine dc_enter (RR := fun acc C => compPost K.M K.A NoE (some (assign (.Name y py) K.env)) _ acc C) hK gr S₂ A₂ hok₂ hkd hturn fun B C s' Φ' own' hP hns hst' g' hC => ?_
    with_reducible refine el_1_1 (hns) fun m hm => ?_
    try clear hns
    have S₃ : St K F Φ' ⟨σ₂.vars, own' ++ σ₂.own⟩ s' := hst' s'.heap (.refl ..)
    have hoff : ∀ b ∈ [C], Φ' b = none ∧ F b = none ∧ b ∉ K.muts ⟨σ₂.vars, own' ++ σ₂.own⟩ ∧ ∀ t ∈ K.G.tabs, t.tab ≠ b := fun b hb => by rw [List.mem_singleton.mp hb]; exact hC
    have S₄ := S₃.over hoff
    show wpAny K.M K.A (assign (.Name y py) K.env (.ref B)) _ _ s'
    refine PyProof.Rows.assign_Name (wpAny_store hK.fn S₄ hst (.raw (.ref B)) fun s₅ S₅ => ?_)
    refine el_3_2 (id hm) fun o es ep e hr => ?_
    have eC : s₅.heap.get? C = some o := S₅.keep C o (by rw [over_on (List.mem_singleton.mpr rfl)]; exact e)
    have S₆ : St K F Φ' (Sig.set ⟨σ₂.vars, own' ++ σ₂.own⟩ y (.raw (.ref B))) s₅ := S₅.under (fun b hb => (hoff b hb).2.1) S₃.fcs
    refine ⟨m, ⟨o, es, ep, eC, hr⟩, fun h' hsb => ?_⟩
    refine el_1_4 (S₆.turn (wr := [C]) (h' := h') (tk := s₅.toks) hoff (fun b hb => by rw [List.mem_singleton.mp hb]; exact ⟨o, eC⟩) (FLe.refl _) (fun b o' hb e => hsb.extBut b o' (fun q => hb (List.mem_singleton.mpr q)) e) (FLe.refl _) (fun a o e => .inl e)) fun Φ₇ S₇ g₇ _ _ => ?_
    exact ⟨Φ₇, _, S₇, (g₂.trans g').trans g₇, hq B own' hP⟩
end

noncomputable def fnAt (p : Program) (i : Nat) : Arguments × List Stmt × Scope := match p.main.body[i]? with
  | some (.FunctionDef _ args body _ _ _ scope _ _ _) => (args, body, scope)
  | _ => (⟨[], [], none, [], [], none, []⟩, [], default)
theorem StoresAll.loc {K : Act} {sc : Scope} (h : StoresAll K sc) {x : Str} (hx : sc.names.lookup x = some .local) : Stores K x := h x (.inl hx)
theorem StoresAll.cel {K : Act} {sc : Scope} (h : StoresAll K sc) {x : Str} (hx : sc.names.lookup x = some .cell) : Stores K x := h x (.inr hx)
theorem go_t {b : Bool} {A B : Prop} {i : Decidable (b = true)} (hb : b = true) (h : A) : @ite Prop (b = true) i A B := by rw [if_pos hb]; exact h
theorem go_f {b : Bool} {A B : Prop} {i : Decidable (b = true)} (hb : b = false) (h : B) : @ite Prop (b = true) i A B := by rw [if_neg (by rw [hb]; decide)]; exact h
theorem withFn {P : Arguments × List Stmt × Scope → Prop} {p : Program} {i : Nat} {a : Arguments} {b : List Stmt} {c : Scope} (h : fnAt p i = (a, b, c)) (H : P (a, b, c)) : P (fnAt p i) := by rw [h]; exact H
theorem ret_is {r d : D} {σ : Sig} (h : d = r) : RetIs r (.ret d) σ := by subst h; exact .self _
theorem LE_callFn {K : Act} {sc : Scope} {n : Nat} {mg mb : Str → Option Value} {Q : D → Sig → Prop} {σ : Sig} {x : Str} {p pos : Pos} {es : List Expr} (hK : KF K sc n) (gr : Grd K.G mg mb) (hx : sc.names.lookup x = some .globalImplicit) (hd : plainName x = true)
    (fa : Addr) (hm : mg x = some (.ref fa)) (hf : IsFn K.G fa)
    (h : LEs K es (fun ds σ₁ => ∃ r m, CallOk K.G fa m ds r ∧ m ≤ n ∧ Q r σ₁) σ) (hs : (starEach es K.env).any (·.1) = false := by rfl) : LE K (.Call (.Name x p) es [] pos) Q σ :=
  LE_call hK gr hx hm hd hf (fun pos F Φ s S => h.use S fun vs s' Φ' ds σ' S' g rs ⟨r, m, hc, hmn, q⟩ => ⟨Φ', ds, σ', S', g, rs, r, fun A s Φ vs hA => hc A s Φ vs (hA.less hmn), q⟩) hs

/-- a def's contract -/
noncomputable def FnC (G : GC) (mg : Str → Option Value) (name : Str) (n : Nat) (T : List D → D → Prop) : Prop := ∃ fa, mg name = some (.ref fa) ∧ IsFn G fa ∧ ∀ ds r, T ds r → CallOk G fa n ds r
theorem LE_callC {K : Act} {sc : Scope} {n m : Nat} {mg mb : Str → Option Value} {T : List D → D → Prop} {Q : D → Sig → Prop} {σ : Sig} {x : Str} {p pos : Pos} {es : List Expr} (hC : FnC K.G mg x m T) (hmn : m ≤ n) (hK : KF K sc n) (gr : Grd K.G mg mb) (hx : sc.names.lookup x = some .globalImplicit) (hd : plainName x = true)
    (h : LEs K es (fun ds σ₁ => ∃ r, T ds r ∧ Q r σ₁) σ) (hs : (starEach es K.env).any (·.1) = false) : LE K (.Call (.Name x p) es [] pos) Q σ := by
  refine el_1_3 (hC) fun fa hm hf hc => ?_
  try clear hC
  exact LE_callFn hK gr hx hd fa hm hf (fun pos F Φ s S => h.use S fun vs s' Φ' ds σ' S' g rs ⟨r, ht, q⟩ => ⟨Φ', ds, σ', S', g, rs, r, m, hc ds r ht, hmn, q⟩) hs
theorem fnC_of {G : GC} {mg mb : Str → Option Value} {name : Str} {p : Program} {i n : Nat} {fa : Addr} {cd : Value} {T : List D → D → Prop} (gr : Grd G mg mb) (dA : DefAt G mg name (fnAt p i).1 (fnAt p i).2.1 (fnAt p i).2.2 fa cd)
    (hpar : ∀ pm cd doc, ∀ vs : List Value, vs.length = (fnAt p i).1.args.length → bindArgs (docDef name (fnAt p i).1 (fnAt p i).2.1 (fnAt p i).2.2 pm cd doc) ⟨vs, []⟩ = pure (((fnAt p i).1.args.map (·.arg)).zip vs))
    (hlen : ∀ ds r, T ds r → (fnAt p i).1.args.length = ds.length)
    (hloc : ((fnAt p i).1.args.map (·.arg)).all (fun x => (fnAt p i).2.2.names.lookup x == some .local || (fnAt p i).2.2.names.lookup x == some .cell) = true) (hk : (fnAt p i).2.2.kind = .function)
    (hbody : ∀ ds r, T ds r → ∀ K, BodyK K G (fnAt p i).2.2 n name cd → LX K (fnAt p i).2.1 (RetIs r) ⟨setAll [] ((fnAt p i).1.args.map (·.arg)) ds, []⟩)
    (hco : (fnAt p i).2.2.isCoroutine = false) (hgen : (fnAt p i).2.2.isGenerator = false) : FnC G mg name (n + 1) T := by
  have key : ∀ ds r, T ds r → FnOk G fa (n + 1) ds r := fun ds r ht =>
    callOk_intro gr dA (fun pm cd doc vs hv => hpar pm cd doc vs (by rw [hv, hlen ds r ht])) (hlen ds r ht) (fun x hx => by
      have := List.all_eq_true.mp hloc x hx
      rw [Bool.or_eq_true] at this
      exact this.imp eq_of_beq eq_of_beq) hk (fun K bk => hbody ds r ht K bk) hco hgen
  with_reducible refine el_3_2 (dA.ob) fun o pm doc ho hdata => ?_
  exact ⟨fa, dA.nm, ⟨o, _, ho, hdata⟩, fun ds r ht => (key ds r ht).2⟩

section
variable {K : Act} {F Φ Φ' : FMap} {σ σ' : Sig} {s : Shared} {Q : D → Sig → Prop} {R : LF → Sig → Prop} {sc : Scope} {n : Nat} {rest : List Stmt}
theorem LI.mono {tgt iter : Expr} {Q Q' : List D → Sig → Prop} (h : LI K tgt iter Q σ) (k : ∀ ds σ', Q ds σ' → Q' ds σ') : LI K tgt iter Q' σ :=
  fun F Φ s S => wpAny_mono (h F Φ s S) (fun x s₁ h₁ => wpAny_mono h₁ (fun it s' ⟨I, wr, W, Φ', σ', ds, S', g, A, q⟩ => ⟨I, wr, W, Φ', σ', ds, S', g, A, k _ _ q⟩) fun _ _ x => x) fun _ _ x => x
theorem LA.mono {tgt : Expr} {d : D} {k k' : Sig → Prop} (h : LA K tgt d k σ) (hk : ∀ σ', k σ' → k' σ') : LA K tgt d k' σ :=
  fun F Φ s v S r => wpAny_mono (h F Φ s v S r) (fun _ s' ⟨Φ', σ', S', g, q⟩ => ⟨Φ', σ', S', g, hk _ q⟩) fun _ _ x => x
/-- as LX_forT, with a word that stands beside the state -/
theorem LX_forP {α : Type} (enc : α → D) {tgt iter : Expr} {body : List Stmt} {pos : Pos}
    (h : LI K tgt iter (fun ds σ₁ => ∃ (xs : List α) (inv : Nat → Sig) (ok : Nat → Prop), ds = xs.map enc ∧ Sub (inv 0) σ₁ ∧ ok 0 ∧
      (∀ (i : Nat) x, xs[i]? = some x → ok i → LA K tgt (enc x) (fun σ₃ => LX K body (fun f σ₄ => match f with
        | .next | .cont => ok (i + 1) ∧ Sub (inv (i + 1)) σ₄
        | .brk => LX K rest R σ₄
        | .ret e => R (.ret e) σ₄) σ₃) (inv i)) ∧ (ok xs.length → LX K rest R (inv xs.length))) σ)
    (hs : ∀ x, foldedSetIterable iter K.env x = pure x := by intro _; rfl) : LX K (.For tgt iter body [] pos :: rest) R σ :=
  LX_cons (LS_for (fun F Φ s S => wpAny_mono (h F Φ s S) (fun x s₁ h₁ => wpAny_mono h₁ (fun it s' zq => by
    obtain ⟨I, wr, W, Φ', σ', ds, S', g, A, xs, inv, ok, hds, h0, k0, ht, he⟩ := zq
    exact ⟨I, wr, W, Φ', σ', ds, S', g, A, fun pre σ₂ => ok pre.length ∧ Sub (inv pre.length) σ₂, ⟨k0, h0⟩, fun pre d post σ₂ hsp zq => by
      with_reducible refine el_0_2 (zq) fun hok hj => ?_
      try clear zq
      have hx : xs[pre.length]? = some (xs[pre.length]'(by
          have := congrArg List.length hsp
          rw [hds, List.length_map] at this; simp at this; (first | lia | omega))) := List.getElem?_eq_getElem _
      have hd : enc (xs[pre.length]'(by
          have := congrArg List.length hsp
          rw [hds, List.length_map] at this; simp at this; (first | lia | omega))) = d := by
        have e1 : (xs.map enc)[pre.length]? = some d := by rw [← hds, hsp]; simp
        rw [List.getElem?_map, hx] at e1
        exact Option.some.inj e1
      have := ht pre.length _ hx hok
      rw [hd] at this
      refine LA.sub (fun F Φ s v S r => wpAny_mono (this F Φ s v S r) (fun _ s₂ ⟨Φ₂, σ₃, S₂, g₂, hb⟩ => ⟨Φ₂, σ₃, S₂, g₂, LX.mono hb fun f σ₄ hf => ?_⟩) fun _ _ x => x.elim) hj
      cases f with
      | next => simpa using hf
      | cont => simpa using hf
      | brk => exact hf
      | ret e => exact hf, fun σ₂ zq => by
      with_reducible refine el_0_2 (zq) fun hok hj => ?_
      try clear zq
      have : ds.length = xs.length := by rw [hds, List.length_map]
      have hj' : Sub (inv ds.length) σ₂ := hj
      have hok' : ok ds.length := hok
      rw [this] at hj' hok'
      exact (he hok').sub hj'⟩) fun _ _ x => x.elim) fun _ _ x => x.elim) hs)
/-- a loop over data of one kind; `inv i` is what stands ahead of turn i -/
theorem LX_forT {α : Type} (enc : α → D) {tgt iter : Expr} {body : List Stmt} {pos : Pos}
    (h : LI K tgt iter (fun ds σ₁ => ∃ (xs : List α) (inv : Nat → Sig), ds = xs.map enc ∧ Sub (inv 0) σ₁ ∧
      (∀ (i : Nat) x, xs[i]? = some x → LA K tgt (enc x) (fun σ₃ => LX K body (fun f σ₄ => match f with
        | .next | .cont => Sub (inv (i + 1)) σ₄
        | .brk => LX K rest R σ₄
        | .ret e => R (.ret e) σ₄) σ₃) (inv i)) ∧ LX K rest R (inv xs.length)) σ)
    (hs : ∀ x, foldedSetIterable iter K.env x = pure x := by intro _; rfl) : LX K (.For tgt iter body [] pos :: rest) R σ :=
  LX_forP enc (h.mono fun ds σ₁ zz => el_2_4 zz fun xs inv hds h0 ht he => ⟨xs, inv, fun _ => True, hds, h0, trivial, fun i x hx _ => (ht i x hx).mono fun σ₃ hb => hb.mono fun f σ₄ hf => by
    cases f with
    | next => exact ⟨trivial, hf⟩
    | cont => exact ⟨trivial, hf⟩
    | brk => exact hf
    | ret e => exact hf, fun _ => he⟩) hs
end

/-! ### dicts of ints to ints -/
noncomputable abbrev II := List (Int × Int)
noncomputable def encI (l : II) : List (Int × D) := l.map fun p => (p.1, .int p.2)
noncomputable def stI (l : II) (k v : Int) : II := if l.any (fun kv => kv.1 = k) then l.map (fun kv => if kv.1 = k then (kv.1, v) else kv) else l ++ [(k, v)]
noncomputable def getI (l : II) (k : Int) : Option Int := (l.find? fun kv => kv.1 = k).map (·.2)
theorem encI_st (l : II) (k v : Int) : stD (encI l) k (.int v) = encI (stI l k v) := by
  unfold stD stI encI
  rw [List.any_map]
  have : ((fun kv : Int × D => decide (kv.1 = k)) ∘ fun p : Int × Int => (p.1, D.int p.2)) = fun p => decide (p.1 = k) := rfl
  rw [this]
  split
  · rw [List.map_map, List.map_map]
    apply List.map_congr_left
    intro p _
    simp only [Function.comp]
    split <;> rfl
  · simp
theorem encI_get (l : II) (k : Int) : valD (encI l) k = (getI l k).map .int := by
  unfold valD getI encI
  rw [List.find?_map]
  have : ((fun kv : Int × D => decide (kv.1 = k)) ∘ fun p : Int × Int => (p.1, D.int p.2)) = fun p => decide (p.1 = k) := rfl
  rw [this]
  cases l.find? fun p => decide (p.1 = k) <;> rfl
theorem encI_length (l : II) : (encI l).length = l.length := by unfold encI; simp
theorem stI_length (l : II) (k v : Int) : (stI l k v).length ≤ l.length + 1 := by unfold stI; split <;> simp
theorem take_foldl {α β : Type} (f : β → α → β) (b : β) (l : List α) {i : Nat} {x : α} (h : l[i]? = some x) : (l.take (i + 1)).foldl f b = f ((l.take i).foldl f b) x := by
  rw [List.take_add_one, h, List.foldl_append]; rfl
theorem pairs_enc (l : II) : pairsD (encI l) = l.map fun p => .tup [.int p.1, .int p.2] := by unfold pairsD encI; rw [List.map_map]; rfl
theorem vals_enc (l : II) : (encI l).map (·.2) = (l.map (·.2)).map .int := by unfold encI; rw [List.map_map, List.map_map]; rfl

/-- an entry of pstats -/
structure Ent where
  cc : Int
  nc : Int
  tt : Int
  ct : Int
  cs : II
noncomputable def encF (e : Ent) : D := .tup [.int e.cc, .int e.nc, .int e.tt, .int e.ct, .dict (encI e.cs)]
noncomputable def sumV (l : II) : Int := (l.map (·.2)).sum
/-- what the defs of pstats do -/
noncomputable def cpI (t : II) : II := t.foldl (fun acc p => stI acc p.1 p.2) []
noncomputable def addStep (acc : II) (p : Int × Int) : II := match getI acc p.1 with
  | some v => stI acc p.1 (v + p.2)
  | none => stI acc p.1 p.2
theorem addStep_none {acc : II} {p : Int × Int} (h : getI acc p.1 = none) : addStep acc p = stI acc p.1 p.2 := by unfold addStep; rw [h]
theorem addStep_some {acc : II} {p : Int × Int} {v : Int} (h : getI acc p.1 = some v) : addStep acc p = stI acc p.1 (v + p.2) := by unfold addStep; rw [h]
noncomputable def addC (t s : II) : II := s.foldl addStep (cpI t)
noncomputable def addF (t s : Ent) : Ent := ⟨s.cc + t.cc, s.nc + t.nc, s.tt + t.tt, s.ct + t.ct, addC t.cs s.cs⟩
noncomputable def T_addC (ds : List D) (r : D) : Prop := ∃ t s : II, t.length ≤ 1000 ∧ s.length ≤ 1000 ∧ ds = [.dict (encI t), .dict (encI s)] ∧ r = .dict (encI (addC t s))
noncomputable def T_addF (ds : List D) (r : D) : Prop := ∃ t s : Ent, t.cs.length ≤ 1000 ∧ s.cs.length ≤ 1000 ∧ ds = [encF t, encF s] ∧ r = encF (addF t s)
noncomputable def T_count (ds : List D) (r : D) : Prop := ∃ t : II, ds = [.dict (encI t)] ∧ r = .int (sumV t)
theorem foldl_len {f : II → Int × Int → II} (hf : ∀ a p, (f a p).length ≤ a.length + 1) : ∀ (l : II) (b : II), (l.foldl f b).length ≤ b.length + l.length
  | [], b => by simp
  | p :: r, b => by
    rw [List.foldl_cons, List.length_cons]
    have := foldl_len hf r (f b p)
    have := hf b p
    (first | lia | omega)
theorem foldl_takeLen {f : II → Int × Int → II} (hf : ∀ a p, (f a p).length ≤ a.length + 1) (l : II) (b : II) (i : Nat) : ((l.take i).foldl f b).length ≤ b.length + l.length := by
  have h1 := foldl_len hf (l.take i) b
  have h2 : (l.take i).length ≤ l.length := by rw [List.length_take]; exact Nat.min_le_right ..
  (first | lia | omega)
theorem addStep_len (a : II) (p : Int × Int) : (addStep a p).length ≤ a.length + 1 := by unfold addStep; split <;> exact stI_length ..
theorem cpI_len (t : II) : (cpI t).length ≤ t.length := by
  have := foldl_len (f := fun acc p => stI acc p.1 p.2) (fun a p => stI_length ..) t []
  simpa [cpI] using this
theorem addC_len (t s : II) : (addC t s).length ≤ t.length + s.length := by
  have := foldl_len addStep_len s (cpI t)
  have := cpI_len t
  unfold addC; (first | lia | omega)

/-! ### the distance, as it is reckoned -/
noncomputable def subst (a b : Nat) : Int := if a = b then 0 else if lowerS (tx [a]) = lowerS (tx [b]) then 1 else 2
noncomputable def T_subst (ds : List D) (r : D) : Prop := ∃ a b : Nat, ds = [.str (tx [a]), .str (tx [b])] ∧ r = .int (subst a b)
noncomputable def preL : List Nat → List Nat → Nat
  | x :: a, y :: b => if x = y then preL a b + 1 else 0
  | _, _ => 0
noncomputable def mn2 (a b : Int) : Int := if b < a then b else a
structure LSt where
  d : Int
  r : Int
  row : List Int
  mn : Int
section
variable (sub : Nat → Nat → Int) (a b : List Nat)
noncomputable def levIn (c : Nat) (st : LSt) (i : Nat) : LSt :=
  let r' := mn2 (mn2 st.r (st.row.getD i 0) + 2) (st.d + sub c (a.getD i 0))
  ⟨st.row.getD i 0, r', st.row.set i r', if r' < st.mn then r' else st.mn⟩
noncomputable def levRow (c k : Nat) (row : List Int) (i : Nat) : LSt := (List.range i).foldl (levIn sub a c) ⟨(k : Int) * 2, (k : Int) * 2, row, 9223372036854775807⟩
noncomputable def rowsAt : Nat → List Int × Int
  | 0 => ((List.range a.length).map fun (i : Nat) => (2 : Int) + (i : Int) * 2, 0)
  | k + 1 => ((levRow sub a (b.getD k 0) k (rowsAt k).1 a.length).row, (levRow sub a (b.getD k 0) k (rowsAt k).1 a.length).r)
noncomputable def minAt (k : Nat) : Int := (levRow sub a (b.getD k 0) k (rowsAt sub a b k).1 a.length).mn
noncomputable def levCore (m : Int) : Int := if (List.range b.length).any (fun k => decide (minAt sub a b k > m)) then m + 1 else (rowsAt sub a b b.length).2
end
noncomputable def levMid (sub : Nat → Nat → Int) (a b : List Nat) (m : Int) : Int :=
  if a = [] ∨ b = [] then 2 * ((a.length : Int) + b.length)
  else if b.length < a.length then (if ((a.length : Int) - b.length) * 2 > m then m + 1 else levCore sub b a m)
  else (if ((b.length : Int) - a.length) * 2 > m then m + 1 else levCore sub a b m)
noncomputable def cut2 (a b : List Nat) : List Nat × List Nat :=
  let a1 := a.drop (preL a b)
  let b1 := b.drop (preL a b)
  let q := preL a1.reverse b1.reverse
  (a1.take (a1.length - q), b1.take (b1.length - q))
noncomputable def lev (sub : Nat → Nat → Int) (a b : List Nat) (m : Int) : Int := if a = b then 0 else levMid sub (cut2 a b).1 (cut2 a b).2 m
noncomputable def T_lev (ds : List D) (r : D) : Prop := ∃ (a b : List Nat) (m : Int), a.length ≤ 10 ∧ b.length ≤ 10 ∧ ds = [.str (tx a), .str (tx b), .int m] ∧ r = .int (lev subst a b m)

theorem preL_le : ∀ (a b : List Nat), preL a b ≤ a.length ∧ preL a b ≤ b.length
  | x :: a, y :: b => by
    have := preL_le a b
    unfold preL; split <;> simp <;> (first | lia | omega)
  | [], _ => by simp [preL]
  | _ :: _, [] => by simp [preL]
theorem preL_lt : ∀ (a b : List Nat) (i : Nat), i < preL a b → ∃ x, a[i]? = some x ∧ b[i]? = some x
  | x :: a, y :: b, i, h => by
    unfold preL at h
    split at h
    · rename_i e
      cases i with
      | zero => exact ⟨x, rfl, by rw [e]; rfl⟩
      | succ i => simpa using preL_lt a b i (by (first | lia | omega))
    · (first | lia | omega)
  | [], _, i, h => by simp [preL] at h
  | _ :: _, [], i, h => by simp [preL] at h
theorem preL_end : ∀ (a b : List Nat), a.length ≤ preL a b ∨ b.length ≤ preL a b ∨ ∃ x y, a[preL a b]? = some x ∧ b[preL a b]? = some y ∧ x ≠ y
  | x :: a, y :: b => by
    unfold preL
    split
    · rcases preL_end a b with h | h | h
      · left; simpa using h
      · right; left; simpa using h
      · right; right; simpa using h
    · right; right; exact ⟨x, y, rfl, rfl, by assumption⟩
  | [], _ => .inl (by simp)
  | _ :: _, [] => .inr (.inl (by simp))
section
variable {sub : Nat → Nat → Int} {a b : List Nat}
theorem levRow_succ (c k : Nat) (row : List Int) (i : Nat) : levRow sub a c k row (i + 1) = levIn sub a c (levRow sub a c k row i) i := by
  unfold levRow; rw [List.range_succ, List.foldl_append]; rfl
theorem levRow_len (c k : Nat) (row : List Int) : ∀ i, (levRow sub a c k row i).row.length = row.length
  | 0 => rfl
  | i + 1 => by rw [levRow_succ]; unfold levIn; simp [levRow_len c k row i]
theorem rowsAt_len : ∀ k, (rowsAt sub a b k).1.length = a.length
  | 0 => by simp [rowsAt]
  | k + 1 => by unfold rowsAt; rw [levRow_len, rowsAt_len k]
theorem levCore_out {m : Int} {k : Nat} (hk : k < b.length) (h : minAt sub a b k > m) : levCore sub a b m = m + 1 := by
  unfold levCore
  rw [if_pos]
  rw [List.any_eq_true]
  exact ⟨k, List.mem_range.mpr hk, by simpa using h⟩
theorem levCore_in {m : Int} (h : ∀ k, k < b.length → ¬ minAt sub a b k > m) : levCore sub a b m = (rowsAt sub a b b.length).2 := by
  unfold levCore
  rw [if_neg]
  intro q
  rw [List.any_eq_true] at q
  with_reducible refine el_1_2 (q) fun k hk e => ?_
  try clear q
  exact h k (List.mem_range.mp hk) (by simpa using e)
end

theorem drop_ne {l : List Nat} {i : Nat} (h : i < l.length) : (!(l.drop i).isEmpty) = true := by
  cases hd : l.drop i with
  | nil => have := List.length_drop (l := l) (i := i); rw [hd] at this; simp at this; (first | lia | omega)
  | cons => rfl
theorem drop_e {l : List Nat} {i : Nat} (h : l.length ≤ i) : (!(l.drop i).isEmpty) = false := by rw [List.drop_of_length_le h]; rfl
theorem take_ne {l : List Nat} {i : Nat} (h : i < l.length) : (!(l.take (l.length - i)).isEmpty) = true := by
  cases hd : l.take (l.length - i) with
  | nil => have := List.length_take (l := l) (i := l.length - i); rw [hd] at this; simp at this; (first | lia | omega)
  | cons => rfl
theorem take_e {l : List Nat} {i : Nat} (h : l.length ≤ i) : (!(l.take (l.length - i)).isEmpty) = false := by rw [show l.length - i = 0 by (first | lia | omega)]; rfl
theorem rev_get {l : List Nat} {i : Nat} {x : Nat} (h : l.reverse[i]? = some x) : l[l.length - (i + 1)]? = some x := by
  have hlt : i < l.length := by have := (List.getElem?_eq_some_iff.mp h).1; simpa using this
  rw [List.getElem?_reverse hlt] at h
  rw [show l.length - (i + 1) = l.length - 1 - i by (first | lia | omega)]; exact h
/-! ### steps for small things -/
theorem mulOk_abs {a b : Int} {m n : Nat} (ha : a.natAbs < 2 ^ m) (hb : b.natAbs < 2 ^ n) (h : m + n ≤ 134217728) : IntMulOk a b :=
  PyProof.Rows.mulOk_of_bits (intBits_le_iff.mpr ha) (intBits_le_iff.mpr hb) h
section
variable {K : Act} {F Φ Φ' : FMap} {σ σ' : Sig} {s : Shared} {Q : D → Sig → Prop} {R : LF → Sig → Prop} {sc : Scope} {n : Nat} {rest : List Stmt}
theorem LX_whileN {test : Expr} {body : List Stmt} {pos : Pos} (N : Nat) (inv : Nat → Sig) (h0 : Sub (inv 0) σ)
    (turn : ∀ i, i ≤ N → LT K test (fun b σ₁ => if b then LX K body (fun f σ₂ => match f with
      | .next | .cont => i < N ∧ Sub (inv (i + 1)) σ₂
      | .brk => False
      | .ret d => R (.ret d) σ₂) σ₁ else i = N ∧ Sub (inv N) σ₁) (inv i)) (hend : LX K rest R (inv N)) : LX K (.While test body [] pos :: rest) R σ :=
  LX_whileT N inv h0 fun i hi => (turn i hi).mono fun b σ₁ hb => by
    cases b with
    | false => rw [if_neg (by decide)] at hb ⊢; exact hend.sub hb.2
    | true =>
      rw [if_pos rfl] at hb ⊢
      exact hb.mono fun f σ₂ hf => by
        cases f with
        | next => exact hf
        | cont => exact hf
        | brk => exact hf.elim
        | ret d => exact hf
theorem bin_mulS {a b : Int} (ha : a.natAbs < 2 ^ 40) (hb : b.natAbs < 2 ^ 40) : BinIs K .Mult (.int a) (.int b) (.int (a * b)) := bin_mul (mulOk_abs ha hb (by decide))
theorem tru_txt {l : List Nat} (h : l.length ≤ 1000) : TruIs K (.str (tx l)) (!l.isEmpty) σ := by
  have := tru_str (K := K) (σ := σ) (x := tx l) (by rw [tx_length]; (first | lia | omega))
  rw [tx_length] at this
  have e : ((l.length : Int) != 0) = !l.isEmpty := by cases l <;> simp; (first | lia | omega)
  rw [e] at this; exact this
theorem sli_from {l : List Nat} {i : Nat} (h : l.length ≤ 1000) : SliIs K (.str (tx l)) (some (i : Int)) none none (.str (tx (l.drop i))) σ := by
  have := sli_str (K := K) (σ := σ) (l := l) (lo := some (i : Int)) (hi := none) (by rw [sizeLine_eq]; (first | lia | omega))
  rw [part_from] at this; exact this
theorem sli_upto {l : List Nat} {i : Nat} {x : Int} (hx : x = -(i : Int)) (h0 : i ≠ 0) (h : l.length ≤ 1000) : SliIs K (.str (tx l)) none (some x) none (.str (tx (l.take (l.length - i)))) σ := by
  have := sli_str (K := K) (σ := σ) (l := l) (lo := none) (hi := some (-(i : Int))) (by rw [sizeLine_eq]; (first | lia | omega))
  rw [part_butLast _ _ (by (first | lia | omega))] at this; rw [hx]; exact this
theorem sli_all {l : List Nat} (h : l.length ≤ 1000) : SliIs K (.str (tx l)) none none none (.str (tx l)) σ := by
  have := sli_str (K := K) (σ := σ) (l := l) (lo := none) (hi := none) (by rw [sizeLine_eq]; (first | lia | omega))
  rw [part_all] at this; exact this
theorem LP_none {Q : Option Int → Sig → Prop} (h : Q none σ) : LP K none Q σ := h
noncomputable def LPd (Q : Option Int → Sig → Prop) (d : D) (σ : Sig) : Prop := (d = .none ∧ Q none σ) ∨ ∃ i, d = .int i ∧ Q (some i) σ
theorem LP_some {e : Expr} {Q : Option Int → Sig → Prop} (h : LE K e (fun d σ' => LPd Q d σ') σ) : LP K (some e) Q σ := h
theorem LP_int {i : Int} {Q : Option Int → Sig → Prop} (h : Q (some i) σ) : LPd Q (.int i) σ := .inr ⟨i, rfl, h⟩
theorem LP_nn {Q : Option Int → Sig → Prop} (h : Q none σ) : LPd Q .none σ := .inl ⟨rfl, h⟩
theorem get_strN {l : List Nat} {i : Int} {j : Nat} {c : Nat} (hi : i = -((j + 1 : Nat) : Int)) (hjl : j < l.length) (hl : l.length ≤ 1000) (h : l[l.length - (j + 1)]? = some c) : GetIs K (.str (tx l)) (.int i) (.str (tx [c])) σ := by
  rw [hi]; exact get_str_neg (by (first | lia | omega)) (by (first | lia | omega)) (by (first | lia | omega)) h
theorem blt_lenT {l : List Nat} (h : l.length ≤ 1000) : BltIs K (.builtin "len") [.str (tx l)] (.int l.length) σ := by
  have := blt_len_str (K := K) (σ := σ) (x := tx l) (by rw [tx_length]; (first | lia | omega))
  rw [tx_length] at this; exact this
theorem LE_cutPost {x y : Str} {p1 p2 p3 p4 p5 p6 : Pos} {k : Nat} {l : List Nat} {i : Int} {j : Nat} (hK : KF K sc n) (hx : σ.vars.lookup x = some (.str (tx l))) (hy : σ.vars.lookup y = some (.int i)) (hpx : plainName x = true) (hpy : plainName y = true) (hi : i = -(j : Int)) (hl : l.length ≤ 1000)
    (h : Q (.str (tx (l.take (l.length - j)))) σ) : LE K (.Subscript (.Name x p1) (.Slice none (some (.BoolOp .Or [.Name y p2, .Constant .none k p3] p4)) none p5) p6) Q σ := by
  refine LE_slice (LE_name hK hx hpx ?_)
  refine LP_none (LP_some (LE_or (LE_name hK hy hpy ?_)))
  refine ⟨_, tru_int, ?_⟩
  by_cases h0 : j = 0
  · subst h0
    refine go_f (by rw [hi]; rfl) (LE_bool1 (LE_none (LP_nn (LP_none ⟨_, sli_all hl, ?_⟩))))
    rw [Nat.sub_zero, List.take_length] at h; exact h
  · exact go_t (by rw [hi]; simp; (first | lia | omega)) (LP_int (LP_none ⟨_, sli_upto hi h0 hl, h⟩))
theorem rints_nat (m : Nat) : rints 0 1 m = (List.range m).map fun (k : Nat) => D.int k := by
  unfold rints; exact List.map_congr_left fun i _ => by rw [Int.mul_one, Int.zero_add]
theorem range_get {m i x : Nat} (h : (List.range m)[i]? = some x) : x = i ∧ i < m := by
  have hlt : i < m := by have := (List.getElem?_eq_some_iff.mp h).1; simpa using this
  rw [List.getElem?_range hlt] at h
  exact ⟨(Option.some.inj h).symm, hlt⟩
/-- for over range(n) -/
theorem LX_forR {tgt iter : Expr} {body : List Stmt} {pos : Pos} (hK : KF K sc n)
    (h : LE K iter (fun d σ₁ => ∃ (m : Nat) (inv : Nat → Sig) (ok : Nat → Prop), d = .range 0 m 1 ∧ m ≤ 100000 ∧ Sub (inv 0) σ₁ ∧ ok 0 ∧
      (∀ (i : Nat), i < m → ok i → LA K tgt (.int i) (fun σ₃ => LX K body (fun f σ₄ => match f with
        | .next | .cont => ok (i + 1) ∧ Sub (inv (i + 1)) σ₄
        | .brk => LX K rest R σ₄
        | .ret e => R (.ret e) σ₄) σ₃) (inv i)) ∧ (ok m → LX K rest R (inv m))) σ)
    (hs : ∀ x, foldedSetIterable iter K.env x = pure x := by intro _; rfl) : LX K (.For tgt iter body [] pos :: rest) R σ :=
  LX_forP (fun (k : Nat) => D.int k) (LI_range hK (h.mono fun d σ₁ zz => el_3_6 zz fun m inv ok hd hm h0 k0 ht he => ⟨0, m, hd, by (first | lia | omega), List.range m, inv, ok, by rw [← rints_nat]; rfl, h0, k0, fun i x hx hok => by
    with_reducible refine el_0_2 (range_get hx) fun oq161 hlt => ?_
    obtain rfl := oq161
    exact ht x hlt hok, by rw [List.length_range]; exact he⟩)) hs
/-- a pair of names takes a pair: the later name first -/
theorem LS_swap {x y : Str} {p1 p2 tpos pos : Pos} {k : Nat} {value : Expr} (hK : KF K sc n) (hx : Stores K x) (hy : Stores K y) (h : LE K value (fun d σ' => ∃ d1 d2, d = .tup [d1, d2] ∧ R .next ((σ'.set y d2).set x d1)) σ)
    (hw : swappedStores [.Tuple [.Name x p1, .Name y p2] k tpos] value K.env = pure (some [x, y]))
    (hs : swapsWithSole [.Tuple [.Name x p1, .Name y p2] k tpos] value pos.line K.env = pure false := by rfl) : LS K (.Assign [.Tuple [.Name x p1, .Name y p2] k tpos] value pos) R σ :=
  fun F Φ s S => PyProof.Rows.Assign_Tuple_swapped (h.use S fun v s₁ Φ₁ d σ₁ S₁ g₁ r zq => by
    with_reducible refine el_2_2 (zq) fun d1 d2 hd hq => ?_
    try clear zq
    subst hd
    with_reducible refine el_1_1 (ref_of_tup r) fun a oq162 => ?_
    obtain rfl := oq162
    with_reducible refine el_1_2 (isTuple_of S₁.gs.sub r) fun vs ht rs => ?_
    with_reducible refine el_2_3 (rs.two) fun v1 v2 oq163 r1 r2 => ?_
    obtain rfl := oq163
    refine wpAny_unpackItems_tuple (items := #[v1, v2]) hK.hd ht fun h' hx' => ?_
    have hk : ∀ b o, s₁.heap.get? b = some o → h'.get? b = some o := fun b o e => hx' b o (Nat.ne_of_lt (Heap.lt_size e)) e
    have S₂ := S₁.ext (tk := s₁.toks) hk
    show wpAny K.M K.A (do holding [v1] (bindName K.env y v2); assignInOrder [bindName K.env x] [v1]) _ _ _
    refine wpAny_bind (wpAny_holding (PyProof.Rows.bindName_ (wpAny_store hK.fn S₂ hy r2 fun s₃ S₃ => ?_)))
    show wpAny K.M K.A (do holding [] (bindName K.env x v1); assignInOrder [] []) _ _ _
    refine wpAny_bind (wpAny_holding (PyProof.Rows.bindName_ (wpAny_store hK.fn S₃ hx r1 fun s₄ S₄ => wpAny_pure ?_)))
    exact ⟨Φ₁, .next, _, S₄, g₁, trivial, hq⟩) hs hw
end

/-! ### digits -/
noncomputable def digN (N x i : Nat) : Nat := x / 2 ^ (N * i) % 2 ^ N
noncomputable def lenN (N a : Nat) : Nat := (intBits (a : Int) + N - 1) / N
noncomputable def i2dN (N a : Nat) : List Nat := (List.range (lenN N a)).map (digN N a)
noncomputable abbrev encN (l : List Nat) : List D := l.map fun (d : Nat) => D.int d
noncomputable def putD (N : Nat) (l : List Nat) (x L k : Nat) : List Nat := (List.range k).foldl (fun l i => l.set (L + i) (digN N x i)) l
theorem foldl_same {α β : Type} {f g : β → α → β} : ∀ {l : List α} {b : β}, (∀ a ∈ l, ∀ b, f b a = g b a) → l.foldl f b = l.foldl g b
  | [], _, _ => rfl
  | a :: l, b, h => by rw [List.foldl_cons, List.foldl_cons, h a (.head _)]; exact foldl_same fun a' ha => h a' (.tail _ ha)
theorem digN_low {N x i j : Nat} (h : i < j) : digN N (x % 2 ^ (N * j)) i = digN N x i := by
  unfold digN
  have e : 2 ^ (N * j) = 2 ^ (N * i) * 2 ^ (N * (j - i)) := by rw [← Nat.pow_add, ← Nat.mul_add]; congr 2; (first | lia | omega)
  rw [e, Nat.mod_mul_right_div_self]
  have e2 : 2 ^ (N * (j - i)) = 2 ^ N * 2 ^ (N * (j - i - 1)) := by
    rw [← Nat.pow_add]; congr 1
    rw [show j - i = (j - i - 1) + 1 by (first | lia | omega), Nat.mul_succ, show j - i - 1 + 1 - 1 = j - i - 1 by (first | lia | omega)]; (first | lia | omega)
  rw [e2, Nat.mod_mul_right_mod]
theorem digN_high {N x i j : Nat} : digN N (x / 2 ^ (N * j)) i = digN N x (j + i) := by
  unfold digN
  rw [Nat.div_div_eq_div_mul, ← Nat.pow_add, ← Nat.mul_add]
theorem putD_split {N : Nat} {l : List Nat} {x L k j : Nat} (h : j ≤ k) : putD N (putD N l (x % 2 ^ (N * j)) L j) (x / 2 ^ (N * j)) (L + j) (k - j) = putD N l x L k := by
  unfold putD
  have e : List.range k = List.range j ++ (List.range (k - j)).map (j + ·) := by rw [← List.range_add]; congr 1; (first | lia | omega)
  rw [e, List.foldl_append, List.foldl_map]
  have e1 : (List.range j).foldl (fun l i => l.set (L + i) (digN N (x % 2 ^ (N * j)) i)) l = (List.range j).foldl (fun l i => l.set (L + i) (digN N x i)) l := foldl_same fun i hi b => by rw [digN_low (List.mem_range.mp hi)]
  rw [e1]
  refine foldl_same fun i hi b => ?_
  rw [digN_high, Nat.add_assoc]
theorem putD_one {N : Nat} {l : List Nat} {x L : Nat} (h : x < 2 ^ N) : putD N l x L 1 = l.set L x := by
  unfold putD digN
  simp [Nat.mod_eq_of_lt h]
theorem putD_length {N : Nat} {l : List Nat} {x L k : Nat} : (putD N l x L k).length = l.length := by
  unfold putD
  induction k with
  | zero => rfl
  | succ k ih => rw [List.range_succ, List.foldl_append]; simp [ih]
theorem putD_full {N x : Nat} {l : List Nat} : ∀ {k : Nat}, k ≤ l.length → putD N l x 0 k = (List.range k).map (digN N x) ++ l.drop k
  | 0, _ => rfl
  | k + 1, h => by
    have ih := putD_full (N := N) (x := x) (l := l) (k := k) (by (first | lia | omega))
    unfold putD at ih ⊢
    rw [List.range_succ, List.foldl_append, ih, List.map_append]
    simp only [List.foldl_cons, List.foldl_nil, Nat.zero_add, List.map_cons, List.map_nil]
    rw [List.set_append_right _ _ (by simp), List.length_map, List.length_range, Nat.sub_self]
    have : l.drop k = l[k] :: l.drop (k + 1) := List.drop_eq_getElem_cons (by (first | lia | omega))
    rw [this, List.set_cons_zero]
    simp
theorem lt_bits (a : Nat) : a < 2 ^ intBits (a : Int) := by
  have := intBits_le_iff (m := intBits (a : Int)) (x := (a : Int)) |>.mp (Nat.le_refl _)
  simpa using this
theorem lenN_ge {N a : Nat} (hN : 1 ≤ N) : intBits (a : Int) ≤ N * lenN N a := by
  unfold lenN
  have := Nat.div_add_mod (intBits (a : Int) + N - 1) N
  have := Nat.mod_lt (intBits (a : Int) + N - 1) (show N > 0 by (first | lia | omega))
  (first | lia | omega)
theorem lt_lenN {N a : Nat} (hN : 1 ≤ N) : a < 2 ^ (N * lenN N a) := Nat.lt_of_lt_of_le (lt_bits a) (Nat.pow_le_pow_right (by decide) (lenN_ge hN))
theorem i2dN_put {N a : Nat} : putD N (List.replicate (lenN N a) 0) a 0 (lenN N a) = i2dN N a := by
  rw [putD_full (by simp)]; simp [i2dN]
theorem lenN_zero {N : Nat} (hN : 1 ≤ N) : lenN N 0 = 0 := by
  unfold lenN intBits; simp; (first | lia | omega)
theorem lenN_pos {N a : Nat} (hN : 1 ≤ N) (ha : a ≠ 0) : 0 < lenN N a := by
  rcases Nat.eq_zero_or_pos (lenN N a) with h | h
  · have := lt_lenN (a := a) hN; rw [h] at this; simp at this; exact absurd this ha
  · exact h
theorem i2dN_length (N a : Nat) : (i2dN N a).length = lenN N a := by simp [i2dN]
theorem digN_lt (N x i : Nat) : digN N x i < 2 ^ N := Nat.mod_lt _ (Nat.two_pow_pos _)

/-! ### bits -/
theorem land_high (x s : Nat) : x &&& (x / 2 ^ s * 2 ^ s) = x / 2 ^ s * 2 ^ s := by
  rw [← Nat.shiftRight_eq_div_pow, ← Nat.shiftLeft_eq]
  apply Nat.eq_of_testBit_eq
  intro i
  rw [Nat.testBit_and, Nat.testBit_shiftLeft, Nat.testBit_shiftRight]
  by_cases h : s ≤ i
  · rw [show s + (i - s) = i by (first | lia | omega)]; simp [h]
  · simp [h]
theorem xor_high (x s : Nat) : Builtin.bitXor (x : Int) ((x / 2 ^ s * 2 ^ s : Nat) : Int) = ((x % 2 ^ s : Nat) : Int) := by
  rw [bitXor_and]
  have : Builtin.bitAnd (x : Int) ((x / 2 ^ s * 2 ^ s : Nat) : Int) = ((x / 2 ^ s * 2 ^ s : Nat) : Int) := by
    unfold Builtin.bitAnd
    simp only [Int.natCast_nonneg, decide_true, Int.toNat_natCast]
    rw [land_high]
  rw [this]
  have := Nat.div_add_mod x (2 ^ s)
  rw [Nat.mul_comm] at this
  (first | lia | omega)
theorem fdiv_nat (a b : Nat) : (a : Int).fdiv (b : Int) = ((a / b : Nat) : Int) := by rw [Int.fdiv_eq_ediv_of_nonneg _ (Int.natCast_nonneg b)]; rfl
theorem fmod_nat (a b : Nat) : (a : Int).fmod (b : Int) = ((a % b : Nat) : Int) := by rw [Int.fmod_eq_emod_of_nonneg _ (Int.natCast_nonneg b)]; rfl

theorem fdiv_bnot {a b : Int} (hb : 0 < b) : a.fdiv b = -((-a - 1).fdiv b) - 1 ∧ a.fmod b = b + (-((-a - 1).fmod b) - 1) := by
  have h0 : 0 ≤ b := by (first | lia | omega)
  rw [Int.fdiv_eq_ediv_of_nonneg _ h0, Int.fdiv_eq_ediv_of_nonneg _ h0, Int.fmod_eq_emod_of_nonneg _ h0, Int.fmod_eq_emod_of_nonneg _ h0]
  have e1 := Int.mul_ediv_add_emod a b
  have e2 := Int.mul_ediv_add_emod (-a - 1) b
  have r1 := Int.emod_nonneg a (show b ≠ 0 by (first | lia | omega))
  have r2 := Int.emod_lt_of_pos a hb
  have r3 := Int.emod_nonneg (-a - 1) (show b ≠ 0 by (first | lia | omega))
  have r4 := Int.emod_lt_of_pos (-a - 1) hb
  generalize a / b = q at *
  generalize a % b = r at *
  generalize (-a - 1) / b = q' at *
  generalize (-a - 1) % b = r' at *
  have key : b * (q + q' + 1) = b - 1 - r - r' := by rw [Int.mul_add, Int.mul_add]; (first | lia | omega)
  have hq : q + q' + 1 = 0 := by
    rcases Int.lt_trichotomy (q + q' + 1) 0 with h | h | h
    · have : b * (q + q' + 1) ≤ b * (-1) := Int.mul_le_mul_of_nonneg_left (by (first | lia | omega)) h0
      (first | lia | omega)
    · exact h
    · have : b * 1 ≤ b * (q + q' + 1) := Int.mul_le_mul_of_nonneg_left (by (first | lia | omega)) h0
      (first | lia | omega)
  rw [hq] at key
  exact ⟨by (first | lia | omega), by (first | lia | omega)⟩
/-! ### numbers out of digits -/
noncomputable def valN (N : Nat) : List Nat → Nat
  | [] => 0
  | d :: r => d + 2 ^ N * valN N r
theorem valN_append (N : Nat) : ∀ l m : List Nat, valN N (l ++ m) = valN N l + 2 ^ (N * l.length) * valN N m
  | [], m => by simp [valN]
  | d :: r, m => by
    rw [List.cons_append, valN, valN, valN_append N r m, List.length_cons, Nat.mul_succ, Nat.pow_add, Nat.mul_add, Nat.add_assoc, Nat.mul_comm (2 ^ (N * r.length)) (2 ^ N), Nat.mul_assoc]
theorem valN_split {N : Nat} {l : List Nat} {L k j : Nat} (h : j ≤ k) (hl : L + k ≤ l.length) : valN N ((l.drop L).take k) = valN N ((l.drop (L + j)).take (k - j)) * 2 ^ (N * j) + valN N ((l.drop L).take j) := by
  have e : (l.drop L).take k = (l.drop L).take j ++ (l.drop (L + j)).take (k - j) := by
    rw [show k = j + (k - j) by (first | lia | omega), List.take_add, List.drop_drop, show j + (k - j) - j = k - j by (first | lia | omega)]
  rw [e, valN_append, List.length_take, List.length_drop, show min j (l.length - L) = j by (first | lia | omega), Nat.add_comm, Nat.mul_comm]
theorem valN_one {N : Nat} {l : List Nat} {L : Nat} (h : L < l.length) : valN N ((l.drop L).take 1) = l[L] := by
  have : (l.drop L).take 1 = [l[L]] := by rw [List.drop_eq_getElem_cons h]; rfl
  rw [this]; simp [valN]
theorem valN_lt {N : Nat} : ∀ {l : List Nat}, (∀ d ∈ l, d < 2 ^ N) → valN N l < 2 ^ (N * l.length)
  | [], _ => by simp [valN]
  | d :: r, h => by
    have h1 := h d (.head _)
    have h2 := valN_lt (N := N) (l := r) fun d hd => h d (.tail _ hd)
    rw [valN, List.length_cons, Nat.mul_succ, Nat.pow_add, Nat.mul_comm (2 ^ (N * r.length))]
    have h3 : 2 ^ N * (valN N r + 1) ≤ 2 ^ N * 2 ^ (N * r.length) := Nat.mul_le_mul_left _ h2
    rw [Nat.mul_add] at h3
    (first | lia | omega)
theorem valN_i2d {N a : Nat} (k : Nat) : valN N ((List.range k).map (digN N a)) = a % 2 ^ (N * k) := by
  induction k with
  | zero => simp [valN, Nat.mod_one]
  | succ k ih =>
    rw [List.range_succ, List.map_append, valN_append, ih]
    simp only [List.map_cons, List.map_nil, valN, List.length_map, List.length_range, Nat.mul_zero, Nat.add_zero]
    rw [Nat.mul_succ, Nat.pow_add, Nat.mod_mul]; rfl
theorem valN_i2dN {N a : Nat} (hN : 1 ≤ N) : valN N (i2dN N a) = a := by
  unfold i2dN; rw [valN_i2d, Nat.mod_eq_of_lt (lt_lenN hN)]
theorem valN_seg {N : Nat} {l : List Nat} {L k : Nat} (h : ∀ d ∈ l, d < 2 ^ N) (hl : L + k ≤ l.length) : valN N ((l.drop L).take k) < 2 ^ (N * k) := by
  have := valN_lt (N := N) (l := (l.drop L).take k) fun d hd => h d (List.mem_of_mem_drop (List.mem_of_mem_take hd))
  rw [List.length_take, List.length_drop, show min k (l.length - L) = k by (first | lia | omega)] at this
  exact this
noncomputable def divStep (N b : Nat) (st : List Nat × Nat) (d : Nat) : List Nat × Nat := (st.1 ++ [(st.2 * 2 ^ N + d) / b], (st.2 * 2 ^ N + d) % b)
/-- the long division -/
noncomputable def divRun (N b : Nat) (ds : List Nat) : List Nat × Nat := ds.foldl (divStep N b) ([], 0)
theorem divRun_ok {N b : Nat} (hb : 0 < b) : ∀ (ds : List Nat) (st : List Nat × Nat), st.2 < b → (∀ d ∈ ds, d < 2 ^ N) → (∀ q ∈ st.1, q < 2 ^ N) →
    (ds.foldl (divStep N b) st).2 < b ∧ (∀ q ∈ (ds.foldl (divStep N b) st).1, q < 2 ^ N) ∧ (ds.foldl (divStep N b) st).1.length = st.1.length + ds.length ∧
    valN N (ds.foldl (divStep N b) st).1.reverse * b + (ds.foldl (divStep N b) st).2 = (valN N st.1.reverse * b + st.2) * 2 ^ (N * ds.length) + valN N ds.reverse := by
  intro ds
  induction ds with
  | nil => exact fun st h _ hq => ⟨h, hq, by simp, by simp [valN]⟩
  | cons d r ih =>
    intro st h hd hq
    rw [List.foldl_cons]
    have hlt : (st.2 * 2 ^ N + d) / b < 2 ^ N := by
      rw [Nat.div_lt_iff_lt_mul hb]
      have h1 : (st.2 + 1) * 2 ^ N ≤ b * 2 ^ N := Nat.mul_le_mul_right _ h
      have h2 := hd d (.head _)
      rw [Nat.add_mul] at h1
      rw [Nat.mul_comm (2 ^ N) b]
      (first | lia | omega)
    obtain ⟨a1, a2, a3, a4⟩ := ih (divStep N b st d) (Nat.mod_lt _ hb) (fun d hd' => hd d (.tail _ hd')) (fun q hq' => by
      unfold divStep at hq'
      rcases List.mem_append.mp hq' with h | h
      · exact hq q h
      · rw [List.mem_singleton.mp h]; exact hlt)
    refine ⟨a1, a2, by rw [a3]; unfold divStep; simp; (first | lia | omega), ?_⟩
    rw [a4]
    unfold divStep
    simp only [List.reverse_append, List.reverse_cons, List.reverse_nil, List.nil_append, List.singleton_append, valN, List.length_cons]
    rw [valN_append, List.length_reverse]
    simp only [valN, Nat.mul_zero, Nat.add_zero]
    have e := Nat.div_add_mod (st.2 * 2 ^ N + d) b
    rw [Nat.mul_succ, Nat.pow_add]
    generalize (st.2 * 2 ^ N + d) / b = q at e ⊢
    generalize (st.2 * 2 ^ N + d) % b = m at e ⊢
    generalize valN N st.1.reverse = v
    generalize 2 ^ (N * r.length) = P
    generalize valN N r.reverse = w
    have : (q + 2 ^ N * v) * b + m = (v * b + st.2) * 2 ^ N + d := by
      rw [Nat.add_mul, Nat.add_mul, Nat.add_assoc, Nat.add_comm (2 ^ N * v * b), ← Nat.add_assoc, Nat.mul_comm q b, e]
      rw [Nat.mul_assoc (2 ^ N), Nat.mul_comm (2 ^ N)]
      (first | lia | omega)
    rw [this, Nat.add_mul, Nat.mul_assoc, Nat.mul_comm (2 ^ N) P, Nat.add_assoc, Nat.mul_comm P d, Nat.add_comm (d * P)]
theorem divRun_eq {N a b : Nat} (hN : 1 ≤ N) (hb : 0 < b) : valN N (divRun N b (i2dN N a).reverse).1.reverse = a / b ∧ (divRun N b (i2dN N a).reverse).2 = a % b ∧ (∀ q ∈ (divRun N b (i2dN N a).reverse).1, q < 2 ^ N) ∧ (divRun N b (i2dN N a).reverse).1.length = lenN N a := by
  obtain ⟨h1, h2, h3, h4⟩ := divRun_ok (N := N) hb (i2dN N a).reverse ([], 0) hb (fun d hd => by
    rw [List.mem_reverse] at hd
    unfold i2dN at hd
    with_reducible refine el_1_2 (List.mem_map.mp hd) fun i _ oq164 => ?_
    obtain rfl := oq164
    exact digN_lt ..) (fun q hq => by cases hq)
  rw [List.reverse_reverse, valN_i2dN hN] at h4
  simp only [List.reverse_nil, valN, Nat.zero_mul, Nat.zero_add] at h4
  have h5 : (divRun N b (i2dN N a).reverse).2 < b := h1
  have h6 : valN N (divRun N b (i2dN N a).reverse).1.reverse * b + (divRun N b (i2dN N a).reverse).2 = a := h4
  refine ⟨?_, ?_, h2, by rw [show (divRun N b (i2dN N a).reverse).1.length = _ from h3]; simp [i2dN_length]⟩
  · clear h1 h3 h4
    generalize valN N (divRun N b (i2dN N a).reverse).1.reverse = v at h6 ⊢
    generalize (divRun N b (i2dN N a).reverse).2 = r at h5 h6
    rw [← h6, Nat.mul_comm, Nat.mul_add_div hb, Nat.div_eq_of_lt h5]; (first | lia | omega)
  · clear h1 h3 h4
    generalize valN N (divRun N b (i2dN N a).reverse).1.reverse = v at h6
    generalize (divRun N b (i2dN N a).reverse).2 = r at h5 h6 ⊢
    rw [← h6, Nat.mul_comm, Nat.mul_add_mod, Nat.mod_eq_of_lt h5]

/-! ### steps -/
theorem capOf_o {x : Str} {k : NameKind} {r : List (Str × NameKind)} {vars : List (Str × D)} (hk : (k == .free) = false) : capOf ((x, k) :: r) vars = capOf r vars := by
  unfold capOf; rw [List.filterMap_cons]; simp [hk]
theorem capOf_f {x : Str} {d : D} {r : List (Str × NameKind)} {vars : List (Str × D)} (h : vars.lookup x = some d) : capOf ((x, .free) :: r) vars = (x, d) :: capOf r vars := by
  unfold capOf; rw [List.filterMap_cons]; simp [h]
theorem capOf_nil {vars : List (Str × D)} : capOf [] vars = [] := rfl
noncomputable abbrev Sig.get (σ : Sig) (x : Str) : Option D := σ.vars.lookup x
noncomputable def nestAt (p : Program) (i j : Nat) : Arguments × List Stmt × Scope := match (fnAt p i).2.1[j]? with
  | some (.FunctionDef _ args body _ _ _ scope _ _ _) => (args, body, scope)
  | _ => (⟨[], [], none, [], [], none, []⟩, [], default)
noncomputable def nestPos (p : Program) (i j : Nat) : Pos := match (fnAt p i).2.1[j]? with
  | some (.FunctionDef _ _ _ _ _ _ _ _ _ pos) => pos
  | _ => default
theorem withNest {P : Arguments × List Stmt × Scope → Prop} {p : Program} {i j : Nat} {a : Arguments} {b : List Stmt} {c : Scope} (h : nestAt p i j = (a, b, c)) (H : P (a, b, c)) : P (nestAt p i j) := by rw [h]; exact H
section
variable {K : Act} {F Φ Φ' : FMap} {σ σ' : Sig} {s : Shared} {Q : D → Sig → Prop} {R : LF → Sig → Prop} {sc : Scope} {n : Nat} {rest : List Stmt}
theorem bin_to {op : Operator} {d1 d2 d d' : D} (h : BinIs K op d1 d2 d) (e : d = d') : BinIs K op d1 d2 d' := e ▸ h
theorem shr_nat {a b : Int} (x s : Nat) (ha : a = x) (hb : b = s) : BinIs K .RShift (.int a) (.int b) (.int (x / 2 ^ s : Nat)) := by
  subst ha; subst hb
  refine bin_to (bin_shr (Int.natCast_nonneg s)) ?_
  rw [Int.toNat_natCast, show ((2 : Int) ^ s) = ((2 ^ s : Nat) : Int) by simp, fdiv_nat]
theorem shl_nat {a b : Int} (x s : Nat) (ha : a = x) (hb : b = s) (hs : intBits (x : Int) + s ≤ 2 ^ 27) : BinIs K .LShift (.int a) (.int b) (.int (x * 2 ^ s : Nat)) := by
  subst ha; subst hb
  refine bin_to (bin_shl (Int.natCast_nonneg s) (by (first | lia | omega))) ?_
  rw [Int.toNat_natCast, show ((2 : Int) ^ s) = ((2 ^ s : Nat) : Int) by simp]; rfl
end
theorem noPylong {a b : Int} (h : intBits b ≤ 6000) : Builtin.divisionGoesByPylong a b = false := by
  have : decide ((if (b == 0) = true then 0 else b.natAbs.log2 / 30 + 1) > 300) = false := by
    rw [decide_eq_false_iff_not]
    split
    · (first | lia | omega)
    · rename_i h0
      unfold intBits at h
      rw [if_neg h0] at h
      (first | lia | omega)
  show (decide ((if (b == 0) = true then 0 else b.natAbs.log2 / 30 + 1) > 300) && _) = false
  rw [this]; rfl
theorem blt_to {K : Act} {σ : Sig} {f : Value} {ds : List D} {r r' : D} (h : BltIs K f ds r σ) (e : r = r') : BltIs K f ds r' σ := e ▸ h
theorem cell_at {K : Act} {sc : Scope} {n : Nat} {x : Str} (hK : KF K sc n) (hst : StoresAll K sc) (h : sc.names.lookup x = some .cell) : ∃ c, K.env.cells.lookup x = some c := by
  rcases hst x (.inr h) with h1 | ⟨c, _, h2, _⟩
  · rw [hK.kindOf h] at h1; cases h1
  · exact ⟨c, h2⟩
theorem replicate_enc (k : Nat) : (List.replicate k [D.int 0]).flatten = encN (List.replicate k 0) := by
  induction k with
  | zero => rfl
  | succ k ih => rw [List.replicate_succ, List.flatten_cons, ih, List.replicate_succ]; rfl
theorem bits_le_of_lt {x m : Nat} (h : x < 2 ^ m) : intBits (x : Int) ≤ m := intBits_le_iff.mpr (by simpa using h)

noncomputable def T_i2d (ds : List D) (r : D) : Prop := ∃ N a : Nat, 1 ≤ N ∧ N ≤ 4000 ∧ lenN N a ≤ 64 ∧ ds = [.int a, .int N] ∧ r = .list (encN (i2dN N a))
noncomputable def T_d2i (ds : List D) (r : D) : Prop := ∃ (N : Nat) (l : List Nat), 1 ≤ N ∧ N ≤ 4000 ∧ l.length ≤ 64 ∧ (∀ d ∈ l, d < 2 ^ N) ∧ ds = [.list (encN l), .int N] ∧ r = .int (valN N l)
noncomputable def T_div2 (ds : List D) (r : D) : Prop := ∃ a b n : Int, (intBits a : Int) - n ≤ 4000 ∧ b ≠ 0 ∧ Builtin.divisionGoesByPylong a b = false ∧ ds = [.int a, .int b, .int n] ∧ r = .tup [.int (a.fdiv b), .int (a.fmod b)]
/-- the divisor's size and the number of digits are small -/
noncomputable def DivOk (a b : Nat) : Prop := 0 < b ∧ intBits (b : Int) ≤ 4000 ∧ lenN (intBits (b : Int)) a ≤ 64
noncomputable def T_divP (ds : List D) (r : D) : Prop := ∃ a b : Nat, DivOk a b ∧ ds = [.int a, .int b] ∧ r = .tup [.int (a / b : Nat), .int (a % b : Nat)]
noncomputable def T_divmP (ds : List D) (r : D) : Prop := ∃ a b : Nat, DivOk a b ∧ ds = [.int a, .int b] ∧ r = .tup [.int ((a : Int).fdiv b), .int ((a : Int).fmod b)]
noncomputable def T_divm (ds : List D) (r : D) : Prop := ∃ (a : Int) (b : Nat), (0 ≤ a → DivOk a.toNat b) ∧ (a < 0 → DivOk (-a - 1).toNat b) ∧ ds = [.int a, .int b] ∧ r = .tup [.int (a.fdiv b), .int (a.fmod b)]

/-! ### names looked up -/
theorem lk_here {x : Str} {d : D} {r : List (Str × D)} : List.lookup x ((x, d) :: r) = some d := by rw [List.lookup_cons, beq_self_eq_true]
theorem lk_next {x y : Str} {d e : D} {r : List (Str × D)} (h : (x == y) = false) (h2 : List.lookup x r = some d) : List.lookup x ((y, e) :: r) = some d := by rw [List.lookup_cons, h]; exact h2
theorem lk_set {σ : Sig} {x : Str} {d : D} : List.lookup x (σ.set x d).vars = some d := by
  show (setV σ.vars x d).lookup x = some d
  rw [setV_lookup, if_pos rfl]
theorem lk_setn {σ : Sig} {x y : Str} {d e : D} (h : (x == y) = false) (h2 : List.lookup x σ.vars = some d) : List.lookup x (σ.set y e).vars = some d := by
  show (setV σ.vars y e).lookup x = some d
  rw [setV_lookup, if_neg (beq_eq_false_iff_ne.mp h)]; exact h2
noncomputable def noneOf (x : Str) (ys : List Str) : Bool := ys.all fun y => !(x == y)
theorem noneOf_c {x y : Str} {ys : List Str} (h : noneOf x (y :: ys) = true) : (x == y) = false ∧ noneOf x ys = true := by
  unfold noneOf at h
  rw [List.all_cons, Bool.and_eq_true] at h
  exact ⟨by simpa using h.1, h.2⟩
theorem lk_set4 {σ : Sig} {x a b c e : Str} {d da db dc de : D} (h : noneOf x [a, b, c, e] = true) (h2 : List.lookup x σ.vars = some d) : List.lookup x ((((σ.set a da).set b db).set c dc).set e de).vars = some d :=
  let ⟨h1, h⟩ := noneOf_c h; let ⟨h3, h⟩ := noneOf_c h; let ⟨h4, h⟩ := noneOf_c h; let ⟨h5, _⟩ := noneOf_c h
  lk_setn h5 (lk_setn h4 (lk_setn h3 (lk_setn h1 h2)))
theorem lk_next4 {r : List (Str × D)} {x a b c e : Str} {d da db dc de : D} (h : noneOf x [a, b, c, e] = true) (h2 : List.lookup x r = some d) : List.lookup x ((a, da) :: (b, db) :: (c, dc) :: (e, de) :: r) = some d :=
  let ⟨h1, h⟩ := noneOf_c h; let ⟨h3, h⟩ := noneOf_c h; let ⟨h4, h⟩ := noneOf_c h; let ⟨h5, _⟩ := noneOf_c h
  lk_next h1 (lk_next h3 (lk_next h4 (lk_next h5 h2)))
theorem lk_new {σ : Sig} {x : Str} {d : D} {a : Addr} {od : OD} (h2 : List.lookup x σ.vars = some d) : List.lookup x (σ.new a od).vars = some d := h2
theorem lk_put {σ : Sig} {x : Str} {d : D} {i : Nat} {a : Addr} {od : OD} (h2 : List.lookup x σ.vars = some d) : List.lookup x (σ.put i a od).vars = some d := h2
theorem lk_del {σ : Sig} {x : Str} {d : D} {i : Nat} (h2 : List.lookup x σ.vars = some d) : List.lookup x (σ.del i).vars = some d := h2
theorem lk_allc {vs : List (Str × D)} {x y : Str} {d e : D} {ys : List Str} {es : List D} (h : List.lookup x (setAll (setV vs y e) ys es) = some d) : List.lookup x (setAll vs (y :: ys) (e :: es)) = some d := h
theorem lk_alln {vs : List (Str × D)} {x : Str} {d : D} (h : List.lookup x vs = some d) : List.lookup x (setAll vs [] []) = some d := h
theorem lk_v {vs : List (Str × D)} {x : Str} {d : D} : List.lookup x (setV vs x d) = some d := by rw [setV_lookup, if_pos rfl]
theorem lk_vn {vs : List (Str × D)} {x y : Str} {d e : D} (h : (x == y) = false) (h2 : List.lookup x vs = some d) : List.lookup x (setV vs y e) = some d := by rw [setV_lookup, if_neg (beq_eq_false_iff_ne.mp h)]; exact h2
theorem lk_cap {names : List (Str × NameKind)} {vs : List (Str × D)} {x : Str} {d : D} (h1 : names.lookup x = some .free) (h2 : List.lookup x vs = some d) : List.lookup x (capOf names vs) = some d := by
  induction names with
  | nil => cases h1
  | cons p r ih =>
    obtain ⟨y, k⟩ := p
    rw [List.lookup_cons] at h1
    cases hb : x == y with
    | true =>
      rw [hb] at h1
      cases h1
      have := eq_of_beq hb
      subst this
      rw [capOf_f h2, List.lookup_cons, beq_self_eq_true]
    | false =>
      rw [hb] at h1
      by_cases hk : (k == NameKind.free) = true
      · have hk' := eq_of_beq hk
        subst hk'
        cases hv : List.lookup y vs with
        | none =>
          have : capOf ((y, .free) :: r) vs = capOf r vs := by unfold capOf; rw [List.filterMap_cons]; simp [hv]
          rw [this]; exact ih h1
        | some e => rw [capOf_f hv, List.lookup_cons, hb]; exact ih h1
      · rw [capOf_o (by simpa using hk)]; exact ih h1
theorem bl_len {G : GC} {mg mb : Str → Option Value} (gr : Grd G mg mb) : mb "len" = some (.builtin "len") := gr.blt _ (by decide)
theorem bl_min {G : GC} {mg mb : Str → Option Value} (gr : Grd G mg mb) : mb "min" = some (.builtin "min") := gr.blt _ (by decide)
theorem bl_sum {G : GC} {mg mb : Str → Option Value} (gr : Grd G mg mb) : mb "sum" = some (.builtin "sum") := gr.blt _ (by decide)
theorem bl_isinstance {G : GC} {mg mb : Str → Option Value} (gr : Grd G mg mb) : mb "isinstance" = some (.builtin "isinstance") := gr.blt _ (by decide)
theorem bl_divmod {G : GC} {mg mb : Str → Option Value} (gr : Grd G mg mb) : mb "divmod" = some (.builtin "divmod") := gr.blt _ (by decide)
theorem bl_range {G : GC} {mg mb : Str → Option Value} (gr : Grd G mg mb) : mb "range" = some (.type "range") := gr.blt _ (by decide)
noncomputable def isSt (sc : Scope) (x : Str) : Bool := sc.names.lookup x == some .local || sc.names.lookup x == some .cell
theorem store_at {K : Act} {sc : Scope} {x : Str} (hst : StoresAll K sc) (h : isSt sc x = true) : Stores K x := by
  unfold isSt at h
  rw [Bool.or_eq_true] at h
  exact hst x (h.imp eq_of_beq eq_of_beq)
section
variable {K : Act} {σ : Sig} {Q : D → Prop} {P : Bool → Prop} {a b : Int}
theorem ex_cmp_eq (h : P (a == b)) : ∃ c, CmpIs K .Eq (.int a) (.int b) c σ ∧ P c := ⟨_, cmp_eq, h⟩
theorem ex_cmp_str {x y : Str} (h : P (x == y)) : ∃ c, CmpIs K .Eq (.str x) (.str y) c σ ∧ P c := ⟨_, cmp_str, h⟩
theorem ex_cmp_lt (h : P (decide (a < b))) : ∃ c, CmpIs K .Lt (.int a) (.int b) c σ ∧ P c := ⟨_, cmp_lt, h⟩
theorem ex_cmp_gt (h : P (decide (a > b))) : ∃ c, CmpIs K .Gt (.int a) (.int b) c σ ∧ P c := ⟨_, cmp_gt, h⟩
theorem ex_cmp_le (h : P (decide (a ≤ b))) : ∃ c, CmpIs K .LtE (.int a) (.int b) c σ ∧ P c := ⟨_, cmp_le, h⟩
theorem ex_cmp_ge (h : P (decide (a ≥ b))) : ∃ c, CmpIs K .GtE (.int a) (.int b) c σ ∧ P c := ⟨_, cmp_ge, h⟩
theorem ex_cmp_ne (h : P (a != b)) : ∃ c, CmpIs K .NotEq (.int a) (.int b) c σ ∧ P c := ⟨_, cmp_ne, h⟩
theorem ex_bin_add (h : Q (.int (a + b))) : ∃ d, BinIs K .Add (.int a) (.int b) d ∧ Q d := ⟨_, bin_add, h⟩
theorem ex_bin_sub (h : Q (.int (a - b))) : ∃ d, BinIs K .Sub (.int a) (.int b) d ∧ Q d := ⟨_, bin_sub, h⟩
theorem ex_un_inv (h : Q (.int (Builtin.bitNot a))) : ∃ d, UnIs K .Invert (.int a) d ∧ Q d := ⟨_, un_inv, h⟩
theorem ex_inp_add (h : Q (.int (a + b))) : ∃ d, InpIs K .Add (.int a) (.int b) d ∧ Q d := ⟨_, inp_add, h⟩
theorem ex_inp_sub (h : Q (.int (a - b))) : ∃ d, InpIs K .Sub (.int a) (.int b) d ∧ Q d := ⟨_, inp_sub, h⟩
theorem ex_tru_int (h : P (a != 0)) : ∃ c, TruIs K (.int a) c σ ∧ P c := ⟨_, tru_int, h⟩
theorem ex_tru_bool {c : Bool} (h : P c) : ∃ c', TruIs K (.bool c) c' σ ∧ P c' := ⟨_, tru_bool, h⟩
end
section
variable {K : Act} {F Φ Φ' : FMap} {σ σ' : Sig} {s : Shared} {Q : D → Sig → Prop} {R : LF → Sig → Prop} {sc : Scope} {n : Nat} {rest : List Stmt}
/-- a comprehension over data of one kind -/
theorem compT {α : Type} (enc : α → D) (dec : D → α) {tgt elt : Expr} {ifs : List Expr} {scope : Scope} {xs : List Str} {ds : List D} {σ₁ : Sig} (as : List α) (p : α → Bool) (f : α → D) (hde : ∀ a ∈ as, dec (enc a) = a) (hds : ds = as.map enc) (hlen : as.length ≤ sizeLine) (hok : compOk scope sc σ₁.vars = true)
    (h : ∀ K', CompK K' K scope sc n → ∀ a ∈ as, ∃ vs, TgtIs tgt (enc a) xs vs ∧ ∀ own, LTs K' ifs (fun b σ' => σ' = ⟨setAll (capOf scope.names σ₁.vars) xs vs, own⟩ ∧ b = p a) ⟨setAll (capOf scope.names σ₁.vars) xs vs, own⟩ ∧
      (p a = true → LE K' elt (fun e σ' => σ' = ⟨setAll (capOf scope.names σ₁.vars) xs vs, own⟩ ∧ e = f a) ⟨setAll (capOf scope.names σ₁.vars) xs vs, own⟩))
    (hq : Q (.list ((as.filter p).map f)) σ₁) : CompIs K sc n tgt elt ifs scope xs Q ds σ₁ := by
  subst hds
  refine ⟨fun d => p (dec d), fun d => f (dec d), by rw [List.length_map]; exact hlen, hok, fun K' hK' d hd => ?_, ?_⟩
  · with_reducible refine el_1_2 (List.mem_map.mp hd) fun a ha oq165 => ?_
    obtain rfl := oq165
    simp only [hde a ha]
    exact h K' hK' a ha
  · have e : ∀ l : List α, (∀ a ∈ l, dec (enc a) = a) → ((l.map enc).filter fun d => p (dec d)).map (fun d => f (dec d)) = (l.filter p).map f := by
      intro l
      induction l with
      | nil => intro _; rfl
      | cons a l ih =>
        intro hl
        have ha := hl a (.head _)
        have ih := ih fun b hb => hl b (.tail _ hb)
        rw [List.map_cons, List.filter_cons, List.filter_cons, ha]
        split <;> simp [ih, ha]
    rw [e as hde]; exact hq
/-- with no test -/
theorem comp0 {α : Type} (enc : α → D) (dec : D → α) {tgt elt : Expr} {scope : Scope} {xs : List Str} {ds : List D} {σ₁ : Sig} (as : List α) (f : α → D) (hde : ∀ a ∈ as, dec (enc a) = a) (hds : ds = as.map enc) (hlen : as.length ≤ sizeLine) (hok : compOk scope sc σ₁.vars = true)
    (h : ∀ K', CompK K' K scope sc n → ∀ a ∈ as, ∃ vs, TgtIs tgt (enc a) xs vs ∧ ∀ own, LE K' elt (fun e σ' => σ' = ⟨setAll (capOf scope.names σ₁.vars) xs vs, own⟩ ∧ e = f a) ⟨setAll (capOf scope.names σ₁.vars) xs vs, own⟩)
    (hq : Q (.list (as.map f)) σ₁) : CompIs K sc n tgt elt [] scope xs Q ds σ₁ :=
  compT enc dec as (fun _ => true) f hde hds hlen hok (fun K' hK' a ha => by
    with_reducible refine el_1_2 (h K' hK' a ha) fun vs h1 h2 => ?_
    exact ⟨vs, h1, fun own => ⟨⟨rfl, rfl⟩, fun _ => h2 own⟩⟩) (by rw [List.filter_eq_self.mpr (fun _ _ => rfl)]; exact hq)
theorem LA_tup2 {x₁ x₂ : Str} {p₁ p₂ pos : Pos} {k : Nat} {d₁ d₂ : D} {k' : Sig → Prop} (hK : KF K sc n) (h₁ : Stores K x₁) (h₂ : Stores K x₂) (h : k' ((σ.set x₁ d₁).set x₂ d₂)) : LA K (.Tuple [.Name x₁ p₁, .Name x₂ p₂] k pos) (.tup [d₁, d₂]) k' σ :=
  LA_tup (ns := [(x₁, p₁), (x₂, p₂)]) hK rfl rfl (fun p hp => by
    simp only [List.mem_cons, List.not_mem_nil, or_false] at hp
    rcases hp with rfl | rfl <;> assumption) h
theorem LA_tup3 {x₁ x₂ x₃ : Str} {p₁ p₂ p₃ pos : Pos} {k : Nat} {d₁ d₂ d₃ : D} {k' : Sig → Prop} (hK : KF K sc n) (h₁ : Stores K x₁) (h₂ : Stores K x₂) (h₃ : Stores K x₃) (h : k' (((σ.set x₁ d₁).set x₂ d₂).set x₃ d₃)) : LA K (.Tuple [.Name x₁ p₁, .Name x₂ p₂, .Name x₃ p₃] k pos) (.tup [d₁, d₂, d₃]) k' σ :=
  LA_tup (ns := [(x₁, p₁), (x₂, p₂), (x₃, p₃)]) hK rfl rfl (fun p hp => by
    simp only [List.mem_cons, List.not_mem_nil, or_false] at hp
    rcases hp with rfl | rfl | rfl <;> assumption) h
theorem LA_tup4 {x₁ x₂ x₃ x₄ : Str} {p₁ p₂ p₃ p₄ pos : Pos} {k : Nat} {d₁ d₂ d₃ d₄ : D} {k' : Sig → Prop} (hK : KF K sc n) (h₁ : Stores K x₁) (h₂ : Stores K x₂) (h₃ : Stores K x₃) (h₄ : Stores K x₄) (h : k' ((((σ.set x₁ d₁).set x₂ d₂).set x₃ d₃).set x₄ d₄)) : LA K (.Tuple [.Name x₁ p₁, .Name x₂ p₂, .Name x₃ p₃, .Name x₄ p₄] k pos) (.tup [d₁, d₂, d₃, d₄]) k' σ :=
  LA_tup (ns := [(x₁, p₁), (x₂, p₂), (x₃, p₃), (x₄, p₄)]) hK rfl rfl (fun p hp => by
    simp only [List.mem_cons, List.not_mem_nil, or_false] at hp
    rcases hp with rfl | rfl | rfl | rfl <;> assumption) h
theorem LA_tup5 {x₁ x₂ x₃ x₄ x₅ : Str} {p₁ p₂ p₃ p₄ p₅ pos : Pos} {k : Nat} {d₁ d₂ d₃ d₄ d₅ : D} {k' : Sig → Prop} (hK : KF K sc n) (h₁ : Stores K x₁) (h₂ : Stores K x₂) (h₃ : Stores K x₃) (h₄ : Stores K x₄) (h₅ : Stores K x₅) (h : k' (((((σ.set x₁ d₁).set x₂ d₂).set x₃ d₃).set x₄ d₄).set x₅ d₅)) : LA K (.Tuple [.Name x₁ p₁, .Name x₂ p₂, .Name x₃ p₃, .Name x₄ p₄, .Name x₅ p₅] k pos) (.tup [d₁, d₂, d₃, d₄, d₅]) k' σ :=
  LA_tup (ns := [(x₁, p₁), (x₂, p₂), (x₃, p₃), (x₄, p₄), (x₅, p₅)]) hK rfl rfl (fun p hp => by
    simp only [List.mem_cons, List.not_mem_nil, or_false] at hp
    rcases hp with rfl | rfl | rfl | rfl | rfl <;> assumption) h
theorem LA_tup6 {x₁ x₂ x₃ x₄ x₅ x₆ : Str} {p₁ p₂ p₃ p₄ p₅ p₆ pos : Pos} {k : Nat} {d₁ d₂ d₃ d₄ d₅ d₆ : D} {k' : Sig → Prop} (hK : KF K sc n) (h₁ : Stores K x₁) (h₂ : Stores K x₂) (h₃ : Stores K x₃) (h₄ : Stores K x₄) (h₅ : Stores K x₅) (h₆ : Stores K x₆) (h : k' ((((((σ.set x₁ d₁).set x₂ d₂).set x₃ d₃).set x₄ d₄).set x₅ d₅).set x₆ d₆)) : LA K (.Tuple [.Name x₁ p₁, .Name x₂ p₂, .Name x₃ p₃, .Name x₄ p₄, .Name x₅ p₅, .Name x₆ p₆] k pos) (.tup [d₁, d₂, d₃, d₄, d₅, d₆]) k' σ :=
  LA_tup (ns := [(x₁, p₁), (x₂, p₂), (x₃, p₃), (x₄, p₄), (x₅, p₅), (x₆, p₆)]) hK rfl rfl (fun p hp => by
    simp only [List.mem_cons, List.not_mem_nil, or_false] at hp
    rcases hp with rfl | rfl | rfl | rfl | rfl | rfl <;> assumption) h
theorem tgt_name {x : Str} {p : Pos} {d : D} : TgtIs (.Name x p) d [x] [d] := ⟨rfl, rfl⟩
theorem tgt_tup {elts : List Expr} {k : Nat} {p : Pos} {ns : List (Str × Pos)} {vs : List D} (h : elts = ns.map fun p => Expr.Name p.1 p.2) (hl : ns.length = vs.length) : TgtIs (.Tuple elts k p) (.tup vs) (ns.map (·.1)) vs := ⟨⟨ns, h, rfl⟩, rfl, by simpa using hl⟩
theorem met_getI {d : D} {b : II} {k e : Int} (hd : DictD σ d (encI b)) : MetIs K "dict.get" [d, .int k, .int e] (.int ((getI b k).getD e)) σ σ := by
  have := met_get (K := K) (k := k) (e := .int e) hd
  rw [encI_get] at this
  cases hg : getI b k with
  | none => rw [hg] at this; exact this
  | some v => rw [hg] at this; exact this
theorem met_getO {A : Addr} {b : II} {k e : Int} (hm : (A, .dict (encI b)) ∈ σ.own) : MetIs K "dict.get" [.raw (.ref A), .int k, .int e] (.int ((getI b k).getD e)) σ σ := met_getI (.inr ⟨A, rfl, hm⟩)
noncomputable def decI : D → Int
  | .int i => i
  | _ => 0
noncomputable def decN (d : D) : Nat := (decI d).toNat
theorem decN_int (k : Nat) : decN (.int k) = k := rfl
/-- a list of own things told as a value -/
theorem CompK.grd {K' : Act} {scope : Scope} {mg mb : Str → Option Value} (h : CompK K' K scope sc n) (g : Grd K.G mg mb) : Grd K'.G mg mb := by rw [h.G]; exact g
theorem mod_nat {a b : Int} (x m : Nat) (ha : a = x) (hb : b = m) (hm : m ≠ 0) : BinIs K .Mod (.int a) (.int b) (.int (x % m : Nat)) := by
  subst ha; subst hb
  exact bin_to (bin_mod (by (first | lia | omega))) (congrArg D.int (fmod_nat x m))
theorem pow_nat {a b : Int} (x m : Nat) (ha : a = x) (hb : b = m) (hs : Builtin.Int.intBits (x : Int) * m ≤ 2 ^ 27) : BinIs K .Pow (.int a) (.int b) (.int (x ^ m : Nat)) := by
  subst ha; subst hb
  refine bin_to (bin_pow (Int.natCast_nonneg m) (by exact_mod_cast hs)) (congrArg D.int ?_)
  rw [Int.toNat_natCast]; simp
theorem get_listN {l : List D} {i : Int} {d : D} (k : Nat) (hi : i = k) (hk : k < 2 ^ 60) (hd : l[k]? = some d) : GetIs K (.list l) (.int i) d σ := by
  subst hi; exact get_list (Int.natCast_nonneg k) (by (first | lia | omega)) (by simpa using hd)
theorem get_strI {l : List Nat} {i : Int} {c : Nat} (k : Nat) (hi : i = k) (hk : k < 2 ^ 60) (hd : l[k]? = some c) : GetIs K (.str (tx l)) (.int i) (.str (tx [c])) σ := by
  subst hi; exact get_str hk hd
end

/-! ### the law of 02: what its own defs do -/
theorem fold_len {α : Type} {f : II → α → II} {c : Nat} (hf : ∀ a p, (f a p).length ≤ a.length + c) : ∀ (l : List α) (b : II), (l.foldl f b).length ≤ b.length + c * l.length
  | [], b => by simp
  | p :: r, b => by
    rw [List.foldl_cons, List.length_cons]
    have := fold_len hf r (f b p)
    have := hf b p
    rw [Nat.mul_succ]; (first | lia | omega)
set_option exponentiation.threshold 10000
theorem blt_sumI {K : Act} {sc : Scope} {n : Nat} {σ : Sig} {l : List D} (hK : KF K sc n) (m : List Int) (h : l = m.map .int) : BltIs K (.builtin "sum") [.list l] (.int m.sum) σ := by subst h; exact blt_sum hK
theorem sum_abs {l : List Int} {b : Nat} (h : ∀ x ∈ l, x.natAbs ≤ b) : l.sum.natAbs ≤ b * l.length := by
  induction l with
  | nil => simp
  | cons x r ih =>
    have h1 := h x (.head _)
    have h2 := ih fun y hy => h y (.tail _ hy)
    rw [List.sum_cons, List.length_cons, Nat.mul_succ, Nat.add_comm (b * _)]; exact Nat.le_trans (Int.natAbs_add_le _ _) (Nat.add_le_add h1 h2)
/-! ### the law of 02 -/
theorem picked_map {α β : Type} (f : α → β) (l : List α) (lo hi st : Option Int) : picked (l.map f) lo hi st = (picked l lo hi st).map f := by
  unfold picked
  rw [List.length_map, List.map_filterMap]
  congr 1
  funext i
  rw [List.getElem?_map]
theorem eq_ints {n : Nat} {l m : List Int} (h : l = m) : EqD (n + 1) (.list (l.map .int)) (.list (m.map .int)) := by
  subst h
  exact .list rfl fun i d e h1 h2 => by
    rw [h1] at h2; cases h2
    rw [List.getElem?_map] at h1
    cases q : l[i]? with
    | none => rw [q] at h1; cases h1
    | some x => rw [q] at h1; cases h1; exact .int x
theorem eq_tup {n : Nat} {l m : List Int} (h : l = m) : EqD (n + 1) (.tup (l.map .int)) (.tup (m.map .int)) := by
  subst h
  exact .tup rfl fun i d e h1 h2 => by
    rw [h1] at h2; cases h2
    rw [List.getElem?_map] at h1
    cases q : l[i]? with
    | none => rw [q] at h1; cases h1
    | some x => rw [q] at h1; cases h1; exact .int x

/-! ### dicts, as functions -/
noncomputable def ND (l : II) : Prop := (l.map (·.1)).Nodup
noncomputable def has (l : II) (k : Int) : Prop := (getI l k).isSome = true
noncomputable def val (l : II) (k : Int) : Int := (getI l k).getD 0
theorem getI_cons (p : Int × Int) (l : II) (k : Int) : getI (p :: l) k = if p.1 = k then some p.2 else getI l k := by
  unfold getI
  rw [List.find?_cons]
  by_cases h : p.1 = k
  · simp [h]
  · simp [h]
theorem getI_nil (k : Int) : getI [] k = none := rfl
theorem getI_append (l m : II) (k : Int) : getI (l ++ m) k = (getI l k).or (getI m k) := by
  induction l with
  | nil => rfl
  | cons p r ih => rw [List.cons_append, getI_cons, getI_cons]; split <;> simp [ih]
theorem getI_none {l : II} {k : Int} : getI l k = none ↔ k ∉ l.map (·.1) := by
  induction l with
  | nil => simp [getI_nil]
  | cons p r ih =>
    rw [getI_cons]
    by_cases h : p.1 = k
    · simp [h]
    · rw [if_neg h, ih]; simp; intro _; exact fun e => h e.symm
theorem has_iff {l : II} {k : Int} : has l k ↔ k ∈ l.map (·.1) := by
  unfold has
  rw [Option.isSome_iff_ne_none, Ne, getI_none]; exact Decidable.not_not
theorem any_key {l : II} {k : Int} : (l.any fun kv => decide (kv.1 = k)) = true ↔ k ∈ l.map (·.1) := by
  rw [List.any_eq_true]; simp
theorem stI_keys (l : II) (k v : Int) : (stI l k v).map (·.1) = if k ∈ l.map (·.1) then l.map (·.1) else l.map (·.1) ++ [k] := by
  unfold stI
  by_cases h : k ∈ l.map (·.1)
  · rw [if_pos (any_key.mpr h), if_pos h, List.map_map]
    refine List.map_congr_left fun p _ => ?_
    show (if p.1 = k then (p.1, v) else p).1 = p.1
    split <;> rfl
  · rw [if_neg (fun q => h (any_key.mp q)), if_neg h]; simp
theorem stI_nd {l : II} {k v : Int} (h : ND l) : ND (stI l k v) := by
  unfold ND at h ⊢
  rw [stI_keys]
  split
  · exact h
  · rename_i hk
    exact List.nodup_append.mpr ⟨h, by simp, fun a ha b hb q => by rw [List.mem_singleton.mp hb] at q; exact hk (q ▸ ha)⟩
theorem stI_get (l : II) (k v j : Int) : getI (stI l k v) j = if k = j then some v else getI l j := by
  unfold stI
  by_cases h : k ∈ l.map (·.1)
  · rw [if_pos (any_key.mpr h)]
    induction l with
    | nil => simp at h
    | cons p r ih =>
      rw [List.map_cons, getI_cons, getI_cons]
      by_cases hp : p.1 = k
      · simp only [hp, if_true]
        by_cases hj : k = j
        · simp [hj]
        · simp only [hj, if_false]
          by_cases hr : k ∈ r.map (·.1)
          · have := ih hr; rw [if_neg hj] at this; exact this
          · have e : r.map (fun kv => if kv.1 = k then (kv.1, v) else kv) = r := by
              refine (List.map_congr_left fun q hq => ?_).trans (List.map_id' r)
              rw [if_neg (fun e => hr (List.mem_map.mpr ⟨q, hq, e⟩))]
            rw [e]
      · have hr : k ∈ r.map (·.1) := by
          rcases List.mem_cons.mp h with h | h
          · exact absurd h.symm hp
          · exact h
        rw [if_neg hp, ih hr]
        by_cases hj : k = j
        · rw [if_pos hj, if_neg (fun e => hp (e.trans hj.symm))]; simp [hj]
        · simp [hj]
  · rw [if_neg (fun q => h (any_key.mp q)), getI_append, getI_cons, getI_nil]
    by_cases hj : k = j
    · subst hj; rw [getI_none.mpr h]; simp
    · simp [hj]
theorem stI_has (l : II) (k v j : Int) : has (stI l k v) j ↔ k = j ∨ has l j := by
  unfold has; rw [stI_get]; split <;> simp [*]
theorem stI_val (l : II) (k v j : Int) : val (stI l k v) j = if k = j then v else val l j := by
  unfold val; rw [stI_get]; split <;> simp [*]
theorem stI_sum {l : II} {k v : Int} (h : ND l) : sumV (stI l k v) = sumV l - val l k + v := by
  unfold stI sumV
  by_cases hk : k ∈ l.map (·.1)
  · rw [if_pos (any_key.mpr hk)]
    induction l with
    | nil => simp at hk
    | cons p r ih =>
      have hn := List.nodup_cons.mp (show (p.1 :: r.map (·.1)).Nodup from h)
      unfold val
      rw [getI_cons, List.map_cons, List.map_cons, List.map_cons, List.sum_cons, List.sum_cons]
      by_cases hp : p.1 = k
      · have hr : k ∉ r.map (·.1) := hp ▸ hn.1
        have e : r.map (fun kv => if kv.1 = k then (kv.1, v) else kv) = r := by
          refine (List.map_congr_left fun q hq => ?_).trans (List.map_id' r)
          rw [if_neg (fun e => hr (List.mem_map.mpr ⟨q, hq, e⟩))]
        rw [e, if_pos hp, if_pos hp]; simp; (first | lia | omega)
      · have hr : k ∈ r.map (·.1) := by
          rcases List.mem_cons.mp hk with h | h
          · exact absurd h.symm hp
          · exact h
        have := ih hn.2 hr
        unfold val at this
        rw [this, if_neg hp, if_neg hp]; (first | lia | omega)
  · rw [if_neg (fun q => hk (any_key.mp q))]
    unfold val
    rw [getI_none.mpr hk]; simp
/-! copies and sums of dicts -/
theorem cpI_go : ∀ (t acc : II), ND (acc ++ t) → t.foldl (fun a p => stI a p.1 p.2) acc = acc ++ t
  | [], acc, _ => by simp
  | p :: r, acc, h => by
    have hk : p.1 ∉ acc.map (·.1) := fun q => by
      unfold ND at h
      rw [List.map_append] at h
      exact (List.nodup_append.mp h).2.2 p.1 q p.1 (by simp) rfl
    rw [List.foldl_cons]
    have e : stI acc p.1 p.2 = acc ++ [p] := by unfold stI; rw [if_neg (fun q => hk (any_key.mp q))]
    rw [e, cpI_go r _ (by rw [List.append_assoc]; exact h), List.append_assoc]; rfl
theorem cpI_eq {t : II} (h : ND t) : cpI t = t := by
  have := cpI_go t [] (by simpa using h)
  simpa [cpI] using this
theorem addStep_eq (acc : II) (p : Int × Int) : addStep acc p = stI acc p.1 (val acc p.1 + p.2) := by
  unfold addStep val
  cases getI acc p.1 <;> simp
theorem addFold : ∀ (s acc : II), ND acc → ND (s.foldl addStep acc) ∧ sumV (s.foldl addStep acc) = sumV acc + sumV s ∧ (∀ j, has (s.foldl addStep acc) j ↔ has acc j ∨ has s j) ∧
    (ND s → ∀ j, val (s.foldl addStep acc) j = val acc j + val s j) := by
  intro s
  induction s with
  | nil => exact fun acc h => ⟨h, by simp [sumV], fun j => by simp [has, getI_nil], fun _ j => by simp [val, getI_nil]⟩
  | cons p r ih =>
    intro acc h
    rw [List.foldl_cons, addStep_eq]
    obtain ⟨h1, h2, h3, h4⟩ := ih _ (stI_nd (k := p.1) (v := val acc p.1 + p.2) h)
    refine ⟨h1, ?_, fun j => ?_, fun hn j => ?_⟩
    · rw [h2, stI_sum h]; unfold sumV; simp; (first | lia | omega)
    · rw [h3, stI_has, has_iff (l := p :: r), has_iff (l := r)]
      constructor
      · rintro ((q | q) | q)
        · exact .inr (by rw [← q]; simp)
        · exact .inl q
        · exact .inr (List.mem_cons_of_mem _ q)
      · rintro (q | q)
        · exact .inl (.inr q)
        · rcases List.mem_cons.mp q with q | q
          · exact .inl (.inl q.symm)
          · exact .inr q
    · have hn' := List.nodup_cons.mp (show (p.1 :: r.map (·.1)).Nodup from hn)
      rw [h4 hn'.2, stI_val]
      have e : val (p :: r) j = if p.1 = j then p.2 else val r j := by unfold val; rw [getI_cons]; split <;> rfl
      rw [e]
      by_cases hj : p.1 = j
      · rw [if_pos hj, if_pos hj, ← hj]
        have : val r p.1 = 0 := by unfold val; rw [getI_none.mpr hn'.1]; rfl
        rw [this]; (first | lia | omega)
      · rw [if_neg hj, if_neg hj]
theorem addC_ok {t s : II} (ht : ND t) (hs : ND s) : ND (addC t s) ∧ sumV (addC t s) = sumV t + sumV s ∧ (∀ j, has (addC t s) j ↔ has t j ∨ has s j) ∧ (∀ j, val (addC t s) j = val t j + val s j) := by
  unfold addC
  rw [cpI_eq ht]
  with_reducible refine el_0_4 (addFold s t ht) fun a b c d => ?_
  exact ⟨a, b, c, d hs⟩
theorem nd_one (k v : Int) : ND [(k, v)] := by unfold ND; simp
theorem val_one (k v j : Int) : val [(k, v)] j = if k = j then v else 0 := by unfold val; rw [getI_cons, getI_nil]; split <;> rfl
theorem has_one (k v j : Int) : has [(k, v)] j ↔ k = j := by
  unfold has; rw [getI_cons, getI_nil]
  show (if k = j then some v else none).isSome = true ↔ k = j
  by_cases h : k = j <;> simp [h]
theorem sum_one (k v : Int) : sumV [(k, v)] = v := by unfold sumV; simp
/-! dicts that are equal -/
theorem len_le_of_sub {l m : List Int} (hl : l.Nodup) (h : ∀ x ∈ l, x ∈ m) : l.length ≤ m.length := by
  induction l generalizing m with
  | nil => simp
  | cons a r ih =>
    with_reducible refine el_0_2 (List.nodup_cons.mp hl) fun h1 h2 => ?_
    have ha := h a (.head _)
    have := ih (m := m.erase a) h2 fun x hx => (List.mem_erase_of_ne (fun e => h1 (by rw [← e]; exact hx))).mpr (h x (.tail _ hx))
    rw [List.length_erase_of_mem ha] at this
    have := List.length_pos_of_mem ha
    rw [List.length_cons]; (first | lia | omega)
theorem eq_dicts {l m : II} (hl : ND l) (hm : ND m) (hh : ∀ j, has l j ↔ has m j) (hv : ∀ j, val l j = val m j) : EqD 1 (.dict (encI l)) (.dict (encI m)) := by
  have h1 : l.length ≤ m.length := by
    have := len_le_of_sub hl (m := m.map (·.1)) fun x hx => has_iff.mp ((hh x).mp (has_iff.mpr hx))
    simpa using this
  have h2 : m.length ≤ l.length := by
    have := len_le_of_sub hm (m := l.map (·.1)) fun x hx => has_iff.mp ((hh x).mpr (has_iff.mpr hx))
    simpa using this
  have at' : ∀ {l : II}, ND l → ∀ {i : Nat} {p : Int × Int}, l[i]? = some p → getI l p.1 = some p.2 := fun {l} hl => by
    induction l with
    | nil => intro i p h; simp at h
    | cons q r ih =>
      intro i p h
      have hn := List.nodup_cons.mp (show (q.1 :: r.map (·.1)).Nodup from hl)
      rw [getI_cons]
      cases i with
      | zero => simp at h; subst h; simp
      | succ i =>
        simp at h
        rw [if_neg (fun e => hn.1 (by rw [e]; exact List.mem_map.mpr ⟨p, List.mem_of_getElem? h, rfl⟩))]
        exact ih hn.2 h
  have key : ∀ (i : Nat) (p : Int × D), (encI l)[i]? = some p → ∃ v w : Int, p.2 = .int v ∧ getI l p.1 = some v ∧ getI m p.1 = some w ∧ v = w := fun i p h => by
    unfold encI at h
    rw [List.getElem?_map] at h
    cases q : l[i]? with
    | none => rw [q] at h; cases h
    | some x =>
      rw [q] at h; cases h
      have e := at' hl q
      have hm1 : has m x.1 := (hh x.1).mp (by unfold has; rw [e]; rfl)
      unfold has at hm1
      with_reducible refine el_1_1 (Option.isSome_iff_exists.mp hm1) fun w hw => ?_
      refine ⟨x.2, w, rfl, e, hw, ?_⟩
      have := hv x.1
      unfold val at this
      rw [e, hw] at this; exact this
  refine .dict (by rw [encI_length, encI_length]; (first | lia | omega)) (fun i p h => ?_) (fun i p e h he => ?_)
  · with_reducible refine el_2_4 (key i p h) fun v w _ _ h3 _ => ?_
    exact ⟨.int w, by rw [encI_get, h3]; rfl⟩
  · with_reducible refine el_2_4 (key i p h) fun v w h2 _ h3 h4 => ?_
    rw [encI_get, h3] at he
    cases he
    rw [h2, h4]; exact .int _

/-! ### tables -/
/-! ### sums over pairs -/
theorem sum_add {α : Type} (f g : α → Int) (l : List α) : (l.map fun x => f x + g x).sum = (l.map f).sum + (l.map g).sum := by
  induction l with
  | nil => rfl
  | cons a r ih => simp only [List.map_cons, List.sum_cons, ih]; (first | lia | omega)
theorem sum_mul {α : Type} (c : Int) (f : α → Int) (l : List α) : (l.map fun x => c * f x).sum = c * (l.map f).sum := by
  induction l with
  | nil => simp
  | cons a r ih => simp only [List.map_cons, List.sum_cons, ih, Int.mul_add]
theorem sum_congr {α : Type} {f g : α → Int} {l : List α} (h : ∀ x ∈ l, f x = g x) : (l.map f).sum = (l.map g).sum := by rw [List.map_congr_left h]
/-! ### the distance of rows -/
theorem nd_nil : ND [] := List.nodup_nil
theorem has_nil (j : Int) : ¬ has [] j := by unfold has; rw [getI_nil]; simp
theorem val_nil (j : Int) : val [] j = 0 := by unfold val; rw [getI_nil]; rfl

/-! ### the profile of rows -/
set_option exponentiation.threshold 10000
theorem digN_val {N : Nat} : ∀ (l : List Nat) (i : Nat), (∀ d ∈ l, d < 2 ^ N) → digN N (valN N l) i = l.getD i 0
  | [], i, _ => by unfold digN; simp [valN]
  | d :: r, 0, h => by
    have hd := h d (.head _)
    unfold digN valN
    simp [Nat.mod_eq_of_lt hd]
  | d :: r, i + 1, h => by
    have hd := h d (.head _)
    have ih := digN_val r i fun x hx => h x (.tail _ hx)
    have e : digN N (valN N (d :: r)) (i + 1) = digN N (valN N (d :: r) / 2 ^ (N * 1)) i := by rw [digN_high, Nat.add_comm]
    rw [e, valN, Nat.mul_one, Nat.add_mul_div_left _ _ (Nat.two_pow_pos N), Nat.div_eq_of_lt hd, Nat.zero_add, ih]
    simp
theorem lenN_le {N a k : Nat} (hN : 1 ≤ N) (h : a < 2 ^ (N * k)) : lenN N a ≤ k := by
  have hb := bits_le_of_lt h
  unfold lenN
  have : (intBits (a : Int) + N - 1) / N ≤ (N * k + N - 1) / N := Nat.div_le_div_right (by (first | lia | omega))
  have e : (N * k + N - 1) / N = k := by
    rw [show N * k + N - 1 = (N - 1) + N * k by (first | lia | omega), Nat.add_mul_div_left _ _ (by (first | lia | omega)), Nat.div_eq_of_lt (by (first | lia | omega))]; (first | lia | omega)
  (first | lia | omega)
theorem digits_pad {N k : Nat} (hN : 1 ≤ N) {l : List Nat} (hl : l.length = k) (h : ∀ d ∈ l, d < 2 ^ N) : lenN N (valN N l) ≤ k ∧ i2dN N (valN N l) ++ List.replicate (k - lenN N (valN N l)) 0 = l := by
  have hlt := valN_lt h
  rw [hl] at hlt
  have hle := lenN_le hN hlt
  refine ⟨hle, List.ext_getElem (by rw [List.length_append, i2dN_length, List.length_replicate]; (first | lia | omega)) fun i h1 h2 => ?_⟩
  have hdi := digN_val (N := N) l i h
  rw [List.getD_eq_getElem?_getD, List.getElem?_eq_getElem h2, Option.getD_some] at hdi
  rw [← hdi]
  by_cases hi : i < lenN N (valN N l)
  · rw [List.getElem_append_left (by rw [i2dN_length]; exact hi)]
    unfold i2dN
    rw [List.getElem_map, List.getElem_range]
  · rw [List.getElem_append_right (by rw [i2dN_length]; (first | lia | omega)), List.getElem_replicate]
    unfold digN
    have : valN N l < 2 ^ (N * i) := Nat.lt_of_lt_of_le (lt_lenN hN) (Nat.pow_le_pow_right (by decide) (Nat.mul_le_mul_left _ (by (first | lia | omega))))
    rw [Nat.div_eq_of_lt this]; simp
/-! ### sizes -/
theorem bits_ge {x m : Nat} (h : 2 ^ m ≤ x) : m + 1 ≤ intBits (x : Int) := by
  have h1 := lt_bits x
  rcases Nat.lt_or_ge m (intBits (x : Int)) with h2 | h2
  · exact h2
  · have := Nat.pow_le_pow_right (show 2 > 0 by decide) h2
    (first | lia | omega)

abbrev pw : Program := PySem.Challenge.pw_pk0098_01
noncomputable abbrev iSubst : Nat := 4
noncomputable abbrev iLev : Nat := 5
noncomputable abbrev iDiv2 : Nat := 8
noncomputable abbrev iI2d : Nat := 10
noncomputable abbrev iD2i : Nat := 11
noncomputable abbrev iDivP : Nat := 12
noncomputable abbrev iDivm : Nat := 13
noncomputable abbrev iAddFS : Nat := 15
noncomputable abbrev iAddC : Nat := 16
noncomputable abbrev iCount : Nat := 17
noncomputable abbrev iWord : Nat := 19
noncomputable abbrev iPrice : Nat := 20
noncomputable abbrev iListed : Nat := 21
noncomputable abbrev iDue : Nat := 22
noncomputable abbrev iWalked : Nat := 23
noncomputable abbrev iLaw : Nat := 24
theorem blt_lenM {α : Type} {K : Act} {σ : Sig} {l : List α} {g : α → D} (h : l.length < 2 ^ 60) : BltIs K (.builtin "len") [.list (l.map g)] (.int l.length) σ := blt_to (blt_len_list (by rw [List.length_map]; exact h)) (congrArg (fun k : Nat => D.int k) (List.length_map ..))
theorem sli_part {K : Act} {σ : Sig} {l : List Int} {lo hi : Option Int} (hl : l.length ≤ 1000) : SliIs K (.list (l.map .int)) lo hi none (.list (part (l.map D.int) lo hi)) σ := by
  rw [← picked_part]; exact sli_list (by rw [List.length_map, sizeLine_eq]; (first | lia | omega)) (by decide)
theorem sli_drop {K : Act} {σ : Sig} {l : List Int} {lo : Option Int} (n : Nat) (h : lo = some (n : Int)) (hl : l.length ≤ 1000) : SliIs K (.list (l.map .int)) lo none none (.list ((l.drop n).map .int)) σ := by
  rw [List.map_drop, ← part_from, h]; exact sli_part hl
theorem sli_take {K : Act} {σ : Sig} {l : List Int} {hi : Option Int} (n : Nat) (h : hi = some (n : Int)) (hl : l.length ≤ 1000) : SliIs K (.list (l.map .int)) none hi none (.list ((l.take n).map .int)) σ := by
  rw [List.map_take, ← part_upto, h]; exact sli_part hl
theorem sli_takeS {K : Act} {σ : Sig} {l : List Nat} {i : Nat} (h : l.length ≤ 1000) : SliIs K (.str (tx l)) none (some (i : Int)) none (.str (tx (l.take i))) σ := by
  rw [← part_upto]; exact sli_str (by rw [sizeLine_eq]; (first | lia | omega))
theorem LX_cv {K : Act} {l : List Stmt} {R : LF → Sig → Prop} {c c' : List (Str × D)} {own : List (Addr × OD)} {ns : List Str} {ds : List D} (h : c = c') (H : LX K l R ⟨setAll c' ns ds, own⟩) : LX K l R ⟨setAll c ns ds, own⟩ := h ▸ H

/-- the few objects of the top's that the proof looks at -/
noncomputable def sliceF (as : List Addr) (h : Heap) : Frag := as.filterMap fun a => (h.get? a).map fun o => (a, o)
theorem sliceF_in {as : List Addr} {h : Heap} : (sliceF as h).In h := fun a o e => by
  have m := mem_of_lookupK e
  with_reducible refine el_1_2 (List.mem_filterMap.mp m) fun b _ hb => ?_
  cases hg : h.get? b with
  | none => rw [hg] at hb; cases hb
  | some o' => rw [hg] at hb; cases hb; exact hg
noncomputable def tabsHook (as : List Addr) (ns : List (Str × Addr × Addr)) : Hook where
  α := List (Option (Addr × Addr))
  obs s := ns.map fun x => tabIn (sliceF as s.heap) x.1
  val _ := ns.map fun x => some x.2
  says _ h := ∃ K : Frag, K.In h ∧ ∀ x ∈ ns, tabIn K x.1 = some x.2
  of _ s e := ⟨sliceF as s.heap, sliceF_in, fun x m => List.map_inj_left.mp e x m⟩
  keeps _ _ _ := fun ⟨K, a, b⟩ k => ⟨K, fun c o e => k _ _ (a c o e), b⟩
theorem tabs_says {as : List Addr} {ns : List (Str × Addr × Addr)} {w : World} {h : Heap} (Y : (tabsHook as ns).says w h) : ∃ K : Frag, K.In h ∧ ∀ x ∈ ns, tabIn K x.1 = some x.2 := Y
theorem top_none {p : Program} {loose : List Str} {mean : ExcName → Option Value} {mg mb : Str → Option Value} {h : Heap} (T : Top p loose mean mg mb h) {l : List Str} (e : (l.all fun x => !startupNames.contains x && !loose.contains x && !((recsOf p).map (·.name)).contains x && !((litsOf p).map (·.1)).contains x && !((clssOf p loose).map (·.name)).contains x) = true) : ∀ x ∈ l, mg x = none := fun x hx => by
  have e := List.all_eq_true.mp e x hx
  simp only [Bool.and_eq_true, Bool.not_eq_true', ← Bool.not_eq_true, List.contains_iff_mem] at e
  with_reducible refine el_0_2 (e) fun oq166 f => ?_
  try clear e
  obtain ⟨⟨⟨a, b⟩, c⟩, d⟩ := oq166
  exact T.free x a b c d f
theorem tab_is {p : Program} {loose : List Str} {mean : ExcName → Option Value} {mg mb : Str → Option Value} {h : Heap} {K : Frag} {x : Str} {c P : Addr} (T : Top p loose mean mg mb h) (X : K.In h) (ht : tabIn K x = some (c, P)) (hr : ((recsOf p).find? (fun e => e.name == x)).isSome = true) : CodeHd h c P ∧ h.get? P = some (tabObj #[]) := by
  with_reducible refine el_1_1 (Option.isSome_iff_exists.mp hr) fun d hd => ?_
  exact tab_of T X hd ht

/-! ### the law of 01: what its own defs do -/
noncomputable def letF : List Nat := [97, 65, 98, 66, 35]
noncomputable def letW (n : Int) : List Nat := (letF.drop (n.fmod 7).toNat).take 1
noncomputable def word01 (ns : List Int) : List Nat := (ns.map letW).flatten
noncomputable def T_word1 (ds : List D) (r : D) : Prop := ∃ ns : List Int, ns.length ≤ 3 ∧ ds = [.list (ns.map .int)] ∧ r = .str (tx (word01 ns))
noncomputable def pricePairs : List (List Nat) := [[97, 65], [65, 97], [98, 66], [66, 98]]
noncomputable def price (x y : Nat) : Int := if x = y then 0 else if [x, y] ∈ pricePairs then 1 else 2
noncomputable def T_price (ds : List D) (r : D) : Prop := ∃ a b : Nat, ds = [.str (tx [a]), .str (tx [b])] ∧ r = .int (price a b)
/-- what is told of one way to a place: how many ways, their price, their exchanges, the last step's price -/
structure En where
  w : Int
  c : Int
  k : Int
  l : Int
noncomputable def encE (e : En) : D := .tup [.int e.w, .int e.c, .int e.k, .int e.l]
structure Ch where
  p : Nat
  q : Nat
  w : Int
  c : Int
  k : Int
  l : Int
noncomputable def encC (x : Ch) : D := .tup [.int x.p, .int x.q, .int x.w, .int x.c, .int x.k, .int x.l]
noncomputable def manyL : List (List Int) := [[1, 1, 1, 1], [1, 2, 3, 4], [1, 3, 6, 10], [1, 4, 10, 20]]
noncomputable def many (i j : Nat) : Int := (manyL.getD i []).getD j 0
noncomputable def gapsC (x : Ch) (i j : Nat) : Nat := (i - x.p) + (j - x.q)
noncomputable def toldC (x : Ch) (i j : Nat) : Int := x.w * many (i - x.p) (j - x.q)
noncomputable def enOf (x : Ch) (i j : Nat) : En := ⟨toldC x i j, x.c + 2 * (gapsC x i j : Int), x.k, if gapsC x i j = 0 then x.l else 2⟩
noncomputable abbrev Bk := List (List En)
section
variable (a b : List Nat)
noncomputable def prAt (i j : Nat) : Int := price (a.getD i 0) (b.getD j 0)
noncomputable def chOf (x : Ch) (i j : Nat) : Ch := ⟨i + 1, j + 1, toldC x i j, x.c + 2 * (gapsC x i j : Int) + prAt a b i j, x.k + 1, prAt a b i j⟩
noncomputable def ixOf (i j : Nat) : Nat := i * (b.length + 1) + j
noncomputable def stepJ (x : Ch) (i : Nat) (st : Bk × List Ch) (j : Nat) : Bk × List Ch :=
  (st.1.set (ixOf b i j) (st.1.getD (ixOf b i j) [] ++ [enOf x i j]), if i < a.length ∧ j < b.length then st.2 ++ [chOf a b x i j] else st.2)
noncomputable def stepI (x : Ch) (st : Bk × List Ch) (i : Nat) : Bk × List Ch := (List.range' x.q (b.length + 1 - x.q)).foldl (stepJ a b x i) st
noncomputable def stepX (st : Bk × List Ch) (x : Ch) : Bk × List Ch := (List.range' x.p (a.length + 1 - x.p)).foldl (stepI a b x) st
noncomputable def round (st : Bk × List Ch) : Bk × List Ch := st.2.foldl (stepX a b) (st.1, [])
noncomputable def rounds : Nat → Bk × List Ch
  | 0 => (List.replicate ((a.length + 1) * (b.length + 1)) [], [⟨0, 0, 1, 0, 0, 0⟩])
  | r + 1 => round a b (rounds r)
noncomputable def listed : Bk := (rounds a b 4).1
end
noncomputable def keys (m n : Nat) : List Int := (List.range (m + 1)).flatMap fun (i : Nat) => (List.range (n + 1)).map fun (j : Nat) => 4 * (i : Int) + j
noncomputable def encK (m n : Nat) (bk : Bk) : List (Int × D) := (keys m n).zip (bk.map fun l => D.list (l.map encE))
noncomputable def LettersOk (a : List Nat) : Prop := a.length ≤ 3 ∧ ∀ x ∈ a, x ∈ letF
noncomputable def T_listed (ds : List D) (r : D) : Prop := ∃ a b : List Nat, LettersOk a ∧ LettersOk b ∧ ds = [.str (tx a), .str (tx b)] ∧ r = .dict (encK a.length b.length (listed a b))
noncomputable def EnOk (e : En) : Prop := 0 ≤ e.c ∧ e.c ≤ 1000 ∧ e.w.natAbs < 2 ^ 39 ∧ e.k.natAbs < 1000
noncomputable def dueIn (w : Nat) (c : II) (e : En) : II := stI c e.l ((getI c e.l).getD 0 + e.w * 2 ^ (w * e.c.toNat))
noncomputable def due (told : List En) (size w : Nat) : Ent := ⟨(told.map fun e => e.w).sum, (told.map fun e => e.w * ((size : Int) - e.k)).sum, (told.map fun e => e.w * e.c).sum, (told.map fun e => e.w * e.k).sum, told.foldl (dueIn w) []⟩
noncomputable def T_due (ds : List D) (r : D) : Prop := ∃ (told : List En) (size w : Nat), told.length ≤ 100000 ∧ (∀ e ∈ told, EnOk e) ∧ size ≤ 10 ∧ w ≤ 20 ∧ ds = [.list (told.map encE), .int size, .int w] ∧ r = encF (due told size w)
/-! ### a dict of entries -/
noncomputable def gets {β : Type} (l : List (Int × β)) (k : Int) : Option β := (l.find? fun kv => kv.1 = k).map (·.2)
noncomputable def sets {β : Type} (l : List (Int × β)) (k : Int) (v : β) : List (Int × β) := if l.any (fun kv => kv.1 = k) then l.map (fun kv => if kv.1 = k then (kv.1, v) else kv) else l ++ [(k, v)]
noncomputable abbrev BkE := List (Int × Ent)
noncomputable def encB (l : BkE) : List (Int × D) := l.map fun p => (p.1, encF p.2)
noncomputable def mvs (a b : List Nat) (i j : Nat) : List (Int × Int × Int) :=
  (if i < a.length then [(4, 2, 0)] else []) ++ (if j < b.length then [(1, 2, 0)] else []) ++ (if i < a.length ∧ j < b.length then [(5, subst (a.getD i 0) (b.getD j 0), 1)] else [])
noncomputable def wkMove (w i j : Nat) (e : Ent) (bk : BkE) (t : Int × Int × Int) : BkE :=
  sets bk (4 * (i : Int) + j + t.1) (addF ((gets bk (4 * (i : Int) + j + t.1)).getD ⟨0, 0, 0, 0, []⟩) ⟨e.cc, e.nc + e.cc, e.tt + t.2.1 * e.cc, e.ct + t.2.2 * e.cc, [(t.2.1, sumV e.cs * 2 ^ (w * t.2.1.toNat))]⟩)
noncomputable def wkNode (a b : List Nat) (w i : Nat) (bk : BkE) (j : Nat) : BkE := (mvs a b i j).foldl (wkMove w i j ((gets bk (4 * (i : Int) + j)).getD ⟨0, 0, 0, 0, []⟩)) bk
noncomputable def wkRow (a b : List Nat) (w : Nat) (bk : BkE) (i : Nat) : BkE := (List.range (b.length + 1)).foldl (wkNode a b w i) bk
noncomputable def walked (a b : List Nat) (w : Nat) : BkE := (List.range (a.length + 1)).foldl (wkRow a b w) [(0, ⟨1, 0, 0, 0, [(0, 1)]⟩)]
noncomputable def EntOk (e : Ent) : Prop := e.cs.length ≤ 100 ∧ e.cc.natAbs < 2 ^ 39 ∧ (sumV e.cs).natAbs < 2 ^ 3000
/-- what the walk asks of the book as it grows -/
noncomputable def WkOk (a b : List Nat) (w : Nat) : Prop := ∀ i j, i ≤ a.length → j ≤ b.length →
  (∃ e, gets ((List.range j).foldl (wkNode a b w i) ((List.range i).foldl (wkRow a b w) [(0, ⟨1, 0, 0, 0, [(0, 1)]⟩)])) (4 * (i : Int) + j) = some e ∧ EntOk e) ∧
  ∀ k, k ≤ (mvs a b i j).length → ∀ p ∈ ((mvs a b i j).take k).foldl (wkMove w i j ((gets ((List.range j).foldl (wkNode a b w i) ((List.range i).foldl (wkRow a b w) [(0, ⟨1, 0, 0, 0, [(0, 1)]⟩)])) (4 * (i : Int) + j)).getD ⟨0, 0, 0, 0, []⟩)) ((List.range j).foldl (wkNode a b w i) ((List.range i).foldl (wkRow a b w) [(0, ⟨1, 0, 0, 0, [(0, 1)]⟩)])), p.2.cs.length ≤ 100
/-- and how long it may be -/
noncomputable def WkLen (a b : List Nat) (w : Nat) : Prop := ∀ i j, i ≤ a.length → j ≤ b.length → ∀ k, k ≤ (mvs a b i j).length →
  (((mvs a b i j).take k).foldl (wkMove w i j ((gets ((List.range j).foldl (wkNode a b w i) ((List.range i).foldl (wkRow a b w) [(0, ⟨1, 0, 0, 0, [(0, 1)]⟩)])) (4 * (i : Int) + j)).getD ⟨0, 0, 0, 0, []⟩)) ((List.range j).foldl (wkNode a b w i) ((List.range i).foldl (wkRow a b w) [(0, ⟨1, 0, 0, 0, [(0, 1)]⟩)]))).length ≤ 1000
noncomputable def T_walked (ds : List D) (r : D) : Prop := ∃ (a b : List Nat) (w : Nat), LettersOk a ∧ LettersOk b ∧ w ≤ 20 ∧ WkOk a b w ∧ WkLen a b w ∧ ds = [.str (tx a), .str (tx b), .int w] ∧ r = .dict (encB (walked a b w))

section
variable {K : Act} {F Φ Φ' : FMap} {σ σ' : Sig} {s : Shared} {Q : D → Sig → Prop} {R : LF → Sig → Prop} {sc : Scope} {n : Nat} {rest : List Stmt}
theorem strsAre_of {vs : List Value} : ∀ {l : List Str}, RVs Φ vs (l.map .str) → StrsAre vs l := fun {l} => by
  induction l generalizing vs with
  | nil => intro r; rw [r.n]; exact .nil
  | cons x l ih =>
    intro r
    with_reducible refine el_2_3 (r.c) fun v ws oq167 a b => ?_
    obtain rfl := oq167
    with_reducible refine el_1_1 (a.s) fun t oq168 => ?_
    obtain rfl := oq168
    exact .cons _ _ (ih b)
theorem cmp_inStrs {x : Str} {l : List Str} : CmpIs K .In (.str x) (.list (l.map .str)) (l.any (· == x)) σ := fun F Φ s v₁ v₂ P S r₁ r₂ k => by
  with_reducible refine el_1_1 (r₁.s) fun t oq169 => ?_
  obtain rfl := oq169
  with_reducible refine el_1_1 (r₂.listRef) fun a oq170 => ?_
  obtain rfl := oq170
  with_reducible refine el_2_2 (r₂.listAt S.gs.sub) fun vs m e rs => ?_
  exact in_list_strs (isList_at e) (strsAre_of rs) (k _ _ S (.refl ..))
theorem blt_range2 {a b : Int} : BltIs K (.type "range") [.int a, .int b] (.range a b 1) σ := fun F Φ s vs P S rs k => by
  with_reducible refine el_2_3 (rs.two) fun x y oq171 r r' => ?_
  obtain rfl := oq171
  (with_reducible refine el_1_1 (r.i) fun t oq172 => ?_); obtain rfl := oq172; (with_reducible refine el_1_1 (r'.i) fun u oq173 => ?_); obtain rfl := oq173
  refine call_range_2 ?_
  obtain ⟨S₂, g₂⟩ := S.push { cls := .type "range", data := .fields #[.int a _, .int b _, .int 1 s.toks] } (tk := s.toks + 1)
  exact k _ _ _ S₂ g₂ (.range (FMap.ins_self ..))
/-- the runs of a range from a place on -/
theorem LX_forS {tgt iter : Expr} {body : List Stmt} {pos : Pos} (hK : KF K sc n)
    (h : LE K iter (fun d σ₁ => ∃ (p m : Nat) (inv : Nat → Sig) (ok : Nat → Prop), d = .range p m 1 ∧ p ≤ 100000 ∧ m ≤ 100000 ∧ Sub (inv 0) σ₁ ∧ ok 0 ∧
      (∀ (i : Nat), p + i < m → ok i → LA K tgt (.int (p + i : Nat)) (fun σ₃ => LX K body (fun f σ₄ => match f with
        | .next | .cont => ok (i + 1) ∧ Sub (inv (i + 1)) σ₄
        | .brk => LX K rest R σ₄
        | .ret e => R (.ret e) σ₄) σ₃) (inv i)) ∧ (ok (m - p) → LX K rest R (inv (m - p)))) σ)
    (hs : ∀ x, foldedSetIterable iter K.env x = pure x := by intro _; rfl) : LX K (.For tgt iter body [] pos :: rest) R σ :=
  LX_forP (fun (k : Nat) => D.int k) (LI_range hK (h.mono fun d σ₁ zz => el_4_7 zz fun p m inv ok hd hp hm h0 k0 ht he => ⟨p, m, hd, by (first | lia | omega), (List.range (m - p)).map (p + ·), inv, ok, by
    rw [List.map_map]
    have e : ((m : Int) - p).toNat = m - p := by (first | lia | omega)
    rw [e]
    unfold rints
    refine List.map_congr_left fun i _ => ?_
    show D.int _ = D.int _
    congr 1
    push_cast; (first | lia | omega), h0, k0, fun i x hx hok => by
    rw [List.getElem?_map] at hx
    cases q : (List.range (m - p))[i]? with
    | none => rw [q] at hx; cases hx
    | some y =>
      rw [q] at hx; cases hx
      with_reducible refine el_0_2 (range_get q) fun oq174 hlt => ?_
      obtain rfl := oq174
      exact ht y (by (first | lia | omega)) hok, by rw [List.length_map, List.length_range]; exact he⟩)) hs
theorem LX_perm {l : List Stmt} {vars : List (Str × D)} {own own' : List (Addr × OD)} (p : own.Perm own') (h : LX K l R ⟨vars, own'⟩) : LX K l R ⟨vars, own⟩ := fun F Φ s S => by
  refine h F Φ s ⟨S.gs, S.keep, S.fcs, S.tabF, fun a ha => S.mu a ?_, ?_, S.ns, S.cells, S.vars, fun q hq => S.own q (p.mem_iff.mpr hq)⟩
  · unfold Act.muts at ha ⊢
    simp only [List.mem_cons, List.mem_append] at ha ⊢
    rcases ha with h | h | h
    · exact .inl h
    · exact .inr (.inl h)
    · exact .inr (.inr ((p.map _).mem_iff.mpr h))
  · have := S.nd
    unfold Act.muts at this ⊢
    exact ((List.Perm.append_left _ (p.map (·.1))).cons _).nodup_iff.mp this
end
/-! dicts by their keys -/
theorem valD_zip {k : Int} {ks : List Int} {ds : List D} {i : Nat} {d : D} (hn : ks.Nodup) (h1 : ks[i]? = some k) (h2 : ds[i]? = some d) : valD (ks.zip ds) k = some d := by
  induction ks generalizing ds i with
  | nil => cases h1
  | cons x ks ih => cases ds with
   | nil => cases i <;> cases h2
   | cons y ds =>
    with_reducible refine el_0_2 (List.nodup_cons.mp hn) fun n1 n2 => ?_
    unfold valD
    rw [List.zip_cons_cons, List.find?_cons]
    cases i with
    | zero => cases h1; cases h2; simp
    | succ i =>
      have hx : x ≠ k := fun e => n1 (by rw [e]; exact List.mem_of_getElem? h1)
      simp only [hx, decide_false]
      exact ih n2 h1 h2
theorem keys_nd : ∀ m : Fin 4, ∀ n : Fin 4, (keys m.val n.val).Nodup := by decide +kernel
theorem keys_at : ∀ m : Fin 4, ∀ n : Fin 4, ∀ i : Fin 4, ∀ j : Fin 4, i.val ≤ m.val → j.val ≤ n.val → (keys m.val n.val)[i.val * (n.val + 1) + j.val]? = some (4 * (i.val : Int) + j.val) := by decide +kernel
theorem keys_len (m n : Nat) : (keys m n).length = (m + 1) * (n + 1) := by
  unfold keys
  rw [List.length_flatMap]
  have : (fun (i : Nat) => ((List.range (n + 1)).map fun (j : Nat) => 4 * (i : Int) + j).length) = fun _ => n + 1 := by funext i; simp
  rw [this]
  have key : ∀ k : Nat, ((List.range k).map fun _ => n + 1).sum = k * (n + 1) := fun k => by
    induction k with
    | zero => simp
    | succ k ih => rw [List.range_succ, List.map_append, List.sum_append, ih, Nat.succ_mul]; simp
  exact key (m + 1)
theorem keys_get {m n i j : Nat} (hm : m ≤ 3) (hn : n ≤ 3) (hi : i ≤ m) (hj : j ≤ n) : (keys m n)[i * (n + 1) + j]? = some (4 * (i : Int) + j) :=
  keys_at ⟨m, by (first | lia | omega)⟩ ⟨n, by (first | lia | omega)⟩ ⟨i, by (first | lia | omega)⟩ ⟨j, by (first | lia | omega)⟩ hi hj
theorem ix_lt {m n i j : Nat} (hi : i ≤ m) (hj : j ≤ n) : i * (n + 1) + j < (m + 1) * (n + 1) := by
  have : i * (n + 1) ≤ m * (n + 1) := Nat.mul_le_mul_right _ hi
  rw [Nat.succ_mul]; (first | lia | omega)

/-! ### bounds while the ways are listed -/
theorem fold_cnt {α β : Type} {P : Nat → β → Prop} {f : β → α → β} {k : Nat} : ∀ (l : List α) (c : Nat) (s : β), (∀ c s x, x ∈ l → P c s → P (c + k) (f s x)) → P c s → P (c + k * l.length) (l.foldl f s)
  | [], c, s, _, h => by simpa using h
  | x :: r, c, s, h, h0 => by
    have := fold_cnt r (c + k) (f s x) (fun c s y hy => h c s y (.tail _ hy)) (h c s x (.head _) h0)
    rw [List.foldl_cons, List.length_cons, Nat.mul_succ]
    rw [show c + (k * r.length + k) = c + k + k * r.length by (first | lia | omega)]; exact this
noncomputable def EnB (e : En) : Prop := 0 ≤ e.c ∧ e.c ≤ 100 ∧ e.w.natAbs ≤ 20 ^ 5 ∧ 0 ≤ e.k ∧ e.k ≤ 4 ∧ 1 ≤ e.w
theorem EnB.ok {e : En} (h : EnB e) : EnOk e := by
  refine el_0_6 (h) fun h1 h2 h3 h4 h5 _ => ?_
  try clear h
  have : (20 : Nat) ^ 5 = 3200000 := by decide
  exact ⟨h1, by (first | lia | omega), by (first | lia | omega), by (first | lia | omega)⟩
theorem many_abs (i j : Nat) : (many i j).natAbs ≤ 20 := by
  unfold many
  by_cases hi : i < 4
  · by_cases hj : j < 4
    · have : ∀ i : Fin 4, ∀ j : Fin 4, ((manyL.getD i.val []).getD j.val 0).natAbs ≤ 20 := by decide +kernel
      exact this ⟨i, hi⟩ ⟨j, hj⟩
    · have : ∀ i : Fin 4, (manyL.getD i.val []).length = 4 := by decide +kernel
      rw [List.getD_eq_getElem?_getD (l := manyL.getD i []), List.getElem?_eq_none (by rw [this ⟨i, hi⟩]; (first | lia | omega))]; decide
  · rw [List.getD_eq_getElem?_getD (l := manyL), List.getElem?_eq_none (by show 4 ≤ i; (first | lia | omega))]; simp
theorem many_pos : ∀ i : Fin 4, ∀ j : Fin 4, 1 ≤ many i.val j.val := by decide +kernel
theorem price_le (x y : Nat) : 0 ≤ price x y ∧ price x y ≤ 2 := by
  unfold price; split
  · (first | lia | omega)
  · split <;> (first | lia | omega)
section
variable {a b : List Nat}
structure ChB (a b : List Nat) (r : Nat) (x : Ch) : Prop where
  p0 : r ≤ x.p
  p1 : x.p ≤ a.length
  q0 : r ≤ x.q
  q1 : x.q ≤ b.length
  w : x.w.natAbs ≤ 20 ^ r
  w1 : 1 ≤ x.w
  c0 : 0 ≤ x.c
  c1 : x.c ≤ 20 * r
  k : x.k = r
structure Inv (a b : List Nat) (r c : Nat) (st : Bk × List Ch) : Prop where
  len : st.1.length = (a.length + 1) * (b.length + 1)
  ls : ∀ l ∈ st.1, l.length ≤ c ∧ ∀ e ∈ l, EnB e
  cn : st.2.length ≤ c
  ch : ∀ x ∈ st.2, ChB a b (r + 1) x
theorem Inv.mono {r c c' : Nat} {st : Bk × List Ch} (h : Inv a b r c st) (hc : c ≤ c') : Inv a b r c' st :=
  ⟨h.len, fun l hl => ⟨Nat.le_trans (h.ls l hl).1 hc, (h.ls l hl).2⟩, Nat.le_trans h.cn hc, h.ch⟩
theorem told_abs {r : Nat} {x : Ch} (hx : ChB a b r x) (i j : Nat) : (toldC x i j).natAbs ≤ 20 ^ (r + 1) := by
  unfold toldC
  rw [Int.natAbs_mul, Nat.pow_succ]
  exact Nat.mul_le_mul hx.w (many_abs _ _)
theorem told_pos {r i j : Nat} {x : Ch} (hx : ChB a b r x) (hi : i ≤ 3) (hj : j ≤ 3) : 1 ≤ toldC x i j := by
  unfold toldC
  have h1 := hx.w1
  have h2 : 1 ≤ many (i - x.p) (j - x.q) := many_pos ⟨i - x.p, by (first | lia | omega)⟩ ⟨j - x.q, by (first | lia | omega)⟩
  have := Int.mul_pos (a := x.w) (b := many (i - x.p) (j - x.q)) (by (first | lia | omega)) (by (first | lia | omega))
  (first | lia | omega)
theorem enOf_ok {r i j : Nat} {x : Ch} (hx : ChB a b r x) (ha : a.length ≤ 3) (hb : b.length ≤ 3) (hr : r ≤ 3) (hi : i ≤ a.length) (hj : j ≤ b.length) : EnB (enOf x i j) := by
  have h1 := told_abs hx i j
  have h2 : 20 ^ (r + 1) ≤ 20 ^ 5 := Nat.pow_le_pow_right (by decide) (by (first | lia | omega))
  have h3 : gapsC x i j ≤ 6 := by unfold gapsC; (first | lia | omega)
  have := hx.c0; have := hx.c1; have := hx.k
  refine ⟨?_, ?_, Nat.le_trans h1 h2, ?_, ?_, told_pos hx (by (first | lia | omega)) (by (first | lia | omega))⟩
  · show 0 ≤ x.c + 2 * (gapsC x i j : Int); (first | lia | omega)
  · show x.c + 2 * (gapsC x i j : Int) ≤ 100; (first | lia | omega)
  · show 0 ≤ x.k; (first | lia | omega)
  · show x.k ≤ 4; (first | lia | omega)
theorem chOf_ok {r i j : Nat} {x : Ch} (hx : ChB a b r x) (ha : a.length ≤ 3) (hb : b.length ≤ 3) (hpi : x.p ≤ i) (hqj : x.q ≤ j) (hi : i < a.length) (hj : j < b.length) : ChB a b (r + 1) (chOf a b x i j) := by
  have h3 : gapsC x i j ≤ 6 := by unfold gapsC; (first | lia | omega)
  have h4 := price_le (a.getD i 0) (b.getD j 0)
  have := hx.c0; have := hx.c1; have := hx.k; have := hx.p0; have := hx.q0
  have h5 : prAt a b i j = price (a.getD i 0) (b.getD j 0) := rfl
  refine ⟨?_, ?_, ?_, ?_, told_abs hx i j, told_pos hx (by (first | lia | omega)) (by (first | lia | omega)), ?_, ?_, ?_⟩
  · show r + 1 ≤ i + 1; (first | lia | omega)
  · show i + 1 ≤ a.length; (first | lia | omega)
  · show r + 1 ≤ j + 1; (first | lia | omega)
  · show j + 1 ≤ b.length; (first | lia | omega)
  · show 0 ≤ x.c + 2 * (gapsC x i j : Int) + prAt a b i j; (first | lia | omega)
  · show x.c + 2 * (gapsC x i j : Int) + prAt a b i j ≤ 20 * ((r + 1 : Nat) : Int); (first | lia | omega)
  · show x.k + 1 = ((r + 1 : Nat) : Int); (first | lia | omega)
theorem inv_J {r c i j : Nat} {x : Ch} {st : Bk × List Ch} (hx : ChB a b r x) (ha : a.length ≤ 3) (hb : b.length ≤ 3) (hr : r ≤ 3) (hpi : x.p ≤ i) (hqj : x.q ≤ j) (hi : i ≤ a.length) (hj : j ≤ b.length) (h : Inv a b r c st) : Inv a b r (c + 1) (stepJ a b x i st j) := by
  have hix : ixOf b i j < st.1.length := by rw [h.len]; exact ix_lt hi hj
  have hget : st.1.getD (ixOf b i j) [] ∈ st.1 := by rw [List.getD_eq_getElem?_getD, List.getElem?_eq_getElem hix]; exact List.getElem_mem hix
  with_reducible refine el_0_2 (h.ls _ hget) fun g1 g2 => ?_
  refine ⟨?_, fun l hl => ?_, ?_, fun y hy => ?_⟩
  · show (st.1.set _ _).length = _; rw [List.length_set]; exact h.len
  · rcases List.mem_or_eq_of_mem_set hl with hl | rfl
    · exact ⟨Nat.le_succ_of_le (h.ls l hl).1, (h.ls l hl).2⟩
    · refine ⟨by rw [List.length_append]; simp; exact g1, fun e he => ?_⟩
      rcases List.mem_append.mp he with he | he
      · exact g2 e he
      · rw [List.mem_singleton.mp he]; exact enOf_ok hx ha hb hr hi hj
  · show (if i < a.length ∧ j < b.length then st.2 ++ [chOf a b x i j] else st.2).length ≤ c + 1
    have := h.cn
    split
    · rw [List.length_append]; simp; exact this
    · (first | lia | omega)
  · have hy' : y ∈ (if i < a.length ∧ j < b.length then st.2 ++ [chOf a b x i j] else st.2) := hy
    split at hy'
    · rename_i hc
      rcases List.mem_append.mp hy' with hy' | hy'
      · exact h.ch y hy'
      · rw [List.mem_singleton.mp hy']; exact chOf_ok hx ha hb hpi hqj hc.1 hc.2
    · exact h.ch y hy'
theorem mem_range' {p k x : Nat} (h : x ∈ List.range' p k) : p ≤ x ∧ x < p + k := by
  have := List.mem_range'_1.mp h
  exact this
theorem inv_I {r c i : Nat} {x : Ch} {st : Bk × List Ch} (hx : ChB a b r x) (ha : a.length ≤ 3) (hb : b.length ≤ 3) (hr : r ≤ 3) (hpi : x.p ≤ i) (hi : i ≤ a.length) (h : Inv a b r c st) : Inv a b r (c + 4) (stepI a b x st i) := by
  have := fold_cnt (P := Inv a b r) (k := 1) (f := stepJ a b x i) (List.range' x.q (b.length + 1 - x.q)) c st (fun c s j hj hs => inv_J hx ha hb hr hpi (mem_range' hj).1 hi (by have := (mem_range' hj).2; have := hx.q1; (first | lia | omega)) hs) h
  exact this.mono (by rw [List.length_range']; (first | lia | omega))
theorem inv_X {r c : Nat} {x : Ch} {st : Bk × List Ch} (hx : ChB a b r x) (ha : a.length ≤ 3) (hb : b.length ≤ 3) (hr : r ≤ 3) (h : Inv a b r c st) : Inv a b r (c + 16) (stepX a b st x) := by
  have := fold_cnt (P := Inv a b r) (k := 4) (f := stepI a b x) (List.range' x.p (a.length + 1 - x.p)) c st (fun c s i hi hs => inv_I hx ha hb hr (mem_range' hi).1 (by have := (mem_range' hi).2; have := hx.p1; (first | lia | omega)) hs) h
  exact this.mono (by rw [List.length_range']; (first | lia | omega))
structure RInv (a b : List Nat) (r : Nat) (st : Bk × List Ch) : Prop where
  len : st.1.length = (a.length + 1) * (b.length + 1)
  ls : ∀ l ∈ st.1, l.length ≤ 17 ^ r ∧ ∀ e ∈ l, EnB e
  cn : st.2.length ≤ 17 ^ r
  ch : ∀ x ∈ st.2, ChB a b r x
theorem RInv.start {r : Nat} {st : Bk × List Ch} (h : RInv a b r st) : Inv a b r (17 ^ r) (st.1, []) := ⟨h.len, h.ls, Nat.zero_le _, fun _ hx => by cases hx⟩
theorem RInv.pre {r : Nat} {st : Bk × List Ch} (h : RInv a b r st) (ha : a.length ≤ 3) (hb : b.length ≤ 3) (hr : r ≤ 3) (t : Nat) : Inv a b r (17 ^ (r + 1)) ((st.2.take t).foldl (stepX a b) (st.1, [])) := by
  have := fold_cnt (P := Inv a b r) (k := 16) (f := stepX a b) (st.2.take t) (17 ^ r) (st.1, []) (fun c s x hx hs => inv_X (h.ch x (List.mem_of_mem_take hx)) ha hb hr hs) h.start
  refine this.mono ?_
  have h1 : (st.2.take t).length ≤ st.2.length := List.length_take_le' ..
  have := h.cn
  rw [Nat.pow_succ]; (first | lia | omega)
theorem rounds_inv (ha : a.length ≤ 3) (hb : b.length ≤ 3) : ∀ r, r ≤ 4 → RInv a b r (rounds a b r)
  | 0, _ => ⟨by unfold rounds; simp, fun l hl => by
      have := List.eq_of_mem_replicate hl
      subst this
      exact ⟨Nat.zero_le _, fun e he => by cases he⟩, by simp [rounds], fun x hx => by
      have : x = ⟨0, 0, 1, 0, 0, 0⟩ := List.mem_singleton.mp hx
      subst this
      exact ⟨Nat.le_refl _, Nat.zero_le _, Nat.le_refl _, Nat.zero_le _, by decide, by decide, by decide, by decide, rfl⟩⟩
  | r + 1, h => by
    have ih := rounds_inv ha hb r (by (first | lia | omega))
    have := ih.pre ha hb (by (first | lia | omega)) (rounds a b r).2.length
    rw [List.take_length] at this
    exact ⟨this.len, this.ls, this.cn, this.ch⟩
theorem rounds4 (ha : a.length ≤ 3) (hb : b.length ≤ 3) : (rounds a b 4).2 = [] := by
  cases h : (rounds a b 4).2 with
  | nil => rfl
  | cons x r =>
    have hx := (rounds_inv ha hb 4 (Nat.le_refl _)).ch x (by rw [h]; exact .head _)
    have := hx.p0; have := hx.p1
    (first | lia | omega)
theorem rounds_stop {N : Nat} (h : (rounds a b N).2 = []) : ∀ k, rounds a b (N + k) = rounds a b N
  | 0 => rfl
  | k + 1 => by
    show round a b (rounds a b (N + k)) = _
    rw [rounds_stop h k]
    unfold round
    rw [h]
    show ((rounds a b N).1, []) = _
    rw [← h]
theorem rounds_end (ha : a.length ≤ 3) (hb : b.length ≤ 3) : ∃ N, N ≤ 4 ∧ (rounds a b N).2 = [] ∧ (∀ r, r < N → (rounds a b r).2 ≠ []) ∧ (rounds a b N).1 = listed a b := by
  have key : ∀ k, k ≤ 4 → (∀ r, r < k → (rounds a b r).2 ≠ []) ∨ ∃ N, N ≤ 4 ∧ (rounds a b N).2 = [] ∧ (∀ r, r < N → (rounds a b r).2 ≠ []) := fun k => by
    induction k with
    | zero => intro _; left; intro r hr; (first | lia | omega)
    | succ k ih =>
      intro hk
      rcases ih (by (first | lia | omega)) with h | h
      · by_cases e : (rounds a b k).2 = []
        · right; exact ⟨k, by (first | lia | omega), e, h⟩
        · left; intro r hr
          by_cases q : r = k
          · subst q; exact e
          · exact h r (by (first | lia | omega))
      · exact .inr h
  have fin : ∃ N, N ≤ 4 ∧ (rounds a b N).2 = [] ∧ (∀ r, r < N → (rounds a b r).2 ≠ []) := by
    rcases key 4 (Nat.le_refl _) with h | h
    · exact ⟨4, Nat.le_refl _, rounds4 ha hb, h⟩
    · exact h
  with_reducible refine el_1_3 (fin) fun N h1 h2 h3 => ?_
  try clear fin
  refine ⟨N, h1, h2, h3, ?_⟩
  have := rounds_stop h2 (4 - N)
  rw [show N + (4 - N) = 4 by (first | lia | omega)] at this
  unfold listed; rw [this]
end

theorem join_ite {K : Act} {σ : Sig} {Q : D → Sig → Prop} {c : Bool} {e1 e2 : Expr} (d : D) (h1 : c = true → ∀ Q' : D → Sig → Prop, Q' d σ → LE K e1 Q' σ) (h2 : c = false → ∀ Q' : D → Sig → Prop, Q' d σ → LE K e2 Q' σ) (h : Q d σ) : (if c = true then LE K e1 Q σ else LE K e2 Q σ) := by
  cases c with
  | true => rw [if_pos rfl]; exact h1 rfl _ h
  | false => rw [if_neg (by decide)]; exact h2 rfl _ h
/-! ### what the lister owns -/
noncomputable abbrev rr (b : Addr) : D := .raw (.ref b)
noncomputable def ownB (m n : Nat) (bs : List Addr) (A : Addr) (bk : Bk) : List (Addr × OD) := (bs.zip (bk.map fun l => OD.list (l.map encE))) ++ [(A, .dict ((keys m n).zip (bs.map rr)))]
noncomputable def dcO (m n : Nat) (bs : List Addr) (A : Addr) (t : Nat) : List (Addr × OD) := (bs.map fun b => (b, OD.list [])).reverse ++ [(A, .dict (((keys m n).take t).zip (bs.map rr)))]
noncomputable abbrev ownL (m n : Nat) (bs : List Addr) (A L : Addr) (st : Bk × List Ch) : List (Addr × OD) := (L, .list (st.2.map encC)) :: ownB m n bs A st.1
theorem take_all {p k : Nat} : (List.range' p k).take k = List.range' p k := List.take_of_length_le (by rw [List.length_range']; exact Nat.le_refl _)
theorem stD_new {l : List (Int × D)} {k : Int} {d : D} (h : k ∉ l.map (·.1)) : stD l k d = l ++ [(k, d)] := by
  unfold stD
  rw [if_neg]
  intro q
  rw [List.any_eq_true] at q
  with_reducible refine el_1_2 (q) fun p hp e => ?_
  try clear q
  exact h (List.mem_map.mpr ⟨p, hp, by simpa using e⟩)
theorem zip_keys {α β : Type} : ∀ {l : List α} {m : List β}, l.length ≤ m.length → (l.zip m).map (·.1) = l
  | [], _, _ => rfl
  | a :: l, [], h => by simp at h
  | a :: l, b :: m, h => by rw [List.zip_cons_cons, List.map_cons, zip_keys (by simpa using h)]
theorem dcO_get {m n t : Nat} {bs : List Addr} {A a : Addr} (hb : bs.length = t) : ((a, OD.list []) :: dcO m n bs A t)[t + 1]? = some (A, .dict (((keys m n).take t).zip (bs.map rr))) := by
  rw [List.getElem?_cons_succ]
  unfold dcO
  rw [List.getElem?_append_right (by simp [hb])]
  simp [hb]
theorem dcO_put {m n t : Nat} {k : Int} {bs : List Addr} {A a : Addr} (hm : m ≤ 3) (hn : n ≤ 3) (hb : bs.length = t) (hk : (keys m n)[t]? = some k) :
    ((a, OD.list []) :: dcO m n bs A t).set (t + 1) (A, .dict (stD (((keys m n).take t).zip (bs.map rr)) k (rr a))) = dcO m n (bs ++ [a]) A (t + 1) := by
  have hlt : t < (keys m n).length := (List.getElem?_eq_some_iff.mp hk).1
  have htk : ((keys m n).take t).length = t := by rw [List.length_take]; (first | lia | omega)
  have hnd := keys_nd ⟨m, by (first | lia | omega)⟩ ⟨n, by (first | lia | omega)⟩
  have hk2 : (keys m n).take (t + 1) = (keys m n).take t ++ [k] := by rw [List.take_add_one, hk]; rfl
  have hnew : k ∉ (((keys m n).take t).zip (bs.map rr)).map (·.1) := by
    rw [zip_keys (by rw [htk, List.length_map, hb]; exact Nat.le_refl _)]
    intro hmem
    have h2 : ((keys m n).take t ++ [k]).Nodup := by rw [← hk2]; exact List.Sublist.nodup (List.take_sublist ..) hnd
    exact (List.nodup_append.mp h2).2.2 k hmem k (by simp) rfl
  rw [stD_new hnew, List.set_cons_succ]
  unfold dcO
  rw [List.set_append_right _ _ (by simp [hb]), hk2, List.map_append, List.map_append, List.reverse_append]
  have e : t - (bs.map fun b => (b, OD.list [])).reverse.length = 0 := by simp [hb]
  rw [e]
  rw [List.zip_append (by rw [htk, List.length_map, hb])]
  rfl
theorem dcO_perm {m n : Nat} {bs : List Addr} {A : Addr} (hb : bs.length = (m + 1) * (n + 1)) : (dcO m n bs A ((m + 1) * (n + 1))).Perm (ownB m n bs A (List.replicate ((m + 1) * (n + 1)) [])) := by
  unfold dcO ownB
  have e1 : (keys m n).take ((m + 1) * (n + 1)) = keys m n := List.take_of_length_le (by rw [keys_len]; exact Nat.le_refl _)
  have e2 : bs.zip ((List.replicate ((m + 1) * (n + 1)) ([] : List En)).map fun l => OD.list (l.map encE)) = bs.map fun b => (b, OD.list []) := by
    rw [List.map_replicate, ← hb]
    clear hb e1
    induction bs with
    | nil => rfl
    | cons b r ih => rw [List.length_cons, List.replicate_succ, List.zip_cons_cons, ih]; rfl
  rw [e1, e2]
  exact List.Perm.append_right _ (List.reverse_perm _)
theorem ownB_get {m n ix : Nat} {bs : List Addr} {A b : Addr} {bk : Bk} {l : List En} (h1 : bs[ix]? = some b) (h2 : bk[ix]? = some l) : (ownB m n bs A bk)[ix]? = some (b, .list (l.map encE)) := by
  have hb := (List.getElem?_eq_some_iff.mp h1).1
  have hl := (List.getElem?_eq_some_iff.mp h2).1
  unfold ownB
  rw [List.getElem?_append_left (by rw [List.length_zip, List.length_map]; (first | lia | omega)), List.getElem?_zip_eq_some (z := (b, OD.list (l.map encE))) |>.mpr ⟨h1, by rw [List.getElem?_map, h2]; rfl⟩]
theorem zip_set {α β : Type} {a : α} {b : β} {l : List α} {m : List β} {i : Nat} (h : l[i]? = some a) : (l.zip m).set i (a, b) = l.zip (m.set i b) := by
  induction l generalizing m i with
  | nil => cases h
  | cons x l ih => cases m with
    | nil => rfl
    | cons y m => cases i with
      | zero => cases h; rfl
      | succ i => exact congrArg (List.cons _) (ih (m := m) (i := i) h)
theorem ownB_set {m n ix : Nat} {bs : List Addr} {A b : Addr} {bk : Bk} {l : List En} (h1 : bs[ix]? = some b) (h2 : ix < bk.length) : (ownB m n bs A bk).set ix (b, .list (l.map encE)) = ownB m n bs A (bk.set ix l) := by
  have hb := (List.getElem?_eq_some_iff.mp h1).1
  unfold ownB
  rw [List.set_append_left _ _ (by rw [List.length_zip, List.length_map]; (first | lia | omega)), zip_set h1, List.map_set]
theorem own_step1 {m n ix : Nat} {bs : List Addr} {A L bb : Addr} {st : Bk × List Ch} {e : En} (h1 : bs[ix]? = some bb) (h2 : ix < st.1.length) :
    (ownL m n bs A L st).set (ix + 1) (bb, .list ((st.1.getD ix []).map encE ++ [encE e])) = ownL m n bs A L (st.1.set ix (st.1.getD ix [] ++ [e]), st.2) := by
  have := ownB_set (m := m) (n := n) (A := A) (l := st.1.getD ix [] ++ [e]) h1 h2
  rw [List.map_append] at this
  show (L, _) :: List.set _ _ _ = _
  exact congrArg (List.cons _) this
theorem own_step2 {m n : Nat} {bs : List Addr} {A L : Addr} {bk : Bk} {c : List Ch} {y : Ch} :
    (ownL m n bs A L (bk, c)).set 0 (L, .list (c.map encC ++ [encC y])) = ownL m n bs A L (bk, c ++ [y]) := by
  show (L, _) :: _ = (L, OD.list ((c ++ [y]).map encC)) :: _
  rw [List.map_append]; rfl
theorem stepJ_no {a b : List Nat} {x : Ch} {i j : Nat} {st : Bk × List Ch} (h : ¬(i < a.length ∧ j < b.length)) : stepJ a b x i st j = (st.1.set (i * (b.length + 1) + j) (st.1.getD (i * (b.length + 1) + j) [] ++ [enOf x i j]), st.2) := by
  unfold stepJ; rw [if_neg h]; rfl
theorem stepJ_yes {a b : List Nat} {x : Ch} {i j : Nat} {st : Bk × List Ch} (h1 : i < a.length) (h2 : j < b.length) : stepJ a b x i st j = (st.1.set (i * (b.length + 1) + j) (st.1.getD (i * (b.length + 1) + j) [] ++ [enOf x i j]), st.2 ++ [chOf a b x i j]) := by
  unfold stepJ; rw [if_pos ⟨h1, h2⟩]; rfl
theorem ownB_dict {m n : Nat} {bs : List Addr} {A : Addr} {bk : Bk} : (A, OD.dict ((keys m n).zip (bs.map rr))) ∈ ownB m n bs A bk := List.mem_append_right _ (.head _)
theorem rints_mid {k : Nat} {pre post : List D} {d : D} (h : rints 0 1 k = pre ++ d :: post) : d = .int (pre.length : Nat) ∧ pre.length < k := by
  have e : (rints 0 1 k)[pre.length]? = some d := by rw [h]; simp
  have hlt : pre.length < k := by
    have := (List.getElem?_eq_some_iff.mp e).1
    rwa [rints_length] at this
  rw [rints_get hlt] at e
  refine ⟨?_, hlt⟩
  have := Option.some.inj e
  rw [← this]; congr 1; (first | lia | omega)
theorem many_row {k : Nat} (h : k < 4) : (manyL.map fun r => D.list (r.map .int))[k]? = some (.list ((manyL.getD k []).map .int)) := by
  have h' : k < manyL.length := h
  rw [List.getElem?_map, List.getElem?_eq_getElem h', List.getD_eq_getElem?_getD, List.getElem?_eq_getElem h']; rfl
theorem many_get {k l : Nat} (hk : k < 4) (hl : l < 4) : ((manyL.getD k []).map D.int)[l]? = some (.int (many k l)) := by
  have : ∀ k : Fin 4, (manyL.getD k.val []).length = 4 := by decide +kernel
  have h' : l < (manyL.getD k []).length := by rw [this ⟨k, hk⟩]; exact hl
  unfold many
  rw [List.getElem?_map, List.getElem?_eq_getElem h', List.getD_eq_getElem?_getD (l := manyL.getD k []), List.getElem?_eq_getElem h']; rfl
/-- what is handed back -/
theorem ownB_res {m n : Nat} {bs : List Addr} {A : Addr} {bk : Bk} (h1 : bs.length = (m + 1) * (n + 1)) (h2 : bk.length = (m + 1) * (n + 1)) : Res (ownB m n bs A bk) (rr A) (.dict (encK m n bk)) := by
  have hk := keys_len m n
  refine .dict ownB_dict (by unfold encK; simp [h1, h2]) (fun i p p' e e' => ?_) fun i p p' e e' => ?_
  · with_reducible refine el_0_2 (List.getElem?_zip_eq_some.mp e) fun a1 a2 => ?_
    with_reducible refine el_0_2 (List.getElem?_zip_eq_some.mp e') fun b1 b2 => ?_
    rw [a1] at b1; exact Option.some.inj b1
  · with_reducible refine el_0_2 (List.getElem?_zip_eq_some.mp e) fun a1 a2 => ?_
    with_reducible refine el_0_2 (List.getElem?_zip_eq_some.mp e') fun b1 b2 => ?_
    rw [List.getElem?_map] at a2 b2
    cases q1 : bs[i]? with
    | none => rw [q1] at a2; cases a2
    | some b =>
      cases q2 : bk[i]? with
      | none => rw [q2] at b2; cases b2
      | some l =>
        rw [q1] at a2; rw [q2] at b2
        have x1 : rr b = p.2 := Option.some.inj a2
        have x2 : D.list (l.map encE) = p'.2 := Option.some.inj b2
        rw [← x1, ← x2]
        exact .own_list (List.mem_of_getElem? (ownB_get q1 q2))

section
variable {K : Act} {F Φ Φ' : FMap} {σ σ' : Sig} {s : Shared} {Q : D → Sig → Prop} {R : LF → Sig → Prop} {sc : Scope} {n : Nat} {rest : List Stmt}
theorem LX_mid {st : Stmt} (σm : Sig) (h : LS K st (fun f σ' => f = .next ∧ Sub σm σ') σ) (h2 : LX K rest R σm) : LX K (st :: rest) R σ :=
  LX_cons fun F Φ s S => wpAny_mono (h F Φ s S) (fun f s' ⟨Φ', lf, σ', S', g, fl, r⟩ => ⟨Φ', lf, σ', S', g, fl, by (with_reducible refine el_0_2 (r) fun oq175 hs => ?_); try clear r; obtain rfl := oq175; exact h2.sub hs⟩) fun _ _ x => x
end
theorem shl_ok {K : Act} {n w : Nat} {x c : Int} (hc : 0 ≤ c) (hc2 : c ≤ 1000) (hw : w ≤ 20) (hx : x.natAbs < 2 ^ 3000) : BinIs K .LShift (.int x) (.int ((w : Int) * c)) (.int (x * 2 ^ (w * c.toNat))) := by
  with_reducible refine el_1_1 (Int.eq_ofNat_of_zero_le hc) fun m oq176 => ?_
  obtain rfl := oq176
  have hb := intBits_le_iff.mpr hx
  have hm : w * m ≤ 20 * 1000 := Nat.mul_le_mul hw (by (first | lia | omega))
  have e : (w : Int) * (m : Int) = ((w * m : Nat) : Int) := by push_cast; rfl
  rw [e]
  refine bin_to (bin_shl (Int.natCast_nonneg _) ?_) (congrArg D.int ?_)
  · have : ((w * m : Nat) : Int) ≤ 20000 := by exact_mod_cast hm
    (first | lia | omega)
  · rw [Int.toNat_natCast, Int.toNat_natCast]
theorem encB_get (l : BkE) (k : Int) : valD (encB l) k = (gets l k).map encF := by
  unfold valD gets encB
  rw [List.find?_map, Option.map_map, Option.map_map]; rfl
theorem encB_st (l : BkE) (k : Int) (e : Ent) : stD (encB l) k (encF e) = encB (sets l k e) := by
  unfold stD sets encB
  rw [List.any_map]
  have h : (fun kv : Int × D => decide (kv.1 = k)) ∘ (fun p : Int × Ent => (p.1, encF p.2)) = fun kv => decide (kv.1 = k) := rfl
  rw [h]
  split
  · rw [List.map_map, List.map_map]
    refine List.map_congr_left fun p _ => ?_
    show (if p.1 = k then (p.1, encF e) else (p.1, encF p.2)) = ((if p.1 = k then (p.1, e) else p).1, encF (if p.1 = k then (p.1, e) else p).2)
    split <;> rfl
  · rw [List.map_append]; rfl
theorem encB_length (l : BkE) : (encB l).length = l.length := by unfold encB; simp
noncomputable def ent0 : Ent := ⟨0, 0, 0, 0, []⟩
theorem met_getE {K : Act} {σ : Sig} {A : Addr} {l : BkE} {k : Int} (hm : (A, .dict (encB l)) ∈ σ.own) : MetIs K "dict.get" [rr A, .int k, encF ent0] (encF ((gets l k).getD ent0)) σ σ := by
  have := met_get (K := K) (σ := σ) (d := rr A) (k := k) (e := encF ent0) (.inr ⟨A, rfl, hm⟩)
  rw [encB_get] at this
  cases hg : gets l k with
  | none => rw [hg] at this; exact this
  | some v => rw [hg] at this; exact this
noncomputable def encM (t : Int × Int × Int) : D := .tup [.int t.1, .int t.2.1, .int t.2.2]
theorem mvs_ok {a b : List Nat} {i j : Nat} : ∀ t ∈ mvs a b i j, 0 ≤ t.2.1 ∧ t.2.1 ≤ 2 ∧ 0 ≤ t.2.2 ∧ t.2.2 ≤ 1 := fun t ht => by
  unfold mvs at ht
  have hs : 0 ≤ subst (a.getD i 0) (b.getD j 0) ∧ subst (a.getD i 0) (b.getD j 0) ≤ 2 := by
    unfold subst; split
    · (first | lia | omega)
    · split <;> (first | lia | omega)
  rcases List.mem_append.mp ht with ht | ht
  · rcases List.mem_append.mp ht with ht | ht
    · split at ht
      · rw [List.mem_singleton.mp ht]; decide
      · cases ht
    · split at ht
      · rw [List.mem_singleton.mp ht]; decide
      · cases ht
  · split at ht
    · rw [List.mem_singleton.mp ht]; exact ⟨hs.1, hs.2, show (0 : Int) ≤ 1 by decide, show (1 : Int) ≤ 1 by decide⟩
    · cases ht
theorem gets_mem {β : Type} {l : List (Int × β)} {k : Int} {v : β} (h : gets l k = some v) : ∃ p ∈ l, p.2 = v := by
  unfold gets at h
  cases q : l.find? (fun kv => kv.1 = k) with
  | none => rw [q] at h; cases h
  | some p => rw [q] at h; exact ⟨p, List.mem_of_find?_eq_some q, Option.some.inj h⟩

/-! ### what the law of 01 asks -/
noncomputable def base6 : List Int := [0, 3, 5, 2, 1, 2]
noncomputable def nums01 (script : List Int) : List Int := (List.range 6).map fun k => base6.getD k 0 + (picked script (some (k : Int)) none (some 6)).sum
noncomputable def oneOf (script : List Int) : List Nat := word01 ((nums01 script).take 3)
noncomputable def twoOf (script : List Int) : List Nat := word01 ((nums01 script).drop 3)
noncomputable def wOf (script : List Int) : Nat := 7 + script.length % 6
noncomputable def toldAt (a b : List Nat) (i j : Nat) : List En := (listed a b).getD (ixOf b i j) []
noncomputable def cntOf (T : List En) (k : Nat) : Int := ((T.filter fun e => e.c == (k : Int)).map fun e => e.w).sum
noncomputable def countsOf (T : List En) (n : Nat) : List Int := (List.range n).map (cntOf T)
noncomputable def dearerOf (c : List Int) (far w : Nat) : Int := ((List.range (c.length - (far + 1))).map fun t => c.getD (far + 1 + t) 0 * 2 ^ (w * t)).sum
noncomputable def aboveOf (c : List Int) (w : Nat) : Int := ((List.range c.length).map fun k => (c.drop (k + 1)).sum * 2 ^ (w * k)).sum
noncomputable def pick2 (t : Nat) (x y : List Nat) : List Nat := if t = 0 then x else y
structure NumOK (a b : List Nat) (w : Nat) (e : Ent) (N far : Nat) (c : List Int) : Prop where
  cs : sumV e.cs = N
  ln : lenN w N ≤ 64
  dg : (i2dN w N).map (fun (d : Nat) => (d : Int)) = c
  fr : lev subst a b 12 = far
  fl : far < c.length
  d1 : DivOk N (2 ^ (w * far + w))
  q1 : (N / 2 ^ (w * far + w) : Nat) = dearerOf c far w
  r1 : (N % 2 ^ (w * far + w) : Nat) = c.getD far 0 * 2 ^ (w * far)
  d2 : DivOk N (2 ^ w - 1)
  q2 : (N / (2 ^ w - 1) : Nat) = aboveOf c w
  r2 : (N % (2 ^ w - 1) : Nat) = c.sum
  p : 0 < c.getD far 0
  g : (far : Int) ≤ lev subst a b (far - 1)
structure LawOK1 (a b : List Nat) (w : Nat) : Prop where
  wk : WkOk a b w
  wl : WkLen a b w
  node : ∀ i j, i ≤ a.length → j ≤ b.length → ∃ e least, gets (walked a b w) (4 * (i : Int) + j) = some e ∧ EqD 2 (encF e) (encF (due (toldAt a b i j) (i + j) w)) ∧ least ∈ (toldAt a b i j).map (·.c) ∧ (∀ x ∈ (toldAt a b i j).map (·.c), least ≤ x) ∧
    lev subst (pick2 ((i + j) % 2) (a.take i) (b.take j)) (pick2 (1 - (i + j) % 2) (a.take i) (b.take j)) (least + ((i + j) % 3 : Nat)) = least
  num : ∃ e N far, gets (walked a b w) (4 * (a.length : Int) + b.length) = some e ∧ NumOK a b w e N far (countsOf (toldAt a b a.length b.length) (2 * (a.length + b.length) + 1))
section
variable {K : Act} {F Φ Φ' : FMap} {σ σ' : Sig} {s : Shared} {Q : D → Sig → Prop} {R : LF → Sig → Prop} {sc : Scope} {n : Nat} {rest : List Stmt}
theorem ints_of {vs : List Value} : ∀ {l : List Int}, RVs Φ vs (l.map .int) → ∃ ps : Array (Int × Tok), vs.toArray = intItems ps ∧ ps.size = l.length ∧ ∀ i, i < l.length → numAt ps i = l.getD i 0 := fun {l} r => by
  have key : ∀ {l : List Int} {vs : List Value}, RVs Φ vs (l.map .int) → ∃ ps : List (Int × Tok), vs = ps.map (fun p => Value.int p.1 p.2) ∧ ps.map (·.1) = l := fun {l} => by
    induction l with
    | nil => intro vs r; exact ⟨[], by rw [r.n]; rfl, rfl⟩
    | cons x l ih =>
      intro vs r
      with_reducible refine el_2_3 (r.c) fun v ws oq177 a b => ?_
      obtain rfl := oq177
      with_reducible refine el_1_1 (a.i) fun t oq178 => ?_
      obtain rfl := oq178
      with_reducible refine el_1_2 (ih b) fun ps h1 h2 => ?_
      exact ⟨(x, t) :: ps, by rw [h1]; rfl, by rw [← h2]; rfl⟩
  with_reducible refine el_1_2 (key r) fun ps h1 h2 => ?_
  have hl : ps.length = l.length := by rw [← h2, List.length_map]
  refine ⟨ps.toArray, by rw [h1]; unfold intItems; simp, by simpa using hl, fun i hi => ?_⟩
  unfold numAt
  rw [← h2, List.getD_eq_getElem?_getD, List.getElem?_map]
  simp
theorem blt_minL {l : List Int} {m : Int} (hK : KF K sc n) (hm : m ∈ l) (hle : ∀ x ∈ l, m ≤ x) : BltIs K (.builtin "min") [.list (l.map .int)] (.int m) σ := fun F Φ s vs P S rs k => by
  with_reducible refine el_1_2 (rs.one) fun x oq179 r => ?_
  obtain rfl := oq179
  with_reducible refine el_1_1 (r.listRef) fun a oq180 => ?_
  obtain rfl := oq180
  cases r with
  | @list _ vs c _ e rs =>
    have e' := S.gs.sub _ _ e
    have hl := isList_at e'
    with_reducible refine el_1_3 (ints_of rs) fun ps h1 h2 h3 => ?_
    rw [h1] at hl
    have hne : 0 < ps.size := by rw [h2]; exact List.length_pos_of_mem hm
    refine min_intList hK.hd hl hne fun v h' tk hv hk => ?_
    with_reducible refine el_0_2 (argBest_lt (numAt ps) (ps.size - 1)) fun g1 g2 => ?_
    with_reducible refine el_1_1 (intItems_at hv) fun t oq181 => ?_
    obtain rfl := oq181
    have hlt : argBest (fun i j => decide (numAt ps i < numAt ps j)) (ps.size - 1) < l.length := by (first | lia | omega)
    have e1 : numAt ps (argBest (fun i j => decide (numAt ps i < numAt ps j)) (ps.size - 1)) = m := by
      with_reducible refine el_1_1 (List.getElem_of_mem hm) fun i oq182 => ?_
      obtain ⟨hi, rfl⟩ := oq182
      have a1 := g2 i (by (first | lia | omega))
      rw [h3 i hi, List.getD_eq_getElem?_getD, List.getElem?_eq_getElem hi] at a1
      have a2 := h3 _ hlt
      rw [List.getD_eq_getElem?_getD, List.getElem?_eq_getElem hlt] at a2
      have a3 := hle _ (List.getElem_mem hlt)
      rw [a2] at a1 ⊢
      exact Int.le_antisymm a1 a3
    rw [e1]
    exact k _ _ _ (S.ext (tk := tk) hk) (.refl ..) (.int _ _)
theorem blt_minI {ds : List D} {l : List Int} {m : Int} (hK : KF K sc n) (h : ds = l.map .int) (hm : m ∈ l) (hle : ∀ x ∈ l, m ≤ x) : BltIs K (.builtin "min") [.list ds] (.int m) σ := by subst h; exact blt_minL hK hm hle
end
noncomputable def decE : D → En
  | .tup [.int w, .int c, .int k, .int l] => ⟨w, c, k, l⟩
  | _ => ⟨0, 0, 0, 0⟩
theorem decE_enc (e : En) : decE (encE e) = e := rfl
theorem tx_append (l m : List Nat) : tx l ++ tx m = tx (l ++ m) := by
  show Str.mk (l.toArray ++ m.toArray) = Str.mk (l ++ m).toArray
  congr 1; simp
theorem get_tupN {K : Act} {σ : Sig} {l : List D} {i : Int} {d : D} (h0 : 0 ≤ i) (hi : i < 2 ^ 60) (hd : l[i.toNat]? = some d) : GetIs K (.tup l) (.int i) d σ := fun F Φ s v₁ v₂ P S r₁ r₂ k => by
  with_reducible refine el_1_1 (ref_of_tup r₁) fun a oq183 => ?_
  obtain rfl := oq183
  with_reducible refine el_1_1 (r₂.i) fun t₂ oq184 => ?_
  obtain rfl := oq184
  with_reducible refine el_1_2 (isTuple_of S.gs.sub r₁) fun vs ht rs => ?_
  with_reducible refine el_1_2 (rs.get hd) fun v hv r => ?_
  have hlt : i.toNat < vs.length := (List.getElem?_eq_some_iff.mp hv).1
  have hj : seqIndex? i vs.length = some i.toNat := by
    with_reducible refine el_1_1 (Int.eq_ofNat_of_zero_le h0) fun j oq185 => ?_
    obtain rfl := oq185
    unfold seqIndex?
    simp at hlt ⊢
    (first | lia | omega)
  have hT : IsTup s.heap a vs.toArray := ht
  exact ⟨⟨"tuple", _, hT.typeIs, slot_tuple_getitem.lookup⟩, PyProof.Rows.getItem_tuple hT (by (first | lia | omega)) (by (first | lia | omega)) (by simpa using hj) (by simpa using hv) (k _ _ _ S (.refl ..) r)⟩
theorem told_get {a b : List Nat} {i j : Nat} (ha : a.length ≤ 3) (hb : b.length ≤ 3) (hi : i ≤ a.length) (hj : j ≤ b.length) : valD (encK a.length b.length (listed a b)) (4 * (i : Int) + j) = some (.list ((toldAt a b i j).map encE)) := by
  have hl := (rounds_inv ha hb 4 (Nat.le_refl _)).len
  have hix := ix_lt hi hj
  refine valD_zip (keys_nd ⟨a.length, by (first | lia | omega)⟩ ⟨b.length, by (first | lia | omega)⟩) (keys_get ha hb hi hj) ?_
  have h : (listed a b)[i * (b.length + 1) + j]? = some (toldAt a b i j) := by
    have hlt : i * (b.length + 1) + j < (listed a b).length := by unfold listed; rw [hl]; exact hix
    unfold toldAt ixOf
    rw [List.getD_eq_getElem?_getD, List.getElem?_eq_getElem hlt]; rfl
  rw [List.getElem?_map, h]; rfl
theorem told_ok {a b : List Nat} {i j : Nat} (ha : a.length ≤ 3) (hb : b.length ≤ 3) : (toldAt a b i j).length ≤ 100000 ∧ ∀ e ∈ toldAt a b i j, EnB e := by
  have hR := rounds_inv ha hb 4 (Nat.le_refl _)
  unfold toldAt
  rw [List.getD_eq_getElem?_getD]
  cases h : (listed a b)[ixOf b i j]? with
  | none => exact ⟨Nat.zero_le _, fun e he => by cases he⟩
  | some l =>
    with_reducible refine el_0_2 (hR.ls l (List.mem_of_getElem? h)) fun h1 h2 => ?_
    exact ⟨Nat.le_trans h1 (by decide), h2⟩
theorem pick_at {t : Nat} {x y : List Nat} (h : t < 2) : ([.str (tx x), .str (tx y)] : List D)[t]? = some (.str (tx (pick2 t x y))) := by
  cases t with
  | zero => rfl
  | succ t => cases t with
    | zero => rfl
    | succ t => exact absurd h (by (first | lia | omega))
theorem pick_len {t : Nat} {x y : List Nat} (hx : x.length ≤ 10) (hy : y.length ≤ 10) : (pick2 t x y).length ≤ 10 := by unfold pick2; split <;> assumption
theorem letF_word (ns : List Int) (h : ns.length ≤ 3) : LettersOk (word01 ns) := by
  have l1 : ∀ x : Int, (letW x).length ≤ 1 ∧ ∀ y ∈ letW x, y ∈ letF := fun x => ⟨by unfold letW; rw [List.length_take]; (first | lia | omega), fun y hy => List.mem_of_mem_drop (List.mem_of_mem_take hy)⟩
  have key : ∀ ns : List Int, (word01 ns).length ≤ ns.length ∧ ∀ y ∈ word01 ns, y ∈ letF := fun ns => by
    induction ns with
    | nil => exact ⟨Nat.le_refl _, fun y hy => by cases hy⟩
    | cons x r ih =>
      unfold word01 at ih ⊢
      rw [List.map_cons, List.flatten_cons]
      refine ⟨by rw [List.length_append, List.length_cons]; have := (l1 x).1; have := ih.1; (first | lia | omega), fun y hy => ?_⟩
      rcases List.mem_append.mp hy with hy | hy
      · exact (l1 x).2 y hy
      · exact ih.2 y hy
  exact ⟨Nat.le_trans (key ns).1 h, (key ns).2⟩
theorem eqd_cons {n : Nat} {x y : D} {l m : List D} (h : EqD n x y) (t : ∀ (i : Nat) (d d' : D), l[i]? = some d → m[i]? = some d' → EqD n d d') : ∀ (i : Nat) (d d' : D), (x :: l)[i]? = some d → (y :: m)[i]? = some d' → EqD n d d' := by
  intro i d d' e1 e2
  cases i with
  | zero => obtain rfl := Option.some.inj e1; obtain rfl := Option.some.inj e2; exact h
  | succ i => exact t i d d' e1 e2
theorem encF_eq {n : Nat} {e f : Ent} (h1 : e.cc = f.cc) (h2 : e.nc = f.nc) (h3 : e.tt = f.tt) (h4 : e.ct = f.ct) (h5 : EqD n (.dict (encI e.cs)) (.dict (encI f.cs))) : EqD (n + 1) (encF e) (encF f) := by
  unfold encF
  rw [h1, h2, h3, h4]
  exact .tup rfl (eqd_cons (.int _) (eqd_cons (.int _) (eqd_cons (.int _) (eqd_cons (.int _) (eqd_cons h5 fun i d d' e1 => nomatch e1)))))

/-! ### all ways, as sums -/
noncomputable abbrev Wt := Int → Int → Int → Int
theorem fold_sum {α β : Type} {P : β → Prop} {f : β → α → β} {S : β → Int} {g : α → Int} : ∀ (l : List α) (s : β), (∀ s x, x ∈ l → P s → P (f s x) ∧ S (f s x) = S s + g x) → P s → P (l.foldl f s) ∧ S (l.foldl f s) = S s + (l.map g).sum
  | [], s, _, h => ⟨h, by simp⟩
  | x :: r, s, h, h0 => by
    refine el_0_2 (h s x (.head _) h0) fun h1 h2 => ?_
    refine el_0_2 (fold_sum r (f s x) (fun s y hy => h s y (.tail _ hy)) h1) fun h3 h4 => ?_
    refine ⟨h3, ?_⟩
    rw [List.foldl_cons, h4, h2, List.map_cons, List.sum_cons]; (first | lia | omega)
theorem pick_sum {v : Nat → Int} {i : Nat} : ∀ (k p : Nat), ((List.range' p k).map fun j => if j = i then v j else 0).sum = if p ≤ i ∧ i < p + k then v i else 0 := by
  intro k
  induction k with
  | zero => exact fun p => (if_neg (by (first | lia | omega))).symm
  | succ k ih =>
    intro p
    rw [List.range'_succ, List.map_cons, List.sum_cons, ih (p + 1)]
    by_cases h : p = i
    · subst h; rw [if_pos rfl, if_neg (by (first | lia | omega)), if_pos (by (first | lia | omega))]; (first | lia | omega)
    · rw [if_neg h]
      by_cases h2 : p + 1 ≤ i ∧ i < p + 1 + k
      · rw [if_pos h2, if_pos (by (first | lia | omega))]; (first | lia | omega)
      · rw [if_neg h2, if_neg (by (first | lia | omega))]; (first | lia | omega)
noncomputable def wsm (φ : Wt) (T : List En) : Int := (T.map fun e => e.w * φ e.c e.k e.l).sum
section
variable {a b : List Nat}
noncomputable def vl (φ : Wt) (x : Ch) (i j : Nat) : Int := (enOf x i j).w * φ (enOf x i j).c (enOf x i j).k (enOf x i j).l
noncomputable def xv (φ : Wt) (x : Ch) (i j : Nat) : Int := if x.p ≤ i ∧ x.q ≤ j then vl φ x i j else 0
theorem ix_inj {i j i' j' : Nat} (hb : b.length ≤ 3) (hj : j ≤ b.length) (hj' : j' ≤ b.length) : ixOf b i j = ixOf b i' j' ↔ i = i' ∧ j = j' := by
  unfold ixOf
  constructor
  · intro h
    have key : ∀ n i i' j j' : Nat, j ≤ n → i * (n + 1) + j = i' * (n + 1) + j' → i' ≤ i := fun n i i' j j' h1 h3 => by
      refine Nat.le_of_not_lt fun q => ?_
      have h4 := Nat.mul_le_mul_right (n + 1) q
      rw [Nat.succ_mul] at h4
      generalize i * (n + 1) = x at h3 h4
      generalize i' * (n + 1) = y at h3 h4
      (first | lia | omega)
    have e := Nat.le_antisymm (key _ _ _ _ _ hj' h.symm) (key _ _ _ _ _ hj h)
    subst e
    exact ⟨rfl, Nat.add_left_cancel h⟩
  · rintro ⟨rfl, rfl⟩; rfl
noncomputable def BkL (a b : List Nat) (st : Bk × List Ch) : Prop := st.1.length = (a.length + 1) * (b.length + 1)
theorem sum_J {φ : Wt} {x : Ch} {i j i' j' : Nat} {st : Bk × List Ch} (hb : b.length ≤ 3) (hi : i ≤ a.length) (hj : j ≤ b.length) (hj' : j' ≤ b.length) (h : BkL a b st) :
    BkL a b (stepJ a b x i st j) ∧ wsm φ ((stepJ a b x i st j).1.getD (ixOf b i' j') []) = wsm φ (st.1.getD (ixOf b i' j') []) + if j = j' then (if i = i' then vl φ x i j else 0) else 0 := by
  refine ⟨by unfold BkL stepJ at *; rw [List.length_set]; exact h, ?_⟩
  have hix : ixOf b i j < st.1.length := by rw [show st.1.length = _ from h]; exact ix_lt hi hj
  show wsm φ ((st.1.set (ixOf b i j) _).getD (ixOf b i' j') []) = _
  rw [List.getD_eq_getElem?_getD, List.getElem?_set]
  by_cases e : ixOf b i j = ixOf b i' j'
  · with_reducible refine el_0_2 ((ix_inj hb hj hj').mp e) fun oq186 oq187 => ?_
    obtain rfl := oq186
    obtain rfl := oq187
    rw [if_pos rfl, if_pos hix, if_pos rfl, if_pos rfl]
    show wsm φ (st.1.getD _ [] ++ [_]) = _
    unfold wsm vl
    rw [List.map_append, List.sum_append]; simp
  · rw [if_neg e, ← List.getD_eq_getElem?_getD]
    have : ¬(i = i' ∧ j = j') := fun q => e ((ix_inj hb hj hj').mpr q)
    by_cases h1 : j = j'
    · rw [if_pos h1, if_neg (fun q => this ⟨q, h1⟩)]; (first | lia | omega)
    · rw [if_neg h1]; (first | lia | omega)
theorem sum_I {φ : Wt} {x : Ch} {i i' j' : Nat} {st : Bk × List Ch} (hb : b.length ≤ 3) (hi : i ≤ a.length) (hq : x.q ≤ b.length) (hj' : j' ≤ b.length) (h : BkL a b st) :
    BkL a b (stepI a b x st i) ∧ wsm φ ((stepI a b x st i).1.getD (ixOf b i' j') []) = wsm φ (st.1.getD (ixOf b i' j') []) + if i = i' then (if x.q ≤ j' then vl φ x i j' else 0) else 0 := by
  obtain ⟨h1, h2⟩ := fold_sum (P := BkL a b) (S := fun st => wsm φ (st.1.getD (ixOf b i' j') [])) (f := stepJ a b x i) (g := fun j => if j = j' then (if i = i' then vl φ x i j else 0) else 0) (List.range' x.q (b.length + 1 - x.q)) st
    (fun s j hj hs => sum_J hb hi (by have := (mem_range' hj).2; (first | lia | omega)) hj' hs) h
  refine ⟨h1, h2.trans ?_⟩
  rw [pick_sum (v := fun j => if i = i' then vl φ x i j else 0)]
  congr 1
  by_cases e : i = i'
  · rw [if_pos e, if_pos e]
    by_cases q : x.q ≤ j'
    · rw [if_pos q, if_pos (by (first | lia | omega))]
    · rw [if_neg q, if_neg (fun z => q z.1)]
  · rw [if_neg e, if_neg e]; simp
theorem sum_X {φ : Wt} {x : Ch} {i' j' : Nat} {st : Bk × List Ch} (hb : b.length ≤ 3) (hp : x.p ≤ a.length) (hq : x.q ≤ b.length) (hi' : i' ≤ a.length) (hj' : j' ≤ b.length) (h : BkL a b st) :
    BkL a b (stepX a b st x) ∧ wsm φ ((stepX a b st x).1.getD (ixOf b i' j') []) = wsm φ (st.1.getD (ixOf b i' j') []) + xv φ x i' j' := by
  obtain ⟨h1, h2⟩ := fold_sum (P := BkL a b) (S := fun st => wsm φ (st.1.getD (ixOf b i' j') [])) (f := stepI a b x) (g := fun i => if i = i' then (if x.q ≤ j' then vl φ x i j' else 0) else 0) (List.range' x.p (a.length + 1 - x.p)) st
    (fun s i hi hs => sum_I hb (by have := (mem_range' hi).2; (first | lia | omega)) hq hj' hs) h
  refine ⟨h1, h2.trans ?_⟩
  rw [pick_sum (v := fun i => if x.q ≤ j' then vl φ x i j' else 0)]
  congr 1
  unfold xv
  by_cases e : x.p ≤ i'
  · rw [if_pos (by (first | lia | omega))]
    by_cases q : x.q ≤ j'
    · rw [if_pos q, if_pos ⟨e, q⟩]
    · rw [if_neg q, if_neg (fun z => q z.2)]
  · rw [if_neg (fun z => e z.1), if_neg (fun z => e z.1)]
noncomputable def xs (a b : List Nat) (ψ : Ch → Int) (r : Nat) : Int := ((rounds a b r).2.map ψ).sum
theorem sum_R {φ : Wt} {r i' j' : Nat} (ha : a.length ≤ 3) (hb : b.length ≤ 3) (hr : r ≤ 3) (hi' : i' ≤ a.length) (hj' : j' ≤ b.length) :
    wsm φ ((rounds a b (r + 1)).1.getD (ixOf b i' j') []) = wsm φ ((rounds a b r).1.getD (ixOf b i' j') []) + xs a b (fun x => xv φ x i' j') r := by
  have hR := rounds_inv ha hb r (by (first | lia | omega))
  exact (fold_sum (P := BkL a b) (S := fun st => wsm φ (st.1.getD (ixOf b i' j') [])) (f := stepX a b) (g := fun x => xv φ x i' j') (rounds a b r).2 ((rounds a b r).1, [])
    (fun s x hx hs => sum_X hb (hR.ch x hx).p1 (hR.ch x hx).q1 hi' hj' hs) hR.len).2
noncomputable def TT (a b : List Nat) (φ : Wt) (i j : Nat) : Int := xs a b (fun x => xv φ x i j) 0 + xs a b (fun x => xv φ x i j) 1 + xs a b (fun x => xv φ x i j) 2 + xs a b (fun x => xv φ x i j) 3
theorem told_sum {φ : Wt} {i j : Nat} (ha : a.length ≤ 3) (hb : b.length ≤ 3) (hi : i ≤ a.length) (hj : j ≤ b.length) : wsm φ (toldAt a b i j) = TT a b φ i j := by
  unfold toldAt listed TT
  rw [sum_R ha hb (by (first | lia | omega)) hi hj, sum_R ha hb (by (first | lia | omega)) hi hj, sum_R ha hb (by (first | lia | omega)) hi hj, sum_R ha hb (by (first | lia | omega)) hi hj]
  have e : wsm φ ((rounds a b 0).1.getD (ixOf b i j) []) = 0 := by
    show wsm φ ((List.replicate ((a.length + 1) * (b.length + 1)) ([] : List En)).getD (ixOf b i j) []) = 0
    rw [List.getD_eq_getElem?_getD, List.getElem?_replicate]
    split <;> rfl
  rw [e]; (first | lia | omega)
/-! the chains of the next round -/
theorem nx_J {ψ : Ch → Int} {x : Ch} {i j : Nat} {st : Bk × List Ch} : (((stepJ a b x i st j).2).map ψ).sum = (st.2.map ψ).sum + if i < a.length ∧ j < b.length then ψ (chOf a b x i j) else 0 := by
  show ((if i < a.length ∧ j < b.length then st.2 ++ [chOf a b x i j] else st.2).map ψ).sum = _
  split
  · rw [List.map_append, List.sum_append]; simp
  · (first | lia | omega)
noncomputable def at_ (φ : Wt) (i j : Nat) (x : Ch) : Int := if x.p = i ∧ x.q = j then x.w * φ x.c x.k x.l else 0
noncomputable def up (a b : List Nat) (φ : Wt) (i j : Nat) : Wt := fun c k _ => φ (c + prAt a b i j) (k + 1) (prAt a b i j)
noncomputable def dn (φ : Wt) : Wt := fun c k _ => φ (c + 2) k 2
theorem at_ch {φ : Wt} {x : Ch} {i j i' j' : Nat} : at_ φ (i' + 1) (j' + 1) (chOf a b x i j) = if j = j' then (if i = i' then vl (up a b φ i j) x i j else 0) else 0 := by
  unfold at_
  by_cases h1 : j = j'
  · by_cases h2 : i = i'
    · subst h1; subst h2
      rw [if_pos ⟨rfl, rfl⟩, if_pos rfl, if_pos rfl]; rfl
    · rw [if_neg (fun z => h2 (by have := z.1; exact Nat.succ.inj this)), if_pos h1, if_neg h2]
  · rw [if_neg (fun z => h1 (by have := z.2; exact Nat.succ.inj this)), if_neg h1]
theorem nx_I {φ : Wt} {x : Ch} {i i' j' : Nat} {st : Bk × List Ch} (hi' : i' < a.length) (hj' : j' < b.length) (hq : x.q ≤ b.length) :
    (((stepI a b x st i).2).map (at_ φ (i' + 1) (j' + 1))).sum = (st.2.map (at_ φ (i' + 1) (j' + 1))).sum + if i = i' then (if x.q ≤ j' then vl (up a b φ i' j') x i' j' else 0) else 0 := by
  have h := (fold_sum (P := fun _ => True) (S := fun st : Bk × List Ch => (st.2.map (at_ φ (i' + 1) (j' + 1))).sum) (f := stepJ a b x i) (g := fun j => if j = j' then (if i = i' then vl (up a b φ i j) x i j else 0) else 0) (List.range' x.q (b.length + 1 - x.q)) st
    (fun s j hj _ => ⟨trivial, by
      show ((stepJ a b x i s j).2.map _).sum = _
      rw [nx_J, at_ch]
      by_cases h1 : j = j'
      · by_cases h2 : i = i'
        · rw [if_pos (by (first | lia | omega))]
        · rw [if_pos h1, if_neg h2]; split <;> rfl
      · rw [if_neg h1]; split <;> rfl⟩) trivial).2
  refine h.trans ?_
  rw [pick_sum (v := fun j => if i = i' then vl (up a b φ i j) x i j else 0)]
  congr 1
  by_cases e : i = i'
  · subst e
    rw [if_pos rfl, if_pos rfl]
    by_cases q : x.q ≤ j'
    · rw [if_pos q, if_pos (by (first | lia | omega))]
    · rw [if_neg q, if_neg (fun z => q z.1)]
  · rw [if_neg e, if_neg e]; simp
theorem nx_R {φ : Wt} {r i' j' : Nat} (ha : a.length ≤ 3) (hb : b.length ≤ 3) (hr : r ≤ 3) (hi' : i' < a.length) (hj' : j' < b.length) :
    xs a b (at_ φ (i' + 1) (j' + 1)) (r + 1) = xs a b (fun x => xv (up a b φ i' j') x i' j') r := by
  have hR := rounds_inv ha hb r (by (first | lia | omega))
  have hX : ∀ (s : Bk × List Ch) x, x ∈ (rounds a b r).2 → (((stepX a b s x).2).map (at_ φ (i' + 1) (j' + 1))).sum = (s.2.map (at_ φ (i' + 1) (j' + 1))).sum + xv (up a b φ i' j') x i' j' := fun s x hx => by
    have hp := (hR.ch x hx).p1
    have hq := (hR.ch x hx).q1
    have h := (fold_sum (P := fun _ => True) (S := fun st : Bk × List Ch => (st.2.map (at_ φ (i' + 1) (j' + 1))).sum) (f := stepI a b x) (g := fun i => if i = i' then (if x.q ≤ j' then vl (up a b φ i' j') x i' j' else 0) else 0) (List.range' x.p (a.length + 1 - x.p)) s
      (fun s i hi _ => ⟨trivial, nx_I hi' hj' hq⟩) trivial).2
    refine h.trans ?_
    rw [pick_sum (v := fun i => if x.q ≤ j' then vl (up a b φ i' j') x i' j' else 0)]
    congr 1
    unfold xv
    by_cases e : x.p ≤ i'
    · rw [if_pos (by (first | lia | omega))]
      by_cases q : x.q ≤ j'
      · rw [if_pos q, if_pos ⟨e, q⟩]
      · rw [if_neg q, if_neg (fun z => q z.2)]
    · rw [if_neg (fun z => e z.1), if_neg (fun z => e z.1)]
  have h := (fold_sum (P := fun _ => True) (S := fun st : Bk × List Ch => (st.2.map (at_ φ (i' + 1) (j' + 1))).sum) (f := stepX a b) (g := fun x => xv (up a b φ i' j') x i' j') (rounds a b r).2 ((rounds a b r).1, []) (fun s x hx _ => ⟨trivial, hX s x hx⟩) trivial).2
  refine h.trans ?_
  show ([].map _).sum + _ = _
  simp [xs]
end

theorem sum_nul {α : Type} : ∀ l : List α, (l.map fun _ => (0 : Int)).sum = 0
  | [] => rfl
  | _ :: l => by rw [List.map_cons, List.sum_cons, sum_nul l]; rfl
theorem many_pas : ∀ u : Fin 4, ∀ v : Fin 4, ¬(u.val = 0 ∧ v.val = 0) → many u.val v.val = (if 1 ≤ u.val then many (u.val - 1) v.val else 0) + (if 1 ≤ v.val then many u.val (v.val - 1) else 0) := by decide +kernel
theorem many_00 : many 0 0 = 1 := by decide
section
variable {a b : List Nat}
theorem vl_at {φ : Wt} {x : Ch} {i j : Nat} (h : gapsC x i j ≠ 0) : vl φ x i j = x.w * many (i - x.p) (j - x.q) * φ (x.c + 2 * (gapsC x i j : Int)) x.k 2 := by
  unfold vl enOf toldC
  dsimp only
  rw [if_neg h]
theorem vl_dn {φ : Wt} {x : Ch} {i j : Nat} : vl (dn φ) x i j = x.w * many (i - x.p) (j - x.q) * φ (x.c + 2 * (gapsC x i j : Int) + 2) x.k 2 := rfl
theorem xv_pas {φ : Wt} {x : Ch} {i j : Nat} (hi : i ≤ 3) (hj : j ≤ 3) : xv φ x i j = at_ φ i j x + (if 1 ≤ i then xv (dn φ) x (i - 1) j else 0) + (if 1 ≤ j then xv (dn φ) x i (j - 1) else 0) := by
  unfold xv at_
  by_cases hp : x.p ≤ i
  · by_cases hq : x.q ≤ j
    · rw [if_pos ⟨hp, hq⟩]
      by_cases e : x.p = i ∧ x.q = j
      · rw [if_pos e]
        have z : gapsC x i j = 0 := by unfold gapsC; (first | lia | omega)
        have v0 : vl φ x i j = x.w * φ x.c x.k x.l := by
          unfold vl enOf toldC
          dsimp only
          rw [if_pos z, z, show i - x.p = 0 by (first | lia | omega), show j - x.q = 0 by (first | lia | omega), many_00]
          simp
        have h1 : (if 1 ≤ i then (if x.p ≤ i - 1 ∧ x.q ≤ j then vl (dn φ) x (i - 1) j else 0) else 0) = 0 := by
          split
          · rw [if_neg (by (first | lia | omega))]
          · rfl
        have h2 : (if 1 ≤ j then (if x.p ≤ i ∧ x.q ≤ j - 1 then vl (dn φ) x i (j - 1) else 0) else 0) = 0 := by
          split
          · rw [if_neg (by (first | lia | omega))]
          · rfl
        rw [v0, h1, h2]; (first | lia | omega)
      · rw [if_neg e]
        have z : gapsC x i j ≠ 0 := by unfold gapsC; (first | lia | omega)
        have hm := many_pas ⟨i - x.p, by (first | lia | omega)⟩ ⟨j - x.q, by (first | lia | omega)⟩ (by show ¬(i - x.p = 0 ∧ j - x.q = 0); (first | lia | omega))
        dsimp only at hm
        rw [vl_at z, hm]
        have h1 : (if 1 ≤ i then (if x.p ≤ i - 1 ∧ x.q ≤ j then vl (dn φ) x (i - 1) j else 0) else 0) = x.w * (if 1 ≤ i - x.p then many (i - x.p - 1) (j - x.q) else 0) * φ (x.c + 2 * (gapsC x i j : Int)) x.k 2 := by
          by_cases q : 1 ≤ i - x.p
          · rw [if_pos q, if_pos (by (first | lia | omega)), if_pos (by (first | lia | omega)), vl_dn]
            have e1 : i - 1 - x.p = i - x.p - 1 := by (first | lia | omega)
            have e2 : (x.c + 2 * (gapsC x (i - 1) j : Int) + 2) = x.c + 2 * (gapsC x i j : Int) := by unfold gapsC; (first | lia | omega)
            rw [e1, e2]
          · rw [if_neg q]
            split
            · rw [if_neg (by (first | lia | omega))]; simp
            · simp
        have h2 : (if 1 ≤ j then (if x.p ≤ i ∧ x.q ≤ j - 1 then vl (dn φ) x i (j - 1) else 0) else 0) = x.w * (if 1 ≤ j - x.q then many (i - x.p) (j - x.q - 1) else 0) * φ (x.c + 2 * (gapsC x i j : Int)) x.k 2 := by
          by_cases q : 1 ≤ j - x.q
          · rw [if_pos q, if_pos (by (first | lia | omega)), if_pos (by (first | lia | omega)), vl_dn]
            have e1 : j - 1 - x.q = j - x.q - 1 := by (first | lia | omega)
            have e2 : (x.c + 2 * (gapsC x i (j - 1) : Int) + 2) = x.c + 2 * (gapsC x i j : Int) := by unfold gapsC; (first | lia | omega)
            rw [e1, e2]
          · rw [if_neg q]
            split
            · rw [if_neg (by (first | lia | omega))]; simp
            · simp
        rw [h1, h2, Int.mul_add, Int.add_mul]; (first | lia | omega)
    · rw [if_neg (by (first | lia | omega)), if_neg (by (first | lia | omega))]
      have h1 : (if 1 ≤ i then (if x.p ≤ i - 1 ∧ x.q ≤ j then vl (dn φ) x (i - 1) j else 0) else 0) = 0 := by
        rw [if_neg (show ¬(x.p ≤ i - 1 ∧ x.q ≤ j) by (first | lia | omega))]; simp
      have h2 : (if 1 ≤ j then (if x.p ≤ i ∧ x.q ≤ j - 1 then vl (dn φ) x i (j - 1) else 0) else 0) = 0 := by
        rw [if_neg (show ¬(x.p ≤ i ∧ x.q ≤ j - 1) by (first | lia | omega))]; simp
      rw [h1, h2]; rfl
  · rw [if_neg (by (first | lia | omega)), if_neg (by (first | lia | omega))]
    have h1 : (if 1 ≤ i then (if x.p ≤ i - 1 ∧ x.q ≤ j then vl (dn φ) x (i - 1) j else 0) else 0) = 0 := by
      rw [if_neg (show ¬(x.p ≤ i - 1 ∧ x.q ≤ j) by (first | lia | omega))]; simp
    have h2 : (if 1 ≤ j then (if x.p ≤ i ∧ x.q ≤ j - 1 then vl (dn φ) x i (j - 1) else 0) else 0) = 0 := by
      rw [if_neg (show ¬(x.p ≤ i ∧ x.q ≤ j - 1) by (first | lia | omega))]; simp
    rw [h1, h2]; rfl
theorem xs_pas {φ : Wt} {i j r : Nat} (hi : i ≤ 3) (hj : j ≤ 3) : xs a b (fun x => xv φ x i j) r = xs a b (at_ φ i j) r + (if 1 ≤ i then xs a b (fun x => xv (dn φ) x (i - 1) j) r else 0) + (if 1 ≤ j then xs a b (fun x => xv (dn φ) x i (j - 1)) r else 0) := by
  unfold xs
  have e : (fun x => xv φ x i j) = fun x => (at_ φ i j x + (if 1 ≤ i then xv (dn φ) x (i - 1) j else 0)) + (if 1 ≤ j then xv (dn φ) x i (j - 1) else 0) := by funext x; exact xv_pas hi hj
  rw [e, sum_add, sum_add]
  congr 1
  · congr 1
    split
    · rfl
    · exact sum_nul _
  · split
    · rfl
    · exact sum_nul _
theorem xs_zero {ψ : Ch → Int} {r : Nat} (h : ∀ x ∈ (rounds a b r).2, ψ x = 0) : xs a b ψ r = 0 := by
  unfold xs
  rw [List.map_congr_left h]; exact sum_nul _
theorem at_start {φ : Wt} {i j : Nat} : xs a b (at_ φ i j) 0 = if i = 0 ∧ j = 0 then φ 0 0 0 else 0 := by
  show (([⟨0, 0, 1, 0, 0, 0⟩] : List Ch).map (at_ φ i j)).sum = _
  unfold at_
  simp only [List.map_cons, List.map_nil, List.sum_cons, List.sum_nil]
  by_cases h : i = 0 ∧ j = 0
  · (with_reducible refine el_0_2 (h) fun oq188 oq189 => ?_); try clear h; obtain rfl := oq188; obtain rfl := oq189; simp
  · rw [if_neg h, if_neg (fun z => h ⟨z.1.symm, z.2.symm⟩)]; rfl
theorem at_late {φ : Wt} {i j r : Nat} (ha : a.length ≤ 3) (hb : b.length ≤ 3) (hr : r ≤ 4) (h : i < r ∨ j < r) : xs a b (at_ φ i j) r = 0 :=
  xs_zero fun x hx => by
    have hR := (rounds_inv ha hb r hr).ch x hx
    have := hR.p0; have := hR.q0
    unfold at_; rw [if_neg (by (first | lia | omega))]
theorem TT_rec {φ : Wt} {i j : Nat} (ha : a.length ≤ 3) (hb : b.length ≤ 3) (hi : i ≤ a.length) (hj : j ≤ b.length) :
    TT a b φ i j = (if i = 0 ∧ j = 0 then φ 0 0 0 else 0) + (if 1 ≤ i ∧ 1 ≤ j then TT a b (up a b φ (i - 1) (j - 1)) (i - 1) (j - 1) else 0) + (if 1 ≤ i then TT a b (dn φ) (i - 1) j else 0) + (if 1 ≤ j then TT a b (dn φ) i (j - 1) else 0) := by
  have hp := fun r => xs_pas (a := a) (b := b) (φ := φ) (i := i) (j := j) (r := r) (by (first | lia | omega)) (by (first | lia | omega))
  have hE : xs a b (at_ φ i j) 0 + xs a b (at_ φ i j) 1 + xs a b (at_ φ i j) 2 + xs a b (at_ φ i j) 3 = (if i = 0 ∧ j = 0 then φ 0 0 0 else 0) + (if 1 ≤ i ∧ 1 ≤ j then TT a b (up a b φ (i - 1) (j - 1)) (i - 1) (j - 1) else 0) := by
    rw [at_start]
    by_cases h : 1 ≤ i ∧ 1 ≤ j
    · obtain ⟨i', rfl⟩ : ∃ i', i = i' + 1 := ⟨i - 1, by (first | lia | omega)⟩
      obtain ⟨j', rfl⟩ : ∃ j', j = j' + 1 := ⟨j - 1, by (first | lia | omega)⟩
      rw [if_pos h, nx_R ha hb (by (first | lia | omega)) (by (first | lia | omega)) (by (first | lia | omega)), nx_R ha hb (by (first | lia | omega)) (by (first | lia | omega)) (by (first | lia | omega)), nx_R ha hb (by (first | lia | omega)) (by (first | lia | omega)) (by (first | lia | omega))]
      have h3 : xs a b (fun x => xv (up a b φ i' j') x i' j') 3 = 0 := xs_zero fun x hx => by
        have hR := (rounds_inv ha hb 3 (by (first | lia | omega))).ch x hx
        have := hR.p0
        unfold xv; rw [if_neg (by (first | lia | omega))]
      show _ = _ + TT a b (up a b φ i' j') i' j'
      unfold TT
      rw [h3]; (first | lia | omega)
    · rw [if_neg h, at_late ha hb (by (first | lia | omega)) (by (first | lia | omega)), at_late ha hb (by (first | lia | omega)) (by (first | lia | omega)), at_late ha hb (by (first | lia | omega)) (by (first | lia | omega))]; (first | lia | omega)
  have e : TT a b φ i j = (xs a b (at_ φ i j) 0 + xs a b (at_ φ i j) 1 + xs a b (at_ φ i j) 2 + xs a b (at_ φ i j) 3) + (if 1 ≤ i then TT a b (dn φ) (i - 1) j else 0) + (if 1 ≤ j then TT a b (dn φ) i (j - 1) else 0) := by
    unfold TT
    rw [hp 0, hp 1, hp 2, hp 3]
    by_cases h1 : 1 ≤ i <;> by_cases h2 : 1 ≤ j <;> simp only [h1, h2, if_true, if_false] <;> (first | lia | omega)
  rw [e, hE]
/-- what holds of all sums: by the steps -/
theorem TT_ind {P : Wt → Nat → Nat → Prop} (h : ∀ φ i j, i ≤ a.length → j ≤ b.length → (1 ≤ i → 1 ≤ j → P (up a b φ (i - 1) (j - 1)) (i - 1) (j - 1)) → (1 ≤ i → P (dn φ) (i - 1) j) → (1 ≤ j → P (dn φ) i (j - 1)) → P φ i j) :
    ∀ φ i j, i ≤ a.length → j ≤ b.length → P φ i j := by
  have key : ∀ k φ i j, i + j ≤ k → i ≤ a.length → j ≤ b.length → P φ i j := fun k => by
    induction k with
    | zero => intro φ i j hk hi hj; exact h φ i j hi hj (by (first | lia | omega)) (by (first | lia | omega)) (by (first | lia | omega))
    | succ k ih => intro φ i j hk hi hj; exact h φ i j hi hj (fun h1 h2 => ih _ _ _ (by (first | lia | omega)) (by (first | lia | omega)) (by (first | lia | omega))) (fun h1 => ih _ _ _ (by (first | lia | omega)) (by (first | lia | omega)) hj) (fun h2 => ih _ _ _ (by (first | lia | omega)) hi (by (first | lia | omega)))
  exact fun φ i j hi hj => key (i + j) φ i j (Nat.le_refl _) hi hj
theorem TT_lin (A B : Int) {φ φ' : Wt} {i j : Nat} : TT a b (fun c k l => A * φ c k l + B * φ' c k l) i j = A * TT a b φ i j + B * TT a b φ' i j := by
  have hx : ∀ r, xs a b (fun x => xv (fun c k l => A * φ c k l + B * φ' c k l) x i j) r = A * xs a b (fun x => xv φ x i j) r + B * xs a b (fun x => xv φ' x i j) r := fun r => by
    unfold xs
    have e : (fun x => xv (fun c k l => A * φ c k l + B * φ' c k l) x i j) = fun x => A * xv φ x i j + B * xv φ' x i j := by
      funext x
      unfold xv vl
      split
      · grind
      · simp
    rw [e, sum_add, sum_mul, sum_mul]
  unfold TT
  rw [hx, hx, hx, hx]
  grind
end

section
variable {a b : List Nat}
theorem prAt_le (i j : Nat) : 0 ≤ prAt a b i j ∧ prAt a b i j ≤ 2 := price_le _ _
theorem TT_congr (ha : a.length ≤ 3) (hb : b.length ≤ 3) {φ φ' : Wt} {i j : Nat} (hi : i ≤ a.length) (hj : j ≤ b.length) (h : ∀ c k l, 0 ≤ c → c ≤ 2 * ((i : Int) + j) → φ c k l = φ' c k l) : TT a b φ i j = TT a b φ' i j := by
  refine TT_ind (P := fun φ i j => ∀ φ' : Wt, (∀ c k l, 0 ≤ c → c ≤ 2 * ((i : Int) + j) → φ c k l = φ' c k l) → TT a b φ i j = TT a b φ' i j) (fun φ i j hi hj h1 h2 h3 φ' h => ?_) φ i j hi hj φ' h
  rw [TT_rec ha hb hi hj, TT_rec (φ := φ') ha hb hi hj]
  congr 1
  · congr 1
    · congr 1
      · split
        · exact h 0 0 0 (by (first | lia | omega)) (by (first | lia | omega))
        · rfl
      · split
        · rename_i q
          have hp := prAt_le (a := a) (b := b) (i - 1) (j - 1)
          exact h1 q.1 q.2 _ fun c k l hc hc2 => h _ _ _ (by (first | lia | omega)) (by (first | lia | omega))
        · rfl
    · split
      · rename_i q
        exact h2 q _ fun c k l hc hc2 => h _ _ _ (by (first | lia | omega)) (by (first | lia | omega))
      · rfl
  · split
    · rename_i q
      exact h3 q _ fun c k l hc hc2 => h _ _ _ (by (first | lia | omega)) (by (first | lia | omega))
    · rfl
theorem TT_nn (ha : a.length ≤ 3) (hb : b.length ≤ 3) {φ : Wt} {i j : Nat} (hi : i ≤ a.length) (hj : j ≤ b.length) (h : ∀ c k l, 0 ≤ c → c ≤ 2 * ((i : Int) + j) → 0 ≤ φ c k l) : 0 ≤ TT a b φ i j := by
  refine TT_ind (P := fun φ i j => (∀ c k l, 0 ≤ c → c ≤ 2 * ((i : Int) + j) → 0 ≤ φ c k l) → 0 ≤ TT a b φ i j) (fun φ i j hi hj h1 h2 h3 h => ?_) φ i j hi hj h
  rw [TT_rec ha hb hi hj]
  have x0 : 0 ≤ (if i = 0 ∧ j = 0 then φ 0 0 0 else 0) := by
    split
    · exact h 0 0 0 (by (first | lia | omega)) (by (first | lia | omega))
    · (first | lia | omega)
  have x1 : 0 ≤ (if 1 ≤ i ∧ 1 ≤ j then TT a b (up a b φ (i - 1) (j - 1)) (i - 1) (j - 1) else 0) := by
    split
    · rename_i q
      have hp := prAt_le (a := a) (b := b) (i - 1) (j - 1)
      exact h1 q.1 q.2 fun c k l hc hc2 => h _ _ _ (by (first | lia | omega)) (by (first | lia | omega))
    · (first | lia | omega)
  have x2 : 0 ≤ (if 1 ≤ i then TT a b (dn φ) (i - 1) j else 0) := by
    split
    · rename_i q; exact h2 q fun c k l hc hc2 => h _ _ _ (by (first | lia | omega)) (by (first | lia | omega))
    · (first | lia | omega)
  have x3 : 0 ≤ (if 1 ≤ j then TT a b (dn φ) i (j - 1) else 0) := by
    split
    · rename_i q; exact h3 q fun c k l hc hc2 => h _ _ _ (by (first | lia | omega)) (by (first | lia | omega))
    · (first | lia | omega)
  (first | lia | omega)
theorem TT_mono (ha : a.length ≤ 3) (hb : b.length ≤ 3) {φ φ' : Wt} {i j : Nat} (hi : i ≤ a.length) (hj : j ≤ b.length) (h : ∀ c k l, 0 ≤ c → c ≤ 2 * ((i : Int) + j) → φ c k l ≤ φ' c k l) : TT a b φ i j ≤ TT a b φ' i j := by
  have := TT_nn ha hb (φ := fun c k l => 1 * φ' c k l + (-1) * φ c k l) hi hj fun c k l h1 h2 => by have := h c k l h1 h2; (first | lia | omega)
  rw [TT_lin] at this; (first | lia | omega)
noncomputable def one1 : Wt := fun _ _ _ => 1
theorem TT_const (A : Int) {i j : Nat} : TT a b (fun _ _ _ => A) i j = A * TT a b one1 i j := by
  have := TT_lin (a := a) (b := b) (i := i) (j := j) A 0 (φ := one1) (φ' := one1)
  have e : (fun c k l => A * one1 c k l + 0 * one1 c k l) = fun _ _ _ => A := by funext c k l; unfold one1; (first | lia | omega)
  rw [e] at this; (first | lia | omega)
theorem TT_add {φ φ' : Wt} {i j : Nat} : TT a b (fun c k l => φ c k l + φ' c k l) i j = TT a b φ i j + TT a b φ' i j := by
  have := TT_lin (a := a) (b := b) (i := i) (j := j) 1 1 (φ := φ) (φ' := φ')
  have e : (fun c k l => 1 * φ c k l + 1 * φ' c k l) = fun c k l => φ c k l + φ' c k l := by funext c k l; (first | lia | omega)
  rw [e] at this; (first | lia | omega)
theorem TT_mul (A : Int) {φ : Wt} {i j : Nat} : TT a b (fun c k l => A * φ c k l) i j = A * TT a b φ i j := by
  have := TT_lin (a := a) (b := b) (i := i) (j := j) A 0 (φ := φ) (φ' := φ)
  have e : (fun c k l => A * φ c k l + 0 * φ c k l) = fun c k l => A * φ c k l := by funext c k l; (first | lia | omega)
  rw [e] at this; (first | lia | omega)
noncomputable def delL : List (List Int) := [[1, 1, 1, 1], [1, 3, 5, 7], [1, 5, 13, 25], [1, 7, 25, 63]]
noncomputable def del (i j : Nat) : Int := (delL.getD i []).getD j 0
theorem del_rec : ∀ i : Fin 4, ∀ j : Fin 4, del i.val j.val = (if i.val = 0 ∧ j.val = 0 then 1 else 0) + (if 1 ≤ i.val ∧ 1 ≤ j.val then del (i.val - 1) (j.val - 1) else 0) + (if 1 ≤ i.val then del (i.val - 1) j.val else 0) + (if 1 ≤ j.val then del i.val (j.val - 1) else 0) := by decide +kernel
theorem del_le : ∀ i : Fin 4, ∀ j : Fin 4, 1 ≤ del i.val j.val ∧ del i.val j.val ≤ 63 := by decide +kernel
theorem TT_one (ha : a.length ≤ 3) (hb : b.length ≤ 3) {i j : Nat} (hi : i ≤ a.length) (hj : j ≤ b.length) : TT a b one1 i j = del i j := by
  refine TT_ind (P := fun φ i j => φ = one1 → TT a b φ i j = del i j) (fun φ i j hi hj h1 h2 h3 h => ?_) one1 i j hi hj rfl
  subst h
  have hd := del_rec ⟨i, by (first | lia | omega)⟩ ⟨j, by (first | lia | omega)⟩
  dsimp only at hd
  rw [TT_rec ha hb hi hj, hd]
  congr 1
  · congr 1
    · congr 1
      split
      · rename_i q; exact h1 q.1 q.2 rfl
      · rfl
    · split
      · rename_i q; exact h2 q rfl
      · rfl
  · split
    · rename_i q; exact h3 q rfl
    · rfl
theorem TT_one_le (ha : a.length ≤ 3) (hb : b.length ≤ 3) {i j : Nat} (hi : i ≤ a.length) (hj : j ≤ b.length) : 1 ≤ TT a b one1 i j ∧ TT a b one1 i j ≤ 63 := by
  rw [TT_one ha hb hi hj]
  exact del_le ⟨i, by (first | lia | omega)⟩ ⟨j, by (first | lia | omega)⟩
/-! entries that stand for sums -/
noncomputable def zl (w : Nat) (L : Int) : Wt := fun c _ l => if l = L then 2 ^ (w * c.toNat) else 0
noncomputable def zz (w : Nat) : Wt := fun c _ _ => 2 ^ (w * c.toNat)
structure Rep (w : Nat) (e : Ent) (s : Int) (P : Wt → Int) : Prop where
  cc : e.cc = P one1
  nc : e.nc = P (fun _ k _ => s - k)
  tt : e.tt = P (fun c _ _ => c)
  ct : e.ct = P (fun _ k _ => k)
  nd : ND e.cs
  vl : ∀ L, val e.cs L = P (zl w L)
  ps : ∀ L, has e.cs L → 0 < val e.cs L ∧ 0 ≤ L ∧ L ≤ 2
  sm : sumV e.cs = P (zz w)
theorem pow_pos' (w k : Nat) : (0 : Int) < 2 ^ (w * k) := Int.pow_pos (by decide)
theorem rep_zero {w : Nat} {s : Int} {P : Wt → Int} (h : ∀ φ, P φ = 0) : Rep w ent0 s P :=
  ⟨(h _).symm, (h _).symm, (h _).symm, (h _).symm, nd_nil, fun L => by rw [h]; exact val_nil L, fun L hL => absurd hL (has_nil L), by rw [h]; rfl⟩
theorem rep_add {w : Nat} {e f : Ent} {s : Int} {P P' : Wt → Int} (h : Rep w e s P) (h' : Rep w f s P') : Rep w (addF e f) s (fun φ => P φ + P' φ) := by
  with_reducible refine el_0_4 (addC_ok h.nd h'.nd) fun c1 c2 c3 c4 => ?_
  refine ⟨?_, ?_, ?_, ?_, c1, fun L => ?_, fun L hL => ?_, ?_⟩
  · show f.cc + e.cc = _; rw [h.cc, h'.cc]; (first | lia | omega)
  · show f.nc + e.nc = _; rw [h.nc, h'.nc]; (first | lia | omega)
  · show f.tt + e.tt = _; rw [h.tt, h'.tt]; (first | lia | omega)
  · show f.ct + e.ct = _; rw [h.ct, h'.ct]; (first | lia | omega)
  · show val (addC e.cs f.cs) L = _; rw [c4, h.vl, h'.vl]
  · show 0 < val (addC e.cs f.cs) L ∧ _
    rw [c4]
    have n1 : ∀ {x : Ent} {P : Wt → Int}, Rep w x s P → 0 ≤ val x.cs L := fun {x P} r => by
      by_cases q : has x.cs L
      · exact Int.le_of_lt (r.ps L q).1
      · unfold has at q; unfold val
        cases g : getI x.cs L with
        | none => exact Int.le_refl _
        | some v => rw [g] at q; simp at q
    have a1 := n1 h
    have a2 := n1 h'
    rcases (c3 L).mp hL with q | q
    · have := h.ps L q; exact ⟨by (first | lia | omega), this.2⟩
    · have := h'.ps L q; exact ⟨by (first | lia | omega), this.2⟩
  · show sumV (addC e.cs f.cs) = _; rw [c2, h.sm, h'.sm]
theorem rep_move {w : Nat} {e : Ent} {i j : Nat} {co pa : Int} (ha : a.length ≤ 3) (hb : b.length ≤ 3) (hi : i ≤ a.length) (hj : j ≤ b.length) (h : Rep w e ((i : Int) + j) (fun φ => TT a b φ i j)) (hc : 0 ≤ co ∧ co ≤ 2) {s : Int} (hs : s = (i : Int) + j + 1 + pa) :
    Rep w ⟨e.cc, e.nc + e.cc, e.tt + co * e.cc, e.ct + pa * e.cc, [(co, sumV e.cs * 2 ^ (w * co.toNat))]⟩ s (fun φ => TT a b (fun c k _ => φ (c + co) (k + pa) co) i j) := by
  have hz : TT a b (fun c k _ => zz w (c + co) (k + pa) co) i j = sumV e.cs * 2 ^ (w * co.toNat) := by
    rw [h.sm, Int.mul_comm]
    show _ = 2 ^ (w * co.toNat) * TT a b (zz w) i j
    rw [← TT_mul]
    refine TT_congr ha hb hi hj fun c k l h1 h2 => ?_
    unfold zz
    rw [← Int.pow_add, ← Nat.mul_add, show (c + co).toNat = co.toNat + c.toNat by (first | lia | omega)]
  have hpos : 0 < sumV e.cs * 2 ^ (w * co.toNat) := by
    have h1 : 1 ≤ sumV e.cs := by
      rw [h.sm]
      have := TT_mono ha hb (φ := one1) (φ' := zz w) hi hj fun c k l _ _ => by
        have := pow_pos' w c.toNat
        show (1 : Int) ≤ 2 ^ (w * c.toNat); (first | lia | omega)
      have := (TT_one_le ha hb hi hj).1
      show 1 ≤ TT a b (zz w) i j; (first | lia | omega)
    exact Int.mul_pos (by (first | lia | omega)) (pow_pos' _ _)
  refine ⟨h.cc, ?_, ?_, ?_, nd_one _ _, fun L => ?_, fun L hL => ?_, ?_⟩
  · show e.nc + e.cc = TT a b (fun c k _ => s - (k + pa)) i j
    have e1 : (fun (_ : Int) (k : Int) (_ : Int) => s - (k + pa)) = fun (c : Int) (k : Int) (l : Int) => ((i : Int) + j - k) + one1 c k l := by funext c k l; unfold one1; (first | lia | omega)
    rw [e1, TT_add (φ := fun _ k _ => (i : Int) + j - k) (φ' := one1), h.nc, h.cc]
  · show e.tt + co * e.cc = TT a b (fun c k _ => c + co) i j
    rw [TT_add (φ := fun c _ _ => c) (φ' := fun _ _ _ => co), TT_const, h.tt, h.cc]
  · show e.ct + pa * e.cc = TT a b (fun c k _ => k + pa) i j
    rw [TT_add (φ := fun _ k _ => k) (φ' := fun _ _ _ => pa), TT_const, h.ct, h.cc]
  · show val [(co, _)] L = TT a b (fun c k _ => if co = L then 2 ^ (w * (c + co).toNat) else 0) i j
    rw [val_one]
    by_cases q : co = L
    · rw [if_pos q, ← hz]
      refine TT_congr ha hb hi hj fun c k l _ _ => ?_
      rw [if_pos q]; rfl
    · rw [if_neg q]
      have : TT a b (fun c k _ => if co = L then 2 ^ (w * (c + co).toNat) else 0) i j = TT a b (fun _ _ _ => 0) i j := TT_congr ha hb hi hj fun c k l _ _ => if_neg q
      rw [this, TT_const]; (first | lia | omega)
  · show 0 < val [(co, _)] L ∧ _
    have q : co = L := (has_one _ _ _).mp hL
    rw [val_one, if_pos q]
    exact ⟨hpos, by (first | lia | omega)⟩
  · show sumV [(co, _)] = _
    rw [sum_one, ← hz]
/-! what is due -/
theorem due_facts (w : Nat) : ∀ (T : List En) (acc : II), ND acc → ND (T.foldl (dueIn w) acc) ∧ (∀ L, val (T.foldl (dueIn w) acc) L = val acc L + wsm (zl w L) T) ∧ (∀ L, has (T.foldl (dueIn w) acc) L ↔ has acc L ∨ ∃ e ∈ T, e.l = L) := by
  intro T
  induction T with
  | nil => exact fun acc h => ⟨h, fun L => by simp [wsm], fun L => by simp⟩
  | cons e T ih =>
    intro acc h
    rw [List.foldl_cons]
    have e1 : dueIn w acc e = stI acc e.l (val acc e.l + e.w * 2 ^ (w * e.c.toNat)) := rfl
    rw [e1]
    obtain ⟨h1, h2, h3⟩ := ih _ (stI_nd (k := e.l) (v := val acc e.l + e.w * 2 ^ (w * e.c.toNat)) h)
    refine ⟨h1, fun L => ?_, fun L => ?_⟩
    · rw [h2, stI_val]
      unfold wsm
      rw [List.map_cons, List.sum_cons]
      unfold zl
      by_cases q : e.l = L
      · rw [if_pos q, if_pos q, q]; (first | lia | omega)
      · rw [if_neg q, if_neg q]; (first | lia | omega)
    · rw [h3, stI_has]
      constructor
      · rintro ((q | q) | ⟨f, hf, q⟩)
        · exact .inr ⟨e, .head _, q⟩
        · exact .inl q
        · exact .inr ⟨f, .tail _ hf, q⟩
      · rintro (q | ⟨f, hf, q⟩)
        · exact .inl (.inr q)
        · rcases List.mem_cons.mp hf with rfl | hf
          · exact .inl (.inl q)
          · exact .inr ⟨f, hf, q⟩
theorem wsm_nn {φ : Wt} : ∀ {T : List En}, (∀ e ∈ T, 0 ≤ e.w * φ e.c e.k e.l) → 0 ≤ wsm φ T
  | [], _ => by simp [wsm]
  | e :: T, h => by
    have h1 := h e (.head _)
    have h2 := wsm_nn (T := T) fun f hf => h f (.tail _ hf)
    unfold wsm at h2 ⊢
    rw [List.map_cons, List.sum_cons]; (first | lia | omega)
theorem wsm_pos {φ : Wt} {T : List En} (h : ∀ e ∈ T, 0 ≤ e.w * φ e.c e.k e.l) (hx : ∃ e ∈ T, 0 < e.w * φ e.c e.k e.l) : 0 < wsm φ T := by
  induction T with
  | nil => obtain ⟨_, h, _⟩ := hx; cases h
  | cons e T ih =>
    obtain ⟨f, hf, hp⟩ := hx
    have h1 := h e (.head _)
    have h2 := wsm_nn (T := T) fun f hf => h f (.tail _ hf)
    show 0 < (((e :: T).map fun e => e.w * φ e.c e.k e.l)).sum
    rw [List.map_cons, List.sum_cons]
    rcases List.mem_cons.mp hf with rfl | hf
    · have : wsm φ T = (T.map fun e => e.w * φ e.c e.k e.l).sum := rfl
      (first | lia | omega)
    · have h3 := ih (fun f hf => h f (.tail _ hf)) ⟨f, hf, hp⟩
      have : wsm φ T = (T.map fun e => e.w * φ e.c e.k e.l).sum := rfl
      (first | lia | omega)
theorem due_eq {w : Nat} {e : Ent} {i j : Nat} (ha : a.length ≤ 3) (hb : b.length ≤ 3) (hi : i ≤ a.length) (hj : j ≤ b.length) (h : Rep w e ((i : Int) + j) (fun φ => TT a b φ i j)) : EqD 2 (encF e) (encF (due (toldAt a b i j) (i + j) w)) := by
  have hten := (told_ok (a := a) (b := b) (i := i) (j := j) ha hb).2
  have hT : ∀ φ, wsm φ (toldAt a b i j) = TT a b φ i j := fun φ => told_sum ha hb hi hj
  generalize toldAt a b i j = T at hten hT
  with_reducible refine el_0_3 (due_facts w T [] nd_nil) fun d1 d2 d3 => ?_
  refine encF_eq ?_ ?_ ?_ ?_ ?_
  · rw [h.cc]
    show TT a b one1 i j = (T.map fun e => e.w).sum
    rw [← hT]; unfold wsm one1; simp
  · rw [h.nc]
    show TT a b (fun _ k _ => (i : Int) + j - k) i j = (T.map fun e => e.w * (((i + j : Nat) : Int) - e.k)).sum
    rw [← hT]; unfold wsm; push_cast; rfl
  · rw [h.tt]; exact (hT _).symm
  · rw [h.ct]; exact (hT _).symm
  · have hv : ∀ L, val e.cs L = val (T.foldl (dueIn w) []) L := fun L => by rw [h.vl, d2, val_nil, ← hT]; (first | lia | omega)
    have hz : ∀ (l : II) (L : Int), ¬ has l L → val l L = 0 := fun l L q => by
      unfold has at q; unfold val
      cases g : getI l L with
      | none => rfl
      | some v => rw [g] at q; simp at q
    refine eq_dicts h.nd d1 (fun L => ⟨fun q => ?_, fun q => ?_⟩) hv
    · by_cases z : has (T.foldl (dueIn w) []) L
      · exact z
      · have := (h.ps L q).1; rw [hv, hz _ _ z] at this; (first | lia | omega)
    · by_cases z : has e.cs L
      · exact z
      · have h0 := hz _ _ z
        rw [hv, d2, val_nil] at h0
        rcases (d3 L).mp q with q | ⟨f, hf, q⟩
        · exact absurd q (has_nil L)
        · have hnn : ∀ e ∈ T, 0 ≤ e.w * zl w L e.c e.k e.l := fun e he => by
            have := (hten e he).2.2.2.2.2
            unfold zl
            split
            · exact Int.mul_nonneg (by (first | lia | omega)) (Int.le_of_lt (pow_pos' _ _))
            · simp
          have := wsm_pos hnn ⟨f, hf, by
            have := (hten f hf).2.2.2.2.2
            unfold zl; rw [if_pos q]; exact Int.mul_pos (by (first | lia | omega)) (pow_pos' _ _)⟩
          (first | lia | omega)
end

set_option exponentiation.threshold 10000
/-! ### the book as it is walked -/
theorem gets_cons {β : Type} (p : Int × β) (l : List (Int × β)) (k : Int) : gets (p :: l) k = if p.1 = k then some p.2 else gets l k := by
  unfold gets
  rw [List.find?_cons]
  by_cases h : p.1 = k <;> simp [h]
theorem gets_map {β : Type} (k : Int) (v : β) (j : Int) : ∀ l : List (Int × β), gets (l.map fun kv => if kv.1 = k then (kv.1, v) else kv) j = if k = j then (gets l j).map (fun _ => v) else gets l j
  | [] => by unfold gets; simp
  | p :: l => by
    rw [List.map_cons, gets_cons, gets_cons, gets_map k v j l]
    by_cases h1 : p.1 = k
    · by_cases h2 : k = j
      · simp [h1, h2]
      · simp [h1, h2]
    · by_cases h2 : k = j
      · subst h2; simp [h1]
      · simp [h1, h2]
theorem gets_append {β : Type} (k : Int) (v : β) (j : Int) : ∀ l : List (Int × β), gets (l ++ [(k, v)]) j = (gets l j).or (if k = j then some v else none)
  | [] => by rw [List.nil_append, gets_cons]; rfl
  | p :: l => by
    rw [List.cons_append, gets_cons, gets_cons, gets_append k v j l]
    split <;> rfl
theorem gets_none {β : Type} {k : Int} : ∀ {l : List (Int × β)}, (l.any fun kv => decide (kv.1 = k)) = false → gets l k = none
  | [], _ => rfl
  | p :: l, h => by
    rw [List.any_cons, Bool.or_eq_false_iff] at h
    rw [gets_cons, if_neg (by simpa using h.1), gets_none h.2]
theorem gets_some {β : Type} {k : Int} : ∀ {l : List (Int × β)}, (l.any fun kv => decide (kv.1 = k)) = true → ∃ v, gets l k = some v
  | [], h => by cases h
  | p :: l, h => by
    rw [gets_cons]
    by_cases q : p.1 = k
    · rw [if_pos q]; exact ⟨_, rfl⟩
    · rw [List.any_cons, Bool.or_eq_true] at h
      rw [if_neg q]
      rcases h with h | h
      · exact absurd (by simpa using h) q
      · exact gets_some h
theorem gets_sets {β : Type} (l : List (Int × β)) (k : Int) (v : β) (j : Int) : gets (sets l k v) j = if k = j then some v else gets l j := by
  unfold sets
  cases h : l.any fun kv => decide (kv.1 = k) with
  | true =>
    rw [if_pos rfl, gets_map]
    by_cases q : k = j
    · subst q
      with_reducible refine el_1_1 (gets_some h) fun x hx => ?_
      rw [if_pos rfl, if_pos rfl, hx]; rfl
    · rw [if_neg q, if_neg q]
  | false =>
    rw [if_neg (by decide), gets_append]
    by_cases q : k = j
    · subst q; rw [gets_none h]; simp
    · simp [q]
section
variable {a b : List Nat} {w : Nat}
noncomputable def RepO (w : Nat) (o : Option Ent) (s : Int) (P : Wt → Int) : Prop := match o with
  | none => ∀ φ, P φ = 0
  | some e => Rep w e s P
theorem RepO.get {o : Option Ent} {s : Int} {P : Wt → Int} (h : RepO w o s P) : Rep w (o.getD ent0) s P := by
  cases o with
  | none => exact rep_zero h
  | some e => exact h
noncomputable def BkOk (a b : List Nat) (w : Nat) (bk : BkE) (Q : Nat → Nat → Wt → Int) : Prop := ∀ i j, i ≤ a.length → j ≤ b.length → RepO w (gets bk (4 * (i : Int) + j)) ((i : Int) + j) (Q i j)
theorem BkOk.congr {bk : BkE} {Q Q' : Nat → Nat → Wt → Int} (h : BkOk a b w bk Q) (e : ∀ i j, i ≤ a.length → j ≤ b.length → ∀ φ, Q i j φ = Q' i j φ) : BkOk a b w bk Q' := fun i j hi hj => by
  have := h i j hi hj
  rw [show Q i j = Q' i j from funext (e i j hi hj)] at this; exact this
theorem bk_move {bk : BkE} {Q : Nat → Nat → Wt → Int} {i1 j1 : Nat} {f : Ent} {D' : Wt → Int} (hb : b.length ≤ 3) (h : BkOk a b w bk Q) (hi : i1 ≤ a.length) (hj : j1 ≤ b.length) (hf : Rep w f ((i1 : Int) + j1) D') :
    BkOk a b w (sets bk (4 * (i1 : Int) + j1) (addF ((gets bk (4 * (i1 : Int) + j1)).getD ent0) f)) (fun i j φ => Q i j φ + if i = i1 ∧ j = j1 then D' φ else 0) := fun i j hi' hj' => by
  rw [gets_sets]
  by_cases e : i = i1 ∧ j = j1
  · with_reducible refine el_0_2 (e) fun oq190 oq191 => ?_
    try clear e
    obtain rfl := oq190
    obtain rfl := oq191
    rw [if_pos rfl]
    have := rep_add (h i j hi hj).get hf
    have e2 : (fun φ => Q i j φ + if i = i ∧ j = j then D' φ else 0) = fun φ => Q i j φ + D' φ := by funext φ; rw [if_pos ⟨rfl, rfl⟩]
    show Rep w _ _ (fun φ => Q i j φ + if i = i ∧ j = j then D' φ else 0)
    rw [e2]; exact this
  · rw [if_neg (by (first | lia | omega))]
    have e2 : (fun φ => Q i j φ + if i = i1 ∧ j = j1 then D' φ else 0) = Q i j := by funext φ; rw [if_neg e]; (first | lia | omega)
    show RepO w _ _ (fun φ => Q i j φ + if i = i1 ∧ j = j1 then D' φ else 0)
    rw [e2]; exact h i j hi' hj'
/-- what has come to a place once all places ahead of (i0, j0) are done -/
noncomputable def PP (a b : List Nat) (i0 j0 : Nat) (i j : Nat) (φ : Wt) : Int :=
  (if i = 0 ∧ j = 0 then φ 0 0 0 else 0) + (if 1 ≤ i ∧ 1 ≤ j ∧ (i - 1 < i0 ∨ i - 1 = i0 ∧ j - 1 < j0) then TT a b (up a b φ (i - 1) (j - 1)) (i - 1) (j - 1) else 0) + (if 1 ≤ i ∧ (i - 1 < i0 ∨ i - 1 = i0 ∧ j < j0) then TT a b (dn φ) (i - 1) j else 0) + (if 1 ≤ j ∧ (i < i0 ∨ i = i0 ∧ j - 1 < j0) then TT a b (dn φ) i (j - 1) else 0)
theorem PP_full (ha : a.length ≤ 3) (hb : b.length ≤ 3) {i j : Nat} (hi : i ≤ a.length) (hj : j ≤ b.length) (φ : Wt) {i0 j0 : Nat} (h : i < i0 ∨ i = i0 ∧ j ≤ j0) : PP a b i0 j0 i j φ = TT a b φ i j := by
  rw [TT_rec ha hb hi hj]
  unfold PP
  congr 1
  · congr 1
    · congr 1
      by_cases q : 1 ≤ i ∧ 1 ≤ j
      · rw [if_pos q, if_pos (by (first | lia | omega))]
      · rw [if_neg q, if_neg (by (first | lia | omega))]
    · by_cases q : 1 ≤ i
      · rw [if_pos q, if_pos (by (first | lia | omega))]
      · rw [if_neg q, if_neg (by (first | lia | omega))]
  · by_cases q : 1 ≤ j
    · rw [if_pos q, if_pos (by (first | lia | omega))]
    · rw [if_neg q, if_neg (by (first | lia | omega))]
theorem PP_step {i j i0 j0 : Nat} (φ : Wt) : PP a b i0 (j0 + 1) i j φ = PP a b i0 j0 i j φ + (if i = i0 + 1 ∧ j = j0 then TT a b (dn φ) i0 j0 else 0) + (if i = i0 ∧ j = j0 + 1 then TT a b (dn φ) i0 j0 else 0) + (if i = i0 + 1 ∧ j = j0 + 1 then TT a b (up a b φ i0 j0) i0 j0 else 0) := by
  have x1 : (if 1 ≤ i ∧ 1 ≤ j ∧ (i - 1 < i0 ∨ i - 1 = i0 ∧ j - 1 < j0 + 1) then TT a b (up a b φ (i - 1) (j - 1)) (i - 1) (j - 1) else 0) = (if 1 ≤ i ∧ 1 ≤ j ∧ (i - 1 < i0 ∨ i - 1 = i0 ∧ j - 1 < j0) then TT a b (up a b φ (i - 1) (j - 1)) (i - 1) (j - 1) else 0) + (if i = i0 + 1 ∧ j = j0 + 1 then TT a b (up a b φ i0 j0) i0 j0 else 0) := by
    by_cases q : i = i0 + 1 ∧ j = j0 + 1
    · with_reducible refine el_0_2 (q) fun oq192 oq193 => ?_
      try clear q
      obtain rfl := oq192
      obtain rfl := oq193
      rw [if_pos (by (first | lia | omega)), if_neg (by (first | lia | omega)), if_pos ⟨rfl, rfl⟩]; simp
    · rw [if_neg q]
      by_cases z : 1 ≤ i ∧ 1 ≤ j ∧ (i - 1 < i0 ∨ i - 1 = i0 ∧ j - 1 < j0)
      · rw [if_pos z, if_pos (by (first | lia | omega))]; (first | lia | omega)
      · rw [if_neg z, if_neg (by (first | lia | omega))]; rfl
  have x2 : (if 1 ≤ i ∧ (i - 1 < i0 ∨ i - 1 = i0 ∧ j < j0 + 1) then TT a b (dn φ) (i - 1) j else 0) = (if 1 ≤ i ∧ (i - 1 < i0 ∨ i - 1 = i0 ∧ j < j0) then TT a b (dn φ) (i - 1) j else 0) + (if i = i0 + 1 ∧ j = j0 then TT a b (dn φ) i0 j0 else 0) := by
    by_cases q : i = i0 + 1 ∧ j = j0
    · with_reducible refine el_0_2 (q) fun oq194 oq195 => ?_
      try clear q
      obtain rfl := oq194
      obtain rfl := oq195
      rw [if_pos (by (first | lia | omega)), if_neg (by (first | lia | omega)), if_pos ⟨rfl, rfl⟩]; simp
    · rw [if_neg q]
      by_cases z : 1 ≤ i ∧ (i - 1 < i0 ∨ i - 1 = i0 ∧ j < j0)
      · rw [if_pos z, if_pos (by (first | lia | omega))]; (first | lia | omega)
      · rw [if_neg z, if_neg (by (first | lia | omega))]; rfl
  have x3 : (if 1 ≤ j ∧ (i < i0 ∨ i = i0 ∧ j - 1 < j0 + 1) then TT a b (dn φ) i (j - 1) else 0) = (if 1 ≤ j ∧ (i < i0 ∨ i = i0 ∧ j - 1 < j0) then TT a b (dn φ) i (j - 1) else 0) + (if i = i0 ∧ j = j0 + 1 then TT a b (dn φ) i0 j0 else 0) := by
    by_cases q : i = i0 ∧ j = j0 + 1
    · with_reducible refine el_0_2 (q) fun oq196 oq197 => ?_
      try clear q
      obtain rfl := oq196
      obtain rfl := oq197
      rw [if_pos (by (first | lia | omega)), if_neg (by (first | lia | omega)), if_pos ⟨rfl, rfl⟩]; simp
    · rw [if_neg q]
      by_cases z : 1 ≤ j ∧ (i < i0 ∨ i = i0 ∧ j - 1 < j0)
      · rw [if_pos z, if_pos (by (first | lia | omega))]; (first | lia | omega)
      · rw [if_neg z, if_neg (by (first | lia | omega))]; rfl
  unfold PP
  rw [x1, x2, x3]; (first | lia | omega)
theorem PP_row {i j i0 : Nat} (hj : j ≤ b.length) (φ : Wt) : PP a b i0 (b.length + 1) i j φ = PP a b (i0 + 1) 0 i j φ := by
  unfold PP
  congr 1
  · congr 1
    · congr 1
      by_cases q : 1 ≤ i ∧ 1 ≤ j ∧ (i - 1 < i0 ∨ i - 1 = i0 ∧ j - 1 < b.length + 1)
      · rw [if_pos q, if_pos (by (first | lia | omega))]
      · rw [if_neg q, if_neg (by (first | lia | omega))]
    · by_cases q : 1 ≤ i ∧ (i - 1 < i0 ∨ i - 1 = i0 ∧ j < b.length + 1)
      · rw [if_pos q, if_pos (by (first | lia | omega))]
      · rw [if_neg q, if_neg (by (first | lia | omega))]
  · by_cases q : 1 ≤ j ∧ (i < i0 ∨ i = i0 ∧ j - 1 < b.length + 1)
    · rw [if_pos q, if_pos (by (first | lia | omega))]
    · rw [if_neg q, if_neg (by (first | lia | omega))]
noncomputable def SubOk (a b : List Nat) : Prop := ∀ i j, i < a.length → j < b.length → subst (a.getD i 0) (b.getD j 0) = prAt a b i j
theorem bk_node (ha : a.length ≤ 3) (hb : b.length ≤ 3) (hs : SubOk a b) {bk : BkE} {i j : Nat} (hi : i ≤ a.length) (hj : j ≤ b.length) (h : BkOk a b w bk (PP a b i j)) :
    (∃ e, gets bk (4 * (i : Int) + j) = some e ∧ Rep w e ((i : Int) + j) (fun φ => TT a b φ i j)) ∧ BkOk a b w (wkNode a b w i bk j) (PP a b i (j + 1)) := by
  have hr := h i j hi hj
  have hfull : PP a b i j i j = fun φ => TT a b φ i j := funext fun φ => PP_full ha hb hi hj φ (.inr ⟨rfl, Nat.le_refl _⟩)
  rw [hfull] at hr
  cases hg : gets bk (4 * (i : Int) + j) with
  | none =>
    rw [hg] at hr
    have h1 := hr one1
    have := (TT_one_le ha hb hi hj).1
    have h1' : TT a b one1 i j = 0 := h1
    (first | lia | omega)
  | some e =>
    rw [hg] at hr
    have hr' : Rep w e ((i : Int) + j) (fun φ => TT a b φ i j) := hr
    refine ⟨⟨e, rfl, hr'⟩, ?_⟩
    have hn : wkNode a b w i bk j = (mvs a b i j).foldl (wkMove w i j e) bk := by unfold wkNode; rw [hg]; rfl
    rw [hn]
    unfold mvs
    rw [List.foldl_append, List.foldl_append]
    -- down
    have s1 : BkOk a b w ((if i < a.length then [(4, 2, 0)] else [] : List (Int × Int × Int)).foldl (wkMove w i j e) bk) (fun i' j' φ => PP a b i j i' j' φ + if i' = i + 1 ∧ j' = j then TT a b (dn φ) i j else 0) := by
      by_cases q : i < a.length
      · rw [if_pos q]
        have hm := bk_move (i1 := i + 1) (j1 := j) hb h (by (first | lia | omega)) hj (rep_move ha hb hi hj hr' (co := 2) (pa := 0) (by decide) (s := ((i + 1 : Nat) : Int) + j) (by push_cast; (first | lia | omega)))
        have ek : 4 * ((i + 1 : Nat) : Int) + (j : Int) = 4 * (i : Int) + j + 4 := by push_cast; (first | lia | omega)
        rw [ek] at hm
        refine BkOk.congr (bk := _) hm fun i' j' _ _ φ => ?_
        congr 1
        by_cases z : i' = i + 1 ∧ j' = j
        · rw [if_pos z, if_pos z]
          exact TT_congr ha hb hi hj fun c k l _ _ => by unfold dn; rw [Int.add_zero]
        · rw [if_neg z, if_neg z]
      · rw [if_neg q]
        exact h.congr fun i' j' hi' _ φ => by rw [if_neg (by (first | lia | omega))]; (first | lia | omega)
    generalize (if i < a.length then [(4, 2, 0)] else [] : List (Int × Int × Int)).foldl (wkMove w i j e) bk = b1 at s1
    have s2 : BkOk a b w ((if j < b.length then [(1, 2, 0)] else [] : List (Int × Int × Int)).foldl (wkMove w i j e) b1) (fun i' j' φ => (PP a b i j i' j' φ + if i' = i + 1 ∧ j' = j then TT a b (dn φ) i j else 0) + if i' = i ∧ j' = j + 1 then TT a b (dn φ) i j else 0) := by
      by_cases q : j < b.length
      · rw [if_pos q]
        have hm := bk_move (i1 := i) (j1 := j + 1) hb s1 hi (by (first | lia | omega)) (rep_move ha hb hi hj hr' (co := 2) (pa := 0) (by decide) (s := (i : Int) + ((j + 1 : Nat) : Int)) (by push_cast; (first | lia | omega)))
        have ek : 4 * (i : Int) + ((j + 1 : Nat) : Int) = 4 * (i : Int) + j + 1 := by push_cast; (first | lia | omega)
        rw [ek] at hm
        refine BkOk.congr (bk := _) hm fun i' j' _ _ φ => ?_
        congr 1
        by_cases z : i' = i ∧ j' = j + 1
        · rw [if_pos z, if_pos z]
          exact TT_congr ha hb hi hj fun c k l _ _ => by unfold dn; rw [Int.add_zero]
        · rw [if_neg z, if_neg z]
      · rw [if_neg q]
        exact s1.congr fun i' j' _ hj' φ => by rw [if_neg (show ¬(i' = i ∧ j' = j + 1) by (first | lia | omega))]; (first | lia | omega)
    generalize (if j < b.length then [(1, 2, 0)] else [] : List (Int × Int × Int)).foldl (wkMove w i j e) b1 = b2 at s2
    by_cases q : i < a.length ∧ j < b.length
    · rw [if_pos q]
      have hp := prAt_le (a := a) (b := b) i j
      have hsub := hs i j q.1 q.2
      have hm := bk_move (i1 := i + 1) (j1 := j + 1) hb s2 (by (first | lia | omega)) (by (first | lia | omega)) (rep_move ha hb hi hj hr' (co := prAt a b i j) (pa := 1) hp (s := ((i + 1 : Nat) : Int) + ((j + 1 : Nat) : Int)) (by push_cast; (first | lia | omega)))
      have ek : 4 * ((i + 1 : Nat) : Int) + ((j + 1 : Nat) : Int) = 4 * (i : Int) + j + 5 := by push_cast; (first | lia | omega)
      rw [ek] at hm
      rw [hsub]
      refine BkOk.congr (bk := _) hm fun i' j' _ _ φ => ?_
      rw [PP_step]
      rfl
    · rw [if_neg q]
      exact s2.congr fun i' j' hi' hj' φ => by rw [PP_step, if_neg (show ¬(i' = i + 1 ∧ j' = j + 1) by (first | lia | omega))]; (first | lia | omega)
theorem bk_start : BkOk a b w [(0, ⟨1, 0, 0, 0, [(0, 1)]⟩)] (PP a b 0 0) := fun i j hi hj => by
  rw [gets_cons]
  have hz : ∀ φ : Wt, PP a b 0 0 i j φ = if i = 0 ∧ j = 0 then φ 0 0 0 else 0 := fun φ => by
    unfold PP
    rw [if_neg (show ¬(1 ≤ i ∧ 1 ≤ j ∧ (i - 1 < 0 ∨ i - 1 = 0 ∧ j - 1 < 0)) by (first | lia | omega)), if_neg (show ¬(1 ≤ i ∧ (i - 1 < 0 ∨ i - 1 = 0 ∧ j < 0)) by (first | lia | omega)), if_neg (show ¬(1 ≤ j ∧ (i < 0 ∨ i = 0 ∧ j - 1 < 0)) by (first | lia | omega))]; (first | lia | omega)
  by_cases h : i = 0 ∧ j = 0
  · with_reducible refine el_0_2 (h) fun oq198 oq199 => ?_
    try clear h
    obtain rfl := oq198
    obtain rfl := oq199
    rw [if_pos (by rfl)]
    have e : PP a b 0 0 0 0 = fun φ => φ 0 0 0 := funext fun φ => by rw [hz]; rfl
    show Rep w _ _ _
    rw [e]
    refine ⟨rfl, rfl, rfl, rfl, nd_one _ _, fun L => ?_, fun L hL => ?_, rfl⟩
    · rw [val_one]; unfold zl
      by_cases q : (0 : Int) = L
      · rw [if_pos q, if_pos q]; rfl
      · rw [if_neg q, if_neg q]
    · have q : (0 : Int) = L := (has_one _ _ _).mp hL
      rw [val_one, if_pos q]; (first | lia | omega)
  · rw [if_neg (by (first | lia | omega))]
    show ∀ φ, _
    intro φ
    rw [hz, if_neg h]
theorem bk_cols (ha : a.length ≤ 3) (hb : b.length ≤ 3) (hs : SubOk a b) {bk : BkE} {i : Nat} (hi : i ≤ a.length) (h : BkOk a b w bk (PP a b i 0)) : ∀ j, j ≤ b.length + 1 → BkOk a b w ((List.range j).foldl (wkNode a b w i) bk) (PP a b i j)
  | 0, _ => h
  | j + 1, hj => by
    rw [List.range_succ, List.foldl_append]
    exact (bk_node ha hb hs hi (by (first | lia | omega)) (bk_cols ha hb hs hi h j (by (first | lia | omega)))).2
theorem bk_rows (ha : a.length ≤ 3) (hb : b.length ≤ 3) (hs : SubOk a b) : ∀ i, i ≤ a.length + 1 → BkOk a b w ((List.range i).foldl (wkRow a b w) [(0, ⟨1, 0, 0, 0, [(0, 1)]⟩)]) (PP a b i 0)
  | 0, _ => bk_start
  | i + 1, hi => by
    rw [List.range_succ, List.foldl_append]
    have := bk_cols ha hb hs (show i ≤ a.length by (first | lia | omega)) (bk_rows ha hb hs i (by (first | lia | omega))) (b.length + 1) (Nat.le_refl _)
    exact this.congr fun i' j' _ hj' φ => PP_row hj' φ
theorem walked_rep (ha : a.length ≤ 3) (hb : b.length ≤ 3) (hs : SubOk a b) {i j : Nat} (hi : i ≤ a.length) (hj : j ≤ b.length) : ∃ e, gets (walked a b w) (4 * (i : Int) + j) = some e ∧ Rep w e ((i : Int) + j) (fun φ => TT a b φ i j) := by
  have h := bk_rows (w := w) ha hb hs (a.length + 1) (Nat.le_refl _) i j hi hj
  have e : PP a b (a.length + 1) 0 i j = fun φ => TT a b φ i j := funext fun φ => PP_full ha hb hi hj φ (.inl (by (first | lia | omega)))
  rw [e] at h
  change RepO w (gets (walked a b w) _) _ _ at h
  cases hg : gets (walked a b w) (4 * (i : Int) + j) with
  | none =>
    rw [hg] at h
    have h1 : TT a b one1 i j = 0 := h one1
    have := (TT_one_le ha hb hi hj).1
    (first | lia | omega)
  | some e => rw [hg] at h; exact ⟨e, rfl, h⟩
theorem rep_ok (ha : a.length ≤ 3) (hb : b.length ≤ 3) {e : Ent} {i j : Nat} (hw : w ≤ 12) (hi : i ≤ a.length) (hj : j ≤ b.length) (h : Rep w e ((i : Int) + j) (fun φ => TT a b φ i j)) : EntOk e := by
  have h1 := TT_one_le ha hb hi hj
  refine ⟨?_, ?_, ?_⟩
  · have := len_le_of_sub (l := e.cs.map (·.1)) (m := [0, 1, 2]) (show (e.cs.map (·.1)).Nodup from h.nd) (fun x hx => by
      have := (h.ps x (has_iff.mpr hx)).2
      have : x = 0 ∨ x = 1 ∨ x = 2 := by (first | lia | omega)
      rcases this with rfl | rfl | rfl <;> simp)
    simp at this; (first | lia | omega)
  · rw [h.cc]; show (TT a b one1 i j).natAbs < 2 ^ 39; (first | lia | omega)
  · rw [h.sm]
    show (TT a b (zz w) i j).natAbs < 2 ^ 3000
    have n0 := TT_nn ha hb (φ := zz w) hi hj fun c k l _ _ => Int.le_of_lt (pow_pos' _ _)
    have n1 := TT_mono ha hb (φ := zz w) (φ' := fun _ _ _ => 2 ^ 144) hi hj fun c k l h1 h2 => by
      show (2 : Int) ^ (w * c.toNat) ≤ 2 ^ 144
      have : w * c.toNat ≤ 12 * 12 := Nat.mul_le_mul hw (by (first | lia | omega))
      exact_mod_cast Nat.pow_le_pow_right (show 0 < 2 by decide) this
    rw [TT_const] at n1
    have : (2 : Int) ^ 144 * TT a b one1 i j ≤ 2 ^ 144 * 63 := Int.mul_le_mul_of_nonneg_left h1.2 (by decide)
    have h3 : (2 : Int) ^ 144 * 63 < 2 ^ 150 := by decide
    have h4 : (TT a b (zz w) i j).natAbs < 2 ^ 150 := by (first | lia | omega)
    exact Nat.lt_of_lt_of_le h4 (Nat.pow_le_pow_right (by decide) (by decide))
/-! how long it all may be -/
noncomputable def LenOk (c : Nat) (bk : BkE) : Prop := bk.length ≤ c ∧ ∀ p ∈ bk, p.2.cs.length ≤ c
theorem sets_len {β : Type} (l : List (Int × β)) (k : Int) (v : β) : (sets l k v).length ≤ l.length + 1 := by unfold sets; split <;> simp
theorem sets_mem {β : Type} {l : List (Int × β)} {k : Int} {v : β} {p : Int × β} (h : p ∈ sets l k v) : p ∈ l ∨ p.2 = v := by
  unfold sets at h
  split at h
  · with_reducible refine el_1_2 (List.mem_map.mp h) fun q hq oq200 => ?_
    obtain rfl := oq200
    split
    · exact .inr rfl
    · exact .inl hq
  · rcases List.mem_append.mp h with h | h
    · exact .inl h
    · rw [List.mem_singleton.mp h]; exact .inr rfl
theorem len_move {c i j : Nat} {e : Ent} {t : Int × Int × Int} {bk : BkE} (h : LenOk c bk) : LenOk (c + 1) (wkMove w i j e bk t) := by
  refine ⟨Nat.le_trans (sets_len _ _ _) (Nat.succ_le_succ h.1), fun p hp => ?_⟩
  rcases sets_mem hp with hp | hp
  · exact Nat.le_succ_of_le (h.2 p hp)
  · rw [hp]
    refine Nat.le_trans (addC_len _ _) ?_
    have : ((gets bk (4 * (i : Int) + j + t.1)).getD ⟨0, 0, 0, 0, []⟩).cs.length ≤ c := by
      cases hg : gets bk (4 * (i : Int) + j + t.1) with
      | none => exact Nat.zero_le _
      | some v =>
        with_reducible refine el_1_2 (gets_mem hg) fun q hq oq201 => ?_
        obtain rfl := oq201
        exact h.2 q hq
    exact Nat.succ_le_succ this
theorem len_moves {i j c : Nat} {e : Ent} {bk : BkE} (k : Nat) (h : LenOk c bk) : LenOk (c + 3) (((mvs a b i j).take k).foldl (wkMove w i j e) bk) := by
  have := fold_cnt (P := LenOk) (k := 1) (f := wkMove w i j e) ((mvs a b i j).take k) c bk (fun c s x _ hs => len_move hs) h
  have hl : ((mvs a b i j).take k).length ≤ 3 := by
    refine Nat.le_trans (List.length_take_le' ..) ?_
    unfold mvs
    rw [List.length_append, List.length_append]
    have : ∀ (p : Prop) [Decidable p] (x : Int × Int × Int), (if p then [x] else []).length ≤ 1 := fun p _ x => by split <;> simp
    have := this (i < a.length) (4, 2, 0)
    have h2 : ∀ (p : Prop) [Decidable p] (x : Int × Int × Int), (if p then [x] else []).length ≤ 1 := fun p _ x => by split <;> simp
    have := h2 (j < b.length) (1, 2, 0)
    have := h2 (i < a.length ∧ j < b.length) (5, subst (a.getD i 0) (b.getD j 0), 1)
    (first | lia | omega)
  exact ⟨by have := this.1; (first | lia | omega), fun p hp => by have := this.2 p hp; (first | lia | omega)⟩
theorem len_node {c i j : Nat} {bk : BkE} (h : LenOk c bk) : LenOk (c + 3) (wkNode a b w i bk j) := by
  have := len_moves (a := a) (b := b) (w := w) (i := i) (j := j) (e := (gets bk (4 * (i : Int) + j)).getD ⟨0, 0, 0, 0, []⟩) (mvs a b i j).length h
  rw [List.take_length] at this; exact this
theorem len_cols {c i : Nat} {bk : BkE} (j : Nat) (h : LenOk c bk) : LenOk (c + 3 * j) ((List.range j).foldl (wkNode a b w i) bk) := by
  have := fold_cnt (P := LenOk) (k := 3) (f := wkNode a b w i) (List.range j) c bk (fun c s x _ hs => len_node hs) h
  rwa [List.length_range] at this
theorem len_rows (hb : b.length ≤ 3) (i : Nat) : LenOk (1 + 12 * i) ((List.range i).foldl (wkRow a b w) [(0, ⟨1, 0, 0, 0, [(0, 1)]⟩)]) := by
  have := fold_cnt (P := LenOk) (k := 12) (f := wkRow a b w) (List.range i) 1 [(0, ⟨1, 0, 0, 0, [(0, 1)]⟩)] (fun c s x _ hs => by
    have := len_cols (a := a) (b := b) (w := w) (i := x) (b.length + 1) hs
    exact ⟨by have := this.1; show (wkRow a b w s x).length ≤ _; unfold wkRow; (first | lia | omega), fun p hp => by have := this.2 p hp; (first | lia | omega)⟩) ⟨by simp, fun p hp => by rw [List.mem_singleton.mp hp]; simp⟩
  rwa [List.length_range] at this
theorem wk_len (ha : a.length ≤ 3) (hb : b.length ≤ 3) {i j : Nat} (hi : i ≤ a.length) (hj : j ≤ b.length) {e : Ent} (k : Nat) : LenOk 100 (((mvs a b i j).take k).foldl (wkMove w i j e) ((List.range j).foldl (wkNode a b w i) ((List.range i).foldl (wkRow a b w) [(0, ⟨1, 0, 0, 0, [(0, 1)]⟩)]))) := by
  have := len_moves (a := a) (b := b) (w := w) (i := i) (j := j) (e := e) k (len_cols (a := a) (b := b) (w := w) (i := i) j (len_rows (a := a) (w := w) hb i))
  exact ⟨by have := this.1; (first | lia | omega), fun p hp => by have := this.2 p hp; (first | lia | omega)⟩
theorem wk_ok (ha : a.length ≤ 3) (hb : b.length ≤ 3) (hs : SubOk a b) (hw : w ≤ 12) : WkOk a b w := fun i j hi hj => by
  refine el_1_2 ((bk_node (w := w) ha hb hs hi hj (bk_cols ha hb hs hi (bk_rows ha hb hs i (by (first | lia | omega))) j (by (first | lia | omega)))).1) fun e he hr => ?_
  exact ⟨⟨e, he, rep_ok ha hb hw hi hj hr⟩, fun k hk p hp => (wk_len ha hb hi hj k).2 p hp⟩
theorem wk_ln (ha : a.length ≤ 3) (hb : b.length ≤ 3) : WkLen a b w := fun i j hi hj k hk => Nat.le_trans (wk_len ha hb hi hj k).1 (by decide)
end

/-! ### the distance is the least price -/
noncomputable def minI (a b : Int) : Int := if b < a then b else a
theorem minI_le (a b : Int) : minI a b ≤ a ∧ minI a b ≤ b ∧ (minI a b = a ∨ minI a b = b) := by unfold minI; split <;> (first | lia | omega)
noncomputable def dIn (sub : Nat → Nat → Int) (x : Nat) (f : List Nat → Int) (c : Int) : List Nat → Int
  | [] => c
  | y :: ys => minI (minI (f (y :: ys) + 2) (dIn sub x f c ys + 2)) (f ys + sub x y)
noncomputable def dW (sub : Nat → Nat → Int) : List Nat → List Nat → Int
  | [] => fun y => 2 * (y.length : Int)
  | x :: xs => dIn sub x (dW sub xs) (2 * (xs.length + 1 : Nat))
structure SubD (sub : Nat → Nat → Int) : Prop where
  nn : ∀ x y, 0 ≤ sub x y ∧ sub x y ≤ 2
  self : ∀ x, sub x x = 0
  sym : ∀ x y, sub x y = sub y x
section
variable {sub : Nat → Nat → Int}
theorem dW_nil (ys : List Nat) : dW sub [] ys = 2 * (ys.length : Int) := rfl
theorem dW_nilR : ∀ xs : List Nat, dW sub xs [] = 2 * (xs.length : Int)
  | [] => rfl
  | x :: xs => by show 2 * ((xs.length + 1 : Nat) : Int) = _; rw [List.length_cons]
theorem dW_cons (x y : Nat) (xs ys : List Nat) : dW sub (x :: xs) (y :: ys) = minI (minI (dW sub xs (y :: ys) + 2) (dW sub (x :: xs) ys + 2)) (dW sub xs ys + sub x y) := rfl
theorem dW_c (x y : Nat) (xs ys : List Nat) : dW sub (x :: xs) (y :: ys) ≤ dW sub xs (y :: ys) + 2 ∧ dW sub (x :: xs) (y :: ys) ≤ dW sub (x :: xs) ys + 2 ∧ dW sub (x :: xs) (y :: ys) ≤ dW sub xs ys + sub x y ∧
    (dW sub (x :: xs) (y :: ys) = dW sub xs (y :: ys) + 2 ∨ dW sub (x :: xs) (y :: ys) = dW sub (x :: xs) ys + 2 ∨ dW sub (x :: xs) (y :: ys) = dW sub xs ys + sub x y) := by
  rw [dW_cons]
  have h1 := minI_le (dW sub xs (y :: ys) + 2) (dW sub (x :: xs) ys + 2)
  have h2 := minI_le (minI (dW sub xs (y :: ys) + 2) (dW sub (x :: xs) ys + 2)) (dW sub xs ys + sub x y)
  exact ⟨Int.le_trans h2.1 h1.1, Int.le_trans h2.1 h1.2.1, h2.2.1, h2.2.2.elim (fun e => h1.2.2.elim (fun f => .inl (e.trans f)) fun f => .inr (.inl (e.trans f))) fun e => .inr (.inr e)⟩
theorem min3_eq {A B C m n : Int} (h : m ≤ A ∧ m ≤ B ∧ m ≤ C ∧ (m = A ∨ m = B ∨ m = C)) (g : n ≤ A ∧ n ≤ B ∧ n ≤ C ∧ (n = A ∨ n = B ∨ n = C)) : m = n := by
  apply Int.le_antisymm
  · with_reducible refine el_0_4 (g) fun _ _ _ oq202 => ?_
    try clear g
    obtain rfl | rfl | rfl := oq202
    · exact h.1
    · exact h.2.1
    · exact h.2.2.1
  · with_reducible refine el_0_4 (h) fun _ _ _ oq203 => ?_
    try clear h
    obtain rfl | rfl | rfl := oq203
    · exact g.1
    · exact g.2.1
    · exact g.2.2.1
theorem upL (x : Nat) (xs : List Nat) : ∀ ys, dW sub (x :: xs) ys ≤ dW sub xs ys + 2
  | [] => by rw [dW_nilR, dW_nilR, List.length_cons]; push_cast; (first | lia | omega)
  | y :: ys => (dW_c x y xs ys).1
theorem upR (y : Nat) (ys : List Nat) : ∀ xs, dW sub xs (y :: ys) ≤ dW sub xs ys + 2
  | [] => by rw [dW_nil, dW_nil, List.length_cons]; push_cast; (first | lia | omega)
  | x :: xs => (dW_c x y xs ys).2.1
theorem lipL (h : SubD sub) (x : Nat) (xs : List Nat) : ∀ ys, dW sub xs ys ≤ dW sub (x :: xs) ys + 2
  | [] => by rw [dW_nilR, dW_nilR, List.length_cons]; push_cast; (first | lia | omega)
  | y :: ys => by
    have ih := lipL h x xs ys
    have := upR (sub := sub) y ys xs
    have := (h.nn x y).1
    have := (dW_c (sub := sub) x y xs ys).2.2.2
    (first | lia | omega)
theorem lipR (h : SubD sub) (y : Nat) (ys : List Nat) : ∀ xs, dW sub xs ys ≤ dW sub xs (y :: ys) + 2
  | [] => by rw [dW_nil, dW_nil, List.length_cons]; push_cast; (first | lia | omega)
  | x :: xs => by
    have ih := lipR h y ys xs
    have := upL (sub := sub) x xs ys
    have := (h.nn x y).1
    have := (dW_c (sub := sub) x y xs ys).2.2.2
    (first | lia | omega)
theorem dW_head (h : SubD sub) (c : Nat) (xs ys : List Nat) : dW sub (c :: xs) (c :: ys) = dW sub xs ys := by
  have h1 := dW_c (sub := sub) c c xs ys
  have h2 := lipL h c xs ys
  have h3 := lipR h c ys xs
  rw [h.self, Int.add_zero] at h1
  exact Int.le_antisymm h1.2.2.1 (h1.2.2.2.elim (fun e => by rw [e]; exact h3) fun e => e.elim (fun e => by rw [e]; exact h2) fun e => Int.le_of_eq e.symm)
theorem dW_heads (h : SubD sub) (xs ys : List Nat) : ∀ zs, dW sub (zs ++ xs) (zs ++ ys) = dW sub xs ys
  | [] => rfl
  | c :: zs => by rw [List.cons_append, List.cons_append, dW_head h, dW_heads h xs ys zs]
theorem dW_self (h : SubD sub) (xs : List Nat) : dW sub xs xs = 0 := by
  have := dW_heads h [] [] xs
  rw [List.append_nil] at this; rw [this]; rfl
theorem dW_tail (h : SubD sub) (c : Nat) : ∀ xs ys : List Nat, dW sub (xs ++ [c]) (ys ++ [c]) = dW sub xs ys
  | [], [] => by rw [List.nil_append, dW_head h]
  | [], y :: ys => by
    have ih := dW_tail h c [] ys
    have h1 := dW_c (sub := sub) c y [] (ys ++ [c])
    have := h.nn c y
    rw [List.nil_append] at ih
    rw [dW_nil] at ih
    rw [List.nil_append, List.cons_append, dW_nil, List.length_cons]
    rw [dW_nil, dW_nil, List.length_cons, List.length_append, List.length_singleton] at h1
    push_cast at *
    (first | lia | omega)
  | x :: xs, [] => by
    have ih := dW_tail h c xs []
    have h1 := dW_c (sub := sub) x c (xs ++ [c]) []
    have := h.nn x c
    rw [List.nil_append] at ih
    rw [dW_nilR] at ih
    rw [List.nil_append, List.cons_append, dW_nilR, List.length_cons]
    rw [dW_nilR, dW_nilR, List.length_cons, List.length_append, List.length_singleton] at h1
    push_cast at *
    (first | lia | omega)
  | x :: xs, y :: ys => by
    have i1 := dW_tail h c xs (y :: ys)
    have i2 := dW_tail h c (x :: xs) ys
    have i3 := dW_tail h c xs ys
    rw [List.cons_append, List.cons_append, dW_cons, dW_cons]
    rw [List.cons_append] at i1 i2
    rw [i1, i2, i3]
  termination_by xs ys => xs.length + ys.length
theorem dW_tails (h : SubD sub) : ∀ (zs xs ys : List Nat), dW sub (xs ++ zs) (ys ++ zs) = dW sub xs ys
  | [], xs, ys => by rw [List.append_nil, List.append_nil]
  | c :: zs, xs, ys => by
    have := dW_tails h zs (xs ++ [c]) (ys ++ [c])
    rw [List.append_assoc, List.append_assoc] at this
    rw [show c :: zs = [c] ++ zs from rfl, this, dW_tail h]
theorem dW_sym (h : SubD sub) : ∀ xs ys : List Nat, dW sub xs ys = dW sub ys xs
  | [], ys => by rw [dW_nil, dW_nilR]
  | x :: xs, [] => by rw [dW_nil, dW_nilR]
  | x :: xs, y :: ys => by
    have i1 := dW_sym h xs (y :: ys)
    have i2 := dW_sym h (x :: xs) ys
    have i3 := dW_sym h xs ys
    have h1 := dW_c (sub := sub) x y xs ys
    have h2 := dW_c (sub := sub) y x ys xs
    rw [h.sym y x, ← i1, ← i2, ← i3] at h2
    exact min3_eq h1 ⟨h2.2.1, h2.1, h2.2.2.1, h2.2.2.2.elim (fun e => .inr (.inl e)) fun e => e.elim .inl fun e => .inr (.inr e)⟩
  termination_by xs ys => xs.length + ys.length
theorem dW_low (h : SubD sub) : ∀ xs ys : List Nat, 2 * (ys.length : Int) ≤ dW sub xs ys + 2 * xs.length
  | [], ys => by rw [dW_nil]; simp
  | x :: xs, [] => by rw [dW_nilR]; simp; (first | lia | omega)
  | x :: xs, y :: ys => by
    have i1 := dW_low h xs (y :: ys)
    have i2 := dW_low h (x :: xs) ys
    have i3 := dW_low h xs ys
    have h1 := (dW_c (sub := sub) x y xs ys).2.2.2
    have := h.nn x y
    rw [List.length_cons] at *
    rw [List.length_cons] at *
    push_cast at *
    (first | lia | omega)
  termination_by xs ys => xs.length + ys.length
/-! the rows of the table -/
noncomputable def DD (sub : Nat → Nat → Int) (a b : List Nat) (i k : Nat) : Int := dW sub (a.take i).reverse (b.take k).reverse
theorem take_rev {a : List Nat} {i : Nat} (h : i < a.length) : (a.take (i + 1)).reverse = a.getD i 0 :: (a.take i).reverse := by
  rw [List.take_add_one, List.getElem?_eq_getElem h, List.reverse_append, List.getD_eq_getElem?_getD, List.getElem?_eq_getElem h]; rfl
section
variable {a b : List Nat}
theorem DD_0k {k : Nat} (h : k ≤ b.length) : DD sub a b 0 k = 2 * (k : Int) := by
  unfold DD
  rw [List.take_zero, List.reverse_nil, dW_nil, List.length_reverse, List.length_take, Nat.min_eq_left h]
theorem DD_i0 {i : Nat} (h : i ≤ a.length) : DD sub a b i 0 = 2 * (i : Int) := by
  unfold DD
  rw [List.take_zero, List.reverse_nil, dW_nilR, List.length_reverse, List.length_take, Nat.min_eq_left h]
theorem DD_c {i k : Nat} (hi : i < a.length) (hk : k < b.length) : DD sub a b (i + 1) (k + 1) ≤ DD sub a b i (k + 1) + 2 ∧ DD sub a b (i + 1) (k + 1) ≤ DD sub a b (i + 1) k + 2 ∧ DD sub a b (i + 1) (k + 1) ≤ DD sub a b i k + sub (a.getD i 0) (b.getD k 0) ∧
    (DD sub a b (i + 1) (k + 1) = DD sub a b i (k + 1) + 2 ∨ DD sub a b (i + 1) (k + 1) = DD sub a b (i + 1) k + 2 ∨ DD sub a b (i + 1) (k + 1) = DD sub a b i k + sub (a.getD i 0) (b.getD k 0)) := by
  unfold DD
  rw [take_rev hi, take_rev hk]
  exact dW_c ..
theorem mn2_le (a b : Int) : mn2 a b ≤ a ∧ mn2 a b ≤ b ∧ (mn2 a b = a ∨ mn2 a b = b) := by unfold mn2; split <;> (first | lia | omega)
structure RowOk (sub : Nat → Nat → Int) (a b : List Nat) (k i : Nat) (st : LSt) : Prop where
  d : st.d = DD sub a b i k
  r : (1 ≤ i → st.r = DD sub a b i (k + 1)) ∧ (i = 0 → st.r = 2 * (k : Int))
  len : st.row.length = a.length
  lo : ∀ t, t < i → st.row.getD t 0 = DD sub a b (t + 1) (k + 1) ∧ st.mn ≤ DD sub a b (t + 1) (k + 1)
  hi : ∀ t, i ≤ t → t < a.length → st.row.getD t 0 = DD sub a b (t + 1) k
theorem getD_set {l : List Int} {i j : Nat} {v : Int} (h : i < l.length) : (l.set i v).getD j 0 = if i = j then v else l.getD j 0 := by
  rw [List.getD_eq_getElem?_getD, List.getElem?_set]
  by_cases e : i = j
  · rw [if_pos e, if_pos e, if_pos h]; rfl
  · rw [if_neg e, if_neg e, List.getD_eq_getElem?_getD]
theorem mn3_eq {X Y Z m : Int} (h1 : mn2 X Y ≤ X ∧ mn2 X Y ≤ Y ∧ (mn2 X Y = X ∨ mn2 X Y = Y)) (h2 : mn2 (mn2 X Y + 2) Z ≤ mn2 X Y + 2 ∧ mn2 (mn2 X Y + 2) Z ≤ Z ∧ (mn2 (mn2 X Y + 2) Z = mn2 X Y + 2 ∨ mn2 (mn2 X Y + 2) Z = Z)) (h : m ≤ X + 2 ∧ m ≤ Y + 2 ∧ m ≤ Z ∧ (m = X + 2 ∨ m = Y + 2 ∨ m = Z)) : mn2 (mn2 X Y + 2) Z = m := by
  apply Int.le_antisymm
  · with_reducible refine el_0_4 (h) fun _ _ _ oq204 => ?_
    try clear h
    obtain rfl | rfl | rfl := oq204
    · exact Int.le_trans h2.1 (Int.add_le_add_right h1.1 2)
    · exact Int.le_trans h2.1 (Int.add_le_add_right h1.2.1 2)
    · exact h2.2.1
  · obtain ⟨_, _, e | e⟩ := h2 <;> rw [e]
    · obtain ⟨_, _, e | e⟩ := h1 <;> rw [e]
      · exact h.1
      · exact h.2.1
    · exact h.2.2.1
theorem no_up {k : Nat} {m : Int} (e : m = 2 * ((k : Int) + 1) + 2) (h : m ≤ 2 * (k : Int) + 2) : False := by (first | lia | omega)
theorem levRow_ok (h : SubD sub) {k : Nat} (hk : k < b.length) {row : List Int} (hl : row.length = a.length) (hrow : ∀ t, t < a.length → row.getD t 0 = DD sub a b (t + 1) k) : ∀ i, i ≤ a.length → RowOk sub a b k i (levRow sub a (b.getD k 0) k row i) := by
  intro i
  induction i with
  | zero => exact fun _ => ⟨by rw [DD_0k (by (first | lia | omega))]; show (k : Int) * 2 = _; (first | lia | omega), ⟨by (first | lia | omega), fun _ => by show (k : Int) * 2 = _; (first | lia | omega)⟩, hl, by (first | lia | omega), fun t _ ht => hrow t ht⟩
  | succ i ih0 =>
    intro hi
    have ih := ih0 (by (first | lia | omega))
    rw [levRow_succ]
    generalize levRow sub a (b.getD k 0) k row i = st at ih ⊢
    have e1 := ih.hi i (Nat.le_refl _) (by (first | lia | omega))
    have hs := h.nn (a.getD i 0) (b.getD k 0)
    have hc := DD_c (sub := sub) (a := a) (b := b) (i := i) (k := k) (by (first | lia | omega)) hk
    have hm1 := mn2_le st.r (st.row.getD i 0)
    have hm2 := mn2_le (mn2 st.r (st.row.getD i 0) + 2) (st.d + sub (b.getD k 0) (a.getD i 0))
    have hr' : mn2 (mn2 st.r (st.row.getD i 0) + 2) (st.d + sub (b.getD k 0) (a.getD i 0)) = DD sub a b (i + 1) (k + 1) := by
      rw [h.sym (b.getD k 0) (a.getD i 0)] at hm2 ⊢
      rw [ih.d] at hm2 ⊢
      rw [e1] at hm1 hm2 ⊢
      by_cases q : 1 ≤ i
      · rw [ih.r.1 q] at hm1 hm2 ⊢; exact mn3_eq hm1 hm2 hc
      · have z : i = 0 := by (first | lia | omega)
        subst z
        rw [ih.r.2 rfl] at hm1 hm2 ⊢
        have d0 := DD_0k (sub := sub) (a := a) (b := b) (k := k) (by (first | lia | omega))
        have d1 := DD_0k (sub := sub) (a := a) (b := b) (k := k + 1) (by (first | lia | omega))
        rw [d0] at hm2 hc ⊢
        rw [d1] at hc
        push_cast at hc
        simp only [Nat.zero_add] at hm1 hm2 hc ⊢
        have b1 := Int.le_trans hc.2.2.1 (Int.add_le_add_left hs.2 _)
        exact mn3_eq hm1 hm2 ⟨b1, hc.2.1, hc.2.2.1, hc.2.2.2.elim (fun e => (no_up e b1).elim) .inr⟩
    refine ⟨e1, ⟨fun _ => hr', by (first | lia | omega)⟩, ?_, fun t ht => ?_, fun t ht1 ht2 => ?_⟩
    · show (st.row.set i _).length = _; rw [List.length_set]; exact ih.len
    · show (st.row.set i _).getD t 0 = _ ∧ (if mn2 (mn2 st.r (st.row.getD i 0) + 2) (st.d + sub (b.getD k 0) (a.getD i 0)) < st.mn then mn2 (mn2 st.r (st.row.getD i 0) + 2) (st.d + sub (b.getD k 0) (a.getD i 0)) else st.mn) ≤ _
      rw [getD_set (by rw [ih.len]; (first | lia | omega)), hr']
      by_cases q : i = t
      · subst q; rw [if_pos rfl]; refine ⟨rfl, ?_⟩; split <;> (first | lia | omega)
      · have := ih.lo t (by (first | lia | omega))
        rw [if_neg q]; refine ⟨this.1, ?_⟩; split <;> (first | lia | omega)
    · show (st.row.set i _).getD t 0 = _
      rw [getD_set (by rw [ih.len]; (first | lia | omega)), if_neg (by (first | lia | omega))]
      exact ih.hi t (by (first | lia | omega)) ht2
theorem rowsAt_ok (h : SubD sub) (ha : 1 ≤ a.length) : ∀ k, k ≤ b.length → (rowsAt sub a b k).1.length = a.length ∧ (∀ t, t < a.length → (rowsAt sub a b k).1.getD t 0 = DD sub a b (t + 1) k) ∧ (1 ≤ k → (rowsAt sub a b k).2 = DD sub a b a.length k)
  | 0, _ => ⟨by simp [rowsAt], fun t ht => by
      rw [DD_i0 (by (first | lia | omega))]
      show ((List.range a.length).map fun (i : Nat) => (2 : Int) + (i : Int) * 2).getD t 0 = _
      rw [List.getD_eq_getElem?_getD, List.getElem?_map, List.getElem?_range ht]
      show (2 : Int) + (t : Int) * 2 = _
      push_cast; (first | lia | omega), by (first | lia | omega)⟩
  | k + 1, hk => by
    refine el_0_3 (rowsAt_ok h ha k (by (first | lia | omega))) fun i1 i2 _ => ?_
    have hr := levRow_ok h (show k < b.length by (first | lia | omega)) i1 i2 a.length (Nat.le_refl _)
    exact ⟨hr.len, fun t ht => (hr.lo t ht).1, fun _ => hr.r.1 ha⟩
theorem minAt_le (h : SubD sub) (ha : 1 ≤ a.length) {k t : Nat} (hk : k < b.length) (ht : t < a.length) : minAt sub a b k ≤ DD sub a b (t + 1) (k + 1) := by
  refine el_0_3 (rowsAt_ok (b := b) h ha k (by (first | lia | omega))) fun i1 i2 _ => ?_
  exact ((levRow_ok h hk i1 i2 a.length (Nat.le_refl _)).lo t ht).2
theorem row_has (h : SubD sub) (ha : 1 ≤ a.length) {X : Int} {k : Nat} (hk1 : 1 ≤ k) (hk : k < b.length) : ∀ t, t < a.length → DD sub a b (t + 1) (k + 1) ≤ X → ∃ t, t < a.length ∧ DD sub a b (t + 1) k ≤ X := by
  have hone : DD sub a b 1 k ≤ 2 * (k : Int) := by
    obtain ⟨k', rfl⟩ : ∃ k', k = k' + 1 := ⟨k - 1, by (first | lia | omega)⟩
    have hc := (DD_c (sub := sub) (a := a) (b := b) (i := 0) (k := k') (by (first | lia | omega)) (by (first | lia | omega))).2.2.1
    rw [Nat.zero_add] at hc
    have := h.nn (a.getD 0 0) (b.getD k' 0)
    have := DD_0k (sub := sub) (a := a) (b := b) (k := k') (by (first | lia | omega))
    push_cast; (first | lia | omega)
  intro t
  induction t with
  | zero =>
    intro ht hX
    have hc := (DD_c (sub := sub) (a := a) (b := b) (i := 0) (k := k) ht hk).2.2.2
    have := h.nn (a.getD 0 0) (b.getD k 0)
    have d0 := DD_0k (sub := sub) (a := a) (b := b) (k := k) (by (first | lia | omega))
    have d1 := DD_0k (sub := sub) (a := a) (b := b) (k := k + 1) (by (first | lia | omega))
    push_cast at d1
    refine ⟨0, ht, ?_⟩
    rw [Nat.zero_add] at *
    (first | lia | omega)
  | succ t ih =>
    intro ht hX
    have hc := (DD_c (sub := sub) (a := a) (b := b) (i := t + 1) (k := k) ht hk).2.2.2
    have := h.nn (a.getD (t + 1) 0) (b.getD k 0)
    rcases hc with q | q | q
    · exact ih (by (first | lia | omega)) (by (first | lia | omega))
    · exact ⟨t + 1, ht, by (first | lia | omega)⟩
    · exact ⟨t, by (first | lia | omega), by (first | lia | omega)⟩
theorem rows_has (h : SubD sub) (ha : 1 ≤ a.length) : ∀ d k, 1 ≤ k → k + d = b.length → ∃ t, t < a.length ∧ DD sub a b (t + 1) k ≤ DD sub a b a.length b.length
  | 0, k, hk, e => ⟨a.length - 1, by (first | lia | omega), by rw [show a.length - 1 + 1 = a.length by (first | lia | omega), show k = b.length by (first | lia | omega)]; exact Int.le_refl _⟩
  | d + 1, k, hk, e => by
    refine el_1_2 (rows_has h ha d (k + 1) (by (first | lia | omega)) (by (first | lia | omega))) fun t ht hX => ?_
    exact row_has h ha hk (by (first | lia | omega)) t ht hX
theorem levCore_ok (h : SubD sub) (ha : 1 ≤ a.length) (hb : 1 ≤ b.length) (m : Int) : levCore sub a b m = dW sub a.reverse b.reverse ∨ (levCore sub a b m = m + 1 ∧ m < dW sub a.reverse b.reverse) := by
  have hX : DD sub a b a.length b.length = dW sub a.reverse b.reverse := by unfold DD; rw [List.take_length, List.take_length]
  by_cases q : ∃ k, k < b.length ∧ minAt sub a b k > m
  · with_reducible refine el_1_2 (q) fun k hk hm => ?_
    try clear q
    right
    refine ⟨levCore_out hk hm, ?_⟩
    refine el_1_2 (rows_has (a := a) (b := b) h ha (b.length - (k + 1)) (k + 1) (by (first | lia | omega)) (by (first | lia | omega))) fun t ht hX2 => ?_
    have := minAt_le (sub := sub) h ha hk ht
    (first | lia | omega)
  · left
    rw [levCore_in fun k hk hm => q ⟨k, hk, hm⟩, (rowsAt_ok h ha b.length (Nat.le_refl _)).2.2 hb, hX]
end
theorem levMid_ok (h : SubD sub) (a b : List Nat) (m : Int) : levMid sub a b m = dW sub a.reverse b.reverse ∨ (levMid sub a b m = m + 1 ∧ m < dW sub a.reverse b.reverse) := by
  unfold levMid
  by_cases e : a = [] ∨ b = []
  · left
    rw [if_pos e]
    rcases e with rfl | rfl
    · rw [List.reverse_nil, dW_nil]; simp
    · rw [List.reverse_nil, dW_nilR]; simp
  · rw [if_neg e]
    have ha : 1 ≤ a.length := by
      cases a with
      | nil => exact absurd (.inl rfl) e
      | cons => simp
    have hb : 1 ≤ b.length := by
      cases b with
      | nil => exact absurd (.inr rfl) e
      | cons => simp
    have l1 := dW_low h a.reverse b.reverse
    have l2 := dW_low h b.reverse a.reverse
    rw [dW_sym h b.reverse a.reverse] at l2
    rw [List.length_reverse, List.length_reverse] at l1 l2
    split
    · split
      · right; exact ⟨rfl, by (first | lia | omega)⟩
      · have := levCore_ok h hb ha m
        rw [dW_sym h b.reverse a.reverse] at this; exact this
    · split
      · right; exact ⟨rfl, by (first | lia | omega)⟩
      · exact levCore_ok h ha hb m
theorem preL_take : ∀ a b : List Nat, a.take (preL a b) = b.take (preL a b)
  | x :: a, y :: b => by
    unfold preL
    split
    · rename_i e; rw [List.take_succ_cons, List.take_succ_cons, preL_take a b, e]
    · rfl
  | [], b => by simp [preL]
  | x :: a, [] => by simp [preL]
theorem cut_ok (h : SubD sub) (a b : List Nat) : dW sub (cut2 a b).1.reverse (cut2 a b).2.reverse = dW sub a.reverse b.reverse := by
  have e1 : dW sub a.reverse b.reverse = dW sub (a.drop (preL a b)).reverse (b.drop (preL a b)).reverse := by
    have ha := List.take_append_drop (preL a b) a
    have hb := List.take_append_drop (preL a b) b
    have hr : ∀ l : List Nat, l.reverse = (l.drop (preL a b)).reverse ++ (l.take (preL a b)).reverse := fun l => by rw [← List.reverse_append, List.take_append_drop]
    rw [hr a, hr b, preL_take a b, dW_tails h]
  rw [e1]
  unfold cut2
  dsimp only
  generalize a.drop (preL a b) = u
  generalize b.drop (preL a b) = v
  have hq := preL_le u.reverse v.reverse
  rw [List.length_reverse, List.length_reverse] at hq
  have hp := preL_take u.reverse v.reverse
  generalize preL u.reverse v.reverse = q at hq hp
  have hd : ∀ l : List Nat, q ≤ l.length → (l.take (l.length - q)).reverse = l.reverse.drop q := fun l hl => by
    rw [List.reverse_take]; congr 1; (first | lia | omega)
  rw [hd u hq.1, hd v hq.2]
  have hu := List.take_append_drop q u.reverse
  have hv := List.take_append_drop q v.reverse
  rw [← hu, ← hv, hp]
  rw [dW_heads h]
  rw [← hp, hu, hp, hv]
theorem lev_ok (h : SubD sub) (a b : List Nat) (m : Int) : lev sub a b m = dW sub a.reverse b.reverse ∨ (lev sub a b m = m + 1 ∧ m < dW sub a.reverse b.reverse) := by
  unfold lev
  by_cases e : a = b
  · left; rw [if_pos e, e, dW_self h]
  · rw [if_neg e]
    have := levMid_ok h (cut2 a b).1 (cut2 a b).2 m
    rw [cut_ok h] at this; exact this
end
theorem subst_D : SubD subst := by
  refine ⟨fun x y => ?_, fun x => ?_, fun x y => ?_⟩
  · unfold subst; split
    · (first | lia | omega)
    · split <;> (first | lia | omega)
  · unfold subst; rw [if_pos rfl]
  · unfold subst
    by_cases e : x = y
    · rw [e]
    · have e' : ¬ y = x := fun q => e q.symm
      rw [if_neg e, if_neg e']
      by_cases l : lowerS (tx [x]) = lowerS (tx [y])
      · rw [l]
      · have l' : ¬ lowerS (tx [y]) = lowerS (tx [x]) := fun q => l q.symm
        rw [if_neg l, if_neg l']

set_option exponentiation.threshold 10000
theorem subst_price : ∀ x ∈ letF, ∀ y ∈ letF, subst x y = price x y := by decide +kernel
theorem sub_ok {a b : List Nat} (ha : LettersOk a) (hb : LettersOk b) : SubOk a b := fun i j hi hj => by
  have h1 : a.getD i 0 ∈ a := by rw [List.getD_eq_getElem?_getD, List.getElem?_eq_getElem hi]; exact List.getElem_mem hi
  have h2 : b.getD j 0 ∈ b := by rw [List.getD_eq_getElem?_getD, List.getElem?_eq_getElem hj]; exact List.getElem_mem hj
  exact subst_price _ (ha.2 _ h1) _ (hb.2 _ h2)
noncomputable def ic (v : Int) : Wt := fun c _ _ => if c = v then 1 else 0
theorem dn_ic (v : Int) : dn (ic v) = ic (v - 2) := by
  funext c k l
  unfold dn ic
  by_cases h : c + 2 = v
  · rw [if_pos h, if_pos (by (first | lia | omega))]
  · rw [if_neg h, if_neg (by (first | lia | omega))]
section
variable {a b : List Nat}
theorem up_ic (v : Int) (i j : Nat) : up a b (ic v) i j = ic (v - prAt a b i j) := by
  funext c k l
  unfold up ic
  by_cases h : c + prAt a b i j = v
  · rw [if_pos h, if_pos (by (first | lia | omega))]
  · rw [if_neg h, if_neg (by (first | lia | omega))]
theorem ic_nn (ha : a.length ≤ 3) (hb : b.length ≤ 3) {i j : Nat} (hi : i ≤ a.length) (hj : j ≤ b.length) (v : Int) : 0 ≤ TT a b (ic v) i j :=
  TT_nn ha hb hi hj fun c k l _ _ => by unfold ic; split <;> (first | lia | omega)
theorem dist_tt (ha : a.length ≤ 3) (hb : b.length ≤ 3) (hs : SubOk a b) {i j : Nat} (hi : i ≤ a.length) (hj : j ≤ b.length) (v : Int) : (v < DD subst a b i j → TT a b (ic v) i j = 0) ∧ (v = DD subst a b i j → 0 < TT a b (ic v) i j) := by
  refine TT_ind (a := a) (b := b) (P := fun φ i j => ∀ v, φ = ic v → (v < DD subst a b i j → TT a b φ i j = 0) ∧ (v = DD subst a b i j → 0 < TT a b φ i j)) (fun φ i j hi hj h1 h2 h3 v hv => ?_) (ic v) i j hi hj v rfl
  subst hv
  have hr := TT_rec (φ := ic v) ha hb hi hj
  rw [dn_ic] at hr
  by_cases hi0 : i = 0
  · by_cases hj0 : j = 0
    · subst hi0; subst hj0
      rw [if_pos ⟨rfl, rfl⟩, if_neg (by (first | lia | omega)), if_neg (by (first | lia | omega))] at hr
      rw [hr, DD_i0 (Nat.zero_le _)]
      unfold ic
      constructor
      · intro q; rw [if_neg (by (first | lia | omega))]; rfl
      · intro q; rw [if_pos (by (first | lia | omega))]; decide
    · subst hi0
      rw [if_neg (by (first | lia | omega)), if_neg (by (first | lia | omega)), if_neg (by (first | lia | omega)), if_pos (by (first | lia | omega))] at hr
      have ih := h3 (by (first | lia | omega)) (v - 2) (dn_ic v)
      rw [dn_ic] at ih
      rw [hr, DD_0k hj]
      rw [DD_0k (by (first | lia | omega))] at ih
      exact ⟨fun q => by rw [ih.1 (by (first | lia | omega))]; rfl, fun q => by have := ih.2 (by (first | lia | omega)); (first | lia | omega)⟩
  · by_cases hj0 : j = 0
    · subst hj0
      rw [if_neg (by (first | lia | omega)), if_neg (by (first | lia | omega)), if_pos (by (first | lia | omega)), if_neg (by (first | lia | omega))] at hr
      have ih := h2 (by (first | lia | omega)) (v - 2) (dn_ic v)
      rw [dn_ic] at ih
      rw [hr, DD_i0 hi]
      rw [DD_i0 (by (first | lia | omega))] at ih
      exact ⟨fun q => by rw [ih.1 (by (first | lia | omega))]; rfl, fun q => by have := ih.2 (by (first | lia | omega)); (first | lia | omega)⟩
    · obtain ⟨i, rfl⟩ : ∃ k, i = k + 1 := ⟨i - 1, by (first | lia | omega)⟩
      obtain ⟨j, rfl⟩ : ∃ k, j = k + 1 := ⟨j - 1, by (first | lia | omega)⟩
      rw [if_neg (by (first | lia | omega)), if_pos (by (first | lia | omega)), if_pos (by (first | lia | omega)), if_pos (by (first | lia | omega))] at hr
      have i1 := h1 (by (first | lia | omega)) (by (first | lia | omega)) _ (up_ic v _ _)
      have i2 := h2 (by (first | lia | omega)) (v - 2) (dn_ic v)
      have i3 := h3 (by (first | lia | omega)) (v - 2) (dn_ic v)
      rw [up_ic] at i1 hr
      rw [dn_ic] at i2 i3
      simp only [Nat.add_sub_cancel] at i1 i2 i3 hr
      have hc := DD_c (sub := subst) (a := a) (b := b) (i := i) (k := j) (by (first | lia | omega)) (by (first | lia | omega))
      rw [hs i j (by (first | lia | omega)) (by (first | lia | omega))] at hc
      have n1 := ic_nn ha hb (i := i) (j := j) (by (first | lia | omega)) (by (first | lia | omega)) (v - prAt a b i j)
      have n2 := ic_nn ha hb (i := i) (j := j + 1) (by (first | lia | omega)) hj (v - 2)
      have n3 := ic_nn ha hb (i := i + 1) (j := j) hi (by (first | lia | omega)) (v - 2)
      rw [hr]
      constructor
      · intro q
        rw [i1.1 (by (first | lia | omega)), i2.1 (by (first | lia | omega)), i3.1 (by (first | lia | omega))]; rfl
      · intro q
        rcases hc.2.2.2 with z | z | z
        · have := i2.2 (by (first | lia | omega)); (first | lia | omega)
        · have := i3.2 (by (first | lia | omega)); (first | lia | omega)
        · have := i1.2 (by (first | lia | omega)); (first | lia | omega)
theorem top_tt (ha : a.length ≤ 3) (hb : b.length ≤ 3) {i j : Nat} (hi : i ≤ a.length) (hj : j ≤ b.length) : 0 < TT a b (ic (2 * ((i : Int) + j))) i j := by
  refine TT_ind (a := a) (b := b) (P := fun φ i j => φ = ic (2 * ((i : Int) + j)) → 0 < TT a b φ i j) (fun φ i j hi hj h1 h2 h3 hv => ?_) _ i j hi hj rfl
  subst hv
  rw [TT_rec ha hb hi hj, dn_ic, up_ic]
  have n1 : 0 ≤ (if i = 0 ∧ j = 0 then ic (2 * ((i : Int) + j)) 0 0 0 else 0) := by
    split
    · unfold ic; split <;> (first | lia | omega)
    · (first | lia | omega)
  have n2 : 0 ≤ (if 1 ≤ i ∧ 1 ≤ j then TT a b (ic (2 * ((i : Int) + j) - prAt a b (i - 1) (j - 1))) (i - 1) (j - 1) else 0) := by
    split
    · exact ic_nn ha hb (by (first | lia | omega)) (by (first | lia | omega)) _
    · (first | lia | omega)
  have n3 : 0 ≤ (if 1 ≤ i then TT a b (ic (2 * ((i : Int) + j) - 2)) (i - 1) j else 0) := by
    split
    · exact ic_nn ha hb (by (first | lia | omega)) (by (first | lia | omega)) _
    · (first | lia | omega)
  have n4 : 0 ≤ (if 1 ≤ j then TT a b (ic (2 * ((i : Int) + j) - 2)) i (j - 1) else 0) := by
    split
    · exact ic_nn ha hb (by (first | lia | omega)) (by (first | lia | omega)) _
    · (first | lia | omega)
  by_cases q1 : 1 ≤ i
  · have e : (2 * ((i : Int) + j) - 2) = 2 * (((i - 1 : Nat) : Int) + j) := by (first | lia | omega)
    have := h2 q1 (by rw [dn_ic, e])
    rw [dn_ic] at this
    rw [if_pos q1] at n3 ⊢
    (first | lia | omega)
  · by_cases q2 : 1 ≤ j
    · have e : (2 * ((i : Int) + j) - 2) = 2 * ((i : Int) + ((j - 1 : Nat) : Int)) := by (first | lia | omega)
      have := h3 q2 (by rw [dn_ic, e])
      rw [dn_ic] at this
      rw [if_pos q2] at n4 ⊢
      (first | lia | omega)
    · have e : i = 0 ∧ j = 0 := by (first | lia | omega)
      with_reducible refine el_0_2 (e) fun oq205 oq206 => ?_
      try clear e
      obtain rfl := oq205
      obtain rfl := oq206
      rw [if_pos ⟨rfl, rfl⟩] at n1 ⊢
      have : ic (2 * (((0 : Nat) : Int) + ((0 : Nat) : Int))) 0 0 0 = 1 := rfl
      (first | lia | omega)
theorem range_range' (n : Nat) : List.range n = List.range' 0 n := by rw [List.range_eq_range']
theorem ic_sum (n : Nat) (f : Nat → Int) (c : Int) (k l : Int) : ((List.range n).map fun (t : Nat) => ic t c k l * f t).sum = if 0 ≤ c ∧ c < n then f c.toNat else 0 := by
  have e : (fun (t : Nat) => ic t c k l * f t) = fun (t : Nat) => if t = c.toNat then (if 0 ≤ c then f t else 0) else 0 := by
    funext t
    unfold ic
    by_cases h : c = (t : Int)
    · rw [if_pos h, if_pos (by (first | lia | omega)), if_pos (by (first | lia | omega))]; (first | lia | omega)
    · rw [if_neg h]
      by_cases q : t = c.toNat
      · rw [if_pos q, if_neg (by (first | lia | omega))]; (first | lia | omega)
      · rw [if_neg q]; (first | lia | omega)
  rw [e, range_range', pick_sum (v := fun t => if 0 ≤ c then f t else 0)]
  by_cases h : 0 ≤ c ∧ c < n
  · rw [if_pos h, if_pos (by (first | lia | omega)), if_pos h.1]
  · rw [if_neg h]
    by_cases q : 0 ≤ c.toNat ∧ c.toNat < 0 + n
    · rw [if_pos q, if_neg (by (first | lia | omega))]
    · rw [if_neg q]
theorem TT_sum (n : Nat) (g : Nat → Wt) {i j : Nat} : TT a b (fun c k l => ((List.range n).map fun t => g t c k l).sum) i j = ((List.range n).map fun t => TT a b (g t) i j).sum := by
  induction n with
  | zero =>
    show TT a b (fun _ _ _ => 0) i j = 0
    rw [TT_const]; (first | lia | omega)
  | succ n ih =>
    have e : (fun c k l => ((List.range (n + 1)).map fun t => g t c k l).sum) = fun c k l => ((List.range n).map fun t => g t c k l).sum + g n c k l := by
      funext c k l; rw [List.range_succ, List.map_append, List.sum_append]; simp
    rw [e, TT_add, ih, List.range_succ, List.map_append, List.sum_append]; simp
theorem zz_sum (ha : a.length ≤ 3) (hb : b.length ≤ 3) (w : Nat) {i j : Nat} (hi : i ≤ a.length) (hj : j ≤ b.length) : TT a b (zz w) i j = ((List.range (2 * (i + j) + 1)).map fun (t : Nat) => TT a b (ic t) i j * 2 ^ (w * t)).sum := by
  have e : TT a b (zz w) i j = TT a b (fun c k l => ((List.range (2 * (i + j) + 1)).map fun (t : Nat) => ic t c k l * 2 ^ (w * t)).sum) i j := TT_congr ha hb hi hj fun c k l h1 h2 => by
    rw [ic_sum _ (fun t => 2 ^ (w * t)), if_pos (by (first | lia | omega))]; rfl
  rw [e, TT_sum (2 * (i + j) + 1) (fun t c k l => ic t c k l * 2 ^ (w * t))]
  refine sum_congr fun t _ => ?_
  have := TT_mul (a := a) (b := b) (i := i) (j := j) (2 ^ (w * t)) (φ := ic t)
  rw [Int.mul_comm, ← this]
  congr 1
  funext c k l; rw [Int.mul_comm]
theorem cnt_eq (T : List En) (k : Nat) : cntOf T k = wsm (ic k) T := by
  unfold cntOf wsm ic
  induction T with
  | nil => rfl
  | cons e T ih =>
    rw [List.filter_cons, List.map_cons, List.sum_cons]
    by_cases h : e.c = (k : Int)
    · rw [if_pos (by simpa using h), List.map_cons, List.sum_cons, ih, if_pos h]; (first | lia | omega)
    · rw [if_neg (by simpa using h), ih, if_neg h]; (first | lia | omega)
theorem wsm_zero {φ : Wt} {T : List En} (h : ∀ e ∈ T, φ e.c e.k e.l = 0) : wsm φ T = 0 := by
  unfold wsm
  rw [List.map_congr_left (g := fun _ => (0 : Int)) fun e he => by rw [h e he]; (first | lia | omega)]
  exact sum_nul _
end
/-! numbers by their digits -/
theorem valN_snoc (w : Nat) (l : List Nat) (d : Nat) : valN w (l ++ [d]) = valN w l + 2 ^ (w * l.length) * d := by
  rw [valN_append]; rfl
theorem valN_sum (w : Nat) (f : Nat → Nat) : ∀ n, ((valN w ((List.range n).map f) : Nat) : Int) = ((List.range n).map fun t => (f t : Int) * 2 ^ (w * t)).sum
  | 0 => rfl
  | n + 1 => by
    rw [List.range_succ, List.map_append, List.map_append, List.sum_append, List.map_singleton, valN_snoc, List.length_map, List.length_range]
    rw [← valN_sum w f n]
    push_cast
    simp [Int.mul_comm]
noncomputable def aN (w : Nat) : List Nat → Nat
  | [] => 0
  | _ :: l => l.sum + 2 ^ w * aN w l
theorem aN_ok (w : Nat) : ∀ l : List Nat, valN w l = (2 ^ w - 1) * aN w l + l.sum
  | [] => rfl
  | d :: l => by
    show d + 2 ^ w * valN w l = (2 ^ w - 1) * (l.sum + 2 ^ w * aN w l) + (d :: l).sum
    rw [aN_ok w l, List.sum_cons]
    obtain ⟨z, hz⟩ : ∃ z, 2 ^ w = z + 1 := ⟨2 ^ w - 1, by have := Nat.two_pow_pos w; (first | lia | omega)⟩
    rw [hz, Nat.add_sub_cancel]
    generalize aN w l = x
    generalize l.sum = y
    grind
theorem above_ok (w : Nat) : ∀ l : List Nat, aboveOf (l.map fun (d : Nat) => (d : Int)) w = (aN w l : Nat)
  | [] => rfl
  | d :: l => by
    have ih := above_ok w l
    unfold aboveOf at ih ⊢
    rw [List.map_cons, List.length_cons, List.range_succ_eq_map, List.map_cons, List.sum_cons, List.map_map]
    have e : ((List.range ((l.map fun (d : Nat) => (d : Int)).length)).map ((fun k => (List.drop (k + 1) ((d : Int) :: l.map fun (d : Nat) => (d : Int))).sum * 2 ^ (w * k)) ∘ Nat.succ)) = (List.range ((l.map fun (d : Nat) => (d : Int)).length)).map fun k => 2 ^ w * ((List.drop (k + 1) (l.map fun (d : Nat) => (d : Int))).sum * 2 ^ (w * k)) := by
      refine List.map_congr_left fun k _ => ?_
      show (List.drop (k + 1 + 1) ((d : Int) :: l.map fun (d : Nat) => (d : Int))).sum * 2 ^ (w * (k + 1)) = _
      rw [List.drop_succ_cons, Nat.mul_succ, Int.pow_add]
      grind
    rw [e, sum_mul, ih]
    show (List.drop 1 _).sum * 2 ^ (w * 0) + _ = ((l.sum + 2 ^ w * aN w l : Nat) : Int)
    rw [List.drop_succ_cons, List.drop_zero]
    have hs : ∀ l : List Nat, (l.map fun (d : Nat) => (d : Int)).sum = ((l.sum : Nat) : Int) := fun l => by
      induction l with
      | nil => rfl
      | cons x r ih => rw [List.map_cons, List.sum_cons, List.sum_cons, ih]; push_cast; rfl
    rw [hs]
    push_cast
    simp

set_option exponentiation.threshold 10000
section
variable {a b : List Nat} {w : Nat}
theorem dist_range (ha : a.length ≤ 3) (hb : b.length ≤ 3) (hs : SubOk a b) {i j : Nat} (hi : i ≤ a.length) (hj : j ≤ b.length) : 0 ≤ DD subst a b i j ∧ DD subst a b i j ≤ 2 * ((i : Int) + j) := by
  have h := (dist_tt ha hb hs hi hj (DD subst a b i j)).2 rfl
  have z : ¬(0 ≤ DD subst a b i j ∧ DD subst a b i j ≤ 2 * ((i : Int) + j)) → TT a b (ic (DD subst a b i j)) i j = 0 := fun q => by
    have : TT a b (ic (DD subst a b i j)) i j = TT a b (fun _ _ _ => 0) i j := TT_congr ha hb hi hj fun c k l h1 h2 => by unfold ic; rw [if_neg (by (first | lia | omega))]
    rw [this, TT_const]; (first | lia | omega)
  by_cases q : 0 ≤ DD subst a b i j ∧ DD subst a b i j ≤ 2 * ((i : Int) + j)
  · exact q
  · rw [z q] at h; (first | lia | omega)
theorem node_ok (ha : a.length ≤ 3) (hb : b.length ≤ 3) (hs : SubOk a b) {i j : Nat} (hi : i ≤ a.length) (hj : j ≤ b.length) : ∃ e least, gets (walked a b w) (4 * (i : Int) + j) = some e ∧ EqD 2 (encF e) (encF (due (toldAt a b i j) (i + j) w)) ∧ least ∈ (toldAt a b i j).map (·.c) ∧ (∀ x ∈ (toldAt a b i j).map (·.c), least ≤ x) ∧
    lev subst (pick2 ((i + j) % 2) (a.take i) (b.take j)) (pick2 (1 - (i + j) % 2) (a.take i) (b.take j)) (least + ((i + j) % 3 : Nat)) = least := by
  with_reducible refine el_1_2 (walked_rep (w := w) ha hb hs hi hj) fun e he hr => ?_
  have hten := (told_ok (a := a) (b := b) (i := i) (j := j) ha hb).2
  have hT : ∀ φ, wsm φ (toldAt a b i j) = TT a b φ i j := fun φ => told_sum ha hb hi hj
  refine ⟨e, DD subst a b i j, he, due_eq ha hb hi hj hr, ?_, fun x hx => ?_, ?_⟩
  · have h := (dist_tt ha hb hs hi hj (DD subst a b i j)).2 rfl
    rw [← hT] at h
    by_cases q : DD subst a b i j ∈ (toldAt a b i j).map (·.c)
    · exact q
    · rw [wsm_zero fun f hf => by unfold ic; rw [if_neg (fun z => q (List.mem_map.mpr ⟨f, hf, z⟩))]] at h
      (first | lia | omega)
  · with_reducible refine el_1_2 (List.mem_map.mp hx) fun f hf oq207 => ?_
    obtain rfl := oq207
    by_cases q : DD subst a b i j ≤ f.c
    · exact q
    · have h := (dist_tt ha hb hs hi hj f.c).1 (by (first | lia | omega))
      rw [← hT] at h
      have := wsm_pos (φ := ic f.c) (T := toldAt a b i j) (fun g hg => by
        have := (hten g hg).2.2.2.2.2
        unfold ic; split <;> (first | lia | omega)) ⟨f, hf, by
        have := (hten f hf).2.2.2.2.2
        unfold ic; rw [if_pos rfl]; (first | lia | omega)⟩
      (first | lia | omega)
  · have h1 := lev_ok subst_D (a.take i) (b.take j) (DD subst a b i j + ((i + j) % 3 : Nat))
    have h2 := lev_ok subst_D (b.take j) (a.take i) (DD subst a b i j + ((i + j) % 3 : Nat))
    rw [dW_sym subst_D (b.take j).reverse (a.take i).reverse] at h2
    have hD : dW subst (a.take i).reverse (b.take j).reverse = DD subst a b i j := rfl
    rw [hD] at h1 h2
    have h2c : (i + j) % 2 < 2 := Nat.mod_lt _ (by decide)
    unfold pick2
    by_cases q : (i + j) % 2 = 0
    · rw [if_pos q, if_neg (by (first | lia | omega))]; (first | lia | omega)
    · rw [if_neg q, if_pos (by (first | lia | omega))]; (first | lia | omega)
theorem dig_full {l : List Nat} {d : Nat} (hw : 1 ≤ w) (h : ∀ x ∈ l ++ [d], x < 2 ^ w) (hd : 1 ≤ d) : i2dN w (valN w (l ++ [d])) = l ++ [d] ∧ lenN w (valN w (l ++ [d])) = l.length + 1 := by
  refine el_0_2 (digits_pad (k := l.length + 1) hw (l := l ++ [d]) (by simp) h) fun h1 h2 => ?_
  have h3 : lenN w (valN w (l ++ [d])) = l.length + 1 := by
    by_cases q : lenN w (valN w (l ++ [d])) = l.length + 1
    · exact q
    · obtain ⟨k, hk⟩ : ∃ k, l.length + 1 - lenN w (valN w (l ++ [d])) = k + 1 := ⟨l.length - lenN w (valN w (l ++ [d])), by (first | lia | omega)⟩
      rw [hk, List.replicate_succ', ← List.append_assoc] at h2
      have := List.append_inj_right' h2 rfl
      have : (0 : Nat) = d := by simpa using this
      (first | lia | omega)
  refine ⟨?_, h3⟩
  rw [h3, Nat.sub_self] at h2
  simpa using h2
theorem valN_zero : ∀ n : Nat, valN w (List.replicate n 0) = 0
  | 0 => rfl
  | n + 1 => by rw [List.replicate_succ]; show 0 + 2 ^ w * valN w (List.replicate n 0) = 0; rw [valN_zero n]; simp
theorem num_ok (ha : a.length ≤ 3) (hb : b.length ≤ 3) (hs : SubOk a b) (hw7 : 7 ≤ w) (hw : w ≤ 12) : ∃ e N far, gets (walked a b w) (4 * (a.length : Int) + b.length) = some e ∧ NumOK a b w e N far (countsOf (toldAt a b a.length b.length) (2 * (a.length + b.length) + 1)) := by
  with_reducible refine el_1_2 (walked_rep (w := w) ha hb hs (Nat.le_refl a.length) (Nat.le_refl b.length)) fun e he hr => ?_
  have hT : ∀ φ, wsm φ (toldAt a b a.length b.length) = TT a b φ a.length b.length := fun φ => told_sum ha hb (Nat.le_refl _) (Nat.le_refl _)
  with_reducible refine el_0_2 (dist_range ha hb hs (Nat.le_refl a.length) (Nat.le_refl b.length)) fun r0 r1 => ?_
  have hD : DD subst a b a.length b.length = dW subst a.reverse b.reverse := by unfold DD; rw [List.take_length, List.take_length]
  have hct : ∀ t : Nat, ∃ d : Nat, TT a b (ic t) a.length b.length = (d : Int) ∧ d < 2 ^ w := fun t => by
    have h0 := ic_nn ha hb (Nat.le_refl a.length) (Nat.le_refl b.length) (t : Int)
    have h1 := TT_mono ha hb (φ := ic t) (φ' := one1) (Nat.le_refl a.length) (Nat.le_refl b.length) fun c k l _ _ => by unfold ic one1; split <;> (first | lia | omega)
    have h2 := (TT_one_le ha hb (Nat.le_refl a.length) (Nat.le_refl b.length)).2
    have h3 : 2 ^ 7 ≤ 2 ^ w := Nat.pow_le_pow_right (by decide) hw7
    exact ⟨(TT a b (ic t) a.length b.length).toNat, by (first | lia | omega), by (first | lia | omega)⟩
  let f : Nat → Nat := fun t => (TT a b (ic t) a.length b.length).toNat
  have hf : ∀ t : Nat, TT a b (ic t) a.length b.length = (f t : Int) ∧ f t < 2 ^ w := fun t => by
    with_reducible refine el_1_2 (hct t) fun d h1 h2 => ?_
    have : f t = d := by show (TT a b (ic t) a.length b.length).toNat = d; rw [h1]; rfl
    rw [this]; exact ⟨h1, h2⟩
  have hcnt : countsOf (toldAt a b a.length b.length) (2 * (a.length + b.length) + 1) = ((List.range (2 * (a.length + b.length) + 1)).map f).map fun (d : Nat) => (d : Int) := by
    unfold countsOf
    rw [List.map_map]
    refine List.map_congr_left fun t _ => ?_
    rw [cnt_eq, hT]; exact (hf t).1
  have hsum : ∀ v : Nat, TT a b (zz v) a.length b.length = ((valN v ((List.range (2 * (a.length + b.length) + 1)).map f) : Nat) : Int) := fun v => by
    rw [zz_sum ha hb v (Nat.le_refl _) (Nat.le_refl _), valN_sum]
    exact sum_congr fun t _ => by rw [(hf t).1]
  rw [hcnt]
  have hlt : ∀ x ∈ (List.range (2 * (a.length + b.length) + 1)).map f, x < 2 ^ w := fun x hx => by
    (with_reducible refine el_1_2 (List.mem_map.mp hx) fun t _ oq208 => ?_); obtain rfl := oq208; exact (hf t).2
  have htop : 1 ≤ f (2 * (a.length + b.length)) := by
    have := top_tt ha hb (Nat.le_refl a.length) (Nat.le_refl b.length)
    have e1 : (2 * ((a.length : Int) + b.length)) = ((2 * (a.length + b.length) : Nat) : Int) := by push_cast; rfl
    rw [e1, (hf _).1] at this
    (first | lia | omega)
  obtain ⟨far, hfar⟩ : ∃ far : Nat, DD subst a b a.length b.length = (far : Int) := ⟨(DD subst a b a.length b.length).toNat, by (first | lia | omega)⟩
  have hfl : far < 2 * (a.length + b.length) + 1 := by (first | lia | omega)
  have hf0 : ∀ t, t < far → f t = 0 := fun t ht => by
    have := (dist_tt ha hb hs (Nat.le_refl a.length) (Nat.le_refl b.length) (t : Int)).1 (by (first | lia | omega))
    rw [(hf t).1] at this; (first | lia | omega)
  have hfp : 0 < f far := by
    have := (dist_tt ha hb hs (Nat.le_refl a.length) (Nat.le_refl b.length) (far : Int)).2 (by (first | lia | omega))
    rw [(hf far).1] at this; (first | lia | omega)
  have hlen : ((List.range (2 * (a.length + b.length) + 1)).map f).length = 2 * (a.length + b.length) + 1 := by simp
  have hsplit : (List.range (2 * (a.length + b.length) + 1)).map f = (List.range (2 * (a.length + b.length))).map f ++ [f (2 * (a.length + b.length))] := by rw [List.range_succ, List.map_append]; rfl
  have hsum1 : ((List.range (2 * (a.length + b.length) + 1)).map f).sum ≤ 63 := by
    have h0 := hsum 0
    have h1 : TT a b (zz 0) a.length b.length = TT a b one1 a.length b.length := TT_congr ha hb (Nat.le_refl _) (Nat.le_refl _) fun c k l _ _ => by unfold zz one1; simp
    have h2 := (TT_one_le ha hb (Nat.le_refl a.length) (Nat.le_refl b.length)).2
    have h3 : ∀ l : List Nat, valN 0 l = l.sum := fun l => by
      induction l with
      | nil => rfl
      | cons d l ih => show d + 2 ^ 0 * valN 0 l = _; rw [ih, List.sum_cons]; simp
    rw [h1, h3] at h0
    (first | lia | omega)
  have hsm := hr.sm
  change sumV e.cs = TT a b (zz w) a.length b.length at hsm
  rw [hsum w] at hsm
  have hgetD : ∀ t, t < 2 * (a.length + b.length) + 1 → ((List.range (2 * (a.length + b.length) + 1)).map f).getD t 0 = f t := fun t ht => by
    rw [List.getD_eq_getElem?_getD, List.getElem?_map, List.getElem?_range ht]; rfl
  have hdig := dig_full (w := w) (by (first | lia | omega)) (l := (List.range (2 * (a.length + b.length))).map f) (d := f (2 * (a.length + b.length))) (by rw [← hsplit]; exact hlt) htop
  rw [← hsplit, List.length_map, List.length_range] at hdig
  have hNlt := valN_lt hlt
  rw [hlen] at hNlt
  have hNlt2 : valN w ((List.range (2 * (a.length + b.length) + 1)).map f) < 2 ^ 156 := Nat.lt_of_lt_of_le hNlt (Nat.pow_le_pow_right (by decide) (by
    have : w * (2 * (a.length + b.length) + 1) ≤ 12 * 13 := Nat.mul_le_mul hw (by (first | lia | omega))
    (first | lia | omega)))
  have hlenok : ∀ {x : Nat}, 7 ≤ Builtin.Int.intBits (x : Int) → lenN (Builtin.Int.intBits (x : Int)) (valN w ((List.range (2 * (a.length + b.length) + 1)).map f)) ≤ 64 := fun {x} hx =>
    lenN_le (by (first | lia | omega)) (Nat.lt_of_lt_of_le hNlt2 (Nat.pow_le_pow_right (by decide) (by (first | lia | omega))))
  -- the low part and the high part
  have hlow : ((List.range (2 * (a.length + b.length) + 1)).map f).take (far + 1) = List.replicate far 0 ++ [f far] := by
    rw [← List.map_take, List.take_range, show min (far + 1) (2 * (a.length + b.length) + 1) = far + 1 by (first | lia | omega), List.range_succ, List.map_append]
    congr 1
    refine List.ext_getElem (by simp) fun i h1 h2 => ?_
    rw [List.getElem_map, List.getElem_range, List.getElem_replicate]
    exact hf0 i (by simpa using h1)
  have hcut := valN_append w (((List.range (2 * (a.length + b.length) + 1)).map f).take (far + 1)) (((List.range (2 * (a.length + b.length) + 1)).map f).drop (far + 1))
  rw [List.take_append_drop, hlow, valN_snoc, valN_zero] at hcut
  have hl1 : (List.replicate far 0 ++ [f far]).length = far + 1 := by simp
  rw [hl1, List.length_replicate, Nat.zero_add] at hcut
  have hwf : w * (far + 1) = w * far + w := Nat.mul_succ _ _
  rw [hwf] at hcut
  have hlowlt : 2 ^ (w * far) * f far < 2 ^ (w * far + w) := by
    rw [Nat.pow_add]
    exact Nat.mul_lt_mul_of_pos_left (hf far).2 (Nat.two_pow_pos _)
  have hq : valN w ((List.range (2 * (a.length + b.length) + 1)).map f) / 2 ^ (w * far + w) = valN w (((List.range (2 * (a.length + b.length) + 1)).map f).drop (far + 1)) := by
    rw [hcut, Nat.add_mul_div_left _ _ (Nat.two_pow_pos _), Nat.div_eq_of_lt hlowlt, Nat.zero_add]
  have hr' : valN w ((List.range (2 * (a.length + b.length) + 1)).map f) % 2 ^ (w * far + w) = 2 ^ (w * far) * f far := by
    rw [hcut, Nat.add_mul_mod_self_left, Nat.mod_eq_of_lt hlowlt]
  have hA := aN_ok w ((List.range (2 * (a.length + b.length) + 1)).map f)
  have h7 : 2 ^ 7 ≤ 2 ^ w := Nat.pow_le_pow_right (by decide) hw7
  have hz : ((List.range (2 * (a.length + b.length) + 1)).map f).sum < 2 ^ w - 1 := by (first | lia | omega)
  have hb1 : ((List.range (2 * (a.length + b.length) + 1)).map f).length = 2 * (a.length + b.length) + 1 := hlen
  refine ⟨e, valN w ((List.range (2 * (a.length + b.length) + 1)).map f), far, he, ⟨hsm, ?_, ?_, ?_, ?_, ?_, ?_, ?_, ?_, ?_, ?_, ?_, ?_⟩⟩
  · rw [hdig.2]; (first | lia | omega)
  · rw [hdig.1]
  · have h := lev_ok subst_D a b 12
    rw [← hD, hfar] at h
    (first | lia | omega)
  · rw [List.length_map, hlen]; exact hfl
  · have hx : w * far + w ≤ 156 := by
      have := Nat.mul_le_mul hw (show far ≤ 12 by (first | lia | omega))
      (first | lia | omega)
    refine ⟨Nat.two_pow_pos _, Nat.le_trans (bits_le_of_lt (m := 157) (Nat.pow_lt_pow_right (by decide) (by (first | lia | omega)))) (by decide), hlenok ?_⟩
    have := bits_ge (x := 2 ^ (w * far + w)) (m := w * far + w) (Nat.le_refl _)
    (first | lia | omega)
  · rw [hq]
    have hd : ((List.range (2 * (a.length + b.length) + 1)).map f).drop (far + 1) = (List.range (2 * (a.length + b.length) + 1 - (far + 1))).map fun t => f (far + 1 + t) := by
      refine List.ext_getElem (by simp) fun i h1 h2 => ?_
      rw [List.getElem_drop, List.getElem_map, List.getElem_map, List.getElem_range, List.getElem_range]
    rw [hd, valN_sum]
    unfold dearerOf
    rw [List.length_map, hlen]
    refine sum_congr fun t ht => ?_
    have ht' := List.mem_range.mp ht
    congr 1
    rw [List.getD_eq_getElem?_getD, List.getElem?_map, List.getElem?_map, List.getElem?_range (by (first | lia | omega))]; rfl
  · rw [hr', List.getD_eq_getElem?_getD, List.getElem?_map, List.getElem?_map, List.getElem?_range hfl]
    show ((2 ^ (w * far) * f far : Nat) : Int) = (f far : Int) * 2 ^ (w * far)
    rw [Int.mul_comm]; push_cast; rfl
  · refine ⟨by (first | lia | omega), Nat.le_trans (bits_le_of_lt (m := 13) (Nat.lt_of_lt_of_le (show 2 ^ w - 1 < 2 ^ w by (first | lia | omega)) (Nat.pow_le_pow_right (by decide) (by (first | lia | omega))))) (by decide), hlenok ?_⟩
    have h6 : 2 ^ 6 ≤ 2 ^ w - 1 := by (first | lia | omega)
    have := bits_ge (x := 2 ^ w - 1) (m := 6) h6
    (first | lia | omega)
  · rw [hA, Nat.mul_add_div (by (first | lia | omega)), Nat.div_eq_of_lt hz, Nat.add_zero, above_ok]
  · rw [hA, Nat.mul_add_mod, Nat.mod_eq_of_lt hz]
    have hs2 : ∀ l : List Nat, (l.map fun (d : Nat) => (d : Int)).sum = ((l.sum : Nat) : Int) := fun l => by
      induction l with
      | nil => rfl
      | cons x r ih => rw [List.map_cons, List.sum_cons, List.sum_cons, ih]; push_cast; rfl
    rw [hs2]
  · rw [List.getD_eq_getElem?_getD, List.getElem?_map, List.getElem?_map, List.getElem?_range hfl]
    show (0 : Int) < (f far : Int)
    (first | lia | omega)
  · have h := lev_ok subst_D a b ((far : Int) - 1)
    rw [← hD, hfar] at h
    (first | lia | omega)
theorem law1_ok (ha : LettersOk a) (hb : LettersOk b) (hw7 : 7 ≤ w) (hw : w ≤ 12) : LawOK1 a b w :=
  ⟨wk_ok ha.1 hb.1 (sub_ok ha hb) hw, wk_ln ha.1 hb.1, fun i j hi hj => node_ok ha.1 hb.1 (sub_ok ha hb) hi hj, num_ok ha.1 hb.1 (sub_ok ha hb) hw7 hw⟩
end
theorem law01_ok (script : List Int) : LawOK1 (oneOf script) (twoOf script) (wOf script) := by
  refine law1_ok (letF_word _ ?_) (letF_word _ ?_) (by unfold wOf; (first | lia | omega)) (by unfold wOf; (first | lia | omega))
  · rw [List.length_take]; (first | lia | omega)
  · rw [List.length_drop]
    show 6 - 3 ≤ 3; (first | lia | omega)

theorem LX_abs {K : Act} {l : List Stmt} {R : LF → Sig → Prop} {σ : Sig} (h : ∀ R' : LF → Sig → Prop, (∀ f σ, R f σ → R' f σ) → LX K l R' σ) : LX K l R σ := h R fun _ _ x => x
theorem LT_abs {K : Act} {e : Expr} {R : Bool → Sig → Prop} {σ : Sig} (h : ∀ R' : Bool → Sig → Prop, (∀ b σ, R b σ → R' b σ) → LT K e R' σ) : LT K e R σ := h R fun _ _ x => x
theorem LA_abs {K : Act} {t : Expr} {d : D} {l : List Stmt} {R : LF → Sig → Prop} {σ : Sig} (h : ∀ R' : LF → Sig → Prop, (∀ f σ, R f σ → R' f σ) → LA K t d (fun σ₃ => LX K l R' σ₃) σ) : LA K t d (fun σ₃ => LX K l R σ₃) σ := h R fun _ _ x => x
local macro_rules | `(tactic| walk_at "lk") => `(tactic| first
  | (with_reducible first | exact lk_set | exact lk_here | exact lk_v | assumption)
  | ((with_reducible refine' lk_set4 ?k1 ?k2); (case k1 => kernel_rfl!); (case k2 => walk_at "lk"))
  | ((with_reducible refine' lk_setn ?k1 ?k2); (case k1 => kernel_rfl!); (case k2 => walk_at "lk"))
  | ((with_reducible refine' lk_next4 ?k1 ?k2); (case k1 => kernel_rfl!); (case k2 => walk_at "lk"))
  | ((with_reducible refine' lk_next ?k1 ?k2); (case k1 => kernel_rfl!); (case k2 => walk_at "lk"))
  | ((with_reducible refine' lk_vn ?k1 ?k2); (case k1 => kernel_rfl!); (case k2 => walk_at "lk"))
  | ((with_reducible refine' lk_new ?k2); (case k2 => walk_at "lk"))
  | ((with_reducible refine' lk_put ?k2); (case k2 => walk_at "lk"))
  | ((with_reducible refine' lk_del ?k2); (case k2 => walk_at "lk"))
  | ((with_reducible refine' lk_allc ?k2); (case k2 => walk_at "lk"))
  | ((with_reducible refine' lk_alln ?k2); (case k2 => walk_at "lk"))
  | ((with_reducible refine' lk_cap ?k1 ?k2); (case k1 => kernel_rfl!); (case k2 => walk_at "lk")))
local macro_rules | `(tactic| walk_at "st") => `(tactic| ((with_reducible refine' store_at (by assumption) ?k1); (case k1 => kernel_rfl!)))
local macro_rules | `(tactic| walk_at "mt") => `(tactic| ((case m1 => kernel_rfl!); (case m2 => exact rfl); (case m3 => decide); (case m4 => exact rfl)))
local macro_rules | `(tactic| walk_at "lw") => `(tactic| first
  | (with_reducible first | refine LX_nil ?_ | refine LP_some ?_ | refine LP_none ?_ | refine LP_int ?_ | refine LP_nn ?_ | refine LX_cons (st := .Assign _ _ _) ?_ | refine LX_cons (st := .If _ _ _ _) ?_ | refine LX_cons (st := .Return _ _) ?_ | refine LX_cons (st := .AugAssign _ _ _ _) ?_ | refine LX_cons (st := .Expr _ _) ?_ | refine LS_if ?_ | refine LS_ret ?_ | refine LS_retN ?_)
  | ((with_reducible refine' LS_assign (by assumption) ?k1 ?_ ?k2); (case k1 => walk_at "st"); (case k2 => exact rfl))
  | ((with_reducible refine' LS_assignT ?_ ?k1 ?k2); (case k1 | k2 => exact rfl))
  | ((with_reducible refine' LA_tup2 (by assumption) ?k1 ?k2 ?_); (case k1 | k2 => walk_at "st"))
  | ((with_reducible refine' LA_tup3 (by assumption) ?k1 ?k2 ?k3 ?_); (case k1 | k2 | k3 => walk_at "st"))
  | ((with_reducible refine' LA_tup4 (by assumption) ?k1 ?k2 ?k3 ?k4 ?_); (case k1 | k2 | k3 | k4 => walk_at "st"))
  | ((with_reducible refine' LA_tup5 (by assumption) ?k1 ?k2 ?k3 ?k4 ?k5 ?_); (case k1 | k2 | k3 | k4 | k5 => walk_at "st"))
  | ((with_reducible refine' LA_tup6 (by assumption) ?k1 ?k2 ?k3 ?k4 ?k5 ?k6 ?_); (case k1 | k2 | k3 | k4 | k5 | k6 => walk_at "st"))
  | ((with_reducible refine' LA_name (by assumption) ?k1 ?_); (case k1 => walk_at "st"))
  | ((with_reducible refine' LS_aug (by assumption) ?k1 ?k2 ?k3 ?_); (case k1 => walk_at "lk"); (case k2 => walk_at "st"); (case k3 => kernel_rfl!))
  | ((with_reducible refine' LS_set ?_ ?k1); (case k1 => exact rfl))
  | ((with_reducible refine' LT_cmp ?_ ?k1); (case k1 => with_unfolding_all exact rfl))
  | (with_reducible first | refine LT_not ?_ | refine LT_and0 ?_ | refine LT_or0 ?_ | refine LT_and ?_ | refine LT_or ?_)
  | ((with_reducible refine' LT_val ?_ ?k1); (case k1 => exact rfl))
  | ((with_reducible refine' LE_glob (by assumption) (by assumption) ?k1 (by assumption) ?k2 ?k3 ?_); (case k1 | k2 => kernel_rfl!); (case k3 => exact fun Φ => RV.int _ _))
  | ((with_reducible refine' LE_name (by assumption) ?k1 ?k2 ?_); (case k1 => walk_at "lk"); (case k2 => kernel_rfl!))
  | ((with_reducible refine' LS_assign2 ?_ ?k1 ?k2); (case k1 | k2 => exact rfl))
  | ((with_reducible refine' LS_expr (by assumption) ?_ ?k1); (case k1 => exact rfl))
  | (with_reducible first | refine LE_int ?_ | refine LE_none ?_ | refine LE_str ?_)
  | ((with_reducible refine' LE_cutPost (by assumption) ?k1 ?k2 ?k3 ?k4 ?k5 ?k6 ?_); (case k1 | k2 => walk_at "lk"); (case k3 | k4 => kernel_rfl!); (case k5 => rfl); (case k6 => omega))
  | ((with_reducible refine' LE_slice ?_ ?k1); (case k1 => intro _ _; exact ⟨_, rfl⟩))
  | ((with_reducible refine' LE_sub ?_ ?k1); (case k1 => intro _ _; rfl))
  | (with_reducible first | refine LE_or ?_ | refine LE_and ?_ | refine LE_bool1 ?_)
  | ((with_reducible refine' LE_blt (by assumption) (by assumption) ?k1 (by assumption) ?k2 ?k3 ?_ ?k4); (case k1 => kernel_rfl!); (case k2 => with_reducible first | exact bl_len (by assumption) | exact bl_min (by assumption) | exact bl_sum (by assumption) | exact bl_isinstance (by assumption) | exact bl_divmod (by assumption)); (case k3 => kernel_rfl!); (case k4 => exact rfl))
  | ((with_reducible refine' LE_typ (by assumption) (by assumption) ?k1 (by assumption) ?k2 ?k3 ?_ ?k4); (case k1 => kernel_rfl!); (case k2 => with_reducible first | exact bl_range (by assumption) | exact bl_list (by assumption) | exact bl_tuple (by assumption) | exact bl_reversed (by assumption)); (case k3 => kernel_rfl!); (case k4 => exact rfl))
  | (with_reducible first | refine LE_tuple ?_ | refine LE_bin ?_ | refine LE_un ?_ | refine LE_ite ?_)
  | ((with_reducible refine' LEs_cons ?_ ?k1); (case k1 => exact rfl))
  | with_reducible refine LEs_nil ?_
  | ((with_reducible refine' LE_callC (by assumption) ?k1 (by assumption) (by assumption) ?k2 ?k3 ?_ ?k4); (case k1 => first | assumption | omega); (case k2 | k3 => kernel_rfl!); (case k4 => exact rfl))
  | ((with_reducible show Exists _); with_reducible first | apply ex_cmp_eq | apply ex_cmp_str | apply ex_cmp_lt | apply ex_cmp_gt | apply ex_cmp_le | apply ex_cmp_ge | apply ex_cmp_ne | apply ex_bin_add | apply ex_bin_sub | apply ex_un_inv | apply ex_inp_add | apply ex_inp_sub | apply ex_tru_int | apply ex_tru_bool)
  | ((with_reducible refine' go_t ?k1 ?_); (case k1 => exact rfl))
  | ((with_reducible refine' go_f ?k1 ?_); (case k1 => exact rfl)))
local macro_rules | `(tactic| walk_at "lws") => `(tactic| repeat walk_at "lw")
set_option maxHeartbeats 2000000
set_option exponentiation.threshold 10000

theorem subst_body {G : GC} {mg mb : Str → Option Value} {n : Nat} {name : Str} {cd : Value} {t1 t2 : Tok} (gr : Grd G mg mb) (hcase : mg "_CASE_COST" = some (.int 1 t1)) (hmove : mg "_MOVE_COST" = some (.int 2 t2)) (a b : Nat) : ∀ (K : Act), BodyK K G (fnAt pw iSubst).2.2 n name cd →
    LX K (fnAt pw iSubst).2.1 (RetIs (.int (subst a b))) ⟨[("ch_a", .str (tx [a])), ("ch_b", .str (tx [b]))], []⟩ := by
  with_reducible refine' withFn (P := fun f => ∀ K, BodyK K G f.2.2 n name cd → LX K f.2.1 _ _) ?hfn ?_
  case hfn => exact rfl
  intro K bk
  dsimp only at bk ⊢
  have hK := bk.kf
  have hst := bk.st
  obtain rfl := bk.G
  with_reducible refine LX_abs fun R0' hR0 => ?_
  have sz : ∀ l : List Nat, l.length ≤ 100 → 3 * (tx l).length ≤ sizeLine := fun l h => by rw [tx_length, sizeLine_eq]; (first | lia | omega)
  walk_at "lws"
  rw [tx_beq]
  by_cases h1 : a = b
  · refine go_t (by first | exact decide_eq_true h1 | simp [h1]) ?_
    walk_at "lws"
    exact hR0 _ _ (ret_is (by unfold subst; rw [if_pos h1]))
  · refine go_f (by first | exact decide_eq_false h1 | simp [h1]) ?_
    walk_at "lws"
    with_reducible refine' LE_meth PySem.F.plainAttrs_str PySem.F.slot_str_lower PySem.F.type_str_lower ?_ ?m1 ?m2 ?m3 ?m4
    walk_at "mt"
    walk_at "lws"
    refine ⟨ty_str, ?_⟩
    walk_at "lws"
    refine ⟨_, _, met_lower (sz [a] (by simp)), ?_⟩
    with_reducible refine' LE_meth PySem.F.plainAttrs_str PySem.F.slot_str_lower PySem.F.type_str_lower ?_ ?m1 ?m2 ?m3 ?m4
    walk_at "mt"
    walk_at "lws"
    refine ⟨ty_str, ?_⟩
    walk_at "lws"
    refine ⟨_, _, met_lower (sz [b] (by simp)), ?_⟩
    walk_at "lws"
    by_cases h2 : lowerS (tx [a]) = lowerS (tx [b])
    · refine go_t (by first | exact decide_eq_true h2 | simp [h2]) ?_
      walk_at "lws"
      exact hR0 _ _ (ret_is (by unfold subst; rw [if_neg h1, if_pos h2]))
    · refine go_f (by first | exact decide_eq_false h2 | simp [h2]) ?_
      walk_at "lws"
      exact hR0 _ _ (ret_is (by unfold subst; rw [if_neg h1, if_neg h2]))

theorem addC_body {G : GC} {mg mb : Str → Option Value} {n : Nat} {name : Str} {cd : Value} (gr : Grd G mg mb) (hib : mg "isinstance" = none) (htb : mg "tuple" = none) (t s : II) (ht : t.length ≤ 1000) (hs : s.length ≤ 1000) : ∀ (K : Act), BodyK K G (fnAt pw iAddC).2.2 n name cd →
    LX K (fnAt pw iAddC).2.1 (RetIs (.dict (encI (addC t s)))) ⟨[("target", .dict (encI t)), ("source", .dict (encI s))], []⟩ := by
  with_reducible refine' withFn (P := fun f => ∀ K, BodyK K G f.2.2 n name cd → LX K f.2.1 _ _) ?hfn ?_
  case hfn => exact rfl
  intro K bk
  dsimp only at bk ⊢
  have hK := bk.kf
  have hst := bk.st
  obtain rfl := bk.G
  with_reducible refine LX_abs fun R0' hR0 => ?_
  have hsz : 4000 ≤ sizeLine := by rw [sizeLine_eq]; (first | lia | omega)
  walk_at "lws"
  refine LE_dict0Own gr fun a => ?_
  refine LX_forT (fun p : Int × Int => .tup [.int p.1, .int p.2]) (LI_items hK ?_)
  with_reducible refine' LE_meth PySem.F.plainAttrs_dict PySem.F.slot_dict_items PySem.F.type_dict_items ?_ ?m1 ?m2 ?m3 ?m4
  walk_at "mt"
  walk_at "lws"
  refine ⟨ty_dict, ?_⟩
  walk_at "lws"
  refine ⟨_, _, met_items, ?_⟩
  refine ⟨_, rfl, t, fun i => ⟨[("target", .dict (encI t)), ("source", .dict (encI s)), ("new_callers", .raw (.ref a))], [(a, .dict (encI ((t.take i).foldl (fun acc p => stI acc p.1 p.2) [])))]⟩, pairs_enc t, Sub.rf rfl (by kernel_rfl!), fun i x hx => ?_, ?_⟩
  · have hl : ((t.take i).foldl (fun acc p => stI acc p.1 p.2) []).length ≤ 1000 := by
      have := foldl_takeLen (f := fun acc p => stI acc p.1 p.2) (fun a p => stI_length ..) t [] i
      simp at this; (first | lia | omega)
    with_reducible refine LA_abs (σ := ⟨_, _⟩) fun R1 hR1 => ?_
    walk_at "lws"
    refine ⟨_, set_dict (j := 0) rfl (by rw [encI_length]; (first | lia | omega)), ?_⟩
    walk_at "lws"
    exact hR1 _ _ (Sub.rf (congrArg (fun l => [(a, OD.dict l)]) (by rw [take_foldl _ _ _ hx, encI_st])) (by kernel_rfl!))
  refine LX_forT (fun p : Int × Int => .tup [.int p.1, .int p.2]) (LI_items hK ?_)
  with_reducible refine' LE_meth PySem.F.plainAttrs_dict PySem.F.slot_dict_items PySem.F.type_dict_items ?_ ?m1 ?m2 ?m3 ?m4
  walk_at "mt"
  walk_at "lws"
  refine ⟨ty_dict, ?_⟩
  walk_at "lws"
  refine ⟨_, _, met_items, ?_⟩
  refine ⟨_, rfl, s, fun i => ⟨[("target", .dict (encI t)), ("source", .dict (encI s)), ("new_callers", .raw (.ref a))], [(a, .dict (encI ((s.take i).foldl addStep (cpI t))))]⟩, pairs_enc s, Sub.rf (congrArg (fun l => [(a, OD.dict l)]) (by rw [List.take_length]; rfl)) (by kernel_rfl!), fun i x hx => ?_, ?_⟩
  · have hl : ((s.take i).foldl addStep (cpI t)).length ≤ 2000 := by
      have := foldl_takeLen addStep_len s (cpI t) i
      have := cpI_len t
      (first | lia | omega)
    with_reducible refine LA_abs (σ := ⟨_, _⟩) fun R1 hR1 => ?_
    walk_at "lws"
    refine ⟨_, cmp_in (.inr ⟨a, rfl, .head _⟩), ?_⟩
    rw [encI_get]
    cases hg : getI ((s.take i).foldl addStep (cpI t)) x.1 with
    | none =>
      refine go_f rfl ?_
      walk_at "lws"
      refine ⟨_, set_dict (j := 0) rfl (by rw [encI_length]; (first | lia | omega)), ?_⟩
      walk_at "lws"
      exact hR1 _ _ (Sub.rf (congrArg (fun l => [(a, OD.dict l)]) (by rw [take_foldl _ _ _ hx, encI_st, addStep_none hg])) (by kernel_rfl!))
    | some v =>
      walk_at "lws"
      refine LE_bltName hK gr rfl htb (gr.blt _ (by decide)) rfl ?_
      walk_at "lws"
      refine ⟨_, blt_isTuple, ?_⟩
      walk_at "lws"
      refine LS_augSet ?_
      walk_at "lws"
      refine ⟨.int v, get_dict (.inr ⟨a, rfl, .head _⟩) (by rw [encI_get, hg]; rfl), ?_⟩
      walk_at "lws"
      refine ⟨_, _, inp_add, set_dict (j := 0) rfl (by rw [encI_length]; (first | lia | omega)), ?_⟩
      walk_at "lws"
      exact hR1 _ _ (Sub.rf (congrArg (fun l => [(a, OD.dict l)]) (by rw [take_foldl _ _ _ hx, encI_st, addStep_some hg])) (by kernel_rfl!))
  · walk_at "lws"
    have e : (s.take s.length).foldl addStep (cpI t) = addC t s := by rw [List.take_length]; rfl
    rw [← e] at hR0
    exact hR0 _ _ (.own_dict (.head _))

theorem count_body {G : GC} {mg mb : Str → Option Value} {n : Nat} {name : Str} {cd : Value} (gr : Grd G mg mb) (t : II) : ∀ (K : Act), BodyK K G (fnAt pw iCount).2.2 n name cd →
    LX K (fnAt pw iCount).2.1 (RetIs (.int (sumV t))) ⟨[("callers", .dict (encI t))], []⟩ := by
  with_reducible refine' withFn (P := fun f => ∀ K, BodyK K G f.2.2 n name cd → LX K f.2.1 _ _) ?hfn ?_
  case hfn => exact rfl
  intro K bk
  dsimp only at bk ⊢
  have hK := bk.kf
  have hst := bk.st
  obtain rfl := bk.G
  with_reducible refine LX_abs fun R0' hR0 => ?_
  walk_at "lws"
  refine LX_forT D.int ?_
  refine LI_values hK ?_
  with_reducible refine' LE_meth PySem.F.plainAttrs_dict PySem.F.slot_dict_values PySem.F.type_dict_values ?_ ?m1 ?m2 ?m3 ?m4
  walk_at "mt"
  walk_at "lws"
  refine ⟨ty_dict, ?_⟩
  walk_at "lws"
  refine ⟨_, _, met_values, ?_⟩
  refine ⟨_, rfl, t.map (·.2), fun i => ⟨[("callers", .dict (encI t)), ("nc", .int (((t.map (·.2)).take i).foldl (· + ·) 0))], []⟩, vals_enc t, Sub.rf rfl (by kernel_rfl!), fun i x hx => ?_, ?_⟩
  · walk_at "lws"
    exact Sub.of rfl ⟨rfl, congrArg (fun x => some (D.int x)) (take_foldl _ _ _ hx).symm, trivial⟩
  · walk_at "lws"
    exact hR0 _ _ (ret_is (congrArg D.int (by rw [List.take_length]; unfold sumV; rw [List.sum_eq_foldl])))
theorem addF_body {G : GC} {mg mb : Str → Option Value} {n m : Nat} {name : Str} {cd : Value} (gr : Grd G mg mb) (hC : FnC G mg "add_callers" m T_addC) (hm : m ≤ n) (t s : Ent) (ht : t.cs.length ≤ 1000) (hs : s.cs.length ≤ 1000) : ∀ (K : Act), BodyK K G (fnAt pw iAddFS).2.2 n name cd →
    LX K (fnAt pw iAddFS).2.1 (RetIs (encF (addF t s))) ⟨[("target", encF t), ("source", encF s)], []⟩ := by
  with_reducible refine' withFn (P := fun f => ∀ K, BodyK K G f.2.2 n name cd → LX K f.2.1 _ _) ?hfn ?_
  case hfn => exact rfl
  intro K bk
  dsimp only at bk ⊢
  have hK := bk.kf
  have hst := bk.st
  obtain rfl := bk.G
  with_reducible refine LX_abs fun R0' hR0 => ?_
  unfold encF
  walk_at "lws"
  refine ⟨_, ⟨t.cs, s.cs, ht, hs, rfl, rfl⟩, ?_⟩
  walk_at "lws"
  refine ⟨by first | exact Nat.le_of_ble_eq_true rfl | simp, ?_⟩
  exact hR0 _ _ (ret_is rfl)

theorem lev_tail {G : GC} {mg mb : Str → Option Value} {n m' : Nat} {name : Str} {cd : Value} {t1 t2 : Tok} (gr : Grd G mg mb) (hmax : mg "_MAX_STRING_SIZE" = some (.int 40 t1)) (hmove : mg "_MOVE_COST" = some (.int 2 t2))
    (hlen : mg "len" = none) (hmin : mg "min" = none) (hlist : mg "list" = none) (hrange : mg "range" = none) (hC : FnC G mg "_substitution_cost" m' T_subst) (hm : m' ≤ n) (a b : List Nat) (m : Int) (ha : a.length ≤ 10) (hb : b.length ≤ 10) : ∀ (K : Act), BodyK K G (fnAt pw iLev).2.2 n name cd →
    LX K ((fnAt pw iLev).2.1.drop 12) (RetIs (.int (if ((b.length : Int) - a.length) * 2 > m then m + 1 else levCore subst a b m))) ⟨[("a", .str (tx a)), ("b", .str (tx b)), ("max_cost", .int m)], []⟩ := by
  with_reducible refine' withFn (P := fun f => ∀ K, BodyK K G f.2.2 n name cd → LX K (f.2.1.drop 12) _ _) ?hfn ?_
  case hfn => exact rfl
  intro K bk
  dsimp only [List.drop] at bk ⊢
  have hK := bk.kf
  have hst := bk.st
  obtain rfl := bk.G
  with_reducible refine LX_abs fun R0' hR0 => ?_
  walk_at "lws"
  refine ⟨_, blt_lenT (by (first | lia | omega)), ?_⟩
  walk_at "lws"
  refine ⟨_, blt_lenT (by (first | lia | omega)), ?_⟩
  walk_at "lws"
  refine ⟨_, bin_mulS (by (first | lia | omega)) (by decide), ?_⟩
  walk_at "lws"
  by_cases h2 : ((b.length : Int) - a.length) * 2 > m
  · refine go_t (by first | exact decide_eq_true h2 | simpa using h2) ?_
    walk_at "lws"
    exact hR0 _ _ (ret_is (by rw [if_pos h2]))
  rw [if_neg h2] at hR0
  refine go_f (by first | exact decide_eq_false h2 | simpa using h2) ?_
  walk_at "lw"
  walk_at "lw"
  walk_at "lw"
  refine LE_listRange hK gr rfl hlist (gr.blt _ (by decide)) rfl ?_
  walk_at "lws"
  refine ⟨_, blt_lenT (by (first | lia | omega)), ?_⟩
  walk_at "lws"
  refine ⟨_, bin_mulS (by decide) (by (first | lia | omega)), ?_⟩
  walk_at "lws"
  refine ⟨_, blt_range3 (by decide) rfl, ?_⟩
  refine ⟨_, _, _, a.length, rfl, ?sm, ?sz, by (first | lia | omega), fun A => ?_⟩
  case sm => unfold Builtin.Range.small Builtin.Range.rangeFitsLong Builtin.Range.rangeSize; simp; split <;> (first | lia | omega)
  case sz => unfold Builtin.Range.rangeSize; simp; split <;> (first | lia | omega)
  walk_at "lws"
  have hrow0 : rints 2 2 a.length = (rowsAt subst a b 0).1.map D.int := by unfold rowsAt rints; rw [List.map_map]; rfl
  rw [hrow0]
  refine LX_forR hK ?_
  walk_at "lws"
  refine ⟨_, blt_lenT (by (first | lia | omega)), ?_⟩
  walk_at "lws"
  refine ⟨_, blt_range1, ?_⟩
  refine ⟨b.length, fun k => ⟨[("a", .str (tx a)), ("b", .str (tx b)), ("max_cost", .int m), ("row", .raw (.ref A)), ("result", .int (rowsAt subst a b k).2)], [(A, .list ((rowsAt subst a b k).1.map D.int))]⟩, fun k => ∀ k', k' < k → ¬ minAt subst a b k' > m, rfl, by (first | lia | omega), Sub.rf rfl (by kernel_rfl!), fun k' h => by (first | lia | omega), fun k hk hok => ?_, fun hok => ?_⟩
  case' refine_2 =>
    walk_at "lws"
    exact hR0 _ _ (ret_is (by rw [levCore_in hok]))
  with_reducible refine LA_abs (σ := ⟨_, _⟩) fun R1 hR1 => ?_
  walk_at "lws"
  refine ⟨_, get_str (c := b[k]) (by (first | lia | omega)) (List.getElem?_eq_getElem hk), ?_⟩
  walk_at "lws"
  refine ⟨_, bin_mulS (by (first | lia | omega)) (by decide), ?_⟩
  walk_at "lws"
  have hbk : b.getD k 0 = b[k] := by simp [List.getD_eq_getElem?_getD, List.getElem?_eq_getElem hk]
  refine LX_forR hK ?_
  walk_at "lws"
  refine ⟨_, blt_lenT (by (first | lia | omega)), ?_⟩
  walk_at "lws"
  refine ⟨_, blt_range1, ?_⟩
  refine ⟨a.length, fun i => ⟨[("a", .str (tx a)), ("b", .str (tx b)), ("max_cost", .int m), ("row", .raw (.ref A)), ("bchar", .str (tx [b[k]])), ("distance", .int (levRow subst a b[k] k (rowsAt subst a b k).1 i).d), ("result", .int (levRow subst a b[k] k (rowsAt subst a b k).1 i).r), ("minimum", .int (levRow subst a b[k] k (rowsAt subst a b k).1 i).mn)], [(A, .list ((levRow subst a b[k] k (rowsAt subst a b k).1 i).row.map D.int))]⟩, fun _ => True, rfl, by (first | lia | omega), Sub.rf rfl (by kernel_rfl!), trivial, fun i hi _ => ?_, fun _ => ?_⟩
  case' refine_2 =>
    walk_at "lws"
    have hmn : minAt subst a b k = (levRow subst a b[k] k (rowsAt subst a b k).1 a.length).mn := by unfold minAt; rw [hbk]
    by_cases h3 : minAt subst a b k > m
    · refine go_t (by rw [← hmn]; simpa using h3) ?_
      walk_at "lws"
      exact hR1 _ _ (hR0 _ _ (ret_is (by rw [levCore_out hk h3])))
    · refine go_f (by rw [← hmn]; simpa using h3) ?_
      walk_at "lws"
      have e : rowsAt subst a b (k + 1) = ((levRow subst a b[k] k (rowsAt subst a b k).1 a.length).row, (levRow subst a b[k] k (rowsAt subst a b k).1 a.length).r) := by rw [rowsAt, hbk]
      refine hR1 _ _ ⟨fun k' h => ?_, Sub.of (congrArg (fun l => [(A, OD.list l)]) (by rw [e])) ⟨rfl, rfl, rfl, rfl, congrArg (fun x => some (D.int x)) (by rw [e]), trivial⟩⟩
      rcases Nat.lt_succ_iff_lt_or_eq.mp h with h | rfl
      · exact hok k' h
      · exact h3
  have hrl : (levRow subst a b[k] k (rowsAt subst a b k).1 i).row.length = a.length := by rw [levRow_len, rowsAt_len]
  have hai : a.getD i 0 = a[i] := by simp [List.getD_eq_getElem?_getD, List.getElem?_eq_getElem hi]
  with_reducible refine LA_abs (σ := ⟨_, _⟩) fun R2 hR2 => ?_
  generalize hst' : levRow subst a b[k] k (rowsAt subst a b k).1 i = st at hrl ⊢
  have hnext : levRow subst a b[k] k (rowsAt subst a b k).1 (i + 1) = levIn subst a b[k] st i := by rw [levRow_succ, hst']
  walk_at "lws"
  refine ⟨_, get_str (c := a[i]) (by (first | lia | omega)) (List.getElem?_eq_getElem hi), ?_⟩
  walk_at "lws"
  refine ⟨_, ⟨b[k], a[i], rfl, rfl⟩, ?_⟩
  walk_at "lws"
  refine ⟨.int (st.row.getD i 0), get_own (.head _) (by (first | lia | omega)) (by (first | lia | omega)) (by simp [List.getD_eq_getElem?_getD, List.getElem?_eq_getElem (show i < st.row.length by (first | lia | omega))]), ?_⟩
  walk_at "lws"
  refine ⟨_, blt_min2 hK, ?_⟩
  walk_at "lws"
  refine ⟨_, blt_min2 hK, ?_⟩
  walk_at "lws"
  refine ⟨_, set_list (j := 0) rfl (by simp; (first | lia | omega)) (by (first | lia | omega)), ?_⟩
  walk_at "lws"
  have er : (levIn subst a b[k] st i).r = (if st.d + subst b[k] a[i] < (if st.row.getD i 0 < st.r then st.row.getD i 0 else st.r) + 2 then st.d + subst b[k] a[i] else (if st.row.getD i 0 < st.r then st.row.getD i 0 else st.r) + 2) := by unfold levIn mn2; rw [hai]
  have erow : (levIn subst a b[k] st i).row = st.row.set i (levIn subst a b[k] st i).r := rfl
  have emn : (levIn subst a b[k] st i).mn = if (levIn subst a b[k] st i).r < st.mn then (levIn subst a b[k] st i).r else st.mn := rfl
  rw [← er]
  by_cases h4 : (levIn subst a b[k] st i).r < st.mn
  · refine go_t (by first | exact decide_eq_true h4 | simpa using h4) ?_
    walk_at "lws"
    exact hR2 _ _ ⟨trivial, Sub.of (congrArg (fun l => [(A, OD.list l)]) (by rw [hnext, erow, List.map_set])) ⟨rfl, rfl, rfl, rfl, rfl, congrArg (fun x => some (D.int x)) (by rw [hnext]; rfl), congrArg (fun x => some (D.int x)) (by rw [hnext]), congrArg (fun x => some (D.int x)) (by rw [hnext, emn, if_pos h4]), trivial⟩⟩
  · refine go_f (by first | exact decide_eq_false h4 | simpa using h4) ?_
    walk_at "lws"
    exact hR2 _ _ ⟨trivial, Sub.of (congrArg (fun l => [(A, OD.list l)]) (by rw [hnext, erow, List.map_set])) ⟨rfl, rfl, rfl, rfl, rfl, congrArg (fun x => some (D.int x)) (by rw [hnext]; rfl), congrArg (fun x => some (D.int x)) (by rw [hnext]), congrArg (fun x => some (D.int x)) (by rw [hnext, emn, if_neg h4]), trivial⟩⟩

theorem lev_body {G : GC} {mg mb : Str → Option Value} {n m' : Nat} {name : Str} {cd : Value} {t1 t2 : Tok} (gr : Grd G mg mb) (hmax : mg "_MAX_STRING_SIZE" = some (.int 40 t1)) (hmove : mg "_MOVE_COST" = some (.int 2 t2))
    (hlen : mg "len" = none) (hmin : mg "min" = none) (hlist : mg "list" = none) (hrange : mg "range" = none) (hC : FnC G mg "_substitution_cost" m' T_subst) (hm : m' ≤ n) (a b : List Nat) (m : Int) (ha : a.length ≤ 10) (hb : b.length ≤ 10) : ∀ (K : Act), BodyK K G (fnAt pw iLev).2.2 n name cd →
    LX K (fnAt pw iLev).2.1 (RetIs (.int (lev subst a b m))) ⟨[("a", .str (tx a)), ("b", .str (tx b)), ("max_cost", .int m)], []⟩ := by
  have tail := @lev_tail G mg mb n m' name cd t1 t2 gr hmax hmove hlen hmin hlist hrange hC hm
  revert tail
  with_reducible refine' withFn (P := fun f => (∀ (a b : List Nat) (m : Int), a.length ≤ 10 → b.length ≤ 10 → ∀ (K : Act), BodyK K G f.2.2 n name cd → LX K (f.2.1.drop 12) (RetIs (.int (if ((b.length : Int) - a.length) * 2 > m then m + 1 else levCore subst a b m))) ⟨[("a", .str (tx a)), ("b", .str (tx b)), ("max_cost", .int m)], []⟩) → ∀ K, BodyK K G f.2.2 n name cd → LX K f.2.1 _ _) ?hfn ?_
  case hfn => exact rfl
  intro tail K bk
  dsimp only [List.drop] at bk tail ⊢
  have hK := bk.kf
  have hst := bk.st
  have G0 := bk.G
  obtain rfl := bk.G
  with_reducible refine LX_abs fun R0' hR0 => ?_
  walk_at "lws"
  rw [tx_beq]
  by_cases h1 : a = b
  · refine go_t (by first | exact decide_eq_true h1 | simp [h1]) ?_
    walk_at "lws"
    exact hR0 _ _ (ret_is (by unfold lev; rw [if_pos h1]))
  refine go_f (by first | exact decide_eq_false h1 | simp [h1]) ?_
  walk_at "lws"
  with_reducible refine el_0_2 (preL_le a b) fun ple ple' => ?_
  refine LX_whileN (preL a b) (fun i => ⟨[("a", .str (tx a)), ("b", .str (tx b)), ("max_cost", .int m), ("pre", .int i)], []⟩) (Sub.rf rfl (by kernel_rfl!)) (fun i hi => ?_) ?_
  · with_reducible refine LT_abs fun R1 hR1 => ?_
    walk_at "lws"
    refine ⟨_, sli_from (by (first | lia | omega)), ?_⟩
    refine ⟨_, tru_txt (by simp; (first | lia | omega)), ?_⟩
    by_cases hA : ¬ i < a.length
    · refine go_f (drop_e (by (first | lia | omega))) ?_
      walk_at "lws"
      exact hR1 _ _ ⟨by (first | lia | omega), by rw [show i = preL a b by (first | lia | omega)]; exact Sub.refl _⟩
    replace hA : i < a.length := by (first | lia | omega)
    refine go_t (drop_ne hA) ?_
    walk_at "lws"
    refine ⟨_, sli_from (by (first | lia | omega)), ?_⟩
    refine ⟨_, tru_txt (by simp; (first | lia | omega)), ?_⟩
    by_cases hB : ¬ i < b.length
    · refine go_f (drop_e (by (first | lia | omega))) ?_
      walk_at "lws"
      exact hR1 _ _ ⟨by (first | lia | omega), by rw [show i = preL a b by (first | lia | omega)]; exact Sub.refl _⟩
    replace hB : i < b.length := by (first | lia | omega)
    refine go_t (drop_ne hB) ?_
    walk_at "lws"
    refine ⟨_, get_str (c := a[i]) (by (first | lia | omega)) (List.getElem?_eq_getElem hA), ?_⟩
    walk_at "lws"
    refine ⟨_, get_str (c := b[i]) (by (first | lia | omega)) (List.getElem?_eq_getElem hB), ?_⟩
    walk_at "lws"
    rw [tx_beq]
    by_cases hlt : i < preL a b
    · with_reducible refine el_1_2 (preL_lt a b i hlt) fun x hx hy => ?_
      have ex : a[i] = b[i] := by rw [List.getElem?_eq_getElem hA] at hx; rw [List.getElem?_eq_getElem hB] at hy; rw [Option.some.inj hx, Option.some.inj hy]
      refine go_t (by first | exact decide_eq_true ex | simp [ex]) ?_
      walk_at "lws"
      refine hR1 _ _ ?_
      walk_at "lws"
      exact ⟨hlt, Sub.rf rfl (by kernel_rfl!)⟩
    · have hi' : i = preL a b := by (first | lia | omega)
      have hne : a[i] ≠ b[i] := by
        rcases preL_end a b with h | h | ⟨x, y, hx, hy, hne⟩
        · (first | lia | omega)
        · (first | lia | omega)
        · subst hi'
          rw [List.getElem?_eq_getElem hA] at hx; rw [List.getElem?_eq_getElem hB] at hy
          rw [Option.some.inj hx, Option.some.inj hy]; exact hne
      refine go_f (by first | exact decide_eq_false hne | simp [hne]) ?_
      walk_at "lws"
      exact hR1 _ _ ⟨hi', by rw [hi']; exact Sub.refl _⟩
  walk_at "lws"
  refine ⟨_, sli_from (by (first | lia | omega)), ?_⟩
  walk_at "lws"
  refine ⟨_, sli_from (by (first | lia | omega)), ?_⟩
  walk_at "lws"
  have hlev : lev subst a b m = levMid subst (cut2 a b).1 (cut2 a b).2 m := by unfold lev; rw [if_neg h1]
  have hcut : cut2 a b = ((a.drop (preL a b)).take ((a.drop (preL a b)).length - preL (a.drop (preL a b)).reverse (b.drop (preL a b)).reverse), (b.drop (preL a b)).take ((b.drop (preL a b)).length - preL (a.drop (preL a b)).reverse (b.drop (preL a b)).reverse)) := rfl
  have ha1 : (a.drop (preL a b)).length ≤ 10 := by rw [List.length_drop]; (first | lia | omega)
  have hb1 : (b.drop (preL a b)).length ≤ 10 := by rw [List.length_drop]; (first | lia | omega)
  rw [hlev] at hR0
  generalize a.drop (preL a b) = a1 at ha1 hcut ⊢
  generalize b.drop (preL a b) = b1 at hb1 hcut ⊢
  with_reducible refine el_0_2 (preL_le a1.reverse b1.reverse) fun qle qle' => ?_
  rw [List.length_reverse] at qle qle'
  refine LX_whileN (preL a1.reverse b1.reverse) (fun j => ⟨[("a", .str (tx a1)), ("b", .str (tx b1)), ("max_cost", .int m), ("post", .int (-(j : Int)))], []⟩) (Sub.rf rfl (by kernel_rfl!)) (fun j hj => ?_) ?_
  · with_reducible refine LT_abs fun R1 hR1 => ?_
    walk_at "lws"
    refine ⟨_, tru_txt (by simp; (first | lia | omega)), ?_⟩
    by_cases hA : ¬ j < a1.length
    · refine go_f (take_e (by (first | lia | omega))) ?_
      walk_at "lws"
      exact hR1 _ _ ⟨by (first | lia | omega), by rw [show j = preL a1.reverse b1.reverse by (first | lia | omega)]; exact Sub.refl _⟩
    replace hA : j < a1.length := by (first | lia | omega)
    refine go_t (take_ne hA) ?_
    walk_at "lws"
    refine ⟨_, tru_txt (by simp; (first | lia | omega)), ?_⟩
    by_cases hB : ¬ j < b1.length
    · refine go_f (take_e (by (first | lia | omega))) ?_
      walk_at "lws"
      exact hR1 _ _ ⟨by (first | lia | omega), by rw [show j = preL a1.reverse b1.reverse by (first | lia | omega)]; exact Sub.refl _⟩
    replace hB : j < b1.length := by (first | lia | omega)
    refine go_t (take_ne hB) ?_
    walk_at "lws"
    refine ⟨_, get_strN (j := j) (c := a1[a1.length - (j + 1)]) (by (first | lia | omega)) hA (by (first | lia | omega)) (List.getElem?_eq_getElem (by (first | lia | omega))), ?_⟩
    walk_at "lws"
    refine ⟨_, get_strN (j := j) (c := b1[b1.length - (j + 1)]) (by (first | lia | omega)) hB (by (first | lia | omega)) (List.getElem?_eq_getElem (by (first | lia | omega))), ?_⟩
    walk_at "lws"
    rw [tx_beq]
    by_cases hlt : j < preL a1.reverse b1.reverse
    · with_reducible refine el_1_2 (preL_lt _ _ j hlt) fun x hx hy => ?_
      have hx' := rev_get hx
      have hy' := rev_get hy
      have ex : a1[a1.length - (j + 1)] = b1[b1.length - (j + 1)] := by
        rw [List.getElem?_eq_getElem (by (first | lia | omega))] at hx' hy'
        rw [Option.some.inj hx', Option.some.inj hy']
      refine go_t (by first | exact decide_eq_true ex | simp [ex]) ?_
      walk_at "lws"
      refine hR1 _ _ ?_
      walk_at "lws"
      exact ⟨hlt, Sub.of rfl ⟨rfl, rfl, rfl, congrArg (fun x => some (D.int x)) (by (first | lia | omega)), trivial⟩⟩
    · have hi' : j = preL a1.reverse b1.reverse := by (first | lia | omega)
      have hne : a1[a1.length - (j + 1)] ≠ b1[b1.length - (j + 1)] := by
        rcases preL_end a1.reverse b1.reverse with h | h | ⟨x, y, hx, hy, hne⟩
        · rw [List.length_reverse] at h; (first | lia | omega)
        · rw [List.length_reverse] at h; (first | lia | omega)
        · subst hi'
          have hx' := rev_get hx
          have hy' := rev_get hy
          rw [List.getElem?_eq_getElem (by (first | lia | omega))] at hx' hy'
          rw [Option.some.inj hx', Option.some.inj hy']; exact hne
      refine go_f (by first | exact decide_eq_false hne | simp [hne]) ?_
      walk_at "lws"
      exact hR1 _ _ ⟨hi', by rw [hi']; exact Sub.refl _⟩
  walk_at "lws"
  rw [hcut] at hR0
  dsimp only at hR0
  have ha2 : (a1.take (a1.length - preL a1.reverse b1.reverse)).length ≤ 10 := by rw [List.length_take]; (first | lia | omega)
  have hb2 : (b1.take (b1.length - preL a1.reverse b1.reverse)).length ≤ 10 := by rw [List.length_take]; (first | lia | omega)
  generalize a1.take (a1.length - preL a1.reverse b1.reverse) = a2 at ha2 hR0 ⊢
  generalize b1.take (b1.length - preL a1.reverse b1.reverse) = b2 at hb2 hR0 ⊢
  clear hcut
  refine ⟨_, tru_txt (by (first | lia | omega)), ?_⟩
  have emp : ∀ l : List Nat, (l = [] → (!(!l.isEmpty)) = true) ∧ (l ≠ [] → (!(!l.isEmpty)) = false) := fun l => by cases l <;> simp
  have mid0 : (a2 = [] ∨ b2 = []) → levMid subst a2 b2 m = 2 * ((a2.length : Int) + b2.length) := fun h => by unfold levMid; rw [if_pos h]
  by_cases e1 : a2 = []
  · refine go_t ((emp a2).1 e1) ?_
    walk_at "lws"
    refine ⟨_, blt_lenT (by (first | lia | omega)), ?_⟩
    walk_at "lws"
    refine ⟨_, blt_lenT (by (first | lia | omega)), ?_⟩
    walk_at "lws"
    refine ⟨_, bin_mulS (by decide) (by (first | lia | omega)), ?_⟩
    walk_at "lws"
    exact hR0 _ _ (ret_is (by rw [mid0 (.inl e1)]))
  refine go_f ((emp a2).2 e1) ?_
  walk_at "lws"
  refine ⟨_, tru_txt (by (first | lia | omega)), ?_⟩
  by_cases e2 : b2 = []
  · refine go_t ((emp b2).1 e2) ?_
    walk_at "lws"
    refine ⟨_, blt_lenT (by (first | lia | omega)), ?_⟩
    walk_at "lws"
    refine ⟨_, blt_lenT (by (first | lia | omega)), ?_⟩
    walk_at "lws"
    refine ⟨_, bin_mulS (by decide) (by (first | lia | omega)), ?_⟩
    walk_at "lws"
    exact hR0 _ _ (ret_is (by rw [mid0 (.inr e2)]))
  refine go_f ((emp b2).2 e2) ?_
  walk_at "lws"
  have mid1 : levMid subst a2 b2 m = if b2.length < a2.length then (if ((a2.length : Int) - b2.length) * 2 > m then m + 1 else levCore subst b2 a2 m) else (if ((b2.length : Int) - a2.length) * 2 > m then m + 1 else levCore subst a2 b2 m) := by
    unfold levMid; rw [if_neg (by intro h; rcases h with h | h <;> contradiction)]
  rw [mid1] at hR0
  refine ⟨_, blt_lenT (by (first | lia | omega)), ?_⟩
  walk_at "lws"
  refine go_f (by first | exact decide_eq_false (by (first | lia | omega)) | (simp; (first | lia | omega))) ?_
  walk_at "lws"
  refine ⟨_, blt_lenT (by (first | lia | omega)), ?_⟩
  walk_at "lws"
  refine go_f (by first | exact decide_eq_false (by (first | lia | omega)) | (simp; (first | lia | omega))) ?_
  walk_at "lws"
  refine ⟨_, blt_lenT (by (first | lia | omega)), ?_⟩
  walk_at "lws"
  refine ⟨_, blt_lenT (by (first | lia | omega)), ?_⟩
  walk_at "lws"
  by_cases h5 : b2.length < a2.length
  · refine go_t (by first | exact decide_eq_true h5 | simpa using h5) ?_
    rw [if_pos h5] at hR0
    refine LX_cons (LS_swap hK (hst.loc rfl) (hst.loc rfl) ?_ (by unfold swappedStores Env.blockKind Env.kindOf; rw [hK.scope]; rfl))
    walk_at "lws"
    refine ⟨by simp, _, _, rfl, ?_⟩
    exact LX_nil (LX.sub ((tail b2 a2 m hb2 ha2 K bk).mono hR0) (Sub.rf rfl (by kernel_rfl!)))
  · refine go_f (by first | exact decide_eq_false h5 | simpa using h5) ?_
    rw [if_neg h5] at hR0
    exact LX_nil (LX.sub ((tail a2 b2 m ha2 hb2 K bk).mono hR0) (Sub.rf rfl (by kernel_rfl!)))

theorem inner_clos {G : GC} {mg mb : Str → Option Value} {qual : Str} {cl : List (Str × Addr)} {doc pm cd ctv : Value} {A : Addr} {N : Nat} (gr : Grd G mg mb) (hN : 1 ≤ N) (hN2 : N ≤ 4000) {fd : FuncData}
    (hfd : fd = fnX "inner" qual (nestAt pw iI2d 1).1 (nestAt pw iI2d 1).2.1 (nestAt pw iI2d 1).2.2 cl .none .none doc pm none cd ctv) : ∀ k : Nat, 1 ≤ k → ∀ (K : Act) (sc : Scope) (n : Nat) (σ : Sig) (l : List Nat) (x L : Nat), K.G = G → KF K sc n → k ≤ n →
      (∀ y, (y, .free) ∈ (nestAt pw iI2d 1).2.2.names → (∃ c, cl.lookup y = some c ∧ K.env.cells.lookup y = some c) ∧ (sc.names.lookup y = some .cell ∨ sc.names.lookup y = some .free)) →
      σ.get "a_digits" = some (.raw (.ref A)) → σ.get "n" = some (.int N) → σ.get "inner" = some (.fn fd qual) → σ.own = [(A, .list (encN l))] → L + k ≤ l.length → l.length ≤ 64 → x < 2 ^ (N * k) →
      ClosIs K fd qual [.int x, .int L, .int (L + k : Nat)] σ ⟨σ.vars, [(A, .list (encN (putD N l x L k)))]⟩ .none := by
  revert hfd
  with_reducible refine' withNest (P := fun f => fd = fnX "inner" qual f.1 f.2.1 f.2.2 cl .none .none doc pm none cd ctv → ∀ k : Nat, 1 ≤ k → ∀ (K : Act) (sc : Scope) (n : Nat) (σ : Sig) (l : List Nat) (x L : Nat), K.G = G → KF K sc n → k ≤ n →
      (∀ y, (y, .free) ∈ f.2.2.names → (∃ c, cl.lookup y = some c ∧ K.env.cells.lookup y = some c) ∧ (sc.names.lookup y = some .cell ∨ sc.names.lookup y = some .free)) →
      σ.get "a_digits" = some (.raw (.ref A)) → σ.get "n" = some (.int N) → σ.get "inner" = some (.fn fd qual) → σ.own = [(A, .list (encN l))] → L + k ≤ l.length → l.length ≤ 64 → x < 2 ^ (N * k) →
      ClosIs K fd qual [.int x, .int L, .int (L + k : Nat)] σ ⟨σ.vars, [(A, .list (encN (putD N l x L k)))]⟩ .none) ?hfn ?_
  case hfn => exact rfl
  dsimp only
  intro hfd k
  induction k using Nat.strongRecOn with
  | ind k ih =>
  intro hk1 K sc n σ l x L hG hK0 hkn hcl hv1 hv2 hv3 hown hLk hll hx
  obtain ⟨m, rfl⟩ : ∃ m, n = m + 1 := ⟨n - 1, by (first | lia | omega)⟩
  obtain rfl := hG
  rw [hfd]
  refine clos_intro hK0 gr rfl (fun doc pm cd ctv cl vs hl => by (with_reducible refine el_3_1 (lenIs3 hl) fun v1 v2 v3 oq209 => ?_); obtain rfl := oq209; rfl) rfl (fun y hy => ?hloc) (fun y hy => ⟨(hcl y hy).1, ?hvar, (hcl y hy).2⟩) (by rw [hown]; rfl) fun K' ck => ?hbody
  case hloc =>
    simp only [List.map_cons, List.map_nil, List.mem_cons, List.not_mem_nil, or_false] at hy
    rcases hy with rfl | rfl | rfl <;> exact .inl rfl
  case hvar =>
    simp only [List.mem_cons, List.not_mem_nil, or_false, Prod.mk.injEq, reduceCtorEq, and_false, false_or, and_true] at hy
    rcases hy with rfl | rfl | rfl <;> exact ⟨_, by assumption⟩
  dsimp only
  rw [hown]
  dsimp only [Sig.get] at hv1 hv2 hv3
  repeat first | rw [capOf_o rfl] | rw [capOf_f (by assumption)] | rw [capOf_nil]
  have hK := ck.kf
  have hst := ck.st
  have gr' : Grd K'.G mg mb := by rw [ck.G]; exact gr
  show LX K' _ _ ⟨setAll _ [_, _, _] _, _⟩
  with_reducible refine LX_abs fun R0' hR0 => ?_
  walk_at "lws"
  by_cases h1 : k = 1
  · subst h1
    refine go_t (by simp) ?_
    walk_at "lws"
    refine ⟨_, set_list (j := 0) rfl (by simp; (first | lia | omega)) (by (first | lia | omega)), ?_⟩
    walk_at "lws"
    refine hR0 _ _ ⟨congrArg (fun l => [(A, OD.list l)]) ?_, rfl⟩
    rw [putD_one (by simpa using hx)]; exact (List.map_set ..).symm
  refine go_f (by first | exact decide_eq_false (by (first | lia | omega)) | (simp; (first | lia | omega))) ?_
  walk_at "lws"
  obtain ⟨j, hj⟩ : ∃ j, j = k / 2 := ⟨_, rfl⟩
  have hNk : N * k ≤ 256000 := Nat.mul_le_mul hN2 (show k ≤ 64 by (first | lia | omega))
  have hNj : N * j ≤ 256000 := Nat.mul_le_mul hN2 (show j ≤ 64 by (first | lia | omega))
  refine ⟨.int (L + j : Nat), bin_to (shr_nat (L + (L + k)) 1 (by (first | lia | omega)) rfl) (congrArg D.int (by rw [Nat.pow_one]; (first | lia | omega))), ?_⟩
  walk_at "lws"
  refine ⟨.int (N * j : Nat), bin_to (bin_mulS (by (first | lia | omega)) (by (first | lia | omega))) (congrArg D.int ?e1), ?_⟩
  case e1 => rw [show ((L + j : Nat) : Int) - L = (j : Int) by (first | lia | omega), Int.mul_comm]; rfl
  walk_at "lws"
  refine ⟨_, shr_nat x (N * j) rfl rfl, ?_⟩
  walk_at "lws"
  have hb1 : Builtin.Int.intBits ((x / 2 ^ (N * j) : Nat) : Int) ≤ N * k := bits_le_of_lt (Nat.lt_of_le_of_lt (Nat.div_le_self ..) hx)
  refine ⟨_, shl_nat (x / 2 ^ (N * j)) (N * j) rfl rfl (by (first | lia | omega)), ?_⟩
  refine ⟨.int (x % 2 ^ (N * j) : Nat), bin_to bin_xor (congrArg D.int (xor_high x (N * j))), ?_⟩
  walk_at "lws"
  refine LE_callVar hK rfl rfl ?_ rfl
  walk_at "lws"
  refine ⟨_, _, ih j (by (first | lia | omega)) (by (first | lia | omega)) K' _ m _ l (x % 2 ^ (N * j)) L ck.G hK (by (first | lia | omega)) (fun y hy => ⟨?hc1, ?hk1⟩) rfl rfl rfl rfl (by (first | lia | omega)) hll (Nat.mod_lt _ (Nat.two_pow_pos _)), ?_⟩
  case hc1 =>
    with_reducible refine el_1_2 ((hcl y hy).1) fun c h1 h2 => ?_
    exact ⟨c, h1, (ck.cells y hy).trans h1⟩
  case hk1 =>
    simp only [List.mem_cons, List.not_mem_nil, or_false, Prod.mk.injEq, reduceCtorEq, and_false, false_or, and_true] at hy
    rcases hy with rfl | rfl | rfl <;> exact .inr rfl
  refine ⟨rfl, ?_⟩
  walk_at "lws"
  refine LE_callVar hK rfl rfl ?_ rfl
  walk_at "lws"
  have hx2 : x / 2 ^ (N * j) < 2 ^ (N * (k - j)) := by
    rw [Nat.div_lt_iff_lt_mul (Nat.two_pow_pos _), ← Nat.pow_add, ← Nat.mul_add]
    rw [show k - j + j = k by (first | lia | omega)]; exact hx
  have e : L + k = L + j + (k - j) := by (first | lia | omega)
  rw [e]
  refine ⟨_, _, ih (k - j) (by (first | lia | omega)) (by (first | lia | omega)) K' _ m _ (putD N l (x % 2 ^ (N * j)) L j) (x / 2 ^ (N * j)) (L + j) ck.G hK (by (first | lia | omega)) (fun y hy => ⟨?hc1, ?hk1⟩) rfl rfl rfl rfl (by rw [putD_length]; (first | lia | omega)) (by rw [putD_length]; exact hll) hx2, ?_⟩
  case hc1 =>
    with_reducible refine el_1_2 ((hcl y hy).1) fun c h1 h2 => ?_
    exact ⟨c, h1, (ck.cells y hy).trans h1⟩
  case hk1 =>
    simp only [List.mem_cons, List.not_mem_nil, or_false, Prod.mk.injEq, reduceCtorEq, and_false, false_or, and_true] at hy
    rcases hy with rfl | rfl | rfl <;> exact .inr rfl
  refine ⟨rfl, ?_⟩
  walk_at "lws"
  exact hR0 _ _ ⟨congrArg (fun l => [(A, OD.list l)]) (by rw [putD_split (by (first | lia | omega))]), rfl⟩

theorem i2d_body {G : GC} {mg mb : Str → Option Value} {n : Nat} {name : Str} {t : Tab} (gr : Grd G mg mb) (gb : BMain G mg) (ht : TabAt G t) (htp : t.pos = nestPos pw iI2d 1) (htq : t.qual = (name ++ ".<locals>.") ++ "inner") (hlen : mg "len" = none) (hn : 64 ≤ n) (N a : Nat) (hN : 1 ≤ N) (hN2 : N ≤ 4000) (hl : lenN N a ≤ 64) : ∀ (K : Act), BodyK K G (fnAt pw iI2d).2.2 n name (.ref t.code) →
    LX K (fnAt pw iI2d).2.1 (RetIs (.list (encN (i2dN N a)))) ⟨[("a", .int a), ("n", .int N)], []⟩ := by
  have inn := @inner_clos G mg mb
  revert inn
  with_reducible refine' withFn (P := fun f => _ → ∀ K, BodyK K G f.2.2 n name (.ref t.code) → LX K f.2.1 _ _) ?hfn ?_
  case hfn => exact rfl
  intro inn K bk
  dsimp only at bk ⊢
  have hK := bk.kf
  have hst := bk.st
  obtain rfl := bk.G
  with_reducible refine LX_abs fun R0' hR0 => ?_
  iterate 2 walk_at "lw"
  refine LE_mulOwn ?_
  refine LE_list ?_
  walk_at "lws"
  refine ⟨by first | exact Nat.le_of_ble_eq_true rfl | simp, ?_⟩
  walk_at "lws"
  with_reducible refine' LE_meth PySem.F.plainAttrs_int PySem.F.slot_int_bit_length PySem.F.type_int_bit_length ?_ ?m1 ?m2 ?m3 ?m4
  walk_at "mt"
  walk_at "lws"
  refine ⟨ty_int, ?_⟩
  walk_at "lws"
  refine ⟨_, _, met_bits, ?_⟩
  walk_at "lws"
  have hbN : Builtin.Int.intBits (N : Int) ≤ 6000 := bits_le_of_lt (m := 6000) (Nat.lt_of_le_of_lt hN2 (Nat.lt_of_lt_of_le (show 4000 < 2 ^ 12 by decide) (Nat.pow_le_pow_right (by decide) (by decide))))
  refine ⟨.int (lenN N a : Nat), bin_to (bin_div (by (first | lia | omega)) (noPylong hbN)) (congrArg D.int ?e1), ?_⟩
  case e1 => rw [show ((Builtin.Int.intBits (a : Int) : Int) + N - 1) = ((Builtin.Int.intBits (a : Int) + N - 1 : Nat) : Int) by (first | lia | omega), fdiv_nat]; rfl
  refine ⟨_, _, rfl, rfl, by (first | lia | omega), by (first | lia | omega), by simp; (first | lia | omega), fun A => ?_⟩
  rw [Int.toNat_natCast, replicate_enc]
  have hcells : ∀ y : Str, y = "a_digits" ∨ y = "n" ∨ y = "inner" → ∃ c, K.env.cells.lookup y = some c := fun y hy => by
    rcases hy with rfl | rfl | rfl <;> exact cell_at hK hst rfl
  refine LX_cons (LS_def (t := t) hK gr gb ht bk.code htp (by rw [bk.qual]; exact htq) (hst.cel rfl) (fun p hp hf => ?_) (fun doc pm c' ctv => ?_) rfl rfl rfl)
  · simp only [List.mem_cons, List.not_mem_nil, or_false] at hp
    rcases hp with rfl | rfl | rfl | rfl | rfl | rfl | rfl | rfl | rfl | rfl <;> first | exact hcells _ (.inl rfl) | exact hcells _ (.inr (.inl rfl)) | exact hcells _ (.inr (.inr rfl)) | cases hf
  have hput := i2dN_put (N := N) (a := a)
  walk_at "lws"
  by_cases h0 : a = 0
  · refine go_f (by first | exact decide_eq_false h0 | simp [h0]) ?_
    have hz : encN (i2dN N a) = encN (List.replicate (lenN N a) 0) := by rw [h0]; unfold i2dN; rw [lenN_zero hN]; rfl
    rw [hz] at hR0
    walk_at "lws"
    exact hR0 _ _ (.own_list (.head _))
  refine go_t (by first | exact decide_eq_true (by (first | lia | omega)) | (simp; (first | lia | omega))) ?_
  walk_at "lws"
  refine LE_callVar hK rfl rfl ?_ rfl
  walk_at "lws"
  refine ⟨.int (0 + lenN N a : Nat), blt_to (blt_len_own (.head _) (by simp; (first | lia | omega))) (congrArg D.int (by simp)), ?_⟩
  walk_at "lws"
  refine ⟨_, _, inn gr hN hN2 (qual := t.qual) (A := A) rfl (lenN N a) (lenN_pos hN h0) K _ n _ (List.replicate (lenN N a) 0) a 0 rfl hK (by (first | lia | omega)) (fun y hy => ?hcl) rfl rfl rfl rfl (by simp) (by simp; (first | lia | omega)) (lt_lenN hN), ?_⟩
  case hcl =>
    have hy' : y = "a_digits" ∨ y = "n" ∨ y = "inner" := by
      have hy2 : (y, NameKind.free) ∈ [(_, _), (_, _), (_, _), (_, _), (_, _), (_, _), (_, _), (_, _), (_, _), (_, _)] := hy
      simp only [List.mem_cons, List.not_mem_nil, or_false, Prod.mk.injEq, reduceCtorEq, and_false, false_or, and_true] at hy2
      rcases hy2 with rfl | rfl | rfl <;> simp
    with_reducible refine el_1_1 (hcells y hy') fun c hc => ?_
    refine ⟨⟨c, clOf_free hc _ _ (.inl hy), hc⟩, .inl ?_⟩
    rcases hy' with rfl | rfl | rfl <;> rfl
  refine ⟨rfl, ?_⟩
  rw [hput]
  walk_at "lws"
  exact hR0 _ _ (.own_list (.head _))

theorem innerD_clos {G : GC} {mg mb : Str → Option Value} {qual : Str} {cl : List (Str × Addr)} {doc pm cd ctv : Value} {N : Nat} (gr : Grd G mg mb) (hN : 1 ≤ N) (hN2 : N ≤ 4000) {fd : FuncData} {l : List Nat} (hll : l.length ≤ 64) (hld : ∀ d ∈ l, d < 2 ^ N)
    (hfd : fd = fnX "inner" qual (nestAt pw iD2i 0).1 (nestAt pw iD2i 0).2.1 (nestAt pw iD2i 0).2.2 cl .none .none doc pm none cd ctv) : ∀ k : Nat, 1 ≤ k → ∀ (K : Act) (sc : Scope) (n : Nat) (σ : Sig) (L : Nat), K.G = G → KF K sc n → k ≤ n →
      (∀ y, (y, .free) ∈ (nestAt pw iD2i 0).2.2.names → (∃ c, cl.lookup y = some c ∧ K.env.cells.lookup y = some c) ∧ (sc.names.lookup y = some .cell ∨ sc.names.lookup y = some .free)) →
      σ.get "digits" = some (.list (encN l)) → σ.get "n" = some (.int N) → σ.get "inner" = some (.fn fd qual) → L + k ≤ l.length →
      ClosIs K fd qual [.int L, .int (L + k : Nat)] σ ⟨σ.vars, σ.own⟩ (.int (valN N ((l.drop L).take k))) := by
  revert hfd
  with_reducible refine' withNest (P := fun f => fd = fnX "inner" qual f.1 f.2.1 f.2.2 cl .none .none doc pm none cd ctv → ∀ k : Nat, 1 ≤ k → ∀ (K : Act) (sc : Scope) (n : Nat) (σ : Sig) (L : Nat), K.G = G → KF K sc n → k ≤ n →
      (∀ y, (y, .free) ∈ f.2.2.names → (∃ c, cl.lookup y = some c ∧ K.env.cells.lookup y = some c) ∧ (sc.names.lookup y = some .cell ∨ sc.names.lookup y = some .free)) →
      σ.get "digits" = some (.list (encN l)) → σ.get "n" = some (.int N) → σ.get "inner" = some (.fn fd qual) → L + k ≤ l.length →
      ClosIs K fd qual [.int L, .int (L + k : Nat)] σ ⟨σ.vars, σ.own⟩ (.int (valN N ((l.drop L).take k)))) ?hfn ?_
  case hfn => exact rfl
  dsimp only
  intro hfd k
  induction k using Nat.strongRecOn with
  | ind k ih =>
  intro hk1 K sc n σ L hG hK0 hkn hcl hv1 hv2 hv3 hLk
  obtain ⟨m, rfl⟩ : ∃ m, n = m + 1 := ⟨n - 1, by (first | lia | omega)⟩
  obtain rfl := hG
  rw [hfd]
  refine clos_intro hK0 gr rfl (fun doc pm cd ctv cl vs hl => by (with_reducible refine el_2_1 (lenIs2 hl) fun v1 v2 oq210 => ?_); obtain rfl := oq210; rfl) rfl (fun y hy => ?hloc) (fun y hy => ⟨(hcl y hy).1, ?hvar, (hcl y hy).2⟩) rfl fun K' ck => ?hbody
  case hloc =>
    simp only [List.map_cons, List.map_nil, List.mem_cons, List.not_mem_nil, or_false] at hy
    rcases hy with rfl | rfl <;> exact .inl rfl
  case hvar =>
    simp only [List.mem_cons, List.not_mem_nil, or_false, Prod.mk.injEq, reduceCtorEq, and_false, false_or, and_true] at hy
    rcases hy with rfl | rfl | rfl <;> exact ⟨_, by assumption⟩
  dsimp only
  dsimp only [Sig.get] at hv1 hv2 hv3
  repeat first | rw [capOf_o rfl] | rw [capOf_f (by assumption)] | rw [capOf_nil]
  have hK := ck.kf
  have hst := ck.st
  have gr' : Grd K'.G mg mb := by rw [ck.G]; exact gr
  have hcl' : ∀ y, (∃ c, cl.lookup y = some c ∧ K.env.cells.lookup y = some c) → K'.env.cells.lookup y = cl.lookup y → ∃ c, cl.lookup y = some c ∧ K'.env.cells.lookup y = some c := fun y ⟨c, h1, _⟩ h2 => ⟨c, h1, h2.trans h1⟩
  show LX K' _ _ ⟨setAll _ [_, _] _, _⟩
  with_reducible refine LX_abs fun R0' hR0 => ?_
  walk_at "lws"
  by_cases h1 : k = 1
  · subst h1
    refine go_t (by simp) ?_
    walk_at "lws"
    refine ⟨.int (l[L]), get_list (by (first | lia | omega)) (by (first | lia | omega)) (by rw [Int.toNat_natCast, List.getElem?_map, List.getElem?_eq_getElem (by (first | lia | omega))]; rfl), ?_⟩
    exact hR0 _ _ ⟨rfl, congrArg D.int (by rw [valN_one (by (first | lia | omega))])⟩
  refine go_f (by first | exact decide_eq_false (by (first | lia | omega)) | (simp; (first | lia | omega))) ?_
  walk_at "lws"
  obtain ⟨j, hj⟩ : ∃ j, j = k / 2 := ⟨_, rfl⟩
  have hNk : N * k ≤ 256000 := Nat.mul_le_mul hN2 (show k ≤ 64 by (first | lia | omega))
  have hNj : N * j ≤ 256000 := Nat.mul_le_mul hN2 (show j ≤ 64 by (first | lia | omega))
  refine ⟨.int (L + j : Nat), bin_to (shr_nat (L + (L + k)) 1 (by (first | lia | omega)) rfl) (congrArg D.int (by rw [Nat.pow_one]; (first | lia | omega))), ?_⟩
  walk_at "lws"
  refine ⟨.int (N * j : Nat), bin_to (bin_mulS (by (first | lia | omega)) (by (first | lia | omega))) (congrArg D.int ?e1), ?_⟩
  case e1 => rw [show ((L + j : Nat) : Int) - L = (j : Int) by (first | lia | omega), Int.mul_comm]; rfl
  walk_at "lws"
  refine LE_callVar hK rfl rfl ?_ rfl
  walk_at "lws"
  have e : L + k = L + j + (k - j) := by (first | lia | omega)
  have hsp := valN_split (N := N) (l := l) (L := L) (k := k) (j := j) (by (first | lia | omega)) hLk
  rw [hsp] at hR0
  generalize hR : L + k = Rr at e hLk ⊢
  subst e
  refine ⟨_, _, ih (k - j) (by (first | lia | omega)) (by (first | lia | omega)) K' _ m _ (L + j) ck.G hK (by (first | lia | omega)) (fun y hy => ⟨hcl' y (hcl y hy).1 (ck.cells y hy), ?hk1⟩) rfl rfl rfl (by (first | lia | omega)), ?_⟩
  case hk1 =>
    simp only [List.mem_cons, List.not_mem_nil, or_false, Prod.mk.injEq, reduceCtorEq, and_false, false_or, and_true] at hy
    rcases hy with rfl | rfl | rfl <;> exact .inr rfl
  walk_at "lws"
  have hb1 : Builtin.Int.intBits ((valN N ((l.drop (L + j)).take (k - j)) : Nat) : Int) ≤ N * (k - j) := bits_le_of_lt (valN_seg hld (by (first | lia | omega)))
  have hNkj : N * (k - j) ≤ 256000 := Nat.mul_le_mul hN2 (show k - j ≤ 64 by (first | lia | omega))
  refine ⟨_, shl_nat _ (N * j) rfl rfl (by (first | lia | omega)), ?_⟩
  refine LE_callVar hK rfl rfl ?_ rfl
  walk_at "lws"
  refine ⟨_, _, ih j (by (first | lia | omega)) (by (first | lia | omega)) K' _ m _ L ck.G hK (by (first | lia | omega)) (fun y hy => ⟨hcl' y (hcl y hy).1 (ck.cells y hy), ?hk1⟩) rfl rfl rfl (by (first | lia | omega)), ?_⟩
  case hk1 =>
    simp only [List.mem_cons, List.not_mem_nil, or_false, Prod.mk.injEq, reduceCtorEq, and_false, false_or, and_true] at hy
    rcases hy with rfl | rfl | rfl <;> exact .inr rfl
  walk_at "lws"
  exact hR0 _ _ ⟨rfl, congrArg D.int (by (first | lia | omega))⟩

theorem d2i_body {G : GC} {mg mb : Str → Option Value} {n : Nat} {name : Str} {t : Tab} (gr : Grd G mg mb) (gb : BMain G mg) (ht : TabAt G t) (htp : t.pos = nestPos pw iD2i 0) (htq : t.qual = (name ++ ".<locals>.") ++ "inner") (hlen : mg "len" = none) (hn : 64 ≤ n) (N : Nat) (l : List Nat) (hN : 1 ≤ N) (hN2 : N ≤ 4000) (hl : l.length ≤ 64) (hld : ∀ d ∈ l, d < 2 ^ N) : ∀ (K : Act), BodyK K G (fnAt pw iD2i).2.2 n name (.ref t.code) →
    LX K (fnAt pw iD2i).2.1 (RetIs (.int (valN N l))) ⟨[("digits", .list (encN l)), ("n", .int N)], []⟩ := by
  have inn := @innerD_clos G mg mb
  revert inn
  with_reducible refine' withFn (P := fun f => _ → ∀ K, BodyK K G f.2.2 n name (.ref t.code) → LX K f.2.1 _ _) ?hfn ?_
  case hfn => exact rfl
  intro inn K bk
  dsimp only at bk ⊢
  have hK := bk.kf
  have hst := bk.st
  obtain rfl := bk.G
  with_reducible refine LX_abs fun R0' hR0 => ?_
  have hcells : ∀ y : Str, y = "digits" ∨ y = "n" ∨ y = "inner" → ∃ c, K.env.cells.lookup y = some c := fun y hy => by
    rcases hy with rfl | rfl | rfl <;> exact cell_at hK hst rfl
  refine LX_cons (LS_def (t := t) hK gr gb ht bk.code htp (by rw [bk.qual]; exact htq) (hst.cel rfl) (fun p hp hf => ?_) (fun doc pm c' ctv => ?_) rfl rfl rfl)
  · simp only [List.mem_cons, List.not_mem_nil, or_false] at hp
    rcases hp with rfl | rfl | rfl | rfl | rfl | rfl | rfl <;> first | exact hcells _ (.inl rfl) | exact hcells _ (.inr (.inl rfl)) | exact hcells _ (.inr (.inr rfl)) | cases hf
  walk_at "lws"
  refine ⟨_, tru_list (by simp; (first | lia | omega)), ?_⟩
  by_cases h0 : l = []
  · subst h0
    refine go_f rfl ?_
    walk_at "lws"
    exact hR0 _ _ (ret_is rfl)
  refine go_t (by cases l <;> simp_all) ?_
  refine LE_callVar hK rfl rfl ?_ rfl
  walk_at "lws"
  have hpos : 1 ≤ l.length := by cases l <;> simp_all
  refine ⟨.int (0 + l.length : Nat), blt_to (blt_len_list (by simp; (first | lia | omega))) (congrArg D.int (by simp)), ?_⟩
  walk_at "lws"
  refine ⟨_, _, inn gr hN hN2 (qual := t.qual) hl hld rfl l.length hpos K _ n _ 0 rfl hK (by (first | lia | omega)) (fun y hy => ?hcl) rfl rfl rfl (by simp), ?_⟩
  case hcl =>
    have hy' : y = "digits" ∨ y = "n" ∨ y = "inner" := by
      have hy2 : (y, NameKind.free) ∈ [(_, _), (_, _), (_, _), (_, _), (_, _), (_, _), (_, _)] := hy
      simp only [List.mem_cons, List.not_mem_nil, or_false, Prod.mk.injEq, reduceCtorEq, and_false, false_or, and_true] at hy2
      rcases hy2 with rfl | rfl | rfl <;> simp
    with_reducible refine el_1_1 (hcells y hy') fun c hc => ?_
    refine ⟨⟨c, clOf_free hc _ _ (.inl hy), hc⟩, .inl ?_⟩
    rcases hy' with rfl | rfl | rfl <;> rfl
  exact hR0 _ _ (ret_is (by rw [List.drop_zero, List.take_length]))

theorem div2_body {G : GC} {mg mb : Str → Option Value} {n : Nat} {name : Str} {cd : Value} {t1 : Tok} (gr : Grd G mg mb) (hlim : mg "_DIV_LIMIT" = some (.int 4000 t1)) (hdm : mg "divmod" = none) (a b m : Int) (h1 : (Builtin.Int.intBits a : Int) - m ≤ 4000) (h2 : b ≠ 0) (h3 : Builtin.divisionGoesByPylong a b = false) : ∀ (K : Act), BodyK K G (fnAt pw iDiv2).2.2 n name cd →
    LX K (fnAt pw iDiv2).2.1 (RetIs (.tup [.int (a.fdiv b), .int (a.fmod b)])) ⟨[("a", .int a), ("b", .int b), ("n", .int m)], []⟩ := by
  with_reducible refine' withFn (P := fun f => ∀ K, BodyK K G f.2.2 n name cd → LX K f.2.1 _ _) ?hfn ?_
  case hfn => exact rfl
  intro K bk
  dsimp only at bk ⊢
  have hK := bk.kf
  have hst := bk.st
  obtain rfl := bk.G
  with_reducible refine LX_abs fun R0' hR0 => ?_
  walk_at "lws"
  with_reducible refine' LE_meth PySem.F.plainAttrs_int PySem.F.slot_int_bit_length PySem.F.type_int_bit_length ?_ ?m1 ?m2 ?m3 ?m4
  walk_at "mt"
  walk_at "lws"
  refine ⟨ty_int, ?_⟩
  walk_at "lws"
  refine ⟨_, _, met_bits, ?_⟩
  walk_at "lws"
  refine go_t (by first | exact decide_eq_true h1 | simpa using h1) ?_
  walk_at "lws"
  refine ⟨_, blt_divmod h2 h3, ?_⟩
  exact hR0 _ _ (ret_is rfl)

theorem divP_body {G : GC} {mg mb : Str → Option Value} {n m1 m2 m3 : Nat} {name : Str} {cd : Value} (gr : Grd G mg mb) (hrev : mg "reversed" = none) (hC1 : FnC G mg "_int2digits" m1 T_i2d) (hm1 : m1 ≤ n) (hC2 : FnC G mg "_digits2int" m2 T_d2i) (hm2 : m2 ≤ n) (hC3 : FnC G mg "_div2n1n" m3 T_div2) (hm3 : m3 ≤ n) (a b : Nat) (hok : DivOk a b) : ∀ (K : Act), BodyK K G (fnAt pw iDivP).2.2 n name cd →
    LX K (fnAt pw iDivP).2.1 (RetIs (.tup [.int (a / b : Nat), .int (a % b : Nat)])) ⟨[("a", .int a), ("b", .int b)], []⟩ := by
  with_reducible refine' withFn (P := fun f => ∀ K, BodyK K G f.2.2 n name cd → LX K f.2.1 _ _) ?hfn ?_
  case hfn => exact rfl
  intro K bk
  dsimp only at bk ⊢
  have hK := bk.kf
  have hst := bk.st
  obtain rfl := bk.G
  with_reducible refine LX_abs fun R0' hR0 => ?_
  refine el_0_3 (hok) fun hb hbits hl64 => ?_
  try clear hok
  have hblt := lt_bits b
  have hN1 : 1 ≤ Builtin.Int.intBits (b : Int) := by
    rcases Nat.eq_zero_or_pos (Builtin.Int.intBits (b : Int)) with h | h
    · rw [h] at hblt; (first | lia | omega)
    · exact h
  walk_at "lws"
  with_reducible refine' LE_meth PySem.F.plainAttrs_int PySem.F.slot_int_bit_length PySem.F.type_int_bit_length ?_ ?m1 ?m2 ?m3 ?m4
  walk_at "mt"
  walk_at "lws"
  refine ⟨ty_int, ?_⟩
  walk_at "lws"
  refine ⟨_, _, met_bits, ?_⟩
  generalize hNd : Builtin.Int.intBits (b : Int) = N at hbits hl64 hblt hN1 ⊢
  walk_at "lws"
  refine ⟨_, ⟨N, a, hN1, hbits, hl64, rfl, rfl⟩, ?_⟩
  walk_at "lws"
  refine LE_listOwn ?_
  walk_at "lws"
  refine ⟨by first | exact Nat.le_of_ble_eq_true rfl | simp, fun A => ?_⟩
  refine LX_forT (fun d : Nat => D.int d) ?_
  refine LI_reversed hK gr rfl hrev (gr.blt _ (by decide)) rfl ?_ rfl
  walk_at "lws"
  have hds : ∀ d ∈ (i2dN N a).reverse, d < 2 ^ N := fun d hd => by
    rw [List.mem_reverse] at hd
    with_reducible refine el_1_2 (List.mem_map.mp hd) fun i _ oq211 => ?_
    obtain rfl := oq211
    exact digN_lt ..
  have hlen := i2dN_length N a
  with_reducible refine el_0_4 (divRun_eq (N := N) (a := a) (b := b) hN1 hb) fun e1 e2 e3 e4 => ?_
  have hdl : (i2dN N a).reverse.length ≤ 64 := by rw [List.length_reverse, hlen]; exact hl64
  refine ⟨_, rfl, (i2dN N a).reverse, fun i => ⟨[("b", .int b), ("n", .int N), ("r", .int (((i2dN N a).reverse.take i).foldl (divStep N b) ([], 0)).2), ("q_digits", .raw (.ref A))], [(A, .list (encN (((i2dN N a).reverse.take i).foldl (divStep N b) ([], 0)).1))]⟩, by rw [← List.map_reverse], Sub.rf rfl (by kernel_rfl!), fun i d hd => ?_, ?_⟩
  · refine el_0_4 (divRun_ok (N := N) hb ((i2dN N a).reverse.take i) ([], 0) hb (fun d hd => hds d (List.mem_of_mem_take hd)) (fun q hq => by cases hq)) fun f1 f2 f3 _ => ?_
    have hdN := hds d (List.mem_of_getElem? hd)
    have hnext := take_foldl (divStep N b) ([], 0) (i2dN N a).reverse hd
    with_reducible refine LA_abs (σ := ⟨_, _⟩) fun R1 hR1 => ?_
    generalize ((i2dN N a).reverse.take i).foldl (divStep N b) ([], 0) = st at f1 f2 f3 hnext ⊢
    have hlt : st.2 * 2 ^ N + d < 2 ^ (N + N) := by
      have h1 : (st.2 + 1) * 2 ^ N ≤ 2 ^ N * 2 ^ N := Nat.mul_le_mul_right _ (by (first | lia | omega))
      rw [Nat.add_mul] at h1; rw [Nat.pow_add]; (first | lia | omega)
    have hbr : Builtin.Int.intBits (st.2 : Int) ≤ N := bits_le_of_lt (by (first | lia | omega))
    have hba : Builtin.Int.intBits ((st.2 * 2 ^ N + d : Nat) : Int) ≤ N + N := bits_le_of_lt hlt
    have hlst : st.1.length ≤ 64 := by rw [f3]; simp; (first | lia | omega)
    walk_at "lws"
    refine ⟨_, shl_nat st.2 N rfl rfl (by (first | lia | omega)), ?_⟩
    walk_at "lws"
    refine ⟨_, ⟨((st.2 * 2 ^ N + d : Nat) : Int), b, N, by (first | lia | omega), by (first | lia | omega), noPylong (by rw [hNd]; (first | lia | omega)), rfl, rfl⟩, ?_⟩
    rw [fdiv_nat, fmod_nat]
    walk_at "lws"
    with_reducible refine' LE_meth PySem.F.plainAttrs_list PySem.F.slot_list_append PySem.F.type_list_append ?_ ?m1 ?m2 ?m3 ?m4
    walk_at "mt"
    walk_at "lws"
    refine ⟨ty_own (.head _), ?_⟩
    walk_at "lws"
    refine ⟨_, _, met_append (i := 0) rfl (by rw [List.length_map, sizeLine_eq]; (first | lia | omega)), ?_⟩
    refine ⟨rfl, ?_⟩
    walk_at "lws"
    exact hR1 _ _ (Sub.of (congrArg (fun l => [(A, OD.list l)]) (by rw [hnext]; unfold divStep; simp)) ⟨rfl, rfl, congrArg (fun x => some (D.int x)) (by rw [hnext]; rfl), rfl, trivial⟩)
  · show LX _ _ _ ⟨_, _⟩
    rw [List.take_length]
    change LX _ _ _ ⟨[_, _, ("r", .int (divRun N b (i2dN N a).reverse).2), _], [(A, .list (encN (divRun N b (i2dN N a).reverse).1))]⟩
    walk_at "lws"
    with_reducible refine' LE_meth PySem.F.plainAttrs_list PySem.F.slot_list_reverse PySem.F.type_list_reverse ?_ ?m1 ?m2 ?m3 ?m4
    walk_at "mt"
    walk_at "lws"
    refine ⟨ty_own (.head _), ?_⟩
    walk_at "lws"
    refine ⟨_, _, met_reverse (i := 0) rfl (by rw [List.length_map, sizeLine_eq, e4]; (first | lia | omega)), ?_⟩
    refine ⟨rfl, ?_⟩
    refine LX_freeze "q_digits" (i := 0) rfl rfl ?_
    walk_at "lws"
    refine ⟨_, ⟨N, (divRun N b (i2dN N a).reverse).1.reverse, hN1, hbits, by rw [List.length_reverse, e4]; exact hl64, fun d hd => e3 d (List.mem_reverse.mp hd), congrArg (fun l => [D.list l, .int N]) (by unfold encN; rw [List.map_reverse]), rfl⟩, ?_⟩
    walk_at "lws"
    refine ⟨by first | exact Nat.le_of_ble_eq_true rfl | simp, ?_⟩
    exact hR0 _ _ (ret_is (by rw [e1, e2]))

theorem divm_body {G : GC} {mg mb : Str → Option Value} {n m1 : Nat} {name : Str} {cd : Value} (gr : Grd G mg mb) (hC1 : FnC G mg "_divmod_pos" m1 T_divP) (hm1 : m1 ≤ n) (a b : Nat) (hok : DivOk a b) : ∀ (K : Act), BodyK K G (fnAt pw iDivm).2.2 n name cd →
    LX K (fnAt pw iDivm).2.1 (RetIs (.tup [.int ((a : Int).fdiv b), .int ((a : Int).fmod b)])) ⟨[("a", .int a), ("b", .int b)], []⟩ := by
  with_reducible refine' withFn (P := fun f => ∀ K, BodyK K G f.2.2 n name cd → LX K f.2.1 _ _) ?hfn ?_
  case hfn => exact rfl
  intro K bk
  dsimp only at bk ⊢
  have hK := bk.kf
  have hst := bk.st
  obtain rfl := bk.G
  with_reducible refine LX_abs fun R0' hR0 => ?_
  have hb := hok.1
  walk_at "lws"
  refine go_f (by first | exact decide_eq_false (by (first | lia | omega)) | (simp; (first | lia | omega))) ?_
  walk_at "lws"
  refine ⟨_, ⟨a, b, hok, rfl, rfl⟩, ?_⟩
  exact hR0 _ _ (ret_is (by rw [fdiv_nat, fmod_nat]))
/-- below nought -/
theorem divmN_body {G : GC} {mg mb : Str → Option Value} {n m1 : Nat} {name : Str} {cd : Value} (gr : Grd G mg mb) (hC1 : FnC G mg "int_divmod" m1 T_divmP) (hm1 : m1 ≤ n) (a : Int) (ha : a < 0) (b : Nat) (hok : DivOk (-a - 1).toNat b) : ∀ (K : Act), BodyK K G (fnAt pw iDivm).2.2 n name cd →
    LX K (fnAt pw iDivm).2.1 (RetIs (.tup [.int (a.fdiv b), .int (a.fmod b)])) ⟨[("a", .int a), ("b", .int b)], []⟩ := by
  with_reducible refine' withFn (P := fun f => ∀ K, BodyK K G f.2.2 n name cd → LX K f.2.1 _ _) ?hfn ?_
  case hfn => exact rfl
  intro K bk
  dsimp only at bk ⊢
  have hK := bk.kf
  have hst := bk.st
  obtain rfl := bk.G
  with_reducible refine LX_abs fun R0' hR0 => ?_
  have hb := hok.1
  walk_at "lws"
  refine go_f (by first | exact decide_eq_false (by (first | lia | omega)) | (simp; (first | lia | omega))) ?_
  walk_at "lws"
  refine go_t (by first | exact decide_eq_true ha | simpa using ha) ?_
  walk_at "lws"
  refine ⟨_, ⟨(-a - 1).toNat, b, hok, by rw [Int.toNat_of_nonneg (by (first | lia | omega))]; rfl, rfl⟩, ?_⟩
  rw [Int.toNat_of_nonneg (show 0 ≤ -a - 1 by (first | lia | omega))]
  walk_at "lws"
  refine ⟨by first | exact Nat.le_of_ble_eq_true rfl | simp, ?_⟩
  have key := fdiv_bnot (a := a) (b := b) (by (first | lia | omega))
  exact hR0 _ _ (ret_is (by
    show D.tup [.int (-((-a - 1).fdiv b) - 1), .int (b + (-((-a - 1).fmod b) - 1))] = _
    rw [key.1, key.2]))

theorem price_body {G : GC} {mg mb : Str → Option Value} {n : Nat} {name : Str} {cd : Value} (gr : Grd G mg mb) (a b : Nat) : ∀ (K : Act), BodyK K G (fnAt pw iPrice).2.2 n name cd →
    LX K (fnAt pw iPrice).2.1 (RetIs (.int (price a b))) ⟨[("x", .str (tx [a])), ("y", .str (tx [b]))], []⟩ := by
  with_reducible refine' withFn (P := fun f => ∀ K, BodyK K G f.2.2 n name cd → LX K f.2.1 _ _) ?hfn ?_
  case hfn => exact rfl
  intro K bk
  dsimp only at bk ⊢
  have hK := bk.kf
  have hst := bk.st
  obtain rfl := bk.G
  with_reducible refine LX_abs fun R0' hR0 => ?_
  have hb : (tx [a] == tx [b]) = decide (a = b) := by rw [tx_beq]; by_cases h : a = b <;> simp [h]
  walk_at "lws"
  rw [hb]
  by_cases hab : a = b
  · refine go_t (by first | exact decide_eq_true hab | simpa using hab) ?_
    walk_at "lws"
    exact hR0 _ _ (ret_is (by unfold price; rw [if_pos hab]))
  · refine go_f (by first | exact decide_eq_false hab | simpa using hab) ?_
    walk_at "lws"
    refine ⟨_, bin_cat (by show 1 + 1 ≤ sizeLine; rw [sizeLine_eq]; decide), ?_⟩
    with_reducible refine LE_list ?_
    walk_at "lws"
    refine ⟨by first | exact Nat.le_of_ble_eq_true rfl | simp, ?_⟩
    have e1 : ([.str "aA", .str "Aa", .str "bB", .str "Bb"] : List D) = (pricePairs.map tx).map .str := by
      have : (["aA", "Aa", "bB", "Bb"] : List Str) = pricePairs.map tx := by decide +kernel
      show (["aA", "Aa", "bB", "Bb"] : List Str).map D.str = _
      rw [this]
    rw [e1]
    refine ⟨_, cmp_inStrs, ?_⟩
    have e2 : tx [a] ++ tx [b] = tx [a, b] := rfl
    have e3 : (pricePairs.map tx).any (· == tx [a, b]) = decide ([a, b] ∈ pricePairs) := by
      rw [List.any_map, Bool.eq_iff_iff, List.any_eq_true, decide_eq_true_iff]
      constructor
      · rintro ⟨x, hx, e⟩
        have := tx_inj (eq_of_beq e)
        rw [← this]; exact hx
      · intro h; exact ⟨_, h, by simp⟩
    rw [e2, e3]
    by_cases hp : [a, b] ∈ pricePairs
    · refine go_t (by first | exact decide_eq_true hp | simpa using hp) ?_
      walk_at "lws"
      exact hR0 _ _ (ret_is (by unfold price; rw [if_neg hab, if_pos hp]))
    · refine go_f (by first | exact decide_eq_false hp | simpa using hp) ?_
      walk_at "lws"
      exact hR0 _ _ (ret_is (by unfold price; rw [if_neg hab, if_neg hp]))

theorem letF_part : ∀ r : Fin 7, part letF (some (r.val : Int)) (some ((r.val : Int) + 1)) = (letF.drop r.val).take 1 := by decide +kernel
theorem letW_part (x : Int) : part letF (some (x.fmod 7)) (some (x.fmod 7 + 1)) = letW x := by
  have h0 := Int.fmod_nonneg_of_pos x (show (0 : Int) < 7 by decide)
  have h1 := Int.fmod_lt_of_pos x (show (0 : Int) < 7 by decide)
  have := letF_part ⟨(x.fmod 7).toNat, by (first | lia | omega)⟩
  simp only [Int.toNat_of_nonneg h0] at this
  exact this
theorem letW_len (x : Int) : (letW x).length ≤ 1 := by unfold letW; rw [List.length_take]; (first | lia | omega)
theorem word01_len : ∀ ns : List Int, (word01 ns).length ≤ ns.length
  | [] => Nat.le_refl _
  | x :: r => by
    have h1 := letW_len x
    have h2 := word01_len r
    unfold word01 at h2 ⊢
    rw [List.map_cons, List.flatten_cons, List.length_append, List.length_cons]; (first | lia | omega)
theorem word01_body {G : GC} {mg mb : Str → Option Value} {n : Nat} {name : Str} {cd : Value} (gr : Grd G mg mb) (ns : List Int) (hns : ns.length ≤ 3) : ∀ (K : Act), BodyK K G (fnAt pw iWord).2.2 n name cd →
    LX K (fnAt pw iWord).2.1 (RetIs (.str (tx (word01 ns)))) ⟨[("numbers", .list (ns.map .int))], []⟩ := by
  with_reducible refine' withFn (P := fun f => ∀ K, BodyK K G f.2.2 n name cd → LX K f.2.1 _ _) ?hfn ?_
  case hfn => exact rfl
  intro K bk
  dsimp only at bk ⊢
  have hK := bk.kf
  have hst := bk.st
  obtain rfl := bk.G
  with_reducible refine LX_abs fun R0' hR0 => ?_
  have hsz : 4000 ≤ sizeLine := by rw [sizeLine_eq]; (first | lia | omega)
  walk_at "lws"
  with_reducible refine' LE_meth PySem.F.plainAttrs_str PySem.F.slot_str_join PySem.F.type_str_join ?_ ?m1 ?m2 ?m3 ?m4
  walk_at "mt"
  walk_at "lws"
  refine ⟨ty_str, ?_⟩
  walk_at "lws"
  with_reducible refine LE_comp ["n"] hK ?x1 ?x2 ?_ ?x3
  case x1 => kernel_rfl!
  case x2 => kernel_rfl!
  case x3 => intro _; rfl
  with_reducible refine LI_list hK ?_
  walk_at "lws"
  with_reducible refine ⟨ns.map D.int, ?g1, ?_⟩
  case g1 => rfl
  with_reducible refine comp0 D.int decI ns (fun x => .str (tx (letW x))) (fun _ _ => rfl) ?c2 ?c3 ?c4 (fun K' ck x hx => ⟨_, tgt_name, fun own => ?_⟩) ?_
  case c2 => rfl
  case c3 => (first | lia | omega)
  case c4 => kernel_rfl!
  · have hK' := ck.kf
    have e1 : (Str.ofString "aAbB#") = tx letF := by decide +kernel
    walk_at "lws"
    refine ⟨_, bin_mod (by decide), ?_⟩
    walk_at "lws"
    refine ⟨_, bin_mod (by decide), ?_⟩
    walk_at "lws"
    rw [e1]
    refine ⟨_, sli_str (by show 5 ≤ sizeLine; (first | lia | omega)), ?_⟩
    rw [letW_part]
    exact ⟨rfl, rfl⟩
  · walk_at "lws"
    have := met_join (K := K) (σ := ⟨[("numbers", .list (ns.map .int))], []⟩) (ls := ns.map letW) (by have := word01_len ns; unfold word01 at this; (first | lia | omega))
    rw [List.map_map, List.map_map] at this
    refine ⟨_, _, this, ?_⟩
    exact hR0 _ _ (ret_is rfl)

theorem listed_body {G : GC} {mg mb : Str → Option Value} {n m1 : Nat} {name : Str} {cd : Value} (gr : Grd G mg mb) (hrange : mg "range" = none) (hlen : mg "len" = none) (hC1 : FnC G mg "_law_price" m1 T_price) (hm1 : m1 ≤ n) (a b : List Nat) (ha : LettersOk a) (hb : LettersOk b) : ∀ (K : Act), BodyK K G (fnAt pw iListed).2.2 n name cd →
    LX K (fnAt pw iListed).2.1 (RetIs (.dict (encK a.length b.length (listed a b)))) ⟨[("one", .str (tx a)), ("two", .str (tx b))], []⟩ := by
  with_reducible refine' withFn (P := fun f => ∀ K, BodyK K G f.2.2 n name cd → LX K f.2.1 _ _) ?hfn ?_
  case hfn => exact rfl
  intro K bk
  dsimp only at bk ⊢
  have hK := bk.kf
  have hst := bk.st
  obtain rfl := bk.G
  have ha3 := ha.1
  have hb3 := hb.1
  have hsz : 100000 ≤ sizeLine := by rw [sizeLine_eq]; (first | lia | omega)
  with_reducible refine LX_abs fun R0' hR0 => ?_
  -- many
  walk_at "lws"
  with_reducible refine LE_list ?_
  walk_at "lws"
  with_reducible refine LE_list ?_
  walk_at "lws"
  refine ⟨by first | exact Nat.le_of_ble_eq_true rfl | simp, ?_⟩
  walk_at "lws"
  with_reducible refine LE_list ?_
  walk_at "lws"
  refine ⟨by first | exact Nat.le_of_ble_eq_true rfl | simp, ?_⟩
  walk_at "lws"
  with_reducible refine LE_list ?_
  walk_at "lws"
  refine ⟨by first | exact Nat.le_of_ble_eq_true rfl | simp, ?_⟩
  walk_at "lws"
  with_reducible refine LE_list ?_
  walk_at "lws"
  refine ⟨by first | exact Nat.le_of_ble_eq_true rfl | simp, ?_⟩
  walk_at "lws"
  refine ⟨by first | exact Nat.le_of_ble_eq_true rfl | simp, ?_⟩
  have hmany : ([.list [.int 1, .int 1, .int 1, .int 1], .list [.int 1, .int 2, .int 3, .int 4], .list [.int 1, .int 3, .int 6, .int 10], .list [.int 1, .int 4, .int 10, .int 20]] : List D) = manyL.map fun r => .list (r.map .int) := rfl
  rw [hmany]
  -- the book
  refine LX_cons ?_
  with_reducible refine' LS_dc hK gr ?y1 ?y2 ?y3 ?y4 ?_ ?y5
  case y1 => walk_at "st"
  case y2 => rfl
  case y3 => kernel_rfl!
  case y4 => unfold swapsWith Env.blockKind Env.kindOf; rw [hK.scope]; rfl
  case y5 => intro _; rfl
  with_reducible refine LI_range hK ?_
  walk_at "lws"
  refine ⟨_, blt_lenT (by (first | lia | omega)), ?_⟩
  walk_at "lws"
  refine ⟨_, blt_range1, ?_⟩
  with_reducible refine ⟨0, (a.length : Int) + 1, ?b1, ?b2, ?b3⟩
  case b1 => rfl
  case b2 => (first | lia | omega)
  with_reducible refine ⟨?c1, fun B own' => ∃ bs : List Addr, bs.length = (a.length + 1) * (b.length + 1) ∧ own' = dcO a.length b.length bs B ((a.length + 1) * (b.length + 1)), fun K' ck B => ⟨fun pre σ' => ∃ bs : List Addr, bs.length = pre.length * (b.length + 1) ∧ σ'.own = dcO a.length b.length bs B (pre.length * (b.length + 1)) ∧ List.lookup ("two" : Str) σ'.vars = some (.str (tx b)), ?j0, fun pre d post σ₂ hsp hJ => ?_, fun σ₂ hJ => ?_⟩, fun A own' hP => ?_⟩
  case c1 => kernel_rfl!
  case j0 => exact ⟨[], by simp, by simp [dcO], by walk_at "lk"⟩
  · with_reducible refine el_1_3 (hJ) fun bs g1 g2 g3 => ?_
    try clear hJ
    have hK' := ck.kf
    have gr' := ck.grd gr
    have hst' := ck.st
    with_reducible refine el_0_2 (rints_mid hsp) fun oq212 hlt => ?_
    obtain rfl := oq212
    have hpl : pre.length ≤ a.length := by (first | lia | omega)
    with_reducible refine LA_name hK' (hst' _ (.inl ?z1)) ?_
    case z1 => kernel_rfl!
    refine LB_inner ?_ ?z2
    case z2 => intro _; rfl
    with_reducible refine LI_range hK' ?_
    walk_at "lws"
    refine ⟨_, blt_lenT (by (first | lia | omega)), ?_⟩
    walk_at "lws"
    refine ⟨_, blt_range1, ?_⟩
    with_reducible refine ⟨0, (b.length : Int) + 1, ?b4, ?b5, ?b6⟩
    case b4 => rfl
    case b5 => (first | lia | omega)
    refine ⟨fun pre2 σ' => ∃ bs : List Addr, bs.length = pre.length * (b.length + 1) + pre2.length ∧ σ'.own = dcO a.length b.length bs B (pre.length * (b.length + 1) + pre2.length) ∧ List.lookup ("two" : Str) σ'.vars = some (.str (tx b)) ∧ List.lookup ("i" : Str) σ'.vars = some (.int pre.length), ⟨bs, g1, g2, by walk_at "lk", by walk_at "lk"⟩, fun pre2 d2 post2 σ₃ hsp2 hJ2 => ?_, fun σ₃ hJ2 => ?_⟩
    · with_reducible refine el_1_4 (hJ2) fun bs2 q1 q2 q3 q4 => ?_
      try clear hJ2
      with_reducible refine el_0_2 (rints_mid hsp2) fun oq213 hlt2 => ?_
      obtain rfl := oq213
      with_reducible refine LA_name hK' (hst' _ (.inl ?z3)) ?_
      case z3 => kernel_rfl!
      refine LB_put ?_
      walk_at "lws"
      refine ⟨_, bin_mulS (by (first | lia | omega)) (by (first | lia | omega)), ?_⟩
      walk_at "lws"
      refine ⟨_, rfl, ?_⟩
      with_reducible refine LE_listOwn ?_
      walk_at "lws"
      refine ⟨by first | exact Nat.le_of_ble_eq_true rfl | simp, fun a' => ?_⟩
      have hkk := keys_get ha3 hb3 hpl (show pre2.length ≤ b.length by (first | lia | omega))
      have hown : (Sig.new (σ₃.set "j" (.int (pre2.length : Nat))) a' (.list [])).own = (a', OD.list []) :: dcO a.length b.length bs2 B (pre.length * (b.length + 1) + pre2.length) := congrArg (List.cons _) q2
      refine ⟨pre.length * (b.length + 1) + pre2.length + 1, _, by rw [hown]; exact dcO_get q1, ?_, bs2 ++ [a'], ?_, ?_, ?_, ?_⟩
      · rw [List.length_zip, List.length_map, q1]
        have h1 : pre.length * (b.length + 1) ≤ 3 * 4 := Nat.mul_le_mul (by (first | lia | omega)) (by (first | lia | omega))
        (first | lia | omega)
      · rw [List.length_append, List.length_append, q1]; simp; (first | lia | omega)
      · show List.set _ _ _ = _
        rw [hown]
        rw [show pre.length * (b.length + 1) + (pre2 ++ [D.int (pre2.length : Nat)]).length = pre.length * (b.length + 1) + pre2.length + 1 by simp; (first | lia | omega)]
        exact dcO_put ha3 hb3 q1 hkk
      · walk_at "lk"
      · walk_at "lk"
    · with_reducible refine el_1_4 (hJ2) fun bs2 q1 q2 q3 q4 => ?_
      try clear hJ2
      have e : (pre ++ [D.int (pre.length : Nat)]).length * (b.length + 1) = pre.length * (b.length + 1) + (rints 0 1 ((b.length : Int) + 1 - 0).toNat).length := by
        rw [rints_length, List.length_append, List.length_singleton, Nat.succ_mul]; (first | lia | omega)
      rw [← e] at q1 q2
      exact ⟨bs2, q1, q2, q3⟩
  · with_reducible refine el_1_3 (hJ) fun bs g1 g2 g3 => ?_
    try clear hJ
    have e : (rints 0 1 ((a.length : Int) + 1 - 0).toNat).length = a.length + 1 := by rw [rints_length]; (first | lia | omega)
    rw [e] at g1 g2
    exact ⟨bs, g1, g2⟩
  with_reducible refine el_1_2 (hP) fun bs hbs oq214 => ?_
  try clear hP
  obtain rfl := oq214
  with_reducible refine el_1_4 (rounds_end ha3 hb3) fun N hN4 hN0 hNr hNe => ?_
  show LX K _ _ (⟨_, _⟩ : Sig)
  refine LX_perm (own' := ownB a.length b.length bs A (List.replicate ((a.length + 1) * (b.length + 1)) [])) (by show (dcO a.length b.length bs A ((a.length + 1) * (b.length + 1)) ++ []).Perm _; rw [List.append_nil]; exact dcO_perm hbs) ?_
  refine LX.sub (σ' := ⟨[("one", .str (tx a)), ("two", .str (tx b)), ("many", .list (manyL.map fun r => .list (r.map .int))), ("book", rr A)], ownB a.length b.length bs A (List.replicate ((a.length + 1) * (b.length + 1)) [])⟩) ?_ (Sub.rf rfl (by kernel_rfl!))
  walk_at "lws"
  with_reducible refine LE_list ?_
  walk_at "lws"
  refine ⟨by first | exact Nat.le_of_ble_eq_true rfl | simp, ?_⟩
  walk_at "lws"
  refine ⟨by first | exact Nat.le_of_ble_eq_true rfl | simp, ?_⟩
  refine LX_whileN N (fun r => ⟨[("one", .str (tx a)), ("two", .str (tx b)), ("many", .list (manyL.map fun r => .list (r.map .int))), ("book", rr A), ("chains", .list ((rounds a b r).2.map encC))], ownB a.length b.length bs A (rounds a b r).1⟩) (Sub.rf rfl (by kernel_rfl!)) (fun r hr => ?_) ?_
  · have hRI := rounds_inv ha3 hb3 r (by (first | lia | omega))
    have h17 : 17 ^ r ≤ 83521 := Nat.le_trans (Nat.pow_le_pow_right (by decide) (show r ≤ 4 by (first | lia | omega))) (by decide)
    have hcl : (rounds a b r).2.length ≤ 83521 := Nat.le_trans hRI.cn h17
    walk_at "lws"
    refine ⟨_, tru_list (by rw [List.length_map]; (first | lia | omega)), ?_⟩
    by_cases hE : (rounds a b r).2 = []
    · have hrN : r = N := by
        by_cases q : r < N
        · exact absurd hE (hNr r q)
        · (first | lia | omega)
      refine go_f (by rw [hE]; rfl) ⟨hrN, ?_⟩
      rw [hrN]; exact Sub.refl _
    · have hrN : r < N := by
        by_cases q : r = N
        · rw [q] at hE; exact absurd hN0 hE
        · (first | lia | omega)
      refine go_t (by cases h : (rounds a b r).2 with
        | nil => exact absurd h hE
        | cons => rfl) ?_
      have hr3 : r ≤ 3 := by (first | lia | omega)
      have h17' : 17 ^ (r + 1) ≤ 83521 := Nat.le_trans (Nat.pow_le_pow_right (by decide) (show r + 1 ≤ 4 by (first | lia | omega))) (by decide)
      have hround : rounds a b (r + 1) = (rounds a b r).2.foldl (stepX a b) ((rounds a b r).1, []) := rfl
      generalize rounds a b r = R0 at hRI hcl hround ⊢
      clear hE
      walk_at "lws"
      with_reducible refine LE_listOwn ?_
      walk_at "lws"
      refine ⟨by first | exact Nat.le_of_ble_eq_true rfl | simp, fun L => ?_⟩
      with_reducible refine LX_forT encC ?_ ?hs1
      case hs1 => intro _; rfl
      with_reducible refine LI_list hK ?_
      walk_at "lws"
      with_reducible refine ⟨R0.2.map encC, ?g1, R0.2, fun t => ⟨[("one", .str (tx a)), ("two", .str (tx b)), ("many", .list (manyL.map fun r => .list (r.map .int))), ("book", rr A), ("longer", rr L)], ownL a.length b.length bs A L ((R0.2.take t).foldl (stepX a b) (R0.1, []))⟩, ?g2, ?g3, fun t x hx => ?_, ?_⟩
      case g1 => rfl
      case g2 => rfl
      case g3 => exact Sub.rf rfl (by kernel_rfl!)
      · have hxB := hRI.ch x (List.mem_of_getElem? hx)
        have hnx := take_foldl (stepX a b) (R0.1, []) R0.2 hx
        have hI := hRI.pre ha3 hb3 hr3 t
        with_reducible refine LA_abs (σ := ⟨_, _⟩) fun R1 hR1 => ?_
        generalize (R0.2.take t).foldl (stepX a b) (R0.1, []) = st0 at hnx hI ⊢
        have hxp := hxB.p1
        have hxq := hxB.q1
        unfold encC
        walk_at "lws"
        -- for i
        with_reducible refine LX_forS hK ?_ ?hs2
        case hs2 => intro _; rfl
        walk_at "lws"
        refine ⟨_, blt_lenT (by (first | lia | omega)), ?_⟩
        walk_at "lws"
        refine ⟨_, blt_range2, ?_⟩
        with_reducible refine ⟨x.p, a.length + 1, fun u => ⟨[("one", .str (tx a)), ("two", .str (tx b)), ("many", .list (manyL.map fun r => .list (r.map .int))), ("book", rr A), ("longer", rr L), ("p", .int x.p), ("q", .int x.q), ("ways", .int x.w), ("price", .int x.c), ("pairs", .int x.k), ("last", .int x.l)], ownL a.length b.length bs A L (((List.range' x.p (a.length + 1 - x.p)).take u).foldl (stepI a b x) st0)⟩, fun _ => True, ?e1, by (first | lia | omega), by (first | lia | omega), ?e2, trivial, fun u hu _ => ?_, fun _ => ?_⟩
        case e1 => rfl
        case e2 => exact Sub.rf rfl (by kernel_rfl!)
        · have hi3 : x.p + u ≤ a.length := by (first | lia | omega)
          have hux : (List.range' x.p (a.length + 1 - x.p))[u]? = some (x.p + u) := by rw [List.getElem?_range' (by (first | lia | omega))]; simp
          have hnx1 := take_foldl (stepI a b x) st0 _ hux
          have hI1 := fold_cnt (P := Inv a b r) (k := 4) (f := stepI a b x) ((List.range' x.p (a.length + 1 - x.p)).take u) _ st0 (fun c s i hi hs => inv_I hxB ha3 hb3 hr3 (mem_range' (List.mem_of_mem_take hi)).1 (by have := (mem_range' (List.mem_of_mem_take hi)).2; (first | lia | omega)) hs) hI
          have htl : ((List.range' x.p (a.length + 1 - x.p)).take u).length ≤ 4 := by rw [List.length_take, List.length_range']; (first | lia | omega)
          with_reducible refine LA_abs (σ := ⟨_, _⟩) fun R2 hR2 => ?_
          generalize ((List.range' x.p (a.length + 1 - x.p)).take u).foldl (stepI a b x) st0 = st1 at hnx1 hI1 ⊢
          generalize hi : x.p + u = i at hnx1 hi3 ⊢
          have hpi : x.p ≤ i := by (first | lia | omega)
          clear hux hu
          walk_at "lws"
          -- for j
          with_reducible refine LX_forS hK ?_ ?hs3
          case hs3 => intro _; rfl
          walk_at "lws"
          refine ⟨_, blt_lenT (by (first | lia | omega)), ?_⟩
          walk_at "lws"
          refine ⟨_, blt_range2, ?_⟩
          with_reducible refine ⟨x.q, b.length + 1, fun v => ⟨[("one", .str (tx a)), ("two", .str (tx b)), ("many", .list (manyL.map fun r => .list (r.map .int))), ("book", rr A), ("longer", rr L), ("p", .int x.p), ("q", .int x.q), ("ways", .int x.w), ("price", .int x.c), ("pairs", .int x.k), ("last", .int x.l), ("i", .int i)], ownL a.length b.length bs A L (((List.range' x.q (b.length + 1 - x.q)).take v).foldl (stepJ a b x i) st1)⟩, fun _ => True, ?f1, by (first | lia | omega), by (first | lia | omega), ?f2, trivial, fun v hv _ => ?_, fun _ => ?_⟩
          case f1 => rfl
          case f2 => exact Sub.rf rfl (by kernel_rfl!)
          · have hj3 : x.q + v ≤ b.length := by (first | lia | omega)
            have hvx : (List.range' x.q (b.length + 1 - x.q))[v]? = some (x.q + v) := by rw [List.getElem?_range' (by (first | lia | omega))]; simp
            have hnx2 := take_foldl (stepJ a b x i) st1 _ hvx
            have hI2 := fold_cnt (P := Inv a b r) (k := 1) (f := stepJ a b x i) ((List.range' x.q (b.length + 1 - x.q)).take v) _ st1 (fun c s j hj hs => inv_J hxB ha3 hb3 hr3 hpi (mem_range' (List.mem_of_mem_take hj)).1 hi3 (by have := (mem_range' (List.mem_of_mem_take hj)).2; (first | lia | omega)) hs) hI1
            have htl2 : ((List.range' x.q (b.length + 1 - x.q)).take v).length ≤ 4 := by rw [List.length_take, List.length_range']; (first | lia | omega)
            with_reducible refine LA_abs (σ := ⟨_, _⟩) fun R3 hR3 => ?_
            generalize ((List.range' x.q (b.length + 1 - x.q)).take v).foldl (stepJ a b x i) st1 = st2 at hnx2 hI2 ⊢
            generalize hj : x.q + v = j at hnx2 hj3 ⊢
            have hqj : x.q ≤ j := by (first | lia | omega)
            clear hvx hv
            have hI2' := hI2.mono (c' := 84000) (by (first | lia | omega))
            clear hI2 hI1 hI
            walk_at "lws"
            have hg : ((i : Int) - x.p + j - x.q) = (gapsC x i j : Int) := by unfold gapsC; (first | lia | omega)
            rw [hg]
            have hg6 : gapsC x i j ≤ 6 := by unfold gapsC; (first | lia | omega)
            refine ⟨.list ((manyL.getD (i - x.p) []).map .int), get_listN (i - x.p) (by (first | lia | omega)) (by (first | lia | omega)) (many_row (by (first | lia | omega))), ?_⟩
            walk_at "lws"
            refine ⟨.int (many (i - x.p) (j - x.q)), get_listN (j - x.q) (by (first | lia | omega)) (by (first | lia | omega)) (many_get (by (first | lia | omega)) (by (first | lia | omega))), ?_⟩
            have hw8 : x.w.natAbs ≤ 8000 := Nat.le_trans hxB.w (Nat.le_trans (Nat.pow_le_pow_right (by decide) hr3) (by decide))
            have hm20 := many_abs (i - x.p) (j - x.q)
            refine ⟨_, bin_mulS (by (first | lia | omega)) (by (first | lia | omega)), ?_⟩
            walk_at "lws"
            with_reducible refine' LE_meth PySem.F.plainAttrs_list PySem.F.slot_list_append PySem.F.type_list_append ?_ ?m1 ?m2 ?m3 ?m4
            walk_at "mt"
            walk_at "lws"
            refine ⟨_, bin_mulS (by (first | lia | omega)) (by (first | lia | omega)), ?_⟩
            walk_at "lws"
            have hlen2 := hI2'.len
            have hix : i * (b.length + 1) + j < (a.length + 1) * (b.length + 1) := ix_lt hi3 hj3
            have hix2 : i * (b.length + 1) + j < st2.1.length := by rw [hlen2]; exact hix
            have hbb : bs[i * (b.length + 1) + j]? = some (bs[i * (b.length + 1) + j]'(by rw [hbs]; exact hix)) := List.getElem?_eq_getElem _
            generalize bs[i * (b.length + 1) + j]'(by rw [hbs]; exact hix) = bb at hbb
            have hll : st2.1[i * (b.length + 1) + j]? = some (st2.1.getD (i * (b.length + 1) + j) []) := by rw [List.getD_eq_getElem?_getD, List.getElem?_eq_getElem hix2]; rfl
            have hlb : (st2.1.getD (i * (b.length + 1) + j) []).length ≤ 84000 := (hI2'.ls _ (List.mem_of_getElem? hll)).1
            refine ⟨rr bb, get_dict (.inr ⟨A, rfl, .tail _ ownB_dict⟩) (valD_zip (keys_nd ⟨a.length, by (first | lia | omega)⟩ ⟨b.length, by (first | lia | omega)⟩) (keys_get ha3 hb3 hi3 hj3) (by rw [List.getElem?_map, hbb]; rfl)), ?_⟩
            refine ⟨ty_own (.tail _ (List.mem_of_getElem? (ownB_get hbb hll))), ?_⟩
            walk_at "lws"
            refine ⟨_, bin_mulS (by (first | lia | omega)) (by (first | lia | omega)), ?_⟩
            walk_at "lws"
            refine join_ite (.int (if gapsC x i j = 0 then x.l else 2)) (fun hc Q' q => ?_) (fun hc Q' q => ?_) ?_
            · have hz : gapsC x i j ≠ 0 := by simpa using hc
              rw [if_neg hz] at q
              walk_at "lws"
              exact q
            · have hz : gapsC x i j = 0 := by simpa using hc
              rw [if_pos hz] at q
              walk_at "lws"
              exact q
            show LEs _ _ _ _
            walk_at "lws"
            refine ⟨by first | exact Nat.le_of_ble_eq_true rfl | simp, ?_⟩
            walk_at "lws"
            refine ⟨_, _, met_append (i := i * (b.length + 1) + j + 1) (by show (ownL a.length b.length bs A L st2)[i * (b.length + 1) + j + 1]? = _; rw [List.getElem?_cons_succ]; exact ownB_get hbb hll) (by rw [List.length_map]; (first | lia | omega)), ?_⟩
            refine ⟨rfl, ?_⟩
            have hs1 := own_step1 (m := a.length) (n := b.length) (A := A) (L := L) (e := enOf x i j) hbb hix2
            walk_at "lws"
            refine ⟨_, blt_lenT (by (first | lia | omega)), ?_⟩
            walk_at "lws"
            by_cases hia : i < a.length
            · refine go_t (by first | exact decide_eq_true hia | simpa using hia) ?_
              walk_at "lws"
              refine ⟨_, blt_lenT (by (first | lia | omega)), ?_⟩
              walk_at "lws"
              by_cases hjb : j < b.length
              · refine go_t (by first | exact decide_eq_true hjb | simpa using hjb) ?_
                walk_at "lws"
                have hga : a[i]? = some (a.getD i 0) := by rw [List.getD_eq_getElem?_getD, List.getElem?_eq_getElem hia]; rfl
                have hgb : b[j]? = some (b.getD j 0) := by rw [List.getD_eq_getElem?_getD, List.getElem?_eq_getElem hjb]; rfl
                refine ⟨_, get_strI i rfl (by (first | lia | omega)) hga, ?_⟩
                walk_at "lws"
                refine ⟨_, get_strI j rfl (by (first | lia | omega)) hgb, ?_⟩
                walk_at "lws"
                refine ⟨_, ⟨_, _, rfl, rfl⟩, ?_⟩
                walk_at "lws"
                with_reducible refine' LE_meth PySem.F.plainAttrs_list PySem.F.slot_list_append PySem.F.type_list_append ?_ ?m1 ?m2 ?m3 ?m4
                walk_at "mt"
                walk_at "lws"
                refine ⟨ty_own (l := st2.2.map encC) (.head _), ?_⟩
                walk_at "lws"
                refine ⟨_, bin_mulS (by (first | lia | omega)) (by (first | lia | omega)), ?_⟩
                walk_at "lws"
                refine ⟨by first | exact Nat.le_of_ble_eq_true rfl | simp, ?_⟩
                walk_at "lws"
                refine ⟨_, _, met_append (l := st2.2.map encC) (i := 0) rfl (by have := hI2'.cn; rw [List.length_map]; (first | lia | omega)), ?_⟩
                refine ⟨rfl, ?_⟩
                walk_at "lws"
                refine hR3 _ _ ⟨trivial, Sub.rf ?u1 (by kernel_rfl!)⟩
                case u1 =>
                  refine (congrArg (ownL a.length b.length bs A L) (hnx2.trans (stepJ_yes hia hjb))).trans ?_
                  rw [← own_step2, ← hs1]; rfl
              · refine go_f (by first | exact decide_eq_false hjb | simpa using hjb) ?_
                walk_at "lws"
                exact hR3 _ _ ⟨trivial, Sub.rf ((congrArg (ownL a.length b.length bs A L) (hnx2.trans (stepJ_no fun h => hjb h.2))).trans hs1.symm) (by kernel_rfl!)⟩
            · refine go_f (by first | exact decide_eq_false hia | simpa using hia) ?_
              walk_at "lws"
              exact hR3 _ _ ⟨trivial, Sub.rf ((congrArg (ownL a.length b.length bs A L) (hnx2.trans (stepJ_no fun h => hia h.1))).trans hs1.symm) (by kernel_rfl!)⟩
          · walk_at "lws"
            refine hR2 _ _ ⟨trivial, Sub.rf (congrArg (ownL a.length b.length bs A L) ?h1) (by kernel_rfl!)⟩
            case h1 => rw [hnx1, take_all]; rfl
        · walk_at "lws"
          refine hR1 _ _ (Sub.rf (congrArg (ownL a.length b.length bs A L) ?h2) (by kernel_rfl!))
          case h2 => rw [hnx, take_all]; rfl
      · refine LX_cons ?_
        with_reducible refine' LS_assign hK ?v1 ?_ ?v2
        case v1 => walk_at "st"
        case v2 => exact rfl
        walk_at "lw"
        refine LX_freeze "chains" (a := L) (od := .list (((R0.2.take R0.2.length).foldl (stepX a b) (R0.1, [])).2.map encC)) (i := 0) ?v3 rfl ?_
        case v3 => walk_at "lk"
        walk_at "lws"
        refine ⟨hrN, Sub.of ?v4 ⟨rfl, rfl, rfl, rfl, ?v5, trivial⟩⟩
        case v4 =>
          show ownB a.length b.length bs A (rounds a b (r + 1)).1 = ownB a.length b.length bs A ((R0.2.take R0.2.length).foldl (stepX a b) (R0.1, [])).1
          rw [hround, List.take_length]
        case v5 =>
          refine Eq.trans (b := some (D.list (((R0.2.take R0.2.length).foldl (stepX a b) (R0.1, [])).2.map encC))) rfl ?_
          rw [List.take_length, hround]
  · walk_at "lws"
    have hfl := (rounds_inv ha3 hb3 N hN4).len
    refine hR0 _ _ ?_
    show Res (ownB a.length b.length bs A (rounds a b N).1) _ _
    rw [hNe] at hfl ⊢
    exact ownB_res hbs hfl

theorem due_len (w : Nat) (l : List En) : (l.foldl (dueIn w) []).length ≤ l.length := by
  have := fold_len (f := dueIn w) (c := 1) (fun a p => stI_length ..) l []
  simpa using this
theorem due_body {G : GC} {mg mb : Str → Option Value} {n : Nat} {name : Str} {cd : Value} (gr : Grd G mg mb) (hsum : mg "sum" = none) (told : List En) (size w : Nat) (htl : told.length ≤ 100000) (hok : ∀ e ∈ told, EnOk e) (hsize : size ≤ 10) (hw : w ≤ 20) : ∀ (K : Act), BodyK K G (fnAt pw iDue).2.2 n name cd →
    LX K (fnAt pw iDue).2.1 (RetIs (encF (due told size w))) ⟨[("told", .list (told.map encE)), ("size", .int size), ("width", .int w)], []⟩ := by
  with_reducible refine' withFn (P := fun f => ∀ K, BodyK K G f.2.2 n name cd → LX K f.2.1 _ _) ?hfn ?_
  case hfn => exact rfl
  intro K bk
  dsimp only at bk ⊢
  have hK := bk.kf
  have hst := bk.st
  obtain rfl := bk.G
  have hsz : 200000 ≤ sizeLine := by rw [sizeLine_eq]; (first | lia | omega)
  with_reducible refine LX_abs fun R0' hR0 => ?_
  walk_at "lws"
  with_reducible refine LE_dict0Own gr fun A => ?_
  walk_at "lws"
  with_reducible refine LX_forT encE ?_ ?hs
  case hs => intro _; rfl
  with_reducible refine LI_list hK ?_
  walk_at "lws"
  with_reducible refine ⟨told.map encE, ?g1, told, fun t => ⟨[("told", .list (told.map encE)), ("size", .int size), ("width", .int w), ("callers", rr A)], [(A, .dict (encI ((told.take t).foldl (dueIn w) [])))]⟩, ?g2, ?g3, fun t e he => ?_, ?_⟩
  case g1 => rfl
  case g2 => rfl
  case g3 => exact Sub.rf rfl (by kernel_rfl!)
  · refine el_0_4 (hok e (List.mem_of_getElem? he)) fun e1 e2 e3 e4 => ?_
    have hnx := take_foldl (dueIn w) [] told he
    have hb := due_len w (told.take t)
    have htt : (told.take t).length ≤ 100000 := by rw [List.length_take]; (first | lia | omega)
    with_reducible refine LA_abs (σ := ⟨_, _⟩) fun R1c hR1c => ?_
    generalize (told.take t).foldl (dueIn w) [] = c0 at hnx hb ⊢
    unfold encE
    walk_at "lws"
    with_reducible refine' LE_meth PySem.F.plainAttrs_dict PySem.F.slot_dict_get PySem.F.type_dict_get ?_ ?m1 ?m2 ?m3 ?m4
    walk_at "mt"
    walk_at "lws"
    refine ⟨ty_ownD (.head _), ?_⟩
    walk_at "lws"
    refine ⟨_, _, met_getO (.head _), ?_⟩
    walk_at "lws"
    refine ⟨_, bin_mulS (by (first | lia | omega)) (by (first | lia | omega)), ?_⟩
    refine ⟨_, shl_ok (n := 0) e1 e2 hw (Nat.lt_of_lt_of_le e3 (Nat.pow_le_pow_right (by decide) (by decide))), ?_⟩
    walk_at "lws"
    refine ⟨_, set_dict (j := 0) rfl (by rw [encI_length]; (first | lia | omega)), ?_⟩
    walk_at "lws"
    exact hR1c _ _ (Sub.rf (congrArg (fun l => [(A, OD.dict l)]) (by rw [hnx, encI_st]; rfl)) (by kernel_rfl!))
  · refine LX_freeze "callers" (a := A) (od := .dict (encI ((told.take told.length).foldl (dueIn w) []))) (i := 0) ?v3 rfl ?_
    case v3 => walk_at "lk"
    have hcs : (told.take told.length).foldl (dueIn w) [] = told.foldl (dueIn w) [] := by rw [List.take_length]
    rw [hcs]
    refine LX.sub (σ' := ⟨[("told", .list (told.map encE)), ("size", .int size), ("width", .int w), ("callers", .dict (encI (told.foldl (dueIn w) [])))], []⟩) ?_ (Sub.rf rfl (by kernel_rfl!))
    walk_at "lws"
    with_reducible refine LE_comp ["n", "price", "pairs", "last"] hK ?xa0 ?xb0 ?_ ?xc0
    case xa0 => kernel_rfl!
    case xb0 => kernel_rfl!
    case xc0 => intro _; rfl
    with_reducible refine LI_list hK ?_
    walk_at "lws"
    with_reducible refine ⟨told.map encE, ?ga0, ?_⟩
    case ga0 => rfl
    with_reducible refine comp0 encE decE told (fun e => .int (e.w)) (fun e _ => decE_enc e) ?ca0 ?cb0 ?cc0 (fun K' ck e he => ⟨[.int e.w, .int e.c, .int e.k, .int e.l], ?cd0, fun own => ?_⟩) ?_
    case ca0 => rfl
    case cb0 => (first | lia | omega)
    case cc0 => kernel_rfl!
    case cd0 => exact tgt_tup (ns := [(_, _), (_, _), (_, _), (_, _)]) rfl rfl
    · have hK' := ck.kf
      refine el_0_4 (hok e he) fun e1 e2 e3 e4 => ?_
      walk_at "lws"
      exact ⟨rfl, rfl⟩
    walk_at "lws"
    refine ⟨_, blt_sumI hK (told.map fun e => e.w) (by rw [List.map_map]; rfl), ?_⟩
    walk_at "lws"
    with_reducible refine LE_comp ["n", "price", "pairs", "last"] hK ?xa1 ?xb1 ?_ ?xc1
    case xa1 => kernel_rfl!
    case xb1 => kernel_rfl!
    case xc1 => intro _; rfl
    with_reducible refine LI_list hK ?_
    walk_at "lws"
    with_reducible refine ⟨told.map encE, ?ga1, ?_⟩
    case ga1 => rfl
    with_reducible refine comp0 encE decE told (fun e => .int (e.w * ((size : Int) - e.k))) (fun e _ => decE_enc e) ?ca1 ?cb1 ?cc1 (fun K' ck e he => ⟨[.int e.w, .int e.c, .int e.k, .int e.l], ?cd1, fun own => ?_⟩) ?_
    case ca1 => rfl
    case cb1 => (first | lia | omega)
    case cc1 => kernel_rfl!
    case cd1 => exact tgt_tup (ns := [(_, _), (_, _), (_, _), (_, _)]) rfl rfl
    · have hK' := ck.kf
      refine el_0_4 (hok e he) fun e1 e2 e3 e4 => ?_
      walk_at "lws"
      refine ⟨_, bin_mulS (by (first | lia | omega)) (by (first | lia | omega)), ?_⟩
      exact ⟨rfl, rfl⟩
    walk_at "lws"
    refine ⟨_, blt_sumI hK (told.map fun e => e.w * ((size : Int) - e.k)) (by rw [List.map_map]; rfl), ?_⟩
    walk_at "lws"
    with_reducible refine LE_comp ["n", "price", "pairs", "last"] hK ?xa2 ?xb2 ?_ ?xc2
    case xa2 => kernel_rfl!
    case xb2 => kernel_rfl!
    case xc2 => intro _; rfl
    with_reducible refine LI_list hK ?_
    walk_at "lws"
    with_reducible refine ⟨told.map encE, ?ga2, ?_⟩
    case ga2 => rfl
    with_reducible refine comp0 encE decE told (fun e => .int (e.w * e.c)) (fun e _ => decE_enc e) ?ca2 ?cb2 ?cc2 (fun K' ck e he => ⟨[.int e.w, .int e.c, .int e.k, .int e.l], ?cd2, fun own => ?_⟩) ?_
    case ca2 => rfl
    case cb2 => (first | lia | omega)
    case cc2 => kernel_rfl!
    case cd2 => exact tgt_tup (ns := [(_, _), (_, _), (_, _), (_, _)]) rfl rfl
    · have hK' := ck.kf
      refine el_0_4 (hok e he) fun e1 e2 e3 e4 => ?_
      walk_at "lws"
      refine ⟨_, bin_mulS (by (first | lia | omega)) (by (first | lia | omega)), ?_⟩
      exact ⟨rfl, rfl⟩
    walk_at "lws"
    refine ⟨_, blt_sumI hK (told.map fun e => e.w * e.c) (by rw [List.map_map]; rfl), ?_⟩
    walk_at "lws"
    with_reducible refine LE_comp ["n", "price", "pairs", "last"] hK ?xa3 ?xb3 ?_ ?xc3
    case xa3 => kernel_rfl!
    case xb3 => kernel_rfl!
    case xc3 => intro _; rfl
    with_reducible refine LI_list hK ?_
    walk_at "lws"
    with_reducible refine ⟨told.map encE, ?ga3, ?_⟩
    case ga3 => rfl
    with_reducible refine comp0 encE decE told (fun e => .int (e.w * e.k)) (fun e _ => decE_enc e) ?ca3 ?cb3 ?cc3 (fun K' ck e he => ⟨[.int e.w, .int e.c, .int e.k, .int e.l], ?cd3, fun own => ?_⟩) ?_
    case ca3 => rfl
    case cb3 => (first | lia | omega)
    case cc3 => kernel_rfl!
    case cd3 => exact tgt_tup (ns := [(_, _), (_, _), (_, _), (_, _)]) rfl rfl
    · have hK' := ck.kf
      refine el_0_4 (hok e he) fun e1 e2 e3 e4 => ?_
      walk_at "lws"
      refine ⟨_, bin_mulS (by (first | lia | omega)) (by (first | lia | omega)), ?_⟩
      exact ⟨rfl, rfl⟩
    walk_at "lws"
    refine ⟨_, blt_sumI hK (told.map fun e => e.w * e.k) (by rw [List.map_map]; rfl), ?_⟩
    walk_at "lws"
    refine ⟨by first | exact Nat.le_of_ble_eq_true rfl | simp, ?_⟩
    refine hR0 _ _ ?_
    exact ret_is rfl

theorem walked_body {G : GC} {mg mb : Str → Option Value} {n m1 m2 m3 : Nat} {name : Str} {cd : Value} (gr : Grd G mg mb) (hrange : mg "range" = none) (hlen : mg "len" = none) (hC1 : FnC G mg "count_calls" m1 T_count) (hm1 : m1 ≤ n) (hC2 : FnC G mg "_substitution_cost" m2 T_subst) (hm2 : m2 ≤ n) (hC3 : FnC G mg "add_func_stats" m3 T_addF) (hm3 : m3 ≤ n) (a b : List Nat) (w : Nat) (ha : LettersOk a) (hb : LettersOk b) (hw : w ≤ 20) (hok : WkOk a b w) (hln : WkLen a b w) : ∀ (K : Act), BodyK K G (fnAt pw iWalked).2.2 n name cd →
    LX K (fnAt pw iWalked).2.1 (RetIs (.dict (encB (walked a b w)))) ⟨[("one", .str (tx a)), ("two", .str (tx b)), ("width", .int w)], []⟩ := by
  with_reducible refine' withFn (P := fun f => ∀ K, BodyK K G f.2.2 n name cd → LX K f.2.1 _ _) ?hfn ?_
  case hfn => exact rfl
  intro K bk
  dsimp only at bk ⊢
  have hK := bk.kf
  have hst := bk.st
  obtain rfl := bk.G
  have ha3 := ha.1
  have hb3 := hb.1
  have hsz : 100000 ≤ sizeLine := by rw [sizeLine_eq]; (first | lia | omega)
  with_reducible refine LX_abs fun R0' hR0 => ?_
  walk_at "lws"
  with_reducible refine LE_dict1Own gr fun A => ?_
  walk_at "lws"
  refine ⟨_, rfl, ?_⟩
  walk_at "lws"
  with_reducible refine LE_dict1 gr fun A' => ?_
  walk_at "lws"
  refine ⟨_, rfl, ?_⟩
  walk_at "lws"
  refine ⟨_, rfl, ?_⟩
  walk_at "lws"
  refine ⟨by first | exact Nat.le_of_ble_eq_true rfl | simp, ?_⟩
  refine ⟨0, rfl, ?_⟩
  walk_at "lws"
  with_reducible refine LX_forR hK ?_ ?hs1
  case hs1 => intro _; rfl
  walk_at "lws"
  refine ⟨_, blt_lenT (by (first | lia | omega)), ?_⟩
  walk_at "lws"
  refine ⟨_, blt_range1, ?_⟩
  with_reducible refine ⟨a.length + 1, fun i => ⟨[("one", .str (tx a)), ("two", .str (tx b)), ("width", .int w), ("book", rr A)], [(A, .dict (encB ((List.range i).foldl (wkRow a b w) [(0, ⟨1, 0, 0, 0, [(0, 1)]⟩)])))]⟩, fun _ => True, ?e1, by (first | lia | omega), ?e2, trivial, fun i hi _ => ?_, fun _ => ?_⟩
  case e1 => rfl
  case e2 => exact Sub.rf rfl (by kernel_rfl!)
  · have hrow : (List.range (i + 1)).foldl (wkRow a b w) [(0, ⟨1, 0, 0, 0, [(0, 1)]⟩)] = wkRow a b w ((List.range i).foldl (wkRow a b w) [(0, ⟨1, 0, 0, 0, [(0, 1)]⟩)]) i := by rw [List.range_succ, List.foldl_append]; rfl
    have hok' := fun j => hok i j (by (first | lia | omega))
    have hln' := fun j => hln i j (by (first | lia | omega))
    with_reducible refine LA_abs (σ := ⟨_, _⟩) fun R1c hR1c => ?_
    generalize (List.range i).foldl (wkRow a b w) [(0, ⟨1, 0, 0, 0, [(0, 1)]⟩)] = R0 at hrow hok' hln' ⊢
    walk_at "lws"
    with_reducible refine LX_forR hK ?_ ?hs2
    case hs2 => intro _; rfl
    walk_at "lws"
    refine ⟨_, blt_lenT (by (first | lia | omega)), ?_⟩
    walk_at "lws"
    refine ⟨_, blt_range1, ?_⟩
    with_reducible refine ⟨b.length + 1, fun j => ⟨[("one", .str (tx a)), ("two", .str (tx b)), ("width", .int w), ("book", rr A), ("i", .int i)], [(A, .dict (encB ((List.range j).foldl (wkNode a b w i) R0)))]⟩, fun _ => True, ?f1, by (first | lia | omega), ?f2, trivial, fun j hj _ => ?_, fun _ => ?_⟩
    case f1 => rfl
    case f2 => exact Sub.rf rfl (by kernel_rfl!)
    · have hnode : (List.range (j + 1)).foldl (wkNode a b w i) R0 = wkNode a b w i ((List.range j).foldl (wkNode a b w i) R0) j := by rw [List.range_succ, List.foldl_append]; rfl
      refine el_0_2 (hok' j (by (first | lia | omega))) fun oq215 hmv => ?_
      obtain ⟨e, he, hc1, hc2, hc3⟩ := oq215
      have hml := hln' j (by (first | lia | omega))
      with_reducible refine LA_abs (σ := ⟨_, _⟩) fun R2c hR2c => ?_
      generalize (List.range j).foldl (wkNode a b w i) R0 = R1 at hnode he hmv hml ⊢
      rw [he] at hmv hml
      have hnode' : wkNode a b w i R1 j = (mvs a b i j).foldl (wkMove w i j e) R1 := by unfold wkNode; rw [he]; rfl
      walk_at "lws"
      refine ⟨_, bin_mulS (by (first | lia | omega)) (by (first | lia | omega)), ?_⟩
      walk_at "lws"
      refine ⟨encF e, get_dict (.inr ⟨A, rfl, .head _⟩) (by rw [encB_get, he]; rfl), ?_⟩
      unfold encF
      walk_at "lws"
      refine ⟨_, ⟨e.cs, rfl, rfl⟩, ?_⟩
      walk_at "lws"
      with_reducible refine LE_listOwn ?_
      walk_at "lws"
      refine ⟨by first | exact Nat.le_of_ble_eq_true rfl | simp, fun M => ?_⟩
      have hl12 : ((if i < a.length then [(4, 2, 0)] else []) ++ (if j < b.length then [(1, 2, 0)] else []) : List (Int × Int × Int)).length ≤ 2 := by split <;> split <;> simp
      have hl1 : (if i < a.length then [(4, 2, 0)] else [] : List (Int × Int × Int)).length ≤ 2 := by split <;> simp
      refine LX_mid ⟨[("one", .str (tx a)), ("two", .str (tx b)), ("width", .int w), ("book", rr A), ("i", .int i), ("j", .int j), ("ways", .int e.cc), ("steps", .int e.nc), ("costs", .int e.tt), ("exchanges", .int e.ct), ("callers", .dict (encI e.cs)), ("here", .int (sumV e.cs)), ("moves", rr M)], [(M, .list ((if i < a.length then [(4, 2, 0)] else [] : List (Int × Int × Int)).map encM)), (A, .dict (encB R1))]⟩ ?_ ?_
      · walk_at "lws"
        refine ⟨_, blt_lenT (by (first | lia | omega)), ?_⟩
        walk_at "lws"
        by_cases h : i < a.length
        · refine go_t (by first | exact decide_eq_true h | simpa using h) ?_
          walk_at "lws"
          with_reducible refine' LE_meth PySem.F.plainAttrs_list PySem.F.slot_list_append PySem.F.type_list_append ?_ ?m1 ?m2 ?m3 ?m4
          walk_at "mt"
          walk_at "lws"
          refine ⟨ty_own (.head _), ?_⟩
          walk_at "lws"
          refine ⟨by first | exact Nat.le_of_ble_eq_true rfl | simp, ?_⟩
          walk_at "lws"
          refine ⟨_, _, met_append (i := 0) rfl (by simp), ?_⟩
          refine ⟨rfl, ?_⟩
          walk_at "lws"
          exact ⟨rfl, Sub.rf (by rw [if_pos h]; rfl) (by kernel_rfl!)⟩
        · refine go_f (by first | exact decide_eq_false h | simpa using h) ?_
          walk_at "lws"
          exact ⟨rfl, Sub.rf (by rw [if_neg h]; rfl) (by kernel_rfl!)⟩
      refine LX_mid ⟨[("one", .str (tx a)), ("two", .str (tx b)), ("width", .int w), ("book", rr A), ("i", .int i), ("j", .int j), ("ways", .int e.cc), ("steps", .int e.nc), ("costs", .int e.tt), ("exchanges", .int e.ct), ("callers", .dict (encI e.cs)), ("here", .int (sumV e.cs)), ("moves", rr M)], [(M, .list (((if i < a.length then [(4, 2, 0)] else []) ++ (if j < b.length then [(1, 2, 0)] else []) : List (Int × Int × Int)).map encM)), (A, .dict (encB R1))]⟩ ?_ ?_
      · walk_at "lws"
        refine ⟨_, blt_lenT (by (first | lia | omega)), ?_⟩
        walk_at "lws"
        by_cases h : j < b.length
        · refine go_t (by first | exact decide_eq_true h | simpa using h) ?_
          walk_at "lws"
          with_reducible refine' LE_meth PySem.F.plainAttrs_list PySem.F.slot_list_append PySem.F.type_list_append ?_ ?m1 ?m2 ?m3 ?m4
          walk_at "mt"
          walk_at "lws"
          refine ⟨ty_own (.head _), ?_⟩
          walk_at "lws"
          refine ⟨by first | exact Nat.le_of_ble_eq_true rfl | simp, ?_⟩
          walk_at "lws"
          refine ⟨_, _, met_append (i := 0) rfl (by rw [List.length_map]; (first | lia | omega)), ?_⟩
          refine ⟨rfl, ?_⟩
          walk_at "lws"
          exact ⟨rfl, Sub.rf (by rw [if_pos h, List.map_append]; rfl) (by kernel_rfl!)⟩
        · refine go_f (by first | exact decide_eq_false h | simpa using h) ?_
          walk_at "lws"
          exact ⟨rfl, Sub.rf (by rw [if_neg h, List.append_nil]) (by kernel_rfl!)⟩
      refine LX_mid ⟨[("one", .str (tx a)), ("two", .str (tx b)), ("width", .int w), ("book", rr A), ("i", .int i), ("j", .int j), ("ways", .int e.cc), ("steps", .int e.nc), ("costs", .int e.tt), ("exchanges", .int e.ct), ("callers", .dict (encI e.cs)), ("here", .int (sumV e.cs)), ("moves", rr M)], [(M, .list ((mvs a b i j).map encM)), (A, .dict (encB R1))]⟩ ?_ ?_
      · walk_at "lws"
        refine ⟨_, blt_len_own (.head _) (by rw [List.length_map]; (first | lia | omega)), ?_⟩
        rw [List.length_map]
        walk_at "lws"
        by_cases h : i < a.length ∧ j < b.length
        · have hlen2 : ((if i < a.length then [(4, 2, 0)] else []) ++ (if j < b.length then [(1, 2, 0)] else []) : List (Int × Int × Int)).length = 2 := by rw [if_pos h.1, if_pos h.2]; rfl
          have hv3 : mvs a b i j = ((if i < a.length then [(4, 2, 0)] else []) ++ (if j < b.length then [(1, 2, 0)] else [])) ++ [(5, subst (a.getD i 0) (b.getD j 0), 1)] := by unfold mvs; rw [if_pos h]
          refine go_t (by rw [hlen2]; rfl) ?_
          walk_at "lws"
          with_reducible refine' LE_meth PySem.F.plainAttrs_list PySem.F.slot_list_append PySem.F.type_list_append ?_ ?m1 ?m2 ?m3 ?m4
          walk_at "mt"
          walk_at "lws"
          refine ⟨ty_own (.head _), ?_⟩
          walk_at "lws"
          have hga : a[i]? = some (a.getD i 0) := by rw [List.getD_eq_getElem?_getD, List.getElem?_eq_getElem h.1]; rfl
          have hgb : b[j]? = some (b.getD j 0) := by rw [List.getD_eq_getElem?_getD, List.getElem?_eq_getElem h.2]; rfl
          refine ⟨_, get_strI i rfl (by (first | lia | omega)) hga, ?_⟩
          walk_at "lws"
          refine ⟨_, get_strI j rfl (by (first | lia | omega)) hgb, ?_⟩
          walk_at "lws"
          refine ⟨_, ⟨_, _, rfl, rfl⟩, ?_⟩
          walk_at "lws"
          refine ⟨by first | exact Nat.le_of_ble_eq_true rfl | simp, ?_⟩
          walk_at "lws"
          refine ⟨_, _, met_append (i := 0) rfl (by rw [List.length_map]; have := hl12; (first | lia | omega)), ?_⟩
          refine ⟨rfl, ?_⟩
          walk_at "lws"
          exact ⟨rfl, Sub.rf (by rw [hv3, List.map_append]; rfl) (by kernel_rfl!)⟩
        · have hle : ((if i < a.length then [(4, 2, 0)] else []) ++ (if j < b.length then [(1, 2, 0)] else []) : List (Int × Int × Int)).length ≤ 1 := by
            by_cases h1 : i < a.length
            · rw [if_pos h1, if_neg (fun q => h ⟨h1, q⟩)]; simp
            · rw [if_neg h1]; split <;> simp
          have hv3 : mvs a b i j = (if i < a.length then [(4, 2, 0)] else []) ++ (if j < b.length then [(1, 2, 0)] else []) := by unfold mvs; rw [if_neg h, List.append_nil]
          refine go_f (decide_eq_false (by (first | lia | omega))) ?_
          walk_at "lws"
          exact ⟨rfl, Sub.rf (by rw [hv3]) (by kernel_rfl!)⟩
      refine LX_freeze "moves" (a := M) (od := .list ((mvs a b i j).map encM)) (i := 0) ?v3 rfl ?_
      case v3 => walk_at "lk"
      refine LX.sub (σ' := ⟨[("one", .str (tx a)), ("two", .str (tx b)), ("width", .int w), ("book", rr A), ("i", .int i), ("j", .int j), ("ways", .int e.cc), ("steps", .int e.nc), ("costs", .int e.tt), ("exchanges", .int e.ct), ("here", .int (sumV e.cs)), ("moves", .list ((mvs a b i j).map encM))], [(A, .dict (encB R1))]⟩) ?_ (Sub.rf rfl (by kernel_rfl!))
      with_reducible refine LX_forT encM ?_ ?hs3
      case hs3 => intro _; rfl
      with_reducible refine LI_list hK ?_
      walk_at "lws"
      with_reducible refine ⟨(mvs a b i j).map encM, ?g1, mvs a b i j, fun k => ⟨[("one", .str (tx a)), ("two", .str (tx b)), ("width", .int w), ("book", rr A), ("i", .int i), ("j", .int j), ("ways", .int e.cc), ("steps", .int e.nc), ("costs", .int e.tt), ("exchanges", .int e.ct), ("here", .int (sumV e.cs))], [(A, .dict (encB (((mvs a b i j).take k).foldl (wkMove w i j e) R1)))]⟩, ?g2, ?g3, fun k t ht => ?_, ?_⟩
      case g1 => rfl
      case g2 => rfl
      case g3 => exact Sub.rf rfl (by kernel_rfl!)
      · have hkl : k ≤ (mvs a b i j).length := Nat.le_of_lt (List.getElem?_eq_some_iff.mp ht).1
        with_reducible refine el_0_4 (mvs_ok t (List.mem_of_getElem? ht)) fun t1 t2 t3 t4 => ?_
        have hnx := take_foldl (wkMove w i j e) R1 _ ht
        have hcsl := hmv k hkl
        have hbl := hml k hkl
        with_reducible refine LA_abs (σ := ⟨_, _⟩) fun R3c hR3c => ?_
        change ∀ p ∈ ((mvs a b i j).take k).foldl (wkMove w i j e) R1, _ at hcsl
        change (((mvs a b i j).take k).foldl (wkMove w i j e) R1).length ≤ 1000 at hbl
        generalize ((mvs a b i j).take k).foldl (wkMove w i j e) R1 = b0 at hnx hcsl hbl ⊢
        unfold encM
        walk_at "lws"
        refine ⟨_, bin_mulS (by (first | lia | omega)) (by (first | lia | omega)), ?_⟩
        walk_at "lws"
        with_reducible refine' LE_meth PySem.F.plainAttrs_dict PySem.F.slot_dict_get PySem.F.type_dict_get ?_ ?m1 ?m2 ?m3 ?m4
        walk_at "mt"
        walk_at "lws"
        refine ⟨ty_ownD (.head _), ?_⟩
        walk_at "lws"
        with_reducible refine LE_dict0 gr ?_
        walk_at "lws"
        refine ⟨by first | exact Nat.le_of_ble_eq_true rfl | simp, ?_⟩
        walk_at "lws"
        refine ⟨_, _, met_getE (.head _), ?_⟩
        walk_at "lws"
        refine ⟨_, bin_mulS (by (first | lia | omega)) (by (first | lia | omega)), ?_⟩
        walk_at "lws"
        refine ⟨_, bin_mulS (by (first | lia | omega)) (by (first | lia | omega)), ?_⟩
        walk_at "lws"
        with_reducible refine LE_dict1 gr fun A2 => ?_
        walk_at "lws"
        refine ⟨_, rfl, ?_⟩
        walk_at "lws"
        refine ⟨_, bin_mulS (by (first | lia | omega)) (by (first | lia | omega)), ?_⟩
        refine ⟨_, shl_ok (n := 0) t1 (by (first | lia | omega)) hw hc3, ?_⟩
        refine ⟨_, rfl, ?_⟩
        walk_at "lws"
        refine ⟨by first | exact Nat.le_of_ble_eq_true rfl | simp, ?_⟩
        walk_at "lws"
        have hold : ((gets b0 (4 * (i : Int) + j + t.1)).getD ent0).cs.length ≤ 1000 := by
          cases hg : gets b0 (4 * (i : Int) + j + t.1) with
          | none => exact Nat.zero_le _
          | some v =>
            with_reducible refine el_1_2 (gets_mem hg) fun p hp oq216 => ?_
            obtain rfl := oq216
            have := hcsl p hp
            show p.2.cs.length ≤ 1000
            (first | lia | omega)
        refine ⟨_, ⟨(gets b0 (4 * (i : Int) + j + t.1)).getD ent0, ⟨e.cc, e.nc + e.cc, e.tt + t.2.1 * e.cc, e.ct + t.2.2 * e.cc, [(t.2.1, sumV e.cs * 2 ^ (w * t.2.1.toNat))]⟩, hold, by simp, rfl, rfl⟩, ?_⟩
        walk_at "lws"
        refine ⟨_, set_dict (j := 0) rfl (by rw [encB_length]; (first | lia | omega)), ?_⟩
        walk_at "lws"
        exact hR3c _ _ (Sub.rf (congrArg (fun l => [(A, OD.dict l)]) (by rw [hnx, encB_st]; rfl)) (by kernel_rfl!))
      · walk_at "lws"
        refine hR2c _ _ ⟨trivial, Sub.rf (congrArg (fun l => [(A, OD.dict (encB l))]) ?u1) (by kernel_rfl!)⟩
        case u1 => rw [hnode, hnode', List.take_length]
    · walk_at "lws"
      exact hR1c _ _ ⟨trivial, Sub.rf (congrArg (fun l => [(A, OD.dict (encB l))]) (by rw [hrow]; rfl)) (by kernel_rfl!)⟩
  · walk_at "lws"
    refine hR0 _ _ ?_
    exact .own_dict (.head _)

theorem law01_tail {G : GC} {mg mb : Str → Option Value} {n m5 m6 m7 m8 : Nat} {name : Str} {cd : Value} (gr : Grd G mg mb) (hrange : mg "range" = none) (hsum : mg "sum" = none) (hlen : mg "len" = none)
    (hC5 : FnC G mg "_levenshtein_distance" m5 T_lev) (hm5 : m5 ≤ n) (hC6 : FnC G mg "count_calls" m6 T_count) (hm6 : m6 ≤ n) (hC7 : FnC G mg "_int2digits" m7 T_i2d) (hm7 : m7 ≤ n) (hC8 : FnC G mg "int_divmod" m8 T_divm) (hm8 : m8 ≤ n)
    {a b : List Nat} {w : Nat} (hla : LettersOk a) (hlb : LettersOk b) (hw : w ≤ 12) (ok : LawOK1 a b w) : ∀ (K : Act), BodyK K G (fnAt pw iLaw).2.2 n name cd →
    LX K ((fnAt pw iLaw).2.1.drop 7) (RetIs (.bool true)) ⟨[("one", .str (tx a)), ("two", .str (tx b)), ("width", .int w), ("listed", .dict (encK a.length b.length (listed a b))), ("walked", .dict (encB (walked a b w)))], []⟩ := by
  with_reducible refine' withFn (P := fun f => ∀ K, BodyK K G f.2.2 n name cd → LX K (f.2.1.drop 7) _ _) ?hfn ?_
  case hfn => exact rfl
  intro K bk
  dsimp only [List.drop] at bk ⊢
  have hK := bk.kf
  have hst := bk.st
  obtain rfl := bk.G
  have hsz : 200000 ≤ sizeLine := by rw [sizeLine_eq]; (first | lia | omega)
  with_reducible refine LX_abs fun R0' hR0 => ?_
  have ha3 := hla.1
  have hb3 := hlb.1
  with_reducible refine el_3_2 (ok.num) fun e N far he hN => ?_
  have htg := told_get (i := a.length) (j := b.length) ha3 hb3 (Nat.le_refl _) (Nat.le_refl _)
  with_reducible refine el_0_2 (told_ok (a := a) (b := b) (i := a.length) (j := b.length) ha3 hb3) fun htl hten => ?_
  have hcl : (countsOf (toldAt a b a.length b.length) (2 * (a.length + b.length) + 1)).length = 2 * (a.length + b.length) + 1 := by unfold countsOf; simp
  have hw1 : 1 ≤ w := by
    have := hN.d2.1
    by_cases h : w = 0
    · subst h; simp at this
    · (first | lia | omega)
  have hcB : ∀ x ∈ countsOf (toldAt a b a.length b.length) (2 * (a.length + b.length) + 1), x.natAbs ≤ 4096 := fun x hx => by
    rw [← hN.dg] at hx
    with_reducible refine el_1_2 (List.mem_map.mp hx) fun d hd oq217 => ?_
    obtain rfl := oq217
    with_reducible refine el_1_2 (List.mem_map.mp hd) fun t _ oq218 => ?_
    obtain rfl := oq218
    have h1 := digN_lt w N t
    have h2 : 2 ^ w ≤ 2 ^ 12 := Nat.pow_le_pow_right (by decide) hw
    rw [Int.natAbs_natCast]
    (first | lia | omega)
  have hcdef : countsOf (toldAt a b a.length b.length) (2 * (a.length + b.length) + 1) = (List.range (2 * (a.length + b.length) + 1)).map (cntOf (toldAt a b a.length b.length)) := rfl
  walk_at "lws"
  refine ⟨_, blt_lenT (by (first | lia | omega)), ?_⟩
  refine ⟨_, bin_mulS (by (first | lia | omega)) (by (first | lia | omega)), ?_⟩
  walk_at "lws"
  refine ⟨_, blt_lenT (by (first | lia | omega)), ?_⟩
  walk_at "lws"
  refine ⟨_, get_dict (.inl rfl) htg, ?_⟩
  generalize toldAt a b a.length b.length = T at hN htg htl hten hcl hcB hcdef ⊢
  walk_at "lws"
  refine ⟨_, blt_lenT (by (first | lia | omega)), ?_⟩
  refine ⟨_, bin_mulS (by (first | lia | omega)) (by (first | lia | omega)), ?_⟩
  walk_at "lws"
  refine ⟨_, blt_lenT (by (first | lia | omega)), ?_⟩
  walk_at "lws"
  refine ⟨encF e, get_dict (.inl rfl) (by rw [encB_get, he]; rfl), ?_⟩
  walk_at "lws"
  refine ⟨.dict (encI e.cs), get_tupN (by decide) (by decide) rfl, ?_⟩
  walk_at "lws"
  refine ⟨.int N, ⟨e.cs, rfl, congrArg D.int hN.cs.symm⟩, ?_⟩
  walk_at "lws"
  -- counts
  with_reducible refine' LS_assign hK ?y1q1 ?_ ?y2q1
  case y1q1 => walk_at "st"
  case y2q1 => unfold swapsWith Env.blockKind Env.kindOf; rw [hK.scope]; rfl
  with_reducible refine LE_comp ["k"] hK ?x1q1 ?x2q1 ?_ ?x3q1
  case x1q1 => kernel_rfl!
  case x2q1 => kernel_rfl!
  case x3q1 => intro _; rfl
  with_reducible refine LI_range hK ?_
  walk_at "lws"
  refine ⟨.str (tx (a ++ b)), bin_to (bin_cat (by show (tx a).length + (tx b).length ≤ sizeLine; rw [tx_length, tx_length]; (first | lia | omega))) (congrArg D.str (tx_append a b)), ?_⟩
  walk_at "lws"
  refine ⟨.int (a.length + b.length : Nat), blt_to (blt_lenT (by rw [List.length_append]; (first | lia | omega))) (congrArg (fun k : Nat => D.int k) List.length_append), ?_⟩
  refine ⟨_, bin_mulS (by (first | lia | omega)) (by (first | lia | omega)), ?_⟩
  walk_at "lws"
  refine ⟨_, blt_range1, ?_⟩
  with_reducible refine ⟨0, 2 * ((a.length + b.length : Nat) : Int) + 1, ?b1q1, ?b2q1, ?b3q1⟩
  case b1q1 => rfl
  case b2q1 => (first | lia | omega)
  with_reducible refine comp0 (fun k : Nat => D.int k) decN (List.range (2 * (a.length + b.length) + 1)) (fun k => .int (cntOf T k)) (fun k _ => decN_int k) ?c2q1 ?c3q1 ?c4q1 (fun K' ck k hk => ⟨_, tgt_name, fun own => ?_⟩) ?_
  case c2q1 =>
    rw [show (2 * ((a.length + b.length : Nat) : Int) + 1 - 0).toNat = 2 * (a.length + b.length) + 1 by (first | lia | omega)]
    exact rints_nat _
  case c3q1 => rw [List.length_range]; (first | lia | omega)
  case c4q1 => kernel_rfl!
  · have hK' := ck.kf
    have gr' := ck.grd gr
    walk_at "lws"
    with_reducible refine LE_comp ["n", "price", "pairs", "last"] hK' ?xa1 ?xb1 ?_ ?xc1
    case xa1 => kernel_rfl!
    case xb1 => kernel_rfl!
    case xc1 => intro _; rfl
    with_reducible refine LI_list hK' ?_
    walk_at "lws"
    with_reducible refine ⟨T.map encE, ?ga1, ?_⟩
    case ga1 => rfl
    with_reducible refine compT encE decE T (fun e => e.c == (k : Int)) (fun e => .int e.w) (fun e _ => decE_enc e) ?ca1 ?cb1 ?cc1 (fun K2 ck2 e he => ⟨[.int e.w, .int e.c, .int e.k, .int e.l], ?cd1, fun own2 => ⟨?_, fun hp => ?_⟩⟩) ?_
    case ca1 => rfl
    case cb1 => (first | lia | omega)
    case cc1 => kernel_rfl!
    case cd1 => exact tgt_tup (ns := [(_, _), (_, _), (_, _), (_, _)]) rfl rfl
    · have hK2 := ck2.kf
      show LT _ _ _ _
      walk_at "lws"
      exact ⟨rfl, rfl⟩
    · have hK2 := ck2.kf
      walk_at "lws"
      exact ⟨rfl, rfl⟩
    walk_at "lws"
    refine ⟨_, blt_sumI hK' ((T.filter fun e => e.c == (k : Int)).map fun e => e.w) (by rw [List.map_map]; rfl), ?_⟩
    walk_at "lws"
    exact ⟨rfl, rfl⟩
  have hcnt : (List.range (2 * (a.length + b.length) + 1)).map (fun (k : Nat) => D.int (cntOf T k)) = (countsOf T (2 * (a.length + b.length) + 1)).map D.int := by rw [hcdef, List.map_map]; rfl
  clear hcdef
  generalize countsOf T (2 * (a.length + b.length) + 1) = c at hN hcl hcB hcnt
  have hcl13 : c.length ≤ 13 := by (first | lia | omega)
  have hfl := hN.fl
  have hget : ∀ t, t < c.length → (c.map D.int)[t]? = some (.int (c.getD t 0)) := fun t ht => by
    rw [List.getElem?_map, List.getElem?_eq_getElem ht, List.getD_eq_getElem?_getD, List.getElem?_eq_getElem ht]; rfl
  have hgB : ∀ t, t < c.length → (c.getD t 0).natAbs < 2 ^ 3000 := fun t ht => by
    rw [List.getD_eq_getElem?_getD, List.getElem?_eq_getElem ht]
    exact Nat.lt_of_le_of_lt (hcB _ (List.getElem_mem ht)) (by decide)
  refine LX.sub (σ' := ⟨[("one", .str (tx a)), ("two", .str (tx b)), ("width", .int w), ("number", .int N), ("counts", .list (c.map .int))], []⟩) ?_ (Sub.of rfl ⟨rfl, rfl, rfl, rfl, congrArg (fun l => some (D.list l)) hcnt, trivial⟩)
  clear hcnt
  -- digits
  walk_at "lws"
  refine ⟨_, ⟨w, N, by (first | lia | omega), by (first | lia | omega), hN.ln, rfl, rfl⟩, ?_⟩
  walk_at "lws"
  have heq1 : EqD 1 (.list (encN (i2dN w N))) (.list (c.map .int)) := by
    rw [← hN.dg]
    have : encN (i2dN w N) = ((i2dN w N).map (fun (d : Nat) => (d : Int))).map D.int := by rw [List.map_map]; rfl
    rw [this]
    exact eq_ints rfl
  refine ⟨_, cmp_neSame (hK.less (Nat.zero_le n)) (by decide) heq1, ?_⟩
  refine go_f rfl ?_
  walk_at "lws"
  -- far
  refine ⟨.int far, ⟨a, b, 12, by (first | lia | omega), by (first | lia | omega), rfl, congrArg D.int hN.fr.symm⟩, ?_⟩
  walk_at "lws"
  -- dearer
  with_reducible refine LE_comp ["k"] hK ?x1q2 ?x2q2 ?_ ?x3q2
  case x1q2 => kernel_rfl!
  case x2q2 => kernel_rfl!
  case x3q2 => intro _; rfl
  with_reducible refine LI_range hK ?_
  walk_at "lws"
  refine ⟨_, blt_lenM (by (first | lia | omega)), ?_⟩
  walk_at "lws"
  refine ⟨_, blt_range2, ?_⟩
  with_reducible refine ⟨(far : Int) + 1, (c.length : Int), ?b1q2, ?b2q2, ?b3q2⟩
  case b1q2 => rfl
  case b2q2 => (first | lia | omega)
  with_reducible refine comp0 (fun t : Nat => D.int ((far + 1 + t : Nat) : Int)) (fun d => decN d - (far + 1)) (List.range (c.length - (far + 1))) (fun t => .int (c.getD (far + 1 + t) 0 * 2 ^ (w * t))) (fun t _ => by rw [decN_int]; (first | lia | omega)) ?c2q2 ?c3q2 ?c4q2 (fun K' ck t ht => ⟨_, tgt_name, fun own => ?_⟩) ?_
  case c2q2 =>
    unfold rints
    rw [show ((c.length : Int) - ((far : Int) + 1)).toNat = c.length - (far + 1) by (first | lia | omega)]
    refine List.map_congr_left fun t _ => ?_
    show D.int _ = D.int _
    congr 1
    push_cast; (first | lia | omega)
  case c3q2 => rw [List.length_range]; (first | lia | omega)
  case c4q2 => kernel_rfl!
  · have hK' := ck.kf
    have htl : far + 1 + t < c.length := by have := List.mem_range.mp ht; (first | lia | omega)
    walk_at "lws"
    refine ⟨_, get_listN (far + 1 + t) rfl (by (first | lia | omega)) (hget _ htl), ?_⟩
    walk_at "lws"
    refine ⟨_, bin_mulS (by (first | lia | omega)) (by (first | lia | omega)), ?_⟩
    refine ⟨_, shl_ok (n := 0) (by (first | lia | omega)) (by (first | lia | omega)) (show w ≤ 20 by (first | lia | omega)) (hgB _ htl), ?_⟩
    exact ⟨rfl, by rw [show (((far + 1 + t : Nat) : Int) - (far : Int) - 1).toNat = t by (first | lia | omega)]⟩
  walk_at "lws"
  refine ⟨.int (dearerOf c far w), blt_sumI hK ((List.range (c.length - (far + 1))).map fun t => c.getD (far + 1 + t) 0 * 2 ^ (w * t)) (by rw [List.map_map]; rfl), ?_⟩
  walk_at "lws"
  have hwf : w * far ≤ 12 * 13 := Nat.mul_le_mul hw (by (first | lia | omega))
  have hi2 : Builtin.Int.intBits ((2 : Nat) : Int) ≤ 2 := bits_le_of_lt (by decide)
  refine ⟨_, bin_mulS (by (first | lia | omega)) (by (first | lia | omega)), ?_⟩
  walk_at "lws"
  refine ⟨_, pow_nat 2 (w * far + w) rfl (by push_cast; rfl) (by
    have := Nat.mul_le_mul hi2 (show w * far + w ≤ 200 by (first | lia | omega))
    (first | lia | omega)), ?_⟩
  walk_at "lws"
  refine ⟨_, ⟨(N : Int), 2 ^ (w * far + w), fun _ => by rw [Int.toNat_natCast]; exact hN.d1, fun h => absurd h (by (first | lia | omega)), rfl, (by rw [fdiv_nat, fmod_nat, hN.q1, hN.r1] : D.tup [.int (dearerOf c far w), .int (c.getD far 0 * 2 ^ (w * far))] = _)⟩, ?_⟩
  walk_at "lws"
  refine ⟨_, get_listN far rfl (by (first | lia | omega)) (hget _ hfl), ?_⟩
  walk_at "lws"
  refine ⟨_, bin_mulS (by (first | lia | omega)) (by (first | lia | omega)), ?_⟩
  refine ⟨_, shl_ok (n := 0) (by (first | lia | omega)) (by (first | lia | omega)) (show w ≤ 20 by (first | lia | omega)) (hgB _ hfl), ?_⟩
  walk_at "lws"
  refine ⟨by first | exact Nat.le_of_ble_eq_true rfl | simp, ?_⟩
  refine ⟨_, cmp_neSame (hK.less (Nat.zero_le n)) (n := 1) (by decide) (eq_tup (l := [_, _]) (m := [_, _]) (by rw [Int.toNat_natCast])), ?_⟩
  refine go_f rfl ?_
  walk_at "lws"
  -- above
  with_reducible refine LE_comp ["k"] hK ?x1q3 ?x2q3 ?_ ?x3q3
  case x1q3 => kernel_rfl!
  case x2q3 => kernel_rfl!
  case x3q3 => intro _; rfl
  with_reducible refine LI_range hK ?_
  walk_at "lws"
  refine ⟨_, blt_lenM (by (first | lia | omega)), ?_⟩
  walk_at "lws"
  refine ⟨_, blt_range1, ?_⟩
  with_reducible refine ⟨0, (c.length : Int), ?b1q3, ?b2q3, ?b3q3⟩
  case b1q3 => rfl
  case b2q3 => (first | lia | omega)
  with_reducible refine comp0 (fun k : Nat => D.int k) decN (List.range c.length) (fun k => .int ((c.drop (k + 1)).sum * 2 ^ (w * k))) (fun k _ => decN_int k) ?c2q3 ?c3q3 ?c4q3 (fun K' ck k hk => ⟨_, tgt_name, fun own => ?_⟩) ?_
  case c2q3 =>
    rw [show ((c.length : Int) - 0).toNat = c.length by (first | lia | omega)]
    exact rints_nat _
  case c3q3 => rw [List.length_range]; (first | lia | omega)
  case c4q3 => kernel_rfl!
  · have hK' := ck.kf
    have gr' := ck.grd gr
    have hkl : k < c.length := List.mem_range.mp hk
    have hsm : (c.drop (k + 1)).sum.natAbs < 2 ^ 3000 := by
      have h1 := sum_abs (l := c.drop (k + 1)) (b := 4096) (fun x hx => hcB x (List.mem_of_mem_drop hx))
      have h2 : (c.drop (k + 1)).length ≤ 13 := by rw [List.length_drop]; (first | lia | omega)
      have h3 : 4096 * (c.drop (k + 1)).length ≤ 4096 * 13 := Nat.mul_le_mul_left _ h2
      exact Nat.lt_of_le_of_lt (Nat.le_trans h1 h3) (by decide)
    walk_at "lws"
    refine ⟨_, sli_drop (k + 1) rfl (by (first | lia | omega)), ?_⟩
    walk_at "lws"
    refine ⟨_, blt_sumI hK' (c.drop (k + 1)) rfl, ?_⟩
    walk_at "lws"
    refine ⟨_, bin_mulS (by (first | lia | omega)) (by (first | lia | omega)), ?_⟩
    refine ⟨_, shl_ok (n := 0) (by (first | lia | omega)) (by (first | lia | omega)) (show w ≤ 20 by (first | lia | omega)) hsm, ?_⟩
    exact ⟨rfl, by rw [Int.toNat_natCast]⟩
  walk_at "lws"
  refine ⟨.int (aboveOf c w), blt_sumI hK ((List.range c.length).map fun k => (c.drop (k + 1)).sum * 2 ^ (w * k)) (by rw [List.map_map]; rfl), ?_⟩
  walk_at "lws"
  refine ⟨_, pow_nat 2 w rfl rfl (by
    have := Nat.mul_le_mul hi2 hw
    (first | lia | omega)), ?_⟩
  walk_at "lws"
  have hp1 : ((2 ^ w : Nat) : Int) - 1 = ((2 ^ w - 1 : Nat) : Int) := by
    have : 0 < 2 ^ w := Nat.two_pow_pos w
    (first | lia | omega)
  refine ⟨_, ⟨(N : Int), 2 ^ w - 1, fun _ => by rw [Int.toNat_natCast]; exact hN.d2, fun h => absurd h (by (first | lia | omega)), congrArg (fun x => [D.int N, D.int x]) hp1, (by rw [fdiv_nat, fmod_nat, hN.q2, hN.r2] : D.tup [.int (aboveOf c w), .int c.sum] = _)⟩, ?_⟩
  walk_at "lws"
  refine ⟨_, blt_sumI hK c rfl, ?_⟩
  walk_at "lws"
  refine ⟨by first | exact Nat.le_of_ble_eq_true rfl | simp, ?_⟩
  refine ⟨_, cmp_neSame (hK.less (Nat.zero_le n)) (n := 1) (by decide) (eq_tup (l := [_, _]) (m := [_, _]) rfl), ?_⟩
  refine go_f rfl ?_
  walk_at "lws"
  with_reducible refine' LE_cmp ?_ ?hmz
  case hmz => with_unfolding_all exact rfl
  walk_at "lws"
  refine ⟨_, get_listN far rfl (by (first | lia | omega)) (hget _ hfl), ?_⟩
  walk_at "lws"
  refine go_t (by have := hN.p; simpa using this) ?_
  walk_at "lws"
  with_reducible refine' LE_cmp ?_ ?hmz2
  case hmz2 => with_unfolding_all exact rfl
  walk_at "lws"
  refine ⟨_, ⟨a, b, (far : Int) - 1, by (first | lia | omega), by (first | lia | omega), rfl, rfl⟩, ?_⟩
  walk_at "lws"
  refine hR0 _ _ ?_
  exact ret_is (congrArg D.bool (decide_eq_true hN.g))

theorem law01_body {G : GC} {mg mb : Str → Option Value} {n m1 m2 m3 m4 m5 m6 m7 m8 : Nat} {name : Str} {cd : Value} (gr : Grd G mg mb) (hrange : mg "range" = none) (hsum : mg "sum" = none) (hlen : mg "len" = none) (hmin : mg "min" = none)
    (hC1 : FnC G mg "_law_word" m1 T_word1) (hm1 : m1 ≤ n) (hC2 : FnC G mg "_law_listed" m2 T_listed) (hm2 : m2 ≤ n) (hC3 : FnC G mg "_law_walked" m3 T_walked) (hm3 : m3 ≤ n) (hC4 : FnC G mg "_law_due" m4 T_due) (hm4 : m4 ≤ n) (hC5 : FnC G mg "_levenshtein_distance" m5 T_lev) (hm5 : m5 ≤ n) (hC6 : FnC G mg "count_calls" m6 T_count) (hm6 : m6 ≤ n) (hC7 : FnC G mg "_int2digits" m7 T_i2d) (hm7 : m7 ≤ n) (hC8 : FnC G mg "int_divmod" m8 T_divm) (hm8 : m8 ≤ n)
    (script : List Int) (hs63 : script.length ≤ 63) (ok : LawOK1 (oneOf script) (twoOf script) (wOf script)) : ∀ (K : Act), BodyK K G (fnAt pw iLaw).2.2 n name cd →
    LX K (fnAt pw iLaw).2.1 (RetIs (.bool true)) ⟨[("script", .list (script.map .int))], []⟩ := by
  with_reducible refine' withFn (P := fun f => ∀ K, BodyK K G f.2.2 n name cd → LX K f.2.1 _ _) ?hfn ?_
  case hfn => exact rfl
  intro K bk
  dsimp only at bk ⊢
  have hK := bk.kf
  have hst := bk.st
  obtain rfl := bk.G
  have hsz : 200000 ≤ sizeLine := by rw [sizeLine_eq]; (first | lia | omega)
  have hsl : (script.map D.int).length ≤ sizeLine := by rw [List.length_map]; (first | lia | omega)
  have hnl : (nums01 script).length = 6 := rfl
  have hla : LettersOk (oneOf script) := letF_word _ (by rw [List.length_take]; (first | lia | omega))
  have hlb : LettersOk (twoOf script) := letF_word _ (by rw [List.length_drop]; (first | lia | omega))
  have hw : wOf script ≤ 12 := by unfold wOf; (first | lia | omega)
  -- numbers
  refine LX_cons ?_
  with_reducible refine' LS_comp ["k"] hK ?y1q1 ?y2q1 ?y3q1 ?y4q1 ?_ ?y5q1
  case y1q1 => walk_at "st"
  case y2q1 => kernel_rfl!
  case y3q1 => kernel_rfl!
  case y4q1 => unfold swapsWith Env.blockKind Env.kindOf; rw [hK.scope]; rfl
  case y5q1 => intro _; rfl
  with_reducible refine LI_range hK ?_
  walk_at "lws"
  refine ⟨_, blt_range1, ?_⟩
  with_reducible refine ⟨0, 6, ?b1q1, ?b2q1, ?b3q1⟩
  case b1q1 => rfl
  case b2q1 => (first | lia | omega)
  with_reducible refine comp0 (fun k : Nat => D.int k) decN (List.range 6) (fun k => .int (base6.getD k 0 + (picked script (some (k : Int)) none (some 6)).sum)) (fun k _ => decN_int k) ?c2q1 ?c3q1 ?c4q1 (fun K' ck k hk => ⟨_, tgt_name, fun own => ?_⟩) ?_
  case c2q1 => exact rints_nat 6
  case c3q1 => rw [sizeLine_eq]; decide
  case c4q1 => kernel_rfl!
  · have hK' := ck.kf
    have gr' := ck.grd gr
    have hk6 : k < 6 := List.mem_range.mp hk
    with_reducible refine LE_bin ?_
    refine LE_sub (LE_list ?_)
    walk_at "lws"
    refine ⟨by first | exact Nat.le_of_ble_eq_true rfl | simp, ?_⟩
    walk_at "lws"
    refine ⟨.int (base6.getD k 0), get_listN k rfl (by (first | lia | omega)) ?hgq1, ?_⟩
    case hgq1 =>
      have h' : k < base6.length := hk6
      show (base6.map D.int)[k]? = _
      rw [List.getElem?_map, List.getElem?_eq_getElem h', List.getD_eq_getElem?_getD, List.getElem?_eq_getElem h']; rfl
    walk_at "lws"
    refine ⟨_, sli_list hsl (by decide), ?_⟩
    walk_at "lws"
    refine ⟨_, blt_sumI hK' (picked script (some (k : Int)) none (some 6)) (picked_map ..), ?_⟩
    walk_at "lws"
    exact ⟨rfl, rfl⟩
  have hnums : ((List.range 6).map fun (k : Nat) => D.int (base6.getD k 0 + (picked script (some (k : Int)) none (some 6)).sum)) = (nums01 script).map D.int := by
    unfold nums01; rw [List.map_map]; rfl
  rw [hnums]
  -- words
  walk_at "lws"
  refine ⟨_, sli_take 3 rfl (by (first | lia | omega)), ?_⟩
  walk_at "lws"
  refine ⟨.str (tx (oneOf script)), ⟨(nums01 script).take 3, by rw [List.length_take]; (first | lia | omega), rfl, rfl⟩, ?_⟩
  walk_at "lws"
  refine ⟨_, sli_drop 3 rfl (by (first | lia | omega)), ?_⟩
  walk_at "lws"
  refine ⟨.str (tx (twoOf script)), ⟨(nums01 script).drop 3, by rw [List.length_drop]; (first | lia | omega), rfl, rfl⟩, ?_⟩
  walk_at "lws"
  refine ⟨_, blt_lenM (by (first | lia | omega)), ?_⟩
  walk_at "lws"
  refine ⟨_, mod_nat script.length 6 rfl rfl (by decide), ?_⟩
  walk_at "lws"
  -- listed, walked
  have hww : (7 : Int) + ((script.length % 6 : Nat) : Int) = ((wOf script : Nat) : Int) := by unfold wOf; push_cast; rfl
  generalize oneOf script = a at hla ok ⊢
  generalize twoOf script = b at hlb ok ⊢
  generalize wOf script = w at hw ok hww ⊢
  have ha3 := hla.1
  have hb3 := hlb.1
  refine ⟨_, ⟨a, b, hla, hlb, rfl, rfl⟩, ?_⟩
  walk_at "lws"
  refine ⟨_, ⟨a, b, w, hla, hlb, by (first | lia | omega), ok.wk, ok.wl, congrArg (fun x => [D.str (tx a), D.str (tx b), D.int x]) hww, rfl⟩, ?_⟩
  refine LX.sub (σ' := ⟨[("one", .str (tx a)), ("two", .str (tx b)), ("width", .int w), ("listed", .dict (encK a.length b.length (listed a b))), ("walked", .dict (encB (walked a b w)))], []⟩) ?_ (Sub.of rfl ⟨rfl, rfl, congrArg (fun x => some (D.int x)) hww, rfl, rfl, trivial⟩)
  clear hww
  with_reducible refine LX_forR hK ?_ ?hs1
  case hs1 => intro _; rfl
  walk_at "lws"
  refine ⟨_, blt_lenT (by (first | lia | omega)), ?_⟩
  walk_at "lws"
  refine ⟨_, blt_range1, ?_⟩
  with_reducible refine ⟨a.length + 1, fun i => ⟨[("one", .str (tx a)), ("two", .str (tx b)), ("width", .int w), ("listed", .dict (encK a.length b.length (listed a b))), ("walked", .dict (encB (walked a b w)))], []⟩, fun _ => True, ?e1, by (first | lia | omega), ?e2, trivial, fun i hi _ => ?_, fun _ => ?_⟩
  case e1 => rfl
  case e2 => exact Sub.rf rfl (by kernel_rfl!)
  · with_reducible refine LA_abs (σ := ⟨_, _⟩) fun R1c hR1c => ?_
    walk_at "lws"
    with_reducible refine LX_forR hK ?_ ?hs2
    case hs2 => intro _; rfl
    walk_at "lws"
    refine ⟨_, blt_lenT (by (first | lia | omega)), ?_⟩
    walk_at "lws"
    refine ⟨_, blt_range1, ?_⟩
    with_reducible refine ⟨b.length + 1, fun j => ⟨[("one", .str (tx a)), ("two", .str (tx b)), ("width", .int w), ("listed", .dict (encK a.length b.length (listed a b))), ("walked", .dict (encB (walked a b w))), ("i", .int i)], []⟩, fun _ => True, ?f1, by (first | lia | omega), ?f2, trivial, fun j hj _ => ?_, fun _ => ?_⟩
    case f1 => rfl
    case f2 => exact Sub.rf rfl (by kernel_rfl!)
    · have hi3 : i ≤ a.length := by (first | lia | omega)
      have hj3 : j ≤ b.length := by (first | lia | omega)
      with_reducible refine el_2_5 (ok.node i j hi3 hj3) fun e least he heq hmem hle hlev => ?_
      have htg := told_get ha3 hb3 hi3 hj3
      with_reducible refine el_0_2 (told_ok (a := a) (b := b) (i := i) (j := j) ha3 hb3) fun htl hten => ?_
      with_reducible refine LA_abs (σ := ⟨_, _⟩) fun R2c hR2c => ?_
      generalize toldAt a b i j = T at heq hmem hle htg htl hten
      walk_at "lws"
      refine ⟨_, bin_mulS (by (first | lia | omega)) (by (first | lia | omega)), ?_⟩
      walk_at "lws"
      refine ⟨_, get_dict (.inl rfl) htg, ?_⟩
      walk_at "lws"
      refine ⟨_, bin_mulS (by (first | lia | omega)) (by (first | lia | omega)), ?_⟩
      walk_at "lws"
      refine ⟨encF e, get_dict (.inl rfl) (by rw [encB_get, he]; rfl), ?_⟩
      walk_at "lws"
      refine ⟨_, ⟨T, i + j, w, htl, fun x hx => (hten x hx).ok, by (first | lia | omega), by (first | lia | omega), rfl, rfl⟩, ?_⟩
      refine ⟨_, cmp_neSame (hK.less (Nat.zero_le n)) (by decide) heq, ?_⟩
      refine go_f rfl ?_
      walk_at "lws"
      with_reducible refine LE_comp ["n", "price", "pairs", "last"] hK ?xa1 ?xb1 ?_ ?xc1
      case xa1 => kernel_rfl!
      case xb1 => kernel_rfl!
      case xc1 => intro _; rfl
      with_reducible refine LI_list hK ?_
      walk_at "lws"
      with_reducible refine ⟨T.map encE, ?ga1, ?_⟩
      case ga1 => rfl
      with_reducible refine comp0 encE decE T (fun e => .int e.c) (fun e _ => decE_enc e) ?ca1 ?cb1 ?cc1 (fun K' ck e he => ⟨[.int e.w, .int e.c, .int e.k, .int e.l], ?cd1, fun own => ?_⟩) ?_
      case ca1 => rfl
      case cb1 => (first | lia | omega)
      case cc1 => kernel_rfl!
      case cd1 => exact tgt_tup (ns := [(_, _), (_, _), (_, _), (_, _)]) rfl rfl
      · have hK' := ck.kf
        walk_at "lws"
        exact ⟨rfl, rfl⟩
      walk_at "lws"
      refine ⟨_, blt_minI hK (by rw [List.map_map]; rfl) hmem hle, ?_⟩
      walk_at "lws"
      with_reducible refine LE_list ?_
      walk_at "lws"
      refine ⟨_, sli_takeS (by (first | lia | omega)), ?_⟩
      walk_at "lws"
      refine ⟨_, sli_takeS (by (first | lia | omega)), ?_⟩
      walk_at "lws"
      refine ⟨by first | exact Nat.le_of_ble_eq_true rfl | simp, ?_⟩
      walk_at "lws"
      refine ⟨_, mod_nat (i + j) 2 rfl rfl (by decide), ?_⟩
      walk_at "lws"
      have h2 : (i + j) % 2 < 2 := Nat.mod_lt _ (by decide)
      refine ⟨_, get_listN ((i + j) % 2) rfl (by (first | lia | omega)) (pick_at h2), ?_⟩
      walk_at "lws"
      refine ⟨_, get_listN (1 - (i + j) % 2) (by (first | lia | omega)) (by (first | lia | omega)) (pick_at (by (first | lia | omega))), ?_⟩
      walk_at "lws"
      refine ⟨_, mod_nat (i + j) 3 rfl rfl (by decide), ?_⟩
      walk_at "lws"
      have ht1 : (a.take i).length ≤ 10 := by rw [List.length_take]; (first | lia | omega)
      have ht2 : (b.take j).length ≤ 10 := by rw [List.length_take]; (first | lia | omega)
      refine ⟨.int least, ⟨_, _, _, pick_len ht1 ht2, pick_len ht1 ht2, rfl, congrArg D.int hlev.symm⟩, ?_⟩
      walk_at "lws"
      refine go_f (by simp) ?_
      walk_at "lws"
      exact hR2c _ _ ⟨trivial, Sub.rf rfl (by kernel_rfl!)⟩
    · walk_at "lws"
      exact hR1c _ _ ⟨trivial, Sub.rf rfl (by kernel_rfl!)⟩
  exact law01_tail gr hrange hsum hlen hC5 hm5 hC6 hm6 hC7 hm7 hC8 hm8 hla hlb hw ok K bk

theorem par1 {d : FuncData} {x : Str} (h : ∀ a, bindArgs d ⟨[a], []⟩ = pure [(x, a)]) : ∀ vs : List Value, vs.length = 1 → bindArgs d ⟨vs, []⟩ = pure ([x].zip vs) := fun vs hv => by
  (with_reducible refine el_1_1 (lenIs1 hv) fun a oq219 => ?_); obtain rfl := oq219; exact h a
theorem par2 {d : FuncData} {x y : Str} (h : ∀ a b, bindArgs d ⟨[a, b], []⟩ = pure [(x, a), (y, b)]) : ∀ vs : List Value, vs.length = 2 → bindArgs d ⟨vs, []⟩ = pure ([x, y].zip vs) := fun vs hv => by
  (with_reducible refine el_2_1 (lenIs2 hv) fun a b oq220 => ?_); obtain rfl := oq220; exact h a b
theorem par3 {d : FuncData} {x y z : Str} (h : ∀ a b c, bindArgs d ⟨[a, b, c], []⟩ = pure [(x, a), (y, b), (z, c)]) : ∀ vs : List Value, vs.length = 3 → bindArgs d ⟨vs, []⟩ = pure ([x, y, z].zip vs) := fun vs hv => by
  (with_reducible refine el_3_1 (lenIs3 hv) fun a b c oq221 => ?_); obtain rfl := oq221; exact h a b c
noncomputable abbrev DefEx (G : GC) (mg : Str → Option Value) (name : Str) (i : Nat) (cd : Value) : Prop := ∃ fa, DefAt G mg name (fnAt pw i).1 (fnAt pw i).2.1 (fnAt pw i).2.2 fa cd
noncomputable def T_law (ds : List D) (r : D) : Prop := ∃ script : List Int, script.length ≤ 63 ∧ ds = [.list (script.map .int)] ∧ r = .bool true
theorem fn1 {G : GC} {mg mb : Str → Option Value} {name x : Str} {i n : Nat} {cd : Value} {T : List D → D → Prop} (gr : Grd G mg mb) (dA : DefEx G mg name i cd) (ha : (fnAt pw i).1.args.map (·.arg) = [x])
    (hpar : ∀ pm cd doc a, bindArgs (docDef name (fnAt pw i).1 (fnAt pw i).2.1 (fnAt pw i).2.2 pm cd doc) ⟨[a], []⟩ = pure [(x, a)])
    (hT : ∀ ds r, T ds r → ∃ a, ds = [a] ∧ ∀ K, BodyK K G (fnAt pw i).2.2 n name cd → LX K (fnAt pw i).2.1 (RetIs r) ⟨[(x, a)], []⟩)
    (hloc : ([x] : List Str).all (fun x => (fnAt pw i).2.2.names.lookup x == some .local || (fnAt pw i).2.2.names.lookup x == some .cell) = true) (hk : (fnAt pw i).2.2.kind = .function) (hco : (fnAt pw i).2.2.isCoroutine = false) (hgen : (fnAt pw i).2.2.isGenerator = false) : FnC G mg name (n + 1) T := by
  with_reducible refine el_1_1 (dA) fun fa dA => ?_
  have hl : (fnAt pw i).1.args.length = 1 := by have := congrArg List.length ha; simpa using this
  refine fnC_of gr dA (fun pm cd doc vs hv => by rw [ha]; exact par1 (hpar pm cd doc) vs (hv.trans hl)) (fun ds r h => ?_) (by rw [ha]; exact hloc) hk (fun ds r h K bk => ?_) hco hgen
  · (with_reducible refine el_1_2 (hT ds r h) fun a oq222 _ => ?_); obtain rfl := oq222; rw [hl]; rfl
  · with_reducible refine el_1_2 (hT ds r h) fun a oq223 hb => ?_
    obtain rfl := oq223
    rw [ha]; exact hb K bk
theorem fn2 {G : GC} {mg mb : Str → Option Value} {name x y : Str} {i n : Nat} {cd : Value} {T : List D → D → Prop} (gr : Grd G mg mb) (dA : DefEx G mg name i cd) (ha : (fnAt pw i).1.args.map (·.arg) = [x, y]) (hxy : (y == x) = false)
    (hpar : ∀ pm cd doc a b, bindArgs (docDef name (fnAt pw i).1 (fnAt pw i).2.1 (fnAt pw i).2.2 pm cd doc) ⟨[a, b], []⟩ = pure [(x, a), (y, b)])
    (hT : ∀ ds r, T ds r → ∃ a b, ds = [a, b] ∧ ∀ K, BodyK K G (fnAt pw i).2.2 n name cd → LX K (fnAt pw i).2.1 (RetIs r) ⟨[(x, a), (y, b)], []⟩)
    (hloc : ([x, y] : List Str).all (fun x => (fnAt pw i).2.2.names.lookup x == some .local || (fnAt pw i).2.2.names.lookup x == some .cell) = true) (hk : (fnAt pw i).2.2.kind = .function) (hco : (fnAt pw i).2.2.isCoroutine = false) (hgen : (fnAt pw i).2.2.isGenerator = false) : FnC G mg name (n + 1) T := by
  with_reducible refine el_1_1 (dA) fun fa dA => ?_
  have hl : (fnAt pw i).1.args.length = 2 := by have := congrArg List.length ha; simpa using this
  refine fnC_of gr dA (fun pm cd doc vs hv => by rw [ha]; exact par2 (hpar pm cd doc) vs (hv.trans hl)) (fun ds r h => ?_) (by rw [ha]; exact hloc) hk (fun ds r h K bk => ?_) hco hgen
  · (with_reducible refine el_2_2 (hT ds r h) fun a b oq224 _ => ?_); obtain rfl := oq224; rw [hl]; rfl
  · with_reducible refine el_2_2 (hT ds r h) fun a b oq225 hb => ?_
    obtain rfl := oq225
    rw [ha]
    have e : setAll [] [x, y] [a, b] = [(x, a), (y, b)] := by
      show setV (setV [] x a) y b = _
      simp only [setV, hxy]; rfl
    rw [e]; exact hb K bk
theorem fn3 {G : GC} {mg mb : Str → Option Value} {name x y z : Str} {i n : Nat} {cd : Value} {T : List D → D → Prop} (gr : Grd G mg mb) (dA : DefEx G mg name i cd) (ha : (fnAt pw i).1.args.map (·.arg) = [x, y, z]) (hxy : (y == x) = false) (hxz : (z == x) = false) (hyz : (z == y) = false)
    (hpar : ∀ pm cd doc a b c, bindArgs (docDef name (fnAt pw i).1 (fnAt pw i).2.1 (fnAt pw i).2.2 pm cd doc) ⟨[a, b, c], []⟩ = pure [(x, a), (y, b), (z, c)])
    (hT : ∀ ds r, T ds r → ∃ a b c, ds = [a, b, c] ∧ ∀ K, BodyK K G (fnAt pw i).2.2 n name cd → LX K (fnAt pw i).2.1 (RetIs r) ⟨[(x, a), (y, b), (z, c)], []⟩)
    (hloc : ([x, y, z] : List Str).all (fun x => (fnAt pw i).2.2.names.lookup x == some .local || (fnAt pw i).2.2.names.lookup x == some .cell) = true) (hk : (fnAt pw i).2.2.kind = .function) (hco : (fnAt pw i).2.2.isCoroutine = false) (hgen : (fnAt pw i).2.2.isGenerator = false) : FnC G mg name (n + 1) T := by
  with_reducible refine el_1_1 (dA) fun fa dA => ?_
  have hl : (fnAt pw i).1.args.length = 3 := by have := congrArg List.length ha; simpa using this
  refine fnC_of gr dA (fun pm cd doc vs hv => by rw [ha]; exact par3 (hpar pm cd doc) vs (hv.trans hl)) (fun ds r h => ?_) (by rw [ha]; exact hloc) hk (fun ds r h K bk => ?_) hco hgen
  · (with_reducible refine el_3_2 (hT ds r h) fun a b c oq226 _ => ?_); obtain rfl := oq226; rw [hl]; rfl
  · with_reducible refine el_3_2 (hT ds r h) fun a b c oq227 hb => ?_
    obtain rfl := oq227
    rw [ha]
    have e : setAll [] [x, y, z] [a, b, c] = [(x, a), (y, b), (z, c)] := by
      show setV (setV (setV [] x a) y b) z c = _
      simp [setV, hxy, hxz, hyz]
    rw [e]; exact hb K bk

/-- what the text's top leaves, as the law wants it -/
structure Env01 (G : GC) (mg mb : Str → Option Value) (t1 t2 : Tab) : Prop where
  gr : Grd G mg mb
  gb : BMain G mg
  h1 : TabAt G t1
  h2 : TabAt G t2
  none : ∀ x : Str, (["len", "min", "sum", "isinstance", "divmod", "range", "reversed", "list", "tuple"] : List Str).contains x = true → mg x = none
  case : ∃ t, mg "_CASE_COST" = some (.int 1 t)
  move : ∃ t, mg "_MOVE_COST" = some (.int 2 t)
  size : ∃ t, mg "_MAX_STRING_SIZE" = some (.int 40 t)
  lim : ∃ t, mg "_DIV_LIMIT" = some (.int 4000 t)
  dSubst : ∃ cd, DefEx G mg "_substitution_cost" iSubst cd
  dLev : ∃ cd, DefEx G mg "_levenshtein_distance" iLev cd
  dAddC : ∃ cd, DefEx G mg "add_callers" iAddC cd
  dAddF : ∃ cd, DefEx G mg "add_func_stats" iAddFS cd
  dCount : ∃ cd, DefEx G mg "count_calls" iCount cd
  dDiv2 : ∃ cd, DefEx G mg "_div2n1n" iDiv2 cd
  dDivP : ∃ cd, DefEx G mg "_divmod_pos" iDivP cd
  dDivm : ∃ cd, DefEx G mg "int_divmod" iDivm cd
  dI2d : DefEx G mg "_int2digits" iI2d (.ref t1.code)
  dD2i : DefEx G mg "_digits2int" iD2i (.ref t2.code)
  dWord : ∃ cd, DefEx G mg "_law_word" iWord cd
  dPrice : ∃ cd, DefEx G mg "_law_price" iPrice cd
  dListed : ∃ cd, DefEx G mg "_law_listed" iListed cd
  dDue : ∃ cd, DefEx G mg "_law_due" iDue cd
  dWalked : ∃ cd, DefEx G mg "_law_walked" iWalked cd
  dLaw : ∃ cd, DefEx G mg "law" iLaw cd
theorem law_fn {G : GC} {mg mb : Str → Option Value} {t1 t2 : Tab} (E : Env01 G mg mb t1 t2) (p1 : t1.pos = nestPos pw iI2d 1) (q1 : t1.qual = (("_int2digits" : Str) ++ ".<locals>.") ++ "inner") (p2 : t2.pos = nestPos pw iD2i 0) (q2 : t2.qual = (("_digits2int" : Str) ++ ".<locals>.") ++ "inner") : FnC G mg "law" 69 T_law := by
  have gr := E.gr
  have hlen := E.none "len" (by decide)
  have hmin := E.none "min" (by decide)
  have hsum := E.none "sum" (by decide)
  have hisi := E.none "isinstance" (by decide)
  have hdiv := E.none "divmod" (by decide)
  have hran := E.none "range" (by decide)
  have hrev := E.none "reversed" (by decide)
  have hlis := E.none "list" (by decide)
  have htup := E.none "tuple" (by decide)
  with_reducible refine el_1_1 (E.case) fun u1 hcase => ?_
  with_reducible refine el_1_1 (E.move) fun u2 hmove => ?_
  with_reducible refine el_1_1 (E.size) fun u3 hsize => ?_
  with_reducible refine el_1_1 (E.lim) fun u4 hlim => ?_
  have cSubst : FnC G mg "_substitution_cost" (0 + 1) T_subst := by
    with_reducible refine el_1_1 (E.dSubst) fun cd d => ?_
    refine fn2 (x := "ch_a") (y := "ch_b") gr d (by kernel_rfl!) (by kernel_rfl!) (fun _ _ _ _ _ => by kernel_rfl!) ?_ (by kernel_rfl!) (by kernel_rfl!) (by kernel_rfl!) (by kernel_rfl!)
    intro ds r hT
    refine el_2_2 (hT) fun a b oq228 oq229 => ?_
    try clear hT
    obtain rfl := oq228
    obtain rfl := oq229
    with_reducible exact ⟨_, _, rfl, subst_body gr hcase hmove a b⟩
  have cLev : FnC G mg "_levenshtein_distance" (1 + 1) T_lev := by
    with_reducible refine el_1_1 (E.dLev) fun cd d => ?_
    refine fn3 (x := "a") (y := "b") (z := "max_cost") gr d (by kernel_rfl!) (by kernel_rfl!) (by kernel_rfl!) (by kernel_rfl!) (fun _ _ _ _ _ _ => by kernel_rfl!) ?_ (by kernel_rfl!) (by kernel_rfl!) (by kernel_rfl!) (by kernel_rfl!)
    intro ds r hT
    refine el_3_4 (hT) fun a b m ha hb oq230 oq231 => ?_
    try clear hT
    obtain rfl := oq230
    obtain rfl := oq231
    with_reducible exact ⟨_, _, _, rfl, lev_body gr hsize hmove hlen hmin hlis hran cSubst (by decide) a b m ha hb⟩
  have cAddC : FnC G mg "add_callers" (0 + 1) T_addC := by
    with_reducible refine el_1_1 (E.dAddC) fun cd d => ?_
    refine fn2 (x := "target") (y := "source") gr d (by kernel_rfl!) (by kernel_rfl!) (fun _ _ _ _ _ => by kernel_rfl!) ?_ (by kernel_rfl!) (by kernel_rfl!) (by kernel_rfl!) (by kernel_rfl!)
    intro ds r hT
    refine el_2_4 (hT) fun t s ht hs oq232 oq233 => ?_
    try clear hT
    obtain rfl := oq232
    obtain rfl := oq233
    with_reducible exact ⟨_, _, rfl, addC_body gr hisi htup t s ht hs⟩
  have cAddF : FnC G mg "add_func_stats" (1 + 1) T_addF := by
    with_reducible refine el_1_1 (E.dAddF) fun cd d => ?_
    refine fn2 (x := "target") (y := "source") gr d (by kernel_rfl!) (by kernel_rfl!) (fun _ _ _ _ _ => by kernel_rfl!) ?_ (by kernel_rfl!) (by kernel_rfl!) (by kernel_rfl!) (by kernel_rfl!)
    intro ds r hT
    refine el_2_4 (hT) fun t s ht hs oq234 oq235 => ?_
    try clear hT
    obtain rfl := oq234
    obtain rfl := oq235
    with_reducible exact ⟨_, _, rfl, addF_body gr cAddC (by decide) t s ht hs⟩
  have cCount : FnC G mg "count_calls" (0 + 1) T_count := by
    with_reducible refine el_1_1 (E.dCount) fun cd d => ?_
    refine fn1 (x := "callers") gr d (by kernel_rfl!) (fun _ _ _ _ => by kernel_rfl!) ?_ (by kernel_rfl!) (by kernel_rfl!) (by kernel_rfl!) (by kernel_rfl!)
    intro ds r hT
    refine el_1_2 (hT) fun t oq236 oq237 => ?_
    try clear hT
    obtain rfl := oq236
    obtain rfl := oq237
    with_reducible exact ⟨_, rfl, count_body gr t⟩
  have cI2d : FnC G mg "_int2digits" (64 + 1) T_i2d := by
    refine fn2 (x := "a") (y := "n") gr E.dI2d (by kernel_rfl!) (by kernel_rfl!) (fun _ _ _ _ _ => by kernel_rfl!) ?_ (by kernel_rfl!) (by kernel_rfl!) (by kernel_rfl!) (by kernel_rfl!)
    intro ds r hT
    refine el_2_5 (hT) fun N a hN hN2 hl oq238 oq239 => ?_
    try clear hT
    obtain rfl := oq238
    obtain rfl := oq239
    with_reducible exact ⟨_, _, rfl, i2d_body gr E.gb E.h1 p1 q1 hlen (Nat.le_refl _) N a hN hN2 hl⟩
  have cD2i : FnC G mg "_digits2int" (64 + 1) T_d2i := by
    refine fn2 (x := "digits") (y := "n") gr E.dD2i (by kernel_rfl!) (by kernel_rfl!) (fun _ _ _ _ _ => by kernel_rfl!) ?_ (by kernel_rfl!) (by kernel_rfl!) (by kernel_rfl!) (by kernel_rfl!)
    intro ds r hT
    refine el_2_6 (hT) fun N l hN hN2 hl hld oq240 oq241 => ?_
    try clear hT
    obtain rfl := oq240
    obtain rfl := oq241
    with_reducible exact ⟨_, _, rfl, d2i_body gr E.gb E.h2 p2 q2 hlen (Nat.le_refl _) N l hN hN2 hl hld⟩
  have cDiv2 : FnC G mg "_div2n1n" (0 + 1) T_div2 := by
    with_reducible refine el_1_1 (E.dDiv2) fun cd d => ?_
    refine fn3 (x := "a") (y := "b") (z := "n") gr d (by kernel_rfl!) (by kernel_rfl!) (by kernel_rfl!) (by kernel_rfl!) (fun _ _ _ _ _ _ => by kernel_rfl!) ?_ (by kernel_rfl!) (by kernel_rfl!) (by kernel_rfl!) (by kernel_rfl!)
    intro ds r hT
    refine el_3_5 (hT) fun a b m h1 h2 h3 oq242 oq243 => ?_
    try clear hT
    obtain rfl := oq242
    obtain rfl := oq243
    with_reducible exact ⟨_, _, _, rfl, div2_body gr hlim hdiv a b m h1 h2 h3⟩
  have cDivP : FnC G mg "_divmod_pos" (65 + 1) T_divP := by
    with_reducible refine el_1_1 (E.dDivP) fun cd d => ?_
    refine fn2 (x := "a") (y := "b") gr d (by kernel_rfl!) (by kernel_rfl!) (fun _ _ _ _ _ => by kernel_rfl!) ?_ (by kernel_rfl!) (by kernel_rfl!) (by kernel_rfl!) (by kernel_rfl!)
    intro ds r hT
    refine el_2_3 (hT) fun a b hok oq244 oq245 => ?_
    try clear hT
    obtain rfl := oq244
    obtain rfl := oq245
    with_reducible exact ⟨_, _, rfl, divP_body gr hrev cI2d (by decide) cD2i (by decide) cDiv2 (by decide) a b hok⟩
  have cDivmP : FnC G mg "int_divmod" (66 + 1) T_divmP := by
    with_reducible refine el_1_1 (E.dDivm) fun cd d => ?_
    refine fn2 (x := "a") (y := "b") gr d (by kernel_rfl!) (by kernel_rfl!) (fun _ _ _ _ _ => by kernel_rfl!) ?_ (by kernel_rfl!) (by kernel_rfl!) (by kernel_rfl!) (by kernel_rfl!)
    intro ds r hT
    refine el_2_3 (hT) fun a b hok oq246 oq247 => ?_
    try clear hT
    obtain rfl := oq246
    obtain rfl := oq247
    with_reducible exact ⟨_, _, rfl, divm_body gr cDivP (by decide) a b hok⟩
  have cDivm : FnC G mg "int_divmod" (67 + 1) T_divm := by
    with_reducible refine el_1_1 (E.dDivm) fun cd d => ?_
    refine fn2 (x := "a") (y := "b") gr d (by kernel_rfl!) (by kernel_rfl!) (fun _ _ _ _ _ => by kernel_rfl!) ?_ (by kernel_rfl!) (by kernel_rfl!) (by kernel_rfl!) (by kernel_rfl!)
    intro ds r hT
    refine el_2_4 (hT) fun a b h1 h2 oq248 oq249 => ?_
    try clear hT
    obtain rfl := oq248
    obtain rfl := oq249
    refine ⟨_, _, rfl, ?_⟩
    by_cases h0 : 0 ≤ a
    · have := divm_body (n := 67) (name := "int_divmod") (cd := cd) gr cDivP (by decide) a.toNat b (h1 h0)
      rw [Int.toNat_of_nonneg h0] at this
      exact this
    · exact divmN_body gr cDivmP (by decide) a (by (first | lia | omega)) b (h2 (by (first | lia | omega)))
  have cWord : FnC G mg "_law_word" (0 + 1) T_word1 := by
    with_reducible refine el_1_1 (E.dWord) fun cd d => ?_
    refine fn1 (x := "numbers") gr d (by kernel_rfl!) (fun _ _ _ _ => by kernel_rfl!) ?_ (by kernel_rfl!) (by kernel_rfl!) (by kernel_rfl!) (by kernel_rfl!)
    intro ds r hT
    refine el_1_3 (hT) fun ns hns oq250 oq251 => ?_
    try clear hT
    obtain rfl := oq250
    obtain rfl := oq251
    with_reducible exact ⟨_, rfl, word01_body gr ns hns⟩
  have cPrice : FnC G mg "_law_price" (0 + 1) T_price := by
    with_reducible refine el_1_1 (E.dPrice) fun cd d => ?_
    refine fn2 (x := "x") (y := "y") gr d (by kernel_rfl!) (by kernel_rfl!) (fun _ _ _ _ _ => by kernel_rfl!) ?_ (by kernel_rfl!) (by kernel_rfl!) (by kernel_rfl!) (by kernel_rfl!)
    intro ds r hT
    refine el_2_2 (hT) fun a b oq252 oq253 => ?_
    try clear hT
    obtain rfl := oq252
    obtain rfl := oq253
    with_reducible exact ⟨_, _, rfl, price_body gr a b⟩
  have cListed : FnC G mg "_law_listed" (1 + 1) T_listed := by
    with_reducible refine el_1_1 (E.dListed) fun cd d => ?_
    refine fn2 (x := "one") (y := "two") gr d (by kernel_rfl!) (by kernel_rfl!) (fun _ _ _ _ _ => by kernel_rfl!) ?_ (by kernel_rfl!) (by kernel_rfl!) (by kernel_rfl!) (by kernel_rfl!)
    intro ds r hT
    refine el_2_4 (hT) fun a b ha hb oq254 oq255 => ?_
    try clear hT
    obtain rfl := oq254
    obtain rfl := oq255
    with_reducible exact ⟨_, _, rfl, listed_body gr hran hlen cPrice (by decide) a b ha hb⟩
  have cDue : FnC G mg "_law_due" (0 + 1) T_due := by
    with_reducible refine el_1_1 (E.dDue) fun cd d => ?_
    refine fn3 (x := "told") (y := "size") (z := "width") gr d (by kernel_rfl!) (by kernel_rfl!) (by kernel_rfl!) (by kernel_rfl!) (fun _ _ _ _ _ _ => by kernel_rfl!) ?_ (by kernel_rfl!) (by kernel_rfl!) (by kernel_rfl!) (by kernel_rfl!)
    intro ds r hT
    refine el_3_6 (hT) fun told size w h1 h2 h3 h4 oq256 oq257 => ?_
    try clear hT
    obtain rfl := oq256
    obtain rfl := oq257
    with_reducible exact ⟨_, _, _, rfl, due_body gr hsum told size w h1 h2 h3 h4⟩
  have cWalked : FnC G mg "_law_walked" (2 + 1) T_walked := by
    with_reducible refine el_1_1 (E.dWalked) fun cd d => ?_
    refine fn3 (x := "one") (y := "two") (z := "width") gr d (by kernel_rfl!) (by kernel_rfl!) (by kernel_rfl!) (by kernel_rfl!) (fun _ _ _ _ _ _ => by kernel_rfl!) ?_ (by kernel_rfl!) (by kernel_rfl!) (by kernel_rfl!) (by kernel_rfl!)
    intro ds r hT
    refine el_3_7 (hT) fun a b w ha hb hw h1 h2 oq258 oq259 => ?_
    try clear hT
    obtain rfl := oq258
    obtain rfl := oq259
    with_reducible exact ⟨_, _, _, rfl, walked_body gr hran hlen cCount (by decide) cSubst (by decide) cAddF (by decide) a b w ha hb hw h1 h2⟩
  with_reducible refine el_1_1 (E.dLaw) fun cd d => ?_
  refine fn1 (n := 68) (x := "script") gr d (by kernel_rfl!) (fun _ _ _ _ => by kernel_rfl!) ?_ (by kernel_rfl!) (by kernel_rfl!) (by kernel_rfl!) (by kernel_rfl!)
  intro ds r hT
  refine el_1_3 (hT) fun script hl oq260 oq261 => ?_
  try clear hT
  obtain rfl := oq260
  obtain rfl := oq261
  with_reducible exact ⟨_, rfl, law01_body gr hran hsum hlen hmin cWord (by decide) cListed (by decide) cWalked (by decide) cDue (by decide) cLev (by decide) cCount (by decide) cI2d (by decide) cDivm (by decide) script hl (law01_ok script)⟩

noncomputable def recPos (p : Program) (k : Nat) : Pos := match (recsOf p)[k]? with
  | some d => d.pos
  | none => default
section
variable {p : Program} {loose : List Str} {mean : ExcName → Option Value} {mg mb : Str → Option Value} {h : Heap} {tabs : List (Addr × Addr)} {G : GC} {name : Str} {i k : Nat} {K : Frag}
theorem codeRec_ghost {cd : Value} (hT : TabsAt tabs h) (c : h.CodeRec cd name) : (ghostOf h tabs).CodeRec cd name := by
  refine el_4_4 (c) fun c o vs t e g hd hv => ?_
  refine ⟨c, o, vs, t, e, ghost_get hT g (fun q => ?_), hd, hv⟩
  rw [q] at hd
  cases hd
  simp at hv
theorem env_def (T : Top p loose mean mg mb h) (hT : TabsAt tabs h) (hG : G.gh = ghostOf h tabs) (hr : (recsOf p)[k]? = some ⟨name, (fnAt pw i).1, (fnAt pw i).2.1, (fnAt pw i).2.2, recPos p k⟩) : ∃ cd, DefEx G mg name i cd := by
  with_reducible refine el_5_4 (T.fn _ (List.mem_of_getElem? hr)) fun a o pm cd doc h1 h2 h3 h4 => ?_
  refine ⟨cd, a, h1, ⟨o, pm, doc, ?_, h3⟩, ?_⟩
  · rw [hG]; exact ghost_get hT h2 (fun q => by rw [q] at h3; cases h3)
  · rw [hG]; exact codeRec_ghost hT h4
theorem env_defC (T : Top p loose mean mg mb h) (hT : TabsAt tabs h) (hG : G.gh = ghostOf h tabs) (X : K.In h) {c P : Addr} (ht : tabIn K name = some (c, P)) (hr : (recsOf p)[k]? = some ⟨name, (fnAt pw i).1, (fnAt pw i).2.1, (fnAt pw i).2.2, recPos p k⟩) : DefEx G mg name i (.ref c) := by
  with_reducible refine el_5_4 (T.fn _ (List.mem_of_getElem? hr)) fun a o pm cd doc h1 h2 h3 h4 => ?_
  have hcd : cd = .ref c := law_code X T.g ht h1 h2 h3
  subst hcd
  refine ⟨a, h1, ⟨o, pm, doc, ?_, h3⟩, ?_⟩
  · rw [hG]; exact ghost_get hT h2 (fun q => by rw [q] at h3; cases h3)
  · rw [hG]; exact codeRec_ghost hT h4
theorem env_int (T : Top p loose mean mg mb h) {x : Str} {i : Int} (hv : valOf p x = some (.int i)) : ∃ t, mg x = some (.int i t) := by
  with_reducible refine el_1_2 (T.const x _ hv) fun v h1 h2 => ?_
  have := h2 h
  cases this
  exact ⟨_, h1⟩
theorem env_grd (T : Top p loose mean mg mb h) (hT : TabsAt tabs h) (hG : G.gh = ghostOf h tabs) : Grd G mg mb := by
  refine ⟨by rw [hG]; exact ghost_ns hT T.g, by rw [hG]; exact ghost_ns hT T.b, ?_, T.builtins⟩
  rw [hG]
  refine el_1_2 (T.nolimit) fun mc a r => ?_
  exact ⟨mc, ghost_ns hT a, r⟩
theorem env_bmain (T : Top p loose mean mg mb h) (hT : TabsAt tabs h) (hG : G.gh = ghostOf h tabs) : BMain G mg := by
  with_reducible refine el_2_6 (T.bmain) fun bm ob h1 h2 h3 h4 h5 h6 => ?_
  exact ⟨bm, ob, h1, h2, by rw [hG]; exact ghost_get hT h3 (fun q => by rw [q] at h4; cases h4), h4, h5, h6⟩
theorem env_tab (hT : TabsAt tabs h) (hG : G.gh = ghostOf h tabs) {t : Tab} (ht : t ∈ G.tabs) (hm : (t.code, t.tab) ∈ tabs) (hu : ∀ t' ∈ G.tabs, t'.tab = t.tab → t' = t) : TabAt G t := by
  refine ⟨ht, ?_, hu⟩
  rw [hG]
  refine el_6_1 ((hT _ hm).1) fun o vs file tf flags tg oq262 => ?_
  obtain ⟨inF, text, tt, e1, r1, r2, r3, r4, r5, r6, r7, r8, hne⟩ := oq262
  exact ⟨o, vs, file, tf, flags, tg, inF, text, tt, ghost_get hT e1 (fun q => by rw [q] at r1; cases r1), r1, r2, r3, r4, r5, r6, r7, r8, hne⟩
end
/-- the world of the call -/
theorem gs_start {G : GC} {s : Shared} {tabs : List (Addr × Addr)} (hT : TabsAt tabs s.heap) (hG : G.gh = ghostOf s.heap tabs) (hr : G.rest = s) (ht : ∀ t ∈ G.tabs, (t.code, t.tab) ∈ tabs) : GS G (fun a => (ghostOf s.heap tabs).get? a) s := by
  refine ⟨⟨s.heap, s.toks, by rw [hr]⟩, fun a o e => by rw [hG] at e; exact e, fun a o e => of_hideAll _ e, fun t hm => ⟨⟨#[], (hT _ (ht t hm)).2, .inl rfl⟩, ?_⟩⟩
  exact hideAll_none _ (List.mem_map.mpr ⟨_, ht t hm, rfl⟩)
theorem rvs_ints {P : Params} {h : Heap} {Φ : FMap} {vs : List Value} {ns : List Int} (w : WellAll P h vs (ofPys (ns.map .int))) : RVs Φ vs (ns.map .int) := by
  induction ns generalizing vs with
  | nil => cases w; exact .nil
  | cons n ns ih => cases w with
    | cons a b => cases a; exact .cons (.int _ _) (ih b)
theorem rv_script {P : Params} {h : Heap} {tabs : List (Addr × Addr)} (hT : TabsAt tabs h) {v : Value} {ns : List Int} (w : Well P h v (ofPy (.list (ns.map .int)))) : RV (fun a => (ghostOf h tabs).get? a) v (.list (ns.map .int)) := by
  cases w with
  | list e r => exact .list (n := 0) (ghost_get hT e (fun q => by cases q)) (rvs_ints r)
/-- from the contract to the claim -/
theorem law_end {cw : ClaimW} {cl : Str → Option Addr} {mean : ExcName → Option Value} {args : List WData} {G : GC} {s s' : Shared} {tabs : List (Addr × Addr)} {res : Result} (hT : TabsAt tabs s.heap) (hG : G.gh = ghostOf s.heap tabs) (ht1 : ∀ t ∈ G.tabs, (t.code, t.tab) ∈ tabs) (ht2 : ∀ q ∈ tabs, ∃ t ∈ G.tabs, t.tab = q.2)
    (hgens : s.gens = #[]) (hr : ∀ c, cw.raises args c = false) (hp : cw.post args (.bool true) args = true)
    (h : ∃ v, res = .ok (.ret v) ∧ Behind G (fun a => (ghostOf s.heap tabs).get? a) s (.bool true) v s') : GoodW cw cl mean args { s with heap := ghostOf s.heap tabs } res s' ∧ GrownAll tabs s'.heap := by
  obtain ⟨v, rfl, Φ', h', tk, rfl, hk, htab, hle, hn, hv⟩ := h
  cases hv
  refine ⟨⟨.inl ⟨.bool true, .bool true, [], rfl, hr, .bool true, hp, fun _ => ⟨List.nodup_nil, fun a ha => by cases ha⟩⟩, fun b o e => ?_, rfl, hgens⟩, ?_⟩
  · refine hk b o (of_hideAll _ e) fun t htm q => ?_
    have : (ghostOf s.heap tabs).get? b = none := hideAll_none _ (List.mem_map.mpr ⟨_, ht1 t htm, q⟩)
    rw [this] at e; cases e
  · have key : ∀ q ∈ tabs, GrownAt q.2 h' := fun q hq => by
      with_reducible refine el_1_2 (ht2 q hq) fun t ht e => ?_
      refine el_1_2 (htab t ht) fun ps e2 _ => ?_
      exact ⟨ps, by rw [← e]; exact e2⟩
    clear hT hG ht1 ht2 hr hp hk htab hle hn
    induction tabs with
    | nil => trivial
    | cons q r ih => exact ⟨key q (.head _), ih fun q' hq' => key q' (.tail _ hq')⟩

set_option maxHeartbeats 8000000
def nthL {α : Type} (d : α) : List α → Nat → α
  | [], _ => d
  | a :: _, 0 => a
  | _ :: r, n + 1 => nthL d r n
def c0 : Stmt := nthL default PySem.Challenge.pw_pk0098_01.main.body 0
def c1 : Stmt := nthL default PySem.Challenge.pw_pk0098_01.main.body 1
def c2 : Stmt := nthL default PySem.Challenge.pw_pk0098_01.main.body 2
def c3 : Stmt := nthL default PySem.Challenge.pw_pk0098_01.main.body 3
def c4 : Stmt := nthL default PySem.Challenge.pw_pk0098_01.main.body 4
def c5 : Stmt := nthL default PySem.Challenge.pw_pk0098_01.main.body 5
def c6 : Stmt := nthL default PySem.Challenge.pw_pk0098_01.main.body 6
def c7 : Stmt := nthL default PySem.Challenge.pw_pk0098_01.main.body 7
def c8 : Stmt := nthL default PySem.Challenge.pw_pk0098_01.main.body 8
def c9 : Stmt := nthL default PySem.Challenge.pw_pk0098_01.main.body 9
def c10 : Stmt := nthL default PySem.Challenge.pw_pk0098_01.main.body 10
def c11 : Stmt := nthL default PySem.Challenge.pw_pk0098_01.main.body 11
def c12 : Stmt := nthL default PySem.Challenge.pw_pk0098_01.main.body 12
def c13 : Stmt := nthL default PySem.Challenge.pw_pk0098_01.main.body 13
def c14 : Stmt := nthL default PySem.Challenge.pw_pk0098_01.main.body 14
def c15 : Stmt := nthL default PySem.Challenge.pw_pk0098_01.main.body 15
def c16 : Stmt := nthL default PySem.Challenge.pw_pk0098_01.main.body 16
def c17 : Stmt := nthL default PySem.Challenge.pw_pk0098_01.main.body 17
def c18 : Stmt := nthL default PySem.Challenge.pw_pk0098_01.main.body 18
def c19 : Stmt := nthL default PySem.Challenge.pw_pk0098_01.main.body 19
def c20 : Stmt := nthL default PySem.Challenge.pw_pk0098_01.main.body 20
def c21 : Stmt := nthL default PySem.Challenge.pw_pk0098_01.main.body 21
def c22 : Stmt := nthL default PySem.Challenge.pw_pk0098_01.main.body 22
def c23 : Stmt := nthL default PySem.Challenge.pw_pk0098_01.main.body 23
def c24 : Stmt := nthL default PySem.Challenge.pw_pk0098_01.main.body 24
def pw2 : Program := { PySem.Challenge.pw_pk0098_01 with main := { PySem.Challenge.pw_pk0098_01.main with body := [c0, c1, c2, c3, c4, c5, c6, c7, c8, c9, c10, c11, c12, c13, c14, c15, c16, c17, c18, c19, c20, c21, c22, c23, c24] } }
/-- the library's quick looks ask for the program in another spelling; it is left as it is -/
noncomputable def joined2.tw4604788270628939273 : Program := PySem.Challenge.pw_pk0098_01
theorem joined2.te4604788270628939273 : PySem.Challenge.pw_pk0098_01 = joined2.tw4604788270628939273 := rfl

/-! the library's quick looks are to leave these as they are -/
noncomputable def joined2.tw12333439804764084937 : Unit := ()
noncomputable def joined2.tw16000376686920124506 : Unit := ()
noncomputable def joined2.tw10645520813989835193 : Unit := ()
noncomputable def joined2.tw12602351147761089395 : Unit := ()
noncomputable def joined2.tw3014372636559336379 : Unit := ()
noncomputable def joined2.tw10060625897520813982 : Unit := ()
noncomputable def joined2.tw17300051918578220528 : Unit := ()
noncomputable def joined2.tw16832857367522091114 : Unit := ()
noncomputable def joined2.tw660063837011539553 : Unit := ()
noncomputable def joined2.tw394465959366448093 : Unit := ()
noncomputable def joined2.tw4409461378073060176 : Unit := ()
noncomputable def joined2.tw17685280685312528188 : Unit := ()
noncomputable def joined2.tw4672292231743930486 : Unit := ()
noncomputable def joined2.tw13148420810045549635 : Unit := ()
noncomputable def joined2.tw16871347764214866774 : Unit := ()
noncomputable def joined2.tw6272401493426090523 : Unit := ()
noncomputable def joined2.tw1704335514048282784 : Unit := ()
noncomputable def joined2.tw16240309506217274120 : Unit := ()
noncomputable def joined2.tw13037280780134966984 : Unit := ()
noncomputable def joined2.tw15361592137727831807 : Unit := ()
noncomputable def joined2.tw16893407514453392277 : Unit := ()
noncomputable def joined2.tw14731473244992626064 : Unit := ()
noncomputable def joined2.tw12307157915048118375 : Unit := ()
noncomputable def joined2.tw3332203933347594514 : Unit := ()
noncomputable def joined2.tw2926909918698626197 : Unit := ()
noncomputable def joined2.tw17590882305600175562 : Unit := ()
noncomputable def joined2.tw8749218820294162601 : Unit := ()
noncomputable def joined2.tw6132180752736928421 : Unit := ()
noncomputable def joined2.tw16893904467418186913 : Unit := ()
noncomputable def joined2.tw5011003761571901656 : Unit := ()
noncomputable def joined2.tw10707021632249673489 : Unit := ()
noncomputable def joined2.tw5701967646114673172 : Unit := ()
noncomputable def joined2.tw16140157284417568197 : Unit := ()
noncomputable def joined2.tw11062995713777056689 : Unit := ()
noncomputable def joined2.tw14243529734166940354 : Unit := ()
noncomputable def joined2.tw13843718055911688496 : Unit := ()
noncomputable def joined2.tw5355708249363717696 : Unit := ()
noncomputable def joined2.tw2578226530767675080 : Unit := ()
noncomputable def joined2.tw13296950370664299412 : Unit := ()
noncomputable def joined2.tw15347035646890085108 : Unit := ()
noncomputable def joined2.tw15993803374610528656 : Unit := ()
noncomputable def joined2.tw15261019595057968037 : Unit := ()
noncomputable def joined2.tw13583231595879956698 : Unit := ()
noncomputable def joined2.tw8248450567965632678 : Unit := ()
noncomputable def joined2.tw598763491559422100 : Unit := ()
noncomputable def joined2.tw11096258348918982992 : Unit := ()
noncomputable def joined2.tw11910979602313465040 : Unit := ()
noncomputable def joined2.tw16230431247153806760 : Unit := ()
noncomputable def joined2.tw8302456290187378152 : Unit := ()
noncomputable def joined2.tw10775295025947086953 : Unit := ()
noncomputable def joined2.tw17022571641609179570 : Unit := ()
noncomputable def joined2.tw18249229242467823965 : Unit := ()
noncomputable def joined2.tw2212565820607525012 : Unit := ()
noncomputable def joined2.tw1368943402130444516 : Unit := ()
noncomputable def joined2.tw502691580207704465 : Unit := ()
noncomputable def joined2.tw2536564498064458622 : Unit := ()
noncomputable def joined2.tw10720861681300752560 : Unit := ()
noncomputable def joined2.tw318985481658511656 : Unit := ()
noncomputable def joined2.tw9172188298212671993 : Unit := ()
noncomputable def joined2.tw11266177849196688160 : Unit := ()
noncomputable def joined2.tw18003732043015787235 : Unit := ()
noncomputable def joined2.tw7155206144159892506 : Unit := ()
noncomputable def joined2.tw15697085035550799662 : Unit := ()
noncomputable def joined2.tw13154924798208505679 : Unit := ()
noncomputable def joined2.tw6619081182390518241 : Unit := ()
noncomputable def joined2.tw8095255336797174359 : Unit := ()
noncomputable def joined2.tw4522243622793716601 : Unit := ()
noncomputable def joined2.tw14687552723046748983 : Unit := ()
noncomputable def joined2.tw985146576912750339 : Unit := ()
noncomputable def joined2.tw9844307321364474450 : Unit := ()
noncomputable def joined2.tw4162034103482936044 : Unit := ()
noncomputable def joined2.tw3179753482308751464 : Unit := ()
noncomputable def joined2.tw17124801139116311958 : Unit := ()
noncomputable def joined2.tw10975708382626470571 : Unit := ()
noncomputable def joined2.tw10235526975260899340 : Unit := ()
noncomputable def joined2.tw2388253881431885397 : Unit := ()
noncomputable def joined2.tw6369724431137265764 : Unit := ()
noncomputable def joined2.tw3134823133523644192 : Unit := ()
noncomputable def joined2.tw12997755334959185599 : Unit := ()
noncomputable def joined2.tw16113704832197724611 : Unit := ()
noncomputable def joined2.tw13037152793729317879 : Unit := ()
def rw2 : PySem.W.OpenLaw := { prog := pw2, name := (PySem.Str.ofString "law"), about := [(PySem.Str.ofString "_levenshtein_distance")], foot := 6, most := some 63, bound := none, writes := false }
noncomputable def hk01 : Hook := tabsHook [3, 48, 49, 55, 56] [("_int2digits", 48, 44), ("_digits2int", 55, 51)]
set_option Elab.async true in
theorem joined2 : rw2.Holds := by
  (w_on; o_law; o_head hk01; (case hw => w_witness2))
  intro w s₀ s₁ mg mb G Y fa o pm cd doc dV kV ho hd' hcd hD hmg hg args vals as hpre hlay hrd hwl hlo
  refine el_1_2 (tabs_says Y) fun K KX hK => ?_
  have k1 := hK _ (.head _)
  have k2 := hK _ (.tail _ (.head _))
  clear hK Y
  have X := (Ground.X G).1
  have V := (Ground.X G).2
  refine Ground.open G ?_
  intro T B D TE TW
  try (refine guard_noD D (by decide +kernel) ?_; clear D)
  have hT9 : TabsAt [((55 : Addr), (51 : Addr)), (48, 44)] s₁.heap := List.forall_mem_cons.mpr ⟨tab_is T KX k2 (by kernel_rfl!), List.forall_mem_cons.mpr ⟨tab_is T KX k1 (by kernel_rfl!), fun _ h => nomatch h⟩⟩
  have hnone := top_none T (l := ["len", "min", "sum", "isinstance", "divmod", "range", "reversed", "list", "tuple"]) (by kernel_rfl!)
  wrow_args hpre hlay hrd hwl hlo
  all_goals (
    first | refine callC_kw (enter_call ?_) | refine enter_call ?_
    w_top on)
  rename_i script _ _ _ _ _ _ _ lst _ _ _ _ wl _ _ _ _ _
  have hl63 : script.length ≤ 63 := by omega
  let t1 : Tab := ⟨48, 44, nestPos pw iI2d 1, (("_int2digits" : Str) ++ ".<locals>.") ++ "inner"⟩
  let t2 : Tab := ⟨55, 51, nestPos pw iD2i 0, (("_digits2int" : Str) ++ ".<locals>.") ++ "inner"⟩
  let GG : GC := ⟨rw2.row.prog, w, ghostOf s₁.heap [(55, 51), (48, 44)], [t1, t2], s₁⟩
  have hG : GG.gh = ghostOf s₁.heap [(55, 51), (48, 44)] := rfl
  have m1 : t1 ∈ GG.tabs := .head _
  have m2 : t2 ∈ GG.tabs := .tail _ (.head _)
  have mall : ∀ t ∈ GG.tabs, t = t1 ∨ t = t2 := fun t ht => by
    have ht' : t ∈ [t1, t2] := ht
    simpa using ht'
  have mt : ∀ t ∈ GG.tabs, (t.code, t.tab) ∈ [((55 : Addr), (51 : Addr)), (48, 44)] := fun t ht => by
    rcases mall t ht with rfl | rfl
    · exact .tail _ (.head _)
    · exact .head _
  have mt2 : ∀ q ∈ [((55 : Addr), (51 : Addr)), (48, 44)], ∃ t ∈ GG.tabs, t.tab = q.2 := fun q hq => by
    simp only [List.mem_cons, List.not_mem_nil, or_false] at hq
    rcases hq with rfl | rfl
    · exact ⟨t2, m2, rfl⟩
    · exact ⟨t1, m1, rfl⟩
  have hne' : (51 : Addr) ≠ 44 := by decide
  have EV : Env01 GG mg mb t1 t2 := by
    refine ⟨env_grd T hT9 hG, env_bmain T hT9 hG, env_tab hT9 hG m1 (.tail _ (.head _)) ?_, env_tab hT9 hG m2 (.head _) ?_, ?_, env_int T (by kernel_rfl!), env_int T (by kernel_rfl!), env_int T (by kernel_rfl!), env_int T (by kernel_rfl!),
      env_def (k := 0) T hT9 hG (by kernel_rfl!), env_def (k := 1) T hT9 hG (by kernel_rfl!), env_def (k := 9) T hT9 hG (by kernel_rfl!), env_def (k := 8) T hT9 hG (by kernel_rfl!), env_def (k := 10) T hT9 hG (by kernel_rfl!), env_def (k := 2) T hT9 hG (by kernel_rfl!), env_def (k := 6) T hT9 hG (by kernel_rfl!), env_def (k := 7) T hT9 hG (by kernel_rfl!), env_defC (k := 4) (P := 44) T hT9 hG KX k1 (by kernel_rfl!), env_defC (k := 5) (P := 51) T hT9 hG KX k2 (by kernel_rfl!), env_def (k := 11) T hT9 hG (by kernel_rfl!), env_def (k := 12) T hT9 hG (by kernel_rfl!), env_def (k := 13) T hT9 hG (by kernel_rfl!), env_def (k := 14) T hT9 hG (by kernel_rfl!), env_def (k := 15) T hT9 hG (by kernel_rfl!), env_def (k := 16) T hT9 hG (by kernel_rfl!)⟩
    · intro t' ht' e
      rcases mall t' ht' with rfl | rfl
      · rfl
      · exact absurd e hne'
    · intro t' ht' e
      rcases mall t' ht' with rfl | rfl
      · exact absurd e.symm hne'
      · rfl
    · exact fun x hx => hnone x (by simpa using hx)
  refine el_1_3 (law_fn EV rfl rfl rfl rfl) fun fa' hm' _ hc => ?_
  have hfa : fa = fa' := by
    have e : some (Value.ref fa) = some (Value.ref fa') := hmg.symm.trans hm'
    cases e; rfl
  subst hfa
  have key := hc _ _ ⟨script, hl63, rfl, rfl⟩ callerA s₁ _ _ ⟨rfl, by decide, by decide⟩ (gs_start hT9 hG rfl mt) (.cons (rv_script hT9 wl) .nil)
  refine kn_post hT9 (fun _ _ => rfl) ?_
  exact codeAny_mono key fun res s' h => law_end hT9 hG mt mt2 hg (fun _ => rfl) (by wrow_post) h

theorem rw2_eq : PySem.Challenge.rw_pk0098_01 = rw2 := by kernel_rfl!
theorem joined : PySem.Challenge.rw_pk0098_01.Holds := by
  rw [rw2_eq]
  exact joined2
end Mine
theorem PySem.Challenge.cw_pk0098_01_holds : PySem.Challenge.rw_pk0098_01.Holds := by
  exact Mine.joined
