import PyProof.Rows.All
import PyProof.AttrMissHeap
import PyProof.CodeObjX
import PyProof.DefMake
import Wide.ObjOpen
import OpenK.KCall
import Open.Line
import KE.KUnpack
import KE.KDictOf
import Wide.All
import Lean
import PySem.Challenge.RW_ij0206_01
set_option Elab.async false
set_option autoImplicit false
set_option linter.unusedVariables false
set_option linter.unusedSimpArgs false
set_option maxRecDepth 100000
set_option maxHeartbeats 4000000
set_option genSizeOf false
set_option genInjectivity false
open PySem PySem.W PySem.Calls PyProof.Rows
namespace Mine
theorem rsk {α : Sort _} {a : α} {P : Prop} (h : P) : a = a → P := fun _ => h
theorem x0_3 {A0 A1 A2 : Prop} {P : Prop} (h : A0 ∧ A1 ∧ A2) (f : A0 → A1 → A2 → P) : P := f h.1 h.2.1 h.2.2
theorem x0_4 {A0 A1 A2 A3 : Prop} {P : Prop} (h : A0 ∧ A1 ∧ A2 ∧ A3) (f : A0 → A1 → A2 → A3 → P) : P := f h.1 h.2.1 h.2.2.1 h.2.2.2
theorem x0_6 {A0 A1 A2 A3 A4 A5 : Prop} {P : Prop} (h : A0 ∧ A1 ∧ A2 ∧ A3 ∧ A4 ∧ A5) (f : A0 → A1 → A2 → A3 → A4 → A5 → P) : P := f h.1 h.2.1 h.2.2.1 h.2.2.2.1 h.2.2.2.2.1 h.2.2.2.2.2
theorem x1_2 {α0 : Sort _} {A0 A1 : α0 → Prop} {P : Prop} (h : ∃ a0, A0 a0 ∧ A1 a0) (f : ∀ a0, A0 a0 → A1 a0 → P) : P := h.elim fun a0 e0 => f a0 e0.1 e0.2
theorem x1_3 {α0 : Sort _} {A0 A1 A2 : α0 → Prop} {P : Prop} (h : ∃ a0, A0 a0 ∧ A1 a0 ∧ A2 a0) (f : ∀ a0, A0 a0 → A1 a0 → A2 a0 → P) : P := h.elim fun a0 e0 => f a0 e0.1 e0.2.1 e0.2.2
theorem x1_4 {α0 : Sort _} {A0 A1 A2 A3 : α0 → Prop} {P : Prop} (h : ∃ a0, A0 a0 ∧ A1 a0 ∧ A2 a0 ∧ A3 a0) (f : ∀ a0, A0 a0 → A1 a0 → A2 a0 → A3 a0 → P) : P := h.elim fun a0 e0 => f a0 e0.1 e0.2.1 e0.2.2.1 e0.2.2.2
theorem x1_6 {α0 : Sort _} {A0 A1 A2 A3 A4 A5 : α0 → Prop} {P : Prop} (h : ∃ a0, A0 a0 ∧ A1 a0 ∧ A2 a0 ∧ A3 a0 ∧ A4 a0 ∧ A5 a0) (f : ∀ a0, A0 a0 → A1 a0 → A2 a0 → A3 a0 → A4 a0 → A5 a0 → P) : P := h.elim fun a0 e0 => f a0 e0.1 e0.2.1 e0.2.2.1 e0.2.2.2.1 e0.2.2.2.2.1 e0.2.2.2.2.2
theorem x2_1 {α0 α1 : Sort _} {A0 : α0 → α1 → Prop} {P : Prop} (h : ∃ a0 a1, A0 a0 a1) (f : ∀ a0 a1, A0 a0 a1 → P) : P := h.elim fun a0 e0 => e0.elim fun a1 e1 => f a0 a1 e1
theorem x2_2 {α0 α1 : Sort _} {A0 A1 : α0 → α1 → Prop} {P : Prop} (h : ∃ a0 a1, A0 a0 a1 ∧ A1 a0 a1) (f : ∀ a0 a1, A0 a0 a1 → A1 a0 a1 → P) : P := h.elim fun a0 e0 => e0.elim fun a1 e1 => f a0 a1 e1.1 e1.2
theorem x2_3 {α0 α1 : Sort _} {A0 A1 A2 : α0 → α1 → Prop} {P : Prop} (h : ∃ a0 a1, A0 a0 a1 ∧ A1 a0 a1 ∧ A2 a0 a1) (f : ∀ a0 a1, A0 a0 a1 → A1 a0 a1 → A2 a0 a1 → P) : P := h.elim fun a0 e0 => e0.elim fun a1 e1 => f a0 a1 e1.1 e1.2.1 e1.2.2
theorem x2_6 {α0 α1 : Sort _} {A0 A1 A2 A3 A4 A5 : α0 → α1 → Prop} {P : Prop} (h : ∃ a0 a1, A0 a0 a1 ∧ A1 a0 a1 ∧ A2 a0 a1 ∧ A3 a0 a1 ∧ A4 a0 a1 ∧ A5 a0 a1) (f : ∀ a0 a1, A0 a0 a1 → A1 a0 a1 → A2 a0 a1 → A3 a0 a1 → A4 a0 a1 → A5 a0 a1 → P) : P := h.elim fun a0 e0 => e0.elim fun a1 e1 => f a0 a1 e1.1 e1.2.1 e1.2.2.1 e1.2.2.2.1 e1.2.2.2.2.1 e1.2.2.2.2.2
theorem x3_1 {α0 α1 α2 : Sort _} {A0 : α0 → α1 → α2 → Prop} {P : Prop} (h : ∃ a0 a1 a2, A0 a0 a1 a2) (f : ∀ a0 a1 a2, A0 a0 a1 a2 → P) : P := h.elim fun a0 e0 => e0.elim fun a1 e1 => e1.elim fun a2 e2 => f a0 a1 a2 e2
theorem x3_2 {α0 α1 α2 : Sort _} {A0 A1 : α0 → α1 → α2 → Prop} {P : Prop} (h : ∃ a0 a1 a2, A0 a0 a1 a2 ∧ A1 a0 a1 a2) (f : ∀ a0 a1 a2, A0 a0 a1 a2 → A1 a0 a1 a2 → P) : P := h.elim fun a0 e0 => e0.elim fun a1 e1 => e1.elim fun a2 e2 => f a0 a1 a2 e2.1 e2.2
theorem x3_3 {α0 α1 α2 : Sort _} {A0 A1 A2 : α0 → α1 → α2 → Prop} {P : Prop} (h : ∃ a0 a1 a2, A0 a0 a1 a2 ∧ A1 a0 a1 a2 ∧ A2 a0 a1 a2) (f : ∀ a0 a1 a2, A0 a0 a1 a2 → A1 a0 a1 a2 → A2 a0 a1 a2 → P) : P := h.elim fun a0 e0 => e0.elim fun a1 e1 => e1.elim fun a2 e2 => f a0 a1 a2 e2.1 e2.2.1 e2.2.2
theorem x3_4 {α0 α1 α2 : Sort _} {A0 A1 A2 A3 : α0 → α1 → α2 → Prop} {P : Prop} (h : ∃ a0 a1 a2, A0 a0 a1 a2 ∧ A1 a0 a1 a2 ∧ A2 a0 a1 a2 ∧ A3 a0 a1 a2) (f : ∀ a0 a1 a2, A0 a0 a1 a2 → A1 a0 a1 a2 → A2 a0 a1 a2 → A3 a0 a1 a2 → P) : P := h.elim fun a0 e0 => e0.elim fun a1 e1 => e1.elim fun a2 e2 => f a0 a1 a2 e2.1 e2.2.1 e2.2.2.1 e2.2.2.2
theorem x3_6 {α0 α1 α2 : Sort _} {A0 A1 A2 A3 A4 A5 : α0 → α1 → α2 → Prop} {P : Prop} (h : ∃ a0 a1 a2, A0 a0 a1 a2 ∧ A1 a0 a1 a2 ∧ A2 a0 a1 a2 ∧ A3 a0 a1 a2 ∧ A4 a0 a1 a2 ∧ A5 a0 a1 a2) (f : ∀ a0 a1 a2, A0 a0 a1 a2 → A1 a0 a1 a2 → A2 a0 a1 a2 → A3 a0 a1 a2 → A4 a0 a1 a2 → A5 a0 a1 a2 → P) : P := h.elim fun a0 e0 => e0.elim fun a1 e1 => e1.elim fun a2 e2 => f a0 a1 a2 e2.1 e2.2.1 e2.2.2.1 e2.2.2.2.1 e2.2.2.2.2.1 e2.2.2.2.2.2
theorem x3_7 {α0 α1 α2 : Sort _} {A0 A1 A2 A3 A4 A5 A6 : α0 → α1 → α2 → Prop} {P : Prop} (h : ∃ a0 a1 a2, A0 a0 a1 a2 ∧ A1 a0 a1 a2 ∧ A2 a0 a1 a2 ∧ A3 a0 a1 a2 ∧ A4 a0 a1 a2 ∧ A5 a0 a1 a2 ∧ A6 a0 a1 a2) (f : ∀ a0 a1 a2, A0 a0 a1 a2 → A1 a0 a1 a2 → A2 a0 a1 a2 → A3 a0 a1 a2 → A4 a0 a1 a2 → A5 a0 a1 a2 → A6 a0 a1 a2 → P) : P := h.elim fun a0 e0 => e0.elim fun a1 e1 => e1.elim fun a2 e2 => f a0 a1 a2 e2.1 e2.2.1 e2.2.2.1 e2.2.2.2.1 e2.2.2.2.2.1 e2.2.2.2.2.2.1 e2.2.2.2.2.2.2
theorem x4_1 {α0 α1 α2 α3 : Sort _} {A0 : α0 → α1 → α2 → α3 → Prop} {P : Prop} (h : ∃ a0 a1 a2 a3, A0 a0 a1 a2 a3) (f : ∀ a0 a1 a2 a3, A0 a0 a1 a2 a3 → P) : P := h.elim fun a0 e0 => e0.elim fun a1 e1 => e1.elim fun a2 e2 => e2.elim fun a3 e3 => f a0 a1 a2 a3 e3
theorem x4_3 {α0 α1 α2 α3 : Sort _} {A0 A1 A2 : α0 → α1 → α2 → α3 → Prop} {P : Prop} (h : ∃ a0 a1 a2 a3, A0 a0 a1 a2 a3 ∧ A1 a0 a1 a2 a3 ∧ A2 a0 a1 a2 a3) (f : ∀ a0 a1 a2 a3, A0 a0 a1 a2 a3 → A1 a0 a1 a2 a3 → A2 a0 a1 a2 a3 → P) : P := h.elim fun a0 e0 => e0.elim fun a1 e1 => e1.elim fun a2 e2 => e2.elim fun a3 e3 => f a0 a1 a2 a3 e3.1 e3.2.1 e3.2.2
theorem x4_4 {α0 α1 α2 α3 : Sort _} {A0 A1 A2 A3 : α0 → α1 → α2 → α3 → Prop} {P : Prop} (h : ∃ a0 a1 a2 a3, A0 a0 a1 a2 a3 ∧ A1 a0 a1 a2 a3 ∧ A2 a0 a1 a2 a3 ∧ A3 a0 a1 a2 a3) (f : ∀ a0 a1 a2 a3, A0 a0 a1 a2 a3 → A1 a0 a1 a2 a3 → A2 a0 a1 a2 a3 → A3 a0 a1 a2 a3 → P) : P := h.elim fun a0 e0 => e0.elim fun a1 e1 => e1.elim fun a2 e2 => e2.elim fun a3 e3 => f a0 a1 a2 a3 e3.1 e3.2.1 e3.2.2.1 e3.2.2.2
theorem x4_5 {α0 α1 α2 α3 : Sort _} {A0 A1 A2 A3 A4 : α0 → α1 → α2 → α3 → Prop} {P : Prop} (h : ∃ a0 a1 a2 a3, A0 a0 a1 a2 a3 ∧ A1 a0 a1 a2 a3 ∧ A2 a0 a1 a2 a3 ∧ A3 a0 a1 a2 a3 ∧ A4 a0 a1 a2 a3) (f : ∀ a0 a1 a2 a3, A0 a0 a1 a2 a3 → A1 a0 a1 a2 a3 → A2 a0 a1 a2 a3 → A3 a0 a1 a2 a3 → A4 a0 a1 a2 a3 → P) : P := h.elim fun a0 e0 => e0.elim fun a1 e1 => e1.elim fun a2 e2 => e2.elim fun a3 e3 => f a0 a1 a2 a3 e3.1 e3.2.1 e3.2.2.1 e3.2.2.2.1 e3.2.2.2.2
theorem x4_7 {α0 α1 α2 α3 : Sort _} {A0 A1 A2 A3 A4 A5 A6 : α0 → α1 → α2 → α3 → Prop} {P : Prop} (h : ∃ a0 a1 a2 a3, A0 a0 a1 a2 a3 ∧ A1 a0 a1 a2 a3 ∧ A2 a0 a1 a2 a3 ∧ A3 a0 a1 a2 a3 ∧ A4 a0 a1 a2 a3 ∧ A5 a0 a1 a2 a3 ∧ A6 a0 a1 a2 a3) (f : ∀ a0 a1 a2 a3, A0 a0 a1 a2 a3 → A1 a0 a1 a2 a3 → A2 a0 a1 a2 a3 → A3 a0 a1 a2 a3 → A4 a0 a1 a2 a3 → A5 a0 a1 a2 a3 → A6 a0 a1 a2 a3 → P) : P := h.elim fun a0 e0 => e0.elim fun a1 e1 => e1.elim fun a2 e2 => e2.elim fun a3 e3 => f a0 a1 a2 a3 e3.1 e3.2.1 e3.2.2.1 e3.2.2.2.1 e3.2.2.2.2.1 e3.2.2.2.2.2.1 e3.2.2.2.2.2.2
theorem x4_8 {α0 α1 α2 α3 : Sort _} {A0 A1 A2 A3 A4 A5 A6 A7 : α0 → α1 → α2 → α3 → Prop} {P : Prop} (h : ∃ a0 a1 a2 a3, A0 a0 a1 a2 a3 ∧ A1 a0 a1 a2 a3 ∧ A2 a0 a1 a2 a3 ∧ A3 a0 a1 a2 a3 ∧ A4 a0 a1 a2 a3 ∧ A5 a0 a1 a2 a3 ∧ A6 a0 a1 a2 a3 ∧ A7 a0 a1 a2 a3) (f : ∀ a0 a1 a2 a3, A0 a0 a1 a2 a3 → A1 a0 a1 a2 a3 → A2 a0 a1 a2 a3 → A3 a0 a1 a2 a3 → A4 a0 a1 a2 a3 → A5 a0 a1 a2 a3 → A6 a0 a1 a2 a3 → A7 a0 a1 a2 a3 → P) : P := h.elim fun a0 e0 => e0.elim fun a1 e1 => e1.elim fun a2 e2 => e2.elim fun a3 e3 => f a0 a1 a2 a3 e3.1 e3.2.1 e3.2.2.1 e3.2.2.2.1 e3.2.2.2.2.1 e3.2.2.2.2.2.1 e3.2.2.2.2.2.2.1 e3.2.2.2.2.2.2.2
theorem x4_9 {α0 α1 α2 α3 : Sort _} {A0 A1 A2 A3 A4 A5 A6 A7 A8 : α0 → α1 → α2 → α3 → Prop} {P : Prop} (h : ∃ a0 a1 a2 a3, A0 a0 a1 a2 a3 ∧ A1 a0 a1 a2 a3 ∧ A2 a0 a1 a2 a3 ∧ A3 a0 a1 a2 a3 ∧ A4 a0 a1 a2 a3 ∧ A5 a0 a1 a2 a3 ∧ A6 a0 a1 a2 a3 ∧ A7 a0 a1 a2 a3 ∧ A8 a0 a1 a2 a3) (f : ∀ a0 a1 a2 a3, A0 a0 a1 a2 a3 → A1 a0 a1 a2 a3 → A2 a0 a1 a2 a3 → A3 a0 a1 a2 a3 → A4 a0 a1 a2 a3 → A5 a0 a1 a2 a3 → A6 a0 a1 a2 a3 → A7 a0 a1 a2 a3 → A8 a0 a1 a2 a3 → P) : P := h.elim fun a0 e0 => e0.elim fun a1 e1 => e1.elim fun a2 e2 => e2.elim fun a3 e3 => f a0 a1 a2 a3 e3.1 e3.2.1 e3.2.2.1 e3.2.2.2.1 e3.2.2.2.2.1 e3.2.2.2.2.2.1 e3.2.2.2.2.2.2.1 e3.2.2.2.2.2.2.2.1 e3.2.2.2.2.2.2.2.2
theorem x5_1 {α0 α1 α2 α3 α4 : Sort _} {A0 : α0 → α1 → α2 → α3 → α4 → Prop} {P : Prop} (h : ∃ a0 a1 a2 a3 a4, A0 a0 a1 a2 a3 a4) (f : ∀ a0 a1 a2 a3 a4, A0 a0 a1 a2 a3 a4 → P) : P := h.elim fun a0 e0 => e0.elim fun a1 e1 => e1.elim fun a2 e2 => e2.elim fun a3 e3 => e3.elim fun a4 e4 => f a0 a1 a2 a3 a4 e4
theorem x5_4 {α0 α1 α2 α3 α4 : Sort _} {A0 A1 A2 A3 : α0 → α1 → α2 → α3 → α4 → Prop} {P : Prop} (h : ∃ a0 a1 a2 a3 a4, A0 a0 a1 a2 a3 a4 ∧ A1 a0 a1 a2 a3 a4 ∧ A2 a0 a1 a2 a3 a4 ∧ A3 a0 a1 a2 a3 a4) (f : ∀ a0 a1 a2 a3 a4, A0 a0 a1 a2 a3 a4 → A1 a0 a1 a2 a3 a4 → A2 a0 a1 a2 a3 a4 → A3 a0 a1 a2 a3 a4 → P) : P := h.elim fun a0 e0 => e0.elim fun a1 e1 => e1.elim fun a2 e2 => e2.elim fun a3 e3 => e3.elim fun a4 e4 => f a0 a1 a2 a3 a4 e4.1 e4.2.1 e4.2.2.1 e4.2.2.2
theorem x5_5 {α0 α1 α2 α3 α4 : Sort _} {A0 A1 A2 A3 A4 : α0 → α1 → α2 → α3 → α4 → Prop} {P : Prop} (h : ∃ a0 a1 a2 a3 a4, A0 a0 a1 a2 a3 a4 ∧ A1 a0 a1 a2 a3 a4 ∧ A2 a0 a1 a2 a3 a4 ∧ A3 a0 a1 a2 a3 a4 ∧ A4 a0 a1 a2 a3 a4) (f : ∀ a0 a1 a2 a3 a4, A0 a0 a1 a2 a3 a4 → A1 a0 a1 a2 a3 a4 → A2 a0 a1 a2 a3 a4 → A3 a0 a1 a2 a3 a4 → A4 a0 a1 a2 a3 a4 → P) : P := h.elim fun a0 e0 => e0.elim fun a1 e1 => e1.elim fun a2 e2 => e2.elim fun a3 e3 => e3.elim fun a4 e4 => f a0 a1 a2 a3 a4 e4.1 e4.2.1 e4.2.2.1 e4.2.2.2.1 e4.2.2.2.2
theorem x5_6 {α0 α1 α2 α3 α4 : Sort _} {A0 A1 A2 A3 A4 A5 : α0 → α1 → α2 → α3 → α4 → Prop} {P : Prop} (h : ∃ a0 a1 a2 a3 a4, A0 a0 a1 a2 a3 a4 ∧ A1 a0 a1 a2 a3 a4 ∧ A2 a0 a1 a2 a3 a4 ∧ A3 a0 a1 a2 a3 a4 ∧ A4 a0 a1 a2 a3 a4 ∧ A5 a0 a1 a2 a3 a4) (f : ∀ a0 a1 a2 a3 a4, A0 a0 a1 a2 a3 a4 → A1 a0 a1 a2 a3 a4 → A2 a0 a1 a2 a3 a4 → A3 a0 a1 a2 a3 a4 → A4 a0 a1 a2 a3 a4 → A5 a0 a1 a2 a3 a4 → P) : P := h.elim fun a0 e0 => e0.elim fun a1 e1 => e1.elim fun a2 e2 => e2.elim fun a3 e3 => e3.elim fun a4 e4 => f a0 a1 a2 a3 a4 e4.1 e4.2.1 e4.2.2.1 e4.2.2.2.1 e4.2.2.2.2.1 e4.2.2.2.2.2
theorem x5_10 {α0 α1 α2 α3 α4 : Sort _} {A0 A1 A2 A3 A4 A5 A6 A7 A8 A9 : α0 → α1 → α2 → α3 → α4 → Prop} {P : Prop} (h : ∃ a0 a1 a2 a3 a4, A0 a0 a1 a2 a3 a4 ∧ A1 a0 a1 a2 a3 a4 ∧ A2 a0 a1 a2 a3 a4 ∧ A3 a0 a1 a2 a3 a4 ∧ A4 a0 a1 a2 a3 a4 ∧ A5 a0 a1 a2 a3 a4 ∧ A6 a0 a1 a2 a3 a4 ∧ A7 a0 a1 a2 a3 a4 ∧ A8 a0 a1 a2 a3 a4 ∧ A9 a0 a1 a2 a3 a4) (f : ∀ a0 a1 a2 a3 a4, A0 a0 a1 a2 a3 a4 → A1 a0 a1 a2 a3 a4 → A2 a0 a1 a2 a3 a4 → A3 a0 a1 a2 a3 a4 → A4 a0 a1 a2 a3 a4 → A5 a0 a1 a2 a3 a4 → A6 a0 a1 a2 a3 a4 → A7 a0 a1 a2 a3 a4 → A8 a0 a1 a2 a3 a4 → A9 a0 a1 a2 a3 a4 → P) : P := h.elim fun a0 e0 => e0.elim fun a1 e1 => e1.elim fun a2 e2 => e2.elim fun a3 e3 => e3.elim fun a4 e4 => f a0 a1 a2 a3 a4 e4.1 e4.2.1 e4.2.2.1 e4.2.2.2.1 e4.2.2.2.2.1 e4.2.2.2.2.2.1 e4.2.2.2.2.2.2.1 e4.2.2.2.2.2.2.2.1 e4.2.2.2.2.2.2.2.2.1 e4.2.2.2.2.2.2.2.2.2
theorem x6_1 {α0 α1 α2 α3 α4 α5 : Sort _} {A0 : α0 → α1 → α2 → α3 → α4 → α5 → Prop} {P : Prop} (h : ∃ a0 a1 a2 a3 a4 a5, A0 a0 a1 a2 a3 a4 a5) (f : ∀ a0 a1 a2 a3 a4 a5, A0 a0 a1 a2 a3 a4 a5 → P) : P := h.elim fun a0 e0 => e0.elim fun a1 e1 => e1.elim fun a2 e2 => e2.elim fun a3 e3 => e3.elim fun a4 e4 => e4.elim fun a5 e5 => f a0 a1 a2 a3 a4 a5 e5
theorem x7_1 {α0 α1 α2 α3 α4 α5 α6 : Sort _} {A0 : α0 → α1 → α2 → α3 → α4 → α5 → α6 → Prop} {P : Prop} (h : ∃ a0 a1 a2 a3 a4 a5 a6, A0 a0 a1 a2 a3 a4 a5 a6) (f : ∀ a0 a1 a2 a3 a4 a5 a6, A0 a0 a1 a2 a3 a4 a5 a6 → P) : P := h.elim fun a0 e0 => e0.elim fun a1 e1 => e1.elim fun a2 e2 => e2.elim fun a3 e3 => e3.elim fun a4 e4 => e4.elim fun a5 e5 => e5.elim fun a6 e6 => f a0 a1 a2 a3 a4 a5 a6 e6
theorem i0_3 {A0 A1 A2 : Prop} (h0 : A0) (h1 : A1) (h2 : A2) : A0 ∧ A1 ∧ A2 := ⟨h0, h1, h2⟩
theorem i0_4 {A0 A1 A2 A3 : Prop} (h0 : A0) (h1 : A1) (h2 : A2) (h3 : A3) : A0 ∧ A1 ∧ A2 ∧ A3 := ⟨h0, h1, h2, h3⟩
theorem i0_6 {A0 A1 A2 A3 A4 A5 : Prop} (h0 : A0) (h1 : A1) (h2 : A2) (h3 : A3) (h4 : A4) (h5 : A5) : A0 ∧ A1 ∧ A2 ∧ A3 ∧ A4 ∧ A5 := ⟨h0, h1, h2, h3, h4, h5⟩
theorem i1_2 {α0 : Sort _} {A0 A1 : α0 → Prop} (a0 : α0) (h0 : A0 a0) (h1 : A1 a0) : ∃ a0, A0 a0 ∧ A1 a0 := ⟨a0, h0, h1⟩
theorem i1_3 {α0 : Sort _} {A0 A1 A2 : α0 → Prop} (a0 : α0) (h0 : A0 a0) (h1 : A1 a0) (h2 : A2 a0) : ∃ a0, A0 a0 ∧ A1 a0 ∧ A2 a0 := ⟨a0, h0, h1, h2⟩
theorem i1_4 {α0 : Sort _} {A0 A1 A2 A3 : α0 → Prop} (a0 : α0) (h0 : A0 a0) (h1 : A1 a0) (h2 : A2 a0) (h3 : A3 a0) : ∃ a0, A0 a0 ∧ A1 a0 ∧ A2 a0 ∧ A3 a0 := ⟨a0, h0, h1, h2, h3⟩
theorem i1_5 {α0 : Sort _} {A0 A1 A2 A3 A4 : α0 → Prop} (a0 : α0) (h0 : A0 a0) (h1 : A1 a0) (h2 : A2 a0) (h3 : A3 a0) (h4 : A4 a0) : ∃ a0, A0 a0 ∧ A1 a0 ∧ A2 a0 ∧ A3 a0 ∧ A4 a0 := ⟨a0, h0, h1, h2, h3, h4⟩
theorem i1_6 {α0 : Sort _} {A0 A1 A2 A3 A4 A5 : α0 → Prop} (a0 : α0) (h0 : A0 a0) (h1 : A1 a0) (h2 : A2 a0) (h3 : A3 a0) (h4 : A4 a0) (h5 : A5 a0) : ∃ a0, A0 a0 ∧ A1 a0 ∧ A2 a0 ∧ A3 a0 ∧ A4 a0 ∧ A5 a0 := ⟨a0, h0, h1, h2, h3, h4, h5⟩
theorem i2_1 {α0 α1 : Sort _} {A0 : α0 → α1 → Prop} (a0 : α0) (a1 : α1) (h0 : A0 a0 a1) : ∃ a0 a1, A0 a0 a1 := ⟨a0, a1, h0⟩
theorem i2_2 {α0 α1 : Sort _} {A0 A1 : α0 → α1 → Prop} (a0 : α0) (a1 : α1) (h0 : A0 a0 a1) (h1 : A1 a0 a1) : ∃ a0 a1, A0 a0 a1 ∧ A1 a0 a1 := ⟨a0, a1, h0, h1⟩
theorem i2_3 {α0 α1 : Sort _} {A0 A1 A2 : α0 → α1 → Prop} (a0 : α0) (a1 : α1) (h0 : A0 a0 a1) (h1 : A1 a0 a1) (h2 : A2 a0 a1) : ∃ a0 a1, A0 a0 a1 ∧ A1 a0 a1 ∧ A2 a0 a1 := ⟨a0, a1, h0, h1, h2⟩
theorem i2_6 {α0 α1 : Sort _} {A0 A1 A2 A3 A4 A5 : α0 → α1 → Prop} (a0 : α0) (a1 : α1) (h0 : A0 a0 a1) (h1 : A1 a0 a1) (h2 : A2 a0 a1) (h3 : A3 a0 a1) (h4 : A4 a0 a1) (h5 : A5 a0 a1) : ∃ a0 a1, A0 a0 a1 ∧ A1 a0 a1 ∧ A2 a0 a1 ∧ A3 a0 a1 ∧ A4 a0 a1 ∧ A5 a0 a1 := ⟨a0, a1, h0, h1, h2, h3, h4, h5⟩
theorem i3_1 {α0 α1 α2 : Sort _} {A0 : α0 → α1 → α2 → Prop} (a0 : α0) (a1 : α1) (a2 : α2) (h0 : A0 a0 a1 a2) : ∃ a0 a1 a2, A0 a0 a1 a2 := ⟨a0, a1, a2, h0⟩
theorem i3_2 {α0 α1 α2 : Sort _} {A0 A1 : α0 → α1 → α2 → Prop} (a0 : α0) (a1 : α1) (a2 : α2) (h0 : A0 a0 a1 a2) (h1 : A1 a0 a1 a2) : ∃ a0 a1 a2, A0 a0 a1 a2 ∧ A1 a0 a1 a2 := ⟨a0, a1, a2, h0, h1⟩
theorem i3_3 {α0 α1 α2 : Sort _} {A0 A1 A2 : α0 → α1 → α2 → Prop} (a0 : α0) (a1 : α1) (a2 : α2) (h0 : A0 a0 a1 a2) (h1 : A1 a0 a1 a2) (h2 : A2 a0 a1 a2) : ∃ a0 a1 a2, A0 a0 a1 a2 ∧ A1 a0 a1 a2 ∧ A2 a0 a1 a2 := ⟨a0, a1, a2, h0, h1, h2⟩
theorem i3_4 {α0 α1 α2 : Sort _} {A0 A1 A2 A3 : α0 → α1 → α2 → Prop} (a0 : α0) (a1 : α1) (a2 : α2) (h0 : A0 a0 a1 a2) (h1 : A1 a0 a1 a2) (h2 : A2 a0 a1 a2) (h3 : A3 a0 a1 a2) : ∃ a0 a1 a2, A0 a0 a1 a2 ∧ A1 a0 a1 a2 ∧ A2 a0 a1 a2 ∧ A3 a0 a1 a2 := ⟨a0, a1, a2, h0, h1, h2, h3⟩
theorem i3_6 {α0 α1 α2 : Sort _} {A0 A1 A2 A3 A4 A5 : α0 → α1 → α2 → Prop} (a0 : α0) (a1 : α1) (a2 : α2) (h0 : A0 a0 a1 a2) (h1 : A1 a0 a1 a2) (h2 : A2 a0 a1 a2) (h3 : A3 a0 a1 a2) (h4 : A4 a0 a1 a2) (h5 : A5 a0 a1 a2) : ∃ a0 a1 a2, A0 a0 a1 a2 ∧ A1 a0 a1 a2 ∧ A2 a0 a1 a2 ∧ A3 a0 a1 a2 ∧ A4 a0 a1 a2 ∧ A5 a0 a1 a2 := ⟨a0, a1, a2, h0, h1, h2, h3, h4, h5⟩
theorem i3_7 {α0 α1 α2 : Sort _} {A0 A1 A2 A3 A4 A5 A6 : α0 → α1 → α2 → Prop} (a0 : α0) (a1 : α1) (a2 : α2) (h0 : A0 a0 a1 a2) (h1 : A1 a0 a1 a2) (h2 : A2 a0 a1 a2) (h3 : A3 a0 a1 a2) (h4 : A4 a0 a1 a2) (h5 : A5 a0 a1 a2) (h6 : A6 a0 a1 a2) : ∃ a0 a1 a2, A0 a0 a1 a2 ∧ A1 a0 a1 a2 ∧ A2 a0 a1 a2 ∧ A3 a0 a1 a2 ∧ A4 a0 a1 a2 ∧ A5 a0 a1 a2 ∧ A6 a0 a1 a2 := ⟨a0, a1, a2, h0, h1, h2, h3, h4, h5, h6⟩
theorem i4_1 {α0 α1 α2 α3 : Sort _} {A0 : α0 → α1 → α2 → α3 → Prop} (a0 : α0) (a1 : α1) (a2 : α2) (a3 : α3) (h0 : A0 a0 a1 a2 a3) : ∃ a0 a1 a2 a3, A0 a0 a1 a2 a3 := ⟨a0, a1, a2, a3, h0⟩
theorem i4_3 {α0 α1 α2 α3 : Sort _} {A0 A1 A2 : α0 → α1 → α2 → α3 → Prop} (a0 : α0) (a1 : α1) (a2 : α2) (a3 : α3) (h0 : A0 a0 a1 a2 a3) (h1 : A1 a0 a1 a2 a3) (h2 : A2 a0 a1 a2 a3) : ∃ a0 a1 a2 a3, A0 a0 a1 a2 a3 ∧ A1 a0 a1 a2 a3 ∧ A2 a0 a1 a2 a3 := ⟨a0, a1, a2, a3, h0, h1, h2⟩
theorem i4_4 {α0 α1 α2 α3 : Sort _} {A0 A1 A2 A3 : α0 → α1 → α2 → α3 → Prop} (a0 : α0) (a1 : α1) (a2 : α2) (a3 : α3) (h0 : A0 a0 a1 a2 a3) (h1 : A1 a0 a1 a2 a3) (h2 : A2 a0 a1 a2 a3) (h3 : A3 a0 a1 a2 a3) : ∃ a0 a1 a2 a3, A0 a0 a1 a2 a3 ∧ A1 a0 a1 a2 a3 ∧ A2 a0 a1 a2 a3 ∧ A3 a0 a1 a2 a3 := ⟨a0, a1, a2, a3, h0, h1, h2, h3⟩
theorem i4_5 {α0 α1 α2 α3 : Sort _} {A0 A1 A2 A3 A4 : α0 → α1 → α2 → α3 → Prop} (a0 : α0) (a1 : α1) (a2 : α2) (a3 : α3) (h0 : A0 a0 a1 a2 a3) (h1 : A1 a0 a1 a2 a3) (h2 : A2 a0 a1 a2 a3) (h3 : A3 a0 a1 a2 a3) (h4 : A4 a0 a1 a2 a3) : ∃ a0 a1 a2 a3, A0 a0 a1 a2 a3 ∧ A1 a0 a1 a2 a3 ∧ A2 a0 a1 a2 a3 ∧ A3 a0 a1 a2 a3 ∧ A4 a0 a1 a2 a3 := ⟨a0, a1, a2, a3, h0, h1, h2, h3, h4⟩
theorem i4_7 {α0 α1 α2 α3 : Sort _} {A0 A1 A2 A3 A4 A5 A6 : α0 → α1 → α2 → α3 → Prop} (a0 : α0) (a1 : α1) (a2 : α2) (a3 : α3) (h0 : A0 a0 a1 a2 a3) (h1 : A1 a0 a1 a2 a3) (h2 : A2 a0 a1 a2 a3) (h3 : A3 a0 a1 a2 a3) (h4 : A4 a0 a1 a2 a3) (h5 : A5 a0 a1 a2 a3) (h6 : A6 a0 a1 a2 a3) : ∃ a0 a1 a2 a3, A0 a0 a1 a2 a3 ∧ A1 a0 a1 a2 a3 ∧ A2 a0 a1 a2 a3 ∧ A3 a0 a1 a2 a3 ∧ A4 a0 a1 a2 a3 ∧ A5 a0 a1 a2 a3 ∧ A6 a0 a1 a2 a3 := ⟨a0, a1, a2, a3, h0, h1, h2, h3, h4, h5, h6⟩
theorem i4_8 {α0 α1 α2 α3 : Sort _} {A0 A1 A2 A3 A4 A5 A6 A7 : α0 → α1 → α2 → α3 → Prop} (a0 : α0) (a1 : α1) (a2 : α2) (a3 : α3) (h0 : A0 a0 a1 a2 a3) (h1 : A1 a0 a1 a2 a3) (h2 : A2 a0 a1 a2 a3) (h3 : A3 a0 a1 a2 a3) (h4 : A4 a0 a1 a2 a3) (h5 : A5 a0 a1 a2 a3) (h6 : A6 a0 a1 a2 a3) (h7 : A7 a0 a1 a2 a3) : ∃ a0 a1 a2 a3, A0 a0 a1 a2 a3 ∧ A1 a0 a1 a2 a3 ∧ A2 a0 a1 a2 a3 ∧ A3 a0 a1 a2 a3 ∧ A4 a0 a1 a2 a3 ∧ A5 a0 a1 a2 a3 ∧ A6 a0 a1 a2 a3 ∧ A7 a0 a1 a2 a3 := ⟨a0, a1, a2, a3, h0, h1, h2, h3, h4, h5, h6, h7⟩
theorem i5_1 {α0 α1 α2 α3 α4 : Sort _} {A0 : α0 → α1 → α2 → α3 → α4 → Prop} (a0 : α0) (a1 : α1) (a2 : α2) (a3 : α3) (a4 : α4) (h0 : A0 a0 a1 a2 a3 a4) : ∃ a0 a1 a2 a3 a4, A0 a0 a1 a2 a3 a4 := ⟨a0, a1, a2, a3, a4, h0⟩
theorem i5_6 {α0 α1 α2 α3 α4 : Sort _} {A0 A1 A2 A3 A4 A5 : α0 → α1 → α2 → α3 → α4 → Prop} (a0 : α0) (a1 : α1) (a2 : α2) (a3 : α3) (a4 : α4) (h0 : A0 a0 a1 a2 a3 a4) (h1 : A1 a0 a1 a2 a3 a4) (h2 : A2 a0 a1 a2 a3 a4) (h3 : A3 a0 a1 a2 a3 a4) (h4 : A4 a0 a1 a2 a3 a4) (h5 : A5 a0 a1 a2 a3 a4) : ∃ a0 a1 a2 a3 a4, A0 a0 a1 a2 a3 a4 ∧ A1 a0 a1 a2 a3 a4 ∧ A2 a0 a1 a2 a3 a4 ∧ A3 a0 a1 a2 a3 a4 ∧ A4 a0 a1 a2 a3 a4 ∧ A5 a0 a1 a2 a3 a4 := ⟨a0, a1, a2, a3, a4, h0, h1, h2, h3, h4, h5⟩
theorem i6_1 {α0 α1 α2 α3 α4 α5 : Sort _} {A0 : α0 → α1 → α2 → α3 → α4 → α5 → Prop} (a0 : α0) (a1 : α1) (a2 : α2) (a3 : α3) (a4 : α4) (a5 : α5) (h0 : A0 a0 a1 a2 a3 a4 a5) : ∃ a0 a1 a2 a3 a4 a5, A0 a0 a1 a2 a3 a4 a5 := ⟨a0, a1, a2, a3, a4, a5, h0⟩
theorem i6_6 {α0 α1 α2 α3 α4 α5 : Sort _} {A0 A1 A2 A3 A4 A5 : α0 → α1 → α2 → α3 → α4 → α5 → Prop} (a0 : α0) (a1 : α1) (a2 : α2) (a3 : α3) (a4 : α4) (a5 : α5) (h0 : A0 a0 a1 a2 a3 a4 a5) (h1 : A1 a0 a1 a2 a3 a4 a5) (h2 : A2 a0 a1 a2 a3 a4 a5) (h3 : A3 a0 a1 a2 a3 a4 a5) (h4 : A4 a0 a1 a2 a3 a4 a5) (h5 : A5 a0 a1 a2 a3 a4 a5) : ∃ a0 a1 a2 a3 a4 a5, A0 a0 a1 a2 a3 a4 a5 ∧ A1 a0 a1 a2 a3 a4 a5 ∧ A2 a0 a1 a2 a3 a4 a5 ∧ A3 a0 a1 a2 a3 a4 a5 ∧ A4 a0 a1 a2 a3 a4 a5 ∧ A5 a0 a1 a2 a3 a4 a5 := ⟨a0, a1, a2, a3, a4, a5, h0, h1, h2, h3, h4, h5⟩
theorem i7_1 {α0 α1 α2 α3 α4 α5 α6 : Sort _} {A0 : α0 → α1 → α2 → α3 → α4 → α5 → α6 → Prop} (a0 : α0) (a1 : α1) (a2 : α2) (a3 : α3) (a4 : α4) (a5 : α5) (a6 : α6) (h0 : A0 a0 a1 a2 a3 a4 a5 a6) : ∃ a0 a1 a2 a3 a4 a5 a6, A0 a0 a1 a2 a3 a4 a5 a6 := ⟨a0, a1, a2, a3, a4, a5, a6, h0⟩
theorem i7_8 {α0 α1 α2 α3 α4 α5 α6 : Sort _} {A0 A1 A2 A3 A4 A5 A6 A7 : α0 → α1 → α2 → α3 → α4 → α5 → α6 → Prop} (a0 : α0) (a1 : α1) (a2 : α2) (a3 : α3) (a4 : α4) (a5 : α5) (a6 : α6) (h0 : A0 a0 a1 a2 a3 a4 a5 a6) (h1 : A1 a0 a1 a2 a3 a4 a5 a6) (h2 : A2 a0 a1 a2 a3 a4 a5 a6) (h3 : A3 a0 a1 a2 a3 a4 a5 a6) (h4 : A4 a0 a1 a2 a3 a4 a5 a6) (h5 : A5 a0 a1 a2 a3 a4 a5 a6) (h6 : A6 a0 a1 a2 a3 a4 a5 a6) (h7 : A7 a0 a1 a2 a3 a4 a5 a6) : ∃ a0 a1 a2 a3 a4 a5 a6, A0 a0 a1 a2 a3 a4 a5 a6 ∧ A1 a0 a1 a2 a3 a4 a5 a6 ∧ A2 a0 a1 a2 a3 a4 a5 a6 ∧ A3 a0 a1 a2 a3 a4 a5 a6 ∧ A4 a0 a1 a2 a3 a4 a5 a6 ∧ A5 a0 a1 a2 a3 a4 a5 a6 ∧ A6 a0 a1 a2 a3 a4 a5 a6 ∧ A7 a0 a1 a2 a3 a4 a5 a6 := ⟨a0, a1, a2, a3, a4, a5, a6, h0, h1, h2, h3, h4, h5, h6, h7⟩
theorem i7_9 {α0 α1 α2 α3 α4 α5 α6 : Sort _} {A0 A1 A2 A3 A4 A5 A6 A7 A8 : α0 → α1 → α2 → α3 → α4 → α5 → α6 → Prop} (a0 : α0) (a1 : α1) (a2 : α2) (a3 : α3) (a4 : α4) (a5 : α5) (a6 : α6) (h0 : A0 a0 a1 a2 a3 a4 a5 a6) (h1 : A1 a0 a1 a2 a3 a4 a5 a6) (h2 : A2 a0 a1 a2 a3 a4 a5 a6) (h3 : A3 a0 a1 a2 a3 a4 a5 a6) (h4 : A4 a0 a1 a2 a3 a4 a5 a6) (h5 : A5 a0 a1 a2 a3 a4 a5 a6) (h6 : A6 a0 a1 a2 a3 a4 a5 a6) (h7 : A7 a0 a1 a2 a3 a4 a5 a6) (h8 : A8 a0 a1 a2 a3 a4 a5 a6) : ∃ a0 a1 a2 a3 a4 a5 a6, A0 a0 a1 a2 a3 a4 a5 a6 ∧ A1 a0 a1 a2 a3 a4 a5 a6 ∧ A2 a0 a1 a2 a3 a4 a5 a6 ∧ A3 a0 a1 a2 a3 a4 a5 a6 ∧ A4 a0 a1 a2 a3 a4 a5 a6 ∧ A5 a0 a1 a2 a3 a4 a5 a6 ∧ A6 a0 a1 a2 a3 a4 a5 a6 ∧ A7 a0 a1 a2 a3 a4 a5 a6 ∧ A8 a0 a1 a2 a3 a4 a5 a6 := ⟨a0, a1, a2, a3, a4, a5, a6, h0, h1, h2, h3, h4, h5, h6, h7, h8⟩
theorem i8_8 {α0 α1 α2 α3 α4 α5 α6 α7 : Sort _} {A0 A1 A2 A3 A4 A5 A6 A7 : α0 → α1 → α2 → α3 → α4 → α5 → α6 → α7 → Prop} (a0 : α0) (a1 : α1) (a2 : α2) (a3 : α3) (a4 : α4) (a5 : α5) (a6 : α6) (a7 : α7) (h0 : A0 a0 a1 a2 a3 a4 a5 a6 a7) (h1 : A1 a0 a1 a2 a3 a4 a5 a6 a7) (h2 : A2 a0 a1 a2 a3 a4 a5 a6 a7) (h3 : A3 a0 a1 a2 a3 a4 a5 a6 a7) (h4 : A4 a0 a1 a2 a3 a4 a5 a6 a7) (h5 : A5 a0 a1 a2 a3 a4 a5 a6 a7) (h6 : A6 a0 a1 a2 a3 a4 a5 a6 a7) (h7 : A7 a0 a1 a2 a3 a4 a5 a6 a7) : ∃ a0 a1 a2 a3 a4 a5 a6 a7, A0 a0 a1 a2 a3 a4 a5 a6 a7 ∧ A1 a0 a1 a2 a3 a4 a5 a6 a7 ∧ A2 a0 a1 a2 a3 a4 a5 a6 a7 ∧ A3 a0 a1 a2 a3 a4 a5 a6 a7 ∧ A4 a0 a1 a2 a3 a4 a5 a6 a7 ∧ A5 a0 a1 a2 a3 a4 a5 a6 a7 ∧ A6 a0 a1 a2 a3 a4 a5 a6 a7 ∧ A7 a0 a1 a2 a3 a4 a5 a6 a7 := ⟨a0, a1, a2, a3, a4, a5, a6, a7, h0, h1, h2, h3, h4, h5, h6, h7⟩
theorem lb {a b : Nat} (h : Nat.ble a b = true := by kernel_rfl) : a <= b := Nat.le_of_ble_eq_true h
theorem dk {p : Prop} [Decidable p] (h : decide p = true := by kernel_rfl) : p := of_decide_eq_true h
noncomputable def defAt (i : Nat) : DefRec := match PySem.Challenge.pw_ij0206_01.main.body[i]? with
  | some (.FunctionDef name params body _ _ _ scope _ _ pos) => ⟨name, params, body, scope, pos⟩
  | _ => ⟨Str.empty, ⟨[], [], Option.none, [], [], Option.none, []⟩, [], ⟨.function, [], false, false, []⟩, default⟩
noncomputable def tupO (vs : List Value) (n : Nat) : Obj := { cls := .type "tuple", data := .seq vs.toArray n }
noncomputable def twCode : List Nat := [14, 14, 4, 1, 1, 9, 0, 64, 0, 1342177280, 0, 0, 0, 0, 0, 17, 0, 13, 11, 9, 0, 64, 0, 1342177280, 0, 0, 0, 0, 0, 17, 1, 1]
noncomputable def twObs (s : Shared) : Option (Value × Option Addr × Option Value × Option Value × Option Value × Option Obj) :=
  match s.heap.isNs mainGlobals with
  | false => none
  | true => match s.heap.nsMap mainGlobals "_twin_re_1" with
    | some (.ref tw) => (match s.heap.get? tw with
      | some o => (match o.data with
        | .fields fs => (match (fs[5]? : Option Value) with
          | some (.ref cl) => some (o.cls, o.dict, fs[2]?, fs[3]?, fs[6]?, s.heap.get? cl)
          | _ => none)
        | _ => none)
      | none => none)
    | _ => none
noncomputable def twVal : Option (Value × Option Addr × Option Value × Option Value × Option Value × Option Obj) :=
  some (.type "re.Pattern", none, some (rawInt 1), some .none, some (rawInt 0), some (tupO (twCode.map fun (w : Nat) => rawInt w) 0))
noncomputable def TwIn (mg : Str -> Option Value) (h : Heap) : Prop :=
  ∃ tw o fs cl n, mg "_twin_re_1" = some (.ref tw) /\ h.get? tw = some o /\ o.cls = .type "re.Pattern" /\ o.dict = Option.none /\ o.data = .fields fs /\ fs[2]? = some (rawInt 1) /\ fs[3]? = some .none /\ fs[5]? = some (.ref cl) /\ fs[6]? = some (rawInt 0) /\
    h.get? cl = some (tupO (twCode.map fun (w : Nat) => rawInt w) n)
theorem tw_of {s : Shared} (e : twObs s = twVal) : ∃ mg, s.heap.Ns mainGlobals mg /\ TwIn mg s.heap := by
  unfold twObs twVal at e
  split at e
  · cases e
  · rename_i hi
    split at e
    · rename_i tw htw
      split at e
      · rename_i o ho
        split at e
        · rename_i fs hfs
          split at e
          · rename_i cl hcl
            have e := Option.some.inj e
            obtain ⟨e1, e⟩ := Prod.mk.inj e
            obtain ⟨e2, e⟩ := Prod.mk.inj e
            obtain ⟨e3, e⟩ := Prod.mk.inj e
            obtain ⟨e4, e⟩ := Prod.mk.inj e
            obtain ⟨e5, e6⟩ := Prod.mk.inj e
            exact ⟨_, .of_isNs hi, tw, o, fs, cl, 0, htw, ho, e1, e2, hfs, e3, e4, hcl, e5, e6⟩
          · cases e
        · cases e
      · cases e
    · cases e
theorem tw_keeps (h h' : Heap) (x : ∃ mg, h.Ns mainGlobals mg /\ TwIn mg h) (k : ∀ b o, h.get? b = some o -> h'.get? b = some o) : ∃ mg, h'.Ns mainGlobals mg /\ TwIn mg h' := by
  obtain ⟨mg, x, tw, o, fs, cl, n, a1, a2, a3, a4, a5, a6, a7, a8, a9, a10⟩ := x
  exact ⟨mg, x.keeps k, tw, o, fs, cl, n, a1, k _ _ a2, a3, a4, a5, a6, a7, a8, a9, k _ _ a10⟩
noncomputable def twHook : Hook := ⟨_, twObs, fun _ => twVal, fun _ h => ∃ mg, h.Ns mainGlobals mg /\ TwIn mg h, fun _ _ e => tw_of e, fun _ => tw_keeps⟩
noncomputable def gcIdx : List Nat := [2,3,4,5,6,9,12,14,15,17,19,20,21,22,23,24,25,26,27,28,29,30,31,32]
noncomputable def gcNone : List Str := [Str.ofString "len", Str.ofString "range", Str.ofString "list", Str.ofString "sum", Str.ofString "max", Str.ofString "sorted", Str.ofString "zip", Str.ofString "dict", Str.ofString "chr", Str.ofString "int",
    Str.ofString "object", Str.ofString "reversed", Str.ofString "IndexError"]
structure QOk (q : Program) (loose : List Str) : Prop where
  recs : recsOf q = gcIdx.map defAt
  none : ∀ x ∈ gcNone, x ∉ startupNames /\ x ∉ looseW q loose /\ x ∉ (recsOf q).map (·.name) /\ x ∉ (litsOf q).map (·.1) /\ x ∉ (clssOf q (looseW q loose)).map (·.name)
noncomputable abbrev rowX : OpenRow := PySem.Challenge.rw_ij0206_01.row
noncomputable def prgX : Program := view rowX.prog [0, 2, 3, 4, 5, 6, 8, 9, 11, 12, 14, 15, 17, 19, 20, 21, 22, 23, 24, 25, 26, 27, 28, 29, 30, 31, 32]
noncomputable def lseX : List Str := [Str.ofString "_twin_re_1", Str.ofString "_special_chars_map"]
noncomputable def xtX (s : Shared) : Bool := xlAt prgX [] s && recOk (RowW.records rowX.toRowW) s
noncomputable def topX (w : World) (a b : Bool) (s : Shared) := (topFrom treeTable rowX.prog ((w.withFollow "comprehension-iter-twice" a).withFollow "special-get-raises" b) 4362 s).map fun s => (openSeen prgX lseX (importedModules rowX.prog.main.body) xtX true s, twObs s)
theorem lfX (h : ∀ w a b, ((fencedOpening treeTable rowX.prog w 4362).bind (topX w a b)) = some (openGood prgX lseX, twVal)) : LeftO rowX.prog prgX lseX xtX twObs (fun _ => twVal) 4362 := fun w => by
  have k := h w (w.params.followText "comprehension-iter-twice") (w.params.followText "special-get-raises")
  unfold topX at k
  rw [World.withFollow_self, World.withFollow_self] at k
  unfold openEnds
  cases e : fencedOpening treeTable rowX.prog w 4362 with
  | none => rw [e] at k; cases k
  | some s => rw [e] at k; exact k
theorem ekA (w : World) : ((fencedOpening treeTable rowX.prog w 4362).bind (topX w false false)) = some (openGood prgX lseX, twVal) := by kernel_rfl
theorem ekB (w : World) : ((fencedOpening treeTable rowX.prog w 4362).bind (topX w false true)) = some (openGood prgX lseX, twVal) := by kernel_rfl
theorem ekC (w : World) : ((fencedOpening treeTable rowX.prog w 4362).bind (topX w true false)) = some (openGood prgX lseX, twVal) := by kernel_rfl
theorem ekD (w : World) : ((fencedOpening treeTable rowX.prog w 4362).bind (topX w true true)) = some (openGood prgX lseX, twVal) := by kernel_rfl
theorem law_said : PySem.Challenge.rw_ij0206_01.wellSaid = true := by kernel_rfl
theorem headX (H : ∀ {q : Program} {loose : List Str} {XP : (Str -> Option Value) -> Heap -> Prop} {d : DefRec}, QOk q loose -> d.name = (defAt 32).name ->
  WalkO q loose XP twHook.says PySem.Challenge.rw_ij0206_01.row.toRowW d [] fun f vs => PySem.call f vs) : PySem.Challenge.rw_ij0206_01.Holds := by
  (w_on; refine holds_law Mine.law_said fun said => ?_)
  refine holds_open (q := prgX) (loose := lseX) (Xt := xtX) (XP := XL prgX []) (Yf := twObs) (Ya := fun _ => twVal) (YP := twHook.says) (N := 4362) (lfX fun w a b => match a, b with | false, false => ekA w | false, true => ekB w | true, false => ekC w | true, true => ekD w) twHook.of twHook.keeps (fun s e => xl_of s (Bool.and_eq_true_iff.mp e).1) XL.keeps (by rfl) (by rfl) (by rfl) (fun s e => recFacts_of (Bool.and_eq_true_iff.mp e).2) (by rfl) (by assumption) (by decide +kernel) ⟨rfl, rfl, rfl, rfl, rfl, by decide +kernel⟩ ?hw ?hc
  case hw => w_witness2
  exact H ⟨by kernel_rfl, by decide +kernel⟩ (by rfl)
def nd (k : Lean.Name) (l : Array Lean.Syntax) : Lean.Syntax := .node .none k l
def at' (s : String) : Lean.Syntax := .atom .none s
def nul (l : Array Lean.Syntax) : Lean.Syntax := nd `null l
def sqT (l : Array Lean.Syntax) : Lean.Syntax := nd ``Lean.Parser.Tactic.tacticSeq #[nd ``Lean.Parser.Tactic.tacticSeq1Indented #[nul (Lean.mkSepArray l (at' ";"))]]
def paT (l : Array Lean.Syntax) : Lean.Syntax := nd ``Lean.Parser.Tactic.paren #[at' "(", sqT l, at' ")"]
def fiT (l : Array Lean.Syntax) : Lean.Syntax := nd ``Lean.Parser.Tactic.first #[at' "first", nul (l.map fun t => nd `group #[at' "|", sqT #[t]])]
def idS (s : String) : Lean.Syntax := (Lean.mkIdent (.mkSimple s)).raw
def lmS (s : String) : Lean.Syntax := (Lean.mkIdent (.str `Mine s)).raw
def apS (f : Lean.Syntax) (l : Array Lean.Syntax) : Lean.Syntax := nd ``Lean.Parser.Term.app #[f, nul l]
def hoS : Lean.Syntax := nd ``Lean.Parser.Term.syntheticHole #[at' "?", at' "_"]
def reT (t : Lean.Syntax) : Lean.Syntax := nd ``Lean.Parser.Tactic.refine #[at' "refine", t]
def exT (t : Lean.Syntax) : Lean.Syntax := nd ``Lean.Parser.Tactic.exact #[at' "exact", t]
def wrT (t : Lean.Syntax) : Lean.Syntax := nd ``Lean.Parser.Tactic.withReducible #[at' "with_reducible", sqT #[t]]
def apT (t : Lean.Syntax) : Lean.Syntax := wrT (nd ``Lean.Parser.Tactic.apply #[at' "apply", t])
def failT : Lean.Syntax := nd ``Lean.Parser.Tactic.fail #[at' "fail", nul #[]]
def trT (t : Lean.Syntax) : Lean.Syntax := nd ``Lean.Parser.Tactic.tacticTry_ #[at' "try", sqT #[t]]
def obT (p e : Lean.Syntax) : Lean.Syntax := nd ``Lean.Parser.Tactic.obtain #[at' "obtain", nul #[nd ``Lean.Parser.Tactic.rcasesPatMed #[nul #[p]]], nul #[], nul #[at' ":=", nul #[e]]]
def caT (e : Lean.Syntax) : Lean.Syntax := nd ``Lean.Parser.Tactic.cases #[at' "cases", nul #[nd ``Lean.Parser.Tactic.elimTarget #[nul #[], e]], nul #[], nul #[]]
def injT (e : Lean.Syntax) (n : Nat) : Lean.Syntax :=
  let hs := (Array.range n).map fun i => idS s!"hinj{i}"
  paT (#[nd ``Lean.Parser.Tactic.injection #[at' "injection", e, nul #[at' "with", nul hs]]] ++ hs.map caT)
def cases' (e : Lean.Syntax) : Lean.Syntax := fiT #[
  paT #[nd ``Lean.Parser.Tactic.injection #[at' "injection", e, nul #[]], nd ``Lean.Parser.Tactic.done #[at' "done"]],
  obT (nd ``Lean.Parser.Tactic.rcasesPat.one #[idS "rfl"]) e,
  paT #[nd ``Lean.Parser.Tactic.revert #[at' "revert", nul #[e]], wrT (reT (apS (lmS "rsk") #[hoS]))],
  injT e 5, injT e 4, injT e 3, injT e 2, injT e 1, failT]
def refine' (qs : Array Lean.Syntax) : Lean.Syntax := fiT (((Array.range qs.size).map fun k => reT (apS (lmS s!"i{k}_{qs.size - k}") qs)).push failT)
def obtain' (qs : Array Lean.Syntax) (e : Lean.Syntax) : Option Lean.Syntax :=
  let n := qs.size
  let l := e[1].getArgs.back?.getD .missing
  let i := if e.isIdent then e else if e.isOfKind ``Lean.Parser.Term.app && l.isIdent then l else .missing
  let cl := if i.isIdent then #[trT (nd ``Lean.Parser.Tactic.clear #[at' "clear", nul #[i]])] else #[]
  if n < 3 then
    if e.isIdent || !i.isIdent then none
    else
      let hob := idS "hob"
      some (paT (#[obT (nd ``Lean.Parser.Tactic.rcasesPat.one #[hob]) e] ++ cl ++ #[obT (nd ``Lean.Parser.Tactic.rcasesPat.tuple #[at' "⟨", nul (Lean.mkSepArray qs (at' ",")), at' "⟩"]) hob]))
  else if qs.any fun q => q[0][0].getNumArgs != 1 || q[1].getNumArgs != 0 then none
  else some (paT (#[fiT (((Array.range n).map fun k => reT (apS (lmS s!"x{k}_{n - k}") #[e, hoS])).push failT)] ++ cl ++
    #[nd ``Lean.Parser.Tactic.rintro #[at' "rintro", nul (qs.map fun q => nd ``Lean.Parser.Tactic.rintroPat.one #[q[0][0][0]]), nul #[]]]))
def faT (t : Lean.Syntax) : Lean.Syntax := if t[1].isOfKind ``Lean.Parser.Term.byTactic then nd ``Lean.Parser.Tactic.paren #[at' "(", t[1][1], at' ")"] else exT t
def exists' (ts : Array Lean.Syntax) : Array Lean.Syntax :=
  (if ts[0]!.isIdent then #[] else #[exT ts[0]!]) ++ (("zl yK e_seqX zac Zj e_op1 zch e_ite e_tru e_not e_and e_or e_itE e_andV e_orV zI zad Qe e_tup e_lst e_mlst e_ret e_expr e_aug e_ass e_unp e_unps e_meth zcg e_cut e_fz e_app zD e_setL e_bdb x_seqX x_xl x_item x_cmpX x_setX x_ite x_tryX x_finX e_wh e_bdA a_n a_c a_b a_r e_cR e_cN e_cP e_lcF".splitOn " ").toArray.map fun n => apT (idS n)) ++ (ts.extract 1 ts.size).map faT
end Mine
section
local macro_rules | `(tactic| cases $e:ident) => return Mine.cases' e
local macro_rules | `(tactic| omega) => `(tactic| lia)
local macro_rules | `(tactic| trivial) => `(tactic| first | assumption | exact Nat.le_refl _ | exact Nat.le_succ _ | omega)
local macro_rules
  | `(tactic| obtain ⟨$ps,*⟩ := $e:term) => match Mine.obtain' ps.getElems e with
    | some t => return t
    | none => Lean.Macro.throwUnsupported
local macro_rules
  | `(tactic| refine ⟨$ps,*⟩) => if ps.getElems.size < 3 then Lean.Macro.throwUnsupported else return Mine.refine' ps.getElems
  | `(tactic| exact ⟨$ps,*⟩) => if ps.getElems.size < 3 then Lean.Macro.throwUnsupported else return Mine.refine' ps.getElems
local macro_rules
  | `(tactic| exists $ts,*) => do
    let l : Array (Lean.TSyntax `tactic) := (Mine.exists' ts.getElems).map fun t => ⟨t⟩
    `(tactic| repeat' (first $[| $l:tactic]* | (intro h; cases h; done) | (intro _ h; cases h) | exact fun h => absurd rfl h | intro _ | exact rfl))
namespace Mine
inductive AV where
 | none | bool (b : Bool) | int (i : Int) | str (s : List Nat)
 | tup (xs : List AV) | lst (xs : List AV)
 | loc (n : Nat) | app (n : Nat)
 | dct (kvs : List (List Nat × Int))
inductive AE where
 | dead | lst (xs : List AV) | obj | dct (kvs : List (List Nat × Int))
structure St where
 sl : List (Option AV)
 st : List AE
noncomputable abbrev Fz := Addr -> Obj -> Prop
noncomputable def zM (vs : List Value) (n : Nat) : Obj := { cls := .type "list", data := .seq vs.toArray n }
noncomputable def QT : Obj := { cls := .type "object" }
noncomputable def zcn (a : Addr) : Obj := { cls := .type "builtin_function_or_method", data := .fields #[.builtin "list.append", .ref a] }
noncomputable def DctAt (B : Fz) (kvs : List (List Nat × Int)) (v : Value) : Prop :=
 ∃ a o, v = .ref a /\ B a o /\ o.cls = .type "dict" /\ True /\ kvs = kvs
mutual
noncomputable def RV (B : Fz) (ρ : List Addr) : AV -> Value -> Prop
 | .none, v => v = .none
 | .bool b, v => v = .bool b
 | .int i, v => ∃ t, v = .int i t
 | .str s, v => ∃ t, v = .str ⟨s.toArray⟩ t
 | .tup xs, v => ∃ a vs n, v = .ref a /\ B a (tupO vs n) /\ RVs B ρ xs vs
 | .lst xs, v => ∃ a vs n, v = .ref a /\ B a (zM vs n) /\ RVs B ρ xs vs
 | .loc n, v => ∃ a, v = .ref a /\ ρ[n]? = some a
 | .app n, v => ∃ a b, v = .ref b /\ ρ[n]? = some a /\ B b (zcn a)
 | .dct kvs, v => DctAt B kvs v
noncomputable def RVs (B : Fz) (ρ : List Addr) : List AV -> List Value -> Prop
 | [], vs => vs = []
 | x :: xs, vs => ∃ v vs', vs = v :: vs' /\ RV B ρ x v /\ RVs B ρ xs vs'
end
section
variable {B : Fz} {ρ : List Addr} {v : Value} {vs : List Value} {x : AV} {xs : List AV}
theorem rvA : RV B ρ .none v = (v = .none) := rfl
theorem rvB {b : Bool} : RV B ρ (.bool b) v = (v = .bool b) := rfl
theorem rvC {i : Int} : RV B ρ (.int i) v = ∃ t, v = .int i t := rfl
theorem rvD {s : List Nat} : RV B ρ (.str s) v = ∃ t, v = .str ⟨s.toArray⟩ t := rfl
theorem rvE : RV B ρ (.tup xs) v = ∃ a vs n, v = .ref a /\ B a (tupO vs n) /\ RVs B ρ xs vs := rfl
theorem rvF : RV B ρ (.lst xs) v = ∃ a vs n, v = .ref a /\ B a (zM vs n) /\ RVs B ρ xs vs := rfl
theorem rvG {n : Nat} : RV B ρ (.loc n) v = ∃ a, v = .ref a /\ ρ[n]? = some a := rfl
theorem rvH {n : Nat} : RV B ρ (.app n) v = ∃ a b, v = .ref b /\ ρ[n]? = some a /\ B b (zcn a) := rfl
theorem rvI {kvs : List (List Nat × Int)} : RV B ρ (.dct kvs) v = DctAt B kvs v := rfl
theorem rvJ : RVs B ρ [] vs = (vs = []) := rfl
theorem rvK : RVs B ρ (x :: xs) vs = ∃ v vs', vs = v :: vs' /\ RV B ρ x v /\ RVs B ρ xs vs' := rfl
end
mutual
theorem RV.mono {B B' : Fz} {ρ ρ' : List Addr} (hB : ∀ b o, B b o -> B' b o) (hρ : ∀ (n : Nat) (a : Addr), ρ[n]? = some a -> ρ'[n]? = some a) : ∀ (x : AV) (v : Value), RV B ρ x v -> RV B' ρ' x v
 | .none, _, h => h
 | .bool _, _, h => h
 | .int _, _, h => h
 | .str _, _, h => h
 | .tup xs, v, h => by
  simp only [rvE] at h ⊢
  obtain ⟨a, vs, n, e, hb, hr⟩ := h
  exact ⟨a, vs, n, e, hB _ _ hb, RVs.mono hB hρ xs vs hr⟩
 | .lst xs, v, h => by
  simp only [rvF] at h ⊢
  obtain ⟨a, vs, n, e, hb, hr⟩ := h
  exact ⟨a, vs, n, e, hB _ _ hb, RVs.mono hB hρ xs vs hr⟩
 | .loc n, v, h => by
  simp only [rvG] at h ⊢
  obtain ⟨a, e, hb⟩ := h
  exact ⟨a, e, hρ _ _ hb⟩
 | .app n, v, h => by
  simp only [rvH] at h ⊢
  obtain ⟨a, b, e, hb, hb'⟩ := h
  exact ⟨a, b, e, hρ _ _ hb, hB _ _ hb'⟩
 | .dct kvs, v, h => by
  simp only [rvI, DctAt] at h ⊢
  obtain ⟨a, o, e, hb, r⟩ := h
  exact ⟨a, o, e, hB _ _ hb, r⟩
theorem RVs.mono {B B' : Fz} {ρ ρ' : List Addr} (hB : ∀ b o, B b o -> B' b o) (hρ : ∀ (n : Nat) (a : Addr), ρ[n]? = some a -> ρ'[n]? = some a) : ∀ (xs : List AV) (vs : List Value), RVs B ρ xs vs -> RVs B' ρ' xs vs
 | [], _, h => h
 | x :: xs, vs, h => by
  simp only [rvJ, rvK] at h ⊢
  obtain ⟨v, vs', e, h1, h2⟩ := h
  exact ⟨v, vs', e, RV.mono hB hρ x v h1, RVs.mono hB hρ xs vs' h2⟩
end
inductive Yb where
 | no | loc (L : Addr) (x : Str) | cell (c : Addr)
noncomputable def Yb.addr : Yb -> Option Addr
 | .no => .none | .loc L _ => some L | .cell c => some c
structure Gh where
 B : Fz
 ρ : List Addr
 vl : Nat -> Yb
structure Gh.le (g g' : Gh) : Prop where
 B : ∀ b o, g.B b o -> g'.B b o
 ρ : ∀ (n : Nat) (a : Addr), g.ρ[n]? = some a -> g'.ρ[n]? = some a
 vl : g'.vl = g.vl
theorem Gh.le_refl (g : Gh) : g.le g := ⟨fun _ _ x => x, fun _ _ x => x, rfl⟩
theorem Gh.le.trans {a b c : Gh} (x : a.le b) (y : b.le c) : a.le c := ⟨fun _ _ e => y.B _ _ (x.B _ _ e), fun _ _ e => y.ρ _ _ (x.ρ _ _ e), y.vl.trans x.vl⟩
noncomputable abbrev Gh.rv (g : Gh) (x : AV) (v : Value) : Prop := RV g.B g.ρ x v
noncomputable abbrev Gh.rvs (g : Gh) (x : List AV) (v : List Value) : Prop := RVs g.B g.ρ x v
theorem Gh.rv_le {g g' : Gh} (h : g.le g') {x : AV} {v : Value} (r : g.rv x v) : g'.rv x v := RV.mono h.B h.ρ x v r
theorem Gh.rvs_le {g g' : Gh} (h : g.le g') {x : List AV} {v : List Value} (r : g.rvs x v) : g'.rvs x v := RVs.mono h.B h.ρ x v r
noncomputable def Yp (B : Fz) (ρ : List Addr) (h : Heap) (x : Option AV) : Yb -> Prop
 | .no => x = .none
 | .loc L n => ∃ m, h.Ns L m /\ ∀ av, x = some av -> ∃ v, m n = some v /\ RV B ρ av v
 | .cell c => ∃ ov, h.IsCell c ov /\ ∀ av, x = some av -> ∃ v, ov = some v /\ RV B ρ av v
noncomputable def DctObj (p : Program) (w : World) (kvs : List (List Nat × Int)) (o : Obj) : Prop := ∃ vs : List (Str × Value), o.IsDictOf (strKind p w) vs /\ Paired (fun (x : List Nat × Int) (y : Str × Value) => y.1 = ⟨x.1.toArray⟩ /\ ∃ t, y.2 = .int x.2 t) kvs vs
noncomputable def EntOk (p : Program) (w : World) (B : Fz) (ρ : List Addr) (h : Heap) (a : Addr) : AE -> Prop
 | .dct kvs => ∃ o, h.get? a = some o /\ DctObj p w kvs o /\ (a == sysModules) = false
 | .dead => ∃ o, h.get? a = some o
 | .lst xs => ∃ vs n, h.get? a = some (zM vs n) /\ RVs B ρ xs vs
 | .obj => h.get? a = some QT
structure Kx where
 f : Fz
 L : Addr
noncomputable def ZX (o : Obj) : Prop := ∃ es n, o.data = .dict es n
noncomputable def KAt (h : Heap) (b : Addr) (o : Obj) : Prop := h.get? b = some o ∨ (ZX o /\ ∃ sl, h.get? b = some { o with slots := sl })
theorem KAt.mono {h h' : Heap} {b : Addr} {o : Obj} (x : KAt h b o) (k : ∀ o, h.get? b = some o -> h'.get? b = some o) : KAt h' b o :=
 x.elim (fun e => .inl (k _ e)) fun ⟨d, sl, e⟩ => .inr ⟨d, sl, k _ e⟩
theorem KAt.some {h : Heap} {b : Addr} {o : Obj} (x : KAt h b o) : ∃ o', h.get? b = .some o' := x.elim (fun e => ⟨_, e⟩) fun ⟨_, _, e⟩ => ⟨_, e⟩
theorem KAt.up {h : Heap} {b : Addr} {o : Obj} (x : KAt h b o) : ∃ sl, h.get? b = .some { o with slots := sl } := x.elim (fun e => ⟨o.slots, e⟩) fun ⟨_, sl, e⟩ => ⟨sl, e⟩
theorem KAt.ex {h : Heap} {b : Addr} {o : Obj} (x : KAt h b o) (n : ¬ ZX o) : h.get? b = .some o := x.elim id fun ⟨d, _⟩ => absurd d n
structure GC where
 prog : Program
 w : World
 hb : Heap
 mg : Str -> Option Value
 mb : Str -> Option Value
 os : OsState
 P : Addr
noncomputable def St.get (σ : St) (i : Nat) : Option AV := (σ.sl[i]?).join
noncomputable def St.put (σ : St) (i : Nat) (x : Option AV) : St := { σ with sl := σ.sl.set i x }
noncomputable def QE : Str := "_translate.<locals>.<lambda>"
noncomputable def TabOk (B : Fz) (ps : Array Value) : Prop := TriplesOk ps.toList /\ ∀ (pos : Pos) (cv : Value), pos.line = 106 -> codeAmong pos ps.toList = some cv -> ∃ c oc vs t, cv = .ref c /\ B c oc /\ oc.data = .fields vs /\ vs[1]? = some (.str QE t)
theorem TabOk.mono {B B' : Fz} {ps : Array Value} (h : TabOk B ps) (k : ∀ b o, B b o -> B' b o) : TabOk B' ps :=
 ⟨h.1, fun pos cv hl hc => let ⟨c, oc, vs, t, e1, e2, e3⟩ := h.2 pos cv hl hc; ⟨c, oc, vs, t, e1, k _ _ e2, e3⟩⟩
structure Wf (G : GC) (K : Kx) (g : Gh) (σ : St) (s : Shared) : Prop where
 hB : ∀ b o, g.B b o -> s.heap.get? b = some o
 hK : ∀ b o, K.f b o -> KAt s.heap b o
 base : ∀ b o, G.hb.get? b = some o -> b ≠ G.P -> g.B b o
 tab : ∃ ps, TabOk g.B ps /\ s.heap.get? G.P = some { cls := .none, data := .fields ps }
 dB : ∀ b o, g.B b o -> (∀ n : Nat, g.ρ[n]? = some b -> σ.st[n]? = some AE.dead) /\ (∀ i, (g.vl i).addr ≠ some b) /\ b ≠ G.P
 dK : ∀ b o, K.f b o -> (∀ n : Nat, g.ρ[n]? ≠ some b) /\ (∀ i, (g.vl i).addr ≠ some b) /\ b ≠ G.P
 dBK : ∀ b o o', g.B b o -> K.f b o' -> False
 dP : (∀ n : Nat, g.ρ[n]? ≠ some G.P) /\ ∀ i, (g.vl i).addr ≠ some G.P
 dv : ∀ (n i : Nat) (a : Addr), g.ρ[n]? = some a -> (g.vl i).addr ≠ some a
 len : g.ρ.length = σ.st.length
 nodup : ∀ (n k : Nat) (a : Addr), g.ρ[n]? = some a -> g.ρ[k]? = some a -> n = k
 st : ∀ (n : Nat) (e : AE) (a : Addr), σ.st[n]? = some e -> g.ρ[n]? = some a -> EntOk G.prog G.w g.B g.ρ s.heap a e
 fr : ∀ i, Yp g.B g.ρ s.heap (σ.get i) (g.vl i)
 inj : ∀ i j, i ≠ j -> g.vl i = g.vl j -> g.vl i = .no
 has : ∃ i x, g.vl i = Yb.loc K.L x
 gens : AllBare s.gens
 os : s.os = G.os
 tk : 1 <= s.toks
theorem Yp.mono {B B' : Fz} {ρ ρ' : List Addr} {h h' : Heap} {x : Option AV} {l : Yb} (hB : ∀ b o, B b o -> B' b o) (hρ : ∀ (n : Nat) (a : Addr), ρ[n]? = some a -> ρ'[n]? = some a)
  (hh : ∀ a, l.addr = some a -> ∀ o, h.get? a = some o -> h'.get? a = some o) (k : Yp B ρ h x l) : Yp B' ρ' h' x l := by
 cases l with
 | no => exact k
 | loc L n =>
  obtain ⟨m, hn, hv⟩ := k
  exact ⟨m, hn.at' (hh L rfl), fun av e => let ⟨v, e1, e2⟩ := hv av e; ⟨v, e1, RV.mono hB hρ _ _ e2⟩⟩
 | cell c =>
  obtain ⟨ov, hn, hv⟩ := k
  obtain ⟨o, ho, hd⟩ := hn
  exact ⟨ov, ⟨o, hh c rfl o ho, hd⟩, fun av e => let ⟨v, e1, e2⟩ := hv av e; ⟨v, e1, RV.mono hB hρ _ _ e2⟩⟩
theorem ns_slots {h h' : Heap} {a : Addr} {m : Str -> Option Value} (k : h.Ns a m) (hh : ∀ o, h.get? a = some o -> ∃ sl, h'.get? a = some { o with slots := sl }) : h'.Ns a m := by
 obtain ⟨o, es, ep, ho, hd, r⟩ := k
 obtain ⟨sl, hs⟩ := hh o ho
 exact ⟨_, es, ep, hs, hd, r⟩
theorem Yp.monoS {B B' : Fz} {ρ ρ' : List Addr} {h h' : Heap} {x : Option AV} {l : Yb} (hB : ∀ b o, B b o -> B' b o) (hρ : ∀ (n : Nat) (a : Addr), ρ[n]? = some a -> ρ'[n]? = some a)
  (hh : ∀ a, l.addr = some a -> ∀ o, h.get? a = some o -> ∃ sl, h'.get? a = some { o with slots := sl }) (k : Yp B ρ h x l) : Yp B' ρ' h' x l := by
 cases l with
 | no => exact k
 | loc L n =>
  obtain ⟨m, hn, hv⟩ := k
  exact ⟨m, ns_slots hn (hh L rfl), fun av e => let ⟨v, e1, e2⟩ := hv av e; ⟨v, e1, RV.mono hB hρ _ _ e2⟩⟩
 | cell c =>
  obtain ⟨ov, hn, hv⟩ := k
  obtain ⟨o, ho, hd⟩ := hn
  obtain ⟨sl, hs⟩ := hh c rfl o ho
  exact ⟨ov, ⟨_, hs, hd⟩, fun av e => let ⟨v, e1, e2⟩ := hv av e; ⟨v, e1, RV.mono hB hρ _ _ e2⟩⟩
theorem EntOk.mono {p : Program} {w : World} {B B' : Fz} {ρ ρ' : List Addr} {h h' : Heap} {a : Addr} {e : AE} (hB : ∀ b o, B b o -> B' b o) (hρ : ∀ (n : Nat) (a : Addr), ρ[n]? = some a -> ρ'[n]? = some a)
  (hh : ∀ o, h.get? a = some o -> h'.get? a = some o) (k : EntOk p w B ρ h a e) : EntOk p w B' ρ' h' a e := by
 cases e with
 | dead => obtain ⟨o, ho⟩ := k; exact ⟨o, hh o ho⟩
 | dct kvs => obtain ⟨o, ho, hd⟩ := k; exact ⟨o, hh o ho, hd⟩
 | lst xs => obtain ⟨vs, n, ho, hr⟩ := k; exact ⟨vs, n, hh _ ho, RVs.mono hB hρ _ _ hr⟩
 | obj => exact hh _ k
theorem Yb.exists_of {G : GC} {K : Kx} {g : Gh} {σ : St} {s : Shared} (I : Wf G K g σ s) {i : Nat} {a : Addr} (h : (g.vl i).addr = some a) : ∃ o, s.heap.get? a = some o := by
 have k := I.fr i
 cases e : g.vl i with
 | no => rw [e] at h; cases h
 | loc L n =>
  rw [e] at h k; cases h
  obtain ⟨m, ⟨o, _, _, ho, _⟩, _⟩ := k
  exact ⟨o, ho⟩
 | cell c =>
  rw [e] at h k; cases h
  obtain ⟨ov, ⟨o, ho, _⟩, _⟩ := k
  exact ⟨o, ho⟩
theorem Wf.rho_exists {G : GC} {K : Kx} {g : Gh} {σ : St} {s : Shared} (I : Wf G K g σ s) {n : Nat} {a : Addr} (h : g.ρ[n]? = some a) : ∃ o, s.heap.get? a = some o := by
 have hl : n < σ.st.length := by rw [<- I.len]; exact (List.getElem?_eq_some_iff.mp h).1
 have k := I.st n _ a (List.getElem?_eq_getElem hl) h
 cases e : σ.st[n] with
 | dead => rw [e] at k; exact k
 | dct kvs => rw [e] at k; obtain ⟨o, ho, _⟩ := k; exact ⟨o, ho⟩
 | lst xs => rw [e] at k; obtain ⟨_, _, ho, _⟩ := k; exact ⟨_, ho⟩
 | obj => rw [e] at k; exact ⟨_, k⟩
theorem Wf.grow {G : GC} {K : Kx} {g : Gh} {σ : St} {s : Shared} (I : Wf G K g σ s) {h' : Heap} (tk : Nat) (hk : ∀ b o, s.heap.get? b = some o -> h'.get? b = some o)
  (N : Fz) (hN : ∀ b o, N b o -> h'.get? b = some o /\ s.heap.get? b = Option.none) (htk : s.toks <= tk := by trivial) :
  Wf G K { g with B := fun b o => g.B b o ∨ N b o } σ { s with heap := h', toks := tk } where
 hB := fun b o h => h.elim (fun h => hk _ _ (I.hB _ _ h)) fun h => (hN _ _ h).1
 hK := fun b o h => (I.hK b o h).mono fun o => hk b o
 base := fun b o h hp => .inl (I.base b o h hp)
 tab := let ⟨ps, h1, h2⟩ := I.tab; ⟨ps, h1.mono fun _ _ x => .inl x, hk _ _ h2⟩
 dB := fun b o h => h.elim (I.dB b o) fun h => by
  have hn := (hN _ _ h).2
  refine ⟨fun n e => ?_, fun i e => ?_, fun e => ?_⟩
  ·obtain ⟨o', e'⟩ := I.rho_exists e; rw [hn] at e'; cases e'
  ·obtain ⟨o', e'⟩ := Yb.exists_of I e; rw [hn] at e'; cases e'
  ·obtain ⟨ps, _, e'⟩ := I.tab; subst e; rw [hn] at e'; cases e'
 dK := I.dK
 dBK := fun b o o' h k => h.elim (fun h => I.dBK b o o' h k) fun h => by obtain ⟨_, e⟩ := (I.hK b o' k).some; rw [(hN _ _ h).2] at e; cases e
 dP := I.dP
 dv := I.dv
 len := I.len
 nodup := I.nodup
 st := fun n e a h1 h2 => (I.st n e a h1 h2).mono (fun _ _ x => .inl x) (fun _ _ x => x) fun o => hk a o
 fr := fun i => (I.fr i).mono (fun _ _ x => .inl x) (fun _ _ x => x) fun a _ o => hk a o
 inj := I.inj
 has := I.has
 gens := I.gens
 os := I.os
 tk := Nat.le_trans I.tk htk
theorem Wf.keep {G : GC} {K : Kx} {g : Gh} {σ : St} {s : Shared} (I : Wf G K g σ s) {h' : Heap} (tk : Nat) (hk : ∀ b o, s.heap.get? b = some o -> h'.get? b = some o) (htk : s.toks <= tk := by trivial) :
  Wf G K g σ { s with heap := h', toks := tk } := by
 have J := I.grow tk hk (fun _ _ => False) (fun _ _ h => h.elim)
 have e : ({ g with B := fun b o => g.B b o ∨ False } : Gh) = g := by cases g; simp
 rw [e] at J; exact J
theorem Wf.tok {G : GC} {K : Kx} {g : Gh} {σ : St} {s : Shared} (I : Wf G K g σ s) (tk : Nat) (htk : s.toks <= tk := by trivial) : Wf G K g σ { s with toks := tk } := I.keep tk fun _ _ e => e
theorem nn {α : Type} {a : α} {P : Prop} (h : (Option.none : Option α) = some a) : P := nomatch h
theorem iS {c : Prop} [Decidable c] {α : Type} {x : Option α} {r : α} (h : (if c then x else Option.none) = some r) : c /\ x = some r := by
 by_cases hc : c
 ·exact ⟨hc, (if_pos hc).symm.trans h⟩
 ·exact nn ((if_neg hc).symm.trans h)
theorem bS {α β : Type} {o : Option α} {f : α -> Option β} {r : β} (h : o.bind f = some r) : ∃ x, o = some x /\ f x = some r := Option.bind_eq_some_iff.mp h
theorem bK {α β : Type} {o : Option α} {x : α} {f : α -> Option β} {r : β} (h : o = some x) (k : f x = some r) : o.bind f = some r := by rw [h]; exact k
noncomputable def AV.s? : AV -> Option (List Nat)
 | .str s => some s
 | _ => Option.none
noncomputable def AV.i? : AV -> Option Int
 | .int i => some i
 | _ => Option.none
theorem AV.str_of {a : AV} {s : List Nat} (h : a.s? = some s) : a = .str s := by
 cases a with
 | str t => exact congrArg AV.str (Option.some.inj h)
 | _ => exact nn h
theorem AV.int_of {a : AV} {i : Int} (h : a.i? = some i) : a = .int i := by
 cases a with
 | int t => exact congrArg AV.int (Option.some.inj h)
 | _ => exact nn h
noncomputable def AV.l? : AV -> Option (List AV)
 | .lst l => some l
 | _ => Option.none
theorem AV.lst_of {a : AV} {l : List AV} (h : a.l? = some l) : a = .lst l := by
 cases a with
 | lst t => exact congrArg AV.lst (Option.some.inj h)
 | _ => exact nn h
noncomputable def one? {α : Type} : List α -> Option α
 | [x] => some x
 | _ => Option.none
theorem Xu {α : Type} {l : List α} {x : α} (h : one? l = some x) : l = [x] := by
 cases l with
 | nil => exact nn h
 | cons y r =>
  cases r with
  | nil => exact congrArg (fun z => [z]) (Option.some.inj h)
  | cons z r => exact nn h
noncomputable def AE.l? : AE -> Option (List AV)
 | .lst l => some l
 | _ => Option.none
theorem AE.lst_of {a : AE} {l : List AV} (h : a.l? = some l) : a = .lst l := by
 cases a with
 | lst t => exact congrArg AE.lst (Option.some.inj h)
 | _ => exact nn h
noncomputable def stL (σ : St) (n : Nat) : Option (List AV) := σ.st[n]?.bind AE.l?
theorem Qr {σ : St} {n : Nat} {l : List AV} (h : stL σ n = some l) : σ.st[n]? = some (.lst l) := by
 obtain ⟨a, e, h⟩ := bS h
 rw [e, AE.lst_of h]
theorem stK {σ : St} {n : Nat} {l : List AV} (h : σ.st[n]? = some (.lst l)) : stL σ n = some l := bK h rfl
noncomputable def AV.n? : AV -> Option Nat
 | .loc n => some n
 | _ => Option.none
theorem AV.loc_of {a : AV} {n : Nat} (h : a.n? = some n) : a = .loc n := by
 cases a with
 | loc t => exact congrArg AV.loc (Option.some.inj h)
 | _ => exact nn h
noncomputable def AE.d? : AE -> Option (List (List Nat × Int))
 | .dct l => some l
 | _ => Option.none
theorem AE.dct_of {a : AE} {l : List (List Nat × Int)} (h : a.d? = some l) : a = .dct l := by
 cases a with
 | dct t => exact congrArg AE.dct (Option.some.inj h)
 | _ => exact nn h
noncomputable def two? {α : Type} : List α -> Option (α × α)
 | [x, y] => some (x, y)
 | _ => Option.none
theorem two_of {α : Type} {l : List α} {x y : α} (h : two? l = some (x, y)) : l = [x, y] := by
 cases l with
 | nil => exact nn h
 | cons a r =>
  cases r with
  | nil => exact nn h
  | cons b r =>
   cases r with
   | nil => exact congrArg (fun p => [p.1, p.2]) (Option.some.inj h)
   | cons c r => exact nn h
theorem St.get_put (σ : St) (i j : Nat) (x : Option AV) : (σ.put i x).get j = if i = j then (if i < σ.sl.length then x else Option.none) else σ.get j := by
 unfold St.put St.get
 simp only [List.getElem?_set]
 split
 ·split <;> rfl
 ·rfl
theorem Ns.unique {h : Heap} {a : Addr} {m m' : Str -> Option Value} (x : h.Ns a m) (y : h.Ns a m') : m = m' := by
 obtain ⟨o, es, ep, ho, hd, _, hm⟩ := x
 obtain ⟨o', es', ep', ho', hd', _, hm'⟩ := y
 rw [ho] at ho'; cases ho'
 rw [hd] at hd'; cases hd'
 funext n
 rw [<- hm n, <- hm' n]
section
variable {G : GC} {K : Kx} {g : Gh} {σ : St} {s : Shared}
theorem Wf.putAt (I : Wf G K g σ s) {i : Nat} {a : Addr} {h' : Heap} {tk : Nat} {x : Option AV} (ha : (g.vl i).addr = some a) (hs : Heap.SameBut a s.heap h')
  (hi : Yp g.B g.ρ h' x (g.vl i)) (hj : ∀ j, j ≠ i -> (g.vl j).addr = some a -> Yp g.B g.ρ h' (σ.get j) (g.vl j)) (htk : s.toks <= tk := by trivial) :
  Wf G K g (σ.put i x) { s with heap := h', toks := tk } where
 hB := fun b o h => (hs.2 b fun e => (I.dB b o h).2.1 i (e ▸ ha)).trans (I.hB b o h)
 hK := fun b o h => (I.hK b o h).mono fun _ q => (hs.2 b fun e => (I.dK b o h).2.1 i (e ▸ ha)).trans q
 base := I.base
 tab := let ⟨ps, h1, h2⟩ := I.tab; ⟨ps, h1, (hs.2 G.P fun e => I.dP.2 i (e ▸ ha)).trans h2⟩
 dB := I.dB
 dK := I.dK
 dBK := I.dBK
 dP := I.dP
 dv := I.dv
 len := I.len
 nodup := I.nodup
 st := fun n e b h1 h2 => (I.st n e b h1 h2).mono (fun _ _ x => x) (fun _ _ x => x) fun o h => (hs.2 b fun e => I.dv n i b h2 (e ▸ ha)).trans h
 fr := fun j => by
  rw [St.get_put]
  by_cases h : i = j
  ·subst h
   rw [if_pos rfl]
   split
   ·exact hi
   ·revert hi
    cases g.vl i with
    | no => intro _; rfl
    | loc L n => rintro ⟨m, hn, _⟩; exact ⟨m, hn, fun av h => nomatch h⟩
    | cell c => rintro ⟨m, hn, _⟩; exact ⟨m, hn, fun av h => nomatch h⟩
  ·rw [if_neg h]
   by_cases hb : (g.vl j).addr = some a
   ·exact hj j (Ne.symm h) hb
   ·exact (I.fr j).mono (fun _ _ x => x) (fun _ _ x => x) fun b hb' o ho => (hs.2 b fun e => hb (e ▸ hb')).trans ho
 inj := I.inj
 has := I.has
 gens := I.gens
 os := I.os
 tk := Nat.le_trans I.tk htk
theorem Wf.putLoc (I : Wf G K g σ s) {i : Nat} {L : Addr} {x : Str} {m : Str -> Option Value} {h' : Heap} {tk : Nat} {av : AV} {v : Value} (hv : g.vl i = .loc L x) (hn : s.heap.Ns L m)
  (hn' : h'.Ns L (fun y => if y = x then some v else m y)) (hs : Heap.SameBut L s.heap h') (r : g.rv av v) (htk : s.toks <= tk := by trivial) : Wf G K g (σ.put i (some av)) { s with heap := h', toks := tk } := by
 refine I.putAt (a := L) (by rw [hv]; rfl) hs (by rw [hv]; exact ⟨_, hn', fun av' e => ⟨v, by simp, by cases e; exact r⟩⟩) fun j hj hb => ?_
 have k := I.fr j
 cases e : g.vl j with
 | no => rw [e] at hb; cases hb
 | loc L' y =>
  rw [e] at hb k; cases hb
  have hxy : y ≠ x := fun e' => by
   subst e'
   have := I.inj i j (Ne.symm hj) (hv.trans e.symm)
   rw [hv] at this; cases this
  obtain ⟨m2, hn2, h2⟩ := k
  have := Ns.unique hn hn2; subst this
  exact ⟨_, hn', fun av' e' => let ⟨v', e1, e2⟩ := h2 av' e'; ⟨v', by simp [hxy, e1], e2⟩⟩
 | cell c =>
  rw [e] at hb k; cases hb
  obtain ⟨ov, ⟨o, ho, hd⟩, _⟩ := k
  obtain ⟨o2, es, ep, ho2, hd2, _⟩ := hn
  rw [ho] at ho2; cases ho2; rw [hd] at hd2; cases hd2
theorem Wf.putCell (I : Wf G K g σ s) {i : Nat} {c : Addr} {ov : Option Value} {h' : Heap} {tk : Nat} {av : AV} {v : Value} (hv : g.vl i = .cell c) (hn : s.heap.IsCell c ov)
  (hn' : h'.IsCell c (some v)) (hs : Heap.SameBut c s.heap h') (r : g.rv av v) (htk : s.toks <= tk := by trivial) : Wf G K g (σ.put i (some av)) { s with heap := h', toks := tk } := by
 refine I.putAt (a := c) (by rw [hv]; rfl) hs (by rw [hv]; exact ⟨_, hn', fun av' e => ⟨v, rfl, by cases e; exact r⟩⟩) fun j hj hb => ?_
 have k := I.fr j
 cases e : g.vl j with
 | no => rw [e] at hb; cases hb
 | loc L y =>
  rw [e] at hb k; cases hb
  obtain ⟨m2, ⟨o2, es, ep, ho2, hd2, _⟩, h2⟩ := k
  obtain ⟨o, ho, hd⟩ := hn
  rw [ho] at ho2; cases ho2; rw [hd] at hd2; cases hd2
 | cell c' =>
  rw [e] at hb; cases hb
  have := I.inj i j (Ne.symm hj) (hv.trans e.symm)
  rw [hv] at this; cases this
theorem Wf.newEnt (I : Wf G K g σ s) {a : Addr} {e : AE} {h' : Heap} (tk : Nat) (hk : ∀ b o, s.heap.get? b = some o -> h'.get? b = some o) (hf : s.heap.get? a = Option.none)
    (he : EntOk G.prog G.w g.B g.ρ h' a e) (htk : s.toks <= tk := by trivial) : Wf G K { g with ρ := g.ρ ++ [a] } { σ with st := σ.st ++ [e] } { s with heap := h', toks := tk } /\ g.le { g with ρ := g.ρ ++ [a] } := by
  have hρ : ∀ (n : Nat) (b : Addr), g.ρ[n]? = some b -> (g.ρ ++ [a])[n]? = some b := fun n b e => by
    rw [List.getElem?_append_left (List.getElem?_eq_some_iff.mp e).1]; exact e
  have hin : ∀ (n : Nat) (b : Addr), (g.ρ ++ [a])[n]? = some b -> g.ρ[n]? = some b ∨ (n = g.ρ.length /\ b = a) := fun n b e => by
    rcases Nat.lt_or_ge n g.ρ.length with h | h
    · rw [List.getElem?_append_left h] at e; exact .inl e
    · rw [List.getElem?_append_right h] at e
      rcases Nat.eq_or_lt_of_le h with h' | h'
      · subst h'; simp at e; exact .inr ⟨rfl, e.symm⟩
      · rw [List.getElem?_eq_none (by simp; omega)] at e; cases e
  have fresh : ∀ b o, s.heap.get? b = some o -> b ≠ a := fun b o e h => by subst h; rw [hf] at e; cases e
  refine ⟨{ hB := fun b o h => hk _ _ (I.hB b o h), hK := fun b o h => (I.hK b o h).mono fun o => hk b o, base := I.base, tab := let ⟨ps, h1, h2⟩ := I.tab; ⟨ps, h1, hk _ _ h2⟩, dB := fun b o h => ⟨fun n e => ?_, (I.dB b o h).2⟩,
            dK := fun b o h => ⟨fun n e => ?_, (I.dK b o h).2⟩, dBK := I.dBK, dP := ⟨fun n e => ?_, I.dP.2⟩, dv := fun n i b e => ?_, len := by simp [I.len], nodup := fun n k b e1 e2 => ?_, st := fun n x b e1 e2 => ?_,
            fr := fun i => (I.fr i).mono (fun _ _ x => x) hρ fun b _ o => hk b o, inj := I.inj, has := I.has, gens := I.gens, os := I.os, tk := Nat.le_trans I.tk htk }, fun _ _ x => x, hρ, rfl⟩
  · rcases hin n b e with e | ⟨_, rfl⟩
    · have := (I.dB b o h).1 n e
      show (σ.st ++ [_])[n]? = _
      rw [List.getElem?_append_left (List.getElem?_eq_some_iff.mp this).1]; exact this
    · exact absurd rfl (fresh b o (I.hB b o h))
  · rcases hin n b e with e | ⟨_, rfl⟩
    · exact (I.dK b o h).1 n e
    · obtain ⟨o2, e2⟩ := (I.hK b o h).some; exact absurd rfl (fresh b o2 e2)
  · rcases hin n _ e with e | ⟨_, e⟩
    · exact I.dP.1 n e
    · obtain ⟨ps, _, h2⟩ := I.tab
      exact absurd e (fresh _ _ h2)
  · rcases hin n b e with e | ⟨_, rfl⟩
    · exact I.dv n i b e
    · intro hc
      obtain ⟨o, ho⟩ := Yb.exists_of I hc
      exact absurd rfl (fresh _ _ ho)
  · rcases hin n b e1 with f1 | ⟨g1, h1⟩ <;> rcases hin k b e2 with f2 | ⟨g2, h2⟩
    · exact I.nodup n k b f1 f2
    · obtain ⟨o, ho⟩ := I.rho_exists f1; exact absurd h2 (fresh _ _ ho)
    · obtain ⟨o, ho⟩ := I.rho_exists f2; exact absurd h1 (fresh _ _ ho)
    · rw [g1, g2]
  · rcases hin n b e2 with e2 | ⟨rfl, rfl⟩
    · have hl : n < σ.st.length := by rw [<- I.len]; exact (List.getElem?_eq_some_iff.mp e2).1
      have e1' : (σ.st ++ [e])[n]? = some x := e1
      rw [List.getElem?_append_left hl] at e1'
      exact (I.st n x b e1' e2).mono (fun _ _ x => x) hρ fun o => hk b o
    · have e1' : (σ.st ++ [e])[g.ρ.length]? = some x := e1
      rw [I.len, List.getElem?_append_right (Nat.le_refl _)] at e1'
      simp at e1'; subst e1'
      exact he.mono (fun _ _ x => x) hρ fun o h => h
theorem Wf.updEnt (I : Wf G K g σ s) {n : Nat} {a : Addr} {e e₀ : AE} {h' : Heap} (tk : Nat) (ha : g.ρ[n]? = some a) (h0 : σ.st[n]? = some e₀) (hl : e₀ ≠ .dead) (hs : Heap.SameBut a s.heap h') (he : EntOk G.prog G.w g.B g.ρ h' a e) (htk : s.toks <= tk := by trivial) :
  Wf G K g { σ with st := σ.st.set n e } { s with heap := h', toks := tk } where
 hB := fun b o h => (hs.2 b fun e => by subst e; have := (I.dB b o h).1 n ha; rw [h0] at this; cases this; exact hl rfl).trans (I.hB b o h)
 hK := fun b o h => (I.hK b o h).mono fun _ q => (hs.2 b fun e => by subst e; exact (I.dK b o h).1 n ha).trans q
 base := I.base
 tab := let ⟨ps, h1, h2⟩ := I.tab; ⟨ps, h1, (hs.2 G.P fun e => I.dP.1 n (e ▸ ha)).trans h2⟩
 dB := fun b o h => ⟨fun k hk => by
  have h1 := (I.dB b o h).1 k hk
  show (σ.st.set n e)[k]? = _
  rw [List.getElem?_set]
  split
  ·rename_i e'; subst e'; rw [h0] at h1; cases h1; exact absurd rfl hl
  ·exact h1, (I.dB b o h).2⟩
 dK := I.dK
 dBK := I.dBK
 dP := I.dP
 dv := I.dv
 len := by simp [I.len]
 nodup := I.nodup
 st := fun k x b h1 h2 => by
  have h1' : (σ.st.set n e)[k]? = some x := h1
  rw [List.getElem?_set] at h1'
  split at h1'
  ·rename_i e'; subst e'
   split at h1'
   ·cases h1'; rw [ha] at h2; cases h2; exact he
   ·cases h1'
  ·rename_i hne
   exact (I.st k x b h1' h2).mono (fun _ _ x => x) (fun _ _ x => x) fun o h => (hs.2 b fun e => hne (I.nodup n k b (e ▸ ha) h2)).trans h
 fr := fun i => (I.fr i).mono (fun _ _ x => x) (fun _ _ x => x) fun b hb o h => (hs.2 b fun e => I.dv n i a ha (e ▸ hb)).trans h
 inj := I.inj
 has := I.has
 gens := I.gens
 os := I.os
 tk := Nat.le_trans I.tk htk
theorem Wf.freeze (I : Wf G K g σ s) {n : Nat} {xs : List AV} (h0 : σ.st[n]? = some (.lst xs)) {v : Value} (hv : g.rv (.loc n) v) :
    ∃ g', g.le g' /\ Wf G K g' { σ with st := σ.st.set n .dead } s /\ g'.rv (.lst xs) v := by
  have hv' : ∃ a, v = .ref a /\ g.ρ[n]? = some a := hv
  obtain ⟨a, rfl, ha⟩ := hv'
  have k := I.st n _ a h0 ha
  obtain ⟨vs, ep, ho, hr⟩ := k
  refine ⟨{ g with B := fun b o => g.B b o ∨ (b = a /\ o = zM vs ep) }, ⟨fun _ _ x => .inl x, fun _ _ x => x, rfl⟩, ?_, ?_⟩
  · have J := I.updEnt (e := .dead) s.toks ha h0 (by intro h; cases h) (Heap.SameBut.refl a s.heap) ⟨_, ho⟩
    exact { hB := fun b o h => h.elim (I.hB b o) fun h => by rw [h.1, h.2]; exact ho, hK := I.hK, base := fun b o h hp => .inl (I.base b o h hp), tab := let ⟨ps, a1, a2⟩ := I.tab; ⟨ps, a1.mono fun _ _ x => .inl x, a2⟩
            dB := fun b o h => h.elim (J.dB b o) fun h => by
              obtain ⟨rfl, rfl⟩ := h
              refine ⟨fun k hk => ?_, fun i => I.dv n i _ ha, fun e => I.dP.1 n (e ▸ ha)⟩
              have := I.nodup n k _ ha hk; subst this
              have hl : n < σ.st.length := (List.getElem?_eq_some_iff.mp h0).1
              show (σ.st.set n .dead)[n]? = _
              rw [List.getElem?_set]; simp [hl]
            dK := J.dK, dBK := fun b o o' h k => h.elim (fun h => I.dBK b o o' h k) (fun h => (I.dK b o' k).1 n (by rw [h.1]; exact ha)), dP := J.dP, dv := J.dv, len := J.len, nodup := J.nodup
            st := fun k x b h1 h2 => (J.st k x b h1 h2).mono (fun _ _ x => .inl x) (fun _ _ x => x) fun o h => h
            fr := fun i => (J.fr i).mono (fun _ _ x => .inl x) (fun _ _ x => x) fun b _ o h => h, inj := I.inj, has := I.has, gens := I.gens, os := I.os, tk := I.tk }
  · show RV _ _ (.lst xs) _
    simp only [rvG]
    exact ⟨a, vs, ep, rfl, .inr ⟨rfl, rfl⟩, RVs.mono (fun _ _ x => .inl x) (fun _ _ x => x) _ _ hr⟩
theorem Wf.moreK (I : Wf G K g σ s) {K' : Fz} (h : ∀ b o, K' b o -> KAt s.heap b o /\ (∀ n : Nat, g.ρ[n]? ≠ some b) /\ (∀ i, (g.vl i).addr ≠ some b) /\ b ≠ G.P) (hd : ∀ b o o', g.B b o -> K' b o' -> False) : Wf G ⟨fun b o => K.f b o ∨ K' b o, K.L⟩ g σ s :=
 { I with hK := fun b o x => x.elim (I.hK b o) fun x => (h b o x).1, dK := fun b o x => x.elim (I.dK b o) fun x => (h b o x).2, dBK := fun b o o' x k => k.elim (I.dBK b o o' x) (hd b o o' x) }
theorem Wf.lessK (I : Wf G K g σ s) {K' : Kx} (h : ∀ b o, K'.f b o -> K.f b o) (hL : K'.L = K.L) : Wf G K' g σ s := { I with hK := fun b o x => I.hK b o (h b o x), dK := fun b o x => I.dK b o (h b o x), dBK := fun b o o' x k => I.dBK b o o' x (h b o' k), has := by rw [hL]; exact I.has }
theorem Wf.fresh_of_none (I : Wf G K g σ s) {b : Addr} (h : s.heap.get? b = Option.none) : (∀ n : Nat, g.ρ[n]? ≠ some b) /\ (∀ i, (g.vl i).addr ≠ some b) /\ b ≠ G.P := by
 refine ⟨fun n e => ?_, fun i e => ?_, fun e => ?_⟩
 ·obtain ⟨o, ho⟩ := I.rho_exists e; rw [h] at ho; cases ho
 ·obtain ⟨o, ho⟩ := Yb.exists_of I e; rw [h] at ho; cases ho
 ·obtain ⟨ps, _, ho⟩ := I.tab; subst e; rw [h] at ho; cases ho
end
structure Vis where
 nm : List (Str × Nat)
 gl : List Str
 lc : List Str := []
 cc : List Str := []
 cp : List Str := []
 fs : List Nat := []
 cx : GC -> Env -> Prop := fun _ _ => True
structure EOk (V : Vis) (G : GC) (vl : Nat -> Yb) (env : Env) : Prop where
 kind : env.scope.kind = .function
 globals : env.globals = mainGlobals
 builtins : env.builtins = builtinsNs
 nm : ∀ x i, (x, i) ∈ V.nm -> (env.kindOf x = some .local /\ vl i = .loc env.locals x) ∨
  ((env.kindOf x = some .cell ∨ env.kindOf x = some .free) /\ ∃ c, env.cells.lookup x = some c /\ vl i = .cell c)
 gl : ∀ x, x ∈ V.gl -> env.kindOf x = some .globalImplicit
 lc : ∀ x, x ∈ V.lc -> env.kindOf x = some .local
 cc : ∀ x, x ∈ V.cc -> env.kindOf x = some .cell
 cp : ∀ x, x ∈ V.cp -> env.kindOf x = some .cell ∨ env.kindOf x = some .free
 fs : ∀ i, i ∈ V.fs -> vl i = .no
 cx : V.cx G env
noncomputable def FrameOk (K : Fz) (e : Env) : Prop := e.scope.kind ≠ .module /\ ∃ L o, e.frame = some L /\ ZX o /\ K L o
noncomputable def Yq (K : Kx) (l : List Env) : Prop := l = [] ∨ ∃ e0 r, l = e0 :: r /\ e0.scope.kind ≠ .module /\ e0.frame = some K.L /\ ∀ e ∈ r, FrameOk K.f e
structure AOk (h : Nat) (A : Around) (K : Kx) : Prop where
 handled : 0 < h -> A.handled = .none
 depth : A.depth + h <= 600
 units : A.units + 10 * h <= 9000
 frames : ∃ l, A.frames = some l /\ Yq K l
theorem Yq.mono {K K' : Kx} {l : List Env} (x : Yq K l) (hL : K'.L = K.L) (k : ∀ b o, K.f b o -> K'.f b o) : Yq K' l := by
 rcases x with h | ⟨e0, r, h1, h2, h3, h4⟩
 ·exact .inl h
 ·exact .inr ⟨e0, r, h1, h2, by rw [hL]; exact h3, fun e he => let ⟨a, L, o, b, c, d⟩ := h4 e he; ⟨a, L, o, b, c, k _ _ d⟩⟩
section
variable {K : Kx}
theorem AOk.le {h h' : Nat} {A : Around} (x : AOk h A K) (hh : h' <= h) : AOk h' A K := ⟨fun q => x.handled (by omega), by have := x.depth; omega, by have := x.units; omega, x.frames⟩
theorem AOk.in1 {h : Nat} {A : Around} (x : AOk (h + 1) A K) : AOk h A.in1 K := ⟨fun _ => x.handled (by omega), by have := x.depth; show A.depth + h <= 600; omega, by have := x.units; show A.units + 1 + 10 * h <= 9000; omega, x.frames⟩
theorem AOk.more {h : Nat} {A : Around} {K' : Kx} (x : AOk h A K) (hL : K'.L = K.L) (k : ∀ b o, K.f b o -> K'.f b o) : AOk h A K' := ⟨x.handled, x.depth, x.units, let ⟨l, h1, h2⟩ := x.frames; ⟨l, h1, h2.mono hL k⟩⟩
theorem AOk.deeper {h : Nat} {A : Around} {K' : Kx} (x : AOk (h + 1) A K) (env : Env) (hk : env.scope.kind ≠ .module) (hf : env.frame = some K'.L) {o : Obj} (ho : ZX o) (hL : K'.f K.L o) (k : ∀ b o, K.f b o -> K'.f b o) : AOk h (A.deeper env) K' := by
 refine ⟨fun _ => x.handled (by omega), by have := x.depth; show A.depth + 1 + h <= 600; omega, by have := x.units; show A.units + 3 + 10 * h <= 9000; omega, ?_⟩
 obtain ⟨l, h1, h2⟩ := x.frames
 refine ⟨env :: l, Around.frames_deeper h1, .inr ⟨env, l, rfl, hk, hf, fun e he => ?_⟩⟩
 rcases h2 with rfl | ⟨e0, r, rfl, q1, q2, q3⟩
 ·cases he
 ·rcases List.mem_cons.mp he with rfl | he
  ·exact ⟨q1, K.L, o, q2, ho, hL⟩
  ·obtain ⟨a, L, o, b, c, d⟩ := q3 e he
   exact ⟨a, L, o, b, c, k _ _ d⟩
theorem AOk.room {h : Nat} {A : Around} (x : AOk h A K) : A.depth < recursionLimit := by have := x.depth; show A.depth < 1000; omega
end
structure GC.Ok (G : GC) : Prop where
 bmod : ∃ bm ob, G.mg "__builtins__" = some (.ref bm) /\ bm ≠ builtinsNs /\ G.hb.get? bm = some ob /\ ob.cls = .type "module" /\ ob.dict = some builtinsNs /\ ob.data = .plain
 trc : ∃ a o pm c doc, G.mg (defAt 14).name = some (.ref a) /\ G.hb.get? a = some o /\ o.data = .func (Calls.docDef (defAt 14).name (defAt 14).params (defAt 14).body (defAt 14).scope pm (.ref c) doc) /\ G.hb.CodeRec (.ref c) (defAt 14).name /\
  G.hb.IsCode c G.P #[] /\ G.hb.TableAt c G.P #[]
 twin : ∃ tw o fs cl n, G.mg "_twin_re_1" = some (.ref tw) /\ G.hb.get? tw = some o /\ o.cls = .type "re.Pattern" /\ o.dict = Option.none /\ o.data = .fields fs /\ fs[2]? = some (rawInt 1) /\ fs[3]? = some .none /\ fs[5]? = some (.ref cl) /\ fs[6]? = some (rawInt 0) /\
  G.hb.get? cl = some (tupO (twCode.map fun (w : Nat) => rawInt w) n)
 fn : ∀ i ∈ [2,3,4,5,6,9,14,15,17,19,20,21,22,23,24,25,26,27,28,29,30,31,32], ∃ a o pm cd doc, G.mg (defAt i).name = some (.ref a) /\ G.hb.get? a = some o /\
  o.data = .func (Calls.docDef (defAt i).name (defAt i).params (defAt i).body (defAt i).scope pm cd doc) /\ G.hb.CodeRec cd (defAt i).name
 none : ∀ x ∈ [Str.ofString "len", Str.ofString "range", Str.ofString "list", Str.ofString "sum", Str.ofString "max", Str.ofString "sorted", Str.ofString "zip", Str.ofString "dict", Str.ofString "chr", Str.ofString "int",
  Str.ofString "object", Str.ofString "reversed", Str.ofString "IndexError"], G.mg x = Option.none
 boot : ∀ x : Str, x ≠ "__name__" -> G.mb x = bootBuiltins x
 ns : G.hb.Ns mainGlobals G.mg
 bs : G.hb.Ns builtinsNs G.mb
 lim : G.hb.NoLimit
 pobj : G.hb.get? G.P = some { cls := .none, data := .fields #[] }
noncomputable abbrev PM (β : Type) := St -> Option (β × St)
noncomputable def PM.ok {β : Type} (b : β) : PM β := fun σ => some (b, σ)
noncomputable def PM.bd {β γ : Type} (m : PM β) (f : β -> PM γ) : PM γ := fun σ => match m σ with
 | .none => .none
 | some (b, σ') => f b σ'
noncomputable def PM.of {β : Type} (o : St -> Option β) : PM β := fun σ => (o σ).map fun b => (b, σ)
theorem PM.bd_some {β γ : Type} {m : PM β} {f : β -> PM γ} {σ : St} {r : γ × St} (h : PM.bd m f σ = some r) : ∃ b σ', m σ = some (b, σ') /\ f b σ' = some r := by
 unfold PM.bd at h
 cases e : m σ with
 | none => rw [e] at h; cases h
 | some p => rw [e] at h; exact ⟨p.1, p.2, rfl, h⟩
theorem PM.of_some {β : Type} {o : St -> Option β} {σ : St} {r : β × St} (h : PM.of o σ = some r) : o σ = some r.1 /\ r.2 = σ := by
 unfold PM.of at h
 cases e : o σ with
 | none => rw [e] at h; cases h
 | some p => rw [e] at h; cases h; exact ⟨rfl, rfl⟩
noncomputable def Snd {α β : Type} (V : Vis) (h : Nat) (rel : Gh -> β -> α -> Prop) (t : Env -> Sem α) (m : PM β) : Prop :=
 ∀ (G : GC) (K : Kx) (g : Gh) (σ σ' : St) (b : β) (A : Around) (env : Env) (s : Shared) (Q : α -> Shared -> Prop) (E : Value -> Shared -> Prop),
  G.Ok -> AOk h A K -> EOk V G g.vl env -> Wf G K g σ s -> m σ = some (b, σ') ->
  (∀ g' a s', g.le g' -> Wf G K g' σ' s' -> rel g' b a -> Q a s') -> wpAny (model G.prog G.w) A (t env) Q E s
inductive FL where
 | next | brk | cont | ret (v : AV)
noncomputable def FLr (g : Gh) : FL -> Flow -> Prop
 | .next, f => f = .next
 | .brk, f => f = .brk
 | .cont, f => f = .cont
 | .ret v, f => ∃ v', f = .ret v' /\ g.rv v v'
noncomputable abbrev SE (V : Vis) (h : Nat) (e : Expr) (m : PM AV) : Prop := Snd V h Gh.rv (fun env => eval e env) m
noncomputable abbrev SEs (V : Vis) (h : Nat) (es : List Expr) (m : PM (List AV)) : Prop := ∀ pos, Snd V h Gh.rvs (fun env => spliced (backTo pos (starEach es env))) m
noncomputable abbrev ST (V : Vis) (h : Nat) (e : Expr) (m : PM Bool) : Prop := Snd V h (fun _ b a => a = b) (fun env => isTrue e env (eval e env)) m
noncomputable abbrev SS (V : Vis) (h : Nat) (st : Stmt) (m : PM FL) : Prop := Snd V h FLr (fun env => exec st env) m
noncomputable abbrev SB (V : Vis) (h : Nat) (sts : List Stmt) (m : PM FL) : Prop := Snd V h FLr (fun env => execs sts env) m
section
variable {V : Vis} {h : Nat}
theorem GC.Ok.glob {G : GC} (ok : G.Ok) {K : Kx} {g : Gh} {σ : St} {s : Shared} (I : Wf G K g σ s) : s.heap.Ns mainGlobals G.mg := by
 obtain ⟨o, es, ep, ho, hd, r⟩ := ok.ns
 refine ⟨o, es, ep, I.hB _ _ (I.base _ _ ho fun e => ?_), hd, r⟩
 have hp := ok.pobj
 rw [e, hp] at ho; cases ho; cases hd
theorem GC.Ok.blt {G : GC} (ok : G.Ok) {K : Kx} {g : Gh} {σ : St} {s : Shared} (I : Wf G K g σ s) : s.heap.Ns builtinsNs G.mb := by
 obtain ⟨o, es, ep, ho, hd, r⟩ := ok.bs
 refine ⟨o, es, ep, I.hB _ _ (I.base _ _ ho fun e => ?_), hd, r⟩
 have hp := ok.pobj
 rw [e, hp] at ho; cases ho; cases hd
theorem GC.Ok.limit {G : GC} (ok : G.Ok) {K : Kx} {g : Gh} {σ : St} {s : Shared} (I : Wf G K g σ s) : s.heap.NoLimit := by
 obtain ⟨mc, ⟨o, es, ep, ho, hd, r⟩, q⟩ := ok.lim
 refine ⟨mc, ⟨o, es, ep, I.hB _ _ (I.base _ _ ho fun e => ?_), hd, r⟩, q⟩
 have hp := ok.pobj
 rw [e, hp] at ho; cases ho; cases hd
theorem zh {i : Int} {k : Nat} {pos : Pos} : SE V h (.Constant (.int i) k pos) (PM.ok (.int i)) := by
 intro G K g σ σ' b A env s Q E ok hA hE I hm hQ
 cases hm
 exact wpAny_Constant_int (hQ g _ _ g.le_refl (I.tok _) (by simp only [Gh.rv, rvC]; exact ⟨_, rfl⟩))
theorem zF {x : Str} {l : List Nat} {k : Nat} {pos : Pos} (hx : x = ⟨l.toArray⟩) : SE V h (.Constant (.str x) k pos) (PM.ok (.str l)) := by
 intro G K g σ σ' b A env s Q E ok hA hE I hm hQ
 cases hm
 exact wpAny_Constant_str (hQ g _ _ g.le_refl (I.tok _) (by simp only [Gh.rv, rvD]; exact ⟨_, by rw [hx]⟩))
theorem sE_none {k : Nat} {pos : Pos} : SE V h (.Constant .none k pos) (PM.ok .none) := by
 intro G K g σ σ' b A env s Q E ok hA hE I hm hQ
 cases hm
 exact wpAny_Constant_none (hQ g _ _ g.le_refl I (by simp only [Gh.rv, rvA]))
theorem YC {b : Bool} {k : Nat} {pos : Pos} : SE V h (.Constant (.bool b) k pos) (PM.ok (.bool b)) := by
 intro G K g σ σ' b A env s Q E ok hA hE I hm hQ
 cases hm
 exact wpAny_Constant_bool (hQ g _ _ g.le_refl I (by simp only [Gh.rv, rvB]))
noncomputable def za (i : Nat) : PM AV := PM.of fun σ => σ.get i
theorem ld_var {x : Str} {i : Nat} (hx : (x, i) ∈ V.nm) (hc : (x == ("__classdict__" : Str)) = false) : Snd V h Gh.rv (fun env => loadName env x) (za i) := by
 intro G K g σ σ' b A env s Q E ok hA hE I hm hQ
 obtain ⟨h1, rfl⟩ := PM.of_some hm
 have k := I.fr i
 rw [h1] at k
 rcases hE.nm x i hx with ⟨hk, hv⟩ | ⟨hk, c, hc', hv⟩
 ·rw [hv] at k
  obtain ⟨m, hn, hm'⟩ := k
  obtain ⟨v, e1, e2⟩ := hm' _ rfl
  exact wpAny_loadName_local hE.kind hk hn e1 (hQ g v s g.le_refl I e2)
 ·rw [hv] at k
  obtain ⟨ov, hn, hm'⟩ := k
  obtain ⟨v, rfl, e2⟩ := hm' _ rfl
  rcases hk with hk | hk
  ·exact wpAny_loadName_cell hE.kind hk hc' hn (hQ g v s g.le_refl I e2)
  ·exact wpAny_loadName_free hE.kind hk hc' hn (hQ g v s g.le_refl I e2) hc
theorem sE_var {x : Str} {i : Nat} {pos : Pos} (hx : (x, i) ∈ V.nm) (hd : (x == ("__debug__" : Str)) = false) (hc : (x == ("__classdict__" : Str)) = false) : SE V h (.Name x pos) (za i) := by
 intro G K g σ σ' b A env s Q E ok hA hE I hm hQ
 exact wpAny_Name (ld_var hx hc G K g σ σ' b A env s Q E ok hA hE I hm hQ) hd
theorem XW {x : Str} {i : Nat} (hx : (x, i) ∈ V.nm) {G : GC} {K : Kx} {g : Gh} {σ : St} {A : Around} {env : Env} {s : Shared} {Q : Unit -> Shared -> Prop} {E : Value -> Shared -> Prop} {av : AV} {v : Value}
  (hE : EOk V G g.vl env) (I : Wf G K g σ s) (hv : g.rv av v) (hQ : ∀ s', Wf G K g (σ.put i (some av)) s' -> Q () s') : wpAny (model G.prog G.w) A (storeName env x v) Q E s := by
 have k := I.fr i
 rcases hE.nm x i hx with ⟨hk, hl⟩ | ⟨hk, c, hc, hl⟩
 ·rw [hl] at k
  obtain ⟨m, hn, _⟩ := k
  exact wpAny_storeName_local hk hn (fun h' hn' hs => hQ _ (I.putLoc hl hn hn' hs hv)) (by rw [hE.kind]; rfl)
 ·rw [hl] at k
  obtain ⟨ov, hn, _⟩ := k
  rcases hk with hk | hk
  ·exact wpAny_storeName_cell hE.kind hk hc hn fun h' hn' hs => hQ _ (I.putCell (tk := s.toks) hl hn hn' hs hv)
  ·have e : storeName env x v = cellOf env x >>= fun c => cellSet c (some v) := by unfold storeName; rw [hk, hE.kind]; rfl
   rw [e]
   exact wpAny_bind (wpAny_cellOf hc (wpAny_cellSet hn fun h' hn' hs => hQ _ (I.putCell (tk := s.toks) hl hn hn' hs hv)))
theorem zj : SB V h [] (PM.ok .next) := by
 intro G K g σ σ' b A env s Q E ok hA hE I hm hQ
 cases hm
 exact wpAny_execs_nil (hQ g _ _ g.le_refl I rfl)
noncomputable def zi (m r : PM FL) : PM FL := PM.bd m fun f => match f with
 | .next => r
 | f => PM.ok f
theorem EOk.le {env : Env} {G : GC} {g g' : Gh} (hE : EOk V G g.vl env) (hle : g.le g') : EOk V G g'.vl env := by rw [hle.vl]; exact hE
theorem zb {st : Stmt} {rest : List Stmt} {m r : PM FL} (h1 : SS V h st m) (h2 : SB V h rest r) : SB V h (st :: rest) (zi m r) := by
 intro G K g σ σ' b A env s Q E ok hA hE I hm hQ
 obtain ⟨f, σ₁, e1, e2⟩ := PM.bd_some hm
 refine wpAny_execs_cons (h1 G K g σ σ₁ f A env s _ E ok hA hE I e1 fun g' a s' hle I' hr => ?_)
 cases f with
 | next =>
  cases hr
  exact h2 G K g' σ₁ σ' b A env s' Q E ok hA (hE.le hle) I' e2 fun g'' a s'' hle' I'' hr' => hQ g'' a s'' (hle.trans hle') I'' hr'
 | brk => cases hr; cases e2; exact hQ g' _ s' hle I' rfl
 | cont => cases hr; cases e2; exact hQ g' _ s' hle I' rfl
 | ret v => obtain ⟨v', rfl, hv⟩ := hr; cases e2; exact hQ g' _ s' hle I' ⟨v', rfl, hv⟩
theorem zbu {pos : Pos} : SS V h (.Break pos) (PM.ok .brk) := by
 intro G K g σ σ' b A env s Q E ok hA hE I hm hQ
 cases hm
 exact wpAny_Break (hQ g _ _ g.le_refl I rfl)
theorem sS_continue {pos : Pos} : SS V h (.Continue pos) (PM.ok .cont) := by
 intro G K g σ σ' b A env s Q E ok hA hE I hm hQ
 cases hm
 exact wpAny_Continue (hQ g _ _ g.le_refl I rfl)
theorem zz {e : Expr} {pos : Pos} {m : PM AV} (he : SE V h e m) : SS V h (.Return (some e) pos) (PM.bd m fun v => PM.ok (.ret v)) := by
 intro G K g σ σ' b A env s Q E ok hA hE I hm hQ
 obtain ⟨v, σ₁, e1, e2⟩ := PM.bd_some hm
 cases e2
 exact wpAny_Return_some (he G K g σ _ v A env s _ E ok hA hE I e1 fun g' a s' hle I' hr => hQ g' _ s' hle I' ⟨a, rfl, hr⟩)
noncomputable def Zn (c : PM Bool) (a b : PM FL) : PM FL := PM.bd c fun x => match x with | true => a | false => b
theorem yp {test : Expr} {body orelse : List Stmt} {pos : Pos} {c : PM Bool} {a b : PM FL} (hc : ST V h test c) (ha : SB V h body a) (hb : SB V h orelse b) : SS V h (.If test body orelse pos) (Zn c a b) := by
 intro G K g σ σ' r A env s Q E ok hA hE I hm hQ
 obtain ⟨x, σ₁, e1, e2⟩ := PM.bd_some hm
 refine wpAny_If (hc G K g σ σ₁ x A env s _ E ok hA hE I e1 fun g' a' s' hle I' hr => ?_)
 subst hr
 cases a' with
 | true => exact ha G K g' σ₁ σ' r A env s' Q E ok hA (hE.le hle) I' e2 fun g'' a s'' hle' I'' hr' => hQ g'' a s'' (hle.trans hle') I'' hr'
 | false => exact hb G K g' σ₁ σ' r A env s' Q E ok hA (hE.le hle) I' e2 fun g'' a s'' hle' I'' hr' => hQ g'' a s'' (hle.trans hle') I'' hr'
noncomputable def putV (i : Nat) (v : AV) : PM Unit := fun σ => some ((), σ.put i (some v))
theorem zg {x : Str} {i : Nat} {p pos : Pos} {e : Expr} {m : PM AV} (hx : (x, i) ∈ V.nm) (he : SE V h e m) (hs : ∀ env, swapsWith e (some (.Name x p)) pos.line env = pure false := by exact fun _ => rfl) :
  SS V h (.Assign [.Name x p] e pos) (PM.bd m fun v => PM.bd (putV i v) fun _ => PM.ok .next) := by
 intro G K g σ σ' r A env s Q E ok hA hE I hm hQ
 obtain ⟨v, σ₁, e1, e2⟩ := PM.bd_some hm
 cases e2
 refine wpAny_Assign_Name (he G K g σ σ₁ v A env s _ E ok hA hE I e1 fun g' a s' hle I' hr => ?_) (hs env)
 exact XW hx (hE.le hle) I' hr fun s'' I'' => hQ g' _ s'' hle I'' rfl
theorem zR {e : Expr} {pos : Pos} {m : PM AV} (he : SE V h e m) (hs : ∀ env, swapsWith e Option.none pos.line env = pure false) : SS V h (.Expr e pos) (PM.bd m fun v => match v with | .none => PM.ok .next | _ => fun _ => .none) := by
 intro G K g σ σ' r A env s Q E ok hA hE I hm hQ
 obtain ⟨v, σ₁, e1, e2⟩ := PM.bd_some hm
 refine wpAny_Expr (he G K g σ σ₁ v A env s _ E ok hA hE I e1 fun g' a s' hle I' hr => ?_) (by unfold interactive; rw [hE.kind]; rfl) (hs env)
 cases v with
 | none =>
  cases e2
  have hr' : a = .none := hr
  subst hr'
  exact hQ g' _ s' hle I' rfl
 | _ => cases e2
end
section lists
variable {B : Fz} {ρ : List Addr}
theorem RVs.length : ∀ {xs : List AV} {vs : List Value}, RVs B ρ xs vs -> vs.length = xs.length
 | [], vs, h => by obtain rfl := h; rfl
 | x :: xs, vs, h => by
  obtain ⟨v, vs', rfl, _, h2⟩ := h
  simp [RVs.length h2]
theorem RVs.get : ∀ {xs : List AV} {vs : List Value}, RVs B ρ xs vs -> ∀ {i : Nat} {x : AV}, xs[i]? = some x -> ∃ v, vs[i]? = some v /\ RV B ρ x v
 | [], vs, h, i, x, e => by simp at e
 | y :: xs, vs, h, i, x, e => by
  obtain ⟨v, vs', rfl, h1, h2⟩ := h
  cases i with
  | zero => simp at e; subst e; exact ⟨v, by simp, h1⟩
  | succ i => simp at e; obtain ⟨w, e1, e2⟩ := RVs.get h2 e; exact ⟨w, by simpa using e1, e2⟩
theorem RVs.append : ∀ {xs ys : List AV} {vs ws : List Value}, RVs B ρ xs vs -> RVs B ρ ys ws -> RVs B ρ (xs ++ ys) (vs ++ ws)
 | [], ys, vs, ws, h, k => by obtain rfl := h; exact k
 | x :: xs, ys, vs, ws, h, k => by
  obtain ⟨v, vs', rfl, h1, h2⟩ := h
  show RVs B ρ (x :: (xs ++ ys)) _
  simp only [rvK]
  exact ⟨v, vs' ++ ws, rfl, h1, RVs.append h2 k⟩
theorem RVs.nil : RVs B ρ [] [] := (rfl : ([] : List Value) = [])
theorem RVs.cons {x : AV} {v : Value} {xs : List AV} {vs : List Value} (h : RV B ρ x v) (k : RVs B ρ xs vs) : RVs B ρ (x :: xs) (v :: vs) := by
 simp only [rvJ, rvK]; exact ⟨v, vs, rfl, h, k⟩
theorem RVs.one {x : AV} {v : Value} (h : RV B ρ x v) : RVs B ρ [x] [v] := .cons h .nil
theorem RVs.head {x : AV} {xs : List AV} {vs : List Value} (h : RVs B ρ (x :: xs) vs) : ∃ v vs', vs = v :: vs' /\ RV B ρ x v /\ RVs B ρ xs vs' := h
theorem RVs.take : ∀ {xs : List AV} {vs : List Value}, RVs B ρ xs vs -> ∀ n, RVs B ρ (xs.take n) (vs.take n)
 | [], vs, h, n => by obtain rfl := h; simpa using RVs.nil
 | x :: xs, vs, h, n => by
  obtain ⟨v, vs', rfl, h1, h2⟩ := h.head
  cases n with
  | zero => exact RVs.nil
  | succ n => exact .cons h1 (RVs.take h2 n)
theorem RVs.drop : ∀ {xs : List AV} {vs : List Value}, RVs B ρ xs vs -> ∀ n, RVs B ρ (xs.drop n) (vs.drop n)
 | [], vs, h, n => by obtain rfl := h; simpa using RVs.nil
 | x :: xs, vs, h, n => by
  cases n with
  | zero => exact h
  | succ n => obtain ⟨v, vs', rfl, h1, h2⟩ := h.head; exact RVs.drop h2 n
theorem RVs.set : ∀ {xs : List AV} {vs : List Value}, RVs B ρ xs vs -> ∀ {n : Nat} {x : AV} {v : Value}, RV B ρ x v -> RVs B ρ (xs.set n x) (vs.set n v)
 | [], vs, h, n, x, v, _ => by obtain rfl := h; simpa using RVs.nil
 | y :: xs, vs, h, n, x, v, k => by
  obtain ⟨w, vs', rfl, h1, h2⟩ := h.head
  cases n with
  | zero => exact .cons k h2
  | succ n => exact .cons h1 (RVs.set h2 k)
theorem RVs.get' : ∀ {xs : List AV} {vs : List Value}, RVs B ρ xs vs -> ∀ {i : Nat} {v : Value}, vs[i]? = some v -> ∃ x, xs[i]? = some x /\ RV B ρ x v
 | [], vs, h, i, x, e => by obtain rfl := h; simp at e
 | y :: xs, vs, h, i, x, e => by
  obtain ⟨v, vs', rfl, h1, h2⟩ := h.head
  cases i with
  | zero => simp at e; subst e; exact ⟨y, by simp, h1⟩
  | succ i => simp at e; obtain ⟨w, e1, e2⟩ := RVs.get' h2 e; exact ⟨w, by simpa using e1, e2⟩
end lists
section rvs
variable {g : Gh} {v : Value}
theorem zby : g.rv .none v ↔ v = .none := Iff.rfl
theorem yD {b : Bool} : g.rv (.bool b) v ↔ v = .bool b := Iff.rfl
theorem zw {i : Int} : g.rv (.int i) v ↔ ∃ t, v = .int i t := Iff.rfl
theorem zX {l : List Nat} : g.rv (.str l) v ↔ ∃ t, v = .str ⟨l.toArray⟩ t := Iff.rfl
theorem rv_tup {xs : List AV} : g.rv (.tup xs) v ↔ ∃ a vs n, v = .ref a /\ g.B a (tupO vs n) /\ g.rvs xs vs := Iff.rfl
theorem Yj {xs : List AV} : g.rv (.lst xs) v ↔ ∃ a vs n, v = .ref a /\ g.B a (zM vs n) /\ g.rvs xs vs := Iff.rfl
theorem ZD {n : Nat} : g.rv (.loc n) v ↔ ∃ a, v = .ref a /\ g.ρ[n]? = some a := Iff.rfl
theorem rv_app {n : Nat} : g.rv (.app n) v ↔ ∃ a b, v = .ref b /\ g.ρ[n]? = some a /\ g.B b (zcn a) := Iff.rfl
end rvs
noncomputable def asL (σ : St) : AV -> Option (List AV)
 | .lst xs => some xs
 | .loc n => stL σ n
 | _ => Option.none
section
variable {G : GC} {K : Kx} {g : Gh} {σ : St} {s : Shared}
theorem Wf.isL (I : Wf G K g σ s) {a : AV} {v : Value} (r : g.rv a v) {xs : List AV} (h : asL σ a = some xs) : ∃ l vs n, v = .ref l /\ s.heap.get? l = some (zM vs n) /\ g.rvs xs vs := by
 cases a with
 | lst ys =>
  cases h
  obtain ⟨l, vs, n, rfl, hb, hr⟩ := Yj.mp r
  exact ⟨l, vs, n, rfl, I.hB _ _ hb, hr⟩
 | loc k =>
  obtain ⟨l, rfl, hl⟩ := ZD.mp r
  obtain ⟨vs, n, ho, hr⟩ := I.st k _ l (Qr h) hl
  exact ⟨l, vs, n, rfl, ho, hr⟩
 | _ => cases h
theorem zy {h : Heap} {l : Addr} {vs : List Value} {n : Nat} (e : h.get? l = some (zM vs n)) : h.IsList l vs.toArray := ⟨_, e, rfl, n, rfl⟩
theorem zcb {h : Heap} {l : Addr} {vs : List Value} {n : Nat} (e : h.get? l = some (zM vs n)) : h.PlainList l vs.toArray := ⟨n, e⟩
theorem isTup_of {h : Heap} {l : Addr} {vs : List Value} {n : Nat} (e : h.get? l = some (tupO vs n)) : IsTup h l vs.toArray := ⟨_, e, rfl, n, rfl⟩
theorem Wf.newL (I : Wf G K g σ s) {h' : Heap} (tk : Nat) (hk : ∀ b o, s.heap.get? b = some o -> h'.get? b = some o) {a : Addr} {vs : List Value} {n : Nat} {xs : List AV}
  (hn : h'.get? a = some (zM vs n)) (hf : s.heap.get? a = Option.none) (hr : g.rvs xs vs) (htk : s.toks <= tk := by trivial) : ∃ g', g.le g' /\ Wf G K g' σ { s with heap := h', toks := tk } /\ g'.rv (.lst xs) (.ref a) := by
 let g' : Gh := { g with B := fun b o => g.B b o ∨ (b = a /\ o = zM vs n) }
 have le : g.le g' := ⟨fun _ _ x => Or.inl x, fun _ _ x => x, rfl⟩
 exact ⟨g', le, I.grow tk hk (fun b o => b = a /\ o = zM vs n) (fun b o e => by rw [e.1, e.2]; exact ⟨hn, hf⟩), Yj.mpr ⟨a, vs, n, rfl, Or.inr ⟨rfl, rfl⟩, Gh.rvs_le le hr⟩⟩
theorem Wf.newT (I : Wf G K g σ s) {h' : Heap} (tk : Nat) (hk : ∀ b o, s.heap.get? b = some o -> h'.get? b = some o) {a : Addr} {vs : List Value} {n : Nat} {xs : List AV}
  (hn : h'.get? a = some (tupO vs n)) (hf : s.heap.get? a = Option.none) (hr : g.rvs xs vs) (htk : s.toks <= tk := by trivial) : ∃ g', g.le g' /\ Wf G K g' σ { s with heap := h', toks := tk } /\ g'.rv (.tup xs) (.ref a) := by
 let g' : Gh := { g with B := fun b o => g.B b o ∨ (b = a /\ o = tupO vs n) }
 have le : g.le g' := ⟨fun _ _ x => Or.inl x, fun _ _ x => x, rfl⟩
 exact ⟨g', le, I.grow tk hk (fun b o => b = a /\ o = tupO vs n) (fun b o e => by rw [e.1, e.2]; exact ⟨hn, hf⟩), rv_tup.mpr ⟨a, vs, n, rfl, Or.inr ⟨rfl, rfl⟩, Gh.rvs_le le hr⟩⟩
theorem zH (h : Heap) : h.get? h.objs.size = Option.none := by
 cases e : h.get? h.objs.size with
 | none => rfl
 | some o => exact absurd (Heap.lt_size e) (Nat.lt_irrefl _)
theorem yi {h : Heap} {a : Addr} (ha : h.objs.size <= a) : h.get? a = Option.none := by
 cases e : h.get? a with
 | none => rfl
 | some o => exact absurd (Heap.lt_size e) (Nat.not_lt.mpr ha)
end
noncomputable def Op2 (h : Nat) (t : Value -> Value -> Sem Value) (f : St -> AV -> AV -> Option AV) : Prop :=
 ∀ (G : GC) (K : Kx) (g : Gh) (σ : St) (a b r : AV) (va vb : Value) (A : Around) (s : Shared) (Q : Value -> Shared -> Prop) (E : Value -> Shared -> Prop),
  G.Ok -> AOk h A K -> Wf G K g σ s -> g.rv a va -> g.rv b vb -> f σ a b = some r ->
  (∀ g' v' s', g.le g' -> Wf G K g' σ s' -> g'.rv r v' -> Q v' s') -> wpAny (model G.prog G.w) A (t va vb) Q E s
noncomputable def Op1 (h : Nat) (t : Value -> Sem Value) (f : St -> AV -> Option AV) : Prop :=
 ∀ (G : GC) (K : Kx) (g : Gh) (σ : St) (a r : AV) (va : Value) (A : Around) (s : Shared) (Q : Value -> Shared -> Prop) (E : Value -> Shared -> Prop),
  G.Ok -> AOk h A K -> Wf G K g σ s -> g.rv a va -> f σ a = some r ->
  (∀ g' v' s', g.le g' -> Wf G K g' σ s' -> g'.rv r v' -> Q v' s') -> wpAny (model G.prog G.w) A (t va) Q E s
noncomputable def zk (f : St -> AV -> AV -> Option AV) (m n : PM AV) : PM AV := PM.bd m fun a => PM.bd n fun b => PM.of fun σ => f σ a b
noncomputable def Zg (f : St -> AV -> Option AV) (m : PM AV) : PM AV := PM.bd m fun a => PM.of fun σ => f σ a
section
variable {V : Vis} {h : Nat}
theorem zo {l r : Expr} {op : Operator} {pos : Pos} {ml mr : PM AV} {f : St -> AV -> AV -> Option AV} (hl : SE V h l ml) (hr : SE V h r mr) (ho : Op2 h (binaryOp op) f) : SE V h (.BinOp l op r pos) (zk f ml mr) := by
 intro G K g σ σ' b A env s Q E ok hA hE I hm hQ
 obtain ⟨x, σ₁, e1, e2⟩ := PM.bd_some hm
 obtain ⟨y, σ₂, e2, e3⟩ := PM.bd_some e2
 obtain ⟨e3, rfl⟩ := PM.of_some e3
 exact wpAny_BinOp (hl G K g σ σ₁ x A env s _ E ok hA hE I e1 fun g1 a s1 l1 I1 r1 => hr G K g1 σ₁ _ y A env s1 _ E ok hA (hE.le l1) I1 e2 fun g2 b' s2 l2 I2 r2 =>
  ho G K g2 _ x y b a b' A s2 Q E ok hA I2 (Gh.rv_le l2 r1) r2 e3 fun g3 v' s3 l3 I3 r3 => hQ g3 v' s3 ((l1.trans l2).trans l3) I3 r3)
theorem Yh {x : Expr} {op : UnaryOp} {pos : Pos} {m : PM AV} {f : St -> AV -> Option AV} (hx : SE V h x m) (ho : Op1 h (unaryOp op) f) : SE V h (.UnaryOp op x pos) (Zg f m) := by
 intro G K g σ σ' b A env s Q E ok hA hE I hm hQ
 obtain ⟨x, σ₁, e1, e3⟩ := PM.bd_some hm
 obtain ⟨e3, rfl⟩ := PM.of_some e3
 exact wpAny_UnaryOp (hx G K g σ _ x A env s _ E ok hA hE I e1 fun g1 a s1 l1 I1 r1 => ho G K g1 _ x b a A s1 Q E ok hA I1 r1 e3 fun g3 v' s3 l3 I3 r3 => hQ g3 v' s3 (l1.trans l3) I3 r3)
noncomputable def Cmp (h : Nat) (op : CmpOp) (f : St -> AV -> AV -> Option Bool) : Prop := Op2 h (compareOp op) fun σ a b => (f σ a b).map .bool
noncomputable def zO (f : St -> AV -> AV -> Option Bool) (m n : PM AV) : PM Bool := PM.bd m fun a => PM.bd n fun b => PM.of fun σ => f σ a b
theorem YK {l r : Expr} {op : CmpOp} {pos : Pos} {ml mr : PM AV} {f : St -> AV -> AV -> Option Bool} (hl : SE V h l ml) (hr : SE V h r mr) (ho : Cmp h op f) (hm' : behindInMarks op r = false) :
  SE V h (.Compare l [op] [r] pos) (PM.bd (zO f ml mr) fun b => PM.ok (.bool b)) := by
 intro G K g σ σ' b A env s Q E ok hA hE I hm hQ
 obtain ⟨c, σ₃, e0, e9⟩ := PM.bd_some hm
 cases e9
 obtain ⟨x, σ₁, e1, e2⟩ := PM.bd_some e0
 obtain ⟨y, σ₂, e2, e3⟩ := PM.bd_some e2
 obtain ⟨e3, rfl⟩ := PM.of_some e3
 exact wpAny_Compare1 (hl G K g σ σ₁ x A env s _ E ok hA hE I e1 fun g1 a s1 l1 I1 r1 => hr G K g1 σ₁ _ y A env s1 _ E ok hA (hE.le l1) I1 e2 fun g2 b' s2 l2 I2 r2 =>
  ho G K g2 _ x y _ a b' A s2 Q E ok hA I2 (Gh.rv_le l2 r1) r2 (by show Option.map _ (f _ x y) = _; rw [e3]; rfl) fun g3 v' s3 l3 I3 r3 => hQ g3 v' s3 ((l1.trans l2).trans l3) I3 r3) hm'
theorem zu {l r : Expr} {op : CmpOp} {pos : Pos} {ml mr : PM AV} {f : St -> AV -> AV -> Option Bool} (hl : SE V h l ml) (hr : SE V h r mr) (ho : Cmp h op f) (hm' : behindInMarks op r = false) :
  ST V h (.Compare l [op] [r] pos) (zO f ml mr) := by
 intro G K g σ σ' b A env s Q E ok hA hE I hm hQ
 obtain ⟨x, σ₁, e1, e2⟩ := PM.bd_some hm
 obtain ⟨y, σ₂, e2, e3⟩ := PM.bd_some e2
 obtain ⟨e3, rfl⟩ := PM.of_some e3
 exact wpAny_isTrue_Compare1 (hl G K g σ σ₁ x A env s _ E ok hA hE I e1 fun g1 a s1 l1 I1 r1 => hr G K g1 σ₁ _ y A env s1 _ E ok hA (hE.le l1) I1 e2 fun g2 b' s2 l2 I2 r2 =>
  ho G K g2 _ x y _ a b' A s2 _ E ok hA I2 (Gh.rv_le l2 r1) r2 (by show Option.map _ (f _ x y) = _; rw [e3]; rfl) fun g3 v' s3 l3 I3 r3 => by
   rw [yD.mp r3]; exact wpAny_truthy_bool (hQ g3 _ s3 ((l1.trans l2).trans l3) I3 rfl)) hm'
noncomputable def YW (σ : St) : AV -> Option Bool
 | .none => some false
 | .bool b => some b
 | .int i => some (i != 0)
 | .str l => if l.length <= 100000 then some (!l.isEmpty) else Option.none
 | a => (asL σ a).bind fun xs => if xs.length <= 100000 then some (!xs.isEmpty) else Option.none
noncomputable def YJ (m : PM AV) : PM Bool := PM.bd m fun a => PM.of fun σ => YW σ a
theorem tru_ok {G : GC} {K : Kx} {g : Gh} {σ : St} {s : Shared} {a : AV} {v : Value} {b : Bool} {A : Around} {Q : Bool -> Shared -> Prop} {E : Value -> Shared -> Prop}
  (I : Wf G K g σ s) (r : g.rv a v) (hb : YW σ a = some b) (hQ : ∀ s', Wf G K g σ s' -> Q b s') : wpAny (model G.prog G.w) A (truthy v) Q E s := by
 have lists : ∀ a', ((asL σ a').bind fun xs => if xs.length <= 100000 then some (!xs.isEmpty) else Option.none) = some b -> g.rv a' v -> wpAny (model G.prog G.w) A (truthy v) Q E s := by
  intro a' hb r
  obtain ⟨xs, e, hb⟩ := bS hb
  obtain ⟨hl, hb⟩ := iS hb
  cases hb
  obtain ⟨l, vs, n, rfl, ho, hr⟩ := I.isL r e
  have hlen := hr.length
  refine wpAny_truthy_list (zy ho) (by simp; omega) ?_
  have e1 : vs.toArray.isEmpty = xs.isEmpty := by cases xs <;> cases vs <;> simp_all
  rw [e1]
  exact hQ _ (I.tok _)
 cases a with
 | none => cases hb; rw [zby.mp r]; exact truthy_none (hQ s I)
 | bool b => cases hb; rw [yD.mp r]; exact wpAny_truthy_bool (hQ s I)
 | int i => cases hb; obtain ⟨t, rfl⟩ := zw.mp r; exact PyProof.Rows.truthy_int (hQ s I)
 | str l =>
  obtain ⟨t, rfl⟩ := zX.mp r
  obtain ⟨hl, hb⟩ := iS hb
  cases hb
  refine P.truthy_str (by show ¬ ((l.toArray.size : Nat) : Int) ≥ 2 ^ 63; simp; omega) ?_
  have e1 : (((Str.mk l.toArray).length : Int) != 0) = !l.isEmpty := by
   show (((l.toArray.size : Nat) : Int) != 0) = !l.isEmpty
   cases l with
   | nil => rfl
   | cons x r => simp; omega
  rw [e1]
  exact hQ _ (I.tok _)
 | lst xs => exact lists (.lst xs) hb r
 | loc n => exact lists (.loc n) hb r
 | tup xs => cases hb
 | app n => cases hb
 | dct kvs => cases hb
theorem yZ {e : Expr} {m : PM AV} (he : SE V h e m) (hi : ∀ env whole, isTrue e env whole = (do let v <- whole; standAt e.pos; holding [v] (truthy v))) : ST V h e (YJ m) := by
 intro G K g σ σ' b A env s Q E ok hA hE I hm hQ
 obtain ⟨x, σ₁, e1, e3⟩ := PM.bd_some hm
 obtain ⟨e3, rfl⟩ := PM.of_some e3
 exact wpAny_isTrue_value (he G K g σ _ x A env s _ E ok hA hE I e1 fun g1 a s1 l1 I1 r1 => tru_ok I1 r1 e3 fun s' I' => hQ g1 _ s' l1 I' rfl) (hi env _)
noncomputable def notM (m : PM Bool) : PM Bool := PM.bd m fun b => PM.ok (!b)
theorem QR {x : Expr} {pos : Pos} {m : PM Bool} (hx : ST V h x m) : ST V h (.UnaryOp .Not x pos) (notM m) := by
 intro G K g σ σ' b A env s Q E ok hA hE I hm hQ
 obtain ⟨c, σ₁, e1, e2⟩ := PM.bd_some hm
 cases e2
 exact isTrue_not (hx G K g σ _ c A env s _ E ok hA hE I e1 fun g1 a s1 l1 I1 r1 => hQ g1 _ s1 l1 I1 (by rw [r1]))
noncomputable def YG (a b : PM Bool) : PM Bool := PM.bd a fun x => match x with | true => b | false => PM.ok false
noncomputable def orM (a b : PM Bool) : PM Bool := PM.bd a fun x => match x with | true => PM.ok true | false => b
theorem yM {pos : Pos} : ST V h (.BoolOp .And [] pos) (PM.ok true) := by
 intro G K g σ σ' b A env s Q E ok hA hE I hm hQ
 cases hm
 exact isTrue_and_nil (hQ g _ s g.le_refl I rfl)
theorem yN {x : Expr} {rest : List Expr} {pos : Pos} {a b : PM Bool} (hx : ST V h x a) (hr : ST V h (.BoolOp .And rest pos) b) : ST V h (.BoolOp .And (x :: rest) pos) (YG a b) := by
 intro G K g σ σ' r A env s Q E ok hA hE I hm hQ
 obtain ⟨c, σ₁, e1, e2⟩ := PM.bd_some hm
 refine isTrue_and (hx G K g σ σ₁ c A env s _ E ok hA hE I e1 fun g1 a s1 l1 I1 r1 => ?_)
 subst r1
 cases a with
 | true => exact hr G K g1 σ₁ σ' r A env s1 Q E ok hA (hE.le l1) I1 e2 fun g2 a s2 l2 I2 r2 => hQ g2 a s2 (l1.trans l2) I2 r2
 | false => cases e2; exact hQ g1 _ s1 l1 I1 rfl
theorem sT_or_nil {pos : Pos} : ST V h (.BoolOp .Or [] pos) (PM.ok false) := by
 intro G K g σ σ' b A env s Q E ok hA hE I hm hQ
 cases hm
 exact isTrue_or_nil (hQ g _ s g.le_refl I rfl)
theorem sT_or {x : Expr} {rest : List Expr} {pos : Pos} {a b : PM Bool} (hx : ST V h x a) (hr : ST V h (.BoolOp .Or rest pos) b) : ST V h (.BoolOp .Or (x :: rest) pos) (orM a b) := by
 intro G K g σ σ' r A env s Q E ok hA hE I hm hQ
 obtain ⟨c, σ₁, e1, e2⟩ := PM.bd_some hm
 refine isTrue_or (hx G K g σ σ₁ c A env s _ E ok hA hE I e1 fun g1 a s1 l1 I1 r1 => ?_)
 subst r1
 cases a with
 | true => cases e2; exact hQ g1 _ s1 l1 I1 rfl
 | false => exact hr G K g1 σ₁ σ' r A env s1 Q E ok hA (hE.le l1) I1 e2 fun g2 a s2 l2 I2 r2 => hQ g2 a s2 (l1.trans l2) I2 r2
noncomputable def iteE (c : PM Bool) (a b : PM AV) : PM AV := PM.bd c fun x => match x with | true => a | false => b
theorem sE_ife {test body orelse : Expr} {pos : Pos} {c : PM Bool} {a b : PM AV} (hc : ST V h test c) (ha : SE V h body a) (hb : SE V h orelse b) : SE V h (.IfExp test body orelse pos) (iteE c a b) := by
 intro G K g σ σ' r A env s Q E ok hA hE I hm hQ
 obtain ⟨x, σ₁, e1, e2⟩ := PM.bd_some hm
 refine wpAny_IfExp (hc G K g σ σ₁ x A env s _ E ok hA hE I e1 fun g' a' s' hle I' hr => ?_)
 subst hr
 cases a' with
 | true => exact ha G K g' σ₁ σ' r A env s' Q E ok hA (hE.le hle) I' e2 fun g'' a s'' hle' I'' hr' => hQ g'' a s'' (hle.trans hle') I'' hr'
 | false => exact hb G K g' σ₁ σ' r A env s' Q E ok hA (hE.le hle) I' e2 fun g'' a s'' hle' I'' hr' => hQ g'' a s'' (hle.trans hle') I'' hr'
noncomputable def andV (m : PM AV) (r : PM AV) : PM AV := PM.bd m fun a => PM.bd (PM.of fun σ => YW σ a) fun b => match b with | true => r | false => PM.ok a
noncomputable def orV (m : PM AV) (r : PM AV) : PM AV := PM.bd m fun a => PM.bd (PM.of fun σ => YW σ a) fun b => match b with | true => PM.ok a | false => r
theorem zbw {op : BoolOp} {e : Expr} {pos : Pos} {m : PM AV} (he : SE V h e m) : SE V h (.BoolOp op [e] pos) m := by
 intro G K g σ σ' r A env s Q E ok hA hE I hm hQ
 exact BoolOp_one (he G K g σ σ' r A env s Q E ok hA hE I hm hQ)
theorem sE_and {e₁ e₂ : Expr} {rest : List Expr} {pos : Pos} {m r : PM AV} (h1 : SE V h e₁ m) (h2 : SE V h (.BoolOp .And (e₂ :: rest) pos) r) : SE V h (.BoolOp .And (e₁ :: e₂ :: rest) pos) (andV m r) := by
 intro G K g σ σ' b A env s Q E ok hA hE I hm hQ
 obtain ⟨x, σ₁, e1, e2⟩ := PM.bd_some hm
 obtain ⟨c, σ₂, e2, e3⟩ := PM.bd_some e2
 obtain ⟨e2, rfl⟩ := PM.of_some e2
 refine BoolOp_and (h1 G K g σ _ x A env s _ E ok hA hE I e1 fun g1 a s1 l1 I1 r1 => tru_ok I1 r1 e2 fun s' I' => ?_)
 cases c with
 | true => exact h2 G K g1 _ σ' b A env s' Q E ok hA (hE.le l1) I' e3 fun g2 a s2 l2 I2 r2 => hQ g2 a s2 (l1.trans l2) I2 r2
 | false => cases e3; exact hQ g1 _ s' l1 I' r1
theorem sE_or {e₁ e₂ : Expr} {rest : List Expr} {pos : Pos} {m r : PM AV} (h1 : SE V h e₁ m) (h2 : SE V h (.BoolOp .Or (e₂ :: rest) pos) r) : SE V h (.BoolOp .Or (e₁ :: e₂ :: rest) pos) (orV m r) := by
 intro G K g σ σ' b A env s Q E ok hA hE I hm hQ
 obtain ⟨x, σ₁, e1, e2⟩ := PM.bd_some hm
 obtain ⟨c, σ₂, e2, e3⟩ := PM.bd_some e2
 obtain ⟨e2, rfl⟩ := PM.of_some e2
 refine BoolOp_or (h1 G K g σ _ x A env s _ E ok hA hE I e1 fun g1 a s1 l1 I1 r1 => tru_ok I1 r1 e2 fun s' I' => ?_)
 cases c with
 | true => cases e3; exact hQ g1 _ s' l1 I' r1
 | false => exact h2 G K g1 _ σ' b A env s' Q E ok hA (hE.le l1) I' e3 fun g2 a s2 l2 I2 r2 => hQ g2 a s2 (l1.trans l2) I2 r2
theorem op_not : Op1 h (unaryOp .Not) fun σ a => (YW σ a).map fun b => .bool (!b) := by
 intro G K g σ a r va A s Q E ok hA I ra hf hQ
 dsimp only at hf
 obtain ⟨b, e, rfl⟩ := Option.map_eq_some_iff.mp hf
 exact not_of (tru_ok I ra e fun s' I' => hQ g _ s' g.le_refl I' (yD.mpr rfl))
noncomputable def Qy (_ : St) : AV -> Option AV
 | .int i => some (.int (-i))
 | _ => Option.none
theorem ZQ : Op1 h (unaryOp .USub) Qy := by
 intro G K g σ a r va A s Q E ok hA I ra hf hQ
 cases a with
 | int i => cases hf; obtain ⟨t, rfl⟩ := zw.mp ra; exact PyProof.Rows.neg_int (hQ g _ _ g.le_refl (I.tok _) (zw.mpr ⟨_, rfl⟩))
 | _ => cases hf
end
section
variable {V : Vis} {h : Nat}
noncomputable def zQ (σ : St) : AV -> AV -> Option AV
 | .int a, .int b => some (.int (a + b))
 | .str a, .str b => if a.length + b.length <= 100000 then some (.str (a ++ b)) else Option.none
 | a, b => (asL σ a).bind fun x => (asL σ b).bind fun y => if x.length + y.length <= 100000 then some (.lst (x ++ y)) else Option.none
noncomputable def subF (_ : St) : AV -> AV -> Option AV
 | .int a, .int b => some (.int (a - b))
 | _, _ => Option.none
noncomputable def mulF (_ : St) : AV -> AV -> Option AV
 | .int a, .int b => if -1000000000000 < a /\ a < 1000000000000 then some (.int (a * b)) else Option.none
 | _, _ => Option.none
noncomputable def divF (_ : St) : AV -> AV -> Option AV
 | .int a, .int b => if 0 < b /\ b < 1000000000 then some (.int (a.fdiv b)) else Option.none
 | _, _ => Option.none
noncomputable def modF (_ : St) : AV -> AV -> Option AV
 | .int a, .int b => if 0 < b then some (.int (a.fmod b)) else Option.none
 | _, _ => Option.none
noncomputable def powF (_ : St) : AV -> AV -> Option AV
 | .int a, .int b => if 0 <= b /\ b <= 20 /\ 0 <= a /\ a <= 100 then some (.int (a ^ b.toNat)) else Option.none
 | _, _ => Option.none
noncomputable def shrF (_ : St) : AV -> AV -> Option AV
 | .int a, .int b => if 0 <= a /\ b = 1 then some (.int (a / 2)) else Option.none
 | _, _ => Option.none
theorem Ye (a b : List Nat) : (Str.mk a.toArray) ++ (Str.mk b.toArray) = Str.mk (a ++ b).toArray := by
 apply Str.ext'
 simp [Str.cps_append]
theorem wfL (G : GC) {K : Kx} {g : Gh} {σ : St} {s : Shared} (I : Wf G K g σ s) {L : Addr} {m : Str -> Option Value} {i : Nat} {x : Str} (hv : g.vl i = .loc L x) {h' : Heap} (tk : Nat)
  (hk : ∀ b o, b ≠ L -> s.heap.get? b = some o -> h'.get? b = some o) (hn : s.heap.Ns L m) (hn' : h'.Ns L m) (htk : s.toks <= tk := by trivial) : Wf G K g σ { s with heap := h', toks := tk } where
 hB := fun b o e => hk b o (fun e' => (I.dB b o e).2.1 i (by rw [hv, e']; rfl)) (I.hB b o e)
 hK := fun b o e => (I.hK b o e).mono fun o2 => hk b o2 (fun e' => (I.dK b o e).2.1 i (by rw [hv, e']; rfl))
 base := I.base
 tab := let ⟨ps, h1, h2⟩ := I.tab; ⟨ps, h1, hk _ _ (fun e' => I.dP.2 i (by rw [hv, e']; rfl)) h2⟩
 dB := I.dB
 dK := I.dK
 dBK := I.dBK
 dP := I.dP
 dv := I.dv
 len := I.len
 nodup := I.nodup
 st := fun n e b h1 h2 => (I.st n e b h1 h2).mono (fun _ _ x => x) (fun _ _ x => x) fun o => hk b o fun e' => I.dv n i b h2 (by rw [hv, e']; rfl)
 fr := fun j => by
  by_cases hb : (g.vl j).addr = some L
  ·have k := I.fr j
   cases e : g.vl j with
   | no => rw [e] at hb; cases hb
   | loc L' y =>
    rw [e] at hb k; cases hb
    obtain ⟨m2, hn2, h2⟩ := k
    have := Ns.unique hn hn2; subst this
    exact ⟨m, hn', h2⟩
   | cell c =>
    rw [e] at hb k; cases hb
    obtain ⟨ov, ⟨o, ho, hd⟩, _⟩ := k
    obtain ⟨o2, es, ep, ho2, hd2, _⟩ := hn
    rw [ho] at ho2; cases ho2; rw [hd] at hd2; cases hd2
  ·exact (I.fr j).mono (fun _ _ x => x) (fun _ _ x => x) fun b hb' o => hk b o fun e' => hb (e' ▸ hb')
 inj := I.inj
 has := I.has
 gens := I.gens
 os := I.os
 tk := Nat.le_trans I.tk htk
theorem op_sub : Op2 h (binaryOp .Sub) subF := by
 intro G K g σ a b r va vb A s Q E ok hA I ra rb hf hQ
 cases a with
 | int a => cases b with
  | int b => cases hf; obtain ⟨t, rfl⟩ := zw.mp ra; obtain ⟨u, rfl⟩ := zw.mp rb; exact PyProof.Rows.sub_int (hQ g _ _ g.le_refl (I.tok _) (zw.mpr ⟨_, rfl⟩))
  | _ => cases hf
 | _ => cases hf
theorem op_mul : Op2 h (binaryOp .Mult) mulF := by
 intro G K g σ a b r va vb A s Q E ok hA I ra rb hf hQ
 cases a with
 | int a => cases b with
  | int b =>
   obtain ⟨hc, hf⟩ := iS hf
   cases hf; obtain ⟨t, rfl⟩ := zw.mp ra; obtain ⟨u, rfl⟩ := zw.mp rb
   exact PyProof.Rows.mul_int (hQ g _ _ g.le_refl (I.tok _) (zw.mpr ⟨_, rfl⟩)) (IntMulOk.of_left (intBits_le_64 (by omega) (by omega)))
  | _ => cases hf
 | _ => cases hf
theorem op_mod : Op2 h (binaryOp .Mod) modF := by
 intro G K g σ a b r va vb A s Q E ok hA I ra rb hf hQ
 cases a with
 | int a => cases b with
  | int b =>
   obtain ⟨hc, hf⟩ := iS hf
   cases hf; obtain ⟨t, rfl⟩ := zw.mp ra; obtain ⟨u, rfl⟩ := zw.mp rb
   exact PyProof.Rows.mod_int' (by omega) (hQ g _ _ g.le_refl (I.tok _) (zw.mpr ⟨_, rfl⟩))
  | _ => cases hf
 | _ => cases hf
theorem op_shr : Op2 h (binaryOp .RShift) shrF := by
 intro G K g σ a b r va vb A s Q E ok hA I ra rb hf hQ
 cases a with
 | int a => cases b with
  | int b =>
   obtain ⟨hc, hf⟩ := iS hf
   cases hf; obtain ⟨t, rfl⟩ := zw.mp ra; obtain ⟨u, rfl⟩ := zw.mp rb
   obtain ⟨h0, rfl⟩ := hc
   exact wpAny_rshift1_int h0 (hQ g _ _ g.le_refl (I.tok _) (zw.mpr ⟨_, rfl⟩))
  | _ => cases hf
 | _ => cases hf
theorem op_pow : Op2 h (binaryOp .Pow) powF := by
 intro G K g σ a b r va vb A s Q E ok hA I ra rb hf hQ
 cases a with
 | int a => cases b with
  | int b =>
   obtain ⟨hc, hf⟩ := iS hf
   cases hf; obtain ⟨t, rfl⟩ := zw.mp ra; obtain ⟨u, rfl⟩ := zw.mp rb
   have hb := intBits_le_64 (k := a) (by omega) (by omega)
   refine PyProof.Rows.pow_int hc.1 ?_ (hQ g _ _ g.le_refl (I.tok _) (zw.mpr ⟨_, rfl⟩))
   have h1 : ((Builtin.Int.intBits a : Nat) : Int) <= 64 := by omega
   have h2 : ((Builtin.Int.intBits a : Nat) : Int) * b <= 64 * b := Int.mul_le_mul_of_nonneg_right h1 hc.1
   omega
  | _ => cases hf
 | _ => cases hf
theorem op_div : Op2 h (binaryOp .FloorDiv) divF := by
 intro G K g σ a b r va vb A s Q E ok hA I ra rb hf hQ
 cases a with
 | int a => cases b with
  | int b =>
   obtain ⟨hc, hf⟩ := iS hf
   cases hf; obtain ⟨t, rfl⟩ := zw.mp ra; obtain ⟨u, rfl⟩ := zw.mp rb
   exact floordiv_int (by omega) (hQ g _ _ g.le_refl (I.tok _) (zw.mpr ⟨_, rfl⟩))
  | _ => cases hf
 | _ => cases hf
end
section
variable {G : GC} {K : Kx} {g : Gh} {σ : St} {s : Shared}
structure NewsOf (g : Gh) (h : Heap) (L : Addr) (m : Str -> Option Value) (news : List (Addr × Obj)) : Prop where
 at_ : ∃ i x, g.vl i = .loc L x
 ns : h.Ns L m
 F : Fr {} L h m
 N : News {} L h news
 all : ∀ b o, b ≠ L -> h.get? b = some o -> (b, o) ∈ news
theorem Wf.newsy (I : Wf G K g σ s) : ∃ L m news, NewsOf g s.heap L m news := by
 obtain ⟨i, x, hv⟩ := I.has
 generalize K.L = L at hv
 have k := I.fr i
 rw [hv] at k
 obtain ⟨m, hn, _⟩ := k
 refine ⟨L, m, (List.range s.heap.objs.size).filterMap fun b => if b = L then Option.none else (s.heap.get? b).map fun o => (b, o), ⟨i, x, hv⟩, hn, ⟨hn, fun b o e => ?_, Nat.zero_le _⟩, fun p hp => ?_, fun b o hb e => ?_⟩
 ·simp [Heap.get?] at e
 ·obtain ⟨b, _, hb⟩ := List.mem_filterMap.mp hp
  split at hb
  ·cases hb
  ·rename_i hne
   cases e : s.heap.get? b with
   | none => rw [e] at hb; cases hb
   | some o => rw [e] at hb; cases hb; exact ⟨e, hne, by simp [Heap.get?]⟩
 ·refine List.mem_filterMap.mpr ⟨b, List.mem_range.mpr (Heap.lt_size e), ?_⟩
  rw [if_neg hb, e]; rfl
theorem NewsOf.keep {h h' : Heap} {L : Addr} {m : Str -> Option Value} {news news' : List (Addr × Obj)} (X : NewsOf g h L m news) (N : News {} L h' news') (hs : ∀ p ∈ news, p ∈ news') : ∀ b o, b ≠ L -> h.get? b = some o -> h'.get? b = some o :=
 fun b o hb e => (N _ (hs _ (X.all b o hb e))).1
theorem Wf.after (I : Wf G K g σ s) {h' : Heap} {L : Addr} {m : Str -> Option Value} {news : List (Addr × Obj)} (X : NewsOf g s.heap L m news) (F : Fr {} L h' m) (N : News {} L h' news) (tk : Nat) (htk : s.toks <= tk := by trivial) : Wf G K g σ { s with heap := h', toks := tk } :=
 let ⟨_, _, hv⟩ := X.at_; wfL G I hv tk (X.keep N fun _ h => h) X.ns F.ns
theorem Wf.afterL (I : Wf G K g σ s) {h' : Heap} {L : Addr} {m : Str -> Option Value} {news : List (Addr × Obj)} {a : Addr} {vs : List Value} {n : Nat} {xs : List AV} (X : NewsOf g s.heap L m news) (F : Fr {} L h' m) (N : News {} L h' ((a, zM vs n) :: news)) (tk : Nat)
  (hf : s.heap.get? a = Option.none) (hr : g.rvs xs vs) (htk : s.toks <= tk := by trivial) : ∃ g', g.le g' /\ Wf G K g' σ { s with heap := h', toks := tk } /\ g'.rv (.lst xs) (.ref a) := by
 have I' := I.after (h' := h') X F (fun p hp => N p (List.mem_cons_of_mem _ hp)) tk
 have ha : h'.get? a = some (zM vs n) := (N _ List.mem_cons_self).1
 let g' : Gh := { g with B := fun b o => g.B b o ∨ (b = a /\ o = zM vs n) }
 have le : g.le g' := ⟨fun _ _ x => Or.inl x, fun _ _ x => x, rfl⟩
 have fr := I.fresh_of_none hf
 refine ⟨g', le, ?_, Yj.mpr ⟨a, vs, n, rfl, Or.inr ⟨rfl, rfl⟩, Gh.rvs_le le hr⟩⟩
 exact { I' with
  hB := fun b o e => e.elim (I'.hB b o) fun e => by rw [e.1, e.2]; exact ha
  base := fun b o e hp => Or.inl (I'.base b o e hp)
  tab := let ⟨ps, a1, a2⟩ := I'.tab; ⟨ps, a1.mono fun _ _ x => Or.inl x, a2⟩
  dB := fun b o e => e.elim (I'.dB b o) fun e => by rw [e.1]; exact ⟨fun n e => absurd e (fr.1 n), fr.2⟩
  dBK := fun b o o' e k => e.elim (fun e => I'.dBK b o o' e k) fun e => by obtain ⟨_, q⟩ := (I.hK b o' k).some; rw [e.1, hf] at q; cases q
  st := fun n e b h1 h2 => (I'.st n e b h1 h2).mono (fun _ _ x => Or.inl x) (fun _ _ x => x) fun o h => h
  fr := fun i => (I'.fr i).mono (fun _ _ x => Or.inl x) (fun _ _ x => x) fun b _ o h => h }
end
section
variable {V : Vis} {h : Nat}
theorem addL_ok {G : GC} {K : Kx} {g : Gh} {σ : St} {s : Shared} {A : Around} {Q : Value -> Shared -> Prop} {E : Value -> Shared -> Prop} (I : Wf G K g σ s) {a b : AV} {va vb : Value} (ra : g.rv a va) (rb : g.rv b vb)
  {xs ys : List AV} (ha : asL σ a = some xs) (hb : asL σ b = some ys) (hl : xs.length + ys.length <= 100000)
  (hQ : ∀ g' v' s', g.le g' -> Wf G K g' σ s' -> g'.rv (.lst (xs ++ ys)) v' -> Q v' s') : wpAny (model G.prog G.w) A (binaryOp .Add va vb) Q E s := by
 obtain ⟨l, vs, n, rfl, ho, hr⟩ := I.isL ra ha
 obtain ⟨l', ws, n', rfl, ho', hr'⟩ := I.isL rb hb
 obtain ⟨L, m, news, X⟩ := I.newsy
 refine add_lists (hsz := by rw [hr.length, hr'.length, sizeLine_eq]; omega) X.F X.N (zy ho) (zy ho') fun h' F' N' => ?_
 obtain ⟨g', le, I', r'⟩ := I.afterL (xs := xs ++ ys) (n := 0) X F' N' s.toks (zH _) (hr.append hr')
 exact hQ g' _ _ le I' r'
theorem zC : Op2 h (binaryOp .Add) zQ := by
 intro G K g σ a b r va vb A s Q E ok hA I ra rb hf hQ
 have lists : ∀ a b, ((asL σ a).bind fun x => (asL σ b).bind fun y => if x.length + y.length <= 100000 then some (AV.lst (x ++ y)) else Option.none) = some r -> g.rv a va -> g.rv b vb -> wpAny (model G.prog G.w) A (binaryOp .Add va vb) Q E s := by
  intro a b hf ra rb
  obtain ⟨x, e1, hf⟩ := bS hf
  obtain ⟨y, e2, hf⟩ := bS hf
  obtain ⟨hl, hf⟩ := iS hf
  obtain rfl := Option.some.inj hf
  exact addL_ok I ra rb e1 e2 hl hQ
 cases a with
 | int a => cases b with
  | int b => cases hf; obtain ⟨t, rfl⟩ := zw.mp ra; obtain ⟨u, rfl⟩ := zw.mp rb; exact PyProof.Rows.add_int (hQ g _ _ g.le_refl (I.tok _) (zw.mpr ⟨_, rfl⟩))
  | _ => exact lists _ _ (by exact hf) ra rb
 | str a => cases b with
  | str b =>
   simp only [zQ] at hf
   split at hf
   ·rename_i hl
    cases hf
    obtain ⟨t, rfl⟩ := zX.mp ra; obtain ⟨u, rfl⟩ := zX.mp rb
    refine wpAny_with_toks (Nat.le_refl s.toks) (PyProof.Rows.add_str (fun t' tk (htk : s.toks <= tk) => ?_) (by show a.toArray.size + b.toArray.size <= sizeLine; simp only [List.size_toArray, sizeLine_eq]; omega))
    rw [Ye]
    exact hQ g _ _ g.le_refl (I.tok tk) (zX.mpr ⟨_, rfl⟩)
   ·cases hf
  | _ => exact lists _ _ (by exact hf) ra rb
 | _ => exact lists _ _ (by exact hf) ra rb
theorem ze : SEs V h [] (PM.ok []) := by
 intro pos G K g σ σ' b A env s Q E ok hA hE I hm hQ
 cases hm
 exact wpAny_items_nil (hQ g _ s g.le_refl I .nil)
noncomputable def zd (m : PM AV) (r : PM (List AV)) : PM (List AV) := PM.bd m fun x => PM.bd r fun xs => PM.ok (x :: xs)
theorem zc {e : Expr} {es : List Expr} {m : PM AV} {r : PM (List AV)} (he : SE V h e m) (hs : SEs V h es r) (hp : ∀ env, starEach (e :: es) env = (false, eval e env) :: starEach es env := by exact fun _ => rfl) : SEs V h (e :: es) (zd m r) := by
 intro pos G K g σ σ' b A env s Q E ok hA hE I hm hQ
 obtain ⟨x, σ₁, e1, e2⟩ := PM.bd_some hm
 obtain ⟨xs, σ₂, e2, e3⟩ := PM.bd_some e2
 cases (e3)
 exact wpAny_items_cons (he G K g σ σ₁ x A env s _ E ok hA hE I e1 fun g1 a s1 l1 I1 r1 => hs pos G K g1 σ₁ _ xs A env s1 _ E ok hA (hE.le l1) I1 e2 fun g2 vs s2 l2 I2 r2 =>
  hQ g2 _ s2 (l1.trans l2) I2 (.cons (Gh.rv_le l2 r1) r2)) (hp env)
theorem Za {es : List Expr} {pos : Pos} {m : PM (List AV)} (hs : SEs V h es m) : SE V h (.List es pos) (PM.bd m fun xs => PM.of fun _ => if xs.length <= 1000 then some (.lst xs) else Option.none) := by
 intro G K g σ σ' b A env s Q E ok hA hE I hm hQ
 obtain ⟨xs, σ₁, e1, e2⟩ := PM.bd_some hm
 obtain ⟨e2, rfl⟩ := PM.of_some e2
 dsimp only at e2
 split at e2
 ·cases e2
  refine wpAny_List (hs pos G K g σ _ xs A env s _ E ok hA hE I e1 fun g1 vs s1 l1 I1 r1 => ⟨by rw [r1.length, sizeLine_eq]; omega, ?_⟩)
  obtain ⟨g', le, I', r'⟩ := I1.newL (h' := s1.heap.push (zM vs 0)) s1.toks (fun b o e => Heap.get?_push_of_some _ e) (Heap.get?_push_size _ rfl) (zH _) r1
  exact hQ g' _ _ (l1.trans le) I' r'
 ·cases e2
theorem yR {es : List Expr} {pos : Pos} {m : PM (List AV)} (hs : SEs V h es m) : SE V h (.List es pos) (PM.bd m fun xs => fun σ => if xs.length <= 1000 then some (.loc σ.st.length, { σ with st := σ.st ++ [.lst xs] }) else Option.none) := by
 intro G K g σ σ' b A env s Q E ok hA hE I hm hQ
 obtain ⟨xs, σ₁, e1, e2⟩ := PM.bd_some hm
 split at e2
 ·cases e2
  refine wpAny_List (hs pos G K g σ σ₁ xs A env s _ E ok hA hE I e1 fun g1 vs s1 l1 I1 r1 => ⟨by rw [r1.length, sizeLine_eq]; omega, ?_⟩)
  obtain ⟨I', le⟩ := I1.newEnt (e := .lst xs) (h' := s1.heap.push (zM vs 0)) s1.toks (fun b o e => Heap.get?_push_of_some _ e) (zH _) ⟨vs, 0, Heap.get?_push_size _ rfl, r1⟩
  exact hQ _ _ _ (l1.trans le) I' (ZD.mpr ⟨_, rfl, by rw [<- I1.len]; simp⟩)
 ·cases e2
theorem yw {es : List Expr} {k : Nat} {pos : Pos} {m : PM (List AV)} (hs : SEs V h es m) : SE V h (.Tuple es k pos) (PM.bd m fun xs => PM.of fun _ => if xs.length <= 1000 then some (.tup xs) else Option.none) := by
 intro G K g σ σ' b A env s Q E ok hA hE I hm hQ
 obtain ⟨xs, σ₁, e1, e2⟩ := PM.bd_some hm
 obtain ⟨e2, rfl⟩ := PM.of_some e2
 dsimp only at e2
 split at e2
 ·cases e2
  refine wpAny_Tuple (hs pos G K g σ _ xs A env s _ E ok hA hE I e1 fun g1 vs s1 l1 I1 r1 => ⟨by rw [r1.length, sizeLine_eq]; omega, ?_⟩)
  obtain ⟨g', le, I', r'⟩ := I1.newT (h' := s1.heap.push (tupO vs 0)) s1.toks (fun b o e => Heap.get?_push_of_some _ e) (Heap.get?_push_size _ rfl) (zH _) r1
  exact hQ g' _ _ (l1.trans le) I' r'
 ·cases e2
end
noncomputable def nthF {α : Type} (l : List α) (i : Int) : Option α := if 0 <= i then l[i.toNat]? else if 0 <= i + l.length then l[(i + l.length).toNat]? else Option.none
noncomputable def lookD : List (List Nat × Int) -> List Nat -> Option Int
 | [], _ => Option.none
 | (k, v) :: r, x => if k = x then some v else lookD r x
noncomputable def zn (σ : St) : AV -> AV -> Option AV
 | .str l, .int i => if l.length <= 100000 then (nthF l i).map fun c => .str [c] else Option.none
 | .tup xs, .int i => if xs.length <= 100000 then nthF xs i else Option.none
 | a, .int i => (asL σ a).bind fun xs => if xs.length <= 100000 then nthF xs i else Option.none
 | _, _ => Option.none
theorem XD {α : Type} {l : List α} {i : Int} {x : α} (h : nthF l i = some x) : -(l.length : Int) <= i /\ i < l.length := by
 unfold nthF at h
 split at h
 ·have := (List.getElem?_eq_some_iff.mp h).1; omega
 ·split at h
  ·have := (List.getElem?_eq_some_iff.mp h).1; omega
  ·cases h
theorem nthF_seq {α : Type} {l : List α} {i : Int} {x : α} (h : nthF l i = some x) : ∃ j, seqIndex? i l.length = some j /\ l[j]? = some x := by
 have hb := XD h
 unfold nthF at h
 unfold seqIndex?
 split at h
 ·rename_i h0
  refine ⟨i.toNat, ?_, h⟩
  have e0 : ¬ i < 0 := by omega
  have e2 : i < (l.length : Int) := hb.2
  simp [e0, h0, e2]
 ·rename_i h0
  obtain ⟨h1, h⟩ := iS h
  refine ⟨(i + l.length).toNat, ?_, h⟩
  have e0 : i < 0 := by omega
  have e2 : i + (l.length : Int) < (l.length : Int) := by omega
  simp [e0, h1]; omega
section
variable {G : GC} {K : Kx} {g : Gh} {σ : St} {s : Shared} {A : Around} {Q : Value -> Shared -> Prop} {E : Value -> Shared -> Prop} {V : Vis} {h : Nat}
theorem item_ok {a b r : AV} {va vb : Value} {value slice : Expr} (I : Wf G K g σ s) (ra : g.rv a va) (rb : g.rv b vb) (hf : zn σ a b = some r)
  (hs : subscripted slice false va vb = operate [va, vb] (getItem va vb)) (hQ : ∀ v' s', Wf G K g σ s' -> g.rv r v' -> Q v' s') : wpAny (model G.prog G.w) A (subscriptTail value slice va vb) Q E s := by
 have lists : ∀ a (i : Int), b = .int i -> ((asL σ a).bind fun xs => if xs.length <= 100000 then nthF xs i else Option.none) = some r -> g.rv a va -> wpAny (model G.prog G.w) A (subscriptTail value slice va vb) Q E s := by
  intro a i hb hf2 ra2
  rw [hb] at rb
  obtain ⟨u, rfl⟩ := zw.mp rb
  obtain ⟨xs, e, hf2⟩ := bS hf2
  obtain ⟨hl, hf2⟩ := iS hf2
  obtain ⟨l, vs, n, rfl, ho, hr⟩ := I.isL ra2 e
  have hb := XD hf2
  have hlen := hr.length
  have hil := zy ho
  refine tail_any hil.typeIs PySem.slot_list_getitem.lookup ?_ hs
  unfold nthF at hf2
  split at hf2
  ·rename_i h0
   obtain ⟨v, e1, e2⟩ := hr.get hf2
   exact wpAny_getItem_list hil h0 (by omega) (by simpa using e1) (hQ v s I e2)
  ·rename_i h0
   obtain ⟨h1, hf2⟩ := iS hf2
   obtain ⟨v, e1, e2⟩ := hr.get hf2
   refine wpAny_getItem_list_neg hil (by omega) (by simp; omega) (by omega) ?_ (hQ v s I e2)
   simp only [List.size_toArray, hlen]
   simpa using e1
 cases b with
 | int i =>
  cases a with
  | str l =>
   obtain ⟨t, rfl⟩ := zX.mp ra
   obtain ⟨u, rfl⟩ := zw.mp rb
   obtain ⟨hl, hf⟩ := iS hf
   obtain ⟨c, e, rfl⟩ := Option.map_eq_some_iff.mp hf
   have hk90 := nthF_seq e; obtain ⟨j, h1, h2⟩ := hk90
   have hb := XD e
   refine tail_any (typeIs_str s _ t) PySem.F.slot_str_getitem.lookup (P.getItem_str (c := c) ?_ ?_ (hQ _ _ (I.tok _) (zX.mpr ⟨_, rfl⟩))) hs
   ·have e1 : decide (i < -2 ^ 63) = false := decide_eq_false (by omega)
    have e2 : decide (i ≥ 2 ^ 63) = false := decide_eq_false (by omega)
    rw [e1, e2]; rfl
   ·show (seqIndex? i l.toArray.size).bind (fun x => l.toArray[x]?) = some c
    rw [List.size_toArray, h1]; simpa using h2
  | tup xs =>
   obtain ⟨l, vs, n, rfl, hb, hr⟩ := rv_tup.mp ra
   obtain ⟨u, rfl⟩ := zw.mp rb
   obtain ⟨hl, hf⟩ := iS hf
   have hk105 := nthF_seq hf; obtain ⟨j, h1, h2⟩ := hk105
   have hbd := XD hf
   obtain ⟨v, e1, e2⟩ := hr.get h2
   have it := isTup_of (I.hB _ _ hb)
   refine item_tupleT it (by omega) (by omega) (j := j) ?_ e1 (hQ v s I e2) hs
   rw [hr.length]; exact h1
  | _ => exact lists _ i rfl (by exact hf) ra
 | _ => cases a <;> cases hf
theorem zv {value slice : Expr} {pos : Pos} {mv ms : PM AV} (hv : SE V h value mv) (hsl : SE V h slice ms) (hs : ∀ o i, subscripted slice false o i = operate [o, i] (getItem o i)) : SE V h (.Subscript value slice pos) (zk zn mv ms) := by
 intro G K g σ σ' b A env s Q E ok hA hE I hm hQ
 obtain ⟨x, σ₁, e1, e2⟩ := PM.bd_some hm
 obtain ⟨y, σ₂, e2, e3⟩ := PM.bd_some e2
 obtain ⟨e3, rfl⟩ := PM.of_some e3
 exact Subscript_ (hv G K g σ σ₁ x A env s _ E ok hA hE I e1 fun g1 a s1 l1 I1 r1 => hsl G K g1 σ₁ _ y A env s1 _ E ok hA (hE.le l1) I1 e2 fun g2 b' s2 l2 I2 r2 =>
  item_ok I2 (Gh.rv_le l2 r1) r2 e3 (hs a b') fun v' s' I' r' => hQ g2 v' s' (l1.trans l2) I' r')
noncomputable def YB {α : Type} (l : List α) (lo hi : Option Int) : List α := (l.drop (lo.elim 0 (clipAt l.length))).take (hi.elim l.length (clipAt l.length) - lo.elim 0 (clipAt l.length))
noncomputable def Zy (σ : St) (lo hi : Option Int) : AV -> Option AV
 | .str l => if l.length <= 100000 then some (.str (YB l lo hi)) else Option.none
 | a => (asL σ a).bind fun xs => if xs.length <= 100000 then some (.lst (YB xs lo hi)) else Option.none
theorem RVs.cut {B : Fz} {ρ : List Addr} {xs : List AV} {vs : List Value} (hr : RVs B ρ xs vs) (lo hi : Option Int) : RVs B ρ (YB xs lo hi) (YB vs lo hi) := by
 unfold YB
 rw [hr.length]
 exact (hr.drop _).take _
theorem strCut (l : List Nat) (lo hi : Option Int) : (Builtin.Str.strSliceIndices lo hi 1 l.length).filterMap (l.toArray[·]?) = YB l lo hi := by
 have e : Builtin.Str.strSliceIndices lo hi 1 l.length = sliceRange (lo.elim 0 (clipAt l.length) : Nat) (hi.elim l.length (clipAt l.length) : Nat) 1 := by
  unfold Builtin.Str.strSliceIndices
  cases lo <;> cases hi <;> simp [clipAt_cast]
 rw [e, sliceRange_one]
 exact pick_run l.toArray (lo.elim 0 (clipAt l.length)) (hi.elim l.length (clipAt l.length) - lo.elim 0 (clipAt l.length))
noncomputable def SO (V : Vis) (h : Nat) (lo : Option Expr) (m : PM (Option Int)) : Prop := Snd V h (fun _ b a => IsPart a b /\ ∀ i, b = some i -> ∃ t, a = .int i t) (fun env => evalPart lo env) m
theorem Zi : SO V h Option.none (PM.ok Option.none) := by
 intro G K g σ σ' b A env s Q E ok hA hE I hm hQ
 cases hm
 exact wpAny_evalPart_none (hQ g _ s g.le_refl I ⟨.none, fun i e => nomatch e⟩)
noncomputable def Zb (m : PM AV) : PM (Option Int) := PM.bd m fun a => PM.of fun _ => match a with | .int i => some (some i) | _ => Option.none
theorem zT {e : Expr} {m : PM AV} (he : SE V h e m) : SO V h (some e) (Zb m) := by
 intro G K g σ σ' b A env s Q E ok hA hE I hm hQ
 obtain ⟨x, σ₁, e1, e2⟩ := PM.bd_some hm
 obtain ⟨e2, rfl⟩ := PM.of_some e2
 refine wpAny_evalPart_some (he G K g σ _ x A env s _ E ok hA hE I e1 fun g1 a s1 l1 I1 r1 => ?_)
 cases x with
 | int i => cases e2; obtain ⟨t, rfl⟩ := zw.mp r1; exact hQ g1 _ s1 l1 I1 ⟨.int _ _, fun j e => by cases e; exact ⟨t, rfl⟩⟩
 | _ => cases e2
theorem slice_ok {a r : AV} {va vl vu : Value} {lo hi : Option Int} (I : Wf G K g σ s) (ra : g.rv a va) (pl : IsPart vl lo) (pu : IsPart vu hi)
  (hf : Zy σ lo hi a = some r) (hQ : ∀ g' v' s', g.le g' -> Wf G K g' σ s' -> g'.rv r v' -> Q v' s') :
  ∃ T id, typeLookup (Value.type T) (Str.ofString "__getitem__") = pure (some (Value.builtin id)) /\ s.TypeIs va T /\
   wpAny (model G.prog G.w) A (getItem va (.ref s.heap.objs.size)) Q E { s with heap := s.heap.push { cls := .type "slice", data := .fields #[vl, vu, .none] } } := by
 have lists : ∀ a, ((asL σ a).bind fun xs => if xs.length <= 100000 then some (AV.lst (YB xs lo hi)) else Option.none) = some r -> g.rv a va ->
   ∃ T id, typeLookup (Value.type T) (Str.ofString "__getitem__") = pure (some (Value.builtin id)) /\ s.TypeIs va T /\
    wpAny (model G.prog G.w) A (getItem va (.ref s.heap.objs.size)) Q E { s with heap := s.heap.push { cls := .type "slice", data := .fields #[vl, vu, .none] } } := by
  intro a hf2 ra2
  obtain ⟨xs, e, hf2⟩ := bS hf2
  obtain ⟨hl, hf2⟩ := iS hf2
  cases hf2
  obtain ⟨l, vs, n, rfl, ho, hr⟩ := I.isL ra2 e
  refine ⟨"list", _, PySem.slot_list_getitem.lookup, (zy ho).typeIs, ?_⟩
  have hlen := hr.length
  refine wpAny_getItem_list_slice (zy (Heap.get?_push_of_some _ ho)) (Heap.IsSliceOf.new ..) pl pu .none (by simp) ?_ (by simp only [List.size_toArray, sizeLine_eq]; omega)
  have e1 : slicePick vs.toArray lo hi Option.none = (YB vs lo hi).toArray := by rw [slicePick_plain]; simp [YB]
  rw [e1]
  obtain ⟨g', le, I', r'⟩ := I.newL (h' := (s.heap.push { cls := .type "slice", data := .fields #[vl, vu, .none] }).push (zM (YB vs lo hi) 0)) s.toks
   (fun b o e => Heap.get?_push_of_some _ (Heap.get?_push_of_some _ e)) (a := (s.heap.push { cls := .type "slice", data := .fields #[vl, vu, .none] }).objs.size) (Heap.get?_push_size _ rfl) (yi (by simp)) (hr.cut lo hi)
  exact hQ g' _ _ le I' r'
 cases a with
 | str l =>
  obtain ⟨t, rfl⟩ := zX.mp ra
  obtain ⟨hl, hf⟩ := iS hf
  cases hf
  refine ⟨"str", _, PySem.F.slot_str_getitem.lookup, typeIs_str s _ t, ?_⟩
  have hp : ∀ {v : Value} {o : Option Int}, IsPart v o -> ∃ p : Option (Int × Tok), v = partValue p /\ p.map (·.1) = o := fun k => by
   cases k with
   | none => exact ⟨Option.none, rfl, rfl⟩
   | int i t => exact ⟨some (i, t), rfl, rfl⟩
  obtain ⟨p, rfl, rfl⟩ := hp pl
  obtain ⟨q, rfl, rfl⟩ := hp pu
  have I' := I.keep (h' := s.heap.push { cls := .type "slice", data := .fields #[partValue p, partValue q, .none] }) s.toks (fun b o e => Heap.get?_push_of_some _ e)
  refine wpAny_getItem_str_slice (l := p) (u := q) (st := Option.none) ⟨_, Heap.get?_push_size _ rfl, rfl, rfl⟩ rfl ?_
  unfold sliceMade slicePicked
  have e1 : (Str.mk l.toArray).length = l.length := by show l.toArray.size = _; simp
  have hcut := strCut l (p.map (·.1)) (q.map (·.1))
  have hlen : (YB l (p.map (·.1)) (q.map (·.1))).length <= l.length := by unfold YB; rw [List.length_take, List.length_drop]; omega
  split
  ·rename_i hc
   have hc' := (Bool.and_eq_true_iff.mp hc).2
   rw [e1, beq_iff_eq] at hc'
   have hc2 : (Builtin.Str.strSliceIndices (p.map (·.1)) (q.map (·.1)) 1 l.length).length = l.length := hc'
   have full : YB l (p.map (·.1)) (q.map (·.1)) = l := by
    have hb : ∀ (o : Option Int), (o.elim l.length (clipAt l.length)) <= l.length := fun o => by
     cases o with
     | none => exact Nat.le_refl _
     | some i => have := clipAt_cast l.length i; simp only [Option.elim]; omega
    have e2 : Builtin.Str.strSliceIndices (p.map (·.1)) (q.map (·.1)) 1 l.length = sliceRange ((p.map (·.1)).elim 0 (clipAt l.length) : Nat) ((q.map (·.1)).elim l.length (clipAt l.length) : Nat) 1 := by
     unfold Builtin.Str.strSliceIndices
     cases p <;> cases q <;> simp [clipAt_cast]
    rw [e2, sliceRange_one, List.length_map, List.length_range] at hc2
    have h3 := hb (q.map (·.1))
    unfold YB
    have h4 : (p.map (·.1)).elim 0 (clipAt l.length) = 0 ∨ l.length = 0 := by omega
    rcases h4 with h4 | h4
    ·rw [h4, List.drop_zero, List.take_of_length_le (by omega)]
    ·have : l = [] := List.eq_nil_of_length_eq_zero h4
     subst this; simp
   rw [full] at hQ
   exact hQ g _ _ g.le_refl I' (zX.mpr ⟨_, rfl⟩)
  ·refine ⟨?_, ?_⟩
   ·show ((List.filterMap _ _).toArray).size <= sizeLine
    have : (List.filterMap (fun x => (Str.mk l.toArray).cps[x]?) (Builtin.Str.strSliceIndices (p.map (·.1)) (q.map (·.1)) ((Option.map (fun x : Int × Tok => x.1) Option.none).getD 1) (Str.mk l.toArray).length)) = YB l (p.map (·.1)) (q.map (·.1)) := by
     rw [e1]; exact hcut
    rw [this, List.size_toArray, sizeLine_eq]; omega
   ·have : (List.filterMap (fun x => (Str.mk l.toArray).cps[x]?) (Builtin.Str.strSliceIndices (p.map (·.1)) (q.map (·.1)) ((Option.map (fun x : Int × Tok => x.1) Option.none).getD 1) (Str.mk l.toArray).length)) = YB l (p.map (·.1)) (q.map (·.1)) := by
     rw [e1]; exact hcut
    rw [this]
    exact hQ g _ _ g.le_refl (I'.tok _) (zX.mpr ⟨_, rfl⟩)
 | _ => exact lists _ (by exact hf) ra
noncomputable def ZR (mv : PM AV) (ml mu : PM (Option Int)) : PM AV := PM.bd mv fun a => PM.bd ml fun lo => PM.bd mu fun hi => PM.of fun σ => Zy σ lo hi a
theorem yO {value : Expr} {lo hi : Option Expr} {p pos : Pos} {mv : PM AV} {ml mu : PM (Option Int)} (hv : SE V h value mv) (hl : SO V h lo ml) (hu : SO V h hi mu) :
  SE V h (.Subscript value (.Slice lo hi Option.none p) pos) (ZR mv ml mu) := by
 intro G K g σ σ' b A env s Q E ok hA hE I hm hQ
 obtain ⟨x, σ₁, e1, e2⟩ := PM.bd_some hm
 obtain ⟨y, σ₂, e2, e3⟩ := PM.bd_some e2
 obtain ⟨z, σ₃, e3, e4⟩ := PM.bd_some e3
 obtain ⟨e4, rfl⟩ := PM.of_some e4
 refine Subscript_ (hv G K g σ σ₁ x A env s _ E ok hA hE I e1 fun g1 a s1 l1 I1 r1 => wpAny_Slice (hl G K g1 σ₁ σ₂ y A env s1 _ E ok hA (hE.le l1) I1 e2 fun g2 vl s2 l2 I2 r2 =>
  hu G K g2 σ₂ _ z A env s2 _ E ok hA (hE.le (l1.trans l2)) I2 e3 fun g3 vu s3 l3 I3 r3 => wpAny_evalPart_none ?_))
 obtain ⟨T, id, k1, k2, k3⟩ := slice_ok (A := A) (Q := Q) (E := E) I3 (Gh.rv_le (l2.trans l3) r1) r2.1 r3.1 e4 fun g' v' s' le I' r' => hQ g' v' s' ((l1.trans (l2.trans l3)).trans le) I' r'
 have k2' : Shared.TypeIs { s3 with heap := s3.heap.push { cls := .type "slice", data := .fields #[vl, vu, .none] } } a T := by
  revert k2
  cases a with
  | ref c => rintro ⟨o, ho, hc⟩; exact ⟨o, Heap.get?_push_of_some _ ho, hc⟩
  | _ => exact fun x => x
 exact tail_any (ops := [.ref s3.heap.objs.size, a]) k2' k1 k3 rfl
noncomputable def ltN (a b : List Nat) : Bool := decide (a < b)
noncomputable def ordF (fi : Int -> Int -> Bool) (fs : List Nat -> List Nat -> Bool) (_ : St) : AV -> AV -> Option Bool
 | .int a, .int b => some (fi a b)
 | .str a, .str b => some (fs a b)
 | _, _ => Option.none
noncomputable def eqvF (fi : Int -> Int -> Bool) (fs : List Nat -> List Nat -> Bool) (fb : Bool -> Bool -> Bool) (σ : St) (a b : AV) : Option Bool := match a, b with
 | .bool a, .bool b => some (fb a b)
 | a, b => ordF fi fs σ a b
noncomputable def eqF : St -> AV -> AV -> Option Bool := eqvF (· == ·) (· == ·) (· == ·)
noncomputable def neF : St -> AV -> AV -> Option Bool := eqvF (· != ·) (· != ·) (· != ·)
noncomputable def ltF : St -> AV -> AV -> Option Bool := ordF (fun a b => decide (a < b)) ltN
noncomputable def gtF : St -> AV -> AV -> Option Bool := ordF (fun a b => decide (b < a)) fun a b => ltN b a
noncomputable def leF : St -> AV -> AV -> Option Bool := ordF (fun a b => decide (a <= b)) fun a b => !ltN b a
noncomputable def geF : St -> AV -> AV -> Option Bool := ordF (fun a b => decide (b <= a)) fun a b => !ltN a b
theorem ordF_inv {fi : Int -> Int -> Bool} {fs : List Nat -> List Nat -> Bool} {σ : St} {a b : AV} {r : Bool} (h : ordF fi fs σ a b = some r) :
  (∃ x y, a = .int x /\ b = .int y /\ fi x y = r) ∨ ∃ x y, a = .str x /\ b = .str y /\ fs x y = r := by
 cases a with
 | int x => cases b with
  | int y => exact .inl ⟨_, _, rfl, rfl, Option.some.inj h⟩
  | _ => exact nn h
 | str x => cases b with
  | str y => exact .inr ⟨_, _, rfl, rfl, Option.some.inj h⟩
  | _ => exact nn h
 | _ => exact nn h
theorem eqvF_inv {fi : Int -> Int -> Bool} {fs : List Nat -> List Nat -> Bool} {fb : Bool -> Bool -> Bool} {σ : St} {a b : AV} {r : Bool} (h : eqvF fi fs fb σ a b = some r) :
  (∃ x y, a = .bool x /\ b = .bool y /\ fb x y = r) ∨ ordF fi fs σ a b = some r := by
 cases a with
 | bool x => cases b with
  | bool y => exact .inl ⟨_, _, rfl, rfl, Option.some.inj h⟩
  | _ => exact .inr h
 | _ => exact .inr h
section
variable {op : CmpOp} {fi : Int -> Int -> Bool} {fs : List Nat -> List Nat -> Bool} {fb : Bool -> Bool -> Bool}
 (hi : ∀ (p : Program) (w : World) (A : Around) (Q E : Value -> Shared -> Prop) (s : Shared) (a b : Int) (t u : Tok), Q (.bool (fi a b)) s -> wpAny (model p w) A (compareOp op (.int a t) (.int b u)) Q E s)
 (hs : ∀ (p : Program) (w : World) (A : Around) (Q E : Value -> Shared -> Prop) (s : Shared) (a b : List Nat) (t u : Tok), Q (.bool (fs a b)) s -> wpAny (model p w) A (compareOp op (.str ⟨a.toArray⟩ t) (.str ⟨b.toArray⟩ u)) Q E s)
 (hb : ∀ (p : Program) (w : World) (A : Around) (Q E : Value -> Shared -> Prop) (s : Shared) (a b : Bool), Q (.bool (fb a b)) s -> wpAny (model p w) A (compareOp op (.bool a) (.bool b)) Q E s)
include hi hs
theorem c_ord : Cmp h op (ordF fi fs) := by
 intro G K g σ a b r va vb A s Q E ok hA I ra rb hf hQ
 obtain ⟨c, hc, rfl⟩ := Option.map_eq_some_iff.mp hf
 rcases ordF_inv hc with ⟨x, y, rfl, rfl, rfl⟩ | ⟨x, y, rfl, rfl, rfl⟩
 ·obtain ⟨t, rfl⟩ := zw.mp ra
  obtain ⟨u, rfl⟩ := zw.mp rb
  exact hi _ _ _ _ _ _ _ _ _ _ (hQ g _ s g.le_refl I (yD.mpr rfl))
 ·obtain ⟨t, rfl⟩ := zX.mp ra
  obtain ⟨u, rfl⟩ := zX.mp rb
  exact hs _ _ _ _ _ _ _ _ _ _ (hQ g _ s g.le_refl I (yD.mpr rfl))
include hb
theorem c_eqv : Cmp h op (eqvF fi fs fb) := by
 intro G K g σ a b r va vb A s Q E ok hA I ra rb hf hQ
 obtain ⟨c, hc, rfl⟩ := Option.map_eq_some_iff.mp hf
 rcases eqvF_inv hc with ⟨x, y, rfl, rfl, rfl⟩ | hc
 ·obtain rfl := yD.mp ra
  obtain rfl := yD.mp rb
  exact hb _ _ _ _ _ _ _ _ (hQ g _ s g.le_refl I (yD.mpr rfl))
 ·exact c_ord hi hs G K g σ _ _ _ va vb A s Q E ok hA I ra rb (congrArg (Option.map AV.bool) hc) hQ
end
theorem c_eq : Cmp h .Eq eqF := c_eqv (fun _ _ _ _ _ _ _ _ _ _ q => PyProof.Rows.eq_int q) (fun _ _ _ _ _ _ _ _ _ _ q => P.eq_str q) fun _ _ _ _ _ _ _ _ q => PyProof.Rows.eq_bool q
theorem c_ne : Cmp h .NotEq neF := c_eqv (fun _ _ _ _ _ _ _ _ _ _ q => PyProof.Rows.ne_int q) (fun _ _ _ _ _ _ _ _ _ _ q => P.ne_str q) fun _ _ _ _ _ _ _ _ q => PyProof.Rows.ne_bool q
theorem c_lt : Cmp h .Lt ltF := c_ord (fun _ _ _ _ _ _ _ _ _ _ q => PyProof.Rows.lt_int q) fun _ _ _ _ _ _ _ _ _ _ q => P.lt_str q
theorem c_gt : Cmp h .Gt gtF := c_ord (fun _ _ _ _ _ _ _ _ _ _ q => PyProof.Rows.gt_int q) fun _ _ _ _ _ _ _ _ _ _ q => P.gt_str q
theorem c_le : Cmp h .LtE leF := c_ord (fun _ _ _ _ _ _ _ _ _ _ q => PyProof.Rows.le_int q) fun _ _ _ _ _ _ _ _ _ _ q => P.le_str q
theorem c_ge : Cmp h .GtE geF := c_ord (fun _ _ _ _ _ _ _ _ _ _ q => PyProof.Rows.ge_int q) fun _ _ _ _ _ _ _ _ _ _ q => P.ge_str q
end
mutual
noncomputable def AV.lower (n : Nat) : AV -> Bool
 | .none => true | .bool _ => true | .int _ => true | .str _ => true
 | .tup xs => AV.lowers n xs
 | .lst xs => AV.lowers n xs
 | .loc k => decide (k < n) | .app k => decide (k < n) | .dct _ => true
noncomputable def AV.lowers (n : Nat) : List AV -> Bool
 | [] => true
 | x :: xs => AV.lower n x && AV.lowers n xs
end
mutual
theorem RV.reloc {B : Fz} {ρ ρ' : List Addr} {n : Nat} (hρ : ∀ (k : Nat) (a : Addr), k < n -> ρ[k]? = some a -> ρ'[k]? = some a) : ∀ (x : AV) (v : Value), x.lower n = true -> RV B ρ x v -> RV B ρ' x v
 | .none, _, _, h => h
 | .bool _, _, _, h => h
 | .int _, _, _, h => h
 | .str _, _, _, h => h
 | .tup xs, v, q, h => by
  simp only [rvE] at h ⊢
  simp only [AV.lower] at q
  obtain ⟨a, vs, k, e, hb, hr⟩ := h
  exact ⟨a, vs, k, e, hb, RVs.reloc hρ xs vs q hr⟩
 | .lst xs, v, q, h => by
  simp only [rvF] at h ⊢
  simp only [AV.lower] at q
  obtain ⟨a, vs, k, e, hb, hr⟩ := h
  exact ⟨a, vs, k, e, hb, RVs.reloc hρ xs vs q hr⟩
 | .loc k, v, q, h => by
  simp only [rvG] at h ⊢
  simp only [AV.lower, decide_eq_true_eq] at q
  obtain ⟨a, e, hr⟩ := h
  exact ⟨a, e, hρ k a q hr⟩
 | .app k, v, q, h => by
  simp only [rvH] at h ⊢
  simp only [AV.lower, decide_eq_true_eq] at q
  obtain ⟨a, b, e, hr, hb⟩ := h
  exact ⟨a, b, e, hρ k a q hr, hb⟩
 | .dct _, _, _, h => h
theorem RVs.reloc {B : Fz} {ρ ρ' : List Addr} {n : Nat} (hρ : ∀ (k : Nat) (a : Addr), k < n -> ρ[k]? = some a -> ρ'[k]? = some a) : ∀ (xs : List AV) (vs : List Value), AV.lowers n xs = true -> RVs B ρ xs vs -> RVs B ρ' xs vs
 | [], _, _, h => h
 | x :: xs, vs, q, h => by
  simp only [rvJ, rvK] at h ⊢
  simp only [AV.lowers, Bool.and_eq_true] at q
  obtain ⟨v, vs', e, h1, h2⟩ := h
  exact ⟨v, vs', e, RV.reloc hρ x v q.1 h1, RVs.reloc hρ xs vs' q.2 h2⟩
end
mutual
theorem RV.trunc {B0 B : Fz} {ρ ρ' : List Addr} (hρ : ∀ (n : Nat) (a : Addr), ρ[n]? = some a -> ρ'[n]? = some a) : ∀ (x : AV) (v₀ v : Value), RV B0 ρ x v₀ -> RV B ρ' x v -> RV B ρ x v
 | .none, _, _, _, h => h
 | .bool _, _, _, _, h => h
 | .int _, _, _, _, h => h
 | .str _, _, _, _, h => h
 | .tup xs, _, v, n, h => by
  simp only [rvE] at n h ⊢
  obtain ⟨_, vs₀, _, _, _, hr₀⟩ := n
  obtain ⟨a, vs, k, e, hb, hr⟩ := h
  exact ⟨a, vs, k, e, hb, RVs.trunc hρ xs vs₀ vs hr₀ hr⟩
 | .lst xs, _, v, n, h => by
  simp only [rvF] at n h ⊢
  obtain ⟨_, vs₀, _, _, _, hr₀⟩ := n
  obtain ⟨a, vs, k, e, hb, hr⟩ := h
  exact ⟨a, vs, k, e, hb, RVs.trunc hρ xs vs₀ vs hr₀ hr⟩
 | .loc _, _, _, n, h => by
  simp only [rvG] at n h ⊢
  obtain ⟨a₀, _, h0⟩ := n
  obtain ⟨a, e, h1⟩ := h
  have := hρ _ _ h0
  rw [h1] at this; cases this
  exact ⟨_, e, h0⟩
 | .app _, _, _, n, h => by
  simp only [rvH] at n h ⊢
  obtain ⟨a₀, _, _, h0, _⟩ := n
  obtain ⟨a, b, e, h1, h2⟩ := h
  have := hρ _ _ h0
  rw [h1] at this; cases this
  exact ⟨_, b, e, h0, h2⟩
 | .dct _, _, _, _, h => h
theorem RVs.trunc {B0 B : Fz} {ρ ρ' : List Addr} (hρ : ∀ (n : Nat) (a : Addr), ρ[n]? = some a -> ρ'[n]? = some a) : ∀ (xs : List AV) (vs₀ vs : List Value), RVs B0 ρ xs vs₀ -> RVs B ρ' xs vs -> RVs B ρ xs vs
 | [], _, _, _, h => h
 | x :: xs, vs₀, vs, n, h => by
  simp only [rvJ, rvK] at n h ⊢
  obtain ⟨v₀, vs0', _, n1, n2⟩ := n
  obtain ⟨v, vs', e, h1, h2⟩ := h
  exact ⟨v, vs', e, RV.trunc hρ x v₀ v n1 h1, RVs.trunc hρ xs vs0' vs' n2 h2⟩
end
noncomputable def FN (h : Nat) (name : Str) (φ : List AV -> List AE -> Option (AV × List AE)) : Prop :=
 ∀ (G : GC) (K : Kx) (g : Gh) (σ : St) (st' : List AE) (args : List AV) (va : List Value) (v : AV) (f : Addr) (A : Around) (s : Shared) (Q : Value -> Shared -> Prop) (E : Value -> Shared -> Prop),
  G.Ok -> AOk h A K -> Wf G K g σ s -> g.rvs args va -> φ args σ.st = some (v, st') -> G.mg name = some (.ref f) ->
  (∀ g' v' s', g.le g' -> Wf G K g' { σ with st := st' } s' -> g'.rv v v' -> Q v' s') -> wpAny (model G.prog G.w) A (call (.ref f) va) Q E s
structure FI where
 d : DefRec
 ps : List Str
 nm : List (Str × Bool)
 gl : List Str
 extra : Nat
 cx : GC -> Env -> Prop := fun _ _ => True
noncomputable def FI.vis (F : FI) : Vis := { nm := F.nm.zipIdx.map fun x => (x.1.1, x.2), gl := F.gl, lc := F.nm.filterMap fun x => if x.2 then Option.none else some x.1, cc := F.nm.filterMap fun x => if x.2 then some x.1 else Option.none, cp := F.nm.filterMap fun x => if x.2 then some x.1 else Option.none, fs := (List.range F.extra).map (F.nm.length + ·), cx := F.cx }
noncomputable def FI.ok (F : FI) : Bool :=
 F.d.scope.kind == .function && !F.d.scope.isGenerator && !F.d.scope.isCoroutine &&
 (F.nm.all fun x => F.d.scope.names.lookup x.1 == some (if x.2 then .cell else .local)) && (F.gl.all fun x => F.d.scope.names.lookup x == some .globalImplicit) &&
 (F.ps.all fun p => F.nm.any fun x => x.1 == p) && decide (F.nm.map (·.1)).Nodup && decide F.ps.Nodup && F.nm.any fun x => !x.2
noncomputable def FI.init (F : FI) (args : List AV) : List (Option AV) := (F.nm.map fun x => (F.ps.zip args).lookup x.1) ++ List.replicate F.extra Option.none
noncomputable def FI.vl (F : FI) (L : Addr) (cells : List (Str × Addr)) (i : Nat) : Yb := match F.nm[i]? with
 | some (x, false) => .loc L x
 | some (x, true) => (match cells.lookup x with | some c => .cell c | Option.none => .no)
 | Option.none => .no
theorem yS : ∀ (names : List (Str × NameKind)) (n : Nat) (acc : List (Str × Addr)) (x : Str), (names.lookup x = some .cell ∨ (acc.lookup x).isSome = true) -> ((cellsFrom n names acc).lookup x).isSome = true
 | [], n, acc, x, h => by
  rcases h with h | h
  ·simp at h
  ·simpa [cellsFrom] using h
 | (name, kind) :: r, n, acc, x, h => by
  unfold cellsFrom
  split
  ·rename_i hk
   refine yS r _ _ x ?_
   by_cases hx : x = name
   ·right; subst hx; simp [List.lookup_cons]
   ·rcases h with h | h
    ·left
     have : (x == name) = false := by simpa using hx
     simpa [List.lookup_cons, this] using h
    ·right
     have : (x == name) = false := by simpa using hx
     simpa [List.lookup_cons, this] using h
  ·rename_i hk
   refine yS r _ _ x ?_
   rcases h with h | h
   ·by_cases hx : x = name
    ·subst hx
     simp [List.lookup_cons] at h
     subst h
     exact absurd rfl hk
    ·left
     have : (x == name) = false := by simpa using hx
     simpa [List.lookup_cons, this] using h
   ·exact .inr h
theorem bindL_other {kindOf : Str -> Option NameKind} : ∀ (binds : List (Str × Value)) (m : Str -> Option Value) (x : Str), x ∉ binds.map (·.1) -> bindL kindOf binds m x = m x
 | [], _, _, _ => rfl
 | (n, v) :: r, m, x, h => by
  simp only [List.map_cons, List.mem_cons, not_or] at h
  unfold bindL
  rw [bindL_other r _ x h.2]
  split <;> simp [h.1]
theorem bindC_other {kindOf : Str -> Option NameKind} : ∀ (binds : List (Str × Value)) (m : Str -> Option Value) (x : Str), x ∉ binds.map (·.1) -> bindC kindOf binds m x = m x
 | [], _, _, _ => rfl
 | (n, v) :: r, m, x, h => by
  simp only [List.map_cons, List.mem_cons, not_or] at h
  unfold bindC
  rw [bindC_other r _ x h.2]
  split <;> simp [h.1]
theorem bindL_at {kindOf : Str -> Option NameKind} : ∀ (binds : List (Str × Value)) (m : Str -> Option Value) (x : Str) (v : Value), (binds.map (·.1)).Nodup -> binds.lookup x = some v -> kindOf x = some .local -> bindL kindOf binds m x = some v
 | [], _, _, _, _, h, _ => by simp at h
 | (n, w) :: r, m, x, v, hn, h, hk => by
  simp only [List.map_cons, List.nodup_cons] at hn
  unfold bindL
  by_cases hx : x = n
  ·subst hx
   simp [List.lookup_cons] at h
   subst h
   rw [bindL_other r _ x hn.1, if_pos hk]; simp
  ·have : (x == n) = false := by simpa using hx
   simp only [List.lookup_cons, this] at h
   exact bindL_at r _ x v hn.2 h hk
theorem bindC_at {kindOf : Str -> Option NameKind} : ∀ (binds : List (Str × Value)) (m : Str -> Option Value) (x : Str) (v : Value), (binds.map (·.1)).Nodup -> binds.lookup x = some v -> kindOf x = some .cell -> bindC kindOf binds m x = some v
 | [], _, _, _, _, h, _ => by simp at h
 | (n, w) :: r, m, x, v, hn, h, hk => by
  simp only [List.map_cons, List.nodup_cons] at hn
  unfold bindC
  by_cases hx : x = n
  ·subst hx
   simp [List.lookup_cons] at h
   subst h
   rw [bindC_other r _ x hn.1, if_neg (by rw [hk]; decide)]; simp
  ·have : (x == n) = false := by simpa using hx
   simp only [List.lookup_cons, this] at h
   exact bindC_at r _ x v hn.2 h hk
theorem zav {g : Gh} : ∀ (ps : List Str) (xs : List AV) (vs : List Value), g.rvs xs vs -> ∀ (x : Str) (a : AV), (ps.zip xs).lookup x = some a -> ∃ v, (ps.zip vs).lookup x = some v /\ g.rv a v
 | [], _, _, _, _, _, h => by simp at h
 | p :: ps, [], vs, _, x, a, h => by simp at h
 | p :: ps, y :: ys, vs, hr, x, a, h => by
  obtain ⟨v, vs', rfl, h1, h2⟩ := RVs.head hr
  simp only [List.zip_cons_cons, List.lookup_cons] at h ⊢
  split at h
  ·cases h; exact ⟨v, rfl, h1⟩
  ·exact zav ps ys vs' h2 x a h
theorem zip_keys : ∀ (ps : List Str) (vs : List Value), ∃ n, (ps.zip vs).map (·.1) = ps.take n
 | [], _ => ⟨0, rfl⟩
 | p :: ps, [] => ⟨0, rfl⟩
 | p :: ps, v :: vs => let ⟨n, e⟩ := zip_keys ps vs; ⟨n + 1, by simp [e]⟩
structure FI.Ok (F : FI) : Prop where
 kind : F.d.scope.kind = .function
 gen : F.d.scope.isGenerator = false
 co : F.d.scope.isCoroutine = false
 nm : ∀ x c, (x, c) ∈ F.nm -> F.d.scope.names.lookup x = some (if c then .cell else .local)
 gl : ∀ x, x ∈ F.gl -> F.d.scope.names.lookup x = some .globalImplicit
 ps : ∀ p, p ∈ F.ps -> ∃ c, (p, c) ∈ F.nm
 nodup : (F.nm.map (·.1)).Nodup
 psd : F.ps.Nodup
 has : ∃ x, (x, false) ∈ F.nm
theorem FI.ok_of {F : FI} (h : F.ok = true) : F.Ok := by
 simp only [FI.ok, Bool.and_eq_true, List.all_eq_true, List.any_eq_true, beq_iff_eq, decide_eq_true_eq, Bool.not_eq_true'] at h
 obtain ⟨⟨⟨⟨⟨⟨⟨⟨h1, h2⟩, h3⟩, h4⟩, h5⟩, h6⟩, h7⟩, h8⟩, h9⟩ := h
 exact ⟨h1, h2, h3, fun x c hx => h4 (x, c) hx, h5, fun p hp => let ⟨y, hy, e⟩ := h6 p hp; ⟨y.2, by rw [<- e]; exact hy⟩, h7, h8, let ⟨y, hy, e⟩ := h9; ⟨y.1, by rw [<- e]; exact hy⟩⟩
noncomputable def retOf : FL -> Option AV
 | .next => some .none
 | .ret v => some v
 | _ => Option.none
structure GC.Fns (G : GC) (F : FI) : Prop where
 fn : ∃ a o pm cd doc, G.mg F.d.name = some (.ref a) /\ G.hb.get? a = some o /\ o.data = .func (docDef F.d.name F.d.params F.d.body F.d.scope pm cd doc) /\ G.hb.CodeRec cd F.d.name /\
  ∀ L A, F.cx G (callEnvC (docDef F.d.name F.d.params F.d.body F.d.scope pm cd doc) L A)
theorem call_cellsT {prog : Program} {w : World} {A : Around} {s : Shared} {R : Result -> Shared -> Prop} {a : Addr} {o : Obj} {fd : FuncData} {body : List Stmt} {vals : List Value} {binds : List (Str × Value)}
  (hroom : A.depth < recursionLimit) (ho : s.heap.get? a = some o) (hdata : o.data = .func fd) (hlim : s.heap.NoLimit) (hcd : s.heap.CodeRec fd.code fd.qualname)
  (hbody : fd.body = .stmts body) (hbind : bindArgs fd ⟨vals, []⟩ = pure binds) (hclo : fd.closure = [])
  (hkind : ∀ x ∈ binds, fd.scope.names.lookup x.1 = some .local ∨ (fd.scope.names.lookup x.1 = some .cell /\ ((cellsFrom (s.heap.objs.size + 1) fd.scope.names []).lookup x.1).isSome = true))
  (h : ∀ s₁, InCallC s (callEnvC fd s.heap.objs.size a).locals (bindL (callEnvC fd s.heap.objs.size a).kindOf binds fun _ => Option.none) (callEnvC fd s.heap.objs.size a).cells
    (bindC (callEnvC fd s.heap.objs.size a).kindOf binds fun _ => Option.none) s₁ -> s.toks <= s₁.toks ->
   wpAny (model prog w) (A.deeper (callEnvC fd s.heap.objs.size a)) (execs body (callEnvC fd s.heap.objs.size a)) (fun f s' => R (.ok (.ret (match f with | .ret v => v | _ => .none))) s')
    (fun e s' => wpAny (model prog w) (A.deeper (callEnvC fd s.heap.objs.size a)) (leaving (callEnvC fd s.heap.objs.size a) e) (fun _ s'' => R (.error e) s'') (fun e' s'' => R (.error e') s'') s') s₁)
  (hco : fd.scope.isCoroutine = false) (hgen : fd.scope.isGenerator = false) (hk : fd.scope.kind = .function) : codeAny (model prog w) A (.call (.ref a) ⟨vals, []⟩) R s := by
 refine codeAny_call_function hroom ho hdata hco hgen hbody hcd ?_
 rw [hbind, hclo]
 refine wpAny_pure (wpAny_with_toks (Nat.le_refl s.toks) (wpAny_newFunctionEnv_cells hk hkind fun env he s' x htk => ?_))
 subst he
 exact ⟨hlim.keeps x.toInCall.keep, codeAny_func (h s' x htk)⟩
noncomputable def SBt (V : Vis) (h : Nat) (sts : List Stmt) (m : PM FL) : Prop :=
 ∀ (G : GC) (K : Kx) (g : Gh) (σ σ' : St) (b : FL) (A : Around) (env : Env) (s : Shared) (Q : Flow -> Shared -> Prop) (E : Value -> Shared -> Prop),
  G.Ok -> AOk h A K -> (∃ r, A.frames = some (env :: r)) -> EOk V G g.vl env -> Wf G K g σ s -> m σ = some (b, σ') ->
  (∀ g' a s', g.le g' -> Wf G K g' σ' s' -> FLr g' b a -> Q a s') -> wpAny (model G.prog G.w) A (execs sts env) Q E s
theorem SB.t {V : Vis} {h : Nat} {sts : List Stmt} {m : PM FL} (x : SB V h sts m) : SBt V h sts m := fun G K g σ σ' b A env s Q E ok hA _ hE I hm hQ => x G K g σ σ' b A env s Q E ok hA hE I hm hQ
theorem fn_sound {F : FI} (ok : F.Ok) {h : Nat} {m : PM FL} (hm : SBt F.vis h F.d.body m) (φ : List AV -> List AE -> Option (AV × List AE))
  (hbind : ∀ (va : List Value) (pm cd doc : Value), va.length = F.ps.length -> bindArgs (docDef F.d.name F.d.params F.d.body F.d.scope pm cd doc) ⟨va, []⟩ = pure (F.ps.zip va))
  (hG : ∀ G : GC, G.Ok -> G.Fns F)
  (hφ : ∀ args st v st', φ args st = some (v, st') -> args.length = F.ps.length /\ ∃ fl sl'' extra, m ⟨F.init args, st⟩ = some (fl, ⟨sl'', st' ++ extra⟩) /\ retOf fl = some v /\ st'.length = st.length /\
   (extra = [] ∨ (v.lower st'.length = true /\ st' = st))) : FN (h + 1) F.d.name φ := by
 intro G K g σ st' args va v f A s Q E gok hA I hr hf hmg hQ
 obtain ⟨hlen, fl, sl'', extra, hrun, hret, hst, hx⟩ := hφ args σ.st v st' hf
 obtain ⟨a, o, pm, cd, doc, e1, ho, hd, hcd, hcx⟩ := (hG G gok).fn
 rw [hmg] at e1; cases e1
 have hp0 := gok.pobj
 have hfP : f ≠ G.P := fun e => by rw [e, hp0] at ho; cases ho; cases hd
 have hof : s.heap.get? f = some o := I.hB _ _ (I.base _ _ ho hfP)
 have hcr : s.heap.CodeRec cd F.d.name := by
  obtain ⟨c, oc, vs, t, ec, hc, hdc, hq⟩ := hcd
  by_cases hcP : c = G.P
  ·subst hcP
   rw [hp0] at hc; cases hc
   cases hdc
   simp at hq
  ·exact ⟨c, oc, vs, t, ec, I.hB _ _ (I.base _ _ hc hcP), hdc, hq⟩
 have hval := hr.length
 refine wpAny_call (call_cellsT (fd := docDef F.d.name F.d.params F.d.body F.d.scope pm cd doc) hA.room hof hd (gok.limit I) hcr rfl (hbind va pm cd doc (by rw [hval, hlen])) rfl (fun x hx => ?_) (fun s₁ C htk => ?_) ok.co ok.gen ok.kind)
 ·obtain ⟨p, q⟩ := x
  have hp : p ∈ F.ps := (List.of_mem_zip hx).1
  obtain ⟨c, hc⟩ := ok.ps p hp
  have hk := ok.nm p c hc
  cases c with
  | false => exact .inl hk
  | true => exact .inr ⟨hk, yS _ _ _ _ (.inl hk)⟩
 ·generalize henv : callEnvC (docDef F.d.name F.d.params F.d.body F.d.scope pm cd doc) s.heap.objs.size f = env at C ⊢
  have hcxe : F.cx G env := henv ▸ hcx s.heap.objs.size f
  have eL : env.locals = s.heap.objs.size := by rw [<- henv]; rfl
  have ek : ∀ x, env.kindOf x = F.d.scope.names.lookup x := fun x => by rw [<- henv]; rfl
  have ecells : ∀ x, (x, true) ∈ F.nm -> ∃ c, env.cells.lookup x = some c := fun x hx => by
   have := yS F.d.scope.names (s.heap.objs.size + 1) [] x (.inl (ok.nm x true hx))
   obtain ⟨c, hc⟩ := Option.isSome_iff_exists.mp this
   exact ⟨c, by rw [<- henv]; exact hc⟩
  have escope : env.scope.kind = .function := by rw [<- henv]; exact ok.kind
  have eglob : env.globals = mainGlobals := by rw [<- henv]; rfl
  have ebi : env.builtins = builtinsNs := by rw [<- henv]; rfl
  have efr : env.frame = some env.locals := by rw [<- henv]; rfl
  obtain ⟨oL, hoL, hdL, iL, hiL⟩ : ∃ oL, s.heap.get? K.L = some oL /\ ZX oL /\ ∃ i, (g.vl i).addr = some K.L := by
   obtain ⟨i0, x0, hv0⟩ := I.has
   have k := I.fr i0
   rw [hv0] at k
   obtain ⟨m0, ⟨o0, es0, n0, ho0, hd0, _⟩, _⟩ := k
   exact ⟨o0, ho0, ⟨es0, n0, hd0⟩, i0, by rw [hv0]; rfl⟩
  clear henv
  obtain ⟨h1, tk, rfl⟩ := C.toInCall.same
  have hkeep : ∀ b o, s.heap.get? b = some o -> h1.get? b = some o := C.toInCall.keep
  have hlow : ∀ b o, s.heap.get? b = some o -> b < s.heap.objs.size := fun b o e => Heap.lt_size e
  have hvl : ∀ i b, (F.vl env.locals env.cells i).addr = some b -> s.heap.objs.size <= b := fun i b e => by
   unfold FI.vl at e
   split at e
   ·cases e; exact C.toInCall.fresh
   ·split at e
    ·rename_i c hc
     cases e
     exact Nat.le_of_lt (Nat.lt_of_le_of_lt C.toInCall.fresh (C.above _ _ (mem_of_lookup hc)))
    ·cases e
   ·cases e
  have hvl' : ∀ i b o, s.heap.get? b = some o -> (F.vl env.locals env.cells i).addr ≠ some b := fun i b o e e' => by
   exact absurd (hlow b o e) (Nat.not_lt.mpr (hvl i b e'))
  have hlk : ∀ x a, (F.ps.zip args).lookup x = some a -> ∃ v, (F.ps.zip va).lookup x = some v /\ g.rv a v := zav F.ps args va hr
  have hzk : ((F.ps.zip va).map (·.1)).Nodup := by
   obtain ⟨n, e⟩ := zip_keys F.ps va
   rw [e]; exact (List.take_sublist n F.ps).nodup ok.psd
  have hget : ∀ i, (⟨F.init args, σ.st⟩ : St).get i = match F.nm[i]? with | some x => (F.ps.zip args).lookup x.1 | Option.none => Option.none := fun i => by
   show ((F.nm.map fun x => (F.ps.zip args).lookup x.1) ++ List.replicate F.extra Option.none)[i]?.join = _
   rcases Nat.lt_or_ge i F.nm.length with hi | hi
   ·rw [List.getElem?_append_left (by simpa using hi), List.getElem?_map, List.getElem?_eq_getElem hi]; rfl
   ·rw [List.getElem?_append_right (by simpa using hi), List.getElem?_eq_none hi]
    cases hq : (List.replicate F.extra (Option.none : Option AV))[i - (F.nm.map fun x => (F.ps.zip args).lookup x.1).length]? with
    | none => rfl
    | some y => have := List.mem_of_getElem? hq; rw [List.mem_replicate] at this; rw [this.2]; rfl
  let K' : Kx := ⟨fun b o => K.f b o ∨ (s.heap.get? b = some o /\ ∃ i, (g.vl i).addr = some b), env.locals⟩
  let g1 : Gh := { g with vl := F.vl env.locals env.cells }
  have I1 : Wf G K' g1 ⟨F.init args, σ.st⟩ { s with heap := h1, toks := tk } := {
   hB := fun b o e => hkeep _ _ (I.hB b o e)
   hK := fun b o e => e.elim (fun e => (I.hK b o e).mono fun o => hkeep b o) fun e => .inl (hkeep _ _ e.1)
   base := I.base
   tab := let ⟨ps, a1, a2⟩ := I.tab; ⟨ps, a1, hkeep _ _ a2⟩
   dB := fun b o e => ⟨(I.dB b o e).1, fun i => hvl' i b o (I.hB b o e), (I.dB b o e).2.2⟩
   dK := fun b o e => e.elim (fun e => ⟨(I.dK b o e).1, fun i => let ⟨o2, q⟩ := (I.hK b o e).some; hvl' i b o2 q, (I.dK b o e).2.2⟩) fun ⟨e, i, hi⟩ => ⟨fun n hn => I.dv n i b hn hi, fun i => hvl' i b o e, fun e' => I.dP.2 i (e' ▸ hi)⟩
   dBK := fun b o o' x k => k.elim (I.dBK b o o' x) fun ⟨_, i, hi⟩ => (I.dB b o x).2.1 i hi
   dP := ⟨I.dP.1, fun i => let ⟨_, _, a2⟩ := I.tab; hvl' i _ _ a2⟩
   dv := fun n i b hn => let ⟨o, ho⟩ := I.rho_exists hn; hvl' i b o ho
   len := I.len
   nodup := I.nodup
   st := fun n e b e1 e2 => (I.st n e b e1 e2).mono (fun _ _ x => x) (fun _ _ x => x) fun o => hkeep b o
   fr := fun i => by
    rw [hget i]
    show Yp g.B g.ρ h1 _ (F.vl env.locals env.cells i)
    unfold FI.vl
    cases e : F.nm[i]? with
    | none => rfl
    | some xc =>
     obtain ⟨x, c⟩ := xc
     have hmem := List.mem_of_getElem? e
     cases c with
     | false =>
      refine ⟨_, C.toInCall.ns, fun av hav => ?_⟩
      obtain ⟨v, a1, a2⟩ := hlk x av hav
      exact ⟨v, bindL_at _ _ x v hzk a1 (by rw [ek]; exact ok.nm x false hmem), a2⟩
     | true =>
      have hk := ecells x hmem; obtain ⟨c, hc⟩ := hk
      simp only [hc]
      refine ⟨_, C.cell x c hc, fun av hav => ?_⟩
      obtain ⟨v, a1, a2⟩ := hlk x av hav
      exact ⟨v, bindC_at _ _ x v hzk a1 (by rw [ek]; exact ok.nm x true hmem), a2⟩
   inj := fun i j hij e => by
    have hnd : ∀ (i j : Nat) (x : Str) (c c' : Bool), F.nm[i]? = some (x, c) -> F.nm[j]? = some (x, c') -> i = j := fun i j x c c' e1 e2 => by
     have h1 : (F.nm.map (·.1))[i]? = some x := by rw [List.getElem?_map, e1]; rfl
     have h2 : (F.nm.map (·.1))[j]? = some x := by rw [List.getElem?_map, e2]; rfl
     obtain ⟨l1, g1⟩ := List.getElem?_eq_some_iff.mp h1
     obtain ⟨l2, g2⟩ := List.getElem?_eq_some_iff.mp h2
     exact (List.getElem_inj ok.nodup).mp (g1.trans g2.symm)
    have e' : F.vl env.locals env.cells i = F.vl env.locals env.cells j := e
    show F.vl env.locals env.cells i = .no
    unfold FI.vl at e' ⊢
    cases e1 : F.nm[i]? with
    | none => rfl
    | some xc =>
     obtain ⟨x, c⟩ := xc
     rw [e1] at e'
     cases e2 : F.nm[j]? with
     | none =>
      rw [e2] at e'
      cases c with
      | false => cases e'
      | true => exact e'
     | some yd =>
      obtain ⟨y, d⟩ := yd
      rw [e2] at e'
      cases c with
      | false => cases d with
       | false => cases e'; exact absurd (hnd i j _ _ _ e1 e2) hij
       | true =>
        obtain ⟨c, hc⟩ := ecells y (List.mem_of_getElem? e2)
        simp only [hc] at e'; cases e'
      | true =>
       obtain ⟨cx, hcx'⟩ := ecells x (List.mem_of_getElem? e1)
       cases d with
       | false => simp only [hcx'] at e'; cases e'
       | true =>
        obtain ⟨cy, hcy⟩ := ecells y (List.mem_of_getElem? e2)
        simp only [hcx', hcy] at e'
        cases e'
        have hxy := name_of_addr C.apart (mem_of_lookup hcx') (mem_of_lookup hcy)
        subst hxy
        exact absurd (hnd i j _ _ _ e1 e2) hij
   has := by
    obtain ⟨x, hx⟩ := ok.has
    obtain ⟨i, hi⟩ := List.getElem?_of_mem hx
    exact ⟨i, x, by show F.vl env.locals env.cells i = _; unfold FI.vl; rw [hi]⟩
   gens := I.gens
   os := I.os
   tk := Nat.le_trans I.tk htk }
  have hE1 : EOk F.vis G g1.vl env := {
   kind := escope
   globals := eglob
   builtins := ebi
   nm := fun x i hx => by
    obtain ⟨⟨⟨x', c⟩, i'⟩, hz, he⟩ := List.mem_map.mp hx
    obtain ⟨e1, e2⟩ := Prod.mk.inj he
    dsimp only at e1 e2
    rw [e1, e2] at hz
    have hi : F.nm[i]? = some (x, c) := by simpa using List.mem_zipIdx_iff_getElem?.mp hz
    have hmem := List.mem_of_getElem? hi
    have hk := ok.nm x c hmem
    show (_ /\ F.vl env.locals env.cells i = _) ∨ (_ /\ ∃ c, _ /\ F.vl env.locals env.cells i = _)
    cases c with
    | false => exact .inl ⟨(ek x).trans hk, by unfold FI.vl; rw [hi]⟩
    | true =>
     have hk := ecells x hmem; obtain ⟨c, hc⟩ := hk
     exact .inr ⟨.inl ((ek x).trans hk), c, hc, by unfold FI.vl; rw [hi]; simp only [hc]⟩
   gl := fun x hx => (ek x).trans (ok.gl x hx)
   lc := fun x hx => by
    obtain ⟨⟨y, c⟩, hm, he⟩ := List.mem_filterMap.mp hx
    cases c with
    | false => cases he; exact (ek _).trans (ok.nm _ false hm)
    | true => cases he
   cc := fun x hx => by
    obtain ⟨⟨y, c⟩, hm, he⟩ := List.mem_filterMap.mp hx
    cases c with
    | false => cases he
    | true => cases he; exact (ek _).trans (ok.nm _ true hm)
   cp := fun x hx => by
    obtain ⟨⟨y, c⟩, hm, he⟩ := List.mem_filterMap.mp hx
    cases c with
    | false => cases he
    | true => cases he; exact .inl ((ek _).trans (ok.nm _ true hm))
   fs := fun i hi => by
    obtain ⟨j, _, rfl⟩ := List.mem_map.mp hi
    show F.vl env.locals env.cells _ = .no
    unfold FI.vl
    rw [List.getElem?_eq_none (by omega)]
   cx := hcxe }
  refine hm G K' g1 ⟨F.init args, σ.st⟩ ⟨sl'', st' ++ extra⟩ fl (A.deeper env) env _ _ _ gok (hA.deeper (K' := K') env (by rw [escope]; decide) efr hdL (.inr ⟨hoL, iL, hiL⟩) fun _ _ z => .inl z) (let ⟨l, q, _⟩ := hA.frames; ⟨l, Around.frames_deeper q⟩) hE1 I1 hrun fun g2 fl' s2 le2 I2 rfl' => ?_
  have hK2 : ∀ b o, s.heap.get? b = some o -> (∃ i, (g.vl i).addr = some b) -> K'.f b o := fun b o e x => .inr ⟨e, x⟩
  have hpriv : ∀ i b, (g.vl i).addr = some b -> ∃ o, s.heap.get? b = some o /\ K'.f b o := fun i b e => let ⟨o, ho⟩ := Yb.exists_of I e; ⟨o, ho, hK2 b o ho ⟨i, e⟩⟩
  have hρl : ∀ (n : Nat) (b : Addr), g.ρ[n]? = some b -> n < st'.length := fun n b e => by
   rw [hst, <- I.len]; exact (List.getElem?_eq_some_iff.mp e).1
  let g3 : Gh := { B := g2.B, ρ := g2.ρ.take st'.length, vl := g.vl }
  have h3 : ∀ (n : Nat) (b : Addr), g3.ρ[n]? = some b ↔ (n < st'.length /\ g2.ρ[n]? = some b) := fun n b => by
   show (g2.ρ.take st'.length)[n]? = some b ↔ _
   rw [List.getElem?_take]
   split
   ·rename_i hlt; exact ⟨fun e => ⟨hlt, e⟩, fun e => e.2⟩
   ·rename_i hlt; exact Iff.intro (fun e => by cases e) (fun e => absurd e.1 hlt)
  have le3 : g.le g3 := ⟨le2.B, fun n b e => (h3 n b).mpr ⟨hρl n b e, le2.ρ n b e⟩, rfl⟩
  have hlenρ : st'.length <= g2.ρ.length := by rw [I2.len]; simp
  have hsame : ∀ (n : Nat) (b : Addr), g3.ρ[n]? = some b -> g.ρ[n]? = some b := fun n b e => by
   obtain ⟨h1, h2⟩ := (h3 n b).mp e
   have hn : n < g.ρ.length := by rw [I.len, <- hst]; exact h1
   have := le2.ρ n _ (List.getElem?_eq_getElem hn)
   rw [h2] at this; cases this
   exact List.getElem?_eq_getElem hn
  have hall : extra = [] -> ∀ (n : Nat) (b : Addr), g2.ρ[n]? = some b -> g3.ρ[n]? = some b := fun hx n b e => by
   refine (h3 n b).mpr ⟨?_, e⟩
   have := (List.getElem?_eq_some_iff.mp e).1
   rw [I2.len] at this
   simpa [hx] using this
  have reRV : ∀ (x : AV) (w : Value), x.lower st'.length = true ∨ extra = [] -> g2.rv x w -> g3.rv x w := fun x w hx r => hx.elim (fun hx => RV.reloc (fun k a hk e => (h3 k a).mpr ⟨hk, e⟩) x w hx r) fun hx => RV.mono (fun _ _ x => x) (hall hx) x w r
  have I3 : Wf G K g3 { σ with st := st' } s2 := {
   hB := I2.hB
   hK := fun b o e => I2.hK b o (.inl e)
   base := I2.base
   tab := I2.tab
   dB := fun b o e => ⟨fun n hn => by
     obtain ⟨h1, h2⟩ := (h3 n b).mp hn
     have := (I2.dB b o e).1 n h2
     have h4 : (st' ++ extra)[n]? = some AE.dead := this
     rwa [List.getElem?_append_left h1] at h4, fun i hi => by
     obtain ⟨o', _, hk⟩ := hpriv i b hi
     exact I2.dBK b o o' e hk, (I2.dB b o e).2.2⟩
   dK := fun b o e => ⟨fun n hn => (I2.dK b o (.inl e)).1 n ((h3 n b).mp hn).2, (I.dK b o e).2.1, (I.dK b o e).2.2⟩
   dBK := fun b o o' x k => I2.dBK b o o' x (.inl k)
   dP := ⟨fun n hn => I2.dP.1 n ((h3 n _).mp hn).2, I.dP.2⟩
   dv := fun n i b hn hi => by
    obtain ⟨o', _, hk⟩ := hpriv i b hi
    exact (I2.dK b o' hk).1 n ((h3 n b).mp hn).2
   len := by show (g2.ρ.take st'.length).length = st'.length; rw [List.length_take]; omega
   nodup := fun n k b e1 e2 => I2.nodup n k b ((h3 n b).mp e1).2 ((h3 k b).mp e2).2
   st := fun n e b e1 e2 => by
    have hk := (h3 n b).mp e2; obtain ⟨h1, h2⟩ := hk
    have e1' : st'[n]? = some e := e1
    have k2 := I2.st n e b (by show (st' ++ extra)[n]? = some e; rw [List.getElem?_append_left h1]; exact e1') h2
    rcases hx with hx | ⟨hx, hst2⟩
    ·exact k2.mono (fun _ _ x => x) (hall hx) fun o h => h
    ·cases e with
     | dead => exact k2
     | dct kvs => exact k2
     | obj => exact k2
     | lst xs =>
      obtain ⟨vs, ep, ho, hr2⟩ := k2
      have hb := hsame n b e2
      obtain ⟨vs0, _, _, hr0⟩ := I.st n (.lst xs) b (by rw [<- hst2]; exact e1') hb
      have q := RVs.trunc le2.ρ xs vs0 vs hr0 hr2
      exact ⟨vs, ep, ho, RVs.mono (fun _ _ x => x) le3.ρ xs vs q⟩
   fr := fun i => (I.fr i).monoS le2.B le3.ρ fun b hb o ho => by
    have hk := hK2 b o ho ⟨i, hb⟩
    exact (I2.hK b o hk).up
   inj := I.inj
   has := I.has
   gens := I2.gens
   os := I2.os
   tk := I2.tk }
  have hnl : v.lower st'.length = true ∨ extra = [] := hx.elim .inr fun x => .inl x.1
  cases fl with
  | next => cases hret; cases rfl'; exact hQ g3 _ s2 le3 I3 (zby.mpr rfl)
  | ret w =>
   cases hret
   obtain ⟨w', rfl, hw⟩ := rfl'
   exact hQ g3 _ s2 le3 I3 (reRV _ _ hnl hw)
  | brk => cases hret
  | cont => cases hret
section
variable {V : Vis} {h : Nat}
noncomputable def ye (φ : List AV -> List AE -> Option (AV × List AE)) (m : PM (List AV)) : PM AV := PM.bd m fun xs => fun σ => match φ xs σ.st with
 | some (v, st') => some (v, { σ with st := st' })
 | Option.none => Option.none
noncomputable def fnIx : List Nat := [2,3,4,5,6,9,14,15,17,19,20,21,22,23,24,25,26,27,28,29,30,31,32]
theorem zS {f : Str} {i h' : Nat} {p pos : Pos} {e : Expr} {es : List Expr} {φ : List AV -> List AE -> Option (AV × List AE)} {m : PM (List AV)} (hf : f ∈ V.gl) (hi : i ∈ fnIx) (hn : (defAt i).name = f) (hd : (f == ("__debug__" : Str)) = false)
  (hfn : FN h' f φ) (hh : h' <= h) (hargs : SEs V h (e :: es) m) (hp : ∀ env, starEach (e :: es) env = (false, eval e env) :: starEach es env := by exact fun _ => rfl) : SE V h (.Call (.Name f p) (e :: es) [] pos) (ye φ m) := by
 intro G K g σ σ' b A env s Q E ok hA hE I hm hQ
 obtain ⟨xs, σ₁, e1, e2⟩ := PM.bd_some hm
 obtain ⟨a, o, pm, cd, doc, k1, k2, k3, k4⟩ := ok.fn i hi
 rw [hn] at k1
 have haP : a ≠ G.P := fun e => by have hp := ok.pobj; rw [e, hp] at k2; cases k2; cases k3
 refine wpAny_Call_NameR (Name_function_global hE.kind (hE.gl f hf) (loadGlobal_global (by rw [hE.globals]; exact ok.glob I) k1 (callWith_def (o := o) k3 (hargs pos G K g σ σ₁ xs A env s _ E ok hA hE I e1 fun g1 va s1 l1 I1 r1 => ⟨I1.hB _ _ (I1.base _ _ k2 haP), ?_⟩) (hp env))) hd)
 split at e2
 ·rename_i v st' e3
  cases e2
  exact hfn G K g1 σ₁ st' xs va _ a A s1 Q E ok (hA.le hh) I1 r1 e3 k1 fun g2 v' s2 l2 I2 r2 => hQ g2 v' s2 (l1.trans l2) I2 r2
 ·cases e2
noncomputable def OpN (h : Nat) (t : List Value -> Sem Value) (φ : St -> List AV -> Option AV) : Prop :=
 ∀ (G : GC) (K : Kx) (g : Gh) (σ : St) (args : List AV) (r : AV) (va : List Value) (A : Around) (s : Shared) (Q : Value -> Shared -> Prop) (E : Value -> Shared -> Prop),
  G.Ok -> AOk h A K -> Wf G K g σ s -> g.rvs args va -> φ σ args = some r ->
  (∀ g' v' s', g.le g' -> Wf G K g' σ s' -> g'.rv r v' -> Q v' s') -> wpAny (model G.prog G.w) A (t va) Q E s
noncomputable def blts : List Str := [Str.ofString "len", Str.ofString "range", Str.ofString "list", Str.ofString "sum", Str.ofString "max", Str.ofString "sorted", Str.ofString "zip", Str.ofString "dict", Str.ofString "chr", Str.ofString "int",
  Str.ofString "object", Str.ofString "reversed", Str.ofString "IndexError"]
theorem YN {f : Str} {p : Pos} {bv : Value} {G : GC} {K : Kx} {g : Gh} {σ : St} {s : Shared} {A : Around} {env : Env} {Q : Value -> Shared -> Prop} {E : Value -> Shared -> Prop} (ok : G.Ok) (hE : EOk V G g.vl env) (I : Wf G K g σ s)
  (hf : f ∈ V.gl) (hb : f ∈ blts) (hv : bootBuiltins f = some bv) (hd : (f == ("__debug__" : Str)) = false) (hn : f ≠ "__name__") (hQ : Q bv s) : wpAny (model G.prog G.w) A (eval (.Name f p) env) Q E s :=
 Name_function_global hE.kind (hE.gl f hf) (loadGlobal_builtin (by rw [hE.globals]; exact ok.glob I) (ok.none f hb) (by rw [hE.builtins]; exact ok.blt I) ((ok.boot f hn).trans hv) hQ) hd
noncomputable def yL (φ : St -> List AV -> Option AV) (m : PM (List AV)) : PM AV := PM.bd m fun xs => PM.of fun σ => φ σ xs
theorem yg {f : Str} {id : String} {p pos : Pos} {e : Expr} {es : List Expr} {φ : St -> List AV -> Option AV} {m : PM (List AV)} (hf : f ∈ V.gl) (hb : f ∈ blts) (hv : bootBuiltins f = some (.builtin id)) (hd : (f == ("__debug__" : Str)) = false) (hn : f ≠ "__name__")
  (hop : OpN h (fun va => call (.builtin id) va) φ) (hargs : SEs V h (e :: es) m) (hp : ∀ env, starEach (e :: es) env = (false, eval e env) :: starEach es env := by exact fun _ => rfl) (hq : ∀ env pos, (backTo pos (starEach es env)).any (·.1) = false := by exact fun _ _ => rfl) :
  SE V h (.Call (.Name f p) (e :: es) [] pos) (yL φ m) := by
 intro G K g σ σ' b A env s Q E ok hA hE I hm hQ
 obtain ⟨xs, σ₁, e1, e2⟩ := PM.bd_some hm
 obtain ⟨e2, rfl⟩ := PM.of_some e2
 exact wpAny_Call_NameR (YN ok hE I hf hb hv hd hn (PyProof.Rows.callWith_builtin1 (hargs pos G K g σ _ xs A env s _ E ok hA hE I e1 fun g1 va s1 l1 I1 r1 =>
  hop G K g1 _ xs b va A s1 Q E ok hA I1 r1 e2 fun g2 v' s2 l2 I2 r2 => hQ g2 v' s2 (l1.trans l2) I2 r2) (hp env) (hq env pos)))
noncomputable def yn (σ : St) : List AV -> Option AV
 | [.str l] => if l.length <= 100000 then some (.int l.length) else Option.none
 | [a] => (asL σ a).bind fun xs => if xs.length <= 100000 then some (.int xs.length) else Option.none
 | _ => Option.none
theorem Zo : OpN h (fun va => call (.builtin "len") va) yn := by
 intro G K g σ args r va A s Q E ok hA I ra hf hQ
 have lists : ∀ a v, ((asL σ a).bind fun xs => if xs.length <= 100000 then some (AV.int xs.length) else Option.none) = some r -> g.rv a v -> wpAny (model G.prog G.w) A (call (.builtin "len") [v]) Q E s := by
  intro a v hf ra
  obtain ⟨xs, e, hf⟩ := bS hf
  obtain ⟨hl, hf⟩ := iS hf
  cases hf
  obtain ⟨l, vs, n, rfl, ho, hr⟩ := I.isL ra e
  have hlen := hr.length
  refine PyProof.Rows.len_list (zy ho) (by simp; omega) (hQ g _ _ g.le_refl (I.tok _) ?_)
  exact zw.mpr ⟨_, by simp [hlen]; rfl⟩
 match args, ra, hf with
 | [], _, hf => cases hf
 | [a], ra, hf =>
  obtain ⟨v, vs', rfl, h1, h2⟩ := RVs.head ra
  have : vs' = [] := h2
  subst this
  cases a with
  | str l =>
   obtain ⟨hl, hf⟩ := iS hf
   cases hf
   obtain ⟨t, rfl⟩ := zX.mp h1
   have el : (Str.mk l.toArray).length = l.length := by show l.toArray.size = _; simp
   exact P.len_str (by rw [el]; omega) (hQ g _ _ g.le_refl (I.tok _) (zw.mpr ⟨_, by rw [el]⟩))
  | _ => exact lists _ _ (by exact hf) h1
 | a :: b :: c, _, hf => cases a <;> cases hf
theorem zam {test : Expr} {msg : Option Expr} {pos : Pos} {c : PM Bool} (hc : ST V h test c) : SS V h (.Assert test msg pos) (PM.bd c fun b => match b with | true => PM.ok .next | false => fun _ => Option.none) := by
 intro G K g σ σ' r A env s Q E ok hA hE I hm hQ
 obtain ⟨b, σ₁, e1, e2⟩ := PM.bd_some hm
 refine wpAny_Assert_holds (hc G K g σ σ₁ b A env s _ E ok hA hE I e1 fun g' a' s' hle I' hr => ?_)
 subst hr
 cases a' with
 | true => cases e2; exact ⟨rfl, hQ g' _ s' hle I' rfl⟩
 | false => cases e2
set_option maxRecDepth 100000 in
theorem setItem_ok {G : GC} {K : Kx} {g : Gh} {σ : St} {s : Shared} {A : Around} {E : Value -> Shared -> Prop} {Q : Unit -> Shared -> Prop} (I : Wf G K g σ s) {n : Nat} {xs : List AV} {x : AV} {v ov : Value} {k : Int} {t : Tok}
  (r : g.rv (.loc n) ov) (h0 : σ.st[n]? = some (.lst xs)) (rx : g.rv x v) (hk : 0 <= k) (hk2 : k < xs.length) (hsz : xs.length <= 100000)
  (hQ : ∀ s', Wf G K g { σ with st := σ.st.set n (.lst (xs.set k.toNat x)) } s' -> Q () s') : wpAny (model G.prog G.w) A (setItem ov (.int k t) v) Q E s := by
 obtain ⟨l, rfl, hl⟩ := ZD.mp r
 have hk106 := I.st n _ l h0 hl; obtain ⟨vs, ep, ho, hr⟩ := hk106
 have hlen := hr.length
 have hil := zy ho
 have hfit : Builtin.List.listFitsIndex k = true := PySem.fitsIndex_of hk (by omega)
 unfold setItem
 try with_reducible refine wpAny_holding ?_
 first | refine wpAny_bind (wpAny_pure ?_) | skip
 refine wpAny_bind (wpAny_sequenceKey hil.typeIs (by decide) ?_)
 refine wpAny_bind (wpAny_callSpecial?_slot (name := Str.ofString "__setitem__") hil.typeIs PySem.slot_list_setitem
  (wpAny_call_entry PySem.slot_list_setitem hil.typeIs PySem.entry_list_setitem ?_ (PySem.args_list_setitem _ _ _)))
 show wpAny _ _ (Builtin.List.listSubscript? (.int k t) >>= _) _ _ s
 refine wpAny_bind (wpAny_listSubscript_int hfit ?_)
 clear hfit
 obtain ⟨j, rfl⟩ := Int.eq_ofNat_of_zero_le hk
 have hj : j < vs.length := by omega
 show wpAny _ _ ((seqItemAt l j >>= fun r => pure (r.map (j, ·))) >>= _) _ _ s
 refine wpAny_bind (wpAny_bind (wpAny_seqItemAt ho rfl (wpAny_pure ?_)))
 rw [show vs.toArray[j]? = some vs[j] by simp [hj]]
 show wpAny _ _ (setSeqItemAt l j v >>= _) _ _ s
 have hnew : (s.heap.update l (Obj.mapSeq (·.setIfInBounds j v))).get? l = some (zM (vs.set j v) ep) := by
  have e : Obj.mapSeq (·.setIfInBounds j v) (zM vs ep) = zM (vs.set j v) ep := by simp [Obj.mapSeq, zM]
  rw [<- e]
  exact Heap.get?_update_self _ ho (by rw [e]; rfl)
 have hfin := hQ { s with heap := s.heap.update l (Obj.mapSeq (·.setIfInBounds j v)) } (I.updEnt s.toks hl h0 (by intro h; cases h) (Heap.SameBut.update ..) ⟨_, _, hnew, hr.set rx⟩)
 refine wpAny_bind (wpAny_setSeqItemAt ho rfl ?_)
 first
  | exact wpAny_bind (wpAny_pure (wpAny_pure ⟨.none, rfl, wpAny_pure hfin⟩))
  | exact wpAny_pure ⟨.none, rfl, wpAny_pure hfin⟩
noncomputable def setM (mo mi mv : PM AV) : PM FL := PM.bd mv fun v => PM.bd mo fun o => PM.bd mi fun i => fun σ => match o, i with
 | .loc n, .int k => (match σ.st[n]? with
  | some (.lst xs) => if 0 <= k /\ k < xs.length /\ xs.length <= 100000 then some (.next, { σ with st := σ.st.set n (.lst (xs.set k.toNat v)) }) else Option.none
  | _ => Option.none)
 | _, _ => Option.none
theorem zbg {o i value : Expr} {p pos : Pos} {mo mi mv : PM AV} (ho : SE V h o mo) (hi : SE V h i mi) (hv : SE V h value mv) (hs : ∀ env, swapsWith value (some (.Subscript o i p)) pos.line env = pure false) :
  SS V h (.Assign [.Subscript o i p] value pos) (setM mo mi mv) := by
 intro G K g σ σ' r A env s Q E ok hA hE I hm hQ
 obtain ⟨v, σ₁, e1, e2⟩ := PM.bd_some hm
 obtain ⟨ov, σ₂, e2, e3⟩ := PM.bd_some e2
 obtain ⟨iv, σ₃, e3, e4⟩ := PM.bd_some e3
 refine wpAny_Assign_Subscript (hv G K g σ σ₁ v A env s _ E ok hA hE I e1 fun g1 a s1 l1 I1 r1 => ho G K g1 σ₁ σ₂ ov A env s1 _ E ok hA (hE.le l1) I1 e2 fun g2 b s2 l2 I2 r2 =>
  hi G K g2 σ₂ σ₃ iv A env s2 _ E ok hA (hE.le (l1.trans l2)) I2 e3 fun g3 c s3 l3 I3 r3 => ?_) (hs env)
 cases ov with
 | loc n =>
  cases iv with
  | int k =>
   dsimp only at e4
   split at e4
   ·rename_i xs h0
    obtain ⟨hc, e4⟩ := iS e4
    cases e4
    obtain ⟨t, rfl⟩ := zw.mp r3
    exact setItem_ok I3 (Gh.rv_le l3 r2) h0 (Gh.rv_le (l2.trans l3) r1) hc.1 hc.2.1 hc.2.2 fun s' I' => hQ g3 _ s' ((l1.trans l2).trans l3) I' rfl
   ·cases e4
  | _ => cases e4
 | _ => cases e4
noncomputable def zA (c : PM Bool) (b : PM FL) : Nat -> PM FL
 | 0 => fun _ => Option.none
 | n + 1 => PM.bd c fun x => match x with
  | false => PM.ok .next
  | true => PM.bd b fun f => match f with
   | .next => zA c b n
   | .cont => zA c b n
   | .brk => PM.ok .next
   | .ret v => PM.ok (.ret v)
inductive WhInv {β : Type} (G : GC) (K : Kx) (g : Gh) (f : Nat -> PM β) (σ' : St) (r : β) (k : Nat) (s' : Shared) : Prop
 | mk (g' : Gh) (σ₁ : St) (h1 : g.le g') (h2 : Wf G K g' σ₁ s') (h3 : f k σ₁ = some (r, σ'))
theorem yQ {test : Expr} {body : List Stmt} {pos : Pos} {c : PM Bool} {b : PM FL} (hc : ST V h test c) (hb : SB V h body b) (n : Nat) : SS V h (.While test body [] pos) (zA c b n) := by
 intro G K g σ σ' r A env s Q E ok hA hE I hm hQ
 refine wpAny_While ?_
 refine codeAny_whileLoop (WhInv G K g (zA c b) σ' r) ?_ n ⟨g, σ, g.le_refl, I, hm⟩
 rintro k s' ⟨g', σ₁, hle, I', hk⟩
 cases k with
 | zero => cases hk
 | succ k =>
  obtain ⟨x, σ₂, e1, e2⟩ := PM.bd_some hk
  refine hc G K g' σ₁ σ₂ x A env s' _ _ ok hA (hE.le hle) I' e1 fun g2 a s2 l2 I2 r2 => ?_
  subst r2
  cases a with
  | false =>
   cases e2
   exact wpAny_execs_nil (hQ g2 _ s2 (hle.trans l2) I2 rfl)
  | true =>
   obtain ⟨f, σ₃, e2, e3⟩ := PM.bd_some e2
   refine hb G K g2 σ₂ σ₃ f A env s2 _ _ ok hA (hE.le (hle.trans l2)) I2 e2 fun g3 fl s3 l3 I3 r3 => ?_
   cases f with
   | next => cases r3; exact ⟨k, Nat.lt_succ_self k, g3, σ₃, (hle.trans l2).trans l3, I3, e3⟩
   | cont => cases r3; exact ⟨k, Nat.lt_succ_self k, g3, σ₃, (hle.trans l2).trans l3, I3, e3⟩
   | brk => cases r3; cases e3; exact hQ g3 _ s3 ((hle.trans l2).trans l3) I3 rfl
   | ret v => obtain ⟨v', rfl, hv⟩ := r3; cases e3; exact hQ g3 _ s3 ((hle.trans l2).trans l3) I3 ⟨v', rfl, hv⟩
noncomputable def St.puts : St -> List (Nat × AV) -> St
 | σ, [] => σ
 | σ, (i, v) :: r => St.puts (σ.put i (some v)) r
end
section
variable {V : Vis} {h : Nat}
inductive yz (V : Vis) : List Expr -> List Nat -> Prop
 | nil : yz V [] []
 | cons {x : Str} {i : Nat} {p : Pos} {es : List Expr} {is : List Nat} : (x, i) ∈ V.nm -> yz V es is -> yz V (.Name x p :: es) (i :: is)
inductive Nms (V : Vis) : List Str -> List Nat -> Prop
 | nil : Nms V [] []
 | cons {x : Str} {i : Nat} {es : List Str} {is : List Nat} : (x, i) ∈ V.nm -> Nms V es is -> Nms V (x :: es) (i :: is)
theorem yz.len {V : Vis} {env : Env} : ∀ {es : List Expr} {is : List Nat}, yz V es is -> (assignEach es env).length = is.length := by
 intro es is T
 induction T with
 | nil => rfl
 | cons _ _ ih => exact congrArg Nat.succ ih
theorem yz.star {V : Vis} {env : Env} : ∀ {es : List Expr} {is : List Nat}, yz V es is -> ∀ x ∈ assignEach es env, x.1 = false
 | _, _, .nil => fun x hx => absurd hx List.not_mem_nil
 | _, _, .cons _ t => fun x hx => by
  have : x ∈ (false, assign _ env) :: assignEach _ env := hx
  rcases List.mem_cons.mp this with rfl | h
  ·rfl
  ·exact t.star x h
theorem assign_ok {G : GC} {K : Kx} {A : Around} {E : Value -> Shared -> Prop} {env : Env} : ∀ {es : List Expr} {is : List Nat}, yz V es is -> ∀ {xs : List AV} {vs : List Value} {g : Gh} {σ : St} {s : Shared} {Q : Unit -> Shared -> Prop}, g.rvs xs vs -> xs.length = is.length ->
  EOk V G g.vl env -> Wf G K g σ s -> (∀ s', Wf G K g (σ.puts (is.zip xs)) s' -> Q () s') -> wpAny (model G.prog G.w) A (assignInOrder ((assignEach es env).map (·.2)) vs) Q E s := by
 intro es is T
 induction T with
 | nil =>
  intro xs vs g σ s Q hr hl hE I hQ
  obtain rfl : xs = [] := List.eq_nil_of_length_eq_zero hl
  obtain rfl : vs = [] := hr
  exact wpAny_pure (hQ s I)
 | cons hx t ih =>
  intro xs vs g σ s Q hr hl hE I hQ
  cases xs with
  | nil => cases hl
  | cons y ys =>
   obtain ⟨v, vs', rfl, h1, h2⟩ := RVs.head hr
   exact wpAny_assignInOrder_more (assign_Name (XW hx hE I h1 fun s' I' => ih h2 (Nat.succ.inj hl) hE I' hQ))
theorem bind_ok {G : GC} {K : Kx} {A : Around} {E : Value -> Shared -> Prop} {env : Env} : ∀ {es : List Str} {is : List Nat}, Nms V es is -> ∀ {xs : List AV} {vs : List Value} {g : Gh} {σ : St} {s : Shared} {Q : Unit -> Shared -> Prop}, g.rvs xs vs -> xs.length = is.length ->
  EOk V G g.vl env -> Wf G K g σ s -> (∀ s', Wf G K g (σ.puts (is.zip xs)) s' -> Q () s') -> wpAny (model G.prog G.w) A (assignInOrder (es.map fun n => bindName env n) vs) Q E s := by
 intro es is T
 induction T with
 | nil =>
  intro xs vs g σ s Q hr hl hE I hQ
  obtain rfl : xs = [] := List.eq_nil_of_length_eq_zero hl
  obtain rfl : vs = [] := hr
  exact wpAny_pure (hQ s I)
 | cons hx t ih =>
  intro xs vs g σ s Q hr hl hE I hQ
  cases xs with
  | nil => cases hl
  | cons y ys =>
   obtain ⟨v, vs', rfl, h1, h2⟩ := RVs.head hr
   exact wpAny_assignInOrder_more (wpAny_bindName (XW hx hE I h1 fun s' I' => ih h2 (Nat.succ.inj hl) hE I' hQ))
theorem RVs.reverse {B : Fz} {ρ : List Addr} : ∀ {xs : List AV} {vs : List Value}, RVs B ρ xs vs -> RVs B ρ xs.reverse vs.reverse
 | [], vs, h => by obtain rfl := h; exact RVs.nil
 | x :: xs, vs, h => by
  obtain ⟨v, vs', rfl, h1, h2⟩ := h.head
  simp only [List.reverse_cons]
  exact (RVs.reverse h2).append (.one h1)
noncomputable def unpF (σ : St) : AV -> Option (List AV)
 | .tup xs => some xs
 | a => asL σ a
theorem unpack_ok {G : GC} {K : Kx} {g : Gh} {σ : St} {s : Shared} {A : Around} {E : Value -> Shared -> Prop} {Q : List Value -> Shared -> Prop} (hh : A.handled = .none) (I : Wf G K g σ s) {a : AV} {v : Value} {xs : List AV} {n : Nat} (ra : g.rv a v) (hx : unpF σ a = some xs)
  (hn : n = xs.length) (hQ : ∀ vs s', Wf G K g σ s' -> g.rvs xs vs -> Q vs s') : wpAny (model G.prog G.w) A (unpackItems v n Option.none) Q E s := by
 have keep : ∀ h', Heap.ExtBut s.heap.objs.size s.heap h' -> Wf G K g σ { s with heap := h' } := fun h' hx => I.keep s.toks fun b o e => hx b o (Nat.ne_of_lt (Heap.lt_size e)) e
 have lists : ∀ a, asL σ a = some xs -> g.rv a v -> wpAny (model G.prog G.w) A (unpackItems v n Option.none) Q E s := by
  intro a hx ra
  obtain ⟨l, vs, ep, rfl, ho, hr⟩ := I.isL ra hx
  have e : n = vs.toArray.size := by rw [hn, List.size_toArray, hr.length]
  rw [e]
  exact kun_itemsOf hh (zy ho) fun h' he => hQ vs _ (keep h' he) hr
 cases a with
 | tup ys =>
  cases hx
  obtain ⟨l, vs, ep, rfl, hb, hr⟩ := rv_tup.mp ra
  have e : n = vs.toArray.size := by rw [hn, List.size_toArray, hr.length]
  rw [e]
  exact wpAny_unpackItems_tuple hh (isTup_of (I.hB _ _ hb)) fun h' he => hQ vs _ (keep h' he) hr
 | _ => exact lists _ (by exact hx) ra
noncomputable def unpM (m : PM AV) (is : List Nat) : PM FL := PM.bd m fun a => fun σ => match unpF σ a with
 | some xs => if xs.length = is.length then some (.next, σ.puts (is.zip xs)) else Option.none
 | Option.none => Option.none
noncomputable def unpMs (m : PM AV) (is : List Nat) : PM FL := PM.bd m fun a => fun σ => match unpF σ a with
 | some xs => if xs.length = is.length then some (.next, σ.puts (is.reverse.zip xs.reverse)) else Option.none
 | Option.none => Option.none
theorem assignT_ok {G : GC} {K : Kx} {g : Gh} {σ : St} {s : Shared} {A : Around} {E : Value -> Shared -> Prop} {Q : Unit -> Shared -> Prop} {env : Env} {elts : List Expr} {is : List Nat} {k : Nat} {pos : Pos} (hh : A.handled = .none) (I : Wf G K g σ s) (hE : EOk V G g.vl env)
  {a : AV} {v : Value} {xs : List AV} (ra : g.rv a v) (hx : unpF σ a = some xs) (t : yz V elts is) (hl : xs.length = is.length) (hQ : ∀ s', Wf G K g (σ.puts (is.zip xs)) s' -> Q () s') :
  wpAny (model G.prog G.w) A (assign (.Tuple elts k pos) env v) Q E s := by
 rw [arm_assign_Tuple]
 refine wpAny_bind (wpAny_standAt ?_)
 unfold unpack
 have hst : (assignEach elts env).findIdx? (·.1) = Option.none := by
  rw [List.findIdx?_eq_none_iff]
  exact t.star
 rw [hst]
 refine wpAny_bind (wpAny_holding (unpack_ok hh I ra hx (by rw [t.len, hl]) fun vs s' I' r' => ?_))
 exact assign_ok t r' hl hE I' hQ
theorem Yu {elts : List Expr} {is : List Nat} {k : Nat} {tpos pos : Pos} {value : Expr} {m : PM AV} (hv : SE V h value m) (t : yz V elts is)
  (hs : ∀ env, swapsWithSole [.Tuple elts k tpos] value pos.line env = pure false) (hw : ∀ env G vl, EOk V G vl env -> swappedStores [.Tuple elts k tpos] value env = pure Option.none) (h1 : 0 < h := by decide) :
  SS V h (.Assign [.Tuple elts k tpos] value pos) (unpM m is) := by
 intro G K g σ σ' r A env s Q E ok hA hE I hm hQ
 obtain ⟨a, σ₁, e1, e2⟩ := PM.bd_some hm
 split at e2
 ·rename_i xs e3
  obtain ⟨hl, e2⟩ := iS e2
  cases e2
  exact Assign_Tuple (hv G K g σ σ₁ a A env s _ E ok hA hE I e1 fun g1 v s1 l1 I1 r1 => assignT_ok (hA.handled h1) I1 (hE.le l1) r1 e3 t hl fun s' I' => hQ g1 _ s' l1 I' rfl) (hs env) (hw env G g.vl hE)
 ·cases e2
theorem Zu {elts : List Expr} {is : List Nat} {k : Nat} {tpos pos : Pos} {value : Expr} {m : PM AV} {names : List Str} (hv : SE V h value m) (t : Nms V names is)
  (hs : ∀ env, swapsWithSole [.Tuple elts k tpos] value pos.line env = pure false) (hw : ∀ env G vl, EOk V G vl env -> swappedStores [.Tuple elts k tpos] value env = pure (some names)) (h1 : 0 < h := by decide) :
  SS V h (.Assign [.Tuple elts k tpos] value pos) (unpMs m is) := by
 intro G K g σ σ' r A env s Q E ok hA hE I hm hQ
 obtain ⟨a, σ₁, e1, e2⟩ := PM.bd_some hm
 have hnl : ∀ {names : List Str} {is : List Nat}, Nms V names is -> names.length = is.length := fun t => by
  induction t with
  | nil => rfl
  | cons _ _ ih => simp [ih]
 have hrev : ∀ {names : List Str} {is : List Nat}, Nms V names is -> ∀ {n2 : List Str} {i2 : List Nat}, Nms V n2 i2 -> Nms V (names.reverse ++ n2) (is.reverse ++ i2) := fun t => by
  induction t with
  | nil => intro n2 i2 t2; simpa using t2
  | cons hx _ ih => intro n2 i2 t2; simpa using ih (.cons hx t2)
 split at e2
 ·rename_i xs e3
  obtain ⟨hl, e2⟩ := iS e2
  cases e2
  refine Assign_Tuple_swapped (names := names) (hv G K g σ σ₁ a A env s _ E ok hA hE I e1 fun g1 v s1 l1 I1 r1 => unpack_ok (hA.handled h1) I1 r1 e3 (by rw [hnl t, hl]) fun vs s' I' r' => ?_) (hs env) (hw env G g.vl hE)
  exact bind_ok (by simpa using hrev t .nil) r'.reverse (by simp [hl]) (hE.le l1) I' fun s'' I'' => hQ g1 _ s'' l1 I'' rfl
 ·cases e2
end
noncomputable def ZZ (m : PM AV) : PM FL := PM.bd m fun v => PM.ok (.ret v)
noncomputable def yy (m : PM AV) : PM FL := PM.bd m fun v => match v with | .none => PM.ok .next | _ => fun _ => Option.none
noncomputable def zr (i : Nat) (m : PM AV) : PM FL := PM.bd m fun v => PM.bd (putV i v) fun _ => PM.ok .next
noncomputable def zcm (c : PM Bool) : PM FL := PM.bd c fun b => match b with | true => PM.ok .next | false => fun _ => Option.none
noncomputable def QN (m : PM (List AV)) : PM AV := PM.bd m fun xs => PM.of fun _ => if xs.length <= 1000 then some (.lst xs) else Option.none
noncomputable def Zc (m : PM (List AV)) : PM AV := PM.bd m fun xs => fun σ => if xs.length <= 1000 then some (.loc σ.st.length, { σ with st := σ.st ++ [.lst xs] }) else Option.none
noncomputable def YI (m : PM (List AV)) : PM AV := PM.bd m fun xs => PM.of fun _ => if xs.length <= 1000 then some (.tup xs) else Option.none
open Classical in
noncomputable def ZY (F : FI) (m : PM FL) (args : List AV) (st : List AE) : Option (AV × List AE) := match m ⟨F.init args, st⟩ with
 | some (fl, σ') => match retOf fl with
  | some v => if args.length = F.ps.length /\ (σ'.st.length = st.length ∨ (v.lower st.length = true /\ ∃ e, σ'.st = st ++ e)) then some (v, σ'.st.take st.length) else Option.none
  | Option.none => Option.none
 | Option.none => Option.none
theorem runF_some {F : FI} {m : PM FL} {args : List AV} {st st' : List AE} {v : AV} (h : ZY F m args st = some (v, st')) : args.length = F.ps.length /\ ∃ fl sl'' extra, m ⟨F.init args, st⟩ = some (fl, ⟨sl'', st' ++ extra⟩) /\ retOf fl = some v /\ st'.length = st.length /\
   (extra = [] ∨ (v.lower st'.length = true /\ st' = st)) := by
 unfold ZY at h
 split at h
 ·rename_i fl σ' e
  split at h
  ·rename_i w e2
   split at h
   ·rename_i hc
    cases h
    obtain ⟨h1, h2⟩ := hc
    refine ⟨h1, fl, σ'.sl, σ'.st.drop st.length, ?_, e2, ?_, ?_⟩
    ·rw [List.take_append_drop]; exact e
    ·rcases h2 with h2 | ⟨_, x, h2⟩
     ·rw [List.length_take]; omega
     ·rw [h2]; simp
    ·rcases h2 with h2 | ⟨h2, x, h3⟩
     ·left; rw [<- h2]; simp
     ·right; exact ⟨by rw [h3]; simpa using h2, by rw [h3]; simp⟩
   ·cases h
  ·cases h
 ·cases h
inductive TgK where
 | one (i : Nat) | many (is : List Nat)
inductive Zt (V : Vis) : Expr -> TgK -> Prop
 | one {x : Str} {i : Nat} {p : Pos} : (x, i) ∈ V.nm -> Zt V (.Name x p) (.one i)
 | many {elts : List Expr} {is : List Nat} {k : Nat} {p : Pos} : yz V elts is -> Zt V (.Tuple elts k p) (.many is)
noncomputable def asgM (k : TgK) (x : AV) (σ : St) : Option St := match k, x with
 | .one i, x => some (σ.put i (some x))
 | .many is, .tup xs => if xs.length = is.length then some (σ.puts (is.zip xs)) else Option.none
 | .many _, _ => Option.none
noncomputable def ItemR (g : Gh) (h : Heap) (k : TgK) (x : AV) (v : Value) : Prop := match k with
 | .one _ => g.rv x v
 | .many _ => ∃ xs T vs, x = .tup xs /\ v = .ref T /\ IsTup h T (List.toArray vs) /\ g.rvs xs vs
theorem ItemR.le {g g' : Gh} {h : Heap} {k : TgK} {x : AV} {v : Value} (le : g.le g') (r : ItemR g h k x v) : ItemR g' h k x v := by
 cases k with
 | one i => exact Gh.rv_le le r
 | many is => obtain ⟨xs, T, vs, e1, e2, e3, e4⟩ := r; exact ⟨xs, T, vs, e1, e2, e3, Gh.rvs_le le e4⟩
structure Trn (prog : Program) (w : World) (A : Around) (target : Expr) (I : Addr) (wr : List Addr) (g : Gh) (k : TgK) (xs : List AV) (St : Nat -> Heap -> Prop) : Prop where
 frame : ∀ i h h', St i h -> (∀ b o, g.B b o -> h'.get? b = some o) -> (∀ b ∈ wr, ∀ o, h.get? b = some o -> h'.get? b = some o) -> St i h'
 own : ∀ i h, St i h -> ∀ b ∈ wr, ∃ o, h.get? b = some o /\ ¬ ZX o
 item : ∀ i x (s : Shared) (Q : Value -> Shared -> Prop) (E : Value -> Shared -> Prop), xs[i]? = some x -> St i s.heap ->
  (∀ v h' tk, ItemR g h' k x v -> St (i + 1) h' -> (∀ b o, b ∉ wr -> s.heap.get? b = some o -> h'.get? b = some o) -> s.toks <= tk -> Q v { s with heap := h', toks := tk }) ->
  wpAny (model prog w) A (pyNext (.ref I)) (fun r s₁ => ∃ v, r = some v /\ wpAny (model prog w) A (letOwnedTupleGo target (.ref I) v) (fun _ s₂ => Q v s₂) E s₁) E s
 done : ∀ (s : Shared) (Q : Option Value -> Shared -> Prop) (E : Value -> Shared -> Prop), St xs.length s.heap ->
  (∀ h' tk, (∀ b o, b ∉ wr -> s.heap.get? b = some o -> h'.get? b = some o) -> s.toks <= tk -> Q Option.none { s with heap := h', toks := tk }) -> wpAny (model prog w) A (pyNext (.ref I)) Q E s
 self : ∀ i (s : Shared) (Q : Value -> Shared -> Prop) (E : Value -> Shared -> Prop), St i s.heap -> Q (.ref I) s -> wpAny (model prog w) A (pyIter (.ref I)) Q E s
structure Off (G : GC) (wr : List Addr) (K : Kx) (g : Gh) : Prop where
 B : ∀ b ∈ wr, ∀ o, ¬ g.B b o
 K : ∀ b ∈ wr, ∀ o, ¬ K.f b o
 ρ : ∀ b ∈ wr, ∀ n : Nat, g.ρ[n]? ≠ some b
 vl : ∀ b ∈ wr, ∀ i, (g.vl i).addr ≠ some b
 P : ∀ b ∈ wr, b ≠ G.P
section
variable {G : GC} {K : Kx} {g : Gh} {σ : St} {s : Shared} {wr : List Addr}
theorem Wf.off (I : Wf G K g σ s) (O : Off G wr K g) {h' : Heap} (tk : Nat) (hk : ∀ b o, b ∉ wr -> s.heap.get? b = some o -> h'.get? b = some o) (htk : s.toks <= tk := by trivial) : Wf G K g σ { s with heap := h', toks := tk } where
 hB := fun b o e => hk b o (fun hb => O.B b hb o e) (I.hB b o e)
 hK := fun b o e => (I.hK b o e).mono fun o2 => hk b o2 (fun hb => O.K b hb o e)
 base := I.base
 tab := let ⟨ps, h1, h2⟩ := I.tab; ⟨ps, h1, hk _ _ (fun hb => O.P _ hb rfl) h2⟩
 dB := I.dB
 dK := I.dK
 dBK := I.dBK
 dP := I.dP
 dv := I.dv
 len := I.len
 nodup := I.nodup
 st := fun n e b h1 h2 => (I.st n e b h1 h2).mono (fun _ _ x => x) (fun _ _ x => x) fun o => hk b o fun hb => O.ρ b hb n h2
 fr := fun i => (I.fr i).mono (fun _ _ x => x) (fun _ _ x => x) fun b e o => hk b o fun hb => O.vl b hb i e
 inj := I.inj
 has := I.has
 gens := I.gens
 os := I.os
 tk := Nat.le_trans I.tk htk
noncomputable def Hold (K : Kx) (wr : List Addr) (h : Heap) : Kx := ⟨fun b o => K.f b o ∨ (b ∈ wr /\ h.get? b = some o), K.L⟩
theorem Wf.hold (I : Wf G K g σ s) (O : Off G wr K g) : Wf G (Hold K wr s.heap) g σ s :=
 I.moreK (fun b o h => ⟨.inl h.2, O.ρ b h.1, O.vl b h.1, O.P b h.1⟩) fun b o o' h k => O.B b k.1 o h
theorem Wf.unhold {h₁ : Heap} (I : Wf G (Hold K wr h₁) g σ s) (ho : ∀ b ∈ wr, ∃ o, h₁.get? b = some o) (hK : ∀ b ∈ wr, ∀ o, ¬ K.f b o) : Wf G K g σ s /\ Off G wr K g /\ ∀ b ∈ wr, ∀ o, h₁.get? b = some o -> KAt s.heap b o := by
 refine ⟨I.lessK (fun b o h => .inl h) rfl, ⟨fun b hb o h => ?_, hK, fun b hb => ?_, fun b hb => ?_, fun b hb => ?_⟩, fun b hb o e => I.hK b o (.inr ⟨hb, e⟩)⟩
 ·have hk69 := ho b hb; obtain ⟨o', e⟩ := hk69; exact I.dBK b o o' h (.inr ⟨hb, e⟩)
 ·have hk70 := ho b hb; obtain ⟨o', e⟩ := hk70; exact (I.dK b o' (.inr ⟨hb, e⟩)).1
 ·have hk71 := ho b hb; obtain ⟨o', e⟩ := hk71; exact (I.dK b o' (.inr ⟨hb, e⟩)).2.1
 ·have hk72 := ho b hb; obtain ⟨o', e⟩ := hk72; exact (I.dK b o' (.inr ⟨hb, e⟩)).2.2
theorem AOk.hold {h : Nat} {A : Around} {h₁ : Heap} (x : AOk h A K) : AOk h A (Hold K wr h₁) := x.more rfl fun _ _ z => .inl z
theorem own_ex {h₁ h₂ : Heap} (ho : ∀ b ∈ wr, ∃ o, h₁.get? b = some o /\ ¬ ZX o) (k : ∀ b ∈ wr, ∀ o, h₁.get? b = some o -> KAt h₂ b o) : ∀ b ∈ wr, ∀ o, h₁.get? b = some o -> h₂.get? b = some o := fun b hb o e => by
 have hk76 := ho b hb; obtain ⟨o', e', n⟩ := hk76
 rw [e] at e'; cases e'
 exact (k b hb o e).ex n
theorem own_has {h₁ : Heap} (ho : ∀ b ∈ wr, ∃ o, h₁.get? b = some o /\ ¬ ZX o) : ∀ b ∈ wr, ∃ o, h₁.get? b = some o := fun b hb => let ⟨o, e, _⟩ := ho b hb; ⟨o, e⟩
theorem Trn.le {prog : Program} {w : World} {A : Around} {target : Expr} {J : Addr} {g' : Gh} {k : TgK} {xs : List AV} {St : Nat -> Heap -> Prop} (T : Trn prog w A target J wr g k xs St) (le : g.le g') : Trn prog w A target J wr g' k xs St where
 frame := fun i h h' x hB => T.frame i h h' x fun b o e => hB b o (le.B b o e)
 own := T.own
 item := fun i x s Q E e st hQ => T.item i x s Q E e st fun v h' tk r => hQ v h' tk (r.le le)
 done := T.done
 self := T.self
end
section
variable {V : Vis} {h : Nat}
theorem tg_ok {target : Expr} {k : TgK} (t : Zt V target k) {G : GC} {K : Kx} {g : Gh} {σ σ' : St} {A : Around} {env : Env} {s : Shared} {Q : Unit -> Shared -> Prop} {E : Value -> Shared -> Prop} {x : AV} {v : Value} (hh : A.handled = .none)
  (hE : EOk V G g.vl env) (I : Wf G K g σ s) (r : ItemR g s.heap k x v) (ha : asgM k x σ = some σ') (hQ : ∀ s', Wf G K g σ' s' -> Q () s') : wpAny (model G.prog G.w) A (assign target env v) Q E s := by
 cases t with
 | one hx =>
  cases ha
  exact assign_Name (XW hx hE I r fun s' I' => hQ s' I')
 | many ts =>
  rename_i elts is kk pp
  obtain ⟨xs, T, vs, rfl, rfl, hT, hr⟩ := r
  obtain ⟨hl, ha⟩ := iS ha
  cases ha
  rw [arm_assign_Tuple]
  refine wpAny_bind (wpAny_standAt ?_)
  unfold unpack
  rw [List.findIdx?_eq_none_iff.mpr ts.star]
  have keep : ∀ h', Heap.ExtBut s.heap.objs.size s.heap h' -> Wf G K g σ { s with heap := h' } := fun h' hx => I.keep s.toks fun b o e => hx b o (Nat.ne_of_lt (Heap.lt_size e)) e
  have e : (assignEach elts env).length = vs.toArray.size := by rw [ts.len, List.size_toArray, hr.length, hl]
  rw [e]
  refine wpAny_bind (wpAny_holding (wpAny_unpackItems_tuple hh hT fun h' he => ?_))
  exact assign_ok ts hr hl hE (keep h' he) hQ
noncomputable def SI (V : Vis) (h : Nat) (target : Expr) (k : TgK) (iter : Expr) (m : PM (List AV)) : Prop :=
 ∀ (G : GC) (K : Kx) (g : Gh) (σ σ' : St) (xs : List AV) (A : Around) (env : Env) (s : Shared) (Q : Value -> Shared -> Prop) (E : Value -> Shared -> Prop),
  G.Ok -> AOk h A K -> EOk V G g.vl env -> Wf G K g σ s -> m σ = some (xs, σ') ->
  (∀ g' I wr St s', g.le g' -> Wf G K g' σ' s' -> Off G wr K g' -> Trn G.prog G.w A target I wr g' k xs St -> St 0 s'.heap -> Q (.ref I) s') ->
  wpAny (model G.prog G.w) A (eval iter env) (fun x s₁ => wpAny (model G.prog G.w) A (pyIter x) Q E s₁) E s
noncomputable def forM (k : TgK) (b : PM FL) : List AV -> PM FL
 | [] => PM.ok .next
 | x :: xs => fun σ => match asgM k x σ with
  | Option.none => Option.none
  | some σ₁ => PM.bd b (fun f => match f with
   | .next => forM k b xs
   | .cont => forM k b xs
   | .brk => PM.ok .next
   | .ret v => PM.ok (.ret v)) σ₁
noncomputable def forS (it : PM (List AV)) (k : TgK) (b : PM FL) : PM FL := PM.bd it fun xs => forM k b xs
inductive ForInv {β : Type} (G : GC) (K : Kx) (g : Gh) (wr : List Addr) (S : Nat -> Heap -> Prop) (f : List AV -> PM β) (xs : List AV) (σ' : Mine.St) (r : β) (n : Nat) (s' : Shared) : Prop
 | mk (g' : Gh) (σ₂ : Mine.St) (i : Nat) (h1 : g.le g') (h2 : Wf G K g' σ₂ s') (h3 : Off G wr K g') (h4 : S i s'.heap) (h5 : n + i = xs.length) (h6 : f (xs.drop i) σ₂ = some (r, σ'))
theorem sS_for {target iter : Expr} {body : List Stmt} {pos : Pos} {k : TgK} {it : PM (List AV)} {b : PM FL} (hi : SI V h target k iter it) (t : Zt V target k) (hb : SB V h body b) (hs : ∀ env x, foldedSetIterable iter env x = pure x) (h1 : 0 < h := by decide) :
  SS V h (.For target iter body [] pos) (forS it k b) := by
 intro G K g σ σ' r A env s Q E ok hA hE I hm hQ
 obtain ⟨xs, σ₁, e1, e2⟩ := PM.bd_some hm
 refine wpAny_For (hi G K g σ σ₁ xs A env s _ E ok hA hE I e1 fun g1 J wr St s1 l1 I1 O1 T1 st1 => ?_) (hs env)
 refine codeAny_forLoop_any (ForInv G K g1 wr St (forM k b) xs σ' r) ?_ xs.length ⟨g1, σ₁, 0, g1.le_refl, I1, O1, st1, rfl, by simpa using e2⟩
 rintro n s' ⟨g2, σ₂, i, l2, I2, O2, st2, hn, hr⟩
 have T2 := T1.le l2
 cases n with
 | zero =>
  have hi : i = xs.length := by omega
  subst hi
  rw [List.drop_length] at hr
  cases hr
  exact T2.done s' _ _ st2 fun h' tk hk htk => wpAny_execs_nil (hQ g2 _ _ (l1.trans l2) (I2.off O2 tk hk) rfl)
 | succ n =>
  have hlt : i < xs.length := by omega
  have ex : xs[i]? = some xs[i] := List.getElem?_eq_getElem hlt
  rw [List.drop_eq_getElem_cons hlt] at hr
  simp only [forM] at hr
  split at hr
  ·cases hr
  ·rename_i σ₃ ha
   obtain ⟨f, σ₄, e3, e4⟩ := PM.bd_some hr
   refine wpAny_mono (T2.item i _ s' _ _ ex st2 (fun v h' tk ri st3 hk htk => ?_)) (fun r s₁ hrv => by obtain ⟨v, rfl, hv⟩ := hrv; exact hv) (fun _ _ e => by exact e)
   ·show wpAny _ A (assign target env v) _ _ _
    have I3 := (I2.off O2 tk hk).hold O2
    refine tg_ok t (hA.handled h1) (hE.le (l1.trans l2)) I3 ri ha fun s₂ I4 => ?_
    have hown := T2.own _ _ st3
    refine hb G _ g2 σ₃ σ₄ f A env s₂ _ _ ok hA.hold (hE.le (l1.trans l2)) I4 e3 fun g5 fl s5 l5 I5 rf => ?_
    obtain ⟨I6, O6, k6⟩ := I5.unhold (own_has hown) O2.K
    replace k6 := own_ex hown k6
    have st6 : St (i + 1) s5.heap := T2.frame _ _ _ st3 (fun b o e => I6.hB b o (l5.B b o e)) k6
    cases f with
    | next => cases rf; exact ⟨n, Nat.lt_succ_self n, g5, σ₄, i + 1, l2.trans l5, I6, O6, st6, by omega, e4⟩
    | cont => cases rf; exact ⟨n, Nat.lt_succ_self n, g5, σ₄, i + 1, l2.trans l5, I6, O6, st6, by omega, e4⟩
    | brk => cases rf; cases e4; exact hQ g5 _ s5 ((l1.trans l2).trans l5) I6 rfl
    | ret v => obtain ⟨v', rfl, hv⟩ := rf; cases e4; exact hQ g5 _ s5 ((l1.trans l2).trans l5) I6 ⟨v', rfl, hv⟩
noncomputable def itL (m : PM AV) : PM (List AV) := PM.bd m fun a => PM.of fun _ => match a with
 | .lst xs => some xs
 | _ => Option.none
theorem yJ {target iter : Expr} {k : TgK} {m : PM AV} (he : SE V h iter m) (hk : (∃ i, k = .one i) ∨ ∃ is, k = .many is) (h1 : 0 < h := by decide) : SI V h target k iter (PM.bd (itL m) fun xs => PM.of fun _ => match k with
    | .one _ => some xs
    | .many _ => if xs.all (fun x => match x with | .tup _ => true | _ => false) then some xs else Option.none) := by
  intro G K g σ σ' xs A env s Q E ok hA hE I hm hQ
  obtain ⟨ys, σ₁, e0, e9⟩ := PM.bd_some hm
  obtain ⟨a, σ₂, e1, e2⟩ := PM.bd_some e0
  obtain ⟨e2, rfl⟩ := PM.of_some e2
  obtain ⟨e9, rfl⟩ := PM.of_some e9
  cases a with
  | lst zs =>
    cases (e2)
    have hx : xs = ys /\ ∀ is, k = .many is -> ∀ x ∈ xs, ∃ l, x = AV.tup l := by
      cases k with
      | one i => cases e9; exact ⟨rfl, fun is e => nomatch e⟩
      | many is =>
        dsimp only at e9
        split at e9
        · rename_i ha
          cases e9
          refine ⟨rfl, fun _ _ x hx => ?_⟩
          have := List.all_eq_true.mp ha x hx
          cases x with
          | tup l => exact ⟨l, rfl⟩
          | _ => cases this
        · cases e9
    obtain ⟨rfl, hx⟩ := hx
    refine he G K g σ _ (.lst xs) A env s _ E ok hA hE I e1 fun g1 v s1 l1 I1 r1 => ?_
    obtain ⟨l, vs, n, rfl, hb, hr⟩ := Yj.mp r1
    have ho := I1.hB _ _ hb
    refine wpAny_pyIter_list (zy ho) ?_
    have hf := zH s1.heap
    have hne : l ≠ s1.heap.objs.size := fun e => by rw [e, hf] at ho; cases ho
    have fr := I1.fresh_of_none hf
    have W := fun A' (hA' : A'.handled = .none) => Walks.list (prog := G.prog) (w := G.w) (A := A') hA' s1.heap.objs.size l hne vs.toArray
    have I2 := I1.keep (h' := s1.heap.push { cls := .type "list_iterator", data := .fields #[.ref l, .int 0 0] }) s1.toks fun b o e => Heap.get?_push_of_some _ e
    refine hQ g1 s1.heap.objs.size [s1.heap.objs.size] (fun i h => h.IsListIter s1.heap.objs.size l i /\ h.IsList l vs.toArray /\ ∀ b o, g1.B b o -> h.get? b = some o) _ l1 I2 ?_ ?_ ⟨⟨_, Heap.get?_push_size _ rfl, rfl, rfl⟩, zy (Heap.get?_push_of_some _ ho), fun b o e => I2.hB b o e⟩
    · constructor
      · intro b hb o e; simp at hb; subst hb; have := I1.hB _ _ e; rw [hf] at this; cases this
      · intro b hb o e; simp at hb; subst hb; obtain ⟨_, this⟩ := (I1.hK _ _ e).some; rw [hf] at this; cases this
      · intro b hb; simp at hb; subst hb; exact fr.1
      · intro b hb; simp at hb; subst hb; exact fr.2.1
      · intro b hb; simp at hb; subst hb; exact fr.2.2
    · have hlen := hr.length
      refine { frame := fun i h h' st hB hw => ⟨st.1.at fun o e => hw _ (by simp) o e, zy (hB _ _ hb), hB⟩, own := fun i h st b hb => ?_, item := fun i x s Q E ex st hQ => ?_, done := fun s Q E st hQ => ?_, self := fun i s Q E st hQ => (W A (hA.handled h1)).self i s Q E ⟨st.1, st.2.1⟩ hQ }
      · simp at hb; subst hb; obtain ⟨⟨o, ho, _, hd⟩, _⟩ := st; exact ⟨o, ho, fun ⟨_, _, q⟩ => by rw [hd] at q; cases q⟩
      · have hk222 := hr.get ex; obtain ⟨v, ev, rv⟩ := hk222
        have hi : i < vs.toArray.size := by simpa using (List.getElem?_eq_some_iff.mp ev).1
        refine wpAny_with_toks (Nat.le_refl s.toks) ((W A (hA.handled h1)).item i s _ _ hi ⟨st.1, st.2.1⟩ fun v' h' tk ev' st' hk' (htk : s.toks <= tk) => ?_)
        have : v' = v := by have e5 : vs.toArray[i]? = some v := by simpa using ev
                            rw [e5] at ev'; exact (Option.some.inj ev').symm
        subst this
        have hB' : ∀ b o, g1.B b o -> h'.get? b = some o := fun b o e => hk' b o (fun hm => by simp at hm; subst hm; have := I1.hB _ _ e; rw [hf] at this; cases this) (st.2.2 b o e)
        refine ⟨v', rfl, letGo_listiter st'.1 (hQ v' h' tk ?_ ⟨st'.1, st'.2, hB'⟩ hk' htk)⟩
        rcases hk with ⟨j, rfl⟩ | ⟨is, rfl⟩
        · exact rv
        · obtain ⟨zs, rfl⟩ := hx is rfl x (List.mem_of_getElem? ex)
          obtain ⟨T, ws, n', rfl, hT, hr'⟩ := rv_tup.mp rv
          exact ⟨zs, T, ws, rfl, rfl, isTup_of (hB' _ _ hT), hr'⟩
      · have hlen' : xs.length = vs.toArray.size := by simp [hlen]
        rw [hlen'] at st
        exact wpAny_with_toks (Nat.le_refl s.toks) ((W A (hA.handled h1)).done s _ _ ⟨st.1, st.2.1⟩ fun h' tk hk (htk : s.toks <= tk) => hQ h' tk hk htk)
  | _ => cases e2
end
noncomputable def turnOf (target iter : Expr) (ifs : List Expr) (X : Env -> Value -> Sem Fin -> Sem Fin) (c : Code) (it acc : Value) (env : Env) : Sem Fin := do
 standAt iter.pos
 match <- pyNext it with
 | none => pure (.done .next)
 | some v =>
  letOwnedTupleGo target it v
  assign target env v
  let mut ok := true
  for c in ifs do
   if ok then ok <- isTrue c env (eval c env)
  if ok then X env acc (again c) else again c
noncomputable def emitX (elt : Expr) (env : Env) (acc : Value) (r : Sem Fin) : Sem Fin := (do let _ <- call (.builtin "list.append") [acc, <- eval elt env] : Sem Unit) >>= fun _ => r
noncomputable def nestX (e : Expr) (d : Nat) (iter : Expr) (env : Env) (acc : Value) (r : Sem Fin) : Sem Fin := do
 let x <- eval iter env
 standAt iter.pos
 let x <- foldedSetIterable iter env x
 let _ <- runOwn (.compStart e d (<- holding [x] (pyIter x)) acc env) env
 r
noncomputable def QJ (e : Expr) (d : Nat) (target iter : Expr) (ifs : List Expr) (X : Env -> Value -> Sem Fin -> Sem Fin) : Prop := ∀ it acc env, compTurn e d it acc env = turnOf target iter ifs X (.compLoop e d it acc env) it acc env
theorem yY (elt t i : Expr) (f : List Expr) (scope : Scope) (pos : Pos) : QJ (.ListComp elt [⟨t, i, f, 0⟩] scope pos) 0 t i f (emitX elt) := fun _ _ _ => by rfl
theorem turn_30 (elt t i t' i' t'' i'' : Expr) (f f' f'' : List Expr) (scope : Scope) (pos : Pos) : QJ (.ListComp elt [⟨t, i, f, 0⟩, ⟨t', i', f', 0⟩, ⟨t'', i'', f'', 0⟩] scope pos) 0 t i f (nestX (.ListComp elt [⟨t, i, f, 0⟩, ⟨t', i', f', 0⟩, ⟨t'', i'', f'', 0⟩] scope pos) 1 i') := fun _ _ _ => by rfl
theorem turn_31 (elt t i t' i' t'' i'' : Expr) (f f' f'' : List Expr) (scope : Scope) (pos : Pos) : QJ (.ListComp elt [⟨t, i, f, 0⟩, ⟨t', i', f', 0⟩, ⟨t'', i'', f'', 0⟩] scope pos) 1 t' i' f' (nestX (.ListComp elt [⟨t, i, f, 0⟩, ⟨t', i', f', 0⟩, ⟨t'', i'', f'', 0⟩] scope pos) 2 i'') := fun _ _ _ => by rfl
theorem turn_32 (elt t i t' i' t'' i'' : Expr) (f f' f'' : List Expr) (scope : Scope) (pos : Pos) : QJ (.ListComp elt [⟨t, i, f, 0⟩, ⟨t', i', f', 0⟩, ⟨t'', i'', f'', 0⟩] scope pos) 2 t'' i'' f'' (emitX elt) := fun _ _ _ => by rfl
theorem not_dct (vs : List Value) (n : Nat) : ¬ ZX (zM vs n) := fun ⟨_, _, q⟩ => by cases q
structure Acc (G : GC) (K : Kx) (g : Gh) (s : Shared) (D : Addr) (ys : List AV) (vs : List Value) (n : Nat) : Prop where
 off : Off G [D] K g
 at_ : s.heap.get? D = some (zM vs n)
 rv : g.rvs ys vs
section
variable {V : Vis} {h : Nat}
noncomputable def TS (V : Vis) (h : Nat) (ifs : List Expr) (m : PM Bool) : Prop := Snd V h (fun _ b a => a = b) (fun env => forIn ifs true fun c r => if r = true then do let ok <- isTrue c env (eval c env); pure (ForInStep.yield ok) else pure (ForInStep.yield r)) m
theorem ZC : TS V h [] (PM.ok true) := by
 intro G K g σ σ' b A env s Q E ok hA hE I hm hQ
 cases hm
 exact wpAny_tests_nil (hQ g _ s g.le_refl I rfl)
theorem ts_one {c : Expr} {m : PM Bool} (hc : ST V h c m) : TS V h [c] m := by
 intro G K g σ σ' b A env s Q E ok hA hE I hm hQ
 exact wpAny_tests_one (hc G K g σ σ' b A env s Q E ok hA hE I hm hQ)
noncomputable def XS (V : Vis) (h : Nat) (X : Env -> Value -> Sem Fin -> Sem Fin) (m : PM (List AV)) : Prop :=
 ∀ (G : GC) (K : Kx) (g : Gh) (σ σ' : St) (zs ys : List AV) (A : Around) (env : Env) (s : Shared) (D : Addr) (vs : List Value) (n : Nat) (r : Sem Fin) (Q : Fin -> Shared -> Prop) (E : Value -> Shared -> Prop),
  G.Ok -> AOk h A K -> EOk V G g.vl env -> Wf G K g σ s -> Acc G K g s D ys vs n -> m σ = some (zs, σ') -> ys.length + zs.length <= 100000 ->
  (∀ g' s' vs' n', g.le g' -> Wf G K g' σ' s' -> Acc G K g' s' D (ys ++ zs) vs' n' -> wpAny (model G.prog G.w) A r Q E s') -> wpAny (model G.prog G.w) A (X env (.ref D) r) Q E s
theorem Acc.append {G : GC} {K : Kx} {g : Gh} {σ : St} {s : Shared} {A : Around} {Q : Value -> Shared -> Prop} {E : Value -> Shared -> Prop} {D : Addr} {ys : List AV} {vs : List Value} {n : Nat} {x : AV} {v : Value} (a : Acc G K g s D ys vs n) (I : Wf G K g σ s) (r : g.rv x v) (hl : ys.length <= 100000)
  (hQ : ∀ s' n', Wf G K g σ s' -> Acc G K g s' D (ys ++ [x]) (vs ++ [v]) n' -> Q .none s') : wpAny (model G.prog G.w) A (call (.builtin "list.append") [.ref D, v]) Q E s := by
 refine wpAny_list_append_plain (hsz := by rw [List.size_toArray, a.rv.length, sizeLine_eq]; omega) (zcb a.at_) fun h' hp hs => ?_
 obtain ⟨n', ho⟩ := hp
 refine hQ _ n' (I.off a.off s.toks fun b o hb e => (hs.2 b fun e' => hb (by simp [e'])).trans e) ⟨a.off, ?_, a.rv.append (.one r)⟩
 rw [ho]; simp [zM]
theorem yo {elt : Expr} {m : PM AV} (he : SE V h elt m) : XS V h (emitX elt) (PM.bd m fun y => PM.ok [y]) := by
 intro G K g σ σ' zs ys A env s D vs n r Q E ok hA hE I a hm hl hQ
 obtain ⟨y, σ₁, e1, e2⟩ := PM.bd_some hm
 cases e2
 have ho : ∀ b ∈ [D], ∃ o, s.heap.get? b = some o := fun b hb => by simp at hb; subst hb; exact ⟨_, a.at_⟩
 unfold emitX
 refine wpAny_bind (wpAny_bind (he G _ g σ _ y A env s _ E ok hA.hold hE (I.hold a.off) e1 fun g1 v s1 l1 I1 r1 => wpAny_bind ?_))
 obtain ⟨I2, O2, k2⟩ := I1.unhold ho a.off.K
 exact Acc.append ⟨O2, (k2 D (by simp) _ a.at_).ex (not_dct _ _), Gh.rvs_le l1 a.rv⟩ I2 r1 (by simp at hl; omega) fun s' n' I' a' => wpAny_pure (hQ g1 s' _ n' l1 I' a')
noncomputable def ZK (k : TgK) (tst : PM Bool) (inner : PM (List AV)) : List AV -> PM (List AV)
 | [] => PM.ok []
 | x :: xs => fun σ => match asgM k x σ with
  | Option.none => Option.none
  | some σ₁ => PM.bd tst (fun b => match b with
   | true => PM.bd inner fun ys => PM.bd (ZK k tst inner xs) fun zs => PM.ok (ys ++ zs)
   | false => ZK k tst inner xs) σ₁
inductive CompInv (G : GC) (K : Kx) (g : Gh) (wr : List Addr) (D : Addr) (S : Nat -> Heap -> Prop) (f : List AV -> PM (List AV)) (xs : List AV) (σ' : St) (all : List AV) (m : Nat) (s' : Shared) : Prop
 | mk (g' : Gh) (σ₂ : St) (i : Nat) (ys' zs' : List AV) (vs' : List Value) (n' : Nat) (h1 : g.le g') (h2 : Wf G K g' σ₂ s') (h3 : Off G wr K g') (h4 : Acc G K g' s' D ys' vs' n') (h5 : S i s'.heap) (h6 : m + i = xs.length)
  (h7 : f (xs.drop i) σ₂ = some (zs', σ')) (h8 : ys' ++ zs' = all) (h9 : ys'.length + zs'.length <= 100000)
theorem comp_loop {e target iter : Expr} {d : Nat} {ifs : List Expr} {X : Env -> Value -> Sem Fin -> Sem Fin} {k : TgK} {tst : PM Bool} {inner : PM (List AV)} (hd : QJ e d target iter ifs X) (hlist : ∃ a b c d, e = .ListComp a b c d) (t : Zt V target k) (ht : TS V h ifs tst) (hx : XS V h X inner)
  {G : GC} {K : Kx} {g : Gh} {σ σ' : St} {xs zs ys : List AV} {A : Around} {env : Env} {s : Shared} {I D : Addr} {wr : List Addr} {S : Nat -> Heap -> Prop} {vs : List Value} {n : Nat} {R : Result -> Shared -> Prop} (ok : G.Ok) (hA : AOk h A K) (hE : EOk V G g.vl env) (W : Wf G K g σ s) (O : Off G wr K g)
  (hDw : D ∉ wr) (a : Acc G K g s D ys vs n) (T : Trn G.prog G.w A target I wr g k xs S) (st : S 0 s.heap) (hm : ZK k tst inner xs σ = some (zs, σ')) (hl : ys.length + zs.length <= 100000)
  (hR : ∀ g' s' vs' n', g.le g' -> Wf G K g' σ' s' -> Acc G K g' s' D (ys ++ zs) vs' n' -> R (.ok .next) s') (h1 : 0 < h := by decide) :
  codeAny (model G.prog G.w) A (.compLoop e d (.ref I) (.ref D) env) R s := by
 obtain ⟨e1, e2, e3, e4, rfl⟩ := hlist
 refine codeAny_loop rfl (CompInv G K g wr D S (ZK k tst inner) xs σ' (ys ++ zs)) ?_ xs.length
  ⟨g, σ, 0, ys, zs, vs, n, g.le_refl, W, O, a, st, rfl, by simpa using hm, rfl, hl⟩
 rintro m s' ⟨g2, σ₂, i, ys', zs', vs', n', l2, W2, O2, a2, st2, hn, hr, hyz, hl2⟩
 show wpAny _ _ ((compTurn _ d (.ref I) (.ref D) env).onRaise (fun x => do noteFrame x env; theTreesLotGoes x)) _ _ s'
 refine wpAny_noted ?_
 rw [hd]
 unfold turnOf
 have T2 := T.le l2
 refine wpAny_bind (wpAny_standAt (wpAny_bind ?_))
 cases m with
 | zero =>
  have hi : i = xs.length := by omega
  subst hi
  rw [List.drop_length] at hr
  cases hr
  refine T2.done s' _ _ st2 fun h' tk hk htk => wpAny_pure ?_
  have hD' : h'.get? D = some (zM vs' n') := hk D _ hDw a2.at_
  rw [List.append_nil] at hyz
  exact hR g2 _ vs' n' l2 (W2.off O2 tk hk) (hyz ▸ ⟨a2.off, hD', a2.rv⟩)
 | succ m =>
  have hlt : i < xs.length := by omega
  have ex : xs[i]? = some xs[i] := List.getElem?_eq_getElem hlt
  rw [List.drop_eq_getElem_cons hlt] at hr
  simp only [ZK] at hr
  split at hr
  ·cases hr
  ·rename_i σ₃ ha
   refine wpAny_mono (T2.item i _ s' _ _ ex st2 (fun v h' tk ri st3 hk htk => ?_)) (fun r s₁ hrv => by obtain ⟨v, rfl, hv⟩ := hrv; exact wpAny_bind hv) (fun _ _ e => by exact e)
   have hown := T2.own _ _ st3
   have aD : h'.get? D = some (zM vs' n') := hk D _ hDw a2.at_
   have I3 := (W2.off O2 tk hk).hold O2
   have offD : Off G [D] (Hold K wr h') g2 := ⟨a2.off.B, fun b hb o e => by simp at hb; subst hb; exact e.elim (a2.off.K b (by simp) o) fun e => hDw e.1, a2.off.ρ, a2.off.vl, a2.off.P⟩
   have hoD : ∀ b ∈ [D], ∃ o, h'.get? b = some o := fun b hb => by simp at hb; subst hb; exact ⟨_, aD⟩
   have I4 := I3.hold offD
   have hE2 := hE.le l2
   show wpAny _ A (assign target env v >>= _) _ _ _
   refine wpAny_bind (tg_ok t (hA.handled h1) hE2 I4 ri ha fun s₂ I5 => ?_)
   obtain ⟨ob, σ₄, e3, e4⟩ := PM.bd_some hr
   refine wpAny_bind (ht G _ g2 σ₃ σ₄ ob A env s₂ _ _ ok hA.hold.hold hE2 I5 e3 fun g6 b' s6 l6 I6 rb => ?_)
   subst rb
   obtain ⟨I7, O7, k7⟩ := I6.unhold hoD offD.K
   have aD7 : s6.heap.get? D = some (zM vs' n') := (k7 D (by simp) _ aD).ex (not_dct _ _)
   cases b' with
   | false =>
    simp only [Bool.false_eq_true, if_false]
    obtain ⟨I8, O8, k8⟩ := I7.unhold (own_has hown) O2.K
    replace k8 := own_ex hown k8
    exact wpAny_pure ⟨rfl, m, Nat.lt_succ_self m, g6, σ₄, i + 1, ys', zs', vs', n', l2.trans l6, I8, O8, ⟨⟨O7.B, a2.off.K, O7.ρ, O7.vl, O7.P⟩, aD7, Gh.rvs_le l6 a2.rv⟩, T2.frame _ _ _ st3 (fun b o e => I8.hB b o (l6.B b o e)) k8, by omega, e4, hyz, hl2⟩
   | true =>
    simp only [if_true]
    obtain ⟨y1, σ5, e5, e6⟩ := PM.bd_some e4
    obtain ⟨z1, σ6, e6, e7⟩ := PM.bd_some e6
    cases (e7)
    refine hx G _ g6 σ₄ σ5 y1 ys' A env s6 D vs' n' _ _ _ ok hA.hold (hE2.le l6) I7 ⟨O7, aD7, Gh.rvs_le l6 a2.rv⟩ e5 (by simp at hl2; omega) fun g8 s8 vs8 n8 l8 I8 a8 => ?_
    obtain ⟨I9, O9, k9⟩ := I8.unhold (own_has hown) O2.K
    replace k9 := own_ex hown k9
    have l9 := l6.trans l8
    exact wpAny_pure ⟨rfl, m, Nat.lt_succ_self m, g8, _, i + 1, ys' ++ y1, z1, vs8, n8, l2.trans l9, I9, O9, ⟨⟨a8.off.B, a2.off.K, a8.off.ρ, a8.off.vl, a8.off.P⟩, a8.at_, a8.rv⟩, T2.frame _ _ _ st3 (fun b o e => I9.hB b o (l9.B b o e)) k9, by omega, e6, by rw [List.append_assoc]; exact hyz, by simp at hl2 ⊢; omega⟩
end
noncomputable def St.clr (σ : St) : List Nat -> St
 | [] => σ
 | i :: r => (σ.put i Option.none).clr r
theorem St.get_clr : ∀ (is : List Nat) (σ : St) (j : Nat), (σ.clr is).get j = if j ∈ is then Option.none else σ.get j
 | [], σ, j => by simp [St.clr]
 | i :: r, σ, j => by
  rw [St.clr, St.get_clr r, St.get_put]
  by_cases h : j ∈ r
  ·simp [h]
  ·by_cases h2 : i = j
   ·subst h2; simp
   ·have : ¬ j = i := fun e => h2 e.symm
    simp [h, h2, this]
theorem St.clr_st : ∀ (is : List Nat) (σ : St), (σ.clr is).st = σ.st
 | [], σ => rfl
 | i :: r, σ => by rw [St.clr, St.clr_st r]; rfl
section
variable {G : GC} {K : Kx} {g : Gh} {σ : St} {s : Shared}
theorem Wf.open_ (I : Wf G K g σ s) {h' : Heap} (tk : Nat) (hk : ∀ b o, s.heap.get? b = some o -> h'.get? b = some o) (vl : Nat -> Yb)
  (hch : ∀ i, vl i = g.vl i ∨ (g.vl i = .no /\ (∀ a, (vl i).addr = some a -> s.heap.get? a = Option.none) /\ Yp g.B g.ρ h' Option.none (vl i)))
  (hinj : ∀ i j, i ≠ j -> g.vl i = .no -> g.vl j = .no -> vl i = vl j -> vl i = .no) (htk : s.toks <= tk := by trivial) : Wf G K { g with vl := vl } σ { s with heap := h', toks := tk } := by
 have J := I.keep tk hk
 have old : ∀ i a, (vl i).addr = some a -> (g.vl i).addr = some a ∨ s.heap.get? a = Option.none := fun i a e => (hch i).elim (fun e' => .inl (e' ▸ e)) fun x => .inr (x.2.1 a e)
 have hex : ∀ i, vl i = g.vl i -> g.vl i ≠ .no -> ∃ a o, (vl i).addr = some a /\ s.heap.get? a = some o := fun i e hn => by
  cases hv : g.vl i with
  | no => exact absurd hv hn
  | loc L x => obtain ⟨o, ho⟩ := Yb.exists_of I (i := i) (a := L) (by rw [hv]; rfl); exact ⟨L, o, by rw [e, hv]; rfl, ho⟩
  | cell c => obtain ⟨o, ho⟩ := Yb.exists_of I (i := i) (a := c) (by rw [hv]; rfl); exact ⟨c, o, by rw [e, hv]; rfl, ho⟩
 exact { J with
  dB := fun b o e => ⟨(I.dB b o e).1, fun i hi => (old i b hi).elim ((I.dB b o e).2.1 i) fun hn => (by rw [I.hB b o e] at hn; cases hn), (I.dB b o e).2.2⟩
  dK := fun b o e => ⟨(I.dK b o e).1, fun i hi => (old i b hi).elim ((I.dK b o e).2.1 i) fun hn => (by obtain ⟨_, q⟩ := (I.hK b o e).some; rw [q] at hn; cases hn), (I.dK b o e).2.2⟩
  dP := ⟨I.dP.1, fun i hi => (old i _ hi).elim (I.dP.2 i) fun hn => (by obtain ⟨ps, _, e⟩ := I.tab; rw [e] at hn; cases hn)⟩
  dv := fun n i a e hi => (old i a hi).elim (I.dv n i a e) fun hn => (by obtain ⟨o, ho⟩ := I.rho_exists e; rw [ho] at hn; cases hn)
  fr := fun i => by
   rcases hch i with e | ⟨hn, _, hs⟩
   ·show Yp g.B g.ρ h' (σ.get i) (vl i)
    rw [e]; exact J.fr i
   ·have k := I.fr i
    rw [hn] at k
    have : σ.get i = Option.none := k
    show Yp g.B g.ρ h' (σ.get i) (vl i)
    rw [this]; exact hs
  inj := fun i j hij e => by
   by_cases hi : g.vl i = .no <;> by_cases hj : g.vl j = .no
   ·exact hinj i j hij hi hj e
   ·rcases hch j with ej | ⟨hj', _⟩
    ·obtain ⟨a, o, ha, ho⟩ := hex j ej hj
     have e0 : vl i = vl j := e
     have hai : (vl i).addr = some a := by rw [e0]; exact ha
     rcases old i a hai with h | h
     ·rw [hi] at h; cases h
     ·rw [ho] at h; cases h
    ·exact absurd hj' hj
   ·rcases hch i with ei | ⟨hi', _⟩
    ·obtain ⟨a, o, ha, ho⟩ := hex i ei hi
     have e0 : vl i = vl j := e
     have haj : (vl j).addr = some a := by rw [<- e0]; exact ha
     rcases old j a haj with h | h
     ·rw [hj] at h; cases h
     ·rw [ho] at h; cases h
    ·exact absurd hi' hi
   ·rcases hch i with ei | ⟨hi', _⟩
    ·rcases hch j with ej | ⟨hj', _⟩
     ·show vl i = .no
      rw [ei]
      exact I.inj i j hij (ei.symm.trans ((show vl i = vl j from e).trans ej))
     ·exact absurd hj' hj
    ·exact absurd hi' hi
  has := by
   obtain ⟨i, x, e⟩ := I.has
   rcases hch i with e' | ⟨hn, _⟩
   ·exact ⟨i, x, e'.trans e⟩
   ·rw [e] at hn; cases hn }
theorem Wf.close_ (I : Wf G K g σ s) (vl : Nat -> Yb) (is : List Nat) (hs : ∀ i, i ∉ is -> g.vl i = vl i) (hn : ∀ i ∈ is, vl i = .no) (has : ∃ i x, vl i = .loc K.L x) : Wf G K { g with vl := vl } (σ.clr is) s := by
 have old : ∀ i a, (vl i).addr = some a -> (g.vl i).addr = some a := fun i a e => by
  by_cases h : i ∈ is
  ·rw [hn i h] at e; cases e
  ·rw [hs i h]; exact e
 exact { I with
  dB := fun b o e => ⟨fun n hn => by rw [St.clr_st]; exact (I.dB b o e).1 n hn, fun i hi => (I.dB b o e).2.1 i (old i b hi), (I.dB b o e).2.2⟩
  dK := fun b o e => ⟨(I.dK b o e).1, fun i hi => (I.dK b o e).2.1 i (old i b hi), (I.dK b o e).2.2⟩
  dP := ⟨I.dP.1, fun i hi => I.dP.2 i (old i _ hi)⟩
  dv := fun n i a e hi => I.dv n i a e (old i a hi)
  len := by rw [St.clr_st]; exact I.len
  st := fun n e a h1 h2 => I.st n e a (by rw [<- St.clr_st is σ]; exact h1) h2
  fr := fun i => by
   rw [St.get_clr]
   show Yp g.B g.ρ s.heap _ (vl i)
   by_cases h : i ∈ is
   ·rw [if_pos h, hn i h]; rfl
   ·rw [if_neg h, <- hs i h]; exact I.fr i
  inj := fun i j hij e => by
   by_cases h : i ∈ is
   ·exact hn i h
   ·by_cases h2 : j ∈ is
    ·exact (show vl i = vl j from e).trans (hn j h2)
    ·show vl i = .no
     rw [<- hs i h]
     exact I.inj i j hij ((hs i h).trans ((show vl i = vl j from e).trans (hs j h2).symm))
  has := has }
theorem Wf.keepL (I : Wf G K g σ s) {D : Addr} {ys : List AV} {vs : List Value} {n : Nat} (a : Acc G K g s D ys vs n) : ∃ g', g.le g' /\ Wf G K g' σ s /\ g'.rv (.lst ys) (.ref D) := by
 let g' : Gh := { g with B := fun b o => g.B b o ∨ (b = D /\ o = zM vs n) }
 have le : g.le g' := ⟨fun _ _ x => Or.inl x, fun _ _ x => x, rfl⟩
 have hD : D ∈ [D] := by simp
 refine ⟨g', le, ?_, Yj.mpr ⟨D, vs, n, rfl, Or.inr ⟨rfl, rfl⟩, Gh.rvs_le le a.rv⟩⟩
 exact { I with
  hB := fun b o e => e.elim (I.hB b o) fun e => by rw [e.1, e.2]; exact a.at_
  base := fun b o e hp => Or.inl (I.base b o e hp)
  tab := let ⟨ps, a1, a2⟩ := I.tab; ⟨ps, a1.mono fun _ _ x => Or.inl x, a2⟩
  dB := fun b o e => e.elim (I.dB b o) fun e => by rw [e.1]; exact ⟨fun n e => absurd e (a.off.ρ D hD n), a.off.vl D hD, a.off.P D hD⟩
  dBK := fun b o o' e k => e.elim (fun e => I.dBK b o o' e k) fun e => a.off.K D hD o' (e.1 ▸ k)
  st := fun n e b h1 h2 => (I.st n e b h1 h2).mono (fun _ _ x => Or.inl x) (fun _ _ x => x) fun o h => h
  fr := fun i => (I.fr i).mono (fun _ _ x => Or.inl x) (fun _ _ x => x) fun b _ o h => h }
theorem Wf.ownL (I : Wf G K g σ s) {D : Addr} {ys : List AV} {vs : List Value} {n : Nat} (a : Acc G K g s D ys vs n) : ∃ g', g.le g' /\ Wf G K g' { σ with st := σ.st ++ [.lst ys] } s /\ g'.rv (.loc σ.st.length) (.ref D) := by
 have hD : D ∈ [D] := by simp
 have hρ : ∀ (n : Nat) (b : Addr), g.ρ[n]? = some b -> (g.ρ ++ [D])[n]? = some b := fun n b e => by
  rw [List.getElem?_append_left (List.getElem?_eq_some_iff.mp e).1]; exact e
 have hin : ∀ (n : Nat) (b : Addr), (g.ρ ++ [D])[n]? = some b -> g.ρ[n]? = some b ∨ (n = g.ρ.length /\ b = D) := fun n b e => by
  rcases Nat.lt_or_ge n g.ρ.length with h | h
  ·rw [List.getElem?_append_left h] at e; exact .inl e
  ·rw [List.getElem?_append_right h] at e
   rcases Nat.eq_or_lt_of_le h with h' | h'
   ·subst h'; simp at e; exact .inr ⟨rfl, e.symm⟩
   ·rw [List.getElem?_eq_none (by simp; omega)] at e; cases e
 refine ⟨{ g with ρ := g.ρ ++ [D] }, ⟨fun _ _ x => x, hρ, rfl⟩, ?_, ZD.mpr ⟨D, rfl, by rw [<- I.len]; simp⟩⟩
 exact { I with
  dB := fun b o h => ⟨fun n e => by
   rcases hin n b e with e | ⟨_, rfl⟩
   ·have := (I.dB b o h).1 n e
    show (σ.st ++ [_])[n]? = _
    rw [List.getElem?_append_left (List.getElem?_eq_some_iff.mp this).1]; exact this
   ·exact absurd h (a.off.B _ hD o), (I.dB b o h).2⟩
  dK := fun b o h => ⟨fun n e => by
   rcases hin n b e with e | ⟨_, rfl⟩
   ·exact (I.dK b o h).1 n e
   ·exact a.off.K _ hD o h, (I.dK b o h).2⟩
  dP := ⟨fun n e => by
   rcases hin n _ e with e | ⟨_, e⟩
   ·exact I.dP.1 n e
   ·exact a.off.P _ hD e.symm, I.dP.2⟩
  dv := fun n i b e => by
   rcases hin n b e with e | ⟨_, rfl⟩
   ·exact I.dv n i b e
   ·exact a.off.vl _ hD i
  len := by simp [I.len]
  nodup := fun n k b e1 e2 => by
   rcases hin n b e1 with f1 | ⟨g1, h1⟩ <;> rcases hin k b e2 with f2 | ⟨g2, h2⟩
   ·exact I.nodup n k b f1 f2
   ·exact absurd (h2 ▸ f1) (a.off.ρ _ hD n)
   ·exact absurd (h1 ▸ f2) (a.off.ρ _ hD k)
   ·rw [g1, g2]
  st := fun m x b e1 e2 => by
   rcases hin m b e2 with e2 | ⟨rfl, rfl⟩
   ·have hl : m < σ.st.length := by rw [<- I.len]; exact (List.getElem?_eq_some_iff.mp e2).1
    have e1' : (σ.st ++ [.lst ys])[m]? = some x := e1
    rw [List.getElem?_append_left hl] at e1'
    exact (I.st m x b e1' e2).mono (fun _ _ x => x) hρ fun o h => h
   ·have e1' : (σ.st ++ [.lst ys])[g.ρ.length]? = some x := e1
    rw [I.len, List.getElem?_append_right (Nat.le_refl _)] at e1'
    simp at e1'; subst e1'
    exact ⟨vs, n, a.at_, RVs.mono (fun _ _ x => x) hρ _ _ a.rv⟩
  fr := fun i => (I.fr i).mono (fun _ _ x => x) hρ fun b _ o h => h }
end
structure yV where
 scope : Scope
 vars : List (Str × Nat × Bool)
 fre : List (Str × Nat)
 gl : List Str
noncomputable def yV.slots (c : yV) : List Nat := c.vars.map fun x => x.2.1
noncomputable def yV.vis (c : yV) (V : Vis) : Vis := { nm := c.vars.map (fun x => (x.1, x.2.1)) ++ c.fre, gl := c.gl, cp := c.fre.map (·.1) ++ (c.vars.filter (·.2.2)).map (·.1), fs := V.fs.filter fun i => !(c.slots.contains i) }
noncomputable def yV.ok (c : yV) (V : Vis) : Bool :=
 c.scope.kind == .function && decide (c.scope.names.map (·.1)).Nodup && decide (c.vars.map (·.1)).Nodup && decide c.slots.Nodup &&
 (c.vars.all fun x => c.scope.names.contains (x.1, if x.2.2 then .cell else .local)) &&
 (c.fre.all fun x => c.scope.names.contains (x.1, .free) && V.nm.contains x && V.cp.contains x.1) &&
 (c.scope.names.all fun y => !(y.2 == .free) || c.fre.any fun x => x.1 == y.1) &&
 (c.gl.all fun x => c.scope.names.contains (x, .globalImplicit)) && (c.slots.all fun i => V.fs.contains i) && c.vars.any fun x => !x.2.2
structure yV.Ok (c : yV) (V : Vis) : Prop where
 kind : c.scope.kind = .function
 names : (c.scope.names.map (·.1)).Nodup
 vnames : (c.vars.map (·.1)).Nodup
 vslots : c.slots.Nodup
 var : ∀ x i b, (x, i, b) ∈ c.vars -> (x, if b then NameKind.cell else .local) ∈ c.scope.names
 fre : ∀ x i, (x, i) ∈ c.fre -> (x, NameKind.free) ∈ c.scope.names /\ (x, i) ∈ V.nm /\ x ∈ V.cp
 allfre : ∀ x, (x, NameKind.free) ∈ c.scope.names -> ∃ i, (x, i) ∈ c.fre
 gl : ∀ x ∈ c.gl, (x, NameKind.globalImplicit) ∈ c.scope.names
 fs : ∀ i ∈ c.slots, i ∈ V.fs
 has : ∃ x i, (x, i, false) ∈ c.vars
theorem yV.ok_of {c : yV} {V : Vis} (h : c.ok V = true) : c.Ok V := by
 simp only [yV.ok, Bool.and_eq_true, List.all_eq_true, List.any_eq_true, List.contains_iff_mem, decide_eq_true_eq, beq_iff_eq, Bool.or_eq_true, Bool.not_eq_true'] at h
 obtain ⟨⟨⟨⟨⟨⟨⟨⟨⟨h1, h2⟩, h3⟩, h4⟩, h5⟩, h6⟩, h7⟩, h8⟩, h9⟩, h10⟩ := h
 refine ⟨h1, h2, h3, h4, fun x i b hx => h5 (x, i, b) hx, fun x i hx => ?_, fun x hx => ?_, h8, h9, ?_⟩
 ·have := h6 (x, i) hx; exact ⟨this.1.1, this.1.2, this.2⟩
 ·rcases h7 _ hx with h | ⟨y, hy, e⟩
  ·cases h
  ·exact ⟨y.2, by have e' : y.1 = x := e; rw [<- e']; exact hy⟩
 ·obtain ⟨⟨x, i, b⟩, hx, hb⟩ := h10
  have : b = false := hb
  subst this
  exact ⟨x, i, hx⟩
noncomputable def clo (env : Env) : List (Str × NameKind) -> List (Str × Addr) -> List (Str × Addr)
 | [], acc => acc
 | (n, k) :: r, acc => clo env r (if k == .free then (n, (env.cells.lookup n).getD 0) :: acc else acc)
theorem clo_eq {env : Env} : ∀ (names : List (Str × NameKind)) (acc : List (Str × Addr)), (∀ x, (x, NameKind.free) ∈ names -> ∃ c, env.cells.lookup x = some c) ->
  (forIn names acc fun (x : Str × NameKind) cs => if (x.2 == .free) = true then (do let a <- cellOf env x.1; pure (ForInStep.yield ((x.1, a) :: cs))) else pure (ForInStep.yield cs) : Sem (List (Str × Addr))) = pure (clo env names acc)
 | [], acc, _ => by rw [List.forIn_nil]; rfl
 | (n, k) :: r, acc, h => by
  rw [List.forIn_cons]
  by_cases hk : (k == NameKind.free) = true
  ·have hk' : k = .free := by simpa using hk
   subst hk'
   obtain ⟨c, hc⟩ := h n List.mem_cons_self
   have e : cellOf env n = pure c := by unfold cellOf; rw [hc]
   simp only [beq_self_eq_true, if_true, e, pure_bind]
   rw [clo_eq r _ fun x hx => h x (List.mem_cons_of_mem _ hx)]
   simp [clo, hc]
  ·simp only [if_neg hk, pure_bind]
   rw [clo_eq r _ fun x hx => h x (List.mem_cons_of_mem _ hx)]
   simp [clo, hk]
theorem closureFor_eq {scope : Scope} {env : Env} (h : ∀ x, (x, NameKind.free) ∈ scope.names -> ∃ c, env.cells.lookup x = some c) : closureFor scope env = pure (clo env scope.names []) := by
 have := clo_eq scope.names [] h
 unfold closureFor
 simp only [bind_pure] at this ⊢
 exact this
theorem clo_old {env : Env} : ∀ (names : List (Str × NameKind)) (acc : List (Str × Addr)) (x : Str) (c : Addr), acc.lookup x = some c -> x ∉ names.map (·.1) -> (clo env names acc).lookup x = some c
 | [], acc, x, c, h, _ => h
 | (n, k) :: r, acc, x, c, h, hn => by
  simp only [List.map_cons, List.mem_cons, not_or] at hn
  refine clo_old r _ x c ?_ hn.2
  split
  ·rw [List.lookup_cons, show (x == n) = false by simpa using hn.1]; exact h
  ·exact h
theorem clo_at {env : Env} : ∀ (names : List (Str × NameKind)) (acc : List (Str × Addr)) (x : Str) (c : Addr), (x, NameKind.free) ∈ names -> (names.map (·.1)).Nodup -> env.cells.lookup x = some c -> (clo env names acc).lookup x = some c
 | (n, k) :: r, acc, x, c, h, hd, hc => by
  simp only [List.map_cons, List.nodup_cons] at hd
  rcases List.mem_cons.mp h with e | h
  ·obtain ⟨rfl, rfl⟩ := Prod.mk.inj e
   refine clo_old r _ x c ?_ hd.1
   simp [hc]
  ·exact clo_at r _ x c h hd.2 hc
theorem Qf : ∀ (names : List (Str × NameKind)) (n : Nat) (acc : List (Str × Addr)) (x : Str), (∀ k, (x, k) ∈ names -> k ≠ .cell) -> (cellsFrom n names acc).lookup x = acc.lookup x
  | [], _, _, _, _ => rfl
  | (m, k) :: r, n, acc, x, h => by
    unfold cellsFrom
    split
    · rename_i hk
      rw [Qf r _ _ x fun k hk => h k (List.mem_cons_of_mem _ hk), List.lookup_cons]
      have : (x == m) = false := by
        cases e : x == m with
        | false => rfl
        | true => have e' : x = m := by simpa using e
                  exact absurd (by simpa using hk) (h k (by rw [e']; exact List.mem_cons_self))
      rw [this]
    · exact Qf r _ _ x fun k hk => h k (List.mem_cons_of_mem _ hk)
theorem YD : ∀ (names : List (Str × NameKind)) (n : Nat) (acc : List (Str × Addr)), cellsFrom n names acc = cellsFrom n names [] ++ acc
 | [], _, _ => rfl
 | (m, k) :: r, n, acc => by
  unfold cellsFrom
  split
  ·rw [YD r (n + 1) ((m, n) :: acc), YD r (n + 1) [(m, n)]]; simp
  ·exact YD r n acc
theorem lookup_append {α : Type} : ∀ {l r : List (Str × α)} {x : Str} {c : α}, l.lookup x = some c -> (l ++ r).lookup x = some c
 | (k, v) :: l, r, x, c, h => by
  rw [List.cons_append, List.lookup_cons]
  rw [List.lookup_cons] at h
  cases e : x == k with
  | true => rw [e] at h; exact h
  | false => rw [e] at h; exact lookup_append h
theorem zB {α : Type} : ∀ {l : List (Str × α)} {x : Str} {c : α}, (x, c) ∈ l -> (l.map (·.1)).Nodup -> l.lookup x = some c
  | (k, v) :: l, x, c, h, hd => by
    simp only [List.map_cons, List.nodup_cons] at hd
    rw [List.lookup_cons]
    rcases List.mem_cons.mp h with e | h
    · cases e; simp
    · have : (x == k) = false := by
        cases e : x == k with
        | false => rfl
        | true => have e' : x = k := by simpa using e
                  rw [e'] at h; exact absurd (List.mem_map.mpr ⟨_, h, rfl⟩) hd.1
      rw [this]; exact zB h hd.2
theorem newCompEnv {M : Model} {A : Around} {E : Value -> Shared -> Prop} {s : Shared} {scope : Scope} {globals : Addr} {cl : List (Str × Addr)} {qual : Str} {env : Env} {Q : Env -> Shared -> Prop}
  (hQ : Q { scope, locals := s.heap.objs.size, globals, cells := cellsFrom (s.heap.objs.size + 1) scope.names cl, qual, func := Option.none, code := env.code, frame := env.frame, builtins := env.builtins }
   { s with heap := pushCells (s.heap.push { cls := .type "dict", data := .dict #[] }) scope.names }) : wpAny M A (newFunctionEnv scope globals cl [] qual Option.none .none (some env)) Q E s := by
 simp only [newFunctionEnv, Option.isSome_some, if_true]
 refine wpAny_bind (wpAny_alloc ?_)
 refine wpAny_bind (wpAny_layCells _ (fun name kind cells => by cases hkc : kind == NameKind.cell <;> simp [hkc]) _ _ _ _ ?_)
 rw [show ({ s with heap := s.heap.push { cls := .type "dict", data := .dict #[] } } : Shared).heap.objs.size = s.heap.objs.size + 1 from Heap.size_push ..]
 refine wpAny_bind (wpAny_pure ?_)
 exact wpAny_pure hQ
theorem zck {prog : Program} {w : World} {A : Around} {R : Result -> Shared -> Prop} {s : Shared} {elt : Expr} {gens : List Comprehension} {scope : Scope} {pos : Pos} {d : Nat} {it acc : Value} {env : Env} {t i : Expr} {f : List Expr} (hd : gens[d]? = some ⟨t, i, f, 0⟩)
  (h0 : codeAny (model prog w) A (.compLoop (.ListComp elt gens scope pos) d it acc env) R s)
  (h : wpAny (model prog w) A (pyIter it) (fun it' s' => codeAny (model prog w) A (.compLoop (.ListComp elt gens scope pos) d it' acc env) R s') (notedBy (model prog w) A env fun x s' => R (.error x) s') s) :
  codeAny (model prog w) A (.compStart (.ListComp elt gens scope pos) d it acc env) R s := by
 refine codeAny_of_tree ?_
 show wpAny _ _ ((compStart (.ListComp elt gens scope pos) d it acc env).onRaise (fun x => do noteFrame x env; standAt theWindowsPlace)) _ _ s
 refine wpAny_notedAt ?_
 unfold compStart
 have hc : (clausesOf (.ListComp elt gens scope pos))[d]? = some ⟨t, i, f, 0⟩ := hd
 rw [hc]
 show wpAny _ _ (ask >>= _) _ _ s
 refine wpAny_bind (wpAny_askSetting (wpAny_ite ?_))
 split
 ·first
   | exact wpAny_bind (wpAny_pure (wpAny_pure (And.intro rfl h0)))
   | exact wpAny_pure (And.intro rfl h0)
 ·first
   | exact wpAny_bind (wpAny_rule (wpAny_bind (wpAny_standAt (wpAny_bind (wpAny_mono h (fun it' s' h' => wpAny_pure (And.intro rfl h')) fun _ _ x => x)))))
   | (refine wpAny_bind (wpAny_rule ?_); show wpAny _ _ (standAt i.pos >>= _) _ _ s; exact wpAny_bind (wpAny_standAt (wpAny_bind (wpAny_mono h (fun it' s' h' => wpAny_pure (And.intro rfl h')) fun _ _ x => x))))
section
variable {V : Vis} {h : Nat}
theorem xs_nest {elt target iter : Expr} {gens : List Comprehension} {scope : Scope} {pos : Pos} {d : Nat} {ifs : List Expr} {X : Env -> Value -> Sem Fin -> Sem Fin} {k : TgK} {it : PM (List AV)} {tst : PM Bool} {inner : PM (List AV)} (hg : gens[d]? = some ⟨target, iter, ifs, 0⟩) (hi : SI V h target k iter it) (hs : ∀ env x, foldedSetIterable iter env x = pure x)
  (hd : QJ (.ListComp elt gens scope pos) d target iter ifs X) (t : Zt V target k) (ht : TS V h ifs tst) (hx : XS V h X inner) (h1 : 0 < h := by decide) : XS V h (nestX (.ListComp elt gens scope pos) d iter) (PM.bd it fun xs => ZK k tst inner xs) := by
 intro G K g σ σ' zs ys A env s D vs n r Q E ok hA hE I a hm hl hQ
 obtain ⟨xs, σ₁, e1, e2⟩ := PM.bd_some hm
 have ho : ∀ b ∈ [D], ∃ o, s.heap.get? b = some o := fun b hb => by simp at hb; subst hb; exact ⟨_, a.at_⟩
 unfold nestX
 refine wpAny_bind (wpAny_mono (hi G _ g σ σ₁ xs A env s _ E ok hA.hold hE (I.hold a.off) e1 fun g1 J wr S s1 l1 I1 O1 T1 st1 => ?_) (fun x s₁ h₁ => wpAny_bind (wpAny_standAt (wpAny_bind (wpAny_of_eq (hs env x) (wpAny_bind (wpAny_holding h₁)))))) fun _ _ e => e)
 obtain ⟨I2, O2, k2⟩ := I1.unhold ho a.off.K
 have O3 : Off G wr K g1 := ⟨O1.B, fun b hb o e => O1.K b hb o (.inl e), O1.ρ, O1.vl, O1.P⟩
 have hDw : D ∉ wr := fun hw => O1.K D hw _ (.inr ⟨by simp, a.at_⟩)
 have aD := (k2 D (by simp) _ a.at_).ex (not_dct _ _)
 refine wpAny_bind (wpAny_runOwn (zck hg ?_ (T1.self 0 _ _ _ st1 ?_))) <;>
 exact comp_loop hd ⟨_, _, _, _, rfl⟩ t ht hx ok hA (hE.le l1) I2 O3 hDw ⟨O2, aD, Gh.rvs_le l1 a.rv⟩ T1 st1 e2 hl (fun g' s' vs' n' l' I' a' => hQ g' s' vs' n' (l1.trans l') I' a') h1
noncomputable def zP (slots : List Nat) (it : PM (List AV)) (k : TgK) (tst : PM Bool) (inner : PM (List AV)) : PM (List AV) := PM.bd it fun xs => PM.bd (ZK k tst inner xs) fun zs => fun σ => if zs.length <= 1000 then some (zs, σ.clr slots) else Option.none
noncomputable def yV.vl (c : yV) (C : Addr) (cells : List (Str × Addr)) (old : Nat -> Yb) (i : Nat) : Yb := match c.vars.find? fun x => x.2.1 == i with
 | some (x, _, false) => .loc C x
 | some (x, _, true) => (match cells.lookup x with | some a => .cell a | Option.none => .no)
 | Option.none => old i
theorem find_slot {c : yV} (hd : c.slots.Nodup) {x : Str} {i : Nat} {b : Bool} (hx : (x, i, b) ∈ c.vars) : c.vars.find? (fun x => x.2.1 == i) = some (x, i, b) := by
 unfold yV.slots at hd
 revert hd hx
 generalize c.vars = l
 induction l with
 | nil => intro _ hx; cases hx
 | cons y r ih =>
  intro hd hx
  simp only [List.map_cons, List.nodup_cons] at hd
  rcases List.mem_cons.mp hx with e | hx
  ·subst e; simp
  ·have : (y.2.1 == i) = false := by
    cases e : y.2.1 == i with
    | false => rfl
    | true =>
     have e' : y.2.1 = i := by simpa using e
     exact absurd (List.mem_map.mpr ⟨_, hx, e'.symm⟩) hd.1
   rw [List.find?_cons, this]
   exact ih hd.2 hx
theorem find_none {c : yV} {i : Nat} (h : i ∉ c.slots) : c.vars.find? (fun x => x.2.1 == i) = Option.none := by
 rw [List.find?_eq_none]
 intro x hx e
 exact h (List.mem_map.mpr ⟨x, hx, by simpa using e⟩)
theorem comp_enter {c : yV} (hc : c.Ok V) {elt target iter : Expr} {rest : List Comprehension} {pos : Pos} {ifs : List Expr} {X : Env -> Value -> Sem Fin -> Sem Fin} {k : TgK} {it : PM (List AV)} {tst : PM Bool} {inner : PM (List AV)} (hi : SI V h target k iter it) (hs : ∀ env x, foldedSetIterable iter env x = pure x)
  (hd : QJ (.ListComp elt (⟨target, iter, ifs, 0⟩ :: rest) c.scope pos) 0 target iter ifs X) (t : Zt (c.vis V) target k) (ht : TS (c.vis V) h ifs tst) (hx : XS (c.vis V) h X inner)
  {G : GC} {K : Kx} {g : Gh} {σ σ' : St} {zs : List AV} {A : Around} {env : Env} {s : Shared} {use : Option (Value -> Sem Unit)} {Q : Value -> Shared -> Prop} {E : Value -> Shared -> Prop} {cpos : Pos} (ok : G.Ok) (hA : AOk h A K) (hE : EOk V G g.vl env) (I : Wf G K g σ s)
  (hm : zP c.slots it k tst inner σ = some (zs, σ'))
  (hQ : ∀ g' s' D vs n C m, g.le g' -> Wf G K g' σ' s' -> Acc G K g' s' D zs vs n -> Off G [C] K g' -> s'.heap.Ns C m -> C ≠ D -> compPost (model G.prog G.w) A E use Q (.ref D) C (.ok .next) s') (h1 : 0 < h := by decide) :
  wpAny (model G.prog G.w) A (comprehension (.ListComp elt (⟨target, iter, ifs, 0⟩ :: rest) c.scope pos) c.scope env cpos (newList []) false (eval iter env) use) Q E s := by
 obtain ⟨xs, σ₁, e1, e4⟩ := PM.bd_some hm
 have hk82 := PM.bd_some e4; obtain ⟨zs', σ₂, e2, e3⟩ := hk82
 clear e4
 split at e3
 case isFalse => cases e3
 rename_i hz
 cases (e3)
 have hfc : ∀ x i, (x, i) ∈ c.fre -> ∃ a, env.cells.lookup x = some a /\ g.vl i = .cell a := fun x i hx => by
  obtain ⟨_, h2, h3⟩ := hc.fre x i hx
  rcases hE.nm x i h2 with ⟨h4, _⟩ | ⟨_, h4⟩
  ·rcases hE.cp x h3 with h5 | h5 <;> rw [h4] at h5 <;> cases h5
  ·exact h4
 have hclos : closureFor c.scope env = pure (clo env c.scope.names []) := closureFor_eq fun x hx => by
  obtain ⟨i, hi⟩ := hc.allfre x hx
  obtain ⟨a, ha, _⟩ := hfc x i hi
  exact ⟨a, ha⟩
 refine wpAny_comprehension_free (g := ⟨target, iter, ifs, 0⟩) (gs := rest) rfl (hs env) hclos hc.kind (fun x hx hl => zB (by rw [<- hl]; exact hx) hc.names) (hi G K g σ σ₁ xs A env s _ E ok hA hE I e1 fun g1 J wr S s1 l1 I1 O1 T1 st1 => ?_)
 refine wpAny_newObj_type (newCompEnv ?_)
 dsimp only
 have hg1 : g1.vl = g.vl := l1.vl
 -- the new heap
 generalize hH2 : s1.heap.push { cls := .type "list", dict := none, data := .seq ([] : List Value).toArray } = H2
 have sz2 : H2.objs.size = s1.heap.objs.size + 1 := by rw [<- hH2, Heap.size_push]
 generalize hH3 : H2.push { cls := .type "dict", data := .dict #[] } = H3
 have sz3 : H3.objs.size = s1.heap.objs.size + 2 := by rw [<- hH3, Heap.size_push, sz2]
 generalize hH4 : pushCells H3 c.scope.names = H4
 have up2 : ∀ b o, s1.heap.get? b = some o -> H2.get? b = some o := fun b o e => hH2 ▸ Heap.get?_push_of_some _ e
 have up3 : ∀ b o, H2.get? b = some o -> H3.get? b = some o := fun b o e => hH3 ▸ Heap.get?_push_of_some _ e
 have up4 : ∀ b o, H3.get? b = some o -> H4.get? b = some o := fun b o e => hH4 ▸ pushCells_keeps _ _ b o e
 have up : ∀ b o, s1.heap.get? b = some o -> H4.get? b = some o := fun b o e => up4 _ _ (up3 _ _ (up2 _ _ e))
 have hD : H4.get? s1.heap.objs.size = some (zM [] 0) := up4 _ _ (up3 _ _ (hH2 ▸ Heap.get?_push_size _ rfl))
 have hC : H4.Ns H2.objs.size (fun _ => Option.none) := by
  have := (Heap.Ns.new H2 (.type "dict")).keeps (h' := H4) (fun b o e => up4 b o (hH3 ▸ e))
  exact this
 have cok := cellsFrom_ok c.scope.names H3 H3.objs.size [] ⟨fun _ _ hm => (nomatch hm), List.Pairwise.nil⟩ (Nat.le_refl _)
 rw [hH4] at cok
 have sz3' : H2.objs.size + 1 = H3.objs.size := by omega
 rw [sz3', YD]
 generalize hcs : cellsFrom H3.objs.size c.scope.names [] = cs at cok
 -- the addresses of the comprehension's names
 have hcell : ∀ x, (x, NameKind.cell) ∈ c.scope.names -> ∃ a, cs.lookup x = some a /\ H4.IsCell a Option.none /\ H3.objs.size <= a := fun x hx => by
  have := yS c.scope.names H3.objs.size [] x (.inl (zB hx hc.names))
  rw [hcs] at this
  obtain ⟨a, ha⟩ := Option.isSome_iff_exists.mp this
  obtain ⟨p1, p2⟩ := cok.empty x a (mem_of_lookup ha)
  exact ⟨a, ha, p1, p2⟩
 have hfre : ∀ x, (x, NameKind.free) ∈ c.scope.names -> cs.lookup x = Option.none := fun x hx => by
  have := Qf c.scope.names H3.objs.size [] x fun k hk => by
   have h1 := zB hx hc.names
   have h2 := zB hk hc.names
   rw [h1] at h2; cases h2; decide
  rw [hcs] at this
  simpa using this
 let vl' := c.vl H2.objs.size cs g.vl
 have vl_var : ∀ x i b, (x, i, b) ∈ c.vars -> vl' i = (match b with | false => .loc H2.objs.size x | true => (match cs.lookup x with | some a => .cell a | Option.none => .no)) := fun x i b hx => by
  show c.vl _ _ _ i = _
  unfold yV.vl
  rw [find_slot hc.vslots hx]
  cases b <;> rfl
 have vl_old : ∀ i, i ∉ c.slots -> vl' i = g.vl i := fun i hi => by
  show c.vl _ _ _ i = _
  unfold yV.vl
  rw [find_none hi]
 have vl_slot : ∀ i, i ∈ c.slots -> g.vl i = .no := fun i hi => hE.fs i (hc.fs i hi)
 have vl_addr : ∀ i a, (vl' i).addr = some a -> (g.vl i).addr = some a ∨ (@Eq Nat a H2.objs.size ∨ @LE.le Nat _ H3.objs.size a) := fun i a e => by
  by_cases hi : i ∈ c.slots
  ·obtain ⟨⟨x, i', b⟩, hx, rfl⟩ := List.mem_map.mp hi
   rw [vl_var x i' b hx] at e
   cases b with
   | false => cases e; exact .inr (.inl rfl)
   | true =>
    obtain ⟨a', h1, _, h3⟩ := hcell x (hc.var x i' true hx)
    simp only [h1] at e; cases e
    exact .inr (.inr h3)
  ·rw [vl_old i hi] at e; exact .inl e
 have below : ∀ b o, s1.heap.get? b = some o -> @LT.lt Nat _ b s1.heap.objs.size := fun b o e => Heap.lt_size e
 have I2 : Wf G K { g1 with vl := vl' } σ₁ { s1 with heap := H4 } := by
  refine I1.open_ s1.toks up vl' (fun i => ?_) fun i j hij h1 h2 e => ?_
  ·by_cases hi : i ∈ c.slots
   ·right
    refine ⟨by rw [hg1]; exact vl_slot i hi, fun a ha => ?_, ?_⟩
    ·rcases vl_addr i a ha with h | h
     ·rw [vl_slot i hi] at h; cases h
     ·exact yi (show @LE.le Nat _ _ _ by omega)
    ·obtain ⟨⟨x, i', b⟩, hx, rfl⟩ := List.mem_map.mp hi
     rw [vl_var x i' b hx]
     cases b with
     | false => exact ⟨_, hC, fun av e => nomatch e⟩
     | true =>
      obtain ⟨a', h1, h2, _⟩ := hcell x (hc.var x i' true hx)
      simp only [h1]
      exact ⟨_, h2, fun av e => nomatch e⟩
   ·left; rw [hg1]; exact vl_old i hi
  ·by_cases hi : i ∈ c.slots
   ·by_cases hj : j ∈ c.slots
    ·exfalso
     obtain ⟨⟨x, i', b⟩, hx, rfl⟩ := List.mem_map.mp hi
     obtain ⟨⟨y, j', b'⟩, hy, rfl⟩ := List.mem_map.mp hj
     rw [vl_var x i' b hx, vl_var y j' b' hy] at e
     have hne : x ≠ y := fun exy => by
      subst exy
      have h1 := zB (α := Nat × Bool) hx hc.vnames
      have h2 := zB (α := Nat × Bool) hy hc.vnames
      rw [h1] at h2; cases h2; exact hij rfl
     cases b with
     | false => cases b' with
      | false => cases e; exact hne rfl
      | true =>
       obtain ⟨a', h1, _⟩ := hcell y (hc.var y j' true hy)
       simp only [h1] at e; cases e
     | true =>
      obtain ⟨a, h1, _⟩ := hcell x (hc.var x i' true hx)
      cases b' with
      | false => simp only [h1] at e; cases e
      | true =>
       obtain ⟨a', h1', _⟩ := hcell y (hc.var y j' true hy)
       simp only [h1, h1'] at e; cases e
       exact hne (name_of_addr cok.apart (mem_of_lookup h1) (mem_of_lookup h1'))
    ·rw [e, vl_old j hj]; rw [hg1] at h2; exact h2
   ·rw [vl_old i hi]; rw [hg1] at h1; exact h1
 have hfD := zH s1.heap
 have frD := I1.fresh_of_none hfD
 have aD : Acc G K { g1 with vl := vl' } { s1 with heap := H4 } s1.heap.objs.size [] [] 0 := by
  refine ⟨⟨fun b hb o e => ?_, fun b hb o e => ?_, fun b hb => ?_, fun b hb i hi => ?_, fun b hb => ?_⟩, hD, .nil⟩ <;> simp at hb <;> subst hb
  ·have := I1.hB _ _ e; rw [hfD] at this; cases this
  ·obtain ⟨_, this⟩ := (I1.hK _ _ e).some; rw [hfD] at this; cases this
  ·exact frD.1
  ·rcases vl_addr i _ hi with h | h
   ·exact frD.2.1 i (by rw [hg1]; exact h)
   ·omega
  ·exact frD.2.2
 have hown := T1.own _ _ st1
 have O2 : Off G wr K { g1 with vl := vl' } := ⟨O1.B, O1.K, O1.ρ, fun b hb i hi => by
  have hk214 := hown b hb; obtain ⟨o, ho, _⟩ := hk214
  rcases vl_addr i b hi with h | h
  ·exact O1.vl b hb i (by rw [hg1]; exact h)
  ·have := below b o ho; omega, O1.P⟩
 have hDw : s1.heap.objs.size ∉ wr := fun hw => by
  obtain ⟨o, ho, _⟩ := hown _ hw
  rw [hfD] at ho; cases ho
 have T2 : Trn G.prog G.w A target J wr { g1 with vl := vl' } k xs S := ⟨T1.frame, T1.own, T1.item, T1.done, T1.self⟩
 have st2 : S 0 H4 := T1.frame _ _ _ st1 (fun b o e => up b o (I1.hB b o e)) fun b hb o e => up b o e
 have hE2 : EOk (c.vis V) G vl' { scope := relabel c.scope env, locals := H2.objs.size, globals := env.globals, cells := cs ++ clo env c.scope.names [], qual := env.qual, func := Option.none, code := env.code, frame := env.frame, builtins := env.builtins } := by
  have kloc : ∀ x, (x, NameKind.local) ∈ c.scope.names -> (relabel c.scope env).names.lookup x = some .local := fun x hx => lookup_relabel_local (zB hx hc.names)
  have kkeep : ∀ (x : Str) (kd : NameKind), kd ≠ .free -> (x, kd) ∈ c.scope.names -> (relabel c.scope env).names.lookup x = some kd := fun x kd hk hx => by
   refine zB ?_ ?_
   ·refine List.mem_map.mpr ⟨(x, kd), hx, ?_⟩
    have : (kd == NameKind.free) = false := by simpa using hk
    simp [this]
   ·have : ((relabel c.scope env).names.map (·.1)) = c.scope.names.map (·.1) := by
     show (List.map _ c.scope.names).map _ = _
     rw [List.map_map]
     apply List.map_congr_left
     rintro ⟨n, kd⟩ _
     simp only [Function.comp]
     split <;> rfl
    rw [this]; exact hc.names
  have kfree : ∀ (x : Str), (x, NameKind.free) ∈ c.scope.names -> (relabel c.scope env).names.lookup x = some .cell ∨ (relabel c.scope env).names.lookup x = some .free := fun x hx => by
   have nd : ((relabel c.scope env).names.map (·.1)).Nodup := by
    have : ((relabel c.scope env).names.map (·.1)) = c.scope.names.map (·.1) := by
     show (List.map _ c.scope.names).map _ = _
     rw [List.map_map]
     apply List.map_congr_left
     rintro ⟨n, kd⟩ _
     simp only [Function.comp]
     split <;> rfl
    rw [this]; exact hc.names
   by_cases hb : ((NameKind.free == NameKind.free) && env.scope.kind == .function && env.kindOf x == some .cell) = true
   ·left
    refine zB (List.mem_map.mpr ⟨(x, .free), hx, ?_⟩) nd
    simp only [hb, if_true]
   ·right
    refine zB (List.mem_map.mpr ⟨(x, .free), hx, ?_⟩) nd
    simp only [hb, Bool.false_eq_true, if_false]
  exact {
   kind := hc.kind
   globals := hE.globals
   builtins := hE.builtins
   nm := fun x i hx => by
    rcases List.mem_append.mp hx with hx | hx
    ·obtain ⟨⟨x', i', b⟩, hv, he⟩ := List.mem_map.mp hx
     have q1 : x' = x := congrArg Prod.fst he
     have q2 : i' = i := congrArg Prod.snd he
     rw [q1, q2] at hv
     cases b with
     | false => exact .inl ⟨kloc x (hc.var x i false hv), vl_var x i false hv⟩
     | true =>
      obtain ⟨a, h1, _⟩ := hcell x (hc.var x i true hv)
      refine .inr ⟨.inl (kkeep x .cell (by decide) (hc.var x i true hv)), a, lookup_append h1, ?_⟩
      rw [vl_var x i true hv]; simp only [h1]
    ·have hk271 := hc.fre x i hx; obtain ⟨h1, h2, h3⟩ := hk271
     obtain ⟨a, ha, hv⟩ := hfc x i hx
     have hl : (cs ++ clo env c.scope.names []).lookup x = some a := by
      rw [List.lookup_append, hfre x h1, clo_at _ _ x a h1 hc.names ha]; rfl
     have hi : i ∉ c.slots := fun hi => by rw [vl_slot i hi] at hv; cases hv
     refine .inr ⟨kfree x h1, a, hl, ?_⟩
     rw [vl_old i hi]; exact hv
   gl := fun x hx => kkeep x .globalImplicit (by decide) (hc.gl x hx)
   lc := fun x hx => nomatch hx
   cc := fun x hx => nomatch hx
   cp := fun x hx => by
    rcases List.mem_append.mp hx with hx | hx
    ·obtain ⟨⟨x', i⟩, hv, rfl⟩ := List.mem_map.mp hx
     exact kfree x' (hc.fre x' i hv).1
    ·obtain ⟨⟨x', i, b⟩, hv, rfl⟩ := List.mem_map.mp hx
     obtain ⟨hv, hb⟩ := List.mem_filter.mp hv
     have : b = true := hb
     subst this
     exact .inl (kkeep x' .cell (by decide) (hc.var x' i true hv))
   fs := fun i hi => by
    obtain ⟨h1, h2⟩ := List.mem_filter.mp hi
    have : i ∉ c.slots := by simpa using h2
    rw [vl_old i this]; exact hE.fs i h1
   cx := trivial }
 obtain ⟨x0, i0, hx0⟩ := hc.has
 have v0 : vl' i0 = .loc H2.objs.size x0 := vl_var x0 i0 false hx0
 have fin : ∀ g3 s' vs' n', Gh.le { g1 with vl := vl' } g3 -> Wf G K g3 σ₂ s' -> Acc G K g3 s' s1.heap.objs.size ([] ++ zs) vs' n' -> compPost (model G.prog G.w) A E use Q (.ref s1.heap.objs.size) H2.objs.size (.ok .next) s' := by
  intro g3 s' vs' n' l3 I3 a3
  have e3 : g3.vl = vl' := l3.vl
  have k0 := I3.fr i0
  rw [e3, v0] at k0
  obtain ⟨m, hn, _⟩ := k0
  have hC3 : ∀ i, (g.vl i).addr ≠ some H2.objs.size := fun i hi => by
   obtain ⟨o, ho⟩ := Yb.exists_of I1 (i := i) (a := H2.objs.size) (by rw [hg1]; exact hi)
   have := below _ _ ho; omega
  have I4 := I3.close_ g.vl c.slots (fun i hi => by rw [e3]; exact vl_old i hi) vl_slot (by obtain ⟨i, x, e⟩ := I1.has; exact ⟨i, x, by rw [<- hg1]; exact e⟩)
  have c0 : (g3.vl i0).addr = some H2.objs.size := by rw [e3, v0]; rfl
  have hCd : ∀ b ∈ [H2.objs.size], b = H2.objs.size := fun b hb => by simpa using hb
  refine hQ { g3 with vl := g.vl } s' _ vs' n' _ m ⟨fun b o e => l3.B b o (l1.B b o e), fun n b e => l3.ρ n b (l1.ρ n b e), rfl⟩ I4 ⟨⟨a3.off.B, a3.off.K, a3.off.ρ, fun b hb i hi => ?_, a3.off.P⟩, a3.at_, a3.rv⟩ ⟨fun b hb o e => ?_, fun b hb o e => ?_, fun b hb n e => ?_, fun b hb i => ?_, fun b hb e => ?_⟩ hn (show @Ne Nat _ _ by omega)
  ·have hi' : (g3.vl i).addr = some b := by
    by_cases hs : i ∈ c.slots
    ·have e : (g.vl i).addr = some b := hi
     rw [vl_slot i hs] at e; cases e
    ·rw [e3, vl_old i hs]; exact hi
   exact a3.off.vl b hb i hi'
  ·rw [hCd b hb] at e; exact (I3.dB _ _ e).2.1 i0 c0
  ·rw [hCd b hb] at e; exact (I3.dK _ _ e).2.1 i0 c0
  ·rw [hCd b hb] at e; exact I3.dv n i0 _ e c0
  ·rw [hCd b hb]; exact hC3 i
  ·rw [hCd b hb] at e; exact I3.dP.2 i0 (e ▸ c0)
 refine zck (t := target) (i := iter) (f := ifs) rfl ?_ (T2.self 0 _ _ _ st2 ?_) <;>
 exact comp_loop hd ⟨_, _, _, _, rfl⟩ t ht hx ok hA hE2 I2 O2 hDw aD T2 st2 e2 (by simp; omega) fin h1
end
section
variable {V : Vis} {h : Nat}
noncomputable def lcF (m : PM (List AV)) : PM AV := PM.bd m fun xs => PM.ok (.lst xs)
noncomputable def lcM (m : PM (List AV)) : PM AV := PM.bd m fun xs => fun σ => some (.loc σ.st.length, { σ with st := σ.st ++ [.lst xs] })
noncomputable def lcK (mu : Bool) (m : PM (List AV)) : PM AV := match mu with | true => lcM m | false => lcF m
noncomputable def lcE (mu : Bool) (σ : St) (zs : List AV) : Option (AV × St) := match mu with | true => some (AV.loc σ.st.length, ({ σ with st := σ.st ++ [.lst zs] } : St)) | false => some (.lst zs, σ)
theorem acc_end {G : GC} {K : Kx} {g : Gh} {σ σ' : St} {s : Shared} {D : Addr} {zs : List AV} {vs : List Value} {n : Nat} {mu : Bool} {v : AV} (I : Wf G K g σ s) (a : Acc G K g s D zs vs n) (hm : lcE mu σ zs = some (v, σ')) :
  ∃ g', g.le g' /\ Wf G K g' σ' s /\ g'.rv v (.ref D) := by
 cases mu with
 | true => cases hm; exact I.ownL a
 | false => cases hm; exact I.keepL a
theorem lcK_some {mu : Bool} {m : PM (List AV)} {σ σ' : St} {v : AV} (h : lcK mu m σ = some (v, σ')) : ∃ zs σ₁, m σ = some (zs, σ₁) /\ lcE mu σ₁ zs = some (v, σ') := by
 cases mu <;> obtain ⟨zs, σ₁, e1, e2⟩ := PM.bd_some h <;> exact ⟨zs, σ₁, e1, e2⟩
theorem Yi (mu : Bool) {c : yV} (hc : c.Ok V) {elt target iter : Expr} {rest : List Comprehension} {pos : Pos} {ifs : List Expr} {X : Env -> Value -> Sem Fin -> Sem Fin} {k : TgK} {it : PM (List AV)} {tst : PM Bool} {inner : PM (List AV)} (hi : SI V h target k iter it) (hs : ∀ env x, foldedSetIterable iter env x = pure x)
  (hd : QJ (.ListComp elt (⟨target, iter, ifs, 0⟩ :: rest) c.scope pos) 0 target iter ifs X) (t : Zt (c.vis V) target k) (ht : TS (c.vis V) h ifs tst) (hx : XS (c.vis V) h X inner) (h1 : 0 < h := by decide) :
  SE V h (.ListComp elt (⟨target, iter, ifs, 0⟩ :: rest) c.scope pos) (lcK mu (zP c.slots it k tst inner)) := by
 intro G K g σ σ' b A env s Q E ok hA hE I hm hQ
 obtain ⟨zs, σ₁, e1, e2⟩ := lcK_some hm
 show wpAny _ A (eval _ env) Q E s
 rw [eval_ListComp]
 refine comp_enter (use := Option.none) hc hi hs hd t ht hx ok hA hE I e1 (fun g' s' D vs n C m l' I' a' O' hn hCD => ?_) h1
 refine ⟨m, hn, fun h' hs' => ?_⟩
 have I2 := I'.off O' s'.toks (h' := h') fun b o hb e => (hs'.2 b fun e' => hb (by simp [e'])).trans e
 obtain ⟨g3, l3, I3, r3⟩ := acc_end I2 (⟨a'.off, (hs'.2 D (Ne.symm hCD)).trans a'.at_, a'.rv⟩ : Acc G K g' { s' with heap := h' } D zs vs n) e2
 exact hQ g3 _ _ (l'.trans l3) I3 r3
theorem YY (mu : Bool) {c : yV} (hc : c.Ok V) {elt target iter : Expr} {rest : List Comprehension} {y : Str} {i : Nat} {py pos spos : Pos} {ifs : List Expr} {X : Env -> Value -> Sem Fin -> Sem Fin} {k : TgK} {it : PM (List AV)} {tst : PM Bool} {inner : PM (List AV)} (hy : (y, i) ∈ V.nm) (hi : SI V h target k iter it) (hs : ∀ env x, foldedSetIterable iter env x = pure x)
  (hd : QJ (.ListComp elt (⟨target, iter, ifs, 0⟩ :: rest) c.scope pos) 0 target iter ifs X) (t : Zt (c.vis V) target k) (ht : TS (c.vis V) h ifs tst) (hx : XS (c.vis V) h X inner)
  (hsw : ∀ env G vl, EOk V G vl env -> swapsWith (.ListComp elt (⟨target, iter, ifs, 0⟩ :: rest) c.scope pos) (some (.Name y py)) spos.line env = pure true) (h1 : 0 < h := by decide) :
  SS V h (.Assign [.Name y py] (.ListComp elt (⟨target, iter, ifs, 0⟩ :: rest) c.scope pos) spos) (zr i (lcK mu (zP c.slots it k tst inner))) := by
 intro G K g σ σ' b A env s Q E ok hA hE I hm hQ
 obtain ⟨v, σ₂, e0, e9⟩ := PM.bd_some hm
 cases e9
 obtain ⟨zs, σ₁, e1, e2⟩ := lcK_some e0
 show wpAny _ A (exec _ env) Q E s
 rw [exec_Assign_Name_used _ _ _ _ (hsw env G g.vl hE)]
 refine wpAny_bind (wpAny_standAt (wpAny_bind ?_))
 show wpAny _ A (do let _ <- comprehension (.ListComp elt (⟨target, iter, ifs, 0⟩ :: rest) c.scope pos) c.scope env _ (newList []) false (eval iter env) (some (assign (.Name y py) env))) _ _ s
 refine wpAny_bind (wpAny_mono (comp_enter (use := some (assign (.Name y py) env)) (Q := fun _ s' => Q .next s') (E := E) hc hi hs hd t ht hx ok hA hE I e1 (fun g' s' D vs n C m l' I' a' O' hn hCD => ?_) h1) (fun _ s' hq => wpAny_pure (wpAny_pure hq)) fun _ _ e => e)
 show wpAny _ A (assign (.Name y py) env (.ref D)) _ _ _
 have hoC : ∀ b ∈ [C], ∃ o, s'.heap.get? b = some o := fun b hb => by simp at hb; subst hb; obtain ⟨o, _, _, ho, _⟩ := hn; exact ⟨o, ho⟩
 have I2 := I'.hold O'
 have a2 : Acc G (Hold K [C] s'.heap) g' s' D zs vs n := ⟨⟨a'.off.B, fun b hb o e => e.elim (a'.off.K b hb o) fun e => by
  have h1 : b = D := by simpa using hb
  have h2 : b = C := by simpa using e.1
  exact hCD (h2 ▸ h1), a'.off.ρ, a'.off.vl, a'.off.P⟩, a'.at_, a'.rv⟩
 obtain ⟨g3, l3, I3, r3⟩ := acc_end I2 a2 e2
 refine assign_Name (XW hy (hE.le (l'.trans l3)) I3 r3 fun s4 I4 => ?_)
 obtain ⟨I5, O5, k5⟩ := I4.unhold hoC O'.K
 refine ⟨m, ns_slots hn fun o e => (k5 C (by simp) o e).up, fun h' hs' => ?_⟩
 exact hQ g3 _ _ (l'.trans l3) (I5.off O5 s4.toks fun b o hb e => (hs'.2 b fun e' => hb (by simp [e'])).trans e) rfl
end
mutual
noncomputable def AV.py : AV -> Option PyData
 | .none => some .none
 | .bool b => some (.bool b)
 | .int i => some (.int i)
 | .str l => some (.str ⟨l.toArray⟩)
 | .tup xs => (AV.pys xs).map .tuple
 | .lst xs => (AV.pys xs).map .list
 | .loc _ => Option.none
 | .app _ => Option.none
 | .dct _ => Option.none
noncomputable def AV.pys : List AV -> Option (List PyData)
 | [] => some []
 | x :: xs => (AV.py x).bind fun d => (AV.pys xs).map (d :: ·)
end
theorem pyA : AV.none.py = some .none := rfl
theorem pyB (b : Bool) : (AV.bool b).py = some (.bool b) := rfl
theorem pyC (i : Int) : (AV.int i).py = some (.int i) := rfl
theorem pyD (l : List Nat) : (AV.str l).py = some (.str ⟨l.toArray⟩) := rfl
theorem pyE (xs : List AV) : (AV.tup xs).py = (AV.pys xs).map .tuple := rfl
theorem pyF (xs : List AV) : (AV.lst xs).py = (AV.pys xs).map .list := rfl
theorem pyG : AV.pys [] = some [] := rfl
theorem pyH (x : AV) (xs : List AV) : AV.pys (x :: xs) = (AV.py x).bind fun d => (AV.pys xs).map (d :: ·) := rfl
mutual
theorem RV.reads {B : Fz} {ρ : List Addr} {h : Heap} (hB : ∀ b o, B b o -> h.get? b = some o) : ∀ (x : AV) (v : Value) (d : PyData), RV B ρ x v -> x.py = some d -> ∃ as, Reads h v d as
 | .none, v, d, r, e => by simp only [rvA] at r; cases e; subst r; exact ⟨_, .none⟩
 | .bool b, v, d, r, e => by simp only [rvB] at r; cases e; subst r; exact ⟨_, .bool b⟩
 | .int i, v, d, r, e => by simp only [rvC] at r; cases e; obtain ⟨t, rfl⟩ := r; exact ⟨_, .int i t⟩
 | .str l, v, d, r, e => by simp only [rvD] at r; cases e; obtain ⟨t, rfl⟩ := r; exact ⟨_, .str _ t⟩
 | .tup xs, v, d, r, e => by
  obtain ⟨a, vs, n, rfl, hb, hr⟩ := r
  obtain ⟨ds, e2, rfl⟩ := Option.map_eq_some_iff.mp e
  obtain ⟨as, ra⟩ := RVs.reads hB xs vs ds hr e2
  exact ⟨_, .tuple (hB _ _ hb) rfl rfl (by simpa using ra)⟩
 | .lst xs, v, d, r, e => by
  obtain ⟨a, vs, n, rfl, hb, hr⟩ := r
  obtain ⟨ds, e2, rfl⟩ := Option.map_eq_some_iff.mp e
  obtain ⟨as, ra⟩ := RVs.reads hB xs vs ds hr e2
  exact ⟨_, .list (hB _ _ hb) rfl rfl (by simpa using ra)⟩
 | .loc _, _, _, _, e => by cases e
 | .app _, _, _, _, e => by cases e
 | .dct _, _, _, _, e => by cases e
theorem RVs.reads {B : Fz} {ρ : List Addr} {h : Heap} (hB : ∀ b o, B b o -> h.get? b = some o) : ∀ (xs : List AV) (vs : List Value) (ds : List PyData), RVs B ρ xs vs -> AV.pys xs = some ds -> ∃ as, ReadsAll h vs ds as
 | [], vs, ds, r, e => by simp only [rvJ, rvK] at r; cases e; subst r; exact ⟨_, .nil⟩
 | x :: xs, vs, ds, r, e => by
  obtain ⟨v, vs', rfl, h1, h2⟩ := r
  obtain ⟨d, e1, e⟩ := bS e
  obtain ⟨ds', e2, rfl⟩ := Option.map_eq_some_iff.mp e
  obtain ⟨as, ra⟩ := RV.reads hB x v d h1 e1
  obtain ⟨bs, rb⟩ := RVs.reads hB xs vs' ds' h2 e2
  exact ⟨_, .cons ra rb⟩
end
open PySem.SeqAt in
noncomputable def pyEq (a b : AV) : Option Bool := a.py.bind fun d => b.py.bind fun e => if shaped d && shaped e then some (PyData.eqv d e) else Option.none
noncomputable def eqD (σ : St) (a b : AV) : Option Bool := match eqF σ a b with
 | some r => some r
 | Option.none => pyEq a b
noncomputable def neD (σ : St) (a b : AV) : Option Bool := match neF σ a b with
 | some r => some r
 | Option.none => (pyEq a b).map (!·)
noncomputable def inP (a b : AV) : Option Bool := a.py.bind fun d => b.py.bind fun e => match e with
  | .list es => if SeqAt.shaped d && SeqAt.shaped (.list es) then some (es.any fun y => PyData.eqv y d) else Option.none
  | .tuple es => if SeqAt.shaped d && SeqAt.shaped (.tuple es) then some (es.any fun y => PyData.eqv y d) else Option.none
  | _ => Option.none
noncomputable def inD (_ : St) (a b : AV) : Option Bool := match b with
 | .str y => a.s?.bind fun s => (one? s).bind fun c => some (decide (c ∈ y))
 | b => inP a b
noncomputable def ninD (σ : St) (a b : AV) : Option Bool := (inD σ a b).map (!·)
section
variable {V : Vis} {h : Nat}
theorem AOk.room64 {K : Kx} {A : Around} (x : AOk h A K) : A.units + 64 < cLine := by have := x.units; show A.units + 64 < 9900; omega
theorem yu : Cmp h .Eq eqD := by
 intro G K g σ a b r va vb A s Q E ok hA I ra rb hf hQ
 obtain ⟨c, hf', rfl⟩ := Option.map_eq_some_iff.mp hf
 unfold eqD at hf'
 split at hf'
 ·rename_i r e; cases (hf')
  exact c_eq G K g σ a b (.bool c) va vb A s Q E ok hA I ra rb (by show Option.map _ _ = _; rw [e]; rfl) hQ
 ·obtain ⟨d, e1, hf'⟩ := bS hf'
  obtain ⟨e, e2, hf'⟩ := bS hf'
  obtain ⟨hs, hf'⟩ := iS hf'
  cases hf'
  rw [Bool.and_eq_true] at hs
  obtain ⟨as, r1⟩ := RV.reads I.hB _ _ _ ra e1
  obtain ⟨bs, r2⟩ := RV.reads I.hB _ _ _ rb e2
  exact SeqAt.compareEq_shaped r1 r2 hs.1 hs.2 hA.room64 (hQ g _ s g.le_refl I (yD.mpr rfl))
theorem c_neD : Cmp h .NotEq neD := by
 intro G K g σ a b r va vb A s Q E ok hA I ra rb hf hQ
 obtain ⟨c, hf', rfl⟩ := Option.map_eq_some_iff.mp hf
 unfold neD at hf'
 split at hf'
 ·rename_i r e; cases (hf')
  exact c_ne G K g σ a b (.bool c) va vb A s Q E ok hA I ra rb (by show Option.map _ _ = _; rw [e]; rfl) hQ
 ·obtain ⟨z, hz, rfl⟩ := Option.map_eq_some_iff.mp hf'
  obtain ⟨d, e1, hz⟩ := bS hz
  obtain ⟨e, e2, hz⟩ := bS hz
  obtain ⟨hs, hz⟩ := iS hz
  cases hz
  rw [Bool.and_eq_true] at hs
  obtain ⟨as, r1⟩ := RV.reads I.hB _ _ _ ra e1
  obtain ⟨bs, r2⟩ := RV.reads I.hB _ _ _ rb e2
  exact SeqAt.compareNe_shaped r1 r2 hs.1 hs.2 hA.room64 (hQ g _ s g.le_refl I (yD.mpr rfl))
theorem in_room {K : Kx} {A : Around} {d : PyData} {es : List PyData} (hA : AOk h A K) (h1 : SeqAt.shaped d = true) : A.units + 1 + min (PyData.depthAll es) d.depth < cLine := by
 have h3 := SeqAt.depth_of_shaped h1
 have h4 := hA.units
 have h5 : min (PyData.depthAll es) d.depth <= d.depth := Nat.min_le_right _ _
 show _ < 9900
 omega
theorem in_okD {G : GC} {K : Kx} {g : Gh} {σ : St} {a b : AV} {va vb : Value} {A : Around} {s : Shared} {Q : Value -> Shared -> Prop} {E : Value -> Shared -> Prop} {c : Bool} (hA : AOk h A K) (I : Wf G K g σ s) (ra : g.rv a va) (rb : g.rv b vb) (hf : inD σ a b = some c) :
  (Q (.bool c) s -> wpAny (model G.prog G.w) A (compareOp .In va vb) Q E s) /\ (Q (.bool (!c)) s -> wpAny (model G.prog G.w) A (compareOp .NotIn va vb) Q E s) := by
 have gen : ∀ a b, g.rv a va -> g.rv b vb -> inP a b = some c -> (Q (.bool c) s -> wpAny (model G.prog G.w) A (compareOp .In va vb) Q E s) /\ (Q (.bool (!c)) s -> wpAny (model G.prog G.w) A (compareOp .NotIn va vb) Q E s) := by
  intro a b ra rb hf
  obtain ⟨d, e1, hf⟩ := bS hf
  obtain ⟨e, e2, hf⟩ := bS hf
  cases e with
  | list es =>
   obtain ⟨hs, hf⟩ := iS hf
   cases hf
   rw [Bool.and_eq_true] at hs
   obtain ⟨as, r1⟩ := RV.reads I.hB _ _ _ ra e1
   obtain ⟨bs, r2⟩ := RV.reads I.hB _ _ _ rb e2
   have hl : PyData.canLayAll0 es = true := by have := SeqAt.canLay_of_shaped hs.2; simpa [PyData.canLay0] using this
   exact ⟨fun q => SeqAt.in_list_reads r2 r1 hl (SeqAt.canLay_of_shaped hs.1) (in_room hA hs.1) q, fun q => SeqAt.notIn_list_reads r2 r1 hl (SeqAt.canLay_of_shaped hs.1) (in_room hA hs.1) q⟩
  | tuple es =>
   obtain ⟨hs, hf⟩ := iS hf
   cases hf
   rw [Bool.and_eq_true] at hs
   obtain ⟨as, r1⟩ := RV.reads I.hB _ _ _ ra e1
   obtain ⟨bs, r2⟩ := RV.reads I.hB _ _ _ rb e2
   have hl : PyData.canLayAll0 es = true := by have := SeqAt.canLay_of_shaped hs.2; simpa [PyData.canLay0] using this
   exact ⟨fun q => SeqAt.in_tuple_reads r2 r1 hl (SeqAt.canLay_of_shaped hs.1) (in_room hA hs.1) q, fun q => SeqAt.notIn_tuple_reads r2 r1 hl (SeqAt.canLay_of_shaped hs.1) (in_room hA hs.1) q⟩
  | _ => exact nn hf
 cases b with
 | str y =>
  obtain ⟨l, e1, hf⟩ := bS hf
  obtain ⟨k, e2, hf⟩ := bS hf
  obtain rfl := AV.str_of e1
  obtain rfl := Xu e2
  obtain rfl := Option.some.inj hf
  obtain ⟨t, rfl⟩ := zX.mp ra
  obtain ⟨u, rfl⟩ := zX.mp rb
  have e1 := StrLaws.found_one ⟨y.toArray⟩ k
  exact ⟨fun q => P.in_str (by rw [show (⟨[k].toArray⟩ : Str) = ⟨#[k]⟩ from rfl, e1]; exact q), fun q => P.notIn_str (by rw [show (⟨[k].toArray⟩ : Str) = ⟨#[k]⟩ from rfl, e1]; exact q)⟩
 | _ => exact gen _ _ ra rb (by exact hf)
theorem c_in : Cmp h .In inD := by
 intro G K g σ a b r va vb A s Q E ok hA I ra rb hf hQ
 obtain ⟨c, hc, rfl⟩ := Option.map_eq_some_iff.mp hf
 exact (in_okD hA I ra rb hc).1 (hQ g _ s g.le_refl I (yD.mpr rfl))
theorem c_nin : Cmp h .NotIn ninD := by
 intro G K g σ a b r va vb A s Q E ok hA I ra rb hf hQ
 obtain ⟨c, hc, rfl⟩ := Option.map_eq_some_iff.mp hf
 obtain ⟨d, hd, rfl⟩ := Option.map_eq_some_iff.mp hc
 exact (in_okD hA I ra rb hd).2 (hQ g _ s g.le_refl I (yD.mpr rfl))
end
open PySem.AutoSeq1 (wpAny_loadPart')
noncomputable def isF (_ : St) (a b : AV) : Option Bool := match a, b with
 | .loc n, .loc m => if n = m then some true else Option.none
 | .str _, .loc _ => some false
 | _, _ => Option.none
noncomputable def nisF (σ : St) (a b : AV) : Option Bool := (isF σ a b).map (!·)
noncomputable def ltL : List Int -> List Int -> Bool
 | x :: xs, y :: ys => if x = y then ltL xs ys else decide (x < y)
 | [], _ => false
 | _ :: _, [] => false
noncomputable def Zr : List AV -> Option (List Int)
 | [] => some []
 | x :: r => x.i?.bind fun i => (Zr r).map (i :: ·)
noncomputable def ltD (σ : St) (a b : AV) : Option Bool := match ltF σ a b with
 | some r => some r
 | Option.none => a.l?.bind fun xs => b.l?.bind fun ys => (Zr xs).bind fun is => (Zr ys).bind fun js => if is.length = js.length then some (ltL is js) else Option.none
theorem intsOf_get : ∀ {xs : List AV} {is : List Int} {i : Nat} {k : Int}, Zr xs = some is -> is[i]? = some k -> xs[i]? = some (.int k)
 | [], is, i, k, h, e => by cases h; simp at e
 | x :: xs, is, i, k, h, e => by
  obtain ⟨j, e1, h⟩ := bS h
  obtain rfl := AV.int_of e1
  obtain ⟨js, h2, rfl⟩ := Option.map_eq_some_iff.mp h
  cases i with
  | zero => obtain rfl := Option.some.inj e; rfl
  | succ i => exact intsOf_get (i := i) h2 e
theorem zbj : ∀ {xs : List AV} {is : List Int}, Zr xs = some is -> is.length = xs.length
 | [], is, h => by cases h; rfl
 | x :: xs, is, h => by
  obtain ⟨j, e1, h⟩ := bS h
  obtain ⟨js, h2, rfl⟩ := Option.map_eq_some_iff.mp h
  exact congrArg (· + 1) (zbj h2)
open PySem.SeqAt MeetsSeq MeetsSeq2 MeetsSeq3 SeqRoads2 in
theorem lt_loop (l b : Addr) (items items2 : Array Value) (n n2 : Nat) (is js : List Int) (hsz : is.length = js.length) (h1 : items.size = is.length) (h2 : items2.size = js.length)
  (hi : ∀ (j : Nat) (k : Int), is[j]? = some k -> ∃ t, items[j]? = some (.int k t)) (hj : ∀ (j : Nat) (k : Int), js[j]? = some k -> ∃ t, items2[j]? = some (.int k t)) (k : Nat) :
  ∀ i : Nat, items.size - i = k -> Meets (Builtin.«list.__eq__.loop» ⟨[.ref l, .ref b, rawInt i, rawInt 0], []⟩)
   (fun A R s => s.heap.get? l = some { cls := .type "list", dict := Option.none, data := .seq items n, slots := #[] } /\ s.heap.get? b = some { cls := .type "list", dict := Option.none, data := .seq items2 n2, slots := #[] } /\
    A.units + 10 < cLine /\ R (.ok (.ret (.bool (ltL (is.drop i) (js.drop i))))) s) := by
 induction k with
 | zero =>
  intro i hk prog w A R s h
  obtain ⟨hp, g, d, tk, os⟩ := s; obtain ⟨hl, hb, hu, h⟩ := h
  wp_walk using wpAny_loadPart' hl, wpAny_loadPart' hb
  have hi1 : items[((i : Nat) : Int).toNat]? = Option.none := by simp; omega
  have hi2 : items2[((i : Nat) : Int).toNat]? = Option.none := by simp; omega
  have hd : is.drop i = [] := by simp; omega
  rw [hd] at h
  rw [hi1, hi2]
  wp_walk using wpAny_loadPart' hl, wpAny_loadPart' hb
  show R (.ok (.ret (.bool (decide (items.size < items2.size))))) _
  rw [h1, h2, hsz]
  simpa [ltL] using h
 | succ k ih =>
  intro i hk prog w A R s h
  obtain ⟨hp, g, d, tk, os⟩ := s; obtain ⟨hl, hb, hu, h⟩ := h
  wp_walk using wpAny_loadPart' hl, wpAny_loadPart' hb
  have hlt : i < is.length := by omega
  have hlt2 : i < js.length := by omega
  obtain ⟨t, ex⟩ := hi i _ (List.getElem?_eq_getElem hlt)
  obtain ⟨u, ey⟩ := hj i _ (List.getElem?_eq_getElem hlt2)
  have hi1 : items[((i : Nat) : Int).toNat]? = some (.int is[i] t) := by simpa using ex
  have hi2 : items2[((i : Nat) : Int).toNat]? = some (.int js[i] u) := by simpa using ey
  have hd : is.drop i = is[i] :: is.drop (i + 1) := List.drop_eq_getElem_cons hlt
  have hd2 : js.drop i = js[i] :: js.drop (i + 1) := List.drop_eq_getElem_cons hlt2
  have hc : ((i : Int) + 1) = ((i + 1 : Nat) : Int) := by push_cast; rfl
  rw [hd, hd2] at h
  simp only [ltL] at h
  rw [hi1, hi2]
  refine wpAny_bind ?_
  refine (eqAt_reads (.int is[i]) (.int js[i]) _ _ (.int is[i] t) (.int js[i] u) [] [] (.int _ _) (.int _ _) rfl rfl ?_) prog w _ _ ?_
  ·show A.units + 1 + min (PyData.depth (.int is[i])) (PyData.depth (.int js[i])) < cLine
   have : min (PyData.depth (.int is[i])) (PyData.depth (.int js[i])) <= PyData.depth (.int is[i]) := Nat.min_le_left _ _
   have h0 : PyData.depth (.int is[i]) = 0 := by first | rfl | simp [PyData.depth]
   omega
  have hq : PyData.eqv (.int is[i]) (.int js[i]) = (is[i] == js[i]) := rfl
  rw [hq]
  by_cases he : is[i] = js[i]
  ·rw [if_pos he] at h
   rw [show (is[i] == js[i]) = true by simpa using he]
   wp_walk
   rw [hc]
   exact ⟨plainId_quiet plain_eq_loop _, codeAny_builtin entry_eq_loop (by
    rw [Around.under_plainId plain_eq_loop _]
    exact ih (i + 1) (by omega) prog w A R _ ⟨hl, hb, hu, h⟩)⟩
  ·rw [if_neg he] at h
   rw [show (is[i] == js[i]) = false by simpa using he]
   wp_walk using wpAny_loadPart' hl, wpAny_loadPart' hb
   rw [hi1, hi2]
   show wpAny _ _ (richCompare .Lt (.int is[i] t) (.int js[i] u) >>= fun x => ret x) _ _ _
   refine wpAny_bind ?_
   show wpAny _ _ (compareOp .Lt (.int is[i] t) (.int js[i] u)) _ _ _
   exact wpAny_lt_int (wpAny_pure h)
open PySem.SeqAt MeetsSeq MeetsSeq2 MeetsSeq3 SeqRoads2 in
theorem list_ltAt (l b : Addr) (items items2 : Array Value) (n n2 : Nat) (is js : List Int) (hsz : is.length = js.length) (h1 : items.size = is.length) (h2 : items2.size = js.length)
  (hi : ∀ (j : Nat) (k : Int), is[j]? = some k -> ∃ t, items[j]? = some (.int k t)) (hj : ∀ (j : Nat) (k : Int), js[j]? = some k -> ∃ t, items2[j]? = some (.int k t)) :
  Meets (Builtin.«list.__lt__» ⟨[.ref l, .ref b], []⟩)
   (fun A R s => s.heap.get? l = some { cls := .type "list", dict := Option.none, data := .seq items n, slots := #[] } /\ s.heap.get? b = some { cls := .type "list", dict := Option.none, data := .seq items2 n2, slots := #[] } /\
    A.units + 10 < cLine /\ R (.ok (.ret (.bool (ltL is js)))) s) := by
 intro prog w A R s h
 obtain ⟨hp, g, d, tk, os⟩ := s; obtain ⟨hl, hb, hu, h⟩ := h
 have f3 := AutoSeq1.sub_list_list
 wp_walk using wpAny_loadPart' hl, wpAny_loadPart' hb
 exact ⟨plainId_quiet plain_eq_loop _, codeAny_builtin entry_eq_loop (by
  rw [Around.under_plainId plain_eq_loop _]
  exact lt_loop l b items items2 n n2 is js hsz h1 h2 hi hj _ 0 rfl prog w A R _ ⟨hl, hb, hu, by simpa using h⟩)⟩
section
variable {V : Vis} {h : Nat}
theorem Xx : Cmp h .Lt ltD := by
 intro G K g σ a b r va vb A s Q E ok hA I ra rb hf hQ
 obtain ⟨c, hf', rfl⟩ := Option.map_eq_some_iff.mp hf
 unfold ltD at hf'
 split at hf'
 ·rename_i r e; cases (hf')
  exact c_lt G K g σ a b (.bool c) va vb A s Q E ok hA I ra rb (by show Option.map _ _ = _; rw [e]; rfl) hQ
 ·obtain ⟨xs, x1, hf'⟩ := bS hf'
  obtain ⟨ys, x2, hf'⟩ := bS hf'
  obtain ⟨is, e1, hf'⟩ := bS hf'
  obtain ⟨js, e2, hf'⟩ := bS hf'
  obtain ⟨hl, hf'⟩ := iS hf'
  obtain rfl := Option.some.inj hf'
  obtain rfl := AV.lst_of x1
  obtain rfl := AV.lst_of x2
  obtain ⟨l, vs, n, rfl, hb, hr⟩ := Yj.mp ra
  obtain ⟨l', ws, n', rfl, hb', hr'⟩ := Yj.mp rb
  have hu := hA.units
  have get : ∀ {zs : List AV} {us : List Value} {ks : List Int}, g.rvs zs us -> Zr zs = some ks -> ∀ (j : Nat) (k : Int), ks[j]? = some k -> ∃ t, us.toArray[j]? = some (.int k t) := fun hr e j k ej => by
   obtain ⟨v, ev, rv⟩ := RVs.get hr (intsOf_get e ej)
   obtain ⟨t, rfl⟩ := zw.mp rv
   exact ⟨t, by simpa using ev⟩
  exact richCompare_meets_room (op := .Lt) ⟨_, I.hB _ _ hb, rfl⟩ ⟨_, I.hB _ _ hb', rfl⟩ F.slot_list_lt F.entry_list_lt (F.args_list_lt_2 _ _)
     (list_ltAt l l' vs.toArray ws.toArray n n' is js hl (by simp [hr.length, zbj e1]) (by simp [hr'.length, zbj e2]) (get hr e1) (get hr' e2))
     ⟨I.hB _ _ hb, I.hB _ _ hb', show A.units + 10 < 9900 by omega, show Value.bool _ ≠ Value.notImplemented /\ _ from ⟨(fun x => nomatch x), hQ g _ s g.le_refl I (yD.mpr rfl)⟩⟩ (show A.units < 9900 by omega)
theorem is_okF {G : GC} {K : Kx} {g : Gh} {σ : St} {a b : AV} {va vb : Value} {A : Around} {s : Shared} {Q : Value -> Shared -> Prop} {E : Value -> Shared -> Prop} {c : Bool} (I : Wf G K g σ s) (ra : g.rv a va) (rb : g.rv b vb) (hf : isF σ a b = some c) :
  (Q (.bool c) s -> wpAny (model G.prog G.w) A (compareOp .Is va vb) Q E s) /\ (Q (.bool (!c)) s -> wpAny (model G.prog G.w) A (compareOp .IsNot va vb) Q E s) := by
 cases b with
 | loc m =>
  obtain ⟨y, rfl, hy⟩ := ZD.mp rb
  cases a with
  | loc n =>
   obtain ⟨hnm, hf⟩ := iS hf
   obtain rfl := Option.some.inj hf
   subst hnm
   obtain ⟨x, rfl, hx⟩ := ZD.mp ra
   rw [hx] at hy; cases hy
   exact ⟨fun q => wpAny_is_ref_self q, fun q => wpAny_isNot_ref_self q⟩
  | str x =>
   cases hf
   obtain ⟨t, rfl⟩ := zX.mp ra
   exact ⟨fun q => wpAny_is_other rfl (by intro e; cases e) q, fun q => wpAny_isNot_other rfl (by intro e; cases e) q⟩
  | _ => exact nn hf
 | _ => cases a <;> exact nn hf
theorem c_is : Cmp h .Is isF := by
 intro G K g σ a b r va vb A s Q E ok hA I ra rb hf hQ
 obtain ⟨c, hc, rfl⟩ := Option.map_eq_some_iff.mp hf
 exact (is_okF I ra rb hc).1 (hQ g _ s g.le_refl I (yD.mpr rfl))
theorem c_nis : Cmp h .IsNot nisF := by
 intro G K g σ a b r va vb A s Q E ok hA I ra rb hf hQ
 obtain ⟨c, hc, rfl⟩ := Option.map_eq_some_iff.mp hf
 obtain ⟨d, hd, rfl⟩ := Option.map_eq_some_iff.mp hc
 exact (is_okF I ra rb hd).2 (hQ g _ s g.le_refl I (yD.mpr rfl))
noncomputable def chainM (f f' : St -> AV -> AV -> Option Bool) (m n o : PM AV) : PM Bool := PM.bd m fun a => PM.bd n fun b => PM.bd (PM.of fun σ => f σ a b) fun t => match t with
 | true => PM.bd o fun c => PM.of fun σ => f' σ b c
 | false => PM.ok false
theorem sT_chain {l r r' : Expr} {op op' : CmpOp} {pos : Pos} {ml mr mr' : PM AV} {f f' : St -> AV -> AV -> Option Bool} (hl : SE V h l ml) (hr : SE V h r mr) (hr' : SE V h r' mr') (ho : Cmp h op f) (ho' : Cmp h op' f') (hm' : lastMarks [op, op'] [r, r'] = false) :
  ST V h (.Compare l [op, op'] [r, r'] pos) (chainM f f' ml mr mr') := by
 intro G K g σ σ' b A env s Q E ok hA hE I hm hQ
 obtain ⟨x, σ₁, e1, e2⟩ := PM.bd_some hm
 obtain ⟨y, σ₂, e2, e3⟩ := PM.bd_some e2
 obtain ⟨t, σ₃, e3, e4⟩ := PM.bd_some e3
 obtain ⟨e3, rfl⟩ := PM.of_some e3
 refine isTrue_chain (rs := []) (hl G K g σ σ₁ x A env s _ E ok hA hE I e1 fun g1 a s1 l1 I1 r1 => test_link (hr G K g1 σ₁ _ y A env s1 _ E ok hA (hE.le l1) I1 e2 fun g2 b' s2 l2 I2 r2 =>
  ho G K g2 _ x y _ a b' A s2 _ E ok hA I2 (Gh.rv_le l2 r1) r2 (by show Option.map _ (f _ x y) = _; rw [e3]; rfl) fun g3 v' s3 l3 I3 r3 => ?_)) hm'
 rw [yD.mp r3]
 refine wpAny_truthy_bool ?_
 cases t with
 | false => cases e4; simp only [Bool.false_eq_true, if_false]; exact hQ g3 _ s3 ((l1.trans l2).trans l3) I3 rfl
 | true =>
  simp only [if_true]
  obtain ⟨z, σ₄, e4, e5⟩ := PM.bd_some e4
  obtain ⟨e5, rfl⟩ := PM.of_some e5
  exact test_last (hr' G K g3 _ _ z A env s3 _ E ok hA (hE.le ((l1.trans l2).trans l3)) I3 e4 fun g4 c s4 l4 I4 r4 =>
   ho' G K g4 _ y z _ b' c A s4 _ E ok hA I4 (Gh.rv_le (l3.trans l4) r2) r4 (by show Option.map _ (f' _ y z) = _; rw [e5]; rfl) fun g5 v5 s5 l5 I5 r5 => by
    rw [yD.mp r5]
    exact wpAny_truthy_bool (hQ g5 _ s5 ((((l1.trans l2).trans l3).trans l4).trans l5) I5 rfl))
noncomputable def zag (i : Nat) (m : PM AV) : PM FL := PM.bd (za i) fun a => PM.bd m fun b => match a, b with
 | .int x, .int y => PM.bd (putV i (.int (x + y))) fun _ => PM.ok .next
 | _, _ => fun _ => Option.none
theorem Yg {x : Str} {i : Nat} {p pos : Pos} {e : Expr} {m : PM AV} (hx : (x, i) ∈ V.nm) (hc : (x == ("__classdict__" : Str)) = false) (he : SE V h e m) : SS V h (.AugAssign (.Name x p) .Add e pos) (zag i m) := by
 intro G K g σ σ' r A env s Q E ok hA hE I hm hQ
 obtain ⟨a, σ₁, e1, e2⟩ := PM.bd_some hm
 obtain ⟨b, σ₂, e2, e3⟩ := PM.bd_some e2
 refine wpAny_AugAssign_Name (ld_var hx hc G K g σ σ₁ a A env s _ E ok hA hE I e1 fun g1 v s1 l1 I1 r1 => he G K g1 σ₁ σ₂ b A env s1 _ E ok hA (hE.le l1) I1 e2 fun g2 w s2 l2 I2 r2 => ?_)
 cases a with
 | int a => cases b with
  | int b =>
   cases e3
   obtain ⟨t, rfl⟩ := zw.mp r1
   obtain ⟨u, rfl⟩ := zw.mp r2
   exact wpAny_iadd_int (XW hx (hE.le (l1.trans l2)) (I2.tok _) (zw.mpr ⟨_, rfl⟩) fun s' I' => hQ g2 _ s' (l1.trans l2) I' rfl)
  | _ => cases e3
 | _ => cases e3
noncomputable def set2M (i j : Nat) (m : PM AV) : PM FL := PM.bd m fun v => PM.bd (putV i v) fun _ => PM.bd (putV j v) fun _ => PM.ok .next
theorem sS_assign2 {x y : Str} {i j : Nat} {p p' pos : Pos} {e : Expr} {m : PM AV} (hx : (x, i) ∈ V.nm) (hy : (y, j) ∈ V.nm) (he : SE V h e m) (hw : ∀ env, swappedStores [.Name x p, .Name y p'] e env = pure Option.none) :
  SS V h (.Assign [.Name x p, .Name y p'] e pos) (set2M i j m) := by
 intro G K g σ σ' r A env s Q E ok hA hE I hm hQ
 obtain ⟨v, σ₁, e1, e2⟩ := PM.bd_some hm
 cases e2
 exact wpAny_Assign_two (he G K g σ σ₁ v A env s _ E ok hA hE I e1 fun g1 a s1 l1 I1 r1 => assign_Name (XW hx (hE.le l1) I1 r1 fun s2 I2 => assign_Name (XW hy (hE.le l1) I2 r1 fun s3 I3 => hQ g1 _ s3 l1 I3 rfl))) rfl (hw env)
theorem dead_S {st : Stmt} : SS V h st (fun _ => Option.none) := by
 intro G K g σ σ' r A env s Q E ok hA hE I hm hQ
 cases hm
end
noncomputable def Xp : List AV -> Option (List (List Nat))
 | [] => some []
 | x :: r => x.s?.bind fun i => (Xp r).map (i :: ·)
theorem RVs.ints {B : Fz} {ρ : List Addr} : ∀ {xs : List AV} {is : List Int} {vs : List Value}, Zr xs = some is -> RVs B ρ xs vs -> IntsAre vs is
 | [], is, vs, h, r => by cases h; obtain rfl := r; exact .nil
 | x :: xs, is, vs, h, r => by
  obtain ⟨v, vs', rfl, h1, h2⟩ := r.head
  obtain ⟨j, e1, h⟩ := bS h
  obtain ⟨js, e, rfl⟩ := Option.map_eq_some_iff.mp h
  obtain rfl := AV.int_of e1
  obtain ⟨t, rfl⟩ := h1
  exact .cons _ _ (RVs.ints e h2)
theorem RVs.strs {B : Fz} {ρ : List Addr} : ∀ {xs : List AV} {is : List (List Nat)} {vs : List Value}, Xp xs = some is -> RVs B ρ xs vs -> StrsAre vs (is.map fun l => ⟨l.toArray⟩)
 | [], is, vs, h, r => by cases h; obtain rfl := r; exact .nil
 | x :: xs, is, vs, h, r => by
  obtain ⟨v, vs', rfl, h1, h2⟩ := r.head
  obtain ⟨j, e1, h⟩ := bS h
  obtain ⟨js, e, rfl⟩ := Option.map_eq_some_iff.mp h
  obtain rfl := AV.str_of e1
  obtain ⟨t, rfl⟩ := h1
  exact .cons _ _ (RVs.strs e h2)
theorem strsAre_rvs {B : Fz} {ρ : List Addr} : ∀ {vs : List Value} {ss : List Str}, StrsAre vs ss -> RVs B ρ (ss.map fun s => .str s.cps.toList) vs
 | _, _, .nil => .nil
 | _, _, .cons y t h => .cons (by simp only [rvD]; exact ⟨t, by simp⟩) (strsAre_rvs h)
noncomputable def sumF (σ : St) (args : List AV) : Option AV := (one? args).bind fun a => (asL σ a).bind fun xs => (Zr xs).map fun is => .int is.sum
noncomputable def zau : List Int -> Int
 | [] => 0
 | [x] => x
 | x :: y :: r => max x (zau (y :: r))
noncomputable def maxF (σ : St) (args : List AV) : Option AV := (one? args).bind fun a => (asL σ a).bind fun xs => (Zr xs).bind fun is => if 0 < is.length then some (.int (zau is)) else Option.none
theorem maxL_ge : ∀ (l : List Int) (a : Int), a ∈ l -> a <= zau l
 | [x], a, h => by simp at h; subst h; exact Int.le_refl _
 | x :: y :: r, a, h => by
  rcases List.mem_cons.mp h with rfl | h
  ·exact Int.le_max_left _ _
  ·exact Int.le_trans (maxL_ge (y :: r) a h) (Int.le_max_right _ _)
theorem QV : ∀ (l : List Int), l ≠ [] -> zau l ∈ l
 | [x], _ => by simp [zau]
 | x :: y :: r, _ => by
  show max x (zau (y :: r)) ∈ _
  rcases Int.le_total x (zau (y :: r)) with h | h
  ·rw [Int.max_eq_right h]; exact List.mem_cons_of_mem _ (QV (y :: r) (by simp))
  ·rw [Int.max_eq_left h]; exact List.mem_cons_self
noncomputable def Qj (l : List (List Nat)) : List (List Nat) := l.mergeSort fun a b => !decide (b < a)
noncomputable def sortedF (σ : St) (args : List AV) : Option AV := (one? args).bind fun a => (asL σ a).bind fun xs => (Xp xs).bind fun ss => if ss.length < 64 then some (.lst ((Qj ss).map .str)) else Option.none
noncomputable def chrF (_ : St) (args : List AV) : Option AV := (one? args).bind fun a => a.i?.bind fun i => if 0 <= i /\ i <= 1114111 then some (.str [i.toNat]) else Option.none
noncomputable def intF (_ : St) (args : List AV) : Option AV := (one? args).bind fun a => a.i?.bind fun i => some (.int i)
theorem ZM {g : Gh} {a : AV} {va : List Value} (r : g.rvs [a] va) : ∃ v, va = [v] /\ g.rv a v := by
 obtain ⟨v, vs', rfl, h1, h2⟩ := RVs.head r
 have : vs' = [] := h2
 subst this
 exact ⟨v, rfl, h1⟩
theorem zbx {g : Gh} {a b : AV} {va : List Value} (r : g.rvs [a, b] va) : ∃ v w, va = [v, w] /\ g.rv a v /\ g.rv b w := by
 obtain ⟨v, vs', rfl, h1, h2⟩ := RVs.head r
 obtain ⟨w, rfl, h3⟩ := ZM h2
 exact ⟨v, w, rfl, h1, h3⟩
section
variable {h : Nat}
theorem o_sum (h1 : 0 < h := by decide) : OpN h (fun va => call (.builtin "sum") va) sumF := by
 intro G K g σ args r va A s Q E ok hA I ra hf hQ
 obtain ⟨a, ea, hf⟩ := bS hf
 obtain ⟨xs, e, hf⟩ := bS hf
 obtain ⟨is, e2, rfl⟩ := Option.map_eq_some_iff.mp hf
 obtain rfl := Xu ea
 obtain ⟨v, rfl, rv⟩ := ZM ra
 obtain ⟨l, vs, n, rfl, ho, hr⟩ := I.isL rv e
 have hi := RVs.ints e2 hr
 obtain ⟨ys, ey⟩ := hi.allInts.items
 refine wpAny_with_toks (Nat.le_refl s.toks) (sum_intListG (hA.handled h1) (by rw [<- ey]; exact zy ho) fun h' tk t' hk (htk : s.toks <= tk) => hQ g _ _ g.le_refl (I.keep tk hk) (zw.mpr ⟨t', ?_⟩))
 have hns : is = ys.toList.map (·.1) := by rw [<- hi.numsOf, <- nums_intItems, <- ey]
 rw [preSum_eq, List.take_of_length_le (by simp), hns]
theorem o_max (h1 : 0 < h := by decide) : OpN h (fun va => call (.builtin "max") va) maxF := by
 intro G K g σ args r va A s Q E ok hA I ra hf hQ
 obtain ⟨a, ea, hf⟩ := bS hf
 obtain ⟨xs, e, hf⟩ := bS hf
 obtain ⟨is, e2, hf⟩ := bS hf
 obtain ⟨hne, hf⟩ := iS hf
 obtain rfl := Option.some.inj hf
 obtain rfl := Xu ea
 obtain ⟨v, rfl, rv⟩ := ZM ra
 obtain ⟨l, vs, n, rfl, ho, hr⟩ := I.isL rv e
 obtain ⟨L, m, news, X⟩ := I.newsy
 refine wpAny_with_toks (Nat.le_refl s.toks) (max_list_N (hA.handled h1) X.F X.N (zy ho) (RVs.ints e2 hr) hne fun h' M t tk F' N' hM hle (htk : s.toks <= tk) => ?_)
 have e3 : M = zau is := Int.le_antisymm (maxL_ge is M hM) (hle _ (QV is (by intro e; subst e; exact absurd hne (Nat.lt_irrefl 0))))
 subst e3
 exact hQ g _ _ g.le_refl (I.after X F' N' tk) (zw.mpr ⟨t, rfl⟩)
theorem Ql : ∀ (p : Str) (l : List Str), risingS p l = true -> (p :: l).Pairwise fun a b => ¬ b.cps.toList < a.cps.toList
 | p, [], _ => by simp
 | p, x :: r, h => by
  have h' : (!Spec.ltCps x.cps.toList p.cps.toList && risingS x r) = true := h
  rw [Bool.and_eq_true, ltCps_eq] at h'
  have h1 : ¬ x.cps.toList < p.cps.toList := by simpa using h'.1
  have h2 := Ql x r h'.2
  refine List.pairwise_cons.mpr ⟨fun y hy => ?_, h2⟩
  rcases List.mem_cons.mp hy with rfl | hy
  ·exact h1
  ·exact List.le_trans (l₂ := x.cps.toList) h1 ((List.pairwise_cons.mp h2).1 y hy)
theorem sortedS_pairwise : ∀ (l : List Str), sortedS l = true -> l.Pairwise fun a b => ¬ b.cps.toList < a.cps.toList
 | [], _ => .nil
 | x :: r, h => Ql x r h
theorem sortN_eq {ss : List (List Nat)} {ss' : List Str} (hp : ss'.Perm (ss.map fun l => ⟨l.toArray⟩)) (hs : sortedS ss' = true) : ss'.map (fun s => s.cps.toList) = Qj ss := by
 have h1 : (ss'.map (fun s => s.cps.toList)).Pairwise fun a b => ¬ b < a := by
  rw [List.pairwise_map]; exact sortedS_pairwise ss' hs
 have h2 : (Qj ss).Pairwise fun a b => ¬ b < a := by
  have := List.pairwise_mergeSort (le := fun a b : List Nat => !decide (b < a)) (fun a b c h1 h2 => by
   have h1 : ¬ b < a := by simpa using h1
   have h2 : ¬ c < b := by simpa using h2
   have : ¬ c < a := List.le_trans (l₂ := b) h1 h2
   simpa using this) (fun a b => by
   rcases List.le_total a b with h | h
   ·have h : ¬ b < a := h
    simp [h]
   ·have h : ¬ a < b := h
    simp [h]) ss
  exact this.imp fun h => by simpa using h
 refine List.Perm.eq_of_pairwise (fun a b _ _ h1 h2 => List.le_antisymm h1 h2) h1 h2 ?_
 have := (hp.map fun s => s.cps.toList)
 rw [List.map_map] at this
 have e : (ss.map ((fun s : Str => s.cps.toList) ∘ fun l => (⟨l.toArray⟩ : Str))) = ss := by
  rw [show ((fun s : Str => s.cps.toList) ∘ fun l => (⟨l.toArray⟩ : Str)) = id from funext fun l => by simp, List.map_id]
 rw [e] at this
 exact this.trans (List.mergeSort_perm _ _).symm
theorem o_sorted : OpN h (fun va => call (.builtin "sorted") va) sortedF := by
 intro G K g σ args r va A s Q E ok hA I ra hf hQ
 obtain ⟨a, ea, hf⟩ := bS hf
 obtain ⟨xs, e, hf⟩ := bS hf
 obtain ⟨ss, e2, hf⟩ := bS hf
 obtain ⟨hl, hf⟩ := iS hf
 obtain rfl := Option.some.inj hf
 obtain rfl := Xu ea
 obtain ⟨v, rfl, rv⟩ := ZM ra
 obtain ⟨l, vs, n, rfl, ho, hr⟩ := I.isL rv e
 have hS := RVs.strs e2 hr
 refine sorted_strs (zy ho) hS (by rw [hS.length]; simpa using hl) fun out ss' h1 h2 h3 => ?_
 obtain ⟨ep, he⟩ := sortedAll_at s.heap vs out
 have e5 : seqObj "list" out ep = zM out.toList ep := by unfold seqObj zM; rw [Array.toArray_toList]
 rw [e5] at he
 have hx : Qj ss = ss'.map (fun s => s.cps.toList) := (sortN_eq h2 h3).symm
 have hk : ∀ b o, s.heap.get? b = some o -> (sortedAll s.heap vs out).get? b = some o := fun b o e => sortedAll_old e
 have hnn : s.heap.get? (s.heap.objs.size + 1) = Option.none := yi (Nat.le_succ _)
 have hrr : g.rvs ((Qj ss).map .str) out.toList := by
  have e6 := strsAre_rvs (B := g.B) (ρ := g.ρ) h1
  rw [hx, List.map_map]; simp only [Function.comp_def]; exact e6
 generalize sortedAll s.heap vs out = H at hk he ⊢
 obtain ⟨g', le, I', r'⟩ := I.newL s.toks hk he hnn hrr
 exact hQ g' _ _ le I' r'
theorem chrF_inv {σ : St} {args : List AV} {r : AV} (h : chrF σ args = some r) : ∃ i, args = [.int i] /\ 0 <= i /\ i <= 1114111 /\ r = .str [i.toNat] := by
 obtain ⟨a, ea, h⟩ := bS h
 obtain ⟨i, ei, h⟩ := bS h
 obtain ⟨hc, h⟩ := iS h
 exact ⟨i, AV.int_of ei ▸ Xu ea, hc.1, hc.2, (Option.some.inj h).symm⟩
theorem o_chr : OpN h (fun va => call (.builtin "chr") va) chrF := by
 intro G K g σ args r va A s Q E ok hA I ra hf hQ
 obtain ⟨i, rfl, h0, h1, rfl⟩ := chrF_inv hf
 obtain ⟨v, rfl, rv⟩ := ZM ra
 obtain ⟨t, rfl⟩ := zw.mp rv
 exact chr_of_range h0 h1 (hQ g _ _ g.le_refl (I.tok _) (zX.mpr ⟨_, rfl⟩))
theorem intF_inv {σ : St} {args : List AV} {r : AV} (h : intF σ args = some r) : ∃ i, args = [.int i] /\ r = .int i := by
 obtain ⟨a, ea, h⟩ := bS h
 obtain ⟨i, ei, h⟩ := bS h
 exact ⟨i, AV.int_of ei ▸ Xu ea, (Option.some.inj h).symm⟩
theorem o_int : OpN h (fun va => call (.type "int") va) intF := by
 intro G K g σ args r va A s Q E ok hA I ra hf hQ
 obtain ⟨i, rfl, rfl⟩ := intF_inv hf
 obtain ⟨v, rfl, rv⟩ := ZM ra
 obtain ⟨t, rfl⟩ := zw.mp rv
 exact call_int_int (hQ g _ _ g.le_refl I (zw.mpr ⟨_, rfl⟩))
theorem sE_type {V : Vis} {f : Str} {T : String} {p pos : Pos} {e : Expr} {es : List Expr} {φ : St -> List AV -> Option AV} {m : PM (List AV)} (hf : f ∈ V.gl) (hb : f ∈ blts) (hv : bootBuiltins f = some (.type T)) (hd : (f == ("__debug__" : Str)) = false) (hn : f ≠ "__name__")
  (hop : OpN h (fun va => call (.type T) va) φ) (hargs : SEs V h (e :: es) m) (hp : ∀ env, starEach (e :: es) env = (false, eval e env) :: starEach es env) (hq : ∀ env pos, (backTo pos (starEach es env)).any (·.1) = false) :
  SE V h (.Call (.Name f p) (e :: es) [] pos) (yL φ m) := by
 intro G K g σ σ' b A env s Q E ok hA hE I hm hQ
 obtain ⟨xs, σ₁, e1, e2⟩ := PM.bd_some hm
 obtain ⟨e2, rfl⟩ := PM.of_some e2
 exact wpAny_Call_NameR (YN ok hE I hf hb hv hd hn (PyProof.Rows.callWith_type1 (hargs pos G K g σ _ xs A env s _ E ok hA hE I e1 fun g1 va s1 l1 I1 r1 =>
  hop G K g1 _ xs b va A s1 Q E ok hA I1 r1 e2 fun g2 v' s2 l2 I2 r2 => hQ g2 v' s2 (l1.trans l2) I2 r2) (hp env) (hq env pos)))
end
theorem Trn.of1 {prog : Program} {w : World} {A : Around} {x : Str} {p : Pos} {I : Addr} {g : Gh} {i : Nat} {xs : List AV} {n : Nat} {P : Nat -> Value -> Prop} {S : Nat -> Heap -> Prop} (W : Walks prog w A I [I] [I] n P S) (hn : xs.length = n)
  (hx : ∀ j v x, xs[j]? = some x -> P j v -> g.rv x v) (ho : ∀ j h, S j h -> ∃ o, h.get? I = some o /\ ¬ ZX o) : Trn prog w A (.Name x p) I [I] g (.one i) xs S where
 frame := fun j h h' st _ hw => W.frame j h h' st fun b hb o e => hw b hb o e
 own := fun j h st b hb => by simp at hb; subst hb; exact ho j h st
 item := fun j y s Q E ey st hQ => by
  have hj : j < n := by rw [<- hn]; exact (List.getElem?_eq_some_iff.mp ey).1
  refine wpAny_with_toks (Nat.le_refl s.toks) (W.item j s _ _ hj st fun v h' tk hP st' hk (htk : s.toks <= tk) => ⟨v, rfl, ?_⟩)
  exact wpAny_pure (hQ v h' tk (hx j v y ey hP) st' hk htk)
 done := fun s Q E st hQ => wpAny_with_toks (Nat.le_refl s.toks) (W.done s _ _ (hn ▸ st) fun h' tk hk (htk : s.toks <= tk) => hQ h' tk hk htk)
 self := W.self
theorem Qx {G : GC} {K : Kx} {g : Gh} {σ : St} {s : Shared} (I : Wf G K g σ s) {b : Addr} (hb : s.heap.get? b = Option.none) : Off G [b] K g := by
 have fr := I.fresh_of_none hb
 constructor <;> intro c hc <;> simp at hc <;> subst hc
 ·intro o e; have := I.hB _ _ e; rw [hb] at this; cases this
 ·intro o e; obtain ⟨_, this⟩ := (I.hK _ _ e).some; rw [hb] at this; cases this
 ·exact fr.1
 ·exact fr.2.1
 ·exact fr.2.2
structure Rng where
 a : Int
 b : Int
 c : Int
 n : Nat
noncomputable def rngF (xs : List AV) : Option Rng := match xs with
 | [x] => x.i?.bind fun n => if 0 <= n /\ n <= 1000000 then some ⟨0, n, 1, n.toNat⟩ else Option.none
 | [x, y] => x.i?.bind fun a => y.i?.bind fun b => if -1000000 <= a /\ a <= 1000000 /\ -1000000 <= b /\ b <= 1000000 then some ⟨a, b, 1, (b - a).toNat⟩ else Option.none
 | [x, y, z] => x.i?.bind fun a => y.i?.bind fun b => z.i?.bind fun c => if c = -1 /\ a <= b /\ -1000000 <= a /\ b <= 1000000 then some ⟨a, b, -1, 0⟩ else Option.none
 | _ => Option.none
noncomputable def Rng.items (r : Rng) : List AV := (List.range r.n).map fun (i : Nat) => .int (r.a + i * r.c)
theorem Rng.get {r : Rng} {j : Nat} {x : AV} (h : r.items[j]? = some x) : x = .int (r.a + j * r.c) := by
 unfold Rng.items at h
 rw [List.getElem?_map] at h
 cases e : (List.range r.n)[j]? with
 | none => rw [e] at h; cases h
 | some k =>
  rw [e] at h
  obtain ⟨h1, h2⟩ := List.getElem?_eq_some_iff.mp e
  simp at h2; subst h2
  exact (Option.some.inj h).symm
section
variable {V : Vis} {h : Nat}
theorem rng_call {G : GC} {K : Kx} {g : Gh} {σ : St} {s : Shared} {A : Around} {Q : Value -> Shared -> Prop} {E : Value -> Shared -> Prop} {xs : List AV} {va : List Value} {r : Rng} (I : Wf G K g σ s) (r0 : g.rvs xs va) (hf : rngF xs = some r)
  (hQ : ∀ s' t u v, Wf G K g σ s' -> IsRange s'.heap s.heap.objs.size r.a r.b r.c t u v -> s.heap.objs.size < s'.heap.objs.size -> Builtin.Range.small r.a r.b r.c = true -> Builtin.Range.rangeSize r.a r.b r.c = (r.n : Int) -> r.n <= 2000000 -> Q (.ref s.heap.objs.size) s') :
  wpAny (model G.prog G.w) A (call (.type "range") va) Q E s := by
 cases xs with
 | nil => exact nn hf
 | cons x xs =>
 cases xs with
 | nil =>
  have hk := Option.bind_eq_some_iff.mp hf; clear hf; obtain ⟨n, q1, hf⟩ := hk
  obtain rfl := AV.int_of q1
  obtain ⟨hc, hf⟩ := iS hf
  cases hf
  obtain ⟨v, rfl, rv⟩ := ZM r0
  obtain ⟨t, rfl⟩ := zw.mp rv
  refine call_range_1 (hQ _ _ _ _ (I.keep (s.toks + 1 + 1) fun b o e => Heap.get?_push_of_some _ e) (IsRange.new ..) (by show _ < (Heap.push _ _).objs.size; rw [Heap.size_push]; exact Nat.lt_succ_self _) (small_one (a := 0) (b := n) (by omega) (by omega) (by omega) (by omega)) ?_ (by show n.toNat <= _; omega))
  show Builtin.Range.rangeSize 0 n 1 = ((n.toNat : Nat) : Int)
  rw [rangeSize_one]; split <;> omega
 | cons y xs =>
 cases xs with
 | nil =>
  have hk := Option.bind_eq_some_iff.mp hf; clear hf; obtain ⟨a, q1, hf⟩ := hk
  have hk := Option.bind_eq_some_iff.mp hf; clear hf; obtain ⟨b, q2, hf⟩ := hk
  obtain rfl := AV.int_of q1
  obtain rfl := AV.int_of q2
  obtain ⟨hc, hf⟩ := iS hf
  cases hf
  obtain ⟨v, w, rfl, r1, r2⟩ := zbx r0
  obtain ⟨t, rfl⟩ := zw.mp r1
  obtain ⟨u, rfl⟩ := zw.mp r2
  refine call_range_2 (hQ _ _ _ _ (I.keep (s.toks + 1) fun b o e => Heap.get?_push_of_some _ e) (IsRange.new ..) (by show _ < (Heap.push _ _).objs.size; rw [Heap.size_push]; exact Nat.lt_succ_self _) (small_one (a := a) (b := b) (by omega) (by omega) (by omega) (by omega)) ?_ (by show (b - a).toNat <= _; omega))
  show Builtin.Range.rangeSize a b 1 = (((b - a).toNat : Nat) : Int)
  rw [rangeSize_one]; split <;> omega
 | cons z xs =>
 cases xs with
 | cons w xs => exact nn hf
 | nil =>
  have hk := Option.bind_eq_some_iff.mp hf; clear hf; obtain ⟨a, q1, hf⟩ := hk
  have hk := Option.bind_eq_some_iff.mp hf; clear hf; obtain ⟨b, q2, hf⟩ := hk
  have hk := Option.bind_eq_some_iff.mp hf; clear hf; obtain ⟨c, q3, hf⟩ := hk
  obtain rfl := AV.int_of q1
  obtain rfl := AV.int_of q2
  obtain rfl := AV.int_of q3
  obtain ⟨hc, hf⟩ := iS hf
  cases hf
  obtain ⟨v, vs, rfl, r1, r2⟩ := RVs.head r0
  obtain ⟨w, z, rfl, r2, r3⟩ := zbx r2
  obtain ⟨t, rfl⟩ := zw.mp r1
  obtain ⟨u, rfl⟩ := zw.mp r2
  obtain ⟨y, rfl⟩ := zw.mp r3
  obtain ⟨rfl, hc1, hc2, hc3⟩ := hc
  have hrs : Builtin.Range.rangeSize a b (-1) = 0 := by
   unfold Builtin.Range.rangeSize
   simp only [show ¬ (-1 : Int) > 0 by decide, if_false]
   split <;> omega
  refine call_range_3 (by decide) (hQ _ _ _ _ (I.keep s.toks fun b o e => Heap.get?_push_of_some _ e) (IsRange.new ..) (by show _ < (Heap.push _ _).objs.size; rw [Heap.size_push]; exact Nat.lt_succ_self _) ?_ (by rw [hrs]; rfl) (by show 0 <= _; omega)) (Or.inl (PyProof.noPylong_small (by decide)))
  unfold Builtin.Range.small
  show (_ && _ && _ && _ && _) = true
  rw [show Builtin.Range.rangeSize (⟨a, b, -1, 0⟩ : Rng).a (⟨a, b, -1, 0⟩ : Rng).b (⟨a, b, -1, 0⟩ : Rng).c = 0 from hrs]
  simp only [Builtin.Range.rangeFitsLong, Bool.and_eq_true, Bool.or_eq_true, decide_eq_true_eq, beq_self_eq_true, true_or, and_true]
  omega
noncomputable def rngM (m : PM (List AV)) : PM (List AV) := PM.bd m fun xs => PM.of fun _ => (rngF xs).map Rng.items
theorem zbs {x : Str} {i : Nat} {p q pos : Pos} {e : Expr} {es : List Expr} {m : PM (List AV)} (hf : Str.ofString "range" ∈ V.gl) (hargs : SEs V h (e :: es) m) (hp : ∀ env, starEach (e :: es) env = (false, eval e env) :: starEach es env) (hq : ∀ env pos, (backTo pos (starEach es env)).any (·.1) = false) (h1 : 0 < h := by decide) :
  SI V h (.Name x p) (.one i) (.Call (.Name (Str.ofString "range") q) (e :: es) [] pos) (rngM m) := by
 intro G K g σ σ' xs A env s Q E ok hA hE I hm hQ
 obtain ⟨ys, σ₁, e1, e2⟩ := PM.bd_some hm
 obtain ⟨e3, e4⟩ := PM.of_some e2
 dsimp only at e3 e4
 subst e4
 obtain ⟨r, er, rfl⟩ := Option.map_eq_some_iff.mp e3
 refine wpAny_Call_NameR (YN ok hE I hf (by decide) (bv := .type "range") (by decide +kernel) (by decide +kernel) (by decide) (PyProof.Rows.callWith_type1 (hargs pos G K g σ _ ys A env s _ E ok hA hE I e1 fun g1 va s1 l1 I1 r1 => ?_) (hp env) (hq env pos)))
 refine rng_call I1 r1 er fun s2 t u v I2 hr hlt hsm hrs hn => ?_
 refine wpAny_pyIter_range hr hsm ?_
 have I3 := I2.keep (h' := s2.heap.push { cls := .type "range_iterator", data := .fields #[rawInt r.a, rawInt (Builtin.Range.rangeSize r.a r.b r.c), rawInt r.c] }) s2.toks fun b o e => Heap.get?_push_of_some _ e
 have W := Walks.range (prog := G.prog) (w := G.w) (A := A) (hA.handled h1) s2.heap.objs.size r.a r.c r.n
 refine hQ g1 _ _ _ _ l1 I3 (Qx I2 (zH _)) (Trn.of1 W (by simp [Rng.items]) (fun j v x ex hv => ?_) (fun j h st => ⟨_, st, fun ⟨_, _, q⟩ => by cases q⟩)) ?_
 ·obtain ⟨t', rfl⟩ := hv
  rw [Rng.get ex]
  exact zw.mpr ⟨t', rfl⟩
 ·show IsRangeIter _ _ _ _ _
  have := Heap.get?_push_size s2.heap (o := { cls := .type "range_iterator", data := .fields #[rawInt r.a, rawInt (Builtin.Range.rangeSize r.a r.b r.c), rawInt r.c] }) rfl
  rw [hrs] at this ⊢
  simpa [IsRangeIter] using this
noncomputable def lrngM (m : PM (List AV)) : PM AV := PM.bd m fun xs => PM.of fun _ => (rngF xs).map fun r => .lst r.items
theorem rvs_of_get {B : Fz} {ρ : List Addr} : ∀ (xs : List AV) (vs : List Value), vs.length = xs.length -> (∀ (i : Nat) (v : Value) (x : AV), vs[i]? = some v -> xs[i]? = some x -> RV B ρ x v) -> RVs B ρ xs vs := by
 intro xs
 induction xs with
 | nil => intro vs hl _; exact List.eq_nil_of_length_eq_zero hl
 | cons x xs ih =>
  intro vs hl h
  cases vs with
  | nil => cases hl
  | cons v vs => exact .cons (h 0 v x rfl rfl) (ih vs (Nat.succ.inj hl) fun i w y e1 e2 => h (i + 1) w y e1 e2)
theorem zbv {p q pos pos' : Pos} {e : Expr} {es : List Expr} {m : PM (List AV)} (hl : Str.ofString "list" ∈ V.gl) (hf : Str.ofString "range" ∈ V.gl) (hargs : SEs V h (e :: es) m) (hp : ∀ env, starEach (e :: es) env = (false, eval e env) :: starEach es env) (hq : ∀ env pos, (backTo pos (starEach es env)).any (·.1) = false) (h1 : 0 < h := by decide) :
  SE V h (.Call (.Name (Str.ofString "list") p) [.Call (.Name (Str.ofString "range") q) (e :: es) [] pos'] [] pos) (lrngM m) := by
 intro G K g σ σ' b A env s Q E ok hA hE I hm hQ
 obtain ⟨ys, σ₁, e1, e2⟩ := PM.bd_some hm
 obtain ⟨e3, e4⟩ := PM.of_some e2
 dsimp only at e3 e4
 subst e4
 obtain ⟨r, er, rfl⟩ := Option.map_eq_some_iff.mp e3
 refine wpAny_Call_NameR (YN ok hE I hl (by decide) (bv := .type "list") (by decide +kernel) (by decide +kernel) (by decide) (PyProof.Rows.callWith_type1 (wpAny_items_cons ?_ rfl) rfl rfl))
 refine wpAny_Call_NameR (YN ok hE I hf (by decide) (bv := .type "range") (by decide +kernel) (by decide +kernel) (by decide) (PyProof.Rows.callWith_type1 (hargs pos' G K g σ _ ys A env s _ E ok hA hE I e1 fun g1 va s1 l1 I1 r1 => ?_) (hp env) (hq env pos')))
 refine rng_call I1 r1 er fun s2 t u v I2 hr hlt hsm hrs hn => wpAny_items_nil ?_
 refine wpAny_with_toks (Nat.le_refl s2.toks) (call_list_range (hA.handled h1) hr hsm hrs (by omega) fun h' tk acc c hk ho hacc (htk : s2.toks <= tk) => ?_)
 obtain ⟨g', le, I', r'⟩ := I2.newL (vs := acc.toList) (n := c) (xs := r.items) tk hk (by rw [ho]; simp [zM]) (zH _) (rvs_of_get _ _ (by simp [hacc.1, Rng.items]) fun i v x ev ex => by
  obtain ⟨t, rfl⟩ := hacc.2 i v (by simpa using ev)
  rw [Rng.get ex]
  simp only [rvC]; exact ⟨t, rfl⟩)
 exact hQ g' _ _ (l1.trans le) I' r'
noncomputable def signsF (a : AV) : Option (List AV) := match a with
 | .str l => if l.all (· < 128) then some (l.map fun c => .str [c]) else Option.none
 | _ => Option.none
noncomputable def Xq (m : PM AV) : PM (List AV) := PM.bd m fun a => PM.of fun _ => signsF a
theorem si_str {x : Str} {i : Nat} {p : Pos} {iter : Expr} {m : PM AV} (he : SE V h iter m) (h1 : 0 < h := by decide) : SI V h (.Name x p) (.one i) iter (Xq m) := by
 intro G K g σ σ' xs A env s Q E ok hA hE I hm hQ
 obtain ⟨a, σ₁, e1, e2⟩ := PM.bd_some hm
 obtain ⟨e3, e4⟩ := PM.of_some e2
 dsimp only at e3 e4
 subst e4
 cases a with
 | str l =>
  obtain ⟨hal, e3⟩ := iS e3
  cases e3
  refine he G K g σ _ (.str l) A env s _ E ok hA hE I e1 fun g1 v s1 l1 I1 r1 => ?_
  obtain ⟨t, rfl⟩ := zX.mp r1
  have ha : (Str.mk l.toArray).cps.all (· < 128) = true := by simpa using hal
  refine wpAny_pyIter_ascii ha ?_
  have W := Walks.strAscii (prog := G.prog) (w := G.w) (A := A) (hA.handled h1) s1.heap.objs.size (Str.mk l.toArray) t
  refine hQ g1 _ _ _ _ l1 (I1.keep s1.toks fun b o e => Heap.get?_push_of_some _ e) (Qx I1 (zH _)) (Trn.of1 W (by simp) (fun j v x ex hv => ?_) (fun j h st => st.imp fun o h => ⟨h.1, fun ⟨_, _, q⟩ => by rw [h.2.2] at q; cases q⟩)) ⟨_, Heap.get?_push_size _ rfl, rfl, rfl⟩
  obtain ⟨c, u, ec, rfl⟩ := hv
  have ec' : l[j]? = some c := by simpa using ec
  rw [List.getElem?_map, ec'] at ex
  cases ex
  exact zX.mpr ⟨u, rfl⟩
 | _ => cases e3
end
noncomputable def tyF (σ : St) : AV -> Option String
 | .str _ => some "str"
 | .lst _ => some "list"
 | .loc n => (stL σ n).map fun _ => "list"
 | _ => Option.none
theorem tyF_ok {G : GC} {K : Kx} {g : Gh} {σ : St} {s : Shared} {a : AV} {v : Value} {T : String} (I : Wf G K g σ s) (r : g.rv a v) (h : tyF σ a = some T) : s.TypeIs v T /\ ∀ b, v = .ref b -> ∃ ob, s.heap.get? b = some ob /\ ob.dict = Option.none := by
 cases a with
 | str l =>
  cases h
  obtain ⟨t, rfl⟩ := zX.mp r
  exact ⟨typeIs_str _ _ _, fun _ e => nomatch e⟩
 | lst xs =>
  cases h
  obtain ⟨l, vs, n, rfl, hb, _⟩ := Yj.mp r
  exact ⟨(zy (I.hB _ _ hb)).typeIs, fun b e => by cases e; exact ⟨_, I.hB _ _ hb, rfl⟩⟩
 | loc n =>
  obtain ⟨xs, e, rfl⟩ := Option.map_eq_some_iff.mp h
  obtain ⟨l, rfl, hl⟩ := ZD.mp r
  obtain ⟨vs, ep, ho, _⟩ := I.st n _ l (Qr e) hl
  exact ⟨(zy ho).typeIs, fun b e => by cases e; exact ⟨_, ho, rfl⟩⟩
 | _ => cases h
noncomputable def OpM (h : Nat) (id : String) (φ : St -> AV -> List AV -> Option (AV × St)) : Prop :=
 ∀ (G : GC) (K : Kx) (g : Gh) (σ σ' : St) (o r : AV) (args : List AV) (ov : Value) (va : List Value) (A : Around) (s : Shared) (Q : Value -> Shared -> Prop) (E : Value -> Shared -> Prop),
  G.Ok -> AOk h A K -> Wf G K g σ s -> g.rv o ov -> g.rvs args va -> φ σ o args = some (r, σ') ->
  (∀ g' v' s', g.le g' -> Wf G K g' σ' s' -> g'.rv r v' -> Q v' s') -> wpAny (model G.prog G.w) A (call (.builtin id) (ov :: va)) Q E s
noncomputable def Zd (T : String) (φ : St -> AV -> List AV -> Option (AV × St)) (mo : PM AV) (ma : PM (List AV)) : PM AV := PM.bd mo fun o => PM.bd (PM.of fun σ => if tyF σ o = some T then some () else Option.none) fun _ => PM.bd ma fun args => fun σ => φ σ o args
section
variable {V : Vis} {h : Nat}
theorem yC {o e : Expr} {es : List Expr} {name : Str} {apos pos : Pos} {T id : String} {mo : PM AV} {ma : PM (List AV)} {φ : St -> AV -> List AV -> Option (AV × St)} (pa : PlainAttrs T) (slot : Slot T name id) (hty : typeOf (.builtin id) = pure (.type "method_descriptor"))
  (ho : SE V h o mo) (hargs : SEs V h (e :: es) ma) (hop : OpM h id φ) (hbase : ∀ env, attributeBase o name env (eval o env) = eval o env := by exact fun _ => rfl) (hline : (apos.endLine == pos.line) = true := by rfl)
  (hfew : ∀ env, ((backTo pos (starEach (e :: es) env)).all (fun x => !x.1) && (backToKw pos (keywordEach [] env)).all (fun x => x.1.isSome)
   && decide ((e :: es).length + ([] : List Keyword).length + (if ([] : List Keyword).isEmpty then 0 else 1) < 30)) = true := by exact fun _ => rfl)
  (hp : ∀ env, starEach (e :: es) env = (false, eval e env) :: starEach es env := by exact fun _ => rfl) (hq : ∀ env pos, (backTo pos (starEach es env)).any (·.1) = false := by exact fun _ _ => rfl) :
  SE V h (.Call (.Attribute o name apos) (e :: es) [] pos) (Zd T φ mo ma) := by
 intro G K g σ σ' b A env s Q E ok hA hE I hm hQ
 obtain ⟨x, σ₁, e1, e2⟩ := PM.bd_some hm
 obtain ⟨_, σ₂, e3, e4⟩ := PM.bd_some e2
 obtain ⟨e5, e6⟩ := PM.of_some e3
 dsimp only at e5 e6
 subst e6
 obtain ⟨xs, σ₃, e7, e8⟩ := PM.bd_some e4
 split at e5
 case isFalse => cases e5
 rename_i hT
 refine wpAny_Call_method_late (hbase env) (hfew env) hline rfl (ho G K g σ σ₂ x A env s _ E ok hA hE I e1 fun g1 ov s1 l1 I1 r1 => ?_)
 obtain ⟨t1, t2⟩ := tyF_ok I1 r1 hT
 refine ⟨T, id, pa, slot, hty, t1, t2, ?_⟩
 refine PyProof.Rows.callWith_method1 (hargs pos G K g1 σ₂ σ₃ xs A env s1 _ E ok hA (hE.le l1) I1 e7 fun g2 va s2 l2 I2 r2 => ?_) (hp env) (hq env pos)
 exact hop G K g2 σ₃ σ' x b xs ov va A s2 Q E ok hA I2 (Gh.rv_le l2 r1) r2 e8 fun g3 v' s3 l3 I3 r3 => hQ g3 v' s3 ((l1.trans l2).trans l3) I3 r3
theorem sE_meth0 {o : Expr} {name : Str} {apos pos : Pos} {T id : String} {mo : PM AV} {φ : St -> AV -> List AV -> Option (AV × St)} (pa : PlainAttrs T) (slot : Slot T name id) (hty : typeOf (.builtin id) = pure (.type "method_descriptor"))
  (ho : SE V h o mo) (hop : OpM h id φ) (hbase : ∀ env, attributeBase o name env (eval o env) = eval o env) (hline : (apos.endLine == pos.line) = true) :
  SE V h (.Call (.Attribute o name apos) [] [] pos) (Zd T φ mo (PM.ok [])) := by
 intro G K g σ σ' b A env s Q E ok hA hE I hm hQ
 obtain ⟨x, σ₁, e1, e2⟩ := PM.bd_some hm
 obtain ⟨_, σ₂, e3, e4⟩ := PM.bd_some e2
 obtain ⟨e5, e6⟩ := PM.of_some e3
 dsimp only at e5 e6
 subst e6
 obtain ⟨xs, σ₃, e7, e8⟩ := PM.bd_some e4
 cases e7
 split at e5
 case isFalse => cases e5
 rename_i hT
 refine wpAny_Call_method0_late (hbase env) hline (ho G K g σ σ₂ x A env s _ E ok hA hE I e1 fun g1 ov s1 l1 I1 r1 => ?_)
 obtain ⟨t1, t2⟩ := tyF_ok I1 r1 hT
 refine ⟨T, id, pa, slot, hty, t1, t2, ?_⟩
 refine Calls.callWith_builtin rfl (evalArgs_nil3 ?_)
 exact hop G K g1 σ₂ σ' x b [] ov [] A s1 Q E ok hA I1 r1 .nil e8 fun g3 v' s3 l3 I3 r3 => hQ g3 v' s3 (l1.trans l3) I3 r3
noncomputable def zK (σ : St) (o : AV) (args : List AV) : Option (AV × St) := o.n?.bind fun n => (one? args).bind fun x => (stL σ n).bind fun xs => if xs.length <= 100000 then some (.none, { σ with st := σ.st.set n (.lst (xs ++ [x])) }) else Option.none
theorem append_ok {G : GC} {K : Kx} {g : Gh} {σ σ' : St} {o x r : AV} {ov v : Value} {A : Around} {s : Shared} {Q : Value -> Shared -> Prop} {E : Value -> Shared -> Prop} (I : Wf G K g σ s) (ro : g.rv o ov) (rx : g.rv x v) (hf : zK σ o [x] = some (r, σ'))
  (hQ : ∀ s', Wf G K g σ' s' -> r = .none -> Q .none s') : wpAny (model G.prog G.w) A (call (.builtin "list.append") [ov, v]) Q E s := by
 obtain ⟨n, en, hf⟩ := bS hf
 obtain ⟨y, ey, hf⟩ := bS hf
 obtain ⟨xs, h0, hf⟩ := bS hf
 obtain ⟨hl, hf⟩ := iS hf
 obtain ⟨rfl, rfl⟩ := Prod.mk.inj (Option.some.inj hf)
 obtain rfl := AV.loc_of en
 obtain rfl : x = y := Option.some.inj ey
 have h0 := Qr h0
 obtain ⟨l, rfl, hl'⟩ := ZD.mp ro
 have hk101 := I.st n _ l h0 hl'; obtain ⟨vs, ep, ho, hr⟩ := hk101
 refine wpAny_list_append_plain (hsz := by rw [List.size_toArray, hr.length, sizeLine_eq]; omega) (zcb ho) fun h' hp hs => ?_
 obtain ⟨ep', ho'⟩ := hp
 refine hQ _ (I.updEnt s.toks hl' h0 (by intro h; cases h) hs ⟨vs ++ [v], ep', ?_, hr.append (.one rx)⟩) rfl
 rw [ho']; simp [zM]
theorem Zp : OpM h "list.append" zK := by
 intro G K g σ σ' o r args ov va A s Q E ok hA I ro ra hf hQ
 have hk := bS hf
 obtain ⟨n, _, hf1⟩ := hk
 obtain ⟨x, ex, _⟩ := bS hf1
 obtain rfl := Xu ex
 ·obtain ⟨v, rfl, rv⟩ := ZM ra
  exact append_ok I ro rv hf fun s' I' hr => by subst hr; exact hQ g _ s' g.le_refl I' (zby.mpr rfl)
noncomputable def popF (σ : St) (o : AV) (args : List AV) : Option (AV × St) := o.n?.bind fun n => if args = [] then (stL σ n).bind fun xs => xs.getLast?.bind fun x => if xs.length <= 100000 then some (x, { σ with st := σ.st.set n (.lst xs.dropLast) }) else Option.none else Option.none
theorem RVs.dropLast {B : Fz} {ρ : List Addr} {xs : List AV} {vs : List Value} (h : RVs B ρ xs vs) : RVs B ρ xs.dropLast vs.dropLast := by
 rw [List.dropLast_eq_take, List.dropLast_eq_take, h.length]; exact h.take _
theorem o_pop : OpM h "list.pop" popF := by
 intro G K g σ σ' o r args ov va A s Q E ok hA I ro ra hf hQ
 obtain ⟨n, en, hf⟩ := bS hf
 obtain ⟨ea, hf⟩ := iS hf
 obtain ⟨xs, h0, hf⟩ := bS hf
 obtain ⟨x, hx, hf⟩ := bS hf
 obtain ⟨hl, hf⟩ := iS hf
 obtain ⟨rfl, rfl⟩ := Prod.mk.inj (Option.some.inj hf)
 obtain rfl := AV.loc_of en
 have h0 := Qr h0
 subst ea
 have : va = [] := ra
 subst this
 obtain ⟨l, rfl, hl'⟩ := ZD.mp ro
 have hk144 := I.st n _ l h0 hl'; obtain ⟨vs, ep, ho, hr⟩ := hk144
 have hx' : xs[xs.length - 1]? = some x := by rw [<- List.getLast?_eq_getElem?]; exact hx
 obtain ⟨v, ev, rv⟩ := hr.get hx'
 have hlen := hr.length
 have hpos : 0 < vs.length := by have := (List.getElem?_eq_some_iff.mp ev).1; omega
 refine call_meets F.slot_list_pop ⟨_, ho, rfl⟩ F.entry_list_pop (F.args_list_pop_1 _) (MeetsSeq.list_pop_last l vs.toArray ep v (by rw [List.size_toArray, hlen]; simpa using ev) (by rw [List.size_toArray, hlen, sizeLine_eq]; omega)) ⟨ho, ?_⟩
 refine hQ g v _ g.le_refl (I.updEnt s.toks hl' h0 (by intro h; cases h) (Heap.SameBut.update ..) ⟨vs.dropLast, ?_⟩) rv
 have e2 : vs.toArray.eraseIdxIfInBounds (vs.toArray.size - 1) = vs.dropLast.toArray := by
  apply Array.ext'
  rw [Array.toList_eraseIdxIfInBounds, List.size_toArray]
  show vs.eraseIdx (vs.length - 1) = vs.dropLast
  exact List.eraseIdx_length_sub_one
 obtain ⟨ep', e1⟩ : ∃ e, Obj.mapSeq (fun xs => xs.eraseIdxIfInBounds (vs.toArray.size - 1)) (zM vs ep) = zM vs.dropLast e := by
  unfold Obj.mapSeq zM
  dsimp only
  rw [e2]
  exact ⟨_, rfl⟩
 refine ⟨ep', ?_, hr.dropLast⟩
 rw [<- e1]
 exact Heap.get?_update_self _ ho (by rw [e1]; rfl)
noncomputable def XN (σ : St) (o : AV) (args : List AV) : Option (AV × St) := o.n?.bind fun n => (one? args).bind fun x => x.l?.bind fun ys => (stL σ n).bind fun xs => if xs.length + ys.length <= 100000 then some (.none, { σ with st := σ.st.set n (.lst (xs ++ ys)) }) else Option.none
theorem extendF_inv {σ σ' : St} {o r : AV} {args : List AV} (h : XN σ o args = some (r, σ')) : ∃ n xs ys, o = .loc n /\ args = [.lst ys] /\ σ.st[n]? = some (.lst xs) /\ xs.length + ys.length <= 100000 /\ r = .none /\ σ' = { σ with st := σ.st.set n (.lst (xs ++ ys)) } := by
 obtain ⟨n, en, h⟩ := bS h
 obtain ⟨x, ex, h⟩ := bS h
 obtain ⟨ys, ey, h⟩ := bS h
 obtain ⟨xs, h0, h⟩ := bS h
 obtain ⟨hl, h⟩ := iS h
 obtain ⟨e1, e2⟩ := Prod.mk.inj (Option.some.inj h)
 exact ⟨n, xs, ys, AV.loc_of en, AV.lst_of ey ▸ Xu ex, Qr h0, hl, e1.symm, e2.symm⟩
theorem o_extend : OpM h "list.extend" XN := by
 intro G K g σ σ' o r args ov va A s Q E ok hA I ro ra hf hQ
 obtain ⟨n, xs, ys, rfl, rfl, h0, hl, rfl, rfl⟩ := extendF_inv hf
 obtain ⟨v, rfl, rv⟩ := ZM ra
 obtain ⟨b, ws, n2, rfl, hb, hr2⟩ := Yj.mp rv
 obtain ⟨l, rfl, hl'⟩ := ZD.mp ro
 have hk190 := I.st n _ l h0 hl'; obtain ⟨vs, ep, ho, hr⟩ := hk190
 have l1 := hr.length
 have l2 := hr2.length
 refine call_meets F.slot_list_extend ⟨_, ho, rfl⟩ F.entry_list_extend (F.args_list_extend_2 _ _) (AutoSeq1.list_extend_list_list_0 l vs.toArray ep b ws.toArray n2 (extend_door (by simp only [List.size_toArray, sizeLine_eq]; omega)) (by simp only [List.size_toArray, sizeLine_eq]; omega) (by simp only [List.size_toArray, sizeLine_eq]; omega)) ⟨ho, I.hB _ _ hb, ?_⟩
 refine hQ g _ _ g.le_refl (I.updEnt s.toks hl' h0 (by intro h; cases h) (Heap.SameBut.update ..) ⟨vs ++ ws, ?_⟩) (zby.mpr rfl)
 obtain ⟨ep', e1⟩ : ∃ e, Obj.mapSeq (fun x => x ++ ws.toArray) (zM vs ep) = zM (vs ++ ws) e := by
  unfold Obj.mapSeq zM
  dsimp only
  rw [List.append_toArray]
  exact ⟨_, rfl⟩
 refine ⟨ep', ?_, hr.append hr2⟩
 rw [<- e1]
 exact Heap.get?_update_self _ ho (by rw [e1]; rfl)
noncomputable def indexF (σ : St) (o : AV) (args : List AV) : Option (AV × St) := (asL σ o).bind fun xs => (one? args).bind fun x => x.i?.bind fun k => (Zr xs).bind fun is => if PyData.layable0 (.list (is.map .int)) = true /\ k ∈ is then some (.int (is.idxOf k : Nat), σ) else Option.none
theorem indexF_inv {σ σ' : St} {o r : AV} {args : List AV} (h : indexF σ o args = some (r, σ')) : ∃ k xs is, asL σ o = some xs /\ args = [.int k] /\ Zr xs = some is /\ PyData.layable0 (.list (is.map .int)) = true /\ k ∈ is /\ r = .int (is.idxOf k : Nat) /\ σ' = σ := by
 obtain ⟨xs, e1, h⟩ := bS h
 obtain ⟨x, ex, h⟩ := bS h
 obtain ⟨k, ek, h⟩ := bS h
 obtain ⟨is, e2, h⟩ := bS h
 obtain ⟨hl, h⟩ := iS h
 obtain ⟨e3, e4⟩ := Prod.mk.inj (Option.some.inj h)
 exact ⟨k, xs, is, e1, AV.int_of ek ▸ Xu ex, e2, hl.1, hl.2, e3.symm, e4.symm⟩
theorem o_index : OpM h "list.index" indexF := by
 intro G K g σ σ' o r args ov va A s Q E ok hA I ro ra hf hQ
 obtain ⟨k, xs, is, e1, rfl, e2, hl, hk, rfl, rfl⟩ := indexF_inv hf
 obtain ⟨v, rfl, rv⟩ := ZM ra
 obtain ⟨t, rfl⟩ := zw.mp rv
 obtain ⟨l, vs, n, rfl, ho, hr⟩ := I.isL ro e1
 exact index_list_ints (zy ho) (RVs.ints e2 hr) hl hk (hQ g _ _ g.le_refl (I.tok _) (zw.mpr ⟨_, rfl⟩))
noncomputable def ZB (sep : List Nat) : List (List Nat) -> List Nat
 | [] => []
 | x :: r => r.foldl (fun acc p => acc ++ sep ++ p) x
theorem join_eq (sep : List Nat) (ps : List (List Nat)) : Txt.join ⟨sep.toArray⟩ (ps.map fun l => ⟨l.toArray⟩) = ⟨(ZB sep ps).toArray⟩ := by
 cases ps with
 | nil => rfl
 | cons x r =>
  show (⟨((r.map fun l => (⟨l.toArray⟩ : Str))).foldl (fun acc p => acc ++ sep.toArray ++ p.cps) x.toArray⟩ : Str) = ⟨(r.foldl (fun acc p => acc ++ sep ++ p) x).toArray⟩
  congr 1
  rw [List.foldl_map]
  generalize x = y
  induction r generalizing y with
  | nil => rfl
  | cons z r ih =>
   simp only [List.foldl_cons]
   rw [<- ih (y ++ sep ++ z)]
   congr 1
   simp
noncomputable def zaw (σ : St) (o : AV) (args : List AV) : Option (AV × St) := o.s?.bind fun sep => (one? args).bind fun a => (asL σ a).bind fun xs => (Xp xs).bind fun ps => if sep.length <= 64 /\ (ps.map List.length).sum + ps.length * 64 <= 16777216 then some (.str (ZB sep ps), σ) else Option.none
theorem joinF_inv {σ σ' : St} {o r : AV} {args : List AV} (h : zaw σ o args = some (r, σ')) : ∃ sep a xs ps, o = .str sep /\ args = [a] /\ asL σ a = some xs /\ Xp xs = some ps /\ sep.length <= 64 /\ (ps.map List.length).sum + ps.length * 64 <= 16777216 /\ r = .str (ZB sep ps) /\ σ' = σ := by
 obtain ⟨sep, es, h⟩ := bS h
 obtain ⟨a, ea, h⟩ := bS h
 obtain ⟨xs, e1, h⟩ := bS h
 obtain ⟨ps, e2, h⟩ := bS h
 obtain ⟨hl, h⟩ := iS h
 obtain ⟨e3, e4⟩ := Prod.mk.inj (Option.some.inj h)
 exact ⟨sep, a, xs, ps, AV.str_of es, Xu ea, e1, e2, hl.1, hl.2, e3.symm, e4.symm⟩
theorem o_join : OpM h "str.join" zaw := by
 intro G K g σ σ' o r args ov va A s Q E ok hA I ro ra hf hQ
 obtain ⟨sep, a, xs, ps, rfl, rfl, e1, e2, h1, h2, rfl, rfl⟩ := joinF_inv hf
 obtain ⟨v, rfl, rv⟩ := ZM ra
 obtain ⟨t, rfl⟩ := zX.mp ro
 obtain ⟨l, vs, n, rfl, ho, hr⟩ := I.isL rv e1
 have hS := RVs.strs e2 hr
 refine wpAny_with_toks (Nat.le_refl s.toks) (join_listC (zy ho) hS (by show sep.toArray.size <= 64; simpa using h1) ?_ fun t' k (htk : s.toks <= k) => hQ g _ _ g.le_refl (I.tok k) (zX.mpr ⟨t', ?_⟩))
 ·rw [List.map_map, List.length_map]
  have : (ps.map ((fun x : Str => x.length) ∘ fun l => (⟨l.toArray⟩ : Str))) = ps.map List.length := by
   apply List.map_congr_left; intro l _; show l.toArray.size = _; simp
  rw [this]; exact h2
 ·rw [join_eq]
end
section
variable {prog : Program} {w : World} {A : Around} {E : Value -> Shared -> Prop} {h : Heap} {g : Array GenState} {d : Drawn} {t : Nat} {os : OsState} {a : Addr} {o : Obj}
theorem lk_append : typeLookup (.type "list") "append" = pure (some (.builtin "list.append")) := F.slot_list_append.lookup
theorem md_get : typeLookup (.type "method_descriptor") "__get__" = pure (some (.builtin "method_descriptor.__get__")) := by rw [typeLookup_type, builtinLookup_eq_fast]; kernel_rfl
theorem md_set : typeLookup (.type "method_descriptor") "__set__" = pure Option.none := by rw [typeLookup_type, builtinLookup_eq_fast]; kernel_rfl
theorem md_del : typeLookup (.type "method_descriptor") "__delete__" = pure Option.none := by rw [typeLookup_type, builtinLookup_eq_fast]; kernel_rfl
theorem slot_md_get : Slot "method_descriptor" "__get__" "method_descriptor.__get__" :=
 .of (owner := "method_descriptor") (n := "__get__") md_get (by decide +kernel) (by decide +kernel) (by decide +kernel)
  (by first | exact .inl (by decide +kernel) | exact .inr (by decide +kernel)) (by rw [isSubtype_type]; kernel_rfl)
theorem entry_md_get : entryFor table "method_descriptor.__get__" = some Builtin.«method_descriptor.__get__» := entryFor_of_tree (by kernel_rfl)
theorem args_md_get (a b c : Value) : argsOk "method_descriptor.__get__" ⟨[a, b, c], []⟩ := by unfold argsOk; kernel_rfl
theorem sub_append_owner : isSubtype (.type "list") (.type (".".intercalate ("list.append".cutAt '.').dropLast)) = pure true := by
 rw [show ".".intercalate ("list.append".cutAt '.').dropLast = "list" by decide +kernel, isSubtype_type]; kernel_rfl
theorem app_get {vs : List Value} {n : Nat} {R : Result -> Shared -> Prop} (hx : h.get? a = some { cls := .type "list", dict := Option.none, data := .seq vs.toArray n, slots := #[] }) (hq : R (.ok (.ret (.ref h.objs.size))) ⟨h.push (zcn a), g, d, t, os⟩) :
  codeAny (model prog w) A (.call (.builtin "method_descriptor.__get__") ⟨[.builtin "list.append", .ref a, .type "list"], []⟩) R ⟨h, g, d, t, os⟩ := by
 have hT : (⟨h, g, d, t, os⟩ : Shared).TypeIs (.ref a) "list" := ⟨_, hx, rfl⟩
 have hT5 : (⟨h, g, d, t, os⟩ : Shared).TypeIs (.builtin "list.append") "method_descriptor" := F.type_list_append
 refine codeAny_call_builtin slot_md_get.plain entry_md_get (slot_md_get.check _ _ _ _ _ _ _ _ hT5 (args_md_get _ _ _) ?_)
 have f9 := sub_append_owner
 repeat (any_goals (first | assumption | wp_step))
theorem app_entry {vs : List Value} {n : Nat} {tk : Tok} {Q : Fin -> Shared -> Prop} (hx : h.get? a = some { cls := .type "list", dict := Option.none, data := .seq vs.toArray n, slots := #[] }) (hq : Q (.done (.ret (.ref h.objs.size))) ⟨h.push (zcn a), g, d, t, os⟩) :
  wpAny (model prog w) A (Builtin.«object.__getattribute__» ⟨[.ref a, .str "append" tk], []⟩) Q E ⟨h, g, d, t, os⟩ := by
 have hT : (⟨h, g, d, t, os⟩ : Shared).TypeIs (.ref a) "list" := ⟨_, hx, rfl⟩
 have hT5 : (⟨h, g, d, t, os⟩ : Shared).TypeIs (.builtin "list.append") "method_descriptor" := F.type_list_append
 have f4 := lk_append
 have f5 := F.type_list_append
 have f6 := md_get
 have f7 := md_set
 have f8 := md_del
 repeat (any_goals (first | assumption | wp_step))
 refine app_get hx ?_
 repeat (any_goals (first | assumption | wp_step))
theorem entry_list_ga : entryFor table "list.__getattribute__" = some Builtin.«object.__getattribute__» :=
 entryFor_alias (id' := "object.__getattribute__") (by kernel_rfl) (by first | rfl | decide +kernel) (by decide +kernel) (by kernel_rfl)
theorem app_call {vs : List Value} {n : Nat} {tk : Tok} {R : Result -> Shared -> Prop} (hx : h.get? a = some { cls := .type "list", dict := Option.none, data := .seq vs.toArray n, slots := #[] }) (hq : R (.ok (.ret (.ref h.objs.size))) ⟨h.push (zcn a), g, d, t, os⟩) :
  codeAny (model prog w) A (.call (.builtin "list.__getattribute__") ⟨[.ref a, .str "append" tk], []⟩) R ⟨h, g, d, t, os⟩ :=
 codeAny_call_builtin F.slot_list_getattribute.plain entry_list_ga (F.slot_list_getattribute.check _ _ _ _ _ _ _ _ (show (⟨h, g, d, t, os⟩ : Shared).TypeIs (.ref a) "list" from ⟨_, hx, rfl⟩) (F.args_list_getattribute_2 _ _) (app_entry hx hq))
theorem app_attr {vs : List Value} {n : Nat} {Q : Value -> Shared -> Prop} (hx : h.get? a = some { cls := .type "list", dict := Option.none, data := .seq vs.toArray n, slots := #[] }) (hq : Q (.ref h.objs.size) ⟨h.push (zcn a), g, d, t + 1, os⟩) :
  wpAny (model prog w) A (getAttr (.ref a) "append" true) Q E ⟨h, g, d, t, os⟩ := by
 have hT : ∀ tk', (⟨h, g, d, tk', os⟩ : Shared).TypeIs (.ref a) "list" := fun _ => ⟨_, hx, rfl⟩
 have f2 := F.slot_list_getattribute.lookup
 have f3 := F.slot_list_getattribute.bind (.ref a)
 unfold getAttr getAttrBy
 repeat (any_goals (first | assumption | exact hT _ | wp_step))
 refine app_call hx ?_
 repeat (any_goals (first | assumption | exact hT _ | wp_step))
theorem sub_list_module : isSubtype (.type "list") (.type "module") = pure false := by rw [isSubtype_type]; kernel_rfl
theorem app_bound {b : Addr} {v : Value} {vs : List Value} {n : Nat} {Q : Value -> Shared -> Prop} (hb : h.get? b = some (zcn a)) (hx : h.get? a = some { cls := .type "list", dict := Option.none, data := .seq vs.toArray n, slots := #[] }) (hn : vs.length <= 100000)
  (hQ : ∀ h', h'.PlainList a (vs.toArray.push v) -> Heap.SameBut a h h' -> Q .none ⟨h', g, d, t, os⟩) : wpAny (model prog w) A (call (.ref b) [v]) Q E ⟨h, g, d, t, os⟩ := by
 have hT : (⟨h, g, d, t, os⟩ : Shared).TypeIs (.ref a) "list" := ⟨_, hx, rfl⟩
 refine wpAny_call (codeAny_of_tree ?_)
 show wpAny _ _ (callAny (.ref b) ⟨[v], []⟩) _ _ _
 have f1 := sub_list_module
 unfold callAny
 repeat (any_goals (first | assumption | exact hT | wp_step))
 refine ⟨plainId_quiet (id := "list.append") (by decide +kernel) _, codeAny_builtin entry_list_append ?_⟩
 show wpAny _ _ (updateSeq a (·.push v) >>= fun _ => ret .none) _ _ _
 refine wpAny_bind (wpAny_updateSeq hx rfl (wpAny_pure (hQ _ ?_ (Heap.SameBut.update ..))) (hz := by rw [List.size_toArray, sizeLine_eq]; omega))
 refine ⟨n + 1, ?_⟩
 have e1 : Obj.mapSeq (fun x => x.push v) { cls := .type "list", dict := Option.none, data := .seq vs.toArray n, slots := #[] } = { cls := .type "list", dict := Option.none, data := .seq (vs.toArray.push v) (n + 1), slots := #[] } := by
  simp [Obj.mapSeq]
 rw [<- e1]
 exact Heap.get?_update_self _ hx (by rw [e1]; rfl)
end
section
variable {V : Vis} {h : Nat}
noncomputable def appF (σ : St) (a : AV) : Option AV := a.n?.bind fun n => (stL σ n).map fun _ => .app n
theorem appF_inv {σ : St} {a r : AV} (h : appF σ a = some r) : ∃ n xs, a = .loc n /\ σ.st[n]? = some (.lst xs) /\ r = .app n := by
 obtain ⟨n, en, h⟩ := bS h
 obtain ⟨xs, h0, h⟩ := Option.map_eq_some_iff.mp h
 exact ⟨n, xs, AV.loc_of en, Qr h0, h.symm⟩
theorem QS {x : Str} {i : Nat} {p pos : Pos} (hx : SE V h (.Name x p) (za i)) : SE V h (.Attribute (.Name x p) (Str.ofString "append") pos) (Zg appF (za i)) := by
 intro G K g σ σ' b A env s Q E ok hA hE I hm hQ
 obtain ⟨a, σ₁, e1, e3⟩ := PM.bd_some hm
 obtain ⟨e3, rfl⟩ := PM.of_some e3
 dsimp only at e3
 show wpAny _ A (eval (.Attribute (.Name x p) (Str.ofString "append") pos) env) Q E s
 rw [arm_eval_Attribute]
 show wpAny _ A (eval (.Name x p) env >>= _) Q E s
 refine wpAny_bind (hx G K g σ _ a A env s _ E ok hA hE I e1 fun g1 v s1 l1 I1 r1 => wpAny_bind (wpAny_standAt (wpAny_bind (wpAny_holding ?_))))
 obtain ⟨n, xs, rfl, h0, rfl⟩ := appF_inv e3
 obtain ⟨l, rfl, hl⟩ := ZD.mp r1
 have hk98 := I1.st n _ l h0 hl; obtain ⟨vs, ep, ho, hr⟩ := hk98
 obtain ⟨hp, gs, d, tk, os⟩ := s1
 refine app_attr ho (wpAny_bind (wpAny_pure (wpAny_pure ?_)))
 have hfr := zH hp
 have I2 := I1.grow (h' := hp.push (zcn l)) (tk + 1) (fun b o e => Heap.get?_push_of_some _ e) (fun b o => b = hp.objs.size /\ o = zcn l) (fun b o e => by rw [e.1, e.2]; exact ⟨Heap.get?_push_size _ rfl, hfr⟩) (Nat.le_succ _)
 refine hQ { g1 with B := fun b o => g1.B b o ∨ (b = hp.objs.size /\ o = zcn l) } _ _ (l1.trans ⟨fun _ _ x => .inl x, fun _ _ x => x, rfl⟩) I2 (rv_app.mpr ⟨l, hp.objs.size, rfl, hl, .inr ⟨rfl, rfl⟩⟩)
theorem callWith_app {M : Model} {A : Around} {E : Value -> Shared -> Prop} {s : Shared} {pos : Pos} {b l : Addr} {args : List (Bool × Sem Value)} {Q : Value -> Shared -> Prop} (hplain : args.any (·.1) = false)
  (hx : wpAny M A (evalArgs (.ref b) true args []) (fun x s₁ => s₁.heap.get? b = some (zcn l) /\ wpAny M A (call (.ref b) x.pos x.kw) Q E s₁) E s) : wpAny M A (callWith pos (.ref b) [] args []) Q E s := by
 unfold callWith
 refine wpAny_bind (wpAny_holding (wpAny_mono hx (fun x s₁ h₁ => wpAny_bind (wpAny_standAt ?_)) fun _ _ x => x))
 obtain ⟨ho, hcall⟩ := h₁
 simp -iota only [hplain, List.any_nil, Bool.or_false]
 refine wpAny_bind (m := keeperOf (.ref b)) ?_
 unfold keeperOf
 refine wpAny_bind (wpAny_load ho ?_)
 simp -iota only [zcn, show (Value.type "builtin_function_or_method" != Value.type "method") = true by decide, show (Value.type "builtin_function_or_method" == Value.type "builtin_function_or_method" || Value.type "builtin_function_or_method" == Value.type "method-wrapper") = true by decide, if_true]
 refine wpAny_pure ?_
 exact wpAny_bind (wpAny_mono hcall (fun r s₂ hr => wpAny_bind (wpAny_holding (wpAny_point (wpAny_pure hr)))) fun _ _ x => x)
noncomputable def appM (mf : PM AV) (me : PM (List AV)) : PM AV := PM.bd mf fun f => PM.bd me fun args => fun σ => match f, args with
 | .app n, [x] => zK σ (.loc n) [x]
 | _, _ => Option.none
theorem Xr {f : Str} {p pos : Pos} {e : Expr} {mf : PM AV} {me : PM (List AV)} (hf : SE V h (.Name f p) mf) (hargs : SEs V h [e] me) (hp : ∀ env, starEach [e] env = (false, eval e env) :: starEach [] env) : SE V h (.Call (.Name f p) [e] [] pos) (appM mf me) := by
 intro G K g σ σ' b A env s Q E ok hA hE I hm hQ
 obtain ⟨a, σ₁, e1, e2⟩ := PM.bd_some hm
 have hk124 := PM.bd_some e2; obtain ⟨xs, σ₂, e4, e3⟩ := hk124
 clear e2
 cases a with
 | app n =>
  match xs, e4, e3 with
  | [], _, e3 => cases e3
  | x :: y :: z, _, e3 => cases e3
  | [x], e2, e3 =>
   refine wpAny_Call_NameR (hf G K g σ σ₁ (.app n) A env s _ E ok hA hE I e1 fun g1 v s1 l1 I1 r1 => ?_)
   obtain ⟨l, c, rfl, hl, hb⟩ := rv_app.mp r1
   rw [hp]
   refine callWith_app (l := l) rfl (evalArgs_plain ?_)
   have hh := hargs pos G K g1 σ₁ σ₂ [x] A env s1 (fun va s2 => s2.heap.get? c = some (zcn l) /\ wpAny (model G.prog G.w) A (call (.ref c) va) Q E s2) E ok hA (hE.le l1) I1 e2 fun g2 va s2 l2 I2 r2 => ?_
   ·dsimp only at hh
    rw [hp] at hh
    exact hh
   ·obtain ⟨w, rfl, rw'⟩ := ZM r2
    have hb2 := l2.B _ _ hb
    have hl2 := l2.ρ _ _ hl
    refine ⟨I2.hB _ _ hb2, ?_⟩
    have e3' : zK σ₂ (.loc n) [x] = some (b, σ') := e3
    have hk := bS (o := some n) e3'; clear e3'; obtain ⟨_, en, e3'⟩ := hk
    obtain rfl := Option.some.inj en
    have hk := bS (o := some x) e3'; clear e3'; obtain ⟨_, ex, e3'⟩ := hk
    obtain rfl := Option.some.inj ex
    obtain ⟨ys, h0, e3'⟩ := bS e3'
    have h0 := Qr h0
    ·obtain ⟨hlen, e3'⟩ := iS e3'
     cases e3'
     have hk151 := I2.st n _ l h0 hl2; obtain ⟨vs, ep, ho, hr⟩ := hk151
     obtain ⟨hp', gs, d, tk, os⟩ := s2
     refine app_bound (I2.hB _ _ hb2) ho (by rw [hr.length]; exact hlen) fun h' hpl hs => ?_
     obtain ⟨ep', ho'⟩ := hpl
     refine hQ g2 _ _ (l1.trans l2) (I2.updEnt tk hl2 h0 (by intro h; cases h) hs ⟨vs ++ [w], ep', ?_, hr.append (.one rw')⟩) (zby.mpr rfl)
     rw [ho']; simp [zM]
 | _ => cases e3
noncomputable def replF (a b : List Nat) (x : AV) : Option AV := x.s?.bind fun l => if l.length + (l.length + 1) * b.length <= 100000 then some (.str (Txt.replace ⟨l.toArray⟩ ⟨a.toArray⟩ ⟨b.toArray⟩).cps.toList) else Option.none
theorem replF_inv {a b : List Nat} {x r : AV} (h : replF a b x = some r) : ∃ l, x = .str l /\ l.length + (l.length + 1) * b.length <= 100000 /\ r = .str (Txt.replace ⟨l.toArray⟩ ⟨a.toArray⟩ ⟨b.toArray⟩).cps.toList := by
 obtain ⟨l, e, h⟩ := bS h
 obtain ⟨hl, h⟩ := iS h
 exact ⟨l, AV.str_of e, hl, (Option.some.inj h).symm⟩
theorem sE_replace {o : Expr} {apos pos p1 p2 : Pos} {k1 k2 : Nat} {a b : Str} {la lb : List Nat} {m : PM AV} (ho : SE V h o m) (ha : a = ⟨la.toArray⟩) (hb : b = ⟨lb.toArray⟩) (hab : (a == b) = false)
  (hbase : ∀ env, attributeBase o (Str.ofString "replace") env (eval o env) = eval o env) (hline : (apos.endLine == pos.line) = true) : SE V h (.Call (.Attribute o (Str.ofString "replace") apos) [.Constant (.str a) k1 p1, .Constant (.str b) k2 p2] [] pos) (Zg (fun _ => replF la lb) m) := by
 intro G K g σ σ' r A env s Q E ok hA hE I hm hQ
 obtain ⟨x, σ₁, e1, e3⟩ := PM.bd_some hm
 obtain ⟨e3, rfl⟩ := PM.of_some e3
 dsimp only at e3
 obtain ⟨l, rfl, hl, rfl⟩ := replF_inv e3
 refine wpAny_Call_method2_late (hbase env) hline rfl (ho G K g σ _ (.str l) A env s _ E ok hA hE I e1 fun g1 v s1 l1 I1 r1 => ?_)
 obtain ⟨t, rfl⟩ := zX.mp r1
 refine ⟨"str", "str.replace", F.plainAttrs_str, F.slot_str_replace, F.type_str_replace, typeIs_str _ _ _, (fun _ e => nomatch e), ?_⟩
 refine Calls.callWith_builtin rfl (evalArgs_plain (Calls.spliced_cons (wpAny_Constant_str (Calls.spliced_cons (wpAny_Constant_str (Calls.spliced_nil ?_))))))
 have htk := I1.tk
 refine wpAny_with_toks (n := s1.toks) (Nat.le_succ_of_le (Nat.le_succ _)) (SC.replace (u := s1.toks) (v := s1.toks + 1) (show @Ne Nat _ _ by omega) (show @Ne Nat _ _ by omega) (show @Ne Nat _ _ by omega) hab ?_ fun t' k (htk2 : s1.toks <= k) => ?_)
 ·subst hb
  show l.toArray.size + (l.toArray.size + 1) * lb.toArray.size <= 16777216
  simp only [List.size_toArray]; omega
 ·refine hQ g1 _ _ l1 (I1.tok k htk2) (zX.mpr ⟨t', ?_⟩)
  subst ha hb
  rw [Array.toArray_toList]
end
theorem mro_object : mroOf (.type "object") = pure [.type "object"] := by rw [mroOf_type]; kernel_rfl
theorem zcd : typeLookup (.type "object") "__new__" = pure (some (.builtin "object.__new__")) := by rw [typeLookup_type, builtinLookup_eq_fast]; kernel_rfl
theorem sub_object_object : isSubtype (.type "object") (.type "object") = pure true := by rw [isSubtype_type]; kernel_rfl
theorem zba : TypeCalled "object" "object.__new__" "object.__init__" :=
 ⟨by decide +kernel, by decide +kernel, ⟨_, _, mro_object⟩, madeBy_type mro_object zcd (by decide +kernel), by decide +kernel, sub_object_object, F.slot_object_init⟩
theorem meets_object_new : Meets (Builtin.«object.__new__» ⟨[.type "object"], []⟩) (fun _ R s => R (.ok (.ret (.ref s.heap.objs.size))) { s with heap := s.heap.push QT }) :=
 .of_wp fun prog w A R s h => by
  obtain ⟨hp, g, d, tk, os⟩ := s
  have f1 := zba.made
  have f2 := mro_object
  wp_walk
  exact ⟨_, rfl, h⟩
theorem zcc (a : Addr) : Meets (Builtin.«object.__init__» ⟨[.ref a], []⟩) (fun _ R s => s.heap.get? a = some QT /\ R (.ok (.ret .none)) s) :=
 .of_wp fun prog w A R s h => by
  obtain ⟨hp, g, d, tk, os⟩ := s
  obtain ⟨ho, h⟩ := h
  wp_walk
  exact ⟨_, rfl, h⟩
section
variable {prog : Program} {w : World} {A : Around} {E : Value -> Shared -> Prop} {s : Shared}
theorem call_object {Q : Value -> Shared -> Prop} (h : Q (.ref s.heap.objs.size) { s with heap := s.heap.push QT }) : wpAny (model prog w) A (call (.type "object") []) Q E s := by
 refine callType_meets (Q₁ := fun obj s₁ => obj = .ref s.heap.objs.size /\ s₁ = { s with heap := s.heap.push QT }) zba (by kernel_rfl) (by kernel_rfl) (entryFor_of_tree (by kernel_rfl)) F.entry_object_init meets_object_new ⟨rfl, rfl⟩ ?_
 rintro obj s₁ ⟨rfl, rfl⟩
 have ho : (s.heap.push QT).get? s.heap.objs.size = some QT := Heap.get?_push_size _ rfl
 exact ⟨⟨_, ho, rfl⟩, F.args_object_init_1 _, _, zcc _, ho, rfl, h⟩
end
section
variable {V : Vis} {h : Nat}
noncomputable def objM : PM AV := fun σ => some (.loc σ.st.length, { σ with st := σ.st ++ [.obj] })
theorem sE_object {p pos : Pos} (hf : Str.ofString "object" ∈ V.gl) : SE V h (.Call (.Name (Str.ofString "object") p) [] [] pos) objM := by
 intro G K g σ σ' b A env s Q E ok hA hE I hm hQ
 cases hm
 refine wpAny_Call_NameR (YN ok hE I hf (by decide) (bv := .type "object") (by decide +kernel) (by decide +kernel) (by decide) (PyProof.Rows.callWith_type0 (call_object ?_)))
 obtain ⟨I', le⟩ := I.newEnt (e := .obj) (h' := s.heap.push QT) s.toks (fun b o e => Heap.get?_push_of_some _ e) (zH _) (Heap.get?_push_size _ rfl)
 exact hQ _ _ _ le I' (ZD.mpr ⟨_, rfl, by rw [<- I.len]; simp⟩)
noncomputable def zay (a b : List Nat) (x : AV) : Option AV := x.s?.bind fun l => if a.length + l.length + b.length <= 100000 then some (.str (a ++ l ++ b)) else Option.none
theorem fstrF_inv {a b : List Nat} {x r : AV} (h : zay a b x = some r) : ∃ l, x = .str l /\ a.length + l.length + b.length <= 100000 /\ r = .str (a ++ l ++ b) := by
 obtain ⟨l, e, h⟩ := bS h
 obtain ⟨hl, h⟩ := iS h
 exact ⟨l, AV.str_of e, hl, (Option.some.inj h).symm⟩
theorem sE_fstr {e : Expr} {a b : Str} {la lb : List Nat} {k1 k2 : Nat} {p1 p2 p3 pos : Pos} {m : PM AV} (he : SE V h e m) (ha : a = ⟨la.toArray⟩) (hb : b = ⟨lb.toArray⟩) :
  SE V h (.JoinedStr [.Constant (.str a) k1 p1, .FormattedValue e (-1) Option.none p2, .Constant (.str b) k2 p3] pos) (Zg (fun _ => zay la lb) m) := by
 intro G K g σ σ' r A env s Q E ok hA hE I hm hQ
 obtain ⟨x, σ₁, e1, e3⟩ := PM.bd_some hm
 obtain ⟨e3, rfl⟩ := PM.of_some e3
 obtain ⟨l, rfl, hl, rfl⟩ := fstrF_inv e3
 subst ha hb
 have z0 : (Str.empty ++ (⟨la.toArray⟩ : Str)) = ⟨la.toArray⟩ := by apply Str.ext'; simp [Str.cps_append, Str.empty]
 have z1 : ((⟨la.toArray⟩ : Str) ++ (⟨l.toArray⟩ : Str)) = ⟨(la ++ l).toArray⟩ := Ye _ _
 have z2 : ((⟨(la ++ l).toArray⟩ : Str) ++ (⟨lb.toArray⟩ : Str)) = ⟨(la ++ l ++ lb).toArray⟩ := Ye _ _
 have sz : ∀ (q : List Nat), (Str.mk q.toArray).length = q.length := fun q => by show q.toArray.size = _; simp
 refine JoinedStr_many (joinParts_cons (wpAny_Constant_str ⟨by rw [z0, sz, sizeLine_eq]; omega, ?_⟩))
 rw [z0]
 refine joinParts_cons (FormattedValue_plain (he G K g σ _ (.str l) A env _ _ E ok hA hE (I.tok _) e1 fun g1 v s1 l1 I1 r1 => ?_))
 obtain ⟨t, rfl⟩ := zX.mp r1
 refine wpAny_with_toks (Nat.le_refl s1.toks) (formatField_str (fun t' tk (htk : s1.toks <= tk) => ?_) (by rw [sz, sizeLine_eq]; omega))
 refine ⟨by rw [z1, sz, sizeLine_eq, List.length_append]; omega, ?_⟩
 rw [z1]
 refine joinParts_cons (wpAny_Constant_str ⟨by rw [z2, sz, sizeLine_eq, List.length_append, List.length_append]; omega, ?_⟩)
 rw [z2]
 exact joinParts_nil (hQ g1 _ _ l1 (I1.tok (tk + 1 + 1) (by show s1.toks <= tk + 1 + 1; omega)) (zX.mpr ⟨_, rfl⟩)) (by rw [sz, sizeLine_eq, List.length_append, List.length_append]; omega)
end
section
variable {G : GC} {K : Kx} {g : Gh} {σ σ' : St} {s : Shared}
theorem Wf.freezeAs (I : Wf G K g σ s) {n : Nat} {xs xs' : List AV} (h0 : σ.st[n]? = some (.lst xs)) {v : Value} (hv : g.rv (.loc n) v) (hx : ∀ a vs ep, v = .ref a -> s.heap.get? a = some (zM vs ep) -> g.rvs xs vs -> g.rvs xs' vs) :
  ∃ g', g.le g' /\ Wf G K g' { σ with st := σ.st.set n .dead } s /\ g'.rv (.lst xs') v := by
 have hk10 := ZD.mp hv; obtain ⟨a, rfl, ha⟩ := hk10
 obtain ⟨vs, ep, ho, hr⟩ := I.st n _ a h0 ha
 obtain ⟨g', le, I', r⟩ := I.freeze h0 hv
 obtain ⟨a', vs', ep', e, hb, hr'⟩ := Yj.mp r
 cases e
 have e2 := I'.hB _ _ hb
 rw [ho] at e2
 have e3 : vs = vs' /\ ep = ep' := by
  have := Option.some.inj e2
  simp only [zM, Obj.mk.injEq, Data.seq.injEq, true_and, and_true] at this
  exact ⟨by simpa using congrArg Array.toList this.1, this.2⟩
 obtain ⟨rfl, rfl⟩ := e3
 exact ⟨g', le, I', Yj.mpr ⟨a, vs, ep, rfl, hb, Gh.rvs_le le (hx a vs ep rfl ho hr)⟩⟩
noncomputable def fz1 (σ : St) (v : AV) : Option (AV × St) := match v with
 | .loc n => σ.st[n]?.bind fun e => match e with
  | .lst xs => some (.lst xs, { σ with st := σ.st.set n .dead })
  | .obj => some (.loc n, σ)
  | _ => Option.none
 | v => some (v, σ)
noncomputable def fzL (σ : St) : List AV -> Option (List AV × St)
 | [] => some ([], σ)
 | x :: xs => (fz1 σ x).bind fun p => (fzL p.2 xs).map fun q => (p.1 :: q.1, q.2)
noncomputable def fz2 (σ : St) (v : AV) : Option (AV × St) := match v with
 | .loc n => (stL σ n).bind fun xs => (fzL σ xs).bind fun p => (stL p.2 n).bind fun zs => if zs.length = p.1.length then some (.lst p.1, { p.2 with st := p.2.st.set n .dead }) else Option.none
 | v => some (v, σ)
theorem fz1_ok (I : Wf G K g σ s) {v r : AV} {w : Value} (rv : g.rv v w) (h : fz1 σ v = some (r, σ')) : ∃ g', g.le g' /\ Wf G K g' σ' s /\ g'.rv r w := by
 cases v with
 | loc n =>
  obtain ⟨e, h0, h⟩ := bS h
  cases e with
  | lst xs => cases h; exact I.freeze h0 rv
  | obj => cases h; exact ⟨g, g.le_refl, I, rv⟩
  | _ => exact nn h
 | _ => cases h; exact ⟨g, g.le_refl, I, rv⟩
theorem fzL_ok : ∀ {xs ys : List AV} {g : Gh} {σ σ' : St} {vs : List Value}, Wf G K g σ s -> g.rvs xs vs -> fzL σ xs = some (ys, σ') -> ∃ g', g.le g' /\ Wf G K g' σ' s /\ g'.rvs ys vs
 | [], ys, g, σ, σ', vs, I, r, h => by
  cases h
  exact ⟨g, g.le_refl, I, r⟩
 | x :: xs, ys, g, σ, σ', vs, I, r, h => by
  obtain ⟨v, vs', rfl, h1, h2⟩ := RVs.head r
  obtain ⟨p, e1, h⟩ := bS h
  obtain ⟨q, e2, h⟩ := Option.map_eq_some_iff.mp h
  obtain ⟨rfl, rfl⟩ := Prod.mk.inj h
  obtain ⟨g1, l1, I1, r1⟩ := fz1_ok I h1 e1
  obtain ⟨g2, l2, I2, r2⟩ := fzL_ok I1 (Gh.rvs_le l1 h2) e2
  exact ⟨g2, l1.trans l2, I2, .cons (Gh.rv_le l2 r1) r2⟩
theorem fz2_ok (I : Wf G K g σ s) {v r : AV} {w : Value} (rv : g.rv v w) (h : fz2 σ v = some (r, σ')) : ∃ g', g.le g' /\ Wf G K g' σ' s /\ g'.rv r w := by
 cases v with
 | loc n =>
  obtain ⟨xs, h0, h⟩ := bS h
  obtain ⟨⟨ys, σ₁⟩, e1, h⟩ := bS h
  obtain ⟨zs, h1, h⟩ := bS h
  obtain ⟨_, h⟩ := iS h
  obtain ⟨rfl, rfl⟩ := Prod.mk.inj (Option.some.inj h)
  have h0 := Qr h0
  have h1 := Qr h1
  have hk88 := ZD.mp rv; obtain ⟨a, rfl, ha⟩ := hk88
  obtain ⟨vs, ep, ho, hr⟩ := I.st n _ a h0 ha
  obtain ⟨g1, l1, I1, r1⟩ := fzL_ok I hr e1
  obtain ⟨g2, l2, I2, r2⟩ := I1.freezeAs h1 (Gh.rv_le l1 rv) (xs' := ys) fun a' vs' ep' e ho' _ => by
   cases e
   rw [ho] at ho'
   have e3 : vs = vs' := by
    have := Option.some.inj ho'
    simp only [zM, Obj.mk.injEq, Data.seq.injEq, true_and, and_true] at this
    simpa using congrArg Array.toList this.1
   exact e3 ▸ r1
  exact ⟨g2, l1.trans l2, I2, r2⟩
 | _ => cases h; exact ⟨g, g.le_refl, I, rv⟩
end
noncomputable def fzM (m : PM AV) : PM AV := PM.bd m fun v => fun σ => fz2 σ v
theorem sE_fz {V : Vis} {h : Nat} {e : Expr} {m : PM AV} (he : SE V h e m) : SE V h e (fzM m) := by
 intro G K g σ σ' b A env s Q E ok hA hE I hm hQ
 obtain ⟨v, σ₁, e1, e2⟩ := PM.bd_some hm
 refine he G K g σ σ₁ v A env s Q E ok hA hE I e1 fun g1 a s1 l1 I1 r1 => ?_
 obtain ⟨g2, l2, I2, r2⟩ := fz2_ok I1 r1 e2
 exact hQ g2 a s1 (l1.trans l2) I2 r2
structure ZA (z TI TO i1 i2 : Addr) (fp1 fp2 : List Addr) : Prop where
 TIz : TI ≠ z
 TOz : TO ≠ z
 i1z : i1 ≠ z
 i2z : i2 ≠ z
 TITO : TI ≠ TO
 TIi1 : TI ≠ i1
 TIi2 : TI ≠ i2
 TOi1 : TO ≠ i1
 TOi2 : TO ≠ i2
 i12 : i1 ≠ i2
 z1 : z ∉ fp1
 T1 : TO ∉ fp1
 j1 : i2 ∉ fp1
 z2 : z ∉ fp2
 T2 : TO ∉ fp2
 j2 : i1 ∉ fp2
section
variable {prog : Program} {w : World} {A : Around} {E : Value -> Shared -> Prop} {s : Shared} {z TI TO i1 i2 : Addr} {fp1 fp2 : List Addr} {n1 n2 : Nat} {P1 P2 : Nat -> Value -> Prop} {S1 S2 : Nat -> Heap -> Prop}
theorem zY {S : Nat -> Heap -> Prop} {j : Nat} {h h' : Heap} {fp : List Addr} {a : Addr} (f : ∀ i h h', S i h -> (∀ b ∈ fp, ∀ o, h.get? b = some o -> h'.get? b = some o) -> S i h') (st : S j h) (hs : Heap.ExtBut a h h') (ha : a ∉ fp) : S j h' :=
 f j h h' st fun b hb o e => hs b o (fun e' => ha (e' ▸ hb)) e
theorem zipD_item (D1 : Draws prog w A i1 fp1 n1 P1 S1) (D2 : Draws prog w A i2 fp2 n2 P2 S2) (X : ZA z TI TO i1 i2 fp1 fp2) {j : Nat} (hj1 : j < n1) (hj2 : j < n2) {a b : Value} {Q : Value -> Shared -> Prop}
  (hz : IsZip s.heap z TI TO .none) (hTI : IsPair s.heap TI (.ref i1) (.ref i2)) (hTO : IsPair s.heap TO a b) (st1 : S1 j s.heap) (st2 : S2 j s.heap)
  (hQ : ∀ h' tk x y, P1 j x -> P2 j y -> IsZip h' z TI TO (rawInt s.heap.objs.size) -> IsPair h' TO x y -> S1 (j + 1) h' -> S2 (j + 1) h' -> IsPair h' s.heap.objs.size x y ->
   (∀ c o, c ≠ z -> c ≠ TO -> c ≠ i1 -> c ≠ i2 -> s.heap.get? c = some o -> h'.get? c = some o) -> Q (.ref s.heap.objs.size) { s with heap := h', toks := tk }) :
  wpAny (model prog w) A (Builtin.«zip.__next__» ⟨[.ref z], []⟩) (fun fin s' => ∃ v, fin = .done (.ret v) /\ Q v s') E s := by
 show wpAny _ _ (field (.ref z) 2 >>= _) _ _ _
 refine wpAny_bind (wpAny_field hz rfl (x := .bool false) rfl ?_)
 show wpAny _ _ (field (.ref z) 3 >>= _) _ _ _
 refine wpAny_bind (wpAny_field hz rfl (x := .ref TI) rfl ?_)
 refine wpAny_bind (wpAny_seqItems hTI rfl ?_)
 show wpAny _ _ (Builtin.SmallTypes.ownedTupleIsFree (.ref z) >>= _) _ _ _
 refine wpAny_bind ?_
 unfold Builtin.SmallTypes.ownedTupleIsFree
 refine wpAny_bind (wpAny_field hz rfl (x := .none) rfl (wpAny_pure ?_))
 simp -iota only [if_true]
 refine wpAny_bind (wpAny_rule ?_)
 refine wpAny_bind (wpAny_field hz rfl (x := .ref TO) rfl ?_)
 refine wpAny_bind (wpAny_setField_rec hz (by simp) fun h₁ hz₁ hs₁ => ?_)
 replace hz₁ : IsZip h₁ z TI TO .ellipsis := hz₁
 refine wpAny_bind ?_
 simp -iota only [List.zipIdx_cons, List.zipIdx_nil, List.forIn_cons, List.forIn_nil]
 refine wpAny_bind (wpAny_bind (wpAny_onRaise ?_))
 show wpAny _ _ (Builtin.SmallTypes.nextOf (.ref i1) >>= _) _ _ _
 refine wpAny_bind (D1.item j _ _ _ hj1 (zY D1.frame st1 hs₁.extBut X.z1) fun x h₂ tk₂ hx st12 hs₂ => wpAny_pure ?_)
 have hTO2 : IsPair h₂ TO a b := hs₂.extBut _ _ X.TOi1 (hs₁.extBut _ _ X.TOz hTO)
 refine wpAny_bind (wpAny_seqItems hTO2 rfl ?_)
 refine wpAny_bind (wpAny_updateSeq_pair hTO2 fun h₃ hTO3 hs₃ => ?_)
 replace hTO3 : IsPair h₃ TO x b := hTO3
 refine wpAny_bind (wpAny_letGo (wpAny_pure ?_))
 refine wpAny_bind (wpAny_bind (wpAny_onRaise ?_))
 show wpAny _ _ (Builtin.SmallTypes.nextOf (.ref i2) >>= _) _ _ _
 refine wpAny_bind (D2.item j _ _ _ hj2 (zY D2.frame (zY D2.frame (zY D2.frame st2 hs₁.extBut X.z2) hs₂.extBut X.j2) hs₃.extBut X.T2) fun y h₄ tk₄ hy st24 hs₄ => wpAny_pure ?_)
 have hTO4 : IsPair h₄ TO x b := hs₄.extBut _ _ X.TOi2 hTO3
 refine wpAny_bind (wpAny_seqItems hTO4 rfl ?_)
 refine wpAny_bind (wpAny_updateSeq_pair hTO4 fun h₅ hTO5 hs5 => ?_)
 replace hTO5 : IsPair h₅ TO x y := hTO5
 refine wpAny_bind (wpAny_letGo (wpAny_pure (wpAny_pure ?_)))
 refine wpAny_bind (wpAny_seqItems hTO5 rfl ?_)
 refine wpAny_bind (wpAny_newTuple ?_)
 have hsz : h₅.objs.size = s.heap.objs.size := by rw [hs5.1, hs₄.1, hs₃.1, hs₂.1, hs₁.1]
 have hz5 : IsZip h₅ z TI TO .ellipsis := hs5.extBut _ _ X.TOz.symm (hs₄.extBut _ _ X.i2z.symm (hs₃.extBut _ _ X.TOz.symm (hs₂.extBut _ _ X.i1z.symm hz₁)))
 have hk₅ : ∀ c o, c ≠ z -> c ≠ TO -> c ≠ i1 -> c ≠ i2 -> s.heap.get? c = some o -> h₅.get? c = some o := fun c o c1 c2 c3 c4 e =>
  hs5.extBut _ _ c2 (hs₄.extBut _ _ c4 (hs₃.extBut _ _ c2 (hs₂.extBut _ _ c3 (hs₁.extBut _ _ c1 e))))
 have st15 : S1 (j + 1) h₅ := zY D1.frame (zY D1.frame (zY D1.frame st12 hs₃.extBut X.T1) hs₄.extBut X.j1) hs5.extBut X.T1
 have st25 : S2 (j + 1) h₅ := zY D2.frame st24 hs5.extBut X.T2
 have hzlt : z < h₅.objs.size := Heap.lt_size hz5
 show wpAny _ _ (Builtin.SmallTypes.ownedTupleHandOut (.ref z) (.ref h₅.objs.size) >>= _) _ _ _
 refine wpAny_bind ?_
 unfold Builtin.SmallTypes.ownedTupleHandOut
 have hz6 : IsZip (h₅.push { cls := .type "tuple", data := .seq #[x, y] }) z TI TO .ellipsis := Heap.get?_push_of_some _ hz5
 refine wpAny_bind (wpAny_setField_rec hz6 (by simp) fun h₇ hz7 hs7 => ?_)
 replace hz7 : IsZip h₇ z TI TO (rawInt h₅.objs.size) := hz7
 refine wpAny_setField_rec hz7 (by simp) fun h₈ hz8 hs8 => ?_
 replace hz8 : IsZip h₈ z TI TO (rawInt h₅.objs.size) := hz8
 have up : ∀ c o, c ≠ z -> h₅.get? c = some o -> h₈.get? c = some o := fun c o c1 e => hs8.extBut _ _ c1 (hs7.extBut _ _ c1 (Heap.get?_push_of_some _ e))
 have hT8 : IsPair h₈ h₅.objs.size x y := hs8.extBut _ _ (Nat.ne_of_gt hzlt) (hs7.extBut _ _ (Nat.ne_of_gt hzlt) (Heap.get?_push_size _ rfl))
 rw [hsz] at hz8 hT8
 refine wpAny_pure ⟨_, rfl, ?_⟩
 show Q (.ref h₅.objs.size) _
 rw [hsz]
 exact hQ h₈ _ x y hx hy hz8 (up _ _ X.TOz hTO5) (D1.frame _ _ _ st15 fun b hb o e => up b o (fun e' => X.z1 (e' ▸ hb)) e) (D2.frame _ _ _ st25 fun b hb o e => up b o (fun e' => X.z2 (e' ▸ hb)) e) hT8 fun c o c1 c2 c3 c4 e => up c o c1 (hk₅ c o c1 c2 c3 c4 e)
theorem zipD_end (D1 : Draws prog w A i1 fp1 n1 P1 S1) (D2 : Draws prog w A i2 fp2 n2 P2 S2) (X : ZA z TI TO i1 i2 fp1 fp2) {j : Nat} (hj : (j = n1) ∨ (j < n1 /\ j = n2)) {a b : Value} {Q : Fin -> Shared -> Prop}
  (hz : IsZip s.heap z TI TO .none) (hTI : IsPair s.heap TI (.ref i1) (.ref i2)) (hTO : IsPair s.heap TO a b) (st1 : S1 j s.heap) (st2 : S2 j s.heap)
  (hE : ∀ h' tk e, (∀ c o, c ≠ z -> c ≠ TO -> c ≠ i1 -> c ≠ i2 -> s.heap.get? c = some o -> h'.get? c = some o) -> (∃ o, h'.get? e = some o /\ o.cls = .type "StopIteration") -> E (.ref e) { s with heap := h', toks := tk }) :
  wpAny (model prog w) A (Builtin.«zip.__next__» ⟨[.ref z], []⟩) Q E s := by
 show wpAny _ _ (field (.ref z) 2 >>= _) _ _ _
 refine wpAny_bind (wpAny_field hz rfl (x := .bool false) rfl ?_)
 show wpAny _ _ (field (.ref z) 3 >>= _) _ _ _
 refine wpAny_bind (wpAny_field hz rfl (x := .ref TI) rfl ?_)
 refine wpAny_bind (wpAny_seqItems hTI rfl ?_)
 show wpAny _ _ (Builtin.SmallTypes.ownedTupleIsFree (.ref z) >>= _) _ _ _
 refine wpAny_bind ?_
 unfold Builtin.SmallTypes.ownedTupleIsFree
 refine wpAny_bind (wpAny_field hz rfl (x := .none) rfl (wpAny_pure ?_))
 simp -iota only [if_true]
 refine wpAny_bind (wpAny_rule ?_)
 refine wpAny_bind (wpAny_field hz rfl (x := .ref TO) rfl ?_)
 refine wpAny_bind (wpAny_setField_rec hz (by simp) fun h₁ hz₁ hs₁ => ?_)
 replace hz₁ : IsZip h₁ z TI TO .ellipsis := hz₁
 refine wpAny_bind ?_
 simp -iota only [List.zipIdx_cons, List.zipIdx_nil, List.forIn_cons, List.forIn_nil]
 refine wpAny_bind (wpAny_bind (wpAny_onRaise ?_))
 show wpAny _ _ (Builtin.SmallTypes.nextOf (.ref i1) >>= _) _ _ _
 have st11 := zY D1.frame st1 hs₁.extBut X.z1
 rcases hj with rfl | ⟨hlt, rfl⟩
 ·refine wpAny_bind (D1.done _ _ _ st11 fun h₂ e hs₂ he => ?_)
  obtain ⟨oe, hoe, hce⟩ := he
  have hz2 : IsZip h₂ z TI TO .ellipsis := hs₂ _ _ X.i1z.symm hz₁
  have hez : e ≠ z := fun x => by subst x; rw [hz2] at hoe; cases hoe; simp at hce
  exact wpAny_setField_rec hz2 (by simp) fun h₃ _ hs₃ => hE h₃ _ e (fun c o c1 _ c3 _ x => hs₃.extBut _ _ c1 (hs₂ _ _ c3 (hs₁.extBut _ _ c1 x))) ⟨oe, hs₃.extBut _ _ hez hoe, hce⟩
 ·refine wpAny_bind (D1.item j _ _ _ hlt st11 fun x h₂ tk₂ hx st12 hs₂ => wpAny_pure ?_)
  have hTO2 : IsPair h₂ TO a b := hs₂.extBut _ _ X.TOi1 (hs₁.extBut _ _ X.TOz hTO)
  refine wpAny_bind (wpAny_seqItems hTO2 rfl ?_)
  refine wpAny_bind (wpAny_updateSeq_pair hTO2 fun h₃ hTO3 hs₃ => ?_)
  refine wpAny_bind (wpAny_letGo (wpAny_pure ?_))
  refine wpAny_bind (wpAny_bind (wpAny_onRaise ?_))
  show wpAny _ _ (Builtin.SmallTypes.nextOf (.ref i2) >>= _) _ _ _
  refine wpAny_bind (D2.done _ _ _ (zY D2.frame (zY D2.frame (zY D2.frame st2 hs₁.extBut X.z2) hs₂.extBut X.j2) hs₃.extBut X.T2) fun h₄ e hs₄ he => ?_)
  obtain ⟨oe, hoe, hce⟩ := he
  have hz4 : IsZip h₄ z TI TO .ellipsis := hs₄ _ _ X.i2z.symm (hs₃.extBut _ _ X.TOz.symm (hs₂.extBut _ _ X.i1z.symm hz₁))
  have hez : e ≠ z := fun x => by subst x; rw [hz4] at hoe; cases hoe; simp at hce
  exact wpAny_setField_rec hz4 (by simp) fun h₅ _ hs5 => hE h₅ _ e (fun c o c1 c2 c3 c4 x => hs5.extBut _ _ c1 (hs₄ _ _ c4 (hs₃.extBut _ _ c2 (hs₂.extBut _ _ c3 (hs₁.extBut _ _ c1 x))))) ⟨oe, hs5.extBut _ _ hez hoe, hce⟩
end
noncomputable abbrev zH1 (h : Heap) (l1 : Addr) : Heap := h.push { cls := .type "list_iterator", data := .fields #[.ref l1, .int 0 0] }
noncomputable abbrev zH2 (h : Heap) (l1 : Addr) (x : Str) (t : Tok) : Heap := (zH1 h l1).push { cls := .type "str_ascii_iterator", data := .fields #[.str x t, .int 0 0] }
noncomputable abbrev zH3 (h : Heap) (l1 : Addr) (x : Str) (t : Tok) : Heap := (zH2 h l1 x t).push { cls := .type "tuple", data := .seq #[.ref h.objs.size, .ref (zH1 h l1).objs.size] }
noncomputable abbrev zH4 (h : Heap) (l1 : Addr) (x : Str) (t : Tok) : Heap := (zH3 h l1 x t).push { cls := .type "tuple", data := .seq #[.none, .none] }
noncomputable abbrev zH5 (h : Heap) (l1 : Addr) (x : Str) (t : Tok) : Heap := (zH4 h l1 x t).push { cls := .type "zip", data := .fields #[.none, .bool false, .bool false, .ref (zH2 h l1 x t).objs.size, .ref (zH3 h l1 x t).objs.size] }
theorem meets_zip_ls (l1 : Addr) (xs : Array Value) (x : Str) (t : Tok) (ha : x.cps.all (· < 128) = true) :
  Meets (Builtin.«zip.__new__» ⟨[.type "zip", .ref l1, .str x t], []⟩) (fun _ R s => s.heap.IsList l1 xs /\ R (.ok (.ret (.ref (zH4 s.heap l1 x t).objs.size))) { s with heap := zH5 s.heap l1 x t }) :=
 .of_wp fun prog w A R s h => by
  obtain ⟨hp, g, d, tk, os⟩ := s; obtain ⟨hl1, h⟩ := h
  have hsub := sub_zip
  have hL1 : Heap.IsList (Shared.heap ⟨hp, g, d, tk, os⟩) l1 xs := hl1
  wp_walk using wpAny_pyIter_list hL1, wpAny_pyIter_ascii ha
  exact ⟨_, rfl, h⟩
section
variable {prog : Program} {w : World} {A : Around} {E : Value -> Shared -> Prop} {s : Shared}
theorem call_zip_ls {l1 : Addr} {xs : Array Value} {x : Str} {t : Tok} {Q : Value -> Shared -> Prop} (hl1 : s.heap.IsList l1 xs) (ha : x.cps.all (· < 128) = true)
  (h : ∀ h', IsZip h' (s.heap.objs.size + 4) (s.heap.objs.size + 2) (s.heap.objs.size + 3) .none -> IsPair h' (s.heap.objs.size + 2) (.ref s.heap.objs.size) (.ref (s.heap.objs.size + 1)) ->
   IsPair h' (s.heap.objs.size + 3) .none .none -> h'.IsListIter s.heap.objs.size l1 0 -> h'.IsStrIter (s.heap.objs.size + 1) "str_ascii_iterator" x t 0 ->
   (∀ c o, s.heap.get? c = some o -> h'.get? c = some o) -> Q (.ref (s.heap.objs.size + 4)) { s with heap := h' }) :
  wpAny (model prog w) A (call (.type "zip") [.ref l1, .str x t]) Q E s := by
 refine callType_new F.called_zip (by decide) (F.typeCall_zip_2 _ _) (F.newCall_zip_2 _ _) (fun obj => F.args_object_init_3 obj _ _) F.entry_zip_new (meets_zip_ls l1 xs x t ha) ⟨hl1, ?_⟩
 have z1 : (zH1 s.heap l1).objs.size = s.heap.objs.size + 1 := Heap.size_push ..
 have z2 : (zH2 s.heap l1 x t).objs.size = s.heap.objs.size + 2 := by rw [Heap.size_push, z1]
 have z3 : (zH3 s.heap l1 x t).objs.size = s.heap.objs.size + 3 := by rw [Heap.size_push, z2]
 have z4 : (zH4 s.heap l1 x t).objs.size = s.heap.objs.size + 4 := by rw [Heap.size_push, z3]
 have g5 : (zH5 s.heap l1 x t).get? (zH4 s.heap l1 x t).objs.size = some _ := Heap.get?_push_size _ rfl
 have g4 : (zH5 s.heap l1 x t).get? (zH3 s.heap l1 x t).objs.size = some _ := Heap.get?_push_of_some _ (Heap.get?_push_size _ rfl)
 have g3 : (zH5 s.heap l1 x t).get? (zH2 s.heap l1 x t).objs.size = some _ := Heap.get?_push_of_some _ (Heap.get?_push_of_some _ (Heap.get?_push_size _ rfl))
 have g2 : (zH5 s.heap l1 x t).get? (zH1 s.heap l1).objs.size = some _ := Heap.get?_push_of_some _ (Heap.get?_push_of_some _ (Heap.get?_push_of_some _ (Heap.get?_push_size _ rfl)))
 have g1 : (zH5 s.heap l1 x t).get? s.heap.objs.size = some _ := Heap.get?_push_of_some _ (Heap.get?_push_of_some _ (Heap.get?_push_of_some _ (Heap.get?_push_of_some _ (Heap.get?_push_size _ rfl))))
 show _ /\ _
 rw [z2, z3, z4] at g5
 rw [z1, z2] at g3
 rw [z3] at g4
 rw [z1] at g2
 rw [z4]
 exact ⟨⟨_, g5, rfl⟩, h _ g5 g3 g4 ⟨_, g1, rfl, rfl⟩ ⟨_, g2, rfl, rfl⟩ fun c o y =>
  Heap.get?_push_of_some _ (Heap.get?_push_of_some _ (Heap.get?_push_of_some _ (Heap.get?_push_of_some _ (Heap.get?_push_of_some _ y))))⟩
end
noncomputable def zipF (args : List AV) : Option (List AV) := (two? args).bind fun p => p.1.l?.bind fun xs => p.2.s?.bind fun l => if l.all (· < 128) = true /\ xs.length <= 100000 then some ((xs.zip l).map fun p => .tup [p.1, .str [p.2]]) else Option.none
theorem zipF_inv {args r : List AV} (h : zipF args = some r) : ∃ xs l, args = [.lst xs, .str l] /\ l.all (· < 128) = true /\ r = (xs.zip l).map fun p => .tup [p.1, .str [p.2]] := by
 obtain ⟨⟨x, y⟩, e, h⟩ := bS h
 obtain ⟨xs, h1, h⟩ := bS h
 obtain ⟨l, h2, h⟩ := bS h
 obtain ⟨hc, h⟩ := iS h
 refine ⟨xs, l, ?_, hc.1, (Option.some.inj h).symm⟩
 rw [<- AV.lst_of h1, <- AV.str_of h2]; exact two_of e
noncomputable def zipM (m : PM (List AV)) : PM (List AV) := PM.bd m fun xs => PM.of fun _ => zipF xs
theorem off_many {G : GC} {K : Kx} {g : Gh} {σ : St} {s : Shared} (I : Wf G K g σ s) {wr : List Addr} (hb : ∀ b ∈ wr, s.heap.get? b = Option.none) : Off G wr K g where
 B := fun b h o e => by have := I.hB _ _ e; rw [hb b h] at this; cases this
 K := fun b h o e => by obtain ⟨_, this⟩ := (I.hK _ _ e).some; rw [hb b h] at this; cases this
 ρ := fun b h => (I.fresh_of_none (hb b h)).1
 vl := fun b h => (I.fresh_of_none (hb b h)).2.1
 P := fun b h => (I.fresh_of_none (hb b h)).2.2
theorem Trn.zip {prog : Program} {w : World} {A : Around} {elts : List Expr} {kk : Nat} {tp : Pos} {is : List Nat} {g : Gh} {z TI TO i1 i2 L1 : Addr} {fp2 : List Addr} {vs : List Value} {n : Nat} {n2 : Nat} {P2 : Nat -> Value -> Prop} {S2 : Nat -> Heap -> Prop} {xs : List AV} (hh : A.handled = Option.none) (hb : g.B L1 (zM vs n)) (hne : L1 ≠ i1)
  (D2 : Draws prog w A.in1 i2 fp2 n2 P2 S2) (hnd : ∀ j h, S2 j h -> ∃ o, h.get? i2 = some o /\ ¬ ZX o) (X : ZA z TI TO i1 i2 [i1, L1] fp2) (hfp : fp2 = [i2] ∨ ∃ l2 o2, fp2 = [i2, l2] /\ g.B l2 o2) (hB0 : ∀ b ∈ [z, TI, TO, i1, i2], ∀ o, ¬ g.B b o) (hn : xs.length = min vs.length n2)
  (hx : ∀ j v w x, vs[j]? = some v -> P2 j w -> xs[j]? = some x -> ∃ a b, x = .tup [a, b] /\ g.rv a v /\ g.rv b w) :
  Trn prog w A (.Tuple elts kk tp) z [z, TI, TO, i1, i2] g (.many is) xs (fun j h => IsZip h z TI TO .none /\ IsPair h TI (.ref i1) (.ref i2) /\ (∃ a b, IsPair h TO a b) /\ h.IsListIter i1 L1 j /\ S2 j h /\ ∀ b o, g.B b o -> h.get? b = some o) where
 frame := fun j h h' st hB hw => by
  obtain ⟨a1, a2, ⟨a, b, a3⟩, a4, a5, a6⟩ := st
  refine ⟨hw z (by simp) _ a1, hw TI (by simp) _ a2, ⟨a, b, hw TO (by simp) _ a3⟩, a4.at fun o e => hw i1 (by simp) o e, D2.frame j h h' a5 fun b hb o e => ?_, hB⟩
  rcases hfp with rfl | ⟨l2, o2, rfl, hl2⟩
  ·simp at hb; subst hb; exact hw _ (by simp) o e
  ·rcases List.mem_cons.mp hb with rfl | hb
   ·exact hw _ (by simp) o e
   ·simp at hb; subst hb
    have e2 := a6 _ _ hl2
    rw [e] at e2; cases e2
    exact hB _ _ hl2
 own := fun j h st b hb => by
  obtain ⟨a1, a2, ⟨a, b', a3⟩, a4, a5, a6⟩ := st
  simp only [List.mem_cons, List.not_mem_nil, or_false] at hb
  rcases hb with rfl | rfl | rfl | rfl | rfl
  ·exact ⟨_, a1, fun ⟨_, _, q⟩ => by cases q⟩
  ·exact ⟨_, a2, fun ⟨_, _, q⟩ => by cases q⟩
  ·exact ⟨_, a3, fun ⟨_, _, q⟩ => by cases q⟩
  ·obtain ⟨o, ho, _, hd⟩ := a4; exact ⟨o, ho, fun ⟨_, _, q⟩ => by rw [hd] at q; cases q⟩
  ·exact hnd _ _ a5
 item := fun j x s Q E ex st hQ => by
  obtain ⟨a1, a2, ⟨a, b, a3⟩, a4, a5, a6⟩ := st
  have hj := (List.getElem?_eq_some_iff.mp ex).1
  have D1 := Draws.list (prog := prog) (w := w) (A := A.in1) hh i1 L1 hne vs.toArray
  have hT : s.TypeIs (.ref z) "zip" := ⟨_, a1, rfl⟩
  have ho := a6 _ _ hb
  unfold pyNext
  refine wpAny_with_toks (Nat.le_refl s.toks) (wpAny_bind (wpAny_attempt (wpAny_callSpecial?_slot (name := Str.ofString "__next__") hT F.slot_zip_next
   (wpAny_call_entry F.slot_zip_next hT F.entry_zip_next (zipD_item D1 D2 X (j := j) (by rw [List.size_toArray]; omega) (by omega) a1 a2 a3 ⟨a4, zy ho⟩ a5 fun h' tk v w hv hw b1 b2 b3 b4 b5 b6 => wpAny_pure (fun (htk : s.toks <= tk) => ?_)) (F.args_zip_next_1 _)))))
  have hTz : s.heap.objs.size ≠ z := Nat.ne_of_gt (Heap.lt_size a1)
  refine ⟨_, rfl, wpAny_letOwnedTupleGo_zip b1 fun h'' c1 cs => ?_⟩
  obtain ⟨p, q, rfl, rp, rq⟩ := hx j v w x (by simpa using hv) hw ex
  have hB'' : ∀ b o, g.B b o -> b ∉ [z, TI, TO, i1, i2] := fun b o hbo hm => hB0 b hm o hbo
  refine hQ (.ref s.heap.objs.size) h'' tk ⟨[p, q], s.heap.objs.size, [v, w], rfl, rfl, ⟨_, cs.extBut _ _ hTz b5, rfl, 0, rfl⟩, .cons rp (.one rq)⟩
   ⟨c1, cs.extBut _ _ X.TIz (b6 _ _ X.TIz X.TITO X.TIi1 X.TIi2 a2), ⟨v, w, cs.extBut _ _ X.TOz b2⟩, b3.1.extBut cs.extBut X.i1z, zY D2.frame b4 cs.extBut X.z2, fun b o hbo => ?_⟩ (fun b o hbn e => ?_) htk
  ·have hbn := hB'' b o hbo
   simp only [List.mem_cons, List.not_mem_nil, or_false, not_or] at hbn
   exact cs.extBut _ _ hbn.1 (b6 _ _ hbn.1 hbn.2.2.1 hbn.2.2.2.1 hbn.2.2.2.2 (a6 _ _ hbo))
  ·simp only [List.mem_cons, List.not_mem_nil, or_false, not_or] at hbn
   exact cs.extBut _ _ hbn.1 (b6 _ _ hbn.1 hbn.2.2.1 hbn.2.2.2.1 hbn.2.2.2.2 e)
 done := fun s Q E st hQ => by
  obtain ⟨a1, a2, ⟨a, b, a3⟩, a4, a5, a6⟩ := st
  have D1 := Draws.list (prog := prog) (w := w) (A := A.in1) hh i1 L1 hne vs.toArray
  have hT : s.TypeIs (.ref z) "zip" := ⟨_, a1, rfl⟩
  have ho := a6 _ _ hb
  unfold pyNext
  refine wpAny_with_toks (Nat.le_refl s.toks) (wpAny_bind (wpAny_attempt (wpAny_callSpecial?_slot (name := Str.ofString "__next__") hT F.slot_zip_next
   (wpAny_call_entry F.slot_zip_next hT F.entry_zip_next (zipD_end D1 D2 X (j := xs.length) (by rw [List.size_toArray]; omega) a1 a2 a3 ⟨a4, zy ho⟩ a5 fun h' tk e hk he => ?_) (F.args_zip_next_1 _)))))
  obtain ⟨o, ho', hc⟩ := he
  refine wpAny_bind (wpAny_isInstance (T := "StopIteration") (b := true) ⟨o, ho', hc⟩ isSubtype_stop ?_)
  refine wpAny_pure fun (htk : s.toks <= tk) => hQ h' tk (fun b o hbn e => ?_) htk
  simp only [List.mem_cons, List.not_mem_nil, or_false, not_or] at hbn
  exact hk b o hbn.1 hbn.2.2.1 hbn.2.2.2.1 hbn.2.2.2.2 e
 self := fun j s Q E st hQ => wpAny_pyIter_zip st.1 hQ
section
variable {V : Vis} {h : Nat}
theorem si_zip {elts : List Expr} {is : List Nat} {kk : Nat} {tp q pos : Pos} {e e' : Expr} {m : PM (List AV)} (hf : Str.ofString "zip" ∈ V.gl) (hargs : SEs V h [e, e'] m) (hp : ∀ env, starEach [e, e'] env = (false, eval e env) :: starEach [e'] env) (hq : ∀ env pos, (backTo pos (starEach [e'] env)).any (·.1) = false) (h1 : 0 < h := by decide) :
    SI V h (.Tuple elts kk tp) (.many is) (.Call (.Name (Str.ofString "zip") q) [e, e'] [] pos) (zipM m) := by
  intro G K g σ σ' xs A env s Q E ok hA hE I hm hQ
  obtain ⟨ys, σ₁, e1, e2⟩ := PM.bd_some hm
  obtain ⟨e3, e4⟩ := PM.of_some e2
  dsimp only at e3 e4
  subst e4
  obtain ⟨as, l, rfl, hl, rfl⟩ := zipF_inv e3
  refine wpAny_Call_NameR (YN ok hE I hf (by decide) (bv := .type "zip") (by decide +kernel) (by decide +kernel) (by decide) (PyProof.Rows.callWith_type1 (hargs pos G K g σ _ _ A env s _ E ok hA hE I e1 fun g1 va s1 l1 I1 r1 => ?_) (hp env) (hq env pos)))
  obtain ⟨v, u, rfl, ra, rb⟩ := zbx r1
  obtain ⟨L1, vs, n, rfl, hb, hr⟩ := Yj.mp ra
  obtain ⟨t, rfl⟩ := zX.mp rb
  have ho := I1.hB _ _ hb
  have ha : (Str.mk l.toArray).cps.all (· < 128) = true := by simpa using hl
  refine call_zip_ls (zy ho) ha fun h' hz hTI hTO hi1 hi2 hk => wpAny_pyIter_zip hz ?_
  have hlt : @LT.lt Nat _ L1 s1.heap.objs.size := Heap.lt_size ho
  have D1 := Draws.list (prog := G.prog) (w := G.w) (A := A.in1) (hA.handled h1) s1.heap.objs.size L1 (show @Ne Nat _ _ by omega) vs.toArray
  have D2 := Draws.strAscii (prog := G.prog) (w := G.w) (A := A.in1) (hA.handled h1) (s1.heap.objs.size + 1) (Str.mk l.toArray) t
  have X : ZA (s1.heap.objs.size + 4) (s1.heap.objs.size + 2) (s1.heap.objs.size + 3) s1.heap.objs.size (s1.heap.objs.size + 1) [s1.heap.objs.size, L1] [s1.heap.objs.size + 1] := by
    constructor
    all_goals first
      | (show @Ne Nat _ _; omega)
      | (intro hm
         simp only [List.mem_cons, List.not_mem_nil, or_false] at hm
         first
           | (rcases hm with hm | hm <;> (have hm' : @Eq Nat _ _ := hm; omega))
           | (have hm' : @Eq Nat _ _ := hm; omega))
  have above : ∀ b ∈ [s1.heap.objs.size + 4, s1.heap.objs.size + 2, s1.heap.objs.size + 3, s1.heap.objs.size, s1.heap.objs.size + 1], s1.heap.get? b = Option.none := fun b hb => yi (by
    simp only [List.mem_cons, List.not_mem_nil, or_false] at hb
    rcases hb with hb | hb | hb | hb | hb <;> (have hb' : @Eq Nat _ _ := hb; show @LE.le Nat _ _ _; omega))
  have I2 := I1.keep (h' := h') s1.toks hk
  refine hQ g1 _ _ _ _ l1 I2 (off_many I1 above) (Trn.zip (i1 := s1.heap.objs.size) (i2 := s1.heap.objs.size + 1) (hA.handled h1) hb (show @Ne Nat _ _ by omega) D2 (fun j h st => st.imp fun o h => ⟨h.1, fun ⟨_, _, q⟩ => by rw [h.2.2] at q; cases q⟩) X (.inl rfl) (off_many I1 above).B (by simp [hr.length]) fun j v w x ev hw ex => ?_) ⟨hz, hTI, ⟨_, _, hTO⟩, hi1, hi2, fun b o e => I2.hB b o e⟩
  obtain ⟨c, u, ec, rfl⟩ := hw
  have ec' : l[j]? = some c := by simpa using ec
  obtain ⟨a, ea, ra'⟩ := hr.get' ev
  rw [List.getElem?_map, List.getElem?_zip_eq_some (l₁ := as) (l₂ := l) (z := (a, c)) (i := j) |>.mpr ⟨ea, ec'⟩] at ex
  cases ex
  exact ⟨_, _, rfl, ra', zX.mpr ⟨u, rfl⟩⟩
end
theorem zip_getattr_none : typeLookup (.type "zip") "__getattr__" = pure Option.none := by rw [typeLookup_type, builtinLookup_eq_fast]; kernel_rfl
theorem zip_keys_none : typeLookup (.type "zip") "keys" = pure Option.none := by rw [typeLookup_type, builtinLookup_eq_fast]; kernel_rfl
theorem QG : entryFor table "zip.__getattribute__" = some Builtin.«object.__getattribute__» :=
 entryFor_alias (id' := "object.__getattribute__") (by kernel_rfl) (by decide +kernel) (by decide +kernel) (by kernel_rfl)
theorem meets_zip_miss (a : Addr) (fs : Array Value) (u : Tok) :
  Meets (Builtin.«object.__getattribute__» ⟨[.ref a, .str "keys" u], []⟩) (fun A R s => s.heap.get? a = some { cls := .type "zip", dict := Option.none, data := .fields fs, slots := #[] } /\ raisesAttr (.ref a) "keys" A R s) :=
 Meets.of_wp fun prog w A R s hs => by
  obtain ⟨hp, g, d, tk, os⟩ := s
  obtain ⟨hx, hs⟩ := hs
  have hT : (⟨hp, g, d, tk, os⟩ : Shared).TypeIs (.ref a) "zip" := ⟨_, hx, rfl⟩
  have hmiss := zip_keys_none
  have hname : (["__module__", "__name__", "__qualname__", "__doc__", "__annotations__"] : List Str).contains "keys" = false := by decide +kernel
  unfold Builtin.«object.__getattribute__»
  repeat (any_goals (first | assumption | wp_step))
  try simp only [hname, Bool.false_eq_true, if_false]
  repeat (any_goals (first | assumption | wp_step))
  exact wpAny_raiseAttrError hs.1 hs.2 (attrMsg_fits (by decide +kernel) (by decide +kernel))
theorem zip_nokeys {prog : Program} {w : World} {A : Around} {E : Value -> Shared -> Prop} {s : Shared} {a : Addr} {fs : Array Value} {Q : Option Value -> Shared -> Prop}
  (hx : s.heap.get? a = some { cls := .type "zip", dict := Option.none, data := .fields fs, slots := #[] }) (hA : A.handled = Option.none)
  (h : ∀ h' tk, (∀ b o, s.heap.get? b = some o -> h'.get? b = some o) -> Q Option.none { s with heap := h', toks := tk }) : wpAny (model prog w) A (getAttr? (.ref a) "keys") Q E s := by
 obtain ⟨hp, g, d, tk, os⟩ := s
 have hT : ∀ tk', (⟨hp, g, d, tk', os⟩ : Shared).TypeIs (.ref a) "zip" := fun _ => ⟨_, hx, rfl⟩
 have f1 := sub_AttributeError
 have f3 := F.slot_zip_getattribute.lookup
 have f4 := F.slot_zip_getattribute.bind (.ref a)
 have f5 := zip_getattr_none
 unfold getAttr? getAttrBy? getAttrBy
 repeat (any_goals (first | assumption | exact hT _ | ((with_reducible show wpAny _ _ (call (Value.builtin "zip.__getattribute__") _ _) _ _ _); refine call_meets F.slot_zip_getattribute (hT _) QG (F.args_zip_getattribute_2 _ _) (meets_zip_miss a fs _) ⟨hx, hA, fun h' tk e hx' => ?_⟩) | wp_step))
 obtain ⟨t', u', he⟩ := hx'.there
 show wpAny _ _ (getattributeRaised _ _ _ _ _ _ _) _ _ _
 unfold getattributeRaised
 repeat (any_goals (first | assumption | wp_step))
 all_goals exact h _ _ hx'.keeps
noncomputable abbrev zbn (h : Heap) (z TI TO T : Addr) (f1 : Value) : Prop := h.get? z = some { cls := .type "zip", dict := Option.none, data := .fields #[rawInt T, f1, .bool false, .ref TI, .ref TO], slots := #[] }
theorem alive_ok {M : Model} {A : Around} {E : Value -> Shared -> Prop} {s : Shared} {a : Addr} {Q : Option Obj -> Shared -> Prop} (h : Q (s.heap.get? a) s) : wpAny M A (loadIfAlive a) Q E s := fun _ _ _ => h
section
variable {prog : Program} {w : World} {A : Around} {E : Value -> Shared -> Prop} {s : Shared} {z TI TO T i1 i2 : Addr} {fp1 fp2 : List Addr} {n1 n2 : Nat} {P1 P2 : Nat -> Value -> Prop} {S1 S2 : Nat -> Heap -> Prop}
theorem held_busy {f1 : Value} {oT : Obj} {Q : Bool -> Shared -> Prop} (hz : zbn s.heap z TI TO T f1) (hT : s.heap.get? T = some oT) (hQ : ∀ h' f, zbn h' z TI TO T f -> Heap.ExtBut z s.heap h' -> h'.objs.size = s.heap.objs.size -> Q false { s with heap := h' }) :
  wpAny (model prog w) A (Builtin.SmallTypes.ownedTupleIsFree (.ref z)) Q E s := by
 unfold Builtin.SmallTypes.ownedTupleIsFree
 refine wpAny_bind (wpAny_field hz rfl (x := rawInt T) rfl ?_)
 show wpAny _ _ (loadIfAlive (Int.toNat (T : Int)) >>= _) _ _ _
 rw [Int.toNat_natCast]
 refine wpAny_bind (alive_ok ?_)
 rw [hT]
 simp only [Option.isNone_some, Bool.false_eq_true, if_false]
 refine wpAny_bind (wpAny_field hz rfl (x := f1) rfl ?_)
 cases hf : (f1 != .bool true)
 ·simp only [hf, Bool.false_eq_true, if_false]
  first
   | exact wpAny_pure (hQ s.heap f1 hz (fun _ _ _ e => e) rfl)
   | exact wpAny_bind (wpAny_pure (wpAny_pure (hQ s.heap f1 hz (fun _ _ _ e => e) rfl)))
 ·simp only [hf, if_true]
  refine wpAny_bind (wpAny_setField_rec hz (by simp) fun h' hz' hs' => wpAny_pure (hQ h' (.bool true) hz' hs'.extBut hs'.1))
theorem zipH_item (D1 : Draws prog w A i1 fp1 n1 P1 S1) (D2 : Draws prog w A i2 fp2 n2 P2 S2) (X : ZA z TI TO i1 i2 fp1 fp2) {j : Nat} (hj1 : j < n1) (hj2 : j < n2) {f1 : Value} {oT : Obj} {Q : Value -> Shared -> Prop}
  (hz : zbn s.heap z TI TO T f1) (hT : s.heap.get? T = some oT) (hTI : IsPair s.heap TI (.ref i1) (.ref i2)) (st1 : S1 j s.heap) (st2 : S2 j s.heap)
  (hQ : ∀ h' tk x y f, P1 j x -> P2 j y -> zbn h' z TI TO T f -> S1 (j + 1) h' -> S2 (j + 1) h' -> IsPair h' s.heap.objs.size x y ->
   (∀ c o, c ≠ z -> c ≠ i1 -> c ≠ i2 -> s.heap.get? c = some o -> h'.get? c = some o) -> Q (.ref s.heap.objs.size) { s with heap := h', toks := tk }) :
  wpAny (model prog w) A (Builtin.«zip.__next__» ⟨[.ref z], []⟩) (fun fin s' => ∃ v, fin = .done (.ret v) /\ Q v s') E s := by
 show wpAny _ _ (field (.ref z) 2 >>= _) _ _ _
 refine wpAny_bind (wpAny_field hz rfl (x := .bool false) rfl ?_)
 show wpAny _ _ (field (.ref z) 3 >>= _) _ _ _
 refine wpAny_bind (wpAny_field hz rfl (x := .ref TI) rfl ?_)
 refine wpAny_bind (wpAny_seqItems hTI rfl ?_)
 show wpAny _ _ (Builtin.SmallTypes.ownedTupleIsFree (.ref z) >>= _) _ _ _
 refine wpAny_bind (held_busy hz hT fun h₁ f hz₁ hs₁ hsz1 => ?_)
 simp -iota only [Bool.false_eq_true, if_false]
 simp -iota only [<- Array.forIn_toList, List.forIn_cons, List.forIn_nil]
 refine wpAny_bind (wpAny_bind (wpAny_bind (wpAny_holding ?_)))
 show wpAny _ _ (Builtin.SmallTypes.nextOf (.ref i1) >>= _) _ _ _
 refine wpAny_bind (D1.item j _ _ _ hj1 (zY D1.frame st1 hs₁ X.z1) fun x h₂ tk₂ hx st12 hs₂ => wpAny_pure (wpAny_pure ?_))
 refine wpAny_bind (wpAny_bind (wpAny_holding ?_))
 show wpAny _ _ (Builtin.SmallTypes.nextOf (.ref i2) >>= _) _ _ _
 refine wpAny_bind (D2.item j _ _ _ hj2 (zY D2.frame (zY D2.frame st2 hs₁ X.z2) hs₂.extBut X.j2) fun y h₃ tk₃ hy st23 hs₃ => wpAny_pure ?_)
 refine wpAny_pure (wpAny_pure ?_)
 have hsz : h₃.objs.size = s.heap.objs.size := by rw [hs₃.1, hs₂.1, hsz1]
 refine wpAny_bind (wpAny_newTuple (wpAny_pure ⟨_, rfl, ?_⟩) (by show 2 <= sizeLine; rw [sizeLine_eq]; omega))
 show Q (.ref h₃.objs.size) _
 rw [hsz]
 have hz3 : zbn h₃ z TI TO T f := hs₃.extBut _ _ X.i2z.symm (hs₂.extBut _ _ X.i1z.symm hz₁)
 have hnew : (h₃.push { cls := .type "tuple", data := .seq #[x, y] }).get? s.heap.objs.size = some { cls := .type "tuple", data := .seq #[x, y] } := by rw [<- hsz]; exact Heap.get?_push_size _ rfl
 exact hQ _ _ x y f hx hy (Heap.get?_push_of_some _ hz3) (D1.frame _ _ _ (zY D1.frame st12 hs₃.extBut X.j1) fun b _ o e => Heap.get?_push_of_some _ e) (D2.frame _ _ _ st23 fun b _ o e => Heap.get?_push_of_some _ e) hnew
  fun c o c1 c3 c4 e => Heap.get?_push_of_some _ (hs₃.extBut _ _ c4 (hs₂.extBut _ _ c3 (hs₁ _ _ c1 e)))
theorem zipH_end (D1 : Draws prog w A i1 fp1 n1 P1 S1) (D2 : Draws prog w A i2 fp2 n2 P2 S2) (X : ZA z TI TO i1 i2 fp1 fp2) {f1 : Value} {oT : Obj} {Q : Fin -> Shared -> Prop}
  (hz : zbn s.heap z TI TO T f1) (hT : s.heap.get? T = some oT) (hTI : IsPair s.heap TI (.ref i1) (.ref i2)) (st1 : S1 n1 s.heap)
  (hE : ∀ h' tk e, (∀ c o, c ≠ z -> c ≠ i1 -> c ≠ i2 -> s.heap.get? c = some o -> h'.get? c = some o) -> (∃ o, h'.get? e = some o /\ o.cls = .type "StopIteration") -> E (.ref e) { s with heap := h', toks := tk }) :
  wpAny (model prog w) A (Builtin.«zip.__next__» ⟨[.ref z], []⟩) Q E s := by
 show wpAny _ _ (field (.ref z) 2 >>= _) _ _ _
 refine wpAny_bind (wpAny_field hz rfl (x := .bool false) rfl ?_)
 show wpAny _ _ (field (.ref z) 3 >>= _) _ _ _
 refine wpAny_bind (wpAny_field hz rfl (x := .ref TI) rfl ?_)
 refine wpAny_bind (wpAny_seqItems hTI rfl ?_)
 show wpAny _ _ (Builtin.SmallTypes.ownedTupleIsFree (.ref z) >>= _) _ _ _
 refine wpAny_bind (held_busy hz hT fun h₁ f hz₁ hs₁ hsz1 => ?_)
 simp -iota only [Bool.false_eq_true, if_false]
 simp -iota only [<- Array.forIn_toList, List.forIn_cons, List.forIn_nil]
 refine wpAny_bind (wpAny_bind (wpAny_bind (wpAny_holding ?_)))
 show wpAny _ _ (Builtin.SmallTypes.nextOf (.ref i1) >>= _) _ _ _
 exact wpAny_bind (D1.done _ _ _ (zY D1.frame st1 hs₁ X.z1) fun h₂ e hs₂ he => hE h₂ _ e (fun c o c1 c3 c4 x => hs₂ _ _ c3 (hs₁ _ _ c1 x)) he)
end
noncomputable def ZS (z TI TO i1 i2 d : Addr) (h : Heap) : Prop := (IsZip h z TI TO .none /\ ∃ a b, IsPair h TO a b) ∨ ∃ T f o, zbn h z TI TO T f /\ h.get? T = some o /\ T ≠ z /\ T ≠ i1 /\ T ≠ i2 /\ T ≠ d
section
variable {prog : Program} {w : World} {A : Around} {E : Value -> Shared -> Prop} {s : Shared} {z TI TO T i1 i2 d : Addr} {fp1 fp2 : List Addr} {n1 n2 : Nat} {P1 P2 : Nat -> Value -> Prop} {S1 S2 : Nat -> Heap -> Prop}
theorem zs_next (D1 : Draws prog w A.in1 i1 fp1 n1 P1 S1) (D2 : Draws prog w A.in1 i2 fp2 n2 P2 S2) (X : ZA z TI TO i1 i2 fp1 fp2) {j : Nat} (hj1 : j < n1) (hj2 : j < n2) {Q : Option Value -> Shared -> Prop}
  (hz : ZS z TI TO i1 i2 d s.heap) (hTI : IsPair s.heap TI (.ref i1) (.ref i2)) (st1 : S1 j s.heap) (st2 : S2 j s.heap) (hd : ∃ o, s.heap.get? d = some o)
  (hQ : ∀ h' tk x y, P1 j x -> P2 j y -> ZS z TI TO i1 i2 d h' -> IsPair h' TI (.ref i1) (.ref i2) -> S1 (j + 1) h' -> S2 (j + 1) h' -> IsPair h' s.heap.objs.size x y ->
   (∀ c o, c ≠ z -> c ≠ TO -> c ≠ i1 -> c ≠ i2 -> s.heap.get? c = some o -> h'.get? c = some o) -> Q (some (.ref s.heap.objs.size)) { s with heap := h', toks := tk }) : wpAny (model prog w) A (pyNext (.ref z)) Q E s := by
 obtain ⟨od, hod⟩ := hd
 have lt : ∀ {c : Addr} {o : Obj}, s.heap.get? c = some o -> s.heap.objs.size ≠ c := fun e => Nat.ne_of_gt (Heap.lt_size e)
 have hk16 := D1.live _ _ st1; obtain ⟨o1, ho1⟩ := hk16
 have hk17 := D2.live _ _ st2; obtain ⟨o2, ho2⟩ := hk17
 unfold pyNext
 rcases hz with ⟨hz, a, b, hTO⟩ | ⟨T, f, o, hz, hT, t1, t2, t3, t4⟩
 ·have hTy : s.TypeIs (.ref z) "zip" := ⟨_, hz, rfl⟩
  refine wpAny_bind (wpAny_attempt (wpAny_callSpecial?_slot (name := Str.ofString "__next__") hTy F.slot_zip_next (wpAny_call_entry F.slot_zip_next hTy F.entry_zip_next
   (zipD_item D1 D2 X hj1 hj2 hz hTI hTO st1 st2 fun h' tk x y hx hy b1 b2 b3 b4 b5 b6 => wpAny_pure ?_) (F.args_zip_next_1 _))))
  exact hQ h' tk x y hx hy (.inr ⟨_, _, _, b1, b5, lt hz, lt ho1, lt ho2, lt hod⟩) (b6 _ _ X.TIz X.TITO X.TIi1 X.TIi2 hTI) b3 b4 b5 b6
 ·have hTy : s.TypeIs (.ref z) "zip" := ⟨_, hz, rfl⟩
  refine wpAny_bind (wpAny_attempt (wpAny_callSpecial?_slot (name := Str.ofString "__next__") hTy F.slot_zip_next (wpAny_call_entry F.slot_zip_next hTy F.entry_zip_next
   (zipH_item D1 D2 X hj1 hj2 hz hT hTI st1 st2 fun h' tk x y f' hx hy b1 b3 b4 b5 b6 => wpAny_pure ?_) (F.args_zip_next_1 _))))
  exact hQ h' tk x y hx hy (.inr ⟨T, f', o, b1, b6 _ _ t1 t2 t3 hT, t1, t2, t3, t4⟩) (b6 _ _ X.TIz X.TIi1 X.TIi2 hTI) b3 b4 b5 fun c o c1 _ c3 c4 e => b6 c o c1 c3 c4 e
theorem zs_end (hh : A.handled = Option.none) (D1 : Draws prog w A.in1 i1 fp1 n1 P1 S1) (D2 : Draws prog w A.in1 i2 fp2 n2 P2 S2) (X : ZA z TI TO i1 i2 fp1 fp2) {Q : Option Value -> Shared -> Prop}
  (hz : ZS z TI TO i1 i2 d s.heap) (hTI : IsPair s.heap TI (.ref i1) (.ref i2)) (st1 : S1 n1 s.heap) (st2 : S2 n1 s.heap)
  (hQ : ∀ h' tk, (∀ c o, c ≠ z -> c ≠ TO -> c ≠ i1 -> c ≠ i2 -> s.heap.get? c = some o -> h'.get? c = some o) -> Q Option.none { s with heap := h', toks := tk }) : wpAny (model prog w) A (pyNext (.ref z)) Q E s := by
 unfold pyNext
 rcases hz with ⟨hz, a, b, hTO⟩ | ⟨T, f, o, hz, hT, t1, t2, t3, t4⟩
 ·have hTy : s.TypeIs (.ref z) "zip" := ⟨_, hz, rfl⟩
  refine wpAny_bind (wpAny_attempt (wpAny_callSpecial?_slot (name := Str.ofString "__next__") hTy F.slot_zip_next (wpAny_call_entry F.slot_zip_next hTy F.entry_zip_next
   (zipD_end D1 D2 X (.inl rfl) hz hTI hTO st1 st2 fun h' tk e hk he => ?_) (F.args_zip_next_1 _))))
  obtain ⟨o, ho, hc⟩ := he
  exact wpAny_bind (wpAny_isInstance (T := "StopIteration") (b := true) ⟨o, ho, hc⟩ isSubtype_stop (wpAny_pure (hQ h' tk hk)))
 ·have hTy : s.TypeIs (.ref z) "zip" := ⟨_, hz, rfl⟩
  refine wpAny_bind (wpAny_attempt (wpAny_callSpecial?_slot (name := Str.ofString "__next__") hTy F.slot_zip_next (wpAny_call_entry F.slot_zip_next hTy F.entry_zip_next
   (zipH_end D1 D2 X hz hT hTI st1 fun h' tk e hk he => ?_) (F.args_zip_next_1 _))))
  obtain ⟨o, ho, hc⟩ := he
  exact wpAny_bind (wpAny_isInstance (T := "StopIteration") (b := true) ⟨o, ho, hc⟩ isSubtype_stop (wpAny_pure (hQ h' tk fun c o c1 _ c3 c4 e => hk c o c1 c3 c4 e)))
theorem zao : plainId "dict.update.loop" = true := by decide +kernel
theorem entry_upd : entryFor table "dict.update.loop" = some Builtin.«dict.update.loop» := entryFor_of_tree (by kernel_rfl)
theorem upd_loop (hh : A.handled = Option.none) {vs ws : List Value} {ks : List Str} {l1 l2 : Addr} (hlen : vs.length = ws.length) (hks : StrsAre vs ks) (hnd : ks.Nodup) (hsz : vs.length <= 1000) (hne1 : l1 ≠ i1) (hne2 : l2 ≠ i2)
  (X : ZA z TI TO i1 i2 [i1, l1] [i2, l2]) (hdz : d ≠ z) (hdTI : d ≠ TI) (hdTO : d ≠ TO) (hd1 : d ∉ [i1, l1]) (hd2 : d ∉ [i2, l2]) {R : Result -> Shared -> Prop} {s₀ : Heap} (k : Nat) :
  ∀ (j : Nat) (s : Shared), ws.length - j = k -> j <= ws.length -> ZS z TI TO i1 i2 d s.heap -> IsPair s.heap TI (.ref i1) (.ref i2) -> (s.heap.IsListIter i1 l1 j /\ s.heap.IsList l1 vs.toArray) -> (s.heap.IsListIter i2 l2 j /\ s.heap.IsList l2 ws.toArray) ->
   s.heap.DictOf (strKind prog w) d ((ks.zip ws).take j) -> (∀ c o, c ≠ z -> c ≠ TO -> c ≠ i1 -> c ≠ i2 -> c ≠ d -> s₀.get? c = some o -> s.heap.get? c = some o) ->
   (∀ s' : Shared, s'.gens = s.gens -> s'.drawn = s.drawn -> s'.os = s.os -> s'.heap.DictOf (strKind prog w) d (ks.zip ws) -> (∀ c o, c ≠ z -> c ≠ TO -> c ≠ i1 -> c ≠ i2 -> c ≠ d -> s₀.get? c = some o -> s'.heap.get? c = some o) -> R (.ok (.ret .none)) s') ->
   wpAny (model prog w) A.in1 (Builtin.«dict.update.loop» ⟨[.ref d, .ref z, rawInt j, .none], []⟩) (fun fin s' => match fin with | .done f => R (.ok f) s' | .again c' => c'.quiet = true /\ codeAny (model prog w) A c' R s') (fun e s' => R (.error e) s') s := by
 have D1 := Draws.list (prog := prog) (w := w) (A := A.in1.in1) hh i1 l1 hne1 vs.toArray
 have D2 := Draws.list (prog := prog) (w := w) (A := A.in1.in1) hh i2 l2 hne2 ws.toArray
 have hlk := hks.length
 induction k with
 | zero =>
  intro j s hk hj hz hTI st1 st2 hd hkeep hR
  have ej : j = ws.length := by omega
  subst ej
  show wpAny _ _ (pyNext (.ref z) >>= _) _ _ s
  have ez : vs.toArray.size = ws.length := by rw [List.size_toArray, hlen]
  refine wpAny_bind (zs_end (A := A.in1) hh D1 D2 X hz hTI (by rw [ez]; exact st1) (by rw [ez]; exact st2) fun h' tk hk' => ?_)
  show wpAny _ _ (Builtin.Dict.addKeywords d [] >>= _) _ _ _
  refine wpAny_bind (wpAny_pure (wpAny_pure ?_))
  refine hR _ rfl rfl rfl ?_ fun c o c1 c2 c3 c4 c5 e => hk' c o c1 c2 c3 c4 (hkeep c o c1 c2 c3 c4 c5 e)
  have hd' := hd
  rw [List.take_of_length_le (by rw [List.length_zip]; omega)] at hd'
  obtain ⟨o, es, ep, ho, r⟩ := hd'
  refine ⟨o, es, ep, hk' d o hdz hdTO ?_ ?_ ho, r⟩
  ·intro e; exact hd1 (by simp [e])
  ·intro e; exact hd2 (by simp [e])
 | succ k ih =>
  intro j s hk hj hz hTI st1 st2 hd hkeep hR
  have hj2 : j < ws.length := by omega
  have hj1 : j < vs.length := by omega
  obtain ⟨od, hod⟩ : ∃ o, s.heap.get? d = some o := let ⟨o, _, _, ho, _⟩ := hd; ⟨o, ho⟩
  show wpAny _ _ (pyNext (.ref z) >>= _) _ _ s
  refine wpAny_bind (zs_next (A := A.in1) D1 D2 X (by simpa using hj1) (by simpa using hj2) hz hTI st1 st2 ⟨od, hod⟩ fun h' tk x y hx hy b1 b2 b3 b4 b5 b6 => ?_)
  have hx' : vs[j]? = some x := by simpa using hx
  have hy' : ws[j]? = some y := by simpa using hy
  obtain ⟨kx, t, rfl, hkx⟩ := hks.item j x hx'
  have hdn1 : d ≠ i1 := fun e => hd1 (by simp [e])
  have hdn2 : d ≠ i2 := fun e => hd2 (by simp [e])
  have hd' : h'.DictOf (strKind prog w) d ((ks.zip ws).take j) := by
   obtain ⟨o, es, ep, ho, r⟩ := hd
   exact ⟨o, es, ep, b6 d o hdz hdTO hdn1 hdn2 ho, r⟩
  refine wpAny_bind (wpAny_holding (wpAny_bind ?_))
  refine wpAny_tryCatch ?_
  unfold Builtin.Dict.pairItems
  have hTy : (⟨h', s.gens, s.drawn, tk, s.os⟩ : Shared).TypeIs (.ref s.heap.objs.size) "tuple" := ⟨_, b5, rfl⟩
  refine wpAny_bind (wpAny_typeOf hTy ?_)
  rw [if_pos (by decide)]
  refine wpAny_bind (wpAny_seqItems b5 rfl (wpAny_pure ?_))
  show wpAny _ _ (holding [.str kx t, y] (dictSet d (.str kx t) y)) _ _ _
  refine wpAny_holding (wpAny_dictSet_pairs (knd := PySem.strKind prog w) (k := kx) (by show Value.isStrOf kx (.str kx t) = true; simp [Value.isStrOf]) hd' (fun h'' hd'' hs'' => ?_) (by rw [List.length_take, List.length_zip, sizeLine_eq]; omega))
  have hst : stored ((ks.zip ws).take j) kx y = (ks.zip ws).take (j + 1) := by
   have hz1 : (ks.zip ws)[j]? = some (kx, y) := List.getElem?_zip_eq_some.mpr ⟨hkx, hy'⟩
   unfold stored
   rw [if_neg, List.take_add_one, hz1]; rfl
   intro ha
   rw [List.any_eq_true] at ha
   obtain ⟨⟨a, b⟩, hm, he⟩ := ha
   have he' : a = kx := by simpa using he
   subst he'
   obtain ⟨i, hi, hi'⟩ := List.getElem_of_mem hm
   rw [List.getElem_take] at hi'
   have hil : i < j := by rw [List.length_take] at hi; omega
   have hzi : (ks.zip ws)[i]? = some (a, b) := by rw [<- hi']; exact List.getElem?_eq_getElem _
   have hki := (List.getElem?_zip_eq_some.mp hzi).1
   have := (List.getElem?_inj (by have := (List.getElem?_eq_some_iff.mp hki).1; exact this) hnd).mp (hki.trans hkx.symm)
   omega
  rw [hst] at hd''
  have hdk : ∀ c o, c ≠ d -> h'.get? c = some o -> h''.get? c = some o := fun c o hc e => hs''.extBut c o hc e
  have hNd : s.heap.objs.size ≠ d := Nat.ne_of_gt (Heap.lt_size hod)
  have hcast : ((j : Int) + 1) = ((j + 1 : Nat) : Int) := by push_cast; rfl
  refine wpAny_pure ?_
  rw [hcast]
  refine ⟨plainId_quiet zao _, codeAny_builtin entry_upd ?_⟩
  rw [Around.under_plainId zao _]
  refine ih (j + 1) { s with heap := h'', toks := tk + 1 } (by omega) (by omega) ?_ (hdk _ _ (fun e => hdTI e.symm) b2) ⟨b3.1.at fun o e => hdk _ o hdn1.symm e, b3.2.at fun o e => hdk _ o (fun e' => hd1 (by simp [e'])) e⟩ ⟨b4.1.at fun o e => hdk _ o hdn2.symm e, b4.2.at fun o e => hdk _ o (fun e' => hd2 (by simp [e'])) e⟩ hd'' ?_ hR
  ·rcases b1 with ⟨q1, a, b, q2⟩ | ⟨T, f, o, q1, q2, t1, t2, t3, t4⟩
   ·exact .inl ⟨hdk _ _ hdz.symm q1, a, b, hdk _ _ (fun e => hdTO e.symm) q2⟩
   ·exact .inr ⟨T, f, o, hdk _ _ hdz.symm q1, hdk _ _ t4 q2, t1, t2, t3, t4⟩
  ·intro c o c1 c2 c3 c4 c5 e
   exact hdk _ _ c5 (b6 c o c1 c2 c3 c4 (hkeep c o c1 c2 c3 c4 c5 e))
end
section
variable {prog : Program} {w : World} {A : Around} {E : Value -> Shared -> Prop} {s : Shared}
theorem call_dict_zip (hh : A.handled = Option.none) {vs ws : List Value} {ks : List Str} {l1 l2 : Addr} (hlen : vs.length = ws.length) (hks : StrsAre vs ks) (hnd : ks.Nodup) (hsz : vs.length <= 1000) {z TI TO i1 i2 : Addr} (hne1 : l1 ≠ i1) (hne2 : l2 ≠ i2)
  (X : ZA z TI TO i1 i2 [i1, l1] [i2, l2]) (hz : IsZip s.heap z TI TO .none) (hTI : IsPair s.heap TI (.ref i1) (.ref i2)) (hTO : IsPair s.heap TO .none .none) (h1 : s.heap.IsListIter i1 l1 0) (h2 : s.heap.IsListIter i2 l2 0)
  (hl1 : s.heap.IsList l1 vs.toArray) (hl2 : s.heap.IsList l2 ws.toArray) {Q : Value -> Shared -> Prop}
  (hQ : ∀ h' tk, h'.DictOf (PySem.strKind prog w) s.heap.objs.size (ks.zip ws) -> (∀ c o, c ≠ z -> c ≠ TO -> c ≠ i1 -> c ≠ i2 -> s.heap.get? c = some o -> h'.get? c = some o) -> Q (.ref s.heap.objs.size) { s with heap := h', toks := tk }) :
  wpAny (model prog w) A (call (.type "dict") [.ref z]) Q E s := by
 refine callType_codes (Q₁ := fun obj s₁ => obj = .ref s.heap.objs.size /\ s₁ = { s with heap := s.heap.push { cls := .type "dict", data := .dict #[] } }) PySem.F.kt_called_dict (PySem.F.kt_typeCall_dict_1 _) PySem.F.entry_dict_init (kt_code_dict_new _ ⟨rfl, rfl⟩) ?_
 rintro obj s₁ ⟨rfl, rfl⟩
 have hnew : (s.heap.push { cls := .type "dict", data := .dict #[] }).DictOf (PySem.strKind prog w) s.heap.objs.size [] := Heap.DictOf.new s.heap
 have lt : ∀ {c : Addr} {o : Obj}, s.heap.get? c = some o -> s.heap.objs.size ≠ c := fun e => Nat.ne_of_gt (Heap.lt_size e)
 have up : ∀ c o, s.heap.get? c = some o -> (s.heap.push { cls := .type "dict", data := .dict #[] }).get? c = some o := fun c o e => Heap.get?_push_of_some _ e
 have hi1 : s.heap.objs.size ≠ i1 := by obtain ⟨_, e, _⟩ := h1; exact lt e
 have hi2 : s.heap.objs.size ≠ i2 := by obtain ⟨_, e, _⟩ := h2; exact lt e
 have hL1 : s.heap.objs.size ≠ l1 := by obtain ⟨_, e, _⟩ := hl1; exact lt e
 have hL2 : s.heap.objs.size ≠ l2 := by obtain ⟨_, e, _⟩ := hl2; exact lt e
 refine ⟨hnew.typeIs, PySem.F.args_dict_init_2 _ _, ?_⟩
 unfold Builtin.«dict.__init__»
 refine wpAny_bind ?_
 unfold Builtin.Dict.selfAndRest
 refine wpAny_bind (wpAny_notOrdered_dict hnew.typeIs ?_)
 show wpAny _ _ (pure (s.heap.objs.size, [Value.ref z])) _ _ _
 refine wpAny_pure ?_
 show wpAny _ _ (Builtin.Dict.updateFrom "dict.__init__" s.heap.objs.size (.ref z) [] .none) _ _ _
 unfold Builtin.Dict.updateFrom
 have hzT : ({ s with heap := s.heap.push { cls := .type "dict", data := .dict #[] } } : Shared).TypeIs (.ref z) "zip" := ⟨_, up _ _ hz, rfl⟩
 refine wpAny_bind (wpAny_typeOf hzT ?_)
 rw [if_pos (by decide)]
 refine wpAny_bind (zip_nokeys (up _ _ hz) hh fun h' tk hk => ?_)
 simp only [Option.isNone_none, if_true]
 have up' : ∀ c o, s.heap.get? c = some o -> h'.get? c = some o := fun c o e => hk _ _ (up c o e)
 refine wpAny_bind (wpAny_rule (wpAny_bind (wpAny_pyIter_zip (up' _ _ hz) (wpAny_pure ?_))))
 refine ⟨plainId_quiet zao _, codeAny_builtin entry_upd ?_⟩
 rw [Around.under_plainId zao _]
 have hdict : h'.DictOf (PySem.strKind prog w) s.heap.objs.size ((ks.zip ws).take 0) := by
  obtain ⟨o, es, ep, ho, r⟩ := hnew
  exact ⟨o, es, ep, hk _ _ ho, r⟩
 refine upd_loop (prog := prog) (w := w) (A := A.in1) (d := s.heap.objs.size) (R := wants (fun r s₂ => r = .none /\ Q (.ref s.heap.objs.size) s₂) E) hh hlen hks hnd hsz hne1 hne2 X (lt hz) (lt hTI) (lt hTO) (by simp [hi1, hL1]) (by simp [hi2, hL2]) (s₀ := s.heap) (ws.length) 0 { s with heap := h', toks := tk } (by omega) (Nat.zero_le _)
  (.inl ⟨up' _ _ hz, _, _, up' _ _ hTO⟩) (up' _ _ hTI) ⟨h1.at fun o e => up' _ o e, hl1.at fun o e => up' _ o e⟩ ⟨h2.at fun o e => up' _ o e, hl2.at fun o e => up' _ o e⟩ hdict (fun c o _ _ _ _ _ e => up' c o e) fun s' e1 e2 e3 hd hk' => ⟨rfl, ?_⟩
 obtain ⟨hp, gs, dr, tk', os⟩ := s'
 have e1' : gs = s.gens := e1
 have e2' : dr = s.drawn := e2
 have e3' : os = s.os := e3
 subst e1' e2' e3'
 exact hQ hp tk' hd fun c o c1 c2 c3 c4 e => hk' c o c1 c2 c3 c4 (fun e' => lt e e'.symm) e
end
noncomputable def dzipF (args : List AV) : Option (List (List Nat × Int)) := (two? args).bind fun p => p.1.l?.bind fun xs => p.2.l?.bind fun ys => (Xp xs).bind fun ks => (Zr ys).bind fun is => if ks.length = is.length /\ ks.length <= 1000 /\ ks.Nodup then some (ks.zip is) else Option.none
theorem dzipF_inv {args : List AV} {r : List (List Nat × Int)} (h : dzipF args = some r) : ∃ xs ys ks is, args = [.lst xs, .lst ys] /\ Xp xs = some ks /\ Zr ys = some is /\ ks.length = is.length /\ ks.length <= 1000 /\ ks.Nodup /\ r = ks.zip is := by
 obtain ⟨⟨x, y⟩, e, h⟩ := bS h
 obtain ⟨xs, h1, h⟩ := bS h
 obtain ⟨ys, h2, h⟩ := bS h
 obtain ⟨ks, h3, h⟩ := bS h
 obtain ⟨is, h4, h⟩ := bS h
 obtain ⟨hc, h⟩ := iS h
 refine ⟨xs, ys, ks, is, ?_, h3, h4, hc.1, hc.2.1, hc.2.2, (Option.some.inj h).symm⟩
 rw [<- AV.lst_of h1, <- AV.lst_of h2]; exact two_of e
noncomputable def dzipM (m : PM (List AV)) : PM AV := PM.bd m fun xs => fun σ => (dzipF xs).map fun kvs => (.loc σ.st.length, { σ with st := σ.st ++ [.dct kvs] })
theorem paired_zip {ks : List (List Nat)} : ∀ {is : List Int} {ws : List Value}, ks.length = is.length -> IntsAre ws is -> Paired (fun (x : List Nat × Int) (y : Str × Value) => y.1 = ⟨x.1.toArray⟩ /\ ∃ t, y.2 = .int x.2 t) (ks.zip is) ((ks.map fun l => (⟨l.toArray⟩ : Str)).zip ws) := by
 induction ks with
 | nil => intro is ws _ _; exact .nil
 | cons k ks ih =>
  intro is ws hl hi
  cases is with
  | nil => simp at hl
  | cons i is =>
   cases hi with
   | cons n t hr => exact .cons ⟨rfl, t, rfl⟩ (ih (by simpa using hl) hr)
theorem str_inj {a b : List Nat} (h : (⟨a.toArray⟩ : Str) = ⟨b.toArray⟩) : a = b := by
 have := congrArg (fun s : Str => s.cps.toList) h
 simpa using this
theorem nodup_strs {ks : List (List Nat)} (h : ks.Nodup) : (ks.map fun l => (⟨l.toArray⟩ : Str)).Nodup := by
 rw [List.nodup_iff_pairwise_ne, List.pairwise_map]
 exact h.imp fun hne e => hne (str_inj e)
section
variable {V : Vis} {h : Nat}
theorem big_of {G : GC} (ok : G.Ok) {K : Kx} {g : Gh} {σ : St} {s : Shared} (I : Wf G K g σ s) : (s.heap.objs.size == sysModules) = false := by
 have := (ok.glob I).lt
 have h2 : @LT.lt Nat _ mainGlobals s.heap.objs.size := this
 have h3 : @LE.le Nat _ sysModules mainGlobals := by decide
 have h4 : @Ne Nat s.heap.objs.size sysModules := fun e => by rw [e] at h2; exact absurd h2 (Nat.not_lt.mpr h3)
 exact beq_eq_false_iff_ne.mpr h4
theorem sE_dictzip {p q pos pos' : Pos} {e e' : Expr} {m : PM (List AV)} (hd : Str.ofString "dict" ∈ V.gl) (hf : Str.ofString "zip" ∈ V.gl) (hargs : SEs V h [e, e'] m) (hp : ∀ env, starEach [e, e'] env = (false, eval e env) :: starEach [e'] env) (hq : ∀ env pos, (backTo pos (starEach [e'] env)).any (·.1) = false) (h1 : 0 < h := by decide) :
    SE V h (.Call (.Name (Str.ofString "dict") p) [.Call (.Name (Str.ofString "zip") q) [e, e'] [] pos'] [] pos) (dzipM m) := by
  intro G K g σ σ' b A env s Q E ok hA hE I hm hQ
  obtain ⟨ys, σ₁, e1, e2⟩ := PM.bd_some hm
  obtain ⟨kvs, er, e2⟩ := Option.map_eq_some_iff.mp e2
  obtain ⟨rfl, rfl⟩ := Prod.mk.inj e2
  obtain ⟨xs, zs, ks, is, rfl, ex, ez, hl, hsz, hnd, rfl⟩ := dzipF_inv er
  refine wpAny_Call_NameR (YN ok hE I hd (by decide) (bv := .type "dict") (by decide +kernel) (by decide +kernel) (by decide) (PyProof.Rows.callWith_type1 (wpAny_items_cons ?_ rfl) rfl rfl))
  refine wpAny_Call_NameR (YN ok hE I hf (by decide) (bv := .type "zip") (by decide +kernel) (by decide +kernel) (by decide) (PyProof.Rows.callWith_type1 (hargs pos' G K g σ _ _ A env s _ E ok hA hE I e1 fun g1 va s1 l1 I1 r1 => ?_) (hp env) (hq env pos')))
  obtain ⟨v, u, rfl, ra, rb⟩ := zbx r1
  obtain ⟨L1, vs, n, rfl, hb1, hr1⟩ := Yj.mp ra
  obtain ⟨L2, ws, n', rfl, hb2, hr2⟩ := Yj.mp rb
  have ho1 := I1.hB _ _ hb1
  have ho2 := I1.hB _ _ hb2
  have lt1 : @LT.lt Nat _ L1 s1.heap.objs.size := Heap.lt_size ho1
  have lt2 : @LT.lt Nat _ L2 s1.heap.objs.size := Heap.lt_size ho2
  refine call_zip_2 (zy ho1) (zy ho2) fun h' hz hTI hTO hi1 hi2 hs' hk => wpAny_items_nil ?_
  have hS := RVs.strs ex hr1
  have hI := RVs.ints ez hr2
  have X : ZA (s1.heap.objs.size + 4) (s1.heap.objs.size + 2) (s1.heap.objs.size + 3) s1.heap.objs.size (s1.heap.objs.size + 1) [s1.heap.objs.size, L1] [s1.heap.objs.size + 1, L2] := by
    constructor
    all_goals first
      | (show @Ne Nat _ _; omega)
      | (intro hm
         simp only [List.mem_cons, List.not_mem_nil, or_false] at hm
         rcases hm with hm | hm <;> (have hm' : @Eq Nat _ _ := hm; omega))
  have I2 := I1.keep (h' := h') s1.toks hk
  refine wpAny_with_toks (Nat.le_refl s1.toks) (call_dict_zip (hA.handled h1) (vs := vs) (ws := ws) (ks := ks.map fun l => ⟨l.toArray⟩) (by rw [hS.length, hI.length, List.length_map]; exact hl) hS (nodup_strs hnd) (by rw [hS.length, List.length_map]; exact hsz) (show @Ne Nat _ _ by omega) (show @Ne Nat _ _ by omega) X hz hTI hTO hi1 hi2
    (zy (hk _ _ ho1)) (zy (hk _ _ ho2)) fun h'' tk hd'' hk'' (htk : s1.toks <= tk) => ?_)
  have hkk : ∀ b o, s1.heap.get? b = some o -> h''.get? b = some o := fun b o e => by
    have hlt : @LT.lt Nat _ b s1.heap.objs.size := Heap.lt_size e
    exact hk'' b o (show @Ne Nat _ _ by omega) (show @Ne Nat _ _ by omega) (show @Ne Nat _ _ by omega) (show @Ne Nat _ _ by omega) (hk b o e)
  have hbig := big_of ok I2
  obtain ⟨od, hod, hdo⟩ := Heap.dictOf_iff.mp hd''
  obtain ⟨I3, le⟩ := I1.newEnt (a := h'.objs.size) (e := .dct (ks.zip is)) (h' := h'') tk hkk (yi (show @LE.le Nat _ _ _ by omega)) ⟨od, hod, ⟨_, hdo, paired_zip hl hI⟩, hbig⟩
  exact hQ _ _ _ (l1.trans le) I3 (ZD.mpr ⟨_, rfl, by rw [<- I1.len]; simp⟩)
theorem paired_look {k : List Nat} {i : Int} : ∀ {kvs : List (List Nat × Int)} {vs : List (Str × Value)}, Paired (fun (x : List Nat × Int) (y : Str × Value) => y.1 = ⟨x.1.toArray⟩ /\ ∃ t, y.2 = .int x.2 t) kvs vs -> lookD kvs k = some i -> ∃ t, valueAt vs (⟨k.toArray⟩ : Str) = some (.int i t) := by
 intro kvs vs hp
 induction hp with
 | nil => intro h; cases h
 | cons hx _ ih =>
  rename_i x y _ _ _
  obtain ⟨a, b⟩ := x
  obtain ⟨c, v⟩ := y
  intro h
  obtain ⟨e1, t, e2⟩ := hx
  obtain rfl : c = ⟨a.toArray⟩ := e1
  obtain rfl : v = .int b t := e2
  simp only [lookD] at h
  by_cases ha : a = k
  ·rw [if_pos ha] at h
   cases h
   subst ha
   exact ⟨t, by simp [valueAt]⟩
  ·rw [if_neg ha] at h
   obtain ⟨t', ht⟩ := ih h
   refine ⟨t', ?_⟩
   have hne : ¬ ((⟨a.toArray⟩ : Str) = ⟨k.toArray⟩) := fun e => ha (str_inj e)
   unfold valueAt at ht ⊢
   rw [List.find?_cons]
   simp only [hne, decide_false]
   exact ht
noncomputable def keyF (σ : St) (a b : AV) : Option AV := a.n?.bind fun n => b.s?.bind fun k => (σ.st[n]?.bind AE.d?).bind fun kvs => (lookD kvs k).map .int
theorem keyF_inv {σ : St} {a b r : AV} (h : keyF σ a b = some r) : ∃ n k kvs i, a = .loc n /\ b = .str k /\ σ.st[n]? = some (.dct kvs) /\ lookD kvs k = some i /\ r = .int i := by
 obtain ⟨n, en, h⟩ := bS h
 obtain ⟨k, ek, h⟩ := bS h
 obtain ⟨kvs, h0, h⟩ := bS h
 obtain ⟨i, e, h⟩ := Option.map_eq_some_iff.mp h
 obtain ⟨x, ex, h0⟩ := bS h0
 exact ⟨n, k, kvs, i, AV.loc_of en, AV.str_of ek, AE.dct_of h0 ▸ ex, e, h.symm⟩
theorem sE_key {value slice : Expr} {pos : Pos} {mv ms : PM AV} (hv : SE V h value mv) (hsl : SE V h slice ms) (hs : ∀ o i, subscripted slice false o i = operate [o, i] (getItem o i)) : SE V h (.Subscript value slice pos) (zk keyF mv ms) := by
 intro G K g σ σ' b A env s Q E ok hA hE I hm hQ
 obtain ⟨x, σ₁, e1, e2⟩ := PM.bd_some hm
 have hk132 := PM.bd_some e2; obtain ⟨y, σ₂, e6, e3⟩ := hk132
 clear e2
 obtain ⟨e4, e5⟩ := PM.of_some e3
 dsimp only at e4 e5
 subst e5
 obtain ⟨n, k, kvs, i, rfl, rfl, h0, hk, rfl⟩ := keyF_inv e4
 refine Subscript_ (hv G K g σ σ₁ (.loc n) A env s _ E ok hA hE I e1 fun g1 a s1 l1 I1 r1 => hsl G K g1 σ₁ _ (.str k) A env s1 _ E ok hA (hE.le l1) I1 e6 fun g2 b' s2 l2 I2 r2 => ?_)
 obtain ⟨l, rfl, hl⟩ := ZD.mp (Gh.rv_le l2 r1)
 obtain ⟨t, rfl⟩ := zX.mp r2
 obtain ⟨o, ho, ⟨vs, hd, hp⟩, hbig⟩ := I2.st n _ l h0 hl
 obtain ⟨t', hv'⟩ := paired_look hp hk
 have hdo : s2.heap.DictOf (PySem.strKind G.prog G.w) l vs := Heap.dictOf_iff.mpr ⟨o, ho, hd⟩
 exact tail_any hdo.typeIs PySem.slot_dict_getitem.lookup (wpAny_getItem_of (knd := PySem.strKind G.prog G.w) (k := (⟨k.toArray⟩ : Str)) (key := .str ⟨k.toArray⟩ t) (by show Value.isStrOf ⟨k.toArray⟩ (.str ⟨k.toArray⟩ t) = true; simp [Value.isStrOf]) hdo.mapOf hv' (hQ g2 _ _ (l1.trans l2) (I2.tok _) (zw.mpr ⟨t', rfl⟩))) (hs _ _)
end
noncomputable def Zh (k : TgK) (m : PM AV) : PM (List AV) := PM.bd (itL m) fun xs => PM.of fun _ => match k with
  | .one _ => some xs
  | .many _ => if xs.all (fun x => match x with | .tup _ => true | _ => false) then some xs else Option.none
theorem pos_name (x : Str) (p : Pos) : (Expr.Name x p).pos = p := rfl
noncomputable def swF (env : Env) (p : Pos) : Expr -> Option Str
 | .Name id pos => if env.kindOf id == some .local && pos.line == p.line then some id else Option.none
 | _ => Option.none
noncomputable def isSt : Expr -> Bool
 | .Starred .. => true
 | _ => false
section
variable {ts vs : List Expr} {t : Expr} {k k' : Nat} {tp vp : Pos} {env : Env} {ns : List Str}
theorem sw_gen (h1 : (!((t :: ts).length == 2 || (t :: ts).length == 3) || vs.length != (t :: ts).length || env.blockKind != .function) = false) (hst : vs.any isSt = false)
  (hn : (t :: ts).filterMap (swF env t.pos) = ns) (hq : (ns.length != (t :: ts).length || ns.eraseDups.length != ns.length) = false) (hf : vs.all (foldedForSure 8) = false) (hc : vs.all (constantsAlone 8) = false) :
  swappedStores [.Tuple (t :: ts) k tp] (.Tuple vs k' vp) env = pure (some ns) := by
 subst hn
 have no : ∀ {b : Bool}, b = false -> ¬ b = true := fun h e => Bool.false_ne_true (h.symm.trans e)
 refine (if_neg (no h1)).trans ((if_neg (no hst)).trans ((if_neg (no hq)).trans ((if_neg (no hf)).trans ((if_neg (no hc)).trans rfl))))
theorem sw_none (h1 : (!((t :: ts).length == 2 || (t :: ts).length == 3) || vs.length != (t :: ts).length || env.blockKind != .function) = false) (hst : vs.any isSt = false)
  (hn : (t :: ts).filterMap (swF env t.pos) = ns) (hq : (ns.length != (t :: ts).length || ns.eraseDups.length != ns.length) = true) :
  swappedStores [.Tuple (t :: ts) k tp] (.Tuple vs k' vp) env = pure Option.none := by
 subst hn
 have no : ∀ {b : Bool}, b = false -> ¬ b = true := fun h e => Bool.false_ne_true (h.symm.trans e)
 exact (if_neg (no h1)).trans ((if_neg (no hst)).trans (if_pos hq))
theorem swF_y {x : Str} {p p1 : Pos} (h : env.kindOf x = some .local) (hl : (p.line == p1.line) = true) : swF env p1 (.Name x p) = some x := if_pos (by rw [h, hl]; rfl)
theorem swF_n {x : Str} {p p1 : Pos} (h : env.kindOf x = some .cell) : swF env p1 (.Name x p) = Option.none := if_neg (by rw [h]; exact fun e => nomatch (e : (false && _) = true))
theorem fn_of (h : env.scope.kind = .function) : env.blockKind = .function := by unfold Env.blockKind; rw [h]; rfl
end
theorem sw2 {V : Vis} {x y : Str} {p1 p2 tp vp : Pos} {k k' : Nat} {a b : Expr} (hx : x ∈ V.lc) (hy : y ∈ V.lc) (hl : (p2.line == p1.line) = true) (hne : ([x, y].eraseDups.length != 2) = false) (hst : ([a, b].any fun | .Starred .. => true | _ => false) = false)
  (hf : [a, b].all (foldedForSure 8) = false) (hc : [a, b].all (constantsAlone 8) = false) : ∀ (env : Env) (G : GC) (vl : Nat -> Yb), EOk V G vl env -> swappedStores [.Tuple [.Name x p1, .Name y p2] k tp] (.Tuple [a, b] k' vp) env = pure (some [x, y]) := fun env G vl hE =>
 sw_gen (by rw [fn_of hE.kind]; rfl) hst ((List.filterMap_cons_some (swF_y (hE.lc x hx) (beq_self_eq_true _))).trans (congrArg (x :: ·) (List.filterMap_cons_some (swF_y (hE.lc y hy) hl)))) hne hf hc
theorem sw3 {V : Vis} {x y z : Str} {p1 p2 p3 tp vp : Pos} {k k' : Nat} {a b c : Expr} (hx : x ∈ V.lc) (hy : y ∈ V.lc) (hz : z ∈ V.lc) (hl : (p2.line == p1.line) = true) (hl' : (p3.line == p1.line) = true) (hne : ([x, y, z].eraseDups.length != 3) = false) (hst : ([a, b, c].any fun | .Starred .. => true | _ => false) = false)
  (hf : [a, b, c].all (foldedForSure 8) = false) (hc : [a, b, c].all (constantsAlone 8) = false) : ∀ (env : Env) (G : GC) (vl : Nat -> Yb), EOk V G vl env -> swappedStores [.Tuple [.Name x p1, .Name y p2, .Name z p3] k tp] (.Tuple [a, b, c] k' vp) env = pure (some [x, y, z]) := fun env G vl hE =>
 sw_gen (by rw [fn_of hE.kind]; rfl) hst ((List.filterMap_cons_some (swF_y (hE.lc x hx) (beq_self_eq_true _))).trans (congrArg (x :: ·) ((List.filterMap_cons_some (swF_y (hE.lc y hy) hl)).trans (congrArg (y :: ·) (List.filterMap_cons_some (swF_y (hE.lc z hz) hl')))))) hne hf hc
theorem swc3 {V : Vis} {x y z : Str} {p1 p2 p3 tp vp : Pos} {k k' : Nat} {a b c : Expr} (hx : x ∈ V.cc) (hy : y ∈ V.lc) (hz : z ∈ V.lc) (hl : (p2.line == p1.line) = true) (hl' : (p3.line == p1.line) = true) (hst : ([a, b, c].any fun | .Starred .. => true | _ => false) = false) :
  ∀ (env : Env) (G : GC) (vl : Nat -> Yb), EOk V G vl env -> swappedStores [.Tuple [.Name x p1, .Name y p2, .Name z p3] k tp] (.Tuple [a, b, c] k' vp) env = pure Option.none := fun env G vl hE =>
 sw_none (by rw [fn_of hE.kind]; rfl) hst ((List.filterMap_cons_none (swF_n (hE.cc x hx))).trans ((List.filterMap_cons_some (swF_y (hE.lc y hy) hl)).trans (congrArg (y :: ·) (List.filterMap_cons_some (swF_y (hE.lc z hz) hl'))))) rfl
theorem YX {V : Vis} {x : Str} {p pos : Pos} {elt : Expr} {gens : List Comprehension} {scope : Scope} {line : Nat} (hx : x ∈ V.lc) (hl : (p.line == pos.line) = true) (hn : (scope.names.any fun (n, k) => n == x && (k == .local || k == .cell)) = false) :
  ∀ (env : Env) (G : GC) (vl : Nat -> Yb), EOk V G vl env -> swapsWith (.ListComp elt gens scope pos) (some (.Name x p)) line env = pure true := by
 intro env G vl hE
 have h1 := hE.lc x hx
 have h3 : env.blockKind = .function := by unfold Env.blockKind; rw [hE.kind]; rfl
 show (pure (env.blockKind == .function && env.kindOf x == some .local && p.line == pos.line && !(scope.names.any fun (n, k) => n == x && (k == .local || k == .cell))) : Sem Bool) = pure true
 rw [h1, h3, hl, hn]; rfl
open PySem.AutoSeq1 (wpAny_loadPart')
theorem meets_range_rev (r : Addr) (n : Int) (t u v : Tok) (h0 : 0 <= n) (h1 : n <= 1000000) :
  Meets (Builtin.«range.__reversed__» ⟨[.ref r], []⟩) (fun _ R s => IsRange s.heap r 0 n 1 t u v /\
   R (.ok (.ret (.ref s.heap.objs.size))) { s with heap := s.heap.push { cls := .type "range_iterator", data := .fields #[rawInt (0 + (Builtin.Range.rangeSize 0 n 1 - 1) * 1), rawInt (Builtin.Range.rangeSize 0 n 1), rawInt (-1)] } }) :=
 .of_wp fun prog w A R s h => by
  obtain ⟨hp, g, d, tk, os⟩ := s
  obtain ⟨hr, h⟩ := h
  have hrs : Builtin.Range.rangeSize 0 n 1 = n := by rw [rangeSize_one]; split <;> omega
  wp_walk using wpAny_loadPart' hr
  have hs : (Builtin.Range.rangeFitsLong 0 && Builtin.Range.rangeFitsLong n && Builtin.Range.rangeFitsLong 1 && Builtin.Range.rangeFitsLong (-1) && Builtin.Range.rangeFitsLong (0 - 1) && Builtin.Range.rangeFitsLong (Builtin.Range.rangeSize 0 n 1)) = true := by
   rw [hrs]
   simp only [Builtin.Range.rangeFitsLong, Bool.and_eq_true, decide_eq_true_eq]
   omega
  simp only [hs, Bool.not_true, Bool.false_eq_true, if_false, if_true]
  wp_walk
  exact ⟨_, rfl, h⟩
theorem rev_mro : mroOf (.type "reversed") = pure [.type "reversed", .type "object"] := by rw [mroOf_type]; kernel_rfl
theorem rev_new : typeLookup (.type "reversed") "__new__" = pure (some (.builtin "reversed.__new__")) := by rw [typeLookup_type, builtinLookup_eq_fast]; kernel_rfl
theorem rev_made : Bind.madeBy (.type "reversed") = pure (some "reversed.__new__") := madeBy_type rev_mro rev_new (by decide +kernel)
theorem rev_tc (a : Value) : checkTypeCall "reversed" ⟨[a], []⟩ = pure () := by kernel_rfl
theorem rev_nc (a : Value) : checkBuiltinCall "reversed.__new__" ⟨[.type "reversed", a], []⟩ = pure () := by kernel_rfl
theorem rev_entry : entryFor table "reversed.__new__" = some Builtin.«reversed.__new__» := entryFor_of_tree (by kernel_rfl)
theorem rev_sub : isSubtype (.type "reversed") (.type "reversed") = pure true := by rw [isSubtype_type]; kernel_rfl
theorem ri_sub_rev : isSubtype (.type "range_iterator") (.type "reversed") = pure false := by rw [isSubtype_type]; kernel_rfl
theorem rev_create : ((Manifest.find? "reversed").bind (·.mro.findSome? fun t => (Manifest.find? t).bind fun b => if b.noNew then some true else if b.attrs.any (·.1 == "__new__") then some false else none)).getD false = false := by decide +kernel
theorem rev_plain : plainId "reversed.__new__" = true := by decide +kernel
theorem rev_newClass (a : Value) : Builtin.SmallTypes.newClass "reversed" ⟨[.type "reversed", a], []⟩ = pure (.type "reversed", [a]) := by
 unfold Builtin.SmallTypes.newClass
 simp only [isType, rev_sub, pure_bind, Bool.not_true, Bool.false_eq_true, if_false]
section
variable {prog : Program} {w : World} {A : Around} {E : Value -> Shared -> Prop} {s : Shared}
theorem IsRange.typeIs' {r : Addr} {a b c : Int} {t u v : Tok} (hr : IsRange s.heap r a b c t u v) : s.TypeIs (.ref r) "range" := by
 exact ⟨_, hr, rfl⟩
noncomputable def Qt (n : Int) : Obj := { cls := .type "range_iterator", data := .fields #[rawInt (0 + (Builtin.Range.rangeSize 0 n 1 - 1) * 1), rawInt (Builtin.Range.rangeSize 0 n 1), rawInt (-1)] }
theorem call_range_rev {r : Addr} {n : Int} {t u v : Tok} {Q : Value -> Shared -> Prop} (hr : IsRange s.heap r 0 n 1 t u v) (h0 : 0 <= n) (h1 : n <= 1000000)
  (h : Q (.ref s.heap.objs.size) { s with heap := s.heap.push (Qt n) }) : wpAny (model prog w) A (call (.builtin "range.__reversed__") [.ref r]) Q E s := by
 exact call_meets F.slot_range_reversed (IsRange.typeIs' hr) F.entry_range_reversed (F.args_range_reversed_1 _) (meets_range_rev r n t u v h0 h1) ⟨hr, h⟩
theorem code_rev {r : Addr} {n : Int} {t u v : Tok} {Q₁ : Value -> Shared -> Prop} (hr : IsRange s.heap r 0 n 1 t u v) (h0 : 0 <= n) (h1 : n <= 1000000)
  (h : Q₁ (.ref s.heap.objs.size) { s with heap := s.heap.push (Qt n) }) :
  codeAny (model prog w) A (.call (.builtin "reversed.__new__") ⟨[.type "reversed", .ref r], []⟩) (wants Q₁ E) s := by
 refine codeAny_of_tree ?_
 show wpAny _ A.in1 (do checkBuiltinCall "reversed.__new__" ⟨[.type "reversed", .ref r], []⟩; again (.builtin "reversed.__new__" ⟨[.type "reversed", .ref r], []⟩)) _ _ s
 refine wpAny_bind (wpAny_of_eq (rev_nc _) (wpAny_pure ⟨plainId_quiet rev_plain _, codeAny_builtin rev_entry ?_⟩))
 rw [Around.under_plainId rev_plain _]
 unfold Builtin.«reversed.__new__»
 refine wpAny_bind (wpAny_of_eq (rev_newClass _) ?_)
 try dsimp only
 refine wpAny_bind (wpAny_of_eq (a := ()) (by first | rfl | kernel_rfl) ?_)
 refine wpAny_bind (wpAny_of_eq (a := ()) (by first | rfl | kernel_rfl) ?_)
 try dsimp only
 refine wpAny_bind (wpAny_specialOf (IsRange.typeIs' hr) F.slot_range_reversed.lookup ?_)
 try dsimp only
 refine wpAny_bind (wpAny_of_eq (F.slot_range_reversed.bind _) ?_)
 try dsimp only
 first
 | rw [if_neg (show ¬ ((Value.builtin "range.__reversed__" == Value.none) = true) from Bool.false_ne_true)]
 | (show wpAny _ _ (if (Value.builtin "range.__reversed__" == Value.none) = true then _ else _) _ _ _; rw [if_neg (show ¬ ((Value.builtin "range.__reversed__" == Value.none) = true) from Bool.false_ne_true)])
 refine wpAny_bind (wpAny_rule ?_)
 refine wpAny_bind (m := runValue (.call (.builtin "range.__reversed__") ⟨[.ref r], []⟩)) (show wpAny _ _ (call (.builtin "range.__reversed__") [.ref r]) _ _ _ from call_range_rev hr h0 h1 ?_)
 first
 | exact wpAny_pure h
 | exact wpAny_bind (wpAny_pure (wpAny_pure h))
theorem call_rev {r : Addr} {n : Int} {t u v : Tok} {Q : Value -> Shared -> Prop} (hr : IsRange s.heap r 0 n 1 t u v) (h0 : 0 <= n) (h1 : n <= 1000000)
  (h : Q (.ref s.heap.objs.size) { s with heap := s.heap.push (Qt n) }) : wpAny (model prog w) A (call (.type "reversed") [.ref r]) Q E s := by
 refine wpAny_call (codeAny_of_tree ?_)
 show wpAny _ _ (callAny (.type "reversed") ⟨[.ref r], []⟩) _ _ _
 refine wpAny_pure ⟨Code.quiet_builtin _ (by decide +kernel), codeAny_builtin F.entry_type_call ?_⟩
 rw [Around.under_plain (weight_type_call_type "reversed" [.ref r] []) rfl]
 have f1 := rev_mro
 have f2 := rev_made
 have f3 := rev_tc (.ref r)
 have f4 := ri_sub_rev
 have f5 := rev_create
 repeat (any_goals (first | assumption | wp_step))
 refine codeAny_mono (code_rev (E := fun _ _ => False) (Q₁ := fun obj s₁ => obj = .ref s.heap.objs.size /\ s₁ = { s with heap := s.heap.push (Qt n) }) hr h0 h1 ⟨rfl, rfl⟩) fun x s₁ hx => ?_
 cases x with
 | error e => exact hx.elim
 | ok fl =>
  cases fl with
  | ret obj =>
   obtain ⟨rfl, rfl⟩ := hx
   have hT : Shared.TypeIs { s with heap := s.heap.push (Qt n) } (.ref s.heap.objs.size) "range_iterator" := ⟨_, Heap.get?_push_size _ rfl, rfl⟩
   repeat (any_goals (first | assumption | wp_step))
  | _ => exact hx.elim
end
section
variable {V : Vis} {h : Nat}
noncomputable def rrngF (xs : List AV) : Option (List AV) := (one? xs).bind fun x => x.i?.bind fun n => if 0 <= n /\ n <= 1000000 then some ((List.range n.toNat).map fun (i : Nat) => .int (n - 1 + i * (-1))) else Option.none
theorem rrngF_inv {xs r : List AV} (h : rrngF xs = some r) : ∃ n, xs = [.int n] /\ 0 <= n /\ n <= 1000000 /\ r = (List.range n.toNat).map fun (i : Nat) => .int (n - 1 + i * (-1)) := by
 obtain ⟨x, ex, h⟩ := bS h
 obtain ⟨n, q, h⟩ := bS h
 obtain ⟨hc, h⟩ := iS h
 exact ⟨n, AV.int_of q ▸ Xu ex, hc.1, hc.2, (Option.some.inj h).symm⟩
noncomputable def rrngM (m : PM (List AV)) : PM (List AV) := PM.bd m fun xs => PM.of fun _ => rrngF xs
theorem rrng_get {n : Int} {j : Nat} {x : AV} (h : ((List.range n.toNat).map fun (i : Nat) => AV.int (n - 1 + i * (-1)))[j]? = some x) : x = .int (n - 1 + j * (-1)) := by
 rw [List.getElem?_map] at h
 cases e : (List.range n.toNat)[j]? with
 | none => rw [e] at h; cases h
 | some k =>
  rw [e] at h
  obtain ⟨h1, h2⟩ := List.getElem?_eq_some_iff.mp e
  simp at h2; subst h2
  exact (Option.some.inj h).symm
theorem si_revrange {x : Str} {i : Nat} {p p' q pos pos' : Pos} {e : Expr} {m : PM (List AV)} (hr : Str.ofString "reversed" ∈ V.gl) (hf : Str.ofString "range" ∈ V.gl) (hargs : SEs V h [e] m) (hp : ∀ env, starEach [e] env = (false, eval e env) :: starEach [] env) (hq : ∀ env pos, (backTo pos (starEach [] env)).any (·.1) = false) (h1 : 0 < h := by decide) :
  SI V h (.Name x p) (.one i) (.Call (.Name (Str.ofString "reversed") p') [.Call (.Name (Str.ofString "range") q) [e] [] pos'] [] pos) (rrngM m) := by
 intro G K g σ σ' xs A env s Q E ok hA hE I hm hQ
 obtain ⟨ys, σ₁, e1, e2⟩ := PM.bd_some hm
 obtain ⟨e3, e4⟩ := PM.of_some e2
 dsimp only at e3 e4
 subst e4
 obtain ⟨n, rfl, h0, hn, rfl⟩ := rrngF_inv e3
 refine wpAny_Call_NameR (YN ok hE I hr (by decide) (bv := .type "reversed") (by decide +kernel) (by decide +kernel) (by decide) (PyProof.Rows.callWith_type1 (wpAny_items_cons ?_ rfl) rfl rfl))
 refine wpAny_Call_NameR (YN ok hE I hf (by decide) (bv := .type "range") (by decide +kernel) (by decide +kernel) (by decide) (PyProof.Rows.callWith_type1 (hargs pos' G K g σ _ _ A env s _ E ok hA hE I e1 fun g1 va s1 l1 I1 r1 => ?_) (hp env) (hq env pos')))
 refine rng_call (r := ⟨0, n, 1, n.toNat⟩) I1 r1 (by show (if _ then _ else _) = _; rw [if_pos ⟨h0, hn⟩]) fun s2 t u v I2 hra hlt hsm hrs hn2 => ?_
 refine wpAny_items_nil ?_
 refine call_rev hra h0 hn ?_
 have W := Walks.range (prog := G.prog) (w := G.w) (A := A) (hA.handled h1) s2.heap.objs.size (n - 1) (-1) n.toNat
 have I3 := I2.keep (h' := s2.heap.push (Qt n)) s2.toks fun b o e => Heap.get?_push_of_some _ e
 have hs : IsRangeIter (s2.heap.push (Qt n)) s2.heap.objs.size (n - 1) n.toNat (-1) := by
  have hrs' : Builtin.Range.rangeSize 0 n 1 = n := by rw [rangeSize_one]; split <;> omega
  have e0 : 0 + (n - 1) * 1 = n - 1 := by omega
  have e9 : (n.toNat : Int) = n := by omega
  have eo : Qt n = { cls := .type "range_iterator", data := .fields #[rawInt (n - 1), rawInt n, rawInt (-1)] } := by unfold Qt; rw [hrs', e0]
  have := Heap.get?_push_size s2.heap (o := { cls := .type "range_iterator", data := .fields #[rawInt (n - 1), rawInt n, rawInt (-1)] }) rfl
  rw [eo]
  simp only [IsRangeIter, e9]
  exact this
 refine W.self 0 _ _ _ ?_ ?_
 ·simpa using hs
 refine hQ g1 _ _ _ _ l1 I3 (Qx I2 (zH _)) (Trn.of1 W (by simp) (fun j v x ex hv => ?_) (fun j h st => ⟨_, st, fun ⟨_, _, q⟩ => by cases q⟩)) ?_
 ·obtain ⟨t', rfl⟩ := hv
  rw [rrng_get ex]
  exact zw.mpr ⟨t', rfl⟩
 ·simpa using hs
end
structure ExcO (h : Heap) (e : Addr) (vs : Array Value) : Prop where
 at_ : ∃ ob, h.get? e = some ob /\ ob.cls = .type "IndexError" /\ ob.data = .fields vs
 a0 : ∃ a, vs[0]? = some a
structure Ex0 (G : GC) (K : Kx) (g : Gh) (h : Heap) (e : Addr) (c : Value) : Prop where
 off : Off G [e] K g
 ex : ∃ vs, ExcO h e vs /\ vs[1]? = some .none /\ vs[2]? = some c
structure ExT (G : GC) (K : Kx) (g : Gh) (h : Heap) (e : Addr) (c fl : Value) : Prop where
 ex : ∃ vs T oT ts, Off G [e, T] K g /\ ExcO h e vs /\ vs[1]? = some (.ref T) /\ vs[2]? = some c /\ T ≠ e /\ h.get? T = some oT /\ oT.data = .fields ts /\ ts[3]? = some fl
theorem not_dctF {o : Obj} {vs : Array Value} (h : o.data = .fields vs) : ¬ ZX o := fun ⟨_, _, q⟩ => by rw [h] at q; cases q
section
variable {G : GC} {K : Kx} {g : Gh} {σ : St} {s : Shared} {e : Addr} {c fl : Value}
theorem Off.sub {wr wr' : List Addr} (O : Off G wr K g) (h : ∀ b ∈ wr', b ∈ wr) : Off G wr' K g := ⟨fun b hb => O.B b (h b hb), fun b hb => O.K b (h b hb), fun b hb => O.ρ b (h b hb), fun b hb => O.vl b (h b hb), fun b hb => O.P b (h b hb)⟩
theorem Off.join {wr wr' : List Addr} (O : Off G wr K g) (O' : Off G wr' K g) : Off G (wr ++ wr') K g :=
 ⟨fun b hb => (List.mem_append.mp hb).elim (O.B b) (O'.B b), fun b hb => (List.mem_append.mp hb).elim (O.K b) (O'.K b), fun b hb => (List.mem_append.mp hb).elim (O.ρ b) (O'.ρ b), fun b hb => (List.mem_append.mp hb).elim (O.vl b) (O'.vl b), fun b hb => (List.mem_append.mp hb).elim (O.P b) (O'.P b)⟩
noncomputable def fsOf (l : List Env) : List Addr := l.filterMap (·.frame)
theorem Wf.slots (I : Wf G K g σ s) {wr fs : List Addr} (O : Off G wr K g) {h' : Heap} (hf : ∀ b ∈ fs, b = K.L ∨ ∃ o, K.f b o /\ ZX o)
  (h1 : ∀ b o, b ∉ fs -> b ∉ wr -> s.heap.get? b = some o -> h'.get? b = some o) (h2 : ∀ b o, b ∈ fs -> b ∉ wr -> s.heap.get? b = some o -> ∃ sl, h'.get? b = some { o with slots := sl }) : Wf G K g σ { s with heap := h' } := by
 obtain ⟨iL, xL, hvL⟩ := I.has
 have aL : (g.vl iL).addr = some K.L := by rw [hvL]; rfl
 have nB : ∀ b o, g.B b o -> b ∉ fs := fun b o e hb => by
  rcases hf b hb with rfl | ⟨o', hk, _⟩
  ·exact (I.dB _ o e).2.1 iL aL
  ·exact I.dBK b o o' e hk
 have nP : G.P ∉ fs := fun hb => by
  rcases hf _ hb with e | ⟨o', hk, _⟩
  ·exact I.dP.2 iL (e ▸ aL)
  ·exact (I.dK _ o' hk).2.2 rfl
 have nρ : ∀ (n : Nat) b, g.ρ[n]? = some b -> b ∉ fs := fun n b e hb => by
  rcases hf b hb with rfl | ⟨o', hk, _⟩
  ·exact I.dv n iL _ e aL
  ·exact (I.dK b o' hk).1 n e
 have up : ∀ b o, b ∉ wr -> s.heap.get? b = some o -> ∃ sl, h'.get? b = some { o with slots := sl } := fun b o hw e => by
  by_cases hb : b ∈ fs
  ·exact h2 b o hb hw e
  ·exact ⟨o.slots, h1 b o hb hw e⟩
 exact {
  hB := fun b o e => h1 b o (nB b o e) (fun hb => O.B b hb o e) (I.hB b o e)
  hK := fun b o e => by
   have nw : b ∉ wr := fun hb => O.K b hb o e
   by_cases hb : b ∈ fs
   ·have hd : ZX o := by
     rcases hf b hb with rfl | ⟨o', hk, hd⟩
     ·exact absurd aL ((I.dK _ o e).2.1 iL)
     ·obtain ⟨sl, e1⟩ := (I.hK b o e).up
      obtain ⟨sl', e2⟩ := (I.hK b o' hk).up
      rw [e1] at e2
      obtain ⟨es, n, hd⟩ := hd
      have h3 := congrArg Obj.data (Option.some.inj e2)
      exact ⟨es, n, h3.trans hd⟩
    obtain ⟨sl, e1⟩ := (I.hK b o e).up
    obtain ⟨sl', e2⟩ := h2 b _ hb nw e1
    exact .inr ⟨hd, sl', e2⟩
   ·exact (I.hK b o e).mono fun o2 => h1 b o2 hb nw
  base := I.base
  tab := let ⟨ps, a1, a2⟩ := I.tab; ⟨ps, a1, h1 _ _ nP (fun hb => O.P _ hb rfl) a2⟩
  dB := I.dB
  dK := I.dK
  dBK := I.dBK
  dP := I.dP
  dv := I.dv
  len := I.len
  nodup := I.nodup
  st := fun n x b e1 e2 => (I.st n x b e1 e2).mono (fun _ _ x => x) (fun _ _ x => x) fun o => h1 b o (nρ n b e2) fun hb => O.ρ b hb n e2
  fr := fun i => (I.fr i).monoS (fun _ _ x => x) (fun _ _ x => x) fun b hb o => up b o fun hw => O.vl b hw i hb
  inj := I.inj
  has := I.has
  gens := I.gens
  os := I.os
  tk := I.tk }
theorem Yq.mem {l : List Env} (F : Yq K l) : ∀ b ∈ fsOf l, b = K.L ∨ ∃ o, K.f b o /\ ZX o := fun b hb => by
 obtain ⟨x, hx, hf⟩ := List.mem_filterMap.mp hb
 rcases F with rfl | ⟨e0, r, rfl, _, q2, q3⟩
 ·cases hx
 ·rcases List.mem_cons.mp hx with rfl | hx
  ·rw [q2] at hf; cases hf; exact .inl rfl
  ·obtain ⟨_, L, o, b1, b2, b3⟩ := q3 x hx
   rw [b1] at hf; cases hf; exact .inr ⟨o, b3, b2⟩
theorem Wf.dictAt (I : Wf G K g σ s) {b : Addr} (h : b = K.L ∨ ∃ o, K.f b o /\ ZX o) : ∃ o, s.heap.get? b = some o /\ ZX o := by
 rcases h with rfl | ⟨o, hk, hd⟩
 ·obtain ⟨i0, x0, hv0⟩ := I.has
  have k := I.fr i0
  rw [hv0] at k
  obtain ⟨m0, ⟨o0, es0, n0, ho0, hd0, _⟩, _⟩ := k
  exact ⟨o0, ho0, ⟨es0, n0, hd0⟩⟩
 ·obtain ⟨sl, e⟩ := (I.hK b o hk).up
  exact ⟨_, e, hd⟩
theorem fun_frames (I : Wf G K g σ s) {as : List Addr} : ∀ {l : List Env}, (∀ b ∈ fsOf l, b ∈ as) -> (∀ x ∈ l, x.scope.kind ≠ .module /\ ∃ L, x.frame = some L /\ (L = K.L ∨ ∃ o, K.f L o /\ ZX o)) -> s.heap.FunFrames (hideAll s.heap as) l
 | [], _, _ => trivial
 | x :: r, ha, hl => by
  obtain ⟨h1, L, h2, h3⟩ := hl x List.mem_cons_self
  obtain ⟨o, ho, es, n, hd⟩ := I.dictAt h3
  have hm : L ∈ as := ha L (List.mem_filterMap.mpr ⟨x, List.mem_cons_self, h2⟩)
  exact ⟨h1, ⟨L, o, h2, hideAll_none as hm, ho, fun vs q => by rw [hd] at q; cases q⟩, fun_frames I (fun b hb => ha b (by
   obtain ⟨y, hy, hf⟩ := List.mem_filterMap.mp hb
   exact List.mem_filterMap.mpr ⟨y, List.mem_cons_of_mem _ hy, hf⟩)) fun y hy => hl y (List.mem_cons_of_mem _ hy)⟩
theorem Yq.all {l : List Env} (F : Yq K l) : ∀ x ∈ l, x.scope.kind ≠ .module /\ ∃ L, x.frame = some L /\ (L = K.L ∨ ∃ o, K.f L o /\ ZX o) := fun x hx => by
 rcases F with rfl | ⟨e0, r, rfl, q1, q2, q3⟩
 ·cases hx
 ·rcases List.mem_cons.mp hx with rfl | hx
  ·exact ⟨q1, _, q2, .inl rfl⟩
  ·obtain ⟨b0, L, o, b1, b2, b3⟩ := q3 x hx
   exact ⟨b0, L, b1, .inr ⟨o, b3, b2⟩⟩
end
noncomputable def Tie (A : Around) (env : Env) : Prop := ∃ r, A.frames = some (env :: r)
noncomputable def HOk (A : Around) (K : Kx) : Prop := A.handled = Option.none ∨ ∃ e o vs, A.handled = some (.ref e) /\ K.f e o /\ o.data = .fields vs /\ vs[2]? = some .none
section
variable {G : GC} {K : Kx} {g : Gh} {σ : St} {s : Shared} {e : Addr} {c fl : Value} {A : Around} {env : Env} {E : Value -> Shared -> Prop} {Q : Unit -> Shared -> Prop} {h : Nat}
theorem Tie.frame (T : Tie A env) (hA : AOk h A K) : ∃ r, A.frames = some (env :: r) /\ Yq K (env :: r) /\ env.frame = some K.L := by
 obtain ⟨r, hr⟩ := T
 obtain ⟨l, h1, h2⟩ := hA.frames
 rw [hr] at h1; cases h1
 refine ⟨r, hr, h2, ?_⟩
 rcases h2 with q | ⟨e0, r', q, q1, q2, q3⟩
 ·cases q
 ·cases q; exact q2
theorem note0 (T : Tie A env) (hA : AOk h A K) (I : Wf G K g σ s) (X : Ex0 G K g s.heap e c)
  (hQ : ∀ s', Wf G K g σ s' -> ExT G K g s'.heap e c (rawInt K.L) -> Q () s') : wpAny (model G.prog G.w) A (noteFrame (.ref e) env) Q E s := by
 obtain ⟨r, hfr, F, hf⟩ := T.frame hA
 obtain ⟨vs, ⟨⟨ob, he, hcls, hd⟩, a0, h0⟩, h1, h2⟩ := X.ex
 have hne : e ∉ fsOf (env :: r) := fun hm => by
  obtain ⟨o, ho, es, n, hd'⟩ := I.dictAt (F.mem e hm)
  rw [he] at ho; cases ho; rw [hd] at hd'; cases hd'
 unfold noteFrame
 simp only [hf]
 refine wpAny_bind (wpAny_field he hd h1 ?_)
 rw [if_neg (by decide)]
 have hsz : 1 < vs.size := (Array.getElem?_eq_some_iff.mp h1).1
 have hl := fun_frames I (as := e :: fsOf (env :: r)) (fun b hb => List.mem_cons_of_mem _ hb) F.all
 refine wpAny_bind (wpAny_frameOf_fun hfr hl hf fun h₁ hs₁ => ?_)
 refine wpAny_bind (wpAny_entryPlaceOf fun pl hpl => ?_)
 unfold EntryCells.newEntry newFields
 refine wpAny_bind (wpAny_newObj_type ?_ (hpl.sizeOk5 _ _ _ _ _))
 generalize htb : ({ cls := .type "traceback", data := .fields ([Value.none, .ref K.L, .none, rawInt K.L, .none] ++ (if pl.isEmpty then List.replicate 6 Value.none else pl)).toArray } : Obj) = otb
 have hdt : ∃ ts, otb.data = .fields ts /\ ts[3]? = some (rawInt K.L) := by
  subst htb
  exact ⟨_, rfl, by first | (simp; done) | (rcases hpl with rfl | ⟨_, _, _, _, _, _, _, rfl⟩ <;> simp)⟩
 obtain ⟨ts, hdt, hts⟩ := hdt
 have hfree : otb.isFreed = false := by subst htb; rfl
 have he1 : h₁.get? e = some ob := (hs₁.2.1 e hne).trans he
 have he2 : (h₁.push otb).get? e = some ob := Heap.get?_push_of_some _ he1
 refine wpAny_setField he2 hd hsz ?_
 have hTe : h₁.objs.size ≠ e := Nat.ne_of_gt (Heap.lt_size he1)
 have hd3 := Obj.data_mapFields hd (·.setIfInBounds 1 (Value.ref h₁.objs.size))
 have he3 := Heap.get?_update_self (Obj.mapFields (·.setIfInBounds 1 (Value.ref h₁.objs.size))) he2 (Obj.isFreed_of_fields hd3)
 have hT3 := (Heap.get?_update_other (h₁.push otb) (Obj.mapFields (·.setIfInBounds 1 (Value.ref h₁.objs.size))) (Ne.symm hTe)).trans (Heap.get?_push_size h₁ hfree)
 have hsN : s.heap.get? h₁.objs.size = Option.none := yi (Nat.le_of_eq hs₁.1.symm)
 have other : ∀ b o, b ≠ e -> h₁.get? b = some o -> ((h₁.push otb).update e (Obj.mapFields (·.setIfInBounds 1 (Value.ref h₁.objs.size)))).get? b = some o := fun b o hbe hb => by
  rw [Heap.get?_update_other _ _ (Ne.symm hbe)]
  exact Heap.get?_push_of_some _ hb
 have I' : Wf G K g σ { s with heap := (h₁.push otb).update e (Obj.mapFields (·.setIfInBounds 1 (Value.ref h₁.objs.size))) } := by
  refine I.slots X.off F.mem (fun b o hb hw ho => other b o (fun q => hw (by simp [q])) ((hs₁.2.1 b hb).trans ho)) fun b o hb hw ho => ?_
  obtain ⟨sl, e1⟩ := hs₁.2.2 b o ho
  exact ⟨sl, other b _ (fun q => hw (by simp [q])) e1⟩
 have fr := I.fresh_of_none hsN
 have OT : Off G [e, h₁.objs.size] K g := by
  have O2 := Qx I hsN
  exact X.off.join O2
 refine hQ _ I' ⟨_, h₁.objs.size, otb, ts, OT, ⟨⟨_, he3, ?_, hd3⟩, a0, ?_⟩, ?_, ?_, hTe, hT3, hdt, hts⟩
 ·rw [Obj.cls_mapFields]; exact hcls
 ·rw [Array.getElem?_setIfInBounds_ne (by decide)]; exact h0
 ·simp [hsz]
 ·rw [Array.getElem?_setIfInBounds_ne (by decide)]; exact h2
theorem note1 (hf : env.frame = some K.L) (X : ExT G K g s.heap e c (rawInt K.L)) (hQ : Q () s) : wpAny (model G.prog G.w) A (noteFrame (.ref e) env) Q E s := by
 obtain ⟨vs, T, oT, ts, O, ⟨⟨ob, he, hcls, hd⟩, a0, h0⟩, h1, h2, hTe, hT, hdT, h3⟩ := X.ex
 unfold noteFrame
 simp only [hf]
 refine wpAny_bind (wpAny_field he hd h1 ?_)
 rw [if_pos (show (Value.ref T != Value.none) = true from by simp)]
 refine wpAny_bind (wpAny_field hT hdT h3 ?_)
 rw [if_pos (show (rawInt K.L == rawInt K.L) = true from by simp)]
 exact wpAny_pure hQ
theorem zab (I : Wf G K g σ s) (X : ExT G K g s.heap e c fl) (fr : Option Addr)
  (hQ : ∀ s', Wf G K g σ s' -> ExT G K g s'.heap e c (fr.elim .none fun f => rawInt f) -> Q () s') : wpAny (model G.prog G.w) A (setFlight (.ref e) fr) Q E s := by
 obtain ⟨vs, T, oT, ts, O, ⟨⟨ob, he, hcls, hd⟩, a0, h0⟩, h1, h2, hTe, hT, hdT, h3⟩ := X.ex
 have hsz3 : 3 < ts.size := (Array.getElem?_eq_some_iff.mp h3).1
 unfold setFlight
 refine wpAny_bind (wpAny_field he hd h1 ?_)
 rw [if_pos (show (Value.ref T != Value.none) = true from by simp)]
 refine wpAny_setField hT hdT hsz3 (hQ _ ?_ ?_)
 ·exact I.off (O.sub (wr' := [T]) (by simp)) s.toks fun b o hb ho => (Heap.get?_update_other _ _ (fun q => hb (by simp [q]))).trans ho
 ·exact ⟨vs, T, _, _, O, ⟨⟨ob, (Heap.get?_update_other _ _ hTe).trans he, hcls, hd⟩, a0, h0⟩, h1, h2, hTe, Heap.get?_update_self _ hT (Obj.isFreed_of_fields (Obj.data_mapFields hdT _)), Obj.data_mapFields hdT _, by simp [hsz3]⟩
theorem came (hf : env.frame = some K.L) {E' : Value -> Shared -> Prop} (I : Wf G K g σ s) (X : ExT G K g s.heap e c fl) (hE : ∀ s', Wf G K g σ s' -> ExT G K g s'.heap e c (rawInt K.L) -> E' (.ref e) s') : cameBackBy (model G.prog G.w) A env E' (.ref e) s := by
 obtain ⟨vs, T, oT, ts, O, ⟨⟨ob, he, hcls, hd⟩, a0, h0⟩, h1, h2, hTe, hT, hdT, h3⟩ := id X.ex
 unfold cameBackBy
 refine wpAny_bind (wpAny_field he hd h1 ?_)
 rw [if_neg (show ¬ ((Value.ref T == Value.none) = true) from by simp)]
 refine (zab I X env.frame fun s' I' X' => ?_)
 rw [hf] at X'
 exact hE s' I' X'
noncomputable def Exc (G : GC) (K : Kx) (g : Gh) (h : Heap) (e : Addr) (c : Value) : Prop := Ex0 G K g h e c ∨ ExT G K g h e c (rawInt K.L)
theorem note (T : Tie A env) (hA : AOk h A K) (I : Wf G K g σ s) (X : Exc G K g s.heap e c)
  (hQ : ∀ s', Wf G K g σ s' -> ExT G K g s'.heap e c (rawInt K.L) -> Q () s') : wpAny (model G.prog G.w) A (noteFrame (.ref e) env) Q E s := by
 rcases X with X | X
 ·exact note0 T hA I X hQ
 ·obtain ⟨r, _, _, hf⟩ := T.frame hA
  exact note1 hf X (hQ s I X)
theorem passes (T : Tie A env) (hA : AOk h A K) (I : Wf G K g σ s) (X : Exc G K g s.heap e c) {A' : Around} (hA' : A'.frames = A.frames) {E' : Value -> Shared -> Prop}
  (hE : ∀ s', Wf G K g σ s' -> ExT G K g s'.heap e c (rawInt K.L) -> E' (.ref e) s') : notedBy (model G.prog G.w) A env (cameBackBy (model G.prog G.w) A' env E') (.ref e) s := by
 have hk222 := T.frame hA; obtain ⟨r, _, _, hf⟩ := hk222
 exact note T hA I X fun s' I' X' => came hf I' X' hE
end
theorem entry_unchain : entryFor table "proto.unchain" = some Builtin.«proto.unchain» := entryFor_of_tree (by kernel_rfl)
section
variable {G : GC} {K : Kx} {g : Gh} {σ : St} {s : Shared} {A : Around} {env : Env} {E : Value -> Shared -> Prop} {h : Nat}
theorem zan {α : Type} {msg : String} {Q : α -> Shared -> Prop} (H : HOk A K) (I : Wf G K g σ s)
  (hE : ∀ s' e c, Wf G K g σ s' -> Ex0 G K g s'.heap e c -> (A.handled = Option.none -> c = .none) -> E (.ref e) s') : wpAny (model G.prog G.w) A (raiseErrorWords "IndexError" msg : Sem α) Q E s := by
 unfold raiseErrorWords
 refine wpAny_bind (wpAny_mkText (wpAny_bind ?_))
 unfold newExc newTuple
 refine wpAny_bind (wpAny_newObj_type ?_)
 refine wpAny_bind (m := firstArgMember _ _) (wpAny_of_eq (a := Value.none) (by simp only [firstArgMember, plainExc_IndexError.first]; rfl) ?_)
 rw [plainExc_IndexError.own]
 refine wpAny_newObj_type ?_
 have I1 := I.tok (s.toks + 1)
 generalize hs1 : ({ s with toks := s.toks + 1 } : Shared) = s1 at I1 ⊢
 generalize htup : ({ cls := .type "tuple", data := .seq _ } : Obj) = otup
 generalize hob : ({ cls := .type "IndexError", data := .fields _ } : Obj) = ob
 have hd : ∃ vs, ob.data = .fields vs /\ ob.cls = .type "IndexError" /\ (∃ a, vs[0]? = some a) /\ vs[1]? = some .none /\ vs[2]? = some .none /\ 2 < vs.size := by subst hob; exact ⟨_, rfl, rfl, ⟨_, rfl⟩, by simp, by simp, by simp⟩
 obtain ⟨vs, hd, hcls, ha0, h1, h2, h3⟩ := hd
 have hfree : ob.isFreed = false := by subst hob; rfl
 have I2 := I1.keep (h' := (s1.heap.push otup).push ob) s1.toks fun b o e => Heap.get?_push_of_some _ (Heap.get?_push_of_some _ e)
 have he : ((s1.heap.push otup).push ob).get? (s1.heap.push otup).objs.size = some ob := Heap.get?_push_size _ hfree
 have hn : s1.heap.get? (s1.heap.push otup).objs.size = Option.none := yi (by rw [Heap.size_push]; exact Nat.le_succ _)
 have O := Qx I1 hn
 have X : Ex0 G K g ((s1.heap.push otup).push ob) (s1.heap.push otup).objs.size .none := ⟨O, vs, ⟨⟨ob, he, hcls, hd⟩, ha0⟩, h1, h2⟩
 unfold raiseNew
 refine wpAny_bind (wpAny_handled ?_)
 rcases H with H | ⟨e0, o0, vs0, H, hk, hd0, h20⟩
 ·rw [H]
  first
   | refine wpAny_throw ?_
   | refine wpAny_bind (wpAny_pure (wpAny_throw ?_))
  exact hE _ _ _ I2 X fun _ => rfl
 ·rw [H]
  have e0at : ((s1.heap.push otup).push ob).get? e0 = some o0 := (I2.hK _ _ hk).ex (not_dctF hd0)
  have hne : (s1.heap.push otup).objs.size ≠ e0 := fun q => O.K _ (by simp) o0 (q ▸ hk)
  generalize hea : (s1.heap.push otup).objs.size = ea at he hn O X hne
  have hne' : ((Value.ref e0 != Value.ref ea) = true) := by simp [Ne.symm hne]
  dsimp only
  rw [if_pos hne']
  refine wpAny_bind (wpAny_holding (wpAny_runValue (codeAny_builtin entry_unchain ?_)))
  unfold Builtin.«proto.unchain»
  refine wpAny_bind (wpAny_field e0at hd0 h20 ?_)
  rw [if_pos (show (Value.none == Value.none) = true from rfl)]
  refine wpAny_bind (wpAny_pure (wpAny_pure ?_))
  show wpAny _ _ (setField (.ref ea) 2 (.ref e0) >>= fun _ => throw _) _ _ _
  refine wpAny_bind (wpAny_setField he hd h3 (wpAny_throw ?_))
  refine hE _ _ (.ref e0) (I2.off (O.sub (wr' := [ea]) (by simp)) s1.toks fun b o hb ho => (Heap.get?_update_other _ _ (fun q => hb (by simp [q]))).trans ho) ⟨O, vs.setIfInBounds 2 (.ref e0), ⟨⟨_, Heap.get?_update_self _ he (Obj.isFreed_of_fields (Obj.data_mapFields hd _)), ?_, Obj.data_mapFields hd _⟩, ?_⟩, ?_, ?_⟩ fun q => by rw [H] at q; cases q
  ·rw [Obj.cls_mapFields]; exact hcls
  ·obtain ⟨a, ha⟩ := ha0
   exact ⟨a, by rw [Array.getElem?_setIfInBounds_ne (by decide)]; exact ha⟩
  ·rw [Array.getElem?_setIfInBounds_ne (by decide)]; exact h1
  ·simp [h3]
theorem getItem_out {l : Addr} {items : Array Value} {k : Nat} {t : Tok} {Q : Value -> Shared -> Prop} (H : HOk A.in1 K) (I : Wf G K g σ s) (hl : s.heap.IsList l items) {k' : Int} (hk' : k' = (k : Int)) (hout : items.size <= k) (hhi : k <= 1000000)
  (hE : ∀ s' e c, Wf G K g σ s' -> Ex0 G K g s'.heap e c -> (A.handled = Option.none -> c = .none) -> E (.ref e) s') : wpAny (model G.prog G.w) A (getItem (.ref l) (.int k' t)) Q E s := by
 obtain ⟨o, ho, hc, ne, hd⟩ := id hl
 unfold getItem
 try with_reducible refine wpAny_holding ?_
 first | refine wpAny_bind (wpAny_pure ?_) | skip
 refine wpAny_bind (wpAny_sequenceKey hl.typeIs (by decide) ?_)
 refine wpAny_bind (wpAny_callSpecial?_slot (name := Str.ofString "__getitem__") hl.typeIs PySem.slot_list_getitem
  (wpAny_call_entry PySem.slot_list_getitem hl.typeIs PySem.entry_list_getitem ?_ (PySem.args_list_getitem _ _)))
 show wpAny _ _ (Builtin.List.listSubscript? (.int k' t) >>= _) _ _ s
 refine wpAny_bind (wpAny_listSubscript_int (fitsIndex_both (by omega) (by omega)) ?_)
 subst hk'
 have hx : items[k]? = Option.none := Array.getElem?_eq_none hout
 show wpAny _ _ ((seqItemAt l k >>= fun r => pure (r.map (k, ·))) >>= _) _ _ s
 refine wpAny_bind (wpAny_bind (wpAny_seqItemAt ho hd (wpAny_pure ?_)))
 rw [hx]
 first
  | exact wpAny_bind (wpAny_rule (zan H I hE))
  | exact wpAny_bind (wpAny_rule (wpAny_bind (zan H I hE)))
  | exact wpAny_bind (wpAny_bind (wpAny_rule (zan H I hE)))
  | exact wpAny_rule (zan H I hE)
end
inductive XO (β : Type) where
 | ok (y : β) | ex (clean : Bool)
noncomputable abbrev XM (β : Type) := PM (XO β)
noncomputable def HOkB (q : Bool) (A : Around) (K : Kx) : Prop := match q with | true => A.handled = Option.none | false => HOk A K
theorem HOkB.ok {q : Bool} {A : Around} {K : Kx} (h : HOkB q A K) : HOk A K := by cases q; exact h; exact .inl h
noncomputable def SndX {α β : Type} (q : Bool) (V : Vis) (rel : Gh -> β -> α -> Prop) (t : Env -> Sem α) (m : XM β) : Prop :=
 ∀ (G : GC) (K : Kx) (g : Gh) (σ σ' : St) (b : XO β) (A : Around) (env : Env) (s : Shared) (Q : α -> Shared -> Prop) (E : Value -> Shared -> Prop),
  G.Ok -> AOk 0 A K -> HOkB q A K -> Tie A env -> EOk V G g.vl env -> Wf G K g σ s -> m σ = some (b, σ') ->
  (∀ y g' a s', b = .ok y -> g.le g' -> Wf G K g' σ' s' -> rel g' y a -> Q a s') ->
  (∀ cl g' e c s', b = .ex cl -> g.le g' -> Wf G K g' σ' s' -> Exc G K g' s'.heap e c -> (cl = true -> A.handled = Option.none -> c = .none) -> E (.ref e) s') -> wpAny (model G.prog G.w) A (t env) Q E s
noncomputable abbrev SEX (q : Bool) (V : Vis) (e : Expr) (m : XM AV) : Prop := SndX q V Gh.rv (fun env => eval e env) m
noncomputable abbrev STX (q : Bool) (V : Vis) (e : Expr) (m : XM Bool) : Prop := SndX q V (fun _ b a => a = b) (fun env => isTrue e env (eval e env)) m
noncomputable abbrev SSX (q : Bool) (V : Vis) (st : Stmt) (m : XM FL) : Prop := SndX q V FLr (fun env => exec st env) m
noncomputable abbrev SBX (q : Bool) (V : Vis) (sts : List Stmt) (m : XM FL) : Prop := SndX q V FLr (fun env => execs sts env) m
section
variable {V : Vis} {q : Bool}
noncomputable def xl {β : Type} (m : PM β) : XM β := PM.bd m fun b => PM.ok (.ok b)
theorem ZP {α β : Type} {rel : Gh -> β -> α -> Prop} {t : Env -> Sem α} {m : PM β} (h : Snd V 0 rel t m) : SndX q V rel t (xl m) := by
 intro G K g σ σ' b A env s Q E ok hA H T hE I hm hQ hX
 obtain ⟨y, σ₁, e1, e2⟩ := PM.bd_some hm
 cases e2
 exact h G K g σ _ y A env s Q E ok hA hE I e1 fun g' a s' l I' r => hQ y g' a s' rfl l I' r
noncomputable def itemX (σ : St) (a b : AV) : Option (XO AV) := (asL σ a).bind fun xs => b.i?.bind fun i => if 0 <= i /\ xs.length <= 100000 /\ i <= 1000000 then (match xs[i.toNat]? with | some x => some (.ok x) | Option.none => some (.ex true)) else Option.none
theorem itemX_inv {σ : St} {a b : AV} {r : XO AV} (h : itemX σ a b = some r) : ∃ xs i, asL σ a = some xs /\ b = .int i /\ 0 <= i /\ xs.length <= 100000 /\ i <= 1000000 /\ ((∃ x, xs[i.toNat]? = some x /\ r = .ok x) ∨ (xs.length <= i.toNat /\ r = .ex true)) := by
 obtain ⟨xs, e1, h⟩ := bS h
 obtain ⟨i, ei, h⟩ := bS h
 obtain ⟨hc, h⟩ := iS h
 refine ⟨xs, i, e1, AV.int_of ei, hc.1, hc.2.1, hc.2.2, ?_⟩
 split at h
 ·rename_i x e2; exact .inl ⟨x, e2, (Option.some.inj h).symm⟩
 ·rename_i e2; exact .inr ⟨List.getElem?_eq_none_iff.mp e2, (Option.some.inj h).symm⟩
noncomputable def QP (ml mi : PM AV) : XM AV := PM.bd ml fun a => PM.bd mi fun b => PM.of fun σ => itemX σ a b
theorem zaj {value slice : Expr} {pos : Pos} {mv ms : PM AV} (hv : SE V 0 value mv) (hsl : SE V 0 slice ms) (hs : ∀ o i, subscripted slice false o i = operate [o, i] (getItem o i)) : SEX q V (.Subscript value slice pos) (QP mv ms) := by
 intro G K g σ σ' b A env s Q E ok hA H T hE I hm hQ hX
 obtain ⟨x, σ₁, e1, e2⟩ := PM.bd_some hm
 obtain ⟨y, σ₂, e2, e3⟩ := PM.bd_some e2
 obtain ⟨e3, rfl⟩ := PM.of_some e3
 refine Subscript_ (hv G K g σ σ₁ x A env s _ E ok hA hE I e1 fun g1 a s1 l1 I1 r1 => hsl G K g1 σ₁ _ y A env s1 _ E ok hA (hE.le l1) I1 e2 fun g2 b' s2 l2 I2 r2 => ?_)
 obtain ⟨xs, i, ea, rfl, h0, hl, hi, hr⟩ := itemX_inv e3
 obtain ⟨l, vs, n, rfl, ho, hrv⟩ := I2.isL (Gh.rv_le l2 r1) ea
 obtain ⟨u, rfl⟩ := zw.mp r2
 have hil := zy ho
 have hlen := hrv.length
 refine tail_any hil.typeIs PySem.slot_list_getitem.lookup ?_ (hs _ _)
 rcases hr with ⟨x, ex, rfl⟩ | ⟨hout, rfl⟩
 ·obtain ⟨v, e4, e5⟩ := hrv.get ex
  exact wpAny_getItem_list hil h0 (by omega) (by simpa using e4) (hQ x g2 v s2 rfl (l1.trans l2) I2 e5)
 ·exact getItem_out (k := i.toNat) H.ok I2 hil (by omega) (by simp; omega) (by omega) fun s' e c I' X hc => hX true g2 e c s' rfl (l1.trans l2) I' (.inl X) fun _ => hc
noncomputable def xcmpM (f : St -> AV -> AV -> Option Bool) (mx : XM AV) (mr : PM AV) : XM Bool := PM.bd mx fun a => match a with
 | .ex cl => PM.ok (.ex cl)
 | .ok a => PM.bd mr fun b => PM.of fun σ => (f σ a b).map .ok
theorem xT_cmp {l r : Expr} {op : CmpOp} {pos : Pos} {ml : XM AV} {mr : PM AV} {f : St -> AV -> AV -> Option Bool} (hl : SEX q V l ml) (hr : SE V 0 r mr) (ho : Cmp 0 op f) (hm' : behindInMarks op r = false) : STX q V (.Compare l [op] [r] pos) (xcmpM f ml mr) := by
 intro G K g σ σ' b A env s Q E ok hA H T hE I hm hQ hX
 obtain ⟨x, σ₁, e1, e2⟩ := PM.bd_some hm
 refine wpAny_isTrue_Compare1 (hl G K g σ σ₁ x A env s _ E ok hA H T hE I e1 (fun y g1 a s1 hy l1 I1 r1 => ?_) fun cl g1 e c s1 hy l1 I1 X hc => ?_) hm'
 ·subst hy
  obtain ⟨z, σ₂, e2, e3⟩ := PM.bd_some e2
  obtain ⟨e3, rfl⟩ := PM.of_some e3
  obtain ⟨t, e4, e5⟩ := Option.map_eq_some_iff.mp e3
  refine hr G K g1 σ₁ _ z A env s1 _ E ok hA (hE.le l1) I1 e2 fun g2 b' s2 l2 I2 r2 => ho G K g2 _ y z _ a b' A s2 _ E ok hA I2 (Gh.rv_le l2 r1) r2 (by show Option.map _ (f _ y z) = _; rw [e4]; rfl) fun g3 v' s3 l3 I3 r3 => ?_
  rw [yD.mp r3]
  exact wpAny_truthy_bool (hQ t g3 t s3 e5.symm ((l1.trans l2).trans l3) I3 rfl)
 ·subst hy
  cases e2
  exact hX cl g1 e c s1 rfl l1 I1 X hc
noncomputable def xsetVM (i : Nat) (mx : XM AV) : XM FL := PM.bd mx fun a => match a with
 | .ex cl => PM.ok (.ex cl)
 | .ok v => PM.bd (putV i v) fun _ => PM.ok (.ok .next)
theorem xS_assign {x : Str} {i : Nat} {p pos : Pos} {e : Expr} {m : XM AV} (hx : (x, i) ∈ V.nm) (he : SEX q V e m) (hs : ∀ env, swapsWith e (some (.Name x p)) pos.line env = pure false) : SSX q V (.Assign [.Name x p] e pos) (xsetVM i m) := by
 intro G K g σ σ' b A env s Q E ok hA H T hE I hm hQ hX
 obtain ⟨y, σ₁, e1, e2⟩ := PM.bd_some hm
 refine wpAny_Assign_Name (he G K g σ σ₁ y A env s _ E ok hA H T hE I e1 (fun y g1 a s1 hy l1 I1 r1 => ?_) fun cl g1 e c s1 hy l1 I1 X hc => ?_) (hs env)
 ·subst hy
  cases e2
  exact XW hx (hE.le l1) I1 r1 fun s2 I2 => hQ .next g1 _ s2 rfl l1 I2 rfl
 ·subst hy
  cases e2
  exact hX cl g1 e c s1 rfl l1 I1 X hc
theorem Ys : SBX q V [] (PM.ok (.ok .next)) := by
 intro G K g σ σ' b A env s Q E ok hA H T hE I hm hQ hX
 cases hm
 exact wpAny_execs_nil (hQ .next g _ s rfl g.le_refl I rfl)
noncomputable def yP (m r : XM FL) : XM FL := PM.bd m fun f => match f with
 | .ok .next => r
 | f => PM.ok f
theorem zZ {st : Stmt} {rest : List Stmt} {m r : XM FL} (h1 : SSX q V st m) (h2 : SBX q V rest r) : SBX q V (st :: rest) (yP m r) := by
 intro G K g σ σ' b A env s Q E ok hA H T hE I hm hQ hX
 obtain ⟨f, σ₁, e1, e2⟩ := PM.bd_some hm
 refine wpAny_execs_cons (h1 G K g σ σ₁ f A env s _ E ok hA H T hE I e1 (fun y g1 a s1 hy l1 I1 r1 => ?_) fun cl g1 e c s1 hy l1 I1 X hc => ?_)
 ·subst hy
  cases y with
  | next =>
   cases r1
   exact h2 G K g1 σ₁ σ' b A env s1 Q E ok hA H T (hE.le l1) I1 e2 (fun y g2 a s2 hy l2 I2 r2 => hQ y g2 a s2 hy (l1.trans l2) I2 r2) fun cl g2 e c s2 hy l2 I2 X hc => hX cl g2 e c s2 hy (l1.trans l2) I2 X hc
  | brk => cases r1; cases e2; exact hQ .brk g1 _ s1 rfl l1 I1 rfl
  | cont => cases r1; cases e2; exact hQ .cont g1 _ s1 rfl l1 I1 rfl
  | ret v => obtain ⟨v', rfl, hv⟩ := r1; cases e2; exact hQ (.ret v) g1 _ s1 rfl l1 I1 ⟨v', rfl, hv⟩
 ·subst hy
  cases e2
  exact hX cl g1 e c s1 rfl l1 I1 X hc
noncomputable def xiteM (c : PM Bool) (a b : XM FL) : XM FL := PM.bd c fun x => match x with | true => a | false => b
theorem xS_if {test : Expr} {body orelse : List Stmt} {pos : Pos} {c : PM Bool} {a b : XM FL} (hc : ST V 0 test c) (ha : SBX q V body a) (hb : SBX q V orelse b) : SSX q V (.If test body orelse pos) (xiteM c a b) := by
 intro G K g σ σ' r A env s Q E ok hA H T hE I hm hQ hX
 obtain ⟨x, σ₁, e1, e2⟩ := PM.bd_some hm
 refine wpAny_If (hc G K g σ σ₁ x A env s _ E ok hA hE I e1 fun g1 a' s1 l1 I1 r1 => ?_)
 subst r1
 cases a' with
 | true => exact ha G K g1 σ₁ σ' r A env s1 Q E ok hA H T (hE.le l1) I1 e2 (fun y g2 a s2 hy l2 I2 r2 => hQ y g2 a s2 hy (l1.trans l2) I2 r2) fun cl g2 e c s2 hy l2 I2 X hc => hX cl g2 e c s2 hy (l1.trans l2) I2 X hc
 | false => exact hb G K g1 σ₁ σ' r A env s1 Q E ok hA H T (hE.le l1) I1 e2 (fun y g2 a s2 hy l2 I2 r2 => hQ y g2 a s2 hy (l1.trans l2) I2 r2) fun cl g2 e c s2 hy l2 I2 X hc => hX cl g2 e c s2 hy (l1.trans l2) I2 X hc
noncomputable def yI (c : XM Bool) (b : XM FL) : Nat -> XM FL
 | 0 => fun _ => Option.none
 | n + 1 => PM.bd c fun x => match x with
  | .ex cl => PM.ok (.ex cl)
  | .ok false => PM.ok (.ok .next)
  | .ok true => PM.bd b fun f => match f with
   | .ok .next => yI c b n
   | .ok .cont => yI c b n
   | .ok .brk => PM.ok (.ok .next)
   | .ok (.ret v) => PM.ok (.ok (.ret v))
   | .ex cl => PM.ok (.ex cl)
inductive XwInv {β : Type} (G : GC) (K : Kx) (g : Gh) (f : Nat -> PM β) (σ' : St) (r : β) (k : Nat) (s' : Shared) : Prop
 | mk (g' : Gh) (σ₁ : St) (h1 : g.le g') (h2 : Wf G K g' σ₁ s') (h3 : f k σ₁ = some (r, σ'))
theorem QQ {test : Expr} {body : List Stmt} {pos : Pos} {c : XM Bool} {b : XM FL} (hc : STX q V test c) (hb : SBX q V body b) (n : Nat) : SSX q V (.While test body [] pos) (yI c b n) := by
 intro G K g σ σ' r A env s Q E ok hA H T hE I hm hQ hX
 refine wpAny_While ?_
 refine codeAny_whileLoop (XwInv G K g (yI c b) σ' r) ?_ n ⟨g, σ, g.le_refl, I, hm⟩
 rintro k s' ⟨g', σ₁, hle, I', hk⟩
 have out : ∀ cl g2 e c s2, r = .ex cl -> g.le g2 -> Wf G K g2 σ' s2 -> Exc G K g2 s2.heap e c -> (cl = true -> A.handled = Option.none -> c = .none) ->
   notedBy (model G.prog G.w) A env (fun e s' => cameBackBy (model G.prog G.w) A env E e s') (.ref e) s2 := fun cl g2 e c s2 hr l2 I2 X hc =>
  passes T hA I2 X rfl fun s3 I3 X3 => hX cl g2 e c s3 hr l2 I3 (.inr X3) hc
 cases k with
 | zero => cases hk
 | succ k =>
  obtain ⟨x, σ₂, e1, e2⟩ := PM.bd_some hk
  refine hc G K g' σ₁ σ₂ x A env s' _ _ ok hA H T (hE.le hle) I' e1 (fun y g2 a s2 hy l2 I2 r2 => ?_) fun cl g2 e c s2 hy l2 I2 X hc => ?_
  ·subst hy r2
   cases a with
   | false =>
    cases e2
    exact wpAny_execs_nil (hQ .next g2 _ s2 rfl (hle.trans l2) I2 rfl)
   | true =>
    obtain ⟨f, σ₃, e2, e3⟩ := PM.bd_some e2
    refine hb G K g2 σ₂ σ₃ f A env s2 _ _ ok hA H T (hE.le (hle.trans l2)) I2 e2 (fun y g3 fl s3 hy l3 I3 r3 => ?_) fun cl g3 e c s3 hy l3 I3 X hc => ?_
    ·subst hy
     cases y with
     | next => cases r3; exact ⟨k, Nat.lt_succ_self k, g3, σ₃, (hle.trans l2).trans l3, I3, e3⟩
     | cont => cases r3; exact ⟨k, Nat.lt_succ_self k, g3, σ₃, (hle.trans l2).trans l3, I3, e3⟩
     | brk => cases r3; cases e3; exact hQ .next g3 _ s3 rfl ((hle.trans l2).trans l3) I3 rfl
     | ret v => obtain ⟨v', rfl, hv⟩ := r3; cases e3; exact hQ (.ret v) g3 _ s3 rfl ((hle.trans l2).trans l3) I3 ⟨v', rfl, hv⟩
    ·subst hy
     cases e3
     exact out cl g3 e c s3 rfl ((hle.trans l2).trans l3) I3 X hc
  ·subst hy
   cases e2
   exact out cl g2 e c s2 rfl (hle.trans l2) I2 X hc
end
section
variable {G : GC} {K : Kx} {g g' : Gh} {σ σ' : St} {s s' : Shared} {e : Addr} {c fl : Value} {A : Around} {h : Nat}
theorem ExT.hold (X : ExT G K g s.heap e c fl) (I : Wf G K g σ s) : ∃ T, Off G [e, T] K g /\ Wf G (Hold K [e, T] s.heap) g σ s /\ (∃ o vs, (Hold K [e, T] s.heap).f e o /\ o.data = .fields vs /\ vs[2]? = some c) /\
  (∀ g' σ' s', Wf G (Hold K [e, T] s.heap) g' σ' s' -> Wf G K g' σ' s' /\ ExT G K g' s'.heap e c fl) := by
 obtain ⟨vs, T, oT, ts, O, ⟨⟨ob, he, hcls, hd⟩, a0, h0⟩, h1, h2, hTe, hT, hdT, h3⟩ := X.ex
 have own : ∀ b ∈ [e, T], ∃ o, s.heap.get? b = some o /\ ¬ ZX o := fun b hb => by
  simp only [List.mem_cons, List.not_mem_nil, or_false] at hb
  rcases hb with rfl | rfl
  ·exact ⟨_, he, not_dctF hd⟩
  ·exact ⟨_, hT, not_dctF hdT⟩
 refine ⟨T, O, I.hold O, ⟨ob, vs, .inr ⟨by simp, he⟩, hd, h2⟩, fun g' σ' s' I' => ?_⟩
 obtain ⟨I2, O2, k2⟩ := I'.unhold (own_has own) O.K
 have k3 := own_ex own k2
 exact ⟨I2, vs, T, oT, ts, O2, ⟨⟨ob, k3 e (by simp) _ he, hcls, hd⟩, a0, h0⟩, h1, h2, hTe, k3 T (by simp) _ hT, hdT, h3⟩
theorem AOk.mark0 (hA : AOk h A K) (v : Option Value) : AOk 0 (A.mark v) K := ⟨fun q => absurd q (by decide), by have := hA.depth; show A.depth + 0 <= 600; omega, by have := hA.units; show A.units + 10 * 0 <= 9000; omega, hA.frames⟩
theorem Exc.unhold {wr : List Addr} {h₁ : Heap} (X : Exc G (Hold K wr h₁) g s.heap e c) : Exc G K g s.heap e c := by
 have sub : ∀ {w : List Addr}, Off G w (Hold K wr h₁) g -> Off G w K g := fun O => ⟨O.B, fun b hb o k => O.K b hb o (.inl k), O.ρ, O.vl, O.P⟩
 rcases X with ⟨O, ex⟩ | ⟨vs, T, oT, ts, O, r⟩
 ·exact .inl ⟨sub O, ex⟩
 ·exact .inr ⟨vs, T, oT, ts, sub O, r⟩
end
section
variable {V : Vis}
noncomputable def xfinM (body final : XM FL) : XM FL := PM.bd body fun f => match f with
 | .ex false => fun _ => Option.none
 | f => PM.bd final fun g => match g with
  | .ok .next => PM.ok f
  | .ex _ => PM.ok (.ex false)
  | g => PM.ok g
theorem xS_finally {body : List Stmt} {f0 : Stmt} {fs : List Stmt} {pos : Pos} {mb mf : XM FL} (hb : SBX true V body mb) (hf : SBX false V (f0 :: fs) mf) : SSX true V (.Try body [] [] (f0 :: fs) pos) (xfinM mb mf) := by
 intro G K g σ σ' r A env s Q E ok hA H T hE I hm hQ hX
 obtain ⟨f, σ₁, e1, e2⟩ := PM.bd_some hm
 have hk40 := T.frame hA; obtain ⟨rr, hfr, F, hfL⟩ := hk40
 have H' : HOk A K := .inl H
 -- the suite behind, where nothing is on its way
 have plain : ∀ (y : FL) (a : Flow) (g1 : Gh) (s1 : Shared), f = .ok y -> g.le g1 -> Wf G K g1 σ₁ s1 -> FLr g1 y a ->
   wpAny (model G.prog G.w) A (execs (f0 :: fs) env) (fun g s' => match g with | .next => Q a s' | g => Q g s') (notedBy (model G.prog G.w) A env (cameBackBy (model G.prog G.w) A env E)) s1 := by
  intro y a g1 s1 hy l1 I1 r1
  subst hy
  obtain ⟨z, σ₂, e3, e4⟩ := PM.bd_some e2
  refine hf G K g1 σ₁ σ₂ z A env s1 _ _ ok hA H' T (hE.le l1) I1 e3 (fun w g2 b s2 hz l2 I2 r2 => ?_) fun cl g2 e c s2 hz l2 I2 X hc => ?_
  ·subst hz
   cases w with
   | next =>
    cases r2; cases e4
    refine hQ y g2 a s2 rfl (l1.trans l2) I2 ?_
    cases y with
    | ret v => obtain ⟨v', rfl, hv⟩ := r1; exact ⟨v', rfl, Gh.rv_le l2 hv⟩
    | _ => exact r1
   | brk => cases r2; cases e4; exact hQ .brk g2 _ s2 rfl (l1.trans l2) I2 rfl
   | cont => cases r2; cases e4; exact hQ .cont g2 _ s2 rfl (l1.trans l2) I2 rfl
   | ret v => obtain ⟨v', rfl, hv⟩ := r2; cases e4; exact hQ (.ret v) g2 _ s2 rfl (l1.trans l2) I2 ⟨v', rfl, hv⟩
  ·subst hz
   cases e4
   exact passes T hA I2 X rfl fun s3 I3 X3 => hX false g2 e c s3 rfl (l1.trans l2) I3 (.inr X3) fun q => by cases q
 -- the suite behind, where one is
 have raised : ∀ (g1 : Gh) (e : Addr) (s1 : Shared), f = .ex true -> g.le g1 -> Wf G K g1 σ₁ s1 -> ExT G K g1 s1.heap e .none (rawInt K.L) -> FinallyRaised G.prog G.w A E env (f0 :: fs) Q (.ref e) s1 := by
  intro g1 e s1 hy l1 I1 X1
  subst hy
  obtain ⟨z, σ₂, e3, e4⟩ := PM.bd_some e2
  refine ⟨ref_ne_byPass e, note1 hfL X1 (zab I1 X1 Option.none fun s2 I2 X2 => ?_)⟩
  obtain ⟨T', O, I3, ⟨o, vs, k1, k2, k3⟩, back⟩ := X2.hold I2
  refine hf G _ g1 σ₁ σ₂ z (A.mark (some (.ref e))) env s2 _ _ ok (hA.mark0 _).hold (.inr ⟨e, o, vs, rfl, k1, k2, k3⟩) T (hE.le l1) I3 e3 (fun w g2 b s3 hz l2 I4 r2 => ?_) fun cl g2 e' c s3 hz l2 I4 X hc => ?_
  ·subst hz
   obtain ⟨I5, X5⟩ := back _ _ _ I4
   cases w with
   | next =>
    cases r2; cases e4
    show wpAny _ A (PySem.passOn "try.finally" (.ref e) env) Q E s3
    obtain ⟨vs, T, oT, ts, O, ⟨⟨ob, he, hcls, hd⟩, a0, h0⟩, h1, h2, hTe, hT, hdT, h3⟩ := id X5.ex
    unfold PySem.passOn
    refine wpAny_bind (wpAny_field he hd h1 ?_)
    rw [if_neg (show ¬ ((Value.ref T == Value.none) = true) from by simp)]
    refine wpAny_bind (zab I5 X5 env.frame fun s6 I6 X6 => wpAny_throw ?_)
    rw [hfL] at X6
    exact hX true g2 e .none s6 rfl (l1.trans l2) I6 (.inr X6) fun _ _ => rfl
   | brk => cases r2; cases e4; exact zab I5 X5 Option.none fun s6 I6 X6 => hQ .brk g2 _ s6 rfl (l1.trans l2) I6 rfl
   | cont => cases r2; cases e4; exact zab I5 X5 Option.none fun s6 I6 X6 => hQ .cont g2 _ s6 rfl (l1.trans l2) I6 rfl
   | ret v => obtain ⟨v', rfl, hv⟩ := r2; cases e4; exact zab I5 X5 Option.none fun s6 I6 X6 => hQ (.ret v) g2 _ s6 rfl (l1.trans l2) I6 ⟨v', rfl, hv⟩
  ·subst hz
   cases e4
   obtain ⟨I5, _⟩ := back _ _ _ I4
   have T' : Tie (A.mark (some (.ref e))) env := T
   exact passes (A' := A) T' (hA.mark0 _) I5 X.unhold rfl fun s6 I6 X6 => hX false g2 e' c s6 rfl (l1.trans l2) I6 (.inr X6) fun q => by cases q
 refine wpAny_Try_finally (hb G K g σ σ₁ f A env s _ _ ok hA H T hE I e1 (fun y g1 a s1 hy l1 I1 r1 => ?_) fun cl g1 e c s1 hy l1 I1 X hc => ?_)
 ·cases y with
  | next => cases r1; exact wpAny_execs_nil (plain .next .next g1 s1 hy l1 I1 rfl)
  | brk => cases r1; exact plain .brk .brk g1 s1 hy l1 I1 rfl
  | cont => cases r1; exact plain .cont .cont g1 s1 hy l1 I1 rfl
  | ret v => obtain ⟨v', rfl, hv⟩ := r1; exact plain (.ret v) (.ret v') g1 s1 hy l1 I1 ⟨v', rfl, hv⟩
 ·subst hy
  cases cl with
  | false => cases e2
  | true =>
   refine note T hA I1 X fun s2 I2 X2 => ?_
   have hc' : c = .none := hc rfl H
   subst hc'
   exact raised g1 e s2 rfl l1 I2 X2
noncomputable def xtryM (body : XM FL) (hd : PM FL) : XM FL := PM.bd body fun f => match f with
 | .ex _ => xl hd
 | f => PM.ok f
theorem xS_try {body : List Stmt} {b₀ : Stmt} {suite : List Stmt} {p hp pos : Pos} {mb : XM FL} {mh : PM FL} (hi : Str.ofString "IndexError" ∈ V.gl) (hb : SBX true V body mb) (hh : SB V 0 (b₀ :: suite) mh) :
  SSX true V (.Try body [.ExceptHandler (some (.Name (Str.ofString "IndexError") p)) Option.none (b₀ :: suite) hp] [] [] pos) (xtryM mb mh) := by
 intro G K g σ σ' r A env s Q E ok hA H T hE I hm hQ hX
 obtain ⟨f, σ₁, e1, e2⟩ := PM.bd_some hm
 have hk115 := T.frame hA; obtain ⟨rr, hfr, F, hfL⟩ := hk115
 refine wpAny_Try_except (hb G K g σ σ₁ f A env s _ _ ok hA H T hE I e1 (fun y g1 a s1 hy l1 I1 r1 => ?_) fun cl g1 e c s1 hy l1 I1 X hc => ?_)
 ·subst hy
  cases e2
  cases y with
  | next => cases r1; exact wpAny_execs_nil (hQ .next g1 _ s1 rfl l1 I1 rfl)
  | brk => cases r1; exact hQ .brk g1 _ s1 rfl l1 I1 rfl
  | cont => cases r1; exact hQ .cont g1 _ s1 rfl l1 I1 rfl
  | ret v => obtain ⟨v', rfl, hv⟩ := r1; exact hQ (.ret v) g1 _ s1 rfl l1 I1 ⟨v', rfl, hv⟩
 ·subst hy
  obtain ⟨y, σ₂, e3, e4⟩ := PM.bd_some e2
  cases e4
  refine note T hA I1 X fun s2 I2 X2 => zab I2 X2 Option.none fun s3 I3 X3 => ?_
  refine wpAny_handleBy_builtin (X := "IndexError") (T := "IndexError") (b := true) (isSubtype_of_subB (by decide +kernel)) (isSubtype_of_subB (by decide +kernel)) (isSubtype_of_subB (by decide +kernel)) ?_
  refine YN ok (hE.le l1) I3 hi (by decide) (bv := .type "IndexError") (by decide +kernel) (by decide +kernel) (by decide) ?_
  obtain ⟨vs, T', oT, ts, O, ⟨⟨ob, he, hcls, hd⟩, a0, h0⟩, h1, h2, hTe, hT, hdT, h3⟩ := id X3.ex
  refine ⟨rfl, ⟨ob, he, hcls⟩, ?_⟩
  rw [if_pos rfl]
  refine zab I3 X3 Option.none fun s4 I4 X4 => ?_
  exact hh G K g1 σ₁ _ y (A.mark (some (.ref e))) env s4 _ _ ok (hA.mark0 _) (hE.le l1) I4 e3 fun g2 a s5 l2 I5 r2 => hQ y g2 a s5 rfl (l1.trans l2) I5 r2
noncomputable def xfnM (m : XM FL) : PM FL := PM.bd m fun f => match f with
 | .ok f => PM.ok f
 | .ex _ => fun _ => Option.none
theorem x_fn {sts : List Stmt} {m : XM FL} (hx : SBX true V sts m) {h : Nat} (h1 : 0 < h := by decide) : SBt V h sts (xfnM m) := by
 intro G K g σ σ' b A env s Q E ok hA T hE I hm hQ
 obtain ⟨y, σ₁, e1, e2⟩ := PM.bd_some hm
 refine hx G K g σ σ₁ y A env s Q E ok (hA.le (Nat.zero_le _)) (hA.handled h1) T hE I e1 (fun z g' a s' hy l I' r => ?_) fun cl g' e c s' hy l I' X hc => ?_
 ·subst hy; cases e2; exact hQ g' a s' l I' r
 ·subst hy; cases e2
end
theorem plainAttrs_rePattern : PlainAttrs "re.Pattern" :=
 ⟨⟨"object.__getattribute__", by rw [typeLookup_type, builtinLookup_eq_fast]; kernel_rfl, by decide +kernel⟩, by rw [typeLookup_type, builtinLookup_eq_fast]; kernel_rfl⟩
theorem slot_re_sub : Slot "re.Pattern" "sub" "re.Pattern.sub" :=
 .of (owner := "re.Pattern") (n := "sub") (by rw [typeLookup_type, builtinLookup_eq_fast]; kernel_rfl) (by decide +kernel) (by decide +kernel) (by decide +kernel)
  (by first | exact .inl (by decide +kernel) | exact .inr (by decide +kernel)) (by rw [isSubtype_type]; kernel_rfl)
theorem type_re_sub : typeOf (.builtin "re.Pattern.sub") = pure (.type "method_descriptor") := by show builtinType _ = _; rw [builtinType_eq_fast]; kernel_rfl
theorem entry_re_sub : entryFor table "re.Pattern.sub" = some Builtin.«re.Pattern.sub» := entryFor_of_tree (by kernel_rfl)
theorem args_re_sub (a b c : Value) : argsOk "re.Pattern.sub" ⟨[a, b, c], []⟩ := by unfold argsOk; kernel_rfl
theorem entry_re_loop : entryFor table "re.Pattern.sub.loop" = some Builtin.«re.Pattern.sub.loop» := entryFor_of_tree (by kernel_rfl)
theorem XY : plainId "re.Pattern.sub.loop" = true := by decide +kernel
theorem plainAttrs_reMatch : PlainAttrs "re.Match" :=
 ⟨⟨"object.__getattribute__", by rw [typeLookup_type, builtinLookup_eq_fast]; kernel_rfl, by decide +kernel⟩, by rw [typeLookup_type, builtinLookup_eq_fast]; kernel_rfl⟩
theorem slot_re_group : Slot "re.Match" "group" "re.Match.group" :=
 .of (owner := "re.Match") (n := "group") (by rw [typeLookup_type, builtinLookup_eq_fast]; kernel_rfl) (by decide +kernel) (by decide +kernel) (by decide +kernel)
  (by first | exact .inl (by decide +kernel) | exact .inr (by decide +kernel)) (by rw [isSubtype_type]; kernel_rfl)
theorem type_re_group : typeOf (.builtin "re.Match.group") = pure (.type "method_descriptor") := by show builtinType _ = _; rw [builtinType_eq_fast]; kernel_rfl
theorem entry_re_group : entryFor table "re.Match.group" = some Builtin.«re.Match.group» := entryFor_of_tree (by kernel_rfl)
theorem args_re_group (a b : Value) : argsOk "re.Match.group" ⟨[a, b], []⟩ := by unfold argsOk; kernel_rfl
theorem fn_call : typeLookup (.type "function") "__call__" = pure (some (.builtin "function.__call__")) := by rw [typeLookup_type, builtinLookup_eq_fast]; kernel_rfl
theorem str_bytearray : isSubtype (.type "str") (.type "bytearray") = pure false := by rw [isSubtype_type]; kernel_rfl
noncomputable def driveN : Nat -> Sre.M -> Option Sre.M
 | 0, _ => Option.none
 | k + 1, m => if (m.runFor Builtin.Re.reTurnSteps).outcome.isSome then some (m.runFor Builtin.Re.reTurnSteps) else driveN k (m.runFor Builtin.Re.reTurnSteps)
section
variable {M : Model} {A : Around} {E : Value -> Shared -> Prop} {s : Shared}
theorem wp_reDrive : ∀ (k n : Nat) (m m' : Sre.M) (Q : Sre.M -> Shared -> Prop), k <= n -> driveN k m = some m' -> Q m' s -> wpAny M A (Builtin.Re.reDrive n m) Q E s
 | 0, _, _, _, _, _, h, _ => by cases h
 | k + 1, 0, _, _, _, hk, _, _ => by omega
 | k + 1, n + 1, m, m', Q, hk, h, hq => by
  unfold Builtin.Re.reDrive
  unfold driveN at h
  dsimp only
  by_cases ho : (m.runFor Builtin.Re.reTurnSteps).outcome.isSome = true
  ·rw [if_pos ho] at h ⊢
   cases h
   exact wpAny_pure hq
  ·rw [if_neg ho] at h ⊢
   exact wpAny_bind (wpAny_rule (wp_reDrive k n _ m' Q (by omega) h hq))
noncomputable def searchN (m : Sre.M) : Option (Option Sre.M) := (driveN 64 m).bind fun m' => m'.outcome.bind fun o => match o with
  | .matched => some (some m')
  | .failed => some Option.none
  | .stuck _ => Option.none
theorem wp_seen {m : Sre.M} {Q : PUnit -> Shared -> Prop} (hq : Q ⟨⟩ s) : ∀ l : List Nat, wpAny M A (forIn l PUnit.unit fun i r => if m.seen.has i = true then do rule (Sre.names.getD i ""); pure (ForInStep.yield PUnit.unit) else pure (ForInStep.yield PUnit.unit)) Q E s
 | [] => by rw [List.forIn_nil]; exact wpAny_pure hq
 | i :: l => by
  rw [List.forIn_cons]
  by_cases h : m.seen.has i = true
  ·rw [if_pos h]
   exact wpAny_bind (wpAny_bind (wpAny_rule (wpAny_pure (wp_seen hq l))))
  ·rw [if_neg h]
   exact wpAny_bind (wpAny_pure (wp_seen hq l))
theorem wp_reRun {m : Sre.M} {r : Option Sre.M} {Q : Option Sre.M -> Shared -> Prop} (h : searchN m = some r) (hq : Q r s) : wpAny M A (Builtin.Re.reRunToEnd m) Q E s := by
 obtain ⟨m', e, h⟩ := bS h
 obtain ⟨o, e2, h⟩ := bS h
 unfold Builtin.Re.reRunToEnd
 refine wpAny_bind (wp_reDrive 64 _ m m' _ (by decide) e ?_)
 refine wpAny_bind (wp_seen ?_ _)
 rw [e2]
 cases o with
 | matched => exact wpAny_pure (Option.some.inj h ▸ hq)
 | failed => exact wpAny_pure (Option.some.inj h ▸ hq)
 | stuck _ => exact nn h
end
open PySem.AutoSeq1 (wpAny_loadPart')
noncomputable def Qz (pattern : Value) (l : List Nat) (tl : Tok) (lim : Nat) (li : Int) (T : Addr) : Obj := { cls := .type "re.Match", data := .fields #[.str ⟨l.toArray⟩ tl, pattern, rawInt (0 : Nat), rawInt lim, rawInt li, .ref T] }
noncomputable def Qs (a b c d : Nat) : Obj := { cls := .type "tuple", data := .seq #[rawInt a, rawInt b, rawInt c, rawInt d] }
noncomputable def zN (l : List Nat) (b e : Nat) : List Nat := (l.take e).drop b
theorem extract_slice (l : List Nat) (b e : Nat) : (l.toArray.extract b e) = (zN l b e).toArray := by
 apply Array.ext'
 simp [zN]
 try rw [List.drop_take]
theorem sliceN_len (l : List Nat) (b e : Nat) : (zN l b e).length <= l.length := by unfold zN; rw [List.length_drop, List.length_take]; omega
section
variable {prog : Program} {w : World} {A : Around} {E : Value -> Shared -> Prop} {s : Shared}
theorem zbo {l : List Nat} {b e : Nat} {Q : Value -> Shared -> Prop} (hl : l.length <= 100000) (hq : Q (.str ⟨(zN l b e).toArray⟩ s.toks) { s with toks := s.toks + 1 }) :
  wpAny (model prog w) A (Builtin.Re.reSlice l.toArray 0 b e) Q E s := by
 unfold Builtin.Re.reSlice
 rw [if_pos (show ((0 : Nat) == 0) = true from rfl), extract_slice]
 exact wpAny_mkStr hq (by show (zN l b e).toArray.size <= sizeLine; rw [List.size_toArray, sizeLine_eq]; have := sliceN_len l b e; omega)
theorem meets_group (mt T : Addr) (pattern : Value) (l : List Nat) (tl : Tok) (lim : Nat) (li : Int) (a b c d : Nat) (t : Tok) (hl : l.length <= 100000) :
  Meets (Builtin.«re.Match.group» ⟨[.ref mt, .int 1 t], []⟩) (fun _ R s => s.heap.get? mt = some (Qz pattern l tl lim li T) /\ s.heap.get? T = some (Qs a b c d) /\
   R (.ok (.ret (.str ⟨(zN l c d).toArray⟩ s.toks))) { s with toks := s.toks + 1 }) := by
 intro prog w A R s h
 obtain ⟨hp, g, d', tk, os⟩ := s
 obtain ⟨hm, hT, h⟩ := h
 unfold Qz at hm
 unfold Qs at hT
 wp_walk using wpAny_loadPart' hm, wpAny_loadPart' hT
 have e2 : ∀ (fs : Array Value), (Builtin.Re.ReFound.mk fs (Array.map Builtin.Re.reRawOf ((some #[rawInt (a : Int), rawInt (b : Int), rawInt (c : Int), rawInt (d : Int)]).getD #[]))).spans.getD (2 * Int.toNat 1) (-1) = (c : Int) := fun _ => by simp [Builtin.Re.reRawOf, rawInt]
 have e3 : ∀ (fs : Array Value), (Builtin.Re.ReFound.mk fs (Array.map Builtin.Re.reRawOf ((some #[rawInt (a : Int), rawInt (b : Int), rawInt (c : Int), rawInt (d : Int)]).getD #[]))).spans.getD (2 * Int.toNat 1 + 1) (-1) = (d : Int) := fun _ => by simp [Builtin.Re.reRawOf, rawInt]
 rw [e2, e3, if_neg (by simp)]
 refine wpAny_bind (wpAny_pure (wpAny_bind (wpAny_pure ?_)))
 have h1 : ((c : Int)).toNat = c := by simp
 have h2 : ((d : Int)).toNat = d := by simp
 rw [h1, h2]
 exact zbo hl (wpAny_pure h)
end
noncomputable def lamPs (p1 : Pos) : Arguments := { posonlyargs := [], args := [{ arg := "_m", annotation := Option.none, pos := p1 : Arg }], vararg := Option.none, kwonlyargs := [], kw_defaults := [], kwarg := Option.none, defaults := [] : Arguments }
noncomputable def lamSc : Scope := { kind := ScopeKind.function, names := [(Str.ofString "_m", NameKind.local)], isGenerator := false, isCoroutine := false, more := [] : Scope }
noncomputable def lamB (p2 p3 p4 p5 p6 p7 p8 p9 : Pos) : Expr := .BinOp (.Constant (.str "\\") 0 p2) .Add (.BoolOp .Or [.Call (.Attribute (.Name "_m" p3) "group" p4) [.Constant (.int 1) 0 p5] [] p6, .Constant (.str "") 0 p7] p8) p9
noncomputable def lamFd (p1 : Pos) (body : Expr) (pm cd : Value) : FuncData :=
 { name := "<lambda>", qualname := QE, params := lamPs p1, body := .expr body, scope := lamSc, globals := mainGlobals, closure := [], defaults := .none, kwdefaults := .none, doc := .none, pyModule := pm, annotations := Option.none, code := cd, closureTuple := .none, builtins := builtinsNs }
section
variable {prog : Program} {w : World} {A : Around} {E : Value -> Shared -> Prop} {s : Shared}
theorem call_exprFn {a : Addr} {args : Args} {o : Obj} {fd : FuncData} {body : Expr} {R : Result -> Shared -> Prop} (hroom : A.depth < recursionLimit) (ho : s.heap.get? a = some o)
  (hd' : o.data = .func fd) (hco : fd.scope.isCoroutine = false) (hgen : fd.scope.isGenerator = false) (hbody : fd.body = .expr body) (hcd : s.heap.CodeRec fd.code fd.qualname)
  (h : wpAny (model prog w) A.in1 (bindArgs fd args) (fun binds s₁ =>
   wpAny (model prog w) A.in1 (newFunctionEnv fd.scope fd.globals fd.closure binds (fd.qualname ++ ".<locals>.") (some a) fd.code Option.none fd.builtins)
    (fun env s₂ => s₂.heap.NoLimit /\ codeAny (model prog w) A (.expr body env) R s₂) (fun e s' => R (.error e) s') s₁) (fun e s' => R (.error e) s') s) :
  codeAny (model prog w) A (.call (.ref a) args) R s := by
 refine codeAny_of_tree ?_
 show wpAny _ A.in1 (callAny (.ref a) args) _ _ s
 simp only [callAny]
 refine wpAny_bind (wpAny_load ho ?_)
 obtain ⟨c, oc, vs, tq, hc, hoc, hdc, hq⟩ := hcd
 simp only [hd', callFunction, hco, hgen, hbody, hc]
 rw [hc] at h
 refine wpAny_bind (m := field (.ref c) 1) (wpAny_field hoc hdc hq (wpAny_bind (wpAny_pure ?_)))
 exact wpAny_bind (wpAny_mono h (fun binds s₁ h₁ => wpAny_bind (wpAny_mono h₁ (fun env s₂ h₂ => wpAny_bind (wpAny_enterFrame h₂.1 hroom (wpAny_pure (And.intro rfl h₂.2)))) fun _ _ h' => h')) fun _ _ h' => h')
theorem code_expr {e : Expr} {env : Env} {R : Result -> Shared -> Prop}
  (h : wpAny (model prog w) (A.deeper env) (eval e env) (fun v s' => R (.ok (.ret v)) s') (fun e' s' => wpAny (model prog w) (A.deeper env) (leaving env e') (fun _ s'' => R (.error e') s'') (fun e'' s'' => R (.error e'') s'') s') s) :
  codeAny (model prog w) A (.expr e env) R s := by
 refine codeAny_of_tree ?_
 show wpAny _ (A.deeper env) (do point; ret (<- (eval e env).onRaise (leaving env))) _ _ s
 exact wpAny_bind (wpAny_point (wpAny_bind (wpAny_onRaise (wpAny_mono h (fun v s' h' => wpAny_pure h') fun _ _ h' => h'))))
theorem lam_body {env : Env} {h₁ : Heap} {tk : Nat} {mt T : Addr} {p2 p3 p4 p5 p6 p7 p8 p9 : Pos} {pattern : Value} {l : List Nat} {tl : Tok} {lim a b c d : Nat} {li : Int} {Q : Value -> Shared -> Prop} (hline : (p4.endLine == p6.line) = true)
  (esk : env.scope.kind = .function) (ek : env.kindOf "_m" = some .local) (hns : h₁.Ns env.locals (fun x => ([((Str.ofString "_m"), Value.ref mt)] : List (Str × Value)).reverse.lookup x))
  (hm : h₁.get? mt = some (Qz pattern l tl lim li T)) (hT : h₁.get? T = some (Qs a b c d)) (hl : l.length <= 100000)
  (hQ : ∀ tk' t, tk <= tk' -> Q (.str ⟨(92 :: zN l c d).toArray⟩ t) { s with heap := h₁, toks := tk' }) :
  wpAny (model prog w) A (eval (lamB p2 p3 p4 p5 p6 p7 p8 p9) env) Q E { s with heap := h₁, toks := tk } := by
 have hsl := sliceN_len l c d
 have hsz : ¬ (((Str.mk (zN l c d).toArray).length : Nat) : Int) ≥ 2 ^ 63 := by show ¬ (((zN l c d).toArray.size : Nat) : Int) ≥ 2 ^ 63; simp; omega
 have e92 : ("\\" : Str) = ⟨[92].toArray⟩ := by decide +kernel
 have hadd : ∀ (tk1 : Nat) (t u : Tok) (x : List Nat), tk <= tk1 -> x = zN l c d -> wpAny (model prog w) A (binaryOp .Add (.str "\\" t) (.str ⟨x.toArray⟩ u)) Q E { s with heap := h₁, toks := tk1 } := by
  intro tk1 t u x htk hx
  subst hx
  refine wpAny_with_toks (n := tk1) (Nat.le_refl tk1) (PyProof.Rows.add_str (fun t' tk' (htk' : tk1 <= tk') => ?_) (by rw [e92]; show 1 + (zN l c d).toArray.size <= sizeLine; simp only [List.size_toArray, sizeLine_eq]; omega))
  rw [e92, Ye]
  exact hQ tk' t' (Nat.le_trans htk htk')
 unfold lamB
 refine wpAny_BinOp (wpAny_Constant_str (wpAny_Or2 (wpAny_Call_method_late rfl rfl hline rfl (wpAny_Name (wpAny_loadName_local esk ek hns (v := .ref mt) rfl ?_) (by decide)))))
 refine ⟨"re.Match", "re.Match.group", plainAttrs_reMatch, slot_re_group, type_re_group, ⟨_, hm, rfl⟩, (fun x e => by cases e; exact ⟨_, hm, rfl⟩), ?_⟩
 refine Calls.callWith_builtin rfl (evalArgs_plain (Calls.spliced_cons (wpAny_Constant_int (k := 0) (pos := p5) (Calls.spliced_nil ?_))))
 refine call_meets slot_re_group ⟨_, hm, rfl⟩ entry_re_group (args_re_group _ _) (meets_group mt T pattern l tl lim li a b c d _ hl) ⟨hm, hT, ?_⟩
 refine P.truthy_str hsz ?_
 by_cases h0 : (zN l c d).length = 0
 ·have he : zN l c d = [] := List.eq_nil_of_length_eq_zero h0
  have e1 : (((Str.mk (zN l c d).toArray).length : Int) != 0) = false := by show (((zN l c d).toArray.size : Int) != 0) = false; simp [h0]
  rw [e1]
  simp only [Bool.false_eq_true, if_false]
  refine wpAny_Constant_str ?_
  have e0 : ("" : Str) = ⟨([] : List Nat).toArray⟩ := by decide +kernel
  rw [e0]
  exact hadd _ _ _ [] (by first | exact Nat.le_add_right tk 2 | exact Nat.le_add_right tk 3 | exact Nat.le_add_right tk 4 | exact Nat.le_add_right tk 5 | exact Nat.le_add_right tk 6) he.symm
 ·have e1 : (((Str.mk (zN l c d).toArray).length : Int) != 0) = true := by show (((zN l c d).toArray.size : Int) != 0) = true; simp [h0]
  rw [e1, if_pos rfl]
  exact hadd _ _ _ _ (by first | exact Nat.le_add_right tk 2 | exact Nat.le_add_right tk 3 | exact Nat.le_add_right tk 4 | exact Nat.le_add_right tk 5 | exact Nat.le_add_right tk 6) rfl
theorem call_lam {f mt T : Addr} {o : Obj} {p1 p2 p3 p4 p5 p6 p7 p8 p9 : Pos} {pm cd pattern : Value} {l : List Nat} {tl : Tok} {lim a b c d : Nat} {li : Int} {Q : Value -> Shared -> Prop} (hroom : A.depth < recursionLimit) (hlim : s.heap.NoLimit)
  (ho : s.heap.get? f = some o) (hd : o.data = .func (lamFd p1 (lamB p2 p3 p4 p5 p6 p7 p8 p9) pm cd)) (hcd : s.heap.CodeRec cd QE) (hline : (p4.endLine == p6.line) = true)
  (hm : s.heap.get? mt = some (Qz pattern l tl lim li T)) (hT : s.heap.get? T = some (Qs a b c d)) (hl : l.length <= 100000)
  (hQ : ∀ h' tk t, (∀ b o, s.heap.get? b = some o -> h'.get? b = some o) -> s.toks <= tk -> Q (.str ⟨(92 :: zN l c d).toArray⟩ t) { s with heap := h', toks := tk }) :
  wpAny (model prog w) A (call (.ref f) [.ref mt]) Q E s := by
 refine wpAny_call (call_exprFn hroom ho hd rfl rfl rfl hcd ?_)
 refine wpAny_of_eq (a := [((Str.ofString "_m"), Value.ref mt)]) (by rfl) ?_
 refine wpAny_newFunctionEnv (by show ∀ x ∈ lamSc.names, x.2 ≠ .cell; decide) (by intro x hx; simp at hx; subst hx; rfl) (fun h₁ hns hsb => ?_) rfl
 have keep : ∀ b o, s.heap.get? b = some o -> h₁.get? b = some o := fun b o e => hsb.extBut b o (Nat.ne_of_lt (Heap.lt_size e)) (Heap.get?_push_of_some _ e)
 refine ⟨hlim.keeps keep, code_expr ?_⟩
 refine lam_body hline rfl rfl hns (keep _ _ hm) (keep _ _ hT) hl fun tk' t htk => ?_
 exact hQ _ _ _ keep (by have h2 : s.toks + 1 <= tk' := htk; omega)
end
noncomputable def grpF (m : Sre.M) : Option (Nat × Nat) := (m.marks.getD 0 Option.none).bind fun b => (m.marks.getD 1 Option.none).bind fun e => if (1 : Int) <= m.lastmark /\ b <= e then some (b, e) else Option.none
structure TwAt (h : Heap) (tw : Addr) : Prop where
 ex : ∃ o fs cl n, h.get? tw = some o /\ o.cls = .type "re.Pattern" /\ o.dict = Option.none /\ o.data = .fields fs /\ fs[2]? = some (rawInt 1) /\ fs[3]? = some .none /\ fs[5]? = some (.ref cl) /\ fs[6]? = some (rawInt 0) /\ h.get? cl = some (tupO (twCode.map fun (w : Nat) => rawInt w) n)
theorem tw_code : ((((Option.some (twCode.map fun (w : Nat) => rawInt w).toArray).getD #[]).map Builtin.Re.reRawOf).map (·.toNat)) = twCode.toArray := by decide +kernel
noncomputable def Qi (tw : Addr) (l : List Nat) (tl : Tok) : Builtin.Re.ReTarget := { pattern := .ref tw, string := .str ⟨l.toArray⟩ tl, code := twCode.toArray, text := l.toArray, kind := 0, groups := 1, pos := 0, lim := l.toArray.size }
section
variable {prog : Program} {w : World} {A : Around} {E : Value -> Shared -> Prop} {s : Shared}
theorem wp_whole {tw : Addr} {l : List Nat} {tl : Tok} {Q : Builtin.Re.ReTarget -> Shared -> Prop} (T : TwAt s.heap tw) (hq : Q (Qi tw l tl) s) : wpAny (model prog w) A (Builtin.Re.reWholeTarget (.ref tw) (.str ⟨l.toArray⟩ tl)) Q E s := by
 obtain ⟨o, fs, cl, n, ho, hc, hdi, hd, h2, h3, h5, h6, hcl⟩ := T.ex
 have g2 : fs.getD 2 .none = rawInt 1 := by rw [Array.getD_eq_getD_getElem?, h2]; rfl
 have g5 : fs.getD 5 .none = .ref cl := by rw [Array.getD_eq_getD_getElem?, h5]; rfl
 have g6 : fs.getD 6 .none = rawInt 0 := by rw [Array.getD_eq_getD_getElem?, h6]; rfl
 unfold Builtin.Re.reWholeTarget
 refine wpAny_bind (wpAny_fieldsOf ho hd ?_)
 refine wpAny_bind (wpAny_pure ?_)
 rw [g6]
 dsimp only
 rw [if_neg (by decide), if_neg (by decide)]
 refine wpAny_bind (wpAny_of_eq (a := ()) rfl ?_)
 rw [g5, g2]
 unfold Builtin.Re.reRawItems
 refine wpAny_bind (wpAny_bind (wpAny_seqItems hcl rfl (wpAny_pure (wpAny_pure ?_))))
 rw [tw_code]
 exact hq
theorem wp_newMatch {tw : Addr} {l : List Nat} {tl : Tok} {m : Sre.M} {b e : Nat} {Q : Value -> Shared -> Prop} (hg : grpF m = some (b, e))
  (hq : Q (.ref (s.heap.objs.size + 1)) { s with heap := (s.heap.push (Qs m.start m.handed b e)).push (Qz (.ref tw) l tl l.toArray.size m.lastindex s.heap.objs.size) }) :
  wpAny (model prog w) A (Builtin.Re.reNewMatch (.ref tw) (.str ⟨l.toArray⟩ tl) 1 0 l.toArray.size m) Q E s := by
 obtain ⟨b', hb, hg⟩ := bS hg
 obtain ⟨e', he, hg⟩ := bS hg
 obtain ⟨hc, hg⟩ := iS hg
 obtain ⟨rfl, rfl⟩ : b' = b /\ e' = e := Prod.mk.inj (Option.some.inj hg)
 unfold Builtin.Re.reNewMatch
 have h1 : ((2 * 0 + 1 : Nat) : Int) <= m.lastmark := hc.1
 have h2 : decide (e' < b') = false := by simp; omega
 simp -iota only [show List.range 1 = [0] from rfl, List.flatMap_cons, List.flatMap_nil, List.any_cons, List.any_nil, if_pos h1, Nat.mul_zero, Nat.zero_add, hb, he, Bool.or_false]
 dsimp only
 simp -iota only [h2, Bool.and_false, Bool.or_false, Bool.false_eq_true, if_false, List.append_nil]
 unfold newTuple newFields
 refine wpAny_bind (wpAny_newObj_type ?_ (by size_fits))
 exact wpAny_newObj_type (by have := hq; unfold Qs Qz at this; rw [Heap.size_push]; exact this) (by size_fits)
end
noncomputable def subGo : Nat -> List Nat -> Nat -> Nat -> Bool -> Option (List (List Nat))
 | 0, _, _, _, _ => Option.none
 | k + 1, l, done, start, must => match searchN (Sre.forSearch twCode.toArray l.toArray 1 start l.toArray.size must) with
  | Option.none => Option.none
  | some Option.none => some (if done < l.toArray.size then [zN l done l.toArray.size] else [])
  | some (some m) => match grpF m with
   | Option.none => Option.none
   | some (b, e) => (subGo k l m.handed m.handed (m.handed == m.start)).map fun r => (if done < m.start then [zN l done m.start] else []) ++ (92 :: zN l b e) :: r
structure LoopAt (h : Heap) (tw f D : Addr) (p1 p2 p3 p4 p5 p6 p7 p8 p9 : Pos) (pm cd : Value) : Prop where
 tw : TwAt h tw
 f : ∃ o, h.get? f = some o /\ o.data = .func (lamFd p1 (lamB p2 p3 p4 p5 p6 p7 p8 p9) pm cd)
 cd : h.CodeRec cd QE
 lim : h.NoLimit
theorem TwAt.keeps {h h' : Heap} {tw : Addr} (x : TwAt h tw) (k : ∀ b o, h.get? b = some o -> h'.get? b = some o) : TwAt h' tw := by
 obtain ⟨o, fs, cl, n, ho, hc, hdi, hd, h2, h3, h5, h6, hcl⟩ := x.ex
 exact ⟨o, fs, cl, n, k _ _ ho, hc, hdi, hd, h2, h3, h5, h6, k _ _ hcl⟩
theorem CodeRec.keeps' {h h' : Heap} {cd : Value} {q : Str} (x : h.CodeRec cd q) (k : ∀ b o, h.get? b = some o -> h'.get? b = some o) : h'.CodeRec cd q := by
 obtain ⟨c, oc, vs, t, e, hc, r⟩ := x
 exact ⟨c, oc, vs, t, e, k _ _ hc, r⟩
theorem LoopAt.keeps {h h' : Heap} {tw f D : Addr} {p1 p2 p3 p4 p5 p6 p7 p8 p9 : Pos} {pm cd : Value} (x : LoopAt h tw f D p1 p2 p3 p4 p5 p6 p7 p8 p9 pm cd) (k : ∀ b o, h.get? b = some o -> h'.get? b = some o) : LoopAt h' tw f D p1 p2 p3 p4 p5 p6 p7 p8 p9 pm cd :=
 ⟨x.tw.keeps k, let ⟨o, a, b⟩ := x.f; ⟨o, k _ _ a, b⟩, CodeRec.keeps' x.cd k, x.lim.keeps k⟩
section
variable {prog : Program} {w : World} {E : Value -> Shared -> Prop}
theorem wp_push {A : Around} {s : Shared} {D : Addr} {vs : List Value} {n : Nat} {v : Value} {Q : Unit -> Shared -> Prop} (hD : s.heap.get? D = some (zM vs n)) (hn : vs.length <= 100000)
  (hq : ∀ h' n', h'.get? D = some (zM (vs ++ [v]) n') -> Heap.SameBut D s.heap h' -> Q () { s with heap := h' }) : wpAny (model prog w) A (updateSeq D (·.push v)) Q E s := by
 refine wpAny_updateSeq hD rfl (hq _ (n + 1) ?_ (Heap.SameBut.update ..)) (hz := by rw [List.size_toArray, sizeLine_eq]; omega)
 have e1 : Obj.mapSeq (fun x => x.push v) (zM vs n) = zM (vs ++ [v]) (n + 1) := by simp [Obj.mapSeq, zM]
 rw [<- e1]
 exact Heap.get?_update_self _ hD (by rw [e1]; rfl)
theorem joinL_flat : ∀ (ps : List (List Nat)), ZB [] ps = ps.flatten
 | [] => rfl
 | x :: r => by
  show r.foldl (fun acc p => acc ++ [] ++ p) x = x ++ r.flatten
  induction r generalizing x with
  | nil => simp
  | cons y r ih =>
   simp only [List.foldl_cons, List.append_nil, List.flatten_cons] at ih ⊢
   rw [ih]; simp
theorem sum_le {c : Nat} : ∀ (ps : List (List Nat)), (∀ x ∈ ps, x.length <= c) -> (ps.map List.length).sum <= ps.length * c
 | [], _ => by simp
 | x :: r, h => by
  have h1 := h x List.mem_cons_self
  have h2 := sum_le r fun y hy => h y (List.mem_cons_of_mem _ hy)
  simp only [List.map_cons, List.sum_cons, List.length_cons, Nat.add_mul, Nat.one_mul]
  omega
theorem sub_end {A : Around} {s : Shared} {R : Result -> Shared -> Prop} {D : Addr} {l : List Nat} {tw : Addr} {tl : Tok} {n : Int} {acc : List (List Nat)} {vs : List Value} {nn : Nat} (hl : l.length <= 1000) (hD : s.heap.get? D = some (zM vs nn)) (hS : StrsAre vs (acc.map fun l => ⟨l.toArray⟩))
  (hlen : acc.length <= 1000) (hbig : ∀ x ∈ acc, x.length <= 2000) (hQ : ∀ tk t, s.toks <= tk -> R (.ok (.ret (.str ⟨(acc.flatten).toArray⟩ t))) { s with toks := tk }) :
  wpAny (model prog w) A (do
   let joiner <- Builtin.Re.reSlice (Qi tw l tl).text (Qi tw l tl).kind 0 0
   let __do_lift <- seqItems? (Value.ref D)
   have __do_jp : Value -> Sem PySem.Fin := fun text =>
    if false = true then do
     let __do_lift <- holding [text] do
       let __do_lift <- mkInt n
       newTuple [text, __do_lift]
     ret __do_lift
    else ret text
   if (__do_lift.getD #[]).isEmpty = true then do
     let text <- pure joiner
     __do_jp text
    else do
     let text <- call (Value.builtin (if ((Qi tw l tl).kind == 0) = true then "str.join" else "bytes.join")) [joiner, Value.ref D]
     __do_jp text) (fun fin s' => ∃ v, fin = .done (.ret v) /\ R (.ok (.ret v)) s') (fun e s' => R (.error e) s') s := by
 have e0 : zN l 0 0 = [] := by simp [zN]
 refine wpAny_bind (zbo (by omega) ?_)
 rw [e0]
 refine wpAny_bind (wpAny_seqItems hD rfl ?_)
 dsimp only [Option.getD_some]
 simp only [Bool.false_eq_true, if_false]
 have hlv := hS.length
 rw [List.length_map] at hlv
 by_cases h0 : vs.toArray.isEmpty = true
 ·rw [if_pos h0]
  have hv : acc = [] := by
   have : vs = [] := by simpa using h0
   subst this
   exact List.eq_nil_of_length_eq_zero hlv.symm
  subst hv
  exact wpAny_bind (wpAny_pure (wpAny_pure ⟨_, rfl, hQ _ _ (Nat.le_succ _)⟩))
 ·rw [if_neg h0]
  have h1 := sum_le acc hbig
  have h2 : acc.length * 2000 <= 1000 * 2000 := Nat.mul_le_mul_right _ hlen
  refine wpAny_bind (wpAny_with_toks (Nat.le_refl _) (join_listC (zy hD) hS (by show ([] : List Nat).toArray.size <= 64; simp) ?_ fun t' k' (htk : s.toks + 1 <= k') => wpAny_pure ⟨_, rfl, ?_⟩))
  ·rw [List.map_map, List.length_map]
   have : (acc.map ((fun x : Str => x.length) ∘ fun l => (⟨l.toArray⟩ : Str))) = acc.map List.length := by
    apply List.map_congr_left; intro l _; show l.toArray.size = _; simp
   rw [this]; omega
  ·rw [join_eq, joinL_flat]
   exact hQ k' t' (by omega)
theorem sub_loop {tw f D : Addr} {p1 p2 p3 p4 p5 p6 p7 p8 p9 : Pos} {pm cd : Value} {l : List Nat} {tl : Tok} {h₀ : Heap} (L0 : LoopAt h₀ tw f D p1 p2 p3 p4 p5 p6 p7 p8 p9 pm cd) (hline : (p4.endLine == p6.line) = true) (hl : l.length <= 1000) (hD0 : h₀.get? D = Option.none) :
  ∀ (k : Nat) (A : Around) (s : Shared) (R : Result -> Shared -> Prop) (n : Int) (done start : Nat) (must : Bool) (acc r : List (List Nat)) (vs : List Value) (nn : Nat), A.depth < recursionLimit -> subGo k l done start must = some r ->
   (∀ b o, h₀.get? b = some o -> s.heap.get? b = some o) -> s.heap.get? D = some (zM vs nn) -> StrsAre vs (acc.map fun l => ⟨l.toArray⟩) -> (acc ++ r).length <= 1000 -> (∀ x ∈ acc ++ r, x.length <= 2000) ->
   (∀ h' tk t, (∀ b o, h₀.get? b = some o -> h'.get? b = some o) -> (∀ b o, b ≠ D -> s.heap.get? b = some o -> h'.get? b = some o) -> s.toks <= tk -> R (.ok (.ret (.str ⟨((acc ++ r).flatten).toArray⟩ t))) { s with heap := h', toks := tk }) ->
   codeAny (model prog w) A (.builtin "re.Pattern.sub.loop" ⟨[.ref tw, .str ⟨l.toArray⟩ tl, .ref f, rawInt 1, rawInt 0, rawInt n, rawInt (done : Int), rawInt (start : Int), .bool must, .ref D, .bool false], []⟩) R s := by
 intro k
 induction k with
 | zero => intro A s R n done start must acc r vs nn _ h; cases h
 | succ k ih =>
  intro A s R n done start must acc r vs nn hroom hgo hk hD hS hlen hbig hQ
  have L := L0.keeps hk
  refine codeAny_builtin entry_re_loop ?_
  rw [Around.under_plainId XY _]
  unfold Builtin.«re.Pattern.sub.loop»
  show wpAny _ _ (Builtin.Re.reWholeTarget (.ref tw) (.str ⟨l.toArray⟩ tl) >>= _) _ _ _
  refine wpAny_bind (wp_whole L.tw ?_)
  dsimp only
  rw [if_neg (by decide)]
  refine wpAny_bind ?_
  rw [if_neg (by simp)]
  have htn : ((start : Int)).toNat = start := by simp
  have hdn : ((done : Int)).toNat = done := by simp
  rw [htn, hdn]
  show wpAny _ _ (Builtin.Re.reRunToEnd (Sre.forSearch twCode.toArray l.toArray 1 start l.toArray.size must)) _ _ _
  unfold subGo at hgo
  split at hgo
  ·cases hgo
  ·rename_i e1
   refine wp_reRun e1 ?_
   cases hgo
   dsimp only
   show wpAny _ _ (if done < l.toArray.size then _ else _) _ _ _
   by_cases h1 : done < l.toArray.size
   ·rw [if_pos h1] at hlen hbig hQ ⊢
    refine wpAny_bind (zbo (by omega) (wpAny_bind (wp_push (s := { s with toks := s.toks + 1 }) hD ?_ fun h' n' hD' hs' => ?_)))
    ·have := hS.length; rw [List.length_map] at this; simp at hlen; omega
    ·have hS' : StrsAre (vs ++ [Value.str ⟨(zN l done l.toArray.size).toArray⟩ s.toks]) ((acc ++ [zN l done l.toArray.size]).map fun l => ⟨l.toArray⟩) := by
      rw [List.map_append]
      exact StrsAre.append' hS (.cons _ _ .nil)
     refine wpAny_mono (sub_end (R := R) hl hD' hS' hlen hbig fun tk t htk => ?_) (fun fin s' hf => ?_) fun _ _ e => e
     ·refine hQ h' tk t (fun b o e => ?_) (fun b o hb e => (hs'.2 b hb).trans e) (by have : s.toks + 1 <= tk := htk; omega)
      exact (hs'.2 b (fun q => by rw [q, hD0] at e; cases e)).trans (hk b o e)
     ·obtain ⟨v, rfl, hr⟩ := hf; exact hr
   ·rw [if_neg h1] at hlen hbig hQ ⊢
    rw [List.append_nil] at hlen hbig hQ
    refine wpAny_mono (sub_end (R := R) hl hD hS hlen hbig fun tk t htk => hQ s.heap tk t hk (fun _ _ _ e => e) htk) (fun fin s' hf => ?_) fun _ _ e => e
    obtain ⟨v, rfl, hr⟩ := hf; exact hr
  ·rename_i m e1
   refine wp_reRun e1 ?_
   split at hgo
   ·cases hgo
   ·rename_i b e hg
    obtain ⟨r', hr', rfl⟩ := Option.map_eq_some_iff.mp hgo
    dsimp only
    -- what is said of the piece that was found
    have tail : ∀ (h1 : Heap) (tk1 : Nat) (acc1 : List (List Nat)) (vs1 : List Value) (n1 : Nat), (∀ b o, h₀.get? b = some o -> h1.get? b = some o) -> (∀ b o, b ≠ D -> s.heap.get? b = some o -> h1.get? b = some o) -> s.toks <= tk1 ->
      h1.get? D = some (zM vs1 n1) -> StrsAre vs1 (acc1.map fun l => ⟨l.toArray⟩) -> acc1 ++ (92 :: zN l b e) :: r' = acc ++ ((if done < m.start then [zN l done m.start] else []) ++ (92 :: zN l b e) :: r') ->
      wpAny (model prog w) A.in1 (do
       let found <- Builtin.Re.reNewMatch (Value.ref tw) (Value.str ⟨l.toArray⟩ tl) (Qi tw l tl).groups 0 (Qi tw l tl).lim m
       let item <- holding [found] (if (1 == 1) = true then call (Value.ref f) [found] else do
        let __do_lift <- Builtin.Re.reFound found
        Builtin.Re.reExpand (Value.ref f) __do_lift)
       if (item != Value.none) = true then do
        updateSeq D fun x => x.push item
        again (Code.builtin "re.Pattern.sub.loop" { pos := [Value.ref tw, Value.str ⟨l.toArray⟩ tl, Value.ref f, rawInt 1, rawInt 0, rawInt (n + 1), rawInt ↑m.handed, rawInt ↑m.handed, Value.bool (m.handed == m.start), Value.ref D, Value.bool false] })
       else again (Code.builtin "re.Pattern.sub.loop" { pos := [Value.ref tw, Value.str ⟨l.toArray⟩ tl, Value.ref f, rawInt 1, rawInt 0, rawInt (n + 1), rawInt ↑m.handed, rawInt ↑m.handed, Value.bool (m.handed == m.start), Value.ref D, Value.bool false] }))
       (fun fin s' => match fin with | .done f => R (.ok f) s' | .again c' => c'.quiet = true /\ codeAny (model prog w) A c' R s') (fun e s' => R (.error e) s') { s with heap := h1, toks := tk1 } := by
     intro h1 tk1 acc1 vs1 n1 hk1 hs1 htk1 hD1 hS1 hacc
     have hDlt : @LT.lt Nat _ D h1.objs.size := Heap.lt_size hD1
     refine wpAny_bind (wp_newMatch hg (wpAny_bind (wpAny_holding ?_)))
     rw [if_pos (by decide)]
     generalize hH : (h1.push (Qs m.start m.handed b e)).push (Qz (.ref tw) l tl l.toArray.size m.lastindex h1.objs.size) = H
     have kH : ∀ b o, h1.get? b = some o -> H.get? b = some o := fun b o e => by rw [<- hH]; exact Heap.get?_push_of_some _ (Heap.get?_push_of_some _ e)
     have hmt : H.get? (h1.objs.size + 1) = some (Qz (.ref tw) l tl l.toArray.size m.lastindex h1.objs.size) := by
      rw [<- hH]
      have := Heap.get?_push_size (h1.push (Qs m.start m.handed b e)) (o := Qz (.ref tw) l tl l.toArray.size m.lastindex h1.objs.size) rfl
      rw [Heap.size_push] at this; exact this
     have hTt : H.get? h1.objs.size = some (Qs m.start m.handed b e) := by rw [<- hH]; exact Heap.get?_push_of_some _ (Heap.get?_push_size _ rfl)
     have L1 := L0.keeps (fun b o e => kH b o (hk1 b o e))
     obtain ⟨of, hof, hdf⟩ := L1.f
     refine call_lam (s := { s with heap := H, toks := tk1 }) hroom L1.lim hof hdf L1.cd hline hmt hTt (by omega) fun h2 tk2 t2 hk2 htk2 => ?_
     rw [if_pos (show (Value.str _ _ != Value.none) = true from rfl)]
     have hD2 := hk2 _ _ (kH _ _ hD1)
     have hlv := hS1.length
     rw [List.length_map] at hlv
     refine wpAny_bind (wp_push (s := { s with heap := h2, toks := tk2 }) hD2 ?_ fun h3 n3 hD3 hs3 => ?_)
     ·have : (acc1 ++ (92 :: zN l b e) :: r').length <= 1000 := by rw [hacc]; exact hlen
      simp at this; omega
     ·refine wpAny_pure ⟨plainId_quiet XY _, ?_⟩
      have hS3 : StrsAre (vs1 ++ [Value.str ⟨(92 :: zN l b e).toArray⟩ t2]) ((acc1 ++ [92 :: zN l b e]).map fun l => ⟨l.toArray⟩) := by
       rw [List.map_append]
       exact StrsAre.append' hS1 (.cons _ _ .nil)
      have hk3 : ∀ b o, h₀.get? b = some o -> h3.get? b = some o := fun b o e => (hs3.2 b (fun q => by rw [q, hD0] at e; cases e)).trans (hk2 b o (kH b o (hk1 b o e)))
      have hacc3 : (acc1 ++ [92 :: zN l b e]) ++ r' = acc ++ ((if done < m.start then [zN l done m.start] else []) ++ (92 :: zN l b e) :: r') := by rw [List.append_assoc]; exact hacc
      refine ih A { s with heap := h3, toks := tk2 } R (n + 1) m.handed m.handed (m.handed == m.start) (acc1 ++ [92 :: zN l b e]) r' _ n3 hroom hr' hk3 hD3 hS3 (by rw [hacc3]; exact hlen) (by rw [hacc3]; exact hbig) fun h4 tk4 t4 hk4 hs4 htk4 => ?_
      rw [hacc3]
      exact hQ h4 tk4 t4 hk4 (fun b o hb e => hs4 b o hb ((hs3.2 b hb).trans (hk2 b o (kH b o (hs1 b o hb e))))) (by have h5 : tk1 <= tk2 := htk2; have h6 : tk2 <= tk4 := htk4; omega)
    by_cases h1 : done < m.start
    ·rw [if_pos h1]
     refine wpAny_bind (zbo (by omega) (wpAny_bind (wp_push (s := { s with toks := s.toks + 1 }) hD ?_ fun h' n' hD' hs' => ?_)))
     ·have := hS.length; rw [List.length_map] at this; simp at hlen; omega
     ·have hS' : StrsAre (vs ++ [Value.str ⟨(zN l done m.start).toArray⟩ s.toks]) ((acc ++ [zN l done m.start]).map fun l => ⟨l.toArray⟩) := by
       rw [List.map_append]
       exact StrsAre.append' hS (.cons _ _ .nil)
      rw [if_neg (by decide)]
      exact tail h' (s.toks + 1) (acc ++ [zN l done m.start]) _ n' (fun b o e => (hs'.2 b (fun q => by rw [q, hD0] at e; cases e)).trans (hk b o e)) (fun b o hb e => (hs'.2 b hb).trans e) (Nat.le_succ _) hD' hS' (by rw [if_pos h1, List.append_assoc])
    ·rw [if_neg h1, if_neg (by decide)]
     exact tail s.heap s.toks acc vs nn hk (fun _ _ _ e => e) (Nat.le_refl _) hD hS (by rw [if_neg h1]; rfl)
end
theorem sub_named (a b : Value) : Builtin.Re.reNamed "re.Pattern.sub" "sub" ["repl", "string", "count"] 2 [a, b] [] = pure [some a, some b, Option.none] := by
 first
  | rfl
  | kernel_rfl
  | (unfold Builtin.Re.reNamed; simp)
noncomputable def SubAt (tw f : Addr) (p1 p2 p3 p4 p5 p6 p7 p8 p9 : Pos) (pm cd : Value) (l : List Nat) (r : List (List Nat)) : PySem.Spec := fun A R s =>
 A.depth < recursionLimit /\ LoopAt s.heap tw f s.heap.objs.size p1 p2 p3 p4 p5 p6 p7 p8 p9 pm cd /\ (∃ o, s.heap.get? f = some o /\ o.cls = .type "function") /\
  ∀ h' tk t, (∀ b o, s.heap.get? b = some o -> h'.get? b = some o) -> s.toks <= tk -> R (.ok (.ret (.str ⟨(r.flatten).toArray⟩ t))) { s with heap := h', toks := tk }
theorem meets_sub {tw f : Addr} {p1 p2 p3 p4 p5 p6 p7 p8 p9 : Pos} {pm cd : Value} {l : List Nat} {tl : Tok} {r : List (List Nat)} {k : Nat}
  (hline : (p4.endLine == p6.line) = true) (hl : l.length <= 1000) (hgo : subGo k l 0 0 false = some r) (hlen : r.length <= 1000) (hbig : ∀ x ∈ r, x.length <= 2000) :
  Meets (Builtin.«re.Pattern.sub» ⟨[.ref tw, .ref f, .str ⟨l.toArray⟩ tl], []⟩) (SubAt tw f p1 p2 p3 p4 p5 p6 p7 p8 p9 pm cd l r) := by
 intro prog w A R s h
 obtain ⟨hroom, L, hfc, hQ⟩ := h
 obtain ⟨o, fs, cl, n, ho, hc, hdi, hd, _⟩ := L.tw.ex
 show wpAny _ _ (Builtin.Re.reSubstitute "re.Pattern.sub" "sub" false ⟨[.ref tw, .ref f, .str ⟨l.toArray⟩ tl], []⟩) _ _ _
 unfold Builtin.Re.reSubstitute
 dsimp only
 refine wpAny_bind (wpAny_of_eq (sub_named _ _) ?_)
 dsimp only
 refine wpAny_bind (wpAny_pure ?_)
 obtain ⟨of, hof, hfcls⟩ := hfc
 refine wpAny_bind (wpAny_specialOf (T := "function") ⟨of, hof, hfcls⟩ fn_call ?_)
 rw [if_pos (show (Option.some (Value.builtin "function.__call__")).isSome = true from rfl)]
 refine wpAny_bind (wpAny_pure ?_)
 rw [if_pos (show (Option.some (Value.builtin "function.__call__")).isSome = true from rfl)]
 refine wpAny_bind (wpAny_pure ?_)
 dsimp only
 refine wpAny_bind (wpAny_holding (wp_whole L.tw ?_))
 rw [if_pos (by decide)]
 unfold Builtin.Re.reNotHeld
 refine wpAny_bind (wpAny_bind (wpAny_isInstance (T := "str") (b := false) (typeIs_str _ _ _) str_bytearray ?_))
 rw [if_neg (by decide)]
 dsimp only
 refine wpAny_pure ?_
 unfold newList
 refine wpAny_bind (wpAny_newObj_type ?_ (by size_fits))
 refine wpAny_pure ⟨plainId_quiet XY _, ?_⟩
 have keep : ∀ b o, s.heap.get? b = some o -> (s.heap.push { cls := .type "list", data := .seq ([] : List Value).toArray }).get? b = some o := fun b o e => Heap.get?_push_of_some _ e
 have hD : (s.heap.push { cls := .type "list", data := .seq ([] : List Value).toArray }).get? s.heap.objs.size = some (zM [] 0) := Heap.get?_push_size _ rfl
 refine sub_loop (h₀ := s.heap) L hline hl (zH _) k _ _ _ 0 0 0 false [] r [] 0 hroom hgo keep hD .nil (by simpa using hlen) (by simpa using hbig) fun h' tk t h1 _ h2 => ?_
 exact hQ h' tk t h1 h2
section
variable {G : GC} {K : Kx} {g : Gh} {σ : St} {s : Shared}
noncomputable def tabO (ps : Array Value) : Obj := { cls := .none, data := .fields ps }
theorem Wf.table (I : Wf G K g σ s) {h' : Heap} (tk : Nat) {ps' : Array Value} (N : Fz) (hk : ∀ b o, b ≠ G.P -> s.heap.get? b = some o -> h'.get? b = some o) (hP : h'.get? G.P = some (tabO ps'))
  (hN : ∀ b o, N b o -> h'.get? b = some o /\ s.heap.get? b = Option.none) (ht : TabOk (fun b o => g.B b o ∨ N b o) ps') (htk : s.toks <= tk := by trivial) :
  Wf G K { g with B := fun b o => g.B b o ∨ N b o } σ { s with heap := h', toks := tk } where
 hB := fun b o h => h.elim (fun h => hk b o (I.dB b o h).2.2 (I.hB _ _ h)) fun h => (hN _ _ h).1
 hK := fun b o h => (I.hK b o h).mono fun o' => hk b o' (I.dK b o h).2.2
 base := fun b o h hp => .inl (I.base b o h hp)
 tab := ⟨ps', ht, hP⟩
 dB := fun b o h => h.elim (I.dB b o) fun h => by
  have fr := I.fresh_of_none (hN _ _ h).2
  exact ⟨fun n e => absurd e (fr.1 n), fr.2⟩
 dK := I.dK
 dBK := fun b o o' h k => h.elim (fun h => I.dBK b o o' h k) fun h => by obtain ⟨_, e⟩ := (I.hK b o' k).some; rw [(hN _ _ h).2] at e; cases e
 dP := I.dP
 dv := I.dv
 len := I.len
 nodup := I.nodup
 st := fun n e a h1 h2 => (I.st n e a h1 h2).mono (fun _ _ x => .inl x) (fun _ _ x => x) fun o => hk a o fun q => I.dP.1 n (q ▸ h2)
 fr := fun i => (I.fr i).mono (fun _ _ x => .inl x) (fun _ _ x => x) fun a ha o => hk a o fun q => I.dP.2 i (q ▸ ha)
 inj := I.inj
 has := I.has
 gens := I.gens
 os := I.os
 tk := Nat.le_trans I.tk htk
noncomputable def trCx (G : GC) (env : Env) : Prop := ∃ c, env.code = .ref c /\ env.qual = "_translate.<locals>." /\ G.hb.IsCode c G.P #[] /\ G.hb.TableAt c G.P #[]
theorem Wf.code (I : Wf G K g σ s) {c : Addr} (C : G.hb.IsCode c G.P #[]) (T : G.hb.TableAt c G.P #[]) : ∃ ps, TabOk g.B ps /\ s.heap.get? G.P = some (tabO ps) /\ s.heap.IsCode c G.P ps /\ s.heap.TableAt c G.P ps := by
 obtain ⟨ps, ht, hp⟩ := I.tab
 obtain ⟨o, vs, file, tf, flags, tg, inF, text, tt, op, ho, hd, h11, h2, h7, h9, h10, hop, hpd, htr, hne⟩ := C
 obtain ⟨⟨o', vs', a1, a2, a3, a4⟩, _⟩ := T
 have ho' := I.hB _ _ (I.base _ _ ho hne)
 have ho2 := I.hB _ _ (I.base _ _ a1 hne)
 exact ⟨ps, ht, hp, ⟨o, vs, file, tf, flags, tg, inF, text, tt, _, ho', hd, h11, h2, h7, h9, h10, hp, rfl, ht.1, hne⟩, ⟨o', vs', ho2, a2, a3, a4⟩, hp⟩
theorem QK {pos : Pos} {a b : Int} {c cv : Value} : ∀ (l : List Value), TriplesOk l -> codeAmong pos (l ++ [rawInt a, rawInt b, c]) = some cv -> codeAmong pos l = some cv ∨ (a = pos.line /\ c = cv)
 | l, h => by
  fun_induction TriplesOk l with
  | case1 =>
   intro e
   simp only [List.nil_append, codeAmong, rawInt] at e
   obtain ⟨hc, e⟩ := iS e
   simp at hc
   exact .inr ⟨hc.1, Option.some.inj e⟩
  | case2 a' t b' u x rest ih =>
   intro e
   simp only [List.cons_append, codeAmong] at e ⊢
   split at e
   ·rename_i hc; rw [if_pos hc]; exact .inl e
   ·rename_i hc; rw [if_neg hc]; exact ih h e
  | case3 => exact absurd h (by first | exact id | (intro q; exact q.elim) | simp_all)
end
section
variable {G : GC} {K : Kx} {g : Gh} {σ : St} {s : Shared} {A : Around} {E : Value -> Shared -> Prop} {env : Env}
noncomputable def LamAt (B : Fz) (f : Addr) (p1 p2 p3 p4 p5 p6 p7 p8 p9 : Pos) (pm cd : Value) : Prop :=
 (∃ o, B f o /\ o.cls = .type "function" /\ o.data = .func (lamFd p1 (lamB p2 p3 p4 p5 p6 p7 p8 p9) pm cd)) /\ ∃ c oc vs t, cd = .ref c /\ B c oc /\ oc.data = .fields vs /\ vs[1]? = some (.str QE t)
theorem eval_lam {p1 p2 p3 p4 p5 p6 p7 p8 p9 lp : Pos} {Q : Value -> Shared -> Prop} (ok : G.Ok) (I : Wf G K g σ s) (hcx : trCx G env) (hglob : env.globals = mainGlobals) (hlp : lp.line = 106)
  (hQ : ∀ g' s' f cd, g.le g' -> Wf G K g' σ s' -> LamAt g'.B f p1 p2 p3 p4 p5 p6 p7 p8 p9 ((G.mg "__name__").getD .none) cd -> Q (.ref f) s') :
  wpAny (model G.prog G.w) A (eval (.Lambda (lamPs p1) (lamB p2 p3 p4 p5 p6 p7 p8 p9) lamSc lp) env) Q E s := by
 obtain ⟨c, hcode, hqual, C, T⟩ := hcx
 obtain ⟨ps, ht, hp, hC, hT⟩ := I.code C T
 obtain ⟨bm, ob, hbm, hne0, hbo, hcls, hdict, hdata⟩ := ok.bmod
 have hq : env.qual ++ "<lambda>" = QE := by rw [hqual]; decide +kernel
 rw [arm_eval_Lambda, hq]
 show wpAny _ A (do let dv <- evalAll []; let kdv <- holding dv (evalAllOpt []); makeFunction "<lambda>" QE (lamPs p1) (.expr (lamB p2 p3 p4 p5 p6 p7 p8 p9)) lamSc env dv kdv [] lp lp.line) Q E s
 refine wpAny_bind (wpAny_pure (wpAny_bind (wpAny_holding (wpAny_pure ?_))))
 rw [makeFunction_eq]
 simp only [List.zip_nil_right, List.filterMap_nil, List.isEmpty_nil, if_true, pure_bind]
 unfold makeTail
 have hcl : closureFor lamSc env = pure [] := by rfl
 rw [hcl, hglob]
 refine wpAny_bind (wpAny_pure ?_)
 simp only [List.isEmpty_nil, if_true]
 refine wpAny_bind (wpAny_pure ?_)
 have hp0 := ok.pobj
 have hbP : bm ≠ G.P := fun e => by rw [e, hp0] at hbo; cases hbo; cases hcls
 have hgl := ok.glob I
 have hgP : mainGlobals ≠ G.P := fun q => by
  obtain ⟨o, es, ep, e, hd, _⟩ := hgl
  rw [q, hp] at e; cases e; cases hd
 have hbo' := I.hB _ _ (I.base _ _ hbo hbP)
 cases hnf : codeAmong lp ps.toList with
 | some cv =>
  refine wpAny_bind (wpAny_functionCode_hit hcode hC hnf ?_)
  refine wpAny_bind (wpAny_builtinsFor hgl hbm hne0 hbo' hcls hdict hdata ?_)
  refine wpAny_bind (wpAny_nsGet hgl ?_)
  refine wpAny_bind (wpAny_pure (wpAny_newObj_type ?_ (by size_fits)))
  obtain ⟨c', oc, vs, t, rfl, hB, hd, h1⟩ := ht.2 lp cv hlp hnf
  let ob : Obj := { cls := .type "function", data := .func (lamFd p1 (lamB p2 p3 p4 p5 p6 p7 p8 p9) ((G.mg "__name__").getD .none) (.ref c')) }
  have I2 := I.grow (h' := s.heap.push ob) s.toks (fun b o e => Heap.get?_push_of_some _ e) (fun b o => b = s.heap.objs.size /\ o = ob) (fun b o e => by rw [e.1, e.2]; exact ⟨Heap.get?_push_size _ rfl, zH _⟩)
  exact hQ { g with B := fun b o => g.B b o ∨ (b = s.heap.objs.size /\ o = ob) } _ _ (.ref c') ⟨fun _ _ x => .inl x, fun _ _ x => x, rfl⟩ I2 ⟨⟨ob, .inr ⟨rfl, rfl⟩, rfl, rfl⟩, c', oc, vs, t, rfl, .inl hB, hd, h1⟩
 | none =>
  refine wpAny_bind (wpAny_with_toks (Nat.le_refl s.toks) (wpAny_functionCodeX hcode hC hT hnf fun c' h' tk hx hge hlt _ hrec htb _ (htk : s.toks <= tk) => ?_))
  have hg' := hgl.extBut hx hgP
  refine wpAny_bind (wpAny_builtinsFor hg' hbm hne0 (hx _ _ hbP hbo') hcls hdict hdata ?_)
  refine wpAny_bind (wpAny_nsGet hg' ?_)
  refine wpAny_bind (wpAny_pure (wpAny_newObj_type ?_ (by size_fits)))
  obtain ⟨c₂, oc, vs, t, e2, hoc, hd, hv⟩ := hrec
  cases e2
  let ob : Obj := { cls := .type "function", data := .func (lamFd p1 (lamB p2 p3 p4 p5 p6 p7 p8 p9) ((G.mg "__name__").getD .none) (.ref c')) }
  have I2 := I.table (h' := h'.push ob) tk (ps' := ps ++ #[rawInt lp.line, rawInt lp.col, .ref c']) (fun b o => (b = h'.objs.size /\ o = ob) ∨ (b = c' /\ o = oc)) (fun b o hb e => Heap.get?_push_of_some _ (hx b o hb e)) (Heap.get?_push_of_some _ htb.2)
   (fun b o e => by
    rcases e with ⟨rfl, rfl⟩ | ⟨rfl, rfl⟩
    ·exact ⟨Heap.get?_push_size _ rfl, yi (Nat.le_trans hge (Nat.le_of_lt hlt))⟩
    ·exact ⟨Heap.get?_push_of_some _ hoc, yi hge⟩)
   (by
    have hl : (ps ++ #[rawInt lp.line, rawInt lp.col, Value.ref c']).toList = ps.toList ++ [rawInt lp.line, rawInt lp.col, .ref c'] := by simp
    refine ⟨by rw [hl]; exact TriplesOk_snoc _ _ _ _ ht.1, fun pos cv hpos hc => ?_⟩
    rw [hl] at hc
    rcases QK _ ht.1 hc with h | ⟨_, rfl⟩
    ·obtain ⟨c1, oc1, vs1, t1, q1, q2, q3, q4⟩ := ht.2 pos cv hpos h
     exact ⟨c1, oc1, vs1, t1, q1, .inl q2, q3, q4⟩
    ·exact ⟨c', oc, vs, t, rfl, .inr (.inr ⟨rfl, rfl⟩), hd, hv⟩)
  exact hQ { g with B := fun b o => g.B b o ∨ ((b = h'.objs.size /\ o = ob) ∨ (b = c' /\ o = oc)) } _ _ (.ref c') ⟨fun _ _ x => .inl x, fun _ _ x => x, rfl⟩ I2 ⟨⟨ob, .inr (.inl ⟨rfl, rfl⟩), rfl, rfl⟩, c', oc, vs, t, rfl, .inr (.inr ⟨rfl, rfl⟩), hd, hv⟩
end
noncomputable def okPieces (r : List (List Nat)) : Bool := decide (r.length <= 1000) && r.all fun x => decide (x.length <= 2000)
noncomputable def Qu (a : AV) : Option AV := a.s?.bind fun l => if l.length <= 1000 then (subGo 16 l 0 0 false).bind fun r => if okPieces r = true then some (.str r.flatten) else Option.none else Option.none
theorem resubF_inv {a r : AV} (h : Qu a = some r) : ∃ l ps, a = .str l /\ l.length <= 1000 /\ subGo 16 l 0 0 false = some ps /\ ps.length <= 1000 /\ (∀ x ∈ ps, x.length <= 2000) /\ r = .str ps.flatten := by
 obtain ⟨l, el, h⟩ := bS h
 obtain ⟨hl, h⟩ := iS h
 obtain ⟨ps, e, h⟩ := bS h
 obtain ⟨hk, h⟩ := iS h
 simp only [okPieces, Bool.and_eq_true, List.all_eq_true, decide_eq_true_eq] at hk
 exact ⟨_, ps, AV.str_of el, hl, e, hk.1, hk.2, (Option.some.inj h).symm⟩
section
variable {V : Vis} {h : Nat}
theorem sE_sub_lam {p1 p2 p3 p4 p5 p6 p7 p8 p9 lp q1 q2 pos : Pos} {e : Expr} {m : PM AV} (hx : Str.ofString "_twin_re_1" ∈ V.gl) (hcx : ∀ G env, V.cx G env -> trCx G env) (hlp : lp.line = 106) (hline : (p4.endLine == p6.line) = true) (he : SE V h e m)
  (hbase : ∀ env, attributeBase (.Name (Str.ofString "_twin_re_1") q1) (Str.ofString "sub") env (eval (.Name (Str.ofString "_twin_re_1") q1) env) = eval (.Name (Str.ofString "_twin_re_1") q1) env) (hl2 : (q2.endLine == pos.line) = true)
  (hfew : ∀ env, ((backTo pos (starEach [.Lambda (lamPs p1) (lamB p2 p3 p4 p5 p6 p7 p8 p9) lamSc lp, e] env)).all (fun x => !x.1) && (backToKw pos (keywordEach [] env)).all (fun x => x.1.isSome)
   && decide ([Expr.Lambda (lamPs p1) (lamB p2 p3 p4 p5 p6 p7 p8 p9) lamSc lp, e].length + ([] : List Keyword).length + (if ([] : List Keyword).isEmpty then 0 else 1) < 30)) = true)
  (hp : ∀ env, starEach [e] env = (false, eval e env) :: starEach [] env) (hq : ∀ env pos, (backTo pos (starEach [e] env)).any (·.1) = false) :
  SE V h (.Call (.Attribute (.Name (Str.ofString "_twin_re_1") q1) (Str.ofString "sub") q2) [.Lambda (lamPs p1) (lamB p2 p3 p4 p5 p6 p7 p8 p9) lamSc lp, e] [] pos) (Zg (fun _ => Qu) m) := by
 intro G K g σ σ' b A env s Q E ok hA hE I hm hQ
 obtain ⟨x, σ₁, e1, e3⟩ := PM.bd_some hm
 obtain ⟨e3, rfl⟩ := PM.of_some e3
 obtain ⟨l, ps, rfl, hll, hgo, hlen, hbig, rfl⟩ := resubF_inv e3
 obtain ⟨tw, o, fs, cl, n, k1, k2, k3, k4, k5, k6, k7, k8, k9, k10⟩ := ok.twin
 have hp0 := ok.pobj
 have hne : tw ≠ G.P := fun e => by rw [e, hp0] at k2; cases k2; cases k3
 have hne2 : cl ≠ G.P := fun e => by rw [e, hp0] at k10; cases k10
 refine wpAny_Call_method_late (hbase env) (hfew env) hl2 rfl (Name_function_global hE.kind (hE.gl _ hx) (loadGlobal_global (by rw [hE.globals]; exact ok.glob I) k1 ?_) (by decide +kernel))
 have ho := I.hB _ _ (I.base _ _ k2 hne)
 refine ⟨"re.Pattern", "re.Pattern.sub", plainAttrs_rePattern, slot_re_sub, type_re_sub, ⟨o, ho, k3⟩, (fun x e => by cases e; exact ⟨o, ho, k4⟩), ?_⟩
 refine PyProof.Rows.callWith_method1 (wpAny_items_cons (eval_lam ok I (hcx G env hE.cx) hE.globals hlp fun g1 s1 f cd l1 I1 LA => ?_) rfl) rfl (hq env pos)
 refine wpAny_items_cons (he G K g1 σ _ (.str l) A env s1 _ E ok hA (hE.le l1) I1 e1 fun g2 v s2 l2 I2 r2 => wpAny_items_nil ?_) (hp env)
 obtain ⟨t, rfl⟩ := zX.mp r2
 obtain ⟨⟨fo, f1, f2, f3⟩, c, oc, vs, t', rfl, c2, c3, c4⟩ := LA
 have tw2 : TwAt s2.heap tw := ⟨o, fs, cl, n, I2.hB _ _ (I2.base _ _ k2 hne), k3, k4, k5, k6, k7, k8, k9, I2.hB _ _ (I2.base _ _ k10 hne2)⟩
 have hf2 := I2.hB _ _ (l2.B _ _ f1)
 refine call_meets slot_re_sub ⟨o, I2.hB _ _ (I2.base _ _ k2 hne), k3⟩ entry_re_sub (args_re_sub _ _ _) (meets_sub (k := 16) hline hll hgo hlen hbig) ⟨hA.room, ⟨tw2, ⟨fo, hf2, f3⟩, ⟨c, oc, vs, t', rfl, I2.hB _ _ (l2.B _ _ c2), c3, c4⟩, ok.limit I2⟩, ⟨fo, hf2, f2⟩, fun h' tk t2 hk htk => ?_⟩
 exact hQ g2 _ _ (l1.trans l2) (I2.keep tk hk htk) (zX.mpr ⟨t2, rfl⟩)
end
section
variable {G : GC} {K : Kx} {g : Gh} {σ : St} {s : Shared} {wr : List Addr}
theorem Wf.mv (I : Wf G K g σ s) (O : Off G wr K g) {s' : Shared} (hk : ∀ b o, b ∉ wr -> s.heap.get? b = some o -> s'.heap.get? b = some o) (hg : AllBare s'.gens) (ho : s'.os = s.os) (htk : 1 <= s'.toks) : Wf G K g σ s' where
 hB := fun b o e => hk b o (fun hb => O.B b hb o e) (I.hB b o e)
 hK := fun b o e => (I.hK b o e).mono fun o2 => hk b o2 (fun hb => O.K b hb o e)
 base := I.base
 tab := let ⟨ps, h1, h2⟩ := I.tab; ⟨ps, h1, hk _ _ (fun hb => O.P _ hb rfl) h2⟩
 dB := I.dB
 dK := I.dK
 dBK := I.dBK
 dP := I.dP
 dv := I.dv
 len := I.len
 nodup := I.nodup
 st := fun n e b h1 h2 => (I.st n e b h1 h2).mono (fun _ _ x => x) (fun _ _ x => x) fun o => hk b o fun hb => O.ρ b hb n h2
 fr := fun i => (I.fr i).mono (fun _ _ x => x) (fun _ _ x => x) fun b e o => hk b o fun hb => O.vl b hb i e
 inj := I.inj
 has := I.has
 gens := hg
 os := ho.trans I.os
 tk := htk
end
noncomputable def escF (l : List Nat) : List Nat := (Txt.replace ⟨l.toArray⟩ "-" "\\-").cps.toList
noncomputable def noBack (l : List Nat) : Bool := (Builtin.Str.occurrences ⟨l.toArray⟩ "\\" 0 (Str.mk l.toArray).length ((Str.mk l.toArray).length + 1)).isEmpty
noncomputable def escE (p1 p2 p3 p4 p5 p6 p7 p8 p9 : Pos) : Expr := .Call (.Attribute (.Call (.Attribute (.Name (Str.ofString "s") p1) "replace" p2) [.Constant (.str "\\") 0 p3, .Constant (.str "\\\\") 0 p4] [] p5) "replace" p6) [.Constant (.str "-") 0 p7, .Constant (.str "\\-") 0 p8] [] p9
noncomputable def gxSc : Scope := { kind := ScopeKind.function, names := [(Str.ofString ".0", NameKind.local), (Str.ofString "s", NameKind.local)], isGenerator := true, isCoroutine := false, more := [] : Scope }
section
variable {prog : Program} {w : World} {A : Around} {E : Value -> Shared -> Prop}
theorem esc_elt {env : Env} {s : Shared} {m : Str -> Option Value} {l : List Nat} {t : Tok} {p1 p2 p3 p4 p5 p6 p7 p8 p9 : Pos} (h1 : (p2.endLine == p5.line) = true) (h2 : (p6.endLine == p9.line) = true) (esk : env.scope.kind = .function) (ek : env.kindOf (Str.ofString "s") = some .local)
  (hn : s.heap.Ns env.locals m) (hm : m (Str.ofString "s") = some (.str ⟨l.toArray⟩ t)) (hb : noBack l = true) (hl : l.length <= 1000) :
  wpAny (model prog w) A (eval (escE p1 p2 p3 p4 p5 p6 p7 p8 p9) env) (fun y s₃ => (∃ u, y = .str ⟨(escF l).toArray⟩ u) /\ Keeps s s₃) E s := by
 unfold escE
 refine wpAny_Call_method2_late rfl h2 rfl (wpAny_Call_method2_late rfl h1 rfl (wpAny_Name (wpAny_loadName_local esk ek hn hm ?_) (by decide)))
 refine ⟨"str", "str.replace", F.plainAttrs_str, F.slot_str_replace, F.type_str_replace, typeIs_str _ _ _, (fun _ e => nomatch e), ?_⟩
 refine Calls.callWith_builtin rfl (evalArgs_plain (Calls.spliced_cons (wpAny_Constant_str (Calls.spliced_cons (wpAny_Constant_str (Calls.spliced_nil ?_))))))
 refine call_gives F.slot_str_replace (typeIs_str _ _ _) F.entry_str_replace (F.args_str_replace_3 _ _ _) (gives_str_replace _ _ _ _ _ _ fun hc => ?_) ?_
 ·exfalso
  have hb' : (Builtin.Str.occurrences ⟨l.toArray⟩ "\\" 0 (Str.mk l.toArray).length ((Str.mk l.toArray).length + 1)).isEmpty = true := hb
  rw [hb'] at hc
  cases hc
 have hb' : ((Builtin.Str.occurrences ⟨l.toArray⟩ "\\" 0 (Str.mk l.toArray).length ((Str.mk l.toArray).length + 1)).isEmpty || ((("\\" : Str).length == 0) && (("\\\\" : Str).length == 0))) = true := by
  have : (Builtin.Str.occurrences ⟨l.toArray⟩ "\\" 0 (Str.mk l.toArray).length ((Str.mk l.toArray).length + 1)).isEmpty = true := hb
  rw [this]; rfl
 rw [if_pos hb']
 refine ⟨"str", "str.replace", F.plainAttrs_str, F.slot_str_replace, F.type_str_replace, typeIs_str _ _ _, (fun _ e => nomatch e), ?_⟩
 refine Calls.callWith_builtin rfl (evalArgs_plain (Calls.spliced_cons (wpAny_Constant_str (Calls.spliced_cons (wpAny_Constant_str (Calls.spliced_nil ?_))))))
 refine SC.replace (u := s.toks + 1 + 1) (v := s.toks + 1 + 1 + 1) (show @Ne Nat _ _ by omega) (show @Ne Nat _ _ by omega) (show @Ne Nat _ _ by omega) (by decide +kernel) ?_ fun t' k => ?_
 ·show l.toArray.size + (l.toArray.size + 1) * ("\\-" : Str).length <= 16777216
  have e : ("\\-" : Str).length = 2 := by decide +kernel
  rw [e]; simp only [List.size_toArray]; omega
 ·refine ⟨⟨t', ?_⟩, s.heap, k, rfl, fun _ _ e => e⟩
  unfold escF
  rw [Array.toArray_toList]
end
noncomputable def gxF (sep : List Nat) (σ : St) (a : AV) : Option AV := (asL σ a).bind fun xs => (Xp xs).bind fun ls => if ls.length <= 64 /\ (ls.all fun l => noBack l && decide (l.length <= 1000)) = true /\ JoinOk ⟨sep.toArray⟩ (ls.map fun l => ⟨(escF l).toArray⟩) = true then some (.str (ZB sep (ls.map escF))) else Option.none
theorem gxF_inv {sep : List Nat} {σ : St} {a r : AV} (h : gxF sep σ a = some r) : ∃ xs ls, asL σ a = some xs /\ Xp xs = some ls /\ ls.length <= 64 /\ (∀ l ∈ ls, noBack l = true /\ l.length <= 1000) /\ JoinOk ⟨sep.toArray⟩ (ls.map fun l => ⟨(escF l).toArray⟩) = true /\ r = .str (ZB sep (ls.map escF)) := by
 obtain ⟨xs, e1, h⟩ := bS h
 obtain ⟨ls, e2, h⟩ := bS h
 obtain ⟨hc, h⟩ := iS h
 refine ⟨xs, ls, e1, e2, hc.1, fun l hl => ?_, hc.2.2, (Option.some.inj h).symm⟩
 have := List.all_eq_true.mp hc.2.1 l hl
 simpa using this
section
variable {V : Vis} {h : Nat}
theorem passing_all (n : Nat) : passing (fun _ => true) n 0 = List.range n := by
 unfold passing
 rw [List.drop_zero, List.filter_eq_self]
 exact fun _ _ => rfl
theorem sE_joingen {sep : Str} {ls : List Nat} {iter : Expr} {k0 : Nat} {p0 ap px gp pos p1 p2 p3 p4 p5 p6 p7 p8 p9 : Pos} {m : PM AV} (hsep : sep = ⟨ls.toArray⟩) (hcx : ∀ G env, V.cx G env -> trCx G env) (hgp : gp.line = 105) (h25 : (p2.endLine == p5.line) = true) (h69 : (p6.endLine == p9.line) = true) (he : SE V h iter m)
  (hline : (ap.endLine == pos.line) = true) (hbase : ∀ env, attributeBase (.Constant (.str sep) k0 p0) (Str.ofString "join") env (eval (.Constant (.str sep) k0 p0) env) = eval (.Constant (.str sep) k0 p0) env)
  (hfew : ∀ env, ((backTo pos (starEach [.GeneratorExp (escE p1 p2 p3 p4 p5 p6 p7 p8 p9) [⟨.Name (Str.ofString "s") px, iter, [], 0⟩] gxSc gp] env)).all (fun x => !x.1) && (backToKw pos (keywordEach [] env)).all (fun x => x.1.isSome)
   && decide ([Expr.GeneratorExp (escE p1 p2 p3 p4 p5 p6 p7 p8 p9) [⟨.Name (Str.ofString "s") px, iter, [], 0⟩] gxSc gp].length + ([] : List Keyword).length + (if ([] : List Keyword).isEmpty then 0 else 1) < 30)) = true)
  (hfold : ∀ env x, genFold iter env x = pure x) (h1 : 0 < h := by decide) :
  SE V h (.Call (.Attribute (.Constant (.str sep) k0 p0) (Str.ofString "join") ap) [.GeneratorExp (escE p1 p2 p3 p4 p5 p6 p7 p8 p9) [⟨.Name (Str.ofString "s") px, iter, [], 0⟩] gxSc gp] [] pos) (Zg (gxF ls) m) := by
 intro G K g σ σ' b A env s Q E ok hA hE I hm hQ
 obtain ⟨x, σ₁, e1, e3⟩ := PM.bd_some hm
 obtain ⟨e3, rfl⟩ := PM.of_some e3
 obtain ⟨xs, ts, ea, es, hn64, hall, hjok, rfl⟩ := gxF_inv e3
 have hh := hA.handled h1
 obtain ⟨c, hcode, hqual, C, T⟩ := hcx G env hE.cx
 obtain ⟨bm, ob, hbm, hne0, hbo, hcls, hdict, hdata⟩ := ok.bmod
 have hp0 := ok.pobj
 have hbP : bm ≠ G.P := fun e => by rw [e, hp0] at hbo; cases hbo; cases hcls
 have gP : ∀ {g : Gh} {σ : St} {s : Shared}, Wf G K g σ s -> mainGlobals ≠ G.P := fun I q => by
  have hk105 := ok.glob I; obtain ⟨o, es, ep, e, hd, _⟩ := hk105
  obtain ⟨ps, _, hp⟩ := I.tab
  rw [q, hp] at e; cases e; cases hd
 have cP : ∀ {g : Gh} {σ : St} {s : Shared}, Wf G K g σ s -> cStatics ≠ G.P := fun I q => by
  have hk109 := ok.limit I; obtain ⟨_, ⟨o, es, ep, e, hd, _⟩, _⟩ := hk109
  obtain ⟨ps, _, hp⟩ := I.tab
  rw [q, hp] at e; cases e; cases hd
 refine wpAny_Call_method_late (hbase env) (hfew env) hline rfl (wpAny_Constant_str ?_)
 refine ⟨"str", "str.join", F.plainAttrs_str, F.slot_str_join, F.type_str_join, typeIs_str _ _ _, (fun _ e => nomatch e), ?_⟩
 refine Calls.callWith_builtin rfl (evalArgs_plain (Calls.spliced_cons ?_))
 have I0 := I.tok (s.toks + 1)
 refine wpAny_with_toks (n := s.toks + 1) (Nat.le_refl _) (wpAny_GeneratorExp_walksQ hh rfl (cl := []) rfl (by decide) rfl rfl rfl hA.room (he G K g σ _ x A env _ _ _ ok hA hE I0 e1 fun g1 v s1 l1 I1 r1 => ?_) (hfold env))
 obtain ⟨l, vs, n, rfl, ho, hr⟩ := I1.isL r1 ea
 have hS := RVs.strs es hr
 have hlen := hS.length
 rw [List.length_map] at hlen
 refine wpAny_pyIter_list (zy ho) ?_
 have hfI := zH s1.heap
 have hlt : @LT.lt Nat _ l s1.heap.objs.size := Heap.lt_size ho
 have I2 := I1.keep (h' := s1.heap.push { cls := .type "list_iterator", data := .fields #[.ref l, .int 0 0] }) s1.toks fun b o e => Heap.get?_push_of_some _ e
 have OI : Off G [s1.heap.objs.size] K g1 := Qx I1 hfI
 generalize hH2 : s1.heap.push { cls := .type "list_iterator", data := .fields #[.ref l, .int 0 0] } = H2 at I2
 have hIt : H2.IsListIter s1.heap.objs.size l 0 := by rw [<- hH2]; exact ⟨_, Heap.get?_push_size _ rfl, rfl, rfl⟩
 have hsz2 : H2.objs.size = s1.heap.objs.size + 1 := by rw [<- hH2, Heap.size_push]
 have hL2 : H2.IsList l vs.toArray := by rw [<- hH2]; exact zy (Heap.get?_push_of_some _ ho)
 refine ⟨ok.limit I2, ?_⟩
 obtain ⟨ps, ht, hp, hC, hT⟩ := I2.code C T
 have hlP : l ≠ G.P := fun e => by
  obtain ⟨o, q1, q2, _⟩ := hL2
  rw [e, hp] at q1; cases q1; cases q2
 have hIP : s1.heap.objs.size ≠ G.P := fun e => OI.P _ (by simp) e
 have hgP := gP I2
 have hcP := cP I2
 -- behind the code object
 have rest : ∀ (E' : Value -> Shared -> Prop) (code : Value) (H3 : Heap) (tk3 : Nat) (I3 : Wf G K g1 σ' { s1 with heap := H3, toks := tk3 }), s1.toks <= tk3 -> Heap.ExtBut G.P H2 H3 -> H2.objs.size <= H3.objs.size ->
   wpAny (model G.prog G.w) A (builtinsFor env.globals env.builtins) (fun bi s₄ =>
    ∃ I fp wr n₀ P St0 pz F, (Value.ref s1.heap.objs.size) = .ref I /\ (∀ A' : Around, A'.handled = Option.none -> Walks G.prog G.w A' I fp wr n₀ P St0) /\ St0 0 s₄.heap /\ (∀ b ∈ fp, b < s₄.heap.objs.size) /\ s₄.heap.NoLimit /\ cStatics ∉ wr /\
     (∀ href : Heap, (∀ b o, s₄.heap.get? b = some o -> href.get? b = some o) ->
      QuietGen G.prog G.w (genEnv gxSc [] s₄.heap.objs.size code bi env) (Str.ofString "s") [] (escE p1 p2 p3 p4 p5 p6 p7 p8 p9) (List.range s₄.heap.objs.size) wr P pz F href) /\
     (∀ a h₅ tk gs, gs.bare = true -> s₄.heap.objs.size < a -> h₅.objs.size = a + 1 -> (∀ b o, s₄.heap.get? b = some o -> h₅.get? b = some o) ->
      WalksS G.prog G.w A.in4 a (a :: s₄.heap.objs.size :: List.range s₄.heap.objs.size) (s₄.heap.objs.size :: wr) (GenOnlyQ s₄.gens.size) (passing pz n₀ 0).length
       (fun j y => ∃ i, (passing pz n₀ 0)[j]? = some i /\ F i y) (GenAt G.prog G.w A.in4 a s₄.gens.size s₄.heap.objs.size (List.range s₄.heap.objs.size) wr pz n₀ F) ->
      GenAt G.prog G.w A.in4 a s₄.gens.size s₄.heap.objs.size (List.range s₄.heap.objs.size) wr pz n₀ F 0 { s₄ with gens := s₄.gens.push gs, toks := tk, heap := h₅ } ->
      s.toks + 1 <= tk -> wpAny (model G.prog G.w) A (spliced []) (fun vs s₂ => wpAny (model G.prog G.w) A (call (.builtin "str.join") (Value.str sep s.toks :: (Value.ref a :: vs))) Q E s₂) E { s₄ with gens := s₄.gens.push gs, toks := tk, heap := h₅ })) E' { s1 with heap := H3, toks := tk3 } := by
  intro E' code H3 tk3 I3 htk3 hx hsz
  have hg3 := ok.glob I3
  rw [hE.globals]
  refine wpAny_builtinsFor hg3 hbm hne0 (I3.hB _ _ (I3.base _ _ hbo hbP)) hcls hdict hdata ?_
  have hl3 := ok.limit I3
  have hIt3 : H3.IsListIter s1.heap.objs.size l 0 := hIt.extBut hx hIP
  have hL3 : H3.IsList l vs.toArray := hL2.extBut hx hlP
  refine ⟨s1.heap.objs.size, [s1.heap.objs.size, l], [s1.heap.objs.size], vs.toArray.size, _, _, fun _ => true, fun i y => ∃ u, y = .str ⟨(escF (ts.getD i [])).toArray⟩ u, rfl, (fun A' hA' => Walks.list hA' _ _ (show @Ne Nat _ _ by omega) vs.toArray), ⟨hIt3, hL3⟩, ?_, hl3, ?_, fun href hhref => ?_, fun a h₅ tk gs hgb hag hsz5 hk5 W hat htk5 => ?_⟩
  ·intro b hb
   simp only [List.mem_cons, List.not_mem_nil, or_false] at hb
   show @LT.lt Nat _ b H3.objs.size
   rcases hb with rfl | rfl <;> omega
  ·intro hb
   simp only [List.mem_cons, List.not_mem_nil, or_false] at hb
   obtain ⟨_, ⟨o, _, _, q1, _⟩, _⟩ := ok.limit I1
   rw [hb, hfI] at q1; cases q1
  ·have hat : ∀ (i : Nat) (v : Value), vs.toArray[i]? = some v -> ∃ t, v = Value.str ⟨(ts.getD i []).toArray⟩ t /\ ts.getD i [] ∈ ts := fun i v hv => by
    have hv' : vs[i]? = some v := by simpa using hv
    have hlt : i < ts.length := by rw [<- hlen]; exact (List.getElem?_eq_some_iff.mp hv').1
    obtain ⟨t, ht⟩ := hS.get i ⟨(ts[i]).toArray⟩ (by rw [List.getElem?_map, List.getElem?_eq_getElem hlt]; rfl)
    rw [hv'] at ht
    have eg : ts.getD i [] = ts[i] := by simp [List.getD_eq_getElem?_getD, hlt]
    exact ⟨t, by rw [eg]; exact Option.some.inj ht, by rw [eg]; exact List.getElem_mem hlt⟩
   constructor
   ·intro A' E' i v s₂ m₂ _ hP hn hm _
    exact wpAny_tests_nil ⟨rfl, s₂.heap, s₂.toks, rfl, fun _ _ e => e⟩
   ·intro A' E' i v s₂ m₂ _ hP hp' hn hm _
    obtain ⟨t, rfl, hmem⟩ := hat i v hP
    obtain ⟨q1, q2⟩ := hall _ hmem
    exact esc_elt h25 h69 rfl rfl hn hm q1 q2
  ·refine Calls.spliced_nil ?_
   have hWl : (passing (fun _ => true) vs.toArray.size 0).length = ts.length := by rw [passing_all]; simp [hlen]
   refine wpAny_with_toks (n := tk) (Nat.le_refl tk) (SC.joinGen W.in4_2 (fun i s' st => st.1.typeIs) hat ?_ (by simp) (fun i v hv => ?_) (fun s' lt hm hacc => ?_) (by rw [hWl, sizeLine_eq]; omega))
   ·intro b hb
    show @LT.lt Nat _ b h₅.objs.size
    simp only [List.mem_cons, List.mem_range] at hb
    rw [hsz5]
    rcases hb with rfl | rfl | hb
    ·exact Nat.lt_succ_self _
    ·exact Nat.lt_succ_of_lt hag
    ·exact Nat.lt_succ_of_lt (Nat.lt_trans hb hag)
   ·obtain ⟨j, _, u, e⟩ := hv
    exact ⟨_, u, e⟩
   ·have hl : lt.map (·.1) = ts.map fun l => ⟨(escF l).toArray⟩ := by
     apply List.ext_getElem?
     intro j
     have hszl : lt.length = ts.length := by have := hacc.1; rw [hWl] at this; simpa [strValues] using this
     by_cases hj : j < ts.length
     ·have hj' : j < lt.length := hszl ▸ hj
      obtain ⟨i, hi, u, hv⟩ := hacc.2 j (.str lt[j].1 lt[j].2) (by simp [strValues, List.getElem?_eq_getElem hj'])
      rw [passing_all] at hi
      have hij : i = j := by
       obtain ⟨_, q⟩ := List.getElem?_eq_some_iff.mp hi
       simpa using q.symm
      subst hij
      injection hv with q1 _
      simp [List.getElem?_eq_getElem hj', hj, q1, List.getD_eq_getElem?_getD]
     ·rw [List.getElem?_eq_none (by simpa [hszl] using Nat.le_of_not_lt hj), List.getElem?_eq_none (by simpa using Nat.le_of_not_lt hj)]
    rw [hl]
    subst hsep
    refine ⟨hjok, fun t' k (htk : tk <= k) => ?_⟩
    have ej : (ts.map fun l => (⟨(escF l).toArray⟩ : Str)) = (ts.map escF).map fun l => ⟨l.toArray⟩ := by rw [List.map_map]; rfl
    rw [ej, join_eq]
    have OC : Off G [H3.objs.size] K g1 := Qx I3 (zH H3)
    have O3 : Off G (H3.objs.size :: [s1.heap.objs.size]) K g1 := OC.join OI
    have hgb' : AllBare s'.gens := AllBare.movedS (AllBare.push I3.gens hgb) hm
    refine hQ g1 _ _ l1 (I3.mv O3 (s' := { s' with toks := k }) (fun b o hb e => hm.heap b o hb (hk5 b o e)) hgb' hm.os (by show 1 <= k; omega)) (zX.mpr ⟨t', rfl⟩)
 cases hnf : codeAmong gp ps.toList with
 | some cv =>
  unfold genexprCode
  refine wpAny_codeAt_hit hcode hC hnf ?_
  exact rest _ cv H2 s1.toks I2 (Nat.le_refl _) (fun b o _ e => e) (Nat.le_refl _)
 | none =>
  refine wpAny_with_toks (n := s1.toks) (Nat.le_refl _) (wpAny_genexprCodeX hcode hC hT hnf fun c' h' tk hx hge hlt' _ hrec htb _ (htk : s1.toks <= tk) => ?_)
  have I3 := I2.table (h' := h') tk (ps' := ps ++ #[rawInt gp.line, rawInt gp.col, .ref c']) (fun _ _ => False) (fun b o hb e => hx b o hb e) htb.2 (fun b o e => e.elim)
   (by
    have hl : (ps ++ #[rawInt gp.line, rawInt gp.col, Value.ref c']).toList = ps.toList ++ [rawInt gp.line, rawInt gp.col, .ref c'] := by simp
    refine ⟨by rw [hl]; exact TriplesOk_snoc _ _ _ _ ht.1, fun pos' cv hpos hc => ?_⟩
    rw [hl] at hc
    rcases QK _ ht.1 hc with h | ⟨q, _⟩
    ·obtain ⟨c1, oc1, vs1, t1, q1, q2, q3, q4⟩ := ht.2 pos' cv hpos h
     exact ⟨c1, oc1, vs1, t1, q1, .inl q2, q3, q4⟩
    ·exfalso; have : gp.line = pos'.line := by exact_mod_cast q
     omega)
  have eg : ({ g1 with B := fun b o => g1.B b o ∨ False } : Gh) = g1 := by cases g1; simp
  rw [eg] at I3
  exact rest _ (.ref c') h' tk I3 htk hx (Nat.le_of_lt (Nat.lt_of_le_of_lt hge hlt'))
end
open PySem.Builtin PySem.Builtin.Str in
theorem occ_none (x y : Str) (lo : Nat) (hy : 0 < y.length) : occurrences x y lo lo 1 = [] := by
 unfold occurrences
 have h : ¬ (lo + y.length <= lo) := by omega
 simp [Id.run, h]
 rfl
open PySem.Builtin PySem.Builtin.Str in
theorem gives_find4 (x y : Str) (i : Nat) (k j : Int) (t u v v2 : Tok) (hk : k = i) (hj : j = i) (hi : i <= x.length) (hy : 0 < y.length) : Gives («str.find» ⟨[.str x t, .str y u, .int k v, .int j v2], []⟩) (.int (-1)) := by
 show Gives (match occurrences x y (fromIndex x.length k) (min (fromIndex x.length j) x.length) 1 with | k :: _ => retInt k | [] => (do rule "str.find.not-found"; retInt (-1))) _
 have e1 : fromIndex x.length k = i := by subst hk; unfold fromIndex; rw [if_neg (Int.not_lt.mpr (Int.natCast_nonneg i)), Int.max_eq_right (Int.natCast_nonneg _), Int.toNat_natCast]
 have e2 : fromIndex x.length j = i := by rw [hj, <- hk]; exact e1
 rw [e1, e2, Nat.min_eq_left hi, occ_none x y i hy]
 exact .rule (.of_eq rfl)
noncomputable def findF (σ : St) (o : AV) (args : List AV) : Option (AV × St) := args.head?.bind fun x => (two? args.tail).bind fun p => o.s?.bind fun l => x.s?.bind fun s => p.1.i?.bind fun k => p.2.i?.bind fun j => if s.length = 1 /\ 0 <= k /\ k = j /\ j <= l.length then some (.int (-1), σ) else Option.none
theorem findF_inv {σ σ' : St} {o r : AV} {args : List AV} (h : findF σ o args = some (r, σ')) : ∃ l c k, o = .str l /\ args = [.str [c], .int k, .int k] /\ 0 <= k /\ k <= l.length /\ r = .int (-1) /\ σ' = σ := by
 obtain ⟨x, ex, h⟩ := bS h
 obtain ⟨⟨y, z⟩, ep, h⟩ := bS h
 obtain ⟨l, h1, h⟩ := bS h
 obtain ⟨s, h2, h⟩ := bS h
 obtain ⟨k, h3, h⟩ := bS h
 obtain ⟨j, h4, h⟩ := bS h
 obtain ⟨hc, h⟩ := iS h
 obtain ⟨e1, e2⟩ := Prod.mk.inj (Option.some.inj h)
 obtain ⟨hs, h0, hj, h5⟩ := hc
 obtain ⟨c, hs⟩ := List.length_eq_one_iff.mp hs
 obtain ⟨t, et⟩ := List.head?_eq_some_iff.mp ex
 rw [et] at ep
 refine ⟨l, c, k, AV.str_of h1, ?_, h0, hj ▸ h5, e1.symm, e2.symm⟩
 rw [et, show t = [y, z] from two_of ep, AV.str_of h2, hs, show y = _ from AV.int_of h3, show z = _ from AV.int_of h4, hj]
theorem o_find {h : Nat} : OpM h "str.find" findF := by
 intro G K g σ σ' o r args ov va A s Q E ok hA I ro ra hf hQ
 obtain ⟨l, c, k, rfl, rfl, h0, h1, rfl, rfl⟩ := findF_inv hf
 obtain ⟨t, rfl⟩ := zX.mp ro
 obtain ⟨v1, vs1, rfl, r1, r2⟩ := RVs.head ra
 obtain ⟨v2, v3, rfl, r2, r3⟩ := zbx r2
 obtain ⟨u1, rfl⟩ := zX.mp r1
 obtain ⟨u2, rfl⟩ := zw.mp r2
 obtain ⟨u3, rfl⟩ := zw.mp r3
 refine call_gives F.slot_str_find (typeIs_str _ _ _) F.entry_str_find (F.args_str_find_4 _ _ _ _) (gives_find4 _ _ k.toNat k k _ _ _ _ (by omega) (by omega) (by show k.toNat <= l.toArray.size; simp; omega) (by show 0 < [c].toArray.size; simp)) ?_
 exact hQ g _ _ g.le_refl (I.tok _) (zw.mpr ⟨_, rfl⟩)
section
variable {V : Vis} {h : Nat}
theorem sS_assignE {x : Str} {i : Nat} {p pos : Pos} {e : Expr} {m : PM AV} (hx : (x, i) ∈ V.nm) (he : SE V h e m) (hs : ∀ env G vl, EOk V G vl env -> swapsWith e (some (.Name x p)) pos.line env = pure false) :
  SS V h (.Assign [.Name x p] e pos) (zr i m) := by
 intro G K g σ σ' r A env s Q E ok hA hE I hm hQ
 obtain ⟨v, σ₁, e1, e2⟩ := PM.bd_some hm
 cases e2
 refine wpAny_Assign_Name (he G K g σ σ₁ v A env s _ E ok hA hE I e1 fun g' a s' hle I' hr => ?_) (hs env G g.vl hE)
 exact XW hx (hE.le hle) I' hr fun s'' I'' => hQ g' _ s'' hle I'' rfl
theorem sw_cell {x : Str} {p pos : Pos} {elt : Expr} {gens : List Comprehension} {scope : Scope} {line : Nat} (hx : x ∈ V.cc) :
  ∀ (env : Env) (G : GC) (vl : Nat -> Yb), EOk V G vl env -> swapsWith (.ListComp elt gens scope pos) (some (.Name x p)) line env = pure false := by
 intro env G vl hE
 have h1 := hE.cc x hx
 have h3 : env.blockKind = .function := by unfold Env.blockKind; rw [hE.kind]; rfl
 show (pure (env.blockKind == .function && env.kindOf x == some .local && p.line == pos.line && !(scope.names.any fun (n, k) => n == x && (k == .local || k == .cell))) : Sem Bool) = pure false
 rw [h1, h3]; rfl
end
theorem gm {α : Type} {l : List α} {a : α} (i : Nat) (h : l[i]? = some a) : a ∈ l := List.mem_of_getElem? h
noncomputable def Vis.hv (V : Vis) (x : Str) (i : Nat) : Bool := decide ((x, i) ∈ V.nm) && !(x == ("__debug__" : Str)) && !(x == ("__classdict__" : Str))
theorem sV {V : Vis} {h : Nat} {x : Str} {i : Nat} {pos : Pos} (hc : V.hv x i = true := by kernel_rfl) : SE V h (.Name x pos) (za i) := by
 simp only [Vis.hv, Bool.and_eq_true, Bool.not_eq_true', decide_eq_true_eq] at hc
 exact sE_var hc.1.1 hc.1.2 hc.2
noncomputable def bndP : List Str -> (List Value -> Prop) -> Prop
 | [], p => p []
 | _ :: r, p => ∀ a, bndP r fun l => p (a :: l)
theorem bndP_use : ∀ (ps : List Str) (p : List Value -> Prop), bndP ps p -> ∀ va : List Value, va.length = ps.length -> p va
 | [], _, h, [], _ => h
 | _ :: r, _, h, a :: l, e => bndP_use r _ (h a) l (Nat.succ.inj e)
noncomputable def gcL : List Nat := [2,3,4,5,6,9,14,15,17,19,20,21,22,23,24,25,26,27,28,29,30,31,32]
theorem ZI {F : FI} {h : Nat} {m : PM FL} (i : Nat) (hd : F.d = defAt i) (hok : F.ok = true) (hs : SBt F.vis h F.d.body m)
  (hb : ∀ (pm cd doc : Value), bndP F.ps fun va => bindArgs (docDef F.d.name F.d.params F.d.body F.d.scope pm cd doc) ⟨va, []⟩ = pure (F.ps.zip va)) (hi : gcL.contains i = true) (hcx : ∀ G E, F.cx G E) : FN (h + 1) F.d.name (ZY F m) :=
 fn_sound (FI.ok_of hok) hs _ (fun va pm cd doc => bndP_use F.ps _ (hb pm cd doc) va) (fun G gok => by
  obtain ⟨a, o, pm, cd, doc, h1, h2, h3, h4⟩ := gok.fn i (List.contains_iff_mem.mp hi)
  rw [<- hd] at h1 h3 h4
  exact ⟨a, o, pm, cd, doc, h1, h2, h3, h4, fun _ _ => hcx _ _⟩) fun _ _ _ _ => runF_some
noncomputable def F_siftdown : FI := { d := defAt 5, ps := ["heap", "startpos", "pos"], nm := [("heap", false), ("startpos", false), ("pos", false), ("newitem", false), ("parentpos", false), ("parent", false)], gl := [], extra := 0 }
noncomputable def V_siftdown : Vis := { nm := [("heap", 0), ("startpos", 1), ("pos", 2), ("newitem", 3), ("parentpos", 4), ("parent", 5)], gl := [], lc := ["heap", "startpos", "pos", "newitem", "parentpos", "parent"], cc := [], cp := [], fs := [] }
noncomputable def Ze : PM Bool := (zO gtF (za 2) (za 1))
noncomputable def Zf : PM FL := (zi (zr 4 (zk shrF (zk subF (za 2) (PM.ok (.int 1))) (PM.ok (.int 1))))
 (zi (zr 5 (zk zn (za 0) (za 4)))
 (zi (Zn (zO ltD (za 3) (za 5)) (zi (setM (za 0) (za 2) (za 5))
 (zi (zr 2 (za 4))
 (zi (PM.ok .cont)
 (PM.ok .next)))) (PM.ok .next))
 (zi (PM.ok .brk)
 (PM.ok .next)))))
noncomputable def w_siftdown_1 : PM FL := zA Ze Zf 100000
noncomputable def zbh : PM FL := (zi (zr 3 (zk zn (za 0) (za 2)))
 (zi w_siftdown_1
 (zi (setM (za 0) (za 2) (za 3))
 (PM.ok .next))))
theorem s_siftdown : SB V_siftdown 2 (defAt 5).body zbh := (zb (zg (gm 3 rfl) (zv sV sV (fun _ _ => rfl)))
 (zb (yQ (zu sV sV c_gt (by rfl)) (zb (zg (gm 4 rfl) (zo (zo sV zh op_sub) zh op_shr))
 (zb (zg (gm 5 rfl) (zv sV sV (fun _ _ => rfl)))
 (zb (yp (zu sV sV Xx (by rfl)) (zb (zbg sV sV sV (fun _ => rfl))
 (zb (zg (gm 2 rfl) sV)
 (zb sS_continue
 zj))) zj)
 (zb zbu
 zj)))) 100000)
 (zb (zbg sV sV sV (fun _ => rfl))
 zj)))
noncomputable def QO := ZY F_siftdown zbh
theorem fn_siftdown : FN 3 (defAt 5).name QO := ZI 5 rfl (by kernel_rfl) s_siftdown.t (fun _ _ _ _ _ _ => rfl) rfl fun _ _ => trivial
noncomputable def F_siftup : FI := { d := defAt 6, ps := ["heap", "pos"], nm := [("heap", false), ("pos", false), ("endpos", false), ("startpos", false), ("newitem", false), ("childpos", false), ("rightpos", false)], gl := ["_siftdown", "len"], extra := 0 }
noncomputable def V_siftup : Vis := { nm := [("heap", 0), ("pos", 1), ("endpos", 2), ("startpos", 3), ("newitem", 4), ("childpos", 5), ("rightpos", 6)], gl := ["_siftdown", "len"], lc := ["heap", "pos", "endpos", "startpos", "newitem", "childpos", "rightpos"], cc := [], cp := [], fs := [] }
noncomputable def ZW : PM Bool := (zO ltD (za 5) (za 2))
noncomputable def XR : PM FL := (zi (zr 6 (zk zQ (za 5) (PM.ok (.int 1))))
 (zi (Zn (YG (zO ltD (za 6) (za 2)) (YG (notM (zO ltD (zk zn (za 0) (za 5)) (zk zn (za 0) (za 6)))) (PM.ok true))) (zi (zr 5 (za 6))
 (PM.ok .next)) (PM.ok .next))
 (zi (setM (za 0) (za 1) (zk zn (za 0) (za 5)))
 (zi (zr 1 (za 5))
 (zi (zr 5 (zk zQ (zk mulF (PM.ok (.int 2)) (za 1)) (PM.ok (.int 1))))
 (PM.ok .next))))))
noncomputable def w_siftup_1 : PM FL := zA ZW XR 100000
noncomputable def m_siftup : PM FL := (zi (zr 2 (yL yn (zd (za 0) (PM.ok []))))
 (zi (zr 3 (za 1))
 (zi (zr 4 (zk zn (za 0) (za 1)))
 (zi (zr 5 (zk zQ (zk mulF (PM.ok (.int 2)) (za 1)) (PM.ok (.int 1))))
 (zi w_siftup_1
 (zi (setM (za 0) (za 1) (za 4))
 (zi (yy (ye QO (zd (za 0) (zd (za 3) (zd (za 1) (PM.ok []))))))
 (PM.ok .next))))))))
theorem s_siftup : SB V_siftup 5 (defAt 6).body m_siftup := (zb (zg (gm 2 rfl) (yg (id := "len") (gm 1 rfl) (by decide) dk dk (by decide) Zo (zc sV ze)))
 (zb (zg (gm 3 rfl) sV)
 (zb (zg (gm 4 rfl) (zv sV sV (fun _ _ => rfl)))
 (zb (zg (gm 5 rfl) (zo (zo zh sV op_mul) zh zC))
 (zb (yQ (zu sV sV Xx (by rfl)) (zb (zg (gm 6 rfl) (zo sV zh zC))
 (zb (yp (yN (zu sV sV Xx (by rfl)) (yN (QR (zu (zv sV sV (fun _ _ => rfl)) (zv sV sV (fun _ _ => rfl)) Xx (by rfl))) yM)) (zb (zg (gm 5 rfl) sV)
 zj) zj)
 (zb (zbg sV sV (zv sV sV (fun _ _ => rfl)) (fun _ => rfl))
 (zb (zg (gm 1 rfl) sV)
 (zb (zg (gm 5 rfl) (zo (zo zh sV op_mul) zh zC))
 zj))))) 100000)
 (zb (zbg sV sV sV (fun _ => rfl))
 (zb (zR (zS (i := 5) (gm 0 rfl) (by decide) dk dk fn_siftdown (by decide) (zc sV (zc sV (zc sV ze)))) (fun _ => rfl))
 zj)))))))
noncomputable def Qh := ZY F_siftup m_siftup
theorem fn_siftup : FN 6 (defAt 6).name Qh := ZI 6 rfl (by kernel_rfl) s_siftup.t (fun _ _ _ _ _ => rfl) rfl fun _ _ => trivial
noncomputable def F_heappop : FI := { d := defAt 2, ps := ["heap"], nm := [("heap", false), ("lastelt", false), ("returnitem", false)], gl := ["_siftup"], extra := 0 }
noncomputable def V_heappop : Vis := { nm := [("heap", 0), ("lastelt", 1), ("returnitem", 2)], gl := ["_siftup"], lc := ["heap", "lastelt", "returnitem"], cc := [], cp := [], fs := [] }
noncomputable def zap : PM FL := (zi (zr 1 (Zd "list" popF (za 0) (PM.ok [])))
 (zi (Zn (YJ (za 0)) (zi (zr 2 (zk zn (za 0) (PM.ok (.int 0))))
 (zi (setM (za 0) (PM.ok (.int 0)) (za 1))
 (zi (yy (ye Qh (zd (za 0) (zd (PM.ok (.int 0)) (PM.ok [])))))
 (zi (ZZ (za 2))
 (PM.ok .next))))) (PM.ok .next))
 (zi (ZZ (za 1))
 (PM.ok .next))))
theorem s_heappop : SB V_heappop 8 (defAt 2).body zap := (zb (zg (gm 1 rfl) (sE_meth0 F.plainAttrs_list F.slot_list_pop F.type_list_pop sV o_pop (fun _ => rfl) (by rfl)))
 (zb (yp (yZ sV (fun _ _ => rfl)) (zb (zg (gm 2 rfl) (zv sV zh (fun _ _ => rfl)))
 (zb (zbg sV zh sV (fun _ => rfl))
 (zb (zR (zS (i := 6) (gm 0 rfl) (by decide) dk dk fn_siftup (by decide) (zc sV (zc zh ze))) (fun _ => rfl))
 (zb (zz sV)
 zj)))) zj)
 (zb (zz sV)
 zj)))
noncomputable def Xi := ZY F_heappop zap
theorem fn_heappop : FN 9 (defAt 2).name Xi := ZI 2 rfl (by kernel_rfl) s_heappop.t (fun _ _ _ _ => rfl) rfl fun _ _ => trivial
noncomputable def zbb : FI := { d := defAt 3, ps := ["heap", "item"], nm := [("heap", false), ("item", false), ("returnitem", false)], gl := ["_siftup"], extra := 0 }
noncomputable def V_heapreplace : Vis := { nm := [("heap", 0), ("item", 1), ("returnitem", 2)], gl := ["_siftup"], lc := ["heap", "item", "returnitem"], cc := [], cp := [], fs := [] }
noncomputable def Qb : PM FL := (zi (zr 2 (zk zn (za 0) (PM.ok (.int 0))))
 (zi (setM (za 0) (PM.ok (.int 0)) (za 1))
 (zi (yy (ye Qh (zd (za 0) (zd (PM.ok (.int 0)) (PM.ok [])))))
 (zi (ZZ (za 2))
 (PM.ok .next)))))
theorem s_heapreplace : SB V_heapreplace 8 (defAt 3).body Qb := (zb (zg (gm 2 rfl) (zv sV zh (fun _ _ => rfl)))
 (zb (zbg sV zh sV (fun _ => rfl))
 (zb (zR (zS (i := 6) (gm 0 rfl) (by decide) dk dk fn_siftup (by decide) (zc sV (zc zh ze))) (fun _ => rfl))
 (zb (zz sV)
 zj))))
noncomputable def Xh := ZY zbb Qb
theorem fn_heapreplace : FN 9 (defAt 3).name Xh := ZI 3 rfl (by kernel_rfl) s_heapreplace.t (fun _ _ _ _ _ => rfl) rfl fun _ _ => trivial
noncomputable def F_heapify : FI := { d := defAt 4, ps := ["x"], nm := [("x", false), ("n", false), ("i", false)], gl := ["_siftup", "len", "range", "reversed"], extra := 0 }
noncomputable def V_heapify : Vis := { nm := [("x", 0), ("n", 1), ("i", 2)], gl := ["_siftup", "len", "range", "reversed"], lc := ["x", "n", "i"], cc := [], cp := [], fs := [] }
noncomputable def Xf : PM FL := (zi (yy (ye Qh (zd (za 0) (zd (za 2) (PM.ok [])))))
 (PM.ok .next))
noncomputable def m_heapify : PM FL := (zi (zr 1 (yL yn (zd (za 0) (PM.ok []))))
 (zi (forS (rrngM (zd (zk divF (za 1) (PM.ok (.int 2))) (PM.ok []))) (.one 2) Xf)
 (PM.ok .next)))
theorem s_heapify : SB V_heapify 8 (defAt 4).body m_heapify := (zb (zg (gm 1 rfl) (yg (id := "len") (gm 1 rfl) (by decide) dk dk (by decide) Zo (zc sV ze)))
 (zb (sS_for (si_revrange (gm 3 rfl) (gm 2 rfl) (zc (zo sV zh op_div) ze) (fun _ => rfl) (fun _ _ => rfl)) (Zt.one (gm 2 rfl)) (zb (zR (zS (i := 6) (gm 0 rfl) (by decide) dk dk fn_siftup (by decide) (zc sV (zc sV ze))) (fun _ => rfl))
 zj) (fun _ _ => rfl))
 zj))
noncomputable def zbc := ZY F_heapify m_heapify
theorem fn_heapify : FN 9 (defAt 4).name zbc := ZI 4 rfl (by kernel_rfl) s_heapify.t (fun _ _ _ _ => rfl) rfl fun _ _ => trivial
noncomputable def ZL : FI := { d := defAt 17, ps := ["expected", "actual"], nm := [("expected", false), ("actual", false), ("i", false), ("j", false), ("missing", false), ("unexpected", false), ("e", false), ("a", false)], gl := ["IndexError"], extra := 0 }
noncomputable def Qg : Vis := { nm := [("expected", 0), ("actual", 1), ("i", 2), ("j", 3), ("missing", 4), ("unexpected", 5), ("e", 6), ("a", 7)], gl := ["IndexError"], lc := ["expected", "actual", "i", "j", "missing", "unexpected", "e", "a"], cc := [], cp := [], fs := [] }
noncomputable def yc : XM Bool := (xcmpM eqD (QP (za 0) (za 2)) (za 6))
noncomputable def Zl : XM FL := (yP (xl (zag 2 (PM.ok (.int 1))))
 (PM.ok (.ok .next)))
noncomputable def Xn : XM FL := yI yc Zl 100000
noncomputable def yb : XM Bool := (xcmpM eqD (QP (za 1) (za 3)) (za 7))
noncomputable def Zk : XM FL := (yP (xl (zag 3 (PM.ok (.int 1))))
 (PM.ok (.ok .next)))
noncomputable def Xm : XM FL := yI yb Zk 100000
noncomputable def Xc : XM Bool := (xcmpM eqD (QP (za 0) (za 2)) (za 6))
noncomputable def Xe : XM FL := (yP (xl (zag 2 (PM.ok (.int 1))))
 (PM.ok (.ok .next)))
noncomputable def Xl : XM FL := yI Xc Xe 100000
noncomputable def Xb : XM Bool := (xcmpM eqD (QP (za 1) (za 3)) (za 7))
noncomputable def Xd : XM FL := (yP (xl (zag 3 (PM.ok (.int 1))))
 (PM.ok (.ok .next)))
noncomputable def Xk : XM FL := yI Xb Xd 100000
noncomputable def yx : XM Bool := (xl (YJ (PM.ok (.bool true))))
noncomputable def zf : XM FL := (yP (xtryM (yP (xsetVM 6 (QP (za 0) (za 2)))
 (yP (xsetVM 7 (QP (za 1) (za 3)))
 (yP (xiteM (zO ltD (za 6) (za 7)) (yP (xl (yy (Zd "list" zK (za 4) (zd (za 6) (PM.ok [])))))
 (yP (xl (zag 2 (PM.ok (.int 1))))
 (yP Xn
 (PM.ok (.ok .next))))) (yP (xiteM (zO gtF (za 6) (za 7)) (yP (xl (yy (Zd "list" zK (za 5) (zd (za 7) (PM.ok [])))))
 (yP (xl (zag 3 (PM.ok (.int 1))))
 (yP Xm
 (PM.ok (.ok .next))))) (yP (xl (zag 2 (PM.ok (.int 1))))
 (yP (xfinM (yP Xl
 (PM.ok (.ok .next))) (yP (xl (zag 3 (PM.ok (.int 1))))
 (yP Xk
 (PM.ok (.ok .next)))))
 (PM.ok (.ok .next)))))
 (PM.ok (.ok .next))))
 (PM.ok (.ok .next))))) (zi (yy (Zd "list" XN (za 4) (zd (ZR (za 0) (Zb (za 2)) (PM.ok Option.none)) (PM.ok []))))
 (zi (yy (Zd "list" XN (za 5) (zd (ZR (za 1) (Zb (za 3)) (PM.ok Option.none)) (PM.ok []))))
 (zi (PM.ok .brk)
 (PM.ok .next)))))
 (PM.ok (.ok .next)))
noncomputable def Xj : XM FL := yI yx zf 100000
noncomputable def ZH : PM FL := (xfnM (yP (xl (set2M 2 3 (PM.ok (.int 0))))
 (yP (xl (zr 4 (Zc (PM.ok []))))
 (yP (xl (zr 5 (Zc (PM.ok []))))
 (yP Xj
 (yP (xl (ZZ (YI (zd (fzM (za 4)) (zd (fzM (za 5)) (PM.ok []))))))
 (PM.ok (.ok .next))))))))
theorem XX : SBt Qg 2 (defAt 17).body ZH := (x_fn (zZ (ZP (sS_assign2 (gm 2 rfl) (gm 3 rfl) zh (fun _ => rfl)))
 (zZ (ZP (zg (gm 4 rfl) (yR ze)))
 (zZ (ZP (zg (gm 5 rfl) (yR ze)))
 (zZ (QQ (ZP (yZ YC (fun _ _ => rfl))) (zZ (xS_try (gm 0 rfl) (zZ (xS_assign (gm 6 rfl) (zaj sV sV (fun _ _ => rfl)) (fun _ => rfl))
 (zZ (xS_assign (gm 7 rfl) (zaj sV sV (fun _ _ => rfl)) (fun _ => rfl))
 (zZ (xS_if (zu sV sV Xx (by rfl)) (zZ (ZP (zR (yC F.plainAttrs_list F.slot_list_append F.type_list_append sV (zc sV ze) Zp) (fun _ => rfl)))
 (zZ (ZP (Yg (gm 2 rfl) dk zh))
 (zZ (QQ (xT_cmp (zaj sV sV (fun _ _ => rfl)) sV yu (by rfl)) (zZ (ZP (Yg (gm 2 rfl) dk zh))
 Ys) 100000)
 Ys))) (zZ (xS_if (zu sV sV c_gt (by rfl)) (zZ (ZP (zR (yC F.plainAttrs_list F.slot_list_append F.type_list_append sV (zc sV ze) Zp) (fun _ => rfl)))
 (zZ (ZP (Yg (gm 3 rfl) dk zh))
 (zZ (QQ (xT_cmp (zaj sV sV (fun _ _ => rfl)) sV yu (by rfl)) (zZ (ZP (Yg (gm 3 rfl) dk zh))
 Ys) 100000)
 Ys))) (zZ (ZP (Yg (gm 2 rfl) dk zh))
 (zZ (xS_finally (zZ (QQ (xT_cmp (zaj sV sV (fun _ _ => rfl)) sV yu (by rfl)) (zZ (ZP (Yg (gm 2 rfl) dk zh))
 Ys) 100000)
 Ys) (zZ (ZP (Yg (gm 3 rfl) dk zh))
 (zZ (QQ (xT_cmp (zaj sV sV (fun _ _ => rfl)) sV yu (by rfl)) (zZ (ZP (Yg (gm 3 rfl) dk zh))
 Ys) 100000)
 Ys)))
 Ys)))
 Ys))
 Ys))) (zb (zR (yC F.plainAttrs_list F.slot_list_extend F.type_list_extend sV (zc (yO sV (zT sV) Zi) ze) o_extend) (fun _ => rfl))
 (zb (zR (yC F.plainAttrs_list F.slot_list_extend F.type_list_extend sV (zc (yO sV (zT sV) Zi) ze) o_extend) (fun _ => rfl))
 (zb zbu
 zj))))
 Ys) 100000)
 (zZ (ZP (zz (yw (zc (sE_fz sV) (zc (sE_fz sV) ze)))))
 Ys))))))
noncomputable def yG := ZY ZL ZH
theorem XB : FN 3 (defAt 17).name yG := ZI 17 rfl (by kernel_rfl) XX (fun _ _ _ _ _ => rfl) rfl fun _ _ => trivial
noncomputable def F_tr : FI := { d := defAt 14, ps := ["pat", "STAR", "QUESTION_MARK"], nm := [("pat", false), ("STAR", false), ("QUESTION_MARK", false), ("res", false), ("add", false), ("i", false), ("n", false), ("c", false), ("j", false), ("stuff", false), ("chunks", false), ("k", false), ("chunk", false)], gl := ["_twin_re_1", "escape", "len", "range"], extra := 0, cx := trCx }
noncomputable def V_tr : Vis := { nm := [("pat", 0), ("STAR", 1), ("QUESTION_MARK", 2), ("res", 3), ("add", 4), ("i", 5), ("n", 6), ("c", 7), ("j", 8), ("stuff", 9), ("chunks", 10), ("k", 11), ("chunk", 12)], gl := ["_twin_re_1", "escape", "len", "range"], lc := ["pat", "STAR", "QUESTION_MARK", "res", "add", "i", "n", "c", "j", "stuff", "chunks", "k", "chunk"], cc := [], cp := [], fs := [], cx := trCx }
noncomputable def zcj : PM Bool := (YG (zO ltD (za 8) (za 6)) (YG (zO neD (zk zn (za 0) (za 8)) (PM.ok (.str [93]))) (PM.ok true)))
noncomputable def bw_tr_1 : PM FL := (zi (zr 8 (zk zQ (za 8) (PM.ok (.int 1))))
 (PM.ok .next))
noncomputable def w_tr_1 : PM FL := zA zcj bw_tr_1 100000
noncomputable def cw_tr_2 : PM Bool := (YJ (PM.ok (.bool true)))
noncomputable def bw_tr_2 : PM FL := (zi (zr 11 (Zd "str" findF (za 0) (zd (PM.ok (.str [45])) (zd (za 11) (zd (za 8) (PM.ok []))))))
 (zi (Zn (zO ltD (za 11) (PM.ok (.int 0))) (zi (PM.ok .brk)
 (PM.ok .next)) (PM.ok .next))
 (zi (yy (Zd "list" zK (za 10) (zd (ZR (za 0) (Zb (za 5)) (Zb (za 11))) (PM.ok []))))
 (zi (zr 5 (zk zQ (za 11) (PM.ok (.int 1))))
 (zi (zr 11 (zk zQ (za 11) (PM.ok (.int 3))))
 (PM.ok .next))))))
noncomputable def w_tr_2 : PM FL := zA cw_tr_2 bw_tr_2 100000
noncomputable def ba_tr_1 : PM FL := (zi (setM (za 10) (zk subF (za 11) (PM.ok (.int 1))) (zk zQ (ZR (zk zn (za 10) (zk subF (za 11) (PM.ok (.int 1)))) (PM.ok Option.none) (Zb (Zg Qy (PM.ok (.int 1))))) (ZR (zk zn (za 10) (za 11)) (Zb (PM.ok (.int 1))) (PM.ok Option.none))))
 (zi (fun _ => Option.none)
 (PM.ok .next)))
noncomputable def bf_tr_1 : PM FL := (zi (Zn (zO gtF (zk zn (zk zn (za 10) (zk subF (za 11) (PM.ok (.int 1)))) (Zg Qy (PM.ok (.int 1)))) (zk zn (zk zn (za 10) (za 11)) (PM.ok (.int 0)))) ba_tr_1 (PM.ok .next))
 (PM.ok .next))
noncomputable def ba_tr_2 : PM FL := (zi (zr 10 (Zc (PM.ok [])))
 (zi (zr 11 (iteE (zO eqD (zk zn (za 0) (za 5)) (PM.ok (.str [33]))) (zk zQ (za 5) (PM.ok (.int 2))) (zk zQ (za 5) (PM.ok (.int 1)))))
 (zi w_tr_2
 (zi (zr 12 (ZR (za 0) (Zb (za 5)) (Zb (za 8))))
 (zi (Zn (YJ (za 12)) (zi (yy (Zd "list" zK (za 10) (zd (za 12) (PM.ok []))))
 (PM.ok .next)) (zi (fun _ => Option.none)
 (PM.ok .next)))
 (zi (forS (rngM (zd (zk subF (yL yn (zd (za 10) (PM.ok []))) (PM.ok (.int 1))) (zd (PM.ok (.int 0)) (zd (Zg Qy (PM.ok (.int 1))) (PM.ok []))))) (.one 11) bf_tr_1)
 (zi (zr 9 (Zg (gxF [45]) (za 10)))
 (PM.ok .next))))))))
noncomputable def XT : PM FL := (zi (Zn (zO eqD (zk zn (za 9) (PM.ok (.int 0))) (PM.ok (.str [33]))) (zi (zr 9 (zk zQ (PM.ok (.str [94])) (ZR (za 9) (Zb (PM.ok (.int 1))) (PM.ok Option.none))))
 (PM.ok .next)) (zi (Zn (zO inD (zk zn (za 9) (PM.ok (.int 0))) (YI (zd (PM.ok (.str [94])) (zd (PM.ok (.str [91])) (PM.ok []))))) (zi (zr 9 (zk zQ (PM.ok (.str [92])) (za 9)))
 (PM.ok .next)) (PM.ok .next))
 (PM.ok .next)))
 (zi (yy (appM (za 4) (zd (Zg (fun _ => zay [91] [93]) (za 9)) (PM.ok []))))
 (PM.ok .next)))
noncomputable def zas : PM FL := (zi (zr 9 (ZR (za 0) (Zb (za 5)) (Zb (za 8))))
 (zi (Zn (zO ninD (PM.ok (.str [45])) (za 9)) (zi (zr 9 (Zg (fun _ => replF [92] [92, 92]) (za 9)))
 (PM.ok .next)) ba_tr_2)
 (zi (zr 9 (Zg (fun _ => Qu) (za 9)))
 (zi (zr 5 (zk zQ (za 8) (PM.ok (.int 1))))
 (zi (Zn (notM (YJ (za 9))) (zi (yy (appM (za 4) (zd (PM.ok (.str [40, 63, 33, 41])) (PM.ok []))))
 (PM.ok .next)) (zi (Zn (zO eqD (za 9) (PM.ok (.str [33]))) (zi (yy (appM (za 4) (zd (PM.ok (.str [46])) (PM.ok []))))
 (PM.ok .next)) XT)
 (PM.ok .next)))
 (PM.ok .next))))))
noncomputable def QI : PM FL := (zi (zr 8 (za 5))
 (zi (Zn (YG (zO ltD (za 8) (za 6)) (YG (zO eqD (zk zn (za 0) (za 8)) (PM.ok (.str [33]))) (PM.ok true))) (zi (zr 8 (zk zQ (za 8) (PM.ok (.int 1))))
 (PM.ok .next)) (PM.ok .next))
 (zi (Zn (YG (zO ltD (za 8) (za 6)) (YG (zO eqD (zk zn (za 0) (za 8)) (PM.ok (.str [93]))) (PM.ok true))) (zi (zr 8 (zk zQ (za 8) (PM.ok (.int 1))))
 (PM.ok .next)) (PM.ok .next))
 (zi w_tr_1
 (zi (Zn (zO geF (za 8) (za 6)) (zi (yy (appM (za 4) (zd (PM.ok (.str [92, 91])) (PM.ok []))))
 (PM.ok .next)) zas)
 (PM.ok .next))))))
noncomputable def zci : PM Bool := (zO ltD (za 5) (za 6))
noncomputable def XQ : PM FL := (zi (zr 7 (zk zn (za 0) (za 5)))
 (zi (zr 5 (zk zQ (za 5) (PM.ok (.int 1))))
 (zi (Zn (zO eqD (za 7) (PM.ok (.str [42]))) (zi (Zn (orM (notM (YJ (za 3))) (orM (zO nisF (zk zn (za 3) (Zg Qy (PM.ok (.int 1)))) (za 1)) (PM.ok false))) (zi (yy (appM (za 4) (zd (za 1) (PM.ok []))))
 (PM.ok .next)) (PM.ok .next))
 (PM.ok .next)) (zi (Zn (zO eqD (za 7) (PM.ok (.str [63]))) (zi (yy (appM (za 4) (zd (za 2) (PM.ok []))))
 (PM.ok .next)) (zi (Zn (zO eqD (za 7) (PM.ok (.str [91]))) QI (zi (fun _ => Option.none)
 (PM.ok .next)))
 (PM.ok .next)))
 (PM.ok .next)))
 (PM.ok .next))))
noncomputable def w_tr_3 : PM FL := zA zci XQ 100000
noncomputable def m_tr : PM FL := (zi (zr 3 (Zc (PM.ok [])))
 (zi (zr 4 (Zg appF (za 3)))
 (zi (unpMs (YI (zd (PM.ok (.int 0)) (zd (yL yn (zd (za 0) (PM.ok []))) (PM.ok [])))) [5, 6])
 (zi w_tr_3
 (zi (zcm (zO eqD (za 5) (za 6)))
 (zi (ZZ (fzM (za 3)))
 (PM.ok .next)))))))
theorem s_tr : SB V_tr 2 (defAt 14).body m_tr := (zb (zg (gm 3 rfl) (yR ze))
 (zb (zg (gm 4 rfl) (QS sV))
 (zb (Zu (yw (zc zh (zc (yg (id := "len") (gm 2 rfl) (by decide) dk dk (by decide) Zo (zc sV ze)) ze))) (Nms.cons (gm 5 rfl) (Nms.cons (gm 6 rfl) Nms.nil)) (fun _ => rfl) (sw2 (gm 5 rfl) (gm 6 rfl) dk dk dk dk dk))
 (zb (yQ (zu sV sV Xx (by rfl)) (zb (zg (gm 7 rfl) (zv sV sV (fun _ _ => rfl)))
 (zb (zg (gm 5 rfl) (zo sV zh zC))
 (zb (yp (zu sV (zF (l := [42]) dk) yu (by rfl)) (zb (yp (sT_or (QR (yZ sV (fun _ _ => rfl))) (sT_or (zu (zv sV (Yh zh ZQ) (fun _ _ => rfl)) sV c_nis (by rfl)) sT_or_nil)) (zb (zR (Xr sV (zc sV ze) (fun _ => rfl)) (fun _ => rfl))
 zj) zj)
 zj) (zb (yp (zu sV (zF (l := [63]) dk) yu (by rfl)) (zb (zR (Xr sV (zc sV ze) (fun _ => rfl)) (fun _ => rfl))
 zj) (zb (yp (zu sV (zF (l := [91]) dk) yu (by rfl)) (zb (zg (gm 8 rfl) sV)
 (zb (yp (yN (zu sV sV Xx (by rfl)) (yN (zu (zv sV sV (fun _ _ => rfl)) (zF (l := [33]) dk) yu (by rfl)) yM)) (zb (zg (gm 8 rfl) (zo sV zh zC))
 zj) zj)
 (zb (yp (yN (zu sV sV Xx (by rfl)) (yN (zu (zv sV sV (fun _ _ => rfl)) (zF (l := [93]) dk) yu (by rfl)) yM)) (zb (zg (gm 8 rfl) (zo sV zh zC))
 zj) zj)
 (zb (yQ (yN (zu sV sV Xx (by rfl)) (yN (zu (zv sV sV (fun _ _ => rfl)) (zF (l := [93]) dk) c_neD (by rfl)) yM)) (zb (zg (gm 8 rfl) (zo sV zh zC))
 zj) 100000)
 (zb (yp (zu sV sV c_ge (by rfl)) (zb (zR (Xr sV (zc (zF (l := [92, 91]) dk) ze) (fun _ => rfl)) (fun _ => rfl))
 zj) (zb (zg (gm 9 rfl) (yO sV (zT sV) (zT sV)))
 (zb (yp (zu (zF (l := [45]) dk) sV c_nin (by rfl)) (zb (zg (gm 9 rfl) (sE_replace (la := [92]) (lb := [92, 92]) sV dk dk dk (fun _ => rfl) (by rfl)))
 zj) (zb (zg (gm 10 rfl) (yR ze))
 (zb (zg (gm 11 rfl) (sE_ife (zu (zv sV sV (fun _ _ => rfl)) (zF (l := [33]) dk) yu (by rfl)) (zo sV zh zC) (zo sV zh zC)))
 (zb (yQ (yZ YC (fun _ _ => rfl)) (zb (zg (gm 11 rfl) (yC F.plainAttrs_str F.slot_str_find F.type_str_find sV (zc (zF (l := [45]) dk) (zc sV (zc sV ze))) o_find))
 (zb (yp (zu sV zh Xx (by rfl)) (zb zbu
 zj) zj)
 (zb (zR (yC F.plainAttrs_list F.slot_list_append F.type_list_append sV (zc (yO sV (zT sV) (zT sV)) ze) Zp) (fun _ => rfl))
 (zb (zg (gm 5 rfl) (zo sV zh zC))
 (zb (zg (gm 11 rfl) (zo sV zh zC))
 zj))))) 100000)
 (zb (zg (gm 12 rfl) (yO sV (zT sV) (zT sV)))
 (zb (yp (yZ sV (fun _ _ => rfl)) (zb (zR (yC F.plainAttrs_list F.slot_list_append F.type_list_append sV (zc sV ze) Zp) (fun _ => rfl))
 zj) (zb dead_S
 zj))
 (zb (sS_for (zbs (gm 3 rfl) (zc (zo (yg (id := "len") (gm 2 rfl) (by decide) dk dk (by decide) Zo (zc sV ze)) zh op_sub) (zc zh (zc (Yh zh ZQ) ze))) (fun _ => rfl) (fun _ _ => rfl)) (Zt.one (gm 11 rfl)) (zb (yp (zu (zv (zv sV (zo sV zh op_sub) (fun _ _ => rfl)) (Yh zh ZQ) (fun _ _ => rfl)) (zv (zv sV sV (fun _ _ => rfl)) zh (fun _ _ => rfl)) c_gt (by rfl)) (zb (zbg sV (zo sV zh op_sub) (zo (yO (zv sV (zo sV zh op_sub) (fun _ _ => rfl)) Zi (zT (Yh zh ZQ))) (yO (zv sV sV (fun _ _ => rfl)) (zT zh) Zi) zC) (fun _ => rfl))
 (zb dead_S
 zj)) zj)
 zj) (fun _ _ => rfl))
 (zb (zg (gm 9 rfl) (sE_joingen (ls := [45]) dk (fun _ _ x => x) rfl (by rfl) (by rfl) sV (by rfl) (fun _ => rfl) (fun _ => rfl) (fun _ _ => rfl)))
 zj))))))))
 (zb (zg (gm 9 rfl) (sE_sub_lam (gm 0 rfl) (fun _ _ x => x) rfl (by rfl) sV (fun _ => rfl) (by rfl) (fun _ => rfl) (fun _ => rfl) (fun _ _ => rfl)))
 (zb (zg (gm 5 rfl) (zo sV zh zC))
 (zb (yp (QR (yZ sV (fun _ _ => rfl))) (zb (zR (Xr sV (zc (zF (l := [40, 63, 33, 41]) dk) ze) (fun _ => rfl)) (fun _ => rfl))
 zj) (zb (yp (zu sV (zF (l := [33]) dk) yu (by rfl)) (zb (zR (Xr sV (zc (zF (l := [46]) dk) ze) (fun _ => rfl)) (fun _ => rfl))
 zj) (zb (yp (zu (zv sV zh (fun _ _ => rfl)) (zF (l := [33]) dk) yu (by rfl)) (zb (zg (gm 9 rfl) (zo (zF (l := [94]) dk) (yO sV (zT zh) Zi) zC))
 zj) (zb (yp (zu (zv sV zh (fun _ _ => rfl)) (yw (zc (zF (l := [94]) dk) (zc (zF (l := [91]) dk) ze))) c_in (by rfl)) (zb (zg (gm 9 rfl) (zo (zF (l := [92]) dk) sV zC))
 zj) zj)
 zj))
 (zb (zR (Xr sV (zc (sE_fstr (la := [91]) (lb := [93]) sV dk dk) ze) (fun _ => rfl)) (fun _ => rfl))
 zj)))
 zj))
 zj))))))
 zj))))) (zb dead_S
 zj))
 zj))
 zj))
 zj))) 100000)
 (zb (zam (zu sV sV yu (by rfl)))
 (zb (zz (sE_fz sV))
 zj))))))
noncomputable def φ_tr := ZY F_tr m_tr
theorem fn_tr : FN 3 (defAt 14).name φ_tr := by
 refine fn_sound (F := F_tr) (FI.ok_of dk) s_tr.t φ_tr ?_ ?_ fun _ _ _ _ => runF_some
 ·exact fun va pm cd doc => bndP_use F_tr.ps (fun va => bindArgs (docDef F_tr.d.name F_tr.d.params F_tr.d.body F_tr.d.scope pm cd doc) ⟨va, []⟩ = pure (F_tr.ps.zip va)) (fun _ _ _ => rfl) va
 ·intro G gok
  obtain ⟨a, o, pm, c, doc, h1, h2, h3, h4, h5, h6⟩ := gok.trc
  exact ⟨a, o, pm, .ref c, doc, h1, h2, h3, h4, fun _ _ => ⟨c, rfl, (by show (defAt 14).name ++ ".<locals>." = _; decide +kernel), h5, h6⟩⟩
noncomputable def Qp : FI := { d := defAt 15, ps := ["inp", "STAR"], nm := [("inp", false), ("STAR", false), ("res", false), ("add", false), ("i", false), ("n", false), ("fixed", false)], gl := ["len"], extra := 0 }
noncomputable def Qo : Vis := { nm := [("inp", 0), ("STAR", 1), ("res", 2), ("add", 3), ("i", 4), ("n", 5), ("fixed", 6)], gl := ["len"], lc := ["inp", "STAR", "res", "add", "i", "n", "fixed"], cc := [], cp := [], fs := [] }
noncomputable def zW : PM Bool := (YG (zO ltD (za 4) (za 5)) (YG (zO nisF (zk zn (za 0) (za 4)) (za 1)) (PM.ok true)))
noncomputable def yl : PM FL := (zi (yy (appM (za 3) (zd (zk zn (za 0) (za 4)) (PM.ok []))))
 (zi (zag 4 (PM.ok (.int 1)))
 (PM.ok .next)))
noncomputable def XA : PM FL := zA zW yl 100000
noncomputable def zV : PM Bool := (YG (zO ltD (za 4) (za 5)) (YG (zO nisF (zk zn (za 0) (za 4)) (za 1)) (PM.ok true)))
noncomputable def yk : PM FL := (zi (yy (Zd "list" zK (za 6) (zd (zk zn (za 0) (za 4)) (PM.ok []))))
 (zi (zag 4 (PM.ok (.int 1)))
 (PM.ok .next)))
noncomputable def Xz : PM FL := zA zV yk 100000
noncomputable def zp : PM Bool := (zO ltD (za 4) (za 5))
noncomputable def zE : PM FL := (zi (zcm (zO isF (zk zn (za 0) (za 4)) (za 1)))
 (zi (zag 4 (PM.ok (.int 1)))
 (zi (Zn (zO eqD (za 4) (za 5)) (zi (yy (appM (za 3) (zd (PM.ok (.str [46, 42])) (PM.ok []))))
 (zi (PM.ok .brk)
 (PM.ok .next))) (PM.ok .next))
 (zi (zcm (zO nisF (zk zn (za 0) (za 4)) (za 1)))
 (zi (zr 6 (Zc (PM.ok [])))
 (zi Xz
 (zi (zr 6 (Zd "str" zaw (PM.ok (.str [])) (zd (za 6) (PM.ok []))))
 (zi (Zn (zO eqD (za 4) (za 5)) (zi (yy (appM (za 3) (zd (PM.ok (.str [46, 42])) (PM.ok []))))
 (zi (yy (appM (za 3) (zd (za 6) (PM.ok []))))
 (PM.ok .next))) (zi (yy (appM (za 3) (zd (Zg (fun _ => zay [40, 63, 62, 46, 42, 63] [41]) (za 6)) (PM.ok []))))
 (PM.ok .next)))
 (PM.ok .next)))))))))
noncomputable def Xy : PM FL := zA zp zE 100000
noncomputable def yt : PM FL := (zi (zr 2 (Zc (PM.ok [])))
 (zi (zr 3 (Zg appF (za 2)))
 (zi (unpMs (YI (zd (PM.ok (.int 0)) (zd (yL yn (zd (za 0) (PM.ok []))) (PM.ok [])))) [4, 5])
 (zi XA
 (zi Xy
 (zi (zcm (zO eqD (za 4) (za 5)))
 (zi (zr 2 (Zd "str" zaw (PM.ok (.str [])) (zd (za 2) (PM.ok []))))
 (zi (ZZ (Zg (fun _ => zay [40, 63, 115, 58] [41, 92, 90]) (za 2)))
 (PM.ok .next)))))))))
theorem Qk : SB Qo 2 (defAt 15).body yt := (zb (zg (gm 2 rfl) (yR ze))
 (zb (zg (gm 3 rfl) (QS sV))
 (zb (Zu (yw (zc zh (zc (yg (id := "len") (gm 0 rfl) (by decide) dk dk (by decide) Zo (zc sV ze)) ze))) (Nms.cons (gm 4 rfl) (Nms.cons (gm 5 rfl) Nms.nil)) (fun _ => rfl) (sw2 (gm 4 rfl) (gm 5 rfl) dk dk dk dk dk))
 (zb (yQ (yN (zu sV sV Xx (by rfl)) (yN (zu (zv sV sV (fun _ _ => rfl)) sV c_nis (by rfl)) yM)) (zb (zR (Xr sV (zc (zv sV sV (fun _ _ => rfl)) ze) (fun _ => rfl)) (fun _ => rfl))
 (zb (Yg (gm 4 rfl) dk zh)
 zj)) 100000)
 (zb (yQ (zu sV sV Xx (by rfl)) (zb (zam (zu (zv sV sV (fun _ _ => rfl)) sV c_is (by rfl)))
 (zb (Yg (gm 4 rfl) dk zh)
 (zb (yp (zu sV sV yu (by rfl)) (zb (zR (Xr sV (zc (zF (l := [46, 42]) dk) ze) (fun _ => rfl)) (fun _ => rfl))
 (zb zbu
 zj)) zj)
 (zb (zam (zu (zv sV sV (fun _ _ => rfl)) sV c_nis (by rfl)))
 (zb (zg (gm 6 rfl) (yR ze))
 (zb (yQ (yN (zu sV sV Xx (by rfl)) (yN (zu (zv sV sV (fun _ _ => rfl)) sV c_nis (by rfl)) yM)) (zb (zR (yC F.plainAttrs_list F.slot_list_append F.type_list_append sV (zc (zv sV sV (fun _ _ => rfl)) ze) Zp) (fun _ => rfl))
 (zb (Yg (gm 4 rfl) dk zh)
 zj)) 100000)
 (zb (zg (gm 6 rfl) (yC F.plainAttrs_str F.slot_str_join F.type_str_join (zF (l := []) dk) (zc sV ze) o_join))
 (zb (yp (zu sV sV yu (by rfl)) (zb (zR (Xr sV (zc (zF (l := [46, 42]) dk) ze) (fun _ => rfl)) (fun _ => rfl))
 (zb (zR (Xr sV (zc sV ze) (fun _ => rfl)) (fun _ => rfl))
 zj)) (zb (zR (Xr sV (zc (sE_fstr (la := [40, 63, 62, 46, 42, 63]) (lb := [41]) sV dk dk) ze) (fun _ => rfl)) (fun _ => rfl))
 zj))
 zj)))))))) 100000)
 (zb (zam (zu sV sV yu (by rfl)))
 (zb (zg (gm 2 rfl) (yC F.plainAttrs_str F.slot_str_join F.type_str_join (zF (l := []) dk) (zc sV ze) o_join))
 (zb (zz (sE_fstr (la := [40, 63, 115, 58]) (lb := [41, 92, 90]) sV dk dk))
 zj))))))))
noncomputable def zm := ZY Qp yt
theorem Qd : FN 3 (defAt 15).name zm := ZI 15 rfl (by kernel_rfl) Qk.t (fun _ _ _ _ _ => rfl) rfl fun _ _ => trivial
noncomputable def F_translate : FI := { d := defAt 9, ps := ["pat"], nm := [("pat", false), ("STAR", false), ("parts", false)], gl := ["_join_translated_parts", "_translate", "object"], extra := 0 }
noncomputable def V_translate : Vis := { nm := [("pat", 0), ("STAR", 1), ("parts", 2)], gl := ["_join_translated_parts", "_translate", "object"], lc := ["pat", "STAR", "parts"], cc := [], cp := [], fs := [] }
noncomputable def XE : PM FL := (zi (zr 1 objM)
 (zi (zr 2 (ye φ_tr (zd (za 0) (zd (za 1) (zd (PM.ok (.str [46])) (PM.ok []))))))
 (zi (ZZ (ye zm (zd (za 2) (zd (za 1) (PM.ok [])))))
 (PM.ok .next))))
theorem s_translate : SB V_translate 5 (defAt 9).body XE := (zb (zg (gm 1 rfl) (sE_object (gm 2 rfl)))
 (zb (zg (gm 2 rfl) (zS (i := 14) (gm 1 rfl) (by decide) dk dk fn_tr (by decide) (zc sV (zc sV (zc (zF (l := [46]) dk) ze)))))
 (zb (zz (zS (i := 15) (gm 0 rfl) (by decide) dk dk Qd (by decide) (zc sV (zc sV ze))))
 zj)))
noncomputable def Yc := ZY F_translate XE
theorem fn_translate : FN 6 (defAt 9).name Yc := ZI 9 rfl (by kernel_rfl) s_translate.t (fun _ _ _ _ => rfl) rfl fun _ _ => trivial
noncomputable def F_law_sign : FI := { d := defAt 19, ps := ["text", "place"], nm := [("text", false), ("place", false)], gl := [], extra := 0 }
noncomputable def V_law_sign : Vis := { nm := [("text", 0), ("place", 1)], gl := [], lc := ["text", "place"], cc := [], cp := [], fs := [] }
noncomputable def QA : PM FL := (zi (Zn (zO eqD (zk zn (za 0) (za 1)) (PM.ok (.str [92]))) (zi (ZZ (YI (zd (zk zn (za 0) (zk zQ (za 1) (PM.ok (.int 1)))) (zd (zk zQ (za 1) (PM.ok (.int 2))) (PM.ok [])))))
 (PM.ok .next)) (PM.ok .next))
 (zi (ZZ (YI (zd (zk zn (za 0) (za 1)) (zd (zk zQ (za 1) (PM.ok (.int 1))) (PM.ok [])))))
 (PM.ok .next)))
theorem s_law_sign : SB V_law_sign 2 (defAt 19).body QA := (zb (yp (zu (zv sV sV (fun _ _ => rfl)) (zF (l := [92]) dk) yu (by rfl)) (zb (zz (yw (zc (zv sV (zo sV zh zC) (fun _ _ => rfl)) (zc (zo sV zh zC) ze))))
 zj) zj)
 (zb (zz (yw (zc (zv sV sV (fun _ _ => rfl)) (zc (zo sV zh zC) ze))))
 zj))
noncomputable def ZT := ZY F_law_sign QA
theorem fn_law_sign : FN 3 (defAt 19).name ZT := ZI 19 rfl (by kernel_rfl) s_law_sign.t (fun _ _ _ _ _ => rfl) rfl fun _ _ => trivial
noncomputable def F_law_class : FI := { d := defAt 20, ps := ["text", "place"], nm := [("text", false), ("place", false), ("barred", false), ("pairs", false), ("low", false), ("high", false)], gl := ["_law_sign"], extra := 0 }
noncomputable def V_law_class : Vis := { nm := [("text", 0), ("place", 1), ("barred", 2), ("pairs", 3), ("low", 4), ("high", 5)], gl := ["_law_sign"], lc := ["text", "place", "barred", "pairs", "low", "high"], cc := [], cp := [], fs := [] }
noncomputable def zae : PM Bool := (orM (notM (YJ (za 3))) (orM (zO neD (zk zn (za 0) (za 1)) (PM.ok (.str [93]))) (PM.ok false)))
noncomputable def zaf : PM FL := (zi (unpM (ye ZT (zd (za 0) (zd (za 1) (PM.ok [])))) [4, 1])
 (zi (zr 5 (za 4))
 (zi (Zn (zO eqD (zk zn (za 0) (za 1)) (PM.ok (.str [45]))) (zi (unpM (ye ZT (zd (za 0) (zd (zk zQ (za 1) (PM.ok (.int 1))) (PM.ok [])))) [5, 1])
 (PM.ok .next)) (PM.ok .next))
 (zi (yy (Zd "list" zK (za 3) (zd (YI (zd (za 4) (zd (za 5) (PM.ok [])))) (PM.ok []))))
 (PM.ok .next)))))
noncomputable def XV : PM FL := zA zae zaf 100000
noncomputable def XH : PM FL := (zi (zr 2 (PM.bd (zO eqD (zk zn (za 0) (zk zQ (za 1) (PM.ok (.int 1)))) (PM.ok (.str [94]))) fun b => PM.ok (.bool b)))
 (zi (zag 1 (iteE (YJ (za 2)) (PM.ok (.int 2)) (PM.ok (.int 1))))
 (zi (zr 3 (Zc (PM.ok [])))
 (zi XV
 (zi (ZZ (YI (zd (YI (zd (za 2) (zd (fzM (za 3)) (PM.ok [])))) (zd (zk zQ (za 1) (PM.ok (.int 1))) (PM.ok [])))))
 (PM.ok .next))))))
theorem s_law_class : SB V_law_class 5 (defAt 20).body XH := (zb (zg (gm 2 rfl) (YK (zv sV (zo sV zh zC) (fun _ _ => rfl)) (zF (l := [94]) dk) yu (by rfl)))
 (zb (Yg (gm 1 rfl) dk (sE_ife (yZ sV (fun _ _ => rfl)) zh zh))
 (zb (zg (gm 3 rfl) (yR ze))
 (zb (yQ (sT_or (QR (yZ sV (fun _ _ => rfl))) (sT_or (zu (zv sV sV (fun _ _ => rfl)) (zF (l := [93]) dk) c_neD (by rfl)) sT_or_nil)) (zb (Yu (zS (i := 19) (gm 0 rfl) (by decide) dk dk fn_law_sign (by decide) (zc sV (zc sV ze))) (yz.cons (gm 4 rfl) (yz.cons (gm 1 rfl) yz.nil)) (fun _ => rfl) (fun _ _ _ _ => rfl))
 (zb (zg (gm 5 rfl) sV)
 (zb (yp (zu (zv sV sV (fun _ _ => rfl)) (zF (l := [45]) dk) yu (by rfl)) (zb (Yu (zS (i := 19) (gm 0 rfl) (by decide) dk dk fn_law_sign (by decide) (zc sV (zc (zo sV zh zC) ze))) (yz.cons (gm 5 rfl) (yz.cons (gm 1 rfl) yz.nil)) (fun _ => rfl) (fun _ _ _ _ => rfl))
 zj) zj)
 (zb (zR (yC F.plainAttrs_list F.slot_list_append F.type_list_append sV (zc (yw (zc sV (zc sV ze))) ze) Zp) (fun _ => rfl))
 zj)))) 100000)
 (zb (zz (yw (zc (yw (zc sV (zc (sE_fz sV) ze))) (zc (zo sV zh zC) ze))))
 zj)))))
noncomputable def YV := ZY F_law_class XH
theorem fn_law_class : FN 6 (defAt 20).name YV := ZI 20 rfl (by kernel_rfl) s_law_class.t (fun _ _ _ _ _ => rfl) rfl fun _ _ => trivial
noncomputable def F_law_within : FI := { d := defAt 21, ps := ["judge", "sign"], nm := [("judge", false), ("sign", true), ("barred", false), ("pairs", false)], gl := [], extra := 3 }
noncomputable def V_law_within : Vis := { nm := [("judge", 0), ("sign", 1), ("barred", 2), ("pairs", 3)], gl := [], lc := ["judge", "barred", "pairs"], cc := ["sign"], cp := ["sign"], fs := [4, 5, 6] }
noncomputable def YZ : PM FL := (zi (unpM (za 0) [2, 3])
 (zi (ZZ (PM.bd (zO neD (za 2) (PM.bd (zO neD (lcK false (zP [4, 5, 6] (Zh (.many [5, 6]) (za 3)) (.many [5, 6]) (chainM leF leF (za 5) (za 1) (za 6)) (PM.bd (za 5) fun y => PM.ok [y]))) (QN (PM.ok []))) fun b => PM.ok (.bool b))) fun b => PM.ok (.bool b)))
 (PM.ok .next)))
theorem s_law_within : SB V_law_within 2 (defAt 21).body YZ := (zb (Yu sV (yz.cons (gm 2 rfl) (yz.cons (gm 3 rfl) yz.nil)) (fun _ => rfl) (fun _ _ _ _ => rfl))
 (zb (zz (YK sV (YK (Yi false (c := ⟨_, [(".0", 4, false), ("low", 5, false), ("high", 6, false)], [("sign", 1)], []⟩) (yV.ok_of dk) (yJ sV (by first | exact .inl ⟨_, rfl⟩ | exact .inr ⟨_, rfl⟩)) (fun _ _ => rfl) (yY _ _ _ _ _ _) (Zt.many (yz.cons (gm 1 rfl) (yz.cons (gm 2 rfl) yz.nil))) (ts_one (sT_chain sV sV sV c_le c_le (by rfl))) (yo sV)) (Za ze) c_neD (by rfl)) c_neD (by rfl)))
 zj))
noncomputable def ZF := ZY F_law_within YZ
theorem fn_law_within : FN 3 (defAt 21).name ZF := ZI 21 rfl (by kernel_rfl) s_law_within.t (fun _ _ _ _ _ => rfl) rfl fun _ _ => trivial
noncomputable def F_law_judge : FI := { d := defAt 22, ps := ["text", "place"], nm := [("text", false), ("place", false)], gl := ["_law_class"], extra := 0 }
noncomputable def V_law_judge : Vis := { nm := [("text", 0), ("place", 1)], gl := ["_law_class"], lc := ["text", "place"], cc := [], cp := [], fs := [] }
noncomputable def XF : PM FL := (zi (Zn (zO eqD (zk zn (za 0) (za 1)) (PM.ok (.str [91]))) (zi (ZZ (ye YV (zd (za 0) (zd (za 1) (PM.ok [])))))
 (PM.ok .next)) (PM.ok .next))
 (zi (ZZ (YI (zd (YI (zd (PM.bd (zO eqD (zk zn (za 0) (za 1)) (PM.ok (.str [46]))) fun b => PM.ok (.bool b)) (zd (QN (PM.ok [])) (PM.ok [])))) (zd (zk zQ (za 1) (PM.ok (.int 1))) (PM.ok [])))))
 (PM.ok .next)))
theorem s_law_judge : SB V_law_judge 8 (defAt 22).body XF := (zb (yp (zu (zv sV sV (fun _ _ => rfl)) (zF (l := [91]) dk) yu (by rfl)) (zb (zz (zS (i := 20) (gm 0 rfl) (by decide) dk dk fn_law_class (by decide) (zc sV (zc sV ze))))
 zj) zj)
 (zb (zz (yw (zc (yw (zc (YK (zv sV sV (fun _ _ => rfl)) (zF (l := [46]) dk) yu (by rfl)) (zc (Za ze) ze))) (zc (zo sV zh zC) ze))))
 zj))
noncomputable def Yd := ZY F_law_judge XF
theorem fn_law_judge : FN 9 (defAt 22).name Yd := ZI 22 rfl (by kernel_rfl) s_law_judge.t (fun _ _ _ _ _ => rfl) rfl fun _ _ => trivial
noncomputable def F_law_pieces : FI := { d := defAt 23, ps := ["text"], nm := [("text", false), ("body", false), ("place", false), ("held", false), ("last", false), ("pieces", false), ("sound", false), ("judge", false)], gl := ["_law_judge", "len"], extra := 0 }
noncomputable def V_law_pieces : Vis := { nm := [("text", 0), ("body", 1), ("place", 2), ("held", 3), ("last", 4), ("pieces", 5), ("sound", 6), ("judge", 7)], gl := ["_law_judge", "len"], lc := ["text", "body", "place", "held", "last", "pieces", "sound", "judge"], cc := [], cp := [], fs := [] }
noncomputable def ZO : PM FL := (zi (zr 6 (orV (za 3) (orV (za 4) (PM.bd (zO eqD (yL yn (zd (za 5) (PM.ok []))) (PM.ok (.int 1))) fun b => PM.ok (.bool b)))))
 (zi (unpM (ye Yd (zd (za 1) (zd (za 2) (PM.ok [])))) [7, 2])
 (zi (yy (Zd "list" zK (zk zn (za 5) (Zg Qy (PM.ok (.int 1)))) (zd (za 7) (PM.ok []))))
 (PM.ok .next))))
noncomputable def YQ : PM FL := (zi (unpMs (YI (zd (andV (Zg (fun σ a => (YW σ a).map fun b => .bool (!b)) (za 3)) (Zg (fun σ a => (YW σ a).map fun b => .bool (!b)) (za 4))) (zd (PM.ok (.bool true)) (zd (zk zQ (za 2) (PM.ok (.int 2))) (PM.ok []))))) [6, 4, 2])
 (zi (yy (Zd "list" zK (za 5) (zd (Zc (PM.ok [])) (PM.ok []))))
 (PM.ok .next)))
noncomputable def QL : PM FL := (zi (unpMs (YI (zd (andV (Zg (fun σ a => (YW σ a).map fun b => .bool (!b)) (za 3)) (Zg (fun σ a => (YW σ a).map fun b => .bool (!b)) (za 4))) (zd (PM.ok (.bool true)) (zd (zk zQ (za 2) (PM.ok (.int 6))) (PM.ok []))))) [6, 3, 2])
 (zi (yy (Zd "list" zK (za 5) (zd (Zc (PM.ok [])) (PM.ok []))))
 (PM.ok .next)))
noncomputable def yv : PM FL := (zi (Zn (zO eqD (ZR (za 1) (Zb (za 2)) (Zb (zk zQ (za 2) (PM.ok (.int 2))))) (PM.ok (.str [46, 42]))) YQ (zi (Zn (zO eqD (zk zn (za 1) (za 2)) (PM.ok (.str [41]))) (zi (unpMs (YI (zd (za 3) (zd (PM.ok (.bool false)) (zd (zk zQ (za 2) (PM.ok (.int 1))) (PM.ok []))))) [6, 3, 2])
 (PM.ok .next)) ZO)
 (PM.ok .next)))
 (PM.ok .next))
noncomputable def zx : PM Bool := (YG (YJ (za 6)) (YG (zO ltD (za 2) (yL yn (zd (za 1) (PM.ok [])))) (PM.ok true)))
noncomputable def zq : PM FL := (zi (Zn (zO eqD (ZR (za 1) (Zb (za 2)) (Zb (zk zQ (za 2) (PM.ok (.int 6))))) (PM.ok (.str [40, 63, 62, 46, 42, 63]))) QL yv)
 (PM.ok .next))
noncomputable def zL : PM FL := zA zx zq 100000
noncomputable def Xa : PM FL := (zi (unpM (YI (zd (ZR (za 0) (Zb (PM.ok (.int 4))) (Zb (Zg Qy (PM.ok (.int 3))))) (zd (PM.ok (.int 0)) (zd (PM.ok (.bool false)) (zd (PM.ok (.bool false)) (zd (Zc (zd (Zc (PM.ok [])) (PM.ok []))) (PM.ok []))))))) [1, 2, 3, 4, 5])
 (zi (zr 6 (PM.bd (zO eqD (zk zQ (ZR (za 0) (PM.ok Option.none) (Zb (PM.ok (.int 4)))) (ZR (za 0) (Zb (Zg Qy (PM.ok (.int 3)))) (PM.ok Option.none))) (PM.ok (.str [40, 63, 115, 58, 41, 92, 90]))) fun b => PM.ok (.bool b)))
 (zi zL
 (zi (ZZ (fzM (iteE (YG (YJ (za 6)) (YG (notM (YJ (za 3))) (YG (zO eqD (za 4) (PM.bd (zO gtF (yL yn (zd (za 5) (PM.ok []))) (PM.ok (.int 1))) fun b => PM.ok (.bool b))) (PM.ok true)))) (za 5) (PM.ok .none))))
 (PM.ok .next)))))
theorem s_law_pieces : SB V_law_pieces 11 (defAt 23).body Xa := (zb (Yu (yw (zc (yO sV (zT zh) (zT (Yh zh ZQ))) (zc zh (zc YC (zc YC (zc (yR (zc (yR ze) ze)) ze)))))) (yz.cons (gm 1 rfl) (yz.cons (gm 2 rfl) (yz.cons (gm 3 rfl) (yz.cons (gm 4 rfl) (yz.cons (gm 5 rfl) yz.nil))))) (fun _ => rfl) (fun _ _ _ _ => rfl))
 (zb (zg (gm 6 rfl) (YK (zo (yO sV Zi (zT zh)) (yO sV (zT (Yh zh ZQ)) Zi) zC) (zF (l := [40, 63, 115, 58, 41, 92, 90]) dk) yu (by rfl)))
 (zb (yQ (yN (yZ sV (fun _ _ => rfl)) (yN (zu sV (yg (id := "len") (gm 1 rfl) (by decide) dk dk (by decide) Zo (zc sV ze)) Xx (by rfl)) yM)) (zb (yp (zu (yO sV (zT sV) (zT (zo sV zh zC))) (zF (l := [40, 63, 62, 46, 42, 63]) dk) yu (by rfl)) (zb (Zu (yw (zc (sE_and (Yh sV op_not) (zbw (Yh sV op_not))) (zc YC (zc (zo sV zh zC) ze)))) (Nms.cons (gm 6 rfl) (Nms.cons (gm 3 rfl) (Nms.cons (gm 2 rfl) Nms.nil))) (fun _ => rfl) (sw3 (gm 6 rfl) (gm 3 rfl) (gm 2 rfl) dk dk dk dk dk dk))
 (zb (zR (yC F.plainAttrs_list F.slot_list_append F.type_list_append sV (zc (yR ze) ze) Zp) (fun _ => rfl))
 zj)) (zb (yp (zu (yO sV (zT sV) (zT (zo sV zh zC))) (zF (l := [46, 42]) dk) yu (by rfl)) (zb (Zu (yw (zc (sE_and (Yh sV op_not) (zbw (Yh sV op_not))) (zc YC (zc (zo sV zh zC) ze)))) (Nms.cons (gm 6 rfl) (Nms.cons (gm 4 rfl) (Nms.cons (gm 2 rfl) Nms.nil))) (fun _ => rfl) (sw3 (gm 6 rfl) (gm 4 rfl) (gm 2 rfl) dk dk dk dk dk dk))
 (zb (zR (yC F.plainAttrs_list F.slot_list_append F.type_list_append sV (zc (yR ze) ze) Zp) (fun _ => rfl))
 zj)) (zb (yp (zu (zv sV sV (fun _ _ => rfl)) (zF (l := [41]) dk) yu (by rfl)) (zb (Zu (yw (zc sV (zc YC (zc (zo sV zh zC) ze)))) (Nms.cons (gm 6 rfl) (Nms.cons (gm 3 rfl) (Nms.cons (gm 2 rfl) Nms.nil))) (fun _ => rfl) (sw3 (gm 6 rfl) (gm 3 rfl) (gm 2 rfl) dk dk dk dk dk dk))
 zj) (zb (zg (gm 6 rfl) (sE_or sV (sE_or sV (zbw (YK (yg (id := "len") (gm 1 rfl) (by decide) dk dk (by decide) Zo (zc sV ze)) zh yu (by rfl))))))
 (zb (Yu (zS (i := 22) (gm 0 rfl) (by decide) dk dk fn_law_judge (by decide) (zc sV (zc sV ze))) (yz.cons (gm 7 rfl) (yz.cons (gm 2 rfl) yz.nil)) (fun _ => rfl) (fun _ _ _ _ => rfl))
 (zb (zR (yC F.plainAttrs_list F.slot_list_append F.type_list_append (zv sV (Yh zh ZQ) (fun _ _ => rfl)) (zc sV ze) Zp) (fun _ => rfl))
 zj))))
 zj))
 zj))
 zj) 100000)
 (zb (zz (sE_fz (sE_ife (yN (yZ sV (fun _ _ => rfl)) (yN (QR (yZ sV (fun _ _ => rfl))) (yN (zu sV (YK (yg (id := "len") (gm 1 rfl) (by decide) dk dk (by decide) Zo (zc sV ze)) zh c_gt (by rfl)) yu (by rfl)) yM))) sV sE_none)))
 zj))))
noncomputable def zG := ZY F_law_pieces Xa
theorem fn_law_pieces : FN 12 (defAt 23).name zG := ZI 23 rfl (by kernel_rfl) s_law_pieces.t (fun _ _ _ _ => rfl) rfl fun _ _ => trivial
noncomputable def F_law_fits : FI := { d := defAt 24, ps := ["piece", "run", "place"], nm := [("piece", false), ("run", false), ("place", false)], gl := ["len", "zip"], extra := 3 }
noncomputable def V_law_fits : Vis := { nm := [("piece", 0), ("run", 1), ("place", 2)], gl := ["len", "zip"], lc := ["piece", "run", "place"], cc := [], cp := [], fs := [3, 4, 5] }
noncomputable def QC : PM FL := (zi (Zn (zO gtF (zk zQ (za 2) (yL yn (zd (za 0) (PM.ok [])))) (yL yn (zd (za 1) (PM.ok [])))) (zi (ZZ (PM.ok (.bool false)))
 (PM.ok .next)) (PM.ok .next))
 (zi (ZZ (PM.bd (zO eqD (lcK false (zP [3, 4, 5] (zipM (zd (za 0) (zd (ZR (za 1) (Zb (za 2)) (PM.ok Option.none)) (PM.ok [])))) (.many [4, 5]) (notM (YJ (ye ZF (zd (za 4) (zd (za 5) (PM.ok [])))))) (PM.bd (za 4) fun y => PM.ok [y]))) (QN (PM.ok []))) fun b => PM.ok (.bool b)))
 (PM.ok .next)))
theorem s_law_fits : SB V_law_fits 5 (defAt 24).body QC := (zb (yp (zu (zo sV (yg (id := "len") (gm 0 rfl) (by decide) dk dk (by decide) Zo (zc sV ze)) zC) (yg (id := "len") (gm 0 rfl) (by decide) dk dk (by decide) Zo (zc sV ze)) c_gt (by rfl)) (zb (zz YC)
 zj) zj)
 (zb (zz (YK (Yi false (c := ⟨_, [(".0", 3, false), ("judge", 4, false), ("sign", 5, false)], [], ["_law_within"]⟩) (yV.ok_of dk) (si_zip (gm 1 rfl) (zc sV (zc (yO sV (zT sV) Zi) ze)) (fun _ => rfl) (fun _ _ => rfl)) (fun _ _ => rfl) (yY _ _ _ _ _ _) (Zt.many (yz.cons (gm 1 rfl) (yz.cons (gm 2 rfl) yz.nil))) (ts_one (QR (yZ (zS (i := 21) (gm 0 rfl) (by decide) dk dk fn_law_within (by decide) (zc sV (zc sV ze))) (fun _ _ => rfl)))) (yo sV)) (Za ze) yu (by rfl)))
 zj))
noncomputable def YE := ZY F_law_fits QC
theorem zaa : FN 6 (defAt 24).name YE := ZI 24 rfl (by kernel_rfl) s_law_fits.t (fun _ _ _ _ _ _ => rfl) rfl fun _ _ => trivial
noncomputable def F_law_takes : FI := { d := defAt 25, ps := ["pieces", "run"], nm := [("pieces", false), ("run", false), ("place", false), ("piece", false), ("final", false)], gl := ["_law_fits", "len"], extra := 0 }
noncomputable def V_law_takes : Vis := { nm := [("pieces", 0), ("run", 1), ("place", 2), ("piece", 3), ("final", 4)], gl := ["_law_fits", "len"], lc := ["pieces", "run", "place", "piece", "final"], cc := [], cp := [], fs := [] }
noncomputable def yj : PM Bool := (YG (zO leF (za 2) (yL yn (zd (za 1) (PM.ok [])))) (YG (notM (YJ (ye YE (zd (za 3) (zd (za 1) (zd (za 2) (PM.ok []))))))) (PM.ok true)))
noncomputable def Yo : PM FL := (zi (zag 2 (PM.ok (.int 1)))
 (PM.ok .next))
noncomputable def w_law_takes_1 : PM FL := zA yj Yo 100000
noncomputable def Zs : PM FL := (zi w_law_takes_1
 (zi (zag 2 (yL yn (zd (za 3) (PM.ok []))))
 (PM.ok .next)))
noncomputable def ZU : PM FL := (zi (Zn (notM (YJ (ye YE (zd (zk zn (za 0) (PM.ok (.int 0))) (zd (za 1) (zd (PM.ok (.int 0)) (PM.ok []))))))) (zi (ZZ (PM.ok (.bool false)))
 (PM.ok .next)) (PM.ok .next))
 (zi (zr 2 (yL yn (zd (zk zn (za 0) (PM.ok (.int 0))) (PM.ok []))))
 (zi (Zn (zO eqD (yL yn (zd (za 0) (PM.ok []))) (PM.ok (.int 1))) (zi (ZZ (PM.bd (zO eqD (za 2) (yL yn (zd (za 1) (PM.ok [])))) fun b => PM.ok (.bool b)))
 (PM.ok .next)) (PM.ok .next))
 (zi (forS (Zh (.one 3) (ZR (za 0) (Zb (PM.ok (.int 1))) (Zb (Zg Qy (PM.ok (.int 1)))))) (.one 3) Zs)
 (zi (zr 4 (zk subF (yL yn (zd (za 1) (PM.ok []))) (yL yn (zd (zk zn (za 0) (Zg Qy (PM.ok (.int 1)))) (PM.ok [])))))
 (zi (ZZ (andV (PM.bd (zO geF (za 4) (za 2)) fun b => PM.ok (.bool b)) (ye YE (zd (zk zn (za 0) (Zg Qy (PM.ok (.int 1)))) (zd (za 1) (zd (za 4) (PM.ok [])))))))
 (PM.ok .next)))))))
theorem s_law_takes : SB V_law_takes 8 (defAt 25).body ZU := (zb (yp (QR (yZ (zS (i := 24) (gm 0 rfl) (by decide) dk dk zaa (by decide) (zc (zv sV zh (fun _ _ => rfl)) (zc sV (zc zh ze)))) (fun _ _ => rfl))) (zb (zz YC)
 zj) zj)
 (zb (zg (gm 2 rfl) (yg (id := "len") (gm 1 rfl) (by decide) dk dk (by decide) Zo (zc (zv sV zh (fun _ _ => rfl)) ze)))
 (zb (yp (zu (yg (id := "len") (gm 1 rfl) (by decide) dk dk (by decide) Zo (zc sV ze)) zh yu (by rfl)) (zb (zz (YK sV (yg (id := "len") (gm 1 rfl) (by decide) dk dk (by decide) Zo (zc sV ze)) yu (by rfl)))
 zj) zj)
 (zb (sS_for (yJ (yO sV (zT zh) (zT (Yh zh ZQ))) (by first | exact .inl ⟨_, rfl⟩ | exact .inr ⟨_, rfl⟩)) (Zt.one (gm 3 rfl)) (zb (yQ (yN (zu sV (yg (id := "len") (gm 1 rfl) (by decide) dk dk (by decide) Zo (zc sV ze)) c_le (by rfl)) (yN (QR (yZ (zS (i := 24) (gm 0 rfl) (by decide) dk dk zaa (by decide) (zc sV (zc sV (zc sV ze)))) (fun _ _ => rfl))) yM)) (zb (Yg (gm 2 rfl) dk zh)
 zj) 100000)
 (zb (Yg (gm 2 rfl) dk (yg (id := "len") (gm 1 rfl) (by decide) dk dk (by decide) Zo (zc sV ze)))
 zj)) (fun _ _ => rfl))
 (zb (zg (gm 4 rfl) (zo (yg (id := "len") (gm 1 rfl) (by decide) dk dk (by decide) Zo (zc sV ze)) (yg (id := "len") (gm 1 rfl) (by decide) dk dk (by decide) Zo (zc (zv sV (Yh zh ZQ) (fun _ _ => rfl)) ze)) op_sub))
 (zb (zz (sE_and (YK sV sV c_ge (by rfl)) (zbw (zS (i := 24) (gm 0 rfl) (by decide) dk dk zaa (by decide) (zc (zv sV (Yh zh ZQ) (fun _ _ => rfl)) (zc sV (zc sV ze)))))))
 zj))))))
noncomputable def YS := ZY F_law_takes ZU
theorem fn_law_takes : FN 9 (defAt 25).name YS := ZI 25 rfl (by kernel_rfl) s_law_takes.t (fun _ _ _ _ _ => rfl) rfl fun _ _ => trivial
noncomputable def F_law_suits : FI := { d := defAt 26, ps := ["items", "run"], nm := [("items", false), ("run", true), ("places", false), ("written", false), ("fit", true)], gl := ["len", "list", "range"], extra := 2 }
noncomputable def V_law_suits : Vis := { nm := [("items", 0), ("run", 1), ("places", 2), ("written", 3), ("fit", 4)], gl := ["len", "list", "range"], lc := ["items", "places", "written"], cc := ["run", "fit"], cp := ["run", "fit"], fs := [5, 6] }
noncomputable def ym : PM FL := (zi (Zn (zO eqD (za 3) (PM.ok (.str [42]))) (zi (zr 2 (iteE (YJ (za 2)) (lrngM (zd (zk zn (za 2) (PM.ok (.int 0))) (zd (zk zQ (yL yn (zd (za 1) (PM.ok []))) (PM.ok (.int 1))) (PM.ok [])))) (QN (PM.ok []))))
 (PM.ok .next)) (zi (zr 2 (lcK false (zP [5, 6] (Zh (.one 6) (za 2)) (.one 6) (YG (zO ltD (za 6) (yL yn (zd (za 1) (PM.ok [])))) (YG (zO inD (zk zn (za 1) (za 6)) (za 4)) (PM.ok true))) (PM.bd (zk zQ (za 6) (PM.ok (.int 1))) fun y => PM.ok [y]))))
 (PM.ok .next)))
 (PM.ok .next))
noncomputable def QX : PM FL := (zi (zr 2 (QN (zd (PM.ok (.int 0)) (PM.ok []))))
 (zi (forS (Zh (.many [3, 4]) (za 0)) (.many [3, 4]) ym)
 (zi (ZZ (PM.bd (zO inD (yL yn (zd (za 1) (PM.ok []))) (za 2)) fun b => PM.ok (.bool b)))
 (PM.ok .next))))
theorem s_law_suits : SB V_law_suits 2 (defAt 26).body QX := (zb (zg (gm 2 rfl) (Za (zc zh ze)))
 (zb (sS_for (yJ sV (by first | exact .inl ⟨_, rfl⟩ | exact .inr ⟨_, rfl⟩)) (Zt.many (yz.cons (gm 3 rfl) (yz.cons (gm 4 rfl) yz.nil))) (zb (yp (zu sV (zF (l := [42]) dk) yu (by rfl)) (zb (zg (gm 2 rfl) (sE_ife (yZ sV (fun _ _ => rfl)) (zbv (gm 1 rfl) (gm 2 rfl) (zc (zv sV zh (fun _ _ => rfl)) (zc (zo (yg (id := "len") (gm 0 rfl) (by decide) dk dk (by decide) Zo (zc sV ze)) zh zC) ze)) (fun _ => rfl) (fun _ _ => rfl)) (Za ze)))
 zj) (zb (YY false (c := ⟨_, [(".0", 5, false), ("place", 6, false)], [("run", 1), ("fit", 4)], ["len"]⟩) (yV.ok_of dk) (gm 2 rfl) (yJ sV (by first | exact .inl ⟨_, rfl⟩ | exact .inr ⟨_, rfl⟩)) (fun _ _ => rfl) (yY _ _ _ _ _ _) (Zt.one (gm 1 rfl)) (ts_one (yN (zu sV (yg (id := "len") (gm 0 rfl) (by decide) dk dk (by decide) Zo (zc sV ze)) Xx (by rfl)) (yN (zu (zv sV sV (fun _ _ => rfl)) sV c_in (by rfl)) yM))) (yo (zo sV zh zC)) (YX (gm 1 rfl) dk dk))
 zj))
 zj) (fun _ _ => rfl))
 (zb (zz (YK (yg (id := "len") (gm 0 rfl) (by decide) dk dk (by decide) Zo (zc sV ze)) sV c_in (by rfl)))
 zj)))
noncomputable def YT := ZY F_law_suits QX
theorem fn_law_suits : FN 3 (defAt 26).name YT := ZI 26 rfl (by kernel_rfl) s_law_suits.t (fun _ _ _ _ _ => rfl) rfl fun _ _ => trivial
noncomputable def F_law_items : FI := { d := defAt 27, ps := ["number", "one", "other"], nm := [("number", true), ("one", false), ("other", false), ("kinds", true)], gl := ["range"], extra := 2 }
noncomputable def V_law_items : Vis := { nm := [("number", 0), ("one", 1), ("other", 2), ("kinds", 3)], gl := ["range"], lc := ["one", "other"], cc := ["number", "kinds"], cp := ["number", "kinds"], fs := [4, 5] }
noncomputable def XG : PM FL := (zi (zr 3 (YI (zd (YI (zd (PM.ok (.str [63])) (zd (zk zQ (za 1) (za 2)) (PM.ok [])))) (zd (YI (zd (PM.ok (.str [42])) (zd (PM.ok (.str [])) (PM.ok [])))) (zd (YI (zd (zk zQ (zk zQ (PM.ok (.str [91])) (za 1)) (PM.ok (.str [93]))) (zd (za 1) (PM.ok [])))) (zd (YI (zd (zk zQ (zk zQ (PM.ok (.str [91])) (za 2)) (PM.ok (.str [93]))) (zd (za 2) (PM.ok [])))) (zd (YI (zd (zk zQ (zk zQ (PM.ok (.str [91, 33])) (za 1)) (PM.ok (.str [93]))) (zd (za 2) (PM.ok [])))) (zd (YI (zd (PM.ok (.str [42])) (zd (PM.ok (.str [])) (PM.ok [])))) (PM.ok [])))))))))
 (zi (ZZ (lcK false (zP [4, 5] (rngM (zd (PM.ok (.int 3)) (PM.ok []))) (.one 5) (PM.ok true) (PM.bd (zk zn (za 3) (zk modF (zk divF (za 0) (zk powF (PM.ok (.int 6)) (za 5))) (PM.ok (.int 6)))) fun y => PM.ok [y]))))
 (PM.ok .next)))
theorem s_law_items : SB V_law_items 2 (defAt 27).body XG := (zb (zg (gm 3 rfl) (yw (zc (yw (zc (zF (l := [63]) dk) (zc (zo sV sV zC) ze))) (zc (yw (zc (zF (l := [42]) dk) (zc (zF (l := []) dk) ze))) (zc (yw (zc (zo (zo (zF (l := [91]) dk) sV zC) (zF (l := [93]) dk) zC) (zc sV ze))) (zc (yw (zc (zo (zo (zF (l := [91]) dk) sV zC) (zF (l := [93]) dk) zC) (zc sV ze))) (zc (yw (zc (zo (zo (zF (l := [91, 33]) dk) sV zC) (zF (l := [93]) dk) zC) (zc sV ze))) (zc (yw (zc (zF (l := [42]) dk) (zc (zF (l := []) dk) ze))) ze))))))))
 (zb (zz (Yi false (c := ⟨_, [(".0", 4, false), ("place", 5, false)], [("kinds", 3), ("number", 0)], []⟩) (yV.ok_of dk) (zbs (gm 0 rfl) (zc zh ze) (fun _ => rfl) (fun _ _ => rfl)) (fun _ _ => rfl) (yY _ _ _ _ _ _) (Zt.one (gm 1 rfl)) ZC (yo (zv sV (zo (zo sV (zo zh sV op_pow) op_div) zh op_mod) (fun _ _ => rfl)))))
 zj))
noncomputable def YU := ZY F_law_items XG
theorem fn_law_items : FN 3 (defAt 27).name YU := ZI 27 rfl (by kernel_rfl) s_law_items.t (fun _ _ _ _ _ _ => rfl) rfl fun _ _ => trivial
noncomputable def F_law_worth : FI := { d := defAt 28, ps := ["names", "worths"], nm := [("names", false), ("worths", true)], gl := ["sum"], extra := 2 }
noncomputable def V_law_worth : Vis := { nm := [("names", 0), ("worths", 1)], gl := ["sum"], lc := ["names"], cc := ["worths"], cp := ["worths"], fs := [2, 3] }
noncomputable def QW : PM FL := (zi (ZZ (yL sumF (zd (lcK false (zP [2, 3] (Zh (.one 3) (za 0)) (.one 3) (PM.ok true) (PM.bd (zk keyF (za 1) (za 3)) fun y => PM.ok [y]))) (PM.ok []))))
 (PM.ok .next))
theorem s_law_worth : SB V_law_worth 2 (defAt 28).body QW := (zb (zz (yg (id := "sum") (gm 0 rfl) (by decide) dk dk (by decide) o_sum (zc (Yi false (c := ⟨_, [(".0", 2, false), ("name", 3, false)], [("worths", 1)], []⟩) (yV.ok_of dk) (yJ sV (by first | exact .inl ⟨_, rfl⟩ | exact .inr ⟨_, rfl⟩)) (fun _ _ => rfl) (yY _ _ _ _ _ _) (Zt.one (gm 1 rfl)) ZC (yo (sE_key sV sV (fun _ _ => rfl)))) ze)))
 zj)
noncomputable def yX := ZY F_law_worth QW
theorem QF : FN 3 (defAt 28).name yX := ZI 28 rfl (by kernel_rfl) s_law_worth.t (fun _ _ _ _ _ => rfl) rfl fun _ _ => trivial
noncomputable def F_law_lazily : FI := { d := defAt 29, ps := ["lists", "worths"], nm := [("lists", true), ("worths", true), ("heap", false), ("covered", false), ("chosen", false), ("told", false), ("place", false), ("fresh", false), ("worth", false), ("laid", false)], gl := ["_law_worth", "heapify", "heappop", "heapreplace", "len", "range", "sorted", "sorted_list_difference"], extra := 2 }
noncomputable def V_law_lazily : Vis := { nm := [("lists", 0), ("worths", 1), ("heap", 2), ("covered", 3), ("chosen", 4), ("told", 5), ("place", 6), ("fresh", 7), ("worth", 8), ("laid", 9)], gl := ["_law_worth", "heapify", "heappop", "heapreplace", "len", "range", "sorted", "sorted_list_difference"], lc := ["heap", "covered", "chosen", "told", "place", "fresh", "worth", "laid"], cc := ["lists", "worths"], cp := ["lists", "worths"], fs := [10, 11] }
noncomputable def QM : PM FL := (zi (yy (Zd "list" zK (za 4) (zd (QN (zd (za 6) (zd (za 8) (zd (za 7) (PM.ok []))))) (PM.ok []))))
 (zi (zr 3 (yL sortedF (zd (zk zQ (za 3) (za 7)) (PM.ok []))))
 (zi (Zn (zO neD (ye Xi (zd (za 2) (PM.ok []))) (za 9)) (zi (ZZ (QN (PM.ok [])))
 (PM.ok .next)) (PM.ok .next))
 (PM.ok .next))))
noncomputable def ZN : PM Bool := (YJ (za 2))
noncomputable def yH : PM FL := (zi (unpM (zk zn (za 2) (PM.ok (.int 0))) [5, 6])
 (zi (zr 7 (zk zn (ye yG (zd (zk zn (za 0) (za 6)) (zd (za 3) (PM.ok [])))) (PM.ok (.int 0))))
 (zi (zr 8 (ye yX (zd (za 7) (zd (za 1) (PM.ok [])))))
 (zi (zr 9 (QN (zd (iteE (zO eqD (za 8) (Zg Qy (za 5))) (Zg Qy (PM.ok (.int 99))) (Zg Qy (za 8))) (zd (za 6) (PM.ok [])))))
 (zi (Zn (zO neD (ye Xh (zd (za 2) (zd (za 9) (PM.ok [])))) (QN (zd (za 5) (zd (za 6) (PM.ok []))))) (zi (ZZ (QN (PM.ok [])))
 (PM.ok .next)) (PM.ok .next))
 (zi (Zn (zO eqD (za 8) (Zg Qy (za 5))) QM (PM.ok .next))
 (PM.ok .next)))))))
noncomputable def w_law_lazily_1 : PM FL := zA ZN yH 100000
noncomputable def QB : PM FL := (zi (zr 2 (lcK true (zP [10, 11] (rngM (zd (yL yn (zd (za 0) (PM.ok []))) (PM.ok []))) (.one 11) (PM.ok true) (PM.bd (QN (zd (Zg Qy (ye yX (zd (zk zn (za 0) (za 11)) (zd (za 1) (PM.ok []))))) (zd (za 11) (PM.ok [])))) fun y => PM.ok [y]))))
 (zi (yy (ye zbc (zd (za 2) (PM.ok []))))
 (zi (unpMs (YI (zd (QN (PM.ok [])) (zd (Zc (PM.ok [])) (PM.ok [])))) [3, 4])
 (zi w_law_lazily_1
 (zi (ZZ (fzM (za 4)))
 (PM.ok .next))))))
theorem s_law_lazily : SB V_law_lazily 11 (defAt 29).body QB := (zb (YY true (c := ⟨_, [(".0", 10, false), ("place", 11, false)], [("lists", 0), ("worths", 1)], ["_law_worth"]⟩) (yV.ok_of dk) (gm 2 rfl) (zbs (gm 5 rfl) (zc (yg (id := "len") (gm 4 rfl) (by decide) dk dk (by decide) Zo (zc sV ze)) ze) (fun _ => rfl) (fun _ _ => rfl)) (fun _ _ => rfl) (yY _ _ _ _ _ _) (Zt.one (gm 1 rfl)) ZC (yo (Za (zc (Yh (zS (i := 28) (gm 0 rfl) (by decide) dk dk QF (by decide) (zc (zv sV sV (fun _ _ => rfl)) (zc sV ze))) ZQ) (zc sV ze)))) (YX (gm 0 rfl) dk dk))
 (zb (zR (zS (i := 4) (gm 1 rfl) (by decide) dk dk fn_heapify (by decide) (zc sV ze)) (fun _ => rfl))
 (zb (Zu (yw (zc (Za ze) (zc (yR ze) ze))) (Nms.cons (gm 3 rfl) (Nms.cons (gm 4 rfl) Nms.nil)) (fun _ => rfl) (sw2 (gm 1 rfl) (gm 2 rfl) dk dk dk dk dk))
 (zb (yQ (yZ sV (fun _ _ => rfl)) (zb (Yu (zv sV zh (fun _ _ => rfl)) (yz.cons (gm 5 rfl) (yz.cons (gm 6 rfl) yz.nil)) (fun _ => rfl) (fun _ _ _ _ => rfl))
 (zb (zg (gm 7 rfl) (zv (zS (i := 17) (gm 7 rfl) (by decide) dk dk XB (by decide) (zc (zv sV sV (fun _ _ => rfl)) (zc sV ze))) zh (fun _ _ => rfl)))
 (zb (zg (gm 8 rfl) (zS (i := 28) (gm 0 rfl) (by decide) dk dk QF (by decide) (zc sV (zc sV ze))))
 (zb (zg (gm 9 rfl) (Za (zc (sE_ife (zu sV (Yh sV ZQ) yu (by rfl)) (Yh zh ZQ) (Yh sV ZQ)) (zc sV ze))))
 (zb (yp (zu (zS (i := 3) (gm 3 rfl) (by decide) dk dk fn_heapreplace (by decide) (zc sV (zc sV ze))) (Za (zc sV (zc sV ze))) c_neD (by rfl)) (zb (zz (Za ze))
 zj) zj)
 (zb (yp (zu sV (Yh sV ZQ) yu (by rfl)) (zb (zR (yC F.plainAttrs_list F.slot_list_append F.type_list_append sV (zc (Za (zc sV (zc sV (zc sV ze)))) ze) Zp) (fun _ => rfl))
 (zb (zg (gm 3 rfl) (yg (id := "sorted") (gm 6 rfl) (by decide) dk dk (by decide) o_sorted (zc (zo sV sV zC) ze)))
 (zb (yp (zu (zS (i := 2) (gm 2 rfl) (by decide) dk dk fn_heappop (by decide) (zc sV ze)) sV c_neD (by rfl)) (zb (zz (Za ze))
 zj) zj)
 zj))) zj)
 zj)))))) 100000)
 (zb (zz (sE_fz sV))
 zj)))))
noncomputable def XU := ZY F_law_lazily QB
theorem fn_law_lazily : FN 12 (defAt 29).name XU := ZI 29 rfl (by kernel_rfl) s_law_lazily.t (fun _ _ _ _ _ => rfl) rfl fun _ _ => trivial
noncomputable def F_law_plainly : FI := { d := defAt 30, ps := ["lists", "worths"], nm := [("lists", true), ("worths", true), ("covered", true), ("chosen", false), ("rest", false), ("brought", false), ("gains", false), ("at", false)], gl := ["len", "list", "max", "range"], extra := 4 }
noncomputable def V_law_plainly : Vis := { nm := [("lists", 0), ("worths", 1), ("covered", 2), ("chosen", 3), ("rest", 4), ("brought", 5), ("gains", 6), ("at", 7)], gl := ["len", "list", "max", "range"], lc := ["chosen", "rest", "brought", "gains", "at"], cc := ["lists", "worths", "covered"], cp := ["lists", "worths", "covered"], fs := [8, 9, 10, 11] }
noncomputable def YA : PM Bool := (YJ (za 4))
noncomputable def Zz : PM FL := (zi (zr 5 (lcK false (zP [8, 9] (Zh (.one 9) (za 4)) (.one 9) (PM.ok true) (PM.bd (lcK false (zP [10, 11] (Zh (.one 11) (zk zn (za 0) (za 9))) (.one 11) (zO ninD (za 11) (za 2)) (PM.bd (za 11) fun y => PM.ok [y]))) fun y => PM.ok [y]))))
 (zi (zr 6 (lcK false (zP [8, 9] (Zh (.one 9) (za 5)) (.one 9) (PM.ok true) (PM.bd (ye yX (zd (za 9) (zd (za 1) (PM.ok [])))) fun y => PM.ok [y]))))
 (zi (zr 7 (Zd "list" indexF (za 6) (zd (yL maxF (zd (za 6) (PM.ok []))) (PM.ok []))))
 (zi (yy (Zd "list" zK (za 3) (zd (QN (zd (zk zn (za 4) (za 7)) (zd (zk zn (za 6) (za 7)) (zd (zk zn (za 5) (za 7)) (PM.ok []))))) (PM.ok []))))
 (zi (zr 2 (zk zQ (za 2) (zk zn (za 5) (za 7))))
 (zi (zr 4 (zk zQ (ZR (za 4) (PM.ok Option.none) (Zb (za 7))) (ZR (za 4) (Zb (zk zQ (za 7) (PM.ok (.int 1)))) (PM.ok Option.none))))
 (PM.ok .next)))))))
noncomputable def w_law_plainly_1 : PM FL := zA YA Zz 100000
noncomputable def Qa : PM FL := (zi (unpM (YI (zd (QN (PM.ok [])) (zd (Zc (PM.ok [])) (zd (lrngM (zd (yL yn (zd (za 0) (PM.ok []))) (PM.ok []))) (PM.ok []))))) [2, 3, 4])
 (zi w_law_plainly_1
 (zi (ZZ (fzM (za 3)))
 (PM.ok .next))))
theorem s_law_plainly : SB V_law_plainly 5 (defAt 30).body Qa := (zb (Yu (yw (zc (Za ze) (zc (yR ze) (zc (zbv (gm 1 rfl) (gm 3 rfl) (zc (yg (id := "len") (gm 0 rfl) (by decide) dk dk (by decide) Zo (zc sV ze)) ze) (fun _ => rfl) (fun _ _ => rfl)) ze)))) (yz.cons (gm 2 rfl) (yz.cons (gm 3 rfl) (yz.cons (gm 4 rfl) yz.nil))) (fun _ => rfl) (swc3 (gm 2 rfl) (gm 0 rfl) (gm 1 rfl) dk dk dk))
 (zb (yQ (yZ sV (fun _ _ => rfl)) (zb (YY false (c := ⟨_, [(".0", 8, false), ("place", 9, false)], [("lists", 0), ("covered", 2)], []⟩) (yV.ok_of dk) (gm 5 rfl) (yJ sV (by first | exact .inl ⟨_, rfl⟩ | exact .inr ⟨_, rfl⟩)) (fun _ _ => rfl) (yY _ _ _ _ _ _) (Zt.one (gm 1 rfl)) ZC (yo (Yi false (c := ⟨_, [(".0", 10, false), ("name", 11, false)], [("covered", 2)], []⟩) (yV.ok_of dk) (yJ (zv sV sV (fun _ _ => rfl)) (by first | exact .inl ⟨_, rfl⟩ | exact .inr ⟨_, rfl⟩)) (fun _ _ => rfl) (yY _ _ _ _ _ _) (Zt.one (gm 1 rfl)) (ts_one (zu sV sV c_nin (by rfl))) (yo sV))) (YX (gm 2 rfl) dk dk))
 (zb (YY false (c := ⟨_, [(".0", 8, false), ("names", 9, false)], [("worths", 1)], ["_law_worth"]⟩) (yV.ok_of dk) (gm 6 rfl) (yJ sV (by first | exact .inl ⟨_, rfl⟩ | exact .inr ⟨_, rfl⟩)) (fun _ _ => rfl) (yY _ _ _ _ _ _) (Zt.one (gm 1 rfl)) ZC (yo (zS (i := 28) (gm 0 rfl) (by decide) dk dk QF (by decide) (zc sV (zc sV ze)))) (YX (gm 3 rfl) dk dk))
 (zb (zg (gm 7 rfl) (yC F.plainAttrs_list F.slot_list_index F.type_list_index sV (zc (yg (id := "max") (gm 2 rfl) (by decide) dk dk (by decide) o_max (zc sV ze)) ze) o_index))
 (zb (zR (yC F.plainAttrs_list F.slot_list_append F.type_list_append sV (zc (Za (zc (zv sV sV (fun _ _ => rfl)) (zc (zv sV sV (fun _ _ => rfl)) (zc (zv sV sV (fun _ _ => rfl)) ze)))) ze) Zp) (fun _ => rfl))
 (zb (zg (gm 2 rfl) (zo sV (zv sV sV (fun _ _ => rfl)) zC))
 (zb (zg (gm 4 rfl) (zo (yO sV Zi (zT sV)) (yO sV (zT (zo sV zh zC)) Zi) zC))
 zj)))))) 100000)
 (zb (zz (sE_fz sV))
 zj)))
noncomputable def Xg := ZY F_law_plainly Qa
theorem fn_law_plainly : FN 6 (defAt 30).name Xg := ZI 30 rfl (by kernel_rfl) s_law_plainly.t (fun _ _ _ _ _ => rfl) rfl fun _ _ => trivial
noncomputable def F_law_agree : FI := { d := defAt 31, ps := ["numbers"], nm := [("numbers", true), ("start", false), ("signs", true), ("names", true), ("worths", false), ("rules", false), ("read", false), ("lists", false), ("meant", false)], gl := ["_law_lazily", "_law_plainly", "chr", "dict", "range", "sum", "zip"], extra := 5 }
noncomputable def V_law_agree : Vis := { nm := [("numbers", 0), ("start", 1), ("signs", 2), ("names", 3), ("worths", 4), ("rules", 5), ("read", 6), ("lists", 7), ("meant", 8)], gl := ["_law_lazily", "_law_plainly", "chr", "dict", "range", "sum", "zip"], lc := ["start", "worths", "rules", "read", "lists", "meant"], cc := ["numbers", "signs", "names"], cp := ["numbers", "signs", "names"], fs := [9, 10, 11, 12, 13] }
noncomputable def XI : PM FL := (zi (zr 1 (zk zQ (PM.ok (.int 34)) (zk modF (yL sumF (zd (lcK false (zP [9, 10] (Zh (.one 10) (ZR (za 0) (Zb (PM.ok (.int 1))) (PM.ok Option.none))) (.one 10) (PM.ok true) (PM.bd (zk divF (za 10) (PM.ok (.int 216))) fun y => PM.ok [y]))) (PM.ok []))) (PM.ok (.int 92)))))
 (zi (zr 2 (zk zQ (yL chrF (zd (za 1) (PM.ok []))) (yL chrF (zd (zk zQ (za 1) (PM.ok (.int 1))) (PM.ok [])))))
 (zi (zr 3 (lcK false (zP [9, 10, 11, 12] (Xq (za 2)) (.one 10) (PM.ok true) (PM.bd (Xq (za 2)) fun xs => ZK (.one 11) (PM.ok true) (PM.bd (Xq (za 2)) fun xs => ZK (.one 12) (PM.ok true) (PM.bd (zk zQ (zk zQ (za 10) (za 11)) (za 12)) fun y => PM.ok [y]) xs) xs))))
 (zi (zr 4 (dzipM (zd (za 3) (zd (lcK false (zP [9, 10] (rngM (zd (PM.ok (.int 8)) (PM.ok []))) (.one 10) (PM.ok true) (PM.bd (zk zQ (zk modF (zk divF (zk zn (za 0) (PM.ok (.int 0))) (zk powF (PM.ok (.int 4)) (za 10))) (PM.ok (.int 4))) (PM.ok (.int 1))) fun y => PM.ok [y]))) (PM.ok [])))))
 (zi (zr 5 (lcK false (zP [9, 10] (Zh (.one 10) (ZR (za 0) (Zb (PM.ok (.int 1))) (PM.ok Option.none))) (.one 10) (PM.ok true) (PM.bd (ye YU (zd (za 10) (zd (zk zn (za 2) (PM.ok (.int 0))) (zd (zk zn (za 2) (PM.ok (.int 1))) (PM.ok []))))) fun y => PM.ok [y]))))
 (zi (zr 6 (lcK false (zP [9, 10] (Zh (.one 10) (za 5)) (.one 10) (PM.ok true) (PM.bd (ye zG (zd (ye Yc (zd (Zd "str" zaw (PM.ok (.str [])) (zd (lcK false (zP [11, 12, 13] (Zh (.many [12, 13]) (za 10)) (.many [12, 13]) (PM.ok true) (PM.bd (za 12) fun y => PM.ok [y]))) (PM.ok []))) (PM.ok []))) (PM.ok []))) fun y => PM.ok [y]))))
 (zi (Zn (zO inD (PM.ok .none) (za 6)) (zi (ZZ (PM.ok (.bool false)))
 (PM.ok .next)) (PM.ok .next))
 (zi (zr 7 (lcK false (zP [9, 10] (Zh (.one 10) (za 6)) (.one 10) (PM.ok true) (PM.bd (lcK false (zP [11, 12] (Zh (.one 12) (za 3)) (.one 12) (YJ (ye YS (zd (za 10) (zd (za 12) (PM.ok []))))) (PM.bd (za 12) fun y => PM.ok [y]))) fun y => PM.ok [y]))))
 (zi (zr 8 (lcK false (zP [9, 10] (Zh (.one 10) (za 5)) (.one 10) (PM.ok true) (PM.bd (lcK false (zP [11, 12] (Zh (.one 12) (za 3)) (.one 12) (YJ (ye YT (zd (za 10) (zd (za 12) (PM.ok []))))) (PM.bd (za 12) fun y => PM.ok [y]))) fun y => PM.ok [y]))))
 (zi (ZZ (PM.bd (zO eqD (ye XU (zd (za 7) (zd (za 4) (PM.ok [])))) (ye Xg (zd (za 8) (zd (za 4) (PM.ok []))))) fun b => PM.ok (.bool b)))
 (PM.ok .next)))))))))))
theorem s_law_agree : SB V_law_agree 14 (defAt 31).body XI := (zb (zg (gm 1 rfl) (zo zh (zo (yg (id := "sum") (gm 5 rfl) (by decide) dk dk (by decide) o_sum (zc (Yi false (c := ⟨_, [(".0", 9, false), ("number", 10, false)], [], []⟩) (yV.ok_of dk) (yJ (yO sV (zT zh) Zi) (by first | exact .inl ⟨_, rfl⟩ | exact .inr ⟨_, rfl⟩)) (fun _ _ => rfl) (yY _ _ _ _ _ _) (Zt.one (gm 1 rfl)) ZC (yo (zo sV zh op_div))) ze)) zh op_mod) zC))
 (zb (zg (gm 2 rfl) (zo (yg (id := "chr") (gm 2 rfl) (by decide) dk dk (by decide) o_chr (zc sV ze)) (yg (id := "chr") (gm 2 rfl) (by decide) dk dk (by decide) o_chr (zc (zo sV zh zC) ze)) zC))
 (zb (sS_assignE (gm 3 rfl) (Yi false (c := ⟨_, [(".0", 9, false), ("first", 10, false), ("second", 11, false), ("third", 12, false)], [("signs", 2)], []⟩) (yV.ok_of dk) (si_str sV) (fun _ _ => rfl) (turn_30 _ _ _ _ _ _ _ _ _ _ _ _ ) (Zt.one (gm 1 rfl)) ZC (xs_nest rfl (si_str sV) (fun _ _ => rfl) (turn_31 _ _ _ _ _ _ _ _ _ _ _ _ ) (Zt.one (gm 2 rfl)) ZC (xs_nest rfl (si_str sV) (fun _ _ => rfl) (turn_32 _ _ _ _ _ _ _ _ _ _ _ _ ) (Zt.one (gm 3 rfl)) ZC (yo (zo (zo sV sV zC) sV zC))))) (sw_cell (gm 2 rfl)))
 (zb (zg (gm 4 rfl) (sE_dictzip (gm 3 rfl) (gm 6 rfl) (zc sV (zc (Yi false (c := ⟨_, [(".0", 9, false), ("place", 10, false)], [("numbers", 0)], []⟩) (yV.ok_of dk) (zbs (gm 4 rfl) (zc zh ze) (fun _ => rfl) (fun _ _ => rfl)) (fun _ _ => rfl) (yY _ _ _ _ _ _) (Zt.one (gm 1 rfl)) ZC (yo (zo (zo (zo (zv sV zh (fun _ _ => rfl)) (zo zh sV op_pow) op_div) zh op_mod) zh zC))) ze)) (fun _ => rfl) (fun _ _ => rfl)))
 (zb (YY false (c := ⟨_, [(".0", 9, false), ("number", 10, false)], [("signs", 2)], ["_law_items"]⟩) (yV.ok_of dk) (gm 5 rfl) (yJ (yO sV (zT zh) Zi) (by first | exact .inl ⟨_, rfl⟩ | exact .inr ⟨_, rfl⟩)) (fun _ _ => rfl) (yY _ _ _ _ _ _) (Zt.one (gm 1 rfl)) ZC (yo (zS (i := 27) (gm 0 rfl) (by decide) dk dk fn_law_items (by decide) (zc sV (zc (zv sV zh (fun _ _ => rfl)) (zc (zv sV zh (fun _ _ => rfl)) ze))))) (YX (gm 2 rfl) dk dk))
 (zb (YY false (c := ⟨_, [(".0", 9, false), ("rule", 10, false)], [], ["_law_pieces", "translate"]⟩) (yV.ok_of dk) (gm 6 rfl) (yJ sV (by first | exact .inl ⟨_, rfl⟩ | exact .inr ⟨_, rfl⟩)) (fun _ _ => rfl) (yY _ _ _ _ _ _) (Zt.one (gm 1 rfl)) ZC (yo (zS (i := 23) (gm 0 rfl) (by decide) dk dk fn_law_pieces (by decide) (zc (zS (i := 9) (gm 1 rfl) (by decide) dk dk fn_translate (by decide) (zc (yC F.plainAttrs_str F.slot_str_join F.type_str_join (zF (l := []) dk) (zc (Yi false (c := ⟨_, [(".0", 11, false), ("written", 12, false), ("fit", 13, false)], [], []⟩) (yV.ok_of dk) (yJ sV (by first | exact .inl ⟨_, rfl⟩ | exact .inr ⟨_, rfl⟩)) (fun _ _ => rfl) (yY _ _ _ _ _ _) (Zt.many (yz.cons (gm 1 rfl) (yz.cons (gm 2 rfl) yz.nil))) ZC (yo sV)) ze) o_join) ze)) ze))) (YX (gm 3 rfl) dk dk))
 (zb (yp (zu sE_none sV c_in (by rfl)) (zb (zz YC)
 zj) zj)
 (zb (YY false (c := ⟨_, [(".0", 9, false), ("pieces", 10, true)], [("names", 3)], []⟩) (yV.ok_of dk) (gm 7 rfl) (yJ sV (by first | exact .inl ⟨_, rfl⟩ | exact .inr ⟨_, rfl⟩)) (fun _ _ => rfl) (yY _ _ _ _ _ _) (Zt.one (gm 1 rfl)) ZC (yo (Yi false (c := ⟨_, [(".0", 11, false), ("name", 12, false)], [("pieces", 10)], ["_law_takes"]⟩) (yV.ok_of dk) (yJ sV (by first | exact .inl ⟨_, rfl⟩ | exact .inr ⟨_, rfl⟩)) (fun _ _ => rfl) (yY _ _ _ _ _ _) (Zt.one (gm 1 rfl)) (ts_one (yZ (zS (i := 25) (gm 0 rfl) (by decide) dk dk fn_law_takes (by decide) (zc sV (zc sV ze))) (fun _ _ => rfl))) (yo sV))) (YX (gm 4 rfl) dk dk))
 (zb (YY false (c := ⟨_, [(".0", 9, false), ("rule", 10, true)], [("names", 3)], []⟩) (yV.ok_of dk) (gm 8 rfl) (yJ sV (by first | exact .inl ⟨_, rfl⟩ | exact .inr ⟨_, rfl⟩)) (fun _ _ => rfl) (yY _ _ _ _ _ _) (Zt.one (gm 1 rfl)) ZC (yo (Yi false (c := ⟨_, [(".0", 11, false), ("name", 12, false)], [("rule", 10)], ["_law_suits"]⟩) (yV.ok_of dk) (yJ sV (by first | exact .inl ⟨_, rfl⟩ | exact .inr ⟨_, rfl⟩)) (fun _ _ => rfl) (yY _ _ _ _ _ _) (Zt.one (gm 1 rfl)) (ts_one (yZ (zS (i := 26) (gm 0 rfl) (by decide) dk dk fn_law_suits (by decide) (zc sV (zc sV ze))) (fun _ _ => rfl))) (yo sV))) (YX (gm 5 rfl) dk dk))
 (zb (zz (YK (zS (i := 29) (gm 0 rfl) (by decide) dk dk fn_law_lazily (by decide) (zc sV (zc sV ze))) (zS (i := 30) (gm 1 rfl) (by decide) dk dk fn_law_plainly (by decide) (zc sV (zc sV ze))) yu (by rfl)))
 zj))))))))))
noncomputable def Qq := ZY F_law_agree XI
theorem fn_law_agree : FN 15 (defAt 31).name Qq := ZI 31 rfl (by kernel_rfl) s_law_agree.t (fun _ _ _ _ => rfl) rfl fun _ _ => trivial
noncomputable def F_law : FI := { d := defAt 32, ps := ["script"], nm := [("script", false), ("drawn", false)], gl := ["_law_agree", "len"], extra := 2 }
noncomputable def V_law : Vis := { nm := [("script", 0), ("drawn", 1)], gl := ["_law_agree", "len"], lc := ["script", "drawn"], cc := [], cp := [], fs := [2, 3] }
noncomputable def m_law : PM FL := (zi (zr 1 (lcK false (zP [2, 3] (Zh (.one 3) (ZR (za 0) (PM.ok Option.none) (Zb (PM.ok (.int 5))))) (.one 3) (PM.ok true) (PM.bd (zk modF (yL intF (zd (za 3) (PM.ok []))) (zk powF (PM.ok (.int 10)) (PM.ok (.int 6)))) fun y => PM.ok [y]))))
 (zi (ZZ (ye Qq (zd (zk zQ (za 1) (ZR (QN (zd (PM.ok (.int 37668)) (zd (PM.ok (.int 12798)) (zd (PM.ok (.int 9)) (zd (PM.ok (.int 103)) (zd (PM.ok (.int 152)) (PM.ok []))))))) (Zb (yL yn (zd (za 1) (PM.ok [])))) (PM.ok Option.none))) (PM.ok []))))
 (PM.ok .next)))
theorem s_law : SB V_law 17 (defAt 32).body m_law := (zb (YY false (c := ⟨_, [(".0", 2, false), ("cell", 3, false)], [], ["int"]⟩) (yV.ok_of dk) (gm 1 rfl) (yJ (yO sV Zi (zT zh)) (by first | exact .inl ⟨_, rfl⟩ | exact .inr ⟨_, rfl⟩)) (fun _ _ => rfl) (yY _ _ _ _ _ _) (Zt.one (gm 1 rfl)) ZC (yo (zo (sE_type (T := "int") (gm 0 rfl) (by decide) dk dk (by decide) o_int (zc sV ze) (fun _ => rfl) (fun _ _ => rfl)) (zo zh zh op_pow) op_mod)) (YX (gm 1 rfl) dk dk))
 (zb (zz (zS (i := 31) (gm 0 rfl) (by decide) dk dk fn_law_agree (by decide) (zc (zo sV (yO (Za (zc zh (zc zh (zc zh (zc zh (zc zh ze)))))) (zT (yg (id := "len") (gm 1 rfl) (by decide) dk dk (by decide) Zo (zc sV ze))) Zi) zC) ze)))
 zj))
noncomputable def φ_law := ZY F_law m_law
theorem yq {F : FI} {m : PM FL} {args : List AV} {st : List AE} {fl : FL} {σ' : St} {v : AV} (hm : m ⟨F.init args, st⟩ = some (fl, σ')) (hr : retOf fl = some v) (hl : args.length = F.ps.length) (hs : σ'.st.length = st.length) : ZY F m args st = some (v, σ'.st) := by
 unfold ZY
 rw [hm]
 dsimp only
 rw [hr]
 dsimp only
 rw [if_pos ⟨hl, .inl hs⟩, <- hs, List.take_length]
theorem Yk {F : FI} {m : PM FL} {args : List AV} {st : List AE} {fl : FL} {σ' : St} {v : AV} {e : List AE} (hm : m ⟨F.init args, st⟩ = some (fl, σ')) (hr : retOf fl = some v) (hl : args.length = F.ps.length) (hs : σ'.st = st ++ e) (hv : v.lower st.length = true) : ZY F m args st = some (v, st) := by
 unfold ZY
 rw [hm]
 dsimp only
 rw [hr]
 dsimp only
 rw [if_pos ⟨hl, .inr ⟨hv, e, hs⟩⟩, hs, List.take_left]
section
variable {α β : Type} {σ σ1 σ2 σ3 : St} {a b v : AV} {xs ys : List AV} {X : Option (FL × St)} {Y : Option (AV × St)}
theorem zl {x : β} : PM.ok x σ = some (x, σ) := rfl
theorem zD {i : Nat} (h : σ.get i = some v) : za i σ = some (v, σ) := by simp only [za, PM.of, h]; rfl
theorem ZJ {o : St -> Option β} {x : β} (h : o σ = some x) : PM.of o σ = some (x, σ) := by simp only [PM.of, h]; rfl
theorem zt {m : PM α} {f : α -> PM β} {x : α} {Z : Option (β × St)} (h : m σ = some (x, σ1)) (h2 : f x σ1 = Z) : PM.bd m f σ = Z := by simp only [PM.bd, h]; exact h2
theorem Zj {f : St -> AV -> AV -> Option AV} {m n : PM AV} (h1 : m σ = some (a, σ1)) (h2 : n σ1 = some (b, σ2)) (h3 : f σ2 a b = some v) : zk f m n σ = some (v, σ2) := zt h1 (zt h2 (ZJ h3))
theorem e_op1 {f : St -> AV -> Option AV} {m : PM AV} (h1 : m σ = some (a, σ1)) (h3 : f σ1 a = some v) : Zg f m σ = some (v, σ1) := zt h1 (ZJ h3)
theorem zch {f : St -> AV -> AV -> Option Bool} {m n : PM AV} {r : Bool} (h1 : m σ = some (a, σ1)) (h2 : n σ1 = some (b, σ2)) (h3 : f σ2 a b = some r) : zO f m n σ = some (r, σ2) := zt h1 (zt h2 (ZJ h3))
theorem e_tru {m : PM AV} {r : Bool} (h1 : m σ = some (a, σ1)) (h3 : YW σ1 a = some r) : YJ m σ = some (r, σ1) := zt h1 (ZJ h3)
theorem e_not {m : PM Bool} {r : Bool} (h1 : m σ = some (r, σ1)) : notM m σ = some (!r, σ1) := zt h1 rfl
theorem e_and {m n : PM Bool} {r : Bool} {Z : Option (Bool × St)} (h1 : m σ = some (r, σ1)) (ht : r = true -> n σ1 = Z) (hf : r = false -> some (false, σ1) = Z) : YG m n σ = Z := by
 cases r with
 | true => exact zt h1 (ht rfl)
 | false => exact zt h1 (hf rfl)
theorem e_or {m n : PM Bool} {r : Bool} {Z : Option (Bool × St)} (h1 : m σ = some (r, σ1)) (ht : r = true -> some (true, σ1) = Z) (hf : r = false -> n σ1 = Z) : orM m n σ = Z := by
 cases r with
 | true => exact zt h1 (ht rfl)
 | false => exact zt h1 (hf rfl)
theorem e_ite {c : PM Bool} {m n : PM FL} {r : Bool} (h1 : c σ = some (r, σ1)) (ht : r = true -> m σ1 = X) (hf : r = false -> n σ1 = X) : Zn c m n σ = X := by
 cases r with
 | true => exact zt h1 (ht rfl)
 | false => exact zt h1 (hf rfl)
theorem e_itE {c : PM Bool} {m n : PM AV} {r : Bool} (h1 : c σ = some (r, σ1)) (ht : r = true -> m σ1 = Y) (hf : r = false -> n σ1 = Y) : iteE c m n σ = Y := by
 cases r with
 | true => exact zt h1 (ht rfl)
 | false => exact zt h1 (hf rfl)
theorem e_andV {m n : PM AV} {r : Bool} (h1 : m σ = some (a, σ1)) (h0 : YW σ1 a = some r) (ht : r = true -> n σ1 = Y) (hf : r = false -> some (a, σ1) = Y) : andV m n σ = Y := by
 refine zt h1 (zt (ZJ h0) ?_)
 cases r with
 | true => exact ht rfl
 | false => exact hf rfl
theorem e_orV {m n : PM AV} {r : Bool} (h1 : m σ = some (a, σ1)) (h0 : YW σ1 a = some r) (ht : r = true -> some (a, σ1) = Y) (hf : r = false -> n σ1 = Y) : orV m n σ = Y := by
 refine zt h1 (zt (ZJ h0) ?_)
 cases r with
 | true => exact ht rfl
 | false => exact hf rfl
theorem yK : (PM.ok [] : PM (List AV)) σ = some ([], σ) := rfl
theorem zI {m : PM AV} {r : PM (List AV)} (h1 : m σ = some (a, σ1)) (h2 : r σ1 = some (xs, σ2)) : zd m r σ = some (a :: xs, σ2) := zt h1 (zt h2 rfl)
theorem zad {f : St -> List AV -> Option AV} {m : PM (List AV)} (h1 : m σ = some (xs, σ1)) (h2 : f σ1 xs = some v) : yL f m σ = some (v, σ1) := zt h1 (ZJ h2)
theorem Qe {φ : List AV -> List AE -> Option (AV × List AE)} {m : PM (List AV)} {st' : List AE} (hm : m σ = some (xs, σ1)) (h : φ xs σ1.st = some (v, st')) (he : ({ σ1 with st := st' } : St) = σ2) : ye φ m σ = some (v, σ2) := by simp only [ye, PM.bd, hm, h, he]
theorem e_tup {m : PM (List AV)} (h1 : m σ = some (xs, σ1)) (h2 : decide (xs.length <= 1000) = true) : YI m σ = some (.tup xs, σ1) := zt h1 (ZJ (if_pos (of_decide_eq_true h2)))
theorem e_lst {m : PM (List AV)} (h1 : m σ = some (xs, σ1)) (h2 : decide (xs.length <= 1000) = true) : QN m σ = some (.lst xs, σ1) := zt h1 (ZJ (if_pos (of_decide_eq_true h2)))
theorem e_mlst {m : PM (List AV)} (h1 : m σ = some (xs, σ1)) (h2 : decide (xs.length <= 1000) = true) : Zc m σ = some (.loc σ1.st.length, { σ1 with st := σ1.st ++ [.lst xs] }) := zt h1 (if_pos (of_decide_eq_true h2))
theorem zac {i : Nat} {m : PM AV} (h : m σ = some (v, σ1)) : zr i m σ = some (.next, σ1.put i (some v)) := zt h rfl
theorem e_ret {m : PM AV} (h : m σ = some (v, σ1)) : ZZ m σ = some (.ret v, σ1) := zt h rfl
theorem e_expr {m : PM AV} (h : m σ = some (.none, σ1)) : yy m σ = some (.next, σ1) := zt h rfl
theorem zaz {m r : PM FL} (h : m σ = some (.next, σ1)) (h2 : r σ1 = X) : zi m r σ = X := zt h h2
theorem e_seqR {m r : PM FL} (h : m σ = some (.ret v, σ1)) : zi m r σ = some (.ret v, σ1) := zt h rfl
theorem e_seqX {m r : PM FL} {fl : FL} (h : m σ = some (fl, σ1)) (hn : fl = .next -> r σ1 = X) (hx : fl ≠ .next -> some (fl, σ1) = X) : zi m r σ = X := by
 cases fl with
 | next => exact zt h (hn rfl)
 | _ => exact zt h (hx nofun)
theorem e_bdb {c : PM Bool} {r : Bool} (h : c σ = some (r, σ1)) : (PM.bd c fun b => PM.ok (AV.bool b)) σ = some (AV.bool r, σ1) := zt h rfl
theorem e_aug {i : Nat} {m : PM AV} {x y : Int} (h : σ.get i = some (.int x)) (h2 : m σ = some (.int y, σ1)) : zag i m σ = some (.next, σ1.put i (some (.int (x + y)))) := zt (zD h) (zt h2 rfl)
theorem e_ass {c : PM Bool} (h : c σ = some (true, σ1)) : zcm c σ = some (.next, σ1) := zt h rfl
theorem e_setL {mo mi mv : PM AV} {n k : Nat} {l : List AV} (hv : mv σ = some (v, σ1)) (ho : mo σ1 = some (.loc n, σ2)) (hi : mi σ2 = some (.int k, σ3)) (hg : σ3.st[n]? = some (.lst l)) (hk : k < l.length) (hl : l.length <= 100000) : setM mo mi mv σ = some (.next, { σ3 with st := σ3.st.set n (.lst (l.set k v)) }) := by
 refine zt hv (zt ho (zt hi ?_))
 dsimp only
 rw [hg]
 dsimp only
 rw [if_pos ⟨Int.natCast_nonneg k, by omega, hl⟩, Int.toNat_natCast]
theorem e_unp {m : PM AV} {is : List Nat} (h : m σ = some (a, σ1)) (hu : unpF σ1 a = some xs) (hl : decide (xs.length = is.length) = true) : unpM m is σ = some (.next, σ1.puts (is.zip xs)) := by
 refine zt h ?_
 rw [hu]
 exact if_pos (of_decide_eq_true hl)
theorem e_unps {m : PM AV} {is : List Nat} (h : m σ = some (a, σ1)) (hu : unpF σ1 a = some xs) (hl : decide (xs.length = is.length) = true) : unpMs m is σ = some (.next, σ1.puts (is.reverse.zip xs.reverse)) := by
 refine zt h ?_
 rw [hu]
 exact if_pos (of_decide_eq_true hl)
theorem e_meth {T : String} {φ : St -> AV -> List AV -> Option (AV × St)} {mo : PM AV} {ma : PM (List AV)} (ho : mo σ = some (a, σ1)) (ht : tyF σ1 a = some T) (ha : ma σ1 = some (xs, σ2)) (h : φ σ2 a xs = Y) : Zd T φ mo ma σ = Y := by
 refine zt ho (zt (x := ()) (ZJ (by rw [if_pos ht])) (zt ha h))
theorem zcg {m : PM AV} {i : Int} (h : m σ = some (.int i, σ1)) : Zb m σ = some (some i, σ1) := zt h (ZJ rfl)
theorem e_cut {mv : PM AV} {ml mu : PM (Option Int)} {lo hi : Option Int} (h1 : mv σ = some (a, σ1)) (h2 : ml σ1 = some (lo, σ2)) (h3 : mu σ2 = some (hi, σ3)) (h4 : Zy σ3 lo hi a = some v) : ZR mv ml mu σ = some (v, σ3) := zt h1 (zt h2 (zt h3 (ZJ h4)))
theorem e_fz {m : PM AV} (h : m σ = some (a, σ1)) (h2 : fz2 σ1 a = Y) : fzM m σ = Y := zt h h2
theorem e_app {mf : PM AV} {me : PM (List AV)} {n : Nat} {x : AV} (h : mf σ = some (.app n, σ1)) (h2 : me σ1 = some ([x], σ2)) (h3 : zK σ2 (.loc n) [x] = Y) : appM mf me σ = Y := zt h (zt h2 h3)
theorem zca {n : Nat} {x : AV} {l : List AV} (h : σ.st[n]? = some (.lst l)) (hl : l.length <= 100000) : zK σ (.loc n) [x] = some (.none, { σ with st := σ.st.set n (.lst (l ++ [x])) }) := by
 exact bK rfl (bK rfl (bK (stK h) (if_pos hl)))
theorem Yv {n i : Nat} {l : List AV} (h : σ.st[n]? = some (.lst l)) (hl : l.length <= 100000) (hi : l[i]? = some v) : zn σ (.loc n) (.int i) = some v := by
 exact bK (stK h) ((if_pos hl).trans ((if_pos (Int.natCast_nonneg i)).trans hi))
theorem yr {i : Nat} {l : List AV} (hl : l.length <= 100000) (hi : l[i]? = some v) : zn σ (.lst l) (.int i) = some v := by
 exact (if_pos hl).trans ((if_pos (Int.natCast_nonneg i)).trans hi)
theorem XC {i c : Nat} {l : List Nat} (hl : l.length <= 100000) (hi : l[i]? = some c) : zn σ (.str l) (.int i) = some (.str [c]) := by
 exact (if_pos hl).trans (congrArg (Option.map fun c => AV.str [c]) ((if_pos (Int.natCast_nonneg i)).trans hi))
theorem q_len {n : Nat} {l : List AV} (h : σ.st[n]? = some (.lst l)) (hl : l.length <= 100000) : yn σ [.loc n] = some (.int l.length) := by
 exact bK (stK h) (if_pos hl)
theorem Qv {l : List AV} (hl : l.length <= 100000) : yn σ [.lst l] = some (.int l.length) := if_pos hl
theorem YM {l : List Nat} (hl : l.length <= 100000) : yn σ [.str l] = some (.int l.length) := if_pos hl
theorem q_tru {n : Nat} {l : List AV} (h : σ.st[n]? = some (.lst l)) (hl : l.length <= 100000) : YW σ (.loc n) = some (!l.isEmpty) := by
 exact bK (stK h) (if_pos hl)
theorem q_truL {l : List AV} (hl : l.length <= 100000) : YW σ (.lst l) = some (!l.isEmpty) := if_pos hl
theorem q_truS {l : List Nat} (hl : l.length <= 100000) : YW σ (.str l) = some (!l.isEmpty) := if_pos hl
theorem zbz {n : Nat} {l : List AV} (h : σ.st[n]? = some (.lst l)) : tyF σ (.loc n) = some "list" := by
 exact congrArg (Option.map fun _ => "list") (stK h)
theorem Yl {x y : Int} (h : x < y) : ltD σ (.int x) (.int y) = some true := congrArg some (decide_eq_true h)
theorem Xs {x y : Int} (h : ¬ x < y) : ltD σ (.int x) (.int y) = some false := congrArg some (decide_eq_false h)
theorem q_gtI {x y : Int} (h : y < x) : gtF σ (.int x) (.int y) = some true := congrArg some (decide_eq_true h)
theorem q_ngtI {x y : Int} (h : ¬ y < x) : gtF σ (.int x) (.int y) = some false := congrArg some (decide_eq_false h)
theorem q_geI {x y : Int} (h : y <= x) : geF σ (.int x) (.int y) = some true := congrArg some (decide_eq_true h)
theorem q_ngeI {x y : Int} (h : ¬ y <= x) : geF σ (.int x) (.int y) = some false := congrArg some (decide_eq_false h)
theorem Qw {x y z : Int} (h : x + y = z) : zQ σ (.int x) (.int y) = some (.int z) := by rw [<- h]; rfl
theorem q_subI {x y z : Int} (h : x - y = z) : subF σ (.int x) (.int y) = some (.int z) := by rw [<- h]; rfl
theorem q_shr {r : Nat} : shrF σ (.int r) (.int 1) = some (.int ((r / 2 : Nat) : Int)) := by
 show (if 0 <= (r : Int) /\ (1 : Int) = 1 then some (AV.int ((r : Int) / 2)) else Option.none) = _
 rw [if_pos ⟨Int.natCast_nonneg r, rfl⟩]; rfl
theorem q_mul {x y z : Int} (h : -1000000000000 < x /\ x < 1000000000000) (e : x * y = z) : mulF σ (.int x) (.int y) = some (.int z) := by
 show (if -1000000000000 < x /\ x < 1000000000000 then some (AV.int (x * y)) else Option.none) = _
 rw [if_pos h, e]
theorem q_addS {x y : List Nat} (h : x.length + y.length <= 100000) : zQ σ (.str x) (.str y) = some (.str (x ++ y)) := if_pos h
theorem q_addL {x y : List AV} (h : x.length + y.length <= 100000) : zQ σ (.lst x) (.lst y) = some (.lst (x ++ y)) := if_pos h
theorem q_cutS {l : List Nat} {lo hi : Option Int} (hl : l.length <= 100000) : Zy σ lo hi (.str l) = some (.str (YB l lo hi)) := if_pos hl
theorem q_cutL {l : List AV} {lo hi : Option Int} (hl : l.length <= 100000) : Zy σ lo hi (.lst l) = some (.lst (YB l lo hi)) := if_pos hl
end
section
variable {c : PM Bool} {b : PM FL} {n : Nat} {σ σ1 σ2 : St}
theorem YH (h : c σ = some (false, σ1)) : zA c b (n + 1) σ = some (.next, σ1) := by simp only [zA, PM.bd, h]; rfl
theorem zbq (h : c σ = some (true, σ1)) (h2 : b σ1 = some (.next, σ2)) : zA c b (n + 1) σ = zA c b n σ2 := by simp only [zA, PM.bd, h, h2]
theorem wh_c (h : c σ = some (true, σ1)) (h2 : b σ1 = some (.cont, σ2)) : zA c b (n + 1) σ = zA c b n σ2 := by simp only [zA, PM.bd, h, h2]
theorem wh_b (h : c σ = some (true, σ1)) (h2 : b σ1 = some (.brk, σ2)) : zA c b (n + 1) σ = some (.next, σ2) := by simp only [zA, PM.bd, h, h2]; rfl
end
theorem Yr (st l : List AE) (k : Nat) : (st ++ l)[st.length + k]? = l[k]? := by rw [List.getElem?_append_right (Nat.le_add_right _ _), Nat.add_sub_cancel_left]
theorem Zm (st l : List AE) : (st ++ l)[st.length]? = l[0]? := Yr st l 0
theorem zbd (st l : List AE) (k : Nat) (x : AE) : (st ++ l).set (st.length + k) x = st ++ l.set k x := by rw [List.set_append_right _ _ (Nat.le_add_right _ _), Nat.add_sub_cancel_left]
theorem ss_0 (st l : List AE) (x : AE) : (st ++ l).set st.length x = st ++ l.set 0 x := zbd st l 0 x
theorem Yz {st : List AE} {n : Nat} {x y : AE} (h : st[n]? = some x) : (st.set n y)[n]? = some y := by
 obtain ⟨h, _⟩ := List.getElem?_eq_some_iff.mp h
 exact List.getElem?_set_self h
theorem setSelf {st : List AE} {n : Nat} {x : AE} (h : st[n]? = some x) : st.set n x = st := by
 obtain ⟨h1, h2⟩ := List.getElem?_eq_some_iff.mp h
 rw [<- h2]; exact List.set_getElem_self h1
noncomputable abbrev PI := Int × Int
noncomputable def itm (x : PI) : AV := .lst [.int x.1, .int x.2]
noncomputable def lt2 (x y : PI) : Bool := ltL [x.1, x.2] [y.1, y.2]
theorem lt2D (σ : St) (x y : PI) : ltD σ (itm x) (itm y) = some (lt2 x y) := rfl
theorem lt2_iff (x y : PI) : lt2 x y = true ↔ x.1 < y.1 ∨ (x.1 = y.1 /\ x.2 < y.2) := by
 simp only [lt2, ltL]
 by_cases h : x.1 = y.1
 ·by_cases h2 : x.2 = y.2
  ·simp [h, h2]
  ·simp [h, h2]
 ·simp [h]
noncomputable def sdP : Nat -> List PI -> PI -> Nat -> Nat -> List PI × Nat
 | 0, l, _, _, p => (l, p)
 | k + 1, l, x, s, p => if s < p /\ (p - 1) / 2 < l.length then (if lt2 x (l.getD ((p - 1) / 2) x) then sdP k (l.set p (l.getD ((p - 1) / 2) x)) x s ((p - 1) / 2) else (l, p)) else (l, p)
theorem mget (l : List PI) (i : Nat) (x : PI) (h : i < l.length) : (l.map itm)[i]? = some (itm (l.getD i x)) := by
 simp [h, List.getD_eq_getElem?_getD]
theorem mset (l : List PI) (i : Nat) (x : PI) : (l.map itm).set i (itm x) = (l.set i x).map itm := by rw [List.map_set]
theorem sdP_len (x : PI) (s : Nat) : ∀ (k p : Nat) (l : List PI), (sdP k l x s p).1.length = l.length
 | 0, _, _ => rfl
 | k + 1, p, l => by
  simp only [sdP]
  split
  ·split
   ·rw [sdP_len x s k]; simp
   ·rfl
  ·rfl
theorem sdP_pos (x : PI) (s : Nat) : ∀ (k p : Nat) (l : List PI), p < l.length -> (sdP k l x s p).2 < l.length
 | 0, _, _, h => h
 | k + 1, p, l, h => by
  simp only [sdP]; split
  ·rename_i h2
   split
   ·have := sdP_pos x s k ((p - 1) / 2) (l.set p (l.getD ((p - 1) / 2) x)) (by simpa using h2.2)
    simpa using this
   ·exact h
  ·exact h
theorem sd_loop (n : Nat) (x : PI) (s : Nat) : ∀ (k p : Nat) (l : List PI) (st : List AE) (j1 j2 : Option AV) (m : Nat), st[n]? = some (.lst (l.map itm)) -> p < l.length -> p < k -> k <= m -> l.length <= 1000 ->
  ∃ j1' j2', zA Ze Zf m ⟨[some (.loc n), some (.int s), some (.int p), some (itm x), j1, j2], st⟩ = some (.next, ⟨[some (.loc n), some (.int s), some (.int (sdP k l x s p).2), some (itm x), j1', j2'], st.set n (.lst ((sdP k l x s p).1.map itm))⟩)
 | 0, p, l, st, j1, j2, m, _, _, hk, _, _ => absurd hk (by omega)
 | k + 1, p, l, st, j1, j2, 0, _, _, _, hm, _ => absurd hm (by omega)
 | k + 1, p, l, st, j1, j2, m + 1, h, hp, hk, hm, hl => by
  have hn := setSelf h
  by_cases hs : s < p
  ·obtain ⟨r, rfl⟩ : ∃ r, p = r + 1 := ⟨p - 1, by omega⟩
   have hq : r / 2 < l.length := by omega
   have e1 : ((r + 1 : Nat) : Int) - 1 = (r : Int) := by omega
   have e2 : ((r : Int) / 2) = ((r / 2 : Nat) : Int) := by omega
   have hc : Ze ⟨[some (.loc n), some (.int s), some (.int (r + 1 : Nat)), some (itm x), j1, j2], st⟩ = some (true, ⟨[some (.loc n), some (.int s), some (.int (r + 1 : Nat)), some (itm x), j1, j2], st⟩) := by
    unfold Ze
    exists zl, q_gtI (by omega)
   have hg := mget l (r / 2) x hq
   have hl2 : (l.map itm).length <= 100000 := by rw [List.length_map]; omega
   have hp2 : r + 1 < (l.map itm).length := by rw [List.length_map]; exact hp
   have hlt : ∀ {σ : St} {b : Bool}, lt2 x (l.getD (r / 2) x) = b -> ltD σ (itm x) (itm (l.getD (r / 2) x)) = some b := by intro σ b h; rw [lt2D, h]
   by_cases ht : lt2 x (l.getD (r / 2) x) = true
   ·have hb : Zf ⟨[some (.loc n), some (.int s), some (.int (r + 1 : Nat)), some (itm x), j1, j2], st⟩ = some (.cont, ⟨[some (.loc n), some (.int s), some (.int (r / 2 : Nat)), some (itm x), some (.int (r / 2 : Nat)), some (itm (l.getD (r / 2) x))], st.set n (.lst ((l.set (r + 1) (l.getD (r / 2) x)).map itm))⟩) := by
     rw [<- mset]
     unfold Zf
     exists zl, q_subI e1, q_shr, Yv h hl2 hg, hlt ht, h, hl2, hp2
    obtain ⟨a1, a2, h2⟩ := sd_loop n x s k (r / 2) (l.set (r + 1) (l.getD (r / 2) x)) (st.set n (.lst ((l.set (r + 1) (l.getD (r / 2) x)).map itm))) (some (.int (r / 2 : Nat))) (some (itm (l.getD (r / 2) x))) m (Yz h) (by simpa using hq) (by omega) (by omega) (by simpa using hl)
    refine ⟨a1, a2, ?_⟩
    rw [wh_c hc hb, h2]
    simp only [sdP, Nat.add_sub_cancel]
    rw [if_pos ⟨hs, hq⟩, if_pos ht, List.set_set]
   ·have ht' : lt2 x (l.getD (r / 2) x) = false := by simpa using ht
    have hb : Zf ⟨[some (.loc n), some (.int s), some (.int (r + 1 : Nat)), some (itm x), j1, j2], st⟩ = some (.brk, ⟨[some (.loc n), some (.int s), some (.int (r + 1 : Nat)), some (itm x), some (.int (r / 2 : Nat)), some (itm (l.getD (r / 2) x))], st⟩) := by
     unfold Zf
     exists zl, q_subI e1, q_shr, Yv h hl2 hg, hlt ht'
    refine ⟨some (.int (r / 2 : Nat)), some (itm (l.getD (r / 2) x)), ?_⟩
    rw [wh_b hc hb]
    simp only [sdP, Nat.add_sub_cancel]
    rw [if_pos ⟨hs, hq⟩, if_neg ht, hn]
  ·have hc : Ze ⟨[some (.loc n), some (.int s), some (.int p), some (itm x), j1, j2], st⟩ = some (false, ⟨[some (.loc n), some (.int s), some (.int p), some (itm x), j1, j2], st⟩) := by
    unfold Ze
    exists zl, q_ngtI (by omega)
   refine ⟨j1, j2, ?_⟩
   rw [YH hc]
   simp only [sdP]
   rw [if_neg (fun h => hs h.1), hn]
noncomputable def sdL (l : List PI) (s p : Nat) (x : PI) : List PI := (sdP (p + 1) l x s p).1.set (sdP (p + 1) l x s p).2 x
theorem siftdown_eq {st : List AE} {n s p : Nat} {l : List PI} {x : PI} (h : st[n]? = some (.lst (l.map itm))) (hx : l[p]? = some x) (hl : l.length <= 1000) :
  QO [.loc n, .int s, .int p] st = some (.none, st.set n (.lst ((sdL l s p x).map itm))) := by
 have i0 : F_siftdown.init [.loc n, .int s, .int p] = [some (.loc n), some (.int s), some (.int p), none, none, none] := rfl
 have hp : p < l.length := (List.getElem?_eq_some_iff.mp hx).1
 have hx' : (l.map itm)[p]? = some (itm x) := by rw [List.getElem?_map, hx]; rfl
 have hk := sd_loop n x s (p + 1) p l st none none 100000 h hp (by omega) (by omega) hl; obtain ⟨a1, a2, h1⟩ := hk
 have hl1 : l.length <= 100000 := by omega
 refine yq (σ' := ⟨[some (.loc n), some (.int s), some (.int (sdP (p + 1) l x s p).2), some (itm x), a1, a2], st.set n (.lst ((sdL l s p x).map itm))⟩) (fl := .next) ?_ rfl rfl (by simp)
 have hq := sdP_pos x s (p + 1) p l hp
 have hl2 : (l.map itm).length <= 100000 := by rw [List.length_map]; omega
 have hl3 : ((sdP (p + 1) l x s p).1.map itm).length <= 100000 := by rw [List.length_map, sdP_len]; omega
 have hp2 : (sdP (p + 1) l x s p).2 < ((sdP (p + 1) l x s p).1.map itm).length := by rw [List.length_map, sdP_len]; exact hq
 unfold zbh
 rw [sdL, <- mset, <- List.set_set (.lst ((sdP (p + 1) l x s p).1.map itm)) (l := st) (i := n)]
 exists zl, Yv h hl2 hx', h1, Yz h, hl3, hp2
noncomputable def suC (l : List PI) (p : Nat) : Nat := if 2 * p + 2 < l.length /\ lt2 (l.getD (2 * p + 1) (0, 0)) (l.getD (2 * p + 2) (0, 0)) = false then 2 * p + 2 else 2 * p + 1
noncomputable def suP : Nat -> List PI -> Nat -> List PI × Nat
 | 0, l, p => (l, p)
 | k + 1, l, p => if 2 * p + 1 < l.length then suP k (l.set p (l.getD (suC l p) (0, 0))) (suC l p) else (l, p)
theorem suC_lt {l : List PI} {p : Nat} (h : 2 * p + 1 < l.length) : suC l p < l.length := by unfold suC; split <;> omega
theorem suC_gt (l : List PI) (p : Nat) : p < suC l p := by unfold suC; split <;> omega
theorem zbr : ∀ (k p : Nat) (l : List PI), (suP k l p).1.length = l.length
 | 0, _, _ => rfl
 | k + 1, p, l => by
  simp only [suP]
  split
  ·rw [zbr k]; simp
  ·rfl
theorem suP_pos : ∀ (k p : Nat) (l : List PI), p < l.length -> (suP k l p).2 < l.length
 | 0, _, _, h => h
 | k + 1, p, l, h => by
  simp only [suP]
  split
  ·rename_i h2
   have := suP_pos k (suC l p) (l.set p (l.getD (suC l p) (0, 0))) (by simpa using suC_lt h2)
   simpa using this
  ·exact h
theorem su_loop (n s : Nat) (x : PI) : ∀ (k p : Nat) (l : List PI) (st : List AE) (j : Option AV) (m : Nat), st[n]? = some (.lst (l.map itm)) -> p < l.length -> l.length < k + p -> k <= m -> l.length <= 1000 ->
  ∃ j' c', zA ZW XR m ⟨[some (.loc n), some (.int p), some (.int l.length), some (.int s), some (itm x), some (.int (2 * p + 1 : Nat)), j], st⟩ = some (.next, ⟨[some (.loc n), some (.int (suP k l p).2), some (.int l.length), some (.int s), some (itm x), some (.int c'), j'], st.set n (.lst ((suP k l p).1.map itm))⟩)
 | 0, p, l, st, j, m, _, h1, h2, _, _ => absurd h2 (by omega)
 | k + 1, p, l, st, j, 0, _, _, _, hm, _ => absurd hm (by omega)
 | k + 1, p, l, st, j, m + 1, h, hp, hk, hm, hl => by
  have hn := setSelf h
  have hl1 : l.length <= 100000 := by omega
  by_cases hs : 2 * p + 1 < l.length
  ·have hc : ZW ⟨[some (.loc n), some (.int p), some (.int l.length), some (.int s), some (itm x), some (.int (2 * p + 1 : Nat)), j], st⟩ = some (true, ⟨[some (.loc n), some (.int p), some (.int l.length), some (.int s), some (itm x), some (.int (2 * p + 1 : Nat)), j], st⟩) := by
    unfold ZW
    exists zl, Yl (by omega)
   have e1 : ((2 * p + 1 : Nat) : Int) + 1 = ((2 * p + 2 : Nat) : Int) := by omega
   have e2 : (2 : Int) * ((suC l p : Nat) : Int) + 1 = ((2 * suC l p + 1 : Nat) : Int) := by omega
   have b1 : -1000000000000 < (2 : Int) /\ (2 : Int) < 1000000000000 := by omega
   have hg1 := mget l (2 * p + 1) (0, 0) hs
   have hgc := mget l (suC l p) (0, 0) (suC_lt hs)
   have hl2 : (l.map itm).length <= 100000 := by rw [List.length_map]; omega
   have hp2 : p < (l.map itm).length := by rw [List.length_map]; exact hp
   have hb : XR ⟨[some (.loc n), some (.int p), some (.int l.length), some (.int s), some (itm x), some (.int (2 * p + 1 : Nat)), j], st⟩ = some (.next, ⟨[some (.loc n), some (.int (suC l p)), some (.int l.length), some (.int s), some (itm x), some (.int (2 * suC l p + 1 : Nat)), some (.int (2 * p + 2 : Nat))], st.set n (.lst ((l.set p (l.getD (suC l p) (0, 0))).map itm))⟩) := by
    rw [<- mset]
    unfold XR
    by_cases hr : 2 * p + 2 < l.length
    ·have hg2 := mget l (2 * p + 2) (0, 0) hr
     cases ht : lt2 (l.getD (2 * p + 1) (0, 0)) (l.getD (2 * p + 2) (0, 0)) with
     | false =>
      have hcc : suC l p = 2 * p + 2 := by unfold suC; rw [if_pos ⟨hr, ht⟩]
      rw [hcc] at e2 hgc ⊢
      have hlt : ∀ {σ : St}, ltD σ (itm (l.getD (2 * p + 1) (0, 0))) (itm (l.getD (2 * p + 2) (0, 0))) = some false := by intro σ; rw [lt2D, ht]
      exists zl, Qw e1, Qw e2, q_mul b1 rfl, Yl (by omega), hlt, Yv h hl2 hg1, Yv h hl2 hg2, h, hl2, hp2
     | true =>
      have hcc : suC l p = 2 * p + 1 := by unfold suC; rw [if_neg (fun h => by rw [ht] at h; cases h.2)]
      rw [hcc] at e2 hgc ⊢
      have hlt : ∀ {σ : St}, ltD σ (itm (l.getD (2 * p + 1) (0, 0))) (itm (l.getD (2 * p + 2) (0, 0))) = some true := by intro σ; rw [lt2D, ht]
      exists zl, Qw e1, Qw e2, q_mul b1 rfl, Yl (by omega), hlt, Yv h hl2 hg1, Yv h hl2 hg2, h, hl2, hp2
    ·have hcc : suC l p = 2 * p + 1 := by unfold suC; rw [if_neg (fun h => hr h.1)]
     rw [hcc] at e2 hgc ⊢
     exists zl, Qw e1, Qw e2, q_mul b1 rfl, Xs (by omega), Yv h hl2 hg1, h, hl2, hp2
   obtain ⟨a1, c', h2⟩ := su_loop n s x k (suC l p) (l.set p (l.getD (suC l p) (0, 0))) (st.set n (.lst ((l.set p (l.getD (suC l p) (0, 0))).map itm))) (some (.int (2 * p + 2 : Nat))) m (Yz h) (by simpa using suC_lt hs) (by have := suC_gt l p; simp; omega) (by omega) (by simpa using hl)
   refine ⟨a1, c', ?_⟩
   rw [zbq hc hb]
   rw [List.length_set] at h2
   rw [h2]
   simp only [suP]
   rw [if_pos hs, List.set_set]
  ·have hc : ZW ⟨[some (.loc n), some (.int p), some (.int l.length), some (.int s), some (itm x), some (.int (2 * p + 1 : Nat)), j], st⟩ = some (false, ⟨[some (.loc n), some (.int p), some (.int l.length), some (.int s), some (itm x), some (.int (2 * p + 1 : Nat)), j], st⟩) := by
    unfold ZW
    exists zl, Xs (by omega)
   refine ⟨j, (2 * p + 1 : Nat), ?_⟩
   rw [YH hc]
   simp only [suP]
   rw [if_neg hs, hn]
noncomputable def suL (l : List PI) (p : Nat) (x : PI) : List PI := sdL ((suP (l.length + 1) l p).1.set (suP (l.length + 1) l p).2 x) p (suP (l.length + 1) l p).2 x
theorem zal {st : List AE} {n p : Nat} {l : List PI} {x : PI} (h : st[n]? = some (.lst (l.map itm))) (hx : l[p]? = some x) (hl : l.length <= 1000) :
  Qh [.loc n, .int p] st = some (.none, st.set n (.lst ((suL l p x).map itm))) := by
 have i0 : F_siftup.init [.loc n, .int p] = [some (.loc n), some (.int p), none, none, none, none, none] := rfl
 have hp : p < l.length := (List.getElem?_eq_some_iff.mp hx).1
 have hx' : (l.map itm)[p]? = some (itm x) := by rw [List.getElem?_map, hx]; rfl
 have hk := su_loop n p x (l.length + 1) p l st none 100000 h hp (by omega) (by omega) hl; obtain ⟨a1, c', h1⟩ := hk
 have hl1 : l.length <= 100000 := by omega
 have e1 : (2 : Int) * (p : Int) + 1 = ((2 * p + 1 : Nat) : Int) := by omega
 refine yq (σ' := ⟨[some (.loc n), some (.int (suP (l.length + 1) l p).2), some (.int l.length), some (.int p), some (itm x), some (.int c'), a1], st.set n (.lst ((suL l p x).map itm))⟩) (fl := .next) ?_ rfl rfl (by simp)
 have hq := suP_pos (l.length + 1) p l hp
 have hl2 : (l.map itm).length <= 100000 := by rw [List.length_map]; omega
 have hl3 : ((suP (l.length + 1) l p).1.map itm).length <= 100000 := by rw [List.length_map, zbr]; omega
 have hp2 : (suP (l.length + 1) l p).2 < ((suP (l.length + 1) l p).1.map itm).length := by rw [List.length_map, zbr]; exact hq
 have hln : ∀ {σ : St}, σ.st = st -> yn σ [.loc n] = some (.int l.length) := by intro σ e; rw [q_len (l := l.map itm) (by rw [e]; exact h) hl2, List.length_map]
 have hs := siftdown_eq (s := p) (p := (suP (l.length + 1) l p).2) (x := x) (Yz h (y := .lst (((suP (l.length + 1) l p).1.set (suP (l.length + 1) l p).2 x).map itm))) (by rw [List.getElem?_set_self (by rw [zbr]; exact hq)]) (by rw [List.length_set, zbr]; exact hl)
 rw [List.set_set, <- mset, <- List.set_set (.lst ((suP (l.length + 1) l p).1.map itm)) (l := st) (i := n) (b := .lst (((suP (l.length + 1) l p).1.map itm).set _ _))] at hs
 unfold m_siftup
 exists zl, hln rfl, Yv h hl2 hx', q_mul (by omega) rfl, Qw e1, h1, Yz h, hl3, hp2, hs
theorem QZ {st : List AE} {n : Nat} {l : List PI} {x y : PI} (h : st[n]? = some (.lst ((x :: l).map itm))) (hl : l.length <= 900) :
  Xh [.loc n, itm y] st = some (itm x, st.set n (.lst ((suL (y :: l) 0 y).map itm))) := by
 have i0 : zbb.init [.loc n, itm y] = [some (.loc n), some (itm y), none] := rfl
 have hl1 : l.length + 1 <= 100000 := by omega
 refine yq (σ' := ⟨[some (.loc n), some (itm y), some (itm x)], st.set n (.lst ((suL (y :: l) 0 y).map itm))⟩) (fl := .ret (itm x)) ?_ rfl rfl (by simp)
 have hl2 : ((x :: l).map itm).length <= 100000 := by rw [List.length_map]; exact hl1
 have hs := zal (p := 0) (x := y) (Yz h (y := .lst ((y :: l).map itm))) rfl (by simp; omega)
 rw [List.set_set] at hs
 unfold Qb
 exists zl, Yv (i := 0) h hl2 rfl, h, hl2, Nat.zero_lt_succ _, hs
theorem heappop_one {st : List AE} {n : Nat} {x : PI} (h : st[n]? = some (.lst ([x].map itm))) :
  Xi [.loc n] st = some (itm x, st.set n (.lst [])) := by
 have i0 : F_heappop.init [.loc n] = [some (.loc n), none, none] := rfl
 refine yq (σ' := ⟨[some (.loc n), some (itm x), none], st.set n (.lst [])⟩) (fl := .ret (itm x)) ?_ rfl rfl (by simp)
 unfold zap
 have hp : ∀ {σ : St}, σ.st = st -> popF σ (.loc n) [] = some (itm x, { σ with st := st.set n (.lst []) }) := by intro σ e; subst e; exact bK rfl ((if_pos rfl).trans (bK (stK h) rfl))
 exists zl, zbz h, hp rfl, q_tru (Yz h) (Nat.zero_le _)
theorem heappop_eq {st : List AE} {n : Nat} {l : List PI} {x y : PI} (h : st[n]? = some (.lst ((x :: (l ++ [y])).map itm))) (hl : l.length <= 900) :
  Xi [.loc n] st = some (itm x, st.set n (.lst ((suL (y :: l) 0 y).map itm))) := by
 have i0 : F_heappop.init [.loc n] = [some (.loc n), none, none] := rfl
 have hl1 : l.length + 1 <= 100000 := by omega
 have hl2 : l.length + 2 <= 100000 := by omega
 refine yq (σ' := ⟨[some (.loc n), some (itm y), some (itm x)], st.set n (.lst ((suL (y :: l) 0 y).map itm))⟩) (fl := .ret (itm x)) ?_ rfl rfl (by simp)
 have h0 : (0 : Int) < ((l.length + 1 : Nat) : Int) := by omega
 have hla : ((x :: (l ++ [y])).map itm).getLast? = some (itm y) := by rw [<- List.cons_append, List.map_append]; exact List.getLast?_concat
 have hdr : ((x :: (l ++ [y])).map itm).dropLast = (x :: l).map itm := by rw [<- List.cons_append, List.map_append]; exact List.dropLast_concat
 have hle : ((x :: (l ++ [y])).map itm).length <= 100000 := by simp; omega
 have hp : ∀ {σ : St}, σ.st = st -> popF σ (.loc n) [] = some (itm y, { σ with st := st.set n (.lst ((x :: l).map itm)) }) := by
  intro σ e; subst e; exact bK rfl ((if_pos rfl).trans (bK (stK h) (bK hla ((if_pos hle).trans (by rw [hdr])))))
 have hl2 : ((x :: l).map itm).length <= 100000 := by rw [List.length_map]; exact hl1
 have hs := zal (p := 0) (x := y) (Yz (Yz h) (n := n) (x := .lst ((x :: l).map itm)) (y := .lst ((y :: l).map itm))) rfl (by simp; omega)
 rw [show ((st.set n (.lst ((x :: l).map itm))).set n (.lst ((y :: l).map itm))).set n (.lst ((suL (y :: l) 0 y).map itm)) = st.set n (.lst ((suL (y :: l) 0 y).map itm)) by rw [List.set_set, List.set_set]] at hs
 unfold zap
 exists zl, zbz h, hp rfl, q_tru (Yz h) hl2, Yv (i := 0) (Yz h) hl2 rfl, Yz h, hl2, Nat.zero_lt_succ _, hs
theorem heapify_eq {st : List AE} {n : Nat} {a b c d : PI} {l1 l2 : List PI} (h : st[n]? = some (.lst ([a, b, c, d].map itm))) (h1 : suL [a, b, c, d] 1 b = l1) (h3 : ∃ x, l1[0]? = some x /\ suL l1 0 x = l2) (h4 : l1.length <= 1000) :
  zbc [.loc n] st = some (.none, st.set n (.lst (l2.map itm))) := by
 have i0 : F_heapify.init [.loc n] = [some (.loc n), none, none] := rfl
 obtain ⟨x, h3, h5⟩ := h3
 refine yq (σ' := ⟨[some (.loc n), some (.int 4), some (.int 0)], st.set n (.lst (l2.map itm))⟩) (fl := .next) ?_ rfl rfl (by simp)
 have hs1 := zal (p := 1) (x := b) h rfl (by simp)
 rw [h1, Int.natCast_one] at hs1
 have hs2 := zal (p := 0) (x := x) (Yz h (y := .lst (l1.map itm))) h3 h4
 rw [h5, Int.natCast_zero, List.set_set] at hs2
 have e1 : rrngF [.int ((4 : Int).fdiv 2)] = some [.int 1, .int 0] := rfl
 unfold m_heapify
 have hf : forS (rrngM (zd (zk divF (za 1) (PM.ok (AV.int 2))) (PM.ok []))) (.one 2) Xf ⟨[some (.loc n), some (.int 4), none], st⟩ = some (FL.next, (⟨[some (.loc n), some (.int 4), some (.int 0)], st.set n (AE.lst (l2.map itm))⟩ : St)) := by
  refine zt (x := [.int 1, .int 0]) (zt (x := [.int 2]) rfl (ZJ e1)) ?_
  refine zt (x := FL.next) (σ1 := ⟨[some (.loc n), some (.int 4), some (.int 1)], st.set n (AE.lst (l1.map itm))⟩) ?_ (zt (x := FL.next) (σ1 := ⟨[some (.loc n), some (.int 4), some (.int 0)], st.set n (AE.lst (l2.map itm))⟩) ?_ rfl)
  ·unfold Xf
   exists zl, hs1
  ·unfold Xf
   exists zl, hs2
 exists zl, q_len h (lb), hf
theorem lt2_f (x y : PI) : lt2 x y = false ↔ y.1 < x.1 ∨ (y.1 = x.1 /\ y.2 <= x.2) := by
 rw [<- Bool.not_eq_true, lt2_iff]
 constructor
 ·intro h
  rcases Int.lt_trichotomy x.1 y.1 with e | e | e
  ·exact absurd (.inl e) h
  ·exact .inr ⟨e.symm, Int.not_lt.mp fun q => h (.inr ⟨e, q⟩)⟩
  ·exact .inl e
 ·rintro (e | ⟨e, q⟩) (f | ⟨f, r⟩)
  ·exact Int.lt_irrefl _ (Int.lt_trans e f)
  ·exact Int.lt_irrefl _ (f ▸ e)
  ·exact Int.lt_irrefl _ (e ▸ f)
  ·exact Int.not_lt.mpr q r
noncomputable def Hp : List PI -> Prop
 | [x, b] => lt2 b x = false
 | [x, b, c] => lt2 b x = false /\ lt2 c x = false
 | [x, b, c, d] => lt2 b x = false /\ lt2 c x = false /\ lt2 d b = false
 | [] => True
 | [_] => True
 | _ :: _ :: _ :: _ :: _ :: _ => False
theorem su2 (y b : PI) : suL [y, b] 0 y = if lt2 y b then [y, b] else [b, y] := by
 cases h : lt2 y b <;> simp [suL, suP, suC, sdL, sdP, h]
theorem su3 (y b c : PI) : suL [y, b, c] 0 y = if lt2 b c then (if lt2 y b then [y, b, c] else [b, y, c]) else (if lt2 y c then [y, b, c] else [c, b, y]) := by
 cases h1 : lt2 b c <;> cases h2 : lt2 y b <;> cases h3 : lt2 y c <;> simp [suL, suP, suC, sdL, sdP, h1, h2, h3]
theorem su4 (y b c d : PI) : suL [y, b, c, d] 0 y = if lt2 b c then (if lt2 y d then (if lt2 y b then [y, b, c, d] else [b, y, c, d]) else [b, d, c, y]) else (if lt2 y c then [y, b, c, d] else [c, b, y, d]) := by
 cases h1 : lt2 b c
 ·cases h3 : lt2 y c <;> simp [suL, suP, suC, sdL, sdP, h1, h3]
 ·cases h2 : lt2 y b <;> cases h4 : lt2 y d <;> simp [suL, suP, suC, sdL, sdP, h1, h2, h4]
theorem su41 (a b c d : PI) : suL [a, b, c, d] 1 b = if lt2 b d then [a, b, c, d] else [a, d, c, b] := by
 cases h1 : lt2 b d <;> simp [suL, suP, suC, sdL, sdP, h1]
theorem Zq {x y : PI} (h : lt2 x y = true) : lt2 y x = false := (lt2_f y x).mpr (((lt2_iff x y).mp h).imp id fun q => ⟨q.1, Int.le_of_lt q.2⟩)
theorem lt2_tr {x y z : PI} (h1 : lt2 y x = false) (h2 : lt2 z y = false) : lt2 z x = false := by
 rw [lt2_f] at *
 rcases h1 with e | ⟨e, q⟩ <;> rcases h2 with f | ⟨f, r⟩
 ·exact .inl (Int.lt_trans e f)
 ·exact .inl (f ▸ e)
 ·exact .inl (e ▸ f)
 ·exact .inr ⟨e.trans f, Int.le_trans q r⟩
theorem lt2_rf (x : PI) : lt2 x x = false := by rw [lt2_f]; omega
theorem pm3 (y b c : PI) (l : List PI) : (c :: b :: y :: l).Perm (y :: b :: c :: l) := (List.Perm.cons c (.swap _ _ _)).trans ((List.Perm.swap _ _ _).trans (.cons y (.swap _ _ _)))
theorem su_hp : ∀ (x y : PI) (l : List PI), Hp (x :: l) -> Hp (suL (y :: l) 0 y) /\ (suL (y :: l) 0 y).Perm (y :: l)
 | x, y, [], _ => ⟨trivial, .refl _⟩
 | x, y, [b], h => by
  rw [su2]
  cases h1 : lt2 y b with
  | true => exact ⟨Zq h1, .refl _⟩
  | false => exact ⟨h1, .swap _ _ _⟩
 | x, y, [b, c], h => by
  rw [su3]
  cases h1 : lt2 b c with
  | true => cases h2 : lt2 y b with
   | true => exact ⟨⟨Zq h2, lt2_tr (Zq h2) (Zq h1)⟩, .refl _⟩
   | false => exact ⟨⟨h2, Zq h1⟩, .swap _ _ _⟩
  | false => cases h2 : lt2 y c with
   | true => exact ⟨⟨lt2_tr (Zq h2) h1, Zq h2⟩, .refl _⟩
   | false => exact ⟨⟨h1, h2⟩, pm3 _ _ _ _⟩
 | x, y, [b, c, d], h => by
  rw [su4]
  cases h1 : lt2 b c with
  | true => cases h3 : lt2 y d with
   | true => cases h2 : lt2 y b with
    | true => exact ⟨⟨Zq h2, lt2_tr (Zq h2) (Zq h1), h.2.2⟩, .refl _⟩
    | false => exact ⟨⟨h2, Zq h1, Zq h3⟩, .swap _ _ _⟩
   | false => exact ⟨⟨h.2.2, Zq h1, h3⟩, (List.Perm.cons b (pm3 _ _ _ _)).trans (.swap _ _ _)⟩
  | false => cases h2 : lt2 y c with
   | true => exact ⟨⟨lt2_tr (Zq h2) h1, Zq h2, h.2.2⟩, .refl _⟩
   | false => exact ⟨⟨h1, h2, h.2.2⟩, pm3 _ _ _ _⟩
 | x, y, _ :: _ :: _ :: _ :: _, h => h.elim
theorem hp_pre : ∀ (l : List PI) (y : PI), Hp (l ++ [y]) -> Hp l
 | [], _, _ => trivial
 | [_], _, _ => trivial
 | [_, _], _, h => h.1
 | [_, _, _], _, h => ⟨h.1, h.2.1⟩
 | _ :: _ :: _ :: _ :: [], _, h => h.elim
 | _ :: _ :: _ :: _ :: _ :: _, _, h => h.elim
theorem hp_top : ∀ (x : PI) (l : List PI), Hp (x :: l) -> ∀ z ∈ x :: l, lt2 z x = false
 | x, [], h, z, hz => by rw [List.mem_singleton.mp hz]; exact lt2_rf x
 | x, [b], h, z, hz => by
  rcases List.mem_cons.mp hz with rfl | hz
  ·exact lt2_rf z
  ·rw [List.mem_singleton.mp hz]; exact h
 | x, [b, c], h, z, hz => by
  rcases List.mem_cons.mp hz with rfl | hz
  ·exact lt2_rf z
  ·rcases List.mem_cons.mp hz with rfl | hz
   ·exact h.1
   ·rw [List.mem_singleton.mp hz]; exact h.2
 | x, [b, c, d], h, z, hz => by
  rcases List.mem_cons.mp hz with rfl | hz
  ·exact lt2_rf z
  ·rcases List.mem_cons.mp hz with rfl | hz
   ·exact h.1
   ·rcases List.mem_cons.mp hz with rfl | hz
    ·exact h.2.1
    ·rw [List.mem_singleton.mp hz]; exact lt2_tr h.1 h.2.2
 | x, _ :: _ :: _ :: _ :: _, h, _, _ => h.elim
theorem min_hp (p c q : PI) (h : lt2 q p = false) : ∃ x, Hp [x, p, c, q] := by
 cases h1 : lt2 p c with
 | true => exact ⟨p, lt2_rf p, Zq h1, h⟩
 | false => exact ⟨c, h1, lt2_rf c, h⟩
theorem heapify_hp (a b c d : PI) : ∃ l1 x l2, suL [a, b, c, d] 1 b = l1 /\ l1[0]? = some x /\ suL l1 0 x = l2 /\ l1.length = 4 /\ Hp l2 /\ l2.Perm [a, b, c, d] := by
 have h1 := su41 a b c d
 cases h2 : lt2 b d with
 | true =>
  rw [h2] at h1
  obtain ⟨x, hx⟩ := min_hp b c d (Zq h2)
  exact ⟨_, a, _, h1, rfl, rfl, rfl, (su_hp x a _ hx).1, (su_hp x a _ hx).2⟩
 | false =>
  rw [h2] at h1
  obtain ⟨x, hx⟩ := min_hp d c b h2
  exact ⟨_, a, _, h1, rfl, rfl, rfl, (su_hp x a _ hx).1, (su_hp x a _ hx).2.trans (.cons a (pm3 _ _ _ _))⟩
section
variable {α β : Type} {σ σ1 σ2 σ3 : St} {a b v : AV} {X : Option (XO FL × St)}
theorem x_seqX {m r : XM FL} {fl : XO FL} (h : m σ = some (fl, σ1)) (hn : fl = .ok .next -> r σ1 = X) (hx : fl ≠ .ok .next -> some (fl, σ1) = X) : yP m r σ = X := by
 refine zt h ?_
 cases fl with
 | ex cl => exact hx nofun
 | ok f => cases f with
  | next => exact hn rfl
  | _ => exact hx nofun
theorem x_xl {m : PM β} {x : β} (h : m σ = some (x, σ1)) : xl m σ = some (.ok x, σ1) := zt h rfl
theorem x_item {ml mi : PM AV} {r : XO AV} (h1 : ml σ = some (a, σ1)) (h2 : mi σ1 = some (b, σ2)) (h3 : itemX σ2 a b = some r) : QP ml mi σ = some (r, σ2) := zt h1 (zt h2 (ZJ h3))
theorem x_cmpX {f : St -> AV -> AV -> Option Bool} {mx : XM AV} {mr : PM AV} {r : XO AV} {Y : Option (XO Bool × St)} (h1 : mx σ = some (r, σ1)) (ho : ∀ a, r = .ok a -> (PM.bd mr fun b => PM.of fun σ => (f σ a b).map .ok) σ1 = Y) (hx : ∀ cl, r = .ex cl -> some (.ex cl, σ1) = Y) : xcmpM f mx mr σ = Y := by
 refine zt h1 ?_
 cases r with
 | ok a => exact ho a rfl
 | ex cl => exact hx cl rfl
theorem x_setX {i : Nat} {mx : XM AV} {r : XO AV} (h1 : mx σ = some (r, σ1)) (ho : ∀ a, r = .ok a -> some (.ok .next, σ1.put i (some a)) = X) (hx : ∀ cl, r = .ex cl -> some (.ex cl, σ1) = X) : xsetVM i mx σ = X := by
 refine zt h1 ?_
 cases r with
 | ok a => exact ho a rfl
 | ex cl => exact hx cl rfl
theorem x_ite {c : PM Bool} {m n : XM FL} {r : Bool} (h1 : c σ = some (r, σ1)) (ht : r = true -> m σ1 = X) (hf : r = false -> n σ1 = X) : xiteM c m n σ = X := by
 cases r with
 | true => exact zt h1 (ht rfl)
 | false => exact zt h1 (hf rfl)
theorem x_tryX {m : XM FL} {hd : PM FL} {r : XO FL} (h1 : m σ = some (r, σ1)) (ho : ∀ a, r = .ok a -> some (.ok a, σ1) = X) (hx : ∀ cl, r = .ex cl -> xl hd σ1 = X) : xtryM m hd σ = X := by
 refine zt h1 ?_
 cases r with
 | ok a => exact ho a rfl
 | ex cl => exact hx cl rfl
theorem x_finX {m n : XM FL} {r q : XO FL} (h1 : m σ = some (r, σ1)) (h2 : n σ1 = some (q, σ2)) (hq : (r ≠ .ex false /\ q = .ok .next /\ some (r, σ2) = X) ∨ (r ≠ .ex false /\ q = .ex true /\ some (.ex false, σ2) = X)) : xfinM m n σ = X := by
 refine zt h1 ?_
 have hr : r ≠ .ex false := by rcases hq with h | h <;> exact h.1
 have key : (PM.bd n fun g => match g with | .ok .next => PM.ok r | .ex _ => PM.ok (.ex false) | g => PM.ok g) σ1 = X := by
  refine zt h2 ?_
  rcases hq with ⟨_, rfl, h⟩ | ⟨_, rfl, h⟩
  ·exact h
  ·exact h
 cases r with
 | ok a => exact key
 | ex cl => cases cl with
  | true => exact key
  | false => exact absurd rfl hr
theorem yh {l : List AV} {i : Nat} {x : AV} (h : l[i]? = some x) (hl : l.length <= 100000) (hi : i <= 1000000) : itemX σ (.lst l) (.int i) = some (.ok x) := by
 refine bK rfl (bK rfl ((if_pos ⟨Int.natCast_nonneg i, hl, by omega⟩).trans ?_))
 rw [Int.toNat_natCast, h]
theorem zce {l : List AV} {i : Nat} (h : l[i]? = none) (hl : l.length <= 100000) (hi : i <= 1000000) : itemX σ (.lst l) (.int i) = some (.ex true) := by
 refine bK rfl (bK rfl ((if_pos ⟨Int.natCast_nonneg i, hl, by omega⟩).trans ?_))
 rw [Int.toNat_natCast, h]
theorem xw_ex {c : XM Bool} {b : XM FL} {n : Nat} {cl : Bool} (h : c σ = some (.ex cl, σ1)) : yI c b (n + 1) σ = some (.ex cl, σ1) := zt h rfl
theorem xw_f {c : XM Bool} {b : XM FL} {n : Nat} (h : c σ = some (.ok false, σ1)) : yI c b (n + 1) σ = some (.ok .next, σ1) := zt h rfl
theorem xw_n {c : XM Bool} {b : XM FL} {n : Nat} (h : c σ = some (.ok true, σ1)) (h2 : b σ1 = some (.ok .next, σ2)) : yI c b (n + 1) σ = yI c b n σ2 := zt h (zt h2 rfl)
theorem xw_b {c : XM Bool} {b : XM FL} {n : Nat} (h : c σ = some (.ok true, σ1)) (h2 : b σ1 = some (.ok .brk, σ2)) : yI c b (n + 1) σ = some (.ok .next, σ2) := zt h (zt h2 rfl)
end
noncomputable abbrev sLs (l : List (List Nat)) : List AV := l.map .str
noncomputable def sdS (st : List AE) (E A : List (List Nat)) (i j : Nat) (m u : List (List Nat)) (e a : Option AV) : St := ⟨[some (.lst (sLs E)), some (.lst (sLs A)), some (.int i), some (.int j), some (.loc st.length), some (.loc (st.length + 1)), e, a], st ++ [.lst (sLs m), .lst (sLs u)]⟩
noncomputable def stopX (o : Option (List Nat)) : XO FL := match o with | some _ => .ok .next | none => .ex true
section
variable {st : List AE} {E A : List (List Nat)} {i j : Nat} {m u : List (List Nat)} {e a : List Nat} {oe oa : Option AV}
theorem Zv (l : List (List Nat)) (i : Nat) : (sLs l)[i]? = (l[i]?).map .str := List.getElem?_map ..
theorem sd_w1 (hE : E.length <= 1000) (hi : i <= 1000) (hne : ∀ x, E[i]? = some x -> x ≠ e) : yI yc Zl 100000 (sdS st E A i j m u (some (.str e)) oa) = some (stopX E[i]?, sdS st E A i j m u (some (.str e)) oa) := by
 have hl : (sLs E).length <= 100000 := by rw [List.length_map]; omega
 cases h : E[i]? with
 | none =>
  have h1 : (sLs E)[i]? = none := by rw [Zv, h]; rfl
  refine xw_ex ?_
  unfold yc
  exists zl, zce h1 hl (by omega)
 | some x =>
  have h1 : (sLs E)[i]? = some (.str x) := by rw [Zv, h]; rfl
  have h2 : (x == e) = false := by simpa using hne x h
  refine xw_f ?_
  unfold yc
  refine x_cmpX (r := .ok (.str x)) (σ1 := sdS st E A i j m u (some (.str e)) oa) ?_ (fun a h => ?_) (fun _ h => nomatch h)
  ·exists zl, yh h1 hl (by omega)
  ·cases h
   refine zt (zD rfl) (ZJ ?_)
   rw [eqD]
   show Option.map _ (some (x == e)) = _
   rw [h2]; rfl
theorem sd_w2 (hA : A.length <= 1000) (hj : j <= 1000) (hne : ∀ x, A[j]? = some x -> x ≠ a) : yI yb Zk 100000 (sdS st E A i j m u oe (some (.str a))) = some (stopX A[j]?, sdS st E A i j m u oe (some (.str a))) := by
 have hl : (sLs A).length <= 100000 := by rw [List.length_map]; omega
 cases h : A[j]? with
 | none =>
  have h1 : (sLs A)[j]? = none := by rw [Zv, h]; rfl
  refine xw_ex ?_
  unfold yb
  exists zl, zce h1 hl (by omega)
 | some x =>
  have h1 : (sLs A)[j]? = some (.str x) := by rw [Zv, h]; rfl
  have h2 : (x == a) = false := by simpa using hne x h
  refine xw_f ?_
  unfold yb
  refine x_cmpX (r := .ok (.str x)) (σ1 := sdS st E A i j m u oe (some (.str a))) ?_ (fun a h => ?_) (fun _ h => nomatch h)
  ·exists zl, yh h1 hl (by omega)
  ·cases h
   refine zt (zD rfl) (ZJ ?_)
   rw [eqD]
   show Option.map _ (some (x == a)) = _
   rw [h2]; rfl
noncomputable abbrev sdH : PM FL := zi (yy (Zd "list" XN (za 4) (zd (ZR (za 0) (Zb (za 2)) (PM.ok Option.none)) (PM.ok []))))
 (zi (yy (Zd "list" XN (za 5) (zd (ZR (za 1) (Zb (za 3)) (PM.ok Option.none)) (PM.ok []))))
 (zi (PM.ok .brk)
 (PM.ok .next)))
theorem clip_nat (n i : Nat) : clipAt n (i : Int) = min i n := by
 unfold clipAt; rw [if_neg (Int.not_lt.mpr (Int.natCast_nonneg i)), <- Lean.Omega.Int.ofNat_min, Int.max_eq_right (Int.natCast_nonneg _), Int.toNat_natCast]
theorem clip_neg {n k m : Nat} (h : n = m + k) (hk : 0 < k) : clipAt n (-(k : Int)) = m := by
 subst h; unfold clipAt
 rw [if_pos (by omega), show (-(k : Int) + ((m + k : Nat) : Int)) = (m : Int) by omega, <- Lean.Omega.Int.ofNat_min, Int.max_eq_right (Int.natCast_nonneg _), Int.toNat_natCast]
 exact Nat.min_eq_left (Nat.le_add_right m k)
theorem drop_le {α : Type} (l : List α) (i : Nat) : (l.drop i).length <= l.length - min i l.length := by rw [List.length_drop]; exact Nat.sub_le_sub_left (Nat.min_le_left _ _) _
theorem drop_min {α : Type} (l : List α) (i : Nat) : l.drop (min i l.length) = l.drop i := by
 rcases Nat.le_total i l.length with h | h
 ·rw [Nat.min_eq_left h]
 ·rw [Nat.min_eq_right h, List.drop_length, List.drop_eq_nil_of_le h]
theorem sLs_cat (m E : List (List Nat)) (i : Nat) : sLs m ++ (sLs E).drop i = sLs (m ++ E.drop i) := by
 show List.map _ _ ++ List.drop i (List.map _ _) = List.map _ _
 rw [List.map_append, List.map_drop]
theorem zar (l : List AV) (i : Nat) (hl : l.length <= 100000) (σ : St) : Zy σ (some (i : Int)) none (.lst l) = some (.lst (l.drop i)) := by
 rw [q_cutL hl]
 simp only [YB, Option.elim, clip_nat, drop_min]
 rw [List.take_of_length_le (drop_le l i)]
theorem sd_h (hE : E.length <= 1000) (hA : A.length <= 1000) (hm : m.length <= 1000) (hu : u.length <= 1000) : sdH (sdS st E A i j m u oe oa) = some (.brk, sdS st E A i j (m ++ E.drop i) (u ++ A.drop j) oe oa) := by
 have h4 : (st ++ [AE.lst (sLs m), AE.lst (sLs u)])[st.length]? = some (.lst (sLs m)) := Zm _ _
 have h5 : ((st ++ [AE.lst (sLs m), AE.lst (sLs u)]).set st.length (.lst (sLs (m ++ E.drop i))))[st.length + 1]? = some (.lst (sLs u)) := by rw [ss_0]; exact Yr _ _ 1
 have x4 : ∀ sl, XN ⟨sl, st ++ [.lst (sLs m), .lst (sLs u)]⟩ (.loc st.length) [.lst ((sLs E).drop i)] = some (.none, ⟨sl, (st ++ [AE.lst (sLs m), AE.lst (sLs u)]).set st.length (.lst (sLs (m ++ E.drop i)))⟩) := by
  intro sl
  exact bK rfl (bK rfl (bK rfl (bK (stK h4) ((if_pos (by simp only [List.length_map, List.length_drop]; omega)).trans (by rw [sLs_cat])))))
 have x5 : ∀ sl, XN ⟨sl, (st ++ [AE.lst (sLs m), AE.lst (sLs u)]).set st.length (.lst (sLs (m ++ E.drop i)))⟩ (.loc (st.length + 1)) [.lst ((sLs A).drop j)] = some (.none, ⟨sl, st ++ [AE.lst (sLs (m ++ E.drop i)), AE.lst (sLs (u ++ A.drop j))]⟩) := by
  intro sl
  refine bK rfl (bK rfl (bK rfl (bK (stK h5) ((if_pos (by simp only [List.length_map, List.length_drop]; omega)).trans ?_))))
  rw [sLs_cat, ss_0, List.set_cons_zero, zbd]
  rfl
 have c1 := zar (sLs E) i (by rw [List.length_map]; omega)
 have c2 := zar (sLs A) j (by rw [List.length_map]; omega)
 exists zl, zbz h4, zbz h5, c1 _, c2 _, x4 _, x5 _
theorem sLs_cat1 (m : List (List Nat)) (e : List Nat) : sLs m ++ [.str e] = sLs (m ++ [e]) := by
 show List.map _ _ ++ _ = List.map _ _
 rw [List.map_append]; rfl
theorem ap4 (sl : List (Option AV)) (hm : m.length <= 1000) : zK ⟨sl, st ++ [.lst (sLs m), .lst (sLs u)]⟩ (.loc st.length) [.str e] = some (.none, ⟨sl, st ++ [.lst (sLs (m ++ [e])), .lst (sLs u)]⟩) := by
 rw [zca (l := sLs m) (Zm _ _) (by rw [List.length_map]; omega)]
 show some (AV.none, (⟨sl, (st ++ [AE.lst (sLs m), AE.lst (sLs u)]).set st.length _⟩ : St)) = _
 rw [ss_0, List.set_cons_zero, sLs_cat1]
theorem ap5 (sl : List (Option AV)) (hm : u.length <= 1000) : zK ⟨sl, st ++ [.lst (sLs m), .lst (sLs u)]⟩ (.loc (st.length + 1)) [.str e] = some (.none, ⟨sl, st ++ [.lst (sLs m), .lst (sLs (u ++ [e]))]⟩) := by
 rw [zca (l := sLs u) (Yr _ _ 1) (by rw [List.length_map]; omega)]
 show some (AV.none, (⟨sl, (st ++ [AE.lst (sLs m), AE.lst (sLs u)]).set (st.length + 1) _⟩ : St)) = _
 rw [zbd, sLs_cat1]; rfl
theorem sd_b1 (hE : E.length <= 1000) (hA : A.length <= 1000) (hm : m.length <= 1000) (hu : u.length <= 1000) (hi : i <= 1000) (h : E[i]? = none) : zf (sdS st E A i j m u oe oa) = some (.ok .brk, sdS st E A i j (m ++ E.drop i) (u ++ A.drop j) oe oa) := by
 have hl : (sLs E).length <= 100000 := by rw [List.length_map]; omega
 have h1 : (sLs E)[i]? = none := by rw [Zv, h]; rfl
 unfold zf
 exists sd_h hE hA hm hu, zce h1 hl (by omega)
theorem sd_b2 (hE : E.length <= 1000) (hA : A.length <= 1000) (hm : m.length <= 1000) (hu : u.length <= 1000) (hi : i <= 1000) (hj : j <= 1000) (h : E[i]? = some e) (h' : A[j]? = none) : zf (sdS st E A i j m u oe oa) = some (.ok .brk, sdS st E A i j (m ++ E.drop i) (u ++ A.drop j) (some (.str e)) oa) := by
 have hl : (sLs E).length <= 100000 := by rw [List.length_map]; omega
 have hl' : (sLs A).length <= 100000 := by rw [List.length_map]; omega
 have h1 : (sLs E)[i]? = some (.str e) := by rw [Zv, h]; rfl
 have h2 : (sLs A)[j]? = none := by rw [Zv, h']; rfl
 unfold zf
 exists sd_h (oe := some (.str e)) hE hA hm hu, yh h1 hl (by omega), zce h2 hl' (by omega)
theorem q_ltS {σ : St} {x y : List Nat} {b : Bool} (h : ltN x y = b) : ltD σ (.str x) (.str y) = some b := congrArg some h
theorem q_gtS {σ : St} {x y : List Nat} {b : Bool} (h : ltN y x = b) : gtF σ (.str x) (.str y) = some b := congrArg some h
theorem sd_b3 (hE : E.length <= 1000) (hA : A.length <= 1000) (hm : m.length < 1000) (hu : u.length <= 1000) (hi : i < 1000) (hj : j <= 1000) (h : E[i]? = some e) (h' : A[j]? = some a) (hlt : ltN e a = true) (hne : ∀ x, E[i + 1]? = some x -> x ≠ e) :
  (∀ x, E[i + 1]? = some x -> zf (sdS st E A i j m u oe oa) = some (.ok .next, sdS st E A (i + 1) j (m ++ [e]) u (some (.str e)) (some (.str a)))) /\
  (E[i + 1]? = none -> zf (sdS st E A i j m u oe oa) = some (.ok .brk, sdS st E A (i + 1) j (m ++ [e] ++ E.drop (i + 1)) (u ++ A.drop j) (some (.str e)) (some (.str a)))) := by
 have hl : (sLs E).length <= 100000 := by rw [List.length_map]; omega
 have hl' : (sLs A).length <= 100000 := by rw [List.length_map]; omega
 have h1 : (sLs E)[i]? = some (.str e) := by rw [Zv, h]; rfl
 have h2 : (sLs A)[j]? = some (.str a) := by rw [Zv, h']; rfl
 have hw := sd_w1 (st := st) (A := A) (j := j) (m := m ++ [e]) (u := u) (oa := some (.str a)) hE (by omega : i + 1 <= 1000) hne
 have ty4 : ∀ sl, tyF ⟨sl, st ++ [.lst (sLs m), .lst (sLs u)]⟩ (.loc st.length) = some "list" := fun sl => zbz (Zm _ _)
 refine ⟨fun x hx => ?_, fun hx => ?_⟩
 ·rw [hx] at hw
  unfold zf
  exists zl, yh h1 hl (by omega), yh h2 hl' (by omega), q_ltS hlt, ap4 _ (by omega), hw, ty4 _
 ·rw [hx] at hw
  unfold zf
  have hm' : (m ++ [e]).length <= 1000 := by rw [List.length_append, List.length_singleton]; omega
  exists sd_h (oe := some (.str e)) (oa := some (.str a)) (i := i + 1) hE hA hm' hu, yh h1 hl (by omega), yh h2 hl' (by omega), q_ltS hlt, ap4 _ (by omega), hw, ty4 _
theorem sd_b4 (hE : E.length <= 1000) (hA : A.length <= 1000) (hm : m.length <= 1000) (hu : u.length < 1000) (hi : i <= 1000) (hj : j < 1000) (h : E[i]? = some e) (h' : A[j]? = some a) (hnl : ltN e a = false) (hlt : ltN a e = true) (hne : ∀ x, A[j + 1]? = some x -> x ≠ a) :
  (∀ x, A[j + 1]? = some x -> zf (sdS st E A i j m u oe oa) = some (.ok .next, sdS st E A i (j + 1) m (u ++ [a]) (some (.str e)) (some (.str a)))) /\
  (A[j + 1]? = none -> zf (sdS st E A i j m u oe oa) = some (.ok .brk, sdS st E A i (j + 1) (m ++ E.drop i) (u ++ [a] ++ A.drop (j + 1)) (some (.str e)) (some (.str a)))) := by
 have hl : (sLs E).length <= 100000 := by rw [List.length_map]; omega
 have hl' : (sLs A).length <= 100000 := by rw [List.length_map]; omega
 have h1 : (sLs E)[i]? = some (.str e) := by rw [Zv, h]; rfl
 have h2 : (sLs A)[j]? = some (.str a) := by rw [Zv, h']; rfl
 have hw := sd_w2 (st := st) (E := E) (i := i) (m := m) (u := u ++ [a]) (oe := some (.str e)) hA (by omega : j + 1 <= 1000) hne
 have ty5 : ∀ sl, tyF ⟨sl, st ++ [.lst (sLs m), .lst (sLs u)]⟩ (.loc (st.length + 1)) = some "list" := fun sl => zbz (Yr _ _ 1)
 refine ⟨fun x hx => ?_, fun hx => ?_⟩
 ·rw [hx] at hw
  unfold zf
  exists zl, yh h1 hl (by omega), yh h2 hl' (by omega), q_ltS hnl, q_gtS hlt, ap5 _ (by omega), hw, ty5 _
 ·rw [hx] at hw
  unfold zf
  have hu' : (u ++ [a]).length <= 1000 := by rw [List.length_append, List.length_singleton]; omega
  exists sd_h (oe := some (.str e)) (oa := some (.str a)) (j := j + 1) hE hA hm hu', yh h1 hl (by omega), yh h2 hl' (by omega), q_ltS hnl, q_gtS hlt, ap5 _ (by omega), hw, ty5 _
theorem sd_b5 (hE : E.length <= 1000) (hA : A.length <= 1000) (hm : m.length <= 1000) (hu : u.length <= 1000) (hi : i < 1000) (hj : j < 1000) (h : E[i]? = some e) (h' : A[j]? = some e) (hnl : ltN e e = false) (hne : ∀ x, E[i + 1]? = some x -> x ≠ e) (hne' : ∀ x, A[j + 1]? = some x -> x ≠ e) :
  (∀ x y, E[i + 1]? = some x -> A[j + 1]? = some y -> zf (sdS st E A i j m u oe oa) = some (.ok .next, sdS st E A (i + 1) (j + 1) m u (some (.str e)) (some (.str e)))) /\
  (E[i + 1]? = none ∨ A[j + 1]? = none -> zf (sdS st E A i j m u oe oa) = some (.ok .brk, sdS st E A (i + 1) (j + 1) (m ++ E.drop (i + 1)) (u ++ A.drop (j + 1)) (some (.str e)) (some (.str e)))) := by
 have hl : (sLs E).length <= 100000 := by rw [List.length_map]; omega
 have hl' : (sLs A).length <= 100000 := by rw [List.length_map]; omega
 have h1 : (sLs E)[i]? = some (.str e) := by rw [Zv, h]; rfl
 have h2 : (sLs A)[j]? = some (.str e) := by rw [Zv, h']; rfl
 have hw := sd_w1 (st := st) (A := A) (j := j) (m := m) (u := u) (oa := some (.str e)) hE (by omega : i + 1 <= 1000) hne
 have hw' := sd_w2 (st := st) (E := E) (i := i + 1) (m := m) (u := u) (oe := some (.str e)) hA (by omega : j + 1 <= 1000) hne'
 refine ⟨fun x y hx hy => ?_, fun hx => ?_⟩
 ·rw [hx] at hw
  rw [hy] at hw'
  unfold zf
  exists zl, yh h1 hl (by omega), yh h2 hl' (by omega), q_ltS hnl, q_gtS hnl, hw, hw', .inl ⟨(by intro h; cases h), rfl, rfl⟩
 ·unfold zf
  cases hy : A[j + 1]? with
  | none =>
   rw [hy] at hw'
   cases hx : E[i + 1]? with
   | none =>
    rw [hx] at hw
    exists sd_h (oe := some (.str e)) (oa := some (.str e)) (i := i + 1) (j := j + 1) hE hA hm hu, yh h1 hl (by omega), yh h2 hl' (by omega), q_ltS hnl, q_gtS hnl, hw, hw', .inr ⟨(by intro h; cases h), rfl, rfl⟩
   | some x =>
    rw [hx] at hw
    exists sd_h (oe := some (.str e)) (oa := some (.str e)) (i := i + 1) (j := j + 1) hE hA hm hu, yh h1 hl (by omega), yh h2 hl' (by omega), q_ltS hnl, q_gtS hnl, hw, hw', .inr ⟨(by intro h; cases h), rfl, rfl⟩
  | some y =>
   have hx : E[i + 1]? = none := by
    rcases hx with h | h
    ·exact h
    ·rw [hy] at h; cases h
   rw [hx] at hw
   rw [hy] at hw'
   exists sd_h (oe := some (.str e)) (oa := some (.str e)) (i := i + 1) (j := j + 1) hE hA hm hu, yh h1 hl (by omega), yh h2 hl' (by omega), q_ltS hnl, q_gtS hnl, hw, hw', .inl ⟨(by intro h; cases h), rfl, rfl⟩
end
theorem ltN_irr (a : List Nat) : ltN a a = false := decide_eq_false (List.lt_irrefl a)
theorem ltN_tr {a b c : List Nat} (h1 : ltN a b = true) (h2 : ltN b c = true) : ltN a c = true := decide_eq_true (List.lt_trans (of_decide_eq_true h1) (of_decide_eq_true h2))
theorem ltN_as {a b : List Nat} (h1 : ltN a b = true) : ltN b a = false := decide_eq_false (List.lt_asymm (of_decide_eq_true h1))
theorem ltN_tri {a b : List Nat} (h1 : ltN a b = false) (h2 : ltN b a = false) : a = b := List.le_antisymm (of_decide_eq_false h2) (of_decide_eq_false h1)
theorem ltN_ne {a b : List Nat} (h1 : ltN a b = true) : a ≠ b := fun h => by rw [h, ltN_irr] at h1; cases h1
noncomputable abbrev Srt (l : List (List Nat)) : Prop := l.Pairwise fun a b => ltN a b = true
noncomputable def zJ (E A : List (List Nat)) : List (List Nat) := E.filter fun x => decide (x ∉ A)
theorem yT {α : Type} {l : List α} {i : Nat} {x : α} (h : l[i]? = some x) : l.drop i = x :: l.drop (i + 1) := by
 obtain ⟨h1, h2⟩ := List.getElem?_eq_some_iff.mp h
 rw [<- h2]; exact List.drop_eq_getElem_cons h1
theorem srt_at {l : List (List Nat)} (h : Srt l) {i : Nat} {x : List Nat} (hi : l[i]? = some x) : ∀ y ∈ l.drop (i + 1), ltN x y = true := by
 have h1 : Srt (l.drop i) := h.sublist (List.drop_sublist i l)
 rw [yT hi] at h1
 exact (List.pairwise_cons.mp h1).1
theorem srt_nx {l : List (List Nat)} (h : Srt l) {i : Nat} {x : List Nat} (hi : l[i]? = some x) (y : List Nat) (hy : l[i + 1]? = some y) : y ≠ x := by
 have := srt_at h hi y (by rw [yT hy]; exact List.mem_cons_self)
 exact fun e => ltN_ne this e.symm
theorem lacks_lt {E A : List (List Nat)} {e a : List Nat} (hA : ∀ y ∈ A, ltN a y = true) (h : ltN e a = true) : zJ (e :: E) (a :: A) = e :: zJ E (a :: A) := by
 unfold zJ
 rw [List.filter_cons_of_pos]
 refine decide_eq_true fun hm => ?_
 rcases List.mem_cons.mp hm with rfl | hm
 ·rw [ltN_irr] at h; cases h
 ·have := ltN_tr h (hA e hm); rw [ltN_irr] at this; cases this
theorem lacks_gt {E A : List (List Nat)} {e a : List Nat} (hE : ∀ y ∈ E, ltN e y = true) (h : ltN a e = true) : zJ (e :: E) (a :: A) = zJ (e :: E) A := by
 unfold zJ
 refine List.filter_congr fun x hx => ?_
 have : x ≠ a := by
  rcases List.mem_cons.mp hx with rfl | hx
  ·exact (ltN_ne h).symm
  ·exact (ltN_ne (ltN_tr h (hE x hx))).symm
 simp [this]
theorem lacks_eq {E A : List (List Nat)} {e : List Nat} (hE : ∀ y ∈ E, ltN e y = true) : zJ (e :: E) (e :: A) = zJ E A := by
 unfold zJ
 rw [List.filter_cons_of_neg (by simp)]
 refine List.filter_congr fun x hx => ?_
 have : x ≠ e := (ltN_ne (hE x hx)).symm
 simp [this]
theorem zaq (E : List (List Nat)) : zJ E [] = E := by
 unfold zJ
 exact List.filter_eq_self.mpr fun _ _ => by simp
section
variable {st : List AE} {E A : List (List Nat)}
theorem ZV {α : Type} {l : List α} {i : Nat} (h : l[i]? = none) : l.drop i = [] := List.drop_eq_nil_of_le (List.getElem?_eq_none_iff.mp h)
theorem zbt (σ : St) : yx σ = some (.ok true, σ) := rfl
theorem sd_run (hE : Srt E) (hA : Srt A) (lE : E.length <= 900) (lA : A.length <= 900) : ∀ (k i j : Nat) (m u : List (List Nat)) (oe oa : Option AV) (f : Nat), (E.length - i) + (A.length - j) < k -> k <= f -> i <= E.length -> j <= A.length -> m.length <= i -> u.length <= j ->
  ∃ u' i' j' oe' oa', yI yx zf f (sdS st E A i j m u oe oa) = some (.ok .next, sdS st E A i' j' (m ++ zJ (E.drop i) (A.drop j)) u' oe' oa') := by
 intro k
 induction k with
 | zero => intro i j m u oe oa f h; omega
 | succ k ih =>
  intro i j m u oe oa f hk hf hi hj hm hu
  obtain ⟨f, rfl⟩ : ∃ g, f = g + 1 := ⟨f - 1, by omega⟩
  have bE : E.length <= 1000 := by omega
  have bA : A.length <= 1000 := by omega
  cases h1 : E[i]? with
  | none =>
   have := sd_b1 (st := st) (m := m) (u := u) (oe := oe) (oa := oa) (j := j) bE bA (by omega) (by omega) (by omega) h1
   rw [ZV h1] at this ⊢
   exact ⟨_, _, _, _, _, xw_b (zbt _) this⟩
  | some e =>
   have hlt : i < E.length := (List.getElem?_eq_some_iff.mp h1).1
   cases h2 : A[j]? with
   | none =>
    have := sd_b2 (st := st) (m := m) (u := u) (oe := oe) (oa := oa) (j := j) bE bA (by omega) (by omega) (by omega) (by omega) h1 h2
    rw [ZV h2] at this ⊢
    rw [zaq]
    exact ⟨_, _, _, _, _, xw_b (zbt _) this⟩
   | some a =>
    have hlt' : j < A.length := (List.getElem?_eq_some_iff.mp h2).1
    have sE := srt_at hE h1
    have sA := srt_at hA h2
    cases hea : ltN e a with
    | true =>
     obtain ⟨b1, b2⟩ := sd_b3 (st := st) (m := m) (u := u) (oe := oe) (oa := oa) bE bA (by omega) (by omega) (by omega) (by omega) h1 h2 hea (srt_nx hE h1)
     have hl : zJ (E.drop i) (A.drop j) = e :: zJ (E.drop (i + 1)) (A.drop j) := by
      rw [yT h1, yT h2]; exact lacks_lt sA hea
     cases h3 : E[i + 1]? with
     | none =>
      have := b2 h3
      rw [ZV h3, List.append_nil] at this
      rw [hl, ZV h3]
      exact ⟨_, _, _, _, _, xw_b (zbt _) this⟩
     | some x =>
      obtain ⟨u', i', j', oe', oa', h⟩ := ih (i + 1) j (m ++ [e]) u (some (.str e)) (some (.str a)) f (by omega) (by omega) (by omega) hj (by rw [List.length_append, List.length_singleton]; omega) hu
      refine ⟨u', i', j', oe', oa', ?_⟩
      rw [xw_n (zbt _) (b1 x h3), h, hl, List.append_assoc]; rfl
    | false =>
     cases hae : ltN a e with
     | true =>
      obtain ⟨b1, b2⟩ := sd_b4 (st := st) (m := m) (u := u) (oe := oe) (oa := oa) bE bA (by omega) (by omega) (by omega) (by omega) h1 h2 hea hae (srt_nx hA h2)
      have hl : zJ (E.drop i) (A.drop j) = zJ (E.drop i) (A.drop (j + 1)) := by
       rw [yT h1, yT h2]; exact lacks_gt sE hae
      cases h3 : A[j + 1]? with
      | none =>
       have := b2 h3
       rw [hl, ZV h3, zaq]
       exact ⟨_, _, _, _, _, xw_b (zbt _) this⟩
      | some x =>
       obtain ⟨u', i', j', oe', oa', h⟩ := ih i (j + 1) m (u ++ [a]) (some (.str e)) (some (.str a)) f (by omega) (by omega) hi (by omega) hm (by rw [List.length_append, List.length_singleton]; omega)
       refine ⟨u', i', j', oe', oa', ?_⟩
       rw [xw_n (zbt _) (b1 x h3), h, hl]
     | false =>
      have e1 := ltN_tri hea hae
      subst e1
      obtain ⟨b1, b2⟩ := sd_b5 (st := st) (m := m) (u := u) (oe := oe) (oa := oa) bE bA (by omega) (by omega) (by omega) (by omega) h1 h2 hea (srt_nx hE h1) (srt_nx hA h2)
      have hl : zJ (E.drop i) (A.drop j) = zJ (E.drop (i + 1)) (A.drop (j + 1)) := by
       rw [yT h1, yT h2]; exact lacks_eq sE
      cases h3 : E[i + 1]? with
      | none =>
       have := b2 (.inl h3)
       rw [ZV h3] at this
       rw [hl, ZV h3]
       exact ⟨_, _, _, _, _, xw_b (zbt _) this⟩
      | some x =>
       cases h4 : A[j + 1]? with
       | none =>
        have := b2 (.inr h4)
        rw [hl, ZV h4, zaq]
        exact ⟨_, _, _, _, _, xw_b (zbt _) this⟩
       | some y =>
        obtain ⟨u', i', j', oe', oa', h⟩ := ih (i + 1) (j + 1) m u (some (.str e)) (some (.str e)) f (by omega) (by omega) (by omega) (by omega) (by omega) (by omega)
        refine ⟨u', i', j', oe', oa', ?_⟩
        rw [xw_n (zbt _) (b1 x y h3 h4), h, hl]
theorem fz1_l {σ : St} {n : Nat} {xs : List AV} {L : List AE} (h : σ.st[n]? = some (.lst xs)) (h5 : σ.st.set n .dead = L) : fz1 σ (.loc n) = some (.lst xs, ⟨σ.sl, L⟩) := by subst h5; exact bK h rfl
theorem zax {σ σ1 σ2 : St} {x y : AV} {xs ys : List AV} (h1 : fz1 σ x = some (y, σ1)) (h2 : fzL σ1 xs = some (ys, σ2)) : fzL σ (x :: xs) = some (y :: ys, σ2) := bK h1 (congrArg (Option.map fun q : List AV × St => (y :: q.1, q.2)) h2)
theorem fz2_l {σ σ1 : St} {n : Nat} {xs ys zs : List AV} {L : List AE} (h : σ.st[n]? = some (.lst xs)) (h2 : fzL σ xs = some (ys, σ1)) (h3 : σ1.st[n]? = some (.lst zs)) (h4 : zs.length = ys.length) (h5 : σ1.st.set n .dead = L) : fz2 σ (.loc n) = some (.lst ys, ⟨σ1.sl, L⟩) := by
 subst h5; exact bK (stK h) (bK h2 (bK (stK h3) (if_pos h4)))
theorem fz_str (σ : St) : ∀ (l : List (List Nat)), fzL σ (sLs l) = some (sLs l, σ)
 | [] => rfl
 | x :: l => zax rfl (fz_str σ l)
theorem fz_loc {σ : St} {n : Nat} {l : List (List Nat)} (h : σ.st[n]? = some (.lst (sLs l))) : fz2 σ (.loc n) = some (.lst (sLs l), { σ with st := σ.st.set n .dead }) := by
 exact fz2_l h (fz_str σ l) h rfl rfl
theorem lowers_sLs (n : Nat) : ∀ (l : List (List Nat)), AV.lowers n (sLs l) = true
 | [] => rfl
 | x :: l => by
  have := lowers_sLs n l
  simp only [sLs] at this
  simp only [sLs, List.map_cons, AV.lowers, AV.lower, this, Bool.and_self]
theorem sld_eq (st : List AE) (hE : Srt E) (hA : Srt A) (lE : E.length <= 900) (lA : A.length <= 900) : ∃ u, yG [.lst (sLs E), .lst (sLs A)] st = some (.tup [.lst (sLs (zJ E A)), .lst (sLs u)], st) := by
 have i0 : ZL.init [.lst (sLs E), .lst (sLs A)] = [some (.lst (sLs E)), some (.lst (sLs A)), none, none, none, none, none, none] := rfl
 obtain ⟨u', i', j', oe', oa', h⟩ := sd_run (st := st) hE hA lE lA 10000 0 0 [] [] none none 100000 (by omega) (by omega) (Nat.zero_le _) (Nat.zero_le _) (Nat.le_refl _) (Nat.le_refl _)
 refine ⟨u', Yk (e := [.dead, .dead]) (σ' := ⟨(sdS st E A i' j' [] u' oe' oa').sl, st ++ [.dead, .dead]⟩) (fl := .ret (.tup [.lst (sLs (zJ E A)), .lst (sLs u')])) ?_ rfl rfl rfl ?_⟩
 ·have hf1 : ∀ sl, fz2 ⟨sl, st ++ [.lst (sLs (zJ E A)), .lst (sLs u')]⟩ (.loc st.length) = some (.lst (sLs (zJ E A)), ⟨sl, st ++ [.dead, .lst (sLs u')]⟩) := by
   intro sl; rw [fz_loc (Zm _ _)]; show some (_, (⟨sl, (st ++ [AE.lst (sLs (zJ E A)), AE.lst (sLs u')]).set st.length .dead⟩ : St)) = _; rw [ss_0]; rfl
  have hf2 : ∀ sl, fz2 ⟨sl, st ++ [.dead, .lst (sLs u')]⟩ (.loc (st.length + 1)) = some (.lst (sLs u'), ⟨sl, st ++ [.dead, .dead]⟩) := by
   intro sl; rw [fz_loc (Yr _ _ 1)]; show some (_, (⟨sl, (st ++ [AE.dead, AE.lst (sLs u')]).set (st.length + 1) .dead⟩ : St)) = _; rw [zbd]; rfl
  have hm1 : ∀ sl : List (Option AV), (Zc (PM.ok [])) ⟨sl, st⟩ = some (.loc st.length, (⟨sl, st ++ [.lst []]⟩ : St)) := fun _ => rfl
  have hm2 : ∀ sl : List (Option AV), (Zc (PM.ok [])) ⟨sl, st ++ [.lst []]⟩ = some (.loc (st.length + 1), (⟨sl, st ++ [.lst [], .lst []]⟩ : St)) := by
   intro sl
   show some (AV.loc (st ++ [AE.lst []]).length, (⟨sl, (st ++ [AE.lst []]) ++ [AE.lst []]⟩ : St)) = _
   rw [List.append_assoc, List.length_append]; rfl
  refine zt (x := .ok (.ret (.tup [.lst (sLs (zJ E A)), .lst (sLs u')]))) (σ1 := ⟨(sdS st E A i' j' [] u' oe' oa').sl, st ++ [.dead, .dead]⟩) ?_ rfl
  have hs : ∀ {σ : St}, set2M 2 3 (PM.ok (AV.int 0)) σ = some (.next, (σ.put 2 (some (.int 0))).put 3 (some (.int 0))) := fun {_} => rfl
  repeat' (first | with_reducible exact zl | with_reducible exact yK | exact hm1 _ | exact hm2 _ | with_reducible apply e_seqX | with_reducible apply zac | with_reducible apply Zj | with_reducible apply e_op1 | with_reducible apply zch | with_reducible apply e_ite | with_reducible apply e_tru | with_reducible apply e_not | with_reducible apply e_and | with_reducible apply e_or | with_reducible apply e_itE | with_reducible apply e_andV | with_reducible apply e_orV | with_reducible apply zI | with_reducible apply zad | with_reducible apply Qe | with_reducible apply e_tup | with_reducible apply e_lst | with_reducible apply e_mlst | with_reducible apply e_ret | with_reducible apply e_expr | with_reducible apply e_aug | with_reducible apply e_ass | with_reducible apply e_unp | with_reducible apply e_unps | with_reducible apply e_meth | with_reducible apply zcg | with_reducible apply e_cut | with_reducible apply e_fz | with_reducible apply e_app | with_reducible apply zD | with_reducible apply e_setL | with_reducible apply e_bdb | with_reducible apply x_seqX | with_reducible apply x_xl | with_reducible apply x_item | with_reducible apply x_cmpX | with_reducible apply x_setX | with_reducible apply x_ite | with_reducible apply x_tryX | with_reducible apply x_finX | with_reducible apply e_wh | with_reducible apply e_bdA | with_reducible apply a_n | with_reducible apply a_c | with_reducible apply a_b | with_reducible apply a_r | with_reducible apply e_cR | with_reducible apply e_cN | with_reducible apply e_cP | with_reducible apply e_lcF | exact h | exact hf1 _ | exact hf2 _ | exact hs | (intro h; cases h; done) | (intro _ h; cases h; done) | (intro _ h; cases h) | exact fun h => absurd rfl h | intro _ | exact rfl)
 ·simp only [AV.lower, AV.lowers, lowers_sLs, Bool.and_self]
end
section
variable {I T : Type} (L : T -> St) {k : TgK} {tst : PM Bool} {m : PM AV} {it : PM (List AV)} {slots : List Nat} {σ σ' : St}
theorem compR_fil (emb g : I -> AV) (p : I -> Bool) : ∀ (items : List I), (∀ x ∈ items, ∀ t, ∃ t1 t2 t3, asgM k (emb x) (L t) = some (L t1) /\ tst (L t1) = some (p x, L t2) /\ (p x = true -> m (L t2) = some (g x, L t3))) ->
  ∀ t, ∃ t', ZK k tst (PM.bd m fun y => PM.ok [y]) (items.map emb) (L t) = some ((items.filter p).map g, L t')
 | [], _, t => ⟨t, rfl⟩
 | x :: items, h, t => by
  obtain ⟨t1, t2, t3, ha, ht, hm⟩ := h x List.mem_cons_self t
  cases hp : p x with
  | true =>
   obtain ⟨t4, h4⟩ := compR_fil emb g p items (fun y hy => h y (List.mem_cons_of_mem _ hy)) t3
   refine ⟨t4, ?_⟩
   rw [hp] at ht
   rw [List.map_cons, List.filter_cons_of_pos hp, List.map_cons]
   show (match asgM k (emb x) (L t) with | Option.none => Option.none | some σ₁ => _) = _
   rw [ha]
   exact zt ht (zt (zt (hm hp) rfl) (zt h4 rfl))
  | false =>
   obtain ⟨t4, h4⟩ := compR_fil emb g p items (fun y hy => h y (List.mem_cons_of_mem _ hy)) t2
   refine ⟨t4, ?_⟩
   rw [hp] at ht
   rw [List.map_cons, List.filter_cons_of_neg (by rw [hp]; exact Bool.false_ne_true)]
   show (match asgM k (emb x) (L t) with | Option.none => Option.none | some σ₁ => _) = _
   rw [ha]
   exact zt ht h4
theorem QH {t0 : T} (emb g : I -> AV) (p : I -> Bool) {items : List I} (hit : it σ = some (items.map emb, L t0)) (h : ∀ x ∈ items, ∀ t, ∃ t1 t2 t3, asgM k (emb x) (L t) = some (L t1) /\ tst (L t1) = some (p x, L t2) /\ (p x = true -> m (L t2) = some (g x, L t3)))
  (hl : items.length <= 1000) (hc : ∀ t, (L t).clr slots = σ') : lcK false (zP slots it k tst (PM.bd m fun y => PM.ok [y])) σ = some (.lst ((items.filter p).map g), σ') := by
 obtain ⟨t', h1⟩ := compR_fil L emb g p items h t0
 refine zt (zt hit (zt h1 ?_)) rfl
 rw [hc]
 refine if_pos ?_
 rw [List.length_map]
 exact Nat.le_trans (List.length_filter_le _ _) hl
theorem Zw {t0 : T} (emb g : I -> AV) {items : List I} (hit : it σ = some (items.map emb, L t0)) (h : ∀ x ∈ items, ∀ t, ∃ t1 t3, asgM k (emb x) (L t) = some (L t1) /\ m (L t1) = some (g x, L t3))
  (hl : items.length <= 1000) (hc : ∀ t, (L t).clr slots = σ') : lcK false (zP slots it k (PM.ok true) (PM.bd m fun y => PM.ok [y])) σ = some (.lst (items.map g), σ') := by
 have := QH (slots := slots) (tst := PM.ok true) L emb g (fun _ => true) hit (fun x hx t => by
  obtain ⟨t1, t3, h1, h2⟩ := h x hx t
  exact ⟨t1, t1, t3, h1, rfl, fun _ => h2⟩) hl hc
 rw [this, List.filter_eq_self.mpr (fun _ _ => rfl)]
theorem e_lcmapT {t0 : T} (emb g : I -> AV) {items : List I} (hit : it σ = some (items.map emb, L t0)) (h : ∀ x ∈ items, ∀ t, ∃ t1 t3, asgM k (emb x) (L t) = some (L t1) /\ m (L t1) = some (g x, L t3))
  (hl : items.length <= 1000) (hc : ∀ t, (L t).clr slots = σ') : lcK true (zP slots it k (PM.ok true) (PM.bd m fun y => PM.ok [y])) σ = some (.loc σ'.st.length, { σ' with st := σ'.st ++ [.lst (items.map g)] }) := by
 have := Zw (slots := slots) L emb g hit h hl hc
 unfold lcK at this ⊢
 obtain ⟨x, σ1, h1, h2⟩ := PM.bd_some this
 cases h2
 exact zt h1 rfl
end
theorem Ym {k : Nat} {m : PM AV} {σ σ1 : St} {xs : List AV} (h : m σ = some (.lst xs, σ1)) : Zh (.one k) m σ = some (xs, σ1) := zt (zt h (ZJ rfl)) (ZJ rfl)
theorem Yy {I : Type} (f : I -> Int) : ∀ (l : List I), Zr (l.map fun x => .int (f x)) = some (l.map f)
 | [] => rfl
 | x :: l => bK rfl (congrArg (Option.map (f x :: ·)) (Yy f l))
noncomputable def wth (kvs : List (List Nat × Int)) (x : List Nat) : Int := (lookD kvs x).getD 0
noncomputable def zat (kvs : List (List Nat × Int)) (l : List (List Nat)) : Int := (l.map (wth kvs)).sum
theorem zbp {st : List AE} {d : Nat} {kvs : List (List Nat × Int)} {l : List (List Nat)} (hd : st[d]? = some (.dct kvs)) (hk : ∀ x ∈ l, ∃ v, lookD kvs x = some v) (hl : l.length <= 1000) :
  yX [.lst (sLs l), .loc d] st = some (.int (zat kvs l), st) := by
 refine yq (σ' := ⟨[some (.lst (sLs l)), some (.loc d), none, none], st⟩) (fl := .ret (.int (zat kvs l))) ?_ rfl rfl rfl
 have hc : ∀ σ : St, σ = ⟨[some (.lst (sLs l)), some (.loc d), none, none], st⟩ -> lcK false (zP [2, 3] (Zh (.one 3) (za 0)) (.one 3) (PM.ok true) (PM.bd (zk keyF (za 1) (za 3)) fun y => PM.ok [y])) σ = some (.lst (l.map fun x => .int (wth kvs x)), ⟨[some (.lst (sLs l)), some (.loc d), none, none], st⟩) := by
  rintro _ rfl
  refine Zw (T := Option AV × Option AV) (fun t => ⟨[some (.lst (sLs l)), some (.loc d), t.1, t.2], st⟩) (t0 := (none, none)) .str _ (Ym rfl) (fun x hx t => ⟨(t.1, some (.str x)), (t.1, some (.str x)), rfl, ?_⟩) hl (fun _ => rfl)
  obtain ⟨v, hv⟩ := hk x hx
  refine Zj rfl rfl ?_
  refine bK rfl (bK rfl (bK (bK hd rfl) ?_))
  show (lookD kvs x).map AV.int = some (.int ((lookD kvs x).getD 0))
  rw [hv]; rfl
 have hs : ∀ {σ : St}, sumF σ [.lst (l.map fun x => .int (wth kvs x))] = some (.int (zat kvs l)) := by
  intro σ
  show (Zr _).map _ = _
  rw [Yy]; rfl
 unfold QW
 exists zl, hc _ rfl, hs
theorem Xo : ∀ (l : List (List Nat)), Xp (sLs l) = some l
 | [] => rfl
 | x :: l => bK rfl (congrArg (Option.map (x :: ·)) (Xo l))
theorem sorted_eq {σ : St} {a b : List (List Nat)} (h : (a ++ b).length < 64) : sortedF σ [.lst (sLs a ++ sLs b)] = some (.lst (sLs (Qj (a ++ b)))) := by
 rw [sLs, sLs, <- List.map_append]
 exact bK rfl (bK rfl (bK (Xo _) (if_pos h)))
theorem ne_itm {σ : St} (a b : Int) : neD σ (.lst [.int a, .int b]) (.lst [.int a, .int b]) = some false := by
 have h0 : neF σ (.lst [.int a, .int b]) (.lst [.int a, .int b]) = Option.none := rfl
 unfold neD
 rw [h0]
 simp only [pyEq, pyA, pyB, pyC, pyD, pyE, pyF, pyG, pyH, Option.bind_some, Option.map_some, SeqAt.shaped, PyData.canLay0, PyData.canLayAll0, PyData.depth, PyData.depthAll, PyData.eqv, PyData.eqvAll, BEq.rfl, Bool.and_self, Nat.max_self, Nat.zero_add]
 rfl
theorem zbf (l : List (List Nat)) : (Qj l).Perm l := List.mergeSort_perm _ _
theorem sortN_srt {l : List (List Nat)} (h : l.Nodup) : Srt (Qj l) := by
  have h1 : (Qj l).Pairwise fun a b => (!decide (b < a)) = true := List.pairwise_mergeSort (fun a b c h1 h2 => by
      have h1' : ltN b a = false := by simpa [ltN] using h1
      have h2' : ltN c b = false := by simpa [ltN] using h2
      have : ltN c a = false := by
        cases h3 : ltN c a with
        | false => rfl
        | true =>
          cases h4 : ltN a b with
          | true => rw [ltN_tr h3 h4] at h2'; cases h2'
          | false => rw [ltN_tri h4 h1'] at h3; rw [h3] at h2'; cases h2'
      simpa [ltN] using this) (fun a b => by
      cases h : ltN b a with
      | false => have : ¬ b < a := of_decide_eq_false h
                 simp [this]
      | true => have : ¬ a < b := of_decide_eq_false (ltN_as h)
                simp [this]) l
  have h2 : (Qj l).Nodup := (zbf l).nodup_iff.mpr h
  refine (h1.and h2).imp ?_
  rintro a b ⟨h3, h4⟩
  have h3' : ltN b a = false := by simpa [ltN] using h3
  cases h5 : ltN a b with
  | true => rfl
  | false => exact absurd (ltN_tri h5 h3') h4
noncomputable abbrev NL := List (List Nat)
noncomputable abbrev lsA (Ls : List NL) : List AV := Ls.map fun l => .lst (sLs l)
noncomputable def chs (p : Nat) (w : Int) (fresh : NL) : AV := .lst [.int p, .int w, .lst (sLs fresh)]
noncomputable def lzS (st : List AE) (Ls : List NL) (d : Nat) (heap : List PI) (cov : NL) (ch : List AV) (j5 j6 j7 j8 j9 : Option AV) : St :=
 ⟨[some (.lst (lsA Ls)), some (.loc d), some (.loc st.length), some (.lst (sLs cov)), some (.loc (st.length + 1)), j5, j6, j7, j8, j9, none, none], st ++ [.lst (heap.map itm), .lst ch]⟩
theorem lsA_get {Ls : List NL} {p : Nat} {l : NL} (h : Ls[p]? = some l) : (lsA Ls)[p]? = some (.lst (sLs l)) := by rw [List.getElem?_map, h]; rfl
section
variable {st : List AE} {Ls : List NL} {d p : Nat} {r heap heap1 heap2 : List PI} {cov l fresh : NL} {ch : List AV} {t w : Int} {kvs : List (List Nat × Int)} {j5 j6 j7 j8 j9 : Option AV}
theorem st_lo {st : List AE} {d : Nat} {x : AE} (h : st[d]? = some x) (r : List AE) : (st ++ r)[d]? = some x := by
 rw [List.getElem?_append_left (List.getElem?_eq_some_iff.mp h).1]; exact h
theorem lz_ne (hd : st[d]? = some (.dct kvs)) (hp : Ls[p]? = some l) (hs : Srt l) (hc : Srt cov) (ll : l.length <= 900) (lc : cov.length <= 900) (hk : ∀ x ∈ l, ∃ v, lookD kvs x = some v) (hw : zat kvs (zJ l cov) = w) (hne : (w == -t) = false) (hL : Ls.length <= 900) (hr : r.length <= 900) :
  ∃ j5' j6' j7' j8' j9', yH (lzS st Ls d ((t, (p : Int)) :: r) cov ch j5 j6 j7 j8 j9) = some (.next, lzS st Ls d (suL ((-w, (p : Int)) :: r) 0 (-w, (p : Int))) cov ch j5' j6' j7' j8' j9') := by
 refine ⟨some (.int t), some (.int p), some (.lst (sLs (zJ l cov))), some (.int w), some (itm (-w, (p : Int))), ?_⟩
 have hst : ∀ h : List PI, (st ++ [AE.lst (h.map itm), AE.lst ch])[st.length]? = some (.lst (h.map itm)) := fun h => Zm _ _
 have hl2 : (((t, (p : Int)) :: r).map itm).length <= 100000 := by rw [List.length_map, List.length_cons]; omega
 have hl3 : (lsA Ls).length <= 100000 := by rw [List.length_map]; omega
 obtain ⟨u, hsl⟩ := sld_eq (st ++ [AE.lst (((t, (p : Int)) :: r).map itm), AE.lst ch]) hs hc ll lc
 have hwo := zbp (st := st ++ [AE.lst (((t, (p : Int)) :: r).map itm), AE.lst ch]) (l := zJ l cov) (st_lo hd _) (fun x hx => hk x (List.mem_filter.mp hx).1) (Nat.le_trans (List.length_filter_le _ _) (by omega))
 rw [hw] at hwo
 have hrp := QZ (st := st ++ [AE.lst (((t, (p : Int)) :: r).map itm), AE.lst ch]) (n := st.length) (y := (-w, (p : Int))) (hst _) hr
 rw [ss_0, List.set_cons_zero] at hrp
 have heq : ∀ {σ : St}, eqD σ (.int w) (.int (-t)) = some false := fun {_} => congrArg some hne
 unfold yH
 exists zl, Yv (i := 0) (hst _) hl2 rfl, yr hl3 (lsA_get hp), hsl, hwo, hrp, heq, ne_itm _ _
noncomputable def PopOf (z : PI) (h1 h2 : List PI) : Prop := (h1 = [z] /\ h2 = []) ∨ ∃ m y, h1 = z :: (m ++ [y]) /\ h2 = suL (y :: m) 0 y /\ m.length <= 900
theorem pop_any {z : PI} (h : PopOf z heap1 heap2) (x : AE) : Xi [.loc st.length] (st ++ [.lst (heap1.map itm), x]) = some (itm z, st ++ [.lst (heap2.map itm), x]) := by
 rcases h with ⟨rfl, rfl⟩ | ⟨m, y, rfl, rfl, hl⟩
 ·rw [heappop_one (Zm _ _), ss_0]; rfl
 ·rw [heappop_eq (Zm _ _) hl, ss_0]; rfl
theorem lz_eq (hd : st[d]? = some (.dct kvs)) (hp : Ls[p]? = some l) (hs : Srt l) (hc : Srt cov) (ll : l.length <= 900) (lc : cov.length <= 900) (hk : ∀ x ∈ l, ∃ v, lookD kvs x = some v) (hw : zat kvs (zJ l cov) = w) (hne : (w == -t) = true) (hL : Ls.length <= 900) (hr : r.length <= 900) (hch : ch.length <= 900)
  (h64 : (cov ++ zJ l cov).length < 64) (hpo : PopOf (-99, (p : Int)) (suL ((-99, (p : Int)) :: r) 0 (-99, (p : Int))) heap2) :
  ∃ j5' j6' j7' j8' j9', yH (lzS st Ls d ((t, (p : Int)) :: r) cov ch j5 j6 j7 j8 j9) = some (.next, lzS st Ls d heap2 (Qj (cov ++ zJ l cov)) (ch ++ [chs p w (zJ l cov)]) j5' j6' j7' j8' j9') := by
 refine ⟨some (.int t), some (.int p), some (.lst (sLs (zJ l cov))), some (.int w), some (itm (-99, (p : Int))), ?_⟩
 have hst : ∀ h : List PI, (st ++ [AE.lst (h.map itm), AE.lst ch])[st.length]? = some (.lst (h.map itm)) := fun h => Zm _ _
 have hl2 : (((t, (p : Int)) :: r).map itm).length <= 100000 := by rw [List.length_map, List.length_cons]; omega
 have hl3 : (lsA Ls).length <= 100000 := by rw [List.length_map]; omega
 obtain ⟨u, hsl⟩ := sld_eq (st ++ [AE.lst (((t, (p : Int)) :: r).map itm), AE.lst ch]) hs hc ll lc
 have hwo := zbp (st := st ++ [AE.lst (((t, (p : Int)) :: r).map itm), AE.lst ch]) (l := zJ l cov) (st_lo hd _) (fun x hx => hk x (List.mem_filter.mp hx).1) (Nat.le_trans (List.length_filter_le _ _) (by omega))
 rw [hw] at hwo
 have hrp := QZ (st := st ++ [AE.lst (((t, (p : Int)) :: r).map itm), AE.lst ch]) (n := st.length) (y := (-99, (p : Int))) (hst _) hr
 rw [ss_0, List.set_cons_zero] at hrp
 have heq : ∀ {σ : St}, eqD σ (.int w) (.int (-t)) = some true := fun {_} => congrArg some hne
 have hap : ∀ (sl : List (Option AV)) (h : List PI), zK ⟨sl, st ++ [.lst (h.map itm), .lst ch]⟩ (.loc (st.length + 1)) [chs p w (zJ l cov)] = some (.none, ⟨sl, st ++ [.lst (h.map itm), .lst (ch ++ [chs p w (zJ l cov)])]⟩) := by
  intro sl h
  rw [zca (l := ch) (Yr _ _ 1) (by omega)]
  show some (AV.none, (⟨sl, (st ++ [AE.lst (h.map itm), AE.lst ch]).set (st.length + 1) _⟩ : St)) = _
  rw [zbd]; rfl
 have hty : ∀ (sl : List (Option AV)) (h : List PI), tyF ⟨sl, st ++ [.lst (h.map itm), .lst ch]⟩ (.loc (st.length + 1)) = some "list" := fun sl h => zbz (Yr _ _ 1)
 have hpp := pop_any (st := st) hpo (.lst (ch ++ [chs p w (zJ l cov)]))
 have hso : ∀ {σ : St}, sortedF σ [.lst (sLs cov ++ sLs (zJ l cov))] = some (.lst (sLs (Qj (cov ++ zJ l cov)))) := fun {_} => sorted_eq h64
 have had : ∀ {σ : St}, zQ σ (.lst (sLs cov)) (.lst (sLs (zJ l cov))) = some (.lst (sLs cov ++ sLs (zJ l cov))) := fun {_} => q_addL (by rw [List.length_map, List.length_map, <- List.length_append]; omega)
 unfold yH
 exists zl, (by unfold QM), Yv (i := 0) (hst _) hl2 rfl, yr hl3 (lsA_get hp), hsl, hwo, hrp, heq, ne_itm _ _, hap _ _, hty _ _, hpp, hso, had
end
noncomputable abbrev okS (l : List Nat) : Prop := ∀ c ∈ l, c < 0x110000
theorem okS_ok {l : List Nat} (h : okS l) : PyData.strOk ⟨l.toArray⟩ = true := by
 unfold PyData.strOk
 rw [List.all_toArray, List.all_eq_true]
 exact fun x hx => decide_eq_true (h x hx)
noncomputable def strP (l : List Nat) : PyData := .str ⟨l.toArray⟩
theorem eqv_str (a b : List Nat) : PyData.eqv (strP a) (strP b) = decide (a = b) := by
 show ((⟨a.toArray⟩ : Str) == ⟨b.toArray⟩) = _
 by_cases h : a = b
 ·subst h; simp
 ·rw [decide_eq_false h]
  refine beq_eq_false_iff_ne.mpr fun e => h ?_
  have := congrArg (fun s : Str => s.cps.toList) e
  simpa using this
theorem pys_sLs : ∀ (l : NL), AV.pys (sLs l) = some (l.map strP)
 | [] => rfl
 | x :: l => by
  have := pys_sLs l
  simp only [sLs] at this
  simp only [sLs, List.map_cons, pyG, pyH, Option.bind_some, Option.map_some, pyA, pyB, pyC, pyD, pyE, pyF, this, strP]
theorem lay_strs : ∀ (l : NL), (∀ x ∈ l, okS x) -> PyData.canLayAll0 (l.map strP) = true /\ PyData.depthAll (l.map strP) = 0
 | [], _ => ⟨rfl, rfl⟩
 | x :: l, h => by
  obtain ⟨h1, h2⟩ := lay_strs l fun y hy => h y (List.mem_cons_of_mem _ hy)
  have h3 := okS_ok (h x List.mem_cons_self)
  simp only [List.map_cons, PyData.canLayAll0, PyData.depthAll, strP, PyData.canLay0, PyData.depth, h3, Bool.true_and, Nat.zero_max]
  exact ⟨h1, h2⟩
theorem any_strs (x : List Nat) : ∀ (l : NL), ((l.map strP).any fun y => PyData.eqv y (strP x)) = decide (x ∈ l)
 | [] => rfl
 | y :: l => by
  rw [List.map_cons, List.any_cons, any_strs x l, eqv_str]
  by_cases h : y = x
  ·subst h; simp
  ·simp [h, Ne.symm h]
theorem inD_strs {σ : St} {x : List Nat} {l : NL} (hx : okS x) (hl : ∀ y ∈ l, okS y) : inD σ (.str x) (.lst (sLs l)) = some (decide (x ∈ l)) := by
 show inP _ _ = _
 have hx' := okS_ok hx
 obtain ⟨h1, h2⟩ := lay_strs l hl
 unfold inP
 simp only [pyA, pyB, pyC, pyD, pyE, pyF, pys_sLs, Option.map_some, Option.bind_some, SeqAt.shaped, PyData.canLay0, PyData.depth, hx', h1, h2]
 exact (if_pos rfl).trans (congrArg some (any_strs x l))
theorem ninD_strs {σ : St} {x : List Nat} {l : NL} (hx : okS x) (hl : ∀ y ∈ l, okS y) : ninD σ (.str x) (.lst (sLs l)) = some (decide (x ∉ l)) := by
 unfold ninD
 rw [inD_strs hx hl]
 by_cases h : x ∈ l <;> simp [h]
noncomputable def brg (Ls : List NL) (cov : NL) (p : Nat) : NL := zJ (Ls.getD p []) cov
noncomputable def gain (kvs : List (List Nat × Int)) (Ls : List NL) (cov : NL) (p : Nat) : Int := zat kvs (brg Ls cov p)
noncomputable def YO (g : List Int) : Nat := g.idxOf (zau g)
noncomputable def plS (st : List AE) (Ls : List NL) (d : Nat) (cov : NL) (rest : List Nat) (ch : List AV) (j5 j6 j7 : Option AV) : St :=
 ⟨[some (.lst (lsA Ls)), some (.loc d), some (.lst (sLs cov)), some (.loc st.length), some (.lst (rest.map fun p => .int (p : Nat))), j5, j6, j7, none, none, none, none], st ++ [.lst ch]⟩
section
variable {st : List AE} {Ls : List NL} {d p : Nat} {cov : NL} {rest : List Nat} {ch : List AV} {kvs : List (List Nat × Int)} {j5 j6 j7 : Option AV}
theorem brought_eq (hL : Ls.length <= 900) (hr : ∀ p ∈ rest, p < Ls.length) (hrl : rest.length <= 900) (hll : ∀ l ∈ Ls, l.length <= 900) (hok : ∀ l ∈ Ls, ∀ x ∈ l, okS x) (hoc : ∀ x ∈ cov, okS x) :
  lcK false (zP [8, 9] (Zh (.one 9) (za 4)) (.one 9) (PM.ok true) (PM.bd (lcK false (zP [10, 11] (Zh (.one 11) (zk zn (za 0) (za 9))) (.one 11) (zO ninD (za 11) (za 2)) (PM.bd (za 11) fun y => PM.ok [y]))) fun y => PM.ok [y])) (plS st Ls d cov rest ch j5 j6 j7) =
   some (.lst (rest.map fun p => .lst (sLs (brg Ls cov p))), plS st Ls d cov rest ch j5 j6 j7) := by
 refine Zw (T := Option AV × Option AV) (fun t => ⟨[some (.lst (lsA Ls)), some (.loc d), some (.lst (sLs cov)), some (.loc st.length), some (.lst (rest.map fun p => .int (p : Nat))), j5, j6, j7, t.1, t.2, none, none], st ++ [.lst ch]⟩) (t0 := (none, none)) (fun p => .int (p : Nat)) _ (Ym rfl) (fun p hp t => ⟨(t.1, some (.int (p : Nat))), (t.1, some (.int (p : Nat))), rfl, ?_⟩) (by omega) (fun _ => rfl)
 have hlt := hr p hp
 have hg : Ls[p]? = some (Ls.getD p []) := by simp [List.getD_eq_getElem?_getD, hlt]
 have hm : Ls.getD p [] ∈ Ls := List.mem_of_getElem? hg
 have hit : zn (⟨[some (.lst (lsA Ls)), some (.loc d), some (.lst (sLs cov)), some (.loc st.length), some (.lst (rest.map fun p => .int (p : Nat))), j5, j6, j7, t.1, some (.int (p : Nat)), none, none], st ++ [.lst ch]⟩ : St) (.lst (lsA Ls)) (.int (p : Nat)) = some (.lst (sLs (Ls.getD p []))) := yr (by rw [List.length_map]; omega) (lsA_get hg)
 refine QH (T := Option AV × Option AV) (fun u => ⟨[some (.lst (lsA Ls)), some (.loc d), some (.lst (sLs cov)), some (.loc st.length), some (.lst (rest.map fun p => .int (p : Nat))), j5, j6, j7, t.1, some (.int (p : Nat)), u.1, u.2], st ++ [.lst ch]⟩) (t0 := (none, none)) .str .str (fun x => decide (x ∉ cov)) (Ym (Zj rfl rfl hit)) (fun x hx u => ⟨(u.1, some (.str x)), (u.1, some (.str x)), (u.1, some (.str x)), rfl, ?_, fun _ => rfl⟩) (Nat.le_trans (hll _ hm) (by decide)) (fun _ => rfl)
 exact zch rfl rfl (ninD_strs (hok _ hm x hx) hoc)
end
noncomputable abbrev rstA (rest : List Nat) : List AV := rest.map fun p => .int (p : Nat)
theorem log2_small {n : Nat} (h : n < 1024) : n.log2 < 10 := by
 by_cases h0 : n = 0
 ·subst h0; decide
 ·exact (Nat.log2_lt h0).mpr h
theorem lay_ints : ∀ (l : List Int), (∀ x ∈ l, 0 <= x /\ x < 1024) -> PyData.canLayAll0 (l.map .int) = true /\ PyData.depthAll (l.map .int) = 0 /\ PyData.weightAll (l.map .int) <= 12 * l.length
 | [], _ => ⟨rfl, rfl, Nat.le_refl _⟩
 | x :: l, h => by
  obtain ⟨h1, h2, h3⟩ := lay_ints l fun y hy => h y (List.mem_cons_of_mem _ hy)
  obtain ⟨b1, b2⟩ := h x List.mem_cons_self
  have h4 : PyData.weight (.int x) <= 11 := by
   have := log2_small (n := x.natAbs) (by omega)
   simp only [PyData.weight]
   split <;> omega
  refine ⟨h1, ?_, ?_⟩
  ·simp only [List.map_cons, PyData.depthAll, PyData.depth, h2]; rfl
  ·simp only [List.map_cons, PyData.weightAll, List.length_cons]; omega
theorem maxL_idx {l : List Int} (h : l ≠ []) : l.idxOf (zau l) < l.length := List.idxOf_lt_length_of_mem (QV l h)
theorem index_eq {σ : St} {l : List Int} (h0 : l ≠ []) (hl : l.length <= 900) (h : ∀ x ∈ l, 0 <= x /\ x < 1024) : indexF σ (.lst (l.map .int)) [.int (zau l)] = some (.int (YO l : Nat), σ) := by
 obtain ⟨h1, h2, h3⟩ := lay_ints l h
 have hi : Zr (l.map AV.int) = some l := by have := Yy (fun x : Int => x) l; rwa [List.map_id'] at this
 have hlay : PyData.layable0 (.list (l.map .int)) = true := by
  refine Bool.and_eq_true_iff.mpr ⟨Bool.and_eq_true_iff.mpr ⟨h1, decide_eq_true ?_⟩, decide_eq_true ?_⟩
  ·show PyData.depthAll _ + 1 <= 64; omega
  ·show PyData.weightAll _ <= 2 ^ 20; omega
 exact bK rfl (bK rfl (bK rfl (bK hi (if_pos ⟨hlay, QV l h0⟩))))
theorem max_eq {σ : St} {l : List Int} (h0 : l ≠ []) : maxF σ [.lst (l.map .int)] = some (.int (zau l)) := by
 have hi : Zr (l.map AV.int) = some l := by have := Yy (fun x : Int => x) l; rwa [List.map_id'] at this
 exact bK rfl (bK rfl (bK hi (if_pos (List.length_pos_iff.mpr h0))))
section
variable {st : List AE} {Ls : List NL} {d p : Nat} {cov : NL} {rest : List Nat} {ch : List AV} {kvs : List (List Nat × Int)} {j5 j6 j7 : Option AV}
theorem gains_eq (hd : st[d]? = some (.dct kvs)) (hrl : rest.length <= 900) (hll : ∀ l ∈ Ls, l.length <= 900) (hr : ∀ p ∈ rest, p < Ls.length) (hk : ∀ l ∈ Ls, ∀ x ∈ l, ∃ v, lookD kvs x = some v) :
  lcK false (zP [8, 9] (Zh (.one 9) (za 5)) (.one 9) (PM.ok true) (PM.bd (ye yX (zd (za 9) (zd (za 1) (PM.ok [])))) fun y => PM.ok [y])) (plS st Ls d cov rest ch (some (.lst (rest.map fun p => .lst (sLs (brg Ls cov p))))) j6 j7) =
   some (.lst ((rest.map (gain kvs Ls cov)).map .int), plS st Ls d cov rest ch (some (.lst (rest.map fun p => .lst (sLs (brg Ls cov p))))) j6 j7) := by
 rw [List.map_map]
 refine Zw (T := Option AV × Option AV) (fun t => ⟨[some (.lst (lsA Ls)), some (.loc d), some (.lst (sLs cov)), some (.loc st.length), some (.lst (rest.map fun p => .int (p : Nat))), some (.lst (rest.map fun p => .lst (sLs (brg Ls cov p)))), j6, j7, t.1, t.2, none, none], st ++ [.lst ch]⟩) (t0 := (none, none)) (fun p => .lst (sLs (brg Ls cov p))) _ (Ym rfl) (fun p hp t => ⟨(t.1, some (.lst (sLs (brg Ls cov p)))), (t.1, some (.lst (sLs (brg Ls cov p)))), rfl, ?_⟩) (by omega) (fun _ => rfl)
 have hlt := hr p hp
 have hg : Ls[p]? = some (Ls.getD p []) := by simp [List.getD_eq_getElem?_getD, hlt]
 have hm : Ls.getD p [] ∈ Ls := List.mem_of_getElem? hg
 have hw := zbp (st := st ++ [.lst ch]) (l := brg Ls cov p) (st_lo hd _) (fun x hx => hk _ hm x (List.mem_filter.mp hx).1) (Nat.le_trans (List.length_filter_le _ _) (Nat.le_trans (hll _ hm) (by decide)))
 exists zl, hw
theorem cut_take (l : List AV) (i : Nat) (hl : l.length <= 100000) (σ : St) : Zy σ none (some (i : Int)) (.lst l) = some (.lst (l.take i)) := by
 rw [q_cutL hl]
 simp only [YB, Option.elim, clip_nat, List.drop_zero, Nat.sub_zero]
 rw [Nat.min_comm, List.take_eq_take_min (i := i), Nat.min_comm]
theorem pl_turn (hd : st[d]? = some (.dct kvs)) (hL : Ls.length <= 900) (hr : ∀ p ∈ rest, p < Ls.length) (hrl : rest.length <= 900) (hne : rest ≠ []) (hll : ∀ l ∈ Ls, l.length <= 900) (hok : ∀ l ∈ Ls, ∀ x ∈ l, okS x) (hoc : ∀ x ∈ cov, okS x) (hk : ∀ l ∈ Ls, ∀ x ∈ l, ∃ v, lookD kvs x = some v) (hg : ∀ p ∈ rest, 0 <= gain kvs Ls cov p /\ gain kvs Ls cov p < 1024) (hc : cov.length <= 900) (hch : ch.length <= 900)
  {a : Nat} (ha : YO (rest.map (gain kvs Ls cov)) = a) (hp : rest[a]? = some p) :
  ∃ j5' j6' j7', Zz (plS st Ls d cov rest ch j5 j6 j7) = some (.next, plS st Ls d (cov ++ brg Ls cov p) (rest.eraseIdx a) (ch ++ [chs p (gain kvs Ls cov p) (brg Ls cov p)]) j5' j6' j7') := by
 refine ⟨some (.lst (rest.map fun p => .lst (sLs (brg Ls cov p)))), some (.lst ((rest.map (gain kvs Ls cov)).map .int)), some (.int (a : Nat)), ?_⟩
 have gne : rest.map (gain kvs Ls cov) ≠ [] := by simpa using hne
 have hal : a < rest.length := (List.getElem?_eq_some_iff.mp hp).1
 have hb := brought_eq (st := st) (d := d) (ch := ch) (j5 := j5) (j6 := j6) (j7 := j7) hL hr hrl hll hok hoc
 have hgn := gains_eq (cov := cov) (ch := ch) (j6 := j6) (j7 := j7) hd hrl hll hr hk
 have hmx : ∀ {σ : St}, maxF σ [.lst ((rest.map (gain kvs Ls cov)).map .int)] = some (.int (zau (rest.map (gain kvs Ls cov)))) := fun {_} => max_eq gne
 have hix : ∀ {σ : St}, indexF σ (.lst ((rest.map (gain kvs Ls cov)).map .int)) [.int (zau (rest.map (gain kvs Ls cov)))] = some (.int (a : Nat), σ) := fun {σ} => by
  rw [index_eq gne (by rw [List.length_map]; exact hrl) (by simpa using hg), ha]
 have l1 : (rstA rest).length <= 100000 := by rw [List.length_map]; omega
 have i1 : ∀ {σ : St}, zn σ (.lst (rstA rest)) (.int (a : Nat)) = some (.int (p : Nat)) := fun {_} => yr l1 (by rw [List.getElem?_map, hp]; rfl)
 have i2 : ∀ {σ : St}, zn σ (.lst ((rest.map (gain kvs Ls cov)).map .int)) (.int (a : Nat)) = some (.int (gain kvs Ls cov p)) := fun {_} => yr (by rw [List.length_map, List.length_map]; omega) (by rw [List.getElem?_map, List.getElem?_map, hp]; rfl)
 have i3 : ∀ {σ : St}, zn σ (.lst (rest.map fun p => .lst (sLs (brg Ls cov p)))) (.int (a : Nat)) = some (.lst (sLs (brg Ls cov p))) := fun {_} => yr (by rw [List.length_map]; omega) (by rw [List.getElem?_map, hp]; rfl)
 have hap : ∀ (sl : List (Option AV)), zK ⟨sl, st ++ [.lst ch]⟩ (.loc st.length) [chs p (gain kvs Ls cov p) (brg Ls cov p)] = some (.none, ⟨sl, st ++ [.lst (ch ++ [chs p (gain kvs Ls cov p) (brg Ls cov p)])]⟩) := by
  intro sl
  rw [zca (l := ch) (Zm _ _) (by omega)]
  show some (AV.none, (⟨sl, (st ++ [AE.lst ch]).set st.length _⟩ : St)) = _
  rw [ss_0]; rfl
 have hty : ∀ (sl : List (Option AV)), tyF ⟨sl, st ++ [.lst ch]⟩ (.loc st.length) = some "list" := fun sl => zbz (Zm _ _)
 have hbl : (brg Ls cov p).length <= 900 := by
  have hlt := hr p (List.mem_of_getElem? hp)
  have hg : Ls[p]? = some (Ls.getD p []) := by simp [List.getD_eq_getElem?_getD, hlt]
  exact Nat.le_trans (List.length_filter_le _ _) (hll _ (List.mem_of_getElem? hg))
 have had : ∀ {σ : St}, zQ σ (.lst (sLs cov)) (.lst (sLs (brg Ls cov p))) = some (.lst (sLs (cov ++ brg Ls cov p))) := fun {_} => by
  rw [q_addL (by rw [List.length_map, List.length_map]; omega), sLs, sLs, sLs, List.map_append]
 have c1 : ∀ {σ : St}, Zy σ none (some ((a : Nat) : Int)) (.lst (rstA rest)) = some (.lst ((rstA rest).take a)) := fun {σ} => cut_take _ _ l1 σ
 have c2 : ∀ {σ : St}, Zy σ (some ((a : Nat) + 1 : Int)) none (.lst (rstA rest)) = some (.lst ((rstA rest).drop (a + 1))) := fun {σ} => zar _ (a + 1) l1 σ
 have had2 : ∀ {σ : St}, zQ σ (.lst ((rstA rest).take a)) (.lst ((rstA rest).drop (a + 1))) = some (.lst (rstA (rest.eraseIdx a))) := fun {_} => by
  rw [q_addL (by rw [List.length_take, List.length_drop, List.length_map]; omega), rstA, rstA, List.eraseIdx_eq_take_drop_succ, List.map_append, List.map_take, List.map_drop]
 unfold Zz
 exists zl, hb, hgn, hmx, hix, i1, i2, i3, hap _, hty _, had, had2, c1, c2
end
structure zco (kvs : List (List Nat × Int)) (Ls : List NL) : Prop where
 hL : Ls.length = 4
 srt : ∀ l ∈ Ls, Srt l
 len : ∀ l ∈ Ls, l.length <= 8
 ok : ∀ l ∈ Ls, ∀ x ∈ l, okS x
 key : ∀ l ∈ Ls, ∀ x ∈ l, ∃ v, lookD kvs x = some v /\ 0 <= v /\ v <= 4
noncomputable def picks (kvs : List (List Nat × Int)) (Ls : List NL) : Nat -> List Nat -> NL -> List AV
 | 0, _, _ => []
 | k + 1, rest, cov => match rest[YO (rest.map (gain kvs Ls cov))]? with
  | Option.none => []
  | some p => chs p (gain kvs Ls cov p) (brg Ls cov p) :: picks kvs Ls k (rest.eraseIdx (YO (rest.map (gain kvs Ls cov)))) (cov ++ brg Ls cov p)
section
variable {kvs : List (List Nat × Int)} {Ls : List NL}
theorem zco.mem (g : zco kvs Ls) {p : Nat} (hp : p < 4) : Ls[p]? = some (Ls.getD p []) /\ Ls.getD p [] ∈ Ls := by
 have : Ls[p]? = some (Ls.getD p []) := by
  have : p < Ls.length := by rw [g.hL]; exact hp
  simp [List.getD_eq_getElem?_getD, this]
 exact ⟨this, List.mem_of_getElem? this⟩
theorem wsum_cons (x : List Nat) (l : NL) : zat kvs (x :: l) = wth kvs x + zat kvs l := by unfold zat; rw [List.map_cons, List.sum_cons]
theorem wsum_bd : ∀ (l : NL), (∀ x ∈ l, 0 <= wth kvs x /\ wth kvs x <= 4) -> 0 <= zat kvs l /\ zat kvs l <= 4 * l.length
 | [], _ => by simp [zat]
 | x :: l, h => by
  have h1 := wsum_bd l fun y hy => h y (List.mem_cons_of_mem _ hy)
  have h2 := h x List.mem_cons_self
  rw [wsum_cons, List.length_cons]; omega
theorem Xv {x : List Nat} {l c : NL} (h : x ∉ c) : zJ (x :: l) c = x :: zJ l c := List.filter_cons_of_pos (decide_eq_true h)
theorem QY {x : List Nat} {l c : NL} (h : x ∈ c) : zJ (x :: l) c = zJ l c := List.filter_cons_of_neg (by simpa using h)
theorem wsum_mono : ∀ (l c c' : NL), (∀ x ∈ l, 0 <= wth kvs x /\ wth kvs x <= 4) -> (∀ x ∈ c, x ∈ c') -> zat kvs (zJ l c') <= zat kvs (zJ l c)
 | [], _, _, _, _ => Int.le_refl _
 | x :: l, c, c', h, hc => by
  have h1 := wsum_mono l c c' (fun y hy => h y (List.mem_cons_of_mem _ hy)) hc
  have h2 := (h x List.mem_cons_self).1
  by_cases hx' : x ∈ c'
  ·rw [QY hx']
   by_cases hx : x ∈ c
   ·rw [QY hx]; exact h1
   ·rw [Xv hx, wsum_cons]; omega
  ·rw [Xv hx', Xv fun hx => hx' (hc x hx), wsum_cons, wsum_cons]; omega
theorem lacks_congr {l c c' : NL} (h : ∀ x, x ∈ c ↔ x ∈ c') : zJ l c = zJ l c' := by
 unfold zJ
 exact List.filter_congr fun x _ => by rw [decide_eq_decide, h]
theorem zco.wt (g : zco kvs Ls) {l : NL} (hl : l ∈ Ls) : ∀ x ∈ l, 0 <= wth kvs x /\ wth kvs x <= 4 := fun x hx => by
 obtain ⟨v, h1, h2, h3⟩ := g.key l hl x hx
 unfold wth; rw [h1]; exact ⟨h2, h3⟩
theorem zco.gain (g : zco kvs Ls) {p : Nat} (hp : p < 4) (cov : NL) : 0 <= gain kvs Ls cov p /\ gain kvs Ls cov p <= 32 := by
 obtain ⟨h1, h2⟩ := g.mem hp
 have h3 := wsum_bd (kvs := kvs) (brg Ls cov p) fun x hx => g.wt h2 x (List.mem_filter.mp hx).1
 have h4 : (brg Ls cov p).length <= 8 := Nat.le_trans (List.length_filter_le _ _) (g.len _ h2)
 unfold Mine.gain; omega
theorem zco.mono (g : zco kvs Ls) {p : Nat} (hp : p < 4) {c c' : NL} (h : ∀ x ∈ c, x ∈ c') : Mine.gain kvs Ls c' p <= Mine.gain kvs Ls c p :=
 wsum_mono _ _ _ (g.wt (g.mem hp).2) h
theorem maxL_eq {l : List Int} {x : Int} (h1 : x ∈ l) (h2 : ∀ y ∈ l, y <= x) : zau l = x := Int.le_antisymm (h2 _ (QV l fun h => by rw [h] at h1; cases h1)) (maxL_ge l x h1)
theorem best_top {rest : List Nat} (hs : rest.Pairwise (· < ·)) {f t : Nat -> Int} {p : Nat} (hp : p ∈ rest) (ht : f p = t p) (hle : ∀ q ∈ rest, f q <= t q) (hmin : ∀ q ∈ rest, t q < t p ∨ (t q = t p /\ p <= q)) :
  rest[YO (rest.map f)]? = some p := by
 have hmx : zau (rest.map f) = f p := maxL_eq (List.mem_map_of_mem hp) fun y hy => by
  obtain ⟨q, hq, rfl⟩ := List.mem_map.mp hy
  have := hle q hq; have := hmin q hq; omega
 unfold YO
 rw [hmx]
 have hlt : (rest.map f).idxOf (f p) < (rest.map f).length := List.idxOf_lt_length_of_mem (List.mem_map_of_mem hp)
 have hlt' : (rest.map f).idxOf (f p) < rest.length := by rw [List.length_map] at hlt; exact hlt
 have hfq : f rest[(rest.map f).idxOf (f p)] = f p := by
  have := List.getElem_idxOf hlt
  rwa [List.getElem_map] at this
 obtain ⟨i, hi, hip⟩ := List.getElem_of_mem hp
 have hle2 : (rest.map f).idxOf (f p) <= i := by
  refine Nat.le_of_not_lt fun h => ?_
  have := List.not_of_lt_findIdx (xs := rest.map f) (p := (· == f p)) (i := i) (by simpa [List.idxOf] using h)
  simp [hip] at this
 have hq := List.getElem_mem hlt'
 have h1 := hle _ hq
 have h2 := hmin _ hq
 rw [List.getElem?_eq_getElem hlt']
 congr 1
 rcases Nat.lt_or_eq_of_le hle2 with h | h
 ·have := List.pairwise_iff_getElem.mp hs _ _ hlt' hi h
  rw [hip] at this
  omega
 ·subst h; exact hip
theorem perm_at {rest : List Nat} {a p : Nat} (h : rest[a]? = some p) : rest.Perm (p :: rest.eraseIdx a) := by
 have e : rest = rest.take a ++ p :: rest.drop (a + 1) := by rw [<- yT h, List.take_append_drop]
 rw [List.eraseIdx_eq_take_drop_succ]
 exact (List.Perm.of_eq e).trans List.perm_middle
end
section
variable {kvs : List (List Nat × Int)} {Ls : List NL} {st : List AE} {d : Nat}
theorem pl_run (g : zco kvs Ls) (hd : st[d]? = some (.dct kvs)) : ∀ (k : Nat) (rest : List Nat) (cov : NL) (ch : List AV) (j5 j6 j7 : Option AV) (f : Nat), rest.length = k -> k < f -> k <= 4 -> (∀ p ∈ rest, p < 4) -> (∀ x ∈ cov, okS x) -> cov.length + 8 * k <= 32 -> ch.length + k <= 4 ->
  ∃ cov' j5' j6' j7', zA YA Zz f (plS st Ls d cov rest ch j5 j6 j7) = some (.next, plS st Ls d cov' [] (ch ++ picks kvs Ls k rest cov) j5' j6' j7') := by
 intro k
 induction k with
 | zero =>
  intro rest cov ch j5 j6 j7 f hk hf _ _ _ _ _
  obtain ⟨f, rfl⟩ : ∃ m, f = m + 1 := ⟨f - 1, by omega⟩
  have : rest = [] := List.length_eq_zero_iff.mp hk
  subst this
  exact ⟨cov, j5, j6, j7, by rw [YH (σ1 := plS st Ls d cov [] ch j5 j6 j7) rfl, picks, List.append_nil]⟩
 | succ k ih =>
  intro rest cov ch j5 j6 j7 f hk hf h4 hr hoc hc hch
  obtain ⟨f, rfl⟩ : ∃ m, f = m + 1 := ⟨f - 1, by omega⟩
  have hne : rest ≠ [] := fun h => by rw [h] at hk; cases hk
  have hne' : rest.map (gain kvs Ls cov) ≠ [] := by simpa using hne
  have hal : YO (rest.map (gain kvs Ls cov)) < (rest.map (gain kvs Ls cov)).length := maxL_idx hne'
  rw [List.length_map] at hal
  have hp : rest[YO (rest.map (gain kvs Ls cov))]? = some rest[YO (rest.map (gain kvs Ls cov))] := List.getElem?_eq_getElem hal
  generalize rest[YO (rest.map (gain kvs Ls cov))] = p at hp
  have hpm := List.mem_of_getElem? hp
  have hm := (g.mem (hr p hpm)).2
  have hbl : (brg Ls cov p).length <= 8 := Nat.le_trans (List.length_filter_le _ _) (g.len _ hm)
  have hk := pl_turn (st := st) (ch := ch) (j5 := j5) (j6 := j6) (j7 := j7) hd (by rw [g.hL]; decide) (fun q hq => by rw [g.hL]; exact hr q hq) (by omega) hne (fun l hl => Nat.le_trans (g.len l hl) (by decide)) g.ok hoc (fun l hl x hx => (g.key l hl x hx).imp fun _ h => h.1) (fun q hq => by have := g.gain (hr q hq) cov; omega) (by omega) (by omega) rfl hp; obtain ⟨a5, a6, a7, ht⟩ := hk
  have hcw : YA (plS st Ls d cov rest ch j5 j6 j7) = some (true, plS st Ls d cov rest ch j5 j6 j7) := by
   refine e_tru (zD rfl) ?_
   rw [q_truL (by rw [List.length_map]; omega)]
   cases rest with
   | nil => exact absurd rfl hne
   | cons => rfl
  obtain ⟨cov', b5, b6, b7, h⟩ := ih (rest.eraseIdx (YO (rest.map (gain kvs Ls cov)))) (cov ++ brg Ls cov p) (ch ++ [chs p (gain kvs Ls cov p) (brg Ls cov p)]) a5 a6 a7 f (by rw [List.length_eraseIdx_of_lt hal]; omega) (by omega) (by omega) (fun q hq => hr q (List.mem_of_mem_eraseIdx hq))
   (fun x hx => by
    rcases List.mem_append.mp hx with hx | hx
    ·exact hoc x hx
    ·exact g.ok _ hm x (List.mem_filter.mp hx).1) (by rw [List.length_append]; omega) (by rw [List.length_append, List.length_singleton]; omega)
  refine ⟨cov', b5, b6, b7, ?_⟩
  rw [zbq hcw ht, h, picks, hp, List.append_assoc]
  rfl
theorem fzL_id {σ : St} : ∀ (l : List AV), (∀ x ∈ l, ∃ ys, x = .lst ys) -> fzL σ l = some (l, σ)
 | [], _ => rfl
 | x :: l, h => by
  have h1 := fzL_id (σ := σ) l fun y hy => h y (List.mem_cons_of_mem _ hy)
  obtain ⟨ys, rfl⟩ := h x List.mem_cons_self
  exact zax rfl h1
theorem picks_lst : ∀ (k : Nat) (rest : List Nat) (cov : NL), ∀ x ∈ picks kvs Ls k rest cov, ∃ p w f, x = chs p w f
 | 0, _, _, x, h => by cases h
 | k + 1, rest, cov, x, h => by
  unfold picks at h
  split at h
  ·cases h
  ·rcases List.mem_cons.mp h with rfl | h
   ·exact ⟨_, _, _, rfl⟩
   ·exact picks_lst k _ _ x h
theorem zbi (n : Nat) : ∀ (l : List AV), (∀ x ∈ l, ∃ p w f, x = chs p w f) -> AV.lowers n l = true
 | [], _ => rfl
 | x :: l, h => by
  have h1 := zbi n l fun y hy => h y (List.mem_cons_of_mem _ hy)
  obtain ⟨p, w, f, rfl⟩ := h x List.mem_cons_self
  simp only [AV.lowers, chs, AV.lower, lowers_sLs, h1, Bool.and_self]
theorem fz_chs {sl : List (Option AV)} {l : List AV} (h : ∀ x ∈ l, ∃ p w f, x = chs p w f) : fz2 ⟨sl, st ++ [.lst l]⟩ (.loc st.length) = some (.lst l, ⟨sl, st ++ [.dead]⟩) := by
 exact fz2_l (Zm _ _) (fzL_id l (fun x hx => by obtain ⟨p, w, f, rfl⟩ := h x hx; exact ⟨_, rfl⟩)) (Zm _ _) rfl (ss_0 _ _ _)
theorem plainly_eq (g : zco kvs Ls) (hd : st[d]? = some (.dct kvs)) : Xg [.lst (lsA Ls), .loc d] st = some (.lst (picks kvs Ls 4 [0, 1, 2, 3] []), st) := by
 obtain ⟨cov', j5, j6, j7, h⟩ := pl_run g hd 4 [0, 1, 2, 3] [] [] none none none 100000 rfl (by decide) (by decide) (by decide) (fun _ h => by cases h) (by decide) (by decide)
 have hpk := picks_lst (kvs := kvs) (Ls := Ls) 4 [0, 1, 2, 3] []
 refine Yk (e := [.dead]) (σ' := ⟨(plS st Ls d cov' [] [] j5 j6 j7).sl, st ++ [.dead]⟩) (fl := .ret (.lst (picks kvs Ls 4 [0, 1, 2, 3] []))) ?_ rfl rfl rfl (by simp only [AV.lower]; exact zbi _ _ hpk)
 have hln : ∀ {σ : St}, yn σ [.lst (lsA Ls)] = some (.int 4) := fun {σ} => by
  rw [Qv (by rw [List.length_map, g.hL]; decide), List.length_map, g.hL]; rfl
 have hrg : (PM.bd (zd (yL yn (zd (za 0) (PM.ok []))) (PM.ok [])) fun xs => PM.of fun _ => (rngF xs).map fun r => AV.lst r.items) = (PM.bd (zd (yL yn (zd (za 0) (PM.ok []))) (PM.ok [])) fun xs => PM.of fun _ => (rngF xs).map fun r => AV.lst r.items) := rfl
 have hr4 : ∀ {σ : St} {sl : List (Option AV)}, σ.get 0 = some (.lst (lsA Ls)) -> lrngM (zd (yL yn (zd (za 0) (PM.ok []))) (PM.ok [])) σ = some (.lst [.int 0, .int 1, .int 2, .int 3], σ) := fun {σ} {sl} h0 => by
  refine zt (zI (zad (zI (zD h0) yK) hln) yK) (ZJ rfl)
 unfold Qa
 exists zl, hr4 (sl := []) rfl, h, fz_chs hpk
end
noncomputable def ent (t : Nat -> Int) (p : Nat) : PI := (-(t p), (p : Int))
section
variable {kvs : List (List Nat × Int)} {Ls : List NL} {st : List AE} {d : Nat}
theorem srt_nodup {l : NL} (h : Srt l) : l.Nodup := h.imp fun {a b} h => ltN_ne h
theorem lacks_srt {l c : NL} (h : Srt l) : Srt (zJ l c) := h.sublist List.filter_sublist
theorem pop_hp {r : List PI} {p : Nat} {x0 : PI} (h : Hp (x0 :: r)) (hb : ∀ z ∈ r, -99 < z.1) : ∃ h2, PopOf (-99, (p : Int)) (suL ((-99, (p : Int)) :: r) 0 (-99, (p : Int))) h2 /\ Hp h2 /\ h2.Perm r := by
 obtain ⟨h1, h2⟩ := su_hp x0 (-99, (p : Int)) r h
 generalize suL ((-99, (p : Int)) :: r) 0 (-99, (p : Int)) = q at h1 h2
 cases q with
 | nil => exact absurd h2.length_eq (by simp)
 | cons z tl =>
  have hz : z = (-99, (p : Int)) := by
   have hm : z ∈ (-99, (p : Int)) :: r := h2.subset List.mem_cons_self
   rcases List.mem_cons.mp hm with rfl | hm
   ·rfl
   ·have h3 := hp_top z tl h1 (-99, (p : Int)) (h2.symm.subset List.mem_cons_self)
    have h4 := hb z hm
    rw [lt2_f] at h3
    omega
  subst hz
  have h3 : tl.Perm r := h2.cons_inv
  rcases List.eq_nil_or_concat tl with rfl | ⟨m, y, rfl⟩
  ·exact ⟨[], .inl ⟨rfl, rfl⟩, trivial, h3⟩
  ·have hpm : Hp ((-99, (p : Int)) :: m) := hp_pre _ y (by rw [List.cons_append]; simpa using h1)
   have hk := su_hp _ y m hpm; obtain ⟨h5, h6⟩ := hk
   have hml : m.length <= 900 := by
    match m, hpm with
    | [], _ => exact Nat.zero_le _
    | [_], _ => exact lb
    | [_, _], _ => exact lb
    | [_, _, _], _ => exact lb
    | _ :: _ :: _ :: _ :: _, h => exact h.elim
   refine ⟨_, .inr ⟨m, y, by simp, rfl, hml⟩, h5, h6.trans ((List.perm_append_singleton y m).symm.trans (by simpa using h3))⟩
theorem lz_run (g : zco kvs Ls) (hd : st[d]? = some (.dct kvs)) : ∀ (k s : Nat) (rest : List Nat) (cov1 cov2 : NL) (heap : List PI) (t : Nat -> Int) (ch : List AV) (j5 j6 j7 j8 j9 : Option AV) (f : Nat), rest.length = k -> (rest.filter fun p => decide (t p ≠ gain kvs Ls cov2 p)).length <= s -> k * 10 + s < f -> k <= 4 -> (∀ p ∈ rest, p < 4) -> rest.Pairwise (· < ·) ->
  (∀ x, x ∈ cov1 ↔ x ∈ cov2) -> Srt cov1 -> cov1.length + 8 * k <= 32 -> ch.length + k <= 4 -> Hp heap -> heap.Perm (rest.map (ent t)) -> (∀ p ∈ rest, gain kvs Ls cov2 p <= t p /\ t p <= 32) ->
  ∃ cov' j5' j6' j7' j8' j9', zA ZN yH f (lzS st Ls d heap cov1 ch j5 j6 j7 j8 j9) = some (.next, lzS st Ls d [] cov' (ch ++ picks kvs Ls k rest cov2) j5' j6' j7' j8' j9') := by
 intro k
 induction k with
 | zero =>
  intro s rest cov1 cov2 heap t ch j5 j6 j7 j8 j9 f hk _ hf _ _ _ _ _ _ _ _ hpm _
  obtain ⟨f, rfl⟩ : ∃ m, f = m + 1 := ⟨f - 1, by omega⟩
  have : rest = [] := List.length_eq_zero_iff.mp hk
  subst this
  have : heap = [] := hpm.eq_nil
  subst this
  have hc : ZN (lzS st Ls d [] cov1 ch j5 j6 j7 j8 j9) = some (false, lzS st Ls d [] cov1 ch j5 j6 j7 j8 j9) := e_tru (zD rfl) (q_tru (l := []) (Zm _ _) (by decide))
  exact ⟨cov1, j5, j6, j7, j8, j9, by rw [YH hc, picks, List.append_nil]⟩
 | succ k ihk =>
  intro s
  induction s using Nat.strongRecOn with
  | ind s ihs =>
   intro rest cov1 cov2 heap t ch j5 j6 j7 j8 j9 f hk hcnt hf h4 hr hrs hcv hcs hcl hch hhp hpm hgt
   obtain ⟨f, rfl⟩ : ∃ m, f = m + 1 := ⟨f - 1, by omega⟩
   cases heap with
   | nil => exact absurd hpm.length_eq (by rw [List.length_map, hk]; simp)
   | cons z r =>
    obtain ⟨p, hp, rfl⟩ := List.mem_map.mp (hpm.subset (List.mem_cons_self (a := z)))
    have hrl : r.length <= 900 := by
     have := hpm.length_eq
     rw [List.length_map, List.length_cons, hk] at this; omega
    have h900 : ∀ l ∈ Ls, l.length <= 900 := fun l hl => Nat.le_trans (g.len l hl) (by decide)
    have hra : ∀ {a : Nat}, rest[a]? = some p -> r.Perm ((rest.eraseIdx a).map (ent t)) := fun {a} ha => (hpm.trans ((perm_at ha).map (ent t))).cons_inv
    have hmin : ∀ q ∈ rest, t q < t p ∨ (t q = t p /\ p <= q) := fun q hq => by
     have := hp_top _ _ hhp (ent t q) (hpm.symm.subset (List.mem_map_of_mem hq))
     rw [lt2_f] at this
     simp only [ent] at this
     omega
    obtain ⟨hg1, hg2⟩ := g.mem (hr p hp)
    have hw : zat kvs (zJ (Ls.getD p []) cov1) = gain kvs Ls cov2 p := by rw [lacks_congr hcv]; rfl
    have hbr : zJ (Ls.getD p []) cov1 = brg Ls cov2 p := lacks_congr hcv
    have hbl : (brg Ls cov2 p).length <= 8 := Nat.le_trans (List.length_filter_le _ _) (g.len _ hg2)
    have hc : ZN (lzS st Ls d (ent t p :: r) cov1 ch j5 j6 j7 j8 j9) = some (true, lzS st Ls d (ent t p :: r) cov1 ch j5 j6 j7 j8 j9) := e_tru (zD rfl) (q_tru (l := (ent t p :: r).map itm) (Zm _ _) (by rw [List.length_map, List.length_cons]; omega))
    by_cases hst : gain kvs Ls cov2 p = t p
    ·have hbest := best_top hrs hp hst (fun q hq => (hgt q hq).1) hmin
     have hra' := hra hbest
     obtain ⟨h2, hpo, hhp2, hp2⟩ := pop_hp (p := p) hhp (fun z hz => by
      obtain ⟨q, hq, rfl⟩ := List.mem_map.mp (hra'.subset hz)
      have := (hgt q (List.mem_of_mem_eraseIdx hq)).2
      simp only [ent]; omega)
     have hlen : (cov1 ++ zJ (Ls.getD p []) cov1).length < 64 := by rw [hbr, List.length_append]; omega
     obtain ⟨a5, a6, a7, a8, a9, ht⟩ := lz_eq (st := st) (t := -(t p)) (w := gain kvs Ls cov2 p) (r := r) (ch := ch) (j5 := j5) (j6 := j6) (j7 := j7) (j8 := j8) (j9 := j9) hd hg1 (g.srt _ hg2) hcs (h900 _ hg2) (by omega) (fun x hx => (g.key _ hg2 x hx).imp fun _ h => h.1) hw (by rw [hst, Int.neg_neg]; exact beq_self_eq_true _) (by rw [g.hL]; decide) hrl (by omega) hlen hpo
     have hal := (List.getElem?_eq_some_iff.mp hbest).1
     have hcn : (cov1 ++ zJ (Ls.getD p []) cov1).Nodup := by
      refine List.nodup_append.mpr ⟨srt_nodup hcs, srt_nodup (lacks_srt (g.srt _ hg2)), fun a ha b hb e => ?_⟩
      subst e
      exact of_decide_eq_true (List.mem_filter.mp hb).2 ha
     obtain ⟨cov', b5, b6, b7, b8, b9, h⟩ := ihk 4 (rest.eraseIdx (YO (rest.map (gain kvs Ls cov2)))) (Qj (cov1 ++ zJ (Ls.getD p []) cov1)) (cov2 ++ brg Ls cov2 p) h2 t (ch ++ [chs p (gain kvs Ls cov2 p) (zJ (Ls.getD p []) cov1)]) a5 a6 a7 a8 a9 f (by rw [List.length_eraseIdx_of_lt hal]; omega)
      (Nat.le_trans (List.length_filter_le _ _) (by rw [List.length_eraseIdx_of_lt hal]; omega)) (by omega) (by omega) (fun q hq => hr q (List.mem_of_mem_eraseIdx hq)) (hrs.sublist (List.eraseIdx_sublist _ _))
      (fun x => by rw [(zbf _).mem_iff, List.mem_append, List.mem_append, hbr, hcv]) (sortN_srt hcn) (by rw [(zbf _).length_eq, List.length_append, hbr]; omega) (by rw [List.length_append, List.length_singleton]; omega) hhp2 (hp2.trans hra')
      (fun q hq => by
       have hq' := List.mem_of_mem_eraseIdx hq
       have h1 := hgt q hq'
       have h2 := g.mono (hr q hq') (c := cov2) (c' := cov2 ++ brg Ls cov2 p) (fun x hx => List.mem_append_left _ hx)
       omega)
     refine ⟨cov', b5, b6, b7, b8, b9, ?_⟩
     rw [zbq hc ht, h, picks, hbest, hbr, List.append_assoc]
     rfl
    ·obtain ⟨a5, a6, a7, a8, a9, ht⟩ := lz_ne (st := st) (t := -(t p)) (w := gain kvs Ls cov2 p) (r := r) (ch := ch) (j5 := j5) (j6 := j6) (j7 := j7) (j8 := j8) (j9 := j9) hd hg1 (g.srt _ hg2) hcs (h900 _ hg2) (by omega) (fun x hx => (g.key _ hg2 x hx).imp fun _ h => h.1) hw (by rw [Int.neg_neg]; exact beq_eq_false_iff_ne.mpr hst) (by rw [g.hL]; decide) hrl
     have hk := List.getElem?_of_mem hp; obtain ⟨a, ha⟩ := hk
     have hra' := hra ha
     have hnd : (p :: rest.eraseIdx a).Nodup := (perm_at ha).nodup_iff.mp (hrs.imp fun {a b} h => Nat.ne_of_lt h)
     have hpn := (List.nodup_cons.mp hnd).1
     have hfil : (rest.filter fun q => decide ((if q = p then gain kvs Ls cov2 p else t q) ≠ gain kvs Ls cov2 q)) = (rest.filter fun q => decide (t q ≠ gain kvs Ls cov2 q)).filter fun q => decide (q ≠ p) := by
      rw [List.filter_filter]
      refine List.filter_congr fun q _ => ?_
      by_cases h : q = p
      ·subst h; simp
      ·simp [h]
     have hltc : (rest.filter fun q => decide ((if q = p then gain kvs Ls cov2 p else t q) ≠ gain kvs Ls cov2 q)).length < (rest.filter fun q => decide (t q ≠ gain kvs Ls cov2 q)).length := by
      rw [hfil]
      exact List.length_filter_lt_length_iff_exists.mpr ⟨p, List.mem_filter.mpr ⟨hp, decide_eq_true fun h => hst h.symm⟩, by simp⟩
     obtain ⟨hh1, hh2⟩ := su_hp _ (-(gain kvs Ls cov2 p), (p : Int)) r hhp
     have hmap : (rest.eraseIdx a).map (ent t) = (rest.eraseIdx a).map (ent fun q => if q = p then gain kvs Ls cov2 p else t q) := List.map_congr_left fun q hq => by
      have : q ≠ p := fun h => hpn (h ▸ hq)
      simp only [ent, if_neg this]
     obtain ⟨cov', b5, b6, b7, b8, b9, h⟩ := ihs (s - 1) (by omega) rest cov1 cov2 _ (fun q => if q = p then gain kvs Ls cov2 p else t q) ch a5 a6 a7 a8 a9 f hk (by omega) (by omega) h4 hr hrs hcv hcs hcl hch hh1
      (hh2.trans (by
       refine (hra'.cons _).trans ?_
       rw [hmap]
       have : ((-(gain kvs Ls cov2 p), (p : Int)) : PI) = ent (fun q => if q = p then gain kvs Ls cov2 p else t q) p := by unfold ent; dsimp only; rw [if_pos rfl]
       rw [this, <- List.map_cons]
       exact (perm_at ha).symm.map _))
      (fun q hq => by
       have h1 := hgt q hq
       have h2 := g.gain (hr p hp) cov2
       by_cases h : q = p
       ·subst h; rw [if_pos rfl]; omega
       ·rw [if_neg h]; exact h1)
     exact ⟨cov', b5, b6, b7, b8, b9, by rw [zbq hc ht, h]⟩
theorem lazily_eq (g : zco kvs Ls) (hd : st[d]? = some (.dct kvs)) : XU [.lst (lsA Ls), .loc d] st = some (.lst (picks kvs Ls 4 [0, 1, 2, 3] []), st) := by
 have hg0 : ∀ p, p < 4 -> 0 <= gain kvs Ls [] p /\ gain kvs Ls [] p <= 32 := fun p hp => g.gain hp []
 obtain ⟨l1, x, l2, e1, e2, e3, e4, hh, hpm⟩ := heapify_hp (ent (gain kvs Ls []) 0) (ent (gain kvs Ls []) 1) (ent (gain kvs Ls []) 2) (ent (gain kvs Ls []) 3)
 obtain ⟨cov', j5, j6, j7, j8, j9, h⟩ := lz_run (st := st) g hd 4 4 [0, 1, 2, 3] [] [] l2 (gain kvs Ls []) [] none none none none none 100000 rfl (List.length_filter_le _ _) (by decide) (by decide) (by decide) (by decide) (fun _ => Iff.rfl) List.Pairwise.nil (by decide) (by decide) hh hpm (fun p hp => by
  have : p < 4 := by
   have : ∀ p ∈ [0, 1, 2, 3], p < 4 := by decide
   exact this p hp
  exact ⟨Int.le_refl _, (hg0 p this).2⟩)
 have hpk := picks_lst (kvs := kvs) (Ls := Ls) 4 [0, 1, 2, 3] []
 refine Yk (e := [.lst [], .dead]) (σ' := ⟨(lzS st Ls d [] cov' [] j5 j6 j7 j8 j9).sl, st ++ [.lst [], .dead]⟩) (fl := .ret (.lst (picks kvs Ls 4 [0, 1, 2, 3] []))) ?_ rfl rfl rfl (by simp only [AV.lower]; exact zbi _ _ hpk)
 have hln : ∀ {σ : St}, yn σ [.lst (lsA Ls)] = some (.int 4) := fun {σ} => by
  rw [Qv (by rw [List.length_map, g.hL]; decide), List.length_map, g.hL]; rfl
 have hhd : ∀ (σ : St), σ = ⟨[some (.lst (lsA Ls)), some (.loc d), none, none, none, none, none, none, none, none, none, none], st⟩ -> lcK true (zP [10, 11] (rngM (zd (yL yn (zd (za 0) (PM.ok []))) (PM.ok []))) (.one 11) (PM.ok true) (PM.bd (QN (zd (Zg Qy (ye yX (zd (zk zn (za 0) (za 11)) (zd (za 1) (PM.ok []))))) (zd (za 11) (PM.ok [])))) fun y => PM.ok [y])) σ =
   some (.loc st.length, ⟨[some (.lst (lsA Ls)), some (.loc d), none, none, none, none, none, none, none, none, none, none], st ++ [.lst ([ent (gain kvs Ls []) 0, ent (gain kvs Ls []) 1, ent (gain kvs Ls []) 2, ent (gain kvs Ls []) 3].map itm)]⟩) := by
  rintro _ rfl
  refine e_lcmapT (σ' := ⟨[some (.lst (lsA Ls)), some (.loc d), none, none, none, none, none, none, none, none, none, none], st⟩) (T := Option AV × Option AV) (fun t => ⟨[some (.lst (lsA Ls)), some (.loc d), none, none, none, none, none, none, none, none, t.1, t.2], st⟩) (t0 := (none, none)) (items := [0, 1, 2, 3]) (fun p : Nat => .int (p : Nat)) (fun p => itm (ent (gain kvs Ls []) p)) (zt (zI (zad (zI (zD rfl) yK) hln) yK) (ZJ rfl)) (fun p hp t => ⟨(t.1, some (.int (p : Nat))), (t.1, some (.int (p : Nat))), rfl, ?_⟩) (by decide) (fun _ => rfl)
  have hp4 : p < 4 := by
   have : ∀ p ∈ [0, 1, 2, 3], p < 4 := by decide
   exact this p hp
  obtain ⟨hg1, hg2⟩ := g.mem hp4
  have hwo := zbp (st := st) (l := Ls.getD p []) hd (fun x hx => (g.key _ hg2 x hx).imp fun _ h => h.1) (Nat.le_trans (g.len _ hg2) (by decide))
  have hwe : zat kvs (Ls.getD p []) = gain kvs Ls [] p := by unfold gain brg; rw [zaq]
  rw [hwe] at hwo
  have hit : ∀ {σ : St}, zn σ (.lst (lsA Ls)) (.int (p : Nat)) = some (.lst (sLs (Ls.getD p []))) := fun {_} => yr (by rw [List.length_map, g.hL]; decide) (lsA_get hg1)
  show QN _ _ = some (AV.lst [.int (-(gain kvs Ls [] p)), .int (p : Nat)], _)
  exists zl, hit, hwo
 have hhe := heapify_eq (st := st ++ [.lst ([ent (gain kvs Ls []) 0, ent (gain kvs Ls []) 1, ent (gain kvs Ls []) 2, ent (gain kvs Ls []) 3].map itm)]) (Zm _ _) e1 ⟨x, e2, e3⟩ (by rw [e4]; decide)
 rw [ss_0, List.set_cons_zero] at hhe
 have hm2 : ∀ sl : List (Option AV), (Zc (PM.ok [])) ⟨sl, st ++ [.lst (l2.map itm)]⟩ = some (.loc (st.length + 1), (⟨sl, st ++ [.lst (l2.map itm), .lst []]⟩ : St)) := by
  intro sl
  show some (AV.loc (st ++ [AE.lst (l2.map itm)]).length, (⟨sl, (st ++ [AE.lst (l2.map itm)]) ++ [AE.lst []]⟩ : St)) = _
  rw [List.append_assoc, List.length_append]; rfl
 have hfz : ∀ sl : List (Option AV), fz2 ⟨sl, st ++ [.lst [], .lst (picks kvs Ls 4 [0, 1, 2, 3] [])]⟩ (.loc (st.length + 1)) = some (.lst (picks kvs Ls 4 [0, 1, 2, 3] []), ⟨sl, st ++ [.lst [], .dead]⟩) := by
  intro sl
  have e5 : (st ++ [AE.lst [], AE.lst (picks kvs Ls 4 [0, 1, 2, 3] [])])[st.length + 1]? = some (.lst (picks kvs Ls 4 [0, 1, 2, 3] [])) := Yr _ _ 1
  exact fz2_l e5 (fzL_id _ (fun x hx => by obtain ⟨p, w, f, rfl⟩ := hpk x hx; exact ⟨_, rfl⟩)) e5 rfl (zbd _ _ 1 _)
 unfold QB
 exists hm2 _, hhd _ rfl, hhe, h, hfz _
end
inductive J where
 | any | lit (x : Nat) | bar (x : Nat)
noncomputable def yW (x : Nat) : AV := .tup [.str [x], .str [x]]
noncomputable def jA : J -> AV
 | .any => .tup [.bool true, .lst []]
 | .lit x => .tup [.bool false, .lst [yW x]]
 | .bar x => .tup [.bool true, .lst [yW x]]
noncomputable def wJ : J -> Nat -> Bool
 | .any, _ => true
 | .lit x, c => c == x
 | .bar x, c => c != x
noncomputable def jOk : J -> Prop
 | .any => True
 | .lit x => x < 0x110000
 | .bar x => x < 0x110000
section
variable {st : List AE} {c x : Nat}
theorem ltN_one (a b : Nat) : ltN [a] [b] = decide (a < b) := by
 unfold ltN
 refine decide_eq_decide.mpr ⟨fun h => ?_, fun h => List.Lex.rel h⟩
 cases h with
 | rel h => exact h
 | cons h => cases h
theorem lex_one : ((!ltN [c] [x]) && (!ltN [x] [c])) = (c == x) := by
 rw [ltN_one, ltN_one]
 by_cases h : c = x
 ·subst h; simp
 ·have : (c == x) = false := beq_eq_false_iff_ne.mpr h
  rw [this]
  rcases Nat.lt_or_gt_of_ne h with h | h
  ·simp [h]
  ·simp [h]
theorem ne_nil0 {σ : St} : neD σ (.lst []) (.lst []) = some false := rfl
theorem ne_nil1 {σ : St} (hx : x < 0x110000) : neD σ (.lst [.str [x]]) (.lst []) = some true := by
 have h0 : neF σ (.lst [.str [x]]) (.lst []) = Option.none := rfl
 have h1 : PyData.strOk ⟨[x].toArray⟩ = true := okS_ok fun c hc => by rw [List.mem_singleton.mp hc]; exact hx
 unfold neD
 rw [h0]
 simp only [pyEq, pyA, pyB, pyC, pyD, pyE, pyF, pyG, pyH, Option.bind_some, Option.map_some, SeqAt.shaped, PyData.canLay0, PyData.canLayAll0, h1, PyData.depth, PyData.depthAll, PyData.eqv, PyData.eqvAll]
 rfl
theorem chain_eq {σ : St} (h4 : σ.get 5 = some (.str [x])) (h1 : σ.get 1 = some (.str [c])) (h6 : σ.get 6 = some (.str [x])) : chainM leF leF (za 5) (za 1) (za 6) σ = some (c == x, σ) := by
 rw [<- lex_one]
 refine zt (zD h4) (zt (zD h1) (zt (ZJ (x := !ltN [c] [x]) rfl) ?_))
 cases ltN [c] [x] with
 | true => rfl
 | false => exact zt (zD h6) (ZJ rfl)
theorem within_eq (j : J) (hj : jOk j) : ZF [jA j, .str [c]] st = some (.bool (wJ j c), st) := by
 have hA : ∀ (b : Bool) (x : Nat), x < 0x110000 -> ZF [.tup [.bool b, .lst [yW x]], .str [c]] st = some (.bool (b != (c == x)), st) := fun b x hx => by
  refine yq (σ' := ⟨[some (.tup [.bool b, .lst [yW x]]), some (.str [c]), some (.bool b), some (.lst [yW x]), none, none, none], st⟩) (fl := .ret (.bool (b != (c == x)))) ?_ rfl rfl rfl
  have hc : ∀ (σ : St), σ = ⟨[some (.tup [.bool b, .lst [yW x]]), some (.str [c]), some (.bool b), some (.lst [yW x]), none, none, none], st⟩ -> lcK false (zP [4, 5, 6] (Zh (.many [5, 6]) (za 3)) (.many [5, 6]) (chainM leF leF (za 5) (za 1) (za 6)) (PM.bd (za 5) fun y => PM.ok [y])) σ = some (.lst (([x].filter fun x => c == x).map fun x => .str [x]), ⟨[some (.tup [.bool b, .lst [yW x]]), some (.str [c]), some (.bool b), some (.lst [yW x]), none, none, none], st⟩) := by
   rintro _ rfl
   refine QH (T := Option AV × Option AV × Option AV) (fun t => ⟨[some (.tup [.bool b, .lst [yW x]]), some (.str [c]), some (.bool b), some (.lst [yW x]), t.1, t.2.1, t.2.2], st⟩) (t0 := (none, none, none)) yW _ _ rfl (fun y hy t => ⟨(t.1, some (.str [y]), some (.str [y])), (t.1, some (.str [y]), some (.str [y])), (t.1, some (.str [y]), some (.str [y])), rfl, ?_, fun _ => rfl⟩) (lb) (fun _ => rfl)
   exact chain_eq rfl rfl rfl
  have hn : ∀ {σ : St}, neD σ (.lst (([x].filter fun x => c == x).map fun x => .str [x])) (.lst []) = some (c == x) := fun {σ} => by
   cases h : c == x with
   | true =>
    have : ([x].filter fun x => c == x) = [x] := by simp [h]
    rw [this]; exact ne_nil1 hx
   | false =>
    have : ([x].filter fun x => c == x) = [] := by simp [h]
    rw [this]; exact ne_nil0
  unfold YZ
  exists zl, hc _ rfl, hn
 cases j with
 | any =>
  refine yq (σ' := ⟨[some (jA .any), some (.str [c]), some (.bool true), some (.lst []), none, none, none], st⟩) (fl := .ret (.bool true)) ?_ rfl rfl rfl
  unfold YZ
  rfl
 | lit x => exact (hA false x hj).trans (by simp [wJ])
 | bar x => exact (hA true x hj).trans (by simp [wJ, bne])
noncomputable def Yn {J C : Type} (w : J -> C -> Bool) (js : List J) (run : List C) (p : Nat) : Bool := decide (p + js.length <= run.length) && (js.zip (run.drop p)).all fun y => w y.1 y.2
theorem lay_js : ∀ (l : List J), (∀ j ∈ l, jOk j) -> ∃ ds, AV.pys (l.map jA) = some ds /\ PyData.canLayAll0 ds = true /\ PyData.depthAll ds <= 3 /\ ds.length = l.length
 | [], _ => ⟨[], rfl, rfl, Nat.zero_le _, rfl⟩
 | j :: l, h => by
  obtain ⟨ds, h1, h2, h3, h4⟩ := lay_js l fun y hy => h y (List.mem_cons_of_mem _ hy)
  have hj := h j List.mem_cons_self
  have one : ∃ d, AV.py (jA j) = some d /\ d.canLay0 = true /\ d.depth <= 3 := by
   have ok : ∀ x, x < 0x110000 -> PyData.strOk ⟨[x].toArray⟩ = true := fun x hx => okS_ok fun c hc => by rw [List.mem_singleton.mp hc]; exact hx
   cases j with
   | any => exact ⟨_, rfl, rfl, by decide⟩
   | lit x => exact ⟨_, rfl, by simp only [PyData.canLay0, PyData.canLayAll0, ok x hj, Bool.and_self], lb⟩
   | bar x => exact ⟨_, rfl, by simp only [PyData.canLay0, PyData.canLayAll0, ok x hj, Bool.and_self], lb⟩
  obtain ⟨d, e1, e2, e3⟩ := one
  refine ⟨d :: ds, by simp only [List.map_cons, pyG, pyH, Option.bind_some, Option.map_some, e1, h1], by simp only [PyData.canLayAll0, e2, h2, Bool.and_self], ?_, by simp [h4]⟩
  simp only [PyData.depthAll]; omega
theorem eq_nilJ {σ : St} (l : List J) (h : ∀ j ∈ l, jOk j) : eqD σ (.lst (l.map jA)) (.lst []) = some l.isEmpty := by
 obtain ⟨ds, h1, h2, h3, h4⟩ := lay_js l h
 have h0 : eqF σ (.lst (l.map jA)) (.lst []) = Option.none := rfl
 unfold eqD
 rw [h0]
 have h5 : SeqAt.shaped (.list ds) = true := Bool.and_eq_true_iff.mpr ⟨h2, decide_eq_true (by show PyData.depthAll ds + 1 <= 64; omega)⟩
 have h6 : SeqAt.shaped (.list []) = true := rfl
 simp only [pyEq, pyA, pyB, pyC, pyD, pyE, pyF, h1, Option.map_some, Option.bind_some, pyG, pyH, h5, h6, Bool.and_self, if_true]
 cases l with
 | nil =>
  have : ds = [] := List.length_eq_zero_iff.mp h4
  subst this; rfl
 | cons =>
  cases ds with
  | nil => cases h4
  | cons => rfl
theorem fits_eq {js : List J} {run : List Nat} {p : Nat} (hj : ∀ j ∈ js, jOk j) (hl : js.length <= 900) (hr : run.length <= 900) (hp : p <= 900) (h128 : ∀ c ∈ run, c < 128) : YE [.lst (js.map jA), .str run, .int p] st = some (.bool (Yn wJ js run p), st) := by
 have l1 : (js.map jA).length <= 100000 := by rw [List.length_map]; omega
 have l2 : run.length <= 100000 := by omega
 have hln : ∀ {σ : St}, yn σ [.lst (js.map jA)] = some (.int js.length) := fun {_} => by rw [Qv l1, List.length_map]
 refine yq (σ' := ⟨[some (.lst (js.map jA)), some (.str run), some (.int p), none, none, none], st⟩) (fl := .ret (.bool (Yn wJ js run p))) ?_ rfl rfl rfl
 by_cases hfit : p + js.length <= run.length
 ·have hc : ∀ (σ : St), σ = ⟨[some (.lst (js.map jA)), some (.str run), some (.int p), none, none, none], st⟩ -> lcK false (zP [3, 4, 5] (zipM (zd (za 0) (zd (ZR (za 1) (Zb (za 2)) (PM.ok Option.none)) (PM.ok [])))) (.many [4, 5]) (notM (YJ (ye ZF (zd (za 4) (zd (za 5) (PM.ok [])))))) (PM.bd (za 4) fun y => PM.ok [y])) σ = some (.lst (((js.zip (run.drop p)).filter fun y => !wJ y.1 y.2).map fun y => jA y.1), ⟨[some (.lst (js.map jA)), some (.str run), some (.int p), none, none, none], st⟩) := by
   rintro _ rfl
   refine QH (T := Option AV × Option AV × Option AV) (fun t => ⟨[some (.lst (js.map jA)), some (.str run), some (.int p), t.1, t.2.1, t.2.2], st⟩) (t0 := (none, none, none)) (fun y : J × Nat => .tup [jA y.1, .str [y.2]]) (fun y => jA y.1) (fun y => !wJ y.1 y.2) ?_ (fun y hy t => ⟨(t.1, some (jA y.1), some (.str [y.2])), (t.1, some (jA y.1), some (.str [y.2])), (t.1, some (jA y.1), some (.str [y.2])), rfl, ?_, fun _ => rfl⟩) (by rw [List.length_zip, List.length_drop]; omega) (fun _ => rfl)
   ·have hcut : ∀ {σ : St}, Zy σ (some (p : Int)) none (.str run) = some (.str (run.drop p)) := fun {σ} => by
     rw [q_cutS l2]
     simp only [YB, Option.elim, clip_nat, drop_min]
     rw [List.take_of_length_le (drop_le run p)]
    refine zt (zI (zD rfl) (zI (e_cut (zD rfl) (zcg (zD rfl)) zl hcut) yK)) (ZJ ?_)
    show (if (run.drop p).all (· < 128) = true /\ (js.map jA).length <= 100000 then _ else _) = _
    rw [if_pos ⟨List.all_eq_true.mpr fun c hc => decide_eq_true (h128 c (List.mem_of_mem_drop hc)), l1⟩, List.zip_map_left, List.map_map]
    rfl
   ·have hjy : jOk y.1 := hj _ (List.of_mem_zip hy).1
    have hw := within_eq (st := st) (c := y.2) y.1 hjy
    exists zl, hw
  have hgt : ∀ {σ : St}, gtF σ (.int ((p : Int) + js.length)) (.int run.length) = some false := fun {_} => q_ngtI (by omega)
  have heq : ∀ {σ : St}, eqD σ (.lst (((js.zip (run.drop p)).filter fun y => !wJ y.1 y.2).map fun y => jA y.1)) (.lst []) = some (Yn wJ js run p) := fun {σ} => by
   have e : (((js.zip (run.drop p)).filter fun y => !wJ y.1 y.2).map fun y => jA y.1) = (((js.zip (run.drop p)).filter fun y => !wJ y.1 y.2).map fun y => y.1).map jA := by rw [List.map_map]; rfl
   rw [e, eq_nilJ _ fun j hj' => by
    obtain ⟨y, hy, rfl⟩ := List.mem_map.mp hj'
    exact hj _ (List.of_mem_zip (List.mem_filter.mp hy).1).1]
   unfold Yn
   rw [decide_eq_true hfit, Bool.true_and]
   congr 1
   rw [List.isEmpty_map, Bool.eq_iff_iff, List.isEmpty_iff, List.filter_eq_nil_iff, List.all_eq_true]
   simp
  unfold QC
  exists zl, hc _ rfl, hln, YM l2, hgt, heq
 ·have hgt : ∀ {σ : St}, gtF σ (.int ((p : Int) + js.length)) (.int run.length) = some true := fun {_} => q_gtI (by omega)
  have e : Yn wJ js run p = false := by unfold Yn; rw [decide_eq_false hfit, Bool.false_and]
  rw [e]
  unfold QC
  exists zl, hln, YM l2, hgt
end
noncomputable def skipG {J C : Type} (w : J -> C -> Bool) (m : List J) (run : List C) : Nat -> Nat -> Nat
 | 0, p => p
 | k + 1, p => if (decide (p <= run.length) && !Yn w m run p) = true then skipG w m run k (p + 1) else p
noncomputable def ZE {J C : Type} (w : J -> C -> Bool) (run : List C) (mid : List (List J)) (p : Nat) : Nat := mid.foldl (fun p m => skipG w m run (run.length + 2) p + m.length) p
noncomputable def yA {J C : Type} (w : J -> C -> Bool) (Ps : List (List J)) (run : List C) : Bool := match Ps with
 | [] => false
 | [a] => Yn w a run 0 && decide (a.length = run.length)
 | a :: b :: r => Yn w a run 0 && (decide (ZE w run (b :: r).dropLast a.length + ((b :: r).getLast nofun).length <= run.length) && Yn w ((b :: r).getLast nofun) run (run.length - ((b :: r).getLast nofun).length))
noncomputable abbrev jsA (js : List J) : AV := .lst (js.map jA)
noncomputable abbrev psA (Ps : List (List J)) : List AV := Ps.map jsA
section
variable {st : List AE} {run : List Nat} {Ps : List (List J)}
theorem skipG_le {m : List J} : ∀ (k p : Nat), skipG wJ m run k p <= max p (run.length + 1)
 | 0, p => Nat.le_max_left _ _
 | k + 1, p => by
  unfold skipG
  split
  ·rename_i h
   have h1 := skipG_le (m := m) k (p + 1)
   have h2 : p <= run.length := by
    have := (Bool.and_eq_true_iff.mp h).1
    exact of_decide_eq_true this
   exact Nat.le_trans h1 (Nat.le_trans (Nat.max_le.mpr ⟨Nat.succ_le_succ h2, Nat.le_refl _⟩) (Nat.le_max_right _ _))
  ·exact Nat.le_max_left _ _
noncomputable def tkS (st : List AE) (Ps : List (List J)) (run : List Nat) (p : Nat) (j3 j4 : Option AV) : St := ⟨[some (.lst (psA Ps)), some (.str run), some (.int p), j3, j4], st⟩
theorem sk_run {m : List J} {j4 : Option AV} (hm : ∀ j ∈ m, jOk j) (hl : m.length <= 100) (hr : run.length <= 100) (h128 : ∀ c ∈ run, c < 128) : ∀ (k p f : Nat), k < f -> run.length + 2 <= k + p -> p <= 300 ->
  zA yj Yo f (tkS st Ps run p (some (jsA m)) j4) = some (.next, tkS st Ps run (skipG wJ m run k p) (some (jsA m)) j4) := by
 intro k
 induction k with
 | zero =>
  intro p f hf hk hp
  obtain ⟨f, rfl⟩ : ∃ g, f = g + 1 := ⟨f - 1, by omega⟩
  refine YH ?_
  have hle : ∀ {σ : St}, leF σ (.int p) (.int run.length) = some false := fun {_} => congrArg some (decide_eq_false (by omega))
  unfold yj
  exists zl, YM (by omega), hle
 | succ k ih =>
  intro p f hf hk hp
  obtain ⟨f, rfl⟩ : ∃ g, f = g + 1 := ⟨f - 1, by omega⟩
  have hft := fits_eq (st := st) (js := m) (run := run) (p := p) hm (by omega) (by omega) (by omega) h128
  have hb : Yo (tkS st Ps run p (some (jsA m)) j4) = some (.next, tkS st Ps run (p + 1) (some (jsA m)) j4) := by
   unfold Yo
   exists zl
  by_cases hle0 : p <= run.length
  ·have hle : ∀ {σ : St}, leF σ (.int p) (.int run.length) = some true := fun {_} => congrArg some (decide_eq_true (by omega))
   cases hfx : Yn wJ m run p with
   | true =>
    rw [hfx] at hft
    have hc : yj (tkS st Ps run p (some (jsA m)) j4) = some (false, tkS st Ps run p (some (jsA m)) j4) := by
     unfold yj
     exists zl, YM (by omega), hle, hft
    rw [YH hc, skipG, hfx, if_neg (by simp)]
   | false =>
    rw [hfx] at hft
    have hc : yj (tkS st Ps run p (some (jsA m)) j4) = some (true, tkS st Ps run p (some (jsA m)) j4) := by
     unfold yj
     exists zl, YM (by omega), hle, hft
    rw [zbq hc hb, skipG, hfx, if_pos (by simp [hle0])]
    exact ih (p + 1) f (by omega) (by omega) (by omega)
  ·have hle : ∀ {σ : St}, leF σ (.int p) (.int run.length) = some false := fun {_} => congrArg some (decide_eq_false (by omega))
   have hc : yj (tkS st Ps run p (some (jsA m)) j4) = some (false, tkS st Ps run p (some (jsA m)) j4) := by
    unfold yj
    exists zl, YM (by omega), hle
   rw [YH hc, skipG, if_neg (by simp [hle0])]
theorem max_step {S p n l : Nat} (h1 : S <= max p n) (h3 : l <= 3) : max (S + l) n <= max p n + 3 := Nat.max_le.mpr ⟨Nat.add_le_add h1 h3, Nat.le_trans (Nat.le_max_right _ _) (Nat.le_add_right _ _)⟩
theorem add3 (a b : Nat) : a + 3 + b = a + (b + 3) := (Nat.add_assoc _ _ _).trans (congrArg _ (Nat.add_comm _ _))
theorem tk_for (hr : run.length <= 100) (h128 : ∀ c ∈ run, c < 128) : ∀ (mid : List (List J)) (p : Nat) (j3 j4 : Option AV), (∀ m ∈ mid, (∀ j ∈ m, jOk j) /\ m.length <= 3) -> max p (run.length + 1) + 3 * mid.length <= 250 ->
  ∃ j3', forM (.one 3) Zs (mid.map jsA) (tkS st Ps run p j3 j4) = some (.next, tkS st Ps run (ZE wJ run mid p) j3' j4)
 | [], p, j3, j4, _, _ => ⟨j3, rfl⟩
 | m :: mid, p, j3, j4, h, hp => by
  obtain ⟨hm, hl⟩ := h m List.mem_cons_self
  rw [List.length_cons] at hp
  have h1 := skipG_le (m := m) (run := run) (run.length + 2) p
  have hp1 : p <= 250 := Nat.le_trans (Nat.le_max_left _ _) (Nat.le_trans (Nat.le_add_right _ _) hp)
  have hw := sk_run (st := st) (Ps := Ps) (j4 := j4) hm (Nat.le_trans hl (by decide)) hr h128 (run.length + 2) p 100000 (by clear hp h1; omega) (by clear hp h1; omega) (by clear hp h1; omega)
  have hb : Zs (tkS st Ps run p (some (jsA m)) j4) = some (.next, tkS st Ps run (skipG wJ m run (run.length + 2) p + m.length) (some (jsA m)) j4) := by
   have hln : ∀ {σ : St}, yn σ [.lst (m.map jA)] = some (.int m.length) := fun {_} => by rw [Qv (by rw [List.length_map]; omega), List.length_map]
   unfold Zs
   exists zl, hw, hln
  obtain ⟨j3', h2⟩ := tk_for hr h128 mid (skipG wJ m run (run.length + 2) p + m.length) (some (jsA m)) j4 (fun m hm => h m (List.mem_cons_of_mem _ hm)) (Nat.le_trans (Nat.add_le_add_right (max_step h1 hl) _) (Nat.le_trans (Nat.le_of_eq (add3 _ _)) hp))
  refine ⟨j3', ?_⟩
  rw [List.map_cons]
  exact zt hb h2
theorem placeG_le : ∀ (mid : List (List J)) (p : Nat), (∀ m ∈ mid, m.length <= 3) -> ZE wJ run mid p <= max p (run.length + 1) + 3 * mid.length
 | [], p, _ => Nat.le_max_left _ _
 | m :: mid, p, h => by
  have h1 := skipG_le (m := m) (run := run) (run.length + 2) p
  have h2 := placeG_le mid (skipG wJ m run (run.length + 2) p + m.length) fun m hm => h m (List.mem_cons_of_mem _ hm)
  have h3 := h m List.mem_cons_self
  exact Nat.le_trans h2 (Nat.le_trans (Nat.add_le_add_right (max_step h1 h3) _) (Nat.le_of_eq (add3 _ _)))
theorem q_neg1 {σ : St} {l : List AV} {x : AV} (hl : l.length <= 100000) (h : l.getLast? = some x) : zn σ (.lst l) (.int (-1)) = some x := by
 refine (if_pos hl).trans ?_
 unfold nthF
 rw [if_neg (by decide)]
 cases l with
 | nil => cases h
 | cons a r =>
  rw [if_pos (by rw [List.length_cons]; omega), <- h, List.getLast?_eq_getElem?]
  congr 1
  rw [List.length_cons]; omega
theorem takes_eq (hP : ∀ m ∈ Ps, (∀ j ∈ m, jOk j) /\ m.length <= 3) (hn : Ps.length <= 40) (h0 : Ps ≠ []) (hr : run.length <= 100) (h128 : ∀ c ∈ run, c < 128) : YS [.lst (psA Ps), .str run] st = some (.bool (yA wJ Ps run), st) := by
 have i0 : F_law_takes.init [.lst (psA Ps), .str run] = [some (.lst (psA Ps)), some (.str run), none, none, none] := rfl
 have l0 : (psA Ps).length <= 100000 := by rw [List.length_map]; omega
 cases Ps with
 | nil => exact absurd rfl h0
 | cons a Ps =>
  obtain ⟨ha, hal⟩ := hP a List.mem_cons_self
  have hfa := fits_eq (st := st) (js := a) (run := run) (p := 0) ha (by omega) (by omega) (by omega) h128
  have hi0 : ∀ {σ : St}, zn σ (.lst (psA (a :: Ps))) (.int 0) = some (jsA a) := fun {_} => yr (i := 0) l0 rfl
  have hla : ∀ {σ : St}, yn σ [jsA a] = some (.int a.length) := fun {_} => by rw [Qv (by rw [List.length_map]; omega), List.length_map]
  have hlp : ∀ {σ : St}, yn σ [.lst (psA (a :: Ps))] = some (.int (Ps.length + 1 : Nat)) := fun {_} => by rw [Qv l0, List.length_map, List.length_cons]
  have hlr : ∀ {σ : St}, yn σ [.str run] = some (.int run.length) := fun {_} => YM (by omega)
  cases hfx : Yn wJ a run 0 with
  | false =>
   rw [hfx] at hfa
   have e : yA wJ (a :: Ps) run = false := by cases Ps <;> simp only [yA, hfx, Bool.false_and]
   rw [e]
   refine yq (σ' := ⟨[some (.lst (psA (a :: Ps))), some (.str run), none, none, none], st⟩) (fl := .ret (.bool false)) ?_ rfl rfl rfl
   unfold ZU
   exists zl, hi0, hfa
  | true =>
   rw [hfx] at hfa
   cases Ps with
   | nil =>
    refine yq (σ' := ⟨[some (.lst (psA [a])), some (.str run), some (.int a.length), none, none], st⟩) (fl := .ret (.bool (yA wJ [a] run))) ?_ rfl rfl rfl
    have heq : ∀ {σ : St}, eqD σ (.int (([] : List (List J)).length + 1 : Nat)) (.int 1) = some true := fun {_} => rfl
    have heq2 : ∀ {σ : St}, eqD σ (.int a.length) (.int run.length) = some (yA wJ [a] run) := fun {_} => by
     simp only [yA, hfx, Bool.true_and]
     refine congrArg some ?_
     rw [Bool.eq_iff_iff, beq_iff_eq, decide_eq_true_iff]; omega
    unfold ZU
    exists zl, hi0, hfa, hla, hlp, hlr, heq, heq2
   | cons b r =>
    have hmid : ∀ m ∈ (b :: r).dropLast, (∀ j ∈ m, jOk j) /\ m.length <= 3 := fun m hm => hP m (List.mem_cons_of_mem _ ((List.dropLast_sublist (b :: r)).subset hm))
    have hlast := hP _ (List.mem_cons_of_mem a (List.getLast_mem (l := b :: r) nofun))
    have hml : (b :: r).dropLast.length = r.length := by rw [List.length_dropLast]; rfl
    rw [List.length_cons, List.length_cons] at hn
    have hpl := placeG_le (run := run) (b :: r).dropLast a.length fun m hm => (hmid m hm).2
    rw [hml] at hpl
    have hlst : (psA (a :: b :: r)).getLast? = some (jsA ((b :: r).getLast nofun)) := by
     rw [psA, List.getLast?_map]; simp [List.getLast?_cons_cons, List.getLast?_eq_some_getLast]
    have hin : ∀ {σ : St}, zn σ (.lst (psA (a :: b :: r))) (.int (-1)) = some (jsA ((b :: r).getLast nofun)) := fun {_} => q_neg1 l0 hlst
    have hll : ∀ {σ : St}, yn σ [jsA ((b :: r).getLast nofun)] = some (.int ((b :: r).getLast nofun).length) := fun {_} => by rw [Qv (by rw [List.length_map]; omega), List.length_map]
    have heq : ∀ {σ : St}, eqD σ (.int ((b :: r).length + 1 : Nat)) (.int 1) = some false := fun {_} => congrArg some (beq_eq_false_iff_ne.mpr (by rw [List.length_cons]; omega))
    have hcut : ∀ {σ : St}, Zy σ (some 1) (some (-1)) (.lst (psA (a :: b :: r))) = some (.lst ((b :: r).dropLast.map jsA)) := fun {σ} => by
     rw [q_cutL l0]
     have c1 : clipAt (psA (a :: b :: r)).length 1 = 1 := (clip_nat _ 1).trans (Nat.min_eq_left (by rw [List.length_map]; exact Nat.succ_le_succ (Nat.zero_le _)))
     have c2 : clipAt (psA (a :: b :: r)).length (-1) = r.length + 1 := clip_neg (k := 1) (by rw [List.length_map, List.length_cons, List.length_cons]) (by decide)
     simp only [YB, Option.elim, c1, c2]
     show some (AV.lst (((b :: r).map jsA).take (r.length + 1 - 1))) = _
     rw [Nat.add_sub_cancel, <- List.map_take, List.dropLast_eq_take, List.length_cons, Nat.add_sub_cancel]
    obtain ⟨j3', hfor⟩ := tk_for (st := st) (Ps := a :: b :: r) hr h128 (b :: r).dropLast a.length none none hmid (by rw [hml]; omega)
    refine yq (σ' := ⟨[some (.lst (psA (a :: b :: r))), some (.str run), some (.int (ZE wJ run (b :: r).dropLast a.length)), j3', some (.int ((run.length : Int) - ((b :: r).getLast nofun).length))], st⟩) (fl := .ret (.bool (yA wJ (a :: b :: r) run))) ?_ rfl rfl rfl
    have hfs : ∀ (σ : St), σ = tkS st (a :: b :: r) run a.length none none -> forS (Zh (.one 3) (ZR (za 0) (Zb (PM.ok (.int 1))) (Zb (Zg Qy (PM.ok (.int 1)))))) (.one 3) Zs σ = some (.next, tkS st (a :: b :: r) run (ZE wJ run (b :: r).dropLast a.length) j3' none) := by
     rintro _ rfl
     exact zt (Ym (e_cut (zD rfl) (zcg zl) (zcg (e_op1 zl rfl)) hcut)) hfor
    by_cases hge : ZE wJ run (b :: r).dropLast a.length + ((b :: r).getLast nofun).length <= run.length
    ·have e1 : (run.length : Int) - ((b :: r).getLast nofun).length = ((run.length - ((b :: r).getLast nofun).length : Nat) : Int) := by omega
     have hgt : ∀ {σ : St}, geF σ (.int ((run.length - ((b :: r).getLast nofun).length : Nat) : Int)) (.int (ZE wJ run (b :: r).dropLast a.length)) = some true := fun {_} => q_geI (by omega)
     have hfl := fits_eq (st := st) (js := (b :: r).getLast nofun) (run := run) (p := run.length - ((b :: r).getLast nofun).length) hlast.1 (by omega) (by omega) (by omega) h128
     have e2 : yA wJ (a :: b :: r) run = Yn wJ ((b :: r).getLast nofun) run (run.length - ((b :: r).getLast nofun).length) := by
      simp only [yA, hfx, Bool.true_and, decide_eq_true hge]
     rw [e1, e2]
     unfold ZU
     exists zl, hi0, hfa, hla, hlp, hlr, heq, hfs _ rfl, hin, hll, q_subI e1, hgt, hfl
    ·have hgt : ∀ {σ : St}, geF σ (.int ((run.length : Int) - ((b :: r).getLast nofun).length)) (.int (ZE wJ run (b :: r).dropLast a.length)) = some false := fun {_} => q_ngeI (by omega)
     have e2 : yA wJ (a :: b :: r) run = false := by
      simp only [yA, hfx, Bool.true_and, decide_eq_false hge, Bool.false_and]
     rw [e2]
     unfold ZU
     exists zl, hi0, hfa, hla, hlp, hlr, heq, hfs _ rfl, hin, hll, q_subI rfl, hgt
end
noncomputable def hits {C : Type} (run : List C) (f : C -> Bool) (p : Nat) : Bool := match run[p]? with | some c => f c | none => false
noncomputable def ZG {C : Type} (run : List C) (it : Option (C -> Bool)) (ps : List Nat) : List Nat := match it with
 | none => (match ps with | [] => [] | p :: _ => (List.range (run.length + 1 - p)).map fun i => p + i)
 | some f => (ps.filter (hits run f)).map (· + 1)
noncomputable def Yt {C : Type} (its : List (Option (C -> Bool))) (run : List C) : Bool := decide (run.length ∈ its.foldl (fun ps it => ZG run it ps) [0])
noncomputable def itA (y : List Nat × List Nat) : AV := .tup [.str y.1, .str y.2]
noncomputable def itG (y : List Nat × List Nat) : Option (Nat -> Bool) := if y.1 = [42] then none else some fun c => decide (c ∈ y.2)
section
variable {st : List AE} {run : List Nat} {its : List (List Nat × List Nat)}
theorem lay_nats : ∀ (l : List Nat), AV.pys (rstA l) = some (l.map fun p => PyData.int (p : Nat)) /\ PyData.canLayAll0 (l.map fun p => PyData.int (p : Nat)) = true /\ PyData.depthAll (l.map fun p => PyData.int (p : Nat)) = 0
 | [] => ⟨rfl, rfl, rfl⟩
 | p :: l => by
  obtain ⟨h1, h2, h3⟩ := lay_nats l
  refine ⟨?_, h2, ?_⟩
  ·simp only [rstA] at h1
   simp only [rstA, List.map_cons, pyG, pyH, Option.bind_some, Option.map_some, pyA, pyB, pyC, pyD, pyE, pyF, h1]
  ·simp only [List.map_cons, PyData.depthAll, PyData.depth, h3]; rfl
theorem any_nats (x : Nat) : ∀ (l : List Nat), ((l.map fun p => PyData.int (p : Nat)).any fun y => PyData.eqv y (.int (x : Nat))) = decide (x ∈ l)
 | [] => rfl
 | y :: l => by
  rw [List.map_cons, List.any_cons, any_nats x l]
  show (((y : Int) == (x : Int)) || _) = _
  by_cases h : y = x
  ·subst h; simp
  ·have h1 : ((y : Int) == (x : Int)) = false := beq_eq_false_iff_ne.mpr (by omega)
   rw [h1, Bool.false_or]
   simp [Ne.symm h]
theorem inD_nats {σ : St} (x : Nat) (l : List Nat) : inD σ (.int (x : Nat)) (.lst (rstA l)) = some (decide (x ∈ l)) := by
 obtain ⟨h1, h2, h3⟩ := lay_nats l
 show inP _ _ = _
 unfold inP
 simp only [pyA, pyB, pyC, pyD, pyE, pyF, h1, Option.map_some, Option.bind_some, SeqAt.shaped, PyData.canLay0, PyData.depth, h2, h3]
 exact (if_pos rfl).trans (congrArg some (any_nats x l))
noncomputable def suS (st : List AE) (its : List (List Nat × List Nat)) (run : List Nat) (ps : List Nat) (j3 j4 : Option AV) : St := ⟨[some (.lst (its.map itA)), some (.str run), some (.lst (rstA ps)), j3, j4, none, none], st⟩
theorem range_eq (p n : Nat) (hp : p <= 1000) (hn : n <= 1000) : (rngF [.int (p : Nat), .int ((n : Nat) + 1)]).map Rng.items = some (rstA ((List.range (n + 1 - p)).map fun i => p + i)) := by
 show Option.map _ (if _ then _ else _) = _
 rw [if_pos (by omega)]
 simp only [Option.map_some, Rng.items]
 have : ((n : Int) + 1 - (p : Int)).toNat = n + 1 - p := by omega
 rw [this, rstA, List.map_map]
 congr 1
 refine List.map_congr_left fun i _ => ?_
 show AV.int _ = AV.int _
 congr 1
 simp
theorem su_turn (y : List Nat × List Nat) (ps : List Nat) (j3 j4 : Option AV) (hr : run.length <= 100) (hps : ps.length <= 900) (hpp : ∀ p ∈ ps, p <= 1000) :
  ∃ j3' j4', (match asgM (.many [3, 4]) (itA y) (suS st its run ps j3 j4) with | none => none | some σ => ym σ) = some (.next, suS st its run (ZG run (itG y) ps) j3' j4') := by
 refine ⟨some (.str y.1), some (.str y.2), ?_⟩
 show ym (suS st its run ps (some (.str y.1)) (some (.str y.2))) = _
 have hlr : ∀ {σ : St}, yn σ [.str run] = some (.int run.length) := fun {_} => YM (by omega)
 have hlp : (rstA ps).length <= 100000 := by rw [List.length_map]; omega
 by_cases hs : y.1 = [42]
 ·have heq : ∀ {σ : St}, eqD σ (.str y.1) (.str [42]) = some true := fun {_} => by rw [hs]; rfl
  have e : itG y = none := if_pos hs
  rw [e]
  cases ps with
  | nil =>
   have htr : ∀ {σ : St}, YW σ (.lst (rstA [])) = some false := fun {_} => rfl
   unfold ym
   exists zl, heq, htr
  | cons p r =>
   have htr : ∀ {σ : St}, YW σ (.lst (rstA (p :: r))) = some true := fun {_} => q_truL hlp
   have hit : ∀ {σ : St}, zn σ (.lst (rstA (p :: r))) (.int 0) = some (.int (p : Nat)) := fun {_} => yr (i := 0) hlp rfl
   have hrg := range_eq p run.length (hpp p List.mem_cons_self) (by omega)
   have hrm : ∀ (σ : St), σ = suS st its run (p :: r) (some (.str y.1)) (some (.str y.2)) -> lrngM (zd (zk zn (za 2) (PM.ok (.int 0))) (zd (zk zQ (yL yn (zd (za 1) (PM.ok []))) (PM.ok (.int 1))) (PM.ok []))) σ = some (.lst (rstA (ZG run none (p :: r))), σ) := by
    rintro _ rfl
    refine zt (zI (Zj (zD rfl) zl hit) (zI (Zj (zad (zI (zD rfl) yK) hlr) zl rfl) yK)) (ZJ ?_)
    obtain ⟨x, h1, h2⟩ := Option.map_eq_some_iff.mp hrg
    show (rngF [.int (p : Nat), .int ((run.length : Nat) + 1)]).map (fun r => AV.lst r.items) = _
    rw [h1]
    exact congrArg some (congrArg AV.lst h2)
   unfold ym
   exists hrm _ rfl, heq, htr
 ·have heq : ∀ {σ : St}, eqD σ (.str y.1) (.str [42]) = some false := fun {_} => congrArg some (beq_eq_false_iff_ne.mpr hs)
  have e : itG y = some fun c => decide (c ∈ y.2) := if_neg hs
  rw [e]
  have hc : ∀ (σ : St), σ = suS st its run ps (some (.str y.1)) (some (.str y.2)) -> lcK false (zP [5, 6] (Zh (.one 6) (za 2)) (.one 6) (YG (zO ltD (za 6) (yL yn (zd (za 1) (PM.ok [])))) (YG (zO inD (zk zn (za 1) (za 6)) (za 4)) (PM.ok true))) (PM.bd (zk zQ (za 6) (PM.ok (.int 1))) fun y => PM.ok [y])) σ = some (.lst (rstA (ZG run (some fun c => decide (c ∈ y.2)) ps)), σ) := by
   rintro _ rfl
   have e2 : rstA (ZG run (some fun c => decide (c ∈ y.2)) ps) = (ps.filter (hits run fun c => decide (c ∈ y.2))).map fun p => .int ((p : Nat) + 1) := by
    simp only [ZG, rstA, List.map_map]
    refine List.map_congr_left fun p _ => ?_
    show AV.int _ = AV.int _
    exact congrArg AV.int (by simp)
   rw [e2]
   refine QH (T := Option AV × Option AV) (fun t => ⟨[some (.lst (its.map itA)), some (.str run), some (.lst (rstA ps)), some (.str y.1), some (.str y.2), t.1, t.2], st⟩) (t0 := (none, none)) (fun p : Nat => .int (p : Nat)) (fun p : Nat => .int ((p : Nat) + 1)) _ (Ym rfl) (fun p hp t => ⟨(t.1, some (.int (p : Nat))), (t.1, some (.int (p : Nat))), (t.1, some (.int (p : Nat))), rfl, ?_, fun _ => rfl⟩) (by omega) (fun _ => rfl)
   cases hg : run[p]? with
   | none =>
    rw [show hits run (fun c => decide (c ∈ y.2)) p = false by unfold hits; rw [hg]]
    have hlt : ∀ {σ : St}, ltD σ (.int (p : Nat)) (.int run.length) = some false := fun {_} => Xs (by have := List.getElem?_eq_none_iff.mp hg; omega)
    exists zl, hlr, hlt
   | some c =>
    rw [show hits run (fun c => decide (c ∈ y.2)) p = decide (c ∈ y.2) by unfold hits; rw [hg]]
    have hlt : ∀ {σ : St}, ltD σ (.int (p : Nat)) (.int run.length) = some true := fun {_} => Yl (by have := (List.getElem?_eq_some_iff.mp hg).1; omega)
    have hit : ∀ {σ : St}, zn σ (.str run) (.int (p : Nat)) = some (.str [c]) := fun {_} => XC (by omega) hg
    have hin : ∀ {σ : St} {b : Bool}, decide (c ∈ y.2) = b -> inD σ (.str [c]) (.str y.2) = some b := fun {σ b} h => congrArg some h
    show YG _ _ _ = some (decide (c ∈ y.2), _)
    cases hb : decide (c ∈ y.2) with
    | true =>
     exists zl, hlr, hlt, hit, hin hb
    | false =>
     exists zl, hlr, hlt, hit, hin hb
  unfold ym
  exists zl, heq, hc _ rfl
theorem stepG_bd {it : Option (Nat -> Bool)} {ps : List Nat} {n : Nat} (hr : run.length <= 100) (hn : n <= 300) (h : ps.length <= 200 /\ ∀ p ∈ ps, p <= n + 101) : (ZG run it ps).length <= 200 /\ ∀ p ∈ ZG run it ps, p <= n + 1 + 101 := by
 cases it with
 | none =>
  cases ps with
  | nil => exact ⟨Nat.zero_le _, fun p hp => by cases hp⟩
  | cons q r =>
   simp only [ZG]
   refine ⟨by rw [List.length_map, List.length_range]; omega, fun p hp => ?_⟩
   obtain ⟨i, hi, rfl⟩ := List.mem_map.mp hp
   have := List.mem_range.mp hi
   omega
 | some f =>
  simp only [ZG]
  refine ⟨?_, fun p hp => ?_⟩
  ·rw [List.length_map]; exact Nat.le_trans (List.length_filter_le _ _) h.1
  ·obtain ⟨q, hq, rfl⟩ := List.mem_map.mp hp
   have := h.2 q (List.mem_filter.mp hq).1
   omega
theorem su_for (hr : run.length <= 100) : ∀ (l : List (List Nat × List Nat)) (n : Nat) (ps : List Nat) (j3 j4 : Option AV), n + l.length <= 200 -> (ps.length <= 200 /\ ∀ p ∈ ps, p <= n + 101) ->
  ∃ j3' j4', forM (.many [3, 4]) ym (l.map itA) (suS st its run ps j3 j4) = some (.next, suS st its run ((l.map itG).foldl (fun ps it => ZG run it ps) ps) j3' j4')
 | [], n, ps, j3, j4, _, _ => ⟨j3, j4, rfl⟩
 | y :: l, n, ps, j3, j4, hn, h => by
  rw [List.length_cons] at hn
  obtain ⟨a3, a4, h1⟩ := su_turn (st := st) (its := its) y ps j3 j4 hr (by omega) (fun p hp => by have := h.2 p hp; omega)
  obtain ⟨b3, b4, h2⟩ := su_for hr l (n + 1) (ZG run (itG y) ps) a3 a4 (by omega) (stepG_bd hr (by omega) h)
  exact ⟨b3, b4, zt h1 h2⟩
theorem suits_eq (hr : run.length <= 100) (hl : its.length <= 100) : YT [.lst (its.map itA), .str run] st = some (.bool (Yt (its.map itG) run), st) := by
 obtain ⟨j3, j4, hf⟩ := su_for (st := st) (its := its) hr its 0 [0] none none (by omega) ⟨by decide, fun p hp => by rw [List.mem_singleton.mp hp]; omega⟩
 refine yq (σ' := suS st its run ((its.map itG).foldl (fun ps it => ZG run it ps) [0]) j3 j4) (fl := .ret (.bool (Yt (its.map itG) run))) ?_ rfl rfl rfl
 have hlr : ∀ {σ : St}, yn σ [.str run] = some (.int run.length) := fun {_} => YM (by omega)
 have hin : ∀ {σ : St}, inD σ (.int run.length) (.lst (rstA ((its.map itG).foldl (fun ps it => ZG run it ps) [0]))) = some (Yt (its.map itG) run) := fun {_} => inD_nats _ _
 have hfs : ∀ (σ : St), σ = suS st its run [0] none none -> forS (Zh (.many [3, 4]) (za 0)) (.many [3, 4]) ym σ = some (.next, suS st its run ((its.map itG).foldl (fun ps it => ZG run it ps) [0]) j3 j4) := by
  rintro _ rfl
  refine zt (zt (zt (zD rfl) (ZJ rfl)) (ZJ ?_)) hf
  exact if_pos (List.all_eq_true.mpr fun x hx => by obtain ⟨y, _, rfl⟩ := List.mem_map.mp hx; rfl)
 unfold QX
 exists zl, hlr, hin, hfs _ rfl
end
theorem lt6 {k : Nat} (h : k < 6) : k = 0 ∨ k = 1 ∨ k = 2 ∨ k = 3 ∨ k = 4 ∨ k = 5 := by omega
section
variable {J J' C C' : Type} {w : J' -> C' -> Bool} {f : J -> J'} {g : C -> C'}
theorem fits_nat (js : List J) (run : List C) (p : Nat) : Yn w (js.map f) (run.map g) p = Yn (fun j c => w (f j) (g c)) js run p := by
 unfold Yn
 rw [List.length_map, List.length_map, <- List.map_drop, List.zip_map, List.all_map]
 rfl
theorem skip_nat (m : List J) (run : List C) : ∀ (k p : Nat), skipG w (m.map f) (run.map g) k p = skipG (fun j c => w (f j) (g c)) m run k p
 | 0, p => rfl
 | k + 1, p => by simp only [skipG, fits_nat, List.length_map, skip_nat m run k]
theorem place_nat (run : List C) : ∀ (mid : List (List J)) (p : Nat), ZE w (run.map g) (mid.map (List.map f)) p = ZE (fun j c => w (f j) (g c)) run mid p
 | [], p => rfl
 | m :: mid, p => by
  have := place_nat run mid (skipG (fun j c => w (f j) (g c)) m run (run.length + 2) p + m.length)
  simp only [ZE, List.length_map] at this
  simp only [ZE, List.map_cons, List.foldl_cons, skip_nat, List.length_map, this]
theorem takes_nat (Ps : List (List J)) (run : List C) : yA w (Ps.map (List.map f)) (run.map g) = yA (fun j c => w (f j) (g c)) Ps run := by
 cases Ps with
 | nil => rfl
 | cons a Ps => cases Ps with
  | nil => simp only [yA, List.map_cons, List.map_nil, fits_nat, List.length_map]
  | cons b r =>
   have e1 : ((b :: r).map (List.map f)).dropLast = (b :: r).dropLast.map (List.map f) := List.map_dropLast.symm
   have e2 : ((b :: r).map (List.map f)).getLast (by simp) = ((b :: r).getLast nofun).map f := List.getLast_map ..
   simp only [List.map_cons] at e1 e2
   simp only [yA, List.map_cons, fits_nat, List.length_map, e1, e2, place_nat]
theorem hits_nat {C C' : Type} (g : C -> C') (run : List C) (h : C' -> Bool) (p : Nat) : hits (run.map g) h p = hits run (h ∘ g) p := by
 unfold hits
 rw [List.getElem?_map]
 cases run[p]? <;> rfl
theorem step_nat {C C' : Type} (g : C -> C') (run : List C) (it : Option (C' -> Bool)) (ps : List Nat) : ZG (run.map g) it ps = ZG run (it.map fun h => h ∘ g) ps := by
 cases it with
 | none => simp only [ZG, Option.map_none, List.length_map]
 | some h =>
  have : hits (run.map g) h = hits run (h ∘ g) := funext fun p => hits_nat g run h p
  simp only [ZG, Option.map_some, this]
theorem suits_nat {C C' : Type} (g : C -> C') (its : List (Option (C' -> Bool))) (run : List C) : Yt its (run.map g) = Yt (its.map (Option.map fun h => h ∘ g)) run := by
 unfold Yt
 rw [List.length_map, List.foldl_map]
 have : (fun (ps : List Nat) (it : Option (C' -> Bool)) => ZG (run.map g) it ps) = fun ps it => ZG run (it.map fun h => h ∘ g) ps := funext fun ps => funext fun it => step_nat g run it ps
 rw [this]
end
noncomputable def yf (k : Nat) : Bool := k == 1 || k == 5
noncomputable def tabK (k : Nat) (c : Bool) : Bool := if k = 0 then true else if k = 2 then !c else c
noncomputable def itK (k : Nat) : Option (Bool -> Bool) := if yf k then none else some (tabK k)
noncomputable def zU : List Nat -> List (List Nat)
 | [] => [[]]
 | k :: r => if yf k then (if (r.head?.any yf) then zU r else [] :: zU r) else (match zU r with | h :: t => (k :: h) :: t | [] => [[k]])
noncomputable def allK (k1 : Nat) : Bool := (List.range 6).all fun k2 => (List.range 6).all fun k3 => [false, true].all fun a => [false, true].all fun b => [false, true].all fun c =>
 yA tabK (zU [k1, k2, k3]) [a, b, c] == Yt ([k1, k2, k3].map itK) [a, b, c]
theorem allK0 : allK 0 = true := by decide +kernel
theorem allK1 : allK 1 = true := by decide +kernel
theorem allK2 : allK 2 = true := by decide +kernel
theorem allK3 : allK 3 = true := by decide +kernel
theorem allK4 : allK 4 = true := by decide +kernel
theorem allK5 : allK 5 = true := by decide +kernel
theorem allK_ok {k1 k2 k3 : Nat} (h1 : k1 < 6) (h2 : k2 < 6) (h3 : k3 < 6) (a b c : Bool) : yA tabK (zU [k1, k2, k3]) [a, b, c] = Yt ([k1, k2, k3].map itK) [a, b, c] := by
 have h : allK k1 = true := by
  rcases lt6 h1 with rfl | rfl | rfl | rfl | rfl | rfl
  ·exact allK0
  ·exact allK1
  ·exact allK2
  ·exact allK3
  ·exact allK4
  ·exact allK5
 have hb : ∀ x : Bool, x ∈ [false, true] := by decide
 exact beq_iff_eq.mp (List.all_eq_true.mp (List.all_eq_true.mp (List.all_eq_true.mp (List.all_eq_true.mp (List.all_eq_true.mp h k2 (List.mem_range.mpr h2)) k3 (List.mem_range.mpr h3)) a (hb a)) b (hb b)) c (hb c))
noncomputable def chr2 (a b : Nat) (c : Bool) : Nat := if c then b else a
noncomputable def jK (a b k : Nat) : J := if k = 0 then .any else if k = 2 then .lit a else if k = 3 then .lit b else .bar a
noncomputable def kd (a b k : Nat) : List Nat × List Nat := match k with
 | 0 => ([63], [a, b])
 | 1 => ([42], [])
 | 2 => ([91, a, 93], [a])
 | 3 => ([91, b, 93], [b])
 | 4 => ([91, 33, a, 93], [b])
 | _ + 5 => ([42], [])
section
variable {a b : Nat}
theorem wJ_tab (hab : a ≠ b) {k : Nat} (hk : k < 6) (hs : yf k = false) (c : Bool) : wJ (jK a b k) (chr2 a b c) = tabK k c := by
 have hba : b ≠ a := hab.symm
 rcases lt6 hk with rfl | rfl | rfl | rfl | rfl | rfl
 ·rfl
 ·cases hs
 ·cases c <;> simp [jK, wJ, chr2, tabK, hba]
 ·cases c <;> simp [jK, wJ, chr2, tabK, hab]
 ·cases c <;> simp [jK, wJ, chr2, tabK, hba]
 ·cases hs
theorem itG_tab (hab : a ≠ b) {k : Nat} (hk : k < 6) : (itG (kd a b k)).map (fun h => h ∘ chr2 a b) = itK k := by
 have hba : b ≠ a := hab.symm
 rcases lt6 hk with rfl | rfl | rfl | rfl | rfl | rfl
 ·refine congrArg some (funext fun c => ?_); cases c <;> simp [kd, chr2, tabK]
 ·rfl
 ·refine congrArg some (funext fun c => ?_); cases c <;> simp [kd, chr2, tabK, hba]
 ·refine congrArg some (funext fun c => ?_); cases c <;> simp [kd, chr2, tabK, hab]
 ·refine congrArg some (funext fun c => ?_); cases c <;> simp [kd, chr2, tabK, hab]
 ·rfl
theorem zbe : ∀ (ks : List Nat), (∀ k ∈ ks, k < 6) -> ∀ m ∈ zU ks, (∀ k ∈ m, k < 6 /\ yf k = false) /\ m.length <= ks.length
 | [], _, m, hm => by
  rw [List.mem_singleton.mp hm]
  exact ⟨fun k hk => (by cases hk), Nat.le_refl _⟩
 | k :: r, h, m, hm => by
  have ih := zbe r fun k hk => h k (List.mem_cons_of_mem _ hk)
  have h6 := h k List.mem_cons_self
  unfold zU at hm
  rw [List.length_cons]
  split at hm
  ·split at hm
   ·exact ⟨(ih m hm).1, Nat.le_succ_of_le (ih m hm).2⟩
   ·rcases List.mem_cons.mp hm with rfl | hm
    ·exact ⟨fun k hk => (by cases hk), Nat.zero_le _⟩
    ·exact ⟨(ih m hm).1, Nat.le_succ_of_le (ih m hm).2⟩
  ·rename_i hs
   have hs' : yf k = false := by simpa using hs
   split at hm
   ·rename_i q t e
    rw [e] at ih
    rcases List.mem_cons.mp hm with rfl | hm
    ·have h1 := ih q List.mem_cons_self
     refine ⟨fun x hx => ?_, by rw [List.length_cons]; exact Nat.succ_le_succ h1.2⟩
     rcases List.mem_cons.mp hx with rfl | hx
     ·exact ⟨h6, hs'⟩
     ·exact h1.1 x hx
    ·have h1 := ih m (List.mem_cons_of_mem _ hm)
     exact ⟨h1.1, Nat.le_succ_of_le h1.2⟩
   ·rw [List.mem_singleton.mp hm]
    refine ⟨fun x hx => ?_, Nat.succ_le_succ (Nat.zero_le _)⟩
    rw [List.mem_singleton.mp hx]
    exact ⟨h6, hs'⟩
theorem takes_cong {J C : Type} {w w' : J -> C -> Bool} : ∀ (Ps : List (List J)) (run : List C), (∀ m ∈ Ps, ∀ j ∈ m, ∀ c, w j c = w' j c) -> yA w Ps run = yA w' Ps run := by
 intro Ps run h
 have hf : ∀ m ∈ Ps, ∀ p, Yn w m run p = Yn w' m run p := fun m hm p => by
  unfold Yn
  congr 1
  rw [Bool.eq_iff_iff, List.all_eq_true, List.all_eq_true]
  exact ⟨fun h1 y hy => by rw [<- h m hm _ (List.of_mem_zip hy).1]; exact h1 y hy, fun h1 y hy => by rw [h m hm _ (List.of_mem_zip hy).1]; exact h1 y hy⟩
 have hsk : ∀ m ∈ Ps, ∀ k p, skipG w m run k p = skipG w' m run k p := fun m hm k => by
  induction k with
  | zero => exact fun p => rfl
  | succ k ih => intro p; simp only [skipG, hf m hm, ih]
 have hpl : ∀ (mid : List (List J)), (∀ m ∈ mid, m ∈ Ps) -> ∀ p, ZE w run mid p = ZE w' run mid p := by
  intro mid
  induction mid with
  | nil => exact fun _ p => rfl
  | cons m mid ih =>
   intro hm p
   have := ih (fun m h => hm m (List.mem_cons_of_mem _ h)) (skipG w' m run (run.length + 2) p + m.length)
   simp only [ZE] at this
   simp only [ZE, List.foldl_cons, hsk m (hm m List.mem_cons_self), this]
 cases Ps with
 | nil => rfl
 | cons a Ps => cases Ps with
  | nil => simp only [yA, hf a List.mem_cons_self]
  | cons b r =>
   simp only [yA, hf a List.mem_cons_self, hf _ (List.mem_cons_of_mem a (List.getLast_mem (l := b :: r) nofun)), hpl (b :: r).dropLast fun m hm => List.mem_cons_of_mem _ ((List.dropLast_sublist _).subset hm)]
theorem takes_suits (hab : a ≠ b) {k1 k2 k3 : Nat} (h1 : k1 < 6) (h2 : k2 < 6) (h3 : k3 < 6) (x y z : Bool) :
  yA wJ ((zU [k1, k2, k3]).map (List.map (jK a b))) ([x, y, z].map (chr2 a b)) = Yt (([k1, k2, k3].map (kd a b)).map itG) ([x, y, z].map (chr2 a b)) := by
 have hk : ∀ k ∈ [k1, k2, k3], k < 6 := fun k hk => by
  rcases List.mem_cons.mp hk with rfl | hk
  ·exact h1
  ·rcases List.mem_cons.mp hk with rfl | hk
   ·exact h2
   ·rw [List.mem_singleton.mp hk]; exact h3
 rw [takes_nat, suits_nat, takes_cong (w' := tabK) _ _ fun m hm k hkm c => ?_, allK_ok h1 h2 h3]
 ·congr 1
  rw [List.map_map, List.map_map]
  exact List.map_congr_left fun k hkm => (itG_tab hab (hk k hkm)).symm
 ·have := ((zbe _ hk m hm).1 k hkm)
  exact wJ_tab hab this.1 this.2 c
end
noncomputable def asS : Option AV -> Option (List Nat)
 | some (.str l) => some l
 | _ => none
theorem zah {o : Option AV} {l : List Nat} (h : (asS o == some l) = true) : o = some (.str l) := by
 have h := beq_iff_eq.mp h
 cases o with
 | none => cases h
 | some v => cases v with
  | str m => cases h; rfl
  | _ => cases h
noncomputable def sub1 (x : Nat) : List Nat := if x ∈ [92, 38, 124, 126] then [92, x] else [x]
noncomputable def rep1 (x : Nat) : List Nat := if x = 92 then [92, 92] else [x]
theorem rg {P : Nat -> Bool} (h : ((List.range' 34 93).all P) = true) {x : Nat} (h1 : 34 <= x) (h2 : x <= 126) : P x = true := List.all_eq_true.mp h x (List.mem_range'_1.mpr ⟨h1, by omega⟩)
theorem t1 : ((List.range' 34 93).all fun x => asS (replF [92] [92, 92] (.str [x])) == some (rep1 x)) = true := by decide +kernel
theorem t2 : ((List.range' 34 93).all fun x => asS (replF [92] [92, 92] (.str [33, x])) == some (33 :: rep1 x)) = true := by decide +kernel
theorem t3 : ((List.range' 34 93).all fun x => asS (Qu (.str (rep1 x))) == some (sub1 x)) = true := by decide +kernel
theorem t4 : ((List.range' 34 93).all fun x => asS (Qu (.str (33 :: rep1 x))) == some (33 :: sub1 x)) = true := by decide +kernel
theorem t5 : (asS (Qu (.str [92, 45])) == some [92, 45]) = true := by decide +kernel
theorem t6 : (asS (Qu (.str [33, 92, 45])) == some [33, 92, 45]) = true := by decide +kernel
theorem t7 (σ : St) : (asS (gxF [45] σ (.lst [.str [45]])) == some [92, 45]) = true := by
 have : gxF [45] σ (.lst [.str [45]]) = gxF [45] ⟨[], []⟩ (.lst [.str [45]]) := rfl
 rw [this]; decide +kernel
theorem t8 (σ : St) : (asS (gxF [45] σ (.lst [.str [33, 45]])) == some [33, 92, 45]) = true := by
 have : gxF [45] σ (.lst [.str [33, 45]]) = gxF [45] ⟨[], []⟩ (.lst [.str [33, 45]]) := rfl
 rw [this]; decide +kernel
theorem gx_loc {σ : St} {n : Nat} {l : List AV} (h : σ.st[n]? = some (.lst l)) : gxF [45] σ (.loc n) = gxF [45] σ (.lst l) := by
 unfold gxF
 rw [show asL σ (.loc n) = asL σ (.lst l) from stK h]
noncomputable def e2 (x : Nat) : List Nat := if x ∈ [92, 45, 38, 124, 126, 94, 91] then [92, x] else [x]
noncomputable def e4 (x : Nat) : List Nat := if x ∈ [92, 45, 38, 124, 126] then [92, x] else [x]
noncomputable def R2 (x : Nat) : List Nat := 91 :: (e2 x ++ [93])
noncomputable def R4 (x : Nat) : List Nat := 91 :: 94 :: (e4 x ++ [93])
noncomputable def trS (st : List AE) (pat : List Nat) (s : Nat) (res : List AV) (junk : List AE) (i : Nat) (j7 j8 j9 j10 j11 j12 : Option AV) : St :=
 ⟨[some (.str pat), some (.loc s), some (.str [46]), some (.loc st.length), some (.app st.length), some (.int (i : Nat)), some (.int pat.length), j7, j8, j9, j10, j11, j12], st ++ (.lst res :: junk)⟩
noncomputable def zai (st : List AE) (pat : List Nat) (s i i' : Nat) (res res' : List AV) : Prop := ∀ (junk : List AE) (j7 j8 j9 j10 j11 j12 : Option AV), ∃ junk' j7' j8' j9' j10' j11' j12', XQ (trS st pat s res junk i j7 j8 j9 j10 j11 j12) = some (.next, trS st pat s res' junk' i' j7' j8' j9' j10' j11' j12')
section
variable {st : List AE} {pat : List Nat} {s i : Nat} {res : List AV} {junk : List AE} {x c : Nat} {r : List Nat}
theorem apR (sl : List (Option AV)) (x : AV) (h : res.length <= 1000) : zK ⟨sl, st ++ (.lst res :: junk)⟩ (.loc st.length) [x] = some (.none, ⟨sl, st ++ (.lst (res ++ [x]) :: junk)⟩) := by
 rw [zca (l := res) (Zm _ _) (by omega)]
 show some (AV.none, (⟨sl, (st ++ (AE.lst res :: junk)).set st.length _⟩ : St)) = _
 rw [ss_0]; rfl
theorem yU {k : Nat} {l : List Nat} (h : pat.drop i = l) : pat[i + k]? = l[k]? := by rw [<- h, List.getElem?_drop]
theorem dr_len (h : pat.drop i = c :: r) : i + r.length + 1 = pat.length := by
 have := congrArg List.length h
 rw [List.length_drop, List.length_cons] at this; omega
theorem tr_q (h : pat.drop i = 63 :: r) (hl : pat.length <= 900) (hr : res.length <= 900) : zai st pat s i (i + 1) res (res ++ [.str [46]]) := by
 intro junk j7 j8 j9 j10 j11 j12
 refine ⟨junk, some (.str [63]), j8, j9, j10, j11, j12, ?_⟩
 have hi : ∀ {σ : St}, zn σ (.str pat) (.int (i : Nat)) = some (.str [63]) := fun {_} => XC (by omega) (yU (k := 0) h)
 unfold XQ
 exists zl, hi, apR _ _ (by omega)
theorem q_neg1O {σ : St} {n : Nat} {l : List AV} {x : AV} (hn : σ.st[n]? = some (.lst l)) (hl : l.length <= 100000) (h : l.getLast? = some x) : zn σ (.loc n) (.int (-1)) = some x := by
 exact bK (stK hn) (q_neg1 (σ := σ) hl h)
theorem tr_s0 (h : pat.drop i = 42 :: r) (hl : pat.length <= 900) (hr : res.length <= 900) (hres : res = [] ∨ ∃ y, res.getLast? = some (.str y)) : zai st pat s i (i + 1) res (res ++ [.loc s]) := by
 intro junk j7 j8 j9 j10 j11 j12
 refine ⟨junk, some (.str [42]), j8, j9, j10, j11, j12, ?_⟩
 have hi : ∀ {σ : St}, zn σ (.str pat) (.int (i : Nat)) = some (.str [42]) := fun {_} => XC (by omega) (yU (k := 0) h)
 have htr : ∀ (sl : List (Option AV)), YW ⟨sl, st ++ (.lst res :: junk)⟩ (.loc st.length) = some (!res.isEmpty) := fun sl => q_tru (Zm _ _) (by omega)
 rcases hres with rfl | ⟨y, hy⟩
 ·unfold XQ
  exists zl, hi, htr _, apR _ _ (by omega)
 ·have hne : (!res.isEmpty) = true := by cases res with | nil => cases hy | cons => rfl
  rw [hne] at htr
  have hla : ∀ (sl : List (Option AV)), zn ⟨sl, st ++ (.lst res :: junk)⟩ (.loc st.length) (.int (-1)) = some (.str y) := fun sl => q_neg1O (Zm _ _) (by omega) hy
  unfold XQ
  exists zl, hi, htr _, hla _, apR _ _ (by omega)
theorem tr_s1 (h : pat.drop i = 42 :: r) (hl : pat.length <= 900) (hr : res.length <= 900) (hy : res.getLast? = some (.loc s)) : zai st pat s i (i + 1) res res := by
 intro junk j7 j8 j9 j10 j11 j12
 refine ⟨junk, some (.str [42]), j8, j9, j10, j11, j12, ?_⟩
 have hi : ∀ {σ : St}, zn σ (.str pat) (.int (i : Nat)) = some (.str [42]) := fun {_} => XC (by omega) (yU (k := 0) h)
 have htr : ∀ (sl : List (Option AV)), YW ⟨sl, st ++ (.lst res :: junk)⟩ (.loc st.length) = some (!res.isEmpty) := fun sl => q_tru (Zm _ _) (by omega)
 have hne : (!res.isEmpty) = true := by cases res with | nil => cases hy | cons => rfl
 rw [hne] at htr
 have hla : ∀ (sl : List (Option AV)), zn ⟨sl, st ++ (.lst res :: junk)⟩ (.loc st.length) (.int (-1)) = some (.loc s) := fun sl => q_neg1O (Zm _ _) (by omega) hy
 have hni : ∀ {σ : St}, nisF σ (.loc s) (.loc s) = some false := fun {_} => by unfold nisF isF; simp
 unfold XQ
 exists zl, hi, htr _, hla _, hni, apR _ _ (by omega)
end
section
variable {st : List AE} {pat : List Nat} {s i j : Nat} {res : List AV} {junk : List AE} {x y : Nat} {r t : List Nat} {j7 j8 j9 j10 j11 j12 : Option AV}
theorem cut_ab {σ : St} {l : List Nat} {a b : Nat} (hl : l.length <= 900) : Zy σ (some (a : Int)) (some (b : Int)) (.str l) = some (.str ((l.drop a).take (min b l.length - min a l.length))) := by
 rw [q_cutS (by omega)]
 simp only [YB, Option.elim, clip_nat, drop_min]
theorem in_two {σ : St} (hy : y < 127) : inD σ (.str [y]) (.tup [.str [94], .str [91]]) = some (decide (y = 94 ∨ y = 91)) := by
 have e : inD σ (.str [y]) (.tup [.str [94], .str [91]]) = inP (.str [y]) (.tup [.str [94], .str [91]]) := rfl
 rw [e]
 have hx' : PyData.strOk ⟨[y].toArray⟩ = true := okS_ok fun c hc => by rw [List.mem_singleton.mp hc]; omega
 have h2 := any_strs [y] [[94], [91]]
 have h3 : PyData.canLayAll0 [PyData.str ⟨[94].toArray⟩, PyData.str ⟨[91].toArray⟩] = true := by decide +kernel
 have h4 : PyData.depthAll [PyData.str ⟨[94].toArray⟩, PyData.str ⟨[91].toArray⟩] = 0 := by decide +kernel
 unfold inP
 simp only [pyA, pyB, pyC, pyD, pyE, pyF, pyG, pyH, Option.bind_some, Option.map_some, SeqAt.shaped, PyData.canLay0, PyData.depth, hx', h3, h4]
 refine (if_pos rfl).trans ?_
 show some ((([[94], [91]] : NL).map strP).any fun z => PyData.eqv z (strP [y])) = _
 rw [h2]
 simp
theorem ba3_bar (hr : res.length <= 900) (ht : t.length <= 900) : XT (trS st pat s res junk i j7 j8 (some (.str (33 :: t))) j10 j11 j12) = some (.next, trS st pat s (res ++ [.str (91 :: 94 :: (t ++ [93]))]) junk i j7 j8 (some (.str (94 :: t))) j10 j11 j12) := by
 have hi : ∀ {σ : St}, zn σ (.str (33 :: t)) (.int 0) = some (.str [33]) := fun {_} => XC (i := 0) (by rw [List.length_cons]; omega) rfl
 have hc : ∀ {σ : St}, Zy σ (some 1) none (.str (33 :: t)) = some (.str t) := fun {σ} => by
  rw [q_cutS (by rw [List.length_cons]; omega)]
  have c1 : clipAt (33 :: t).length 1 = 1 := (clip_nat _ 1).trans (Nat.min_eq_left (Nat.succ_le_succ (Nat.zero_le _)))
  simp only [YB, Option.elim, c1, List.drop_succ_cons, List.drop_zero]
  rw [List.take_of_length_le (by rw [List.length_cons]; omega)]
 have ha : ∀ {σ : St}, zQ σ (.str [94]) (.str t) = some (.str (94 :: t)) := fun {_} => q_addS (by simp; omega)
 have hf : zay [91] [93] (.str (94 :: t)) = some (.str (91 :: 94 :: (t ++ [93]))) := by
  show (if _ then _ else _) = _
  rw [if_pos (by simp; omega)]; rfl
 unfold XT
 exists zl, hi, hc, ha, hf, apR _ _ (by omega)
theorem ba3_plain (hr : res.length <= 900) (ht : t.length <= 900) (hy : y < 127) (h33 : y ≠ 33) (q : List Nat) (hq : (if y = 94 ∨ y = 91 then 92 :: y :: t else y :: t) = q) : XT (trS st pat s res junk i j7 j8 (some (.str (y :: t))) j10 j11 j12) = some (.next, trS st pat s (res ++ [.str (91 :: (q ++ [93]))]) junk i j7 j8 (some (.str q)) j10 j11 j12) := by
 have hi : ∀ {σ : St}, zn σ (.str (y :: t)) (.int 0) = some (.str [y]) := fun {_} => XC (i := 0) (by rw [List.length_cons]; omega) rfl
 have he : ∀ {σ : St}, eqD σ (.str [y]) (.str [33]) = some false := fun {_} => congrArg some (by simpa using h33)
 have ha : ∀ {σ : St}, zQ σ (.str [92]) (.str (y :: t)) = some (.str (92 :: y :: t)) := fun {_} => q_addS (by simp; omega)
 have hf : ∀ q : List Nat, q.length <= 1000 -> zay [91] [93] (.str q) = some (.str (91 :: (q ++ [93]))) := fun q hq => by
  show (if _ then _ else _) = _
  rw [if_pos (by simp; omega)]; rfl
 by_cases h : y = 94 ∨ y = 91
 ·rw [if_pos h] at hq
  subst hq
  have hin : ∀ {σ : St}, inD σ (.str [y]) (.tup [.str [94], .str [91]]) = some true := fun {_} => by rw [in_two hy, decide_eq_true h]
  unfold XT
  exists zl, hi, he, hin, ha, hf _ (by simp; omega), apR _ _ (by omega)
 ·rw [if_neg h] at hq
  subst hq
  have hin : ∀ {σ : St}, inD σ (.str [y]) (.tup [.str [94], .str [91]]) = some false := fun {_} => by rw [in_two hy, decide_eq_false h]
  unfold XT
  exists zl, hi, he, hin, hf _ (by simp; omega), apR _ _ (by omega)
theorem zcl {u v w : List Nat} {q : List Nat} (hr : res.length <= 900) (hl : pat.length <= 900) (hj : j <= pat.length)
  (hcut : ∀ {σ : St}, Zy σ (some (i : Int)) (some (j : Int)) (.str pat) = some (.str u)) (h45 : 45 ∉ u) (hrep : replF [92] [92, 92] (.str u) = some (.str v)) (hsub : Qu (.str v) = some (.str w)) (hw : w ≠ []) (hw33 : w ≠ [33]) (hwl : w.length <= 900)
  (h3 : ∀ i j8, XT (trS st pat s res junk i j7 j8 (some (.str w)) j10 j11 j12) = some (.next, trS st pat s (res ++ [.str (91 :: (q ++ [93]))]) junk i j7 j8 (some (.str q)) j10 j11 j12)) :
  zas (trS st pat s res junk i j7 (some (.int j)) j9 j10 j11 j12) = some (.next, trS st pat s (res ++ [.str (91 :: (q ++ [93]))]) junk (j + 1) j7 (some (.int j)) (some (.str q)) j10 j11 j12) := by
 have hn : ∀ {σ : St}, ninD σ (.str [45]) (.str u) = some true := fun {_} => by
  show (some (decide (45 ∈ u))).map (!·) = _
  rw [decide_eq_false h45]; rfl
 have ht : ∀ {σ : St}, YW σ (.str w) = some true := fun {_} => by
  rw [q_truS (by omega)]; cases w with | nil => exact absurd rfl hw | cons => rfl
 have he : ∀ {σ : St}, eqD σ (.str w) (.str [33]) = some false := fun {_} => congrArg some (beq_eq_false_iff_ne.mpr hw33)
 have h3' := h3 (j + 1) (some (.int j))
 unfold zas
 exists zl, hcut, hn, hrep, hsub, ht, he, h3'
theorem w2_eq {sl : List (Option AV)} {σ' : List AE} (h0 : (⟨sl, σ'⟩ : St).get 0 = some (.str pat)) (h11 : (⟨sl, σ'⟩ : St).get 11 = some (.int (j : Nat))) (h8 : (⟨sl, σ'⟩ : St).get 8 = some (.int (j : Nat))) (hlen : 11 < sl.length) (hj : j <= pat.length) : w_tr_2 ⟨sl, σ'⟩ = some (.next, (⟨sl, σ'⟩ : St).put 11 (some (.int (-1)))) := by
 have hf : ∀ {σ : St}, findF σ (.str pat) [.str [45], .int (j : Nat), .int (j : Nat)] = some (.int (-1), σ) := fun {σ} => if_pos ⟨rfl, Int.natCast_nonneg j, rfl, by omega⟩
 have hg : ((⟨sl, σ'⟩ : St).put 11 (some (.int (-1)))).get 11 = some (.int (-1)) := by
  show ((sl.set 11 (some (AV.int (-1))))[11]?).join = _
  rw [List.getElem?_set_self hlen]; rfl
 refine wh_b (σ1 := ⟨sl, σ'⟩) rfl ?_
 unfold bw_tr_2
 exists zl, h0, h11, h8, hg, hf
theorem for0 {σ : St} {v : AV} (h10 : σ.get 10 = some v) (hl : yn σ [v] = some (.int 1)) : forS (rngM (zd (zk subF (yL yn (zd (za 10) (PM.ok []))) (PM.ok (.int 1))) (zd (PM.ok (.int 0)) (zd (Zg Qy (PM.ok (.int 1))) (PM.ok []))))) (.one 11) bf_tr_1 σ = some (.next, σ) :=
 zt (zt (zI (Zj (zad (zI (zD h10) yK) hl) zl rfl) (zI zl (zI (e_op1 zl rfl) yK))) (ZJ (x := []) rfl)) rfl
theorem ba2_eq {u v : List Nat} {y : Nat} (hr : res.length <= 900) (hl : pat.length <= 900) (hj : j <= pat.length) (hi : pat[i]? = some y)
  (hcut : ∀ {σ : St}, Zy σ (some (i : Int)) (some (j : Int)) (.str pat) = some (.str u)) (hu : u ≠ []) (hul : u.length <= 900) (hk : (if y = 33 then i + 2 else i + 1) = j) (hgx : ∀ {σ : St}, gxF [45] σ (.lst [.str u]) = some (.str v)) :
  ∃ j10' j11' j12' junk', ba_tr_2 (trS st pat s res junk i j7 (some (.int j)) j9 j10 j11 j12) = some (.next, trS st pat s res junk' i j7 (some (.int j)) (some (.str v)) j10' j11' j12') := by
 have hm : ∀ sl : List (Option AV), (Zc (PM.ok [])) ⟨sl, st ++ (.lst res :: junk)⟩ = some (.loc (st.length + (junk.length + 1)), (⟨sl, st ++ (.lst res :: (junk ++ [.lst []]))⟩ : St)) := by
  intro sl
  show some (AV.loc (st ++ (AE.lst res :: junk)).length, (⟨sl, (st ++ (AE.lst res :: junk)) ++ [AE.lst []]⟩ : St)) = _
  rw [List.append_assoc, List.length_append, List.length_cons]; rfl
 have hg : ∀ l : List AV, (st ++ (AE.lst res :: (junk ++ [AE.lst l])))[st.length + (junk.length + 1)]? = some (.lst l) := by
  intro l; rw [Yr, List.getElem?_cons_succ, List.getElem?_append_right (Nat.le_refl _), Nat.sub_self]; rfl
 have hap : ∀ sl, zK ⟨sl, st ++ (AE.lst res :: (junk ++ [AE.lst []]))⟩ (.loc (st.length + (junk.length + 1))) [.str u] = some (.none, ⟨sl, st ++ (AE.lst res :: (junk ++ [AE.lst [.str u]]))⟩) := by
  intro sl
  rw [zca (hg []) (by decide)]
  show some (AV.none, (⟨sl, (st ++ (AE.lst res :: (junk ++ [AE.lst []]))).set (st.length + (junk.length + 1)) _⟩ : St)) = _
  rw [zbd, List.set_cons_succ, List.set_append_right _ _ (Nat.le_refl _), Nat.sub_self]; rfl
 have hty : ∀ sl, tyF ⟨sl, st ++ (AE.lst res :: (junk ++ [AE.lst []]))⟩ (.loc (st.length + (junk.length + 1))) = some "list" := fun sl => zbz (hg [])
 have hit : ∀ {σ : St}, zn σ (.str pat) (.int (i : Nat)) = some (.str [y]) := fun {_} => XC (by omega) hi
 have heq : ∀ {σ : St}, eqD σ (.str [y]) (.str [33]) = some (decide (y = 33)) := fun {_} => congrArg some (by by_cases h : y = 33 <;> simp [h])
 have htr : ∀ {σ : St}, YW σ (.str u) = some true := fun {_} => by
  rw [q_truS (by omega)]; cases u with | nil => exact absurd rfl hu | cons => rfl
 have hln : ∀ sl, yn ⟨sl, st ++ (AE.lst res :: (junk ++ [AE.lst [.str u]]))⟩ [.loc (st.length + (junk.length + 1))] = some (.int 1) := fun sl => q_len (l := [.str u]) (hg _) (lb)
 have hgxl : ∀ sl, gxF [45] ⟨sl, st ++ (AE.lst res :: (junk ++ [AE.lst [.str u]]))⟩ (.loc (st.length + (junk.length + 1))) = some (.str v) := fun sl => by rw [gx_loc (hg _)]; exact hgx
 have hw : ∀ j9 j12, w_tr_2 ⟨[some (.str pat), some (.loc s), some (.str [46]), some (.loc st.length), some (.app st.length), some (.int (i : Nat)), some (.int pat.length), j7, some (.int j), j9, some (.loc (st.length + (junk.length + 1))), some (.int j), j12], st ++ (AE.lst res :: (junk ++ [AE.lst []]))⟩ = _ := fun j9 j12 => w2_eq (pat := pat) rfl rfl rfl (lb) hj
 refine ⟨some (.loc (st.length + (junk.length + 1))), some (.int (-1)), some (.str u), junk ++ [.lst [.str u]], ?_⟩
 by_cases h33 : y = 33
 ·rw [if_pos h33] at hk
  subst hk
  rw [decide_eq_true h33] at heq
  unfold ba_tr_2
  exists hm _, hap _, hty _, hit, heq, htr, hln _, hgxl _, hw _ _, hcut, for0 rfl (hln _)
 ·rw [if_neg h33] at hk
  subst hk
  rw [decide_eq_false h33] at heq
  unfold ba_tr_2
  exists hm _, hap _, hty _, hit, heq, htr, hln _, hgxl _, hw _ _, hcut, for0 rfl (hln _)
theorem ba4_45 {u v : List Nat} {y : Nat} {q : List Nat} (hr : res.length <= 900) (hl : pat.length <= 900) (hj : j <= pat.length) (hi : pat[i]? = some y)
  (hcut : ∀ {σ : St}, Zy σ (some (i : Int)) (some (j : Int)) (.str pat) = some (.str u)) (h45 : 45 ∈ u) (hul : u.length <= 900) (hk : (if y = 33 then i + 2 else i + 1) = j) (hgx : ∀ {σ : St}, gxF [45] σ (.lst [.str u]) = some (.str v)) (hsub : Qu (.str v) = some (.str v)) (hw : v ≠ []) (hw33 : v ≠ [33]) (hwl : v.length <= 900)
  (h3 : ∀ junk i j8 j10 j11 j12, XT (trS st pat s res junk i j7 j8 (some (.str v)) j10 j11 j12) = some (.next, trS st pat s (res ++ [.str (91 :: (q ++ [93]))]) junk i j7 j8 (some (.str q)) j10 j11 j12)) :
  ∃ j10' j11' j12' junk', zas (trS st pat s res junk i j7 (some (.int j)) j9 j10 j11 j12) = some (.next, trS st pat s (res ++ [.str (91 :: (q ++ [93]))]) junk' (j + 1) j7 (some (.int j)) (some (.str q)) j10' j11' j12') := by
 obtain ⟨j10', j11', j12', junk', h2⟩ := ba2_eq (st := st) (s := s) (res := res) (junk := junk) (j7 := j7) (j9 := some (.str u)) (j10 := j10) (j11 := j11) (j12 := j12) hr hl hj hi hcut (fun h => by rw [h] at h45; cases h45) hul hk hgx
 refine ⟨j10', j11', j12', junk', ?_⟩
 have hn : ∀ {σ : St}, ninD σ (.str [45]) (.str u) = some false := fun {_} => by
  show (some (decide (45 ∈ u))).map (!·) = _
  rw [decide_eq_true h45]; rfl
 have ht : ∀ {σ : St}, YW σ (.str v) = some true := fun {_} => by
  rw [q_truS (by omega)]; cases v with | nil => exact absurd rfl hw | cons => rfl
 have he : ∀ {σ : St}, eqD σ (.str v) (.str [33]) = some false := fun {_} => congrArg some (beq_eq_false_iff_ne.mpr hw33)
 have h3' := h3 junk' (j + 1) (some (.int j)) j10' j11' j12'
 unfold zas
 exists zl, hcut, hn, h2, hsub, ht, he, h3'
theorem Qc {σ : St} {n y : Nat} (hl : pat.length <= 900) (h : pat[n]? = some y) : zn σ (.str pat) (.int (n : Nat)) = some (.str [y]) := XC (by omega) h
theorem heF_ {σ : St} {u v : Nat} (h : u ≠ v) : eqD σ (.str [u]) (.str [v]) = some false := congrArg some (by simpa using h)
theorem neT_ {σ : St} {u v : Nat} (h : u ≠ v) : neD σ (.str [u]) (.str [v]) = some true := congrArg some (by simpa [bne] using h)
theorem w1_0 (hl : pat.length <= 900) (h : pat[j]? = some 93) : w_tr_1 (trS st pat s res junk i j7 (some (.int (j : Nat))) j9 j10 j11 j12) = some (.next, trS st pat s res junk i j7 (some (.int (j : Nat))) j9 j10 j11 j12) := by
 have hj := (List.getElem?_eq_some_iff.mp h).1
 refine YH ?_
 unfold zcj
 exists zl, Qc hl h, Yl (by omega)
theorem w1_1 (hl : pat.length <= 900) (h0 : pat[j]? = some x) (hx : x ≠ 93) (h : pat[j + 1]? = some 93) : w_tr_1 (trS st pat s res junk i j7 (some (.int (j : Nat))) j9 j10 j11 j12) = some (.next, trS st pat s res junk i j7 (some (.int (j + 1 : Nat))) j9 j10 j11 j12) := by
 have hj := (List.getElem?_eq_some_iff.mp h).1
 have hc : zcj (trS st pat s res junk i j7 (some (.int (j : Nat))) j9 j10 j11 j12) = some (true, trS st pat s res junk i j7 (some (.int (j : Nat))) j9 j10 j11 j12) := by
  unfold zcj
  exists zl, Qc hl h0, Yl (by omega), neT_ hx
 have hb : bw_tr_1 (trS st pat s res junk i j7 (some (.int (j : Nat))) j9 j10 j11 j12) = some (.next, trS st pat s res junk i j7 (some (.int (j + 1 : Nat))) j9 j10 j11 j12) := by
  unfold bw_tr_1
  exists zl
 refine (zbq hc hb).trans ?_
 refine YH ?_
 unfold zcj
 exists zl, Qc hl h, Yl (by omega)
theorem ba5_eq {res' : List AV} {k : Nat} (hl : pat.length <= 900) (hx : 34 <= x)
  (hs : (k = 1 /\ pat[i]? = some x /\ pat[i + 1]? = some 93) ∨ (k = 2 /\ pat[i]? = some 33 /\ pat[i + 1]? = some x /\ pat[i + 2]? = some 93))
  (h4 : ∃ junk' j8' j9' j10' j11' j12', zas (trS st pat s res junk i j7 (some (.int (i + k : Nat))) j9 j10 j11 j12) = some (.next, trS st pat s res' junk' (i + k + 1) j7 j8' j9' j10' j11' j12')) :
  ∃ junk' j8' j9' j10' j11' j12', QI (trS st pat s res junk i j7 j8 j9 j10 j11 j12) = some (.next, trS st pat s res' junk' (i + k + 1) j7 j8' j9' j10' j11' j12') := by
 obtain ⟨junk', j8', j9', j10', j11', j12', h4⟩ := h4
 refine ⟨junk', j8', j9', j10', j11', j12', ?_⟩
 rcases hs with ⟨rfl, h0, h1⟩ | ⟨rfl, h0, h1, h2⟩
 ·have hj := (List.getElem?_eq_some_iff.mp h1).1
  have hge : ∀ {σ : St}, geF σ (.int (i + 1 : Nat)) (.int pat.length) = some false := fun {_} => q_ngeI (by omega)
  by_cases h93 : x = 93
  ·subst h93
   have hw := w1_0 (st := st) (s := s) (i := i) (res := res) (junk := junk) (j7 := j7) (j9 := j9) (j10 := j10) (j11 := j11) (j12 := j12) hl h1
   unfold QI
   exists zl, Qc hl h0, Yl (by omega), heF_ (by omega), hw, hge, h4
  ·have hw := w1_1 (st := st) (s := s) (i := i) (res := res) (junk := junk) (j7 := j7) (j9 := j9) (j10 := j10) (j11 := j11) (j12 := j12) hl h0 h93 h1
   unfold QI
   exists zl, Qc hl h0, Yl (by omega), heF_ (by omega), hw, hge, h4
 ·have hj := (List.getElem?_eq_some_iff.mp h2).1
  have hge : ∀ {σ : St}, geF σ (.int (i + 2 : Nat)) (.int pat.length) = some false := fun {_} => q_ngeI (by omega)
  by_cases h93 : x = 93
  ·subst h93
   have hw := w1_0 (st := st) (s := s) (i := i) (res := res) (junk := junk) (j7 := j7) (j9 := j9) (j10 := j10) (j11 := j11) (j12 := j12) hl h2
   unfold QI
   exists zl, Qc hl h0, Qc (n := i + 1) hl h1, Yl (by omega), heF_ (by omega), hw, hge, h4
  ·have hw := w1_1 (st := st) (s := s) (i := i) (res := res) (junk := junk) (j7 := j7) (j9 := j9) (j10 := j10) (j11 := j11) (j12 := j12) hl h1 h93 h2
   unfold QI
   exists zl, Qc hl h0, Qc (n := i + 1) hl h1, Yl (by omega), heF_ (by omega), hw, hge, h4
end
section
variable {st : List AE} {pat : List Nat} {s i : Nat} {res res' : List AV} {x : Nat} {r : List Nat}
theorem tr_br (h : pat[i]? = some 91) (hl : pat.length <= 900) (hr : res.length <= 900) {k : Nat}
  (h5 : ∀ junk j7 j8 j9 j10 j11 j12, ∃ junk' j8' j9' j10' j11' j12', QI (trS st pat s res junk (i + 1) j7 j8 j9 j10 j11 j12) = some (.next, trS st pat s res' junk' (i + 1 + k + 1) j7 j8' j9' j10' j11' j12')) : zai st pat s i (i + k + 2) res res' := by
 intro junk j7 j8 j9 j10 j11 j12
 obtain ⟨junk', j8', j9', j10', j11', j12', h5⟩ := h5 junk (some (.str [91])) j8 j9 j10 j11 j12
 have e : i + k + 2 = i + 1 + k + 1 := by omega
 refine ⟨junk', some (.str [91]), j8', j9', j10', j11', j12', ?_⟩
 rw [e]
 unfold XQ
 exists zl, Qc hl h, h5
theorem e2_sp (h : x ∈ [92, 38, 124, 126]) : e2 x = [92, x] := if_pos (by simp only [List.mem_cons, List.not_mem_nil, or_false] at *; omega)
theorem e4_sp (h : x ∈ [92, 38, 124, 126]) : e4 x = [92, x] := if_pos (by simp only [List.mem_cons, List.not_mem_nil, or_false] at *; omega)
theorem e2_pl (h : x ∉ [92, 38, 124, 126]) (h45 : x ≠ 45) : (if x = 94 ∨ x = 91 then [92, x] else [x]) = e2 x := by
 unfold e2
 simp only [List.mem_cons, List.not_mem_nil, or_false] at *
 by_cases h2 : x = 94 ∨ x = 91
 ·rw [if_pos h2, if_pos (by omega)]
 ·rw [if_neg h2, if_neg (by omega)]
theorem e4_pl (h : x ∉ [92, 38, 124, 126]) (h45 : x ≠ 45) : e4 x = [x] := if_neg (by simp only [List.mem_cons, List.not_mem_nil, or_false] at *; omega)
theorem tr_b2 (h : pat.drop i = 91 :: x :: 93 :: r) (hl : pat.length <= 900) (hr : res.length <= 900) (h1 : 34 <= x) (h2 : x <= 126) : zai st pat s i (i + 3) res (res ++ [.str (R2 x)]) := by
 have g0 : pat[i]? = some 91 := yU (k := 0) h
 have g1 : pat[i + 1]? = some x := yU (k := 1) h
 have g2 : pat[i + 1 + 1]? = some 93 := yU (k := 2) h
 have hj := (List.getElem?_eq_some_iff.mp g2).1
 have hd : pat.drop (i + 1) = x :: 93 :: r := by rw [yT g0] at h; exact (List.cons.inj h).2
 have hcut : ∀ {σ : St}, Zy σ (some ((i + 1 : Nat) : Int)) (some ((i + 1 + 1 : Nat) : Int)) (.str pat) = some (.str [x]) := fun {σ} => by
  rw [cut_ab hl, hd, Nat.min_eq_left (by omega), Nat.min_eq_left (by omega), Nat.add_sub_cancel_left]; rfl
 refine tr_br (k := 1) g0 hl hr fun junk j7 j8 j9 j10 j11 j12 => ba5_eq hl h1 (.inl ⟨rfl, g1, g2⟩) ?_
 by_cases h45 : x = 45
 ·subst h45
  obtain ⟨a, b, c, d, h⟩ := ba4_45 (st := st) (s := s) (res := res) (junk := junk) (j7 := j7) (j9 := j9) (j10 := j10) (j11 := j11) (j12 := j12) (u := [45]) (v := [92, 45]) (q := e2 45) hr hl (by omega) g1 hcut (by decide) (by decide) (by rw [if_neg (by decide)]) (zah (t7 _)) (zah t5) (by decide) (by decide) (by decide) (fun _ _ _ _ _ _ => ba3_plain hr (by decide) (by decide) (by decide) _ rfl)
  exact ⟨d, _, _, a, b, c, h⟩
 ·have hrep := zah (rg t1 h1 h2)
  have hsub := zah (rg t3 h1 h2)
  by_cases hsp : x ∈ [92, 38, 124, 126]
  ·have e : sub1 x = [92, x] := if_pos hsp
   rw [e] at hsub
   exact ⟨junk, _, _, _, _, _, zcl (q := e2 x) hr hl (by omega) hcut (by simpa using Ne.symm h45) hrep hsub nofun (by simp) (lb) fun _ _ => ba3_plain hr (lb) (by omega) (by omega) _ (by rw [if_neg (by decide), e2_sp hsp])⟩
  ·have e : sub1 x = [x] := if_neg hsp
   rw [e] at hsub
   exact ⟨junk, _, _, _, _, _, zcl (q := e2 x) hr hl (by omega) hcut (by simpa using Ne.symm h45) hrep hsub nofun (by simp; omega) (lb) fun _ _ => ba3_plain hr (lb) (by omega) (by omega) _ (e2_pl hsp h45)⟩
theorem tr_b4 (h : pat.drop i = 91 :: 33 :: x :: 93 :: r) (hl : pat.length <= 900) (hr : res.length <= 900) (h1 : 34 <= x) (h2 : x <= 126) : zai st pat s i (i + 4) res (res ++ [.str (R4 x)]) := by
 have g0 : pat[i]? = some 91 := yU (k := 0) h
 have g1 : pat[i + 1]? = some 33 := yU (k := 1) h
 have g2 : pat[i + 1 + 1]? = some x := yU (k := 2) h
 have g3 : pat[i + 1 + 2]? = some 93 := yU (k := 3) h
 have hj := (List.getElem?_eq_some_iff.mp g3).1
 have hd : pat.drop (i + 1) = 33 :: x :: 93 :: r := by rw [yT g0] at h; exact (List.cons.inj h).2
 have hcut : ∀ {σ : St}, Zy σ (some ((i + 1 : Nat) : Int)) (some ((i + 1 + 2 : Nat) : Int)) (.str pat) = some (.str [33, x]) := fun {σ} => by
  rw [cut_ab hl, hd, Nat.min_eq_left (by omega), Nat.min_eq_left (by omega), Nat.add_sub_cancel_left]; rfl
 refine tr_br (k := 2) g0 hl hr fun junk j7 j8 j9 j10 j11 j12 => ba5_eq hl h1 (.inr ⟨rfl, g1, g2, g3⟩) ?_
 by_cases h45 : x = 45
 ·subst h45
  obtain ⟨a, b, c, d, h⟩ := ba4_45 (st := st) (s := s) (res := res) (junk := junk) (j7 := j7) (j9 := j9) (j10 := j10) (j11 := j11) (j12 := j12) (u := [33, 45]) (v := [33, 92, 45]) (q := 94 :: e4 45) hr hl (by omega) g1 hcut (by decide) (by decide) (by rw [if_pos rfl]) (zah (t8 _)) (zah t6) (by decide) (by decide) (by decide) (fun _ _ _ _ _ _ => ba3_bar hr (by decide))
  exact ⟨d, _, _, a, b, c, h⟩
 ·have hrep := zah (rg t2 h1 h2)
  have hsub := zah (rg t4 h1 h2)
  by_cases hsp : x ∈ [92, 38, 124, 126]
  ·have e : sub1 x = [92, x] := if_pos hsp
   rw [e] at hsub
   exact ⟨junk, _, _, _, _, _, zcl (q := 94 :: e4 x) hr hl (by omega) hcut (by simpa using Ne.symm h45) hrep hsub nofun nofun (lb) fun _ _ => by rw [e4_sp hsp]; exact ba3_bar hr (lb)⟩
  ·have e : sub1 x = [x] := if_neg hsp
   rw [e] at hsub
   exact ⟨junk, _, _, _, _, _, zcl (q := 94 :: e4 x) hr hl (by omega) hcut (by simpa using Ne.symm h45) hrep hsub nofun nofun (lb) fun _ _ => by rw [e4_pl hsp h45]; exact ba3_bar hr (lb)⟩
end
noncomputable def zbl (c : PM Bool) (b : PM FL) (n : Nat) : FL -> PM FL
 | .next => zA c b n
 | .cont => zA c b n
 | .brk => PM.ok .next
 | .ret v => PM.ok (.ret v)
section
variable {c : PM Bool} {b : PM FL} {n : Nat} {σ σ1 σ2 : St} {X : Option (FL × St)}
theorem e_wh {r : Bool} (hc : c σ = some (r, σ1)) (hf : r = false -> some (.next, σ1) = X) (ht : r = true -> PM.bd b (zbl c b n) σ1 = X) : zA c b (n + 1) σ = X := by
 cases r with
 | false => rw [<- hf rfl]; exact YH hc
 | true =>
  rw [<- ht rfl]
  refine zt hc ?_
  show PM.bd b _ σ1 = PM.bd b _ σ1
  congr 1
theorem e_bdA {fl : FL} (hb : b σ = some (fl, σ1)) (h : zbl c b n fl σ1 = X) : PM.bd b (zbl c b n) σ = X := zt hb h
theorem a_n (h : zA c b n σ = X) : zbl c b n .next σ = X := h
theorem a_c (h : zA c b n σ = X) : zbl c b n .cont σ = X := h
theorem a_b (h : some (FL.next, σ) = X) : zbl c b n .brk σ = X := h
theorem a_r {v : AV} (h : some (FL.ret v, σ) = X) : zbl c b n (.ret v) σ = X := h
end
section
variable {st L : List AE} {l : List AV} {sl : List (Option AV)} {s : Nat}
theorem apK0 (sl : List (Option AV)) (x : AV) (h : L[0]? = some (.lst l)) (hl : l.length <= 100000) : zK ⟨sl, st ++ L⟩ (.loc st.length) [x] = some (.none, ⟨sl, st ++ L.set 0 (.lst (l ++ [x]))⟩) := by
 rw [zca (l := l) ((Zm _ _).trans h) hl]
 show some (AV.none, (⟨sl, (st ++ L).set st.length _⟩ : St)) = _
 rw [ss_0]
theorem apK (sl : List (Option AV)) (x : AV) (k : Nat) (h : L[k]? = some (.lst l)) (hl : l.length <= 100000) : zK ⟨sl, st ++ L⟩ (.loc (st.length + k)) [x] = some (.none, ⟨sl, st ++ L.set k (.lst (l ++ [x]))⟩) := by
 rw [zca (l := l) ((Yr _ _ k).trans h) hl]
 show some (AV.none, (⟨sl, (st ++ L).set (st.length + k) _⟩ : St)) = _
 rw [zbd]
theorem mlK (sl : List (Option AV)) : (Zc (PM.ok [])) ⟨sl, st ++ L⟩ = some (.loc (st.length + L.length), (⟨sl, st ++ (L ++ [.lst []])⟩ : St)) := by
 show some (AV.loc (st ++ L).length, (⟨sl, (st ++ L) ++ [AE.lst []]⟩ : St)) = _
 rw [List.append_assoc, List.length_append]
theorem tyK {k : Nat} (h : L[k]? = some (.lst l)) : tyF ⟨sl, st ++ L⟩ (.loc (st.length + k)) = some "list" := zbz ((Yr _ _ k).trans h)
theorem joinK {σ : St} {n : Nat} (ls : List (List Nat)) {t : List Nat} (h : σ.st[n]? = some (.lst (sLs ls))) (hl : (ls.map List.length).sum + ls.length * 64 <= 16777216) (ht : ZB [] ls = t) : zaw σ (.str []) [.loc n] = some (.str t, σ) := by
 exact bK rfl (bK rfl (bK (stK h) (bK (Xo ls) ((if_pos ⟨by decide, hl⟩).trans (by rw [ht])))))
theorem fs_ (a b l : List Nat) (h : a.length + l.length + b.length <= 100000) : zay a b (.str l) = some (.str (a ++ l ++ b)) := if_pos h
theorem eqT {σ : St} {a b : Int} (h : a = b) : eqD σ (.int a) (.int b) = some true := congrArg some (by simpa using h)
theorem eqN {σ : St} {a b : Int} (h : a ≠ b) : eqD σ (.int a) (.int b) = some false := congrArg some (by simpa using h)
end
noncomputable def joS (st : List AE) (inp : List AV) (s : Nat) (res : List AV) (junk : List AE) (i : Nat) (j6 : Option AV) : St :=
 ⟨[some (.lst inp), some (.loc s), some (.loc st.length), some (.app st.length), some (.int (i : Nat)), some (.int inp.length), j6], st ++ (.lst res :: junk)⟩
section
variable {st junk : List AE} {inp res rest fx : List AV} {s i : Nat} {j6 : Option AV} {t : List Nat}
theorem is_ss {σ : St} : isF σ (.loc s) (.loc s) = some true := if_pos rfl
theorem nis_ss {σ : St} : nisF σ (.loc s) (.loc s) = some false := by unfold nisF; rw [is_ss]; rfl
theorem zbk {k : Nat} {l : List AV} (h : inp.drop i = l) : inp[i + k]? = l[k]? := by rw [<- h, List.getElem?_drop]
theorem dA_len {x : AV} (h : inp.drop i = x :: rest) : i + rest.length + 1 = inp.length := by
 have := congrArg List.length h
 rw [List.length_drop, List.length_cons] at this; omega
theorem dA_end (h : inp.drop i = []) (hi : i <= inp.length) : i = inp.length := by
 have := List.drop_eq_nil_iff.mp h; omega
noncomputable def StopAt (s : Nat) (rest : List AV) : Prop := rest = [] ∨ ∃ r, rest = .loc s :: r
theorem jo_w1 (hl : inp.length <= 900) : ∀ (pre : NL) (i : Nat) (res : List AV) (f : Nat), inp.drop i = sLs pre ++ rest -> StopAt s rest -> i <= inp.length -> pre.length < f -> res.length + pre.length <= 900 ->
  zA zW yl f (joS st inp s res junk i j6) = some (.next, joS st inp s (res ++ sLs pre) junk (i + pre.length) j6)
 | [], i, res, f, hd, hs, hi, hf, hn => by
  obtain ⟨f, rfl⟩ : ∃ m, f = m + 1 := ⟨f - 1, by omega⟩
  have e : joS st inp s (res ++ sLs []) junk (i + ([] : NL).length) j6 = joS st inp s res junk i j6 := by
   show joS st inp s (res ++ []) junk i j6 = _; rw [List.append_nil]
  rw [e]
  refine YH ?_
  unfold zW
  rcases hs with rfl | ⟨r, rfl⟩
  ·have := dA_end hd hi
   exists zl, Xs (by omega)
  ·have h0 : inp[i]? = some (.loc s) := zbk (k := 0) hd
   have hlt := dA_len hd
   exists zl, Yl (by omega), yr (by omega) h0, nis_ss
 | t :: pre, i, res, f, hd, hs, hi, hf, hn => by
  obtain ⟨f, rfl⟩ : ∃ m, f = m + 1 := ⟨f - 1, by omega⟩
  rw [List.length_cons] at hf hn
  have h0 : inp[i]? = some (.str t) := zbk (k := 0) hd
  have hlt := dA_len (x := .str t) (rest := sLs pre ++ rest) hd
  have hc : zW (joS st inp s res junk i j6) = some (true, joS st inp s res junk i j6) := by
   unfold zW
   exists zl, Yl (by omega), yr (by omega) h0
  have hb : yl (joS st inp s res junk i j6) = some (.next, joS st inp s (res ++ [.str t]) junk (i + 1) j6) := by
   unfold yl
   exists zl, yr (by omega) h0, apR _ _ (by omega)
  have hd2 : inp.drop (i + 1) = sLs pre ++ rest := by
   have := congrArg (List.drop 1) hd
   rw [List.drop_drop] at this; exact this
  rw [zbq hc hb, jo_w1 hl pre (i + 1) (res ++ [AV.str t]) f hd2 hs (by omega) (by omega) (by rw [List.length_append, List.length_singleton]; omega), List.append_assoc]
  have e : i + 1 + pre.length = i + (t :: pre).length := by rw [List.length_cons]; omega
  rw [e]; rfl
theorem fx_get (l : List AV) : (st ++ (AE.lst res :: (junk ++ [AE.lst l])))[st.length + (junk.length + 1)]? = some (.lst l) := by
 rw [Yr, List.getElem?_cons_succ, List.getElem?_append_right (Nat.le_refl _), Nat.sub_self]; rfl
theorem fx_app (sl : List (Option AV)) (x : AV) (hl : fx.length <= 900) : zK ⟨sl, st ++ (AE.lst res :: (junk ++ [AE.lst fx]))⟩ (.loc (st.length + (junk.length + 1))) [x] = some (.none, ⟨sl, st ++ (AE.lst res :: (junk ++ [AE.lst (fx ++ [x])]))⟩) := by
 rw [zca (fx_get fx) (by omega)]
 show some (AV.none, (⟨sl, (st ++ (AE.lst res :: (junk ++ [AE.lst fx]))).set (st.length + (junk.length + 1)) _⟩ : St)) = _
 rw [zbd, List.set_cons_succ, List.set_append_right _ _ (Nat.le_refl _), Nat.sub_self]; rfl
theorem jo_w2 (hl : inp.length <= 900) : ∀ (pre : NL) (i : Nat) (fx : List AV) (f : Nat), inp.drop i = sLs pre ++ rest -> StopAt s rest -> i <= inp.length -> pre.length < f -> fx.length + pre.length <= 900 ->
  zA zV yk f (joS st inp s res (junk ++ [.lst fx]) i (some (.loc (st.length + (junk.length + 1))))) = some (.next, joS st inp s res (junk ++ [.lst (fx ++ sLs pre)]) (i + pre.length) (some (.loc (st.length + (junk.length + 1)))))
 | [], i, fx, f, hd, hs, hi, hf, hn => by
  obtain ⟨f, rfl⟩ : ∃ m, f = m + 1 := ⟨f - 1, by omega⟩
  have e : fx ++ sLs [] = fx := List.append_nil fx
  rw [e]
  refine YH ?_
  unfold zV
  rcases hs with rfl | ⟨r, rfl⟩
  ·have := dA_end hd hi
   exists zl, Xs (by omega)
  ·have h0 : inp[i]? = some (.loc s) := zbk (k := 0) hd
   have hlt := dA_len hd
   exists zl, Yl (by omega), yr (by omega) h0, nis_ss
 | t :: pre, i, fx, f, hd, hs, hi, hf, hn => by
  obtain ⟨f, rfl⟩ : ∃ m, f = m + 1 := ⟨f - 1, by omega⟩
  rw [List.length_cons] at hf hn
  have h0 : inp[i]? = some (.str t) := zbk (k := 0) hd
  have hlt := dA_len (x := .str t) (rest := sLs pre ++ rest) hd
  have hc : zV (joS st inp s res (junk ++ [.lst fx]) i (some (.loc (st.length + (junk.length + 1))))) = some (true, joS st inp s res (junk ++ [.lst fx]) i (some (.loc (st.length + (junk.length + 1))))) := by
   unfold zV
   exists zl, Yl (by omega), yr (by omega) h0
  have hty : ∀ sl, tyF ⟨sl, st ++ (AE.lst res :: (junk ++ [AE.lst fx]))⟩ (.loc (st.length + (junk.length + 1))) = some "list" := fun sl => zbz (fx_get fx)
  have hb : yk (joS st inp s res (junk ++ [.lst fx]) i (some (.loc (st.length + (junk.length + 1))))) = some (.next, joS st inp s res (junk ++ [.lst (fx ++ [.str t])]) (i + 1) (some (.loc (st.length + (junk.length + 1))))) := by
   unfold yk
   exists zl, yr (by omega) h0, hty _, fx_app _ _ (by omega)
  have hd2 : inp.drop (i + 1) = sLs pre ++ rest := by
   have := congrArg (List.drop 1) hd
   rw [List.drop_drop] at this; exact this
  rw [zbq hc hb, jo_w2 hl pre (i + 1) (fx ++ [AV.str t]) f hd2 hs (by omega) (by omega) (by rw [List.length_append, List.length_singleton]; omega), List.append_assoc]
  have e : i + 1 + pre.length = i + (t :: pre).length := by rw [List.length_cons]; omega
  rw [e]; rfl
theorem ap_join {st junk : List AE} {res : List AV} (sl : List (Option AV)) (x : AV) (hr : res.length <= 900) : zK ⟨sl, st ++ (.lst res :: junk)⟩ (.loc st.length) [x] = some (.none, ⟨sl, st ++ (.lst (res ++ [x]) :: junk)⟩) := apR sl x (by omega)
theorem XK (hl : inp.length <= 900) (hr : res.length <= 900) (hd : inp.drop i = [.loc s]) : zp (joS st inp s res junk i j6) = some (true, joS st inp s res junk i j6) /\ zE (joS st inp s res junk i j6) = some (.brk, joS st inp s (res ++ [.str [46, 42]]) junk (i + 1) j6) := by
 have h0 : inp[i]? = some (.loc s) := zbk (k := 0) hd
 have hlt := dA_len hd
 rw [List.length_nil] at hlt
 have heq : ∀ {σ : St}, eqD σ (.int (i + 1 : Nat)) (.int inp.length) = some true := fun {_} => eqT (by omega)
 constructor
 ·unfold zp
  exists zl, Yl (by omega)
 ·unfold zE
  exists zl, yr (by omega) h0, is_ss, heq, ap_join _ _ hr
theorem jo_fix (pre : NL) (t : List Nat) (hne : pre ≠ []) (hl : inp.length <= 900) (hr : res.length <= 800) (hpl : pre.length <= 100) (hd : inp.drop i = .loc s :: (sLs pre ++ rest)) (hs : StopAt s rest) (hsum : (pre.map List.length).sum + pre.length * 64 <= 90000) (ht : ZB [] pre = t) (htl : t.length <= 90000) :
  ∃ junk' j6', zp (joS st inp s res junk i j6) = some (true, joS st inp s res junk i j6) /\
   zE (joS st inp s res junk i j6) = some (.next, joS st inp s (res ++ (if rest = [] then [.str [46, 42], .str t] else [.str ([40, 63, 62, 46, 42, 63] ++ t ++ [41])])) junk' (i + 1 + pre.length) j6') := by
 have h0 : inp[i]? = some (.loc s) := zbk (k := 0) hd
 have hlt := dA_len hd
 rw [List.length_append, List.length_map] at hlt
 have hpos : 0 < pre.length := List.length_pos_iff.mpr hne
 obtain ⟨u, pre', rfl⟩ : ∃ u l, pre = u :: l := by cases pre with | nil => exact absurd rfl hne | cons u l => exact ⟨u, l, rfl⟩
 have h1 : inp[i + 1]? = some (.str u) := zbk (k := 1) hd
 have hd2 : inp.drop (i + 1) = sLs (u :: pre') ++ rest := by
  have := congrArg (List.drop 1) hd
  rw [List.drop_drop] at this; exact this
 have hw := jo_w2 (st := st) (junk := junk) (res := res) hl (u :: pre') (i + 1) [] 100000 hd2 hs (by omega) (by omega) (by rw [List.length_nil]; omega)
 have hm : ∀ sl : List (Option AV), (Zc (PM.ok [])) ⟨sl, st ++ (.lst res :: junk)⟩ = some (.loc (st.length + (junk.length + 1)), (⟨sl, st ++ (.lst res :: (junk ++ [.lst []]))⟩ : St)) := by
  intro sl
  show some (AV.loc (st ++ (AE.lst res :: junk)).length, (⟨sl, (st ++ (AE.lst res :: junk)) ++ [AE.lst []]⟩ : St)) = _
  rw [List.append_assoc, List.length_append, List.length_cons]; rfl
 have hj : ∀ sl, zaw ⟨sl, st ++ (.lst res :: (junk ++ [.lst ([] ++ sLs (u :: pre'))]))⟩ (.str []) [.loc (st.length + (junk.length + 1))] = some (.str t, ⟨sl, st ++ (.lst res :: (junk ++ [.lst ([] ++ sLs (u :: pre'))]))⟩) := fun sl => joinK (u :: pre') (fx_get _) (by omega) ht
 have hilt : i + 1 < inp.length := (List.getElem?_eq_some_iff.mp h1).1
 have hn1 : ∀ {σ : St}, eqD σ (.int (i + 1 : Nat)) (.int inp.length) = some false := fun {_} => eqN (by omega)
 refine ⟨junk ++ [.lst ([] ++ sLs (u :: pre'))], some (.str t), ?_, ?_⟩
 ·unfold zp
  exists zl, Yl (by omega)
 ·rcases hs with rfl | ⟨r, rfl⟩
  ·rw [List.length_nil] at hlt
   have he : ∀ {σ : St}, eqD σ (.int (i + 1 + (u :: pre').length : Nat)) (.int inp.length) = some true := fun {_} => eqT (by omega)
   rw [if_pos rfl, show res ++ [AV.str [46, 42], AV.str t] = res ++ [AV.str [46, 42]] ++ [AV.str t] by rw [List.append_assoc]; rfl]
   unfold zE
   exists hm _, yr (by omega) h0, yr (i := i + 1) (by omega) h1, is_ss, hn1, hw, hj _, he, ap_join _ _ (by omega), ap_join _ _ (by rw [List.length_append, List.length_singleton]; omega)
  ·have hrl : (AV.loc s :: r).length = r.length + 1 := rfl
   rw [hrl] at hlt
   have he : ∀ {σ : St}, eqD σ (.int (i + 1 + (u :: pre').length : Nat)) (.int inp.length) = some false := fun {_} => eqN (by omega)
   have hf : zay [40, 63, 62, 46, 42, 63] [41] (.str t) = some (.str ([40, 63, 62, 46, 42, 63] ++ t ++ [41])) := fs_ _ _ _ (by simp; omega)
   rw [if_neg nofun]
   unfold zE
   exists hm _, yr (by omega) h0, yr (i := i + 1) (by omega) h1, is_ss, hn1, hw, hj _, he, hf, ap_join _ _ (by omega)
theorem XJ (pre : NL) (R : NL) {T : List Nat} {j6' : Option AV} {junk' : List AE} (hl : inp.length <= 100) (hd : inp.drop 0 = sLs pre ++ rest) (hs : StopAt s rest) (hpl : pre.length <= 100)
  (hw : zA zp zE (99999 + 1) (joS st inp s ([] ++ sLs pre) [] (0 + pre.length) none) = some (.next, joS st inp s (sLs R) junk' inp.length j6'))
  (hsum : (R.map List.length).sum + R.length * 64 <= 90000) (hT : ZB [] R = T) (hTl : T.length <= 90000) : zm [.lst inp, .loc s] st = some (.str ([40, 63, 115, 58] ++ T ++ [41, 92, 90]), st) := by
 have h1 := jo_w1 (st := st) (junk := []) (j6 := none) (s := s) (by omega) pre 0 [] 100000 hd hs (Nat.zero_le _) (by omega) (by rw [List.length_nil]; omega)
 have hln : ∀ {σ : St}, yn σ [.lst inp] = some (.int inp.length) := fun {_} => Qv (by omega)
 have happ : ∀ sl, appF ⟨sl, st ++ [.lst []]⟩ (.loc st.length) = some (.app st.length) := by
  intro sl; exact congrArg (Option.map fun _ => AV.app st.length) (stK (Zm _ _))
 have hj : ∀ sl, zaw ⟨sl, st ++ (.lst (sLs R) :: junk')⟩ (.str []) [.loc st.length] = some (.str T, ⟨sl, st ++ (.lst (sLs R) :: junk')⟩) := fun sl => joinK R (Zm _ _) (by omega) hT
 have hf : zay [40, 63, 115, 58] [41, 92, 90] (.str T) = some (.str ([40, 63, 115, 58] ++ T ++ [41, 92, 90])) := fs_ _ _ _ (by simp; omega)
 refine Yk (e := .lst (sLs R) :: junk') (σ' := ⟨[some (.lst inp), some (.loc s), some (.str T), some (.app st.length), some (.int inp.length), some (.int inp.length), j6'], st ++ (.lst (sLs R) :: junk')⟩) (fl := .ret (.str ([40, 63, 115, 58] ++ T ++ [41, 92, 90]))) (?_ : yt _ = _) rfl rfl rfl rfl
 unfold yt
 exists zl, happ _, hln, h1, hw, eqT rfl, hj _, hf
end
theorem join_xxx {st : List AE} {s : Nat} (p q r : List Nat) (hp : p.length <= 100) (hq : q.length <= 100) (hr : r.length <= 100) : zm [.lst [.str p, .str q, .str r], .loc s] st = some (.str ([40, 63, 115, 58] ++ (p ++ q ++ r) ++ [41, 92, 90]), st) := by
 exact XJ (inp := [.str p, .str q, .str r]) [p, q, r] (rest := []) [p, q, r] (lb) rfl (.inl rfl) (lb) (YH (by unfold zp; exact zch (zD rfl) (zD rfl) (Xs (by simp)))) (by simp; try omega) (by simp [ZB]) (by simp; try omega)
theorem join_xxS {st : List AE} {s : Nat} (p q : List Nat) (hp : p.length <= 100) (hq : q.length <= 100) : zm [.lst [.str p, .str q, .loc s], .loc s] st = some (.str ([40, 63, 115, 58] ++ (p ++ q ++ [46, 42]) ++ [41, 92, 90]), st) := by
 exact XJ (inp := [.str p, .str q, .loc s]) [p, q] (rest := [.loc s]) [p, q, [46, 42]] (lb) rfl (.inr ⟨_, rfl⟩) (lb) (wh_b (XK (inp := [.str p, .str q, .loc s]) (i := 2) (lb) (lb) rfl).1 (XK (inp := [.str p, .str q, .loc s]) (i := 2) (lb) (lb) rfl).2) (by simp; try omega) (by simp [ZB]) (by simp; try omega)
theorem join_xSx {st : List AE} {s : Nat} (p q : List Nat) (hp : p.length <= 100) (hq : q.length <= 100) : zm [.lst [.str p, .loc s, .str q], .loc s] st = some (.str ([40, 63, 115, 58] ++ (p ++ [46, 42] ++ q) ++ [41, 92, 90]), st) := by
 obtain ⟨junk0, j0, c0, b0⟩ := jo_fix (st := st) (junk := []) (inp := [.str p, .loc s, .str q]) (res := [] ++ sLs [p]) (rest := []) (s := s) (i := 1) (j6 := none) [q] (q) nofun (lb) (lb) (lb) rfl (.inl rfl) (by simp; omega) (by simp [ZB]) (by first | omega | (simp; omega))
 exact XJ (inp := [.str p, .loc s, .str q]) [p] (rest := [.loc s, .str q]) [p, [46, 42], q] (lb) rfl (.inr ⟨_, rfl⟩) (lb) ((zbq c0 b0).trans (YH (by unfold zp; exact zch (zD rfl) (zD rfl) (Xs (by simp))))) (by simp; try omega) (by simp [ZB]) (by simp; try omega)
theorem join_Sxx {st : List AE} {s : Nat} (p q : List Nat) (hp : p.length <= 100) (hq : q.length <= 100) : zm [.lst [.loc s, .str p, .str q], .loc s] st = some (.str ([40, 63, 115, 58] ++ ([46, 42] ++ (p ++ q)) ++ [41, 92, 90]), st) := by
 obtain ⟨junk0, j0, c0, b0⟩ := jo_fix (st := st) (junk := []) (inp := [.loc s, .str p, .str q]) (res := [] ++ sLs []) (rest := []) (s := s) (i := 0) (j6 := none) [p, q] (p ++ q) nofun (lb) (lb) (lb) rfl (.inl rfl) (by simp; omega) (by simp [ZB]) (by first | omega | (simp; omega))
 exact XJ (inp := [.loc s, .str p, .str q]) [] (rest := [.loc s, .str p, .str q]) [[46, 42], (p ++ q)] (lb) rfl (.inr ⟨_, rfl⟩) (lb) ((zbq c0 b0).trans (YH (by unfold zp; exact zch (zD rfl) (zD rfl) (Xs (by simp))))) (by simp; try omega) (by simp [ZB]) (by simp; try omega)
theorem join_xS {st : List AE} {s : Nat} (p : List Nat) (hp : p.length <= 100) : zm [.lst [.str p, .loc s], .loc s] st = some (.str ([40, 63, 115, 58] ++ (p ++ [46, 42]) ++ [41, 92, 90]), st) := by
 exact XJ (inp := [.str p, .loc s]) [p] (rest := [.loc s]) [p, [46, 42]] (lb) rfl (.inr ⟨_, rfl⟩) (lb) (wh_b (XK (inp := [.str p, .loc s]) (i := 1) (lb) (lb) rfl).1 (XK (inp := [.str p, .loc s]) (i := 1) (lb) (lb) rfl).2) (by simp; try omega) (by simp [ZB]) (by simp; try omega)
theorem join_SxS {st : List AE} {s : Nat} (p : List Nat) (hp : p.length <= 100) : zm [.lst [.loc s, .str p, .loc s], .loc s] st = some (.str ([40, 63, 115, 58] ++ (([40, 63, 62, 46, 42, 63] ++ p ++ [41]) ++ [46, 42]) ++ [41, 92, 90]), st) := by
 obtain ⟨junk0, j0, c0, b0⟩ := jo_fix (st := st) (junk := []) (inp := [.loc s, .str p, .loc s]) (res := [] ++ sLs []) (rest := [.loc s]) (s := s) (i := 0) (j6 := none) [p] (p) nofun (lb) (lb) (lb) rfl (.inr ⟨_, rfl⟩) (by simp; omega) (by simp [ZB]) (by first | omega | (simp; omega))
 exact XJ (inp := [.loc s, .str p, .loc s]) [] (rest := [.loc s, .str p, .loc s]) [([40, 63, 62, 46, 42, 63] ++ p ++ [41]), [46, 42]] (lb) rfl (.inr ⟨_, rfl⟩) (lb) ((zbq c0 b0).trans (wh_b (XK (inp := [.loc s, .str p, .loc s]) (i := 2) (lb) (lb) rfl).1 (XK (inp := [.loc s, .str p, .loc s]) (i := 2) (lb) (lb) rfl).2)) (by simp; try omega) (by simp [ZB]) (by simp; try omega)
theorem join_Sx {st : List AE} {s : Nat} (p : List Nat) (hp : p.length <= 100) : zm [.lst [.loc s, .str p], .loc s] st = some (.str ([40, 63, 115, 58] ++ ([46, 42] ++ p) ++ [41, 92, 90]), st) := by
 obtain ⟨junk0, j0, c0, b0⟩ := jo_fix (st := st) (junk := []) (inp := [.loc s, .str p]) (res := [] ++ sLs []) (rest := []) (s := s) (i := 0) (j6 := none) [p] (p) nofun (lb) (lb) (lb) rfl (.inl rfl) (by simp; omega) (by simp [ZB]) (by first | omega | (simp; omega))
 exact XJ (inp := [.loc s, .str p]) [] (rest := [.loc s, .str p]) [[46, 42], p] (lb) rfl (.inr ⟨_, rfl⟩) (lb) ((zbq c0 b0).trans (YH (by unfold zp; exact zch (zD rfl) (zD rfl) (Xs (by simp))))) (by simp; try omega) (by simp [ZB]) (by simp; try omega)
theorem join_S {st : List AE} {s : Nat} : zm [.lst [.loc s], .loc s] st = some (.str ([40, 63, 115, 58] ++ ([46, 42]) ++ [41, 92, 90]), st) := by
 exact XJ (inp := [.loc s]) [] (rest := [.loc s]) [[46, 42]] (lb) rfl (.inr ⟨_, rfl⟩) (lb) (wh_b (XK (inp := [.loc s]) (i := 0) (lb) (lb) rfl).1 (XK (inp := [.loc s]) (i := 0) (lb) (lb) rfl).2) (by simp; try omega) (by simp [ZB]) (by simp; try omega)
noncomputable def yB (l : List (Option Nat)) (k : Nat) : List (Option Nat) := if yf k then (if l.getLast? = some none then l else l ++ [none]) else l ++ [some k]
noncomputable def pT (a b k : Nat) : List Nat := if k = 0 then [46] else if k = 2 then R2 a else if k = 3 then R2 b else R4 a
noncomputable def oA (a b s : Nat) : Option Nat -> AV
 | none => .loc s
 | some k => .str (pT a b k)
section
variable {st : List AE} {pat : List Nat} {s i a b : Nat} {r : List Nat}
theorem oA_last (l : List (Option Nat)) : (l.map (oA a b s)).getLast? = l.getLast?.map (oA a b s) := List.getLast?_map ..
theorem tr_step (ha : 34 <= a /\ a <= 126) (hb : 34 <= b /\ b <= 126) {k : Nat} (hk : k < 6) {l : List (Option Nat)} (h : pat.drop i = (kd a b k).1 ++ r) (hl : pat.length <= 900) (hr : l.length <= 900) :
  zai st pat s i (i + (kd a b k).1.length) (l.map (oA a b s)) ((yB l k).map (oA a b s)) := by
 have hr' : (l.map (oA a b s)).length <= 900 := by rw [List.length_map]; exact hr
 have star : ∀ k, yf k = true -> pat.drop i = 42 :: r -> zai st pat s i (i + 1) (l.map (oA a b s)) ((yB l k).map (oA a b s)) := fun k hs h => by
  unfold yB
  rw [if_pos hs]
  split
  ·rename_i hla
   exact tr_s1 h hl hr' (by rw [oA_last, hla]; rfl)
  ·rename_i hla
   rw [List.map_append]
   refine tr_s0 h hl hr' ?_
   cases hla' : l.getLast? with
   | none =>
    left
    have : l = [] := List.getLast?_eq_none_iff.mp hla'
    rw [this]; rfl
   | some o => cases o with
    | none => exact absurd hla' hla
    | some k => right; exact ⟨_, by rw [oA_last, hla']; rfl⟩
 have pc : ∀ k, yf k = false -> (yB l k).map (oA a b s) = l.map (oA a b s) ++ [.str (pT a b k)] := fun k hs => by
  unfold yB
  rw [if_neg (by rw [hs]; exact Bool.false_ne_true), List.map_append]; rfl
 rcases lt6 hk with rfl | rfl | rfl | rfl | rfl | rfl
 ·rw [pc 0 rfl]; exact tr_q h hl hr'
 ·exact star 1 rfl h
 ·rw [pc 2 rfl]; exact tr_b2 h hl hr' ha.1 ha.2
 ·rw [pc 3 rfl]; exact tr_b2 h hl hr' hb.1 hb.2
 ·rw [pc 4 rfl]; exact tr_b4 h hl hr' ha.1 ha.2
 ·exact star 5 rfl h
theorem stepM_len (l : List (Option Nat)) (k : Nat) : (yB l k).length <= l.length + 1 := by
 unfold yB
 split
 ·split
  ·omega
  ·rw [List.length_append]; exact Nat.le_refl _
 ·rw [List.length_append]; exact Nat.le_refl _
theorem tr_run (ha : 34 <= a /\ a <= 126) (hb : 34 <= b /\ b <= 126) (hl : pat.length <= 900) : ∀ (ks : List Nat) (i : Nat) (l : List (Option Nat)) (junk : List AE) (j7 j8 j9 j10 j11 j12 : Option AV) (f : Nat), (∀ k ∈ ks, k < 6) -> pat.drop i = (ks.map fun k => (kd a b k).1).flatten -> i <= pat.length -> ks.length < f -> l.length + ks.length <= 900 ->
  ∃ junk' j7' j8' j9' j10' j11' j12', zA zci XQ f (trS st pat s (l.map (oA a b s)) junk i j7 j8 j9 j10 j11 j12) = some (.next, trS st pat s ((ks.foldl yB l).map (oA a b s)) junk' pat.length j7' j8' j9' j10' j11' j12')
 | [], i, l, junk, j7, j8, j9, j10, j11, j12, f, _, hd, hi, hf, _ => by
  obtain ⟨f, rfl⟩ : ∃ m, f = m + 1 := ⟨f - 1, by omega⟩
  have hlen := congrArg List.length hd
  rw [List.length_drop] at hlen
  have : i = pat.length := by simp at hlen; omega
  subst this
  refine ⟨junk, j7, j8, j9, j10, j11, j12, YH ?_⟩
  unfold zci
  exists zl, Xs (by omega)
 | k :: ks, i, l, junk, j7, j8, j9, j10, j11, j12, f, h6, hd, hi, hf, hn => by
  obtain ⟨f, rfl⟩ : ∃ m, f = m + 1 := ⟨f - 1, by omega⟩
  rw [List.length_cons] at hf hn
  rw [List.map_cons, List.flatten_cons] at hd
  obtain ⟨junk1, a7, a8, a9, a10, a11, a12, h1⟩ := tr_step (st := st) (s := s) ha hb (h6 k List.mem_cons_self) (l := l) hd hl (by omega) junk j7 j8 j9 j10 j11 j12
  have hd2 : pat.drop (i + (kd a b k).1.length) = (ks.map fun k => (kd a b k).1).flatten := by
   rw [<- List.drop_drop, hd, List.drop_left]
  have hpos : 0 < (kd a b k).1.length := by unfold kd; split <;> simp
  have hlen := congrArg List.length hd
  rw [List.length_drop, List.length_append] at hlen
  have hsl := stepM_len l k
  obtain ⟨junk2, b7, b8, b9, b10, b11, b12, h2⟩ := tr_run ha hb hl ks (i + (kd a b k).1.length) (yB l k) junk1 a7 a8 a9 a10 a11 a12 f (fun k hk => h6 k (List.mem_cons_of_mem _ hk)) hd2 (by omega) (by omega) (by omega)
  refine ⟨junk2, b7, b8, b9, b10, b11, b12, ?_⟩
  have hc : zci (trS st pat s (l.map (oA a b s)) junk i j7 j8 j9 j10 j11 j12) = some (true, trS st pat s (l.map (oA a b s)) junk i j7 j8 j9 j10 j11 j12) := by
   unfold zci
   exists zl, Yl (by omega)
  rw [zbq hc h1, h2]; rfl
theorem fz_oA {σ : St} (h : σ.st[s]? = some .obj) : ∀ (l : List (Option Nat)), fzL σ (l.map (oA a b s)) = some (l.map (oA a b s), σ)
 | [] => rfl
 | o :: l => by
  have h1 := fz_oA h l
  cases o with
  | none => exact zax (bK h rfl) h1
  | some k => exact zax rfl h1
theorem lowers_oA {n : Nat} (h : s < n) : ∀ (l : List (Option Nat)), AV.lowers n (l.map (oA a b s)) = true
 | [] => rfl
 | o :: l => by
  have h1 := lowers_oA h l
  cases o with
  | none => simp only [List.map_cons, oA, AV.lowers, AV.lower, h1, decide_eq_true h, Bool.and_self]
  | some k => simp only [List.map_cons, oA, AV.lowers, AV.lower, h1, Bool.and_self]
theorem tr_eq (ha : 34 <= a /\ a <= 126) (hb : 34 <= b /\ b <= 126) {ks : List Nat} (hk : ∀ k ∈ ks, k < 6) (hks : ks.length <= 3) (hp : pat = (ks.map fun k => (kd a b k).1).flatten) (hl : pat.length <= 900) (hs : st[s]? = some .obj) :
  φ_tr [.str pat, .loc s, .str [46]] st = some (.lst ((ks.foldl yB []).map (oA a b s)), st) := by
 obtain ⟨junk, j7, j8, j9, j10, j11, j12, h⟩ := tr_run (st := st) (s := s) ha hb hl ks 0 [] [] none none none none none none 100000 hk hp (Nat.zero_le _) (by omega) (by simp; omega)
 have hsl := (List.getElem?_eq_some_iff.mp hs).1
 refine Yk (e := .dead :: junk) (σ' := ⟨(trS st pat s [] [] pat.length j7 j8 j9 j10 j11 j12).sl, st ++ (.dead :: junk)⟩) (fl := .ret (.lst ((ks.foldl yB []).map (oA a b s)))) (?_ : m_tr _ = _) rfl rfl rfl (lowers_oA hsl _)
 have hfz : ∀ sl, fz2 ⟨sl, st ++ (.lst ((ks.foldl yB []).map (oA a b s)) :: junk)⟩ (.loc st.length) = some (.lst ((ks.foldl yB []).map (oA a b s)), ⟨sl, st ++ (.dead :: junk)⟩) := by
  intro sl
  have e := fz_oA (a := a) (b := b) (s := s) (σ := ⟨sl, st ++ (.lst ((ks.foldl yB []).map (oA a b s)) :: junk)⟩) (st_lo hs _) (ks.foldl yB [])
  exact fz2_l (Zm _ _) e (Zm _ _) rfl (ss_0 _ _ _)
 have happ : ∀ sl, appF ⟨sl, st ++ [.lst []]⟩ (.loc st.length) = some (.app st.length) := by
  intro sl; exact congrArg (Option.map fun _ => AV.app st.length) (stK (Zm _ _))
 have hln : ∀ {σ : St}, yn σ [.str pat] = some (.int pat.length) := fun {_} => YM (by omega)
 unfold m_tr
 exists zl, happ _, hln, h, hfz _, eqT rfl
end
section
variable {st : List AE} {text : List Nat} {p c x : Nat} {r e : List Nat}
theorem sign_plain (h : text[p]? = some c) (hc : c ≠ 92) (hl : text.length <= 900) : ZT [.str text, .int p] st = some (.tup [.str [c], .int (p + 1 : Nat)], st) := by
 refine yq (σ' := ⟨[some (.str text), some (.int p)], st⟩) (fl := .ret (.tup [.str [c], .int (p + 1 : Nat)])) ?_ rfl rfl rfl
 unfold QA
 exists zl, Qc hl h, heF_ hc
theorem sign_esc (h : text[p]? = some 92) (h1 : text[p + 1]? = some c) (hl : text.length <= 900) : ZT [.str text, .int p] st = some (.tup [.str [c], .int (p + 2 : Nat)], st) := by
 refine yq (σ' := ⟨[some (.str text), some (.int p)], st⟩) (fl := .ret (.tup [.str [c], .int (p + 2 : Nat)])) ?_ rfl rfl rfl
 have he : ∀ {σ : St}, eqD σ (.str [92]) (.str [92]) = some true := fun {_} => rfl
 unfold QA
 exists zl, Qc hl h, Qc (n := p + 1) hl h1, he
noncomputable def Esc (e : List Nat) (x : Nat) : Prop := (e = [x] /\ x ≠ 92) ∨ e = [92, x]
theorem sign_any (he : Esc e x) (h : text.drop p = e ++ r) (hl : text.length <= 900) : ZT [.str text, .int p] st = some (.tup [.str [x], .int (p + e.length : Nat)], st) := by
 rcases he with ⟨rfl, hx⟩ | rfl
 ·exact sign_plain (yU (k := 0) h) hx hl
 ·exact sign_esc (yU (k := 0) h) (yU (k := 1) h) hl
noncomputable def lcS (st : List AE) (text : List Nat) (q : Nat) (b : Bool) (l : List AV) (j4 j5 : Option AV) : St := ⟨[some (.str text), some (.int (q : Nat)), some (.bool b), some (.loc st.length), j4, j5], st ++ [.lst l]⟩
theorem class_loop {q : Nat} {b : Bool} (he : Esc e x) (h : text.drop q = e ++ 93 :: r) (hl : text.length <= 900) : ∃ j4 j5, XV (lcS st text q b [] none none) = some (.next, lcS st text (q + e.length) b [yW x] j4 j5) := by
 have hs := sign_any (st := st ++ [.lst []]) he h hl
 have h93 : text[q + e.length]? = some 93 := by
  rw [yU h, List.getElem?_append_right (Nat.le_refl _), Nat.sub_self]; rfl
 have hne : ∀ {σ : St}, neD σ (.str [93]) (.str [93]) = some false := fun {_} => rfl
 have heq : ∀ {σ : St}, eqD σ (.str [93]) (.str [45]) = some false := fun {_} => rfl
 have tr0 : ∀ sl, YW ⟨sl, st ++ [.lst []]⟩ (.loc st.length) = some false := fun sl => q_tru (l := []) (Zm _ _) (Nat.zero_le _)
 have tr1 : ∀ sl, YW ⟨sl, st ++ [.lst [yW x]]⟩ (.loc st.length) = some true := fun sl => q_tru (l := [yW x]) (Zm _ _) (lb)
 have hty : ∀ sl, tyF ⟨sl, st ++ [.lst []]⟩ (.loc st.length) = some "list" := fun sl => zbz (Zm _ _)
 have hap : ∀ sl, zK ⟨sl, st ++ [.lst []]⟩ (.loc st.length) [yW x] = some (.none, ⟨sl, st ++ [.lst [yW x]]⟩) := fun sl => apK0 (l := []) sl _ rfl (Nat.zero_le _)
 refine ⟨some (.str [x]), some (.str [x]), ?_⟩
 unfold XV
 exists zl, (by unfold zae), (by unfold zaf), tr0 _, tr1 _, hs, Qc (n := q + e.length) hl h93, hne, heq, hty _, hap _
theorem class_eq (b : Bool) (he : Esc e x) (h : text.drop p = 91 :: ((if b then [94] else []) ++ (e ++ 93 :: r))) (hb : b = false -> e.head? ≠ some 94) (hl : text.length <= 900) (hx : x < 0x110000) :
  YV [.str text, .int p] st = some (.tup [.tup [.bool b, .lst [yW x]], .int (p + (1 + (if b then 1 else 0) + e.length + 1) : Nat)], st) := by
 have hq : text.drop (p + (1 + (if b then 1 else 0))) = e ++ 93 :: r := by
  rw [<- List.drop_drop, h]
  cases b <;> rfl
 have hk := class_loop (st := st) (b := b) he hq hl; obtain ⟨j4, j5, hw⟩ := hk
 have hb1 : ∃ y, text[p + 1]? = some y /\ (y == 94) = b := by
  rw [yU h]
  cases b with
  | true => exact ⟨94, rfl, rfl⟩
  | false =>
   rcases he with ⟨rfl, _⟩ | rfl
   ·exact ⟨x, rfl, by have := hb rfl; simpa using this⟩
   ·exact ⟨92, rfl, rfl⟩
 obtain ⟨y, hy, hyb⟩ := hb1
 have heq : ∀ {σ : St}, eqD σ (.str [y]) (.str [94]) = some b := fun {_} => congrArg some (by rw [<- hyb]; simp)
 have hau : ∀ {σ : St}, σ = ⟨[some (.str text), some (.int p), some (.bool b), none, none, none], st⟩ -> zag 1 (iteE (YJ (za 2)) (PM.ok (.int 2)) (PM.ok (.int 1))) σ = some (.next, ⟨[some (.str text), some (.int (p + (1 + (if b then 1 else 0)) : Nat)), some (.bool b), none, none, none], st⟩) := by
  rintro _ rfl
  cases b <;> rfl
 have hfz : ∀ sl, fz2 ⟨sl, st ++ [.lst [yW x]]⟩ (.loc st.length) = some (.lst [yW x], ⟨sl, st ++ [.dead]⟩) := by
  intro sl
  have e5 : (st ++ [AE.lst [yW x]])[st.length]? = some (.lst [yW x]) := Zm _ _
  have e6 : ∀ σ : St, fzL σ [yW x] = some ([yW x], σ) := fun _ => rfl
  exact fz2_l e5 (e6 _) e5 rfl (ss_0 _ _ _)
 refine Yk (e := [.dead]) (σ' := ⟨(lcS st text (p + (1 + (if b then 1 else 0)) + e.length) b [] j4 j5).sl, st ++ [.dead]⟩) (fl := .ret (.tup [.tup [.bool b, .lst [yW x]], .int (p + (1 + (if b then 1 else 0) + e.length + 1) : Nat)])) (?_ : XH _ = _) rfl rfl rfl rfl
 have hint : ((p + (1 + (if b then 1 else 0)) + e.length : Nat) : Int) + 1 = ((p + (1 + (if b then 1 else 0) + e.length + 1) : Nat) : Int) := by omega
 unfold XH
 exists hau rfl, Qc (n := p + 1) hl hy, heq, hw, hfz _, Qw hint
theorem e2_esc (h1 : 34 <= x) : Esc (e2 x) x := by
 unfold e2
 split
 ·exact .inr rfl
 ·rename_i h
  exact .inl ⟨rfl, fun e => h (by rw [e]; simp)⟩
theorem e4_esc (h1 : 34 <= x) : Esc (e4 x) x := by
 unfold e4
 split
 ·exact .inr rfl
 ·rename_i h
  exact .inl ⟨rfl, fun e => h (by rw [e]; simp)⟩
theorem e2_head (x : Nat) : (e2 x).head? ≠ some 94 := by
 unfold e2
 split
 ·exact nofun
 ·rename_i h
  intro e
  have : x = 94 := Option.some.inj e
  exact h (by rw [this]; simp)
theorem judge_eq {a b k : Nat} (ha : 34 <= a /\ a <= 126) (hb : 34 <= b /\ b <= 126) (hk : k < 6) (hs : yf k = false) (h : text.drop p = pT a b k ++ r) (hl : text.length <= 900) :
  Yd [.str text, .int p] st = some (.tup [jA (jK a b k), .int (p + (pT a b k).length : Nat)], st) := by
 have br : ∀ {v : AV} {n : Nat}, YV [.str text, .int p] st = some (.tup [v, .int (n : Nat)], st) -> text[p]? = some 91 -> Yd [.str text, .int p] st = some (.tup [v, .int (n : Nat)], st) := fun {v n} hc h0 => by
  have he : ∀ {σ : St}, eqD σ (.str [91]) (.str [91]) = some true := fun {_} => rfl
  refine yq (σ' := ⟨[some (.str text), some (.int p)], st⟩) (fl := .ret (.tup [v, .int (n : Nat)])) ?_ rfl rfl rfl
  unfold XF
  exists zl, Qc hl h0, he, hc
 have b2 : ∀ x, 34 <= x -> x <= 126 -> text.drop p = R2 x ++ r -> Yd [.str text, .int p] st = some (.tup [.tup [.bool false, .lst [yW x]], .int (p + (R2 x).length : Nat)], st) := fun x h1 h2 h => by
  have hc := class_eq (st := st) (p := p) (r := r) false (e2_esc h1) (by rw [h]; simp [R2]) (fun _ => e2_head x) hl (by omega)
  have e : p + (1 + (if false then 1 else 0) + (e2 x).length + 1) = p + (R2 x).length := by simp [R2]; omega
  rw [e] at hc
  exact br hc (yU (k := 0) h)
 rcases lt6 hk with rfl | rfl | rfl | rfl | rfl | rfl
 ·have h0 : text[p]? = some 46 := yU (k := 0) h
  have he : ∀ {σ : St}, eqD σ (.str [46]) (.str [46]) = some true := fun {_} => rfl
  refine yq (σ' := ⟨[some (.str text), some (.int p)], st⟩) (fl := .ret (.tup [jA (jK a b 0), .int (p + (pT a b 0).length : Nat)])) ?_ rfl rfl rfl
  unfold XF
  exists zl, Qc hl h0, heF_ (by omega), he
 ·cases hs
 ·exact b2 a ha.1 ha.2 h
 ·exact b2 b hb.1 hb.2 h
 ·have hc := class_eq (st := st) (p := p) (r := r) true (e4_esc ha.1) (h.trans (by simp [pT, R4])) (fun h => by cases h) hl (by omega)
  have e : p + (1 + (if true then 1 else 0) + (e4 a).length + 1) = p + (R4 a).length := by simp [R4]; omega
  rw [e] at hc
  exact br hc (yU (k := 0) h)
 ·cases hs
end
noncomputable def pcS (st : List AE) (text body : List Nat) (p : Nat) (held last : Bool) (L : List AE) (sound : Bool) (j7 : Option AV) : St :=
 ⟨[some (.str text), some (.str body), some (.int (p : Nat)), some (.bool held), some (.bool last), some (.loc (st.length + 1)), some (.bool sound), j7], st ++ L⟩
noncomputable def L1 (st : List AE) (A : List AV) : List AE := [.lst A, .lst [.loc st.length]]
noncomputable def L2 (st : List AE) (A B : List AV) : List AE := [.lst A, .lst [.loc st.length, .loc (st.length + 2)], .lst B]
noncomputable def L3 (st : List AE) (A B C : List AV) : List AE := [.lst A, .lst [.loc st.length, .loc (st.length + 2), .loc (st.length + 3)], .lst B, .lst C]
section
variable {st : List AE} {text body r : List Nat} {p a b k : Nat} {A B C : List AV} {j7 : Option AV} {L : List AE}
theorem Xw {σ : St} {c : Nat} {l : List Nat} (hl : body.length <= 900) (h : body.drop p = l) (hp : p <= body.length) : Zy σ (some (p : Int)) (some ((p : Int) + (c : Nat))) (.str body) = some (.str (l.take c)) := by
 have := cut_ab (σ := σ) (l := body) (a := p) (b := p + c) hl
 rw [Int.natCast_add] at this
 rw [this, h, Nat.min_eq_left hp]
 have hlen : l.length = body.length - p := by rw [<- h, List.length_drop]
 rcases Nat.le_total (p + c) body.length with h1 | h1
 ·rw [Nat.min_eq_left h1, Nat.add_sub_cancel_left]
 ·rw [Nat.min_eq_right h1, List.take_of_length_le (by omega), List.take_of_length_le (by omega)]
theorem zcf {σ : St} {u v : List Nat} (h : u ≠ v) : eqD σ (.str u) (.str v) = some false := congrArg some (by simpa using h)
theorem eqS_t {σ : St} {u v : List Nat} (h : u = v) : eqD σ (.str u) (.str v) = some true := congrArg some (by simpa using h)
theorem zak {u v l : List Nat} {c n : Nat} (hu : u.head? = some c) (hv : v.head? ≠ some c) (hn : 0 < n) : u.take n ≠ v := fun h => by
 rw [<- h, List.head?_take, if_neg (by omega)] at hv
 exact hv hu
theorem pT_head (a b : Nat) {k : Nat} (r : List Nat) : (pT a b k ++ r).head? = some 46 /\ pT a b k = [46] ∨ (pT a b k ++ r).head? = some 91 := by
 unfold pT
 split
 ·exact .inl ⟨rfl, rfl⟩
 ·split
  ·exact .inr rfl
  ·split <;> exact .inr rfl
theorem pT_pos (a b k : Nat) : 0 < (pT a b k).length := by
 unfold pT; split
 ·decide
 ·split
  ·simp [R2]
  ·split <;> simp [R2, R4]
theorem pT_cuts {σ : St} (hl : body.length <= 900) (h : body.drop p = pT a b k ++ r) (hr : r.head? ≠ some 42) (hp : p <= body.length) :
  ∃ u v c, Zy σ (some (p : Int)) (some ((p : Int) + 6)) (.str body) = some (.str u) /\ u ≠ [40, 63, 62, 46, 42, 63] /\ Zy σ (some (p : Int)) (some ((p : Int) + 2)) (.str body) = some (.str v) /\ v ≠ [46, 42] /\ body[p]? = some c /\ c ≠ 41 := by
 have h0 : body[p]? = (pT a b k ++ r)[0]? := yU (k := 0) h
 rw [<- List.head?_eq_getElem?] at h0
 rcases pT_head a b (k := k) r with ⟨h1, h2⟩ | h1
 ·refine ⟨_, _, 46, Xw (c := 6) hl h hp, zak (l := []) h1 (by decide) (by decide), Xw (c := 2) hl h hp, ?_, h0.trans h1, by decide⟩
  rw [h2]
  cases r with
  | nil => decide
  | cons y t =>
   intro e
   have : y = 42 := by simpa using e
   exact hr (by rw [this]; rfl)
 ·exact ⟨_, _, 91, Xw (c := 6) hl h hp, zak (l := []) h1 (by decide) (by decide), Xw (c := 2) hl h hp, zak (l := []) h1 (by decide) (by decide), h0.trans h1, by decide⟩
noncomputable def zbm (σ σ' : St) : Prop := zx σ = some (true, σ) /\ zq σ = some (.next, σ')
theorem XZ {σ σ' : St} (h : zbm σ σ') (n : Nat) : zA zx zq (n + 1) σ = zA zx zq n σ' := zbq h.1 h.2
theorem pc_cw {held last : Bool} (hl : body.length <= 900) (hp : p < body.length) : zx (pcS st text body p held last L true j7) = some (true, pcS st text body p held last L true j7) := by
 unfold zx
 exists zl, YM (by omega), Yl (by omega)
theorem QU {held last : Bool} (hl : body.length <= 900) : zx (pcS st text body body.length held last L true j7) = some (false, pcS st text body body.length held last L true j7) := by
 unfold zx
 exists zl, YM (by omega), Xs (by omega)
theorem QD {l : List Nat} {c : Nat} (h : body.drop p = c :: l) : p < body.length := by have := dr_len h; omega
theorem Yx (ha : 34 <= a /\ a <= 126) (hb : 34 <= b /\ b <= 126) (hk : k < 6) (hs : yf k = false) (hl : body.length <= 900) (h : body.drop p = pT a b k ++ r) (hr : r.head? ≠ some 42) (hA : A.length <= 100) :
  zbm (pcS st text body p false false (L1 st A) true j7) (pcS st text body (p + (pT a b k).length) false false (L1 st (A ++ [jA (jK a b k)])) true (some (jA (jK a b k)))) := by
 have hp : p < body.length := by
  have := congrArg List.length h
  have := pT_pos a b k
  rw [List.length_drop, List.length_append] at *; omega
 refine ⟨pc_cw hl hp, ?_⟩
 obtain ⟨u, v, c, c1, c2, c3, c4, c5, c6⟩ := pT_cuts (σ := pcS st text body p false false (L1 st A) true j7) hl h hr (by omega)
 have hj := judge_eq (st := st ++ L1 st A) ha hb hk hs h hl
 have hln : ∀ sl, yn ⟨sl, st ++ L1 st A⟩ [.loc (st.length + 1)] = some (.int 1) := fun sl => q_len (l := [.loc st.length]) (Yr _ _ 1) (lb)
 have hit : ∀ sl, zn ⟨sl, st ++ L1 st A⟩ (.loc (st.length + 1)) (.int (-1)) = some (.loc st.length) := fun sl => q_neg1O (l := [.loc st.length]) (Yr _ _ 1) (lb) rfl
 have hty : ∀ sl, tyF ⟨sl, st ++ L1 st A⟩ (.loc st.length) = some "list" := fun sl => zbz (l := A) (Zm _ _)
 have hap : ∀ sl x, zK ⟨sl, st ++ L1 st A⟩ (.loc st.length) [x] = some (.none, ⟨sl, st ++ L1 st (A ++ [x])⟩) := fun sl x => apK0 sl x (l := A) rfl (by omega)
 unfold zq
 exists zl, (by unfold yv), (by unfold ZO), c1, c3, zcf c2, zcf c4, Qc hl c5, heF_ c6, hln _, eqT rfl, hj, hit _, hty _, hap _ _
theorem Qn {held last : Bool} (hhl : held = true ∨ last = true) (ha : 34 <= a /\ a <= 126) (hb : 34 <= b /\ b <= 126) (hk : k < 6) (hs : yf k = false) (hl : body.length <= 900) (h : body.drop p = pT a b k ++ r) (hr : r.head? ≠ some 42) (hB : B.length <= 100) :
  zbm (pcS st text body p held last (L2 st A B) true j7) (pcS st text body (p + (pT a b k).length) held last (L2 st A (B ++ [jA (jK a b k)])) true (some (jA (jK a b k)))) := by
 have hp : p < body.length := by
  have := congrArg List.length h
  have := pT_pos a b k
  rw [List.length_drop, List.length_append] at *; omega
 refine ⟨pc_cw hl hp, ?_⟩
 obtain ⟨u, v, c, c1, c2, c3, c4, c5, c6⟩ := pT_cuts (σ := pcS st text body p held last (L2 st A B) true j7) hl h hr (by omega)
 have hj := judge_eq (st := st ++ L2 st A B) ha hb hk hs h hl
 have hit : ∀ sl, zn ⟨sl, st ++ L2 st A B⟩ (.loc (st.length + 1)) (.int (-1)) = some (.loc (st.length + 2)) := fun sl => q_neg1O (l := [.loc st.length, .loc (st.length + 2)]) (Yr _ _ 1) (lb) rfl
 have hty : ∀ sl, tyF ⟨sl, st ++ L2 st A B⟩ (.loc (st.length + 2)) = some "list" := fun sl => zbz (l := B) (Yr _ _ 2)
 have hap : ∀ sl x, zK ⟨sl, st ++ L2 st A B⟩ (.loc (st.length + 2)) [x] = some (.none, ⟨sl, st ++ L2 st A (B ++ [x])⟩) := fun sl x => apK sl x 2 (l := B) rfl (by omega)
 cases held with
 | true =>
  unfold zq
  exists zl, (by unfold yv), (by unfold ZO), c1, c3, zcf c2, zcf c4, Qc hl c5, heF_ c6, hj, hit _, hty _, hap _ _
 | false =>
  have : last = true := by rcases hhl with h | h <;> first | exact h | cases h
  subst this
  unfold zq
  exists zl, (by unfold yv), (by unfold ZO), c1, c3, zcf c2, zcf c4, Qc hl c5, heF_ c6, hj, hit _, hty _, hap _ _
theorem Qm (hl : body.length <= 900) (h : body.drop p = [46, 42] ++ r) : zbm (pcS st text body p false false (L1 st A) true j7) (pcS st text body (p + 2) false true (L2 st A []) true j7) := by
 have hp := QD h
 have c1 : ∀ {σ : St}, Zy σ (some (p : Int)) (some ((p : Int) + 6)) (.str body) = some (.str (([46, 42] ++ r).take 6)) := fun {σ} => Xw (c := 6) hl h (by omega)
 have c3 : ∀ {σ : St}, Zy σ (some (p : Int)) (some ((p : Int) + 2)) (.str body) = some (.str [46, 42]) := fun {σ} => Xw (c := 2) hl h (by omega)
 have hm : ∀ sl : List (Option AV), (Zc (PM.ok [])) ⟨sl, st ++ L1 st A⟩ = some (.loc (st.length + 2), (⟨sl, st ++ [.lst A, .lst [.loc st.length], .lst []]⟩ : St)) := fun sl => mlK sl
 have hty : ∀ sl, tyF ⟨sl, st ++ L1 st A⟩ (.loc (st.length + 1)) = some "list" := fun sl => tyK (k := 1) (l := [.loc st.length]) rfl
 have hap : ∀ sl, zK ⟨sl, st ++ [.lst A, .lst [.loc st.length], .lst []]⟩ (.loc (st.length + 1)) [.loc (st.length + 2)] = some (.none, ⟨sl, st ++ L2 st A []⟩) := fun sl => apK sl _ 1 (l := [.loc st.length]) rfl (lb)
 refine ⟨pc_cw hl hp, ?_⟩
 unfold zq
 exists hm _, (by unfold yv), (by unfold YQ), c1, c3, zcf (zak (l := []) rfl (by decide) (by decide)), eqS_t rfl, hty _, hap _
theorem pc_star2 (hl : body.length <= 900) (h : body.drop p = [46, 42] ++ r) : zbm (pcS st text body p false false (L2 st A B) true j7) (pcS st text body (p + 2) false true (L3 st A B []) true j7) := by
 have hp := QD h
 have c1 : ∀ {σ : St}, Zy σ (some (p : Int)) (some ((p : Int) + 6)) (.str body) = some (.str (([46, 42] ++ r).take 6)) := fun {σ} => Xw (c := 6) hl h (by omega)
 have c3 : ∀ {σ : St}, Zy σ (some (p : Int)) (some ((p : Int) + 2)) (.str body) = some (.str [46, 42]) := fun {σ} => Xw (c := 2) hl h (by omega)
 have hm : ∀ sl : List (Option AV), (Zc (PM.ok [])) ⟨sl, st ++ L2 st A B⟩ = some (.loc (st.length + 3), (⟨sl, st ++ [.lst A, .lst [.loc st.length, .loc (st.length + 2)], .lst B, .lst []]⟩ : St)) := fun sl => mlK sl
 have hty : ∀ sl, tyF ⟨sl, st ++ L2 st A B⟩ (.loc (st.length + 1)) = some "list" := fun sl => tyK (k := 1) (l := [.loc st.length, .loc (st.length + 2)]) rfl
 have hap : ∀ sl, zK ⟨sl, st ++ [.lst A, .lst [.loc st.length, .loc (st.length + 2)], .lst B, .lst []]⟩ (.loc (st.length + 1)) [.loc (st.length + 3)] = some (.none, ⟨sl, st ++ L3 st A B []⟩) := fun sl => apK sl _ 1 (l := [.loc st.length, .loc (st.length + 2)]) rfl (lb)
 refine ⟨pc_cw hl hp, ?_⟩
 unfold zq
 exists hm _, (by unfold yv), (by unfold YQ), c1, c3, zcf (zak (l := []) rfl (by decide) (by decide)), eqS_t rfl, hty _, hap _
theorem pc_open (hl : body.length <= 900) (h : body.drop p = [40, 63, 62, 46, 42, 63] ++ r) : zbm (pcS st text body p false false (L1 st A) true j7) (pcS st text body (p + 6) true false (L2 st A []) true j7) := by
 have hp := QD h
 have c1 : ∀ {σ : St}, Zy σ (some (p : Int)) (some ((p : Int) + 6)) (.str body) = some (.str [40, 63, 62, 46, 42, 63]) := fun {σ} => Xw (c := 6) hl h (by omega)
 have hm : ∀ sl : List (Option AV), (Zc (PM.ok [])) ⟨sl, st ++ L1 st A⟩ = some (.loc (st.length + 2), (⟨sl, st ++ [.lst A, .lst [.loc st.length], .lst []]⟩ : St)) := fun sl => mlK sl
 have hty : ∀ sl, tyF ⟨sl, st ++ L1 st A⟩ (.loc (st.length + 1)) = some "list" := fun sl => tyK (k := 1) (l := [.loc st.length]) rfl
 have hap : ∀ sl, zK ⟨sl, st ++ [.lst A, .lst [.loc st.length], .lst []]⟩ (.loc (st.length + 1)) [.loc (st.length + 2)] = some (.none, ⟨sl, st ++ L2 st A []⟩) := fun sl => apK sl _ 1 (l := [.loc st.length]) rfl (lb)
 refine ⟨pc_cw hl hp, ?_⟩
 unfold zq
 exists hm _, (by unfold QL), c1, eqS_t rfl, hty _, hap _
theorem pc_close (hl : body.length <= 900) (h : body.drop p = [41] ++ r) : zbm (pcS st text body p true false (L2 st A B) true j7) (pcS st text body (p + 1) false false (L2 st A B) true j7) := by
 have hp := QD h
 have c1 : ∀ {σ : St}, Zy σ (some (p : Int)) (some ((p : Int) + 6)) (.str body) = some (.str (([41] ++ r).take 6)) := fun {σ} => Xw (c := 6) hl h (by omega)
 have c3 : ∀ {σ : St}, Zy σ (some (p : Int)) (some ((p : Int) + 2)) (.str body) = some (.str (([41] ++ r).take 2)) := fun {σ} => Xw (c := 2) hl h (by omega)
 have h0 : body[p]? = some 41 := yU (k := 0) h
 refine ⟨pc_cw hl hp, ?_⟩
 unfold zq
 exists zl, (by unfold yv), c1, c3, zcf (zak (l := []) rfl (by decide) (by decide)), Qc hl h0, eqS_t rfl
end
section
variable {st : List AE} {text body r : List Nat} {p a b k : Nat} {A B C : List AV} {j7 : Option AV} {L : List AE}
theorem Zx {u : List Nat} (h : text.drop p = u ++ r) : text.drop (p + u.length) = r := by rw [<- List.drop_drop, h, List.drop_left]
theorem pT_nx (a b k : Nat) (r : List Nat) : (pT a b k ++ r).head? ≠ some 42 := by
 rcases pT_head a b (k := k) r with ⟨h, _⟩ | h <;> rw [h] <;> decide
theorem fz_1 (sl : List (Option AV)) : fz2 ⟨sl, st ++ L1 st A⟩ (.loc (st.length + 1)) = some (.lst [.lst A], ⟨sl, st ++ [.dead, .dead]⟩) := by
 have h1 : (st ++ L1 st A)[st.length + 1]? = some (.lst [.loc st.length]) := Yr _ _ 1
 have h2 : (st ++ L1 st A)[st.length]? = some (.lst A) := Zm _ _
 have h3 : (st ++ L1 st A).set st.length .dead = st ++ [.dead, .lst [.loc st.length]] := ss_0 _ _ _
 have h4 : (st ++ [AE.dead, .lst [.loc st.length]])[st.length + 1]? = some (.lst [.loc st.length]) := Yr _ _ 1
 have h5 : (st ++ [AE.dead, .lst [.loc st.length]]).set (st.length + 1) .dead = st ++ [.dead, .dead] := zbd _ _ 1 _
 exact fz2_l (σ1 := ⟨sl, _⟩) h1 (zax (fz1_l h2 h3) rfl) h4 rfl h5
theorem fz_2 (sl : List (Option AV)) : fz2 ⟨sl, st ++ L2 st A B⟩ (.loc (st.length + 1)) = some (.lst [.lst A, .lst B], ⟨sl, st ++ [.dead, .dead, .dead]⟩) := by
 have h1 : (st ++ L2 st A B)[st.length + 1]? = some (.lst [.loc st.length, .loc (st.length + 2)]) := Yr _ _ 1
 have h2 : (st ++ L2 st A B)[st.length]? = some (.lst A) := Zm _ _
 have h3 : (st ++ L2 st A B).set st.length .dead = st ++ [.dead, .lst [.loc st.length, .loc (st.length + 2)], .lst B] := ss_0 _ _ _
 have h4 : (st ++ [AE.dead, .lst [.loc st.length, .loc (st.length + 2)], .lst B])[st.length + 2]? = some (.lst B) := Yr _ _ 2
 have h5 : (st ++ [AE.dead, .lst [.loc st.length, .loc (st.length + 2)], .lst B]).set (st.length + 2) .dead = st ++ [.dead, .lst [.loc st.length, .loc (st.length + 2)], .dead] := zbd _ _ 2 _
 have h6 : (st ++ [AE.dead, .lst [.loc st.length, .loc (st.length + 2)], .dead])[st.length + 1]? = some (.lst [.loc st.length, .loc (st.length + 2)]) := Yr _ _ 1
 have h7 : (st ++ [AE.dead, .lst [.loc st.length, .loc (st.length + 2)], .dead]).set (st.length + 1) .dead = st ++ [.dead, .dead, .dead] := zbd _ _ 1 _
 exact fz2_l (σ1 := ⟨sl, _⟩) h1 (zax (fz1_l h2 h3) (zax (fz1_l h4 h5) rfl)) h6 rfl h7
theorem fz_3 (sl : List (Option AV)) : fz2 ⟨sl, st ++ L3 st A B C⟩ (.loc (st.length + 1)) = some (.lst [.lst A, .lst B, .lst C], ⟨sl, st ++ [.dead, .dead, .dead, .dead]⟩) := by
 have h1 : (st ++ L3 st A B C)[st.length + 1]? = some (.lst [.loc st.length, .loc (st.length + 2), .loc (st.length + 3)]) := Yr _ _ 1
 have h2 : (st ++ L3 st A B C)[st.length]? = some (.lst A) := Zm _ _
 have h3 : (st ++ L3 st A B C).set st.length .dead = st ++ [.dead, .lst [.loc st.length, .loc (st.length + 2), .loc (st.length + 3)], .lst B, .lst C] := ss_0 _ _ _
 have h4 : (st ++ [AE.dead, .lst [.loc st.length, .loc (st.length + 2), .loc (st.length + 3)], .lst B, .lst C])[st.length + 2]? = some (.lst B) := Yr _ _ 2
 have h5 : (st ++ [AE.dead, .lst [.loc st.length, .loc (st.length + 2), .loc (st.length + 3)], .lst B, .lst C]).set (st.length + 2) .dead = st ++ [.dead, .lst [.loc st.length, .loc (st.length + 2), .loc (st.length + 3)], .dead, .lst C] := zbd _ _ 2 _
 have h8 : (st ++ [AE.dead, .lst [.loc st.length, .loc (st.length + 2), .loc (st.length + 3)], .dead, .lst C])[st.length + 3]? = some (.lst C) := Yr _ _ 3
 have h9 : (st ++ [AE.dead, .lst [.loc st.length, .loc (st.length + 2), .loc (st.length + 3)], .dead, .lst C]).set (st.length + 3) .dead = st ++ [.dead, .lst [.loc st.length, .loc (st.length + 2), .loc (st.length + 3)], .dead, .dead] := zbd _ _ 3 _
 have h6 : (st ++ [AE.dead, .lst [.loc st.length, .loc (st.length + 2), .loc (st.length + 3)], .dead, .dead])[st.length + 1]? = some (.lst [.loc st.length, .loc (st.length + 2), .loc (st.length + 3)]) := Yr _ _ 1
 have h7 : (st ++ [AE.dead, .lst [.loc st.length, .loc (st.length + 2), .loc (st.length + 3)], .dead, .dead]).set (st.length + 1) .dead = st ++ [.dead, .dead, .dead, .dead] := zbd _ _ 1 _
 exact fz2_l (σ1 := ⟨sl, _⟩) h1 (zax (fz1_l h2 h3) (zax (fz1_l h4 h5) (zax (fz1_l h8 h9) rfl))) h6 rfl h7
theorem pieces_of {last : Bool} {D : List AE} {v : List AV} {N : Int} (hl : body.length <= 800)
  (hw : zL (pcS st ([40, 63, 115, 58] ++ body ++ [41, 92, 90]) body 0 false false (L1 st []) true none) = some (.next, pcS st ([40, 63, 115, 58] ++ body ++ [41, 92, 90]) body body.length false last L true j7))
  (hln : ∀ sl, yn ⟨sl, st ++ L⟩ [.loc (st.length + 1)] = some (.int N)) (hlast : decide (1 < N) = last) (hfz : ∀ sl, fz2 ⟨sl, st ++ L⟩ (.loc (st.length + 1)) = some (.lst v, ⟨sl, st ++ D⟩)) (hlow : AV.lowers st.length v = true) :
  zG [.str ([40, 63, 115, 58] ++ body ++ [41, 92, 90])] st = some (.lst v, st) := by
 generalize ht : [40, 63, 115, 58] ++ body ++ [41, 92, 90] = text at hw ⊢
 have htl : text.length = body.length + 7 := by rw [<- ht]; first | (simp; done) | (simp; omega)
 have c4 : clipAt text.length 4 = 4 := (clip_nat text.length 4).trans (Nat.min_eq_left (by rw [htl]; exact Nat.le_add_left 4 (body.length + 3)))
 have c3 : clipAt text.length (-3) = body.length + 4 := clip_neg (k := 3) htl (by decide)
 have k1 : ∀ {σ : St}, Zy σ (some 4) (some (-3)) (.str text) = some (.str body) := fun {σ} => by
  rw [q_cutS (by omega)]
  simp only [YB, Option.elim, c4, c3, Nat.add_sub_cancel]
  rw [<- ht]
  show some (AV.str (List.take body.length (body ++ [41, 92, 90]))) = _
  rw [List.take_left]
 have k2 : ∀ {σ : St}, Zy σ none (some 4) (.str text) = some (.str [40, 63, 115, 58]) := fun {σ} => by
  rw [q_cutS (by omega)]
  simp only [YB, Option.elim, c4, List.drop_zero, Nat.sub_zero]
  rw [<- ht]; rfl
 have k3 : ∀ {σ : St}, Zy σ (some (-3)) none (.str text) = some (.str [41, 92, 90]) := fun {σ} => by
  rw [q_cutS (by omega)]
  simp only [YB, Option.elim, c3]
  rw [<- ht, List.drop_left' (by first | (simp; done) | (simp; omega)), List.take_of_length_le (by first | (simp; done) | (simp; omega))]
 have hm : ∀ sl : List (Option AV), Zc (zd (Zc (PM.ok [])) (PM.ok [])) ⟨sl, st⟩ = some (.loc (st.length + 1), (⟨sl, st ++ L1 st []⟩ : St)) := by
  intro sl
  show some (AV.loc (st ++ [AE.lst []]).length, (⟨sl, (st ++ [AE.lst []]) ++ [AE.lst [.loc st.length]]⟩ : St)) = _
  rw [List.append_assoc, List.length_append]; rfl
 have hgt : ∀ {σ : St}, gtF σ (.int N) (.int 1) = some last := fun {_} => congrArg some hlast
 have heb : ∀ {σ : St}, eqD σ (.bool last) (.bool last) = some true := fun {_} => congrArg some (by cases last <;> rfl)
 refine Yk (e := D) (σ' := ⟨(pcS st text body body.length false last L true j7).sl, st ++ D⟩) (fl := .ret (.lst v)) (?_ : Xa _ = _) rfl rfl rfl hlow
 unfold Xa
 exists hm _, k1, k2, k3, eqS_t rfl, hw, hln _, hgt, heb, hfz _
theorem pieces_of1 (hl : body.length <= 800) (hw : zL (pcS st ([40, 63, 115, 58] ++ body ++ [41, 92, 90]) body 0 false false (L1 st []) true none) = some (.next, pcS st ([40, 63, 115, 58] ++ body ++ [41, 92, 90]) body body.length false false (L1 st A) true j7)) (hlow : AV.lowers st.length [.lst A] = true) :
  zG [.str ([40, 63, 115, 58] ++ body ++ [41, 92, 90])] st = some (.lst [.lst A], st) := pieces_of (N := 1) hl hw (fun sl => q_len (l := [.loc st.length]) (Yr _ _ 1) (lb)) rfl fz_1 hlow
theorem Yw (hl : body.length <= 800) (hw : zL (pcS st ([40, 63, 115, 58] ++ body ++ [41, 92, 90]) body 0 false false (L1 st []) true none) = some (.next, pcS st ([40, 63, 115, 58] ++ body ++ [41, 92, 90]) body body.length false true (L2 st A B) true j7)) (hlow : AV.lowers st.length [.lst A, .lst B] = true) :
  zG [.str ([40, 63, 115, 58] ++ body ++ [41, 92, 90])] st = some (.lst [.lst A, .lst B], st) := pieces_of (N := 2) hl hw (fun sl => q_len (l := [.loc st.length, .loc (st.length + 2)]) (Yr _ _ 1) (lb)) rfl fz_2 hlow
theorem pieces_of3 (hl : body.length <= 800) (hw : zL (pcS st ([40, 63, 115, 58] ++ body ++ [41, 92, 90]) body 0 false false (L1 st []) true none) = some (.next, pcS st ([40, 63, 115, 58] ++ body ++ [41, 92, 90]) body body.length false true (L3 st A B C) true j7)) (hlow : AV.lowers st.length [.lst A, .lst B, .lst C] = true) :
  zG [.str ([40, 63, 115, 58] ++ body ++ [41, 92, 90])] st = some (.lst [.lst A, .lst B, .lst C], st) := pieces_of (N := 3) hl hw (fun sl => q_len (l := [.loc st.length, .loc (st.length + 2), .loc (st.length + 3)]) (Yr _ _ 1) (lb)) rfl fz_3 hlow
end
theorem jA_lower (n : Nat) (j : J) : AV.lower n (jA j) = true := by cases j <;> rfl
theorem pc_xxx {st : List AE} {text body : List Nat} {a b : Nat} (ha : 34 <= a /\ a <= 126) (hb : 34 <= b /\ b <= 126) (k1 : Nat) (hk1 : k1 < 6) (sk1 : yf k1 = false) (k2 : Nat) (hk2 : k2 < 6) (sk2 : yf k2 = false) (k3 : Nat) (hk3 : k3 < 6) (sk3 : yf k3 = false) (hbd : body = pT a b k1 ++ pT a b k2 ++ pT a b k3) (hl : body.length <= 900) :
  ∃ j7, zL (pcS st text body 0 false false (L1 st []) true none) = some (.next, pcS st text body body.length false false (L1 st [jA (jK a b k1), jA (jK a b k2), jA (jK a b k3)]) true j7) := by
 have d0 : body.drop 0 = pT a b k1 ++ (pT a b k2 ++ (pT a b k3 ++ [])) := by rw [List.drop_zero, hbd]; simp only [List.append_assoc, List.append_nil]
 have d1 : body.drop (0 + (pT a b k1).length) = pT a b k2 ++ (pT a b k3 ++ []) := Zx d0
 have d2 : body.drop (0 + (pT a b k1).length + (pT a b k2).length) = pT a b k3 ++ [] := Zx d1
 have he : 0 + (pT a b k1).length + (pT a b k2).length + (pT a b k3).length = body.length := by rw [hbd]; simp only [List.length_append, List.length_cons, List.length_nil] <;> omega
 show ∃ j7, zA zx zq (99996 + 1 + 1 + 1 + 1) _ = _
 rw [XZ (Yx ha hb hk1 sk1 hl d0 (pT_nx a b k2 _) (by simp)), XZ (Yx ha hb hk2 sk2 hl d1 (pT_nx a b k3 _) (by simp)), XZ (Yx ha hb hk3 sk3 hl d2 (by simp) (by simp)), he, YH (QU hl)]
 exact ⟨_, rfl⟩
theorem read_xxx {st : List AE} {a b : Nat} (ha : 34 <= a /\ a <= 126) (hb : 34 <= b /\ b <= 126) (k1 : Nat) (hk1 : k1 < 6) (sk1 : yf k1 = false) (k2 : Nat) (hk2 : k2 < 6) (sk2 : yf k2 = false) (k3 : Nat) (hk3 : k3 < 6) (sk3 : yf k3 = false) (hl : (pT a b k1 ++ pT a b k2 ++ pT a b k3).length <= 800) : zG [.str ([40, 63, 115, 58] ++ (pT a b k1 ++ pT a b k2 ++ pT a b k3) ++ [41, 92, 90])] st = some (.lst [.lst [jA (jK a b k1), jA (jK a b k2), jA (jK a b k3)]], st) := by
 obtain ⟨j7, hw⟩ := pc_xxx (st := st) (text := [40, 63, 115, 58] ++ (pT a b k1 ++ pT a b k2 ++ pT a b k3) ++ [41, 92, 90]) ha hb k1 hk1 sk1 k2 hk2 sk2 k3 hk3 sk3 rfl (by omega)
 exact pieces_of1 hl hw (by simp only [AV.lowers, AV.lower, jA_lower, Bool.and_self])
theorem pc_xxS {st : List AE} {text body : List Nat} {a b : Nat} (ha : 34 <= a /\ a <= 126) (hb : 34 <= b /\ b <= 126) (k1 : Nat) (hk1 : k1 < 6) (sk1 : yf k1 = false) (k2 : Nat) (hk2 : k2 < 6) (sk2 : yf k2 = false) (hbd : body = pT a b k1 ++ pT a b k2 ++ [46, 42]) (hl : body.length <= 900) :
  ∃ j7, zL (pcS st text body 0 false false (L1 st []) true none) = some (.next, pcS st text body body.length false true (L2 st [jA (jK a b k1), jA (jK a b k2)] []) true j7) := by
 have d0 : body.drop 0 = pT a b k1 ++ (pT a b k2 ++ ([46, 42] ++ [])) := by rw [List.drop_zero, hbd]; simp only [List.append_assoc, List.append_nil]
 have d1 : body.drop (0 + (pT a b k1).length) = pT a b k2 ++ ([46, 42] ++ []) := Zx d0
 have d2 : body.drop (0 + (pT a b k1).length + (pT a b k2).length) = [46, 42] ++ [] := Zx d1
 have he : 0 + (pT a b k1).length + (pT a b k2).length + 2 = body.length := by rw [hbd]; simp only [List.length_append, List.length_cons, List.length_nil] <;> omega
 show ∃ j7, zA zx zq (99996 + 1 + 1 + 1 + 1) _ = _
 rw [XZ (Yx ha hb hk1 sk1 hl d0 (pT_nx a b k2 _) (by simp)), XZ (Yx ha hb hk2 sk2 hl d1 (by simp) (by simp)), XZ (Qm hl d2), he, YH (QU hl)]
 exact ⟨_, rfl⟩
theorem read_xxS {st : List AE} {a b : Nat} (ha : 34 <= a /\ a <= 126) (hb : 34 <= b /\ b <= 126) (k1 : Nat) (hk1 : k1 < 6) (sk1 : yf k1 = false) (k2 : Nat) (hk2 : k2 < 6) (sk2 : yf k2 = false) (hl : (pT a b k1 ++ pT a b k2 ++ [46, 42]).length <= 800) : zG [.str ([40, 63, 115, 58] ++ (pT a b k1 ++ pT a b k2 ++ [46, 42]) ++ [41, 92, 90])] st = some (.lst [.lst [jA (jK a b k1), jA (jK a b k2)], .lst []], st) := by
 obtain ⟨j7, hw⟩ := pc_xxS (st := st) (text := [40, 63, 115, 58] ++ (pT a b k1 ++ pT a b k2 ++ [46, 42]) ++ [41, 92, 90]) ha hb k1 hk1 sk1 k2 hk2 sk2 rfl (by omega)
 exact Yw hl hw (by simp only [AV.lowers, AV.lower, jA_lower, Bool.and_self])
theorem pc_xSx {st : List AE} {text body : List Nat} {a b : Nat} (ha : 34 <= a /\ a <= 126) (hb : 34 <= b /\ b <= 126) (k1 : Nat) (hk1 : k1 < 6) (sk1 : yf k1 = false) (k2 : Nat) (hk2 : k2 < 6) (sk2 : yf k2 = false) (hbd : body = pT a b k1 ++ [46, 42] ++ pT a b k2) (hl : body.length <= 900) :
  ∃ j7, zL (pcS st text body 0 false false (L1 st []) true none) = some (.next, pcS st text body body.length false true (L2 st [jA (jK a b k1)] [jA (jK a b k2)]) true j7) := by
 have d0 : body.drop 0 = pT a b k1 ++ ([46, 42] ++ (pT a b k2 ++ [])) := by rw [List.drop_zero, hbd]; simp only [List.append_assoc, List.append_nil]
 have d1 : body.drop (0 + (pT a b k1).length) = [46, 42] ++ (pT a b k2 ++ []) := Zx d0
 have d2 : body.drop (0 + (pT a b k1).length + 2) = pT a b k2 ++ [] := Zx d1
 have he : 0 + (pT a b k1).length + 2 + (pT a b k2).length = body.length := by rw [hbd]; simp only [List.length_append, List.length_cons, List.length_nil] <;> omega
 show ∃ j7, zA zx zq (99996 + 1 + 1 + 1 + 1) _ = _
 rw [XZ (Yx ha hb hk1 sk1 hl d0 (by simp) (by simp)), XZ (Qm hl d1), XZ (Qn (by simp) ha hb hk2 sk2 hl d2 (by simp) (by simp)), he, YH (QU hl)]
 exact ⟨_, rfl⟩
theorem read_xSx {st : List AE} {a b : Nat} (ha : 34 <= a /\ a <= 126) (hb : 34 <= b /\ b <= 126) (k1 : Nat) (hk1 : k1 < 6) (sk1 : yf k1 = false) (k2 : Nat) (hk2 : k2 < 6) (sk2 : yf k2 = false) (hl : (pT a b k1 ++ [46, 42] ++ pT a b k2).length <= 800) : zG [.str ([40, 63, 115, 58] ++ (pT a b k1 ++ [46, 42] ++ pT a b k2) ++ [41, 92, 90])] st = some (.lst [.lst [jA (jK a b k1)], .lst [jA (jK a b k2)]], st) := by
 obtain ⟨j7, hw⟩ := pc_xSx (st := st) (text := [40, 63, 115, 58] ++ (pT a b k1 ++ [46, 42] ++ pT a b k2) ++ [41, 92, 90]) ha hb k1 hk1 sk1 k2 hk2 sk2 rfl (by omega)
 exact Yw hl hw (by simp only [AV.lowers, AV.lower, jA_lower, Bool.and_self])
theorem pc_Sxx {st : List AE} {text body : List Nat} {a b : Nat} (ha : 34 <= a /\ a <= 126) (hb : 34 <= b /\ b <= 126) (k1 : Nat) (hk1 : k1 < 6) (sk1 : yf k1 = false) (k2 : Nat) (hk2 : k2 < 6) (sk2 : yf k2 = false) (hbd : body = [46, 42] ++ (pT a b k1 ++ pT a b k2)) (hl : body.length <= 900) :
  ∃ j7, zL (pcS st text body 0 false false (L1 st []) true none) = some (.next, pcS st text body body.length false true (L2 st [] [jA (jK a b k1), jA (jK a b k2)]) true j7) := by
 have d0 : body.drop 0 = [46, 42] ++ (pT a b k1 ++ (pT a b k2 ++ [])) := by rw [List.drop_zero, hbd]; simp only [List.append_assoc, List.append_nil]
 have d1 : body.drop (0 + 2) = pT a b k1 ++ (pT a b k2 ++ []) := Zx d0
 have d2 : body.drop (0 + 2 + (pT a b k1).length) = pT a b k2 ++ [] := Zx d1
 have he : 0 + 2 + (pT a b k1).length + (pT a b k2).length = body.length := by rw [hbd]; simp only [List.length_append, List.length_cons, List.length_nil] <;> omega
 show ∃ j7, zA zx zq (99996 + 1 + 1 + 1 + 1) _ = _
 rw [XZ (Qm hl d0), XZ (Qn (by simp) ha hb hk1 sk1 hl d1 (pT_nx a b k2 _) (by simp)), XZ (Qn (by simp) ha hb hk2 sk2 hl d2 (by simp) (by simp)), he, YH (QU hl)]
 exact ⟨_, rfl⟩
theorem read_Sxx {st : List AE} {a b : Nat} (ha : 34 <= a /\ a <= 126) (hb : 34 <= b /\ b <= 126) (k1 : Nat) (hk1 : k1 < 6) (sk1 : yf k1 = false) (k2 : Nat) (hk2 : k2 < 6) (sk2 : yf k2 = false) (hl : ([46, 42] ++ (pT a b k1 ++ pT a b k2)).length <= 800) : zG [.str ([40, 63, 115, 58] ++ ([46, 42] ++ (pT a b k1 ++ pT a b k2)) ++ [41, 92, 90])] st = some (.lst [.lst [], .lst [jA (jK a b k1), jA (jK a b k2)]], st) := by
 obtain ⟨j7, hw⟩ := pc_Sxx (st := st) (text := [40, 63, 115, 58] ++ ([46, 42] ++ (pT a b k1 ++ pT a b k2)) ++ [41, 92, 90]) ha hb k1 hk1 sk1 k2 hk2 sk2 rfl (by omega)
 exact Yw hl hw (by simp only [AV.lowers, AV.lower, jA_lower, Bool.and_self])
theorem pc_xS {st : List AE} {text body : List Nat} {a b : Nat} (ha : 34 <= a /\ a <= 126) (hb : 34 <= b /\ b <= 126) (k1 : Nat) (hk1 : k1 < 6) (sk1 : yf k1 = false) (hbd : body = pT a b k1 ++ [46, 42]) (hl : body.length <= 900) :
  ∃ j7, zL (pcS st text body 0 false false (L1 st []) true none) = some (.next, pcS st text body body.length false true (L2 st [jA (jK a b k1)] []) true j7) := by
 have d0 : body.drop 0 = pT a b k1 ++ ([46, 42] ++ []) := by rw [List.drop_zero, hbd]; simp only [List.append_assoc, List.append_nil]
 have d1 : body.drop (0 + (pT a b k1).length) = [46, 42] ++ [] := Zx d0
 have he : 0 + (pT a b k1).length + 2 = body.length := by rw [hbd]; simp only [List.length_append, List.length_cons, List.length_nil] <;> omega
 show ∃ j7, zA zx zq (99997 + 1 + 1 + 1) _ = _
 rw [XZ (Yx ha hb hk1 sk1 hl d0 (by simp) (by simp)), XZ (Qm hl d1), he, YH (QU hl)]
 exact ⟨_, rfl⟩
theorem read_xS {st : List AE} {a b : Nat} (ha : 34 <= a /\ a <= 126) (hb : 34 <= b /\ b <= 126) (k1 : Nat) (hk1 : k1 < 6) (sk1 : yf k1 = false) (hl : (pT a b k1 ++ [46, 42]).length <= 800) : zG [.str ([40, 63, 115, 58] ++ (pT a b k1 ++ [46, 42]) ++ [41, 92, 90])] st = some (.lst [.lst [jA (jK a b k1)], .lst []], st) := by
 obtain ⟨j7, hw⟩ := pc_xS (st := st) (text := [40, 63, 115, 58] ++ (pT a b k1 ++ [46, 42]) ++ [41, 92, 90]) ha hb k1 hk1 sk1 rfl (by omega)
 exact Yw hl hw (by simp only [AV.lowers, AV.lower, jA_lower, Bool.and_self])
theorem pc_SxS {st : List AE} {text body : List Nat} {a b : Nat} (ha : 34 <= a /\ a <= 126) (hb : 34 <= b /\ b <= 126) (k1 : Nat) (hk1 : k1 < 6) (sk1 : yf k1 = false) (hbd : body = ([40, 63, 62, 46, 42, 63] ++ pT a b k1 ++ [41]) ++ [46, 42]) (hl : body.length <= 900) :
  ∃ j7, zL (pcS st text body 0 false false (L1 st []) true none) = some (.next, pcS st text body body.length false true (L3 st [] [jA (jK a b k1)] []) true j7) := by
 have d0 : body.drop 0 = [40, 63, 62, 46, 42, 63] ++ (pT a b k1 ++ ([41] ++ ([46, 42] ++ []))) := by rw [List.drop_zero, hbd]; simp only [List.append_assoc, List.append_nil]
 have d1 : body.drop (0 + 6) = pT a b k1 ++ ([41] ++ ([46, 42] ++ [])) := Zx d0
 have d2 : body.drop (0 + 6 + (pT a b k1).length) = [41] ++ ([46, 42] ++ []) := Zx d1
 have d3 : body.drop (0 + 6 + (pT a b k1).length + 1) = [46, 42] ++ [] := Zx d2
 have he : 0 + 6 + (pT a b k1).length + 1 + 2 = body.length := by rw [hbd]; simp only [List.length_append, List.length_cons, List.length_nil] <;> omega
 show ∃ j7, zA zx zq (99995 + 1 + 1 + 1 + 1 + 1) _ = _
 rw [XZ (pc_open hl d0), XZ (Qn (by simp) ha hb hk1 sk1 hl d1 (by simp) (by simp)), XZ (pc_close hl d2), XZ (pc_star2 hl d3), he, YH (QU hl)]
 exact ⟨_, rfl⟩
theorem read_SxS {st : List AE} {a b : Nat} (ha : 34 <= a /\ a <= 126) (hb : 34 <= b /\ b <= 126) (k1 : Nat) (hk1 : k1 < 6) (sk1 : yf k1 = false) (hl : (([40, 63, 62, 46, 42, 63] ++ pT a b k1 ++ [41]) ++ [46, 42]).length <= 800) : zG [.str ([40, 63, 115, 58] ++ (([40, 63, 62, 46, 42, 63] ++ pT a b k1 ++ [41]) ++ [46, 42]) ++ [41, 92, 90])] st = some (.lst [.lst [], .lst [jA (jK a b k1)], .lst []], st) := by
 obtain ⟨j7, hw⟩ := pc_SxS (st := st) (text := [40, 63, 115, 58] ++ (([40, 63, 62, 46, 42, 63] ++ pT a b k1 ++ [41]) ++ [46, 42]) ++ [41, 92, 90]) ha hb k1 hk1 sk1 rfl (by omega)
 exact pieces_of3 hl hw (by simp only [AV.lowers, AV.lower, jA_lower, Bool.and_self])
theorem pc_Sx {st : List AE} {text body : List Nat} {a b : Nat} (ha : 34 <= a /\ a <= 126) (hb : 34 <= b /\ b <= 126) (k1 : Nat) (hk1 : k1 < 6) (sk1 : yf k1 = false) (hbd : body = [46, 42] ++ pT a b k1) (hl : body.length <= 900) :
  ∃ j7, zL (pcS st text body 0 false false (L1 st []) true none) = some (.next, pcS st text body body.length false true (L2 st [] [jA (jK a b k1)]) true j7) := by
 have d0 : body.drop 0 = [46, 42] ++ (pT a b k1 ++ []) := by rw [List.drop_zero, hbd]; simp only [List.append_assoc, List.append_nil]
 have d1 : body.drop (0 + 2) = pT a b k1 ++ [] := Zx d0
 have he : 0 + 2 + (pT a b k1).length = body.length := by rw [hbd]; simp only [List.length_append, List.length_cons, List.length_nil] <;> omega
 show ∃ j7, zA zx zq (99997 + 1 + 1 + 1) _ = _
 rw [XZ (Qm hl d0), XZ (Qn (by simp) ha hb hk1 sk1 hl d1 (by simp) (by simp)), he, YH (QU hl)]
 exact ⟨_, rfl⟩
theorem read_Sx {st : List AE} {a b : Nat} (ha : 34 <= a /\ a <= 126) (hb : 34 <= b /\ b <= 126) (k1 : Nat) (hk1 : k1 < 6) (sk1 : yf k1 = false) (hl : ([46, 42] ++ pT a b k1).length <= 800) : zG [.str ([40, 63, 115, 58] ++ ([46, 42] ++ pT a b k1) ++ [41, 92, 90])] st = some (.lst [.lst [], .lst [jA (jK a b k1)]], st) := by
 obtain ⟨j7, hw⟩ := pc_Sx (st := st) (text := [40, 63, 115, 58] ++ ([46, 42] ++ pT a b k1) ++ [41, 92, 90]) ha hb k1 hk1 sk1 rfl (by omega)
 exact Yw hl hw (by simp only [AV.lowers, AV.lower, jA_lower, Bool.and_self])
theorem pc_S {st : List AE} {text body : List Nat} {a b : Nat} (ha : 34 <= a /\ a <= 126) (hb : 34 <= b /\ b <= 126)  (hbd : body = [46, 42]) (hl : body.length <= 900) :
  ∃ j7, zL (pcS st text body 0 false false (L1 st []) true none) = some (.next, pcS st text body body.length false true (L2 st [] []) true j7) := by
 have d0 : body.drop 0 = [46, 42] ++ [] := by rw [List.drop_zero, hbd]; simp only [List.append_assoc, List.append_nil]
 have he : 0 + 2 = body.length := by rw [hbd]; simp only [List.length_append, List.length_cons, List.length_nil] <;> omega
 show ∃ j7, zA zx zq (99998 + 1 + 1) _ = _
 rw [XZ (Qm hl d0), he, YH (QU hl)]
 exact ⟨_, rfl⟩
theorem read_S {st : List AE} {a b : Nat} (ha : 34 <= a /\ a <= 126) (hb : 34 <= b /\ b <= 126)  (hl : ([46, 42]).length <= 800) : zG [.str ([40, 63, 115, 58] ++ ([46, 42]) ++ [41, 92, 90])] st = some (.lst [.lst [], .lst []], st) := by
 obtain ⟨j7, hw⟩ := pc_S (st := st) (text := [40, 63, 115, 58] ++ ([46, 42]) ++ [41, 92, 90]) ha hb  rfl (by omega)
 exact Yw hl hw (by simp only [AV.lowers, AV.lower, jA_lower, Bool.and_self])
section
variable {st : List AE} {pat : List Nat} {a b : Nat}
theorem YF {l : List AV} {T : List Nat} (h1 : φ_tr [.str pat, .loc st.length, .str [46]] (st ++ [.obj]) = some (.lst l, st ++ [.obj])) (h2 : zm [.lst l, .loc st.length] (st ++ [.obj]) = some (.str T, st ++ [.obj])) :
  Yc [.str pat] st = some (.str T, st) := by
 refine Yk (e := [.obj]) (σ' := ⟨[some (.str pat), some (.loc st.length), some (.lst l)], st ++ [.obj]⟩) (fl := .ret (.str T)) (?_ : XE _ = _) rfl rfl rfl rfl
 have ho : ∀ sl, objM ⟨sl, st⟩ = some (.loc st.length, (⟨sl, st ++ [.obj]⟩ : St)) := fun _ => rfl
 unfold XE
 exists ho _, h1, h2
theorem pT_len (a b k : Nat) : (pT a b k).length <= 6 := by
 have h2 : ∀ x, (e2 x).length <= 2 := fun x => by unfold e2; split <;> exact lb
 have h4 : ∀ x, (e4 x).length <= 2 := fun x => by unfold e4; split <;> exact lb
 have := h2 a; have := h2 b; have := h4 a
 unfold pT
 split
 ·decide
 ·split
  ·simp [R2]; omega
  ·split <;> simp [R2, R4] <;> omega
theorem kd_len (a b k : Nat) : (kd a b k).1.length <= 4 := by unfold kd; split <;> simp
theorem trans_read (ha : 34 <= a /\ a <= 126) (hb : 34 <= b /\ b <= 126) {k1 k2 k3 : Nat} (h1 : k1 < 6) (h2 : k2 < 6) (h3 : k3 < 6) (hp : pat = ([k1, k2, k3].map fun k => (kd a b k).1).flatten) :
  ∃ T, Yc [.str pat] st = some (.str T, st) /\ zG [.str T] st = some (.lst (psA ((zU [k1, k2, k3]).map (List.map (jK a b)))), st) := by
 have hk : ∀ k ∈ [k1, k2, k3], k < 6 := fun k hk => by
  rcases List.mem_cons.mp hk with rfl | hk
  ·exact h1
  ·rcases List.mem_cons.mp hk with rfl | hk
   ·exact h2
   ·rw [List.mem_singleton.mp hk]; exact h3
 have hpl : pat.length <= 900 := by
  have := kd_len a b k1; have := kd_len a b k2; have := kd_len a b k3
  rw [hp]; simp; omega
 have htr := tr_eq (st := st ++ [.obj]) (s := st.length) ha hb hk (lb) hp hpl (Zm _ _)
 have l1 := pT_len a b k1
 have l2 := pT_len a b k2
 have l3 := pT_len a b k3
 cases s1 : yf k1 <;> cases s2 : yf k2 <;> cases s3 : yf k3
 ·have e : [k1, k2, k3].foldl yB [] = [some k1, some k2, some k3] := by simp [yB, s1, s2, s3]
  have e' : zU [k1, k2, k3] = [[k1, k2, k3]] := by simp [zU, s1, s2, s3]
  rw [e] at htr; rw [e']
  exact ⟨_, YF htr (join_xxx _ _ _ (by omega) (by omega) (by omega)), read_xxx ha hb k1 h1 s1 k2 h2 s2 k3 h3 s3 (by simp; omega)⟩
 ·have e : [k1, k2, k3].foldl yB [] = [some k1, some k2, none] := by simp [yB, s1, s2, s3]
  have e' : zU [k1, k2, k3] = [[k1, k2], []] := by simp [zU, s1, s2, s3]
  rw [e] at htr; rw [e']
  exact ⟨_, YF htr (join_xxS _ _ (by omega) (by omega)), read_xxS ha hb k1 h1 s1 k2 h2 s2 (by simp; omega)⟩
 ·have e : [k1, k2, k3].foldl yB [] = [some k1, none, some k3] := by simp [yB, s1, s2, s3]
  have e' : zU [k1, k2, k3] = [[k1], [k3]] := by simp [zU, s1, s2, s3]
  rw [e] at htr; rw [e']
  exact ⟨_, YF htr (join_xSx _ _ (by omega) (by omega)), read_xSx ha hb k1 h1 s1 k3 h3 s3 (by simp; omega)⟩
 ·have e : [k1, k2, k3].foldl yB [] = [some k1, none] := by simp [yB, s1, s2, s3]
  have e' : zU [k1, k2, k3] = [[k1], []] := by simp [zU, s1, s2, s3]
  rw [e] at htr; rw [e']
  exact ⟨_, YF htr (join_xS _ (by omega)), read_xS ha hb k1 h1 s1 (by simp; omega)⟩
 ·have e : [k1, k2, k3].foldl yB [] = [none, some k2, some k3] := by simp [yB, s1, s2, s3]
  have e' : zU [k1, k2, k3] = [[], [k2, k3]] := by simp [zU, s1, s2, s3]
  rw [e] at htr; rw [e']
  exact ⟨_, YF htr (join_Sxx _ _ (by omega) (by omega)), read_Sxx ha hb k2 h2 s2 k3 h3 s3 (by simp; omega)⟩
 ·have e : [k1, k2, k3].foldl yB [] = [none, some k2, none] := by simp [yB, s1, s2, s3]
  have e' : zU [k1, k2, k3] = [[], [k2], []] := by simp [zU, s1, s2, s3]
  rw [e] at htr; rw [e']
  exact ⟨_, YF htr (join_SxS _ (by omega)), read_SxS ha hb k2 h2 s2 (by simp; omega)⟩
 ·have e : [k1, k2, k3].foldl yB [] = [none, some k3] := by simp [yB, s1, s2, s3]
  have e' : zU [k1, k2, k3] = [[], [k3]] := by simp [zU, s1, s2, s3]
  rw [e] at htr; rw [e']
  exact ⟨_, YF htr (join_Sx _ (by omega)), read_Sx ha hb k3 h3 s3 (by simp; omega)⟩
 ·have e : [k1, k2, k3].foldl yB [] = [none] := by simp [yB, s1, s2, s3]
  have e' : zU [k1, k2, k3] = [[], []] := by simp [zU, s1, s2, s3]
  rw [e] at htr; rw [e']
  exact ⟨_, YF htr join_S, read_S ha hb (by simp)⟩
end
noncomputable def yE (n : Nat) : List Nat := [n / 1 % 6, n / 6 % 6, n / 36 % 6]
noncomputable abbrev YL (a b : Nat) (ks : List Nat) : AV := .lst (ks.map fun k => itA (kd a b k))
section
variable {st : List AE} {a b n : Nat}
theorem kinds_at (σ : St) : ∀ {k : Nat}, k < 6 -> zn σ (.tup [itA (kd a b 0), itA (kd a b 1), itA (kd a b 2), itA (kd a b 3), itA (kd a b 4), itA (kd a b 5)]) (.int (k : Nat)) = some (itA (kd a b k))
 | 0, _ => rfl
 | 1, _ => rfl
 | 2, _ => rfl
 | 3, _ => rfl
 | 4, _ => rfl
 | 5, _ => rfl
 | _ + 6, h => absurd h (by omega)
theorem q_div {σ : St} {x d : Nat} (h : 0 < d /\ d < 1000000000) : divF σ (.int x) (.int d) = some (.int (x / d : Nat)) := by
 show (if 0 < (d : Int) /\ (d : Int) < 1000000000 then some (AV.int ((x : Int).fdiv d)) else Option.none) = _
 rw [if_pos (by omega), Int.fdiv_eq_ediv_of_nonneg _ (by omega)]
 rfl
theorem q_mod {σ : St} {x d : Nat} (h : 0 < d) : modF σ (.int x) (.int d) = some (.int (x % d : Nat)) := by
 show (if 0 < (d : Int) then some (AV.int ((x : Int).fmod d)) else Option.none) = _
 rw [if_pos (by omega), Int.fmod_eq_emod_of_nonneg _ (by omega)]
 rfl
theorem items_eq (hn : n < 1000000000) : YU [.int n, .str [a], .str [b]] st = some (YL a b (yE n), st) := by
 have e0 : YL a b (yE n) = .lst (([0, 1, 2] : List Nat).map fun p => itA (kd a b (n / 6 ^ p % 6))) := rfl
 rw [e0]
 refine yq (σ' := ⟨[some (.int n), some (.str [a]), some (.str [b]), some (.tup [itA (kd a b 0), itA (kd a b 1), itA (kd a b 2), itA (kd a b 3), itA (kd a b 4), itA (kd a b 5)]), none, none], st⟩) (fl := .ret (.lst (([0, 1, 2] : List Nat).map fun p => itA (kd a b (n / 6 ^ p % 6))))) (?_ : XG _ = _) rfl rfl rfl
 have hc : ∀ σ : St, σ = ⟨[some (.int n), some (.str [a]), some (.str [b]), some (.tup [itA (kd a b 0), itA (kd a b 1), itA (kd a b 2), itA (kd a b 3), itA (kd a b 4), itA (kd a b 5)]), none, none], st⟩ -> lcK false (zP [4, 5] (rngM (zd (PM.ok (.int 3)) (PM.ok []))) (.one 5) (PM.ok true) (PM.bd (zk zn (za 3) (zk modF (zk divF (za 0) (zk powF (PM.ok (.int 6)) (za 5))) (PM.ok (.int 6)))) fun y => PM.ok [y])) σ = some (.lst (([0, 1, 2] : List Nat).map fun p => itA (kd a b (n / 6 ^ p % 6))), σ) := by
  rintro _ rfl
  refine Zw (T := Option AV × Option AV) (fun t => ⟨[some (.int n), some (.str [a]), some (.str [b]), some (.tup [itA (kd a b 0), itA (kd a b 1), itA (kd a b 2), itA (kd a b 3), itA (kd a b 4), itA (kd a b 5)]), t.1, t.2], st⟩) (t0 := (none, none)) (items := [0, 1, 2]) (fun p : Nat => .int (p : Nat)) _ (zt (zI zl yK) (ZJ rfl)) (fun p hp t => ⟨(t.1, some (.int (p : Nat))), (t.1, some (.int (p : Nat))), rfl, ?_⟩) (by decide) (fun _ => rfl)
  have hp3 : p < 3 := by
   have : ∀ p ∈ [0, 1, 2], p < 3 := by decide
   exact this p hp
  have hpow : ∀ {σ : St}, powF σ (.int 6) (.int (p : Nat)) = some (.int (6 ^ p : Nat)) := fun {_} => by
   show (if 0 <= (p : Int) /\ (p : Int) <= 20 /\ (0 : Int) <= 6 /\ (6 : Int) <= 100 then some (AV.int ((6 : Int) ^ (p : Int).toNat)) else Option.none) = _
   rw [if_pos (by omega), Int.toNat_natCast, Int.natCast_pow]; rfl
  have hlt : 0 < 6 ^ p /\ 6 ^ p < 1000000000 := (by decide : ∀ p ∈ [0, 1, 2], 0 < 6 ^ p /\ 6 ^ p < 1000000000) p hp
  exists zl, hpow, q_div hlt, q_mod (by decide), kinds_at _ (Nat.mod_lt _ (by decide))
 unfold XG
 exists zl, hc _ rfl
end
noncomputable def N8 (a b : Nat) : NL := [[a, a, a], [a, a, b], [a, b, a], [a, b, b], [b, a, a], [b, a, b], [b, b, a], [b, b, b]]
noncomputable def W8 (n : Nat) : List Int := ([0, 1, 2, 3, 4, 5, 6, 7] : List Nat).map fun p => ((n / 4 ^ p % 4 + 1 : Nat) : Int)
section
variable {a b n : Nat}
theorem N8_srt (h : a < b) : Srt (N8 a b) := by
 simp [N8, ltN, List.cons_lt_cons_iff, h]
theorem N8_bits : ∀ x ∈ N8 a b, ∃ u v w, x = [u, v, w].map (chr2 a b) := by
 intro x hx
 simp only [N8, List.mem_cons, List.not_mem_nil, or_false] at hx
 rcases hx with rfl | rfl | rfl | rfl | rfl | rfl | rfl | rfl
 ·exact ⟨false, false, false, rfl⟩
 ·exact ⟨false, false, true, rfl⟩
 ·exact ⟨false, true, false, rfl⟩
 ·exact ⟨false, true, true, rfl⟩
 ·exact ⟨true, false, false, rfl⟩
 ·exact ⟨true, false, true, rfl⟩
 ·exact ⟨true, true, false, rfl⟩
 ·exact ⟨true, true, true, rfl⟩
theorem N8_ok (ha : a <= 126) (hb : b <= 126) (x : List Nat) (hx : x ∈ N8 a b) : okS x /\ (∀ c ∈ x, c < 128) /\ x.length = 3 := by
 obtain ⟨u, v, w, rfl⟩ := N8_bits x hx
 have h : ∀ c ∈ [u, v, w].map (chr2 a b), c <= 126 := fun c hc => by
  obtain ⟨t, _, rfl⟩ := List.mem_map.mp hc
  cases t with
  | false => exact ha
  | true => exact hb
 exact ⟨fun c m => Nat.lt_of_le_of_lt (h c m) (by decide), fun c m => Nat.lt_of_le_of_lt (h c m) (by decide), rfl⟩
theorem lookD_zip : ∀ (l : NL) (w : List Int) (x : List Nat), l.length = w.length -> x ∈ l -> ∃ v ∈ w, lookD (l.zip w) x = some v
 | [], _, x, _, h => by cases h
 | k :: l, [], x, h, _ => by cases h
 | k :: l, v :: w, x, h, hx => by
  by_cases e : k = x
  ·exact ⟨v, List.mem_cons_self, by rw [List.zip_cons_cons, lookD, if_pos e]⟩
  ·obtain ⟨v', h1, h2⟩ := lookD_zip l w x (by simpa using h) ((List.mem_cons.mp hx).resolve_left fun h => e h.symm)
   exact ⟨v', List.mem_cons_of_mem _ h1, by rw [List.zip_cons_cons, lookD, if_neg e]; exact h2⟩
theorem W8_bd : ∀ v ∈ W8 n, 0 <= v /\ v <= 4 := by
 intro v hv
 obtain ⟨p, _, rfl⟩ := List.mem_map.mp hv
 have := Nat.mod_lt (n / 4 ^ p) (by decide : 0 < 4)
 omega
noncomputable def yF (a b n : Nat) : NL := (N8 a b).filter fun x => Yt (((yE n).map (kd a b)).map itG) x
theorem good (h : a < b) (hb : b <= 126) (n0 n1 n2 n3 n4 : Nat) : zco ((N8 a b).zip (W8 n0)) [yF a b n1, yF a b n2, yF a b n3, yF a b n4] := by
 have sub : ∀ l ∈ [yF a b n1, yF a b n2, yF a b n3, yF a b n4], ∃ n, l = yF a b n := fun l hl => by
  simp only [List.mem_cons, List.not_mem_nil, or_false] at hl
  rcases hl with rfl | rfl | rfl | rfl <;> exact ⟨_, rfl⟩
 refine ⟨rfl, fun l hl => ?_, fun l hl => ?_, fun l hl x hx => ?_, fun l hl x hx => ?_⟩ <;> obtain ⟨n, rfl⟩ := sub l hl
 ·exact (N8_srt h).sublist List.filter_sublist
 ·exact List.length_filter_le _ _
 ·exact (N8_ok (by omega) hb x (List.mem_filter.mp hx).1).1
 ·obtain ⟨v, h1, h2⟩ := lookD_zip (N8 a b) (W8 n0) x rfl (List.mem_filter.mp hx).1
  exact ⟨v, h2, W8_bd v h1⟩
end
section
variable {k : TgK} {tst : PM Bool} {inner : PM (List AV)} {σ σ1 σ2 σ3 σ4 : St} {x : AV} {xs ys zs : List AV}
theorem e_cR (h1 : asgM k x σ = some σ1) (h2 : tst σ1 = some (true, σ2)) (h3 : inner σ2 = some (ys, σ3)) (h4 : ZK k tst inner xs σ3 = some (zs, σ4)) : ZK k tst inner (x :: xs) σ = some (ys ++ zs, σ4) := by
 show (match asgM k x σ with | Option.none => Option.none | some σ₁ => _) = _
 rw [h1]
 exact zt h2 (zt h3 (zt h4 rfl))
theorem e_cN : ZK k tst inner [] σ = some ([], σ) := rfl
theorem e_cP {slots : List Nat} {it : PM (List AV)} (h1 : it σ = some (xs, σ1)) (h2 : ZK k tst inner xs σ1 = some (zs, σ2)) (h3 : decide (zs.length <= 1000) = true) : zP slots it k tst inner σ = some (zs, σ2.clr slots) := zt h1 (zt h2 (if_pos (of_decide_eq_true h3)))
theorem e_lcF {m : PM (List AV)} (h : m σ = some (xs, σ1)) : lcK false m σ = some (.lst xs, σ1) := zt h rfl
end
noncomputable def agS (st : List AE) (nums : AV) (v1 v2 v3 v4 v5 v6 v7 v8 t9 t10 t11 t12 t13 : Option AV) : St := ⟨[some nums, v1, v2, v3, v4, v5, v6, v7, v8, t9, t10, t11, t12, t13], st⟩
noncomputable abbrev ya (n0 n1 n2 n3 n4 : Nat) : AV := .lst [.int n0, .int n1, .int n2, .int n3, .int n4]
section
variable {st : List AE} {n0 n1 n2 n3 n4 a b : Nat} {v1 v2 v3 v4 v5 v6 v7 v8 : Option AV}
theorem cut1 {σ : St} : Zy σ (some 1) none (ya n0 n1 n2 n3 n4) = some (.lst (([n1, n2, n3, n4] : List Nat).map fun n => .int (n : Nat))) := rfl
theorem ag_start : (zk zQ (PM.ok (.int 34)) (zk modF (yL sumF (zd (lcK false (zP [9, 10] (Zh (.one 10) (ZR (za 0) (Zb (PM.ok (.int 1))) (PM.ok Option.none))) (.one 10) (PM.ok true) (PM.bd (zk divF (za 10) (PM.ok (.int 216))) fun y => PM.ok [y]))) (PM.ok []))) (PM.ok (.int 92)))) (agS st (ya n0 n1 n2 n3 n4) v1 v2 v3 v4 v5 v6 v7 v8 none none none none none)
  = some (.int (34 + (n1 / 216 + n2 / 216 + n3 / 216 + n4 / 216) % 92 : Nat), agS st (ya n0 n1 n2 n3 n4) v1 v2 v3 v4 v5 v6 v7 v8 none none none none none) := by
 have hc : lcK false (zP [9, 10] (Zh (.one 10) (ZR (za 0) (Zb (PM.ok (.int 1))) (PM.ok Option.none))) (.one 10) (PM.ok true) (PM.bd (zk divF (za 10) (PM.ok (.int 216))) fun y => PM.ok [y])) (agS st (ya n0 n1 n2 n3 n4) v1 v2 v3 v4 v5 v6 v7 v8 none none none none none) = some (.lst (([n1, n2, n3, n4] : List Nat).map fun n => .int ((n / 216 : Nat) : Int)), agS st (ya n0 n1 n2 n3 n4) v1 v2 v3 v4 v5 v6 v7 v8 none none none none none) := by
  refine Zw (T := Option AV × Option AV) (fun t => agS st (ya n0 n1 n2 n3 n4) v1 v2 v3 v4 v5 v6 v7 v8 t.1 t.2 none none none) (t0 := (none, none)) (fun n : Nat => .int (n : Nat)) _ (Ym (e_cut (zD rfl) (zcg zl) zl cut1)) (fun n hn t => ⟨(t.1, some (.int (n : Nat))), (t.1, some (.int (n : Nat))), rfl, ?_⟩) (lb) (fun _ => rfl)
  exact Zj (zD rfl) zl (q_div (d := 216) (by decide))
 have hs : ∀ {σ : St}, sumF σ [.lst (([n1, n2, n3, n4] : List Nat).map fun n => .int ((n / 216 : Nat) : Int))] = some (.int (n1 / 216 + n2 / 216 + n3 / 216 + n4 / 216 : Nat)) := fun {_} => by
  have e := Yy (fun n : Nat => ((n / 216 : Nat) : Int)) [n1, n2, n3, n4]
  refine (congrArg (Option.map fun is : List Int => AV.int is.sum) e).trans (congrArg some (congrArg AV.int ?_))
  simp only [List.map_cons, List.map_nil, List.sum_cons, List.sum_nil]
  omega
 refine Zj zl (Zj (zad (zI hc yK) hs) zl (q_mod (d := 92) (by decide))) (Qw ?_)
 omega
theorem chr_eq {σ : St} (ha : a <= 1000) : chrF σ [.int (a : Nat)] = some (.str [a]) := by
 show (if 0 <= (a : Int) /\ (a : Int) <= 1114111 then some (AV.str [(a : Int).toNat]) else Option.none) = _
 rw [if_pos (by omega), Int.toNat_natCast]
theorem ag_signs (ha : a <= 900) : (zk zQ (yL chrF (zd (za 1) (PM.ok []))) (yL chrF (zd (zk zQ (za 1) (PM.ok (.int 1))) (PM.ok [])))) (agS st (ya n0 n1 n2 n3 n4) (some (.int (a : Nat))) v2 v3 v4 v5 v6 v7 v8 none none none none none)
  = some (.str [a, a + 1], agS st (ya n0 n1 n2 n3 n4) (some (.int (a : Nat))) v2 v3 v4 v5 v6 v7 v8 none none none none none) :=
 Zj (zad (zI (zD rfl) yK) (chr_eq (by omega))) (zad (zI (Zj (zD rfl) zl rfl) yK) (chr_eq (a := a + 1) (by omega))) rfl
theorem sg_eq {σ : St} (ha : a < 128) (hb : b < 128) (h : σ.get 2 = some (.str [a, b])) : Xq (za 2) σ = some ([.str [a], .str [b]], σ) := by
 refine zt (zD h) (ZJ ?_)
 show (if [a, b].all (· < 128) = true then _ else _) = _
 rw [if_pos (by simp [ha, hb])]; rfl
theorem e_cR' {k : TgK} {tst : PM Bool} {inner : PM (List AV)} {σ σ1 σ2 σ3 σ4 : St} {x : AV} {xs ys zs ws : List AV} (h1 : asgM k x σ = some σ1) (h2 : tst σ1 = some (true, σ2)) (h3 : inner σ2 = some (ys, σ3)) (h4 : ZK k tst inner xs σ3 = some (zs, σ4)) (he : ys ++ zs = ws) : ZK k tst inner (x :: xs) σ = some (ws, σ4) := by
 rw [<- he]; exact e_cR h1 h2 h3 h4
theorem ag_names (ha : a < 128) (hb : b < 128) : lcK false (zP [9, 10, 11, 12] (Xq (za 2)) (.one 10) (PM.ok true) (PM.bd (Xq (za 2)) fun xs => ZK (.one 11) (PM.ok true) (PM.bd (Xq (za 2)) fun xs => ZK (.one 12) (PM.ok true) (PM.bd (zk zQ (zk zQ (za 10) (za 11)) (za 12)) fun y => PM.ok [y]) xs) xs)) (agS st (ya n0 n1 n2 n3 n4) v1 (some (.str [a, b])) v3 v4 v5 v6 v7 v8 none none none none none)
  = some (.lst (sLs (N8 a b)), agS st (ya n0 n1 n2 n3 n4) v1 (some (.str [a, b])) v3 v4 v5 v6 v7 v8 none none none none none) := by
 have inner : ∀ (x y : Nat) (t12 : Option AV), ∃ t12', (PM.bd (Xq (za 2)) fun xs => ZK (.one 12) (PM.ok true) (PM.bd (zk zQ (zk zQ (za 10) (za 11)) (za 12)) fun y => PM.ok [y]) xs) (agS st (ya n0 n1 n2 n3 n4) v1 (some (.str [a, b])) v3 v4 v5 v6 v7 v8 none (some (.str [x])) (some (.str [y])) t12 none) = some ([.str [x, y, a], .str [x, y, b]], agS st (ya n0 n1 n2 n3 n4) v1 (some (.str [a, b])) v3 v4 v5 v6 v7 v8 none (some (.str [x])) (some (.str [y])) t12' none) := by
  intro x y t12
  have one : ∀ (z : Nat) (t12 : Option AV), (PM.bd (zk zQ (zk zQ (za 10) (za 11)) (za 12)) fun y => PM.ok [y]) (agS st (ya n0 n1 n2 n3 n4) v1 (some (.str [a, b])) v3 v4 v5 v6 v7 v8 none (some (.str [x])) (some (.str [y])) (some (.str [z])) none) = some ([.str [x, y, z]], agS st (ya n0 n1 n2 n3 n4) v1 (some (.str [a, b])) v3 v4 v5 v6 v7 v8 none (some (.str [x])) (some (.str [y])) (some (.str [z])) none) :=
   fun z t12 => zt (Zj (Zj (zD rfl) (zD rfl) rfl) (zD rfl) rfl) rfl
  exact ⟨some (.str [b]), zt (sg_eq ha hb rfl) (e_cR' rfl zl (one a none) (e_cR' rfl zl (one b none) e_cN rfl) rfl)⟩
 have mid : ∀ (x : Nat) (t11 t12 : Option AV), ∃ t11' t12', (PM.bd (Xq (za 2)) fun xs => ZK (.one 11) (PM.ok true) (PM.bd (Xq (za 2)) fun xs => ZK (.one 12) (PM.ok true) (PM.bd (zk zQ (zk zQ (za 10) (za 11)) (za 12)) fun y => PM.ok [y]) xs) xs) (agS st (ya n0 n1 n2 n3 n4) v1 (some (.str [a, b])) v3 v4 v5 v6 v7 v8 none (some (.str [x])) t11 t12 none) = some ([.str [x, a, a], .str [x, a, b], .str [x, b, a], .str [x, b, b]], agS st (ya n0 n1 n2 n3 n4) v1 (some (.str [a, b])) v3 v4 v5 v6 v7 v8 none (some (.str [x])) t11' t12' none) := by
  intro x t11 t12
  obtain ⟨u, hu⟩ := inner x a t12
  obtain ⟨w, hw⟩ := inner x b u
  exact ⟨some (.str [b]), w, zt (sg_eq ha hb rfl) (e_cR' rfl zl hu (e_cR' rfl zl hw e_cN rfl) rfl)⟩
 obtain ⟨u1, u2, hu⟩ := mid a none none
 obtain ⟨w1, w2, hw⟩ := mid b u1 u2
 exact e_lcF (e_cP (zs := sLs (N8 a b)) (sg_eq ha hb rfl) (e_cR' rfl zl hu (e_cR' rfl zl hw e_cN rfl) rfl) rfl)
end
section
variable {st : List AE} {n0 n1 n2 n3 n4 a b : Nat} {v1 v2 v3 v4 v5 v6 v7 v8 : Option AV}
theorem ag_worths (h : a < b) (hn : n0 < 1000000000) : dzipM (zd (za 3) (zd (lcK false (zP [9, 10] (rngM (zd (PM.ok (.int 8)) (PM.ok []))) (.one 10) (PM.ok true) (PM.bd (zk zQ (zk modF (zk divF (zk zn (za 0) (PM.ok (.int 0))) (zk powF (PM.ok (.int 4)) (za 10))) (PM.ok (.int 4))) (PM.ok (.int 1))) fun y => PM.ok [y]))) (PM.ok []))) (agS st (ya n0 n1 n2 n3 n4) v1 v2 (some (.lst (sLs (N8 a b)))) v4 v5 v6 v7 v8 none none none none none)
  = some (.loc st.length, agS (st ++ [.dct ((N8 a b).zip (W8 n0))]) (ya n0 n1 n2 n3 n4) v1 v2 (some (.lst (sLs (N8 a b)))) v4 v5 v6 v7 v8 none none none none none) := by
 have hc : lcK false (zP [9, 10] (rngM (zd (PM.ok (.int 8)) (PM.ok []))) (.one 10) (PM.ok true) (PM.bd (zk zQ (zk modF (zk divF (zk zn (za 0) (PM.ok (.int 0))) (zk powF (PM.ok (.int 4)) (za 10))) (PM.ok (.int 4))) (PM.ok (.int 1))) fun y => PM.ok [y])) (agS st (ya n0 n1 n2 n3 n4) v1 v2 (some (.lst (sLs (N8 a b)))) v4 v5 v6 v7 v8 none none none none none)
   = some (.lst (([0, 1, 2, 3, 4, 5, 6, 7] : List Nat).map fun p => .int ((n0 / 4 ^ p % 4 + 1 : Nat) : Int)), agS st (ya n0 n1 n2 n3 n4) v1 v2 (some (.lst (sLs (N8 a b)))) v4 v5 v6 v7 v8 none none none none none) := by
  refine Zw (T := Option AV × Option AV) (fun t => agS st (ya n0 n1 n2 n3 n4) v1 v2 (some (.lst (sLs (N8 a b)))) v4 v5 v6 v7 v8 t.1 t.2 none none none) (t0 := (none, none)) (items := [0, 1, 2, 3, 4, 5, 6, 7]) (fun p : Nat => .int (p : Nat)) _ (zt (zI zl yK) (ZJ rfl)) (fun p hp t => ⟨(t.1, some (.int (p : Nat))), (t.1, some (.int (p : Nat))), rfl, ?_⟩) (by decide) (fun _ => rfl)
  have hp8 : p < 8 := by
   have : ∀ p ∈ [0, 1, 2, 3, 4, 5, 6, 7], p < 8 := by decide
   exact this p hp
  have hpow : ∀ {σ : St}, powF σ (.int 4) (.int (p : Nat)) = some (.int (4 ^ p : Nat)) := fun {_} => by
   show (if 0 <= (p : Int) /\ (p : Int) <= 20 /\ (0 : Int) <= 4 /\ (4 : Int) <= 100 then some (AV.int ((4 : Int) ^ (p : Int).toNat)) else Option.none) = _
   rw [if_pos (by omega), Int.toNat_natCast, Int.natCast_pow]; rfl
  have hlt : 0 < 4 ^ p /\ 4 ^ p < 1000000000 := (by decide : ∀ p ∈ [0, 1, 2, 3, 4, 5, 6, 7], 0 < 4 ^ p /\ 4 ^ p < 1000000000) p hp
  exact Zj (Zj (Zj (Zj (zD rfl) zl rfl) (Zj zl (zD rfl) hpow) (q_div hlt)) zl (q_mod (d := 4) (by decide))) zl rfl
 have hz : dzipF [.lst (sLs (N8 a b)), .lst (([0, 1, 2, 3, 4, 5, 6, 7] : List Nat).map fun p => .int ((n0 / 4 ^ p % 4 + 1 : Nat) : Int))] = some ((N8 a b).zip (W8 n0)) := by
  have e := Yy (fun p : Nat => ((n0 / 4 ^ p % 4 + 1 : Nat) : Int)) [0, 1, 2, 3, 4, 5, 6, 7]
  exact bK rfl (bK rfl (bK rfl (bK (Xo _) (bK e (if_pos ⟨rfl, by show 8 <= 1000; decide, srt_nodup (N8_srt h)⟩)))))
 refine zt (zI (zD rfl) (zI hc yK)) ?_
 rw [hz]; rfl
theorem ag_rules (h1 : n1 < 1000000) (h2 : n2 < 1000000) (h3 : n3 < 1000000) (h4 : n4 < 1000000) : lcK false (zP [9, 10] (Zh (.one 10) (ZR (za 0) (Zb (PM.ok (.int 1))) (PM.ok Option.none))) (.one 10) (PM.ok true) (PM.bd (ye YU (zd (za 10) (zd (zk zn (za 2) (PM.ok (.int 0))) (zd (zk zn (za 2) (PM.ok (.int 1))) (PM.ok []))))) fun y => PM.ok [y])) (agS st (ya n0 n1 n2 n3 n4) v1 (some (.str [a, b])) v3 v4 v5 v6 v7 v8 none none none none none)
  = some (.lst (([n1, n2, n3, n4] : List Nat).map fun n => YL a b (yE n)), agS st (ya n0 n1 n2 n3 n4) v1 (some (.str [a, b])) v3 v4 v5 v6 v7 v8 none none none none none) := by
 refine Zw (T := Option AV × Option AV) (fun t => agS st (ya n0 n1 n2 n3 n4) v1 (some (.str [a, b])) v3 v4 v5 v6 v7 v8 t.1 t.2 none none none) (t0 := (none, none)) (fun n : Nat => .int (n : Nat)) _ (Ym (e_cut (zD rfl) (zcg zl) zl cut1)) (fun n hn t => ⟨(t.1, some (.int (n : Nat))), (t.1, some (.int (n : Nat))), rfl, ?_⟩) (lb) (fun _ => rfl)
 have hlt : n < 1000000000 := by
  simp only [List.mem_cons, List.not_mem_nil, or_false] at hn
  omega
 exact Qe (zI (zD rfl) (zI (Zj (zD rfl) zl rfl) (zI (Zj (zD rfl) zl rfl) yK))) (items_eq hlt) rfl
theorem ks_lt (n : Nat) : n / 1 % 6 < 6 /\ n / 6 % 6 < 6 /\ n / 36 % 6 < 6 := ⟨Nat.mod_lt _ (by decide), Nat.mod_lt _ (by decide), Nat.mod_lt _ (by decide)⟩
noncomputable abbrev YR (a b n : Nat) : AV := .lst (psA ((zU (yE n)).map (List.map (jK a b))))
theorem ag_read (ha : 34 <= a /\ a <= 126) (hb : 34 <= b /\ b <= 126) : lcK false (zP [9, 10] (Zh (.one 10) (za 5)) (.one 10) (PM.ok true) (PM.bd (ye zG (zd (ye Yc (zd (Zd "str" zaw (PM.ok (.str [])) (zd (lcK false (zP [11, 12, 13] (Zh (.many [12, 13]) (za 10)) (.many [12, 13]) (PM.ok true) (PM.bd (za 12) fun y => PM.ok [y]))) (PM.ok []))) (PM.ok []))) (PM.ok []))) fun y => PM.ok [y])) (agS st (ya n0 n1 n2 n3 n4) v1 v2 v3 v4 (some (.lst (([n1, n2, n3, n4] : List Nat).map fun n => YL a b (yE n)))) v6 v7 v8 none none none none none)
  = some (.lst (([n1, n2, n3, n4] : List Nat).map (YR a b)), agS st (ya n0 n1 n2 n3 n4) v1 v2 v3 v4 (some (.lst (([n1, n2, n3, n4] : List Nat).map fun n => YL a b (yE n)))) v6 v7 v8 none none none none none) := by
 refine Zw (T := Option AV × Option AV) (fun t => agS st (ya n0 n1 n2 n3 n4) v1 v2 v3 v4 (some (.lst (([n1, n2, n3, n4] : List Nat).map fun n => YL a b (yE n)))) v6 v7 v8 t.1 t.2 none none none) (t0 := (none, none)) (fun n : Nat => YL a b (yE n)) _ (Ym (zD rfl)) (fun n hn t => ⟨(t.1, some (YL a b (yE n))), (t.1, some (YL a b (yE n))), rfl, ?_⟩) (lb) (fun _ => rfl)
 obtain ⟨k1, k2, k3⟩ := ks_lt n
 obtain ⟨T, h1, h2⟩ := trans_read (st := st) ha hb k1 k2 k3 rfl
 have hw : lcK false (zP [11, 12, 13] (Zh (.many [12, 13]) (za 10)) (.many [12, 13]) (PM.ok true) (PM.bd (za 12) fun y => PM.ok [y])) (agS st (ya n0 n1 n2 n3 n4) v1 v2 v3 v4 (some (.lst (([n1, n2, n3, n4] : List Nat).map fun n => YL a b (yE n)))) v6 v7 v8 t.1 (some (YL a b (yE n))) none none none)
   = some (.lst ((yE n).map fun k => .str (kd a b k).1), agS st (ya n0 n1 n2 n3 n4) v1 v2 v3 v4 (some (.lst (([n1, n2, n3, n4] : List Nat).map fun n => YL a b (yE n)))) v6 v7 v8 t.1 (some (YL a b (yE n))) none none none) :=
  Zw (T := Option AV × Option AV × Option AV) (fun u => agS st (ya n0 n1 n2 n3 n4) v1 v2 v3 v4 (some (.lst (([n1, n2, n3, n4] : List Nat).map fun n => YL a b (yE n)))) v6 v7 v8 t.1 (some (YL a b (yE n))) u.1 u.2.1 u.2.2) (t0 := (none, none, none)) (fun k => itA (kd a b k)) _ (zt (zt (zD rfl) (ZJ rfl)) (ZJ rfl)) (fun k hk u => ⟨(u.1, some (.str (kd a b k).1), some (.str (kd a b k).2)), (u.1, some (.str (kd a b k).1), some (.str (kd a b k).2)), rfl, rfl⟩) (lb) (fun _ => rfl)
 have hj : ∀ {σ : St}, zaw σ (.str []) [.lst ((yE n).map fun k => .str (kd a b k).1)] = some (.str ((yE n).map fun k => (kd a b k).1).flatten, σ) := fun {σ} => by
  have e : Xp ((yE n).map fun k => AV.str (kd a b k).1) = some ((yE n).map fun k => (kd a b k).1) := by
   rw [<- Xo ((yE n).map fun k => (kd a b k).1), sLs, List.map_map]; rfl
  have l1 := kd_len a b (n / 1 % 6)
  have l2 := kd_len a b (n / 6 % 6)
  have l3 := kd_len a b (n / 36 % 6)
  refine bK rfl (bK rfl (bK rfl (bK e ((if_pos ⟨by decide, by simp [yE]; simp at l1; omega⟩).trans ?_))))
  simp [ZB, yE]
 exact Qe (zI (Qe (zI (e_meth zl rfl (zI hw yK) hj) yK) h1 rfl) yK) h2 rfl
end
theorem lay_ps : ∀ (Ps : List (List J)), (∀ m ∈ Ps, ∀ j ∈ m, jOk j) -> ∃ ds, AV.pys (psA Ps) = some ds /\ PyData.canLayAll0 ds = true /\ PyData.depthAll ds <= 4
 | [], _ => ⟨[], rfl, rfl, Nat.zero_le _⟩
 | m :: Ps, h => by
  obtain ⟨ds, h1, h2, h3⟩ := lay_ps Ps fun m' hm => h m' (List.mem_cons_of_mem _ hm)
  obtain ⟨d, e1, e2, e3, _⟩ := lay_js m (h m List.mem_cons_self)
  refine ⟨.list d :: ds, ?_, ?_, ?_⟩
  ·simp only [psA] at h1
   simp only [psA, List.map_cons, pyG, pyH, Option.bind_some, Option.map_some, pyA, pyB, pyC, pyD, pyE, pyF, e1, h1]
  ·simp only [PyData.canLayAll0, PyData.canLay0, e2, h2, Bool.and_self]
  ·simp only [PyData.depthAll, PyData.depth]; omega
section
variable {st : List AE} {n0 n1 n2 n3 n4 a b n : Nat} {v1 v2 v3 v4 v5 v6 v7 v8 : Option AV}
theorem jK_ok (ha : a <= 126) (hb : b <= 126) (ks : List Nat) : ∀ m ∈ (zU ks).map (List.map (jK a b)), ∀ j ∈ m, jOk j := by
 intro m hm j hj
 obtain ⟨m', _, rfl⟩ := List.mem_map.mp hm
 obtain ⟨k, _, rfl⟩ := List.mem_map.mp hj
 unfold jK
 split
 ·exact trivial
 ·split
  ·exact Nat.lt_of_le_of_lt ha (by decide)
  ·split
   ·exact Nat.lt_of_le_of_lt hb (by decide)
   ·exact Nat.lt_of_le_of_lt ha (by decide)
theorem lay_read (ha : a <= 126) (hb : b <= 126) : ∀ (l : List Nat), ∃ ds, AV.pys (l.map (YR a b)) = some ds /\ PyData.canLayAll0 ds = true /\ PyData.depthAll ds <= 5 /\ (ds.any fun y => PyData.eqv y .none) = false
 | [] => ⟨[], rfl, rfl, Nat.zero_le _, rfl⟩
 | n :: l => by
  obtain ⟨ds, h1, h2, h3, h4⟩ := lay_read ha hb l
  obtain ⟨d, e1, e2, e3⟩ := lay_ps _ (jK_ok (a := a) (b := b) ha hb (yE n))
  refine ⟨.list d :: ds, ?_, ?_, ?_, ?_⟩
  ·simp only [List.map_cons, pyG, pyH, Option.bind_some, Option.map_some, pyA, pyB, pyC, pyD, pyE, pyF, e1, h1]
  ·simp only [PyData.canLayAll0, PyData.canLay0, e2, h2, Bool.and_self]
  ·simp only [PyData.depthAll, PyData.depth]; omega
  ·rw [List.any_cons, h4]; rfl
theorem ag_in {σ : St} (ha : a <= 126) (hb : b <= 126) (l : List Nat) : inD σ .none (.lst (l.map (YR a b))) = some false := by
 obtain ⟨ds, h1, h2, h3, h4⟩ := lay_read ha hb l
 have e : inD σ .none (.lst (l.map (YR a b))) = inP .none (.lst (l.map (YR a b))) := rfl
 rw [e]
 have h5 : SeqAt.shaped (.list ds) = true := Bool.and_eq_true_iff.mpr ⟨h2, decide_eq_true (by show PyData.depthAll ds + 1 <= 64; omega)⟩
 have h6 : SeqAt.shaped .none = true := rfl
 unfold inP
 simp only [pyA, pyB, pyC, pyD, pyE, pyF, h1, Option.map_some, Option.bind_some, h5, h6, Bool.and_self, if_true, h4]
theorem ag_lists (hab : a < b) (ha : a <= 126) (hb : b <= 126) : lcK false (zP [9, 10] (Zh (.one 10) (za 6)) (.one 10) (PM.ok true) (PM.bd (lcK false (zP [11, 12] (Zh (.one 12) (za 3)) (.one 12) (YJ (ye YS (zd (za 10) (zd (za 12) (PM.ok []))))) (PM.bd (za 12) fun y => PM.ok [y]))) fun y => PM.ok [y])) (agS st (ya n0 n1 n2 n3 n4) v1 v2 (some (.lst (sLs (N8 a b)))) v4 v5 (some (.lst (([n1, n2, n3, n4] : List Nat).map (YR a b)))) v7 v8 none none none none none)
  = some (.lst (([n1, n2, n3, n4] : List Nat).map fun n => .lst (sLs (yF a b n))), agS st (ya n0 n1 n2 n3 n4) v1 v2 (some (.lst (sLs (N8 a b)))) v4 v5 (some (.lst (([n1, n2, n3, n4] : List Nat).map (YR a b)))) v7 v8 none none none none none) := by
 refine Zw (T := Option AV × Option AV) (fun t => agS st (ya n0 n1 n2 n3 n4) v1 v2 (some (.lst (sLs (N8 a b)))) v4 v5 (some (.lst (([n1, n2, n3, n4] : List Nat).map (YR a b)))) v7 v8 t.1 t.2 none none none) (t0 := (none, none)) (YR a b) _ (Ym (zD rfl)) (fun n hn t => ⟨(t.1, some (YR a b n)), (t.1, some (YR a b n)), rfl, ?_⟩) (lb) (fun _ => rfl)
 refine QH (T := Option AV × Option AV) (fun u => agS st (ya n0 n1 n2 n3 n4) v1 v2 (some (.lst (sLs (N8 a b)))) v4 v5 (some (.lst (([n1, n2, n3, n4] : List Nat).map (YR a b)))) v7 v8 t.1 (some (YR a b n)) u.1 u.2 none) (t0 := (none, none)) .str .str (fun x => Yt (((yE n).map (kd a b)).map itG) x) (Ym (zD rfl)) (fun x hx u => ⟨(u.1, some (.str x)), (u.1, some (.str x)), (u.1, some (.str x)), rfl, ?_, fun _ => rfl⟩) (lb) (fun _ => rfl)
 have hk := N8_ok ha hb x hx; obtain ⟨h1, h2, h3⟩ := hk
 obtain ⟨p, q, r, rfl⟩ := N8_bits x hx
 obtain ⟨k1, k2, k3⟩ := ks_lt n
 have hne : (zU (yE n)).map (List.map (jK a b)) ≠ [] := by
  have : ∀ ks : List Nat, zU ks ≠ [] := fun ks => by
   induction ks with
   | nil => exact nofun
   | cons k r ih =>
    unfold zU
    split
    ·split
     ·exact ih
     ·exact nofun
    ·split <;> exact nofun
  simpa using this (yE n)
 have hks : ∀ k ∈ yE n, k < 6 := fun k hk => by
  rcases List.mem_cons.mp hk with rfl | hk
  ·exact k1
  ·rcases List.mem_cons.mp hk with rfl | hk
   ·exact k2
   ·rw [List.mem_singleton.mp hk]; exact k3
 have hlen : ((zU (yE n)).map (List.map (jK a b))).length <= 40 := by
  have : ∀ ks : List Nat, (zU ks).length <= ks.length + 1 := fun ks => by
   induction ks with
   | nil => exact Nat.le_refl _
   | cons k r ih =>
    unfold zU
    split
    ·split
     ·rw [List.length_cons]; omega
     ·rw [List.length_cons, List.length_cons]; omega
    ·split
     ·rename_i e
      rw [e, List.length_cons] at ih
      rw [List.length_cons, List.length_cons]; omega
     ·simp
  rw [List.length_map]
  exact Nat.le_trans (this _) (by show 4 <= 40; decide)
 have ht := takes_eq (st := st) (Ps := (zU (yE n)).map (List.map (jK a b))) (run := [p, q, r].map (chr2 a b)) (fun m hm => ⟨jK_ok ha hb _ m hm, by
  obtain ⟨m', hm', rfl⟩ := List.mem_map.mp hm
  rw [List.length_map]
  exact (zbe _ hks m' hm').2⟩) hlen hne (lb) h2
 have e := takes_suits (Nat.ne_of_lt hab) k1 k2 k3 p q r
 have e' : yA wJ ((zU (yE n)).map (List.map (jK a b))) ([p, q, r].map (chr2 a b)) = Yt (((yE n).map (kd a b)).map itG) ([p, q, r].map (chr2 a b)) := e
 rw [e'] at ht
 exact e_tru (Qe (zI (zD rfl) (zI (zD rfl) yK)) ht rfl) rfl
theorem ag_meant (ha : a <= 126) (hb : b <= 126) : lcK false (zP [9, 10] (Zh (.one 10) (za 5)) (.one 10) (PM.ok true) (PM.bd (lcK false (zP [11, 12] (Zh (.one 12) (za 3)) (.one 12) (YJ (ye YT (zd (za 10) (zd (za 12) (PM.ok []))))) (PM.bd (za 12) fun y => PM.ok [y]))) fun y => PM.ok [y])) (agS st (ya n0 n1 n2 n3 n4) v1 v2 (some (.lst (sLs (N8 a b)))) v4 (some (.lst (([n1, n2, n3, n4] : List Nat).map fun n => YL a b (yE n)))) v6 v7 v8 none none none none none)
  = some (.lst (([n1, n2, n3, n4] : List Nat).map fun n => .lst (sLs (yF a b n))), agS st (ya n0 n1 n2 n3 n4) v1 v2 (some (.lst (sLs (N8 a b)))) v4 (some (.lst (([n1, n2, n3, n4] : List Nat).map fun n => YL a b (yE n)))) v6 v7 v8 none none none none none) := by
 refine Zw (T := Option AV × Option AV) (fun t => agS st (ya n0 n1 n2 n3 n4) v1 v2 (some (.lst (sLs (N8 a b)))) v4 (some (.lst (([n1, n2, n3, n4] : List Nat).map fun n => YL a b (yE n)))) v6 v7 v8 t.1 t.2 none none none) (t0 := (none, none)) (fun n => YL a b (yE n)) _ (Ym (zD rfl)) (fun n hn t => ⟨(t.1, some (YL a b (yE n))), (t.1, some (YL a b (yE n))), rfl, ?_⟩) (lb) (fun _ => rfl)
 refine QH (T := Option AV × Option AV) (fun u => agS st (ya n0 n1 n2 n3 n4) v1 v2 (some (.lst (sLs (N8 a b)))) v4 (some (.lst (([n1, n2, n3, n4] : List Nat).map fun n => YL a b (yE n)))) v6 v7 v8 t.1 (some (YL a b (yE n))) u.1 u.2 none) (t0 := (none, none)) .str .str (fun x => Yt (((yE n).map (kd a b)).map itG) x) (Ym (zD rfl)) (fun x hx u => ⟨(u.1, some (.str x)), (u.1, some (.str x)), (u.1, some (.str x)), rfl, ?_, fun _ => rfl⟩) (lb) (fun _ => rfl)
 have hs := suits_eq (st := st) (its := (yE n).map (kd a b)) (run := x) (by rw [(N8_ok ha hb x hx).2.2]; decide) (lb)
 rw [List.map_map] at hs
 exact e_tru (Qe (zI (zD rfl) (zI (zD rfl) yK)) hs rfl) rfl
end
theorem eqv_strs : ∀ (l : NL), PyData.eqvAll (l.map strP) (l.map strP) = true
 | [] => rfl
 | x :: l => by
  rw [List.map_cons, PyData.eqvAll, eqv_str, eqv_strs l, decide_eq_true rfl]; rfl
theorem lay_chs : ∀ (l : List AV), (∀ x ∈ l, ∃ p w f, x = chs p w f /\ ∀ y ∈ f, okS y) -> ∃ ds, AV.pys l = some ds /\ PyData.canLayAll0 ds = true /\ PyData.depthAll ds <= 3 /\ PyData.eqvAll ds ds = true
 | [], _ => ⟨[], rfl, rfl, Nat.zero_le _, rfl⟩
 | x :: l, h => by
  obtain ⟨ds, h1, h2, h3, h4⟩ := lay_chs l fun y hy => h y (List.mem_cons_of_mem _ hy)
  obtain ⟨p, w, f, rfl, hf⟩ := h x List.mem_cons_self
  obtain ⟨e1, e2⟩ := lay_strs f hf
  refine ⟨.list [.int p, .int w, .list (f.map strP)] :: ds, ?_, ?_, ?_, ?_⟩
  ·simp only [pyG, pyH, Option.bind_some, Option.map_some, chs, pyA, pyB, pyC, pyD, pyE, pyF, pys_sLs, h1]
  ·simp only [PyData.canLayAll0, PyData.canLay0, e1, h2, Bool.and_self]
  ·simp only [PyData.depthAll, PyData.depth, e2]; omega
  ·simp only [PyData.eqvAll, PyData.eqv, eqv_strs, h4, BEq.rfl, Bool.and_self]
theorem eq_chs {σ : St} {l : List AV} (h : ∀ x ∈ l, ∃ p w f, x = chs p w f /\ ∀ y ∈ f, okS y) : eqD σ (.lst l) (.lst l) = some true := by
 obtain ⟨ds, h1, h2, h3, h4⟩ := lay_chs l h
 have h0 : eqF σ (.lst l) (.lst l) = Option.none := rfl
 have h5 : SeqAt.shaped (.list ds) = true := Bool.and_eq_true_iff.mpr ⟨h2, decide_eq_true (by show PyData.depthAll ds + 1 <= 64; omega)⟩
 unfold eqD
 rw [h0]
 simp only [pyEq, pyA, pyB, pyC, pyD, pyE, pyF, h1, Option.map_some, Option.bind_some, h5, Bool.and_self, if_true, PyData.eqv, h4]
theorem picks_ok {kvs : List (List Nat × Int)} {Ls : List NL} (g : zco kvs Ls) : ∀ (k : Nat) (rest : List Nat) (cov : NL), ∀ x ∈ picks kvs Ls k rest cov, ∃ p w f, x = chs p w f /\ ∀ y ∈ f, okS y
 | 0, _, _, x, h => by cases h
 | k + 1, rest, cov, x, h => by
  unfold picks at h
  split at h
  ·cases h
  ·rename_i p hp
   rcases List.mem_cons.mp h with rfl | h
   ·refine ⟨_, _, _, rfl, fun y hy => ?_⟩
    have hy' := (List.mem_filter.mp hy).1
    rw [List.getD_eq_getElem?_getD] at hy'
    cases hg : Ls[p]? with
    | none => rw [hg] at hy'; cases hy'
    | some l => rw [hg] at hy'; exact g.ok l (List.mem_of_getElem? hg) y hy'
   ·exact picks_ok g k _ _ x h
section
variable {st : List AE} {n0 n1 n2 n3 n4 : Nat}
theorem agree_eq (h0 : n0 < 1000000) (h1 : n1 < 1000000) (h2 : n2 < 1000000) (h3 : n3 < 1000000) (h4 : n4 < 1000000) : Qq [ya n0 n1 n2 n3 n4] st = some (.bool true, st) := by
 generalize ha0 : 34 + (n1 / 216 + n2 / 216 + n3 / 216 + n4 / 216) % 92 = a
 have hm := Nat.mod_lt (n1 / 216 + n2 / 216 + n3 / 216 + n4 / 216) (by decide : 0 < 92)
 have ha : 34 <= a /\ a <= 125 := by omega
 have g := good (Nat.lt_succ_self a) (by omega) n0 n1 n2 n3 n4
 have hd : (st ++ [AE.dct ((N8 a (a + 1)).zip (W8 n0))])[st.length]? = some (.dct ((N8 a (a + 1)).zip (W8 n0))) := Zm _ _
 have hla := lazily_eq g hd
 have hpl := plainly_eq g hd
 have hls : lsA [yF a (a + 1) n1, yF a (a + 1) n2, yF a (a + 1) n3, yF a (a + 1) n4] = ([n1, n2, n3, n4] : List Nat).map fun n => .lst (sLs (yF a (a + 1) n)) := rfl
 rw [hls] at hla hpl
 have heq : ∀ {σ : St}, eqD σ (.lst (picks ((N8 a (a + 1)).zip (W8 n0)) [yF a (a + 1) n1, yF a (a + 1) n2, yF a (a + 1) n3, yF a (a + 1) n4] 4 [0, 1, 2, 3] [])) (.lst (picks ((N8 a (a + 1)).zip (W8 n0)) [yF a (a + 1) n1, yF a (a + 1) n2, yF a (a + 1) n3, yF a (a + 1) n4] 4 [0, 1, 2, 3] [])) = some true := fun {_} => eq_chs (picks_ok g 4 _ _)
 have s1 := ag_start (st := st) (n0 := n0) (n1 := n1) (n2 := n2) (n3 := n3) (n4 := n4) (v1 := none) (v2 := none) (v3 := none) (v4 := none) (v5 := none) (v6 := none) (v7 := none) (v8 := none)
 rw [ha0] at s1
 have s2 := ag_signs (st := st) (n0 := n0) (n1 := n1) (n2 := n2) (n3 := n3) (n4 := n4) (a := a) (v2 := none) (v3 := none) (v4 := none) (v5 := none) (v6 := none) (v7 := none) (v8 := none) (by omega)
 have s3 := ag_names (st := st) (n0 := n0) (n1 := n1) (n2 := n2) (n3 := n3) (n4 := n4) (a := a) (b := a + 1) (v1 := some (.int (a : Nat))) (v3 := none) (v4 := none) (v5 := none) (v6 := none) (v7 := none) (v8 := none) (by omega) (by omega)
 have s4 := ag_worths (st := st) (n0 := n0) (n1 := n1) (n2 := n2) (n3 := n3) (n4 := n4) (a := a) (b := a + 1) (v1 := some (.int (a : Nat))) (v2 := some (.str [a, a + 1])) (v4 := none) (v5 := none) (v6 := none) (v7 := none) (v8 := none) (Nat.lt_succ_self a) (by omega)
 have s5 := ag_rules (st := st ++ [.dct ((N8 a (a + 1)).zip (W8 n0))]) (n0 := n0) (n1 := n1) (n2 := n2) (n3 := n3) (n4 := n4) (a := a) (b := a + 1) (v1 := some (.int (a : Nat))) (v3 := some (.lst (sLs (N8 a (a + 1))))) (v4 := some (.loc st.length)) (v5 := none) (v6 := none) (v7 := none) (v8 := none) h1 h2 h3 h4
 have s6 := ag_read (st := st ++ [.dct ((N8 a (a + 1)).zip (W8 n0))]) (n0 := n0) (n1 := n1) (n2 := n2) (n3 := n3) (n4 := n4) (a := a) (b := a + 1) (v1 := some (.int (a : Nat))) (v2 := some (.str [a, a + 1])) (v3 := some (.lst (sLs (N8 a (a + 1))))) (v4 := some (.loc st.length)) (v6 := none) (v7 := none) (v8 := none) (by omega) (by omega)
 have s7 : ∀ {σ : St}, inD σ .none (.lst (([n1, n2, n3, n4] : List Nat).map (YR a (a + 1)))) = some false := fun {_} => ag_in (by omega) (by omega) _
 have s8 := ag_lists (st := st ++ [.dct ((N8 a (a + 1)).zip (W8 n0))]) (n0 := n0) (n1 := n1) (n2 := n2) (n3 := n3) (n4 := n4) (a := a) (b := a + 1) (v1 := some (.int (a : Nat))) (v2 := some (.str [a, a + 1])) (v4 := some (.loc st.length)) (v5 := some (.lst (([n1, n2, n3, n4] : List Nat).map fun n => YL a (a + 1) (yE n)))) (v7 := none) (v8 := none) (Nat.lt_succ_self a) (by omega) (by omega)
 have s9 := ag_meant (st := st ++ [.dct ((N8 a (a + 1)).zip (W8 n0))]) (n0 := n0) (n1 := n1) (n2 := n2) (n3 := n3) (n4 := n4) (a := a) (b := a + 1) (v1 := some (.int (a : Nat))) (v2 := some (.str [a, a + 1])) (v4 := some (.loc st.length)) (v6 := some (.lst (([n1, n2, n3, n4] : List Nat).map (YR a (a + 1))))) (v7 := some (.lst (([n1, n2, n3, n4] : List Nat).map fun n => .lst (sLs (yF a (a + 1) n))))) (v8 := none) (by omega) (by omega)
 generalize picks ((N8 a (a + 1)).zip (W8 n0)) [yF a (a + 1) n1, yF a (a + 1) n2, yF a (a + 1) n3, yF a (a + 1) n4] 4 [0, 1, 2, 3] [] = P at hla hpl heq
 generalize (([n1, n2, n3, n4] : List Nat).map fun n => AV.lst (sLs (yF a (a + 1) n))) = TN at hla hpl s8 s9 ⊢
 generalize ([n1, n2, n3, n4] : List Nat).map (YR a (a + 1)) = RD at s6 s7 s8 s9 ⊢
 generalize (([n1, n2, n3, n4] : List Nat).map fun n => YL a (a + 1) (yE n)) = RU at s5 s6 s8 s9 ⊢
 generalize (N8 a (a + 1)).zip (W8 n0) = kv at hla hpl s4 s5 s6 s8 s9 ⊢
 generalize sLs (N8 a (a + 1)) = nm at s3 s4 s5 s6 s8 s9 ⊢
 refine Yk (e := [.dct (kv)]) (σ' := agS (st ++ [.dct (kv)]) (ya n0 n1 n2 n3 n4) (some (.int (a : Nat))) (some (.str [a, a + 1])) (some (.lst (nm))) (some (.loc st.length)) (some (.lst RU)) (some (.lst RD)) (some (.lst TN)) (some (.lst TN)) none none none none none) (fl := .ret (.bool true)) (?_ : XI _ = _) rfl rfl rfl rfl
 unfold XI
 refine zaz (zac s1) ?_
 refine zaz (zac s2) ?_
 refine zaz (zac s3) ?_
 refine zaz (zac s4) ?_
 refine zaz (zac s5) ?_
 refine zaz (zac s6) ?_
 refine zaz (e_ite (zch zl (zD rfl) s7) nofun (fun _ => rfl)) ?_
 refine zaz (zac s8) ?_
 refine zaz (zac s9) ?_
 refine e_seqR (e_ret (e_bdb ?_))
 exact zch (Qe (zI (zD rfl) (zI (zD rfl) yK)) hla rfl) (Qe (zI (zD rfl) (zI (zD rfl) yK)) hpl rfl) heq
end
section
variable {st : List AE}
theorem law_eq {xs : List Int} (hx : xs.length <= 900) : φ_law [.lst (xs.map .int)] st = some (.bool true, st) := by
 have hl : (xs.map AV.int).length <= 100000 := by rw [List.length_map]; omega
 generalize hN : (xs.take 5).map (fun i => (i.fmod 1000000).toNat) = N
 have hNl : N.length <= 5 := by rw [<- hN, List.length_map, List.length_take]; omega
 have hNb : ∀ n ∈ N, n < 1000000 := fun n hn => by
  rw [<- hN] at hn
  obtain ⟨i, _, rfl⟩ := List.mem_map.mp hn
  have h1 := Int.fmod_lt_of_pos i (by decide : (0 : Int) < 1000000)
  omega
 have hc : ∀ σ : St, σ = ⟨[some (.lst (xs.map .int)), none, none, none], st⟩ -> lcK false (zP [2, 3] (Zh (.one 3) (ZR (za 0) (PM.ok Option.none) (Zb (PM.ok (.int 5))))) (.one 3) (PM.ok true) (PM.bd (zk modF (yL intF (zd (za 3) (PM.ok []))) (zk powF (PM.ok (.int 10)) (PM.ok (.int 6)))) fun y => PM.ok [y])) σ = some (.lst (N.map fun n => .int (n : Nat)), σ) := by
  rintro _ rfl
  have e : N.map (fun n => AV.int (n : Nat)) = (xs.take 5).map fun i => AV.int (((i.fmod 1000000).toNat : Nat) : Int) := by rw [<- hN, List.map_map]; rfl
  have hcut : ∀ {σ : St}, Zy σ none (some 5) (.lst (xs.map AV.int)) = some (.lst ((xs.take 5).map AV.int)) := fun {σ} => by
   rw [List.map_take]; exact cut_take _ 5 hl σ
  rw [e]
  refine Zw (T := Option AV × Option AV) (fun t => ⟨[some (.lst (xs.map .int)), none, t.1, t.2], st⟩) (t0 := (none, none)) AV.int _ (Ym (e_cut (zD rfl) zl (zcg zl) hcut)) (fun i hi t => ⟨(t.1, some (.int i)), (t.1, some (.int i)), rfl, ?_⟩) (by rw [List.length_take]; omega) (fun _ => rfl)
  refine Zj (zad (zI (zD rfl) yK) rfl) (Zj (v := .int 1000000) zl zl rfl) ?_
  show (if (0 : Int) < 1000000 then some (AV.int (i.fmod 1000000)) else Option.none) = _
  rw [if_pos (by decide), Int.toNat_of_nonneg (Int.fmod_nonneg_of_pos i (by decide))]
 have hD : ∃ n0 n1 n2 n3 n4, N ++ ([37668, 12798, 9, 103, 152] : List Nat).drop N.length = [n0, n1, n2, n3, n4] /\ n0 < 1000000 /\ n1 < 1000000 /\ n2 < 1000000 /\ n3 < 1000000 /\ n4 < 1000000 := by
  match N, hNl, hNb with
  | [], _, _ => exact ⟨_, _, _, _, _, rfl, by decide, by decide, by decide, by decide, by decide⟩
  | [x], _, h => exact ⟨_, _, _, _, _, rfl, h x (by simp), by decide, by decide, by decide, by decide⟩
  | [x, y], _, h => exact ⟨_, _, _, _, _, rfl, h x (by simp), h y (by simp), by decide, by decide, by decide⟩
  | [x, y, z], _, h => exact ⟨_, _, _, _, _, rfl, h x (by simp), h y (by simp), h z (by simp), by decide, by decide⟩
  | [x, y, z, u], _, h => exact ⟨_, _, _, _, _, rfl, h x (by simp), h y (by simp), h z (by simp), h u (by simp), by decide⟩
  | [x, y, z, u, w], _, h => exact ⟨_, _, _, _, _, rfl, h x (by simp), h y (by simp), h z (by simp), h u (by simp), h w (by simp)⟩
  | _ :: _ :: _ :: _ :: _ :: _ :: _, h, _ => exact absurd h (by simp)
 obtain ⟨n0, n1, n2, n3, n4, hE, b0, b1, b2, b3, b4⟩ := hD
 have hln : ∀ {σ : St}, yn σ [.lst (N.map fun n => .int (n : Nat))] = some (.int N.length) := fun {_} => by rw [Qv (by rw [List.length_map]; omega), List.length_map]
 have hcd : ∀ {σ : St}, Zy σ (some (N.length : Int)) none (.lst [.int 37668, .int 12798, .int 9, .int 103, .int 152]) = some (.lst ((([37668, 12798, 9, 103, 152] : List Nat).drop N.length).map fun n => .int (n : Nat))) := fun {σ} => by
  rw [List.map_drop]; exact zar _ N.length (lb) σ
 have had : ∀ {σ : St}, zQ σ (.lst (N.map fun n => .int (n : Nat))) (.lst ((([37668, 12798, 9, 103, 152] : List Nat).drop N.length).map fun n => .int (n : Nat))) = some (ya n0 n1 n2 n3 n4) := fun {_} => by
  rw [q_addL (by rw [List.length_map, List.length_map, List.length_drop]; simp; omega), <- List.map_append, hE]; rfl
 have hag := agree_eq (st := st) b0 b1 b2 b3 b4
 refine yq (σ' := ⟨[some (.lst (xs.map .int)), some (.lst (N.map fun n => .int (n : Nat))), none, none], st⟩) (fl := .ret (.bool true)) (?_ : m_law _ = _) rfl rfl rfl
 unfold m_law
 refine zaz (zac (hc _ rfl)) ?_
 refine e_seqR (e_ret ?_)
 exact Qe (zI (Zj (zD rfl) (e_cut (e_lst (zI zl (zI zl (zI zl (zI zl (zI zl yK))))) rfl) (zcg (zad (zI (zD rfl) yK) hln)) zl hcd) had) yK) hag rfl
end
section
theorem ns_eq {h : Heap} {a : Addr} {m m' : Str -> Option Value} (x : h.Ns a m) (y : h.Ns a m') : m = m' := by
 obtain ⟨o, es, n, ho, hd, _, hf⟩ := x
 obtain ⟨o', es', n', ho', hd', _, hf'⟩ := y
 rw [ho] at ho'; cases ho'
 rw [hd] at hd'; cases hd'
 exact funext fun k => (hf k).symm.trans (hf' k)
theorem QOk.fn {q : Program} {loose : List Str} (qk : QOk q loose) (i : Nat) (hi : i ∈ gcIdx) : defAt i ∈ recsOf q := by
 rw [qk.recs]; exact List.mem_map_of_mem hi
theorem gc_of {p q : Program} {loose : List Str} {R : WRecords} {XP : (Str -> Option Value) -> Heap -> Prop} {w : World} {s₀ : Shared} {mg mb : Str -> Option Value} {h : Heap} (os : OsState)
  (qk : QOk q loose) (G : Ground q loose R XP w s₀ mg mb h) (Y : twHook.says w h) : ∃ P c, GC.Ok ⟨p, w, h, mg, mb, os, P⟩ /\ h.TableAt c P #[] := by
 obtain ⟨mg', hm, tw⟩ := Y
 obtain rfl : mg = mg' := ns_eq G.T.g hm
 have hd := qk.fn 14 (by decide)
 have hk := G.T.fn _ hd; obtain ⟨a, o, pm, cd, doc, h1, h2, h3, h4⟩ := hk
 obtain ⟨a', o', fd, c, P, g1, g2, g3, g4, g5, g6⟩ := G.T.tab _ hd
 rw [h1] at g1; cases g1
 rw [h2] at g2; cases g2
 rw [h3] at g3; cases g3
 have g4 : cd = .ref c := g4
 subst g4
 exact ⟨P, c, {
  bmod := let ⟨bm, ob, a, b, c, d, e, f⟩ := G.T.bmain; ⟨bm, ob, a, b, c, d, e, f⟩
  trc := ⟨a, o, pm, c, doc, h1, h2, h3, h4, g5, g6⟩
  twin := tw
  fn := fun i hi => G.T.fn _ (qk.fn i (by revert i; decide))
  none := fun x hx => let ⟨a, b, c, d, e⟩ := qk.none x hx; G.T.free x a b c d e
  boot := G.T.builtins
  ns := G.T.g
  bs := G.T.b
  lim := G.T.nolimit
  pobj := g6.2 }, g6⟩
theorem ints_in {R : WRecords} {cl : Str -> Option Addr} {h : Heap} {P : Params} {B : Fz} : ∀ {ds : List WData} {vs : List Value} {as : List Addr}, WShape.hasItems R ds .int = true -> WellAll P h vs ds -> ∃ xs : List Int, ds = xs.map .int /\ RVs B [] (xs.map .int) vs
 | [], _, _, _, hw => by cases hw; exact ⟨[], rfl, by simp only [List.map_nil, rvJ]⟩
 | d :: ds, _, as, hi, hw => by
  cases hw with
  | cons w1 w2 =>
   simp only [WShape.hasItems, Bool.and_eq_true] at hi
   obtain ⟨i, rfl⟩ := hasW_int hi.1
   obtain ⟨xs, rfl, hx⟩ := ints_in (as := as) (cl := cl) hi.2 w2
   cases w1 with
   | int i t => exact ⟨i :: xs, rfl, by simp only [List.map_cons, rvK]; exact ⟨_, _, rfl, by simp only [rvC]; exact ⟨t, rfl⟩, hx⟩⟩
noncomputable def lawVl (L : Addr) : Nat -> Yb
 | 0 => .loc L "script" | 1 => .loc L "drawn" | _ => .no
theorem lawVl_addr {L b : Addr} : ∀ {i : Nat}, (lawVl L i).addr = some b -> b = L
 | 0, e => (Option.some.inj e).symm
 | 1, e => (Option.some.inj e).symm
 | _ + 2, e => nomatch (e : (none : Option Addr) = some b)
theorem vl_loc {a b : Addr} {x y : Str} (e : Yb.loc a x = .loc b y) : x = y := by injection e
theorem lawVl_inj {L : Addr} : ∀ (i j : Nat), i ≠ j -> lawVl L i = lawVl L j -> lawVl L i = .no
 | 0, 0, h, _ => absurd rfl h
 | 1, 1, h, _ => absurd rfl h
 | 0, 1, _, e => absurd (vl_loc e) (by decide +kernel)
 | 1, 0, _, e => absurd (vl_loc e) (by decide +kernel)
 | 0, _ + 2, _, e => nomatch (e : Yb.loc L "script" = .no)
 | 1, _ + 2, _, e => nomatch (e : Yb.loc L "drawn" = .no)
 | _ + 2, _, _, _ => rfl
theorem mem2 {α : Type} {p : α -> Prop} {a b : α} (ha : p a) (hb : p b) (x : α) (h : x ∈ [a, b]) : p x := by
 rcases List.mem_cons.mp h with h | h
 ·exact h ▸ ha
 ·exact List.mem_singleton.mp h ▸ hb
section
variable {p : Program} {w : World} {mg mb : Str -> Option Value} {P c : Addr} {s₁ s' : Shared} {σ : St} {K : Kx} {g' : Gh} {h₁ : Heap} {m : Str -> Option Value} {xs : List AV} {l : Addr}
noncomputable abbrev lawG (p : Program) (w : World) (mg mb : Str -> Option Value) (P : Addr) (s₁ : Shared) : GC := ⟨p, w, s₁.heap, mg, mb, s₁.os, P⟩
noncomputable def lawK (L : Addr) : Kx := ⟨fun _ _ => False, L⟩
noncomputable def lawGh (h : Heap) (P : Addr) : Gh := ⟨fun b o => h.get? b = some o /\ b ≠ P, [], lawVl h.objs.size⟩
theorem lawVl_no (i : Nat) (b : Addr) (o : Obj) (e : s₁.heap.get? b = some o) (e' : (lawVl s₁.heap.objs.size i).addr = some b) : False :=
 Nat.lt_irrefl _ (lawVl_addr e' ▸ Heap.lt_size e)
theorem law_wf (gok : (lawG p w mg mb P s₁).Ok) (F : Fr s₁.heap s₁.heap.objs.size h₁ m) (hm : m "script" = some (.ref l)) (hrv : (lawGh s₁.heap P).rv (.lst xs) (.ref l)) (hg : s₁.gens = #[]) :
  Wf (lawG p w mg mb P s₁) (lawK s₁.heap.objs.size) (lawGh s₁.heap P) ⟨[some (.lst xs), none, none, none], []⟩ { s₁ with heap := h₁, toks := s₁.toks + 1 } where
 hB := fun b o e => F.keep _ _ e.1
 hK := fun _ _ e => e.elim
 base := fun b o e hp => ⟨e, hp⟩
 tab := ⟨#[], ⟨trivial, fun _ _ _ h => nomatch h⟩, F.keep _ _ gok.pobj⟩
 dB := fun b o e => ⟨fun n hn => (nomatch hn), fun i => lawVl_no i b o e.1, e.2⟩
 dK := fun _ _ e => e.elim
 dBK := fun _ _ _ _ e => e.elim
 dP := ⟨fun n hn => (nomatch hn), fun i => lawVl_no i P _ gok.pobj⟩
 dv := fun n i b hn => (nomatch hn)
 len := rfl
 nodup := fun n k b hn => (nomatch hn)
 st := fun n e b _ hn => (nomatch hn)
 fr
  | 0 => ⟨_, F.ns, fun _ e => ⟨_, hm, Option.some.inj e ▸ hrv⟩⟩
  | 1 => ⟨_, F.ns, fun _ e => nomatch e⟩
  | 2 => rfl
  | 3 => rfl
  | n + 4 => rfl
 inj := lawVl_inj
 has := ⟨0, _, rfl⟩
 gens := .of_eq hg
 os := rfl
 tk := Nat.le_add_left 1 _
theorem law_env {env : Env} {G : GC} {L : Addr} (hL : env.locals = L) (hs : env.scope = (defAt 32).scope) (hg : env.globals = mainGlobals) (hb : env.builtins = builtinsNs) : EOk V_law G (lawVl L) env where
 kind := by rw [hs]; rfl
 globals := hg
 builtins := hb
 nm := fun x i hx => .inl (mem2 (p := fun q : Str × Nat => env.kindOf q.1 = some .local /\ lawVl L q.2 = .loc env.locals q.1) ⟨by unfold Env.kindOf; rw [hs]; rfl, by rw [hL]; rfl⟩ ⟨by unfold Env.kindOf; rw [hs]; rfl, by rw [hL]; rfl⟩ (x, i) hx)
 gl := mem2 (by unfold Env.kindOf; rw [hs]; rfl) (by unfold Env.kindOf; rw [hs]; rfl)
 lc := mem2 (by unfold Env.kindOf; rw [hs]; rfl) (by unfold Env.kindOf; rw [hs]; rfl)
 cc := fun _ h => (nomatch h)
 cp := fun _ h => (nomatch h)
 fs := mem2 rfl rfl
 cx := trivial
theorem law_old (gok : (lawG p w mg mb P s₁).Ok) (htab : s₁.heap.TableAt c P #[]) (I : Wf (lawG p w mg mb P s₁) K g' σ s') (le : (lawGh s₁.heap P).le g') : OldK s₁.heap s'.heap := by
 obtain ⟨ps, _, hps⟩ := I.tab
 refine ⟨fun b o e => ?_, fun b o e => ?_⟩
 ·by_cases hb : b = P
  ·subst hb
   have e := gok.pobj.symm.trans e
   cases e
   exact .inr (.inl ⟨htab.isCodeTable, rfl, #[], ps, rfl, by simpa using hps⟩)
  ·exact .inl (I.hB _ _ (le.B _ _ ⟨e, hb⟩))
 ·by_cases hb : b = P
  ·subst hb; exact ⟨_, hps⟩
  ·exact ⟨_, I.hB _ _ (le.B _ _ ⟨e, hb⟩)⟩
theorem law_args {R : WRecords} {as : List WData} {vals : List Value} {P : Params} {h : Heap} (hsh : WShape.hasAll R as [.list .int] = true) (hwl : WellAll P h vals as) {B : Fz} : ∃ (xs : List Int) (l : Addr) (vs : List Value),
  as = [.list (xs.map .int)] /\ vals = [.ref l] /\ h.get? l = some (zM vs 0) /\ RVs B [] (xs.map .int) vs := by
 obtain ⟨da, dr, rfl, ha, hr⟩ := hasAllW_cons hsh
 obtain ⟨ds, rfl, hi⟩ := hasW_list ha
 cases dr with
 | cons x y => cases hr
 | nil =>
  obtain ⟨v0, vr, rfl, hw0, hwr⟩ := wellAll_cons_inv hwl
  cases hwr
  cases hw0 with
  | list hl hws =>
   obtain ⟨xs, rfl, hx⟩ := ints_in (cl := fun _ => none) (as := []) (B := B) hi hws
   exact ⟨xs, _, _, rfl, rfl, hl, hx⟩
theorem law_len {xs : List Int} (hc : PySem.Challenge.rw_ij0206_01.row.toRowW.pre.holds [] { args := [.list (xs.map .int)] } = true) : xs.length <= 900 := by
 w_cond hc
 have hc : ¬ ((63 : Nat) : Int) < ((xs.map WData.int).length : Nat) := by assumption
 rw [List.length_map] at hc
 omega
theorem law_post {xs : List Int} : PySem.Challenge.rw_ij0206_01.row.toRowW.claim.post [.list (xs.map .int)] (.bool true) [.list (xs.map .int)] = true := by
 wrow_post
end
theorem law_walk {q : Program} {loose : List Str} {XP : (Str -> Option Value) -> Heap -> Prop} {d : DefRec} (qk : QOk q loose) (hdn : d.name = (defAt 32).name)
  (hlaw : ∀ (xs : List Int), xs.length <= 900 -> φ_law [.lst (xs.map .int)] [] = some (.bool true, [])) :
  WalkO q loose XP twHook.says PySem.Challenge.rw_ij0206_01.row.toRowW d [] fun f vs => PySem.call f vs := by
 intro w s₀ s₁ mg mb G Y a _ _ _ _ _ _ _ _ _ _ hmg hg args vals as hpre _ _ hwl _
 obtain ⟨P, c, gok, htab⟩ := gc_of (p := PySem.Challenge.rw_ij0206_01.row.toRowW.prog) s₁.os qk G Y
 obtain ⟨hsh, hcond⟩ := pre_splitW hpre
 obtain ⟨xs, l, vs, rfl, rfl, hl, hx⟩ := law_args hsh hwl (B := (lawGh s₁.heap P).B)
 obtain ⟨_, fl, sl'', extra, hrun, hret, _⟩ := runF_some (hlaw xs (law_len hcond))
 obtain ⟨a', o', pm', cd', doc', e1, e2, e3, e4⟩ := gok.fn 32 (by decide)
 obtain rfl : a = a' := Value.ref.inj (Option.some.inj ((hdn ▸ hmg).symm.trans e1))
 have hrv : (lawGh s₁.heap P).rv (.lst (xs.map .int)) (.ref l) := by
  refine ⟨l, vs, 0, rfl, ⟨hl, fun e => ?_⟩, hx⟩
  subst e
  have := hl.symm.trans gok.pobj
  cases this
 refine enter_call (call_fullW (A := callerA) (by decide) e2 e3 G.T.nolimit e4 (BindsTo.of_eq (binds := [("script", .ref l)]) rfl) (fun x hx => List.mem_singleton.mp hx ▸ rfl) (fun h₁ F => ?_) rfl rfl rfl (by decide +kernel))
 refine wpAny_mono (s_law (lawG _ w mg mb P s₁) (lawK s₁.heap.objs.size) (lawGh s₁.heap P) _ _ fl _ _ _ (fun f s' => GoodWG PySem.Challenge.rw_ij0206_01.row.toRowW.claim (classAt s₀.heap) (ExcName.means s₀.heap) [.list (xs.map .int)] s₁ (.ok (.ret (match f with | .ret v => v | _ => .none))) s') (fun _ _ => False) gok
  ⟨fun _ => rfl, by show 1 + claimMargin + 1 + 17 <= 600; decide, by show 4 + 3 + 10 * 17 <= 9000; decide, _, Around.frames_deeper (A := callerA) (outer := []) rfl, .inr ⟨_, [], rfl, (fun h => nomatch (h : ScopeKind.function = ScopeKind.module)), rfl, fun _ h => (nomatch h)⟩⟩
  (law_env (L := s₁.heap.objs.size) rfl rfl rfl rfl) (law_wf gok F rfl hrv hg) hrun fun g' f s' le I' hf => ?_) (fun _ _ x => x) fun _ _ x => x.elim
 obtain rfl : fl = .ret (.bool true) := by
  cases fl with
  | ret v => exact congrArg FL.ret (Option.some.inj hret)
  | _ => cases hret
 obtain ⟨_, rfl, rfl⟩ := hf
 exact ⟨.inl ⟨_, .bool true, [], rfl, fun _ => rfl, .bool _, law_post, fun _ => ⟨.nil, fun _ h => (nomatch h)⟩⟩, law_old gok htab I' le, I'.os, I'.gens⟩
end
end Mine
end
namespace Mine
end Mine
theorem PySem.Challenge.cw_ij0206_01_holds : PySem.Challenge.rw_ij0206_01.Holds := by
  exact Mine.headX fun qk hdn => Mine.law_walk qk hdn fun _ h => Mine.law_eq h
