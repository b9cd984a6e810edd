import PyProof.Rows.All
import Wide.All
import OpenK.AllK
import Wide.FinOn
import Lean
import PySem.Challenge.RW_jf0027_01
open PySem PySem.W PyProof.Rows PySem.Calls
set_option Elab.async false
set_option maxRecDepth 100000
set_option rowWalk.seconds 0
namespace Mine
theorem ex0_2 {p1 p2 : Prop} {G : Prop} (h : p1 ∧ p2) (k : p1 → p2 → G) : G := k h.1 h.2
theorem ex0_3 {p1 p2 p3 : Prop} {G : Prop} (h : p1 ∧ p2 ∧ p3) (k : p1 → p2 → p3 → G) : G := k h.1 h.2.1 h.2.2
theorem ex0_4 {p1 p2 p3 p4 : Prop} {G : Prop} (h : p1 ∧ p2 ∧ p3 ∧ p4) (k : p1 → p2 → p3 → p4 → G) : G := k h.1 h.2.1 h.2.2.1 h.2.2.2
theorem ex0_5 {p1 p2 p3 p4 p5 : Prop} {G : Prop} (h : p1 ∧ p2 ∧ p3 ∧ p4 ∧ p5) (k : p1 → p2 → p3 → p4 → p5 → G) : G := k h.1 h.2.1 h.2.2.1 h.2.2.2.1 h.2.2.2.2
theorem ex0_6 {p1 p2 p3 p4 p5 p6 : Prop} {G : Prop} (h : p1 ∧ p2 ∧ p3 ∧ p4 ∧ p5 ∧ p6) (k : p1 → p2 → p3 → p4 → p5 → p6 → G) : G := k h.1 h.2.1 h.2.2.1 h.2.2.2.1 h.2.2.2.2.1 h.2.2.2.2.2
theorem ex0_7 {p1 p2 p3 p4 p5 p6 p7 : Prop} {G : Prop} (h : p1 ∧ p2 ∧ p3 ∧ p4 ∧ p5 ∧ p6 ∧ p7) (k : p1 → p2 → p3 → p4 → p5 → p6 → p7 → G) : G := k h.1 h.2.1 h.2.2.1 h.2.2.2.1 h.2.2.2.2.1 h.2.2.2.2.2.1 h.2.2.2.2.2.2
theorem ex0_10 {p1 p2 p3 p4 p5 p6 p7 p8 p9 p10 : Prop} {G : Prop} (h : p1 ∧ p2 ∧ p3 ∧ p4 ∧ p5 ∧ p6 ∧ p7 ∧ p8 ∧ p9 ∧ p10) (k : p1 → p2 → p3 → p4 → p5 → p6 → p7 → p8 → p9 → p10 → G) : G := k h.1 h.2.1 h.2.2.1 h.2.2.2.1 h.2.2.2.2.1 h.2.2.2.2.2.1 h.2.2.2.2.2.2.1 h.2.2.2.2.2.2.2.1 h.2.2.2.2.2.2.2.2.1 h.2.2.2.2.2.2.2.2.2
theorem ex1_1 {α1 : Sort _} {p1 : α1 → Prop} {G : Prop} (h : ∃ a1, p1 a1) (k : ∀ a1, p1 a1 → G) : G := h.elim fun a1 h => k a1 h
theorem ex1_2 {α1 : Sort _} {p1 p2 : α1 → Prop} {G : Prop} (h : ∃ a1, p1 a1 ∧ p2 a1) (k : ∀ a1, p1 a1 → p2 a1 → G) : G := h.elim fun a1 h => k a1 h.1 h.2
theorem ex1_3 {α1 : Sort _} {p1 p2 p3 : α1 → Prop} {G : Prop} (h : ∃ a1, p1 a1 ∧ p2 a1 ∧ p3 a1) (k : ∀ a1, p1 a1 → p2 a1 → p3 a1 → G) : G := h.elim fun a1 h => k a1 h.1 h.2.1 h.2.2
theorem ex1_4 {α1 : Sort _} {p1 p2 p3 p4 : α1 → Prop} {G : Prop} (h : ∃ a1, p1 a1 ∧ p2 a1 ∧ p3 a1 ∧ p4 a1) (k : ∀ a1, p1 a1 → p2 a1 → p3 a1 → p4 a1 → G) : G := h.elim fun a1 h => k a1 h.1 h.2.1 h.2.2.1 h.2.2.2
theorem ex1_5 {α1 : Sort _} {p1 p2 p3 p4 p5 : α1 → Prop} {G : Prop} (h : ∃ a1, p1 a1 ∧ p2 a1 ∧ p3 a1 ∧ p4 a1 ∧ p5 a1) (k : ∀ a1, p1 a1 → p2 a1 → p3 a1 → p4 a1 → p5 a1 → G) : G := h.elim fun a1 h => k a1 h.1 h.2.1 h.2.2.1 h.2.2.2.1 h.2.2.2.2
theorem ex1_6 {α1 : Sort _} {p1 p2 p3 p4 p5 p6 : α1 → Prop} {G : Prop} (h : ∃ a1, p1 a1 ∧ p2 a1 ∧ p3 a1 ∧ p4 a1 ∧ p5 a1 ∧ p6 a1) (k : ∀ a1, p1 a1 → p2 a1 → p3 a1 → p4 a1 → p5 a1 → p6 a1 → G) : G := h.elim fun a1 h => k a1 h.1 h.2.1 h.2.2.1 h.2.2.2.1 h.2.2.2.2.1 h.2.2.2.2.2
theorem ex1_8 {α1 : Sort _} {p1 p2 p3 p4 p5 p6 p7 p8 : α1 → Prop} {G : Prop} (h : ∃ a1, p1 a1 ∧ p2 a1 ∧ p3 a1 ∧ p4 a1 ∧ p5 a1 ∧ p6 a1 ∧ p7 a1 ∧ p8 a1) (k : ∀ a1, p1 a1 → p2 a1 → p3 a1 → p4 a1 → p5 a1 → p6 a1 → p7 a1 → p8 a1 → G) : G := h.elim fun a1 h => k a1 h.1 h.2.1 h.2.2.1 h.2.2.2.1 h.2.2.2.2.1 h.2.2.2.2.2.1 h.2.2.2.2.2.2.1 h.2.2.2.2.2.2.2
theorem ex2_1 {α1 : Sort _} {α2 : Sort _} {p1 : α1 → α2 → Prop} {G : Prop} (h : ∃ a1 a2, p1 a1 a2) (k : ∀ a1 a2, p1 a1 a2 → G) : G := h.elim fun a1 h => h.elim fun a2 h => k a1 a2 h
theorem ex2_2 {α1 : Sort _} {α2 : Sort _} {p1 p2 : α1 → α2 → Prop} {G : Prop} (h : ∃ a1 a2, p1 a1 a2 ∧ p2 a1 a2) (k : ∀ a1 a2, p1 a1 a2 → p2 a1 a2 → G) : G := h.elim fun a1 h => h.elim fun a2 h => k a1 a2 h.1 h.2
theorem ex2_3 {α1 : Sort _} {α2 : Sort _} {p1 p2 p3 : α1 → α2 → Prop} {G : Prop} (h : ∃ a1 a2, p1 a1 a2 ∧ p2 a1 a2 ∧ p3 a1 a2) (k : ∀ a1 a2, p1 a1 a2 → p2 a1 a2 → p3 a1 a2 → G) : G := h.elim fun a1 h => h.elim fun a2 h => k a1 a2 h.1 h.2.1 h.2.2
theorem ex2_4 {α1 : Sort _} {α2 : Sort _} {p1 p2 p3 p4 : α1 → α2 → Prop} {G : Prop} (h : ∃ a1 a2, p1 a1 a2 ∧ p2 a1 a2 ∧ p3 a1 a2 ∧ p4 a1 a2) (k : ∀ a1 a2, p1 a1 a2 → p2 a1 a2 → p3 a1 a2 → p4 a1 a2 → G) : G := h.elim fun a1 h => h.elim fun a2 h => k a1 a2 h.1 h.2.1 h.2.2.1 h.2.2.2
theorem ex2_5 {α1 : Sort _} {α2 : Sort _} {p1 p2 p3 p4 p5 : α1 → α2 → Prop} {G : Prop} (h : ∃ a1 a2, p1 a1 a2 ∧ p2 a1 a2 ∧ p3 a1 a2 ∧ p4 a1 a2 ∧ p5 a1 a2) (k : ∀ a1 a2, p1 a1 a2 → p2 a1 a2 → p3 a1 a2 → p4 a1 a2 → p5 a1 a2 → G) : G := h.elim fun a1 h => h.elim fun a2 h => k a1 a2 h.1 h.2.1 h.2.2.1 h.2.2.2.1 h.2.2.2.2
theorem ex3_1 {α1 : Sort _} {α2 : Sort _} {α3 : Sort _} {p1 : α1 → α2 → α3 → Prop} {G : Prop} (h : ∃ a1 a2 a3, p1 a1 a2 a3) (k : ∀ a1 a2 a3, p1 a1 a2 a3 → G) : G := h.elim fun a1 h => h.elim fun a2 h => h.elim fun a3 h => k a1 a2 a3 h
theorem ex3_2 {α1 : Sort _} {α2 : Sort _} {α3 : Sort _} {p1 p2 : α1 → α2 → α3 → Prop} {G : Prop} (h : ∃ a1 a2 a3, p1 a1 a2 a3 ∧ p2 a1 a2 a3) (k : ∀ a1 a2 a3, p1 a1 a2 a3 → p2 a1 a2 a3 → G) : G := h.elim fun a1 h => h.elim fun a2 h => h.elim fun a3 h => k a1 a2 a3 h.1 h.2
theorem ex3_3 {α1 : Sort _} {α2 : Sort _} {α3 : Sort _} {p1 p2 p3 : α1 → α2 → α3 → Prop} {G : Prop} (h : ∃ a1 a2 a3, p1 a1 a2 a3 ∧ p2 a1 a2 a3 ∧ p3 a1 a2 a3) (k : ∀ a1 a2 a3, p1 a1 a2 a3 → p2 a1 a2 a3 → p3 a1 a2 a3 → G) : G := h.elim fun a1 h => h.elim fun a2 h => h.elim fun a3 h => k a1 a2 a3 h.1 h.2.1 h.2.2
theorem ex3_4 {α1 : Sort _} {α2 : Sort _} {α3 : Sort _} {p1 p2 p3 p4 : α1 → α2 → α3 → Prop} {G : Prop} (h : ∃ a1 a2 a3, p1 a1 a2 a3 ∧ p2 a1 a2 a3 ∧ p3 a1 a2 a3 ∧ p4 a1 a2 a3) (k : ∀ a1 a2 a3, p1 a1 a2 a3 → p2 a1 a2 a3 → p3 a1 a2 a3 → p4 a1 a2 a3 → G) : G := h.elim fun a1 h => h.elim fun a2 h => h.elim fun a3 h => k a1 a2 a3 h.1 h.2.1 h.2.2.1 h.2.2.2
theorem ex3_5 {α1 : Sort _} {α2 : Sort _} {α3 : Sort _} {p1 p2 p3 p4 p5 : α1 → α2 → α3 → Prop} {G : Prop} (h : ∃ a1 a2 a3, p1 a1 a2 a3 ∧ p2 a1 a2 a3 ∧ p3 a1 a2 a3 ∧ p4 a1 a2 a3 ∧ p5 a1 a2 a3) (k : ∀ a1 a2 a3, p1 a1 a2 a3 → p2 a1 a2 a3 → p3 a1 a2 a3 → p4 a1 a2 a3 → p5 a1 a2 a3 → G) : G := h.elim fun a1 h => h.elim fun a2 h => h.elim fun a3 h => k a1 a2 a3 h.1 h.2.1 h.2.2.1 h.2.2.2.1 h.2.2.2.2
theorem ex3_6 {α1 : Sort _} {α2 : Sort _} {α3 : Sort _} {p1 p2 p3 p4 p5 p6 : α1 → α2 → α3 → Prop} {G : Prop} (h : ∃ a1 a2 a3, p1 a1 a2 a3 ∧ p2 a1 a2 a3 ∧ p3 a1 a2 a3 ∧ p4 a1 a2 a3 ∧ p5 a1 a2 a3 ∧ p6 a1 a2 a3) (k : ∀ a1 a2 a3, p1 a1 a2 a3 → p2 a1 a2 a3 → p3 a1 a2 a3 → p4 a1 a2 a3 → p5 a1 a2 a3 → p6 a1 a2 a3 → G) : G := h.elim fun a1 h => h.elim fun a2 h => h.elim fun a3 h => k a1 a2 a3 h.1 h.2.1 h.2.2.1 h.2.2.2.1 h.2.2.2.2.1 h.2.2.2.2.2
theorem ex3_7 {α1 : Sort _} {α2 : Sort _} {α3 : Sort _} {p1 p2 p3 p4 p5 p6 p7 : α1 → α2 → α3 → Prop} {G : Prop} (h : ∃ a1 a2 a3, p1 a1 a2 a3 ∧ p2 a1 a2 a3 ∧ p3 a1 a2 a3 ∧ p4 a1 a2 a3 ∧ p5 a1 a2 a3 ∧ p6 a1 a2 a3 ∧ p7 a1 a2 a3) (k : ∀ a1 a2 a3, p1 a1 a2 a3 → p2 a1 a2 a3 → p3 a1 a2 a3 → p4 a1 a2 a3 → p5 a1 a2 a3 → p6 a1 a2 a3 → p7 a1 a2 a3 → G) : G := h.elim fun a1 h => h.elim fun a2 h => h.elim fun a3 h => k a1 a2 a3 h.1 h.2.1 h.2.2.1 h.2.2.2.1 h.2.2.2.2.1 h.2.2.2.2.2.1 h.2.2.2.2.2.2
theorem ex3_8 {α1 : Sort _} {α2 : Sort _} {α3 : Sort _} {p1 p2 p3 p4 p5 p6 p7 p8 : α1 → α2 → α3 → Prop} {G : Prop} (h : ∃ a1 a2 a3, p1 a1 a2 a3 ∧ p2 a1 a2 a3 ∧ p3 a1 a2 a3 ∧ p4 a1 a2 a3 ∧ p5 a1 a2 a3 ∧ p6 a1 a2 a3 ∧ p7 a1 a2 a3 ∧ p8 a1 a2 a3) (k : ∀ a1 a2 a3, p1 a1 a2 a3 → p2 a1 a2 a3 → p3 a1 a2 a3 → p4 a1 a2 a3 → p5 a1 a2 a3 → p6 a1 a2 a3 → p7 a1 a2 a3 → p8 a1 a2 a3 → G) : G := h.elim fun a1 h => h.elim fun a2 h => h.elim fun a3 h => k a1 a2 a3 h.1 h.2.1 h.2.2.1 h.2.2.2.1 h.2.2.2.2.1 h.2.2.2.2.2.1 h.2.2.2.2.2.2.1 h.2.2.2.2.2.2.2
theorem ex4_1 {α1 : Sort _} {α2 : Sort _} {α3 : Sort _} {α4 : Sort _} {p1 : α1 → α2 → α3 → α4 → Prop} {G : Prop} (h : ∃ a1 a2 a3 a4, p1 a1 a2 a3 a4) (k : ∀ a1 a2 a3 a4, p1 a1 a2 a3 a4 → G) : G := h.elim fun a1 h => h.elim fun a2 h => h.elim fun a3 h => h.elim fun a4 h => k a1 a2 a3 a4 h
theorem ex4_4 {α1 : Sort _} {α2 : Sort _} {α3 : Sort _} {α4 : Sort _} {p1 p2 p3 p4 : α1 → α2 → α3 → α4 → Prop} {G : Prop} (h : ∃ a1 a2 a3 a4, p1 a1 a2 a3 a4 ∧ p2 a1 a2 a3 a4 ∧ p3 a1 a2 a3 a4 ∧ p4 a1 a2 a3 a4) (k : ∀ a1 a2 a3 a4, p1 a1 a2 a3 a4 → p2 a1 a2 a3 a4 → p3 a1 a2 a3 a4 → p4 a1 a2 a3 a4 → G) : G := h.elim fun a1 h => h.elim fun a2 h => h.elim fun a3 h => h.elim fun a4 h => k a1 a2 a3 a4 h.1 h.2.1 h.2.2.1 h.2.2.2
theorem ex4_6 {α1 : Sort _} {α2 : Sort _} {α3 : Sort _} {α4 : Sort _} {p1 p2 p3 p4 p5 p6 : α1 → α2 → α3 → α4 → Prop} {G : Prop} (h : ∃ a1 a2 a3 a4, p1 a1 a2 a3 a4 ∧ p2 a1 a2 a3 a4 ∧ p3 a1 a2 a3 a4 ∧ p4 a1 a2 a3 a4 ∧ p5 a1 a2 a3 a4 ∧ p6 a1 a2 a3 a4) (k : ∀ a1 a2 a3 a4, p1 a1 a2 a3 a4 → p2 a1 a2 a3 a4 → p3 a1 a2 a3 a4 → p4 a1 a2 a3 a4 → p5 a1 a2 a3 a4 → p6 a1 a2 a3 a4 → G) : G := h.elim fun a1 h => h.elim fun a2 h => h.elim fun a3 h => h.elim fun a4 h => k a1 a2 a3 a4 h.1 h.2.1 h.2.2.1 h.2.2.2.1 h.2.2.2.2.1 h.2.2.2.2.2
theorem ex4_7 {α1 : Sort _} {α2 : Sort _} {α3 : Sort _} {α4 : Sort _} {p1 p2 p3 p4 p5 p6 p7 : α1 → α2 → α3 → α4 → Prop} {G : Prop} (h : ∃ a1 a2 a3 a4, p1 a1 a2 a3 a4 ∧ p2 a1 a2 a3 a4 ∧ p3 a1 a2 a3 a4 ∧ p4 a1 a2 a3 a4 ∧ p5 a1 a2 a3 a4 ∧ p6 a1 a2 a3 a4 ∧ p7 a1 a2 a3 a4) (k : ∀ a1 a2 a3 a4, p1 a1 a2 a3 a4 → p2 a1 a2 a3 a4 → p3 a1 a2 a3 a4 → p4 a1 a2 a3 a4 → p5 a1 a2 a3 a4 → p6 a1 a2 a3 a4 → p7 a1 a2 a3 a4 → G) : G := h.elim fun a1 h => h.elim fun a2 h => h.elim fun a3 h => h.elim fun a4 h => k a1 a2 a3 a4 h.1 h.2.1 h.2.2.1 h.2.2.2.1 h.2.2.2.2.1 h.2.2.2.2.2.1 h.2.2.2.2.2.2
theorem ex4_8 {α1 : Sort _} {α2 : Sort _} {α3 : Sort _} {α4 : Sort _} {p1 p2 p3 p4 p5 p6 p7 p8 : α1 → α2 → α3 → α4 → Prop} {G : Prop} (h : ∃ a1 a2 a3 a4, p1 a1 a2 a3 a4 ∧ p2 a1 a2 a3 a4 ∧ p3 a1 a2 a3 a4 ∧ p4 a1 a2 a3 a4 ∧ p5 a1 a2 a3 a4 ∧ p6 a1 a2 a3 a4 ∧ p7 a1 a2 a3 a4 ∧ p8 a1 a2 a3 a4) (k : ∀ a1 a2 a3 a4, p1 a1 a2 a3 a4 → p2 a1 a2 a3 a4 → p3 a1 a2 a3 a4 → p4 a1 a2 a3 a4 → p5 a1 a2 a3 a4 → p6 a1 a2 a3 a4 → p7 a1 a2 a3 a4 → p8 a1 a2 a3 a4 → G) : G := h.elim fun a1 h => h.elim fun a2 h => h.elim fun a3 h => h.elim fun a4 h => k a1 a2 a3 a4 h.1 h.2.1 h.2.2.1 h.2.2.2.1 h.2.2.2.2.1 h.2.2.2.2.2.1 h.2.2.2.2.2.2.1 h.2.2.2.2.2.2.2
theorem ex5_1 {α1 : Sort _} {α2 : Sort _} {α3 : Sort _} {α4 : Sort _} {α5 : Sort _} {p1 : α1 → α2 → α3 → α4 → α5 → Prop} {G : Prop} (h : ∃ a1 a2 a3 a4 a5, p1 a1 a2 a3 a4 a5) (k : ∀ a1 a2 a3 a4 a5, p1 a1 a2 a3 a4 a5 → G) : G := h.elim fun a1 h => h.elim fun a2 h => h.elim fun a3 h => h.elim fun a4 h => h.elim fun a5 h => k a1 a2 a3 a4 a5 h
theorem ex5_3 {α1 : Sort _} {α2 : Sort _} {α3 : Sort _} {α4 : Sort _} {α5 : Sort _} {p1 p2 p3 : α1 → α2 → α3 → α4 → α5 → Prop} {G : Prop} (h : ∃ a1 a2 a3 a4 a5, p1 a1 a2 a3 a4 a5 ∧ p2 a1 a2 a3 a4 a5 ∧ p3 a1 a2 a3 a4 a5) (k : ∀ a1 a2 a3 a4 a5, p1 a1 a2 a3 a4 a5 → p2 a1 a2 a3 a4 a5 → p3 a1 a2 a3 a4 a5 → G) : G := h.elim fun a1 h => h.elim fun a2 h => h.elim fun a3 h => h.elim fun a4 h => h.elim fun a5 h => k a1 a2 a3 a4 a5 h.1 h.2.1 h.2.2
theorem ex5_8 {α1 : Sort _} {α2 : Sort _} {α3 : Sort _} {α4 : Sort _} {α5 : Sort _} {p1 p2 p3 p4 p5 p6 p7 p8 : α1 → α2 → α3 → α4 → α5 → Prop} {G : Prop} (h : ∃ a1 a2 a3 a4 a5, p1 a1 a2 a3 a4 a5 ∧ p2 a1 a2 a3 a4 a5 ∧ p3 a1 a2 a3 a4 a5 ∧ p4 a1 a2 a3 a4 a5 ∧ p5 a1 a2 a3 a4 a5 ∧ p6 a1 a2 a3 a4 a5 ∧ p7 a1 a2 a3 a4 a5 ∧ p8 a1 a2 a3 a4 a5) (k : ∀ a1 a2 a3 a4 a5, p1 a1 a2 a3 a4 a5 → p2 a1 a2 a3 a4 a5 → p3 a1 a2 a3 a4 a5 → p4 a1 a2 a3 a4 a5 → p5 a1 a2 a3 a4 a5 → p6 a1 a2 a3 a4 a5 → p7 a1 a2 a3 a4 a5 → p8 a1 a2 a3 a4 a5 → G) : G := h.elim fun a1 h => h.elim fun a2 h => h.elim fun a3 h => h.elim fun a4 h => h.elim fun a5 h => k a1 a2 a3 a4 a5 h.1 h.2.1 h.2.2.1 h.2.2.2.1 h.2.2.2.2.1 h.2.2.2.2.2.1 h.2.2.2.2.2.2.1 h.2.2.2.2.2.2.2
theorem ex5_9 {α1 : Sort _} {α2 : Sort _} {α3 : Sort _} {α4 : Sort _} {α5 : Sort _} {p1 p2 p3 p4 p5 p6 p7 p8 p9 : α1 → α2 → α3 → α4 → α5 → Prop} {G : Prop} (h : ∃ a1 a2 a3 a4 a5, p1 a1 a2 a3 a4 a5 ∧ p2 a1 a2 a3 a4 a5 ∧ p3 a1 a2 a3 a4 a5 ∧ p4 a1 a2 a3 a4 a5 ∧ p5 a1 a2 a3 a4 a5 ∧ p6 a1 a2 a3 a4 a5 ∧ p7 a1 a2 a3 a4 a5 ∧ p8 a1 a2 a3 a4 a5 ∧ p9 a1 a2 a3 a4 a5) (k : ∀ a1 a2 a3 a4 a5, p1 a1 a2 a3 a4 a5 → p2 a1 a2 a3 a4 a5 → p3 a1 a2 a3 a4 a5 → p4 a1 a2 a3 a4 a5 → p5 a1 a2 a3 a4 a5 → p6 a1 a2 a3 a4 a5 → p7 a1 a2 a3 a4 a5 → p8 a1 a2 a3 a4 a5 → p9 a1 a2 a3 a4 a5 → G) : G := h.elim fun a1 h => h.elim fun a2 h => h.elim fun a3 h => h.elim fun a4 h => h.elim fun a5 h => k a1 a2 a3 a4 a5 h.1 h.2.1 h.2.2.1 h.2.2.2.1 h.2.2.2.2.1 h.2.2.2.2.2.1 h.2.2.2.2.2.2.1 h.2.2.2.2.2.2.2.1 h.2.2.2.2.2.2.2.2
theorem ex7_5 {α1 : Sort _} {α2 : Sort _} {α3 : Sort _} {α4 : Sort _} {α5 : Sort _} {α6 : Sort _} {α7 : Sort _} {p1 p2 p3 p4 p5 : α1 → α2 → α3 → α4 → α5 → α6 → α7 → Prop} {G : Prop} (h : ∃ a1 a2 a3 a4 a5 a6 a7, p1 a1 a2 a3 a4 a5 a6 a7 ∧ p2 a1 a2 a3 a4 a5 a6 a7 ∧ p3 a1 a2 a3 a4 a5 a6 a7 ∧ p4 a1 a2 a3 a4 a5 a6 a7 ∧ p5 a1 a2 a3 a4 a5 a6 a7) (k : ∀ a1 a2 a3 a4 a5 a6 a7, p1 a1 a2 a3 a4 a5 a6 a7 → p2 a1 a2 a3 a4 a5 a6 a7 → p3 a1 a2 a3 a4 a5 a6 a7 → p4 a1 a2 a3 a4 a5 a6 a7 → p5 a1 a2 a3 a4 a5 a6 a7 → G) : G := h.elim fun a1 h => h.elim fun a2 h => h.elim fun a3 h => h.elim fun a4 h => h.elim fun a5 h => h.elim fun a6 h => h.elim fun a7 h => k a1 a2 a3 a4 a5 a6 a7 h.1 h.2.1 h.2.2.1 h.2.2.2.1 h.2.2.2.2
theorem ex8_6 {α1 : Sort _} {α2 : Sort _} {α3 : Sort _} {α4 : Sort _} {α5 : Sort _} {α6 : Sort _} {α7 : Sort _} {α8 : Sort _} {p1 p2 p3 p4 p5 p6 : α1 → α2 → α3 → α4 → α5 → α6 → α7 → α8 → Prop} {G : Prop} (h : ∃ a1 a2 a3 a4 a5 a6 a7 a8, p1 a1 a2 a3 a4 a5 a6 a7 a8 ∧ p2 a1 a2 a3 a4 a5 a6 a7 a8 ∧ p3 a1 a2 a3 a4 a5 a6 a7 a8 ∧ p4 a1 a2 a3 a4 a5 a6 a7 a8 ∧ p5 a1 a2 a3 a4 a5 a6 a7 a8 ∧ p6 a1 a2 a3 a4 a5 a6 a7 a8) (k : ∀ a1 a2 a3 a4 a5 a6 a7 a8, p1 a1 a2 a3 a4 a5 a6 a7 a8 → p2 a1 a2 a3 a4 a5 a6 a7 a8 → p3 a1 a2 a3 a4 a5 a6 a7 a8 → p4 a1 a2 a3 a4 a5 a6 a7 a8 → p5 a1 a2 a3 a4 a5 a6 a7 a8 → p6 a1 a2 a3 a4 a5 a6 a7 a8 → G) : G := h.elim fun a1 h => h.elim fun a2 h => h.elim fun a3 h => h.elim fun a4 h => h.elim fun a5 h => h.elim fun a6 h => h.elim fun a7 h => h.elim fun a8 h => k a1 a2 a3 a4 a5 a6 a7 a8 h.1 h.2.1 h.2.2.1 h.2.2.2.1 h.2.2.2.2.1 h.2.2.2.2.2
noncomputable abbrev PP : Program := PySem.Challenge.rw_jf0027_01.row.prog

/-- a place on the stack of which no more is said than its room -/
noncomputable abbrev AA (dp un : Nat) : Around := { handled := none, depth := dp, frames := none, guards := none, units := un }

theorem In.weak {Γ : Ctx} {A : Around} {dp un : Nat} (h : Γ.In A) (h1 : A.handled = none) (h2 : A.depth ≤ dp) (h3 : A.units ≤ un) : Γ.In (AA dp un) :=
  ⟨h.1.trans h1, Nat.le_trans h.2.1 h2, (fun _ e => nomatch e), (fun _ e => nomatch e), Nat.le_trans h.2.2.2.2 h3⟩
theorem weak {α : Type} {M : Model} {A : Around} {dp un : Nat} {t : Sem α} {Q : α → Shared → Prop} {E : Value → Shared → Prop} {s : Shared} (h : wpAny M (AA dp un) t Q E s)
    (h1 : A.handled = none) (h2 : A.depth ≤ dp) (h3 : A.units ≤ un) : wpAny M A t Q E s := fun Γ p hΓ => h Γ p (In.weak hΓ h1 h2 h3)

/-- a call that only adds to the heap -/
structure Grew (s s' : Shared) : Prop where
  heap : ∀ b o, s.heap.get? b = some o → s'.heap.get? b = some o
  gens : s'.gens = s.gens
  drawn : s'.drawn = s.drawn
  os : s'.os = s.os

theorem Grew.refl (s : Shared) : Grew s s := ⟨fun _ _ e => e, rfl, rfl, rfl⟩
theorem Grew.trans {a b c : Shared} (x : Grew a b) (y : Grew b c) : Grew a c :=
  ⟨fun d o e => y.heap d o (x.heap d o e), y.gens.trans x.gens, y.drawn.trans x.drawn, y.os.trans x.os⟩

theorem Fr.grew {h₀ : Heap} {L : Addr} {s s' : Shared} {m : Str → Option Value} (F : Fr h₀ L s.heap m) (g : Grew s s') : Fr h₀ L s'.heap m :=
  ⟨F.ns.keeps g.heap, fun b o e => g.heap b o (F.keep b o e), F.above⟩
theorem News.grew {h₀ : Heap} {L : Addr} {s s' : Shared} {news : List (Addr × Obj)} (N : News h₀ L s.heap news) (g : Grew s s') : News h₀ L s'.heap news :=
  fun p hp => ⟨g.heap _ _ (N p hp).1, (N p hp).2⟩

theorem use {M : Model} {A : Around} {dp un : Nat} {t : Sem Value} {O : Value → Shared → Prop} {Q : Value → Shared → Prop} {E : Value → Shared → Prop} {s : Shared} {h₀ : Heap} {L : Addr} {m : Str → Option Value} {news : List (Addr × Obj)}
    (F : Fr h₀ L s.heap m) (N : News h₀ L s.heap news) (h : wpAny M (AA dp un) t (fun v s' => Grew s s' ∧ O v s') (fun _ _ => False) s)
    (h1 : A.handled = none) (h2 : A.depth ≤ dp) (h3 : A.units ≤ un)
    (k : ∀ v h' tk', Fr h₀ L h' m → News h₀ L h' news → (∀ b o, s.heap.get? b = some o → h'.get? b = some o) → O v { s with heap := h', toks := tk' } → Q v { s with heap := h', toks := tk' }) : wpAny M A t Q E s :=
  wpAny_mono (weak h h1 h2 h3) (fun v s' ⟨g, o⟩ => by
    have e : s' = { s with heap := s'.heap, toks := s'.toks } := by
      obtain ⟨h', g', d', t', o'⟩ := s'
      obtain ⟨g1, g2, g3, g4⟩ := g
      simp only at g2 g3 g4; subst g2; subst g3; subst g4; rfl
    rw [e]; exact k v _ _ (Fr.grew F g) (News.grew N g) g.heap (e ▸ o)) fun _ _ x => x.elim

/-- entering a plain def, its positional arguments bound -/
theorem enter {w : World} {dp un : Nat} {s : Shared} {K : Frag} {name qual : Str} {params : Arguments} {body : List Stmt} {scope : Scope} {dV kV doc pm cdv ct oc : Value} {an od : Option Addr} {osl : Array (Option Value)} {f : Addr} {vals : List Value}
    {binds : List (Str × Value)} {O : Value → Shared → Prop}
    (W : K.In s.heap) (lim : s.heap.NoLimit) (R : dp < recursionLimit)
    (ho : K.lookup f = some ⟨oc, od, .func (fnOf name qual params body scope dV kV doc pm an cdv ct), osl⟩) (hcd : codeIn K cdv qual = true)
    (hbind : BindsTo s (fnOf name qual params body scope dV kV doc pm an cdv ct) ⟨vals, []⟩ binds) (hloc : ∀ y ∈ binds, scope.names.lookup y.1 = some .local)
    (h : ∀ L h₁, Fr s.heap L h₁ (fun y => binds.reverse.lookup y) → News s.heap L h₁ [] →
      wpAny (model PP w) (AA (dp + 1) (un + 3)) (execs body (envOf qual scope L f cdv)) (fun fl s' => Grew s s' ∧ O (match fl with | .ret v => v | _ => .none) s') (fun _ _ => False) { s with heap := h₁, toks := s.toks + binds.length })
    (hco : scope.isCoroutine = false) (hgen : scope.isGenerator = false) (hk : scope.kind = .function) (hcell : ∀ x ∈ scope.names, x.2 ≠ .cell) :
    wpAny (model PP w) (AA dp un) (call (.ref f) vals) (fun v s' => Grew s s' ∧ O v s') (fun _ _ => False) s := by
  refine wpAny_call (codeAny_call_def (fd := fnOf name qual params body scope dV kV doc pm an cdv ct) (body := body) (binds := binds) R (W _ _ ho) rfl lim (codeRec_of W hcd) rfl hbind hcell hloc (fun h₁ hns hk₁ => ?_) hco hgen hk)
  refine wpAny_mono (h s.heap.objs.size h₁ ⟨hns, hk₁, Nat.le_refl _⟩ News.nil) (fun fl s' x => x) fun _ _ x => x.elim
theorem ints2 {vs : List Value} {x y : Int} (h : IntsAre vs [x, y]) : ∃ t u, vs = [.int x t, .int y u] := by
  cases h with | cons _ t h => cases h with | cons _ u h => cases h; exact ⟨_, _, rfl⟩
theorem ints_nil {vs : List Value} (h : IntsAre vs []) : vs = [] := by cases h; rfl
theorem ints_cons {vs : List Value} {x : Int} {l : List Int} (h : IntsAre vs (x :: l)) : ∃ t r, vs = .int x t :: r ∧ IntsAre r l := by
  cases h with | cons _ t h => exact ⟨_, _, rfl, h⟩
theorem ints3 {vs : List Value} {x y z : Int} (h : IntsAre vs [x, y, z]) : ∃ t u v, vs = [.int x t, .int y u, .int z v] := by
  cases h with | cons _ t h => obtain ⟨u, v, rfl⟩ := ints2 h; exact ⟨_, _, _, rfl⟩
theorem hideQ {α : Type} {M : Model} {A : Around} {t : Sem α} {P : α → Shared → Prop} {E : Value → Shared → Prop} {s : Shared} (h : ∀ Q : α → Shared → Prop, (∀ v s', P v s' → Q v s') → wpAny M A t Q E s) : wpAny M A t P E s := h P fun _ _ x => x

/-- a run's generators, laid elsewhere -/
noncomputable abbrev wG (s : Shared) (G : Array GenState) : Shared := { s with gens := G }

noncomputable def okGen (o : Option Obj) : Bool := o.any fun o => o.genNumber?.isSome

/-- the tree of a delegation, its yields told without the mark of a clean-up (where it delegates to a generator) -/
noncomputable def offG {α : Type} (it : Value) : Sem α → Sem α
  | .pure a => .pure a
  | .raise e => .raise e
  | .unsupported w => .unsupported w
  | .finish e => .finish e
  | .rule t k => .rule t fun x => offG it (k x)
  | .at p k => .at p fun x => offG it (k x)
  | .load a p k => .load a p fun x => offG it (k x)
  | .update a p g k => .update a p g fun x => offG it (k x)
  | .alloc o k => .alloc o fun x => offG it (k x)
  | .register a k => .register a fun x => offG it (k x)
  | .loadIfAlive a k => .loadIfAlive a fun x => offG it (k x)
  | .point l k => .point l fun x => offG it (k x)
  | .fresh k => .fresh fun x => offG it (k x)
  | .ask k => .ask fun x => offG it (k x)
  | .choose s n k => .choose s n fun x => offG it (k x)
  | .os q l k => .os q l fun x => offG it (k x)
  | .call c m g l k => .call c m g l fun x => offG it (k x)
  | .handled o k => .handled o fun x => offG it (k x)
  | .genState g k => .genState g fun x => offG it (k x)
  | .newGen c k => .newGen c fun x => offG it (k x)
  | .resume g r l k => .resume g r l fun x => offG it (k x)
  | .yield v true l k => match it with
    | .ref a => .loadIfAlive a fun o => if okGen o then .yield v false l fun x => offG it (k x) else .unsupported "off"
    | _ => .unsupported "off"
  | .yield v false l k => .yield v false l k
  | .stack k => .stack fun x => offG it (k x)
  | .fork c k => .fork c fun x => offG it (k x)
  | .thread k => .thread fun x => offG it (k x)
  | .await a t d l k => .await a t d l fun x => offG it (k x)

noncomputable def isYF : Code → Option Value
  | .builtin id args => if id = "proto.yield_from" then some (args.pos.headD .none) else none
  | _ => none

noncomputable def den2 (c : Code) : Sem Fin := match isYF c with
  | some it => offG it (denote table c)
  | none => denote table c

noncomputable def MM (w : World) : Model := ⟨den2, PP, w⟩

theorem gens_grow {M : Model} {Γ : Ctx} {p : Pos} {t : Sem Fin} {fs : List Frame} {s : Shared} {e : End} {s' : Shared} (h : Runs M Γ p t fs s e s') : s.gens.size ≤ s'.gens.size := by
  induction h with
  | done | raise => exact Nat.le_refl _
  | again _ _ ih => exact ih
  | rule _ ih | «at» _ ih | load _ _ ih | update _ _ ih | loadIfAlive _ ih | point _ ih | alloc _ ih | fresh _ ih | ask _ ih | choose _ _ ih | os _ ih | handled _ ih | genState _ _ ih | stack _ ih | thread _ ih => exact ih
  | newGen _ ih => exact Nat.le_trans (by simp) ih
  | call _ _ ih1 ih2 => exact Nat.le_trans ih1 ih2
  | callSusp _ ih => exact ih
  | yield => exact Nat.le_refl _
  | resumeFresh _ _ _ _ ih1 ih2 => exact Nat.le_trans (by simpa [Shared.setGen] using ih1) (by simpa [Shared.setGen] using ih2)
  | resumeSuspended _ _ _ _ ih1 ih2 => exact Nat.le_trans (by simpa [Shared.setGen] using ih1) (by simpa [Shared.setGen] using ih2)
  | resumeJustStarted _ _ _ ih => exact ih
  | resumeThrowFresh _ _ ih => simpa [Shared.setGen] using ih
  | resumeRunning _ _ ih => exact ih
  | resumeFinished _ _ ih => exact ih
  | segRet _ _ ih1 ih2 => exact Nat.le_trans ih1 ih2
  | segGen _ _ ih1 ih2 => exact Nat.le_trans ih1 (by simpa [Shared.setGen] using ih2)
  | segSuspOut _ _ ih => exact ih
  | segSuspGen _ _ _ _ ih1 ih2 => exact Nat.le_trans ih1 (by simpa [Shared.setGen] using ih2)

theorem den2_of {w : World} {G : Array GenState} {Γ : Ctx} {p : Pos} {c : Code} {s : Shared} {e : End} {s' : Shared}
    (h : Runs (MM w) Γ p (denote table c) [] (wG s G) e (wG s' G) ∧ ∀ it, Runs (MM w) Γ p (offG it (denote table c)) [] (wG s G) e (wG s' G)) : Runs (MM w) Γ p ((MM w).den c) [] (wG s G) e (wG s' G) := by
  show Runs (MM w) Γ p (den2 c) [] (wG s G) e (wG s' G)
  unfold den2
  split
  · exact h.2 _
  · exact h.1

theorem pureRun {w : World} {G : Array GenState} {Γ : Ctx} {p : Pos} {t : Sem Fin} {fs : List Frame} {s : Shared} {e : End} {s' : Shared} (h : Runs (model PP w) Γ p t fs s e s') :
    fs = [] → (∃ r, e = .ret r) → s'.gens = #[] → Runs (MM w) Γ p t [] (wG s G) e (wG s' G) ∧ ∀ it, Runs (MM w) Γ p (offG it t) [] (wG s G) e (wG s' G) := by
  induction h with
  | done => intro _ _ _; exact ⟨.done, fun _ => .done⟩
  | raise => intro _ _ _; exact ⟨.raise, fun _ => .raise⟩
  | again hq _ ih => intro hf he hg; have := den2_of (ih hf he hg); exact ⟨.again hq this, fun _ => .again hq this⟩
  | rule _ ih => intro hf he hg; have := ih hf he hg; exact ⟨.rule this.1, fun it => .rule (this.2 it)⟩
  | «at» _ ih => intro hf he hg; have := ih hf he hg; exact ⟨.at this.1, fun it => .at (this.2 it)⟩
  | load ho _ ih => intro hf he hg; have := ih hf he hg; exact ⟨.load ho this.1, fun it => .load ho (this.2 it)⟩
  | update ho _ ih => intro hf he hg; have := ih hf he hg; exact ⟨.update ho this.1, fun it => .update ho (this.2 it)⟩
  | loadIfAlive _ ih => intro hf he hg; have := ih hf he hg; exact ⟨.loadIfAlive this.1, fun it => .loadIfAlive (this.2 it)⟩
  | point _ ih => intro hf he hg; have := ih hf he hg; exact ⟨.point this.1, fun it => .point (this.2 it)⟩
  | alloc _ ih => intro hf he hg; have := ih hf he hg; exact ⟨.alloc this.1, fun it => .alloc (this.2 it)⟩
  | fresh _ ih => intro hf he hg; have := ih hf he hg; exact ⟨.fresh this.1, fun it => .fresh (this.2 it)⟩
  | ask _ ih => intro hf he hg; have := ih hf he hg; exact ⟨.ask this.1, fun it => .ask (this.2 it)⟩
  | choose hn _ ih => intro hf he hg; have := ih hf he hg; exact ⟨.choose hn this.1, fun it => .choose hn (this.2 it)⟩
  | os _ ih => intro hf he hg; have := ih hf he hg; exact ⟨.os this.1, fun it => .os (this.2 it)⟩
  | handled _ ih => intro hf he hg; have := ih hf he hg; exact ⟨.handled this.1, fun it => .handled (this.2 it)⟩
  | stack _ ih => intro hf he hg; have := ih hf he hg; exact ⟨.stack this.1, fun it => .stack (this.2 it)⟩
  | thread _ ih => intro hf he hg; have := ih hf he hg; exact ⟨.thread this.1, fun it => .thread (this.2 it)⟩
  | genState ho h _ =>
    intro hf he hg
    have := gens_grow h; rw [hg] at this
    rw [Array.eq_empty_of_size_eq_zero (Nat.le_zero.mp this)] at ho; simp at ho
  | newGen h _ => intro hf he hg; have := gens_grow h; rw [hg] at this; simp at this
  | call _ h2 ih1 ih2 =>
    intro hf he hg
    have hz := gens_grow h2; rw [hg] at hz
    have a := den2_of (ih1 rfl ⟨_, rfl⟩ (Array.eq_empty_of_size_eq_zero (Nat.le_zero.mp hz)))
    have b := ih2 hf he hg
    exact ⟨.call a b.1, fun it => .call a (b.2 it)⟩
  | callSusp => intro _ he _; obtain ⟨_, he⟩ := he; cases he
  | yield => intro _ he _; obtain ⟨_, he⟩ := he; cases he
  | resumeFresh ho h1 _ h2 =>
    intro hf he hg
    have z2 := gens_grow h2; have z1 := gens_grow h1; rw [hg] at z2
    simp only [Shared.setGen, Array.size_setIfInBounds, List.size_toArray, List.length_nil] at z1 z2
    refine ex1_1 (Array.getElem?_eq_some_iff.mp ho) ?_
    intro hlt _
    lia
  | resumeSuspended ho h1 _ h2 =>
    intro hf he hg
    have z2 := gens_grow h2; have z1 := gens_grow h1; rw [hg] at z2
    simp only [Shared.setGen, Array.size_setIfInBounds, List.size_toArray, List.length_nil] at z1 z2
    refine ex1_1 (Array.getElem?_eq_some_iff.mp ho) ?_
    intro hlt _
    lia
  | resumeJustStarted ho _ h _ => intro hf he hg; have := gens_grow h; rw [hg] at this; rw [Array.eq_empty_of_size_eq_zero (Nat.le_zero.mp this)] at ho; simp at ho
  | resumeThrowFresh ho h _ => intro hf he hg; have := gens_grow h; rw [hg] at this; simp [Shared.setGen] at this; rw [this] at ho; simp at ho
  | resumeRunning ho h _ => intro hf he hg; have := gens_grow h; rw [hg] at this; rw [Array.eq_empty_of_size_eq_zero (Nat.le_zero.mp this)] at ho; simp at ho
  | resumeFinished ho h _ => intro hf he hg; have := gens_grow h; rw [hg] at this; rw [Array.eq_empty_of_size_eq_zero (Nat.le_zero.mp this)] at ho; simp at ho
  | segRet => intro hf; cases hf
  | segGen => intro hf; cases hf
  | segSuspOut => intro hf; cases hf
  | segSuspGen => intro hf; cases hf

theorem wakes_grow {M : Model} {Γ : Ctx} {p : Pos} {g : Nat} {r : Resume} {s : Shared} {res : GenResult} {s' : Shared} (h : Wakes M Γ p g r s res s') : g < s'.gens.size := by
  unfold Wakes at h
  cases hg : s.gens[g]? with
  | none => rw [hg] at h; exact h.elim
  | some gs =>
    refine ex1_1 (Array.getElem?_eq_some_iff.mp hg) ?_
    intro hlt _
    rw [hg] at h
    have fin : ∀ {Γ' : Ctx} {p' : Pos} {t : Sem Fin} {fs : List Frame} {e : End} {s₁ : Shared}, Runs M Γ' p' t fs (s.setGen g .running) e s₁ → g < (s₁.setGen g e.genState).gens.size := by
      intro Γ' p' t fs e s₁ hr
      have := gens_grow hr
      simp only [Shared.setGen, Array.size_setIfInBounds] at this ⊢
      exact Nat.lt_of_lt_of_le (by assumption) (by assumption)
    cases gs with
    | fresh c =>
      cases r with
      | send v =>
        cases v with
        | none => obtain ⟨e₁, s₁, hr, _, _, rfl⟩ := h; exact fin hr
        | _ => obtain ⟨_, rfl⟩ := h; exact hlt
      | throw x => obtain ⟨_, rfl⟩ := h; simpa [Shared.setGen] using hlt
    | suspended k₀ l₀ c₀ p₀ fs cl => obtain ⟨e₁, s₁, hr, _, _, rfl⟩ := h; exact fin hr
    | running => obtain ⟨_, rfl⟩ := h; exact hlt
    | finished => obtain ⟨_, rfl⟩ := h; exact hlt

/-- what a tree that makes no generators does, it does in the other model too, whatever generators there are -/
theorem wp_tr' {w : World} {G : Array GenState} {α : Type} {Γ : Ctx} {Q : α → Pos → Shared → Prop} {E : Value → Pos → Shared → Prop} (m : Sem α) : ∀ {p : Pos} {s : Shared},
    Sem.wp (model PP w) Γ m (fun a p' s' => s'.gens = #[] ∧ Q a p' (wG s' G)) (fun e p' s' => s'.gens = #[] ∧ E e p' (wG s' G)) p s → s.gens = #[] ∧ Sem.wp (MM w) Γ m Q E p (wG s G) := by
  induction m with
  | pure a => exact fun h => h
  | raise e => exact fun h => h
  | unsupported | finish | yield | fork | await | register => exact fun h => h.elim
  | rule _ k ih | «at» _ k ih | alloc _ k ih | loadIfAlive _ k ih | point _ k ih | fresh k ih | ask k ih | os _ _ k ih | handled _ k ih | stack k ih | thread k ih => exact fun h => ih _ h
  | load a _ k ih => exact fun ⟨o, ho, h⟩ => let ⟨x, y⟩ := ih _ h; ⟨x, o, ho, y⟩
  | update a _ f k ih => exact fun ⟨ha, h⟩ => let ⟨x, y⟩ := ih _ h; ⟨x, ha, y⟩
  | choose _ _ k ih => exact fun ⟨ha, h⟩ => let ⟨x, y⟩ := ih _ h; ⟨x, ha, y⟩
  | genState g k ih => 
    intro p s hq1_
    refine ex1_2 (hq1_) ?_
    clear hq1_
    intro st hg h
    have := (ih _ h).1
    rw [this] at hg; simp at hg
  | newGen c k ih => intro p s h; have := (ih _ h).1; simp at this
  | call c h g l k ih =>
    intro p s hq2_
    refine ex2_2 (hq2_) ?_
    clear hq2_
    intro r s' hr h
    refine ex0_2 (ih r h) ?_
    intro x y
    have z := gens_grow hr
    rw [x] at z
    refine ⟨Array.eq_empty_of_size_eq_zero (Nat.le_zero.mp z), r, wG s' G, ?_, y⟩
    exact den2_of (pureRun hr rfl ⟨r, rfl⟩ x)
  | resume g r l k ih =>
    intro p s hq3_
    refine ex2_2 (hq3_) ?_
    clear hq3_
    intro res s' hw h
    have := (ih res h).1
    have z := wakes_grow hw
    rw [this] at z; simp at z

theorem tr {w : World} {G : Array GenState} {α : Type} {A : Around} {m : Sem α} {Q : α → Shared → Prop} {E : Value → Shared → Prop} {s : Shared}
    (h : wpAny (model PP w) A m (fun a s' => s'.gens = #[] ∧ Q a (wG s' G)) (fun e s' => s'.gens = #[] ∧ E e (wG s' G)) (wG s #[])) : wpAny (MM w) A m Q E (wG s G) :=
  fun Γ p hΓ => (wp_tr' m (h Γ p hΓ)).2

/-- the second model's tree beside the real one -/
noncomputable def SameK (c : Code) (t u : Sem Fin) : Prop := u = t ∨ ∃ it, isYF c = some it ∧ u = offG it t
theorem SameK.rfl' {c : Code} {t : Sem Fin} : SameK c t t := .inl rfl
theorem SameK.den (c : Code) : SameK c (denote table c) (den2 c) := by
  unfold den2
  cases h : isYF c with
  | none => exact .inl rfl
  | some it => exact .inr ⟨it, h, rfl⟩

noncomputable def SameF : Frame → Frame → Prop
  | .ret k h g l c p kp, .ret k' h' g' l' c' p' kp' => h' = h ∧ g' = g ∧ l' = l ∧ c' = c ∧ p' = p ∧ kp' = kp ∧ ∀ r, SameK c (k r) (k' r)
  | .gen g k l c p, .gen g' k' l' c' p' => g' = g ∧ l' = l ∧ c' = c ∧ p' = p ∧ ∀ r, SameK c (k r) (k' r)
  | _, _ => False
noncomputable def SameFs : List Frame → List Frame → Prop
  | [], [] => True
  | f :: fs, g :: gs => SameF f g ∧ SameFs fs gs
  | _, _ => False
noncomputable def SameG : GenState → GenState → Prop
  | .fresh c, .fresh c' => c' = c
  | .suspended k l c p fs _, .suspended k' l' c' p' fs' _ => l' = l ∧ c' = c ∧ p' = p ∧ (∀ r, SameK c (k r) (k' r)) ∧ SameFs fs fs'
  | .running, .running => True
  | .finished, .finished => True
  | _, _ => False
structure SameS (s u : Shared) : Prop where
  heap : u.heap = s.heap
  drawn : u.drawn = s.drawn
  toks : u.toks = s.toks
  os : u.os = s.os
  size : u.gens.size = s.gens.size
  gens : ∀ (i : Nat) (x y : GenState), s.gens[i]? = some x → u.gens[i]? = some y → SameG x y
structure SameT (t v : Thread) : Prop where
  code : v.code = t.code
  pos : v.pos = t.pos
  cur : SameK t.code t.cur v.cur
  stack : SameFs t.stack v.stack

theorem SameF.where_ : ∀ {f g : Frame}, SameF f g → g.where_ = f.where_
  | .ret .., .ret .., h => by obtain ⟨_, _, _, rfl, rfl, _⟩ := h; rfl
  | .gen .., .gen .., h => by obtain ⟨_, _, rfl, rfl, _⟩ := h; rfl
  | .ret .., .gen .., h => h.elim
  | .gen .., .ret .., h => h.elim
theorem SameF.guarded : ∀ {f g : Frame}, SameF f g → g.guarded = f.guarded
  | .ret .., .ret .., h => by obtain ⟨_, rfl, _⟩ := h; rfl
  | .gen .., .gen .., _ => rfl
  | .ret .., .gen .., h => h.elim
  | .gen .., .ret .., h => h.elim
theorem SameFs.where_ : ∀ {f g : List Frame}, SameFs f g → g.map Frame.where_ = f.map Frame.where_
  | [], [], _ => rfl
  | f :: fs, g :: gs, h => by rw [List.map_cons, List.map_cons, h.1.where_, SameFs.where_ h.2]
  | [], _ :: _, h => h.elim
  | _ :: _, [], h => h.elim
theorem SameFs.guarded : ∀ {f g : List Frame}, SameFs f g → g.any Frame.guarded = f.any Frame.guarded
  | [], [], _ => rfl
  | f :: fs, g :: gs, h => by rw [List.any_cons, List.any_cons, h.1.guarded, SameFs.guarded h.2]
  | [], _ :: _, h => h.elim
  | _ :: _, [], h => h.elim
theorem SameFs.append : ∀ {f g f' g' : List Frame}, SameFs f g → SameFs f' g' → SameFs (f ++ f') (g ++ g')
  | [], [], _, _, _, h => h
  | _ :: _, _ :: _, _, _, h, h' => ⟨h.1, SameFs.append h.2 h'⟩
  | [], _ :: _, _, _, h, _ => h.elim
  | _ :: _, [], _, _, h, _ => h.elim
theorem SameFs.top : ∀ {f g : List Frame} (b : Bool), SameFs f g → topHandled.go b g = topHandled.go b f
  | [], [], _, _ => rfl
  | .gen _ _ _ _ _ :: fs, .gen _ _ _ _ _ :: gs, b, h => by
    have e := SameFs.top false (f := fs) (g := gs) h.2
    cases b <;> exact e
  | .ret _ _ _ _ _ _ _ :: fs, .ret _ hx _ _ _ _ _ :: gs, b, h => by
    refine ex0_2 (h) ?_
    clear h
    intro hq1_ h2
    refine ex0_2 (hq1_) ?_
    clear hq1_
    intro hq2_ _
    obtain rfl := hq2_
    have e1 := SameFs.top true (f := fs) (g := gs) h2
    have e2 := SameFs.top false (f := fs) (g := gs) h2
    cases b with
    | true => exact e1
    | false =>
      cases hx with
      | none => exact e2
      | some e =>
        show (if (e == byPass) = true then topHandled.go true gs else some e) = (if (e == byPass) = true then topHandled.go true fs else some e)
        rw [e1]
  | .ret .. :: _, .gen .. :: _, _, h => h.1.elim
  | .gen .. :: _, .ret .. :: _, _, h => h.1.elim
  | [], _ :: _, _, h => h.elim
  | _ :: _, [], _, h => h.elim
theorem SameFs.split : ∀ {f g : List Frame}, SameFs f g → match splitAtGen f, splitAtGen g with
    | none, none => True
    | some (a, (n, k, c, p), r), some (a', (n', k', c', p'), r') => SameFs a a' ∧ n' = n ∧ c' = c ∧ p' = p ∧ (∀ x, SameK c (k x) (k' x)) ∧ SameFs r r'
    | _, _ => False
  | [], [], _ => trivial
  | .gen .. :: fs, .gen .. :: gs, h => by
    refine ex0_2 (h) ?_
    clear h
    intro hq3_ h2
    refine ex0_5 (hq3_) ?_
    clear hq3_
    intro hq4_ hq5_ hq6_ hq7_ hk
    obtain rfl := hq4_
    obtain rfl := hq5_
    obtain rfl := hq6_
    obtain rfl := hq7_
    exact ⟨trivial, rfl, rfl, rfl, hk, h2⟩
  | .ret .. :: fs, .ret .. :: gs, h => by
    have ih := SameFs.split h.2
    unfold splitAtGen
    cases hf : splitAtGen fs with
    | none =>
      cases hg : splitAtGen gs with
      | none => trivial
      | some _ => rw [hf, hg] at ih; exact ih.elim
    | some x =>
      cases hg : splitAtGen gs with
      | none => rw [hf, hg] at ih; exact ih.elim
      | some y =>
        rw [hf, hg] at ih
        obtain ⟨a, ⟨n, k, c, p⟩, r⟩ := x
        obtain ⟨a', ⟨n', k', c', p'⟩, r'⟩ := y
        exact ⟨⟨h.1, ih.1⟩, ih.2⟩
  | .ret .. :: _, .gen .. :: _, h => h.1.elim
  | .gen .. :: _, .ret .. :: _, h => h.1.elim
  | [], _ :: _, h => h.elim
  | _ :: _, [], h => h.elim

theorem SameG.refl : ∀ x : GenState, SameG x x
  | .fresh _ => rfl
  | .running => trivial
  | .finished => trivial
  | .suspended k l c p fs _ => ⟨rfl, rfl, rfl, fun _ => .inl rfl, by
      have : ∀ fs : List Frame, SameFs fs fs := by
        intro fs
        induction fs with
        | nil => trivial
        | cons f fs ih => refine ⟨?_, ih⟩; cases f <;> first | exact ⟨rfl, rfl, rfl, rfl, rfl, rfl, fun _ => Or.inl rfl⟩ | exact ⟨rfl, rfl, rfl, rfl, fun _ => Or.inl rfl⟩
      exact this fs⟩
theorem SameG.seen : ∀ {x y : GenState}, SameG x y → y.seen = x.seen
  | .fresh _, .fresh _, h => by cases h; rfl
  | .running, .running, _ => rfl
  | .finished, .finished, _ => rfl
  | .suspended .., .suspended .., h => by obtain ⟨_, rfl, rfl, _, hf⟩ := h; simp only [GenState.seen]; rw [hf.where_]
  | .fresh _, .running, h | .fresh _, .finished, h | .fresh _, .suspended .., h | .running, .fresh _, h | .running, .finished, h | .running, .suspended .., h
  | .finished, .fresh _, h | .finished, .running, h | .finished, .suspended .., h | .suspended .., .fresh _, h | .suspended .., .running, h | .suspended .., .finished, h => h.elim

theorem SameS.get {s u : Shared} (h : SameS s u) (i : Nat) : (s.gens[i]? = none ∧ u.gens[i]? = none) ∨ ∃ x y, s.gens[i]? = some x ∧ u.gens[i]? = some y ∧ SameG x y := by
  by_cases hi : i < s.gens.size
  · have e1 := Array.getElem?_eq_getElem hi
    have e2 := Array.getElem?_eq_getElem (show i < u.gens.size by rw [h.size]; exact hi)
    exact .inr ⟨_, _, e1, e2, h.gens i _ _ e1 e2⟩
  · exact .inl ⟨Array.getElem?_eq_none (by (first | lia | omega)), Array.getElem?_eq_none (by rw [h.size]; (first | lia | omega))⟩
theorem same_push {a b : Array GenState} (hs : b.size = a.size) (hg : ∀ (i : Nat) (x y : GenState), a[i]? = some x → b[i]? = some y → SameG x y) (z : GenState) :
    (b.push z).size = (a.push z).size ∧ ∀ (i : Nat) (x y : GenState), (a.push z)[i]? = some x → (b.push z)[i]? = some y → SameG x y := by
  refine ⟨by simp [hs], fun i x y h1 h2 => ?_⟩
  rw [Array.getElem?_push] at h1 h2
  rw [hs] at h2
  split at h1
  · rename_i e
    rw [if_pos e] at h2
    cases h1; cases h2; exact SameG.refl _
  · rename_i e
    rw [if_neg e] at h2
    exact hg i x y h1 h2
theorem same_set {a b : Array GenState} (hs : b.size = a.size) (hg : ∀ (i : Nat) (x y : GenState), a[i]? = some x → b[i]? = some y → SameG x y) (j : Nat) {z z' : GenState} (hz : SameG z z') :
    (b.setIfInBounds j z').size = (a.setIfInBounds j z).size ∧ ∀ (i : Nat) (x y : GenState), (a.setIfInBounds j z)[i]? = some x → (b.setIfInBounds j z')[i]? = some y → SameG x y := by
  refine ⟨by simp [hs], fun i x y h1 h2 => ?_⟩
  rw [Array.getElem?_setIfInBounds] at h1 h2
  rw [hs] at h2
  by_cases e : j = i
  · rw [if_pos e] at h1 h2
    split at h1
    · rename_i e'
      rw [if_pos e'] at h2
      cases h1; cases h2; exact hz
    · cases h1
  · rw [if_neg e] at h1 h2
    exact hg i x y h1 h2

noncomputable def noSusp (g : Array GenState) : Prop := ∀ x ∈ g, match x with | .suspended .. => False | _ => True
theorem same_noSusp {a b : Array GenState} (hs : b.size = a.size) (hg : ∀ (i : Nat) (x y : GenState), a[i]? = some x → b[i]? = some y → SameG x y) (h : noSusp b) : leftWithCleanup a = false := by
  unfold leftWithCleanup
  rw [Array.any_eq_false']
  intro x hx
  obtain ⟨i, hi, rfl⟩ := Array.mem_iff_getElem.mp hx
  have e2 := Array.getElem?_eq_getElem (show i < b.size by (first | lia | omega))
  have := hg i _ _ (Array.getElem?_eq_getElem hi) e2
  have h2 := h _ (Array.getElem_mem (show i < b.size by (first | lia | omega)))
  generalize b[i] = y at *
  generalize a[i] = x at *
  cases x <;> first | rfl | exact Bool.false_ne_true | (intro hh; cases hh; done) | (cases y <;> first | exact False.elim h2 | exact False.elim this)
theorem noSusp_left {b : Array GenState} (h : noSusp b) : leftWithCleanup b = false := same_noSusp rfl (fun i x y h1 h2 => by rw [h1] at h2; cases h2; exact SameG.refl _) h

noncomputable def Kin (c : Code) : Sem Fin → Sem Fin → Prop
  | .pure a, u => u = .pure a
  | .raise e, u => u = .raise e
  | .unsupported w, u => u = .unsupported w
  | .finish e, u => u = .finish e
  | .rule t k, u => ∃ k', u = .rule t k' ∧ ∀ x, SameK c (k x) (k' x)
  | .at p k, u => ∃ k', u = .at p k' ∧ ∀ x, SameK c (k x) (k' x)
  | .load a p k, u => ∃ k', u = .load a p k' ∧ ∀ x, SameK c (k x) (k' x)
  | .update a p f k, u => ∃ k', u = .update a p f k' ∧ ∀ x, SameK c (k x) (k' x)
  | .alloc o k, u => ∃ k', u = .alloc o k' ∧ ∀ x, SameK c (k x) (k' x)
  | .register a k, u => ∃ k', u = .register a k' ∧ ∀ x, SameK c (k x) (k' x)
  | .loadIfAlive a k, u => ∃ k', u = .loadIfAlive a k' ∧ ∀ x, SameK c (k x) (k' x)
  | .point l k, u => ∃ k', u = .point l k' ∧ ∀ x, SameK c (k x) (k' x)
  | .fresh k, u => ∃ k', u = .fresh k' ∧ ∀ x, SameK c (k x) (k' x)
  | .ask k, u => ∃ k', u = .ask k' ∧ ∀ x, SameK c (k x) (k' x)
  | .choose r n k, u => ∃ k', u = .choose r n k' ∧ ∀ x, SameK c (k x) (k' x)
  | .os q l k, u => ∃ k', u = .os q l k' ∧ ∀ x, SameK c (k x) (k' x)
  | .call d m g l k, u => ∃ k', u = .call d m g l k' ∧ ∀ x, SameK c (k x) (k' x)
  | .handled o k, u => ∃ k', u = .handled o k' ∧ ∀ x, SameK c (k x) (k' x)
  | .genState g k, u => ∃ k', u = .genState g k' ∧ ∀ x, SameK c (k x) (k' x)
  | .newGen d k, u => ∃ k', u = .newGen d k' ∧ ∀ x, SameK c (k x) (k' x)
  | .resume g r l k, u => ∃ k', u = .resume g r l k' ∧ ∀ x, SameK c (k x) (k' x)
  | .yield v g l k, u => ∃ k', u = .yield v g l k' ∧ ∀ x, SameK c (k x) (k' x)
  | .stack k, u => ∃ k', u = .stack k' ∧ ∀ x, SameK c (k x) (k' x)
  | .fork d k, u => ∃ k', u = .fork d k' ∧ ∀ x, SameK c (k x) (k' x)
  | .thread k, u => ∃ k', u = .thread k' ∧ ∀ x, SameK c (k x) (k' x)
  | .await a f d l k, u => ∃ k', u = .await a f d l k' ∧ ∀ x, SameK c (k x) (k' x)

theorem SameK.kin {c : Code} {t u : Sem Fin} (h : SameK c t u) (hy : ∀ v l k, t = .yield v true l k → u = t) : Kin c t u := by
  cases t with
  | yield v g l k =>
    cases g with
    | true => rw [hy v l k rfl]; exact ⟨_, rfl, fun _ => .inl rfl⟩
    | false =>
      rcases h with rfl | ⟨it, hc, rfl⟩
      · exact ⟨_, rfl, fun _ => .inl rfl⟩
      · exact ⟨_, rfl, fun _ => .inl rfl⟩
  | _ =>
    rcases h with rfl | ⟨it, hc, rfl⟩
    · first | exact rfl | exact ⟨_, rfl, fun _ => .inl rfl⟩
    · first | exact rfl | exact ⟨_, rfl, fun _ => .inr ⟨it, hc, rfl⟩⟩

theorem SameT.mk' {c c' : Code} {p p' : Pos} {t u : Sem Fin} {f g : List Frame} (hc : c' = c) (hp : p' = p) (hk : SameK c t u) (hf : SameFs f g) : SameT ⟨t, c, p, f⟩ ⟨u, c', p', g⟩ := ⟨hc, hp, hk, hf⟩

/-- one step of the real machine follows one of MM's -/
noncomputable def Sim (w : World) (s u : Shared) (t v : Thread) : Prop :=
    match step den2 PP w u v with
    | .go u1 v1 => ∃ s1 t1, step (denote table) PP w s t = .go s1 t1 ∧ SameS s1 u1 ∧ SameT t1 v1
    | .halt o u1 => o.ends = true → noSusp u1.gens → ∃ s1, step (denote table) PP w s t = .halt o s1 ∧ s1.heap = u1.heap ∧ s1.os = u1.os
theorem Sim.go {w : World} {s u s1 u1 : Shared} {t v t1 v1 : Thread} (e2 : step den2 PP w u v = .go u1 v1) (e1 : step (denote table) PP w s t = .go s1 t1) (hs : SameS s1 u1) (ht : SameT t1 v1) : Sim w s u t v := by
  unfold Sim; rw [e2]; exact ⟨_, _, e1, hs, ht⟩
theorem Sim.odd {w : World} {s u u1 : Shared} {t v : Thread} {o : Outcome} (e2 : step den2 PP w u v = .halt o u1) (h : o.ends = true → False) : Sim w s u t v := by
  unfold Sim; rw [e2]; exact fun ho => (h ho).elim
theorem Sim.fin {w : World} {s u : Shared} {t v : Thread} {o : Outcome} (hS : SameS s u) (e2 : step den2 PP w u v = finish o u) (e1 : step (denote table) PP w s t = finish o s) : Sim w s u t v := by
  unfold Sim; rw [e2, finish]
  by_cases hl : leftWithCleanup u.gens = true
  · rw [if_pos hl]; intro ho; cases ho
  · rw [if_neg hl]
    intro _ hn
    refine ⟨s, ?_, hS.heap.symm, hS.os.symm⟩
    rw [e1, finish, if_neg (by rw [same_noSusp hS.size hS.gens hn]; exact Bool.false_ne_true)]
noncomputable def fsOf : Step → List Frame
  | .go _ t => t.stack
  | .halt .. => []
/-- the stack after a body that goes on as another code -/
noncomputable def agFs (w : World) (s : Shared) (code c : Code) (pos : Pos) (st : List Frame) : List Frame := fsOf (step (fun _ => .pure (.again c)) PP w s ⟨.pure (.again c), code, pos, st⟩)
theorem ag_same {w : World} {s : Shared} {code c : Code} {pos : Pos} : ∀ {st st' : List Frame}, SameFs st st' → SameFs (agFs w s code c pos st) (agFs w s code c pos st')
  | [], [], _ => by
    cases code with
    | call => cases c <;> exact trivial
    | builtin => cases c <;> exact trivial
    | _ => exact trivial
  | .gen .. :: _, .gen .. :: _, h => by
    cases code with
    | call => cases c <;> exact h
    | builtin => cases c <;> exact h
    | _ => exact h
  | .ret .. :: _, .ret .. :: _, h => by
    refine ex0_2 (h) ?_
    clear h
    intro hq1_ hfs
    refine ex0_7 (hq1_) ?_
    clear hq1_
    intro h1 h2 h3 h4 h5 h6 hk
    subst h6
    cases code with
    | call => cases c <;> first | exact ⟨⟨h1, h2, h3, h4, h5, rfl, hk⟩, hfs⟩ | (cases h3; exact ⟨⟨h1, h2, rfl, h4, h5, rfl, hk⟩, hfs⟩)
    | builtin => cases c <;> first | exact ⟨⟨h1, h2, h3, h4, h5, rfl, hk⟩, hfs⟩ | (cases h3; exact ⟨⟨h1, h2, rfl, h4, h5, rfl, hk⟩, hfs⟩)
    | _ => exact ⟨⟨h1, h2, h3, h4, h5, rfl, hk⟩, hfs⟩
  | .ret .. :: _, .gen .. :: _, h => h.1.elim
  | .gen .. :: _, .ret .. :: _, h => h.1.elim
  | [], _ :: _, h => h.elim
  | _ :: _, [], h => h.elim
theorem sim_again {w : World} {heap : Heap} {gens gens' : Array GenState} {drawn : Drawn} {toks : Nat} {os : OsState} {c code : Code} {pos : Pos} {stack stack' : List Frame}
    (S : SameS ⟨heap, gens, drawn, toks, os⟩ ⟨heap, gens', drawn, toks, os⟩) (hst : SameFs stack stack') : Sim w ⟨heap, gens, drawn, toks, os⟩ ⟨heap, gens', drawn, toks, os⟩ ⟨.pure (.again c), code, pos, stack⟩ ⟨.pure (.again c), code, pos, stack'⟩ :=
  Sim.go (v1 := ⟨den2 c, c, pos, agFs w ⟨heap, gens, drawn, toks, os⟩ code c pos stack'⟩) (t1 := ⟨denote table c, c, pos, agFs w ⟨heap, gens, drawn, toks, os⟩ code c pos stack⟩) rfl rfl S (.mk' rfl rfl (.den c) (ag_same hst))
theorem sim_handled {code : Code} {own : Bool} {k k' : Option Value → Sem Fin} {stack stack' : List Frame} (hk : ∀ x, SameK code (k x) (k' x)) (hst : SameFs stack stack') :
    SameK code (k (topHandled (if own = true then match splitAtGen stack with | some (fs, _, _) => fs | none => stack else stack))) (k' (topHandled (if own = true then match splitAtGen stack' with | some (fs, _, _) => fs | none => stack' else stack'))) := by
  have key : ∀ a b, b = a → SameK code (k a) (k' b) := by intro a b h; rw [h]; exact hk a
  refine key _ _ ?_
  cases own with
  | false => exact hst.top false
  | true =>
    simp only [if_true]
    have sp := hst.split
    cases ha : splitAtGen stack with
    | none =>
      cases hb : splitAtGen stack' with
      | none => exact hst.top false
      | some _ => rw [ha, hb] at sp; exact sp.elim
    | some x =>
      cases hb : splitAtGen stack' with
      | none => rw [ha, hb] at sp; exact sp.elim
      | some y =>
        rw [ha, hb] at sp
        obtain ⟨a, ⟨n, k, c, p⟩, r⟩ := x
        obtain ⟨a', ⟨n', k', c', p'⟩, r'⟩ := y
        exact sp.1.top false
theorem sim_resume {w : World} {heap : Heap} {gens gens' : Array GenState} {drawn : Drawn} {toks : Nat} {os : OsState} {g : Nat} {r : Resume} {l : List Value} {k k' : GenResult → Sem Fin} {code : Code} {pos : Pos} {stack stack' : List Frame}
    (hS : SameS ⟨heap, gens, drawn, toks, os⟩ ⟨heap, gens', drawn, toks, os⟩) (hk : ∀ x, SameK code (k x) (k' x)) (hst : SameFs stack stack') : Sim w ⟨heap, gens, drawn, toks, os⟩ ⟨heap, gens', drawn, toks, os⟩ ⟨.resume g r l k, code, pos, stack⟩ ⟨.resume g r l k', code, pos, stack'⟩ := by
  have hsz := hS.size
  have hgn := hS.gens
  rcases hS.get g with ⟨_, e2⟩ | ⟨x, y, e1, e2, hxy⟩
  · simp only at e2
    exact Sim.odd (by unfold step; dsimp only; rw [e2]) (fun ho => by cases ho)
  · simp only at e1 e2
    have hr := same_set hsz hgn g (show SameG .running .running from trivial)
    have hf := same_set hsz hgn g (show SameG .finished .finished from trivial)
    clear hS
    cases x <;> cases y <;> try exact hxy.elim
    · cases hxy
      cases r with
      | send v =>
        cases v <;> first
          | (apply Sim.go; (unfold step; dsimp only; rw [e2]; try exact rfl); (unfold step; dsimp only; rw [e1]; try exact rfl); exact ⟨rfl, rfl, rfl, rfl, hr.1, hr.2⟩; exact (.mk' rfl rfl (.den _) ⟨⟨rfl, rfl, rfl, rfl, hk⟩, hst⟩))
          | (apply Sim.go; (unfold step; dsimp only; rw [e2]; try exact rfl); (unfold step; dsimp only; rw [e1]; try exact rfl); exact ⟨rfl, rfl, rfl, rfl, hsz, hgn⟩; exact (.mk' rfl rfl (hk _) hst))
      | throw e => (apply Sim.go; (unfold step; dsimp only; rw [e2]; try exact rfl); (unfold step; dsimp only; rw [e1]; try exact rfl); exact ⟨rfl, rfl, rfl, rfl, hf.1, hf.2⟩; exact (.mk' rfl rfl (hk _) hst))
    · refine ex0_5 (hxy) ?_
      clear hxy
      intro hq2_ hq3_ hq4_ hkk hfs
      obtain rfl := hq2_
      obtain rfl := hq3_
      obtain rfl := hq4_
      (apply Sim.go; (unfold step; dsimp only; rw [e2]; try exact rfl); (unfold step; dsimp only; rw [e1]; try exact rfl); exact ⟨rfl, rfl, rfl, rfl, hr.1, hr.2⟩; exact (.mk' rfl rfl (hkk _) (hfs.append ⟨⟨rfl, rfl, rfl, rfl, hk⟩, hst⟩)))
    · (apply Sim.go; (unfold step; dsimp only; rw [e2]; try exact rfl); (unfold step; dsimp only; rw [e1]; try exact rfl); exact ⟨rfl, rfl, rfl, rfl, hsz, hgn⟩; exact (.mk' rfl rfl (hk _) hst))
    · (apply Sim.go; (unfold step; dsimp only; rw [e2]; try exact rfl); (unfold step; dsimp only; rw [e1]; try exact rfl); exact ⟨rfl, rfl, rfl, rfl, hsz, hgn⟩; exact (.mk' rfl rfl (hk _) hst))
theorem sim_yield {w : World} {heap : Heap} {gens gens' : Array GenState} {drawn : Drawn} {toks : Nat} {os : OsState} {v : Value} {g : Bool} {l : List Value} {k k' : Resume → Sem Fin} {code : Code} {pos : Pos} {stack stack' : List Frame}
    (hS : SameS ⟨heap, gens, drawn, toks, os⟩ ⟨heap, gens', drawn, toks, os⟩) (hk : ∀ x, SameK code (k x) (k' x)) (hst : SameFs stack stack') : Sim w ⟨heap, gens, drawn, toks, os⟩ ⟨heap, gens', drawn, toks, os⟩ ⟨.yield v g l k, code, pos, stack⟩ ⟨.yield v g l k', code, pos, stack'⟩ := by
  have sp := hst.split
  cases hb : splitAtGen stack' with
  | none => exact Sim.odd (by unfold step; dsimp only; rw [hb]) (fun ho => by cases ho)
  | some y =>
    cases ha : splitAtGen stack with
    | none => rw [ha, hb] at sp; exact sp.elim
    | some x =>
      rw [ha, hb] at sp
      obtain ⟨a, ⟨n, kk, c, p⟩, r⟩ := x
      obtain ⟨a', ⟨n', kk', c', p'⟩, r'⟩ := y
      refine ex0_6 (sp) ?_
      clear sp
      intro hfs hq5_ hq6_ hq7_ hkk hr
      obtain rfl := hq5_
      obtain rfl := hq6_
      obtain rfl := hq7_
      have hs : SameG (.suspended k l code pos a (g || a.any Frame.guarded)) (.suspended k' l code pos a' (g || a'.any Frame.guarded)) := ⟨rfl, rfl, rfl, hk, hfs⟩
      have hz := same_set hS.size hS.gens n' hs
      apply Sim.go; (unfold step; dsimp only; rw [hb]; try exact rfl); (unfold step; dsimp only; rw [ha]; try exact rfl); exact ⟨rfl, rfl, rfl, rfl, hz.1, hz.2⟩; exact (.mk' rfl rfl (hkk _) hr)
theorem sim_back {w : World} {heap : Heap} {gens gens' : Array GenState} {drawn : Drawn} {toks : Nat} {os : OsState} {cur : Sem Fin} {code : Code} {pos : Pos} {stack stack' : List Frame} {o : Outcome} {x : Result} {y : GenResult}
    (hS : SameS ⟨heap, gens, drawn, toks, os⟩ ⟨heap, gens', drawn, toks, os⟩) (hst : SameFs stack stack')
    (e0 : ∀ (d : Code → Sem Fin) (s : Shared), step d PP w s ⟨cur, code, pos, []⟩ = finish o s)
    (e1 : ∀ (d : Code → Sem Fin) (s : Shared) k h g l c p q r, step d PP w s ⟨cur, code, pos, .ret k h g l c p q :: r⟩ = .go s ⟨k x, c, p, r⟩)
    (e2 : ∀ (d : Code → Sem Fin) (s : Shared) i k l c p r, step d PP w s ⟨cur, code, pos, .gen i k l c p :: r⟩ = .go ⟨s.heap, s.gens.setIfInBounds i .finished, s.drawn, s.toks, s.os⟩ ⟨k y, c, p, r⟩) :
    Sim w ⟨heap, gens, drawn, toks, os⟩ ⟨heap, gens', drawn, toks, os⟩ ⟨cur, code, pos, stack⟩ ⟨cur, code, pos, stack'⟩ := by
  cases stack' with
  | nil =>
    cases stack with
    | cons _ _ => exact hst.elim
    | nil => exact Sim.fin hS (e0 _ _) (e0 _ _)
  | cons F' fs' =>
    cases stack with
    | nil => exact hst.elim
    | cons F fs =>
      refine ex0_2 (hst) ?_
      clear hst
      intro hF hfs
      cases F <;> cases F' <;> try exact hF.elim
      · refine ex0_7 (hF) ?_
        clear hF
        intro hq8_ hq9_ hq10_ hq11_ hq12_ hq13_ hk
        obtain rfl := hq8_
        obtain rfl := hq9_
        obtain rfl := hq10_
        obtain rfl := hq11_
        obtain rfl := hq12_
        obtain rfl := hq13_
        exact Sim.go (e1 ..) (e1 ..) hS (.mk' rfl rfl (hk _) hfs)
      · refine ex0_5 (hF) ?_
        clear hF
        intro hq14_ hq15_ hq16_ hq17_ hk
        obtain rfl := hq14_
        obtain rfl := hq15_
        obtain rfl := hq16_
        obtain rfl := hq17_
        have fin : SameG .finished .finished := trivial
        exact Sim.go (e2 ..) (e2 ..) ⟨rfl, rfl, rfl, rfl, (same_set hS.size hS.gens _ fin).1, (same_set hS.size hS.gens _ fin).2⟩ (.mk' rfl rfl (hk _) hfs)
theorem sim_cur {w : World} {heap : Heap} {gens gens' : Array GenState} {drawn : Drawn} {toks : Nat} {os : OsState} {cur cur' : Sem Fin} {code : Code} {pos : Pos} {stack stack' : List Frame}
    (hS : SameS ⟨heap, gens, drawn, toks, os⟩ ⟨heap, gens', drawn, toks, os⟩) (hk : Kin code cur cur') (hst : SameFs stack stack') : Sim w ⟨heap, gens, drawn, toks, os⟩ ⟨heap, gens', drawn, toks, os⟩ ⟨cur, code, pos, stack⟩ ⟨cur', code, pos, stack'⟩ := by
  have S : ∀ h d t o, SameS ⟨h, gens, d, t, o⟩ ⟨h, gens', d, t, o⟩ := fun _ _ _ _ => ⟨rfl, rfl, rfl, rfl, hS.size, hS.gens⟩
  cases cur with
  | pure a =>
    cases hk
    cases a with
    | done f => exact sim_back hS hst (fun _ _ => rfl) (fun _ _ _ _ _ _ _ _ _ _ => rfl) (fun _ _ _ _ _ _ _ _ => rfl)
    | again c => exact sim_again hS hst
  | raise e =>
    cases hk
    exact sim_back hS hst (fun _ _ => rfl) (fun _ _ _ _ _ _ _ _ _ _ => rfl) (fun _ _ _ _ _ _ _ _ => rfl)
  | unsupported wh => cases hk; exact Sim.odd rfl (fun ho => by cases ho)
  | finish e => cases hk; exact Sim.fin hS rfl rfl
  | rule tg k => obtain ⟨k', rfl, hk⟩ := hk; exact Sim.go rfl rfl (S ..) (.mk' rfl rfl (hk _) hst)
  | «at» p k => obtain ⟨k', rfl, hk⟩ := hk; exact Sim.go rfl rfl (S ..) (.mk' rfl rfl (hk _) hst)
  | loadIfAlive a k => obtain ⟨k', rfl, hk⟩ := hk; exact Sim.go rfl rfl (S ..) (.mk' rfl rfl (hk _) hst)
  | point l k => obtain ⟨k', rfl, hk⟩ := hk; exact Sim.go rfl rfl (S ..) (.mk' rfl rfl (hk _) hst)
  | fresh k => obtain ⟨k', rfl, hk⟩ := hk; exact Sim.go rfl rfl (S ..) (.mk' rfl rfl (hk _) hst)
  | ask k => obtain ⟨k', rfl, hk⟩ := hk; exact Sim.go rfl rfl (S ..) (.mk' rfl rfl (hk _) hst)
  | alloc o k => obtain ⟨k', rfl, hk⟩ := hk; exact Sim.go rfl rfl (S ..) (.mk' rfl rfl (hk _) hst)
  | os q l k => obtain ⟨k', rfl, hk⟩ := hk; exact Sim.go rfl rfl (S ..) (.mk' rfl rfl (hk _) hst)
  | thread k => obtain ⟨k', rfl, hk⟩ := hk; exact Sim.go rfl rfl (S ..) (.mk' rfl rfl (hk _) hst)
  | stack k =>
    refine ex1_2 (hk) ?_
    clear hk
    intro k' hq18_ hk
    obtain rfl := hq18_
    refine Sim.go rfl rfl (S ..) (.mk' rfl rfl ?_ hst)
    rw [hst.where_]; exact hk _
  | handled own k => obtain ⟨k', rfl, hk⟩ := hk; exact Sim.go rfl rfl (S ..) (.mk' rfl rfl (sim_handled hk hst) hst)
  | load a p k =>
    refine ex1_2 (hk) ?_
    clear hk
    intro k' hq19_ hk
    obtain rfl := hq19_
    cases ho : heap.get? a with
    | some o => exact Sim.go (by unfold step; dsimp only; rw [ho]) (by unfold step; dsimp only; rw [ho]) (S ..) (.mk' rfl rfl (hk o) hst)
    | none => exact Sim.odd (by unfold step; dsimp only; rw [ho]) (fun ho => by cases ho)
  | update a p f k =>
    refine ex1_2 (hk) ?_
    clear hk
    intro k' hq20_ hk
    obtain rfl := hq20_
    by_cases ho : (heap.get? a).isSome = true
    · exact Sim.go (if_pos ho) (if_pos ho) (S ..) (.mk' rfl rfl (hk _) hst)
    · exact Sim.odd (if_neg ho) (fun ho => by cases ho)
  | choose src n k =>
    refine ex1_2 (hk) ?_
    clear hk
    intro k' hq21_ hk
    obtain rfl := hq21_
    by_cases hn : n = 0
    · exact Sim.odd (if_pos hn) (fun ho => by cases ho)
    · exact Sim.go (if_neg hn) (if_neg hn) (S ..) (.mk' rfl rfl (hk _) hst)
  | register a k => obtain ⟨k', rfl, hk⟩ := hk; exact Sim.odd rfl (fun ho => by cases ho)
  | fork d k => obtain ⟨k', rfl, hk⟩ := hk; exact Sim.odd rfl (fun ho => by cases ho)
  | await a f d l k => obtain ⟨k', rfl, hk⟩ := hk; exact Sim.odd rfl (fun ho => by cases ho)
  | call c h g l k =>
    refine ex1_2 (hk) ?_
    clear hk
    intro k' hq22_ hk
    obtain rfl := hq22_
    exact Sim.go rfl rfl (S ..) (.mk' rfl rfl (.den c) ⟨⟨rfl, rfl, rfl, rfl, rfl, rfl, hk⟩, hst⟩)
  | genState g k =>
    refine ex1_2 (hk) ?_
    clear hk
    intro k' hq23_ hk
    obtain rfl := hq23_
    rcases hS.get g with ⟨e1, e2⟩ | ⟨x, y, e1, e2, hxy⟩
    · simp only at e2
      exact Sim.odd (by unfold step; dsimp only; rw [e2]) (fun ho => by cases ho)
    · simp only at e1 e2
      have hs := hxy.seen
      refine Sim.go (v1 := ⟨k' y.seen, _, _, _⟩) (t1 := ⟨k x.seen, _, _, _⟩) (by unfold step; dsimp only; rw [e2]; rfl) (by unfold step; dsimp only; rw [e1]; rfl) (S heap drawn toks os) (.mk' rfl rfl ?_ hst)
      rw [hs]; exact hk _
  | newGen c k =>
    refine ex1_2 (hk) ?_
    clear hk
    intro k' hq24_ hk
    obtain rfl := hq24_
    refine ex0_2 (same_push hS.size hS.gens (.fresh c)) ?_
    intro z1 z2
    refine Sim.go rfl rfl ⟨rfl, rfl, rfl, rfl, z1, z2⟩ (.mk' rfl rfl ?_ hst)
    have := hS.size
    simp only at this
    rw [this]; exact hk _
  | resume g r l k => obtain ⟨k', rfl, hk⟩ := hk; exact sim_resume hS hk hst
  | yield v g l k => obtain ⟨k', rfl, hk⟩ := hk; exact sim_yield hS hk hst
theorem step_sim {w : World} {s u : Shared} {t v : Thread} (hS : SameS s u) (hT : SameT t v) (hy : ∀ x l k, t.cur = .yield x true l k → v.cur = t.cur) :
    match step den2 PP w u v with
    | .go u1 v1 => ∃ s1 t1, step (denote table) PP w s t = .go s1 t1 ∧ SameS s1 u1 ∧ SameT t1 v1
    | .halt o u1 => o.ends = true → noSusp u1.gens → ∃ s1, step (denote table) PP w s t = .halt o s1 ∧ s1.heap = u1.heap ∧ s1.os = u1.os := by
  suffices h : Sim w s u t v from h
  obtain ⟨heap, gens, drawn, toks, os⟩ := s
  obtain ⟨heap', gens', drawn', toks', os'⟩ := u
  have hS0 := hS
  obtain ⟨h1, h2, h3, h4, _, _⟩ := hS
  simp only at h1 h2 h3 h4
  subst h1; subst h2; subst h3; subst h4
  obtain ⟨cur, code, pos, stack⟩ := t
  obtain ⟨cur', code', pos', stack'⟩ := v
  obtain ⟨g1, g2, hcur, hst⟩ := hT
  simp only at g1 g2 hcur hst hy
  subst g1; subst g2
  exact sim_cur hS0 (hcur.kin hy) hst

theorem calm_same {t v : Thread} (hT : SameT t v) (hy : ∀ x l k, t.cur = .yield x true l k → v.cur = t.cur) : t.calm = v.calm := by
  obtain ⟨cur, code, pos, stack⟩ := t
  obtain ⟨cur', code', pos', stack'⟩ := v
  obtain ⟨g1, g2, hcur, hst⟩ := hT
  simp only at g1 g2 hcur hst hy
  subst g1; subst g2
  have hk := hcur.kin hy
  clear hcur hy
  cases cur with
  | pure a => cases hk; rfl
  | raise e => cases hk; rfl
  | unsupported wh => cases hk; rfl
  | finish e => cases hk; rfl
  | yield v g l k =>
    refine ex1_2 (hk) ?_
    clear hk
    intro k' hq1_ hk
    obtain rfl := hq1_
    have sp := hst.split
    simp only [Thread.calm, Thread.atCollectorCode, Thread.atExit, Thread.yieldsInsideHandler]
    cases hb : splitAtGen stack' with
    | none =>
      cases ha : splitAtGen stack with
      | none => rfl
      | some x => rw [ha, hb] at sp; exact sp.elim
    | some y =>
      cases ha : splitAtGen stack with
      | none => rw [ha, hb] at sp; exact sp.elim
      | some x =>
        rw [ha, hb] at sp
        obtain ⟨a, ⟨n, kk, c, p⟩, r⟩ := x
        obtain ⟨a', ⟨n', kk', c', p'⟩, r'⟩ := y
        simp only
        rw [sp.1.guarded]
  | _ => obtain ⟨k', rfl, hk⟩ := hk; rfl

theorem sstep_yf {w : World} {s : Shared} {a : Addr} {rest : List Value} {kw : List (Str × Value)} {x : Value} {l : List Value} {k : Resume → Sem Fin} {pos : Pos} {stack fs rs : List Frame} {b : Nat × (GenResult → Sem Fin) × Code × Pos}
    (hz : s.asleep) (hsp : splitAtGen stack = some (fs, b, rs)) (hg : fs.any Frame.guarded = false) (hok : okGen (s.heap.get? a) = true) :
    sstep (denote table) PP w (.single s ⟨.yield x true l k, .builtin "proto.yield_from" ⟨.ref a :: rest, kw⟩, pos, stack⟩) =
      (step (denote table) PP w s ⟨.yield x true l k, .builtin "proto.yield_from" ⟨.ref a :: rest, kw⟩, pos, stack⟩).lift := by
  refine ex0_2 (hz) ?_
  clear hz
  intro hr hc
  generalize ht : (⟨.yield x true l k, .builtin "proto.yield_from" ⟨.ref a :: rest, kw⟩, pos, stack⟩ : Thread) = t
  have hpick : (Config.single s t).pick w = .ok (.run 0, .single s t) := by
    have h1 : (Config.single s t).collect? w.params = none := by
      simp [Config.collect?, Config.single, (nothing_to_collect _ _ _ s t hr).1]
    have h2 : (Config.single s t).collectable = [] := by
      simp [Config.collectable, Config.single, (nothing_to_collect w.params _ _ s t hr).2]
    have h3 : (Config.single s t).moves w.params.profile = [.run 0] := by
      subst ht
      simp [Config.moves, Config.single, movesFrom, Thread.moves]
    simp only [Config.pick, h1, h2, Config.pickThread, h3]
    cases w.params.lifetimes <;> simp
  have hdel : delegateShows s (.ref a) = false := by
    unfold okGen at hok
    cases ho : s.heap.get? a with
    | none => simp [delegateShows, ho]
    | some o =>
      rw [ho] at hok
      simp only [Option.any_some] at hok
      cases hn : o.genNumber? with
      | none => rw [hn] at hok; cases hok
      | some _ => simp [delegateShows, ho, hn, hr]
  have hlife : lifeStep (denote table) PP w [] s t = step (denote table) PP w s t := by
    subst ht
    have hsh : closingShows s fs (.builtin "proto.yield_from" ⟨.ref a :: rest, kw⟩) true = false := by
      unfold closingShows
      rw [hg, Bool.false_or, Bool.true_and]
      exact hdel
    unfold lifeStep
    rw [if_pos (by simp [Thread.special, Thread.yieldsInsideHandler])]
    simp only [collectorTurn?, hsp, hsh, Bool.false_eq_true, if_false, Bool.false_and, Thread.atItsEnd, stepCounting, hc]
  have hrun : (Config.single s t).run (denote table) PP w 0 = (step (denote table) PP w s t).lift := by
    subst ht
    have hsp' : (Thread.special ⟨.yield x true l k, .builtin "proto.yield_from" ⟨.ref a :: rest, kw⟩, pos, stack⟩) = true := by simp [Thread.special, Thread.yieldsInsideHandler]
    cases hst : step (denote table) PP w s ⟨.yield x true l k, .builtin "proto.yield_from" ⟨.ref a :: rest, kw⟩, pos, stack⟩ with
    | go s1 t1 =>
      rw [hst] at hlife
      simp [Config.run, Config.single, others_single, hsp', hlife, Thread.finalizes, Step.lift]
    | halt o s1 =>
      rw [hst] at hlife
      simp [Config.run, Config.single, others_single, hsp', hlife, Thread.finalizes, Step.lift]
  simp only [sstep, hpick, Config.move, hrun]

theorem isYF_some {c : Code} {it : Value} (h : isYF c = some it) : ∃ args, c = .builtin "proto.yield_from" args ∧ it = args.pos.headD .none := by
  unfold isYF at h
  cases c with
  | builtin id args =>
    simp only at h
    split at h
    · rename_i e; subst e; exact ⟨args, rfl, (Option.some.inj h).symm⟩
    · cases h
  | _ => cases h

theorem sim_run {w : World} : ∀ (n : Nat) (s u : Shared) (t v : Thread) (o : Outcome) (s'' : Shared), s.asleep → SameS s u → SameT t v →
    (∀ k u1 v1, runN den2 PP w k u v = .running u1 v1 → v1.calm = true) → runN den2 PP w n u v = .halted o s'' → o.ends = true → noSusp s''.gens →
    ∃ m s3, schedN (denote table) PP w m (.single s t) = .halted o s3 ∧ s3.heap = s''.heap ∧ s3.os = s''.os := by
  intro n
  induction n using Nat.strongRecOn with
  | ind n ih =>
  intro s u t v o s'' hz hS hT hc hrun ho hn
  cases n with
  | zero => cases hrun
  | succ n =>
  by_cases hy0 : ∃ x l k, t.cur = .yield x true l k ∧ v.cur ≠ t.cur
  rotate_left
  · have hy : ∀ x l k, t.cur = .yield x true l k → v.cur = t.cur := fun x l k e => Classical.byContradiction fun h => hy0 ⟨x, l, k, e, h⟩
    have hcv : v.calm = true := hc 0 u v rfl
    have hct : t.calm = true := (calm_same hT hy).trans hcv
    have st := step_sim (w := w) hS hT hy
    have sg := sstep_single (denote table) PP w s t hct hz
    simp only [runN] at hrun
    cases hs : step den2 PP w u v with
    | go u1 v1 =>
      rw [hs] at st hrun
      simp only at st hrun
      refine ex2_3 (st) ?_
      clear st
      intro s1 t1 e hS1 hT1
      rw [e] at sg
      have sg := sg.resolve_right (by intro h; cases h)
      obtain ⟨m, s3, a1, a2⟩ := ih n (Nat.lt_succ_self n) s1 u1 t1 v1 o s'' (by simp only [Shared.asleep, step_life _ _ _ s s1 t t1 e]; exact hz) hS1 hT1
        (fun k u2 v2 hk => hc (k + 1) u2 v2 (by simp only [runN, hs]; exact hk)) hrun ho hn
      exact ⟨m + 1, s3, by simp only [schedN, sg, Step.lift]; exact a1, a2⟩
    | halt o1 u1 =>
      rw [hs] at st hrun
      simp only at st hrun
      injection hrun with h1 h2
      subst h1; subst h2
      refine ex1_3 (st ho hn) ?_
      intro s1 e a1 a2
      rw [e] at sg
      have sg := sg.resolve_right (by intro h; injection h with h1 _; subst h1; cases ho)
      exact ⟨1, s1, by simp only [schedN, sg, Step.lift], a1, a2⟩
  · refine ex3_2 (hy0) ?_
    clear hy0
    intro x l k hcur hne
    obtain ⟨cur, code, pos, stack⟩ := t
    obtain ⟨cur', code', pos', stack'⟩ := v
    obtain ⟨g1, g2, hk, hst⟩ := hT
    simp only at g1 g2 hk hst hcur hne
    subst g1; subst g2; subst hcur
    rcases hk with rfl | ⟨it, hyf, rfl⟩
    · exact absurd rfl hne
    refine ex1_2 (isYF_some hyf) ?_
    intro args hq2_ hq3_
    obtain rfl := hq2_
    obtain rfl := hq3_
    have dead : ∀ {wh : String} {m : Nat} {st : Shared} {c p f}, runN den2 PP w m st ⟨.unsupported wh, c, p, f⟩ = .halted o s'' → False := by
      intro wh m st c p f h
      cases m with
      | zero => cases h
      | succ m => simp only [runN, step] at h; injection h with h1 _; subst h1; cases ho
    obtain ⟨ps, kw⟩ := args
    cases ps with
    | nil => exact (dead hrun).elim
    | cons p0 rest =>
    cases p0 with
    | ref a =>
      have hrun0 := hrun
      have e0 : step den2 PP w u ⟨offG (Value.ref a) (.yield x true l k), .builtin "proto.yield_from" ⟨.ref a :: rest, kw⟩, pos', stack'⟩ =
          .go u ⟨if okGen (u.heap.get? a) then .yield x false l fun r => offG (.ref a) (k r) else .unsupported "off", .builtin "proto.yield_from" ⟨.ref a :: rest, kw⟩, pos', stack'⟩ := rfl
      simp only [runN, List.headD_cons, e0] at hrun
      cases hokv : okGen (u.heap.get? a) with
      | false => rw [hokv] at hrun; exact (dead hrun).elim
      | true =>
      rw [hokv] at hrun e0
      simp only [if_true] at hrun e0
      have hcalm := hc 1 _ _ (by simp only [runN, List.headD_cons, e0]; rfl)
      cases n with
      | zero => cases hrun
      | succ n =>
      have sp := hst.split
      simp only [runN] at hrun
      cases hb : splitAtGen stack' with
      | none =>
        simp only [step, hb] at hrun
        injection hrun with h1 _; subst h1; cases ho
      | some y =>
        cases ha : splitAtGen stack with
        | none => rw [ha, hb] at sp; exact sp.elim
        | some z =>
          rw [ha, hb] at sp
          obtain ⟨fa, ⟨i, kk, c, p⟩, r⟩ := z
          obtain ⟨fa', ⟨i', kk', c', p'⟩, r'⟩ := y
          refine ex0_6 (sp) ?_
          clear sp
          intro hfs hq4_ hq5_ hq6_ hkk hr
          obtain rfl := hq4_
          obtain rfl := hq5_
          obtain rfl := hq6_
          have hg : fa.any Frame.guarded = false := by
            rw [← hfs.guarded]
            simp only [Thread.calm, Thread.yieldsInsideHandler, hb] at hcalm
            simp only [Bool.false_or, Bool.and_eq_true, Bool.not_eq_true'] at hcalm
            exact hcalm.1.2
          obtain ⟨heap, gens, drawn, toks, os⟩ := s
          obtain ⟨heap', gens', drawn', toks', os'⟩ := u
          obtain ⟨h1, h2, h3, h4, hsz, hgn⟩ := hS
          simp only at h1 h2 h3 h4 hsz hgn
          subst h1; subst h2; subst h3; subst h4
          have e1 := sstep_yf (w := w) (s := ⟨heap', gens, drawn', toks', os'⟩) (a := a) (rest := rest) (kw := kw) (x := x) (l := l) (k := k) (pos := pos') hz ha hg hokv
          have e2 : step (denote table) PP w ⟨heap', gens, drawn', toks', os'⟩ ⟨.yield x true l k, .builtin "proto.yield_from" ⟨.ref a :: rest, kw⟩, pos', stack⟩ =
              .go ⟨heap', gens.setIfInBounds i' (.suspended k l (.builtin "proto.yield_from" ⟨.ref a :: rest, kw⟩) pos' fa (true || fa.any Frame.guarded)), drawn', toks', os'⟩ ⟨kk (.yielded x), c', p', r⟩ := by
            simp only [step, ha]
          have e3 : step den2 PP w ⟨heap', gens', drawn', toks', os'⟩ ⟨.yield x false l fun r => offG (.ref a) (k r), .builtin "proto.yield_from" ⟨.ref a :: rest, kw⟩, pos', stack'⟩ =
              .go ⟨heap', gens'.setIfInBounds i' (.suspended (fun r => offG (.ref a) (k r)) l (.builtin "proto.yield_from" ⟨.ref a :: rest, kw⟩) pos' fa' (false || fa'.any Frame.guarded)), drawn', toks', os'⟩ ⟨kk' (.yielded x), c', p', r'⟩ := by
            simp only [step, hb]
          rw [e3] at hrun
          simp only at hrun
          have hs : SameG (.suspended k l (.builtin "proto.yield_from" ⟨.ref a :: rest, kw⟩) pos' fa (true || fa.any Frame.guarded))
              (.suspended (fun r => offG (.ref a) (k r)) l (.builtin "proto.yield_from" ⟨.ref a :: rest, kw⟩) pos' fa' (false || fa'.any Frame.guarded)) := ⟨rfl, rfl, rfl, fun _ => .inr ⟨_, hyf, rfl⟩, hfs⟩
          have hz' := same_set hsz hgn i' hs
          have hS1 : SameS ⟨heap', gens.setIfInBounds i' (.suspended k l (.builtin "proto.yield_from" ⟨.ref a :: rest, kw⟩) pos' fa (true || fa.any Frame.guarded)), drawn', toks', os'⟩
              ⟨heap', gens'.setIfInBounds i' (.suspended (fun r => offG (.ref a) (k r)) l (.builtin "proto.yield_from" ⟨.ref a :: rest, kw⟩) pos' fa' (false || fa'.any Frame.guarded)), drawn', toks', os'⟩ := ⟨rfl, rfl, rfl, rfl, hz'.1, hz'.2⟩
          obtain ⟨m, s3, a1, a2⟩ := ih n (by (clear hS1 hz' hs e3 e2 e1 hz hgn hsz hrun hrun0 e0 hokv hc hg ha hkk hr hfs hb ih hcalm hyf hne dead hst hn ho; lia)) ⟨heap', gens.setIfInBounds i' (.suspended k l (.builtin "proto.yield_from" ⟨.ref a :: rest, kw⟩) pos' fa (true || fa.any Frame.guarded)), drawn', toks', os'⟩ _ ⟨kk (.yielded x), c', p', r⟩ _ o s'' (by exact hz) hS1 (SameT.mk' rfl rfl (hkk _) hr)
            (fun q u2 v2 hq => hc (q + 2) u2 v2 (by simp only [runN, List.headD_cons, e0, e3]; exact hq)) hrun ho hn
          rw [e2] at e1
          exact ⟨m + 1, s3, by simp only [schedN, List.headD_cons, e1, Step.lift]; exact a1, a2⟩
    | _ => exact (dead hrun).elim

theorem noSusp_forget {a b : Array GenState} (h : a.map GenState.forget = b.map GenState.forget) (hb : noSusp b) : noSusp a := by
  intro x hx
  obtain ⟨i, hi, rfl⟩ := Array.mem_iff_getElem.mp hx
  have e : (a.map GenState.forget)[i]? = (b.map GenState.forget)[i]? := by rw [h]
  rw [Array.getElem?_map, Array.getElem?_map, Array.getElem?_eq_getElem hi] at e
  cases hbi : b[i]? with
  | none => rw [hbi] at e; cases e
  | some y =>
    rw [hbi] at e
    simp only [Option.map_some, Option.some.injEq] at e
    refine ex1_1 (Array.getElem?_eq_some_iff.mp hbi) ?_
    intro hlt e2
    have hy := hb y (e2 ▸ Array.getElem_mem hlt)
    generalize a[i] = x at e
    cases x with
    | suspended k l c p fs cl => cases y <;> first | exact hy.elim | cases e
    | _ => trivial

theorem SameS.refl (s : Shared) : SameS s s := ⟨rfl, rfl, rfl, rfl, rfl, fun i x y h1 h2 => by rw [h1] at h2; cases h2; exact SameG.refl _⟩

theorem thread_ends2 {w : World} {t : Sem Fin} {s : Shared} {R : Result → Shared → Prop} (hreg : s.asleep)
    (h : wpAny (MM w) callerA t (fun fin s' => ∃ f, fin = .done f ∧ (R (.ok f) s' ∧ noSusp s'.gens)) (fun e s' => R (.error e) s' ∧ noSusp s'.gens) s) :
    ∃ n r s' s'', schedN (denote table) PP w n (.single s ⟨t, .builtin "claim.caller" {}, default, []⟩) = .halted (outcomeOf r) s' ∧ s'.heap = s''.heap ∧ s'.os = s''.os ∧ s'.heap.life = s.heap.life ∧ R r s'' := by
  have hw := wp_of_wpAny_done (R := fun r s' => (R r s' ∧ noSusp s'.gens) ∧ leftWithCleanup s'.gens = false) caller_in
    (wpAny_mono h (fun _ s' ⟨f, e, a, b⟩ => ⟨f, e, ⟨a, b⟩, noSusp_left b⟩) fun _ s' ⟨a, b⟩ => ⟨⟨a, b⟩, noSusp_left b⟩) default
  refine ex3_2 ((wp_iff_halts t (fun r s' => R r s' ∧ noSusp s'.gens) default s).mp hw) ?_
  intro n r s' hn hR
  refine ex1_3 (runNI_real (MM w).den (MM w).prog (MM w).w hn (outcomeOf_ends r)) ?_
  intro s'' hr hf hc
  refine ex0_5 (Shared.forget_eq hf) ?_
  intro eh _ _ eo eg
  obtain ⟨m, s3, a, b, c⟩ := sim_run (w := w) n s s ⟨t, .builtin "claim.caller" {}, default, []⟩ ⟨t, .builtin "claim.caller" {}, default, []⟩ (outcomeOf r) s'' hreg (.refl s) (.mk' rfl rfl (.inl rfl) trivial)
    hc hr (outcomeOf_ends r) (noSusp_forget eg hR.2)
  exact ⟨m, r, s3, s', a, b.trans eh, c.trans eo, by rw [b]; exact runN_life _ _ _ hr, hR.1⟩


theorem callFrom2 {c : ClaimW} {tree : List Value → Sem Fin} {w : World} {s : Shared} {free : Addr → Prop} {gens : Prop} {kept : Heap → Prop} (hc : c.prog = PP) (hz : s.asleep) (hgens : s.gens = #[])
    (hspec : ∀ args, c.pre args = true → WData.layableAll args = true →
      ∀ ord : List DictEntry → List DictEntry, (∀ l, (ord l).Perm l) →
      ∃ vs s₁, layAllW c.records (classAt s.heap) w.params ord args s = some (vs, s₁) ∧
        wpAny (MM w) callerA (tree vs) (fun fin s' => ∃ f, fin = .done f ∧ ((c.Ends s args vs s₁ (.ok f) s' ∧ s'.os = s.os ∧ kept s'.heap) ∧ noSusp s'.gens))
          (fun e s' => (c.Ends s args vs s₁ (.error e) s' ∧ s'.os = s.os ∧ kept s'.heap) ∧ noSusp s'.gens) s₁) :
    c.CallFrom (fun vs => ⟨tree vs, .builtin "claim.caller" {}, default, []⟩) w free gens kept s := by
  intro args pre can ord perm
  refine ex2_2 (hspec args pre can ord perm) ?_
  intro vs s₁ laid code
  have rest := layAllW_rest _ _ _ laid
  refine ex4_7 (thread_ends2 (w := w) (t := tree vs) (s := s₁) (R := fun r s' => c.Ends s args vs s₁ r s' ∧ s'.os = s.os ∧ kept s'.heap) (Shared.asleep_of_life rest.2.2.2 hz) code) ?_
  intro n r s' u ran eh eo life told os kp
  have lifes : s'.heap.life = s.heap.life := life.trans rest.2.2.2
  refine ⟨vs, s₁, laid, n, _, s', hc ▸ ran, (told.congr eh).imp (fun q => ?_) fun q => ?_, fun _ i x hx => ?_, eh ▸ kp, congrArg _ lifes, Shared.rest_eq (eo ▸ os)⟩
  · refine ex1_6 q ?_
    intro v e d1 d2 d3 d4 d5
    exact ⟨v, congrArg outcomeOf e, d1, d2, d3, fun b o y _ => d4 b o y, d5⟩
  · refine ex3_6 q ?_
    intro x ob cls e d1 d2 d3 d4 d5
    exact ⟨x, ob, cls, congrArg outcomeOf e, d1, d2, d3, d4, fun b o y _ => d5 b o y⟩
  · rw [hgens] at hx
    simp at hx

noncomputable def Good2 (c : ClaimW) (cl : Str → Option Addr) (mean : ExcName → Option Value) (args : List WData) (s₁ : Shared) (res : Result) (s' : Shared) : Prop := GoodWG c cl mean args s₁ res s' ∧ noSusp s'.gens

/-- a claim's arguments laid in any ground, with what is known of them -/
theorem lay_in {r : RowW} {q : Program} {loose : List Str} {XP : (Str → Option Value) → Heap → Prop} {w : World} {s : Shared} {mg mb : Str → Option Value} (G : Ground q loose r.records XP w s mg mb s.heap) (none : s.gens = #[])
    (hXk : ∀ mg h h', XP mg h → (∀ b o, h.get? b = some o → h'.get? b = some o) → XP mg h') {args : List WData} (pre : r.claim.pre args = true) (can : WData.layableAll args = true) {ord : List DictEntry → List DictEntry} (perm : ∀ l, (ord l).Perm l) :
    ∃ vs t as, layAllW r.records (classAt s.heap) w.params ord args s = some (vs, t) ∧ Laid r.records w s t args vs as ∧ Ground q loose r.records XP w s mg mb t.heap ∧ ∀ b o, s.heap.get? b = some o → t.heap.get? b = some o := by
  refine (Option.isSome_iff_exists.mp (layAllW_isSome (P := w.params) (ord := ord) G.has args r.args s (pre_splitW pre).1)).elim fun p laid => ?_
  have kept := layAllW_keeps _ _ _ laid
  have rest := layAllW_rest _ _ _ laid
  refine (reads_layAllW perm _ _ _ laid can p.2.heap fun _ _ e => e).elim fun as x => ⟨p.1, p.2, as, laid, ?_, G.keeps hXk kept, kept⟩
  exact ⟨⟨ord, perm, laid⟩, x.1, x.2.1, x.2.2, kept, rest.1.trans none, rest.2.2.1⟩
theorem open_any2 {r : RowW} {run : Value → List Value → Sem Value} {tree : List Value → Sem Fin} {q : Program} {loose defs kps : List Str} {writes : Bool} {Xt : Shared → Bool} {XP : (Str → Option Value) → Heap → Prop} {α : Type} {Yf : Shared → α} {Ya : World → α} {YP : World → Heap → Prop} {N : Nat}
    (hP : r.claim.prog = PP) (left : LeftO r.prog q loose Xt Yf Ya N) (hY : ∀ w s, Yf s = Ya w → YP w s.heap) (hYk : ∀ w h h', YP w h → (∀ b o, h.get? b = some o → h'.get? b = some o) → YP w h') (hX : ∀ s, Xt s = true → XP (s.heap.nsMap mainGlobals) s.heap) (hXk : ∀ mg h h', XP mg h → (∀ b o, h.get? b = some o → h'.get? b = some o) → XP mg h')
    (hRf : ∀ s, Xt s = true → RecFacts r.records s.heap) (hwr : (!writes || r.records.isEmpty) = true) (ok : (chainsOk q && opensWell r.prog && (frees r && r.within.isEmpty)) = true) (hb : r.prog.bare) (hw : r.promised)
    (ht : ∀ vs (w : World) (s : Shared) mg f (Q : Fin → Shared → Prop) (E : Value → Shared → Prop), s.heap.Ns mainGlobals mg → mg r.name = some f → wpAny (MM w) callerA (run f vs) (fun v s' => Q (.done (.ret v)) s') E s → wpAny (MM w) callerA (tree vs) Q E s)
    (pin : ∀ w s, s.heap.isNs mainGlobals = true → Ground q loose [] XP w s (s.heap.nsMap mainGlobals) (s.heap.nsMap builtinsNs) s.heap → ∀ n ∈ defs, isTheDefsW r.prog s.heap n)
    (call : ∀ (w : World) (s₀ s₁ : Shared) (mg mb : Str → Option Value), Ground q loose r.records XP w s₀ mg mb s₁.heap → YP w s₁.heap → ∀ (args : List WData) (vs : List Value) (as : List Addr),
      r.claim.pre args = true → WData.layableAll args = true → Laid r.records w s₀ s₁ args vs as → sysModules < s₀.heap.objs.size → ∃ f, mg r.name = some f ∧
        wpAny (MM w) callerA (run f vs) (fun v s' => Good2 r.claim (classAt s₀.heap) (ExcName.means s₀.heap) args s₁ (.ok (.ret v)) s')
          (fun e s' => Good2 r.claim (classAt s₀.heap) (ExcName.means s₀.heap) args s₁ (.error e) s') s₁) : r.claim.HoldsOpenBy (fun vs => ⟨tree vs, .builtin "claim.caller" {}, default, []⟩) defs kps writes := by
  have pq := Bool.and_eq_true_iff.mp ok
  have opens := Bool.and_eq_true_iff.mp pq.1
  have free := Bool.and_eq_true_iff.mp pq.2
  have alone : r.claim.within = [] := List.isEmpty_iff.mp free.2
  refine ex0_5 (frees_parts free.1) ?_
  intro same f1 f2 f3 noMakers
  have ident := ident_freeW f1 f2 f3
  refine ⟨⟨hb, opens.2, (congrArg (List.map _) noMakers).trans rfl⟩, hw.witness, fun w => ?_⟩
  have back := left.behind (XP := fun mg h => XP mg h ∧ RecFacts r.records h) (fun s hs => ⟨hX s hs, hRf s hs⟩) opens.1 w
  refine ⟨back.1, fun s' hs' => ?_⟩
  refine ex1_3 (back.2 s' hs') ?_
  intro s₀ before main more
  refine ex1_6 more ?_
  clear more
  intro s top zz gens ns ground y
  have none : s.gens = #[] := Array.eq_empty_of_size_eq_zero (beq_iff_eq.mp gens)
  have plain : Ground q loose [] XP w s (s.heap.nsMap mainGlobals) (s.heap.nsMap builtinsNs) s.heap := { ground with X := ground.X.1 }
  refine ⟨s₀, before, main, s, top, pin w s ns plain, ground.X.2.1, ground.X.2.2.1, callFrom2 (c := r.claim) hP zz none fun args pre can ord perm => ?_⟩
  refine ex3_4 (lay_in (ground.X.2.ground plain) none hXk pre can perm) ?_
  intro vs s₁ as laid L G kept
  refine ex1_2 (call w s s₁ _ _ G (hYk _ _ _ (hY w s y) kept) args vs as pre can L (ground.X.2.ground plain).low) ?_
  intro f hf run
  refine ⟨vs, s₁, laid, ht vs w s₁ _ f _ _ G.T.g hf (wpAny_mono run (fun v s' g => ⟨_, rfl, ?_⟩) fun e s' g => ?_)⟩ <;>
    exact (g.1.laid (c := r.claim) same alone ident L).elim fun ends os => ⟨⟨ends, os.1, fun q => ⟨namesKept_of top ns kps kept g.1.2.1.old, noTable hwr q⟩⟩, g.2⟩

noncomputable abbrev Walk2 (q : Program) (loose : List Str) (XP : (Str → Option Value) → Heap → Prop) (YP : World → Heap → Prop) (r : RowW) (d : DefRec) (kwd : List (Str × Expr)) (run : Value → List Value → Sem Value) : Prop :=
  ∀ (w : World) (s₀ s₁ : Shared) (mg mb : Str → Option Value), Ground q loose r.records XP w s₀ mg mb s₁.heap → YP w s₁.heap → ∀ (a : Addr) (o : Obj) (pm cd doc dV kV : Value), s₁.heap.get? a = some o →
    o.data = .func { docDef d.name d.params d.body d.scope pm cd doc with defaults := dV, kwdefaults := kV } → s₁.heap.CodeRec cd d.name → Dflts mg s₁.heap d.params kwd dV kV → mg d.name = some (.ref a) → s₁.gens = #[] →
    ∀ (args : List WData) (vals : List Value) (as : List Addr), r.claim.pre args = true → WData.layableAll args = true → ReadsAllW r.records (classAt s₀.heap) s₁.heap vals args as → WellAll w.params s₁.heap vals args → (∀ a ∈ as, (a == sysModules) = false) →
      wpAny (MM w) callerA (run (.ref a) vals) (fun v s' => Good2 r.claim (classAt s₀.heap) (ExcName.means s₀.heap) args s₁ (.ok (.ret v)) s')
        (fun e s' => Good2 r.claim (classAt s₀.heap) (ExcName.means s₀.heap) args s₁ (.error e) s') s₁

theorem head2 {r : OpenRow} {q : Program} {loose : List Str} {Xt : Shared → Bool} {XP : (Str → Option Value) → Heap → Prop} {α : Type} {Yf : Shared → α} {Ya : World → α} {YP : World → Heap → Prop} {d : DefRec} {kwd : List (Str × Expr)} {N : Nat}
    (hP : r.toRowW.claim.prog = PP) (left : LeftO r.prog q loose Xt Yf Ya N) (hY : ∀ w s, Yf s = Ya w → YP w s.heap) (hYk : ∀ w h h', YP w h → (∀ b o, h.get? b = some o → h'.get? b = some o) → YP w h')
    (hX : ∀ s, Xt s = true → XP (s.heap.nsMap mainGlobals) s.heap) (hXk : ∀ mg h h', XP mg h → (∀ b o, h.get? b = some o → h'.get? b = some o) → XP mg h')
    (hdef : defOf q r.name = some (d, kwd)) (hp : r.prog.theDef r.name = some (d.params, d.body, d.scope)) (hk : kwWritten? d.params.kwonlyargs d.params.kw_defaults = some kwd) (hRf : ∀ s, Xt s = true → RecFacts r.records s.heap) (hwr : (!r.writes || r.records.isEmpty) = true)
    (k1 : r.wellSaid = true) (ok : (chainsOk q && opensWell r.prog && (frees r.toRowW && r.within.isEmpty)) = true) (hb : r.prog.bare) (hw : r.toRowW.promised)
    (call : Walk2 q loose XP YP r.toRowW d kwd fun f vs => PySem.call f vs) : r.Holds := by
  refine ⟨k1, hw, open_any2 (r := r.toRowW) (run := fun f vs => PySem.call f vs) (tree := fun vs => do match ← nsGet mainNs r.name with
      | some f => do ret (← PySem.call f vs)
      | none => unsupported "claim.caller:no-such-global") hP left hY hYk hX hXk hRf hwr ok hb hw
    (fun vs w s mg f Q E hg hf h => wpAny_bind (wpAny_nsGet hg (by rw [hf]; exact wpAny_bind (wpAny_mono h (fun _ _ x => wpAny_pure x) fun _ _ x => x))))
    (fun w s hg G n hn => ?_) fun w s₀ s₁ mg mb G Y args vs as hpre hlay L low => ?_⟩
  · obtain rfl : n = r.name := by split at hn <;> simp_all
    exact pinned_of_view hg G hdef hp hk
  · refine ex7_5 (G.fn hdef) ?_
    intro a o pm cd doc dV kV h1 h2 h3 h4 h5
    exact ⟨.ref a, h1, call w s₀ s₁ mg mb G Y a o pm cd doc dV kV h2 h3 h4 h5 (defOf_name hdef ▸ h1) L.gens args vs as hpre hlay L.reads L.well (L.low low)⟩

/-- the head of this law, in the second model (the head's own line asks for a rule of this name) -/
theorem PySem.W.holds_open {q : Program} {loose : List Str} {Xt : Shared → Bool} {XP : (Str → Option Value) → Heap → Prop} {α : Type} {Yf : Shared → α} {Ya : World → α} {YP : World → Heap → Prop} {d : DefRec} {kwd : List (Str × Expr)} {N : Nat}
    (left : LeftO PySem.Challenge.rw_jf0027_01.row.prog q loose Xt Yf Ya N) (hY : ∀ w s, Yf s = Ya w → YP w s.heap) (hYk : ∀ w h h', YP w h → (∀ b o, h.get? b = some o → h'.get? b = some o) → YP w h')
    (hX : ∀ s, Xt s = true → XP (s.heap.nsMap mainGlobals) s.heap) (hXk : ∀ mg h h', XP mg h → (∀ b o, h.get? b = some o → h'.get? b = some o) → XP mg h')
    (hdef : defOf q PySem.Challenge.rw_jf0027_01.row.name = some (d, kwd)) (hp : PySem.Challenge.rw_jf0027_01.row.prog.theDef PySem.Challenge.rw_jf0027_01.row.name = some (d.params, d.body, d.scope)) (hk : kwWritten? d.params.kwonlyargs d.params.kw_defaults = some kwd)
    (hRf : ∀ s, Xt s = true → RecFacts PySem.Challenge.rw_jf0027_01.row.records s.heap) (hwr : (!PySem.Challenge.rw_jf0027_01.row.writes || PySem.Challenge.rw_jf0027_01.row.records.isEmpty) = true)
    (k1 : PySem.Challenge.rw_jf0027_01.row.wellSaid = true) (ok : (chainsOk q && opensWell PySem.Challenge.rw_jf0027_01.row.prog && (frees PySem.Challenge.rw_jf0027_01.row.toRowW && PySem.Challenge.rw_jf0027_01.row.within.isEmpty)) = true)
    (hb : PySem.Challenge.rw_jf0027_01.row.prog.bare) (hw : PySem.Challenge.rw_jf0027_01.row.toRowW.promised)
    (call : Walk2 q loose XP YP PySem.Challenge.rw_jf0027_01.row.toRowW d kwd fun f vs => PySem.call f vs) : PySem.Challenge.rw_jf0027_01.row.Holds :=
  head2 rfl left hY hYk hX hXk hdef hp hk hRf hwr k1 ok hb hw call

/-! the second model's calls -/
theorem den2_builtin {id : String} {args : Args} (h : id ≠ "proto.yield_from") : den2 (.builtin id args) = denote table (.builtin id args) := by
  unfold den2 isYF; simp only [if_neg h]
theorem den2_call (f : Value) (args : Args) : den2 (.call f args) = denote table (.call f args) := rfl

section
variable {w : World} {A : Around} {E : Value → Shared → Prop} {s : Shared} {R : Result → Shared → Prop}

theorem codeAny_builtin2 {id : String} {args : Args} {b : Builtin} (hne : id ≠ "proto.yield_from") (hb : entryFor table id = some b)
    (h : wpAny (MM w) (A.under (.builtin id args)) (b args)
      (fun fin s' => match fin with | .done f => R (.ok f) s' | .again c' => c'.quiet = true ∧ codeAny (MM w) A c' R s') (fun e s' => R (.error e) s') s) :
    codeAny (MM w) A (.builtin id args) R s := by
  refine codeAny_of_tree ?_
  show wpAny _ _ (den2 (.builtin id args)) _ _ s
  rw [den2_builtin hne]
  show wpAny _ _ (match entryFor table id with | some b => b args | none => unsupported ((withoutEnding? id "#data").getD id)) _ _ s
  rw [hb]; exact h

theorem codeAny_call_builtin2 {id : String} {args : Args} {b : Builtin} (hq : plainId id = true) (hne : id ≠ "proto.yield_from") (hb : entryFor table id = some b)
    (h : wpAny (MM w) A.in1 (checkBuiltinCall id args) (fun _ s₁ => wpAny (MM w) A.in1 (b args)
      (fun fin s' => match fin with | .done f => R (.ok f) s' | .again c' => c'.quiet = true ∧ codeAny (MM w) A c' R s') (fun e s' => R (.error e) s') s₁)
      (fun e s' => R (.error e) s') s) : codeAny (MM w) A (.call (.builtin id) args) R s := by
  refine codeAny_of_tree ?_
  show wpAny _ A.in1 (do checkBuiltinCall id args; again (.builtin id args)) _ _ s
  refine wpAny_bind (wpAny_mono h (fun _ s₁ h₁ => wpAny_pure (And.intro (plainId_quiet hq args) (codeAny_builtin2 hne hb ?_))) fun _ _ h' => h')
  rw [Around.under_plainId hq args]; exact h₁

theorem wpAny_call_entry2 {T : String} {name : Str} {id : String} {b : Builtin} {self : Value} {rest : List Value} {Q : Value → Shared → Prop} (h : Slot T name id) (hT : s.TypeIs self T)
    (hne : id ≠ "proto.yield_from") (hb : entryFor table id = some b)
    (hc : wpAny (MM w) A.in1 (b ⟨self :: rest, []⟩) (fun fin s' => ∃ v, fin = .done (.ret v) ∧ Q v s') E s) (ha : argsOk id ⟨self :: rest, []⟩) :
    wpAny (MM w) A (call (.builtin id) (self :: rest)) Q E s := by
  refine wpAny_call (codeAny_call_builtin2 h.plain hne hb (h.check _ _ _ _ _ _ _ _ hT ha (wpAny_mono hc (fun fin s' h' => ?_) fun _ _ h' => h')))
  refine ex1_2 (h') ?_
  clear h'
  intro v hq1_ hq
  obtain rfl := hq1_
  exact hq

theorem codeAny_func2 {body : List Stmt} {env : Env}
    (h : wpAny (MM w) (A.deeper env) (execs body env) (fun f s' => R (.ok (.ret (match f with | .ret v => v | _ => .none))) s')
      (fun e s' => wpAny (MM w) (A.deeper env) (leaving env e) (fun _ s'' => R (.error e) s'') (fun e' s'' => R (.error e') s'') s') s) :
    codeAny (MM w) A (.func body env) R s := by
  refine codeAny_of_tree ?_
  show wpAny _ (A.deeper env) (do point; match ← (execs body env).onRaise (leaving env) with | .ret v => ret v | _ => ret .none) _ _ s
  refine wpAny_bind (wpAny_point (wpAny_bind (wpAny_onRaise (wpAny_mono h (fun f s' h' => ?_) fun _ _ h' => h'))))
  cases f <;> exact wpAny_pure h'

theorem codeAny_call_def2 {a : Addr} {o : Obj} {fd : FuncData} {body : List Stmt} {args : Args} {binds : List (Str × Value)}
    (hroom : A.depth < recursionLimit) (ho : s.heap.get? a = some o) (hdata : o.data = .func fd) (hlim : s.heap.NoLimit) (hcd : s.heap.CodeRec fd.code fd.qualname)
    (hbody : fd.body = .stmts body) (hbind : BindsTo s fd args binds)
    (hcell : ∀ x ∈ fd.scope.names, x.2 ≠ .cell) (hloc : ∀ x ∈ binds, fd.scope.names.lookup x.1 = some .local)
    (h : ∀ h₀, h₀.Ns s.heap.objs.size (fun x => binds.reverse.lookup x) → (∀ b o, s.heap.get? b = some o → h₀.get? b = some o) →
      wpAny (MM w) (A.deeper (callEnv fd s.heap.objs.size a)) (execs body (callEnv fd s.heap.objs.size a)) (fun f s' => R (.ok (.ret (match f with | .ret v => v | _ => .none))) s')
        (fun e s' => wpAny (MM w) (A.deeper (callEnv fd s.heap.objs.size a)) (leaving (callEnv fd s.heap.objs.size a) e) (fun _ s'' => R (.error e) s'') (fun e' s'' => R (.error e') s'') s')
        { s with heap := h₀, toks := s.toks + binds.length })
    (hco : fd.scope.isCoroutine = false) (hgen : fd.scope.isGenerator = false) (hk : fd.scope.kind = .function) :
    codeAny (MM w) A (.call (.ref a) args) R s := by
  refine codeAny_of_tree ?_
  show wpAny _ A.in1 (callAny (.ref a) args) _ _ s
  simp only [callAny]
  refine wpAny_bind (wpAny_load ho ?_)
  refine ex4_4 (hcd) ?_
  clear hcd
  intro c oc vs tq hc hoc hdc hq
  simp only [hdata, callFunction, hco, hgen, hbody, hc]
  refine wpAny_bind (m := field (.ref c) 1) (wpAny_field hoc hdc hq (wpAny_bind (wpAny_pure ?_)))
  rw [← hc]
  refine wpAny_bind (hbind _ _ _ _ ?_)
  refine wpAny_bind (wpAny_newFunctionEnv hcell hloc (fun h₀ hns₀ hsb₀ => ?_) hk)
  exact wpAny_bind (wpAny_enterFrame (hlim.fresh _ hsb₀) hroom (wpAny_pure (And.intro rfl (codeAny_func2 (h h₀ hns₀ fun b o e =>
    hsb₀.extBut b o (Nat.ne_of_lt (Heap.lt_size e)) (Heap.get?_push_of_some _ e))))))

theorem codeAny_call_gen2 {a : Addr} {o : Obj} {fd : FuncData} {body : List Stmt} {args : Args} {binds : List (Str × Value)}
    (hroom : A.depth < recursionLimit) (ho : s.heap.get? a = some o) (hdata : o.data = .func fd) (hlim : s.heap.NoLimit) (hcd : s.heap.CodeRec fd.code fd.qualname)
    (hbody : fd.body = .stmts body) (hbind : BindsTo s fd args binds)
    (hcell : ∀ x ∈ fd.scope.names, x.2 ≠ .cell) (hloc : ∀ x ∈ binds, fd.scope.names.lookup x.1 = some .local)
    (h : ∀ (h₀ : Heap) (tk : Nat), h₀.Ns s.heap.objs.size (fun x => binds.reverse.lookup x) → (∀ b o, s.heap.get? b = some o → h₀.get? b = some o) → s.heap.objs.size < h₀.objs.size →
      R (.ok (.ret (.ref h₀.objs.size))) { s with gens := s.gens.push (.fresh (.func body (callEnv fd s.heap.objs.size a))), toks := tk, heap := h₀.push { cls := .type "generator", data := .fields #[.int s.gens.size 0, .str fd.name (s.toks + binds.length), .str fd.qualname (s.toks + binds.length + 1)] } })
    (hco : fd.scope.isCoroutine = false) (hgen : fd.scope.isGenerator = true) (hk : fd.scope.kind = .function) :
    codeAny (MM w) A (.call (.ref a) args) R s := by
  refine codeAny_of_tree ?_
  show wpAny _ A.in1 (callAny (.ref a) args) _ _ s
  simp only [callAny]
  refine wpAny_bind (wpAny_load ho ?_)
  refine ex4_4 (hcd) ?_
  clear hcd
  intro c oc vs tq hc hoc hdc hq
  simp only [hdata, callFunction, hco, hgen, hbody, hc]
  refine wpAny_bind (m := field (.ref c) 1) (wpAny_field hoc hdc hq (wpAny_bind (wpAny_pure ?_)))
  rw [← hc]
  refine wpAny_bind (hbind _ _ _ _ ?_)
  refine wpAny_bind (wpAny_newFunctionEnv hcell hloc (fun h₀ hns₀ hsb₀ => ?_) hk)
  refine wpAny_bind (wpAny_enterFrame (hlim.fresh _ hsb₀) hroom ?_)
  simp only [newGenerator, newFields]
  refine wpAny_bind (wpAny_bind (wpAny_newGen (wpAny_bind (wpAny_mkText (wpAny_bind (wpAny_mkText (wpAny_newObj_type (wpAny_pure ?_) (by size_fits))))))))
  exact h h₀ _ hns₀ (fun b o e => hsb₀.extBut b o (Nat.ne_of_lt (Heap.lt_size e)) (Heap.get?_push_of_some _ e)) hns₀.lt
end

/-! a generator's run from one yield to the next -/
noncomputable abbrev Sg := @PySem.W.X.SegX

section
variable {M : Model} {A : Around} {c : Code} {fs : List Frame} {P : End → Shared → Prop} {s : Shared}

theorem x_wrap {α : Type} {m : Sem α} {K : α → Sem Fin} {H : Value → Sem Fin} {gd : Bool → Bool} {lv : List Value → List Value}
    (h : wpAny M (A.over c fs) m (fun a s' => Sg M A c (K a) fs s' P) (fun x s' => Sg M A c (H x) fs s' P) s) : Sg M A c (m.wrap K H gd lv) fs s P := by
  rintro Γ p rfl hΓ
  refine ex2_2 (runs_wrap_of_wp (Φ := fun e s' => e.quiet = true ∧ P e s') K H gd lv m (h (Γ.over fs) p (hΓ.over fs)) (fun a p' s' h' => h' Γ p' rfl hΓ) (fun x p' s' h' => h' Γ p' rfl hΓ)) ?_
  intro e s' hr hq
  exact ⟨e, s', hr, hq⟩
theorem x_bind {α : Type} {m : Sem α} {K : α → Sem Fin}
    (h : wpAny M (A.over c fs) m (fun a s' => Sg M A c (K a) fs s' P) (fun x s' => Sg M A c (.raise x) fs s' P) s) : Sg M A c (m >>= K) fs s P := by
  rw [Sem.bind_eq_wrap']; exact x_wrap h
theorem x_at {p' : Pos} {k : Unit → Sem Fin} (h : Sg M A c (k ()) fs s P) : Sg M A c (.at p' k) fs s P :=
  x_wrap (m := standAt p') (K := k) (H := .raise) (gd := id) (lv := id) (wpAny_standAt h)
theorem x_rule {tg : String} {k : Unit → Sem Fin} (h : Sg M A c (k ()) fs s P) : Sg M A c (.rule tg k) fs s P :=
  x_wrap (m := rule tg) (K := k) (H := .raise) (gd := id) (lv := id) (wpAny_rule h)
theorem x_point {l : List Value} {k : Unit → Sem Fin} (h : Sg M A c (k ()) fs s P) : Sg M A c (.point l k) fs s P :=
  x_wrap (m := point) (K := k) (H := .raise) (gd := id) (lv := fun _ => l) (wpAny_point h)
theorem x_call {c' : Code} {h g l} {k : Result → Sem Fin} (hc : ∀ p, Sg M A c' (M.den c') (.ret k h g l c p [] :: fs) s P) : Sg M A c (.call c' h g l k) fs s P := by
  rintro Γ p rfl hΓ
  refine ex2_2 (hc p (Γ.goto c') p rfl (hΓ.goto c')) ?_
  intro e s' hr hq
  exact ⟨e, s', runs_call_seg hr, hq⟩
theorem x_again {c' : Code} (hq : c'.quiet = true) (h : Sg M A c' (M.den c') fs s P) : Sg M A c (.pure (.again c')) fs s P := by
  rintro Γ p rfl hΓ
  refine ex2_2 (h (Γ.goto c') p rfl (hΓ.goto c')) ?_
  intro e s' hr hq'
  exact ⟨e, s', Runs.head (c₁ := c') (fun _ _ y => .again hq y) hr, hq'⟩
theorem x_pop {k h g l c₁ p₁ kp} (r : Result) (hk : Sg M A c₁ (k r) fs s P) : Sg M A c (leafOf r) (.ret k h g l c₁ p₁ kp :: fs) s P := by
  rintro Γ p rfl hΓ
  refine ex2_2 (hk (Γ.goto c₁) p₁ rfl (hΓ.goto c₁)) ?_
  intro e s' hr hq
  exact ⟨e, s', Runs.pop r hr, hq⟩
theorem x_end (r : Result) (h : P (.ret r) s) : Sg M A c (leafOf r) [] s P := by
  rintro Γ p rfl _
  exact ⟨.ret r, s, Runs.leaf r, rfl, h⟩
theorem x_yield {v : Value} {l : List Value} {k : Resume → Sem Fin} (hfs : splitAtGen fs = none) (hfg : fs.any Frame.guarded = false) (h : ∀ p, P (.susp v false l k c p fs) s) : Sg M A c (.yield v false l k) fs s P := by
  rintro Γ p rfl _
  exact ⟨_, s, Runs.yield' fs hfs, by simp [End.quiet, hfg], h p⟩
theorem x_mono {P' : End → Shared → Prop} {t : Sem Fin} (x : Sg M A c t fs s P) (h : ∀ e s', P e s' → P' e s') : Sg M A c t fs s P' := fun Γ p hc hΓ => by
  refine ex2_3 (x Γ p hc hΓ) ?_
  intro e s' hr hq hp
  exact ⟨e, s', hr, hq, h e s' hp⟩
theorem x_weak {dp un : Nat} {t : Sem Fin} (h : Sg M (AA dp un) c t fs s P) (h1 : A.handled = none) (h2 : A.depth ≤ dp) (h3 : A.units ≤ un) : Sg M A c t fs s P := by
  intro Γ p hc hΓ
  refine h Γ p hc ⟨⟨hΓ.1.1.trans h1, Nat.le_trans hΓ.1.2.1 h2, (fun _ e => nomatch e), (fun _ e => nomatch e), Nat.le_trans hΓ.1.2.2.2.2 h3⟩, hΓ.2⟩
end

/-- what stands on a generator's own stack: no generator, no guard, nothing handled, `n` frames, `u` units -/
structure Low (fs : List Frame) (n u : Nat) : Prop where
  split : splitAtGen fs = none
  guard : fs.any Frame.guarded = false
  mark : ∀ x, (marksOver fs (none, none)).1 = x → x = none
  count : frameCount (fs.map Frame.where_) ≤ n
  units : unitsOf (fs.map Frame.where_) ≤ u

theorem Low.nil : Low [] 0 0 := ⟨rfl, rfl, fun _ h => h.symm, Nat.le_refl _, Nat.le_refl _⟩
theorem Low.cons {fs : List Frame} {n u : Nat} (L : Low fs n u) {k : Result → Sem Fin} {l : List Value} {c : Code} {p : Pos} {kp : List Value} {a b : Nat} (ha : c.weight ≤ a) (hb : c.cUnits ≤ b) : Low (.ret k none false l c p kp :: fs) (a + n) (b + u) := by
  refine ⟨?_, ?_, ?_, ?_, ?_⟩
  · unfold splitAtGen; rw [L.split]; rfl
  · rw [List.any_cons, L.guard]; rfl
  · intro x h
    refine L.mark x ?_
    rw [← h]
    rfl
  · rw [List.map_cons]
    show frameCount ((c, p) :: _) ≤ _
    rw [frameCount_cons]
    have := L.count; (first | lia | omega)
  · rw [List.map_cons]
    show unitsOf ((c, p) :: _) ≤ _
    rw [unitsOf_cons]
    have := L.units; (first | lia | omega)

theorem over_weak {α : Type} {M : Model} {dp un : Nat} {c : Code} {fs : List Frame} {n u a b : Nat} {t : Sem α} {Q : α → Shared → Prop} {E : Value → Shared → Prop} {s : Shared} (L : Low fs n u) (ha : c.weight ≤ a) (hb : c.cUnits ≤ b)
    (h : wpAny M (AA (dp + n + a) (un + u + b)) t Q E s) : wpAny M ((AA dp un).over c fs) t Q E s := by
  refine weak h (L.mark _ rfl) ?_ ?_
  · show dp + frameCount (fs.map Frame.where_) + c.weight ≤ _
    have := L.count; (first | lia | omega)
  · show un + unitsOf (fs.map Frame.where_) + c.cUnits ≤ _
    have := L.units; (first | lia | omega)

section
variable {w : World} {A : Around} {c : Code} {fs : List Frame} {P : End → Shared → Prop} {s : Shared} {env : Env} {K : Flow → Sem Fin} {H : Value → Sem Fin}

theorem x_nil (h : Sg (MM w) A c (K .next) fs s P) : Sg (MM w) A c ((execs [] env).wrap K H id id) fs s P := h
theorem x_cons {st : Stmt} {rest : List Stmt}
    (h : Sg (MM w) A c ((exec st env).wrap (fun f => match f with | .next => (execs rest env).wrap K H id id | f => K f) H id id) fs s P) : Sg (MM w) A c ((execs (st :: rest) env).wrap K H id id) fs s P := by
  rw [execs_cons_wrap]; exact h
theorem x_cmd {st : Stmt} (h : wpAny (MM w) (A.over c fs) (exec st env) (fun f s' => Sg (MM w) A c (K f) fs s' P) (fun _ _ => False) s) : Sg (MM w) A c ((exec st env).wrap K H id id) fs s P :=
  x_wrap (wpAny_mono h (fun _ _ x => x) fun _ _ x => x.elim)
theorem x_If {test : Expr} {body orelse : List Stmt} {pos : Pos}
    (h : wpAny (MM w) (A.over c fs) (isTrue test env (eval test env)) (fun b s' => Sg (MM w) A c ((execs (if b = true then body else orelse) env).wrap K H id id) fs s' P) (fun _ _ => False) s) :
    Sg (MM w) A c ((exec (.If test body orelse pos) env).wrap K H id id) fs s P := by
  rw [exec_If]
  show Sg (MM w) A c (.at pos fun _ => (isTrue test env (eval test env) >>= fun b => if b = true then execs body env else execs orelse env).wrap K H id id) fs s P
  refine x_at ?_
  rw [Sem.bind_eq_wrap', Sem.wrap_wrap]
  refine x_wrap (wpAny_mono h (fun b s' hb => ?_) fun _ _ x => x.elim)
  cases b <;> exact hb
theorem x_Yield {e : Expr} {ypos pos : Pos} (hfs : splitAtGen fs = none) (hfg : fs.any Frame.guarded = false)
    (h : wpAny (MM w) (A.over c fs) (eval e env) (fun v s' => ∀ (l : List Value) (k : Resume → Sem Fin) (p : Pos),
        (∀ (A' : Around) (s'' : Shared) (P' : End → Shared → Prop), Sg (MM w) A' c (K .next) fs s'' P' → Sg (MM w) A' c (k (.send .none)) fs s'' P') → P (.susp v false l k c p fs) s')
      (fun _ _ => False) s) (hco : env.scope.isCoroutine = false) (hi : interactive env = false) :
    Sg (MM w) A c ((exec (.Expr (.Yield (some e) ypos) pos) env).wrap K H id id) fs s P := by
  rw [exec_Expr env _ pos hi rfl]
  show Sg (MM w) A c (.at pos fun _ => ((eval e env >>= fun v => (standAt ypos >>= fun _ => yieldOut env v)) >>= fun x =>
    dropValue (.Yield (some e) ypos) pos x).wrap K H id id) fs s P
  have hy : ∀ v, yieldOut env v = yieldValue v := fun v => by simp only [yieldOut, hco, Bool.false_eq_true, if_false]
  simp only [hy]
  refine x_at ?_
  rw [Sem.bind_eq_wrap', Sem.bind_eq_wrap', Sem.wrap_wrap, Sem.wrap_wrap]
  refine x_wrap (wpAny_mono h (fun v s' h' => ?_) fun _ _ x => x.elim)
  refine x_at (x_yield hfs hfg fun p => ?_)
  exact h' _ _ p fun A' s'' P' hs => hs
theorem x_While {test : Expr} {body orelse : List Stmt} {pos : Pos}
    (h : ∀ (k : Result → Sem Fin), (∀ f, k (.ok f) = K f) → ∀ p, Sg (MM w) A (.whileLoop test body orelse env) (denote table (.whileLoop test body orelse env)) (.ret k none false [] c p [] :: fs) s P) :
    Sg (MM w) A c ((exec (.While test body orelse pos) env).wrap K H id id) fs s P :=
  x_at (x_call fun p => h _ (fun _ => rfl) p)
theorem x_For {target iter : Expr} {body orelse : List Stmt} {pos : Pos}
    (h : wpAny (MM w) (A.over c fs) (eval iter env) (fun x s₁ => wpAny (MM w) (A.over c fs) (pyIter x) (fun it s₂ =>
      ∀ (k : Result → Sem Fin), (∀ f, k (.ok f) = K f) → ∀ p, Sg (MM w) A (.forLoop target it body orelse env) (denote table (.forLoop target it body orelse env)) (.ret k none false [] c p [] :: fs) s₂ P) (fun _ _ => False) s₁) (fun _ _ => False) s)
    (hs : ∀ x, foldedSetIterable iter env x = pure x) :
    Sg (MM w) A c ((exec (.For target iter body orelse pos) env).wrap K H id id) fs s P := by
  rw [exec_For]
  show Sg (MM w) A c (.at pos fun _ => (eval iter env >>= fun x => foldedSetIterable iter env x >>= fun x => standAt iter.pos >>= fun _ => holding [x] (pyIter x) >>= fun it => runOwn (.forLoop target it body orelse env) env).wrap K H id id) fs s P
  simp only [hs]
  refine x_at ?_
  rw [Sem.bind_eq_wrap', Sem.wrap_wrap]
  refine x_wrap (wpAny_mono h (fun x s₁ h₁ => ?_) fun _ _ x => x.elim)
  show Sg (MM w) A c (.at iter.pos fun _ => (holding [x] (pyIter x) >>= fun it => runOwn (.forLoop target it body orelse env) env).wrap K H id id) fs s₁ P
  refine x_at ?_
  rw [Sem.bind_eq_wrap', Sem.wrap_wrap]
  refine x_wrap (wpAny_holding (wpAny_mono h₁ (fun it s₂ h₂ => ?_) fun _ _ x => x.elim))
  exact x_call fun p => h₂ _ (fun _ => rfl) p
theorem x_whileLoop {test : Expr} {body : List Stmt}
    (h : wpAny (MM w) (A.over (.whileLoop test body [] env) fs) (isTrue test env (eval test env)) (fun b s' =>
      if b = true then ∀ H', Sg (MM w) A (.whileLoop test body [] env) ((execs body env).wrap (fun f => match f with
            | .next | .cont => .pure (.again (.whileLoop test body [] env))
            | .brk => .pure (.done .next)
            | .ret v => .pure (.done (.ret v))) H' id id) fs s' P
      else Sg (MM w) A (.whileLoop test body [] env) (.pure (.done .next)) fs s' P) (fun _ _ => False) s) :
    Sg (MM w) A (.whileLoop test body [] env) (denote table (.whileLoop test body [] env)) fs s P := by
  show Sg (MM w) A _ ((whileTurn test body [] env).onRaise (fun x => do noteFrame x env; theTreesLotGoes x)) fs s P
  unfold whileTurn
  rw [Sem.onRaise_eq_wrap, Sem.bind_eq_wrap', Sem.wrap_wrap]
  refine x_wrap (wpAny_mono h (fun b s' hb => ?_) fun _ _ x => x.elim)
  cases b with
  | true =>
    rw [if_pos rfl] at hb
    show Sg (MM w) A _ (Sem.wrap _ _ _ _ (if true = true then _ else _)) fs s' P
    rw [if_pos rfl, Sem.bind_eq_wrap', Sem.wrap_wrap]
    rw [Sem.wrap_congr (execs body env) _ _ (K' := fun f => match f with
            | .next | .cont => .pure (.again (.whileLoop test body [] env))
            | .brk => .pure (.done .next)
            | .ret v => .pure (.done (.ret v))) (fun f => by cases f <;> rfl) (fun _ => rfl)]
    exact hb _
  | false =>
    rw [if_neg Bool.false_ne_true] at hb
    exact hb
theorem x_forLoop {target : Expr} {it : Value} {body : List Stmt}
    (h : wpAny (MM w) (A.over (.forLoop target it body [] env) fs) (pyNext it) (fun r s₁ => match r with
      | none => Sg (MM w) A (.block [] env) (.pure (.done .next)) fs s₁ P
      | some v => wpAny (MM w) (A.over (.forLoop target it body [] env) fs) (letOwnedTupleGo target it v) (fun _ s₂ => wpAny (MM w) (A.over (.forLoop target it body [] env) fs) (assign target env v) (fun _ s₃ =>
          ∀ H', Sg (MM w) A (.forLoop target it body [] env) ((execs body env).wrap (fun f => match f with
            | .next | .cont => .pure (.again (.forLoop target it body [] env))
            | .brk => .pure (.done .next)
            | .ret v => .pure (.done (.ret v))) H' id id) fs s₃ P) (fun _ _ => False) s₂) (fun _ _ => False) s₁) (fun _ _ => False) s) :
    Sg (MM w) A (.forLoop target it body [] env) (denote table (.forLoop target it body [] env)) fs s P := by
  show Sg (MM w) A _ ((forTurn target it body [] env).onRaise (fun x => do noteFrame x env; theTreesLotGoes x)) fs s P
  unfold forTurn
  rw [Sem.onRaise_eq_wrap]
  refine x_at ?_
  show Sg (MM w) A _ (Sem.wrap _ _ _ _ ((pyNext it).onRaise _ >>= _)) fs s P
  rw [Sem.bind_eq_wrap', Sem.wrap_wrap]
  refine x_wrap (wpAny_onRaise (wpAny_mono h (fun r s₁ h₁ => ?_) fun _ _ x => x.elim))
  cases r with
  | none => exact x_again rfl h₁
  | some v =>
    show Sg (MM w) A _ (Sem.wrap _ _ _ _ (letOwnedTupleGo target it v >>= fun _ => _)) fs s₁ P
    rw [Sem.bind_eq_wrap', Sem.wrap_wrap]
    refine x_wrap (wpAny_mono h₁ (fun _ s₂ h₂ => ?_) fun _ _ x => x.elim)
    show Sg (MM w) A _ (Sem.wrap _ _ _ _ (assign target env v >>= fun _ => _)) fs s₂ P
    rw [Sem.bind_eq_wrap', Sem.wrap_wrap]
    refine x_wrap (wpAny_mono h₂ (fun _ s₃ h₃ => ?_) fun _ _ x => x.elim)
    show Sg (MM w) A _ (Sem.wrap _ _ _ _ (execs body env >>= fun _ => _)) fs s₃ P
    rw [Sem.bind_eq_wrap', Sem.wrap_wrap]
    rw [Sem.wrap_congr (execs body env) _ _ (K' := fun f => match f with
            | .next | .cont => .pure (.again (.forLoop target it body [] env))
            | .brk => .pure (.done .next)
            | .ret v => .pure (.done (.ret v))) (fun f => by cases f <;> rfl) (fun _ => rfl)]
    exact h₃ _
theorem x_func {body : List Stmt} (h : ∀ H', Sg (MM w) A (.func body env) ((execs body env).wrap (fun f => .pure (.done (.ret (match f with | .ret v => v | _ => .none)))) H' id id) fs s P) :
    Sg (MM w) A (.func body env) (denote table (.func body env)) fs s P := by
  show Sg (MM w) A (.func body env) (.point [] fun _ => ((execs body env).onRaise (leaving env)) >>= _) fs s P
  refine x_point ?_
  rw [Sem.onRaise_eq_wrap, Sem.bind_eq_wrap', Sem.wrap_wrap]
  rw [Sem.wrap_congr (execs body env) _ _ (K' := fun f => .pure (.done (.ret (match f with | .ret v => v | _ => .none)))) (fun f => by cases f <;> rfl) (fun _ => rfl)]
  exact h _
end

noncomputable abbrev tupObj (vs : List Value) : Obj := { cls := .type "tuple", data := .seq vs.toArray }
/-- a tuple of ints that h did not bear -/
noncomputable def NewTup (h : Heap) (xs : List Int) (v : Value) (s' : Shared) : Prop :=
  ∃ D vs, v = .ref D ∧ h.get? D = none ∧ s'.heap.get? D = some (tupObj vs) ∧ IntsAre vs xs

noncomputable def isSusp : GenState → Prop
  | .suspended .. => True
  | _ => False

structure Moves (own : Addr → Prop) (gown : Nat → Prop) (s s' : Shared) : Prop where
  heap : ∀ b o, ¬ own b → s.heap.get? b = some o → s'.heap.get? b = some o
  hsize : s.heap.objs.size ≤ s'.heap.objs.size
  gens : ∀ (i : Nat) x, ¬ gown i → s.gens[i]? = some x → s'.gens[i]? = some x
  gsize : s.gens.size ≤ s'.gens.size
  os : s'.os = s.os
/-- what is suspended behind a run stood so before and was not owned, or is owned now -/
noncomputable def Tidy (g g' : Nat → Prop) (s s' : Shared) : Prop := ∀ (i : Nat) x, s'.gens[i]? = some x → isSusp x → (s.gens[i]? = some x ∧ ¬ g i) ∨ g' i
theorem Tidy.trans {g g' g'' : Nat → Prop} {a b c : Shared} (x : Tidy g g' a b) (y : Tidy g' g'' b c) : Tidy g g'' a c := fun i v e q => by
  rcases y i v e q with ⟨e', n⟩ | z
  · rcases x i v e' q with z | z
    · exact .inl z
    · exact absurd z n
  · exact .inr z
theorem Tidy.refl {g : Nat → Prop} (s : Shared) : Tidy g g s s := fun i _ e _ => (Classical.em (g i)).elim .inr fun n => .inl ⟨e, n⟩
theorem Tidy.same {g g' : Nat → Prop} {a b c : Shared} (x : Tidy g g' a b) (h : c.gens = b.gens) : Tidy g g' a c := fun i v e q => x i v (by rw [← h]; exact e) q

theorem Moves.refl {own : Addr → Prop} {gown : Nat → Prop} (s : Shared) : Moves own gown s s := ⟨fun _ _ _ e => e, Nat.le_refl _, fun _ _ _ e => e, Nat.le_refl _, rfl⟩
theorem Moves.trans {own : Addr → Prop} {gown : Nat → Prop} {a b c : Shared} (x : Moves own gown a b) (y : Moves own gown b c) : Moves own gown a c :=
  ⟨fun d o h e => y.heap d o h (x.heap d o h e), Nat.le_trans x.hsize y.hsize, fun i z h e => y.gens i z h (x.gens i z h e), Nat.le_trans x.gsize y.gsize, y.os.trans x.os⟩
theorem Moves.mono {own own' : Addr → Prop} {gown gown' : Nat → Prop} {s s' : Shared} (x : Moves own gown s s') (h : ∀ b, own b → own' b) (hg : ∀ i, gown i → gown' i) : Moves own' gown' s s' :=
  ⟨fun b o hb e => x.heap b o (fun q => hb (h b q)) e, x.hsize, fun i z hi e => x.gens i z (fun q => hi (hg i q)) e, x.gsize, x.os⟩

structure Agree (hb : Heap) (own : Addr → Prop) (gown : Nat → Prop) (y s : Shared) : Prop where
  base : ∀ b o, hb.get? b = some o → s.heap.get? b = some o
  heap : ∀ b o, own b → y.heap.get? b = some o → s.heap.get? b = some o
  gens : ∀ (i : Nat) x, gown i → y.gens[i]? = some x → s.gens[i]? = some x
  hsize : y.heap.objs.size ≤ s.heap.objs.size
  gsize : y.gens.size ≤ s.gens.size

theorem Agree.trans {hb : Heap} {own : Addr → Prop} {gown : Nat → Prop} {a b c : Shared} (x : Agree hb own gown a b) (y : Agree hb own gown b c) : Agree hb own gown a c :=
  ⟨y.base, fun d o h e => y.heap d o h (x.heap d o h e), fun i z h e => y.gens i z h (x.gens i z h e), Nat.le_trans x.hsize y.hsize, Nat.le_trans x.gsize y.gsize⟩

/-- from a state of a generator on: what a waking does -/
noncomputable def Wake (w : World) (gs : GenState) (A : Around) (s : Shared) (P : End → Shared → Prop) : Prop := match gs with
  | .fresh c => Sg (MM w) A c (den2 c) [] s P
  | .suspended k _ c _ fs _ => Sg (MM w) A c (k (.send .none)) fs s P
  | _ => False

noncomputable def StepPost (Wl : GenState → (Addr → Prop) → (Nat → Prop) → Shared → Prop) (hb : Heap) (own : Addr → Prop) (gown : Nat → Prop) (s : Shared) (x : List Int) : End → Shared → Prop := fun e s' =>
  ∃ v own' gown', e.result = .yielded v ∧ NewTup hb x v s' ∧ Moves own gown s s' ∧ Tidy gown gown' s s' ∧
      (∀ b, own' b → (own b ∨ s.heap.objs.size ≤ b) ∧ b < s'.heap.objs.size) ∧ (∀ D, v = .ref D → ¬ own' D) ∧ (∀ i, gown' i → (gown i ∨ s.gens.size ≤ i) ∧ i < s'.gens.size) ∧
      Wl e.genState own' gown' s'
noncomputable def DonePost (own : Addr → Prop) (gown : Nat → Prop) (s : Shared) : End → Shared → Prop := fun e s' => e = .ret (.ok (.ret .none)) ∧ Moves own gown s s' ∧ Tidy gown (fun _ => False) s s'

/-- the generator will yield just these rows, and return -/
noncomputable def Will (w : World) (hb : Heap) (dp un : Nat) : List (List Int) → GenState → (Addr → Prop) → (Nat → Prop) → Shared → Prop
  | [], gs, own, gown, y => ∀ s, Agree hb own gown y s → Wake w gs (AA dp un) s (DonePost own gown s)
  | x :: xs, gs, own, gown, y => ∀ s, Agree hb own gown y s → Wake w gs (AA dp un) s (StepPost (Will w hb dp un xs) hb own gown s x)
noncomputable def Post (w : World) (hb : Heap) (dp un : Nat) (xs : List (List Int)) (own : Addr → Prop) (gown : Nat → Prop) (s : Shared) : End → Shared → Prop := match xs with
  | [] => DonePost own gown s
  | x :: xs => StepPost (Will w hb dp un xs) hb own gown s x
theorem will_iff {w : World} {hb : Heap} {dp un : Nat} {xs : List (List Int)} {gs : GenState} {own : Addr → Prop} {gown : Nat → Prop} {y : Shared} :
    Will w hb dp un xs gs own gown y ↔ ∀ s, Agree hb own gown y s → Wake w gs (AA dp un) s (Post w hb dp un xs own gown s) := by
  cases xs <;> exact Iff.rfl

theorem Will.agree {w : World} {hb : Heap} {dp un : Nat} {xs : List (List Int)} {gs : GenState} {own : Addr → Prop} {gown : Nat → Prop} {y s : Shared} (h : Will w hb dp un xs gs own gown y) (a : Agree hb own gown y s) : Will w hb dp un xs gs own gown s := by
  cases xs with
  | nil => exact fun s' a' => h s' (a.trans a')
  | cons x xs => exact fun s' a' => h s' (a.trans a')

/-- the object of a generator: it is not slept over -/
noncomputable def GenObj (h : Heap) (a : Addr) (g : Nat) : Prop := ∃ o nm qn, h.get? a = some o ∧ o.cls = .type "generator" ∧ o.data = .fields #[.int g 0, nm, qn] ∧ (o.slots = #[] ∨ o.slots = #[some (.int 0 0)])

structure Live (w : World) (hb : Heap) (dp un : Nat) (xs : List (List Int)) (a : Addr) (g : Nat) (own : Addr → Prop) (gown : Nat → Prop) (s : Shared) : Prop where
  obj : GenObj s.heap a g
  anew : ¬ own a
  will : ∃ gs, s.gens[g]? = some gs ∧ Will w hb dp un xs gs own gown s
  notg : ¬ gown g
  oub : ∀ b, own b → b < s.heap.objs.size
  gub : ∀ i, gown i → i < s.gens.size
  onew : ∀ b, own b → hb.get? b = none
  base : ∀ b o, hb.get? b = some o → s.heap.get? b = some o

theorem GenObj.typeIs {s : Shared} {a : Addr} {g : Nat} (x : GenObj s.heap a g) : s.TypeIs (.ref a) "generator" := let ⟨o, _, _, ho, hc, _⟩ := x; ⟨o, ho, hc⟩
theorem genNumber2 {M : Model} {A : Around} {E : Value → Shared → Prop} {s : Shared} {a : Addr} {g : Nat} {Q : Nat → Shared → Prop} (hg : GenObj s.heap a g) (h : Q g s) :
    wpAny M A (Builtin.Generator.genNumber (.ref a)) Q E s := by
  refine ex3_4 (hg) ?_
  clear hg
  intro o nm qn ho _ hd hsl
  unfold Builtin.Generator.genNumber
  refine wpAny_bind (wpAny_load ho ?_)
  have told : wpAny M A (pure (Int.toNat (g : Int))) Q E s := wpAny_pure (by rw [Int.toNat_natCast]; exact h)
  rcases hsl with q | q <;> rw [q, hd] <;> exact told

theorem Live.frame {w : World} {hb : Heap} {dp un : Nat} {xs : List (List Int)} {a : Addr} {g : Nat} {own : Addr → Prop} {gown : Nat → Prop} {s s' : Shared} (L : Live w hb dp un xs a g own gown s)
    (ho : GenObj s'.heap a g) (hbase : ∀ b o, hb.get? b = some o → s'.heap.get? b = some o) (hh : ∀ b o, own b → s.heap.get? b = some o → s'.heap.get? b = some o)
    (hg : ∀ (i : Nat) x, gown i ∨ i = g → s.gens[i]? = some x → s'.gens[i]? = some x) (h1 : s.heap.objs.size ≤ s'.heap.objs.size) (h2 : s.gens.size ≤ s'.gens.size) : Live w hb dp un xs a g own gown s' := by
  refine ex1_2 (L.will) ?_
  intro gs e hw
  exact ⟨ho, L.anew, ⟨gs, hg g gs (.inr rfl) e, hw.agree ⟨hbase, hh, fun i x hi e => hg i x (.inl hi) e, h1, h2⟩⟩, L.notg, fun b hb => Nat.lt_of_lt_of_le (L.oub b hb) h1, fun i hi => Nat.lt_of_lt_of_le (L.gub i hi) h2, L.onew, hbase⟩

/-- a waking, told by its run -/
theorem resume2 {w : World} {A : Around} {E : Value → Shared → Prop} {s : Shared} {g : Nat} {gs : GenState} {α : Type} {k : GenResult → Sem α} {Q : α → Shared → Prop} {l : List Value} (hg : s.gens[g]? = some gs)
    (h : Wake w gs A (s.setGen g .running) fun e s₁ => wpAny (MM w) A (k e.result) Q E (s₁.setGen g e.genState)) : wpAny (MM w) A (.resume g (.send .none) l k) Q E s := by
  intro Γ p hΓ
  rw [Sem.wp_resume]
  cases gs with
  | fresh c =>
    refine ex2_3 (h (Γ.wake c p) p rfl (hΓ.wake c p)) ?_
    intro e₁ s₁ hr hq he
    exact ⟨_, _, by unfold Wakes; rw [hg]; exact ⟨e₁, s₁, hr, hq, rfl, rfl⟩, he Γ p hΓ⟩
  | suspended k₀ l₀ c₀ p₀ fs₀ cl =>
    refine ex2_3 (h (Γ.wake c₀ p) p₀ rfl (hΓ.wake c₀ p)) ?_
    intro e₁ s₁ hr hq he
    exact ⟨_, _, by unfold Wakes; rw [hg]; exact ⟨e₁, s₁, hr, hq, rfl, rfl⟩, he Γ p hΓ⟩
  | running => exact h.elim
  | finished => exact h.elim

theorem Wake.weak {w : World} {A : Around} {dp un : Nat} {gs : GenState} {s : Shared} {P : End → Shared → Prop} (h : Wake w gs (AA dp un) s P) (h1 : A.handled = none) (h2 : A.depth ≤ dp) (h3 : A.units ≤ un) : Wake w gs A s P := by
  cases gs with
  | fresh c => exact x_weak h h1 h2 h3
  | suspended k₀ l₀ c₀ p₀ fs₀ cl => exact x_weak h h1 h2 h3
  | running => exact h.elim
  | finished => exact h.elim
theorem Wake.mono {w : World} {A : Around} {gs : GenState} {s : Shared} {P P' : End → Shared → Prop} (h : Wake w gs A s P) (hp : ∀ e s', P e s' → P' e s') : Wake w gs A s P' := by
  cases gs with
  | fresh c => exact x_mono h hp
  | suspended k₀ l₀ c₀ p₀ fs₀ cl => exact x_mono h hp
  | running => exact h.elim
  | finished => exact h.elim

theorem setGen_get (s : Shared) (g i : Nat) (x : GenState) (h : i ≠ g) : (s.setGen g x).gens[i]? = s.gens[i]? := by
  simp only [Shared.setGen, Array.getElem?_setIfInBounds]
  rw [if_neg (fun e => h e.symm)]
theorem setGen_get_self (s : Shared) (g : Nat) (x : GenState) (h : g < s.gens.size) : (s.setGen g x).gens[g]? = some x := by
  simp only [Shared.setGen, Array.getElem?_setIfInBounds]
  simp [h]
theorem setGen_size (s : Shared) (g : Nat) (x : GenState) : (s.setGen g x).gens.size = s.gens.size := by simp [Shared.setGen]

section
variable {w : World} {hb : Heap} {dp un : Nat} {xs : List (List Int)} {x : List Int} {a : Addr} {g : Nat} {own : Addr → Prop} {gown : Nat → Prop} {s : Shared} {A : Around} {E : Value → Shared → Prop}

theorem Live.lt (L : Live w hb dp un xs a g own gown s) : g < s.gens.size := let ⟨_, e, _⟩ := L.will; (Array.getElem?_eq_some_iff.mp e).1
theorem Live.agree (L : Live w hb dp un xs a g own gown s) (y : GenState) : Agree hb own gown s (s.setGen g y) :=
  ⟨L.base, fun _ _ _ e => e, fun i z hi e => by rw [setGen_get _ _ _ _ (fun q => L.notg (by rw [← q]; exact hi))]; exact e, Nat.le_refl _, by rw [setGen_size]; exact Nat.le_refl _⟩

theorem moves_set {own : Addr → Prop} {gown : Nat → Prop} {s s₁ : Shared} {g : Nat} {y z : GenState} (m : Moves own gown (s.setGen g y) s₁) : Moves own (fun i => gown i ∨ i = g) s (s₁.setGen g z) :=
  ⟨m.heap, m.hsize, fun i v hi e => by
    have hne : i ≠ g := fun q => hi (.inr q)
    rw [setGen_get _ _ _ _ hne]
    exact m.gens i v (fun q => hi (.inl q)) (by rw [setGen_get _ _ _ _ hne]; exact e), by have := m.gsize; rw [setGen_size] at this ⊢; exact this, m.os⟩
theorem tidy_set {gown gown' : Nat → Prop} {s s₁ : Shared} {g : Nat} {y z : GenState} (m : Tidy gown gown' (s.setGen g y) s₁) : Tidy (fun i => gown i ∨ i = g) (fun i => gown' i ∨ i = g) s (s₁.setGen g z) := by
  intro i v e hs
  by_cases hi : i = g
  · exact .inr (.inr hi)
  · rw [setGen_get _ _ _ _ hi] at e
    rcases m i v e hs with ⟨q, n⟩ | q
    · rw [setGen_get _ _ _ _ hi] at q; exact .inl ⟨q, fun z => z.elim n hi⟩
    · exact .inr (.inl q)
theorem tidy_set_done {gown : Nat → Prop} {s s₁ : Shared} {g : Nat} {y : GenState} (hg : g < s₁.gens.size) (m : Tidy gown (fun _ => False) (s.setGen g y) s₁) : Tidy (fun i => gown i ∨ i = g) (fun _ => False) s (s₁.setGen g .finished) := by
  intro i v e hs
  by_cases hi : i = g
  · subst hi
    rw [setGen_get_self _ _ _ hg] at e
    cases e; exact hs.elim
  · rw [setGen_get _ _ _ _ hi] at e
    rcases m i v e hs with ⟨q, n⟩ | q
    · rw [setGen_get _ _ _ _ hi] at q; exact .inl ⟨q, fun z => z.elim n hi⟩
    · exact q.elim

/-- what a consumer is told of one more row -/
structure Told1 (w : World) (hb : Heap) (dp un : Nat) (x : List Int) (xs : List (List Int)) (a : Addr) (g : Nat) (own : Addr → Prop) (gown : Nat → Prop) (s : Shared) (v : Value) (own' : Addr → Prop) (gown' : Nat → Prop) (s' : Shared) : Prop where
  tup : NewTup hb x v s'
  moves : Moves own (fun i => gown i ∨ i = g) s s'
  tidy : Tidy (fun i => gown i ∨ i = g) (fun i => gown' i ∨ i = g) s s'
  own : ∀ b, own' b → own b ∨ s.heap.objs.size ≤ b
  gown : ∀ i, gown' i → gown i ∨ s.gens.size ≤ i
  apart : ∀ D, v = .ref D → ¬ own' D
  live : Live w hb dp un xs a g own' gown' s'

/-- an exception that ends a generator, without a value -/
noncomputable def StopObj (h : Heap) (e : Value) : Prop := ∃ a o vs, e = .ref a ∧ h.get? a = some o ∧ o.cls = .type "StopIteration" ∧ o.data = .fields vs ∧ vs[5]? = some .none
theorem spec_row (L : Live w hb dp un (x :: xs) a g own gown s) (lim : hb.NoLimit) (h1 : A.handled = none) (h2 : A.depth ≤ dp) (h3 : A.units + 1 ≤ un) (hroom : A.depth < recursionLimit) {Q : Option Value → Shared → Prop}
    (h : ∀ v s' own' gown', Told1 w hb dp un x xs a g own gown s v own' gown' s' → Q (some v) s') : wpAny (MM w) A (callSpecial? (.ref a) (Str.ofString "__next__")) Q E s := by
  refine ex1_2 (L.will) ?_
  intro gs hgs hw
  refine wpAny_callSpecial?_slot (name := Str.ofString "__next__") L.obj.typeIs slot_gen_next
    (wpAny_call_entry2 slot_gen_next L.obj.typeIs (by decide) entry_gen_next ?_ (args_gen_next _))
  show wpAny _ A.in1 (Builtin.Generator.genWake (.ref a) (.send .none)) _ _ s
  unfold Builtin.Generator.genWake
  refine wpAny_bind (wpAny_holding (genNumber2 L.obj (wpAny_bind (wpAny_genState hgs ?_))))
  have noL : s.heap.NoLimit := lim.keeps L.base
  have W := Wake.weak (A := A.in1) (hw (s.setGen g .running) (L.agree .running)) h1 h2 h3
  cases gs with
  | running => exact W.elim
  | finished => exact W.elim
  | _ =>
    refine wpAny_bind (wpAny_roomToWake noL hroom ?_)
    show wpAny _ A.in1 (.resume g (.send .none) [] _) _ _ s
    refine resume2 hgs (Wake.mono W fun e s₁ he => ?_)
    refine ex3_8 (he) ?_
    clear he
    intro v own' gown' hres htup hmov htidy hown hap hgown hwill
    rw [hres]
    have hgs₁ : g < s₁.gens.size := by have := hmov.gsize; rw [setGen_size] at this; exact Nat.lt_of_lt_of_le L.lt this
    have hng : ¬ gown' g := fun q => by
      rcases (hgown g q).1 with q | q
      · exact L.notg q
      · rw [setGen_size] at q; exact absurd L.lt (Nat.not_lt.mpr q)
    refine wpAny_pure ⟨v, rfl, h v (s₁.setGen g e.genState) own' gown' ⟨htup, moves_set hmov, tidy_set htidy, fun b q => (hown b q).1, fun i q => by
      have := (hgown i q).1; rw [setGen_size] at this; exact this, hap, ?_⟩⟩
    have hbase : ∀ b o, hb.get? b = some o → s₁.heap.get? b = some o := fun b o e => hmov.heap b o (fun q => by rw [L.onew b q] at e; cases e) (L.base b o e)
    refine ex3_4 (L.obj) ?_
    intro o nm qn ho hc hd hsl
    refine ⟨⟨o, nm, qn, hmov.heap a o L.anew ho, hc, hd, hsl⟩, fun q => ?_, ⟨_, setGen_get_self _ _ _ hgs₁, hwill.agree ⟨hbase, fun _ _ _ e => e, fun i z hi e => by
      rw [setGen_get _ _ _ _ (fun q => hng (by rw [← q]; exact hi))]; exact e, Nat.le_refl _, by rw [setGen_size]; exact Nat.le_refl _⟩⟩, hng, fun b q => (hown b q).2, fun i q => by rw [setGen_size]; exact (hgown i q).2, fun b q => ?_, hbase⟩
    · rcases (hown a q).1 with q | q
      · exact L.anew q
      · exact absurd (Heap.lt_size ho) (Nat.not_lt.mpr q)
    · rcases (hown b q).1 with q | q
      · exact L.onew b q
      · cases e : hb.get? b with
        | none => rfl
        | some o => exact absurd (Heap.lt_size (L.base b o e)) (Nat.not_lt.mpr q)

theorem spec_end (L : Live w hb dp un [] a g own gown s) (lim : hb.NoLimit) (h1 : A.handled = none) (h2 : A.depth ≤ dp) (h3 : A.units + 1 ≤ un) (hroom : A.depth < recursionLimit) {Q : Option Value → Shared → Prop}
    (h : ∀ e s', Moves own (fun i => gown i ∨ i = g) s s' → Tidy (fun i => gown i ∨ i = g) (fun _ => False) s s' → (∀ b o, hb.get? b = some o → s'.heap.get? b = some o) → StopObj s'.heap e → E e s') : wpAny (MM w) A (callSpecial? (.ref a) (Str.ofString "__next__")) Q E s := by
  refine ex1_2 (L.will) ?_
  intro gs hgs hw
  refine wpAny_callSpecial?_slot (name := Str.ofString "__next__") L.obj.typeIs slot_gen_next
    (wpAny_call_entry2 slot_gen_next L.obj.typeIs (by decide) entry_gen_next ?_ (args_gen_next _))
  show wpAny _ A.in1 (Builtin.Generator.genWake (.ref a) (.send .none)) _ _ s
  unfold Builtin.Generator.genWake
  refine wpAny_bind (wpAny_holding (genNumber2 L.obj (wpAny_bind (wpAny_genState hgs ?_))))
  have noL : s.heap.NoLimit := lim.keeps L.base
  have W := Wake.weak (A := A.in1) (hw (s.setGen g .running) (L.agree .running)) h1 h2 h3
  cases gs with
  | running => exact W.elim
  | finished => exact W.elim
  | _ =>
    refine wpAny_bind (wpAny_roomToWake noL hroom ?_)
    show wpAny _ A.in1 (.resume g (.send .none) [] _) _ _ s
    refine resume2 hgs (Wake.mono W fun e s₁ he => ?_)
    refine ex0_3 (he) ?_
    clear he
    intro hq1_ hmov htidy
    obtain rfl := hq1_
    have hgs₁ : g < s₁.gens.size := by have := hmov.gsize; rw [setGen_size] at this; exact Nat.lt_of_lt_of_le L.lt this
    have hbase : ∀ b o, hb.get? b = some o → s₁.heap.get? b = some o := fun b o e => hmov.heap b o (fun q => by rw [L.onew b q] at e; cases e) (L.base b o e)
    have fin : ∀ h' e, (∀ b o, s₁.heap.get? b = some o → h'.get? b = some o) → s₁.heap.objs.size ≤ h'.objs.size → StopObj h' e → E e { s₁.setGen g .finished with heap := h' } := fun h' e hk hsz hst => by
      have m := moves_set (z := .finished) hmov
      refine h _ _ ⟨fun b o hb e => hk b o (m.heap b o hb e), Nat.le_trans m.hsize hsz, m.gens, m.gsize, m.os⟩ (tidy_set_done hgs₁ htidy) (fun b o e => hk b o (hbase b o e)) hst
    show wpAny _ A.in1 (newExc (.type "StopIteration") [] >>= _) _ _ _
    refine wpAny_bind ?_
    simp only [newExc, newTuple]
    refine wpAny_bind (wpAny_newObj_type ?_ (by size_fits))
    refine wpAny_bind (m := firstArgMember _ _) (wpAny_of_eq (a := Value.none) (by first | rfl | (simp only [firstArgMember]; rfl)) ?_)
    refine wpAny_newObj_type ?_ (by size_fits)
    simp only [raiseNew]
    refine wpAny_bind (wpAny_bind (wpAny_handled ?_))
    rw [show A.in1.handled = none from h1]
    refine wpAny_throw ?_
    refine fin _ _ (fun b o e => Heap.get?_push_of_some _ (Heap.get?_push_of_some _ e)) ?_ ⟨_, _, _, rfl, Heap.get?_push_size _ rfl, rfl, rfl, rfl⟩
    simp only [Shared.setGen, Heap.size_push]; (first | lia | omega)
theorem next_row (L : Live w hb dp un (x :: xs) a g own gown s) (lim : hb.NoLimit) (h1 : A.handled = none) (h2 : A.depth ≤ dp) (h3 : A.units + 1 ≤ un) (hroom : A.depth < recursionLimit) {Q : Option Value → Shared → Prop}
    (h : ∀ v s' own' gown', Told1 w hb dp un x xs a g own gown s v own' gown' s' → Q (some v) s') : wpAny (MM w) A (pyNext (.ref a)) Q E s :=
  wpAny_bind (wpAny_attempt (spec_row L lim h1 h2 h3 hroom fun v s' own' gown' T => wpAny_pure (h v s' own' gown' T)))
theorem next_end (L : Live w hb dp un [] a g own gown s) (lim : hb.NoLimit) (h1 : A.handled = none) (h2 : A.depth ≤ dp) (h3 : A.units + 1 ≤ un) (hroom : A.depth < recursionLimit) {Q : Option Value → Shared → Prop}
    (h : ∀ s', Moves own (fun i => gown i ∨ i = g) s s' → Tidy (fun i => gown i ∨ i = g) (fun _ => False) s s' → (∀ b o, hb.get? b = some o → s'.heap.get? b = some o) → Q none s') : wpAny (MM w) A (pyNext (.ref a)) Q E s := by
  refine wpAny_bind (wpAny_attempt (spec_end (Q := fun v s' => wpAny (MM w) A _ Q E s') L lim h1 h2 h3 hroom fun e s' mv ti kp st => ?_))
  refine ex3_5 st ?_
  intro b o vs e' ho hc _ _
  subst e'
  exact wpAny_bind (wpAny_isInstance (T := "StopIteration") (b := true) ⟨o, ho, hc⟩ isSubtype_stop (wpAny_pure (h s' mv ti kp)))
end

theorem update_size (h : Heap) (a : Addr) (f : Obj → Obj) : (h.update a f).objs.size = h.objs.size := (Heap.SameBut.update h a f).1
theorem runs_hsize {M : Model} {Γ : Ctx} {p : Pos} {t : Sem Fin} {fs : List Frame} {s : Shared} {e : End} {s' : Shared} (h : Runs M Γ p t fs s e s') : s.heap.objs.size ≤ s'.heap.objs.size := by
  induction h with
  | done | raise => exact Nat.le_refl _
  | again _ _ ih => exact ih
  | rule _ ih | «at» _ ih | load _ _ ih | loadIfAlive _ ih | point _ ih | fresh _ ih | ask _ ih | choose _ _ ih | os _ ih | handled _ ih | genState _ _ ih | stack _ ih | thread _ ih | newGen _ ih => exact ih
  | update _ _ ih => rwa [update_size] at ih
  | alloc _ ih => rw [Heap.size_push] at ih; exact Nat.le_of_lt (by assumption)
  | call _ _ ih1 ih2 => exact Nat.le_trans ih1 ih2
  | callSusp _ ih => exact ih
  | yield => exact Nat.le_refl _
  | resumeFresh _ _ _ _ ih1 ih2 => exact Nat.le_trans ih1 ih2
  | resumeSuspended _ _ _ _ ih1 ih2 => exact Nat.le_trans ih1 ih2
  | resumeJustStarted _ _ _ ih => exact ih
  | resumeThrowFresh _ _ ih => exact ih
  | resumeRunning _ _ ih => exact ih
  | resumeFinished _ _ ih => exact ih
  | segRet _ _ ih1 ih2 => exact Nat.le_trans ih1 ih2
  | segGen _ _ ih1 ih2 => exact Nat.le_trans ih1 ih2
  | segSuspOut _ _ ih => exact ih
  | segSuspGen _ _ _ _ ih1 ih2 => exact Nat.le_trans ih1 ih2
theorem wakes_hsize {M : Model} {Γ : Ctx} {p : Pos} {g : Nat} {r : Resume} {s : Shared} {res : GenResult} {s' : Shared} (h : Wakes M Γ p g r s res s') : s.heap.objs.size ≤ s'.heap.objs.size := by
  unfold Wakes at h
  cases hg : s.gens[g]? with
  | none => rw [hg] at h; exact h.elim
  | some gs =>
    rw [hg] at h
    cases gs with
    | fresh c =>
      cases r with
      | send v =>
        cases v with
        | none => obtain ⟨e₁, s₁, hr, _, _, rfl⟩ := h; have := runs_hsize hr; exact this
        | _ => obtain ⟨_, rfl⟩ := h; exact Nat.le_refl _
      | throw x => obtain ⟨_, rfl⟩ := h; exact Nat.le_refl _
    | suspended k₀ l₀ c₀ p₀ fs cl => obtain ⟨e₁, s₁, hr, _, _, rfl⟩ := h; have := runs_hsize hr; exact this
    | running => obtain ⟨_, rfl⟩ := h; exact Nat.le_refl _
    | finished => obtain ⟨_, rfl⟩ := h; exact Nat.le_refl _
theorem wp_hsize {M : Model} {α : Type} {Γ : Ctx} {Q : α → Pos → Shared → Prop} {E : Value → Pos → Shared → Prop} {n : Nat} (m : Sem α) : ∀ {p : Pos} {s : Shared}, n ≤ s.heap.objs.size →
    Sem.wp M Γ m Q E p s → Sem.wp M Γ m (fun a p' s' => n ≤ s'.heap.objs.size ∧ Q a p' s') E p s := by
  induction m with
  | pure a => exact fun hn h => ⟨hn, h⟩
  | raise e => exact fun _ h => h
  | unsupported | finish | yield | fork | await | register => exact fun _ h => h.elim
  | rule _ k ih | «at» _ k ih | loadIfAlive _ k ih | point _ k ih | fresh k ih | ask k ih | os _ _ k ih | handled _ k ih | newGen _ k ih | stack k ih | thread k ih => exact fun hn h => ih _ hn h
  | alloc o k ih => exact fun hn h => ih _ (by rw [Heap.size_push]; exact Nat.le_succ_of_le hn) h
  | load a _ k ih => exact fun hn ⟨o, ho, h⟩ => ⟨o, ho, ih _ hn h⟩
  | genState a k ih => exact fun hn ⟨o, ho, h⟩ => ⟨o, ho, ih _ hn h⟩
  | update a _ f k ih => exact fun hn ⟨ha, h⟩ => ⟨ha, ih _ (by rw [update_size]; exact hn) h⟩
  | choose _ _ k ih => exact fun hn ⟨ha, h⟩ => ⟨ha, ih _ hn h⟩
  | call c h g l k ih =>
    intro p s hn hq1_
    refine ex2_2 (hq1_) ?_
    clear hq1_
    intro r s' hr h
    exact ⟨r, s', hr, ih r (Nat.le_trans hn (runs_hsize hr)) h⟩
  | resume g r l k ih =>
    intro p s hn hq2_
    refine ex2_2 (hq2_) ?_
    clear hq2_
    intro res s' hw h
    exact ⟨res, s', hw, ih res (Nat.le_trans hn (wakes_hsize hw)) h⟩
theorem wpAny_hsize {M : Model} {α : Type} {A : Around} {m : Sem α} {Q : α → Shared → Prop} {E : Value → Shared → Prop} {s : Shared} (h : wpAny M A m Q E s) : wpAny M A m (fun a s' => s.heap.objs.size ≤ s'.heap.objs.size ∧ Q a s') E s :=
  fun Γ p hΓ => wp_hsize m (Nat.le_refl _) (h Γ p hΓ)

/-- a piece without generators, walked in the first model -/
theorem piece {w : World} {α : Type} {A : Around} {dp un : Nat} {m : Sem α} {R : α → Heap → Prop} {Q : α → Shared → Prop} {E : Value → Shared → Prop} {s : Shared}
    (h : wpAny (model PP w) (AA dp un) m (fun a s' => s'.gens = #[] ∧ s'.os = s.os ∧ R a s'.heap) (fun _ _ => False) (wG s #[]))
    (h1 : A.handled = none) (h2 : A.depth ≤ dp) (h3 : A.units ≤ un)
    (k : ∀ a s', s'.gens = s.gens → s'.os = s.os → s.heap.objs.size ≤ s'.heap.objs.size → R a s'.heap → Q a s') : wpAny (MM w) A m Q E s := by
  show wpAny (MM w) A m Q E (wG s s.gens)
  refine tr (weak (wpAny_mono (wpAny_hsize h) (fun a s' ⟨hz, hg, ho, hr⟩ => ⟨hg, ?_⟩) fun _ _ x => x.elim) h1 h2 h3)
  exact k a (wG s' s.gens) rfl ho hz hr

/-- all that stands in h beside hb and L -/
noncomputable def restOf (hb h : Heap) (L : Addr) : List (Addr × Obj) := (List.range h.objs.size).filterMap fun b =>
  if b = L then none else match hb.get? b with
    | some _ => none
    | none => (h.get? b).map (b, ·)
theorem rest_mem {hb h : Heap} {L b : Addr} {o : Obj} (e : h.get? b = some o) (hL : b ≠ L) (hn : hb.get? b = none) : (b, o) ∈ restOf hb h L := by
  unfold restOf
  refine List.mem_filterMap.mpr ⟨b, List.mem_range.mpr (Heap.lt_size e), ?_⟩
  rw [if_neg hL, hn, e]; rfl
theorem rest_news {hb h : Heap} {L : Addr} : News hb L h (restOf hb h L) := by
  intro hq3_
  obtain ⟨b, o⟩ := hq3_
  intro hp
  refine ex1_2 (List.mem_filterMap.mp hp) ?_
  intro b' _ e
  split at e
  · cases e
  · rename_i hL
    split at e
    · cases e
    · rename_i hn
      cases hh : h.get? b' with
      | none => rw [hh] at e; cases e
      | some o' => rw [hh] at e; cases e; exact ⟨hh, hL, hn⟩
theorem rest_kept {hb h h' : Heap} {L : Addr} {m : Str → Option Value} {news : List (Addr × Obj)} (F : Fr hb L h' m) (N : News hb L h' news) (hs : ∀ p ∈ restOf hb h L, p ∈ news) (hbase : ∀ b o, hb.get? b = some o → h.get? b = some o) :
    ∀ b o, b ≠ L → h.get? b = some o → h'.get? b = some o := by
  intro b o hL e
  cases hn : hb.get? b with
  | none => exact (N _ (hs _ (rest_mem e hL hn))).1
  | some o₂ =>
    have hh := hbase b o₂ hn
    rw [e] at hh
    cases hh
    exact F.keep b _ hn

section
variable {w : World} {A : Around} {c : Code} {fs : List Frame} {P : End → Shared → Prop} {s : Shared} {env : Env} {K : Flow → Sem Fin} {H : Value → Sem Fin}
theorem execs_append_wrap : ∀ (pre : List Stmt) {rest : List Stmt} (K : Flow → Sem Fin), (execs (pre ++ rest) env).wrap K H id id = (execs pre env).wrap (fun f => match f with | .next => (execs rest env).wrap K H id id | f => K f) H id id
  | [], rest, K => rfl
  | st :: pre, rest, K => by
    rw [List.cons_append, execs_cons_wrap, execs_cons_wrap]
    refine Sem.wrap_congr _ _ _ (fun f => ?_) (fun _ => rfl)
    cases f with
    | next => exact execs_append_wrap pre K
    | _ => rfl
theorem x_block {pre rest : List Stmt}
    (h : wpAny (MM w) (A.over c fs) (execs pre env) (fun f s' => match f with | .next => Sg (MM w) A c ((execs rest env).wrap K H id id) fs s' P | f => Sg (MM w) A c (K f) fs s' P) (fun _ _ => False) s) :
      Sg (MM w) A c ((execs (pre ++ rest) env).wrap K H id id) fs s P := by
  rw [execs_append_wrap]
  refine x_wrap (wpAny_mono h (fun f s' h' => ?_) fun _ _ x => x.elim)
  cases f <;> exact h'
end

/-- a generator-free piece of a generator's text, walked in the first model -/
noncomputable def Trip (w : World) (hb : Heap) (L : Addr) (dp un : Nat) {α : Type} (t : Sem α) (m : Str → Option Value) (extra : List (Addr × Obj)) (Φ : α → (Str → Option Value) → Heap → Prop) : Prop :=
  ∀ (s : Shared), s.gens = #[] → Fr hb L s.heap m → ∀ news, News hb L s.heap (extra ++ news) →
    wpAny (model PP w) (AA dp un) t (fun a s' => (s'.gens = #[] ∧ s'.os = s.os) ∧ ∃ m', Fr hb L s'.heap m' ∧ News hb L s'.heap (extra ++ news) ∧ Φ a m' s'.heap) (fun _ _ => False) s

section
variable {w : World} {hb : Heap} {L : Addr} {dp un : Nat} {α : Type} {t : Sem α} {m : Str → Option Value} {extra : List (Addr × Obj)} {Φ : α → (Str → Option Value) → Heap → Prop} {A : Around} {s : Shared} {Q : α → Shared → Prop} {E : Value → Shared → Prop}

theorem News.append {h₀ h : Heap} {a b : List (Addr × Obj)} (x : News h₀ L h a) (y : News h₀ L h b) : News h₀ L h (a ++ b) := fun p hp => by
  rcases List.mem_append.mp hp with q | q
  · exact x p q
  · exact y p q
theorem News.right {h₀ h : Heap} {a b : List (Addr × Obj)} (x : News h₀ L h (a ++ b)) : News h₀ L h b := fun p hp => x p (List.mem_append.mpr (.inr hp))
theorem News.left {h₀ h : Heap} {a b : List (Addr × Obj)} (x : News h₀ L h (a ++ b)) : News h₀ L h a := fun p hp => x p (List.mem_append.mpr (.inl hp))

theorem wp_trip (T : Trip w hb L dp un t m extra Φ) (F : Fr hb L s.heap m) (X : News hb L s.heap extra) (h1 : A.handled = none) (h2 : A.depth ≤ dp) (h3 : A.units ≤ un)
    (k : ∀ a m' s', Fr hb L s'.heap m' → News hb L s'.heap extra → Moves (fun b => b = L) (fun _ => False) s s' → s'.gens = s.gens → Φ a m' s'.heap → Q a s') : wpAny (MM w) A t Q E s := by
  refine piece (R := fun a h' => ∃ m', Fr hb L h' m' ∧ News hb L h' (extra ++ restOf hb s.heap L) ∧ Φ a m' h') (wpAny_mono (T (wG s #[]) rfl F (restOf hb s.heap L) (News.append X rest_news)) (fun a s' ⟨⟨hg, ho⟩, r⟩ => ⟨hg, ho, r⟩) fun _ _ x => x) h1 h2 h3 ?_
  intro a s' hg ho hz hq1_
  refine ex1_3 (hq1_) ?_
  clear hq1_
  intro m' F' N' hΦ
  exact k a m' s' F' (News.left N') ⟨fun b o hL e => rest_kept F' (News.right N') (fun _ q => q) F.keep b o hL e, hz, fun i x _ e => by rw [hg]; exact e, by rw [hg]; exact Nat.le_refl _, ho⟩ hg hΦ
end

theorem NewTup.base {h h' : Heap} {xs : List Int} {v : Value} {s : Shared} (x : NewTup h' xs v s) (k : ∀ b o, h.get? b = some o → h'.get? b = some o) : NewTup h xs v s := by
  refine ex2_3 (x) ?_
  clear x
  intro D vs hq2_ hD r
  obtain rfl := hq2_
  refine ⟨D, vs, rfl, ?_, r⟩
  cases e : h.get? D with
  | none => rfl
  | some o => rw [k _ _ e] at hD; cases hD

section
variable {w : World} {A : Around} {c : Code} {fs : List Frame} {P : End → Shared → Prop} {s : Shared} {env : Env} {K : Flow → Sem Fin} {H : Value → Sem Fin}
variable {hb : Heap} {L : Addr} {dp un : Nat} {m : Str → Option Value} {extra : List (Addr × Obj)}

theorem sg_block {pre rest : List Stmt} {Φ : Flow → (Str → Option Value) → Heap → Prop} (T : Trip w hb L dp un (execs pre env) m extra Φ) (F : Fr hb L s.heap m) (X : News hb L s.heap extra) (h1 : (A.over c fs).handled = none) (h2 : (A.over c fs).depth ≤ dp) (h3 : (A.over c fs).units ≤ un)
    (k : ∀ f m' s', Fr hb L s'.heap m' → News hb L s'.heap extra → Moves (fun b => b = L) (fun _ => False) s s' → s'.gens = s.gens → Φ f m' s'.heap →
      match f with | .next => Sg (MM w) A c ((execs rest env).wrap K H id id) fs s' P | f => Sg (MM w) A c (K f) fs s' P) :
    Sg (MM w) A c ((execs (pre ++ rest) env).wrap K H id id) fs s P :=
  x_block (wp_trip T F X h1 h2 h3 k)
theorem sg_If {test : Expr} {body orelse : List Stmt} {pos : Pos} {Φ : Bool → (Str → Option Value) → Heap → Prop} (T : Trip w hb L dp un (isTrue test env (eval test env)) m extra Φ) (F : Fr hb L s.heap m) (X : News hb L s.heap extra) (h1 : (A.over c fs).handled = none) (h2 : (A.over c fs).depth ≤ dp) (h3 : (A.over c fs).units ≤ un)
    (k : ∀ f m' s', Fr hb L s'.heap m' → News hb L s'.heap extra → Moves (fun b => b = L) (fun _ => False) s s' → s'.gens = s.gens → Φ f m' s'.heap →
      Sg (MM w) A c ((execs (if f = true then body else orelse) env).wrap K H id id) fs s' P) : Sg (MM w) A c ((exec (.If test body orelse pos) env).wrap K H id id) fs s P :=
  x_If (wp_trip T F X h1 h2 h3 k)
theorem sg_while {test : Expr} {body : List Stmt} {Φ : Bool → (Str → Option Value) → Heap → Prop} (T : Trip w hb L dp un (isTrue test env (eval test env)) m extra Φ) (F : Fr hb L s.heap m) (X : News hb L s.heap extra)
    (h1 : (A.over (.whileLoop test body [] env) fs).handled = none) (h2 : (A.over (.whileLoop test body [] env) fs).depth ≤ dp) (h3 : (A.over (.whileLoop test body [] env) fs).units ≤ un)
    (k : ∀ b m' s', Fr hb L s'.heap m' → News hb L s'.heap extra → Moves (fun b => b = L) (fun _ => False) s s' → s'.gens = s.gens → Φ b m' s'.heap →
      if b = true then ∀ H', Sg (MM w) A (.whileLoop test body [] env) ((execs body env).wrap (fun f => match f with
            | .next | .cont => .pure (.again (.whileLoop test body [] env))
            | .brk => .pure (.done .next)
            | .ret v => .pure (.done (.ret v))) H' id id) fs s' P
      else Sg (MM w) A (.whileLoop test body [] env) (.pure (.done .next)) fs s' P) :
    Sg (MM w) A (.whileLoop test body [] env) (denote table (.whileLoop test body [] env)) fs s P :=
  x_whileLoop (wp_trip T F X h1 h2 h3 k)
theorem sg_Yield {e : Expr} {ypos pos : Pos} {Φ : Value → (Str → Option Value) → Heap → Prop} (T : Trip w hb L dp un (eval e env) m extra Φ) (F : Fr hb L s.heap m) (X : News hb L s.heap extra) (h1 : (A.over c fs).handled = none) (h2 : (A.over c fs).depth ≤ dp) (h3 : (A.over c fs).units ≤ un)
    (hfs : splitAtGen fs = none) (hfg : fs.any Frame.guarded = false) (hco : env.scope.isCoroutine = false) (hi : interactive env = false)
    (k : ∀ v m' s', Fr hb L s'.heap m' → News hb L s'.heap extra → Moves (fun b => b = L) (fun _ => False) s s' → s'.gens = s.gens → Φ v m' s'.heap →
      ∀ (l : List Value) (k : Resume → Sem Fin) (p : Pos),
        (∀ (A' : Around) (s'' : Shared) (P' : End → Shared → Prop), Sg (MM w) A' c (K .next) fs s'' P' → Sg (MM w) A' c (k (.send .none)) fs s'' P') → P (.susp v false l k c p fs) s') :
    Sg (MM w) A c ((exec (.Expr (.Yield (some e) ypos) pos) env).wrap K H id id) fs s P :=
  x_Yield hfs hfg (wp_trip T F X h1 h2 h3 k) hco hi

theorem post_yield {xs : List (List Int)} {x : List Int} {own : Addr → Prop} {gown : Nat → Prop} {s₁ s' : Shared} {v : Value} {l : List Value} {kk : Resume → Sem Fin} {p : Pos}
    (hv : NewTup hb x v s') (Mv : Moves own gown s₁ s') (Td : Tidy gown gown s₁ s') (ho : ∀ b, own b → b < s'.heap.objs.size) (hg : ∀ i, gown i → i < s'.gens.size) (hap : ∀ D, v = .ref D → ¬ own D)
    (hk : ∀ s₂, Agree hb own gown s' s₂ → Sg (MM w) (AA dp un) c (kk (.send .none)) fs s₂ (Post w hb dp un xs own gown s₂)) :
    StepPost (Will w hb dp un xs) hb own gown s₁ x (.susp v false l kk c p fs) s' :=
  ⟨v, own, gown, rfl, hv, Mv, Td, fun b q => ⟨.inl q, ho b q⟩, hap, fun i q => ⟨.inl q, hg i q⟩, will_iff.mpr hk⟩

theorem Fr.agree {own : Addr → Prop} {gown : Nat → Prop} {s₂ : Shared} (F : Fr hb L s.heap m) (a : Agree hb own gown s s₂) (hL : own L) : Fr hb L s₂.heap m :=
  ⟨F.ns.at fun o e => a.heap L o hL e, a.base, F.above⟩
theorem Fr.tup_ne2 {D : Addr} {vs : List Value} (F : Fr hb L s.heap m) (h : s.heap.get? D = some (tupObj vs)) : D ≠ L := F.tup_ne (items := vs.toArray) ⟨_, h, rfl, _, rfl⟩
end

/-- a generator is born, and not yet begun -/
noncomputable def Born (w : World) (hb : Heap) (dp un : Nat) (xs : List (List Int)) (s : Shared) (v : Value) (s' : Shared) : Prop :=
  ∃ a g own gown, v = .ref a ∧ Live w hb dp un xs a g own gown s' ∧ Moves (fun _ => False) (fun _ => False) s s' ∧ Tidy (fun _ => False) (fun _ => False) s s' ∧ s.heap.objs.size ≤ a ∧ s.gens.size ≤ g ∧ (∀ b, own b → s.heap.objs.size ≤ b) ∧ ∀ i, gown i → s.gens.size ≤ i

theorem enterGen {w : World} {A : Around} {dp un : Nat} {s : Shared} {hb : Heap} {K : Frag} {name qual : Str} {params : Arguments} {body : List Stmt} {scope : Scope} {dV kV doc pm cdv ct oc : Value} {an od : Option Addr} {osl : Array (Option Value)} {f : Addr} {vals : List Value}
    {binds : List (Str × Value)} {xs : List (List Int)}
    (W : K.In hb) (lim : hb.NoLimit) (base : ∀ b o, hb.get? b = some o → s.heap.get? b = some o) (bsize : hb.objs.size ≤ s.heap.objs.size) (R : A.depth < recursionLimit)
    (ho : K.lookup f = some ⟨oc, od, .func (fnOf name qual params body scope dV kV doc pm an cdv ct), osl⟩) (hcd : codeIn K cdv qual = true)
    (hbind : BindsTo s (fnOf name qual params body scope dV kV doc pm an cdv ct) ⟨vals, []⟩ binds) (hloc : ∀ y ∈ binds, scope.names.lookup y.1 = some .local)
    (h : ∀ L s₁, Fr hb L s₁.heap (fun y => binds.reverse.lookup y) → Sg (MM w) (AA dp un) (.func body (envOf qual scope L f cdv)) (denote table (.func body (envOf qual scope L f cdv))) [] s₁ (Post w hb dp un xs (fun b => b = L) (fun _ => False) s₁))
    (hco : scope.isCoroutine = false) (hgen : scope.isGenerator = true) (hk : scope.kind = .function) (hcell : ∀ x ∈ scope.names, x.2 ≠ .cell) :
    wpAny (MM w) A (call (.ref f) vals) (fun v s' => Born w hb dp un xs s v s') (fun _ _ => False) s := by
  have X : K.In s.heap := W.keeps base
  refine wpAny_call (codeAny_call_gen2 (fd := fnOf name qual params body scope dV kV doc pm an cdv ct) (body := body) (binds := binds) R (X _ _ ho) rfl (lim.keeps base) (codeRec_of X hcd) rfl hbind hcell hloc (fun h₁ tk hns hk₁ hlt => ?_) hco hgen hk)
  have kp : ∀ (o : Obj) b x, s.heap.get? b = some x → (h₁.push o).get? b = some x := fun o b x e => Heap.get?_push_of_some _ (hk₁ b x e)
  refine ⟨h₁.objs.size, s.gens.size, (fun b => b = s.heap.objs.size), (fun _ => False), rfl, ⟨?_, ?_, ?_, ?_, ?_, ?_, ?_, ?_⟩, ⟨?_, ?_, ?_, ?_, rfl⟩, ?_, Nat.le_of_lt hlt, Nat.le_refl _, ?_, ?_⟩
  · exact ⟨_, _, _, Heap.get?_push_size _ rfl, rfl, rfl, .inl rfl⟩
  · exact fun q => absurd q (Nat.ne_of_gt hlt)
  · refine ⟨_, by rw [Array.getElem?_push_size], will_iff.mpr fun s₂ a => ?_⟩
    have F : Fr hb s.heap.objs.size s₂.heap (fun y => binds.reverse.lookup y) := ⟨(hns.push _).at fun o e => a.heap _ o rfl e, a.base, bsize⟩
    exact h _ s₂ F
  · exact fun q => q
  · rintro b rfl; show _ < (h₁.push _).objs.size; rw [Heap.size_push]; exact Nat.lt_succ_of_lt hlt
  · exact fun i q => q.elim
  · rintro b rfl
    cases e : hb.get? s.heap.objs.size with
    | none => rfl
    | some o => exact absurd (Heap.lt_size (base _ _ e)) (Nat.lt_irrefl _)
  · exact fun b o e => kp _ b o (base b o e)
  · exact fun b o _ e => kp _ b o e
  · show _ ≤ (h₁.push _).objs.size; rw [Heap.size_push]; exact Nat.le_succ_of_le (Nat.le_of_lt hlt)
  · intro i x _ e
    refine ex1_1 (Array.getElem?_eq_some_iff.mp e) ?_
    intro hlt _
    rw [Array.getElem?_push_lt hlt]; rw [← e, Array.getElem?_eq_getElem hlt]
  · simp
  · intro i x e hs
    by_cases hi : i < s.gens.size
    · rw [Array.getElem?_push_lt hi] at e
      exact .inl ⟨by rw [Array.getElem?_eq_getElem hi]; exact e, id⟩
    · by_cases hi' : i = s.gens.size
      · subst hi'
        rw [Array.getElem?_push_size] at e; cases e; exact hs.elim
      · rw [Array.getElem?_eq_none (by simp; (first | lia | omega))] at e; cases e
  · rintro b rfl; exact Nat.le_refl _
  · exact fun i q => q.elim

section
variable {M : Model} {it : Value}
/-- a run goes on from a step -/
theorem step_off {Γ : Ctx} {fs : List Frame} {Φ : End → Shared → Prop} {t u : Sem Fin} {p q : Pos} {s r : Shared} (h : ∃ e s', Runs M Γ q u fs r e s' ∧ Φ e s') (f : ∀ e s', Runs M Γ q u fs r e s' → Runs M Γ p t fs s e s') :
    ∃ e s', Runs M Γ p t fs s e s' ∧ Φ e s' :=
  h.elim fun e h => h.elim fun s' h => ⟨e, s', f e s' h.1, h.2⟩
theorem runs_off {α : Type} {Γ : Ctx} {fs : List Frame} {Φ : End → Shared → Prop} (K : α → Sem Fin) (H : Value → Sem Fin) (m : Sem α) :
    ∀ {Q : α → Pos → Shared → Prop} {E : Value → Pos → Shared → Prop} {p : Pos} {s : Shared}, Sem.wp M (Γ.over fs) m Q E p s →
      (∀ a p' s', Q a p' s' → ∃ e s'', Runs M Γ p' (offG it (K a)) fs s' e s'' ∧ Φ e s'') →
      (∀ x p' s', E x p' s' → ∃ e s'', Runs M Γ p' (offG it (H x)) fs s' e s'' ∧ Φ e s'') →
      ∃ e s'', Runs M Γ p (offG it (m.wrap K H id id)) fs s e s'' ∧ Φ e s'' := by
  induction m <;> intro Q E p s h hQ hE
  case pure => exact hQ _ _ _ h
  case raise => exact hE _ _ _ h
  case call ih =>
    refine h.elim fun r h => h.elim fun s₁ h => ?_
    exact step_off (ih r h.2 hQ hE) fun _ _ x => Runs.head' (fun _ _ y => .call h.1 y) x
  case resume ih =>
    refine h.elim fun r h => h.elim fun s₁ h => ?_
    exact step_off (ih r h.2 hQ hE) fun _ _ x => Runs.head' (fun _ _ y => (Sem.runs_resume_iff M _).mpr ⟨r, s₁, h.1, y⟩) x
  case load ih => exact h.elim fun o h => step_off (ih o h.2 hQ hE) fun _ _ x => Runs.head' (fun _ _ y => .load h.1 y) x
  case genState ih => exact h.elim fun o h => step_off (ih _ h.2 hQ hE) fun _ _ x => Runs.head' (fun _ _ y => .genState h.1 y) x
  case update ih => exact step_off (ih _ h.2 hQ hE) fun _ _ x => Runs.head' (fun _ _ y => .update h.1 y) x
  case choose ih => exact step_off (ih _ h.2 hQ hE) fun _ _ x => Runs.head' (fun _ _ y => .choose h.1 y) x
  all_goals first
    | exact h.elim
    | (rename_i ih; exact step_off (ih _ h hQ hE) fun _ _ x => Runs.head' (fun _ _ y => by constructor; exact y) x)

variable {A : Around} {c : Code} {fs : List Frame} {P : End → Shared → Prop} {s : Shared}
theorem x_off {α : Type} {m : Sem α} {K : α → Sem Fin}
    (h : wpAny M (A.over c fs) m (fun a s' => Sg M A c (offG it (K a)) fs s' P) (fun _ _ => False) s) : Sg M A c (offG it (m >>= K)) fs s P := by
  rw [Sem.bind_eq_wrap']
  rintro Γ p rfl hΓ
  refine ex2_2 (runs_off (it := it) (Φ := fun e s' => e.quiet = true ∧ P e s') K .raise m (h (Γ.over fs) p (hΓ.over fs)) (fun a p' s' h' => h' Γ p' rfl hΓ) (fun x p' s' h' => h'.elim)) ?_
  intro e s' hr hq
  exact ⟨e, s', hr, hq⟩
theorem x_off_yield {a : Addr} {o : Obj} {v : Value} {l : List Value} {k : Resume → Sem Fin} (ho : s.heap.get? a = some o) (hn : okGen (some o) = true) (hfs : splitAtGen fs = none) (hfg : fs.any Frame.guarded = false)
    (h : ∀ p, P (.susp v false l (fun x => offG (.ref a) (k x)) c p fs) s) : Sg M A c (offG (.ref a) (.yield v true l k)) fs s P := by
  intro Γ p hc hΓ
  refine ex2_2 (x_yield (M := M) (A := A) (c := c) (v := v) (l := l) (k := fun x => offG (.ref a) (k x)) (s := s) hfs hfg h Γ p hc hΓ) ?_
  intro e s' hr hq
  refine ⟨e, s', ?_, hq⟩
  show Runs M Γ p (.loadIfAlive a fun o => if okGen o then .yield v false l (fun x => offG (.ref a) (k x)) else .unsupported "off") fs s e s'
  refine Runs.head' (fun _ _ x => .loadIfAlive ?_) hr
  rw [show s.heap.get? a = some o from ho, if_pos hn]
  exact x
end

theorem entry_yf : entryFor table "proto.yield_from" = some Builtin.«proto.yield_from» := entryFor_of_tree (by kernel_rfl)
theorem close_gen : typeLookup (.type "generator") (Str.ofString "close") = pure (some (.builtin "generator.close")) := by rw [typeLookup_type, builtinLookup_eq_fast]; kernel_rfl
theorem denote_builtin {id : String} {b : Builtin} (h : entryFor table id = some b) (args : Args) : denote table (.builtin id args) = b args := by
  show (match entryFor table id with | some b => b args | none => unsupported ((withoutEnding? id "#data").getD id)) = _
  rw [h]
theorem yf_tree (args : Args) (it : Value) (rest : List Value) (h : args.pos = it :: rest) : den2 (.builtin "proto.yield_from" args) = offG it (Builtin.«proto.yield_from» args) := by
  unfold den2 isYF
  simp only [if_true, h, List.headD_cons, denote_builtin entry_yf]

theorem Moves.step {o o' : Addr → Prop} {g g' : Nat → Prop} {a b c : Shared} (x : Moves o g a b) (y : Moves o' g' b c) (ho : ∀ d, o' d → o d ∨ a.heap.objs.size ≤ d) (hg : ∀ i, g' i → g i ∨ a.gens.size ≤ i) : Moves o g a c :=
  ⟨fun d v hd e => y.heap d v (fun q => (ho d q).elim hd fun z => absurd (Heap.lt_size e) (Nat.not_lt.mpr z)) (x.heap d v hd e), Nat.le_trans x.hsize y.hsize,
    fun i v hi e => y.gens i v (fun q => (hg i q).elim hi fun z => absurd (Array.getElem?_eq_some_iff.mp e).1 (Nat.not_lt.mpr z)) (x.gens i v hi e), Nat.le_trans x.gsize y.gsize, y.os.trans x.os⟩

theorem okGen_of {o : Obj} {g : Nat} {nm qn : Value} (hc : o.cls = .type "generator") (hd : o.data = .fields #[.int g 0, nm, qn]) : okGen (some o) = true := by
  cases o; simp only at hc hd; subst hc; subst hd; rfl

theorem slept {M : Model} {A : Around} {E : Value → Shared → Prop} {s : Shared} {a : Addr} {o : Obj} {more : Bool} {n : Int} {Q : Unit → Shared → Prop} (ho : s.heap.get? a = some o) (hc : o.cls = .type "generator")
    (hn : (match (o.slots[0]? : Option (Option Value)) with | some (some (Value.int n _)) => n | _ => 0) = n)
    (h : Q () { s with heap := s.heap.update a fun o => { o with slots := (o.slots ++ Array.replicate (0 + 1 - o.slots.size) none).setIfInBounds 0 (some (rawInt (if more then n + 1 else n - 1))) } }) : wpAny M A (Builtin.Generator.sleptOver (.ref a) more) Q E s := by
  unfold Builtin.Generator.sleptOver
  refine wpAny_bind (wpAny_load ho ?_)
  simp only [hc]
  subst hn
  exact wpAny_updatePart ho h

theorem slept2 {M : Model} {A : Around} {E : Value → Shared → Prop} {s : Shared} {a : Addr} {o : Obj} {more : Bool} {g : Nat} {nm qn : Value} {n : Int} {Q : Unit → Shared → Prop} (ho : s.heap.get? a = some o) (hc : o.cls = .type "generator") (hd : o.data = .fields #[.int g 0, nm, qn])
    (hs : (o.slots = #[] ∧ n = 0) ∨ o.slots = #[some (.int n 0)])
    (h : ∀ h', h'.get? a = some { o with slots := #[some (.int (if more then n + 1 else n - 1) 0)] } → Heap.SameBut a s.heap h' → Q () { s with heap := h' }) : wpAny M A (Builtin.Generator.sleptOver (.ref a) more) Q E s := by
  refine slept (n := n) ho hc (by rcases hs with ⟨q, rfl⟩ | q <;> rw [q] <;> rfl) (h _ ?_ (Heap.SameBut.update ..))
  rw [Heap.get?_update_self _ ho (by simp only [Obj.isFreed, hd])]
  congr 2
  rcases hs with ⟨q, rfl⟩ | q <;> rw [q] <;> rfl

theorem MM_den (w : World) (c : Code) : (MM w).den c = den2 c := rfl
theorem tup_not_gen {vs : List Value} : ¬ (tupObj vs).cls = .type "generator" := by simp

theorem stop_value {M : Model} {A : Around} {E : Value → Shared → Prop} {s : Shared} {e : Value} {Q : Bool → Shared → Prop} (he : StopObj s.heap e) (h : Q true s) : wpAny M A (Builtin.Generator.endsTheTurnAsAValue false e) Q E s := by
  refine ex3_5 (he) ?_
  clear he
  intro a o vs hq1_ ho hc hd hv
  obtain rfl := hq1_
  unfold Builtin.Generator.endsTheTurnAsAValue Builtin.Generator.isStopAndMetaclass
  refine wpAny_bind (wpAny_bind (wpAny_typeOf (T := "StopIteration") ⟨o, ho, hc⟩ ?_))
  show wpAny _ _ (isSubtype (.type "StopIteration") (.type "StopIteration") >>= _) _ _ _
  rw [isSubtype_stop]
  refine wpAny_bind (wpAny_pure (wpAny_bind (m := typeOf (.type "StopIteration")) (wpAny_of_eq rfl (wpAny_pure ?_))))
  exact wpAny_pure h

section
variable {w : World} {hb : Heap} {dp un dpi uni n u : Nat} {k : Result → Sem Fin} {l : List Value} {c₀ : Code} {p₀ : Pos} {kp : List Value}

noncomputable def YF (w : World) (hb : Heap) (dp un dpi uni : Nat) (k : Result → Sem Fin) (l : List Value) (c₀ : Code) (p₀ : Pos) (kp : List Value) (xs : List (List Int)) : Prop :=
    ∀ (a : Addr) (g : Nat) (own : Addr → Prop) (gown : Nat → Prop) (ownD : Addr → Prop) (gownD : Nat → Prop) (s₁ s : Shared), Live w hb dpi uni xs a g own gown s → hb.get? a = none →
      Moves ownD gownD s₁ s → Tidy gownD (fun i => gown i ∨ i = g) s₁ s → (∀ b, own b ∨ b = a → ownD b ∨ s₁.heap.objs.size ≤ b) → (∀ i, gown i ∨ i = g → gownD i ∨ s₁.gens.size ≤ i) →
      Sg (MM w) (AA dp un) (.builtin "proto.yield_from" ⟨[.ref a, .bool false, .none], []⟩) (den2 (.builtin "proto.yield_from" ⟨[.ref a, .bool false, .none], []⟩)) [.ret k none false l c₀ p₀ kp] s (Post w hb dp un xs ownD gownD s₁)
theorem yf_loop (lim : hb.NoLimit) (Lw : Low [.ret k none false l c₀ p₀ kp] n u) (hd : dp + n + 2 ≤ dpi) (hu : un + u + 10 ≤ uni) (hr : dpi < recursionLimit)
    (hend : ∀ (ownD : Addr → Prop) (gownD : Nat → Prop) s₁ s', Moves ownD gownD s₁ s' → Tidy gownD (fun _ => False) s₁ s' → Sg (MM w) (AA dp un) c₀ (k (.ok (.ret .none))) [] s' (DonePost ownD gownD s₁)) :
    ∀ xs : List (List Int), YF w hb dp un dpi uni k l c₀ p₀ kp xs := by
    have one : ∀ xs : List (List Int), (∀ x ys, xs = x :: ys → YF w hb dp un dpi uni k l c₀ p₀ kp ys) → YF w hb dp un dpi uni k l c₀ p₀ kp xs := by
      intro xs hrec a g own gown ownD gownD s₁ s L ha Mv Td hO hG
      rw [yf_tree _ (.ref a) [.bool false, .none] rfl]
      unfold Builtin.«proto.yield_from»
      show Sg _ _ _ (offG _ ((pure Value.none : Sem Value) >>= _)) _ _ _
      refine x_off (wpAny_pure ?_)
      have W1 : ((AA dp un).over (.builtin "proto.yield_from" ⟨[.ref a, .bool false, .none], []⟩) [.ret k none false l c₀ p₀ kp]).depth ≤ dpi := by
        show dp + frameCount ([Frame.ret k none false l c₀ p₀ kp].map Frame.where_) + Code.weight (.builtin "proto.yield_from" ⟨[.ref a, .bool false, .none], []⟩) ≤ _
        have := Lw.count
        have : Code.weight (.builtin "proto.yield_from" ⟨[.ref a, .bool false, .none], []⟩) ≤ 2 := Nat.le_of_ble_eq_true rfl
        (first | lia | omega)
      have W2 : ((AA dp un).over (.builtin "proto.yield_from" ⟨[.ref a, .bool false, .none], []⟩) [.ret k none false l c₀ p₀ kp]).units + 1 ≤ uni := by
        show un + unitsOf ([Frame.ret k none false l c₀ p₀ kp].map Frame.where_) + Code.cUnits (.builtin "proto.yield_from" ⟨[.ref a, .bool false, .none], []⟩) + 1 ≤ _
        have := Lw.units
        have : Code.cUnits (.builtin "proto.yield_from" ⟨[.ref a, .bool false, .none], []⟩) ≤ 7 := Nat.le_of_ble_eq_true rfl
        (first | lia | omega)
      cases xs with
      | nil =>
        refine x_off (wpAny_attempt (wpAny_holding (wpAny_bind (wpAny_rule (wpAny_bind (spec_end L lim (Lw.mark _ rfl) W1 W2 (by (first | lia | omega)) fun e s₂ M₂ T₂ hb₂ hst => ?_))))))
        refine x_off (stop_value hst ?_)
        refine x_off (wpAny_rule ?_)
        refine ex3_5 (hst) ?_
        clear hst
        intro d o vs hq2_ ho hc hd' hv
        obtain rfl := hq2_
        refine x_off (wpAny_field ho hd' hv ?_)
        refine x_pop (.ok (.ret .none)) ?_
        exact hend _ _ _ _ (Mv.step M₂ (fun b q => hO b (.inl q)) hG) (Td.trans T₂)
      | cons x xs =>
        refine x_off (wpAny_attempt (wpAny_holding (wpAny_bind (wpAny_rule (wpAny_bind (spec_row L lim (Lw.mark _ rfl) W1 W2 (by (first | lia | omega)) fun v s₂ own' gown' T => wpAny_pure ?_))))))
        refine ex3_4 (T.live.obj) ?_
        intro o nm qn ho hc hd' hsl
        refine x_off (wpAny_typeOf (T := "generator") ⟨o, ho, hc⟩ ?_)
        dsimp only
        rw [close_gen]
        refine x_off (wpAny_pure ?_)
        refine x_off (wpAny_pure ?_)
        refine x_off (slept2 (n := 0) ho hc hd' (hsl.elim (fun q => .inl ⟨q, rfl⟩) .inr) fun h₃ ho₃ hu₃ => ?_)
        show Sg _ _ _ (offG (.ref a) (.yield v true [] _)) _ _ _
        refine x_off_yield ho₃ (okGen_of hc hd') Lw.split Lw.guard fun p => ?_
        have hla : a < s₂.heap.objs.size := Heap.lt_size ho
        have hn' : ∀ b, own' b → b ≠ a := fun b q e => T.live.anew (e ▸ q)
        refine ⟨v, (fun b => own' b ∨ b = a), (fun i => gown' i ∨ i = g), rfl, ?_, ?_, ?_, ?_, ?_, ?_, ?_⟩
        · refine ex2_4 (T.tup) ?_
          intro D vs hq3_ hD hD' hI
          obtain rfl := hq3_
          refine ⟨D, vs, rfl, hD, ?_, hI⟩
          rw [hu₃.2 D (fun e => by subst e; rw [ho] at hD'; cases hD'; exact tup_not_gen hc)]; exact hD'
        · have m1 := Mv.step T.moves (fun b q => hO b (.inl q)) hG
          refine m1.step (o' := fun b => b = a) (g' := fun _ => False) ⟨fun b o q e => by rw [hu₃.2 b q]; exact e, Nat.le_of_eq hu₃.1.symm, fun i x _ e => e, Nat.le_refl _, rfl⟩ (fun b q => hO b (.inr q)) fun i q => q.elim
        · exact (Td.trans T.tidy).same rfl
        · rintro b (q | q)
          · refine ⟨?_, by rw [show ({ s₂ with heap := h₃ } : Shared).heap.objs.size = s₂.heap.objs.size from hu₃.1]; exact T.live.oub b q⟩
            rcases T.own b q with q | q
            · exact hO b (.inl q)
            · exact .inr (Nat.le_trans Mv.hsize q)
          · exact ⟨hO b (.inr q), by rw [show ({ s₂ with heap := h₃ } : Shared).heap.objs.size = s₂.heap.objs.size from hu₃.1, q]; exact hla⟩
        · rintro D rfl (q | q)
          · exact T.apart D rfl q
          · refine ex2_4 (T.tup) ?_
            intro D' vs e hD hD' hI
            cases e; subst q
            rw [ho] at hD'; cases hD'; exact tup_not_gen hc
        · rintro i (q | q)
          · refine ⟨?_, T.live.gub i q⟩
            rcases T.gown i q with q | q
            · exact hG i (.inl q)
            · exact .inr (Nat.le_trans Mv.gsize q)
          · exact ⟨hG i (.inr q), by rw [q]; exact T.live.lt⟩
        · refine will_iff.mpr fun s₄ ag => ?_
          show Sg _ _ _ (offG (.ref a) ((pure (Resume.send .none) : Sem Resume) >>= _)) _ _ _
          refine x_off (wpAny_pure ?_)
          have ho₄ := ag.heap a _ (.inr rfl) ho₃
          refine x_off (slept2 (n := 1) ho₄ hc hd' (.inr rfl) fun h₅ ho₅ hu₅ => ?_)
          dsimp only
          refine x_off (wpAny_of_eq (a := Value.none) rfl ?_)
          refine x_again (plainId_quiet (by decide +kernel) _) ?_
          have L₅ : Live w hb dpi uni xs a g own' gown' { s₄ with heap := h₅ } := by
            refine T.live.frame ⟨_, nm, qn, ho₅, hc, hd', .inr rfl⟩ ?_ ?_ ?_ ?_ ?_
            · intro b o' e
              show h₅.get? b = _
              rw [hu₅.2 b (fun q => by rw [q, ha] at e; cases e)]; exact ag.base b o' e
            · intro b o' q e
              show h₅.get? b = _
              rw [hu₅.2 b (hn' b q)]
              exact ag.heap b o' (.inl q) (by show h₃.get? b = _; rw [hu₃.2 b (hn' b q)]; exact e)
            · exact fun i z q e => ag.gens i z q e
            · show s₂.heap.objs.size ≤ h₅.objs.size
              have z := ag.hsize
              rw [show ({ s₂ with heap := h₃ } : Shared).heap.objs.size = s₂.heap.objs.size from hu₃.1] at z
              rw [hu₅.1]; exact z
            · exact ag.gsize
          have M₅ : Moves (fun b => own' b ∨ b = a) (fun i => gown' i ∨ i = g) s₄ { s₄ with heap := h₅ } := by
            refine ⟨?_, ?_, ?_, ?_, ?_⟩
            · intro b o' q e
              show h₅.get? b = _
              rw [hu₅.2 b (fun z => q (.inr z))]; exact e
            · show _ ≤ h₅.objs.size
              rw [hu₅.1]; exact Nat.le_refl _
            · exact fun i x _ e => e
            · exact Nat.le_refl _
            · rfl
          have T₅ : Tidy (fun i => gown' i ∨ i = g) (fun i => gown' i ∨ i = g) s₄ { s₄ with heap := h₅ } := Tidy.same (Tidy.refl _) rfl
          have IH := hrec x xs rfl a g own' gown' _ _ s₄ _ L₅ ha M₅ T₅ (fun b q => .inl q) (fun i q => .inl q)
          rw [MM_den]
          exact IH
    intro xs
    induction xs with
    | nil => exact one [] fun _ _ h => by cases h
    | cons x ys ih => exact one _ fun _ _ h => by cases h; exact ih
end

theorem pyIter2 {w : World} {A : Around} {E : Value → Shared → Prop} {s : Shared} {a : Addr} {g : Nat} {Q : Value → Shared → Prop} (hg : GenObj s.heap a g) (h : Q (.ref a) s) : wpAny (MM w) A (pyIter (.ref a)) Q E s := by
  refine wpAny_pyIter_slot hg.typeIs slot_gen_iter (wpAny_call_entry2 slot_gen_iter hg.typeIs (by decide) entry_gen_iter ?_ (args_gen_iter _))
  show wpAny _ _ (ret (.ref a)) _ _ s
  exact wpAny_pure ⟨_, rfl, "generator", _, hg.typeIs, slot_gen_next.lookup, h⟩

section
variable {w : World} {A : Around} {c : Code} {fs : List Frame} {P : End → Shared → Prop} {s : Shared} {env : Env} {K : Flow → Sem Fin} {H : Value → Sem Fin}
theorem x_YieldFrom {e : Expr} {ypos pos : Pos}
    (h : wpAny (MM w) (A.over c fs) (eval e env) (fun v s₁ => ∃ a g, v = .ref a ∧ GenObj s₁.heap a g ∧ ∀ (k : Result → Sem Fin), (∀ (A' : Around) (s'' : Shared) (P' : End → Shared → Prop), Sg (MM w) A' c (K .next) fs s'' P' → Sg (MM w) A' c (k (.ok (.ret .none))) fs s'' P') →
      ∀ l p, Sg (MM w) A (.builtin "proto.yield_from" ⟨[.ref a, .bool false, .none], []⟩) (den2 (.builtin "proto.yield_from" ⟨[.ref a, .bool false, .none], []⟩)) (.ret k none false l c p [] :: fs) s₁ P) (fun _ _ => False) s)
    (hi : interactive env = false) :
    Sg (MM w) A c ((exec (.Expr (.YieldFrom e ypos) pos) env).wrap K H id id) fs s P := by
  rw [exec_Expr env _ pos hi rfl]
  show Sg (MM w) A c (.at pos fun _ => ((eval e env >>= fun v => (standAt ypos >>= fun _ => yieldFrom env v)) >>= fun x =>
    dropValue (.YieldFrom e ypos) pos x).wrap K H id id) fs s P
  refine x_at ?_
  rw [Sem.bind_eq_wrap', Sem.bind_eq_wrap', Sem.wrap_wrap, Sem.wrap_wrap]
  refine x_wrap (wpAny_mono h (fun v s' h' => ?_) fun _ _ x => x.elim)
  refine ex2_3 (h') ?_
  clear h'
  intro a g hq1_ hg hk
  obtain rfl := hq1_
  refine x_at ?_
  show Sg (MM w) A c (Sem.wrap _ _ _ _ (yieldFrom env (.ref a))) fs s' P
  unfold yieldFrom
  rw [Sem.bind_eq_wrap', Sem.wrap_wrap]
  refine x_wrap (wpAny_typeOf hg.typeIs ?_)
  show Sg (MM w) A c (Sem.wrap _ _ _ _ ((holding [.ref a] (pyIter (.ref a))) >>= _)) fs s' P
  rw [Sem.bind_eq_wrap', Sem.wrap_wrap]
  refine x_wrap (wpAny_holding (pyIter2 hg ?_))
  refine x_call fun p => ?_
  rw [MM_den]
  exact hk _ (fun A' s'' P' hs => hs) _ p
end

/-- what a generator's frame owns -/
noncomputable def ownOf (L : Addr) (extra : List (Addr × Obj)) : Addr → Prop := fun b => b = L ∨ b ∈ extra.map (·.1)

section
variable {hb : Heap} {L : Addr} {m : Str → Option Value} {extra : List (Addr × Obj)}
theorem ownOf.lt {h : Heap} {b : Addr} (F : Fr hb L h m) (N : News hb L h extra) (q : ownOf L extra b) : b < h.objs.size := by
  rcases q with rfl | q
  · exact F.ns.lt
  · refine ex1_2 (List.mem_map.mp q) ?_
    intro p q2 hq1_
    obtain rfl := hq1_
    exact Heap.lt_size (N _ q2).1
theorem ownOf.none {h : Heap} {b : Addr} (F : Fr hb L h m) (N : News hb L h extra) (q : ownOf L extra b) : hb.get? b = none := by
  rcases q with rfl | q
  · cases e : hb.get? b with
    | none => rfl
    | some o => exact absurd (Heap.lt_size e) (Nat.not_lt.mpr F.above)
  · refine ex1_2 (List.mem_map.mp q) ?_
    intro p q2 hq2_
    obtain rfl := hq2_
    exact (N _ q2).2.2
theorem News.agree {own : Addr → Prop} {gown : Nat → Prop} {s s₂ : Shared} (N : News hb L s.heap extra) (a : Agree hb own gown s s₂) (hx : ∀ p ∈ extra, own p.1) : News hb L s₂.heap extra :=
  fun p hp => ⟨a.heap _ _ (hx p hp) (N p hp).1, (N p hp).2⟩
theorem moves_L {own : Addr → Prop} {gown : Nat → Prop} {a b c : Shared} (x : Moves own gown a b) (y : Moves (fun b => b = L) (fun _ => False) b c) (h : own L) : Moves own gown a c :=
  x.trans (y.mono (fun _ q => q ▸ h) fun _ q => q.elim)
end

theorem Tidy.right {g g' g'' : Nat → Prop} {a b : Shared} (x : Tidy g g' a b) (h : ∀ i, g' i → g'' i) : Tidy g g'' a b := fun i v e q => (x i v e q).elim .inl fun z => .inr (h i z)

theorem sg_maybe2 {w : World} {hb : Heap} {L : Addr} {dp un dp' un' : Nat} {c : Code} {fs : List Frame} {env : Env} {K : Flow → Sem Fin} {H : Value → Sem Fin} {m : Str → Option Value} {extra : List (Addr × Obj)} {s₁ s : Shared} {test e : Expr} {ypos pos pos' : Pos} {q : Prop} [Decidable q] {x : List Int} {xs : List (List Int)}
    (T₁ : Trip w hb L dp' un' (isTrue test env (eval test env)) m extra (fun f m' _ => f = decide q ∧ m' = m))
    (T₂ : q → Trip w hb L dp' un' (eval e env) m extra (fun v m' h => (∃ D vs, v = .ref D ∧ hb.get? D = none ∧ h.get? D = some (tupObj vs) ∧ IntsAre vs x ∧ D ∉ extra.map (·.1)) ∧ m' = m))
    (F : Fr hb L s.heap m) (N : News hb L s.heap extra) (M : Moves (ownOf L extra) (fun _ => False) s₁ s) (T : Tidy (fun _ => False) (fun _ => False) s₁ s)
    (h1 : ((AA dp un).over c fs).handled = none) (h2 : ((AA dp un).over c fs).depth ≤ dp') (h3 : ((AA dp un).over c fs).units ≤ un')
    (hfs : splitAtGen fs = none) (hfg : fs.any Frame.guarded = false) (hco : env.scope.isCoroutine = false) (hi : interactive env = false)
    (hK : ∀ s₁ s, Fr hb L s.heap m → News hb L s.heap extra → Moves (ownOf L extra) (fun _ => False) s₁ s → Tidy (fun _ => False) (fun _ => False) s₁ s → Sg (MM w) (AA dp un) c (K .next) fs s (Post w hb dp un xs (ownOf L extra) (fun _ => False) s₁)) :
    Sg (MM w) (AA dp un) c ((exec (.If test [.Expr (.Yield (some e) ypos) pos'] [] pos) env).wrap K H id id) fs s (Post w hb dp un ((if q then [x] else []) ++ xs) (ownOf L extra) (fun _ => False) s₁) := by
  refine sg_If T₁ F N h1 h2 h3 ?_
  intro f m' s₂ F₂ N₂ M₂ G₂ hq3_
  refine ex0_2 (hq3_) ?_
  clear hq3_
  intro hq4_ hq5_
  obtain rfl := hq4_
  obtain rfl := hq5_
  by_cases hq : q
  · rw [if_pos (by simpa using hq), if_pos hq]
    refine x_cons ?_
    refine sg_Yield (T₂ hq) F₂ N₂ h1 h2 h3 hfs hfg hco hi ?_
    intro v m'' s₄ F₄ N₄ M₄ G₄ hq6_
    refine ex0_2 (hq6_) ?_
    clear hq6_
    intro hq7_ hq8_
    refine ex2_5 (hq7_) ?_
    clear hq7_
    intro D vs hq9_ hD hD' hI hap
    obtain rfl := hq9_
    obtain rfl := hq8_
    intro l kk pp hkk
    refine post_yield ⟨D, vs, rfl, hD, hD', hI⟩ (moves_L (moves_L M M₂ (.inl rfl)) M₄ (.inl rfl)) ((T.same G₂).same G₄) (fun b e => e.lt F₄ N₄) (fun i q => q.elim) (fun D' e => by
      cases e
      rintro (q | q)
      · exact Fr.tup_ne2 F₄ hD' q
      · exact hap q) fun s₅ ag => ?_
    exact hkk _ _ _ (x_nil (hK s₅ s₅ (Fr.agree F₄ ag (.inl rfl)) (News.agree N₄ ag fun p hp => .inr (List.mem_map_of_mem hp)) (Moves.refl _) (Tidy.refl _)))
  · rw [if_neg (by simpa using hq), if_neg hq]
    exact x_nil (hK s₁ s₂ F₂ N₂ (moves_L M M₂ (.inl rfl)) (T.same G₂))

section
variable {w : World} {A : Around} {s s' : Shared} {R : Result → Shared → Prop}
theorem codeAny_call_gen4 {a : Addr} {o : Obj} {fd : FuncData} {body : List Stmt} {args : Args} {binds : List (Str × Value)}
    (hroom : A.depth < recursionLimit) (ho : s.heap.get? a = some o) (hdata : o.data = .func fd) (hlim : s'.heap.NoLimit) (hcd : s.heap.CodeRec fd.code fd.qualname)
    (hbody : fd.body = .stmts body) (hbind : ∀ (M : Model) (A : Around) (E : Value → Shared → Prop) (Q : List (Str × Value) → Shared → Prop), Q binds s' → wpAny M A (bindArgs fd args) Q E s) (hclo : fd.closure = [])
    (hkind : ∀ x ∈ binds, fd.scope.names.lookup x.1 = some .local ∨ (fd.scope.names.lookup x.1 = some .cell ∧ ((cellsFrom (s'.heap.objs.size + 1) fd.scope.names []).lookup x.1).isSome = true))
    (h : ∀ (s₁ : Shared) (tk : Nat) nm qn, InCallC s' (callEnvC fd s'.heap.objs.size a).locals (bindL (callEnvC fd s'.heap.objs.size a).kindOf binds fun _ => none) (callEnvC fd s'.heap.objs.size a).cells
        (bindC (callEnvC fd s'.heap.objs.size a).kindOf binds fun _ => none) s₁ →
      R (.ok (.ret (.ref s₁.heap.objs.size))) { s₁ with gens := s₁.gens.push (.fresh (.func body (callEnvC fd s'.heap.objs.size a))), toks := tk, heap := s₁.heap.push { cls := .type "generator", data := .fields #[.int s₁.gens.size 0, nm, qn] } })
    (hco : fd.scope.isCoroutine = false) (hgen : fd.scope.isGenerator = true) (hk : fd.scope.kind = .function) :
    codeAny (MM w) A (.call (.ref a) args) R s := by
  refine codeAny_of_tree ?_
  show wpAny _ A.in1 (callAny (.ref a) args) _ _ s
  simp only [callAny]
  refine wpAny_bind (wpAny_load ho ?_)
  refine ex4_4 (hcd) ?_
  clear hcd
  intro c oc vs tq hc hoc hdc hq
  simp only [hdata, callFunction, hco, hgen, hbody, hc]
  refine wpAny_bind (m := field (.ref c) 1) (wpAny_field hoc hdc hq (wpAny_bind (wpAny_pure ?_)))
  rw [← hc]
  refine wpAny_bind (hbind _ _ _ _ ?_)
  rw [hclo]
  refine wpAny_bind (wpAny_newFunctionEnv_cells hk hkind fun env he s₁ x => ?_)
  subst he
  refine wpAny_bind (wpAny_enterFrame (hlim.keeps x.toInCall.keep) hroom ?_)
  simp only [newGenerator, newFields]
  refine wpAny_bind (wpAny_bind (wpAny_newGen (wpAny_bind (wpAny_mkText (wpAny_bind (wpAny_mkText (wpAny_newObj_type (wpAny_pure ?_) (by size_fits))))))))
  exact h s₁ _ _ _ x
end

theorem enterGenC {w : World} {A : Around} {dp un : Nat} {s : Shared} {hb : Heap} {K : Frag} {name qual : Str} {params : Arguments} {body : List Stmt} {scope : Scope} {dV kV doc pm cdv ct oc : Value} {an od : Option Addr} {osl : Array (Option Value)} {f : Addr} {vals vs : List Value}
    {binds : List (Str × Value)} {xs : List (List Int)} {cx : Str}
    (W : K.In hb) (lim : hb.NoLimit) (base : ∀ b o, hb.get? b = some o → s.heap.get? b = some o) (bsize : hb.objs.size ≤ s.heap.objs.size) (R : A.depth < recursionLimit)
    (ho : K.lookup f = some ⟨oc, od, .func (fnOf name qual params body scope dV kV doc pm an cdv ct), osl⟩) (hcd : codeIn K cdv qual = true)
    (hbind : ∀ (M : Model) (A : Around) (E : Value → Shared → Prop) (Q : List (Str × Value) → Shared → Prop), Q binds { s with heap := s.heap.push (tupObj vs) } → wpAny M A (bindArgs (fnOf name qual params body scope dV kV doc pm an cdv ct) ⟨vals, []⟩) Q E s)
    (hcs : ∀ n, cellsFrom n scope.names [] = [(cx, n)]) (hloc : ∀ y ∈ binds, scope.names.lookup y.1 = some .local)
    (hcm : ∀ L, bindC (envOfC qual scope L f cdv).kindOf binds (fun _ => none) cx = none)
    (h : ∀ L ocl s₁, Fr hb L s₁.heap (bindL (envOfC qual scope L f cdv).kindOf binds fun _ => none) → News hb L s₁.heap [(s.heap.objs.size, tupObj vs), (L + 1, ocl)] → ocl.data = .cell none → s.heap.objs.size < L →
      Sg (MM w) (AA dp un) (.func body (envOfC qual scope L f cdv)) (denote table (.func body (envOfC qual scope L f cdv))) [] s₁ (Post w hb dp un xs (ownOf L [(s.heap.objs.size, tupObj vs), (L + 1, ocl)]) (fun _ => False) s₁))
    (hco : scope.isCoroutine = false) (hgen : scope.isGenerator = true) (hk : scope.kind = .function) :
    wpAny (MM w) A (call (.ref f) vals) (fun v s' => Born w hb dp un xs s v s') (fun _ _ => False) s := by
  have X : K.In s.heap := W.keeps base
  have base' : ∀ b o, hb.get? b = some o → (s.heap.push (tupObj vs)).get? b = some o := fun b o e => Heap.get?_push_of_some _ (base b o e)
  have hnone : ∀ b, s.heap.objs.size ≤ b → hb.get? b = none := fun b q => by
    cases e : hb.get? b with
    | none => rfl
    | some o => exact absurd (Heap.lt_size (base _ _ e)) (Nat.not_lt.mpr q)
  have hsz : (s.heap.push (tupObj vs)).objs.size = s.heap.objs.size + 1 := Heap.size_push ..
  refine wpAny_call (codeAny_call_gen4 (s' := { s with heap := s.heap.push (tupObj vs) }) (fd := fnOf name qual params body scope dV kV doc pm an cdv ct) (body := body) (binds := binds) R (X _ _ ho) rfl (lim.keeps base') (codeRec_of X hcd) rfl hbind rfl (fun y hy => .inl (hloc y hy)) (fun s₁ tk nm qn x => ?_) hco hgen hk)
  refine ex2_2 (x.done) ?_
  intro h₁ tk₁ hq10_ hk₁
  obtain rfl := hq10_
  have ns := x.toInCall.ns
  have xc := x.cell cx (s.heap.objs.size + 2) (by
    show (cellsFrom ((s.heap.push (tupObj vs)).objs.size + 1) scope.names []).lookup cx = _
    rw [hcs, hsz]; simp [List.lookup])
  have hcm' := hcm ({ s with heap := s.heap.push (tupObj vs) } : Shared).heap.objs.size
  refine ex1_2 (xc) ?_
  clear xc
  intro ocl hocl hocd
  replace hocd : ocl.data = .cell (bindC (envOfC qual scope ({ s with heap := s.heap.push (tupObj vs) } : Shared).heap.objs.size f cdv).kindOf binds (fun _ => none) cx) := hocd
  rw [hcm'] at hocd
  replace ns : h₁.Ns (s.heap.push (tupObj vs)).objs.size (bindL (envOfC qual scope (s.heap.push (tupObj vs)).objs.size f cdv).kindOf binds fun _ => none) := ns
  rw [hsz] at ns
  replace hocl : h₁.get? (s.heap.objs.size + 2) = some ocl := hocl
  have hlt : s.heap.objs.size + 2 < h₁.objs.size := Heap.lt_size hocl
  have kp : ∀ (o : Obj) b x, s.heap.get? b = some x → (h₁.push o).get? b = some x := fun o b x e => Heap.get?_push_of_some _ (hk₁ b x (Heap.get?_push_of_some _ e))
  have hC : ∀ (o : Obj), (h₁.push o).get? s.heap.objs.size = some (tupObj vs) := fun o => Heap.get?_push_of_some _ (hk₁ _ _ (Heap.get?_push_size _ rfl))
  have hown : ∀ b, ownOf (s.heap.objs.size + 1) [(s.heap.objs.size, tupObj vs), (s.heap.objs.size + 1 + 1, ocl)] b → s.heap.objs.size ≤ b ∧ b < h₁.objs.size := by
    rintro b (rfl | q)
    · exact ⟨Nat.le_succ _, Nat.lt_of_succ_lt hlt⟩
    · rcases List.mem_cons.mp q with rfl | q
      · exact ⟨Nat.le_refl _, Nat.lt_of_succ_lt (Nat.lt_of_succ_lt hlt)⟩
      · cases List.mem_singleton.mp q
        exact ⟨Nat.le_succ_of_le (Nat.le_succ _), hlt⟩
  refine ⟨h₁.objs.size, s.gens.size, ownOf (s.heap.objs.size + 1) [(s.heap.objs.size, tupObj vs), (s.heap.objs.size + 1 + 1, ocl)], (fun _ => False), rfl, ⟨?_, ?_, ?_, ?_, ?_, ?_, ?_, ?_⟩, ⟨?_, ?_, ?_, ?_, rfl⟩, ?_, Nat.le_of_lt (Nat.lt_of_succ_lt (Nat.lt_of_succ_lt hlt)), Nat.le_refl _, fun b q => (hown b q).1, ?_⟩
  · exact ⟨_, _, _, Heap.get?_push_size _ rfl, rfl, rfl, .inl rfl⟩
  · exact fun q => absurd (hown _ q).2 (Nat.lt_irrefl _)
  · refine ⟨_, by rw [Array.getElem?_push_size], will_iff.mpr fun s₂ a => ?_⟩
    have F : Fr hb (s.heap.objs.size + 1) s₂.heap (bindL (envOfC qual scope (s.heap.objs.size + 1) f cdv).kindOf binds fun _ => none) := ⟨(ns.push _).at fun o e => a.heap _ o (.inl rfl) e, a.base, Nat.le_succ_of_le bsize⟩
    have N : News hb (s.heap.objs.size + 1) s₂.heap [(s.heap.objs.size, tupObj vs), (s.heap.objs.size + 1 + 1, ocl)] := fun p hp => by
      rcases List.mem_cons.mp hp with rfl | hp
      · exact ⟨a.heap _ _ (.inr (.head _)) (hC _), Nat.ne_of_lt (Nat.lt_succ_self _), hnone _ (Nat.le_refl _)⟩
      · cases List.mem_singleton.mp hp
        exact ⟨a.heap _ _ (.inr (.tail _ (.head _))) (Heap.get?_push_of_some _ hocl), Nat.ne_of_gt (Nat.lt_succ_self _), hnone _ (Nat.le_succ_of_le (Nat.le_succ _))⟩
    have := h _ ocl s₂ F N hocd (Nat.lt_succ_self _)
    show Wake w (.fresh (.func body (envOfC qual scope (s.heap.push (tupObj vs)).objs.size f cdv))) _ _ _
    rw [hsz]
    exact this
  · exact fun q => q
  · intro b q; show _ < (h₁.push _).objs.size; rw [Heap.size_push]; exact Nat.lt_succ_of_lt (hown b q).2
  · exact fun i q => q.elim
  · exact fun b q => hnone _ (hown b q).1
  · exact fun b o e => kp _ b o (base b o e)
  · exact fun b o _ e => kp _ b o e
  · show _ ≤ (h₁.push _).objs.size; rw [Heap.size_push]; exact Nat.le_succ_of_le (Nat.le_of_lt (Nat.lt_of_succ_lt (Nat.lt_of_succ_lt hlt)))
  · intro i x _ e
    refine ex1_1 (Array.getElem?_eq_some_iff.mp e) ?_
    intro hlt _
    show (s.gens.push _)[i]? = _
    rw [Array.getElem?_push_lt hlt]; rw [← e, Array.getElem?_eq_getElem hlt]
  · show _ ≤ (s.gens.push _).size; simp
  · intro i x e hs
    replace e : (s.gens.push _)[i]? = some x := e
    by_cases hi : i < s.gens.size
    · rw [Array.getElem?_push_lt hi] at e
      exact .inl ⟨by rw [Array.getElem?_eq_getElem hi]; exact e, id⟩
    · by_cases hi' : i = s.gens.size
      · subst hi'
        rw [Array.getElem?_push_size] at e; cases e; exact hs.elim
      · rw [Array.getElem?_eq_none (by simp; (first | lia | omega))] at e; cases e
  · exact fun i q => q.elim

theorem typeCall_tuple_0 : checkTypeCall "tuple" ⟨[], []⟩ = pure () := by kernel_rfl
theorem newCall_tuple_0 : checkBuiltinCall "tuple.__new__" ⟨[.type "tuple"], []⟩ = pure () := by kernel_rfl

theorem meets_tuple_new_none :
    Meets (Builtin.«tuple.__new__» ⟨[.type "tuple"], []⟩)
      (fun _ R s => R (.ok (.ret (.ref s.heap.objs.size))) { s with heap := s.heap.push { cls := .type "tuple", data := .seq #[] } }) :=
  .of_wp fun prog w A R s h => by
    obtain ⟨hp, g, d, tk, os⟩ := s
    have hsub := sub_tuple_self
    have hinit := init_tuple_lookup
    have hmh := madeHere_tuple
    wp_walk using hsub
    exact ⟨_, rfl, h⟩

theorem tuple_none {prog : Program} {w : World} {A : Around} {E : Value → Shared → Prop} {s : Shared} {Q : Value → Shared → Prop}
    (h : Q (.ref s.heap.objs.size) { s with heap := s.heap.push (tupObj []) }) :
    wpAny (model prog w) A (call (.type "tuple")) Q E s :=
  callType_new F.called_tuple (by decide) typeCall_tuple_0 newCall_tuple_0 (fun obj => F.args_object_init_1 obj) F.entry_tuple_new
    meets_tuple_new_none ⟨⟨_, Heap.get?_push_size _ rfl, rfl⟩, h⟩

/-- a piece that may change what is owned -/
noncomputable def Trip2 (w : World) (hb : Heap) (L : Addr) (dp un : Nat) {α : Type} (t : Sem α) (m : Str → Option Value) (extra : List (Addr × Obj)) (Φ : α → (Str → Option Value) → List (Addr × Obj) → Heap → Prop) : Prop :=
  ∀ (s : Shared), s.gens = #[] → Fr hb L s.heap m → ∀ news, News hb L s.heap (extra ++ news) → (∀ q ∈ extra, ∀ p ∈ news, p.1 ≠ q.1) →
    wpAny (model PP w) (AA dp un) t (fun a s' => (s'.gens = #[] ∧ s'.os = s.os) ∧ ∃ m' extra', Fr hb L s'.heap m' ∧ News hb L s'.heap (extra' ++ news) ∧ Φ a m' extra' s'.heap) (fun _ _ => False) s

theorem wp_trip2 {w : World} {hb : Heap} {L : Addr} {dp un : Nat} {α : Type} {t : Sem α} {m : Str → Option Value} {extra : List (Addr × Obj)} {Φ : α → (Str → Option Value) → List (Addr × Obj) → Heap → Prop} {A : Around} {s : Shared} {Q : α → Shared → Prop} {E : Value → Shared → Prop}
    (T : Trip2 w hb L dp un t m extra Φ) (F : Fr hb L s.heap m) (X : News hb L s.heap extra) (h1 : A.handled = none) (h2 : A.depth ≤ dp) (h3 : A.units ≤ un)
    (k : ∀ a m' extra' s', Fr hb L s'.heap m' → News hb L s'.heap extra' → Moves (ownOf L extra) (fun _ => False) s s' → s'.gens = s.gens → Φ a m' extra' s'.heap → Q a s') : wpAny (MM w) A t Q E s := by
  let rest := (restOf hb s.heap L).filter (fun p => decide (p.1 ∉ extra.map (·.1)))
  have nr : News hb L s.heap rest := fun p hp => rest_news p (List.mem_filter.mp hp).1
  refine piece (R := fun a h' => ∃ m' extra', Fr hb L h' m' ∧ News hb L h' (extra' ++ rest) ∧ Φ a m' extra' h') (wpAny_mono (T (wG s #[]) rfl F rest (News.append X nr) (fun q hq p hp e => ?_)) (fun a s' ⟨⟨hg, ho⟩, r⟩ => ⟨hg, ho, r⟩) fun _ _ x => x) h1 h2 h3 ?_
  · exact (of_decide_eq_true (List.mem_filter.mp hp).2) (e ▸ List.mem_map_of_mem hq)
  intro a s' hg ho hz hq1_
  refine ex2_3 (hq1_) ?_
  clear hq1_
  intro m' extra' F' N' hΦ
  refine k a m' extra' s' F' (News.left N') ⟨fun b o hL e => ?_, hz, fun i x _ e => by rw [hg]; exact e, by rw [hg]; exact Nat.le_refl _, ho⟩ hg hΦ
  cases hn : hb.get? b with
  | none => exact (N' _ (List.mem_append.mpr (.inr (List.mem_filter.mpr ⟨rest_mem e (fun q => hL (.inl q)) hn, decide_eq_true fun q => hL (.inr q)⟩)))).1
  | some o₂ =>
    have hh := F.keep b o₂ hn
    rw [e] at hh
    cases hh
    exact F'.keep b _ hn
theorem sg_block2 {w : World} {A : Around} {c : Code} {fs : List Frame} {P : End → Shared → Prop} {s : Shared} {env : Env} {K : Flow → Sem Fin} {H : Value → Sem Fin}
    {hb : Heap} {L : Addr} {dp un : Nat} {m : Str → Option Value} {extra : List (Addr × Obj)} {pre rest : List Stmt} {Φ : Flow → (Str → Option Value) → List (Addr × Obj) → Heap → Prop} (T : Trip2 w hb L dp un (execs pre env) m extra Φ) (F : Fr hb L s.heap m) (X : News hb L s.heap extra) (h1 : (A.over c fs).handled = none) (h2 : (A.over c fs).depth ≤ dp) (h3 : (A.over c fs).units ≤ un)
    (k : ∀ f m' extra' s', Fr hb L s'.heap m' → News hb L s'.heap extra' → Moves (ownOf L extra) (fun _ => False) s s' → s'.gens = s.gens → Φ f m' extra' s'.heap →
      match f with | .next => Sg (MM w) A c ((execs rest env).wrap K H id id) fs s' P | f => Sg (MM w) A c (K f) fs s' P) :
    Sg (MM w) A c ((execs (pre ++ rest) env).wrap K H id id) fs s P :=
  x_block (wp_trip2 T F X h1 h2 h3 k)

section
variable {prog : Program} {w : World} {A : Around} {E : Value → Shared → Prop} {s : Shared} {h₀ : Heap} {L : Addr} {m : Str → Option Value} {news : List (Addr × Obj)}
theorem slicePart_none {Q : Option Int → Shared → Prop} (h : Q none s) : wpAny (model prog w) A (Builtin.Slice.slicePartIndex .none) Q E s := wpAny_pure h
theorem slicePart_int {k : Int} {tk : Tok} {Q : Option Int → Shared → Prop} (h : Q (some k) s) : wpAny (model prog w) A (Builtin.Slice.slicePartIndex (.int k tk)) Q E s := by
  unfold Builtin.Slice.slicePartIndex
  rw [if_neg (by simp)]
  refine wpAny_bind (wpAny_specialOf (T := "int") (typeIs_int s k tk) int_index ?_)
  rw [if_neg (by simp)]
  refine wpAny_bind (m := asIndex (.int k tk)) (wpAny_of_eq (a := k) rfl (wpAny_pure h))

theorem getItem_tuple_from {t sl : Addr} {items : Array Value} {k : Int} {tk : Tok} {zs : List Value} {Q : Value → Shared → Prop} (ht : IsTup s.heap t items) (hs : s.heap.IsSliceOf sl (.int k tk) .none .none)
    (h0 : ¬ k = 0) (hb : Builtin.Slice.sliceAdjust (some k) none 1 (items.size : Int) = (k, (items.size : Int))) (hsz : zs.toArray.size ≤ sizeLine)
    (hz : (List.range (Builtin.Slice.slicePlaces k items.size 1)).filterMap (fun (j : Nat) => items[(k + (j : Int) * 1).toNat]?) = zs)
    (h : Q (.ref s.heap.objs.size) { s with heap := s.heap.push (tupObj zs) }) : wpAny (model prog w) A (getItem (.ref t) (.ref sl)) Q E s := by
  refine ex1_3 hs ?_
  intro os hos hcs hds
  have none_at : ∀ {i : Nat} {R : Value → Shared → Prop}, #[Value.int k tk, .none, .none][i]? = some .none → R .none s → wpAny (model prog w) A.in1 (field (.ref sl) i) R (fun e s' => E e s') s := fun q r => wpAny_field hos hds q r
  unfold getItem
  refine wpAny_holding ?_
  refine wpAny_bind (wpAny_sequenceKey ht.typeIs (by decide) ?_)
  have called := fun {R} q => wpAny_call_entry (prog := prog) (w := w) (A := A) (E := E) (s := s) (Q := R) slot_tuple_getitem ht.typeIs entry_tuple_getitem q (args_tuple_getitem (.ref t) (.ref sl))
  refine wpAny_bind (wpAny_callSpecial?_slot ht.typeIs slot_tuple_getitem (called ?_))
  show wpAny _ _ (Builtin.Tuple.tupleItemsOf (.ref t) >>= _) _ _ s
  refine wpAny_bind (tupleItemsOf_ ht (wpAny_bind (wpAny_typeOf ⟨os, hos, hcs⟩ ?_)))
  rw [if_pos (by decide)]
  refine wpAny_bind ?_
  unfold Builtin.Slice.sliceApplied Builtin.Slice.sliceFields
  refine wpAny_bind (wpAny_bind (wpAny_field hos hds (x := .int k tk) rfl (wpAny_bind (none_at rfl (wpAny_bind (none_at rfl (wpAny_pure (wpAny_bind (slicePart_none ?_)))))))))
  rw [if_neg (by decide)]
  refine wpAny_bind (slicePart_int (wpAny_bind (slicePart_none (wpAny_bind (wpAny_pure ?_)))))
  simp only [Option.getD_none, hb]
  refine wpAny_pure ?_
  dsimp only
  rw [if_neg (by simp [h0]), hz]
  exact wpAny_bind (wpAny_newObj_type (wpAny_pure ⟨_, rfl, wpAny_pure h⟩) hsz)
theorem slice_tuple {value slice : Expr} {t : Addr} {items : Array Value} {k : Int} {tk : Tok} {zs : List Value} {Q : Value → Shared → Prop} (F : Fr h₀ L s.heap m) (N : News h₀ L s.heap news) (ht : IsTup s.heap t items)
    (h0 : ¬ k = 0) (hb : Builtin.Slice.sliceAdjust (some k) none 1 (items.size : Int) = (k, (items.size : Int))) (hsz : zs.toArray.size ≤ sizeLine)
    (hz : (List.range (Builtin.Slice.slicePlaces k items.size 1)).filterMap (fun (j : Nat) => items[(k + (j : Int) * 1).toNat]?) = zs)
    (h : ∀ D h', Fr h₀ L h' m → News h₀ L h' ((D, tupObj zs) :: news) → (∀ p ∈ news, p.1 < D) → Q (.ref D) { s with heap := h' })
    (hs : subscripted slice false (.ref t) (.ref s.heap.objs.size) = operate [.ref s.heap.objs.size, .ref t] (getItem (.ref t) (.ref s.heap.objs.size))) (hg : ∀ r, letTemporaryGo value (.ref t) r = pure ()) :
    wpAny (model prog w) A (subscriptTail value slice (.ref t) (.ref s.heap.objs.size)) Q E { s with heap := s.heap.push { cls := .type "slice", data := .fields #[.int k tk, .none, .none] } } := by
  have ht' : IsTup (s.heap.push { cls := .type "slice", data := .fields #[.int k tk, .none, .none] }) t items := ht.keeps fun b o e => Heap.get?_push_of_some _ e
  refine subscriptTail_ops (IsTup.typeIs (s := { s with heap := s.heap.push { cls := .type "slice", data := .fields #[.int k tk, .none, .none] } }) ht') slot_tuple_getitem.lookup
    (getItem_tuple_from ht' (Heap.IsSliceOf.new ..) h0 hb hsz hz ?_) hs hg
  have N1 := News.push (F.push { cls := .type "slice", data := .fields #[.int k tk, .none, .none] }) (N.grown fun _ _ e => Heap.get?_push_of_some _ e) (tupObj zs)
  refine h _ _ ((F.push _).push _) N1 fun p hp => ?_
  show p.1 < (s.heap.push _).objs.size
  rw [Heap.size_push]
  exact Nat.lt_succ_of_lt (Heap.lt_size (N p hp).1)
theorem slice_33 {value slice : Expr} {t : Addr} {v1 v2 v3 : Value} {tk : Tok} {Q : Value → Shared → Prop} (F : Fr h₀ L s.heap m) (N : News h₀ L s.heap news) (ht : IsTup s.heap t (List.toArray [v1, v2, v3]))
    (h : ∀ D h', Fr h₀ L h' m → News h₀ L h' ((D, tupObj []) :: news) → (∀ p ∈ news, p.1 < D) → Q (.ref D) { s with heap := h' })
    (hs : subscripted slice false (.ref t) (.ref s.heap.objs.size) = operate [.ref s.heap.objs.size, .ref t] (getItem (.ref t) (.ref s.heap.objs.size))) (hg : ∀ r, letTemporaryGo value (.ref t) r = pure ()) :
    wpAny (model prog w) A (subscriptTail value slice (.ref t) (.ref s.heap.objs.size)) Q E { s with heap := s.heap.push { cls := .type "slice", data := .fields #[.int 3 tk, .none, .none] } } :=
  slice_tuple (items := List.toArray [v1, v2, v3]) (zs := []) F N ht (by decide) rfl (by size_fits) (by first | rfl | with_unfolding_all rfl | (simp [Builtin.Slice.slicePlaces, List.range, List.range.loop]; done) | (simp [Builtin.Slice.slicePlaces, List.range_succ]; done)) h hs hg
theorem slice_34 {value slice : Expr} {t : Addr} {v1 v2 v3 v4 : Value} {tk : Tok} {Q : Value → Shared → Prop} (F : Fr h₀ L s.heap m) (N : News h₀ L s.heap news) (ht : IsTup s.heap t (List.toArray [v1, v2, v3, v4]))
    (h : ∀ D h', Fr h₀ L h' m → News h₀ L h' ((D, tupObj [v4]) :: news) → (∀ p ∈ news, p.1 < D) → Q (.ref D) { s with heap := h' })
    (hs : subscripted slice false (.ref t) (.ref s.heap.objs.size) = operate [.ref s.heap.objs.size, .ref t] (getItem (.ref t) (.ref s.heap.objs.size))) (hg : ∀ r, letTemporaryGo value (.ref t) r = pure ()) :
    wpAny (model prog w) A (subscriptTail value slice (.ref t) (.ref s.heap.objs.size)) Q E { s with heap := s.heap.push { cls := .type "slice", data := .fields #[.int 3 tk, .none, .none] } } :=
  slice_tuple (items := List.toArray [v1, v2, v3, v4]) (zs := [v4]) F N ht (by decide) rfl (by size_fits) (by first | rfl | with_unfolding_all rfl | (simp [Builtin.Slice.slicePlaces, List.range, List.range.loop]; done) | (simp [Builtin.Slice.slicePlaces, List.range_succ]; done)) h hs hg
theorem slice_13 {value slice : Expr} {t : Addr} {v1 v2 v3 : Value} {tk : Tok} {Q : Value → Shared → Prop} (F : Fr h₀ L s.heap m) (N : News h₀ L s.heap news) (ht : IsTup s.heap t (List.toArray [v1, v2, v3]))
    (h : ∀ D h', Fr h₀ L h' m → News h₀ L h' ((D, tupObj [v2, v3]) :: news) → (∀ p ∈ news, p.1 < D) → Q (.ref D) { s with heap := h' })
    (hs : subscripted slice false (.ref t) (.ref s.heap.objs.size) = operate [.ref s.heap.objs.size, .ref t] (getItem (.ref t) (.ref s.heap.objs.size))) (hg : ∀ r, letTemporaryGo value (.ref t) r = pure ()) :
    wpAny (model prog w) A (subscriptTail value slice (.ref t) (.ref s.heap.objs.size)) Q E { s with heap := s.heap.push { cls := .type "slice", data := .fields #[.int 1 tk, .none, .none] } } :=
  slice_tuple (items := List.toArray [v1, v2, v3]) (zs := [v2, v3]) F N ht (by decide) rfl (by size_fits) (by first | rfl | with_unfolding_all rfl | (simp [Builtin.Slice.slicePlaces, List.range, List.range.loop]; done) | (simp [Builtin.Slice.slicePlaces, List.range_succ]; done)) h hs hg
theorem slice_14 {value slice : Expr} {t : Addr} {v1 v2 v3 v4 : Value} {tk : Tok} {Q : Value → Shared → Prop} (F : Fr h₀ L s.heap m) (N : News h₀ L s.heap news) (ht : IsTup s.heap t (List.toArray [v1, v2, v3, v4]))
    (h : ∀ D h', Fr h₀ L h' m → News h₀ L h' ((D, tupObj [v2, v3, v4]) :: news) → (∀ p ∈ news, p.1 < D) → Q (.ref D) { s with heap := h' })
    (hs : subscripted slice false (.ref t) (.ref s.heap.objs.size) = operate [.ref s.heap.objs.size, .ref t] (getItem (.ref t) (.ref s.heap.objs.size))) (hg : ∀ r, letTemporaryGo value (.ref t) r = pure ()) :
    wpAny (model prog w) A (subscriptTail value slice (.ref t) (.ref s.heap.objs.size)) Q E { s with heap := s.heap.push { cls := .type "slice", data := .fields #[.int 1 tk, .none, .none] } } :=
  slice_tuple (items := List.toArray [v1, v2, v3, v4]) (zs := [v2, v3, v4]) F N ht (by decide) rfl (by size_fits) (by first | rfl | with_unfolding_all rfl | (simp [Builtin.Slice.slicePlaces, List.range, List.range.loop]; done) | (simp [Builtin.Slice.slicePlaces, List.range_succ]; done)) h hs hg
end

section
variable {prog : Program} {w : World} {A : Around} {E : Value → Shared → Prop} {s : Shared} {h₀ : Heap} {L : Addr} {m : Str → Option Value} {news : List (Addr × Obj)}

theorem for_turn {R : Result → Shared → Prop} {target : Expr} {it : Value} {body : List Stmt} {env : Env}
    (h : wpAny (model prog w) A (pyNext it) (fun r s₁ => match r with
      | none => R (.ok .next) s₁
      | some v => wpAny (model prog w) A (assign target env v) (fun _ s₂ => wpAny (model prog w) A (execs body env) (fun f s₃ => match f with
          | .next | .cont => codeAny (model prog w) A (.forLoop target it body [] env) R s₃
          | .brk => R (.ok .next) s₃
          | .ret v => R (.ok (.ret v)) s₃) (fun _ _ => False) s₂) (fun _ _ => False) s₁) (fun _ _ => False) s)
    (ht : ∀ v, letOwnedTupleGo target it v = pure ()) : codeAny (model prog w) A (.forLoop target it body [] env) R s := by
  refine codeAny_of_tree ?_
  show wpAny _ _ ((forTurn target it body [] env).onRaise (fun x => do noteFrame x env; theTreesLotGoes x)) _ _ s
  refine wpAny_noted ?_
  simp only [forTurn]
  refine wpAny_bind (wpAny_standAt (wpAny_bind (wpAny_onRaise (wpAny_mono h (fun r s₁ h₁ => ?_) fun _ _ h' => h'.elim))))
  cases r with
  | none => exact wpAny_pure ⟨rfl, codeAny_block (wpAny_execs_nil h₁)⟩
  | some v =>
    refine wpAny_bind (wpAny_of_eq (ht v) ?_)
    refine wpAny_bind (wpAny_mono h₁ (fun _ s₂ h₂ => wpAny_bind (wpAny_mono h₂ (fun f s₃ h₃ => ?_) fun _ _ h' => h'.elim)) fun _ _ h' => h'.elim)
    cases f with
    | next => exact wpAny_pure ⟨rfl, h₃⟩
    | cont => exact wpAny_pure ⟨rfl, h₃⟩
    | brk => exact wpAny_pure h₃
    | ret v => exact wpAny_pure h₃

/-- the object of an iterator of a tuple -/
noncomputable def TupIt (o : Obj) (t : Addr) (i : Nat) : Prop := o.cls = .type "tuple_iterator" ∧ o.data = .fields #[.ref t, .int i 0]

theorem isTuple_of {t : Addr} {zs : List Value} (N : News h₀ L s.heap news) (hm : (t, tupObj zs) ∈ news) : s.heap.IsTuple t zs.toArray := ⟨_, (N _ hm).1, rfl, _, rfl⟩

theorem iter_tup {t : Addr} {zs : List Value} {Q : Value → Shared → Prop} (F : Fr h₀ L s.heap m) (N : News h₀ L s.heap news) (hm : (t, tupObj zs) ∈ news)
    (h : ∀ I h' oI, Fr h₀ L h' m → News h₀ L h' ((I, oI) :: news) → TupIt oI t 0 → (∀ p ∈ news, p.1 < I) → L < I → Q (.ref I) { s with heap := h' }) : wpAny (model prog w) A (pyIter (.ref t)) Q E s :=
  wpAny_pyIter_tuple (isTuple_of N hm) (h _ _ _ (F.push _) (News.push F N _) ⟨rfl, rfl⟩ (fun p hp => Heap.lt_size (N p hp).1) F.ns.lt)

theorem next_item {t I : Addr} {oI : Obj} {i : Nat} {zs : List Value} {z : Value} {Q : Option Value → Shared → Prop} (F : Fr h₀ L s.heap m) (N : News h₀ L s.heap ((I, oI) :: news)) (hI : TupIt oI t i) (hm : (t, tupObj zs) ∈ news) (hap : ∀ p ∈ news, p.1 ≠ I)
    (hz : zs.toArray[i]? = some z) (h : ∀ h' o', Fr h₀ L h' m → News h₀ L h' ((I, o') :: news) → TupIt o' t (i + 1) → Q (some z) { s with heap := h' }) : wpAny (model prog w) A (pyNext (.ref I)) Q E s := by
  have hI' := N _ (.head _)
  refine wpAny_pyNext_tuple_item ⟨_, hI'.1, hI.1, hI.2⟩ (isTuple_of N (.tail _ hm)) hz fun h' hit hs => ?_
  refine ex1_3 (hit) ?_
  clear hit
  intro o' ho' hc hd
  refine h h' o' (F.change hs hI'.2.1 hI'.2.2) (fun p hp => ?_) ⟨hc, hd⟩
  rcases List.mem_cons.mp hp with rfl | hp
  · exact ⟨ho', hI'.2.1, hI'.2.2⟩
  · have := N _ (.tail _ hp)
    exact ⟨by rw [hs.2 _ (hap p hp)]; exact this.1, this.2⟩

theorem next_none {t I : Addr} {oI : Obj} {i : Nat} {zs : List Value} {Q : Option Value → Shared → Prop} (hh : A.handled = none) (F : Fr h₀ L s.heap m) (N : News h₀ L s.heap ((I, oI) :: news)) (hI : TupIt oI t i) (hm : (t, tupObj zs) ∈ news) (hap : ∀ p ∈ news, p.1 ≠ I)
    (hz : zs.toArray[i]? = none) (h : ∀ h', Fr h₀ L h' m → News h₀ L h' news → Q none { s with heap := h' }) : wpAny (model prog w) A (pyNext (.ref I)) Q E s := by
  have hI' := N _ (.head _)
  refine wpAny_pyNext_tuple_end hh ⟨_, hI'.1, hI.1, hI.2⟩ (isTuple_of N (.tail _ hm)) hz fun h' hs => ?_
  refine h h' ⟨F.ns.extBut hs (Ne.symm hI'.2.1), fun b o e => hs b o (fun q => by rw [q, hI'.2.2] at e; cases e) (F.keep b o e), F.above⟩ fun p hp => ?_
  have := N _ (.tail _ hp)
  exact ⟨hs _ _ (hap p hp) this.1, this.2⟩
end

section
variable {w : World} {hb : Heap} {L : Addr} {m : Str → Option Value} {extra : List (Addr × Obj)} {dp un : Nat} {xs : List (List Int)} {x : List Int} {a : Addr} {g : Nat} {own : Addr → Prop} {gown : Nat → Prop} {s₁ s s' : Shared}

theorem Live.keepO {X : Addr → Prop} {Y : Nat → Prop} (l : Live w hb dp un xs a g own gown s) (hX : ∀ b, own b ∨ b = a → ¬ X b) (hY : ∀ i, gown i ∨ i = g → ¬ Y i) (M : Moves X Y s s') (hbase : ∀ b o, hb.get? b = some o → s'.heap.get? b = some o) :
    Live w hb dp un xs a g own gown s' := by
  refine ex3_2 (l.obj) ?_
  intro o nm qn ho r
  exact l.frame ⟨o, nm, qn, M.heap a o (hX a (.inr rfl)) ho, r⟩ hbase (fun b o q e => M.heap b o (hX b (.inl q)) e) (fun i z q e => M.gens i z (hY i q) e) M.hsize M.gsize
theorem Live.agreeO {O : Addr → Prop} {G : Nat → Prop} (l : Live w hb dp un xs a g own gown s) (hO : ∀ b, own b ∨ b = a → O b) (hG : ∀ i, gown i ∨ i = g → G i) (A : Agree hb O G s s') : Live w hb dp un xs a g own gown s' := by
  refine ex3_2 (l.obj) ?_
  intro o nm qn ho r
  exact l.frame ⟨o, nm, qn, A.heap a o (hO a (.inr rfl)) ho, r⟩ A.base (fun b o q e => A.heap b o (hO b (.inl q)) e) (fun i z q e => A.gens i z (hG i q) e) A.hsize A.gsize

/-- all that a generator's frame holds, in the midst of a waking that began at s₁ -/
structure Holds (hb : Heap) (L : Addr) (m : Str → Option Value) (extra : List (Addr × Obj)) (O : Addr → Prop) (G : Nat → Prop) (ownD : Addr → Prop) (gownD : Nat → Prop) (s₁ s : Shared) : Prop where
  fr : Fr hb L s.heap m
  news : News hb L s.heap extra
  incl : ∀ b, ownOf L extra b → O b
  moves : Moves ownD gownD s₁ s
  tidy : Tidy gownD G s₁ s
  own : ∀ b, O b → (ownD b ∨ s₁.heap.objs.size ≤ b) ∧ b < s.heap.objs.size
  gown : ∀ i, G i → (gownD i ∨ s₁.gens.size ≤ i) ∧ i < s.gens.size

variable {O : Addr → Prop} {G : Nat → Prop} {ownD : Addr → Prop} {gownD : Nat → Prop}

theorem Holds.trip {m' : Str → Option Value} (H : Holds hb L m extra O G ownD gownD s₁ s) (F : Fr hb L s'.heap m') (N : News hb L s'.heap extra) (M : Moves (fun b => b = L) (fun _ => False) s s') (hg : s'.gens = s.gens) : Holds hb L m' extra O G ownD gownD s₁ s' :=
  ⟨F, N, H.incl, H.moves.step M (fun b q => (H.own b (H.incl b (.inl q))).1) fun _ q => q.elim, H.tidy.same hg, fun b q => ⟨(H.own b q).1, Nat.lt_of_lt_of_le (H.own b q).2 M.hsize⟩, fun i q => ⟨(H.gown i q).1, Nat.lt_of_lt_of_le (H.gown i q).2 M.gsize⟩⟩

theorem Holds.moved {X O' : Addr → Prop} {Y Z G' : Nat → Prop} (H : Holds hb L m extra O G ownD gownD s₁ s) (M : Moves X Y s s') (T : Tidy Y Z s s') (hbase : ∀ b o, hb.get? b = some o → s'.heap.get? b = some o)
    (hx : ∀ b, ownOf L extra b → ¬ X b) (hX : ∀ b, X b → O b) (hY : ∀ i, Y i → G i) (hi : ∀ b, ownOf L extra b → O' b) (hO' : ∀ b, O' b → (O b ∨ s.heap.objs.size ≤ b) ∧ b < s'.heap.objs.size) (hG' : ∀ i, G' i → (G i ∨ s.gens.size ≤ i) ∧ i < s'.gens.size)
    (hT : ∀ i, G i → ¬ Y i → G' i) (hZ : ∀ i, Z i → G' i) : Holds hb L m extra O' G' ownD gownD s₁ s' := by
  refine ⟨⟨H.fr.ns.at fun o e => M.heap L o (hx L (.inl rfl)) e, hbase, H.fr.above⟩, fun p hp => ⟨M.heap _ _ (hx _ (.inr (List.mem_map_of_mem hp))) (H.news p hp).1, (H.news p hp).2⟩, hi, H.moves.step M (fun b q => (H.own b (hX b q)).1) (fun i q => (H.gown i (hY i q)).1), ?_, ?_, ?_⟩
  · intro i v e q
    rcases T i v e q with ⟨e', n⟩ | z
    · rcases H.tidy i v e' q with z | z
      · exact .inl z
      · exact .inr (hT i z n)
    · exact .inr (hZ i z)
  · intro b q
    refine ⟨?_, (hO' b q).2⟩
    rcases (hO' b q).1 with z | z
    · exact (H.own b z).1
    · exact .inr (Nat.le_trans H.moves.hsize z)
  · intro i q
    refine ⟨?_, (hG' i q).2⟩
    rcases (hG' i q).1 with z | z
    · exact (H.gown i z).1
    · exact .inr (Nat.le_trans H.moves.gsize z)

/-- a generator on top of what is held -/
noncomputable def plusO (O : Addr → Prop) (a : Addr) (own : Addr → Prop) : Addr → Prop := fun b => O b ∨ own b ∨ b = a
noncomputable def plusG (G : Nat → Prop) (g : Nat) (gown : Nat → Prop) : Nat → Prop := fun i => G i ∨ gown i ∨ i = g
structure Apart (O : Addr → Prop) (G : Nat → Prop) (a : Addr) (g : Nat) (own : Addr → Prop) (gown : Nat → Prop) : Prop where
  o : ∀ b, own b ∨ b = a → ¬ O b
  g : ∀ i, gown i ∨ i = g → ¬ G i

theorem Holds.born (H : Holds hb L m extra O G ownD gownD s₁ s) (l : Live w hb dp un xs a g own gown s') (M : Moves (fun _ => False) (fun _ => False) s s') (T : Tidy (fun _ => False) (fun _ => False) s s') (ha : s.heap.objs.size ≤ a) (hg : s.gens.size ≤ g) (ho : ∀ b, own b → s.heap.objs.size ≤ b) (hgo : ∀ i, gown i → s.gens.size ≤ i) :
    Holds hb L m extra (plusO O a own) (plusG G g gown) ownD gownD s₁ s' ∧ Apart O G a g own gown := by
  refine ex3_2 (l.obj) ?_
  intro oa _ _ hoa _
  refine ⟨H.moved M T l.base (fun _ _ q => q) (fun _ q => q.elim) (fun _ q => q.elim) (fun b q => .inl (H.incl b q)) ?_ ?_ (fun i q _ => .inl q) (fun _ q => q.elim), ⟨?_, ?_⟩⟩
  · rintro b (q | q | rfl)
    · exact ⟨.inl q, Nat.lt_of_lt_of_le (H.own b q).2 M.hsize⟩
    · exact ⟨.inr (ho b q), l.oub b q⟩
    · exact ⟨.inr ha, Heap.lt_size hoa⟩
  · rintro i (q | q | rfl)
    · exact ⟨.inl q, Nat.lt_of_lt_of_le (H.gown i q).2 M.gsize⟩
    · exact ⟨.inr (hgo i q), l.gub i q⟩
    · exact ⟨.inr hg, l.lt⟩
  · rintro b (q | rfl) h
    · exact absurd (H.own b h).2 (Nat.not_lt.mpr (ho b q))
    · exact absurd (H.own _ h).2 (Nat.not_lt.mpr ha)
  · rintro i (q | rfl) h
    · exact absurd (H.gown i h).2 (Nat.not_lt.mpr (hgo i q))
    · exact absurd (H.gown _ h).2 (Nat.not_lt.mpr hg)

theorem Holds.next {v : Value} {own' : Addr → Prop} {gown' : Nat → Prop} (H : Holds hb L m extra (plusO O a own) (plusG G g gown) ownD gownD s₁ s) (ap : Apart O G a g own gown) (hi : ∀ b, ownOf L extra b → O b) (T : Told1 w hb dp un x xs a g own gown s v own' gown' s') :
    Holds hb L m extra (plusO O a own') (plusG G g gown') ownD gownD s₁ s' ∧ Apart O G a g own' gown' := by
  refine ex3_2 (T.live.obj) ?_
  intro oa _ _ hoa _
  refine ⟨H.moved T.moves T.tidy T.live.base (fun b q z => ap.o b (.inl z) (hi b q)) (fun b q => .inr (.inl q)) (fun i q => .inr q) (fun b q => .inl (hi b q)) ?_ ?_ ?_ (fun i q => .inr q), ⟨?_, ?_⟩⟩
  · rintro b (q | q | rfl)
    · exact ⟨.inl (.inl q), Nat.lt_of_lt_of_le (H.own b (.inl q)).2 T.moves.hsize⟩
    · exact ⟨(T.own b q).elim (fun z => .inl (.inr (.inl z))) .inr, T.live.oub b q⟩
    · exact ⟨.inl (.inr (.inr rfl)), Heap.lt_size hoa⟩
  · rintro i (q | q | rfl)
    · exact ⟨.inl (.inl q), Nat.lt_of_lt_of_le (H.gown i (.inl q)).2 T.moves.gsize⟩
    · exact ⟨(T.gown i q).elim (fun z => .inl (.inr (.inl z))) .inr, T.live.gub i q⟩
    · exact ⟨.inl (.inr (.inr rfl)), T.live.lt⟩
  · rintro i (q | q) n
    · exact .inl q
    · exact absurd q n
  · rintro b (q | rfl) h
    · rcases T.own b q with z | z
      · exact ap.o b (.inl z) h
      · exact absurd (H.own b (.inl h)).2 (Nat.not_lt.mpr z)
    · exact ap.o _ (.inr rfl) h
  · rintro i (q | rfl) h
    · rcases T.gown i q with z | z
      · exact ap.g i (.inl z) h
      · exact absurd (H.gown i (.inl h)).2 (Nat.not_lt.mpr z)
    · exact ap.g _ (.inr rfl) h

theorem Holds.ended (H : Holds hb L m extra (plusO O a own) (plusG G g gown) ownD gownD s₁ s) (ap : Apart O G a g own gown) (hi : ∀ b, ownOf L extra b → O b) (M : Moves own (fun i => gown i ∨ i = g) s s') (T : Tidy (fun i => gown i ∨ i = g) (fun _ => False) s s') (hbase : ∀ b o, hb.get? b = some o → s'.heap.get? b = some o) :
    Holds hb L m extra O G ownD gownD s₁ s' :=
  H.moved M T hbase (fun b q z => ap.o b (.inl z) (hi b q)) (fun b q => .inr (.inl q)) (fun i q => .inr q) hi (fun b q => ⟨.inl (.inl q), Nat.lt_of_lt_of_le (H.own b (.inl q)).2 M.hsize⟩) (fun i q => ⟨.inl (.inl q), Nat.lt_of_lt_of_le (H.gown i (.inl q)).2 M.gsize⟩)
    (fun i q n => q.elim id fun z => absurd z n) fun _ q => q.elim

theorem Holds.yield {c : Code} {fs : List Frame} {v : Value} {l : List Value} {kk : Resume → Sem Fin} {p : Pos} (H : Holds hb L m extra O G ownD gownD s₁ s) (hv : NewTup hb x v s) (hap : ∀ D, v = .ref D → ¬ O D)
    (hk : ∀ s₂, Agree hb O G s s₂ → Holds hb L m extra O G O G s₂ s₂ → Sg (MM w) (AA dp un) c (kk (.send .none)) fs s₂ (Post w hb dp un xs O G s₂)) :
    StepPost (Will w hb dp un xs) hb ownD gownD s₁ x (.susp v false l kk c p fs) s :=
  ⟨v, O, G, rfl, hv, H.moves, H.tidy, H.own, hap, H.gown, will_iff.mpr fun s₂ ag => hk s₂ ag ⟨Fr.agree H.fr ag (H.incl L (.inl rfl)), News.agree H.news ag fun p hp => H.incl _ (.inr (List.mem_map_of_mem hp)), H.incl, Moves.refl _, Tidy.refl _,
    fun b q => ⟨.inl q, Nat.lt_of_lt_of_le (H.own b q).2 ag.hsize⟩, fun i q => ⟨.inl q, Nat.lt_of_lt_of_le (H.gown i q).2 ag.gsize⟩⟩⟩

theorem Holds.done (H : Holds hb L m extra O (fun _ => False) ownD gownD s₁ s) : DonePost ownD gownD s₁ (.ret (.ok (.ret .none))) s := ⟨rfl, H.moves, H.tidy⟩
end

/-- a loop over what a frame holds -/
theorem gen_ind {w : World} {hb : Heap} {dp un : Nat} {ι : Type} (μ : ι → Nat) (rows : ι → List (List Int)) (J : ι → (Addr → Prop) → (Nat → Prop) → Shared → Shared → Prop) {c : Code} {fs : List Frame}
    (step : ∀ i ownD gownD s₁ s, J i ownD gownD s₁ s →
      (∀ i' ownD' gownD' s₁' s', μ i' < μ i → J i' ownD' gownD' s₁' s' → Sg (MM w) (AA dp un) c (den2 c) fs s' (Post w hb dp un (rows i') ownD' gownD' s₁')) →
      Sg (MM w) (AA dp un) c (den2 c) fs s (Post w hb dp un (rows i) ownD gownD s₁)) :
    ∀ i ownD gownD s₁ s, J i ownD gownD s₁ s → Sg (MM w) (AA dp un) c (den2 c) fs s (Post w hb dp un (rows i) ownD gownD s₁) := by
  intro i
  generalize hn : μ i = n
  induction n using Nat.strongRecOn generalizing i with
  | ind n ih =>
    intro ownD gownD s₁ s j
    exact step i ownD gownD s₁ s j fun i' ownD' gownD' s₁' s' hlt j' => ih (μ i') (hn ▸ hlt) i' rfl ownD' gownD' s₁' s' j'

theorem letOwned_gen {M : Model} {A : Around} {E : Value → Shared → Prop} {s : Shared} {elts : List Expr} {x1} {pos : Pos} {I T : Addr} {g : Nat} {Q : Unit → Shared → Prop} (hg : GenObj s.heap I g) (hQ : Q () s) :
    wpAny M A (letOwnedTupleGo (.Tuple elts x1 pos) (.ref I) (.ref T)) Q E s := by
  refine ex3_4 (hg) ?_
  clear hg
  intro o nm qn ho hc hd _
  unfold letOwnedTupleGo
  refine wpAny_bind (wpAny_load ho ?_)
  rw [hc, hd]
  show wpAny _ A (if (["enumerate", "zip", "dict_itemiterator", "dict_reverseitemiterator", "odict_iterator", "itertools.zip_longest", "itertools.pairwise"].contains "generator" &&
      (#[.int g 0, nm, qn] : Array Value)[0]? == some (rawInt T)) = true then _ else _) Q E s
  rw [if_neg (by
    intro h
    rw [show (["enumerate", "zip", "dict_itemiterator", "dict_reverseitemiterator", "odict_iterator", "itertools.zip_longest", "itertools.pairwise"].contains "generator") = false from by decide, Bool.false_and] at h
    cases h)]
  exact wpAny_pure hQ
theorem Live.tripO {w : World} {hb : Heap} {L : Addr} {m : Str → Option Value} {dp un : Nat} {xs : List (List Int)} {a : Addr} {g : Nat} {own O : Addr → Prop} {gown G : Nat → Prop} {s s' : Shared} (l : Live w hb dp un xs a g own gown s) (ap : Apart O G a g own gown) (hL : O L)
    (M : Moves (fun b => b = L) (fun _ => False) s s') (F : Fr hb L s'.heap m) : Live w hb dp un xs a g own gown s' :=
  l.keepO (X := fun b => b = L) (Y := fun _ => False) (fun b q (e : b = L) => ap.o b q (e ▸ hL)) (fun _ _ q => q) M F.keep

theorem ints_get {vs : List Value} {ns : List Int} (h : IntsAre vs ns) : ∀ {i : Nat} {n : Int}, ns[i]? = some n → ∃ t, vs[i]? = some (.int n t) := by
  induction h with
  | nil => intro i n e; simp at e
  | cons m t _ ih =>
    intro i n e
    cases i with
    | zero => simp at e; subst e; exact ⟨t, rfl⟩
    | succ i => simp at e; obtain ⟨u, h⟩ := ih e; exact ⟨u, by simpa using h⟩
theorem ints_len {vs : List Value} {ns : List Int} (h : IntsAre vs ns) : vs.length = ns.length := by
  induction h with
  | nil => rfl
  | cons m t _ ih => simp [ih]
theorem ints_snoc {vs : List Value} {ns : List Int} (h : IntsAre vs ns) (n : Int) (t : Tok) : IntsAre (vs ++ [.int n t]) (ns ++ [n]) := by
  induction h with
  | nil => exact .cons _ _ .nil
  | cons m t _ ih => exact .cons _ _ ih

section
variable {prog : Program} {w : World} {A : Around} {s : Shared}

theorem pyIter_tupit {it t : Addr} {i : Nat} {Q : Value → Shared → Prop} {E : Value → Shared → Prop} (hit : s.heap.IsTupleIter it t i) (h : Q (.ref it) s) : wpAny (model prog w) A (pyIter (.ref it)) Q E s := by
  refine wpAny_pyIter_slot hit.typeIs F.slot_tuple_iterator_iter (wpAny_call_entry F.slot_tuple_iterator_iter hit.typeIs F.entry_tuple_iterator_iter ?_ (F.args_tuple_iterator_iter_1 _))
  show wpAny _ _ (ret (.ref it)) _ _ s
  exact wpAny_pure ⟨_, rfl, "tuple_iterator", _, hit.typeIs, F.slot_tuple_iterator_next.lookup, h⟩

theorem comp_div {env : Env} {c rg y : Str} {p1 p2 p3 p4 pos py spos : Pos} {iter : Expr} {scope : Scope} {CE : Addr} {Q : Flow → Shared → Prop} (hh : A.handled = none)
    (hsw : swapsWith (.ListComp (.BinOp (.Name c p1) .FloorDiv (.Name rg p2) p3) [⟨.Name c p4, iter, [], 0⟩] scope pos) (some (.Name y py)) spos.line env = pure true)
    (hyk : env.kindOf y = some .local) (hp : (env.scope.kind == .class || (env.scope.kind == .module && env.locals != env.globals)) = false)
    (hs : ∀ x, foldedSetIterable iter env x = pure x) (hclos : closureFor scope env = pure [(rg, CE)]) (hkind : scope.kind = .function) (hnames : ∀ x ∈ scope.names, x.2 = .local → scope.names.lookup x.1 = some .local)
    (hcell : ∀ y ∈ scope.names, y.2 ≠ .cell) (hc : ∀ C, (compEnvC scope [(rg, CE)] C env).kindOf c = some .local) (hrg : ∀ C, (compEnvC scope [(rg, CE)] C env).kindOf rg = some .cell)
    (hcd : (c == ("__debug__" : Str)) = false) (hrd : (rg == ("__debug__" : Str)) = false)
    (h : wpAny (model prog w) A (eval iter env) (fun v s₁ => ∃ T zs ns g tg, v = .ref T ∧ s₁.heap.IsTuple T (List.toArray zs) ∧ IntsAre zs ns ∧ (∀ n ∈ ns, 0 ≤ n ∧ n ≤ 1000) ∧ zs.length ≤ 1000 ∧ s₁.heap.IsCell CE (some (.int g tg)) ∧ 0 < g ∧ g ≤ 1000 ∧ (∃ m, s₁.heap.Ns env.locals m ∧
      ∀ D ys n h' tk', (∀ b o, b ≠ env.locals → s₁.heap.get? b = some o → h'.get? b = some o) → h'.Ns env.locals (fun x => if x = y then some (.ref D) else m x) → s₁.heap.objs.size ≤ D → (∃ o, h'.get? D = some o ∧ o.cls = .type "list" ∧ o.data = .seq (List.toArray ys) n) → IntsAre ys (ns.map fun x => Int.fdiv x g) → Q .next { s₁ with heap := h', toks := tk' })) (fun _ _ => False) s) :
    wpAny (model prog w) A (exec (.Assign [.Name y py] (.ListComp (.BinOp (.Name c p1) .FloorDiv (.Name rg p2) p3) [⟨.Name c p4, iter, [], 0⟩] scope pos) spos) env) Q (fun _ _ => False) s := by
  rw [exec_Assign_Name_used _ _ _ _ hsw]
  refine wpAny_bind (wpAny_standAt (wpAny_bind ?_))
  show wpAny _ A (do let _ ← comprehension (.ListComp (.BinOp (.Name c p1) .FloorDiv (.Name rg p2) p3) [⟨.Name c p4, iter, [], 0⟩] scope pos) scope env _ (newList []) false (eval iter env) (some (assign (.Name y py) env))) _ _ s
  refine wpAny_bind (wpAny_mono (wpAny_comprehension_free (use := some (assign (.Name y py) env)) (Q := fun _ s' => Q .next s') rfl hs hclos hkind hnames (wpAny_mono h (fun xv s₁ h₁ => ?_) fun _ _ e => e)) (fun _ s' hq => wpAny_pure (wpAny_pure hq)) fun _ _ e => e)
  refine ex5_9 (h₁) ?_
  clear h₁
  intro T zs ns g tg hq1_ hT hz hb hlen hce hg0 hg1 hq2_
  obtain rfl := hq1_
  refine ex1_2 (hq2_) ?_
  clear hq2_
  intro m hm k
  have hLlt := hm.lt
  refine wpAny_pyIter_tuple hT ?_
  have hTlt : T < s₁.heap.objs.size := by obtain ⟨o, e, _⟩ := hT; exact Heap.lt_size e
  refine wpAny_newObj_type (wpAny_newFunctionEnv hcell (by intro y hy; simp at hy) (fun h₁ hns₁ hsb₁ => ?_) hkind) (by size_fits)
  dsimp only at hns₁ hsb₁ ⊢
  simp only [Heap.size_push] at hns₁ hsb₁ ⊢
  have old : ∀ b o, s₁.heap.get? b = some o → h₁.get? b = some o := fun b o e => hsb₁.extBut b o (Nat.ne_of_lt (Nat.lt_succ_of_lt (Nat.lt_succ_of_lt (Heap.lt_size e)))) (Heap.get?_push_of_some _ (Heap.get?_push_of_some _ (Heap.get?_push_of_some _ e)))
  have hI₁ : h₁.IsTupleIter s₁.heap.objs.size T 0 := ⟨_, hsb₁.extBut _ _ (Nat.ne_of_lt (Nat.lt_succ_of_lt (Nat.lt_succ_self _))) (Heap.get?_push_of_some _ (Heap.get?_push_of_some _ (Heap.get?_push_size _ rfl))), rfl, rfl⟩
  have hD₁ : h₁.IsList (s₁.heap.objs.size + 1) (List.toArray []) := ⟨_, hsb₁.extBut _ _ (Nat.ne_of_lt (Nat.lt_succ_self _)) (Heap.get?_push_of_some _ (by
    have := Heap.get?_push_size (s₁.heap.push { cls := .type "tuple_iterator", data := .fields #[.ref T, .int 0 0] }) (o := { cls := .type "list", data := .seq ([] : List Value).toArray }) rfl
    rw [Heap.size_push] at this; exact this)), rfl, _, rfl⟩
  have main : ∀ (tk : Nat), codeAny (model prog w) A (.compLoop (.ListComp (.BinOp (.Name c p1) .FloorDiv (.Name rg p2) p3) [⟨.Name c p4, iter, [], 0⟩] scope pos) 0 (.ref s₁.heap.objs.size) (.ref (s₁.heap.objs.size + 1)) (compEnvC scope [(rg, CE)] (s₁.heap.objs.size + 1 + 1) env))
      (compPost (model prog w) A (fun _ _ => False) (some (assign (.Name y py) env)) (fun _ s' => Q .next s') (.ref (s₁.heap.objs.size + 1)) (s₁.heap.objs.size + 1 + 1)) { s₁ with heap := h₁, toks := tk } := by
    intro tk
    refine codeAny_compLoop_list (I := fun n s' => ∃ i ys h' tk m', s' = { s₁ with heap := h', toks := tk } ∧ n = zs.length - i ∧ i ≤ zs.length ∧ (∀ b o, s₁.heap.get? b = some o → h'.get? b = some o) ∧ h'.IsTupleIter s₁.heap.objs.size T i ∧ h'.IsList (s₁.heap.objs.size + 1) (List.toArray ys) ∧
      IntsAre ys ((ns.take i).map fun x => Int.fdiv x g) ∧ h'.Ns (s₁.heap.objs.size + 1 + 1) m') ?_ zs.length ⟨0, [], h₁, tk, _, rfl, rfl, Nat.zero_le _, old, hI₁, hD₁, .nil, hns₁⟩ (fun _ => rfl)
    intro n s' hq3_
    refine ex5_8 (hq3_) ?_
    clear hq3_
    intro i ys h' tk' m' hq4_ hq5_ hi old' hI hD hy hN
    obtain rfl := hq4_
    obtain rfl := hq5_
    have hT' : h'.IsTuple T (List.toArray zs) := by obtain ⟨o, e, r⟩ := hT; exact ⟨o, old' _ _ e, r⟩
    have hlenn : zs.length = ns.length := ints_len hz
    by_cases hlt : i < zs.length
    · refine ex1_1 ((⟨_, List.getElem?_eq_getElem (by lia)⟩ : ∃ nv, ns[i]? = some nv)) ?_
      intro nv hnv
      refine ex1_1 (ints_get hz hnv) ?_
      intro tv hv
      refine wpAny_pyNext_tuple_item hI hT' (x := .int nv tv) (by simpa using hv) fun h₂ hI₂ hs₂ => ?_
      refine wpAny_assign_Name (wpAny_storeName_local (hc _) (m := m') (by exact (hN.sameBut hs₂ (Nat.ne_of_gt (Nat.lt_succ_of_lt (Nat.lt_succ_self _))))) (fun h₃ hN₃ hs₃ => ?_) (by show ((relabel scope env).kind == .class || ((relabel scope env).kind == .module && _)) = false; rw [show (relabel scope env).kind = .function from hkind]; rfl))
      refine wpAny_BinOp (wpAny_Name (wpAny_loadName_local hkind (hc _) hN₃ (if_pos rfl) ?_) hcd)
      have old₃ : ∀ b o, s₁.heap.get? b = some o → h₃.get? b = some o := fun b o e => hs₃.extBut b o (Nat.ne_of_lt (Nat.lt_succ_of_lt (Nat.lt_succ_of_lt (Heap.lt_size e)))) (hs₂.extBut b o (Nat.ne_of_lt (Heap.lt_size e)) (old' b o e))
      have hb' := hb nv (List.mem_of_getElem? hnv)
      refine wpAny_Name (wpAny_loadName_cell hkind (hrg _) (by simp [compEnvC]) (hce.keeps old₃) ?_) hrd
      refine floordiv_int (by exact Int.ne_of_gt (by assumption)) ?_ (Or.inl (PyProof.noPylong_small (by (clear hb' old₃ hs₃ hN₃ hs₂ hI₂ hv hnv hlt hlenn hT' hN hy hD hI old' hi hD₁ hI₁ old hsb₁ hns₁ hTlt hLlt k hm hce hlen hb hz hT h hrd hcd hrg hc hcell hnames hkind hclos hs hp hyk hsw hh; omega))))
      have hD₃ : h₃.IsList (s₁.heap.objs.size + 1) (List.toArray ys) := (hD.extBut hs₂.extBut (Nat.ne_of_gt (Nat.lt_succ_self _))).extBut hs₃.extBut (Nat.ne_of_lt (Nat.lt_succ_self _))
      have hylen : ys.length ≤ 1000 := by rw [ints_len hy]; simp; lia
      refine wpAny_list_append hD₃ (fun h₄ hD₄ hs₄ => ?_) (by simp only [List.size_toArray]; exact Nat.le_trans hylen (by decide))
      refine ⟨zs.length - (i + 1), by lia, i + 1, ys ++ [.int (Int.fdiv nv g) (tk' + 1)], h₄, _, _, rfl, rfl, hlt, fun b o e => hs₄.extBut b o (Nat.ne_of_lt (Nat.lt_succ_of_lt (Heap.lt_size e))) (old₃ b o e), ?_, ?_, ?_, hN₃.sameBut hs₄ (Nat.ne_of_gt (Nat.lt_succ_self _))⟩
      · exact (hI₂.extBut hs₃.extBut (Nat.ne_of_lt (Nat.lt_succ_of_lt (Nat.lt_succ_self _)))).extBut hs₄.extBut (Nat.ne_of_lt (Nat.lt_succ_self _))
      · simpa using hD₄
      · rw [List.take_add_one, hnv, List.map_append]
        exact ints_snoc hy _ _
    · have hin : i = zs.length := by lia
      subst hin
      refine wpAny_pyNext_tuple_end hh hI hT' (by simp) fun h₂ hs₂ => ?_
      have keep₂ : ∀ b o, s₁.heap.get? b = some o → h₂.get? b = some o := fun b o e => hs₂ b o (Nat.ne_of_lt (Heap.lt_size e)) (old' b o e)
      have hne : env.locals ≠ s₁.heap.objs.size + 1 + 1 := Nat.ne_of_lt (Nat.lt_succ_of_lt (Nat.lt_succ_of_lt hLlt))
      show wpAny _ A (assign (.Name y py) env (.ref (s₁.heap.objs.size + 1))) _ _ _
      refine wpAny_assign_Name (wpAny_storeName_local hyk (hm.keeps keep₂) (fun h₃ hn₃ hs₃ => ?_) hp)
      refine ⟨_, (hN.extBut hs₂ (Nat.ne_of_gt (Nat.lt_succ_of_lt (Nat.lt_succ_self _)))).sameBut hs₃ (Ne.symm hne), fun h₄ hs₄ => ?_⟩
      refine ex1_3 (((hD.extBut hs₂ (Nat.ne_of_gt (Nat.lt_succ_self _))).extBut hs₃.extBut (Nat.ne_of_gt (Nat.lt_succ_of_lt hLlt))).extBut hs₄.extBut (Nat.ne_of_lt (Nat.lt_succ_self _))) ?_
      intro o ho hoc hq6_
      refine ex1_1 (hq6_) ?_
      clear hq6_
      intro n hod
      refine k _ ys n h₄ _ (fun b o hL e => hs₄.extBut b o (Nat.ne_of_lt (Nat.lt_succ_of_lt (Nat.lt_succ_of_lt (Heap.lt_size e)))) (hs₃.extBut b o hL (keep₂ b o e))) (hn₃.sameBut hs₄ hne) (Nat.le_succ _) ⟨o, ho, hoc, hod⟩ ?_
      rw [hlenn, List.take_length] at hy; exact hy
  refine codeAny_compStart_list (main _) (pyIter_tupit hI₁ (main _))
end

theorem callWith_star {M : Model} {A : Around} {E : Value → Shared → Prop} {s : Shared} {pos : Pos} {a : Addr} {first : List Value} {Q : Value → Shared → Prop} {x : Sem Value} {rest : List (Bool × Sem Value)} (hst : rest.any (·.1) = true)
    (h : wpAny M A (spliced ((false, x) :: rest)) (fun vs s₁ => (∃ o fd, s₁.heap.get? a = some o ∧ o.data = .func fd) ∧ wpAny M A (call (.ref a) (first ++ vs)) Q E s₁) E s) :
    wpAny M A (callWith pos (.ref a) first ((false, x) :: rest) []) Q E s := by
  unfold callWith
  refine wpAny_bind (wpAny_holding (wpAny_mono (evalArgs_plain (wpAny_mono h (fun vs s₁ h₁ => ?_) fun _ _ x => x)) (fun a s₁ h₁ => h₁) fun _ _ x => x))
  refine ex0_2 (h₁) ?_
  clear h₁
  intro hq7_ hc
  refine ex2_2 (hq7_) ?_
  clear hq7_
  intro o fd ho hd
  refine wpAny_bind (wpAny_standAt ?_)
  unfold keeperOf
  refine wpAny_bind (wpAny_bind (wpAny_load ho ?_))
  simp only [hd]
  refine wpAny_pure ?_
  simp only [List.any_cons, hst, Bool.false_or, Bool.true_or]
  refine wpAny_bind (wpAny_mono (show wpAny M A (callMarked starredCall (.ref a) (first ++ vs) []) Q E s₁ by unfold callMarked; exact Calls.wpAny_keep hc) (fun r s₂ hr => wpAny_bind (wpAny_holding (wpAny_point (wpAny_pure hr)))) fun _ _ x => x)

theorem spliced_star {prog : Program} {w : World} {A : Around} {E : Value → Shared → Prop} {s : Shared} {l : Addr} {o : Obj} {ys : List Value} {n : Nat} {x : Sem Value} {Q : List Value → Shared → Prop}
    (hsz : (List.toArray ys).size ≤ sizeLine)
    (h : wpAny (model prog w) A x (fun v s₁ => v = .ref l ∧ s₁.heap.get? l = some o ∧ o.cls = .type "list" ∧ o.data = .seq (List.toArray ys) n ∧ ∀ h', (∀ b o', s₁.heap.get? b = some o' → h'.get? b = some o') → Q ys { s₁ with heap := h' }) E s) :
    wpAny (model prog w) A (spliced [(true, x)]) Q E s := by
  unfold spliced
  refine wpAny_bind (wpAny_mono h (fun v s₁ h₁ => ?_) fun _ _ x => x)
  refine ex0_5 (h₁) ?_
  clear h₁
  intro hq8_ ho hc hd k
  obtain rfl := hq8_
  have hT : s₁.TypeIs (.ref l) "list" := ⟨o, ho, hc⟩
  dsimp only
  rw [if_pos rfl]
  refine wpAny_bind ?_
  unfold notIterableAtAll
  refine wpAny_bind (wpAny_specialOf hT slot_list_iter.lookup ?_)
  refine wpAny_pure ?_
  rw [if_neg Bool.false_ne_true]
  refine wpAny_bind (wpAny_collect_seq l (.inl rfl) ho hc hd (fun h' hk => ?_) hsz)
  refine wpAny_bind (wpAny_holding (wpAny_pure (wpAny_pure ?_)))
  simpa using k h' hk

theorem add2 {w : World} {A : Around} {dp un : Nat} {hb : Heap} {L : Addr} {m : Str → Option Value} {s : Shared} {t b : Addr} {vs ws : List Value} {Q : Value → Shared → Prop} {E : Value → Shared → Prop} (F : Fr hb L s.heap m) (ht : s.heap.get? t = some (tupObj vs)) (hb' : s.heap.get? b = some (tupObj ws)) (hv : vs ≠ []) (hw : ws ≠ [])
    (hsz : vs.length + ws.length ≤ sizeLine) (h1 : A.handled = none) (h2 : A.depth ≤ dp) (h3 : A.units ≤ un)
    (k : ∀ s', Fr hb L s'.heap m → Moves (fun b => b = L) (fun _ => False) s s' → s'.gens = s.gens → s'.heap.get? s.heap.objs.size = some (tupObj (vs ++ ws)) → Q (.ref s.heap.objs.size) s') : wpAny (MM w) A (binaryOp .Add (.ref t) (.ref b)) Q E s := by
  refine piece (dp := dp) (un := un) (R := fun a h' => a = .ref s.heap.objs.size ∧ Fr hb L h' m ∧ News hb L h' ((s.heap.objs.size, tupObj (vs ++ ws)) :: restOf hb s.heap L)) ?_ h1 h2 h3 ?_
  · exact add_tuples (s := wG s #[]) F rest_news ⟨_, ht, rfl, _, rfl⟩ ⟨_, hb', rfl, _, rfl⟩ (fun e => absurd e hv) (fun _ e => absurd e hw) (fun _ _ h' F' N' => ⟨rfl, rfl, rfl, F', N'⟩) hsz
  · intro a s' hg ho hz hq9_
    refine ex0_3 (hq9_) ?_
    clear hq9_
    intro hq10_ F' N'
    obtain rfl := hq10_
    exact k s' F' ⟨fun c o hL e => rest_kept F' N' (fun _ q => .tail _ q) F.keep c o hL e, hz, fun i x _ e => by rw [hg]; exact e, by rw [hg]; exact Nat.le_refl _, ho⟩ hg (N' _ (.head _)).1

theorem spliced_plain {M : Model} {A : Around} {E : Value → Shared → Prop} {s : Shared} {x : Sem Value} {rest : List (Bool × Sem Value)} {Q : List Value → Shared → Prop}
    (h : wpAny M A x (fun v s₁ => wpAny M A (spliced rest) (fun vs s₂ => Q (v :: vs) s₂) E s₁) E s) : wpAny M A (spliced ((false, x) :: rest)) Q E s := by
  show wpAny M A (x >>= _) Q E s
  refine wpAny_bind (wpAny_mono h (fun v s₁ h₁ => ?_) fun _ _ e => e)
  dsimp only
  rw [if_neg Bool.false_ne_true]
  refine wpAny_bind (wpAny_pure (wpAny_bind (wpAny_holding (wpAny_mono h₁ (fun vs s₂ h₂ => wpAny_pure h₂) fun _ _ e => e))))

set_option maxRecDepth 100000 in
set_option maxHeartbeats 8000000 in
open_top hd for PySem.Challenge.rw_jf0027_01

/-- what the top left, at a heap -/
structure Wd (w : World) (h : Heap) : Prop where
  X : (Mine.hd.heap_39 w.params).In h
  T : ∃ p loose mean mg mb, Top p loose mean mg mb h

theorem Wd.keeps {w : World} {h h' : Heap} (x : Wd w h) (k : ∀ b o, h.get? b = some o → h'.get? b = some o) : Wd w h' :=
  ⟨x.X.keeps k, let ⟨p, l, me, mg, mb, t⟩ := x.T; ⟨p, l, me, mg, mb, t.keeps k⟩⟩


local macro_rules | `(tactic| k_all) => `(tactic| assumption)
theorem upd_same {m : Str → Option Value} {x : Str} {v : Value} : (fun y => if y = x then some v else m y) x = some v := if_pos rfl
theorem gcd_step (a b : Int) (hb : 0 ≤ b) (h : b ≠ 0) : Int.gcd b (Int.fmod a b) = Int.gcd a b ∧ 0 ≤ Int.fmod a b ∧ (Int.fmod a b).toNat < b.toNat := by
  have e : Int.fmod a b = a % b := Int.fmod_eq_emod_of_nonneg a hb
  rw [e]
  have hm : a % b = a - b * (a / b) := by have := Int.emod_add_mul_ediv a b; (first | lia | omega)
  refine ⟨?_, Int.emod_nonneg _ h, ?_⟩
  · apply Nat.dvd_antisymm
    · refine Int.dvd_gcd ?_ (Int.gcd_dvd_left _ _)
      have h1 := Int.gcd_dvd_left b (a % b)
      have h2 := Int.gcd_dvd_right b (a % b)
      have : a = a % b + b * (a / b) := by (first | lia | omega)
      rw [this]
      exact Int.dvd_add (by rw [← this]; exact h2) (Int.dvd_trans (by rw [← this]; exact h1) (Int.dvd_mul_right _ _))
    · refine Int.dvd_gcd (Int.gcd_dvd_right _ _) ?_
      rw [hm]
      exact Int.dvd_sub (Int.gcd_dvd_left _ _) (Int.dvd_trans (Int.gcd_dvd_right _ _) (Int.dvd_mul_right _ _))
  · have := Int.emod_lt_of_pos a (show 0 < b by (first | lia | omega))
    have := Int.emod_nonneg a h
    (first | lia | omega)
set_option maxHeartbeats 1000000 in
theorem gcd_ok {w : World} {s : Shared} {a b : Int} {ta tb : Tok} (W : Wd w s.heap) (ha : 0 ≤ a) (hb : 0 ≤ b) :
    wpAny (model PP w) (AA 900 9000) (call (.ref 21) [.int a ta, .int b tb]) (fun v s' => Grew s s' ∧ ∃ t, v = .int (Int.gcd a b) t) (fun _ _ => False) s := by
  obtain ⟨X, p, loose, mean, mg, mb, T⟩ := W
  revert X
  show (Mine.hd.heap_39 w.params).In s.heap → wpAny (model PySem.Challenge.rw_jf0027_01.row.prog w) (AA 900 9000) (call (.ref 21) [.int a ta, .int b tb]) (fun v s' => Grew s s' ∧ ∃ t, v = .int (Int.gcd a b) t) (fun _ _ => False) s
  k_fill
  intro X
  have lim := T.nolimit
  refine' enter (K := Mine.hd.heap_39 w.params) (binds := [(Str.ofString "a", .int a ta), (Str.ofString "b", .int b tb)]) ?kW ?kl ?kR ?ko ?kc ?kb ?kloc ?kb2 ?c1 ?c2 ?c3 ?c4
  case ko => k_is
  case kc => k_is
  case kb => exact BindsTo.of_eq rfl
  case kloc => exact locs rfl
  case c1 => exact rfl
  case c2 => exact rfl
  case c3 => exact rfl
  case c4 => decide
  case kR => decide
  case kW => exact X
  case kl => exact lim
  k_whole
  intro L h₁ F N
  (repeat' (first | (with_reducible show wpAny _ _ _ _ _ _); (fail_if_success (first | (with_reducible show wpAny _ _ (exec (Stmt.While _ _ _ _) _) _ _ _) | (with_reducible show wpAny _ _ (exec (Stmt.For _ _ _ _ _) _) _ _ _) | (with_reducible show wpAny _ _ (call (Value.ref _) _ _) _ _ _))); (first | (first | ((with_reducible show wpAny _ _ (eval (.Name _ _) _) _ _ _); (refine' nameX_L ?zf ?zv ?_; (case zf => assumption); (case zv => (repeat' first | assumption | exact if_pos rfl | refine (if_neg (by decide)).trans ?_)))) | walk1) | (dsimp only; walk1)) | (with_reducible show ite _ _ _); split; all_goals (try (rename_i hq; exfalso; simp only [decide_eq_true_eq, Bool.not_eq_true, decide_eq_false_iff_not, beq_iff_eq, bne_iff_ne, beq_eq_false_iff_ne, bne_eq_false_iff_eq, ne_eq, Bool.false_eq_true, not_true_eq_false, not_false_eq_true] at hq <;> first | lia | omega))))
  trace_state
  rename Fr _ _ _ _ => F'
  rename News _ _ _ _ => N'
  refine While_inv (n₀ := b.toNat) (fun n m _ => ∃ x y : Int, ∃ tx ty, m (Str.ofString "a") = some (.int x tx) ∧ m (Str.ofString "b") = some (.int y ty) ∧ 0 ≤ x ∧ 0 ≤ y ∧ Int.gcd x y = Int.gcd a b ∧ n = y.toNat) F' N' ?_ ?_
  · refine ⟨_, _, _, _, rfl, rfl, ?_, ?_, ?_, ?_⟩ <;> simp [Int.not_lt.mpr ha, Int.not_lt.mpr hb, ha, hb]
  · intro n m₁ news₁ h₁ tk₁ F₁ N₁ hq1_
    refine ex4_6 (hq1_) ?_
    clear hq1_
    intro x y tx ty hma hmb hx hy hg hq2_
    obtain rfl := hq2_
    clear F' N'
    (repeat' (first | (with_reducible show wpAny _ _ _ _ _ _); (fail_if_success (first | (with_reducible show wpAny _ _ (exec (Stmt.While _ _ _ _) _) _ _ _) | (with_reducible show wpAny _ _ (exec (Stmt.For _ _ _ _ _) _) _ _ _) | (with_reducible show wpAny _ _ (call (Value.ref _) _ _) _ _ _))); (first | (first | ((with_reducible show wpAny _ _ (eval (.Name _ _) _) _ _ _); (refine' nameX_L ?zf ?zv ?_; (case zf => assumption); (case zv => (repeat' first | assumption | exact if_pos rfl | refine (if_neg (by decide)).trans ?_)))) | walk1) | (dsimp only; walk1)) | (with_reducible show ite _ _ _); split; all_goals (try (rename_i hq; exfalso; simp only [decide_eq_true_eq, Bool.not_eq_true, decide_eq_false_iff_not, beq_iff_eq, bne_iff_ne, beq_eq_false_iff_ne, bne_eq_false_iff_eq, ne_eq, Bool.false_eq_true, not_true_eq_false, not_false_eq_true] at hq <;> first | lia | omega))))
    · rename (y != 0) = true => hyb
      have hy0 : y ≠ 0 := by simpa using hyb
      have st := gcd_step x y hy hy0
      refine WhileStep.intro (by assumption) (by assumption) (n' := (Int.fmod x y).toNat) st.2.2 ⟨y, Int.fmod x y, _, _, (by (repeat' first | assumption | exact if_pos rfl | refine (if_neg (by decide)).trans ?_)), (by (repeat' first | assumption | exact if_pos rfl | refine (if_neg (by decide)).trans ?_)), hy, st.2.1, st.1.trans hg, rfl⟩
    · rename_i hyb
      have hy0 : y = 0 := by simpa using hyb
      subst hy0
      exact ⟨⟨F₁.keep, rfl, rfl, rfl⟩, tx, by rw [← hg, Int.gcd_zero, Int.natAbs_of_nonneg hx]⟩

theorem fmod_facts (a : Int) {b : Int} (h : 0 < b) : 0 ≤ Int.fmod a b ∧ Int.fmod a b < b ∧ a = b * Int.fdiv a b + Int.fmod a b := by
  have e := Int.fmod_eq_emod_of_nonneg a (show 0 ≤ b by exact Int.le_of_lt (by assumption))
  refine ⟨by rw [e]; exact Int.emod_nonneg _ (by exact Int.ne_of_gt (by assumption)), by rw [e]; exact Int.emod_lt_of_pos _ h, ?_⟩
  have := Int.mul_fdiv_add_fmod a b
  (clear h; omega)
noncomputable def euclidN : Nat → Int → Int → Int × Int × Int
  | 0, a, _ => (1, 0, a)
  | n + 1, a, b => if b ≤ 0 then (1, 0, a) else
    ((euclidN n b (Int.fmod a b)).2.1, (euclidN n b (Int.fmod a b)).1 - Int.fdiv a b * (euclidN n b (Int.fmod a b)).2.1, (euclidN n b (Int.fmod a b)).2.2)
noncomputable def euclid (a b : Int) : Int × Int × Int := euclidN b.toNat a b
noncomputable def estepsN : Nat → Int → Int → Nat
  | 0, _, _ => 0
  | n + 1, a, b => if b ≤ 0 then 0 else estepsN n b (Int.fmod a b) + 1
noncomputable def esteps (a b : Int) : Nat := estepsN b.toNat a b
theorem euclidN_enough : ∀ (n m : Nat) (a b : Int), b.toNat ≤ n → b.toNat ≤ m → euclidN n a b = euclidN m a b ∧ estepsN n a b = estepsN m a b
  | 0, 0, _, _, _, _ => ⟨rfl, rfl⟩
  | 0, m + 1, a, b, h, _ => by
    have : b ≤ 0 := by lia
    exact ⟨(if_pos this).symm, (if_pos this).symm⟩
  | n + 1, 0, a, b, _, h => by
    have : b ≤ 0 := by lia
    exact ⟨if_pos this, if_pos this⟩
  | n + 1, m + 1, a, b, h1, h2 => by
    by_cases hb : b ≤ 0
    · exact ⟨(if_pos hb).trans (if_pos hb).symm, (if_pos hb).trans (if_pos hb).symm⟩
    · have f := fmod_facts a (Int.lt_of_not_ge hb)
      refine ex0_2 (euclidN_enough n m b (Int.fmod a b) (by first | lia | omega) (by first | lia | omega)) ?_
      intro e1 e2
      refine ⟨(if_neg hb).trans (Eq.trans ?_ (if_neg hb).symm), (if_neg hb).trans (Eq.trans ?_ (if_neg hb).symm)⟩
      · rw [e1]
      · rw [e2]
theorem euclid_zero (a : Int) : euclid a 0 = (1, 0, a) := rfl
theorem euclid_pos (a : Int) {b : Int} (h : 0 < b) : euclid a b = ((euclid b (Int.fmod a b)).2.1, (euclid b (Int.fmod a b)).1 - Int.fdiv a b * (euclid b (Int.fmod a b)).2.1, (euclid b (Int.fmod a b)).2.2) := by
  have f := fmod_facts a h
  refine ex1_1 ((⟨b.toNat - 1, by first | lia | omega⟩ : ∃ n, b.toNat = n + 1)) ?_
  intro n hn
  have e := (euclidN_enough n (Int.fmod a b).toNat b (Int.fmod a b) (by first | lia | omega) (by first | lia | omega)).1
  unfold euclid
  rw [hn, ← e]
  exact if_neg (by first | lia | omega)
theorem esteps_zero (a : Int) : esteps a 0 = 0 := rfl
theorem esteps_pos (a : Int) {b : Int} (h : 0 < b) : esteps a b = esteps b (Int.fmod a b) + 1 := by
  have f := fmod_facts a h
  refine ex1_1 ((⟨b.toNat - 1, by first | lia | omega⟩ : ∃ n, b.toNat = n + 1)) ?_
  intro n hn
  have e := (euclidN_enough n (Int.fmod a b).toNat b (Int.fmod a b) (by first | lia | omega) (by first | lia | omega)).2
  unfold esteps
  rw [hn, ← e]
  exact if_neg (by first | lia | omega)
theorem fdiv_nonneg' {a b : Int} (ha : 0 ≤ a) (h : 0 < b) : 0 ≤ Int.fdiv a b := by
  rw [Int.fdiv_eq_ediv_of_nonneg a (by lia)]
  exact Int.ediv_nonneg ha (by lia)

structure EuSpec (a b x y d : Int) : Prop where
  eq : a * x + b * y = d
  gcd : d = Int.gcd a b
  bx : 0 < b → x * d ≤ b ∧ -b ≤ x * d
  by_ : 0 < b → (y * d ≤ a ∧ -a ≤ y * d) ∨ (x = 0 ∧ y = 1 ∧ d = b)

theorem euclid_spec : ∀ (n : Nat) (a b : Int), b.toNat = n → 0 ≤ a → 0 ≤ b → EuSpec a b (euclid a b).1 (euclid a b).2.1 (euclid a b).2.2 := by
  intro n
  induction n using Nat.strongRecOn with
  | ind n ih =>
  intro a b hn ha hb
  by_cases h0 : b = 0
  · subst h0
    rw [euclid_zero]
    exact ⟨by simp, by simp [Int.natAbs_of_nonneg ha], fun h => absurd h (by simp), fun h => absurd h (by simp)⟩
  have hb' : 0 < b := by lia
  refine ex0_3 (fmod_facts a hb') ?_
  intro r0 r1 hq
  have q0 := fdiv_nonneg' ha hb'
  have st := gcd_step a b hb h0
  have IH := ih (Int.fmod a b).toNat (by (clear q0 hq r1 r0 hb' h0 hb ha ih; omega)) b (Int.fmod a b) rfl hb r0
  rw [euclid_pos a hb']
  generalize hE : euclid b (Int.fmod a b) = E at IH ⊢
  obtain ⟨x, y, d⟩ := E
  dsimp only at IH ⊢
  generalize Int.fmod a b = r at *
  generalize Int.fdiv a b = q at *
  obtain ⟨h1, h2, h3, h4⟩ := IH
  have hd : 0 < d := by
    rw [h2]; exact Int.ofNat_lt.mpr (Int.gcd_pos_of_ne_zero_left _ h0)
  have hdb : d ≤ b := by rw [h2]; exact Int.gcd_le_left _ hb'
  have hyd : y * d ≤ b ∧ -b ≤ y * d := by
    by_cases hr : 0 < r
    · rcases h4 hr with h | ⟨_, h, _⟩
      · exact h
      · rw [h]; (clear h hdb hd h4 h3 h2 h1 hq q0 hE st r0 hb' h0 hb ha hn ih; omega)
    · have : r = 0 := by lia
      subst this
      rw [euclid_zero] at hE
      cases hE; lia
  refine ⟨?_, ?_, fun _ => hyd, fun _ => ?_⟩
  · rw [hq, Int.mul_sub]
    have e1 : (b * q + r) * y = b * q * y + r * y := Int.add_mul _ _ _
    have e2 : b * (q * y) = b * q * y := (Int.mul_assoc _ _ _).symm
    rw [e1, e2]; lia
  · rw [h2, st.1]
  · by_cases hr : 0 < r
    · left
      have hx := h3 hr
      have e : (x - q * y) * d = x * d - q * (y * d) := by rw [Int.sub_mul, Int.mul_assoc]
      have g1 := Int.mul_le_mul_of_nonneg_left hyd.1 q0
      have g2 := Int.mul_le_mul_of_nonneg_left hyd.2 q0
      have e3 : q * -b = -(q * b) := Int.mul_neg _ _
      have e4 : q * b = b * q := Int.mul_comm _ _
      rw [e]; (clear e4 e3 e hx hyd hdb hd h4 h2 h1 q0 hE st r1 r0 hb' h0 hb ha hn ih; lia)
    · have : r = 0 := by lia
      subst this
      rw [euclid_zero] at hE
      cases hE
      right; simp

theorem le_of_mul_le {x d b : Int} (hd : 0 < d) (h : x * d ≤ b) (hb : 0 ≤ b) : x ≤ b := by
  by_cases hx : 0 ≤ x
  · have := Int.mul_le_mul_of_nonneg_left (show (1 : Int) ≤ d by assumption) hx
    lia
  · (clear h hd; lia)
theorem euclid_bound (a b : Int) (ha : 0 ≤ a) (hb : 0 ≤ b) (M : Int) (hM : 1 ≤ M) (h1 : a ≤ M) (h2 : b ≤ M) :
    (euclid a b).1 ≤ M ∧ -M ≤ (euclid a b).1 ∧ (euclid a b).2.1 ≤ M ∧ -M ≤ (euclid a b).2.1 := by
  by_cases h0 : b = 0
  · subst h0; rw [euclid_zero]; dsimp only; lia
  have hb' : 0 < b := by lia
  obtain ⟨_, s2, s3, s4⟩ := euclid_spec _ a b rfl ha hb
  generalize euclid a b = E at *
  obtain ⟨x, y, d⟩ := E
  dsimp only at *
  have hd : 0 < d := by rw [s2]; exact Int.ofNat_lt.mpr (Int.gcd_pos_of_ne_zero_right _ h0)
  have hx := s3 hb'
  have x1 := le_of_mul_le hd hx.1 hb
  have x2 := le_of_mul_le (x := -x) hd (by rw [Int.neg_mul]; (clear x1 hd s4 s3 s2 hb' h0 h2 h1 hM hb ha; omega)) hb
  rcases s4 hb' with hy | ⟨_, hy, _⟩
  · have y1 := le_of_mul_le hd hy.1 ha
    have y2 := le_of_mul_le (x := -y) hd (by rw [Int.neg_mul]; lia) ha
    (clear hy hx hd s4 s3 s2 hb' h0 hM hb ha; lia)
  · lia

theorem News.add {h₀ h h' : Heap} {L D : Addr} {m : Str → Option Value} {news : List (Addr × Obj)} {o : Obj} (F : Fr h₀ L h m) (N : News h₀ L h' news) (hD : h.get? D = none) (ho : h'.get? D = some o) : News h₀ L h' ((D, o) :: news) := by
  intro p hp
  rcases List.mem_cons.mp hp with rfl | hp
  · refine ⟨ho, fun e => ?_, ?_⟩
    · refine ex3_2 (F.ns) ?_
      intro oL _ _ hL _
      rw [show D = L from e, hL] at hD; cases hD
    · cases q : h₀.get? D with
      | none => rfl
      | some o' => rw [F.keep D o' q] at hD; cases hD
  · exact N p hp

set_option maxHeartbeats 1000000 in
theorem euclid_ok {w : World} : ∀ (n : Nat) (a b : Int) (dp un : Nat) (s : Shared) (ta tb : Tok), esteps a b = n → Wd w s.heap → 0 ≤ a → 0 ≤ b → a ≤ 1073741823 → b ≤ 1073741823 → dp + n < 900 → un + 3 * n < 9000 →
    wpAny (model PP w) (AA dp un) (call (.ref 28) [.int a ta, .int b tb]) (fun v s' => Grew s s' ∧ NewTup s.heap [(euclid a b).1, (euclid a b).2.1, (euclid a b).2.2] v s') (fun _ _ => False) s := by
  intro n
  induction n using Nat.strongRecOn with
  | ind n ih =>
  intro a b dp un s ta tb hn W ha hb ha2 hb2 hd hu
  have W' := W
  obtain ⟨X, p, loose, mean, mg, mb, T⟩ := W
  revert X
  show (Mine.hd.heap_39 w.params).In s.heap → wpAny (model PySem.Challenge.rw_jf0027_01.row.prog w) (AA dp un) (call (.ref 28) [.int a ta, .int b tb]) (fun v s' => Grew s s' ∧ NewTup s.heap [(euclid a b).1, (euclid a b).2.1, (euclid a b).2.2] v s') (fun _ _ => False) s
  k_fill
  intro X
  have lim := T.nolimit
  refine' enter (K := Mine.hd.heap_39 w.params) (binds := [(Str.ofString "a", .int a ta), (Str.ofString "b", .int b tb)]) ?kW ?kl ?kR ?ko ?kc ?kb ?kloc ?kb2 ?c1 ?c2 ?c3 ?c4
  case ko => k_is
  case kc => k_is
  case kb => exact BindsTo.of_eq rfl
  case kloc => exact locs rfl
  case c1 => exact rfl
  case c2 => exact rfl
  case c3 => exact rfl
  case c4 => decide
  case kR => simp only [recursionLimit]; (first | lia | omega)
  case kW => exact X
  case kl => exact lim
  k_whole
  intro L h₁ F N
  (repeat' (first | (with_reducible show wpAny _ _ _ _ _ _); (fail_if_success (first | (with_reducible show wpAny _ _ (exec (Stmt.While _ _ _ _) _) _ _ _) | (with_reducible show wpAny _ _ (exec (Stmt.For _ _ _ _ _) _) _ _ _) | (with_reducible show wpAny _ _ (call (Value.ref _) _ _) _ _ _))); (first | (first | ((with_reducible show wpAny _ _ (eval (.Name _ _) _) _ _ _); (refine' nameX_L ?zf ?zv ?_; (case zf => assumption); (case zv => (repeat' first | assumption | exact if_pos rfl | refine (if_neg (by decide)).trans ?_)))) | ((with_reducible show wpAny _ _ (binaryOp .FloorDiv (.int _ _) (.int _ _)) _ _ _); refine floordiv_int (by first | lia | omega) ?_ (Or.inl (PyProof.noPylong_small (by first | lia | omega)))) | ((with_reducible show wpAny _ _ (binaryOp .Mult (.int _ _) (.int _ _)) _ _ _); first | refine PyProof.Rows.mul_int ?_ (PySem.IntMulOk.of_right (PySem.intBits_le_64 (by first | lia | omega) (by first | lia | omega))) | refine PyProof.Rows.mul_int ?_ (PySem.IntMulOk.of_left (PySem.intBits_le_64 (by first | lia | omega) (by first | lia | omega)))) | walk1) | (dsimp only; walk1)) | (with_reducible show ite _ _ _); split; all_goals (try (rename_i hq; exfalso; simp only [decide_eq_true_eq, Bool.not_eq_true, decide_eq_false_iff_not, beq_iff_eq, bne_iff_ne, beq_eq_false_iff_ne, bne_eq_false_iff_eq, ne_eq, Bool.false_eq_true, not_true_eq_false, not_false_eq_true] at hq <;> first | lia | omega))))
  · rename (b == 0) = true => h0
    have h0 : b = 0 := by simpa using h0
    subst h0
    rename News _ _ _ _ => N'
    rename Fr _ _ _ _ => F'
    refine ⟨⟨F'.keep, rfl, rfl, rfl⟩, _, _, rfl, (N' _ (.head _)).2.2, (N' _ (.head _)).1, ?_⟩
    rw [euclid_zero]
    exact .cons _ _ (.cons _ _ (.cons _ _ .nil))
  · rename ¬ (b == 0) = true => h0
    have h0 : b ≠ 0 := by simpa using h0
    have hb' : 0 < b := by (first | lia | omega)
    have hr : 0 ≤ Int.fmod a b := by rw [Int.fmod_eq_emod_of_nonneg a hb]; exact Int.emod_nonneg _ h0
    have hs := esteps_pos a hb'
    refine ⟨X.keeps F.keep, ?_⟩
    refine use F N (ih (esteps b (Int.fmod a b)) (by (first | lia | omega)) b (Int.fmod a b) (dp + 1) (un + 3) _ _ _ rfl (W'.keeps F.keep) hb hr hb2 (by have := fmod_facts a hb'; (first | lia | omega)) (by (first | lia | omega)) (by (first | lia | omega))) rfl (Nat.le_refl _) (Nat.le_refl _) ?_
    intro v h' tk' F₁ N₁ hk hq1_
    refine ex2_4 (hq1_) ?_
    clear hq1_
    intro D vs hq2_ hD hD' hI
    obtain rfl := hq2_
    have N₂ := News.add F N₁ hD hD'
    have hp := euclid_pos a hb'
    have hB := euclid_bound b (Int.fmod a b) hb hr 1073741823 (by (first | lia | omega)) hb2 (by have := fmod_facts a hb'; (first | lia | omega))
    refine ex3_1 (ints3 hI) ?_
    intro tx ty td hq3_
    obtain rfl := hq3_
    clear hI
    clear F N N₁
    (repeat' (first | (with_reducible show wpAny _ _ _ _ _ _); (fail_if_success (first | (with_reducible show wpAny _ _ (exec (Stmt.While _ _ _ _) _) _ _ _) | (with_reducible show wpAny _ _ (exec (Stmt.For _ _ _ _ _) _) _ _ _) | (with_reducible show wpAny _ _ (call (Value.ref _) _ _) _ _ _))); (first | (first | ((with_reducible show wpAny _ _ (eval (.Name _ _) _) _ _ _); (refine' nameX_L ?zf ?zv ?_; (case zf => assumption); (case zv => (repeat' first | assumption | exact if_pos rfl | refine (if_neg (by decide)).trans ?_)))) | ((with_reducible show wpAny _ _ (binaryOp .FloorDiv (.int _ _) (.int _ _)) _ _ _); refine floordiv_int (by first | lia | omega) ?_ (Or.inl (PyProof.noPylong_small (by first | lia | omega)))) | ((with_reducible show wpAny _ _ (binaryOp .Mult (.int _ _) (.int _ _)) _ _ _); first | refine PyProof.Rows.mul_int ?_ (PySem.IntMulOk.of_right (PySem.intBits_le_64 (by first | lia | omega) (by first | lia | omega))) | refine PyProof.Rows.mul_int ?_ (PySem.IntMulOk.of_left (PySem.intBits_le_64 (by first | lia | omega) (by first | lia | omega)))) | walk1) | (dsimp only; walk1)) | (with_reducible show ite _ _ _); split; all_goals (try (rename_i hq; exfalso; simp only [decide_eq_true_eq, Bool.not_eq_true, decide_eq_false_iff_not, beq_iff_eq, bne_iff_ne, beq_eq_false_iff_ne, bne_eq_false_iff_eq, ne_eq, Bool.false_eq_true, not_true_eq_false, not_false_eq_true] at hq <;> first | lia | omega))))
    rename News _ _ _ _ => N'
    rename Fr _ _ _ _ => F'
    refine ⟨⟨F'.keep, rfl, rfl, rfl⟩, _, _, rfl, (N' _ (.head _)).2.2, (N' _ (.head _)).1, ?_⟩
    rw [hp]
    exact .cons _ _ (.cons _ _ (.cons _ _ .nil))

theorem esteps_le : ∀ (k : Nat) (a b : Int), 0 ≤ b → b < 2 ^ k → esteps a b ≤ 2 * k := by
  intro k
  induction k with
  | zero =>
    intro a b h0 h
    have : b = 0 := by simp at h; lia
    subst this
    rw [esteps_zero]; simp
  | succ k ih =>
    intro a b h0 h
    have hp : (2 : Int) ^ (k + 1) = 2 * 2 ^ k := by rw [Int.pow_succ]; lia
    rw [hp] at h
    by_cases hb : b = 0
    · subst hb; rw [esteps_zero]; simp
    have hb' : 0 < b := by lia
    rw [esteps_pos a hb']
    refine ex0_3 (fmod_facts a hb') ?_
    intro r0 r1 _
    generalize Int.fmod a b = r at *
    by_cases hr : r = 0
    · subst hr; rw [esteps_zero]; simp; lia
    have hr' : 0 < r := by lia
    rw [esteps_pos b hr']
    refine ex0_3 (fmod_facts b hr') ?_
    intro t0 t1 ht
    have q1 : 1 ≤ Int.fdiv b r := by
      by_cases q : 1 ≤ Int.fdiv b r
      · exact q
      · have : r * Int.fdiv b r ≤ r * 0 := Int.mul_le_mul_of_nonneg_left (by (clear ht t1 t0 hr' hr r1 r0 hb' hb hp h h0 ih; omega)) (by omega)
        (clear q t0 hr' hr r0 hb' hb hp h h0 ih; omega)
    have : r * 1 ≤ r * Int.fdiv b r := Int.mul_le_mul_of_nonneg_left q1 (by omega)
    have := ih r (Int.fmod b r) t0 (by (clear q1 t0 hr' hr r1 r0 hb' hb hp h0 ih; omega))
    lia

noncomputable def upN (a b : Int) : Nat → Int → Int → List (List Int)
  | 0, _, _ => []
  | n + 1, x, y => if 0 ≤ y ∧ 0 < a then (if 0 ≤ x then [[x, y]] else []) ++ upN a b n (x + b) (y - a) else []
noncomputable def up (a b x y : Int) : List (List Int) := upN a b (y + 1).toNat x y
noncomputable def downN (a b : Int) : Nat → Int → Int → List (List Int)
  | 0, _, _ => []
  | n + 1, x, y => if 0 ≤ x ∧ 0 < b then (if 0 ≤ y then [[x, y]] else []) ++ downN a b n (x - b) (y + a) else []
noncomputable def down (a b x y : Int) : List (List Int) := downN a b (x + 1).toNat x y
theorem upN_enough (a b : Int) : ∀ (n m : Nat) (x y : Int), (y + 1).toNat ≤ n → (y + 1).toNat ≤ m → upN a b n x y = upN a b m x y
  | 0, 0, _, _, _, _ => rfl
  | 0, m + 1, x, y, h, _ => (if_neg (by first | lia | omega)).symm
  | n + 1, 0, x, y, _, h => if_neg (by first | lia | omega)
  | n + 1, m + 1, x, y, h1, h2 => by
    by_cases hb : 0 ≤ y ∧ 0 < a
    · refine (if_pos hb).trans (Eq.trans ?_ (if_pos hb).symm)
      rw [upN_enough a b n m _ _ (by first | lia | omega) (by first | lia | omega)]
    · exact (if_neg hb).trans (if_neg hb).symm
theorem downN_enough (a b : Int) : ∀ (n m : Nat) (x y : Int), (x + 1).toNat ≤ n → (x + 1).toNat ≤ m → downN a b n x y = downN a b m x y
  | 0, 0, _, _, _, _ => rfl
  | 0, m + 1, x, y, h, _ => (if_neg (by first | lia | omega)).symm
  | n + 1, 0, x, y, _, h => if_neg (by first | lia | omega)
  | n + 1, m + 1, x, y, h1, h2 => by
    by_cases hb : 0 ≤ x ∧ 0 < b
    · refine (if_pos hb).trans (Eq.trans ?_ (if_pos hb).symm)
      rw [downN_enough a b n m _ _ (by first | lia | omega) (by first | lia | omega)]
    · exact (if_neg hb).trans (if_neg hb).symm
theorem up_empty {a b x y : Int} (h : ¬ (0 ≤ y ∧ 0 < a)) : up a b x y = [] := by
  unfold up
  cases (y + 1).toNat with
  | zero => rfl
  | succ n => exact if_neg h
theorem up_cons {a b x y : Int} (h : 0 ≤ y ∧ 0 < a) : up a b x y = (if 0 ≤ x then [[x, y]] else []) ++ up a b (x + b) (y - a) := by
  refine ex1_1 ((⟨(y + 1).toNat - 1, by first | lia | omega⟩ : ∃ n, (y + 1).toNat = n + 1)) ?_
  intro n hn
  unfold up
  rw [hn, ← upN_enough a b n (y - a + 1).toNat _ _ (by first | lia | omega) (by first | lia | omega)]
  exact if_pos h
theorem down_empty {a b x y : Int} (h : ¬ (0 ≤ x ∧ 0 < b)) : down a b x y = [] := by
  unfold down
  cases (x + 1).toNat with
  | zero => rfl
  | succ n => exact if_neg h
theorem down_cons {a b x y : Int} (h : 0 ≤ x ∧ 0 < b) : down a b x y = (if 0 ≤ y then [[x, y]] else []) ++ down a b (x - b) (y + a) := by
  refine ex1_1 ((⟨(x + 1).toNat - 1, by first | lia | omega⟩ : ∃ n, (x + 1).toNat = n + 1)) ?_
  intro n hn
  unfold down
  rw [hn, ← downN_enough a b n (x - b + 1).toNat _ _ (by first | lia | omega) (by first | lia | omega)]
  exact if_pos h
noncomputable def baseL (a b c : Int) : List (List Int) :=
  let d : Int := Int.gcd a (Int.gcd b c)
  let a' := Int.fdiv a d; let b' := Int.fdiv b d; let c' := Int.fdiv c d
  if c' = 0 then [[0, 0]] else
    let e := euclid a' b'
    if Int.fmod c' e.2.2 ≠ 0 then [] else
      if c' * e.1 ≤ 0 then up a' b' (c' * e.1) (c' * e.2.1) else down a' b' (c' * e.1) (c' * e.2.1)

theorem gd_facts {a b c : Int} (ha : 0 < a) (hb : 0 < b) (hc : 0 ≤ c) : let d : Int := Int.gcd a (Int.gcd b c)
    0 < d ∧ 0 < Int.fdiv a d ∧ Int.fdiv a d ≤ a ∧ 0 < Int.fdiv b d ∧ Int.fdiv b d ≤ b ∧ 0 ≤ Int.fdiv c d ∧ Int.fdiv c d ≤ c ∧ d * Int.fdiv a d = a ∧ d * Int.fdiv b d = b ∧ d * Int.fdiv c d = c := by
  intro d
  have hd : 0 < d := Int.ofNat_lt.mpr (Int.gcd_pos_of_ne_zero_left _ (by exact Int.ne_of_gt (by assumption)))
  have da : d ∣ a := Int.gcd_dvd_left _ _
  have dg : d ∣ (Int.gcd b c : Int) := Int.gcd_dvd_right _ _
  have db : d ∣ b := Int.dvd_trans dg (Int.gcd_dvd_left _ _)
  have dc : d ∣ c := Int.dvd_trans dg (Int.gcd_dvd_right _ _)
  have key : ∀ z : Int, d ∣ z → 0 ≤ z → d * Int.fdiv z d = z ∧ 0 ≤ Int.fdiv z d ∧ Int.fdiv z d ≤ z := by
    intro z hz h0
    have e : d * Int.fdiv z d = z := by
      rw [Int.fdiv_eq_ediv_of_nonneg z (by exact Int.le_of_lt (by assumption))]
      exact Int.mul_ediv_cancel' hz
    have n := fdiv_nonneg' h0 hd
    have : 1 * Int.fdiv z d ≤ d * Int.fdiv z d := Int.mul_le_mul_of_nonneg_right (by assumption) n
    exact ⟨e, n, by (clear n h0 hz dc db dg da hd hc hb ha; omega)⟩
  refine ex0_3 (key a da (by exact Int.le_of_lt (by assumption))) ?_
  intro a1 a2 a3
  refine ex0_3 (key b db (by lia)) ?_
  intro b1 b2 b3
  refine ex0_3 (key c dc (by omega)) ?_
  intro c1 c2 c3
  refine ⟨hd, ?_, a3, ?_, b3, c2, c3, a1, b1, c1⟩
  · rcases Int.lt_or_eq_of_le a2 with h | h
    · exact h
    · rw [← h] at a1; simp at a1; lia
  · rcases Int.lt_or_eq_of_le b2 with h | h
    · exact h
    · rw [← h] at b1; simp at b1; lia

theorem fdiv_dvd {g c : Int} (hg : 0 < g) (hc : 0 < c) (h : g ∣ c) : 0 < Int.fdiv c g ∧ Int.fdiv c g ≤ c ∧ g * Int.fdiv c g = c := by
  have e : g * Int.fdiv c g = c := by
    rw [Int.fdiv_eq_ediv_of_nonneg c (by (first | lia | omega))]
    exact Int.mul_ediv_cancel' h
  have n := fdiv_nonneg' (show 0 ≤ c by (first | lia | omega)) hg
  have h1 : 1 * Int.fdiv c g ≤ g * Int.fdiv c g := Int.mul_le_mul_of_nonneg_right (by (first | lia | omega)) n
  refine ⟨?_, by (first | lia | omega), e⟩
  rcases Int.lt_or_eq_of_le n with q | q
  · exact q
  · rw [← q] at e; simp at e; (first | lia | omega)

theorem up_mem {a b : Int} (ha : 0 < a) {p : List Int} : ∀ (n : Nat) (x y : Int), (y + 1).toNat = n → (p ∈ up a b x y ↔ ∃ k : Nat, p = [x + k * b, y - k * a] ∧ 0 ≤ x + k * b ∧ 0 ≤ y - k * a) := by
  intro n
  induction n using Nat.strongRecOn with
  | ind n ih =>
  intro x y hn
  by_cases hy : 0 ≤ y
  · rw [up_cons ⟨hy, ha⟩, List.mem_append, ih (y - a + 1).toNat (by (first | lia | omega)) (x + b) (y - a) rfl]
    constructor
    · rintro (h | ⟨k, rfl, h1, h2⟩)
      · split at h
        · refine ⟨0, ?_, by simpa, by simpa⟩
          simpa using h
        · cases h
      · have e1 : ((k + 1 : Nat) : Int) * b = k * b + b := by rw [Int.natCast_add, Int.add_mul]; simp
        have e2 : ((k + 1 : Nat) : Int) * a = k * a + a := by rw [Int.natCast_add, Int.add_mul]; simp
        refine ⟨k + 1, ?_, by (first | lia | omega), by (first | lia | omega)⟩
        rw [e1, e2]
        congr 1
        · (first | lia | omega)
        · congr 1; (first | lia | omega)
    · intro hq1_
      refine ex1_3 (hq1_) ?_
      clear hq1_
      intro k hq2_ h1 h2
      obtain rfl := hq2_
      cases k with
      | zero => left; simp at h1 ⊢; simp [h1]
      | succ k =>
        have e1 : ((k + 1 : Nat) : Int) * b = k * b + b := by rw [Int.natCast_add, Int.add_mul]; simp
        have e2 : ((k + 1 : Nat) : Int) * a = k * a + a := by rw [Int.natCast_add, Int.add_mul]; simp
        right
        rw [e1] at h1
        rw [e2] at h2
        rw [e1, e2]
        refine ⟨k, ?_, by (first | lia | omega), by (first | lia | omega)⟩
        congr 1
        · (first | lia | omega)
        · congr 1; (first | lia | omega)
  · rw [up_empty (fun q => hy q.1)]
    constructor
    · intro h; cases h
    · intro hq3_
      refine ex1_3 (hq3_) ?_
      clear hq3_
      intro k _ _ h2
      have : 0 ≤ (k : Int) * a := Int.mul_nonneg (Int.natCast_nonneg _) (by (first | lia | omega))
      (first | lia | omega)

theorem down_mem {a b : Int} (hb : 0 < b) {p : List Int} : ∀ (n : Nat) (x y : Int), (x + 1).toNat = n → (p ∈ down a b x y ↔ ∃ k : Nat, p = [x - k * b, y + k * a] ∧ 0 ≤ x - k * b ∧ 0 ≤ y + k * a) := by
  intro n
  induction n using Nat.strongRecOn with
  | ind n ih =>
  intro x y hn
  by_cases hx : 0 ≤ x
  · rw [down_cons ⟨hx, hb⟩, List.mem_append, ih (x - b + 1).toNat (by (first | lia | omega)) (x - b) (y + a) rfl]
    constructor
    · rintro (h | ⟨k, rfl, h1, h2⟩)
      · split at h
        · refine ⟨0, ?_, by simpa, by simpa⟩
          simpa using h
        · cases h
      · have e1 : ((k + 1 : Nat) : Int) * b = k * b + b := by rw [Int.natCast_add, Int.add_mul]; simp
        have e2 : ((k + 1 : Nat) : Int) * a = k * a + a := by rw [Int.natCast_add, Int.add_mul]; simp
        refine ⟨k + 1, ?_, by (first | lia | omega), by (first | lia | omega)⟩
        rw [e1, e2]
        congr 1
        · (first | lia | omega)
        · congr 1; (first | lia | omega)
    · intro hq4_
      refine ex1_3 (hq4_) ?_
      clear hq4_
      intro k hq5_ h1 h2
      obtain rfl := hq5_
      cases k with
      | zero => left; simp at h2 ⊢; simp [h2]
      | succ k =>
        have e1 : ((k + 1 : Nat) : Int) * b = k * b + b := by rw [Int.natCast_add, Int.add_mul]; simp
        have e2 : ((k + 1 : Nat) : Int) * a = k * a + a := by rw [Int.natCast_add, Int.add_mul]; simp
        right
        rw [e1] at h1
        rw [e2] at h2
        rw [e1, e2]
        refine ⟨k, ?_, by (first | lia | omega), by (first | lia | omega)⟩
        congr 1
        · (first | lia | omega)
        · congr 1; (first | lia | omega)
  · rw [down_empty (fun q => hx q.1)]
    constructor
    · intro h; cases h
    · intro hq6_
      refine ex1_3 (hq6_) ?_
      clear hq6_
      intro k _ h1 _
      have : 0 ≤ (k : Int) * b := Int.mul_nonneg (Int.natCast_nonneg _) (by (first | lia | omega))
      (first | lia | omega)

/-- what stands behind a gcd of three -/
theorem gd_one {a b c d0 : Int} (ha : 0 < a) (hb : 0 < b) (hc : 0 ≤ c) (h0 : 0 < d0) : let d : Int := Int.gcd a (Int.gcd b c)
    d0 ∣ Int.fdiv a d → d0 ∣ Int.fdiv b d → d0 ∣ Int.fdiv c d → d0 = 1 := by
  intro d h1 h2 h3
  refine ex0_10 (gd_facts ha hb hc) ?_
  intro hd _ _ _ _ _ _ e1 e2 e3
  have k : ∀ z z' : Int, d * z' = z → d0 ∣ z' → d * d0 ∣ z := fun z z' e ⟨q, hq⟩ => ⟨q, by rw [← e, hq, Int.mul_assoc]⟩
  have D : d * d0 ∣ d := by
    have g1 := k _ _ e1 h1
    have g2 := k _ _ e2 h2
    have g3 := k _ _ e3 h3
    exact Int.dvd_coe_gcd g1 (Int.dvd_coe_gcd g2 g3)
  have L := Int.le_of_dvd hd D
  have M : d * 1 ≤ d * d0 := Int.mul_le_mul_of_nonneg_left (by (first | lia | omega)) (by (first | lia | omega))
  have E : d * d0 = d * 1 := by (first | lia | omega)
  exact Int.eq_of_mul_eq_mul_left (by (first | lia | omega)) E

theorem baseL_mem {a b c : Int} (ha : 0 < a) (hb : 0 < b) (hc : 0 ≤ c) (p : List Int) : p ∈ baseL a b c ↔ ∃ x y : Int, p = [x, y] ∧ 0 ≤ x ∧ 0 ≤ y ∧ a * x + b * y = c := by
  have GD := gd_facts ha hb hc
  have G1 := @gd_one a b c (euclid (Int.fdiv a (Int.gcd a (Int.gcd b c))) (Int.fdiv b (Int.gcd a (Int.gcd b c)))).2.2 ha hb hc
  dsimp only at GD G1
  unfold baseL
  dsimp only
  generalize (Int.gcd a (Int.gcd b c) : Int) = d at *
  generalize Int.fdiv a d = a' at *
  generalize Int.fdiv b d = b' at *
  generalize Int.fdiv c d = c' at *
  refine ex0_10 (GD) ?_
  clear GD
  intro hd ha' _ hb' _ hc' _ e1 e2 e3
  have eqv : ∀ x y : Int, a * x + b * y = c ↔ a' * x + b' * y = c' := by
    intro x y
    have q : a * x + b * y = d * (a' * x + b' * y) := by rw [← e1, ← e2, Int.mul_add, Int.mul_assoc, Int.mul_assoc]
    rw [q, ← e3]
    exact ⟨fun h => Int.eq_of_mul_eq_mul_left (by (first | lia | omega)) h, fun h => by rw [h]⟩
  simp only [eqv]
  by_cases hc0 : c' = 0
  · rw [if_pos hc0]
    subst hc0
    constructor
    · intro h
      exact ⟨0, 0, by simpa using h, by (first | lia | omega), by (first | lia | omega), by simp⟩
    · intro hq7_
      refine ex2_4 (hq7_) ?_
      clear hq7_
      intro x y hq8_ hx hy h
      obtain rfl := hq8_
      have h1 : 0 ≤ a' * x := Int.mul_nonneg (by (first | lia | omega)) hx
      have h2 : 0 ≤ b' * y := Int.mul_nonneg (by (first | lia | omega)) hy
      have z1 : x = 0 := by
        rcases Int.mul_eq_zero.mp (show a' * x = 0 by (first | lia | omega)) with q | q
        · (first | lia | omega)
        · exact q
      have z2 : y = 0 := by
        rcases Int.mul_eq_zero.mp (show b' * y = 0 by (first | lia | omega)) with q | q
        · (first | lia | omega)
        · exact q
      subst z1; subst z2; simp
  rw [if_neg hc0]
  have ES := euclid_spec _ a' b' rfl (by (first | lia | omega)) (by (first | lia | omega))
  have hd0 : 0 < (euclid a' b').2.2 := by rw [ES.gcd]; exact Int.ofNat_lt.mpr (Int.gcd_pos_of_ne_zero_left _ (by (first | lia | omega)))
  generalize euclid a' b' = E at *
  obtain ⟨x0, y0, d0⟩ := E
  dsimp only at *
  have da : d0 ∣ a' := by rw [ES.gcd]; exact Int.gcd_dvd_left _ _
  have db : d0 ∣ b' := by rw [ES.gcd]; exact Int.gcd_dvd_right _ _
  by_cases hm : Int.fmod c' d0 ≠ 0
  · rw [if_pos hm]
    constructor
    · intro h; cases h
    · intro hq9_
      refine ex2_4 (hq9_) ?_
      clear hq9_
      intro x y _ _ _ h
      refine absurd ?_ hm
      have : d0 ∣ c' := by rw [← h]; exact Int.dvd_add (Int.dvd_trans da (Int.dvd_mul_right _ _)) (Int.dvd_trans db (Int.dvd_mul_right _ _))
      rw [Int.fmod_eq_emod_of_nonneg c' (by (first | lia | omega))]
      exact Int.emod_eq_zero_of_dvd this
  rw [if_neg hm]
  have dc : d0 ∣ c' := by
    rw [Int.fmod_eq_emod_of_nonneg c' (by (first | lia | omega))] at hm
    exact Int.dvd_of_emod_eq_zero (by simpa using hm)
  have h1 : d0 = 1 := G1 hd0 da db dc
  subst h1
  have bz := ES.eq
  have base : a' * (c' * x0) + b' * (c' * y0) = c' := by
    have : a' * (c' * x0) + b' * (c' * y0) = c' * (a' * x0 + b' * y0) := by rw [Int.mul_add, Int.mul_left_comm, Int.mul_left_comm b' c' y0]
    rw [this, bz, Int.mul_one]
  have gen : ∀ x y : Int, a' * x + b' * y = c' → ∃ k : Int, x = c' * x0 + k * b' ∧ y = c' * y0 - k * a' := by
    intro x y h
    refine ⟨(c' * y0 - y) * x0 + (x - c' * x0) * y0, ?_, ?_⟩
    · have t1 : a' * (x - c' * x0) = b' * (c' * y0 - y) := by rw [Int.mul_sub, Int.mul_sub]; (first | lia | omega)
      have : (x - c' * x0) = (x - c' * x0) * (a' * x0 + b' * y0) := by rw [bz, Int.mul_one]
      have e : (x - c' * x0) * (a' * x0 + b' * y0) = ((c' * y0 - y) * x0 + (x - c' * x0) * y0) * b' := by
        have s1 : (x - c' * x0) * (a' * x0) = (a' * (x - c' * x0)) * x0 := by rw [← Int.mul_assoc, Int.mul_comm (x - c' * x0) a']
        have s2 : (x - c' * x0) * (b' * y0) = (x - c' * x0) * y0 * b' := by rw [Int.mul_comm b' y0, ← Int.mul_assoc]
        have s3 : b' * (c' * y0 - y) * x0 = (c' * y0 - y) * x0 * b' := by rw [Int.mul_assoc, Int.mul_comm b']
        rw [Int.mul_add, s1, t1, s2, s3, Int.add_mul]
      (first | lia | omega)
    · have t1 : a' * (x - c' * x0) = b' * (c' * y0 - y) := by rw [Int.mul_sub, Int.mul_sub]; (first | lia | omega)
      have : (c' * y0 - y) = (c' * y0 - y) * (a' * x0 + b' * y0) := by rw [bz, Int.mul_one]
      have e : (c' * y0 - y) * (a' * x0 + b' * y0) = ((c' * y0 - y) * x0 + (x - c' * x0) * y0) * a' := by
        have s1 : (c' * y0 - y) * (b' * y0) = (b' * (c' * y0 - y)) * y0 := by rw [← Int.mul_assoc, Int.mul_comm (c' * y0 - y) b']
        have s2 : (c' * y0 - y) * (a' * x0) = (c' * y0 - y) * x0 * a' := by rw [Int.mul_comm a' x0, ← Int.mul_assoc]
        have s3 : a' * (x - c' * x0) * y0 = (x - c' * x0) * y0 * a' := by rw [Int.mul_assoc, Int.mul_comm a']
        rw [Int.mul_add, s1, ← t1, s2, s3, Int.add_mul]
      (first | lia | omega)
  have back : ∀ k : Int, a' * (c' * x0 + k * b') + b' * (c' * y0 - k * a') = c' := by
    intro k
    rw [Int.mul_add, Int.mul_sub]
    have : a' * (k * b') = b' * (k * a') := by rw [Int.mul_left_comm, Int.mul_left_comm b' k a', Int.mul_comm a' b']
    (first | lia | omega)
  by_cases hx : c' * x0 ≤ 0
  · rw [if_pos hx, up_mem ha' _ _ _ rfl]
    constructor
    · intro hq10_
      refine ex1_3 (hq10_) ?_
      clear hq10_
      intro k hq11_ h1 h2
      obtain rfl := hq11_
      exact ⟨_, _, rfl, h1, h2, back k⟩
    · intro hq12_
      refine ex2_4 (hq12_) ?_
      clear hq12_
      intro x y hq13_ h1 h2 h
      obtain rfl := hq13_
      refine ex1_2 (gen x y h) ?_
      intro k hq14_ hq15_
      obtain rfl := hq14_
      obtain rfl := hq15_
      have hk : 0 ≤ k := by
        by_cases q : 0 ≤ k
        · exact q
        · have : k * b' ≤ (-1) * b' := Int.mul_le_mul_of_nonneg_right (by (first | lia | omega)) (by (first | lia | omega))
          (first | lia | omega)
      exact ⟨k.toNat, by rw [Int.toNat_of_nonneg hk], by rw [Int.toNat_of_nonneg hk]; exact h1, by rw [Int.toNat_of_nonneg hk]; exact h2⟩
  · rw [if_neg hx, down_mem hb' _ _ _ rfl]
    have hy : c' * y0 ≤ 0 := by
      by_cases q : y0 ≤ 0
      · have := Int.mul_le_mul_of_nonneg_left q hc'; (first | lia | omega)
      · have hx0 : 1 ≤ x0 := by
          by_cases r : 1 ≤ x0
          · exact r
          · have := Int.mul_le_mul_of_nonneg_left (show x0 ≤ 0 by (first | lia | omega)) hc'; (first | lia | omega)
        have p1 : a' * 1 ≤ a' * x0 := Int.mul_le_mul_of_nonneg_left hx0 (by (first | lia | omega))
        have p2 : b' * 1 ≤ b' * y0 := Int.mul_le_mul_of_nonneg_left (by (first | lia | omega)) (by (first | lia | omega))
        (first | lia | omega)
    constructor
    · intro hq16_
      refine ex1_3 (hq16_) ?_
      clear hq16_
      intro k hq17_ h1 h2
      obtain rfl := hq17_
      refine ⟨_, _, rfl, h1, h2, ?_⟩
      have := back (-k)
      rw [Int.neg_mul, Int.neg_mul] at this
      rw [show c' * x0 - (k : Int) * b' = c' * x0 + -((k : Int) * b') by (first | lia | omega), show c' * y0 + (k : Int) * a' = c' * y0 - -((k : Int) * a') by (first | lia | omega)]
      exact this
    · intro hq18_
      refine ex2_4 (hq18_) ?_
      clear hq18_
      intro x y hq19_ h1 h2 h
      obtain rfl := hq19_
      refine ex1_2 (gen x y h) ?_
      intro k hq20_ hq21_
      obtain rfl := hq20_
      obtain rfl := hq21_
      have hk : k ≤ 0 := by
        by_cases q : k ≤ 0
        · exact q
        · have : 1 * a' ≤ k * a' := Int.mul_le_mul_of_nonneg_right (by (first | lia | omega)) (by (first | lia | omega))
          (first | lia | omega)
      have ek : ((-k).toNat : Int) = -k := Int.toNat_of_nonneg (by (first | lia | omega))
      refine ⟨(-k).toNat, ?_, ?_, ?_⟩ <;> rw [ek]
      · rw [Int.neg_mul, Int.neg_mul, show c' * x0 + k * b' = c' * x0 - -(k * b') by (first | lia | omega), show c' * y0 - k * a' = c' * y0 + -(k * a') by (first | lia | omega)]
      · rw [Int.neg_mul]; (first | lia | omega)
      · rw [Int.neg_mul]; (first | lia | omega)

theorem baseL_bound {a b c : Int} (ha : 0 < a) (hb : 0 < b) (hc : 0 ≤ c) (hc2 : c ≤ 1000) : ∀ p ∈ baseL a b c, ∃ x r : Int, p = [x, r] ∧ 0 ≤ r ∧ r ≤ 1000 := by
  intro p hp
  refine ex2_4 ((baseL_mem ha hb hc p).mp hp) ?_
  intro x y hq22_ hx hy h
  obtain rfl := hq22_
  have h1 : 0 ≤ a * x := Int.mul_nonneg (by (first | lia | omega)) hx
  have h2 : 1 * y ≤ b * y := Int.mul_le_mul_of_nonneg_right (by (first | lia | omega)) hy
  exact ⟨x, y, rfl, hy, by (first | lia | omega)⟩

theorem up_len {a b : Int} : ∀ (n : Nat) (x y : Int), (y + 1).toNat = n → ∀ p ∈ up a b x y, p.length = 2 := by
  intro n
  induction n using Nat.strongRecOn with
  | ind n ih =>
  intro x y hn p hp
  by_cases h : 0 ≤ y ∧ 0 < a
  · rw [up_cons h] at hp
    rcases List.mem_append.mp hp with q | q
    · split at q
      · rw [List.mem_singleton.mp q]; rfl
      · cases q
    · exact ih _ (by (first | lia | omega)) _ _ rfl p q
  · rw [up_empty h] at hp; cases hp
theorem down_len {a b : Int} : ∀ (n : Nat) (x y : Int), (x + 1).toNat = n → ∀ p ∈ down a b x y, p.length = 2 := by
  intro n
  induction n using Nat.strongRecOn with
  | ind n ih =>
  intro x y hn p hp
  by_cases h : 0 ≤ x ∧ 0 < b
  · rw [down_cons h] at hp
    rcases List.mem_append.mp hp with q | q
    · split at q
      · rw [List.mem_singleton.mp q]; rfl
      · cases q
    · exact ih _ (by (first | lia | omega)) _ _ rfl p q
  · rw [down_empty h] at hp; cases hp
theorem baseL_len {a b c : Int} : ∀ p ∈ baseL a b c, p.length = 2 := by
  intro p hp
  unfold baseL at hp
  dsimp only at hp
  split at hp
  · rw [List.mem_singleton.mp hp]; rfl
  · split at hp
    · cases hp
    · split at hp
      · exact up_len _ _ _ rfl p hp
      · exact down_len _ _ _ rfl p hp

/-- what solve_linear_diop tells -/
noncomputable def solveN : Nat → List Int → Int → List (List Int)
  | _, [], t => if t = 0 then [[]] else []
  | _, [c], t => if Int.fmod t c = 0 then [[Int.fdiv t c]] else []
  | _, [a, b], t => baseL a b t
  | 0, _, _ => []
  | n + 1, a :: b :: c :: rest, t =>
    (baseL a (rest.foldl (fun g c => (Int.gcd g c : Int)) (Int.gcd b c : Int)) t).flatMap fun p => (solveN n ((b :: c :: rest).map fun d => Int.fdiv d (rest.foldl (fun g c => (Int.gcd g c : Int)) (Int.gcd b c : Int))) (p.getD 1 0)).map fun r => p.getD 0 0 :: r
noncomputable def solveL (cs : List Int) (t : Int) : List (List Int) := solveN cs.length cs t
theorem solveL_nil (t : Int) : solveL [] t = if t = 0 then [[]] else [] := rfl
theorem solveL_one (c t : Int) : solveL [c] t = if Int.fmod t c = 0 then [[Int.fdiv t c]] else [] := rfl
theorem solveL_two (a b t : Int) : solveL [a, b] t = baseL a b t := rfl
noncomputable def solveF (cs : List Int) (g : Int) (p : List Int) : List (List Int) := (solveL (cs.map fun c => Int.fdiv c g) (p.getD 1 0)).map fun r => p.getD 0 0 :: r
theorem solveL_big (a b c : Int) (rest : List Int) (t : Int) : solveL (a :: b :: c :: rest) t = (baseL a (rest.foldl (fun g c => (Int.gcd g c : Int)) (Int.gcd b c : Int)) t).flatMap (solveF (b :: c :: rest) (rest.foldl (fun g c => (Int.gcd g c : Int)) (Int.gcd b c : Int))) := by
  show (baseL a _ t).flatMap _ = _
  unfold solveF solveL
  simp only [List.length_map]

theorem solveL_len : ∀ (n : Nat) (cs : List Int) (t : Int), cs.length = n → ∀ p ∈ solveL cs t, p.length = n := by
  intro n
  induction n with
  | zero =>
    intro cs t h p hp
    rw [List.eq_nil_of_length_eq_zero h, solveL_nil] at hp
    split at hp
    · rw [List.mem_singleton.mp hp]; rfl
    · cases hp
  | succ n ih =>
    intro cs t h p hp
    match cs, h with
    | [c], h =>
      rw [solveL_one] at hp
      simp at h
      subst h
      split at hp
      · rw [List.mem_singleton.mp hp]; rfl
      · cases hp
    | [a, b], h =>
      rw [solveL_two] at hp
      rw [← h]
      exact baseL_len p hp
    | a :: b :: c :: rest, h =>
      rw [solveL_big] at hp
      refine ex1_2 (List.mem_flatMap.mp hp) ?_
      intro q _ hq
      refine ex1_2 (List.mem_map.mp hq) ?_
      intro r hr hq23_
      obtain rfl := hq23_
      have := ih _ _ (by simp at h ⊢; (first | lia | omega)) r hr
      simp [this]

/-- a loop of a generator, by a measure -/
theorem gen_while {w : World} {hb : Heap} {L : Addr} {dp un : Nat} {ι : Type} (μ : ι → Nat) (rows : ι → List (List Int)) (J : ι → (Str → Option Value) → Prop) {own : Addr → Prop} {gown : Nat → Prop} {c : Code} {fs : List Frame}
    (step : ∀ i m s₁ s, J i m → Fr hb L s.heap m → Moves own gown s₁ s → Tidy gown gown s₁ s →
      (∀ i' m' s₁' s', μ i' < μ i → J i' m' → Fr hb L s'.heap m' → Moves own gown s₁' s' → Tidy gown gown s₁' s' → Sg (MM w) (AA dp un) c (den2 c) fs s' (Post w hb dp un (rows i') own gown s₁')) →
      Sg (MM w) (AA dp un) c (den2 c) fs s (Post w hb dp un (rows i) own gown s₁)) :
    ∀ i m s₁ s, J i m → Fr hb L s.heap m → Moves own gown s₁ s → Tidy gown gown s₁ s → Sg (MM w) (AA dp un) c (den2 c) fs s (Post w hb dp un (rows i) own gown s₁) := by
  intro i
  generalize hn : μ i = n
  induction n using Nat.strongRecOn generalizing i with
  | ind n ih =>
    intro m s₁ s j F M T
    exact step i m s₁ s j F M T fun i' m' s₁' s' hlt j' F' M' T' => ih (μ i') (hn ▸ hlt) i' rfl m' s₁' s' j' F' M' T'

/-- a row told, or none -/
theorem sg_maybe {w : World} {hb : Heap} {L : Addr} {dp un dp' un' : Nat} {c : Code} {fs : List Frame} {env : Env} {K : Flow → Sem Fin} {H : Value → Sem Fin} {m : Str → Option Value} {s₁ s : Shared} {test e : Expr} {ypos pos pos' : Pos} {q : Prop} [Decidable q] {x : List Int} {xs : List (List Int)}
    (T₁ : Trip w hb L dp' un' (isTrue test env (eval test env)) m [] (fun f m' _ => f = decide q ∧ m' = m))
    (T₂ : q → Trip w hb L dp' un' (eval e env) m [] (fun v m' h => (∃ D vs, v = .ref D ∧ hb.get? D = none ∧ h.get? D = some (tupObj vs) ∧ IntsAre vs x) ∧ m' = m))
    (F : Fr hb L s.heap m) (M : Moves (fun b => b = L) (fun _ => False) s₁ s) (T : Tidy (fun _ => False) (fun _ => False) s₁ s)
    (h1 : ((AA dp un).over c fs).handled = none) (h2 : ((AA dp un).over c fs).depth ≤ dp') (h3 : ((AA dp un).over c fs).units ≤ un')
    (hfs : splitAtGen fs = none) (hfg : fs.any Frame.guarded = false) (hco : env.scope.isCoroutine = false) (hi : interactive env = false)
    (hK : ∀ s₁ s, Fr hb L s.heap m → Moves (fun b => b = L) (fun _ => False) s₁ s → Tidy (fun _ => False) (fun _ => False) s₁ s → Sg (MM w) (AA dp un) c (K .next) fs s (Post w hb dp un xs (fun b => b = L) (fun _ => False) s₁)) :
    Sg (MM w) (AA dp un) c ((exec (.If test [.Expr (.Yield (some e) ypos) pos'] [] pos) env).wrap K H id id) fs s (Post w hb dp un ((if q then [x] else []) ++ xs) (fun b => b = L) (fun _ => False) s₁) := by
  refine sg_If T₁ F News.nil h1 h2 h3 ?_
  intro f m' s₂ F₂ hq1_
  clear hq1_
  intro M₂ G₂ hq2_
  refine ex0_2 (hq2_) ?_
  clear hq2_
  intro hq3_ hq4_
  obtain rfl := hq3_
  obtain rfl := hq4_
  by_cases hq : q
  · rw [if_pos (by simpa using hq), if_pos hq]
    refine x_cons ?_
    refine sg_Yield (T₂ hq) F₂ News.nil h1 h2 h3 hfs hfg hco hi ?_
    intro v m'' s₄ F₄ hq5_
    clear hq5_
    intro M₄ G₄ hq6_
    refine ex0_2 (hq6_) ?_
    clear hq6_
    intro hq7_ hq8_
    refine ex2_4 (hq7_) ?_
    clear hq7_
    intro D vs hq9_ hD hD' hI
    obtain rfl := hq9_
    obtain rfl := hq8_
    intro l kk pp hkk
    refine post_yield ⟨D, vs, rfl, hD, hD', hI⟩ ((M.trans M₂).trans M₄) ((T.same G₂).same G₄) (fun b e => by rw [e]; exact F₄.ns.lt) (fun i q => q.elim) (fun D' e => by cases e; exact Fr.tup_ne2 F₄ hD') fun s₅ ag => ?_
    exact hkk _ _ _ (x_nil (hK s₅ s₅ (Fr.agree F₄ ag rfl) (Moves.refl _) (Tidy.refl _)))
  · rw [if_neg (by simpa using hq), if_neg hq]
    exact x_nil (hK s₁ s₂ F₂ (M.trans M₂) (T.same G₂))

theorem up_pos {a b x y : Int} (ha : 0 < a) (hy : 0 ≤ y) : up a b x y = (if 0 ≤ x then [[x, y]] else []) ++ up a b (x + b) (y - a) := by
  exact up_cons ⟨hy, ha⟩
theorem up_neg {a b x y : Int} (hy : ¬ 0 ≤ y) : up a b x y = [] := by
  exact up_empty (fun q => hy q.1)
theorem down_pos {a b x y : Int} (hb : 0 < b) (hx : 0 ≤ x) : down a b x y = (if 0 ≤ y then [[x, y]] else []) ++ down a b (x - b) (y + a) := by
  exact down_cons ⟨hx, hb⟩
theorem down_neg {a b x y : Int} (hx : ¬ 0 ≤ x) : down a b x y = [] := by
  exact down_empty (fun q => hx q.1)

set_option maxHeartbeats 4000000 in
theorem base_ok {w : World} {hb : Heap} (W : Wd w hb) {a b c : Int} {ta tb tc : Tok} {s : Shared} {A : Around} (ha : 0 < a) (hb0 : 0 < b) (hc : 0 ≤ c) (ha2 : a ≤ 1000) (hb2 : b ≤ 1000) (hc2 : c ≤ 1000)
    (base : ∀ d o, hb.get? d = some o → s.heap.get? d = some o) (bsize : hb.objs.size ≤ s.heap.objs.size) (hroom : A.depth < recursionLimit) :
    wpAny (MM w) A (call (.ref 35) [.int a ta, .int b tb, .int c tc]) (fun v s' => Born w hb 500 5000 (baseL a b c) s v s') (fun _ _ => False) s := by
  have fill : (Mine.hd.heap_39 w.params).In hb → PySem.Challenge.rw_jf0027_01.row = PySem.Challenge.rw_jf0027_01.row := by
    k_fill
    intro _; rfl
  clear fill
  have W' := W
  obtain ⟨X, p, loose, mean, mg, mb, T⟩ := W
  have lim := T.nolimit
  refine' enterGen (K := Mine.hd.heap_39 w.params) (binds := [(Str.ofString "a", .int a ta), (Str.ofString "b", .int b tb), (Str.ofString "c", .int c tc)]) ?kW ?kl ?kbase ?kbs ?kR ?ko ?kc ?kb ?kloc ?kb2 ?c1 ?c2 ?c3 ?c4
  case ko => k_is
  case kc => k_is
  case kb => exact BindsTo.of_eq rfl
  case kloc => exact locs rfl
  case c1 => exact rfl
  case c2 => exact rfl
  case c3 => exact rfl
  case c4 => decide
  case kR => exact hroom
  case kW => exact X
  case kl => exact lim
  case kbase => exact base
  case kbs => exact bsize
  k_whole
  intro L s₁ F
  have GD := gd_facts ha hb0 hc
  have hda : (Int.gcd a (Int.gcd b c) : Int) ≤ a := Int.gcd_le_left _ ha
  dsimp only at GD
  refine ex0_10 (GD) ?_
  clear GD
  intro g1 g2 g3 g4 g5 g6 g7 g8 g9 g10
  refine x_func fun H' => ?_
  refine sg_block (pre := [_, _, _, _, _, _]) (rest := [_]) (dp := 510) (un := 5100) (extra := []) (Φ := fun f m' _ => f = .next ∧ ∃ t1 t2 t3, m' (Str.ofString "a") = some (.int (Int.fdiv a (Int.gcd a (Int.gcd b c))) t1) ∧ m' (Str.ofString "b") = some (.int (Int.fdiv b (Int.gcd a (Int.gcd b c))) t2) ∧ m' (Str.ofString "c") = some (.int (Int.fdiv c (Int.gcd a (Int.gcd b c))) t3)) ?_ F News.nil rfl (Nat.le_of_ble_eq_true rfl) (Nat.le_of_ble_eq_true rfl) ?_
  · clear F
    intro s hg F N' N
    refine hideQ fun Q0 hQ0 => ?_
    (repeat' (first | (with_reducible show wpAny _ _ _ _ _ _); (fail_if_success (first | (with_reducible show wpAny _ _ (exec (Stmt.While _ _ _ _) _) _ _ _) | (with_reducible show wpAny _ _ (exec (Stmt.For _ _ _ _ _) _) _ _ _) | (with_reducible show wpAny _ _ (call (Value.ref _) _ _) _ _ _))); (first | (first | ((with_reducible show wpAny _ _ (eval (.Name _ _) _) _ _ _); (refine' nameX_L ?zf ?zv ?_; (case zf => assumption); (case zv => (repeat' first | assumption | exact if_pos rfl | refine (if_neg (by decide)).trans ?_)))) | ((with_reducible show wpAny _ _ (binaryOp .FloorDiv (.int _ _) (.int _ _)) _ _ _); refine floordiv_int (by first | lia | omega) ?_ (Or.inl (PyProof.noPylong_small (by first | lia | omega)))) | ((with_reducible show wpAny _ _ (binaryOp .Mult (.int _ _) (.int _ _)) _ _ _); first | refine PyProof.Rows.mul_int ?_ (PySem.IntMulOk.of_right (PySem.intBits_le_64 (by first | lia | omega) (by first | lia | omega))) | refine PyProof.Rows.mul_int ?_ (PySem.IntMulOk.of_left (PySem.intBits_le_64 (by first | lia | omega) (by first | lia | omega)))) | ((with_reducible show wpAny _ _ (loadName _ _) _ _ _); refine' ldn ?zkf ?zkv ?_ ?zka ?zkb; (case zkf => assumption); (case zkv => (repeat' first | assumption | exact if_pos rfl | refine (if_neg (by decide)).trans ?_)); (case zka => exact rfl); (case zkb => exact rfl)) | walk1) | (dsimp only; walk1)) | (with_reducible show ite _ _ _); split; all_goals (try (rename_i hq; exfalso; simp only [decide_eq_true_eq, Bool.not_eq_true, decide_eq_false_iff_not, beq_iff_eq, bne_iff_ne, beq_eq_false_iff_ne, bne_eq_false_iff_eq, ne_eq, Bool.false_eq_true, not_true_eq_false, not_false_eq_true] at hq <;> first | lia | omega))))
    refine ⟨X.keeps F.keep, ?_⟩
    refine use F N (gcd_ok (W'.keeps F.keep) (by exact Int.le_of_lt (by assumption)) (by omega)) rfl (by decide) (by decide) ?_
    intro v h' tk' F₁ N₁ hk hq10_
    refine ex1_1 (hq10_) ?_
    clear hq10_
    intro t hq11_
    obtain rfl := hq11_
    clear F N
    (repeat' (first | (with_reducible show wpAny _ _ _ _ _ _); (fail_if_success (first | (with_reducible show wpAny _ _ (exec (Stmt.While _ _ _ _) _) _ _ _) | (with_reducible show wpAny _ _ (exec (Stmt.For _ _ _ _ _) _) _ _ _) | (with_reducible show wpAny _ _ (call (Value.ref _) _ _) _ _ _))); (first | (first | ((with_reducible show wpAny _ _ (eval (.Name _ _) _) _ _ _); (refine' nameX_L ?zf ?zv ?_; (case zf => assumption); (case zv => (repeat' first | assumption | exact if_pos rfl | refine (if_neg (by decide)).trans ?_)))) | ((with_reducible show wpAny _ _ (binaryOp .FloorDiv (.int _ _) (.int _ _)) _ _ _); refine floordiv_int (by first | lia | omega) ?_ (Or.inl (PyProof.noPylong_small (by first | lia | omega)))) | ((with_reducible show wpAny _ _ (binaryOp .Mult (.int _ _) (.int _ _)) _ _ _); first | refine PyProof.Rows.mul_int ?_ (PySem.IntMulOk.of_right (PySem.intBits_le_64 (by first | lia | omega) (by first | lia | omega))) | refine PyProof.Rows.mul_int ?_ (PySem.IntMulOk.of_left (PySem.intBits_le_64 (by first | lia | omega) (by first | lia | omega)))) | ((with_reducible show wpAny _ _ (loadName _ _) _ _ _); refine' ldn ?zkf ?zkv ?_ ?zka ?zkb; (case zkf => assumption); (case zkv => (repeat' first | assumption | exact if_pos rfl | refine (if_neg (by decide)).trans ?_)); (case zka => exact rfl); (case zkb => exact rfl)) | walk1) | (dsimp only; walk1)) | (with_reducible show ite _ _ _); split; all_goals (try (rename_i hq; exfalso; simp only [decide_eq_true_eq, Bool.not_eq_true, decide_eq_false_iff_not, beq_iff_eq, bne_iff_ne, beq_eq_false_iff_ne, bne_eq_false_iff_eq, ne_eq, Bool.false_eq_true, not_true_eq_false, not_false_eq_true] at hq <;> first | lia | omega))))
    refine ⟨X.keeps F₁.keep, ?_⟩
    refine use F₁ N₁ (gcd_ok (W'.keeps F₁.keep) (by lia) (by lia)) rfl (by decide) (by decide) ?_
    intro v h'' tk'' F₂ N₂ hk' hq12_
    refine ex1_1 (hq12_) ?_
    clear hq12_
    intro t' hq13_
    obtain rfl := hq13_
    clear F₁ N₁
    (repeat' (first | (with_reducible show wpAny _ _ _ _ _ _); (fail_if_success (first | (with_reducible show wpAny _ _ (exec (Stmt.While _ _ _ _) _) _ _ _) | (with_reducible show wpAny _ _ (exec (Stmt.For _ _ _ _ _) _) _ _ _) | (with_reducible show wpAny _ _ (call (Value.ref _) _ _) _ _ _))); (first | (first | ((with_reducible show wpAny _ _ (eval (.Name _ _) _) _ _ _); (refine' nameX_L ?zf ?zv ?_; (case zf => assumption); (case zv => (repeat' first | assumption | exact if_pos rfl | refine (if_neg (by decide)).trans ?_)))) | ((with_reducible show wpAny _ _ (binaryOp .FloorDiv (.int _ _) (.int _ _)) _ _ _); refine floordiv_int (by first | lia | omega) ?_ (Or.inl (PyProof.noPylong_small (by first | lia | omega)))) | ((with_reducible show wpAny _ _ (binaryOp .Mult (.int _ _) (.int _ _)) _ _ _); first | refine PyProof.Rows.mul_int ?_ (PySem.IntMulOk.of_right (PySem.intBits_le_64 (by first | lia | omega) (by first | lia | omega))) | refine PyProof.Rows.mul_int ?_ (PySem.IntMulOk.of_left (PySem.intBits_le_64 (by first | lia | omega) (by first | lia | omega)))) | ((with_reducible show wpAny _ _ (loadName _ _) _ _ _); refine' ldn ?zkf ?zkv ?_ ?zka ?zkb; (case zkf => assumption); (case zkv => (repeat' first | assumption | exact if_pos rfl | refine (if_neg (by decide)).trans ?_)); (case zka => exact rfl); (case zkb => exact rfl)) | walk1) | (dsimp only; walk1)) | (with_reducible show ite _ _ _); split; all_goals (try (rename_i hq; exfalso; simp only [decide_eq_true_eq, Bool.not_eq_true, decide_eq_false_iff_not, beq_iff_eq, bne_iff_ne, beq_eq_false_iff_ne, bne_eq_false_iff_eq, ne_eq, Bool.false_eq_true, not_true_eq_false, not_false_eq_true] at hq <;> first | lia | omega))))
    rename Fr _ _ _ _ => F'
    rename News _ _ _ _ => N''
    exact hQ0 _ _ ⟨⟨hg, rfl⟩, _, F', N'', rfl, _, _, _, (by (repeat' first | assumption | exact if_pos rfl | refine (if_neg (by decide)).trans ?_)), (by (repeat' first | assumption | exact if_pos rfl | refine (if_neg (by decide)).trans ?_)), by (repeat' first | assumption | exact if_pos rfl | refine (if_neg (by decide)).trans ?_)⟩
  unfold baseL
  dsimp only
  generalize Int.fdiv a (Int.gcd a (Int.gcd b c)) = a' at *
  generalize Int.fdiv b (Int.gcd a (Int.gcd b c)) = b' at *
  generalize Int.fdiv c (Int.gcd a (Int.gcd b c)) = c' at *
  clear g8 g9 g10 F
  intro f m₁ s₂ F₁ hq14_
  clear hq14_
  intro M₁ G₁ hq15_
  refine ex0_2 (hq15_) ?_
  clear hq15_
  intro hq16_ hq17_
  obtain rfl := hq16_
  refine ex3_3 (hq17_) ?_
  clear hq17_
  intro t1 t2 t3 e1 e2 e3
  dsimp only
  have T₁ : Tidy (fun _ => False) (fun _ => False) s₁ s₂ := Tidy.same (Tidy.refl s₁) G₁
  refine x_cons ?_
  refine sg_If (dp := 510) (un := 5100) (extra := []) (Φ := fun f m' _ => f = decide (c' = 0) ∧ m' = m₁) ?_ F₁ News.nil rfl (Nat.le_of_ble_eq_true rfl) (Nat.le_of_ble_eq_true rfl) ?_
  · clear F₁
    intro s hg F N' N
    refine hideQ fun Q0 hQ0 => ?_
    (repeat' (first | (with_reducible show wpAny _ _ _ _ _ _); (fail_if_success (first | (with_reducible show wpAny _ _ (exec (Stmt.While _ _ _ _) _) _ _ _) | (with_reducible show wpAny _ _ (exec (Stmt.For _ _ _ _ _) _) _ _ _) | (with_reducible show wpAny _ _ (call (Value.ref _) _ _) _ _ _))); (first | (first | ((with_reducible show wpAny _ _ (eval (.Name _ _) _) _ _ _); (refine' nameX_L ?zf ?zv ?_; (case zf => assumption); (case zv => (repeat' first | assumption | exact if_pos rfl | refine (if_neg (by decide)).trans ?_)))) | ((with_reducible show wpAny _ _ (binaryOp .FloorDiv (.int _ _) (.int _ _)) _ _ _); refine floordiv_int (by first | lia | omega) ?_ (Or.inl (PyProof.noPylong_small (by first | lia | omega)))) | ((with_reducible show wpAny _ _ (binaryOp .Mult (.int _ _) (.int _ _)) _ _ _); first | refine PyProof.Rows.mul_int ?_ (PySem.IntMulOk.of_right (PySem.intBits_le_64 (by first | lia | omega) (by first | lia | omega))) | refine PyProof.Rows.mul_int ?_ (PySem.IntMulOk.of_left (PySem.intBits_le_64 (by first | lia | omega) (by first | lia | omega)))) | ((with_reducible show wpAny _ _ (loadName _ _) _ _ _); refine' ldn ?zkf ?zkv ?_ ?zka ?zkb; (case zkf => assumption); (case zkv => (repeat' first | assumption | exact if_pos rfl | refine (if_neg (by decide)).trans ?_)); (case zka => exact rfl); (case zkb => exact rfl)) | walk1) | (dsimp only; walk1)) | (with_reducible show ite _ _ _); split; all_goals (try (rename_i hq; exfalso; simp only [decide_eq_true_eq, Bool.not_eq_true, decide_eq_false_iff_not, beq_iff_eq, bne_iff_ne, beq_eq_false_iff_ne, bne_eq_false_iff_eq, ne_eq, Bool.false_eq_true, not_true_eq_false, not_false_eq_true] at hq <;> first | lia | omega))))
    rename Fr _ _ _ _ => F'
    rename News _ _ _ _ => N''
    exact hQ0 _ _ ⟨⟨hg, rfl⟩, _, F', N'', rfl, rfl⟩
  intro f m' s₃ F₃ hq18_
  clear hq18_
  intro M₃ G₃ hq19_
  refine ex0_2 (hq19_) ?_
  clear hq19_
  intro hq20_ hq21_
  obtain rfl := hq20_
  obtain rfl := hq21_
  have M₃ := M₁.trans M₃
  have T₃ := T₁.same G₃
  clear G₃ G₁ T₁ M₁ F₁
  by_cases hc0 : c' = 0
  · rw [if_pos hc0, if_pos (by simpa using hc0)]
    refine x_cons ?_
    refine sg_Yield (dp := 510) (un := 5100) (extra := []) (Φ := fun v m'' h => (∃ D vs, v = .ref D ∧ hb.get? D = none ∧ h.get? D = some (tupObj vs) ∧ IntsAre vs [0, 0]) ∧ m'' = m') ?_ F₃ News.nil rfl (Nat.le_of_ble_eq_true rfl) (Nat.le_of_ble_eq_true rfl) rfl rfl rfl rfl ?_
    · clear F₃
      intro s hg F N' N
      refine hideQ fun Q0 hQ0 => ?_
      (repeat' (first | (with_reducible show wpAny _ _ _ _ _ _); (fail_if_success (first | (with_reducible show wpAny _ _ (exec (Stmt.While _ _ _ _) _) _ _ _) | (with_reducible show wpAny _ _ (exec (Stmt.For _ _ _ _ _) _) _ _ _) | (with_reducible show wpAny _ _ (call (Value.ref _) _ _) _ _ _))); (first | (first | ((with_reducible show wpAny _ _ (eval (.Name _ _) _) _ _ _); (refine' nameX_L ?zf ?zv ?_; (case zf => assumption); (case zv => (repeat' first | assumption | exact if_pos rfl | refine (if_neg (by decide)).trans ?_)))) | ((with_reducible show wpAny _ _ (binaryOp .FloorDiv (.int _ _) (.int _ _)) _ _ _); refine floordiv_int (by first | lia | omega) ?_ (Or.inl (PyProof.noPylong_small (by first | lia | omega)))) | ((with_reducible show wpAny _ _ (binaryOp .Mult (.int _ _) (.int _ _)) _ _ _); first | refine PyProof.Rows.mul_int ?_ (PySem.IntMulOk.of_right (PySem.intBits_le_64 (by first | lia | omega) (by first | lia | omega))) | refine PyProof.Rows.mul_int ?_ (PySem.IntMulOk.of_left (PySem.intBits_le_64 (by first | lia | omega) (by first | lia | omega)))) | ((with_reducible show wpAny _ _ (loadName _ _) _ _ _); refine' ldn ?zkf ?zkv ?_ ?zka ?zkb; (case zkf => assumption); (case zkv => (repeat' first | assumption | exact if_pos rfl | refine (if_neg (by decide)).trans ?_)); (case zka => exact rfl); (case zkb => exact rfl)) | walk1) | (dsimp only; walk1)) | (with_reducible show ite _ _ _); split; all_goals (try (rename_i hq; exfalso; simp only [decide_eq_true_eq, Bool.not_eq_true, decide_eq_false_iff_not, beq_iff_eq, bne_iff_ne, beq_eq_false_iff_ne, bne_eq_false_iff_eq, ne_eq, Bool.false_eq_true, not_true_eq_false, not_false_eq_true] at hq <;> first | lia | omega))))
      rename Fr _ _ _ _ => F'
      rename News _ _ _ _ => N''
      exact hQ0 _ _ ⟨⟨hg, rfl⟩, _, F', News.right (a := [_]) N'', ⟨_, _, rfl, (N'' _ (.head _)).2.2, (N'' _ (.head _)).1, .cons _ _ (.cons _ _ .nil)⟩, rfl⟩
    intro v m'' s₄ F₄ hq22_
    clear hq22_
    intro M₄ G₄ hq23_
    refine ex0_2 (hq23_) ?_
    clear hq23_
    intro hq24_ hq25_
    refine ex2_4 (hq24_) ?_
    clear hq24_
    intro D vs hq26_ hD hD' hI
    obtain rfl := hq26_
    obtain rfl := hq25_
    intro l kk pp hkk
    refine post_yield ⟨D, vs, rfl, hD, hD', hI⟩ (M₃.trans M₄) (T₃.same G₄) (fun b e => by rw [e]; exact F₄.ns.lt) (fun i q => q.elim) (fun D' e => by cases e; exact Fr.tup_ne2 F₄ hD') fun s₅ ag => ?_
    refine hkk _ _ _ (x_nil (x_nil (x_end (.ok (.ret .none)) ⟨rfl, Moves.refl _, Tidy.refl _⟩)))
  · rw [if_neg hc0, if_neg (by simpa using hc0)]
    have EB := euclid_bound a' b' (by lia) (by lia) 1000 (by decide) (by lia) (by lia)
    have ES := euclid_spec _ a' b' rfl (by lia) (by lia)
    have hd0 : 0 < (euclid a' b').2.2 := by rw [ES.gcd]; exact Int.ofNat_lt.mpr (Int.gcd_pos_of_ne_zero_left _ (by exact Int.ne_of_gt (by assumption)))
    have hd1 : (euclid a' b').2.2 ≤ a' := by rw [ES.gcd]; exact Int.gcd_le_left _ g2
    clear ES
    have EU := fun (s : Shared) (k : ∀ d o, hb.get? d = some o → s.heap.get? d = some o) (ta tb : Tok) => euclid_ok _ a' b' 510 5100 s ta tb rfl (W'.keeps k) (by lia) (by lia) (by lia) (by lia) (by have := esteps_le 10 a' b' (by lia) (by simp; lia); lia) (by have := esteps_le 10 a' b' (by lia) (by simp; lia); lia)
    generalize hE : euclid a' b' = E at *
    obtain ⟨x0, y0, d0⟩ := E
    dsimp only at *
    refine sg_block (pre := [_, _, _]) (rest := [_]) (dp := 510) (un := 5100) (extra := []) (Φ := fun f m'' _ => (Int.fmod c' d0 ≠ 0 ∧ f = .ret .none) ∨ (¬ Int.fmod c' d0 ≠ 0 ∧ f = .next ∧ ∃ t1 t2 t3 t4, m'' (Str.ofString "a") = some (.int a' t1) ∧ m'' (Str.ofString "b") = some (.int b' t2) ∧ m'' (Str.ofString "x") = some (.int (c' * x0) t3) ∧ m'' (Str.ofString "y") = some (.int (c' * y0) t4))) ?_ F₃ News.nil rfl (Nat.le_of_ble_eq_true rfl) (Nat.le_of_ble_eq_true rfl) ?_
    · clear F₃
      intro s hg F N' N
      refine hideQ fun Q0 hQ0 => ?_
      (repeat' (first | (with_reducible show wpAny _ _ _ _ _ _); (fail_if_success (first | (with_reducible show wpAny _ _ (exec (Stmt.While _ _ _ _) _) _ _ _) | (with_reducible show wpAny _ _ (exec (Stmt.For _ _ _ _ _) _) _ _ _) | (with_reducible show wpAny _ _ (call (Value.ref _) _ _) _ _ _))); (first | (first | ((with_reducible show wpAny _ _ (eval (.Name _ _) _) _ _ _); (refine' nameX_L ?zf ?zv ?_; (case zf => assumption); (case zv => (repeat' first | assumption | exact if_pos rfl | refine (if_neg (by decide)).trans ?_)))) | ((with_reducible show wpAny _ _ (binaryOp .FloorDiv (.int _ _) (.int _ _)) _ _ _); refine floordiv_int (by first | lia | omega) ?_ (Or.inl (PyProof.noPylong_small (by first | lia | omega)))) | ((with_reducible show wpAny _ _ (binaryOp .Mult (.int _ _) (.int _ _)) _ _ _); first | refine PyProof.Rows.mul_int ?_ (PySem.IntMulOk.of_right (PySem.intBits_le_64 (by first | lia | omega) (by first | lia | omega))) | refine PyProof.Rows.mul_int ?_ (PySem.IntMulOk.of_left (PySem.intBits_le_64 (by first | lia | omega) (by first | lia | omega)))) | ((with_reducible show wpAny _ _ (loadName _ _) _ _ _); refine' ldn ?zkf ?zkv ?_ ?zka ?zkb; (case zkf => assumption); (case zkv => (repeat' first | assumption | exact if_pos rfl | refine (if_neg (by decide)).trans ?_)); (case zka => exact rfl); (case zkb => exact rfl)) | walk1) | (dsimp only; walk1)) | (with_reducible show ite _ _ _); split; all_goals (try (rename_i hq; exfalso; simp only [decide_eq_true_eq, Bool.not_eq_true, decide_eq_false_iff_not, beq_iff_eq, bne_iff_ne, beq_eq_false_iff_ne, bne_eq_false_iff_eq, ne_eq, Bool.false_eq_true, not_true_eq_false, not_false_eq_true] at hq <;> first | lia | omega))))
      refine ⟨X.keeps F.keep, ?_⟩
      refine use F N (EU _ F.keep _ _) rfl (by decide) (by decide) ?_
      intro v h' tk' F₁ N₁ hk hq27_
      refine ex2_4 (hq27_) ?_
      clear hq27_
      intro D vs hq28_ hD hD' hI
      obtain rfl := hq28_
      have N₂ := News.add F N₁ hD hD'
      refine ex3_1 (ints3 hI) ?_
      intro tx ty td hq29_
      obtain rfl := hq29_
      clear hI
      clear F N N₁
      (repeat' (first | (with_reducible show wpAny _ _ _ _ _ _); (fail_if_success (first | (with_reducible show wpAny _ _ (exec (Stmt.While _ _ _ _) _) _ _ _) | (with_reducible show wpAny _ _ (exec (Stmt.For _ _ _ _ _) _) _ _ _) | (with_reducible show wpAny _ _ (call (Value.ref _) _ _) _ _ _))); (first | (first | ((with_reducible show wpAny _ _ (eval (.Name _ _) _) _ _ _); (refine' nameX_L ?zf ?zv ?_; (case zf => assumption); (case zv => (repeat' first | assumption | exact if_pos rfl | refine (if_neg (by decide)).trans ?_)))) | ((with_reducible show wpAny _ _ (binaryOp .FloorDiv (.int _ _) (.int _ _)) _ _ _); refine floordiv_int (by first | lia | omega) ?_ (Or.inl (PyProof.noPylong_small (by first | lia | omega)))) | ((with_reducible show wpAny _ _ (binaryOp .Mult (.int _ _) (.int _ _)) _ _ _); first | refine PyProof.Rows.mul_int ?_ (PySem.IntMulOk.of_right (PySem.intBits_le_64 (by first | lia | omega) (by first | lia | omega))) | refine PyProof.Rows.mul_int ?_ (PySem.IntMulOk.of_left (PySem.intBits_le_64 (by first | lia | omega) (by first | lia | omega)))) | ((with_reducible show wpAny _ _ (loadName _ _) _ _ _); refine' ldn ?zkf ?zkv ?_ ?zka ?zkb; (case zkf => assumption); (case zkv => (repeat' first | assumption | exact if_pos rfl | refine (if_neg (by decide)).trans ?_)); (case zka => exact rfl); (case zkb => exact rfl)) | walk1) | (dsimp only; walk1)) | (with_reducible show ite _ _ _); split; all_goals (try (rename_i hq; exfalso; simp only [decide_eq_true_eq, Bool.not_eq_true, decide_eq_false_iff_not, beq_iff_eq, bne_iff_ne, beq_eq_false_iff_ne, bne_eq_false_iff_eq, ne_eq, Bool.false_eq_true, not_true_eq_false, not_false_eq_true] at hq <;> first | lia | omega))))
      · rename News _ _ _ _ => N'
        rename Fr _ _ _ _ => F'
        rename (c'.fmod d0 != 0) = true => hq
        dsimp only
        exact hQ0 _ _ ⟨⟨hg, rfl⟩, _, F', News.right (a := [_]) N', .inl ⟨by simpa using hq, rfl⟩⟩
      · rename News _ _ _ _ => N'
        rename Fr _ _ _ _ => F'
        rename ¬ (c'.fmod d0 != 0) = true => hq
        exact hQ0 _ _ ⟨⟨hg, rfl⟩, _, F', News.right (a := [_, _]) N', .inr ⟨by simpa using hq, rfl, _, _, _, _, (by (repeat' first | assumption | exact if_pos rfl | refine (if_neg (by decide)).trans ?_)), (by (repeat' first | assumption | exact if_pos rfl | refine (if_neg (by decide)).trans ?_)), (by (repeat' first | assumption | exact if_pos rfl | refine (if_neg (by decide)).trans ?_)), by (repeat' first | assumption | exact if_pos rfl | refine (if_neg (by decide)).trans ?_)⟩⟩
    rintro f m'' s₄ F₄ - M₄ G₄ hΦ
    have M₄ := M₃.trans M₄
    have T₄ := T₃.same G₄
    clear M₃ T₃ G₄ F₃ EU
    rcases hΦ with ⟨hne, rfl⟩ | ⟨hz, rfl, u1, u2, u3, u4, r1, r2, r3, r4⟩
    · rw [if_pos hne]
      exact x_end (.ok (.ret .none)) ⟨rfl, M₄, T₄⟩
    rw [if_neg hz]
    have bx : c' * x0 ≤ 1000000 ∧ -1000000 ≤ c' * x0 := by
      have a1 := Int.mul_le_mul_of_nonneg_left EB.1 g6
      have a2 := Int.mul_le_mul_of_nonneg_left EB.2.1 g6
      lia
    have by_ : c' * y0 ≤ 1000000 ∧ -1000000 ≤ c' * y0 := by
      have a1 := Int.mul_le_mul_of_nonneg_left EB.2.2.1 g6
      have a2 := Int.mul_le_mul_of_nonneg_left EB.2.2.2 g6
      lia
    generalize c' * x0 = X0 at *
    generalize c' * y0 = Y0 at *
    dsimp only
    refine x_cons ?_
    refine sg_If (dp := 510) (un := 5100) (extra := []) (Φ := fun f m' _ => f = decide (X0 ≤ 0) ∧ m' = m'') ?_ F₄ News.nil rfl (Nat.le_of_ble_eq_true rfl) (Nat.le_of_ble_eq_true rfl) ?_
    · clear F₄
      intro s hg F N' N
      refine hideQ fun Q0 hQ0 => ?_
      (repeat' (first | (with_reducible show wpAny _ _ _ _ _ _); (fail_if_success (first | (with_reducible show wpAny _ _ (exec (Stmt.While _ _ _ _) _) _ _ _) | (with_reducible show wpAny _ _ (exec (Stmt.For _ _ _ _ _) _) _ _ _) | (with_reducible show wpAny _ _ (call (Value.ref _) _ _) _ _ _))); (first | (first | ((with_reducible show wpAny _ _ (eval (.Name _ _) _) _ _ _); (refine' nameX_L ?zf ?zv ?_; (case zf => assumption); (case zv => (repeat' first | assumption | exact if_pos rfl | refine (if_neg (by decide)).trans ?_)))) | ((with_reducible show wpAny _ _ (binaryOp .FloorDiv (.int _ _) (.int _ _)) _ _ _); refine floordiv_int (by first | lia | omega) ?_ (Or.inl (PyProof.noPylong_small (by first | lia | omega)))) | ((with_reducible show wpAny _ _ (binaryOp .Mult (.int _ _) (.int _ _)) _ _ _); first | refine PyProof.Rows.mul_int ?_ (PySem.IntMulOk.of_right (PySem.intBits_le_64 (by first | lia | omega) (by first | lia | omega))) | refine PyProof.Rows.mul_int ?_ (PySem.IntMulOk.of_left (PySem.intBits_le_64 (by first | lia | omega) (by first | lia | omega)))) | ((with_reducible show wpAny _ _ (loadName _ _) _ _ _); refine' ldn ?zkf ?zkv ?_ ?zka ?zkb; (case zkf => assumption); (case zkv => (repeat' first | assumption | exact if_pos rfl | refine (if_neg (by decide)).trans ?_)); (case zka => exact rfl); (case zkb => exact rfl)) | walk1) | (dsimp only; walk1)) | (with_reducible show ite _ _ _); split; all_goals (try (rename_i hq; exfalso; simp only [decide_eq_true_eq, Bool.not_eq_true, decide_eq_false_iff_not, beq_iff_eq, bne_iff_ne, beq_eq_false_iff_ne, bne_eq_false_iff_eq, ne_eq, Bool.false_eq_true, not_true_eq_false, not_false_eq_true] at hq <;> first | lia | omega))))
      rename Fr _ _ _ _ => F'
      rename News _ _ _ _ => N''
      exact hQ0 _ _ ⟨⟨hg, rfl⟩, _, F', N'', rfl, rfl⟩
    intro f m₃ s₅ F₅ hq30_
    clear hq30_
    intro M₅ G₅ hq31_
    refine ex0_2 (hq31_) ?_
    clear hq31_
    intro hq32_ hq33_
    obtain rfl := hq32_
    obtain rfl := hq33_
    have M₅ := M₄.trans M₅
    have T₅ := T₄.same G₅
    clear M₄ T₄ G₅ F₄
    by_cases hX : X0 ≤ 0
    · rw [if_pos hX, if_pos (by simpa using hX)]
      refine x_cons (x_While fun k hk p => ?_)
      refine gen_while (μ := fun i : Int × Int => (i.2 + 1).toNat) (rows := fun i => up a' b' i.1 i.2) (J := fun i m => ∃ t1 t2 t3 t4, m (Str.ofString "a") = some (.int a' t1) ∧ m (Str.ofString "b") = some (.int b' t2) ∧ m (Str.ofString "x") = some (.int i.1 t3) ∧ m (Str.ofString "y") = some (.int i.2 t4)) ?_ (X0, Y0) m₃ s₁ s₅ ⟨_, _, _, _, r1, r2, r3, r4⟩ F₅ M₅ T₅
      intro hq34_
      obtain ⟨x, y⟩ := hq34_
      intro m sA sB hq35_
      refine ex4_4 (hq35_) ?_
      clear hq35_
      intro v1 v2 v3 v4 q1 q2 q3 q4
      intro F M T IH
      dsimp only at q1 q2 q3 q4
      refine sg_while (dp := 510) (un := 5100) (extra := []) (Φ := fun f m' _ => f = decide (0 ≤ y) ∧ m' = m) ?_ F News.nil rfl (Nat.le_of_ble_eq_true rfl) (Nat.le_of_ble_eq_true rfl) ?_
      · clear F
        intro s hg F N' N
        refine hideQ fun Q0 hQ0 => ?_
        (repeat' (first | (with_reducible show wpAny _ _ _ _ _ _); (fail_if_success (first | (with_reducible show wpAny _ _ (exec (Stmt.While _ _ _ _) _) _ _ _) | (with_reducible show wpAny _ _ (exec (Stmt.For _ _ _ _ _) _) _ _ _) | (with_reducible show wpAny _ _ (call (Value.ref _) _ _) _ _ _))); (first | (first | ((with_reducible show wpAny _ _ (eval (.Name _ _) _) _ _ _); (refine' nameX_L ?zf ?zv ?_; (case zf => assumption); (case zv => (repeat' first | assumption | exact if_pos rfl | refine (if_neg (by decide)).trans ?_)))) | ((with_reducible show wpAny _ _ (binaryOp .FloorDiv (.int _ _) (.int _ _)) _ _ _); refine floordiv_int (by first | lia | omega) ?_ (Or.inl (PyProof.noPylong_small (by first | lia | omega)))) | ((with_reducible show wpAny _ _ (binaryOp .Mult (.int _ _) (.int _ _)) _ _ _); first | refine PyProof.Rows.mul_int ?_ (PySem.IntMulOk.of_right (PySem.intBits_le_64 (by first | lia | omega) (by first | lia | omega))) | refine PyProof.Rows.mul_int ?_ (PySem.IntMulOk.of_left (PySem.intBits_le_64 (by first | lia | omega) (by first | lia | omega)))) | ((with_reducible show wpAny _ _ (loadName _ _) _ _ _); refine' ldn ?zkf ?zkv ?_ ?zka ?zkb; (case zkf => assumption); (case zkv => (repeat' first | assumption | exact if_pos rfl | refine (if_neg (by decide)).trans ?_)); (case zka => exact rfl); (case zkb => exact rfl)) | walk1) | (dsimp only; walk1)) | (with_reducible show ite _ _ _); split; all_goals (try (rename_i hq; exfalso; simp only [decide_eq_true_eq, Bool.not_eq_true, decide_eq_false_iff_not, beq_iff_eq, bne_iff_ne, beq_eq_false_iff_ne, bne_eq_false_iff_eq, ne_eq, Bool.false_eq_true, not_true_eq_false, not_false_eq_true] at hq <;> first | lia | omega))))
        rename Fr _ _ _ _ => F'
        rename News _ _ _ _ => N''
        exact hQ0 _ _ ⟨⟨hg, rfl⟩, _, F', N'', rfl, rfl⟩
      intro f m' sC FC hq36_
      clear hq36_
      intro MC GC hq37_
      refine ex0_2 (hq37_) ?_
      clear hq37_
      intro hq38_ hq39_
      obtain rfl := hq38_
      obtain rfl := hq39_
      have MC := M.trans MC
      have TC := T.same GC
      clear M T GC F
      by_cases hy : 0 ≤ y
      · rw [if_pos (by simpa using hy)]
        intro H''
        rw [show (up a' b' x y) = (if 0 ≤ x then [[x, y]] else []) ++ up a' b' (x + b', y - a').1 (x + b', y - a').2 from up_pos g2 hy]
        refine x_cons ?_
        refine sg_maybe (dp' := 510) (un' := 5100) (m := m') ?_ ?_ FC MC TC rfl (Nat.le_of_ble_eq_true rfl) (Nat.le_of_ble_eq_true rfl) rfl rfl rfl rfl ?_
        · clear FC
          intro s hg F N' N
          refine hideQ fun Q0 hQ0 => ?_
          (repeat' (first | (with_reducible show wpAny _ _ _ _ _ _); (fail_if_success (first | (with_reducible show wpAny _ _ (exec (Stmt.While _ _ _ _) _) _ _ _) | (with_reducible show wpAny _ _ (exec (Stmt.For _ _ _ _ _) _) _ _ _) | (with_reducible show wpAny _ _ (call (Value.ref _) _ _) _ _ _))); (first | (first | ((with_reducible show wpAny _ _ (eval (.Name _ _) _) _ _ _); (refine' nameX_L ?zf ?zv ?_; (case zf => assumption); (case zv => (repeat' first | assumption | exact if_pos rfl | refine (if_neg (by decide)).trans ?_)))) | ((with_reducible show wpAny _ _ (binaryOp .FloorDiv (.int _ _) (.int _ _)) _ _ _); refine floordiv_int (by first | lia | omega) ?_ (Or.inl (PyProof.noPylong_small (by first | lia | omega)))) | ((with_reducible show wpAny _ _ (binaryOp .Mult (.int _ _) (.int _ _)) _ _ _); first | refine PyProof.Rows.mul_int ?_ (PySem.IntMulOk.of_right (PySem.intBits_le_64 (by first | lia | omega) (by first | lia | omega))) | refine PyProof.Rows.mul_int ?_ (PySem.IntMulOk.of_left (PySem.intBits_le_64 (by first | lia | omega) (by first | lia | omega)))) | ((with_reducible show wpAny _ _ (loadName _ _) _ _ _); refine' ldn ?zkf ?zkv ?_ ?zka ?zkb; (case zkf => assumption); (case zkv => (repeat' first | assumption | exact if_pos rfl | refine (if_neg (by decide)).trans ?_)); (case zka => exact rfl); (case zkb => exact rfl)) | walk1) | (dsimp only; walk1)) | (with_reducible show ite _ _ _); split; all_goals (try (rename_i hq; exfalso; simp only [decide_eq_true_eq, Bool.not_eq_true, decide_eq_false_iff_not, beq_iff_eq, bne_iff_ne, beq_eq_false_iff_ne, bne_eq_false_iff_eq, ne_eq, Bool.false_eq_true, not_true_eq_false, not_false_eq_true] at hq <;> first | lia | omega))))
          rename Fr _ _ _ _ => F'
          rename News _ _ _ _ => N''
          exact hQ0 _ _ ⟨⟨hg, rfl⟩, _, F', N'', rfl, rfl⟩
        · intro hq
          clear FC
          intro s hg F N' N
          refine hideQ fun Q0 hQ0 => ?_
          (repeat' (first | (with_reducible show wpAny _ _ _ _ _ _); (fail_if_success (first | (with_reducible show wpAny _ _ (exec (Stmt.While _ _ _ _) _) _ _ _) | (with_reducible show wpAny _ _ (exec (Stmt.For _ _ _ _ _) _) _ _ _) | (with_reducible show wpAny _ _ (call (Value.ref _) _ _) _ _ _))); (first | (first | ((with_reducible show wpAny _ _ (eval (.Name _ _) _) _ _ _); (refine' nameX_L ?zf ?zv ?_; (case zf => assumption); (case zv => (repeat' first | assumption | exact if_pos rfl | refine (if_neg (by decide)).trans ?_)))) | ((with_reducible show wpAny _ _ (binaryOp .FloorDiv (.int _ _) (.int _ _)) _ _ _); refine floordiv_int (by first | lia | omega) ?_ (Or.inl (PyProof.noPylong_small (by first | lia | omega)))) | ((with_reducible show wpAny _ _ (binaryOp .Mult (.int _ _) (.int _ _)) _ _ _); first | refine PyProof.Rows.mul_int ?_ (PySem.IntMulOk.of_right (PySem.intBits_le_64 (by first | lia | omega) (by first | lia | omega))) | refine PyProof.Rows.mul_int ?_ (PySem.IntMulOk.of_left (PySem.intBits_le_64 (by first | lia | omega) (by first | lia | omega)))) | ((with_reducible show wpAny _ _ (loadName _ _) _ _ _); refine' ldn ?zkf ?zkv ?_ ?zka ?zkb; (case zkf => assumption); (case zkv => (repeat' first | assumption | exact if_pos rfl | refine (if_neg (by decide)).trans ?_)); (case zka => exact rfl); (case zkb => exact rfl)) | walk1) | (dsimp only; walk1)) | (with_reducible show ite _ _ _); split; all_goals (try (rename_i hq; exfalso; simp only [decide_eq_true_eq, Bool.not_eq_true, decide_eq_false_iff_not, beq_iff_eq, bne_iff_ne, beq_eq_false_iff_ne, bne_eq_false_iff_eq, ne_eq, Bool.false_eq_true, not_true_eq_false, not_false_eq_true] at hq <;> first | lia | omega))))
          rename Fr _ _ _ _ => F'
          rename News _ _ _ _ => N''
          exact hQ0 _ _ ⟨⟨hg, rfl⟩, _, F', News.right (a := [_]) N'', ⟨_, _, rfl, (N'' _ (.head _)).2.2, (N'' _ (.head _)).1, .cons _ _ (.cons _ _ .nil)⟩, rfl⟩
        intro sD sE FE ME TE
        dsimp only
        refine sg_block (pre := [_, _]) (rest := []) (dp := 510) (un := 5100) (extra := []) (Φ := fun f m'' _ => f = .next ∧ ∃ t1 t2 t3 t4, m'' (Str.ofString "a") = some (.int a' t1) ∧ m'' (Str.ofString "b") = some (.int b' t2) ∧ m'' (Str.ofString "x") = some (.int (x + b', y - a').1 t3) ∧ m'' (Str.ofString "y") = some (.int (x + b', y - a').2 t4)) ?_ FE News.nil rfl (Nat.le_of_ble_eq_true rfl) (Nat.le_of_ble_eq_true rfl) ?_
        · clear FE FC
          intro s hg F N' N
          refine hideQ fun Q0 hQ0 => ?_
          (repeat' (first | (with_reducible show wpAny _ _ _ _ _ _); (fail_if_success (first | (with_reducible show wpAny _ _ (exec (Stmt.While _ _ _ _) _) _ _ _) | (with_reducible show wpAny _ _ (exec (Stmt.For _ _ _ _ _) _) _ _ _) | (with_reducible show wpAny _ _ (call (Value.ref _) _ _) _ _ _))); (first | (first | ((with_reducible show wpAny _ _ (eval (.Name _ _) _) _ _ _); (refine' nameX_L ?zf ?zv ?_; (case zf => assumption); (case zv => (repeat' first | assumption | exact if_pos rfl | refine (if_neg (by decide)).trans ?_)))) | ((with_reducible show wpAny _ _ (binaryOp .FloorDiv (.int _ _) (.int _ _)) _ _ _); refine floordiv_int (by first | lia | omega) ?_ (Or.inl (PyProof.noPylong_small (by first | lia | omega)))) | ((with_reducible show wpAny _ _ (binaryOp .Mult (.int _ _) (.int _ _)) _ _ _); first | refine PyProof.Rows.mul_int ?_ (PySem.IntMulOk.of_right (PySem.intBits_le_64 (by first | lia | omega) (by first | lia | omega))) | refine PyProof.Rows.mul_int ?_ (PySem.IntMulOk.of_left (PySem.intBits_le_64 (by first | lia | omega) (by first | lia | omega)))) | ((with_reducible show wpAny _ _ (loadName _ _) _ _ _); refine' ldn ?zkf ?zkv ?_ ?zka ?zkb; (case zkf => assumption); (case zkv => (repeat' first | assumption | exact if_pos rfl | refine (if_neg (by decide)).trans ?_)); (case zka => exact rfl); (case zkb => exact rfl)) | walk1) | (dsimp only; walk1)) | (with_reducible show ite _ _ _); split; all_goals (try (rename_i hq; exfalso; simp only [decide_eq_true_eq, Bool.not_eq_true, decide_eq_false_iff_not, beq_iff_eq, bne_iff_ne, beq_eq_false_iff_ne, bne_eq_false_iff_eq, ne_eq, Bool.false_eq_true, not_true_eq_false, not_false_eq_true] at hq <;> first | lia | omega))))
          rename Fr _ _ _ _ => F'
          rename News _ _ _ _ => N''
          exact hQ0 _ _ ⟨⟨hg, rfl⟩, _, F', N'', rfl, _, _, _, _, (by (repeat' first | assumption | exact if_pos rfl | refine (if_neg (by decide)).trans ?_)), (by (repeat' first | assumption | exact if_pos rfl | refine (if_neg (by decide)).trans ?_)), (by (repeat' first | assumption | exact if_pos rfl | refine (if_neg (by decide)).trans ?_)), by (repeat' first | assumption | exact if_pos rfl | refine (if_neg (by decide)).trans ?_)⟩
        intro f mG sG FG hq40_
        clear hq40_
        intro MG GG hq41_
        refine ex0_2 (hq41_) ?_
        clear hq41_
        intro hq42_ hJ
        obtain rfl := hq42_
        refine x_nil (x_again rfl (IH (x + b', y - a') mG sD sG (by dsimp only; (clear hJ GG MG FG TE ME FE TC MC q4 q3 q2 q1 FC IH hk hX T₅ M₅ r4 r3 r2 r1 F₅ by_ bx hz M₄ hd1 hd0 EB hE hc0 e3 e2 e1 M₃ g7 g6 g5 g4 g3 g1 hda lim T X W' hroom bsize base hc2 hb2 ha2 hc hb0 ha; omega)) hJ FG (ME.trans MG) (TE.same GG)))
      · rw [if_neg (by simpa using hy)]
        rw [show (up a' b' x y) = [] from up_neg hy]
        refine x_pop (.ok .next) ?_
        rw [hk]
        exact x_nil (x_nil (x_end (.ok (.ret .none)) ⟨rfl, MC, TC⟩))
    · rw [if_neg hX, if_neg (by simpa using hX)]
      refine x_cons (x_While fun k hk p => ?_)
      refine gen_while (μ := fun i : Int × Int => (i.1 + 1).toNat) (rows := fun i => down a' b' i.1 i.2) (J := fun i m => ∃ t1 t2 t3 t4, m (Str.ofString "a") = some (.int a' t1) ∧ m (Str.ofString "b") = some (.int b' t2) ∧ m (Str.ofString "x") = some (.int i.1 t3) ∧ m (Str.ofString "y") = some (.int i.2 t4)) ?_ (X0, Y0) m₃ s₁ s₅ ⟨_, _, _, _, r1, r2, r3, r4⟩ F₅ M₅ T₅
      intro hq43_
      obtain ⟨x, y⟩ := hq43_
      intro m sA sB hq44_
      refine ex4_4 (hq44_) ?_
      clear hq44_
      intro v1 v2 v3 v4 q1 q2 q3 q4
      intro F M T IH
      dsimp only at q1 q2 q3 q4
      refine sg_while (dp := 510) (un := 5100) (extra := []) (Φ := fun f m' _ => f = decide (0 ≤ x) ∧ m' = m) ?_ F News.nil rfl (Nat.le_of_ble_eq_true rfl) (Nat.le_of_ble_eq_true rfl) ?_
      · clear F
        intro s hg F N' N
        refine hideQ fun Q0 hQ0 => ?_
        (repeat' (first | (with_reducible show wpAny _ _ _ _ _ _); (fail_if_success (first | (with_reducible show wpAny _ _ (exec (Stmt.While _ _ _ _) _) _ _ _) | (with_reducible show wpAny _ _ (exec (Stmt.For _ _ _ _ _) _) _ _ _) | (with_reducible show wpAny _ _ (call (Value.ref _) _ _) _ _ _))); (first | (first | ((with_reducible show wpAny _ _ (eval (.Name _ _) _) _ _ _); (refine' nameX_L ?zf ?zv ?_; (case zf => assumption); (case zv => (repeat' first | assumption | exact if_pos rfl | refine (if_neg (by decide)).trans ?_)))) | ((with_reducible show wpAny _ _ (binaryOp .FloorDiv (.int _ _) (.int _ _)) _ _ _); refine floordiv_int (by first | lia | omega) ?_ (Or.inl (PyProof.noPylong_small (by first | lia | omega)))) | ((with_reducible show wpAny _ _ (binaryOp .Mult (.int _ _) (.int _ _)) _ _ _); first | refine PyProof.Rows.mul_int ?_ (PySem.IntMulOk.of_right (PySem.intBits_le_64 (by first | lia | omega) (by first | lia | omega))) | refine PyProof.Rows.mul_int ?_ (PySem.IntMulOk.of_left (PySem.intBits_le_64 (by first | lia | omega) (by first | lia | omega)))) | ((with_reducible show wpAny _ _ (loadName _ _) _ _ _); refine' ldn ?zkf ?zkv ?_ ?zka ?zkb; (case zkf => assumption); (case zkv => (repeat' first | assumption | exact if_pos rfl | refine (if_neg (by decide)).trans ?_)); (case zka => exact rfl); (case zkb => exact rfl)) | walk1) | (dsimp only; walk1)) | (with_reducible show ite _ _ _); split; all_goals (try (rename_i hq; exfalso; simp only [decide_eq_true_eq, Bool.not_eq_true, decide_eq_false_iff_not, beq_iff_eq, bne_iff_ne, beq_eq_false_iff_ne, bne_eq_false_iff_eq, ne_eq, Bool.false_eq_true, not_true_eq_false, not_false_eq_true] at hq <;> first | lia | omega))))
        rename Fr _ _ _ _ => F'
        rename News _ _ _ _ => N''
        exact hQ0 _ _ ⟨⟨hg, rfl⟩, _, F', N'', rfl, rfl⟩
      intro f m' sC FC hq45_
      clear hq45_
      intro MC GC hq46_
      refine ex0_2 (hq46_) ?_
      clear hq46_
      intro hq47_ hq48_
      obtain rfl := hq47_
      obtain rfl := hq48_
      have MC := M.trans MC
      have TC := T.same GC
      clear M T GC F
      by_cases hy : 0 ≤ x
      · rw [if_pos (by simpa using hy)]
        intro H''
        rw [show (down a' b' x y) = (if 0 ≤ y then [[x, y]] else []) ++ down a' b' (x - b', y + a').1 (x - b', y + a').2 from down_pos g4 hy]
        refine x_cons ?_
        refine sg_maybe (dp' := 510) (un' := 5100) (m := m') ?_ ?_ FC MC TC rfl (Nat.le_of_ble_eq_true rfl) (Nat.le_of_ble_eq_true rfl) rfl rfl rfl rfl ?_
        · clear FC
          intro s hg F N' N
          refine hideQ fun Q0 hQ0 => ?_
          (repeat' (first | (with_reducible show wpAny _ _ _ _ _ _); (fail_if_success (first | (with_reducible show wpAny _ _ (exec (Stmt.While _ _ _ _) _) _ _ _) | (with_reducible show wpAny _ _ (exec (Stmt.For _ _ _ _ _) _) _ _ _) | (with_reducible show wpAny _ _ (call (Value.ref _) _ _) _ _ _))); (first | (first | ((with_reducible show wpAny _ _ (eval (.Name _ _) _) _ _ _); (refine' nameX_L ?zf ?zv ?_; (case zf => assumption); (case zv => (repeat' first | assumption | exact if_pos rfl | refine (if_neg (by decide)).trans ?_)))) | ((with_reducible show wpAny _ _ (binaryOp .FloorDiv (.int _ _) (.int _ _)) _ _ _); refine floordiv_int (by first | lia | omega) ?_ (Or.inl (PyProof.noPylong_small (by first | lia | omega)))) | ((with_reducible show wpAny _ _ (binaryOp .Mult (.int _ _) (.int _ _)) _ _ _); first | refine PyProof.Rows.mul_int ?_ (PySem.IntMulOk.of_right (PySem.intBits_le_64 (by first | lia | omega) (by first | lia | omega))) | refine PyProof.Rows.mul_int ?_ (PySem.IntMulOk.of_left (PySem.intBits_le_64 (by first | lia | omega) (by first | lia | omega)))) | ((with_reducible show wpAny _ _ (loadName _ _) _ _ _); refine' ldn ?zkf ?zkv ?_ ?zka ?zkb; (case zkf => assumption); (case zkv => (repeat' first | assumption | exact if_pos rfl | refine (if_neg (by decide)).trans ?_)); (case zka => exact rfl); (case zkb => exact rfl)) | walk1) | (dsimp only; walk1)) | (with_reducible show ite _ _ _); split; all_goals (try (rename_i hq; exfalso; simp only [decide_eq_true_eq, Bool.not_eq_true, decide_eq_false_iff_not, beq_iff_eq, bne_iff_ne, beq_eq_false_iff_ne, bne_eq_false_iff_eq, ne_eq, Bool.false_eq_true, not_true_eq_false, not_false_eq_true] at hq <;> first | lia | omega))))
          rename Fr _ _ _ _ => F'
          rename News _ _ _ _ => N''
          exact hQ0 _ _ ⟨⟨hg, rfl⟩, _, F', N'', rfl, rfl⟩
        · intro hq
          clear FC
          intro s hg F N' N
          refine hideQ fun Q0 hQ0 => ?_
          (repeat' (first | (with_reducible show wpAny _ _ _ _ _ _); (fail_if_success (first | (with_reducible show wpAny _ _ (exec (Stmt.While _ _ _ _) _) _ _ _) | (with_reducible show wpAny _ _ (exec (Stmt.For _ _ _ _ _) _) _ _ _) | (with_reducible show wpAny _ _ (call (Value.ref _) _ _) _ _ _))); (first | (first | ((with_reducible show wpAny _ _ (eval (.Name _ _) _) _ _ _); (refine' nameX_L ?zf ?zv ?_; (case zf => assumption); (case zv => (repeat' first | assumption | exact if_pos rfl | refine (if_neg (by decide)).trans ?_)))) | ((with_reducible show wpAny _ _ (binaryOp .FloorDiv (.int _ _) (.int _ _)) _ _ _); refine floordiv_int (by first | lia | omega) ?_ (Or.inl (PyProof.noPylong_small (by first | lia | omega)))) | ((with_reducible show wpAny _ _ (binaryOp .Mult (.int _ _) (.int _ _)) _ _ _); first | refine PyProof.Rows.mul_int ?_ (PySem.IntMulOk.of_right (PySem.intBits_le_64 (by first | lia | omega) (by first | lia | omega))) | refine PyProof.Rows.mul_int ?_ (PySem.IntMulOk.of_left (PySem.intBits_le_64 (by first | lia | omega) (by first | lia | omega)))) | ((with_reducible show wpAny _ _ (loadName _ _) _ _ _); refine' ldn ?zkf ?zkv ?_ ?zka ?zkb; (case zkf => assumption); (case zkv => (repeat' first | assumption | exact if_pos rfl | refine (if_neg (by decide)).trans ?_)); (case zka => exact rfl); (case zkb => exact rfl)) | walk1) | (dsimp only; walk1)) | (with_reducible show ite _ _ _); split; all_goals (try (rename_i hq; exfalso; simp only [decide_eq_true_eq, Bool.not_eq_true, decide_eq_false_iff_not, beq_iff_eq, bne_iff_ne, beq_eq_false_iff_ne, bne_eq_false_iff_eq, ne_eq, Bool.false_eq_true, not_true_eq_false, not_false_eq_true] at hq <;> first | lia | omega))))
          rename Fr _ _ _ _ => F'
          rename News _ _ _ _ => N''
          exact hQ0 _ _ ⟨⟨hg, rfl⟩, _, F', News.right (a := [_]) N'', ⟨_, _, rfl, (N'' _ (.head _)).2.2, (N'' _ (.head _)).1, .cons _ _ (.cons _ _ .nil)⟩, rfl⟩
        intro sD sE FE ME TE
        dsimp only
        refine sg_block (pre := [_, _]) (rest := []) (dp := 510) (un := 5100) (extra := []) (Φ := fun f m'' _ => f = .next ∧ ∃ t1 t2 t3 t4, m'' (Str.ofString "a") = some (.int a' t1) ∧ m'' (Str.ofString "b") = some (.int b' t2) ∧ m'' (Str.ofString "x") = some (.int (x - b', y + a').1 t3) ∧ m'' (Str.ofString "y") = some (.int (x - b', y + a').2 t4)) ?_ FE News.nil rfl (Nat.le_of_ble_eq_true rfl) (Nat.le_of_ble_eq_true rfl) ?_
        · clear FE FC
          intro s hg F N' N
          refine hideQ fun Q0 hQ0 => ?_
          (repeat' (first | (with_reducible show wpAny _ _ _ _ _ _); (fail_if_success (first | (with_reducible show wpAny _ _ (exec (Stmt.While _ _ _ _) _) _ _ _) | (with_reducible show wpAny _ _ (exec (Stmt.For _ _ _ _ _) _) _ _ _) | (with_reducible show wpAny _ _ (call (Value.ref _) _ _) _ _ _))); (first | (first | ((with_reducible show wpAny _ _ (eval (.Name _ _) _) _ _ _); (refine' nameX_L ?zf ?zv ?_; (case zf => assumption); (case zv => (repeat' first | assumption | exact if_pos rfl | refine (if_neg (by decide)).trans ?_)))) | ((with_reducible show wpAny _ _ (binaryOp .FloorDiv (.int _ _) (.int _ _)) _ _ _); refine floordiv_int (by first | lia | omega) ?_ (Or.inl (PyProof.noPylong_small (by first | lia | omega)))) | ((with_reducible show wpAny _ _ (binaryOp .Mult (.int _ _) (.int _ _)) _ _ _); first | refine PyProof.Rows.mul_int ?_ (PySem.IntMulOk.of_right (PySem.intBits_le_64 (by first | lia | omega) (by first | lia | omega))) | refine PyProof.Rows.mul_int ?_ (PySem.IntMulOk.of_left (PySem.intBits_le_64 (by first | lia | omega) (by first | lia | omega)))) | ((with_reducible show wpAny _ _ (loadName _ _) _ _ _); refine' ldn ?zkf ?zkv ?_ ?zka ?zkb; (case zkf => assumption); (case zkv => (repeat' first | assumption | exact if_pos rfl | refine (if_neg (by decide)).trans ?_)); (case zka => exact rfl); (case zkb => exact rfl)) | walk1) | (dsimp only; walk1)) | (with_reducible show ite _ _ _); split; all_goals (try (rename_i hq; exfalso; simp only [decide_eq_true_eq, Bool.not_eq_true, decide_eq_false_iff_not, beq_iff_eq, bne_iff_ne, beq_eq_false_iff_ne, bne_eq_false_iff_eq, ne_eq, Bool.false_eq_true, not_true_eq_false, not_false_eq_true] at hq <;> first | lia | omega))))
          rename Fr _ _ _ _ => F'
          rename News _ _ _ _ => N''
          exact hQ0 _ _ ⟨⟨hg, rfl⟩, _, F', N'', rfl, _, _, _, _, (by (repeat' first | assumption | exact if_pos rfl | refine (if_neg (by decide)).trans ?_)), (by (repeat' first | assumption | exact if_pos rfl | refine (if_neg (by decide)).trans ?_)), (by (repeat' first | assumption | exact if_pos rfl | refine (if_neg (by decide)).trans ?_)), by (repeat' first | assumption | exact if_pos rfl | refine (if_neg (by decide)).trans ?_)⟩
        intro f mG sG FG hq49_
        clear hq49_
        intro MG GG hq50_
        refine ex0_2 (hq50_) ?_
        clear hq50_
        intro hq51_ hJ
        obtain rfl := hq51_
        refine x_nil (x_again rfl (IH (x - b', y + a') mG sD sG (by dsimp only; (clear hJ GG MG FG TE ME FE TC MC q4 q3 q2 q1 FC IH hk hX T₅ M₅ r4 r3 r2 r1 F₅ by_ bx hz M₄ hd1 hd0 EB hE hc0 e3 e2 e1 M₃ g7 g6 g5 g3 g2 g1 hda lim T X W' hroom bsize base hc2 hb2 ha2 hc hb0 ha; omega)) hJ FG (ME.trans MG) (TE.same GG)))
      · rw [if_neg (by simpa using hy)]
        rw [show (down a' b' x y) = [] from down_neg hy]
        refine x_pop (.ok .next) ?_
        rw [hk]
        exact x_nil (x_nil (x_end (.ok (.ret .none)) ⟨rfl, MC, TC⟩))

set_option maxHeartbeats 4000000 in
theorem solve0_ok {w : World} {hb : Heap} (W : Wd w hb) {t : Int} {tt : Tok} {s : Shared} {A : Around}
    (base : ∀ d o, hb.get? d = some o → s.heap.get? d = some o) (bsize : hb.objs.size ≤ s.heap.objs.size) (hroom : A.depth < recursionLimit) :
    wpAny (MM w) A (call (.ref 40) [.int t tt]) (fun v s' => Born w hb 480 4800 (if t = 0 then [[]] else []) s v s') (fun _ _ => False) s := by
  have fill : (Mine.hd.heap_39 w.params).In hb → PySem.Challenge.rw_jf0027_01.row = PySem.Challenge.rw_jf0027_01.row := by
    k_fill
    intro _; rfl
  clear fill
  have W' := W
  obtain ⟨X, p, loose, mean, mg, mb, T⟩ := W
  have lim := T.nolimit
  refine' enterGenC (cx := Str.ofString "remainder_gcd") (K := Mine.hd.heap_39 w.params) (vs := []) (binds := [(Str.ofString "total", .int t tt), (Str.ofString "coeffs", .ref s.heap.objs.size)]) ?kW ?kl ?kbase ?kbs ?kR ?ko ?kc ?kb ?kcs ?kloc ?kcm ?kb2 ?c1 ?c2 ?c3
  case ko => k_is
  case kc => k_is
  case kb =>
    intro M A E Q hQ
    show wpAny M A (newTuple [] >>= fun v => pure [(Str.ofString "total", .int t tt), (Str.ofString "coeffs", v)]) Q E s
    unfold newTuple
    exact wpAny_bind (wpAny_newObj_type (wpAny_pure hQ) (by size_fits))
  case kloc => exact locs rfl
  case c1 => exact rfl
  case c2 => exact rfl
  case c3 => exact rfl
  case kcs => intro n; rfl
  case kcm => intro L; rfl
  case kR => exact hroom
  case kW => exact X
  case kl => exact lim
  case kbase => exact base
  case kbs => exact bsize
  k_whole
  intro L ocl s₁ F N hocl hCL
  generalize s.heap.objs.size = C at F N hCL ⊢
  generalize hm : bindL _ _ _ = m at F
  have ht : m (Str.ofString "total") = some (.int t tt) := by rw [← hm]; rfl
  have hcf : m (Str.ofString "coeffs") = some (.ref C) := by rw [← hm]; rfl
  clear hm
  have M₀ : Moves (ownOf L [(C, tupObj []), (L + 1, ocl)]) (fun _ => False) s₁ s₁ := Moves.refl _
  have T₀ : Tidy (fun _ => False) (fun _ => False) s₁ s₁ := Tidy.refl _
  refine x_func fun H' => x_cons ?_
  refine sg_If (dp := 490) (un := 4900) (Φ := fun f m' _ => f = true ∧ m' = m) ?_ F N rfl (Nat.le_of_ble_eq_true rfl) (Nat.le_of_ble_eq_true rfl) ?_
  · clear F N
    intro s hg F N' N
    refine hideQ fun Q0 hQ0 => ?_
    (repeat' (first | (with_reducible show wpAny _ _ _ _ _ _); (fail_if_success (first | (with_reducible show wpAny _ _ (exec (Stmt.While _ _ _ _) _) _ _ _) | (with_reducible show wpAny _ _ (exec (Stmt.For _ _ _ _ _) _) _ _ _) | (with_reducible show wpAny _ _ (call (Value.ref _) _ _) _ _ _))); (first | (first | ((with_reducible show wpAny _ _ (eval (.Name _ _) _) _ _ _); (refine' nameX_L ?zf ?zv ?_; (case zf => assumption); (case zv => (repeat' first | assumption | exact if_pos rfl | refine (if_neg (by decide)).trans ?_)))) | ((with_reducible show wpAny _ _ (binaryOp .FloorDiv (.int _ _) (.int _ _)) _ _ _); refine floordiv_int (by first | lia | omega) ?_ (Or.inl (PyProof.noPylong_small (by first | lia | omega)))) | walk1) | (dsimp only; walk1)) | (with_reducible show ite _ _ _); split; all_goals (try (rename_i hq; exfalso; simp only [decide_eq_true_eq, Bool.not_eq_true, decide_eq_false_iff_not, beq_iff_eq, bne_iff_ne, beq_eq_false_iff_ne, bne_eq_false_iff_eq, ne_eq, Bool.false_eq_true, not_true_eq_false, not_false_eq_true] at hq <;> first | lia | omega))))
    rename Fr _ _ _ _ => F'
    rename News _ _ _ _ => N''
    exact hQ0 _ _ ⟨⟨hg, rfl⟩, _, F', N'', rfl, rfl⟩
  clear F N
  intro f m' s₂ F N M₂ G₂ hq1_
  refine ex0_2 (hq1_) ?_
  clear hq1_
  intro hq2_ hmm
  obtain rfl := hq2_
  rw [hmm] at F
  clear hmm m'
  have M₀ := moves_L M₀ M₂ (.inl rfl)
  have T₀ := T₀.same G₂
  clear M₂ G₂
  rw [if_pos rfl]
  rw [← List.append_nil (if t = 0 then [[]] else [])]
  refine x_cons ?_
  refine sg_maybe2 (dp' := 490) (un' := 4900) (m := m) ?_ ?_ F N M₀ T₀ rfl (Nat.le_of_ble_eq_true rfl) (Nat.le_of_ble_eq_true rfl) rfl rfl rfl rfl ?_
  · clear F N
    intro s hg F N' N
    refine hideQ fun Q0 hQ0 => ?_
    (repeat' (first | (with_reducible show wpAny _ _ _ _ _ _); (fail_if_success (first | (with_reducible show wpAny _ _ (exec (Stmt.While _ _ _ _) _) _ _ _) | (with_reducible show wpAny _ _ (exec (Stmt.For _ _ _ _ _) _) _ _ _) | (with_reducible show wpAny _ _ (call (Value.ref _) _ _) _ _ _))); (first | (first | ((with_reducible show wpAny _ _ (eval (.Name _ _) _) _ _ _); (refine' nameX_L ?zf ?zv ?_; (case zf => assumption); (case zv => (repeat' first | assumption | exact if_pos rfl | refine (if_neg (by decide)).trans ?_)))) | ((with_reducible show wpAny _ _ (binaryOp .FloorDiv (.int _ _) (.int _ _)) _ _ _); refine floordiv_int (by first | lia | omega) ?_ (Or.inl (PyProof.noPylong_small (by first | lia | omega)))) | walk1) | (dsimp only; walk1)) | (with_reducible show ite _ _ _); split; all_goals (try (rename_i hq; exfalso; simp only [decide_eq_true_eq, Bool.not_eq_true, decide_eq_false_iff_not, beq_iff_eq, bne_iff_ne, beq_eq_false_iff_ne, bne_eq_false_iff_eq, ne_eq, Bool.false_eq_true, not_true_eq_false, not_false_eq_true] at hq <;> first | lia | omega))))
    rename Fr _ _ _ _ => F'
    rename News _ _ _ _ => N''
    exact hQ0 _ _ ⟨⟨hg, rfl⟩, _, F', N'', rfl, rfl⟩
  · intro hq
    clear F N
    intro s hg F N' N
    refine hideQ fun Q0 hQ0 => ?_
    have hq1 := Heap.lt_size (N _ (.head _)).1
    have hq2 := Heap.lt_size (N _ (.tail _ (.head _))).1
    (repeat' (first | (with_reducible show wpAny _ _ _ _ _ _); (fail_if_success (first | (with_reducible show wpAny _ _ (exec (Stmt.While _ _ _ _) _) _ _ _) | (with_reducible show wpAny _ _ (exec (Stmt.For _ _ _ _ _) _) _ _ _) | (with_reducible show wpAny _ _ (call (Value.ref _) _ _) _ _ _))); (first | (first | ((with_reducible show wpAny _ _ (eval (.Name _ _) _) _ _ _); (refine' nameX_L ?zf ?zv ?_; (case zf => assumption); (case zv => (repeat' first | assumption | exact if_pos rfl | refine (if_neg (by decide)).trans ?_)))) | ((with_reducible show wpAny _ _ (binaryOp .FloorDiv (.int _ _) (.int _ _)) _ _ _); refine floordiv_int (by first | lia | omega) ?_ (Or.inl (PyProof.noPylong_small (by first | lia | omega)))) | walk1) | (dsimp only; walk1)) | (with_reducible show ite _ _ _); split; all_goals (try (rename_i hq; exfalso; simp only [decide_eq_true_eq, Bool.not_eq_true, decide_eq_false_iff_not, beq_iff_eq, bne_iff_ne, beq_eq_false_iff_ne, bne_eq_false_iff_eq, ne_eq, Bool.false_eq_true, not_true_eq_false, not_false_eq_true] at hq <;> first | lia | omega))))
    refine tuple_none ?_
    have nh : News hb L _ _ := News.push F N (tupObj [])
    refine hQ0 _ _ ⟨⟨hg, rfl⟩, _, Fr.push F _, News.right (a := [_]) nh, ⟨_, _, rfl, (nh _ (.head _)).2.2, (nh _ (.head _)).1, .nil, ?_⟩, rfl⟩
    intro q
    rcases List.mem_cons.mp q with q | q
    · exact absurd q (Nat.ne_of_gt hq1)
    · exact absurd (List.mem_singleton.mp q) (Nat.ne_of_gt hq2)
  intro sD sE FE NE ME TE
  dsimp only
  refine sg_block (pre := [_]) (rest := []) (dp := 490) (un := 4900) (Φ := fun f m'' _ => f = .ret .none) ?_ FE NE rfl (Nat.le_of_ble_eq_true rfl) (Nat.le_of_ble_eq_true rfl) ?_
  · clear F N FE NE
    intro s hg F N' N
    refine hideQ fun Q0 hQ0 => ?_
    (repeat' (first | (with_reducible show wpAny _ _ _ _ _ _); (fail_if_success (first | (with_reducible show wpAny _ _ (exec (Stmt.While _ _ _ _) _) _ _ _) | (with_reducible show wpAny _ _ (exec (Stmt.For _ _ _ _ _) _) _ _ _) | (with_reducible show wpAny _ _ (call (Value.ref _) _ _) _ _ _))); (first | (first | ((with_reducible show wpAny _ _ (eval (.Name _ _) _) _ _ _); (refine' nameX_L ?zf ?zv ?_; (case zf => assumption); (case zv => (repeat' first | assumption | exact if_pos rfl | refine (if_neg (by decide)).trans ?_)))) | ((with_reducible show wpAny _ _ (binaryOp .FloorDiv (.int _ _) (.int _ _)) _ _ _); refine floordiv_int (by first | lia | omega) ?_ (Or.inl (PyProof.noPylong_small (by first | lia | omega)))) | walk1) | (dsimp only; walk1)) | (with_reducible show ite _ _ _); split; all_goals (try (rename_i hq; exfalso; simp only [decide_eq_true_eq, Bool.not_eq_true, decide_eq_false_iff_not, beq_iff_eq, bne_iff_ne, beq_eq_false_iff_ne, bne_eq_false_iff_eq, ne_eq, Bool.false_eq_true, not_true_eq_false, not_false_eq_true] at hq <;> first | lia | omega))))
    rename Fr _ _ _ _ => F'
    rename News _ _ _ _ => N''
    exact hQ0 _ _ ⟨⟨hg, rfl⟩, _, F', N'', rfl⟩
  rintro f m' s₃ F₃ N₃ M₃ G₃ rfl
  exact x_end (.ok (.ret .none)) ⟨rfl, moves_L ME M₃ (.inl rfl), TE.same G₃⟩

set_option maxHeartbeats 4000000 in
theorem solve1_ok {w : World} {hb : Heap} (W : Wd w hb) {t c0 : Int} {tt tc0 : Tok} {s : Shared} {A : Around} (ht0 : 0 ≤ t) (ht1 : t ≤ 1000) (hc0 : 0 < c0) (hc1 : c0 ≤ 1000)
    (base : ∀ d o, hb.get? d = some o → s.heap.get? d = some o) (bsize : hb.objs.size ≤ s.heap.objs.size) (hroom : A.depth < recursionLimit) :
    wpAny (MM w) A (call (.ref 40) [.int t tt, .int c0 tc0]) (fun v s' => Born w hb 480 4800 (if Int.fmod t c0 = 0 then [[Int.fdiv t c0]] else []) s v s') (fun _ _ => False) s := by
  have fill : (Mine.hd.heap_39 w.params).In hb → PySem.Challenge.rw_jf0027_01.row = PySem.Challenge.rw_jf0027_01.row := by
    k_fill
    intro _; rfl
  clear fill
  have W' := W
  obtain ⟨X, p, loose, mean, mg, mb, T⟩ := W
  have lim := T.nolimit
  refine' enterGenC (cx := Str.ofString "remainder_gcd") (K := Mine.hd.heap_39 w.params) (vs := [.int c0 tc0]) (binds := [(Str.ofString "total", .int t tt), (Str.ofString "coeffs", .ref s.heap.objs.size)]) ?kW ?kl ?kbase ?kbs ?kR ?ko ?kc ?kb ?kcs ?kloc ?kcm ?kb2 ?c1 ?c2 ?c3
  case ko => k_is
  case kc => k_is
  case kb =>
    intro M A E Q hQ
    show wpAny M A (newTuple [.int c0 tc0] >>= fun v => pure [(Str.ofString "total", .int t tt), (Str.ofString "coeffs", v)]) Q E s
    unfold newTuple
    exact wpAny_bind (wpAny_newObj_type (wpAny_pure hQ) (by size_fits))
  case kloc => exact locs rfl
  case c1 => exact rfl
  case c2 => exact rfl
  case c3 => exact rfl
  case kcs => intro n; rfl
  case kcm => intro L; rfl
  case kR => exact hroom
  case kW => exact X
  case kl => exact lim
  case kbase => exact base
  case kbs => exact bsize
  k_whole
  intro L ocl s₁ F N hocl hCL
  generalize s.heap.objs.size = C at F N hCL ⊢
  generalize hm : bindL _ _ _ = m at F
  have ht : m (Str.ofString "total") = some (.int t tt) := by rw [← hm]; rfl
  have hcf : m (Str.ofString "coeffs") = some (.ref C) := by rw [← hm]; rfl
  clear hm
  have M₀ : Moves (ownOf L [(C, tupObj [.int c0 tc0]), (L + 1, ocl)]) (fun _ => False) s₁ s₁ := Moves.refl _
  have T₀ : Tidy (fun _ => False) (fun _ => False) s₁ s₁ := Tidy.refl _
  refine x_func fun H' => x_cons ?_
  refine sg_If (dp := 490) (un := 4900) (Φ := fun f m' _ => f = false ∧ m' = m) ?_ F N rfl (Nat.le_of_ble_eq_true rfl) (Nat.le_of_ble_eq_true rfl) ?_
  · clear F N
    intro s hg F N' N
    refine hideQ fun Q0 hQ0 => ?_
    (repeat' (first | (with_reducible show wpAny _ _ _ _ _ _); (fail_if_success (first | (with_reducible show wpAny _ _ (exec (Stmt.While _ _ _ _) _) _ _ _) | (with_reducible show wpAny _ _ (exec (Stmt.For _ _ _ _ _) _) _ _ _) | (with_reducible show wpAny _ _ (call (Value.ref _) _ _) _ _ _))); (first | (first | ((with_reducible show wpAny _ _ (eval (.Name _ _) _) _ _ _); (refine' nameX_L ?zf ?zv ?_; (case zf => assumption); (case zv => (repeat' first | assumption | exact if_pos rfl | refine (if_neg (by decide)).trans ?_)))) | ((with_reducible show wpAny _ _ (binaryOp .FloorDiv (.int _ _) (.int _ _)) _ _ _); refine floordiv_int (by first | lia | omega) ?_ (Or.inl (PyProof.noPylong_small (by first | lia | omega)))) | walk1) | (dsimp only; walk1)) | (with_reducible show ite _ _ _); split; all_goals (try (rename_i hq; exfalso; simp only [decide_eq_true_eq, Bool.not_eq_true, decide_eq_false_iff_not, beq_iff_eq, bne_iff_ne, beq_eq_false_iff_ne, bne_eq_false_iff_eq, ne_eq, Bool.false_eq_true, not_true_eq_false, not_false_eq_true] at hq <;> first | lia | omega))))
    rename Fr _ _ _ _ => F'
    rename News _ _ _ _ => N''
    exact hQ0 _ _ ⟨⟨hg, rfl⟩, _, F', N'', rfl, rfl⟩
  clear F N
  intro f m' s₂ F N M₂ G₂ hq3_
  refine ex0_2 (hq3_) ?_
  clear hq3_
  intro hq4_ hmm
  obtain rfl := hq4_
  rw [hmm] at F
  clear hmm m'
  have M₀ := moves_L M₀ M₂ (.inl rfl)
  have T₀ := T₀.same G₂
  clear M₂ G₂
  rw [if_neg Bool.false_ne_true]
  refine x_nil (x_cons ?_)
  refine sg_If (dp := 490) (un := 4900) (Φ := fun f m' _ => f = true ∧ m' = m) ?_ F N rfl (Nat.le_of_ble_eq_true rfl) (Nat.le_of_ble_eq_true rfl) ?_
  · clear F N
    intro s hg F N' N
    refine hideQ fun Q0 hQ0 => ?_
    (repeat' (first | (with_reducible show wpAny _ _ _ _ _ _); (fail_if_success (first | (with_reducible show wpAny _ _ (exec (Stmt.While _ _ _ _) _) _ _ _) | (with_reducible show wpAny _ _ (exec (Stmt.For _ _ _ _ _) _) _ _ _) | (with_reducible show wpAny _ _ (call (Value.ref _) _ _) _ _ _))); (first | (first | ((with_reducible show wpAny _ _ (eval (.Name _ _) _) _ _ _); (refine' nameX_L ?zf ?zv ?_; (case zf => assumption); (case zv => (repeat' first | assumption | exact if_pos rfl | refine (if_neg (by decide)).trans ?_)))) | ((with_reducible show wpAny _ _ (binaryOp .FloorDiv (.int _ _) (.int _ _)) _ _ _); refine floordiv_int (by first | lia | omega) ?_ (Or.inl (PyProof.noPylong_small (by first | lia | omega)))) | walk1) | (dsimp only; walk1)) | (with_reducible show ite _ _ _); split; all_goals (try (rename_i hq; exfalso; simp only [decide_eq_true_eq, Bool.not_eq_true, decide_eq_false_iff_not, beq_iff_eq, bne_iff_ne, beq_eq_false_iff_ne, bne_eq_false_iff_eq, ne_eq, Bool.false_eq_true, not_true_eq_false, not_false_eq_true] at hq <;> first | lia | omega))))
    rename Fr _ _ _ _ => F'
    rename News _ _ _ _ => N''
    exact hQ0 _ _ ⟨⟨hg, rfl⟩, _, F', N'', rfl, rfl⟩
  clear F N
  intro f m' s₂ F N M₂ G₂ hq5_
  refine ex0_2 (hq5_) ?_
  clear hq5_
  intro hq6_ hmm
  obtain rfl := hq6_
  rw [hmm] at F
  clear hmm m'
  have M₀ := moves_L M₀ M₂ (.inl rfl)
  have T₀ := T₀.same G₂
  clear M₂ G₂
  rw [if_pos rfl]
  rw [← List.append_nil (if Int.fmod t c0 = 0 then [[Int.fdiv t c0]] else [])]
  refine x_cons ?_
  refine sg_maybe2 (dp' := 490) (un' := 4900) (m := m) ?_ ?_ F N M₀ T₀ rfl (Nat.le_of_ble_eq_true rfl) (Nat.le_of_ble_eq_true rfl) rfl rfl rfl rfl ?_
  · clear F N
    intro s hg F N' N
    refine hideQ fun Q0 hQ0 => ?_
    (repeat' (first | (with_reducible show wpAny _ _ _ _ _ _); (fail_if_success (first | (with_reducible show wpAny _ _ (exec (Stmt.While _ _ _ _) _) _ _ _) | (with_reducible show wpAny _ _ (exec (Stmt.For _ _ _ _ _) _) _ _ _) | (with_reducible show wpAny _ _ (call (Value.ref _) _ _) _ _ _))); (first | (first | ((with_reducible show wpAny _ _ (eval (.Name _ _) _) _ _ _); (refine' nameX_L ?zf ?zv ?_; (case zf => assumption); (case zv => (repeat' first | assumption | exact if_pos rfl | refine (if_neg (by decide)).trans ?_)))) | ((with_reducible show wpAny _ _ (binaryOp .FloorDiv (.int _ _) (.int _ _)) _ _ _); refine floordiv_int (by first | lia | omega) ?_ (Or.inl (PyProof.noPylong_small (by first | lia | omega)))) | walk1) | (dsimp only; walk1)) | (with_reducible show ite _ _ _); split; all_goals (try (rename_i hq; exfalso; simp only [decide_eq_true_eq, Bool.not_eq_true, decide_eq_false_iff_not, beq_iff_eq, bne_iff_ne, beq_eq_false_iff_ne, bne_eq_false_iff_eq, ne_eq, Bool.false_eq_true, not_true_eq_false, not_false_eq_true] at hq <;> first | lia | omega))))
    rename Fr _ _ _ _ => F'
    rename News _ _ _ _ => N''
    exact hQ0 _ _ ⟨⟨hg, rfl⟩, _, F', N'', rfl, rfl⟩
  · intro hq
    clear F N
    intro s hg F N' N
    refine hideQ fun Q0 hQ0 => ?_
    have hq1 := Heap.lt_size (N _ (.head _)).1
    have hq2 := Heap.lt_size (N _ (.tail _ (.head _))).1
    (repeat' (first | (with_reducible show wpAny _ _ _ _ _ _); (fail_if_success (first | (with_reducible show wpAny _ _ (exec (Stmt.While _ _ _ _) _) _ _ _) | (with_reducible show wpAny _ _ (exec (Stmt.For _ _ _ _ _) _) _ _ _) | (with_reducible show wpAny _ _ (call (Value.ref _) _ _) _ _ _))); (first | (first | ((with_reducible show wpAny _ _ (eval (.Name _ _) _) _ _ _); (refine' nameX_L ?zf ?zv ?_; (case zf => assumption); (case zv => (repeat' first | assumption | exact if_pos rfl | refine (if_neg (by decide)).trans ?_)))) | ((with_reducible show wpAny _ _ (binaryOp .FloorDiv (.int _ _) (.int _ _)) _ _ _); refine floordiv_int (by first | lia | omega) ?_ (Or.inl (PyProof.noPylong_small (by first | lia | omega)))) | walk1) | (dsimp only; walk1)) | (with_reducible show ite _ _ _); split; all_goals (try (rename_i hq; exfalso; simp only [decide_eq_true_eq, Bool.not_eq_true, decide_eq_false_iff_not, beq_iff_eq, bne_iff_ne, beq_eq_false_iff_ne, bne_eq_false_iff_eq, ne_eq, Bool.false_eq_true, not_true_eq_false, not_false_eq_true] at hq <;> first | lia | omega))))
    rename Fr _ _ _ _ => F'
    rename News _ _ _ _ => N''
    rename (∀ (p : Addr × Obj), p ∈ _ ++ _ → _) => hl
    have hq1 := hl _ (.head _)
    have hq2 := hl _ (.tail _ (.head _))
    refine hQ0 _ _ ⟨⟨hg, rfl⟩, _, F', News.right (a := [_]) N'', ⟨_, _, rfl, (N'' _ (.head _)).2.2, (N'' _ (.head _)).1, .cons _ _ .nil, ?_⟩, rfl⟩
    intro q
    rcases List.mem_cons.mp q with q | q
    · exact absurd q (Nat.ne_of_gt hq1)
    · exact absurd (List.mem_singleton.mp q) (Nat.ne_of_gt hq2)
  intro sD sE FE NE ME TE
  dsimp only
  refine sg_block (pre := [_]) (rest := []) (dp := 490) (un := 4900) (Φ := fun f m'' _ => f = .ret .none) ?_ FE NE rfl (Nat.le_of_ble_eq_true rfl) (Nat.le_of_ble_eq_true rfl) ?_
  · clear F N FE NE
    intro s hg F N' N
    refine hideQ fun Q0 hQ0 => ?_
    (repeat' (first | (with_reducible show wpAny _ _ _ _ _ _); (fail_if_success (first | (with_reducible show wpAny _ _ (exec (Stmt.While _ _ _ _) _) _ _ _) | (with_reducible show wpAny _ _ (exec (Stmt.For _ _ _ _ _) _) _ _ _) | (with_reducible show wpAny _ _ (call (Value.ref _) _ _) _ _ _))); (first | (first | ((with_reducible show wpAny _ _ (eval (.Name _ _) _) _ _ _); (refine' nameX_L ?zf ?zv ?_; (case zf => assumption); (case zv => (repeat' first | assumption | exact if_pos rfl | refine (if_neg (by decide)).trans ?_)))) | ((with_reducible show wpAny _ _ (binaryOp .FloorDiv (.int _ _) (.int _ _)) _ _ _); refine floordiv_int (by first | lia | omega) ?_ (Or.inl (PyProof.noPylong_small (by first | lia | omega)))) | walk1) | (dsimp only; walk1)) | (with_reducible show ite _ _ _); split; all_goals (try (rename_i hq; exfalso; simp only [decide_eq_true_eq, Bool.not_eq_true, decide_eq_false_iff_not, beq_iff_eq, bne_iff_ne, beq_eq_false_iff_ne, bne_eq_false_iff_eq, ne_eq, Bool.false_eq_true, not_true_eq_false, not_false_eq_true] at hq <;> first | lia | omega))))
    rename Fr _ _ _ _ => F'
    rename News _ _ _ _ => N''
    exact hQ0 _ _ ⟨⟨hg, rfl⟩, _, F', N'', rfl⟩
  rintro f m' s₃ F₃ N₃ M₃ G₃ rfl
  exact x_end (.ok (.ret .none)) ⟨rfl, moves_L ME M₃ (.inl rfl), TE.same G₃⟩

set_option maxHeartbeats 4000000 in
theorem solve2_ok {w : World} {hb : Heap} (W : Wd w hb) {t c0 c1 : Int} {tt tc0 tc1 : Tok} {s : Shared} {A : Around} (ht0 : 0 ≤ t) (ht1 : t ≤ 1000) (hc0 : 0 < c0) (hc1 : c0 ≤ 1000) (hc2 : 0 < c1) (hc3 : c1 ≤ 1000)
    (base : ∀ d o, hb.get? d = some o → s.heap.get? d = some o) (bsize : hb.objs.size ≤ s.heap.objs.size) (hroom : A.depth < recursionLimit) :
    wpAny (MM w) A (call (.ref 40) [.int t tt, .int c0 tc0, .int c1 tc1]) (fun v s' => Born w hb 480 4800 (baseL c0 c1 t) s v s') (fun _ _ => False) s := by
  have fill : (Mine.hd.heap_39 w.params).In hb → PySem.Challenge.rw_jf0027_01.row = PySem.Challenge.rw_jf0027_01.row := by
    k_fill
    intro _; rfl
  clear fill
  have W' := W
  obtain ⟨X, p, loose, mean, mg, mb, T⟩ := W
  have lim := T.nolimit
  refine' enterGenC (cx := Str.ofString "remainder_gcd") (K := Mine.hd.heap_39 w.params) (vs := [.int c0 tc0, .int c1 tc1]) (binds := [(Str.ofString "total", .int t tt), (Str.ofString "coeffs", .ref s.heap.objs.size)]) ?kW ?kl ?kbase ?kbs ?kR ?ko ?kc ?kb ?kcs ?kloc ?kcm ?kb2 ?c1 ?c2 ?c3
  case ko => k_is
  case kc => k_is
  case kb =>
    intro M A E Q hQ
    show wpAny M A (newTuple [.int c0 tc0, .int c1 tc1] >>= fun v => pure [(Str.ofString "total", .int t tt), (Str.ofString "coeffs", v)]) Q E s
    unfold newTuple
    exact wpAny_bind (wpAny_newObj_type (wpAny_pure hQ) (by size_fits))
  case kloc => exact locs rfl
  case c1 => exact rfl
  case c2 => exact rfl
  case c3 => exact rfl
  case kcs => intro n; rfl
  case kcm => intro L; rfl
  case kR => exact hroom
  case kW => exact X
  case kl => exact lim
  case kbase => exact base
  case kbs => exact bsize
  k_whole
  intro L ocl s₁ F N hocl hCL
  generalize s.heap.objs.size = C at F N hCL ⊢
  generalize hm : bindL _ _ _ = m at F
  have ht : m (Str.ofString "total") = some (.int t tt) := by rw [← hm]; rfl
  have hcf : m (Str.ofString "coeffs") = some (.ref C) := by rw [← hm]; rfl
  clear hm
  have M₀ : Moves (ownOf L [(C, tupObj [.int c0 tc0, .int c1 tc1]), (L + 1, ocl)]) (fun _ => False) s₁ s₁ := Moves.refl _
  have T₀ : Tidy (fun _ => False) (fun _ => False) s₁ s₁ := Tidy.refl _
  refine x_func fun H' => x_cons ?_
  refine sg_If (dp := 490) (un := 4900) (Φ := fun f m' _ => f = false ∧ m' = m) ?_ F N rfl (Nat.le_of_ble_eq_true rfl) (Nat.le_of_ble_eq_true rfl) ?_
  · clear F N
    intro s hg F N' N
    refine hideQ fun Q0 hQ0 => ?_
    (repeat' (first | (with_reducible show wpAny _ _ _ _ _ _); (fail_if_success (first | (with_reducible show wpAny _ _ (exec (Stmt.While _ _ _ _) _) _ _ _) | (with_reducible show wpAny _ _ (exec (Stmt.For _ _ _ _ _) _) _ _ _) | (with_reducible show wpAny _ _ (call (Value.ref _) _ _) _ _ _))); (first | (first | ((with_reducible show wpAny _ _ (eval (.Name _ _) _) _ _ _); (refine' nameX_L ?zf ?zv ?_; (case zf => assumption); (case zv => (repeat' first | assumption | exact if_pos rfl | refine (if_neg (by decide)).trans ?_)))) | walk1) | (dsimp only; walk1)) | (with_reducible show ite _ _ _); split; all_goals (try (rename_i hq; exfalso; simp only [decide_eq_true_eq, Bool.not_eq_true, decide_eq_false_iff_not, beq_iff_eq, bne_iff_ne, beq_eq_false_iff_ne, bne_eq_false_iff_eq, ne_eq, Bool.false_eq_true, not_true_eq_false, not_false_eq_true] at hq <;> first | lia | omega))))
    rename Fr _ _ _ _ => F'
    rename News _ _ _ _ => N''
    exact hQ0 _ _ ⟨⟨hg, rfl⟩, _, F', N'', rfl, rfl⟩
  clear F N
  intro f m' s₂ F N M₂ G₂ hq1_
  refine ex0_2 (hq1_) ?_
  clear hq1_
  intro hq2_ hmm
  obtain rfl := hq2_
  rw [hmm] at F
  clear hmm m'
  have M₀ := moves_L M₀ M₂ (.inl rfl)
  have T₀ := T₀.same G₂
  clear M₂ G₂
  rw [if_neg Bool.false_ne_true]
  refine x_nil (x_cons ?_)
  refine sg_If (dp := 490) (un := 4900) (Φ := fun f m' _ => f = false ∧ m' = m) ?_ F N rfl (Nat.le_of_ble_eq_true rfl) (Nat.le_of_ble_eq_true rfl) ?_
  · clear F N
    intro s hg F N' N
    refine hideQ fun Q0 hQ0 => ?_
    (repeat' (first | (with_reducible show wpAny _ _ _ _ _ _); (fail_if_success (first | (with_reducible show wpAny _ _ (exec (Stmt.While _ _ _ _) _) _ _ _) | (with_reducible show wpAny _ _ (exec (Stmt.For _ _ _ _ _) _) _ _ _) | (with_reducible show wpAny _ _ (call (Value.ref _) _ _) _ _ _))); (first | (first | ((with_reducible show wpAny _ _ (eval (.Name _ _) _) _ _ _); (refine' nameX_L ?zf ?zv ?_; (case zf => assumption); (case zv => (repeat' first | assumption | exact if_pos rfl | refine (if_neg (by decide)).trans ?_)))) | walk1) | (dsimp only; walk1)) | (with_reducible show ite _ _ _); split; all_goals (try (rename_i hq; exfalso; simp only [decide_eq_true_eq, Bool.not_eq_true, decide_eq_false_iff_not, beq_iff_eq, bne_iff_ne, beq_eq_false_iff_ne, bne_eq_false_iff_eq, ne_eq, Bool.false_eq_true, not_true_eq_false, not_false_eq_true] at hq <;> first | lia | omega))))
    rename Fr _ _ _ _ => F'
    rename News _ _ _ _ => N''
    exact hQ0 _ _ ⟨⟨hg, rfl⟩, _, F', N'', rfl, rfl⟩
  clear F N
  intro f m' s₂ F N M₂ G₂ hq3_
  refine ex0_2 (hq3_) ?_
  clear hq3_
  intro hq4_ hmm
  obtain rfl := hq4_
  rw [hmm] at F
  clear hmm m'
  have M₀ := moves_L M₀ M₂ (.inl rfl)
  have T₀ := T₀.same G₂
  clear M₂ G₂
  rw [if_neg Bool.false_ne_true]
  refine x_nil (x_cons ?_)
  refine sg_If (dp := 490) (un := 4900) (Φ := fun f m' _ => f = true ∧ m' = m) ?_ F N rfl (Nat.le_of_ble_eq_true rfl) (Nat.le_of_ble_eq_true rfl) ?_
  · clear F N
    intro s hg F N' N
    refine hideQ fun Q0 hQ0 => ?_
    (repeat' (first | (with_reducible show wpAny _ _ _ _ _ _); (fail_if_success (first | (with_reducible show wpAny _ _ (exec (Stmt.While _ _ _ _) _) _ _ _) | (with_reducible show wpAny _ _ (exec (Stmt.For _ _ _ _ _) _) _ _ _) | (with_reducible show wpAny _ _ (call (Value.ref _) _ _) _ _ _))); (first | (first | ((with_reducible show wpAny _ _ (eval (.Name _ _) _) _ _ _); (refine' nameX_L ?zf ?zv ?_; (case zf => assumption); (case zv => (repeat' first | assumption | exact if_pos rfl | refine (if_neg (by decide)).trans ?_)))) | walk1) | (dsimp only; walk1)) | (with_reducible show ite _ _ _); split; all_goals (try (rename_i hq; exfalso; simp only [decide_eq_true_eq, Bool.not_eq_true, decide_eq_false_iff_not, beq_iff_eq, bne_iff_ne, beq_eq_false_iff_ne, bne_eq_false_iff_eq, ne_eq, Bool.false_eq_true, not_true_eq_false, not_false_eq_true] at hq <;> first | lia | omega))))
    rename Fr _ _ _ _ => F'
    rename News _ _ _ _ => N''
    exact hQ0 _ _ ⟨⟨hg, rfl⟩, _, F', N'', rfl, rfl⟩
  clear F N
  intro f m' s₂ F N M₂ G₂ hq5_
  refine ex0_2 (hq5_) ?_
  clear hq5_
  intro hq6_ hmm
  obtain rfl := hq6_
  rw [hmm] at F
  clear hmm m'
  have M₀ := moves_L M₀ M₂ (.inl rfl)
  have T₀ := T₀.same G₂
  clear M₂ G₂
  rw [if_pos rfl]
  refine x_cons ?_
  refine x_YieldFrom ?_ rfl
  (repeat' ((with_reducible show wpAny _ _ _ _ _ _); (fail_if_success (with_reducible show wpAny _ _ (spliced _) _ _ _)); (first | (first | ((with_reducible show wpAny _ _ (eval (.Name _ _) _) _ _ _); (refine' nameX_L ?zf ?zv ?_; (case zf => assumption); (case zv => (repeat' first | assumption | exact if_pos rfl | refine (if_neg (by decide)).trans ?_)))) | walk1) | (dsimp only; walk1))))
  refine wp_trip (dp := 490) (un := 4900) (m := m) (extra := [(C, tupObj [.int c0 tc0, .int c1 tc1]), (L + 1, ocl)]) (Φ := fun vs m' _ => (∃ t1 t2 t3, vs = [.int c0 t1, .int c1 t2, .int t t3]) ∧ m' = m) ?_ F N rfl (Nat.le_of_ble_eq_true rfl) (Nat.le_of_ble_eq_true rfl) ?_
  · clear F N
    intro s hg F N' N
    refine hideQ fun Q0 hQ0 => ?_
    (repeat' (first | (with_reducible show wpAny _ _ _ _ _ _); (fail_if_success (first | (with_reducible show wpAny _ _ (exec (Stmt.While _ _ _ _) _) _ _ _) | (with_reducible show wpAny _ _ (exec (Stmt.For _ _ _ _ _) _) _ _ _) | (with_reducible show wpAny _ _ (call (Value.ref _) _ _) _ _ _))); (first | (first | ((with_reducible show wpAny _ _ (eval (.Name _ _) _) _ _ _); (refine' nameX_L ?zf ?zv ?_; (case zf => assumption); (case zv => (repeat' first | assumption | exact if_pos rfl | refine (if_neg (by decide)).trans ?_)))) | walk1) | (dsimp only; walk1)) | (with_reducible show ite _ _ _); split; all_goals (try (rename_i hq; exfalso; simp only [decide_eq_true_eq, Bool.not_eq_true, decide_eq_false_iff_not, beq_iff_eq, bne_iff_ne, beq_eq_false_iff_ne, bne_eq_false_iff_eq, ne_eq, Bool.false_eq_true, not_true_eq_false, not_false_eq_true] at hq <;> first | lia | omega))))
    rename Fr _ _ _ _ => F'
    rename News _ _ _ _ => N''
    exact hQ0 _ _ ⟨⟨hg, by first | rfl | trivial⟩, _, F', N'', ⟨_, _, _, rfl⟩, rfl⟩
  clear F N
  intro vs m' s₂ F N M₂ G₂ hq7_
  refine ex0_2 (hq7_) ?_
  clear hq7_
  intro hq8_ hmm
  refine ex3_1 (hq8_) ?_
  clear hq8_
  intro t1 t2 t3 hq9_
  obtain rfl := hq9_
  rw [hmm] at F
  clear hmm m'
  have M₀ := moves_L M₀ M₂ (.inl rfl)
  have T₀ := T₀.same G₂
  clear M₂ G₂
  refine ⟨X.keeps F.keep, ?_⟩
  refine wpAny_mono (base_ok W' hc0 hc2 ht0 hc1 hc3 ht1 F.keep (Nat.le_of_lt (Nat.lt_of_le_of_lt F.above F.ns.lt)) (Nat.le_of_ble_eq_true rfl)) (fun v s₃ hB => ?_) (fun _ _ x => x)
  refine ex4_8 (hB) ?_
  clear hB
  intro a g own gown hq10_ Lv Mb Tb ha hg hown hgown
  obtain rfl := hq10_
  refine ⟨a, g, rfl, Lv.obj, fun k hk l p => ?_⟩
  refine yf_loop (dpi := 500) (uni := 5000) lim (Low.cons Low.nil (a := 1) (b := 3) (Nat.le_of_ble_eq_true rfl) (Nat.le_of_ble_eq_true rfl)) (by decide) (by decide) (by decide) ?_ _ a g own gown _ _ s₁ s₃ Lv ?_ (M₀.trans (Mb.mono (fun _ q => q.elim) fun _ q => q.elim)) ((T₀.trans Tb).right fun _ q => q.elim) ?_ ?_
  · intro ownD gownD s₁ s' M T
    refine hk _ _ _ (x_cons (x_cmd ?_))
    (repeat' (first | (with_reducible show wpAny _ _ _ _ _ _); (fail_if_success (first | (with_reducible show wpAny _ _ (exec (Stmt.While _ _ _ _) _) _ _ _) | (with_reducible show wpAny _ _ (exec (Stmt.For _ _ _ _ _) _) _ _ _) | (with_reducible show wpAny _ _ (call (Value.ref _) _ _) _ _ _))); (first | (first | ((with_reducible show wpAny _ _ (eval (.Name _ _) _) _ _ _); (refine' nameX_L ?zf ?zv ?_; (case zf => assumption); (case zv => (repeat' first | assumption | exact if_pos rfl | refine (if_neg (by decide)).trans ?_)))) | walk1) | (dsimp only; walk1)) | (with_reducible show ite _ _ _); split; all_goals (try (rename_i hq; exfalso; simp only [decide_eq_true_eq, Bool.not_eq_true, decide_eq_false_iff_not, beq_iff_eq, bne_iff_ne, beq_eq_false_iff_ne, bne_eq_false_iff_eq, ne_eq, Bool.false_eq_true, not_true_eq_false, not_false_eq_true] at hq <;> first | lia | omega))))
    exact x_end (.ok (.ret .none)) ⟨rfl, M, T⟩
  · cases e : hb.get? a with
    | none => rfl
    | some o => exact absurd (Heap.lt_size (F.keep _ _ e)) (Nat.not_lt.mpr ha)
  · rintro b (q | rfl)
    · exact .inr (Nat.le_trans M₀.hsize (hown b q))
    · exact .inr (Nat.le_trans M₀.hsize ha)
  · rintro i (q | rfl)
    · exact .inr (Nat.le_trans M₀.gsize (hgown i q))
    · exact .inr (Nat.le_trans M₀.gsize hg)

set_option maxHeartbeats 4000000 in
theorem solve3_ok {w : World} {hb : Heap} (W : Wd w hb) {t c0 c1 c2 : Int} {tt tc0 tc1 tc2 : Tok} {s : Shared} {A : Around} (ht0 : 0 ≤ t) (ht1 : t ≤ 1000) (hc0 : 0 < c0) (kc0 : c0 ≤ 1000) (hc1 : 0 < c1) (kc1 : c1 ≤ 1000) (hc2 : 0 < c2) (kc2 : c2 ≤ 1000)
    (base : ∀ d o, hb.get? d = some o → s.heap.get? d = some o) (bsize : hb.objs.size ≤ s.heap.objs.size) (hroom : A.depth < recursionLimit) :
    wpAny (MM w) A (call (.ref 40) [.int t tt, .int c0 tc0, .int c1 tc1, .int c2 tc2]) (fun v s' => Born w hb 460 4600 (solveL [c0, c1, c2] t) s v s') (fun _ _ => False) s := by
  have fill : (Mine.hd.heap_39 w.params).In hb → PySem.Challenge.rw_jf0027_01.row = PySem.Challenge.rw_jf0027_01.row := by
    k_fill
    intro _; rfl
  clear fill
  have W' := W
  obtain ⟨X, p, loose, mean, mg, mb, T⟩ := W
  have lim := T.nolimit
  refine' enterGenC (cx := Str.ofString "remainder_gcd") (K := Mine.hd.heap_39 w.params) (vs := [.int c0 tc0, .int c1 tc1, .int c2 tc2]) (binds := [(Str.ofString "total", .int t tt), (Str.ofString "coeffs", .ref s.heap.objs.size)]) ?kW ?kl ?kbase ?kbs ?kR ?ko ?kc ?kb ?kcs ?kloc ?kcm ?kb2 ?c1 ?c2 ?c3
  case ko => k_is
  case kc => k_is
  case kb =>
    intro M A E Q hQ
    show wpAny M A (newTuple [.int c0 tc0, .int c1 tc1, .int c2 tc2] >>= fun v => pure [(Str.ofString "total", .int t tt), (Str.ofString "coeffs", v)]) Q E s
    unfold newTuple
    exact wpAny_bind (wpAny_newObj_type (wpAny_pure hQ) (by size_fits))
  case kloc => exact locs rfl
  case c1 => exact rfl
  case c2 => exact rfl
  case c3 => exact rfl
  case kcs => intro n; rfl
  case kcm => intro L; rfl
  case kR => exact hroom
  case kW => exact X
  case kl => exact lim
  case kbase => exact base
  case kbs => exact bsize
  k_whole
  intro L ocl s₁ F N hocl hCL
  generalize s.heap.objs.size = C at F N hCL ⊢
  generalize hm : bindL _ _ _ = m at F
  have ht : m (Str.ofString "total") = some (.int t tt) := by rw [← hm]; rfl
  have hcf : m (Str.ofString "coeffs") = some (.ref C) := by rw [← hm]; rfl
  clear hm
  have M₀ : Moves (ownOf L [(C, tupObj [.int c0 tc0, .int c1 tc1, .int c2 tc2]), (L + 1, ocl)]) (fun _ => False) s₁ s₁ := Moves.refl _
  have T₀ : Tidy (fun _ => False) (fun _ => False) s₁ s₁ := Tidy.refl _
  refine x_func fun H' => x_cons ?_
  refine sg_If (dp := 470) (un := 4700) (Φ := fun f m' _ => f = false ∧ m' = m) ?_ F N rfl (Nat.le_of_ble_eq_true rfl) (Nat.le_of_ble_eq_true rfl) ?_
  · clear F N
    intro s hg F N' N
    refine hideQ fun Q0 hQ0 => ?_
    (repeat' (first | (with_reducible show wpAny _ _ _ _ _ _); (fail_if_success (first | (with_reducible show wpAny _ _ (exec (Stmt.While _ _ _ _) _) _ _ _) | (with_reducible show wpAny _ _ (exec (Stmt.For _ _ _ _ _) _) _ _ _) | (with_reducible show wpAny _ _ (call (Value.ref _) _ _) _ _ _))); (first | (first | ((with_reducible show wpAny _ _ (subscriptTail _ _ (Value.ref _) (Value.ref _)) _ _ _); first | (refine' slice_13 ?zF ?zN ?zt ?_ ?zhs ?zhg; (case zF => assumption); (case zN => assumption); (case zt => exact News.isTup (by assumption) (by k_mem)); (case zhs => with_unfolding_all rfl); (case zhg => (intro _; with_unfolding_all rfl)); intro D' h' F' N' l1; (try k_lt l1); (try k_sweep)) | (refine' slice_33 ?zF ?zN ?zt ?_ ?zhs ?zhg; (case zF => assumption); (case zN => assumption); (case zt => exact News.isTup (by assumption) (by k_mem)); (case zhs => with_unfolding_all rfl); (case zhg => (intro _; with_unfolding_all rfl)); intro D' h' F' N' l1; (try k_lt l1); (try k_sweep))) | ((with_reducible show wpAny _ _ (eval (.Name _ _) _) _ _ _); first | (refine' nameX_C ?zkf ?zkv ?zkw ?zkx ?_ ?zka ?zkb ?zkc; (case zka => exact rfl); (case zkb => exact rfl); (case zkf => assumption); (case zkv => exact rfl); (case zkw => k_mem); (case zkx => assumption); (case zkc => decide)) | (refine' nameX_L ?zf ?zv ?_; (case zf => assumption); (case zv => (repeat' first | assumption | exact if_pos rfl | refine (if_neg (by decide)).trans ?_)))) | ((with_reducible show wpAny _ _ (binaryOp .FloorDiv (.int _ _) (.int _ _)) _ _ _); refine floordiv_int (by first | lia | omega) ?_ (Or.inl (PyProof.noPylong_small (by first | lia | omega)))) | walk1) | (dsimp only; walk1)) | (with_reducible show ite _ _ _); split; all_goals (try (rename_i hq; exfalso; simp only [decide_eq_true_eq, Bool.not_eq_true, decide_eq_false_iff_not, beq_iff_eq, bne_iff_ne, beq_eq_false_iff_ne, bne_eq_false_iff_eq, ne_eq, Bool.false_eq_true, not_true_eq_false, not_false_eq_true] at hq <;> first | lia | omega))))
    rename Fr _ _ _ _ => F'
    rename News _ _ _ _ => N''
    exact hQ0 _ _ ⟨⟨hg, rfl⟩, _, F', N'', rfl, rfl⟩
  clear F N
  intro f m' s₂ F N M₂ G₂ hq1_
  refine ex0_2 (hq1_) ?_
  clear hq1_
  intro hq2_ hmm
  obtain rfl := hq2_
  rw [hmm] at F
  clear hmm m'
  have M₀ := moves_L M₀ M₂ (.inl rfl)
  have T₀ := T₀.same G₂
  clear M₂ G₂
  rw [if_neg Bool.false_ne_true]
  refine x_nil (x_cons ?_)
  refine sg_If (dp := 470) (un := 4700) (Φ := fun f m' _ => f = false ∧ m' = m) ?_ F N rfl (Nat.le_of_ble_eq_true rfl) (Nat.le_of_ble_eq_true rfl) ?_
  · clear F N
    intro s hg F N' N
    refine hideQ fun Q0 hQ0 => ?_
    (repeat' (first | (with_reducible show wpAny _ _ _ _ _ _); (fail_if_success (first | (with_reducible show wpAny _ _ (exec (Stmt.While _ _ _ _) _) _ _ _) | (with_reducible show wpAny _ _ (exec (Stmt.For _ _ _ _ _) _) _ _ _) | (with_reducible show wpAny _ _ (call (Value.ref _) _ _) _ _ _))); (first | (first | ((with_reducible show wpAny _ _ (subscriptTail _ _ (Value.ref _) (Value.ref _)) _ _ _); first | (refine' slice_13 ?zF ?zN ?zt ?_ ?zhs ?zhg; (case zF => assumption); (case zN => assumption); (case zt => exact News.isTup (by assumption) (by k_mem)); (case zhs => with_unfolding_all rfl); (case zhg => (intro _; with_unfolding_all rfl)); intro D' h' F' N' l1; (try k_lt l1); (try k_sweep)) | (refine' slice_33 ?zF ?zN ?zt ?_ ?zhs ?zhg; (case zF => assumption); (case zN => assumption); (case zt => exact News.isTup (by assumption) (by k_mem)); (case zhs => with_unfolding_all rfl); (case zhg => (intro _; with_unfolding_all rfl)); intro D' h' F' N' l1; (try k_lt l1); (try k_sweep))) | ((with_reducible show wpAny _ _ (eval (.Name _ _) _) _ _ _); first | (refine' nameX_C ?zkf ?zkv ?zkw ?zkx ?_ ?zka ?zkb ?zkc; (case zka => exact rfl); (case zkb => exact rfl); (case zkf => assumption); (case zkv => exact rfl); (case zkw => k_mem); (case zkx => assumption); (case zkc => decide)) | (refine' nameX_L ?zf ?zv ?_; (case zf => assumption); (case zv => (repeat' first | assumption | exact if_pos rfl | refine (if_neg (by decide)).trans ?_)))) | ((with_reducible show wpAny _ _ (binaryOp .FloorDiv (.int _ _) (.int _ _)) _ _ _); refine floordiv_int (by first | lia | omega) ?_ (Or.inl (PyProof.noPylong_small (by first | lia | omega)))) | walk1) | (dsimp only; walk1)) | (with_reducible show ite _ _ _); split; all_goals (try (rename_i hq; exfalso; simp only [decide_eq_true_eq, Bool.not_eq_true, decide_eq_false_iff_not, beq_iff_eq, bne_iff_ne, beq_eq_false_iff_ne, bne_eq_false_iff_eq, ne_eq, Bool.false_eq_true, not_true_eq_false, not_false_eq_true] at hq <;> first | lia | omega))))
    rename Fr _ _ _ _ => F'
    rename News _ _ _ _ => N''
    exact hQ0 _ _ ⟨⟨hg, rfl⟩, _, F', N'', rfl, rfl⟩
  clear F N
  intro f m' s₂ F N M₂ G₂ hq3_
  refine ex0_2 (hq3_) ?_
  clear hq3_
  intro hq4_ hmm
  obtain rfl := hq4_
  rw [hmm] at F
  clear hmm m'
  have M₀ := moves_L M₀ M₂ (.inl rfl)
  have T₀ := T₀.same G₂
  clear M₂ G₂
  rw [if_neg Bool.false_ne_true]
  refine x_nil (x_cons ?_)
  refine sg_If (dp := 470) (un := 4700) (Φ := fun f m' _ => f = false ∧ m' = m) ?_ F N rfl (Nat.le_of_ble_eq_true rfl) (Nat.le_of_ble_eq_true rfl) ?_
  · clear F N
    intro s hg F N' N
    refine hideQ fun Q0 hQ0 => ?_
    (repeat' (first | (with_reducible show wpAny _ _ _ _ _ _); (fail_if_success (first | (with_reducible show wpAny _ _ (exec (Stmt.While _ _ _ _) _) _ _ _) | (with_reducible show wpAny _ _ (exec (Stmt.For _ _ _ _ _) _) _ _ _) | (with_reducible show wpAny _ _ (call (Value.ref _) _ _) _ _ _))); (first | (first | ((with_reducible show wpAny _ _ (subscriptTail _ _ (Value.ref _) (Value.ref _)) _ _ _); first | (refine' slice_13 ?zF ?zN ?zt ?_ ?zhs ?zhg; (case zF => assumption); (case zN => assumption); (case zt => exact News.isTup (by assumption) (by k_mem)); (case zhs => with_unfolding_all rfl); (case zhg => (intro _; with_unfolding_all rfl)); intro D' h' F' N' l1; (try k_lt l1); (try k_sweep)) | (refine' slice_33 ?zF ?zN ?zt ?_ ?zhs ?zhg; (case zF => assumption); (case zN => assumption); (case zt => exact News.isTup (by assumption) (by k_mem)); (case zhs => with_unfolding_all rfl); (case zhg => (intro _; with_unfolding_all rfl)); intro D' h' F' N' l1; (try k_lt l1); (try k_sweep))) | ((with_reducible show wpAny _ _ (eval (.Name _ _) _) _ _ _); first | (refine' nameX_C ?zkf ?zkv ?zkw ?zkx ?_ ?zka ?zkb ?zkc; (case zka => exact rfl); (case zkb => exact rfl); (case zkf => assumption); (case zkv => exact rfl); (case zkw => k_mem); (case zkx => assumption); (case zkc => decide)) | (refine' nameX_L ?zf ?zv ?_; (case zf => assumption); (case zv => (repeat' first | assumption | exact if_pos rfl | refine (if_neg (by decide)).trans ?_)))) | ((with_reducible show wpAny _ _ (binaryOp .FloorDiv (.int _ _) (.int _ _)) _ _ _); refine floordiv_int (by first | lia | omega) ?_ (Or.inl (PyProof.noPylong_small (by first | lia | omega)))) | walk1) | (dsimp only; walk1)) | (with_reducible show ite _ _ _); split; all_goals (try (rename_i hq; exfalso; simp only [decide_eq_true_eq, Bool.not_eq_true, decide_eq_false_iff_not, beq_iff_eq, bne_iff_ne, beq_eq_false_iff_ne, bne_eq_false_iff_eq, ne_eq, Bool.false_eq_true, not_true_eq_false, not_false_eq_true] at hq <;> first | lia | omega))))
    rename Fr _ _ _ _ => F'
    rename News _ _ _ _ => N''
    exact hQ0 _ _ ⟨⟨hg, rfl⟩, _, F', N'', rfl, rfl⟩
  clear F N
  intro f m' s₂ F N M₂ G₂ hq5_
  refine ex0_2 (hq5_) ?_
  clear hq5_
  intro hq6_ hmm
  obtain rfl := hq6_
  rw [hmm] at F
  clear hmm m'
  have M₀ := moves_L M₀ M₂ (.inl rfl)
  have T₀ := T₀.same G₂
  clear M₂ G₂
  rw [if_neg Bool.false_ne_true]
  refine x_nil ?_
  refine sg_block2 (pre := [_, _]) (rest := [_]) (dp := 470) (un := 4700) (Φ := fun f m' extra' _ => f = .next ∧ m' (Str.ofString "total") = some (.int t tt) ∧ m' (Str.ofString "coeffs") = some (.ref C) ∧ ∃ o' tg, extra' = [(C, tupObj [.int c0 tc0, .int c1 tc1, .int c2 tc2]), (L + 1, o')] ∧ o'.data = .cell (some (.int (Int.gcd c1 c2) tg))) ?_ F N rfl ?_ ?_ ?_
  rotate_left
  · exact Nat.le_of_ble_eq_true rfl
  · exact Nat.le_of_ble_eq_true rfl
  rotate_left
  · clear F N
    intro s hg F N' N hne
    refine hideQ fun Q0 hQ0 => ?_
    have hne := hne (L + 1, ocl) (.tail _ (.head _))
    simp only [List.cons_append, List.nil_append] at N
    (repeat' (first | (with_reducible show wpAny _ _ _ _ _ _); (fail_if_success (first | (with_reducible show wpAny _ _ (exec (Stmt.While _ _ _ _) _) _ _ _) | (with_reducible show wpAny _ _ (exec (Stmt.For _ _ _ _ _) _) _ _ _) | (with_reducible show wpAny _ _ (call (Value.ref _) _ _) _ _ _))); (first | (first | ((with_reducible show wpAny _ _ (subscriptTail _ _ (Value.ref _) (Value.ref _)) _ _ _); first | (refine' slice_13 ?zF ?zN ?zt ?_ ?zhs ?zhg; (case zF => assumption); (case zN => assumption); (case zt => exact News.isTup (by assumption) (by k_mem)); (case zhs => with_unfolding_all rfl); (case zhg => (intro _; with_unfolding_all rfl)); intro D' h' F' N' l1; (try k_lt l1); (try k_sweep)) | (refine' slice_33 ?zF ?zN ?zt ?_ ?zhs ?zhg; (case zF => assumption); (case zN => assumption); (case zt => exact News.isTup (by assumption) (by k_mem)); (case zhs => with_unfolding_all rfl); (case zhg => (intro _; with_unfolding_all rfl)); intro D' h' F' N' l1; (try k_lt l1); (try k_sweep))) | ((with_reducible show wpAny _ _ (eval (.Name _ _) _) _ _ _); first | (refine' nameX_C ?zkf ?zkv ?zkw ?zkx ?_ ?zka ?zkb ?zkc; (case zka => exact rfl); (case zkb => exact rfl); (case zkf => assumption); (case zkv => exact rfl); (case zkw => k_mem); (case zkx => assumption); (case zkc => decide)) | (refine' nameX_L ?zf ?zv ?_; (case zf => assumption); (case zv => (repeat' first | assumption | exact if_pos rfl | refine (if_neg (by decide)).trans ?_)))) | ((with_reducible show wpAny _ _ (binaryOp .FloorDiv (.int _ _) (.int _ _)) _ _ _); refine floordiv_int (by first | lia | omega) ?_ (Or.inl (PyProof.noPylong_small (by first | lia | omega)))) | walk1) | (dsimp only; walk1)) | (with_reducible show ite _ _ _); split; all_goals (try (rename_i hq; exfalso; simp only [decide_eq_true_eq, Bool.not_eq_true, decide_eq_false_iff_not, beq_iff_eq, bne_iff_ne, beq_eq_false_iff_ne, bne_eq_false_iff_eq, ne_eq, Bool.false_eq_true, not_true_eq_false, not_false_eq_true] at hq <;> first | lia | omega))))
    refine ⟨X.keeps F.keep, ?_⟩
    refine use F N (gcd_ok (W'.keeps F.keep) (by exact Int.le_of_lt (by assumption)) (by lia)) rfl (by decide) (by decide) ?_
    intro v h' tk' F₁ N₁ hk hq7_
    refine ex1_1 (hq7_) ?_
    clear hq7_
    intro t' hq8_
    obtain rfl := hq8_
    clear F N
    (repeat' (first | (with_reducible show wpAny _ _ _ _ _ _); (fail_if_success (first | (with_reducible show wpAny _ _ (exec (Stmt.While _ _ _ _) _) _ _ _) | (with_reducible show wpAny _ _ (exec (Stmt.For _ _ _ _ _) _) _ _ _) | (with_reducible show wpAny _ _ (call (Value.ref _) _ _) _ _ _))); (first | (first | ((with_reducible show wpAny _ _ (subscriptTail _ _ (Value.ref _) (Value.ref _)) _ _ _); first | (refine' slice_13 ?zF ?zN ?zt ?_ ?zhs ?zhg; (case zF => assumption); (case zN => assumption); (case zt => exact News.isTup (by assumption) (by k_mem)); (case zhs => with_unfolding_all rfl); (case zhg => (intro _; with_unfolding_all rfl)); intro D' h' F' N' l1; (try k_lt l1); (try k_sweep)) | (refine' slice_33 ?zF ?zN ?zt ?_ ?zhs ?zhg; (case zF => assumption); (case zN => assumption); (case zt => exact News.isTup (by assumption) (by k_mem)); (case zhs => with_unfolding_all rfl); (case zhg => (intro _; with_unfolding_all rfl)); intro D' h' F' N' l1; (try k_lt l1); (try k_sweep))) | ((with_reducible show wpAny _ _ (eval (.Name _ _) _) _ _ _); first | (refine' nameX_C ?zkf ?zkv ?zkw ?zkx ?_ ?zka ?zkb ?zkc; (case zka => exact rfl); (case zkb => exact rfl); (case zkf => assumption); (case zkv => exact rfl); (case zkw => k_mem); (case zkx => assumption); (case zkc => decide)) | (refine' nameX_L ?zf ?zv ?_; (case zf => assumption); (case zv => (repeat' first | assumption | exact if_pos rfl | refine (if_neg (by decide)).trans ?_)))) | ((with_reducible show wpAny _ _ (binaryOp .FloorDiv (.int _ _) (.int _ _)) _ _ _); refine floordiv_int (by first | lia | omega) ?_ (Or.inl (PyProof.noPylong_small (by first | lia | omega)))) | walk1) | (dsimp only; walk1)) | (with_reducible show ite _ _ _); split; all_goals (try (rename_i hq; exfalso; simp only [decide_eq_true_eq, Bool.not_eq_true, decide_eq_false_iff_not, beq_iff_eq, bne_iff_ne, beq_eq_false_iff_ne, bne_eq_false_iff_eq, ne_eq, Bool.false_eq_true, not_true_eq_false, not_false_eq_true] at hq <;> first | lia | omega))))
    refine wpAny_For ?_ (fun _ => rfl)
    (repeat' (first | (with_reducible show wpAny _ _ _ _ _ _); (fail_if_success (first | (with_reducible show wpAny _ _ (exec (Stmt.While _ _ _ _) _) _ _ _) | (with_reducible show wpAny _ _ (exec (Stmt.For _ _ _ _ _) _) _ _ _) | (with_reducible show wpAny _ _ (call (Value.ref _) _ _) _ _ _))); (first | (first | ((with_reducible show wpAny _ _ (subscriptTail _ _ (Value.ref _) (Value.ref _)) _ _ _); first | (refine' slice_13 ?zF ?zN ?zt ?_ ?zhs ?zhg; (case zF => assumption); (case zN => assumption); (case zt => exact News.isTup (by assumption) (by k_mem)); (case zhs => with_unfolding_all rfl); (case zhg => (intro _; with_unfolding_all rfl)); intro D' h' F' N' l1; (try k_lt l1); (try k_sweep)) | (refine' slice_33 ?zF ?zN ?zt ?_ ?zhs ?zhg; (case zF => assumption); (case zN => assumption); (case zt => exact News.isTup (by assumption) (by k_mem)); (case zhs => with_unfolding_all rfl); (case zhg => (intro _; with_unfolding_all rfl)); intro D' h' F' N' l1; (try k_lt l1); (try k_sweep))) | ((with_reducible show wpAny _ _ (eval (.Name _ _) _) _ _ _); first | (refine' nameX_C ?zkf ?zkv ?zkw ?zkx ?_ ?zka ?zkb ?zkc; (case zka => exact rfl); (case zkb => exact rfl); (case zkf => assumption); (case zkv => exact rfl); (case zkw => k_mem); (case zkx => assumption); (case zkc => decide)) | (refine' nameX_L ?zf ?zv ?_; (case zf => assumption); (case zv => (repeat' first | assumption | exact if_pos rfl | refine (if_neg (by decide)).trans ?_)))) | ((with_reducible show wpAny _ _ (binaryOp .FloorDiv (.int _ _) (.int _ _)) _ _ _); refine floordiv_int (by first | lia | omega) ?_ (Or.inl (PyProof.noPylong_small (by first | lia | omega)))) | walk1) | (dsimp only; walk1)) | (with_reducible show ite _ _ _); split; all_goals (try (rename_i hq; exfalso; simp only [decide_eq_true_eq, Bool.not_eq_true, decide_eq_false_iff_not, beq_iff_eq, bne_iff_ne, beq_eq_false_iff_ne, bne_eq_false_iff_eq, ne_eq, Bool.false_eq_true, not_true_eq_false, not_false_eq_true] at hq <;> first | lia | omega))))
    rename Fr _ _ _ _ => F'
    rename News _ _ _ _ => N''
    refine iter_tup F' N'' (.head _) (fun I h' oI F₃ N₃ hI hap hLI => ?_)
    refine for_turn ?_ (fun _ => rfl)
    refine next_none rfl F₃ N₃ hI (.head _) (fun p hp => Nat.ne_of_lt (hap p hp)) rfl fun h'' F₄ N₄ => ?_
    dsimp only
    (repeat' (first | (with_reducible show wpAny _ _ _ _ _ _); (fail_if_success (first | (with_reducible show wpAny _ _ (exec (Stmt.While _ _ _ _) _) _ _ _) | (with_reducible show wpAny _ _ (exec (Stmt.For _ _ _ _ _) _) _ _ _) | (with_reducible show wpAny _ _ (call (Value.ref _) _ _) _ _ _))); (first | (first | ((with_reducible show wpAny _ _ (subscriptTail _ _ (Value.ref _) (Value.ref _)) _ _ _); first | (refine' slice_13 ?zF ?zN ?zt ?_ ?zhs ?zhg; (case zF => assumption); (case zN => assumption); (case zt => exact News.isTup (by assumption) (by k_mem)); (case zhs => with_unfolding_all rfl); (case zhg => (intro _; with_unfolding_all rfl)); intro D' h' F' N' l1; (try k_lt l1); (try k_sweep)) | (refine' slice_33 ?zF ?zN ?zt ?_ ?zhs ?zhg; (case zF => assumption); (case zN => assumption); (case zt => exact News.isTup (by assumption) (by k_mem)); (case zhs => with_unfolding_all rfl); (case zhg => (intro _; with_unfolding_all rfl)); intro D' h' F' N' l1; (try k_lt l1); (try k_sweep))) | ((with_reducible show wpAny _ _ (eval (.Name _ _) _) _ _ _); first | (refine' nameX_C ?zkf ?zkv ?zkw ?zkx ?_ ?zka ?zkb ?zkc; (case zka => exact rfl); (case zkb => exact rfl); (case zkf => assumption); (case zkv => exact rfl); (case zkw => k_mem); (case zkx => assumption); (case zkc => decide)) | (refine' nameX_L ?zf ?zv ?_; (case zf => assumption); (case zv => (repeat' first | assumption | exact if_pos rfl | refine (if_neg (by decide)).trans ?_)))) | ((with_reducible show wpAny _ _ (binaryOp .FloorDiv (.int _ _) (.int _ _)) _ _ _); refine floordiv_int (by first | lia | omega) ?_ (Or.inl (PyProof.noPylong_small (by first | lia | omega)))) | walk1) | (dsimp only; walk1)) | (with_reducible show ite _ _ _); split; all_goals (try (rename_i hq; exfalso; simp only [decide_eq_true_eq, Bool.not_eq_true, decide_eq_false_iff_not, beq_iff_eq, bne_iff_ne, beq_eq_false_iff_ne, bne_eq_false_iff_eq, ne_eq, Bool.false_eq_true, not_true_eq_false, not_false_eq_true] at hq <;> first | lia | omega))))
    exact hQ0 _ _ ⟨⟨hg, rfl⟩, m, [_, _], F₄, News.right (a := [_]) N₄, rfl, ht, hcf, _, _, rfl, by assumption⟩
  intro f m' extra' s₂ F N M₂ G₂ hq9_
  refine ex0_4 (hq9_) ?_
  clear hq9_
  intro hq10_ ht hcf hq11_
  obtain rfl := hq10_
  refine ex2_2 (hq11_) ?_
  clear hq11_
  intro o' tg hq12_ ho'
  obtain rfl := hq12_
  have M₀ := M₀.trans M₂
  have T₀ := T₀.same G₂
  clear M₂ G₂
  have hg0 : 0 < (Int.gcd c1 c2 : Int) := Int.ofNat_lt.mpr (Int.gcd_pos_of_ne_zero_left _ (by exact Int.ne_of_gt (by assumption)))
  have hg1 : (Int.gcd c1 c2 : Int) ≤ 1000 := Int.le_trans (Int.gcd_le_left _ hc1) kc1
  have dv1 : (Int.gcd c1 c2 : Int) ∣ c1 := Int.gcd_dvd_left _ _
  have dv2 : (Int.gcd c1 c2 : Int) ∣ c2 := Int.gcd_dvd_right _ _
  generalize hgg : (Int.gcd c1 c2 : Int) = gg at *
  dsimp only
  have H₀ : Holds hb L m' [(C, tupObj [.int c0 tc0, .int c1 tc1, .int c2 tc2]), (L + 1, o')] (ownOf L [(C, tupObj [.int c0 tc0, .int c1 tc1, .int c2 tc2]), (L + 1, o')]) (fun _ => False) (ownOf L [(C, tupObj [.int c0 tc0, .int c1 tc1, .int c2 tc2]), (L + 1, ocl)]) (fun _ => False) s₁ s₂ :=
    ⟨F, N, fun _ q => q, M₀, T₀, fun b q => ⟨.inl q, q.lt F N⟩, fun _ q => q.elim⟩
  clear M₀ T₀
  refine x_cons (x_For ?_ fun _ => rfl)
  (repeat' ((with_reducible show wpAny _ _ _ _ _ _); (fail_if_success (with_reducible show wpAny _ _ (spliced _) _ _ _)); (first | (first | ((with_reducible show wpAny _ _ (subscriptTail _ _ (Value.ref _) (Value.ref _)) _ _ _); first | (refine' slice_13 ?zF ?zN ?zt ?_ ?zhs ?zhg; (case zF => assumption); (case zN => assumption); (case zt => exact News.isTup (by assumption) (by k_mem)); (case zhs => with_unfolding_all rfl); (case zhg => (intro _; with_unfolding_all rfl)); intro D' h' F' N' l1; (try k_lt l1); (try k_sweep)) | (refine' slice_33 ?zF ?zN ?zt ?_ ?zhs ?zhg; (case zF => assumption); (case zN => assumption); (case zt => exact News.isTup (by assumption) (by k_mem)); (case zhs => with_unfolding_all rfl); (case zhg => (intro _; with_unfolding_all rfl)); intro D' h' F' N' l1; (try k_lt l1); (try k_sweep))) | ((with_reducible show wpAny _ _ (eval (.Name _ _) _) _ _ _); first | (refine' nameX_C ?zkf ?zkv ?zkw ?zkx ?_ ?zka ?zkb ?zkc; (case zka => exact rfl); (case zkb => exact rfl); (case zkf => assumption); (case zkv => exact rfl); (case zkw => k_mem); (case zkx => assumption); (case zkc => decide)) | (refine' nameX_L ?zf ?zv ?_; (case zf => assumption); (case zv => (repeat' first | assumption | exact if_pos rfl | refine (if_neg (by decide)).trans ?_)))) | ((with_reducible show wpAny _ _ (binaryOp .FloorDiv (.int _ _) (.int _ _)) _ _ _); refine floordiv_int (by first | lia | omega) ?_ (Or.inl (PyProof.noPylong_small (by first | lia | omega)))) | walk1) | (dsimp only; walk1))))
  refine wp_trip (dp := 470) (un := 4700) (m := m') (extra := [(C, tupObj [.int c0 tc0, .int c1 tc1, .int c2 tc2]), (L + 1, o')]) (Φ := fun vs m'' _ => (∃ t1 t2 t3, vs = [.int c0 t1, .int gg t2, .int t t3]) ∧ m'' = m') ?_ F N rfl (Nat.le_of_ble_eq_true rfl) (Nat.le_of_ble_eq_true rfl) ?_
  · clear F N H₀
    intro s hg F N' N
    refine hideQ fun Q0 hQ0 => ?_
    (repeat' (first | (with_reducible show wpAny _ _ _ _ _ _); (fail_if_success (first | (with_reducible show wpAny _ _ (exec (Stmt.While _ _ _ _) _) _ _ _) | (with_reducible show wpAny _ _ (exec (Stmt.For _ _ _ _ _) _) _ _ _) | (with_reducible show wpAny _ _ (call (Value.ref _) _ _) _ _ _))); (first | (first | ((with_reducible show wpAny _ _ (subscriptTail _ _ (Value.ref _) (Value.ref _)) _ _ _); first | (refine' slice_13 ?zF ?zN ?zt ?_ ?zhs ?zhg; (case zF => assumption); (case zN => assumption); (case zt => exact News.isTup (by assumption) (by k_mem)); (case zhs => with_unfolding_all rfl); (case zhg => (intro _; with_unfolding_all rfl)); intro D' h' F' N' l1; (try k_lt l1); (try k_sweep)) | (refine' slice_33 ?zF ?zN ?zt ?_ ?zhs ?zhg; (case zF => assumption); (case zN => assumption); (case zt => exact News.isTup (by assumption) (by k_mem)); (case zhs => with_unfolding_all rfl); (case zhg => (intro _; with_unfolding_all rfl)); intro D' h' F' N' l1; (try k_lt l1); (try k_sweep))) | ((with_reducible show wpAny _ _ (eval (.Name _ _) _) _ _ _); first | (refine' nameX_C ?zkf ?zkv ?zkw ?zkx ?_ ?zka ?zkb ?zkc; (case zka => exact rfl); (case zkb => exact rfl); (case zkf => assumption); (case zkv => exact rfl); (case zkw => k_mem); (case zkx => assumption); (case zkc => decide)) | (refine' nameX_L ?zf ?zv ?_; (case zf => assumption); (case zv => (repeat' first | assumption | exact if_pos rfl | refine (if_neg (by decide)).trans ?_)))) | ((with_reducible show wpAny _ _ (binaryOp .FloorDiv (.int _ _) (.int _ _)) _ _ _); refine floordiv_int (by first | lia | omega) ?_ (Or.inl (PyProof.noPylong_small (by first | lia | omega)))) | walk1) | (dsimp only; walk1)) | (with_reducible show ite _ _ _); split; all_goals (try (rename_i hq; exfalso; simp only [decide_eq_true_eq, Bool.not_eq_true, decide_eq_false_iff_not, beq_iff_eq, bne_iff_ne, beq_eq_false_iff_ne, bne_eq_false_iff_eq, ne_eq, Bool.false_eq_true, not_true_eq_false, not_false_eq_true] at hq <;> first | lia | omega))))
    rename Fr _ _ _ _ => F'
    rename News _ _ _ _ => N''
    exact hQ0 _ _ ⟨⟨hg, by first | rfl | trivial⟩, _, F', N'', ⟨_, _, _, rfl⟩, rfl⟩
  clear F N
  intro vs m'' s₃ F N M₂ G₂ hq13_
  refine ex0_2 (hq13_) ?_
  clear hq13_
  intro hq14_ hmm
  refine ex3_1 (hq14_) ?_
  clear hq14_
  intro t1 t2 t3 hq15_
  obtain rfl := hq15_
  rw [hmm] at F
  clear hmm m''
  have H₁ := H₀.trip F N M₂ G₂
  clear M₂ G₂ H₀
  refine ⟨X.keeps F.keep, ?_⟩
  refine wpAny_mono (base_ok W' hc0 hg0 ht0 kc0 hg1 ht1 F.keep (Nat.le_of_lt (Nat.lt_of_le_of_lt F.above F.ns.lt)) (Nat.le_of_ble_eq_true rfl)) (fun v s₄ hB => ?_) (fun _ _ x => x)
  refine ex4_8 (hB) ?_
  clear hB
  intro a g own gown hq16_ Lv Mb Tb ha hg' hown hgown
  obtain rfl := hq16_
  refine ex0_2 (H₁.born Lv Mb Tb ha hg' hown hgown) ?_
  intro H₂ ap
  have ha0 : hb.get? a = none := by
    cases e : hb.get? a with
    | none => rfl
    | some o => exact absurd (Heap.lt_size (F.keep _ _ e)) (Nat.not_lt.mpr ha)
  refine pyIter2 Lv.obj fun k hk p => ?_
  rw [show solveL [c0, c1, c2] t = (baseL c0 gg t).flatMap (solveF [c1, c2] gg) by rw [solveL_big]; simp only [List.foldl_nil, hgg]]
  have hrow : ∀ p ∈ baseL c0 gg t, ∃ x r : Int, p = [x, r] ∧ 0 ≤ r ∧ r ≤ 1000 := baseL_bound hc0 hg0 ht0 ht1
  generalize baseL c0 gg t = xs at *
  clear F N H₁ Mb Tb ha hg' hown hgown
  refine gen_ind (ι := List (List Int) × (Addr → Prop) × (Nat → Prop)) (μ := fun i => i.1.length) (rows := fun i => i.1.flatMap (solveF [c1, c2] gg))
    (J := fun i ownD gownD s₁ s => ∃ m, Holds hb L m [(C, tupObj [.int c0 tc0, .int c1 tc1, .int c2 tc2]), (L + 1, o')] (plusO (ownOf L [(C, tupObj [.int c0 tc0, .int c1 tc1, .int c2 tc2]), (L + 1, o')]) a i.2.1) (plusG (fun _ => False) g i.2.2) ownD gownD s₁ s ∧ Apart (ownOf L [(C, tupObj [.int c0 tc0, .int c1 tc1, .int c2 tc2]), (L + 1, o')]) (fun _ => False) a g i.2.1 i.2.2 ∧
      Live w hb 500 5000 i.1 a g i.2.1 i.2.2 s ∧ m (Str.ofString "total") = some (.int t tt) ∧ m (Str.ofString "coeffs") = some (.ref C) ∧ ∀ p ∈ i.1, ∃ x r : Int, p = [x, r] ∧ 0 ≤ r ∧ r ≤ 1000) ?_ (xs, own, gown) _ _ _ _ ⟨m', H₂, ap, Lv, ht, hcf, hrow⟩
  clear H₂ ap Lv hrow ht hcf
  intro hq17_
  obtain ⟨xs, own, gown⟩ := hq17_
  intro ownD gownD s₁ s hq18_
  refine ex1_6 (hq18_) ?_
  clear hq18_
  intro m H ap Lv ht hcf hrow
  intro IH
  dsimp only at H ap Lv hrow
  refine x_forLoop ?_
  cases xs with
  | nil =>
    refine next_end Lv lim rfl (Nat.le_of_ble_eq_true rfl) (Nat.le_of_ble_eq_true rfl) (Nat.le_of_ble_eq_true rfl) fun s' M T hbase => ?_
    have H' := H.ended ap (fun _ q => q) M T hbase
    refine x_pop (.ok .next) ?_
    rw [hk]
    exact x_nil (x_end (.ok (.ret .none)) H'.done)
  | cons row xs =>
    refine ex2_3 (hrow row (.head _)) ?_
    intro x r hq19_ hr0 hr1
    obtain rfl := hq19_
    refine next_row Lv lim rfl (Nat.le_of_ble_eq_true rfl) (Nat.le_of_ble_eq_true rfl) (Nat.le_of_ble_eq_true rfl) fun v s₂ own' gown' T => ?_
    refine ex0_2 (H.next ap (fun _ q => q) T) ?_
    intro H₁ ap₁
    have Lv₁ := T.live
    refine ex2_4 (T.tup) ?_
    intro D vs hq20_ hD hD' hI
    obtain rfl := hq20_
    refine ex2_1 (ints2 hI) ?_
    intro tx tr hq21_
    obtain rfl := hq21_
    clear hI
    clear T H ap Lv
    dsimp only
    refine letOwned_gen Lv₁.obj ?_
    have F := H₁.fr
    have N : News hb L s₂.heap ([(D, tupObj [.int x tx, .int r tr])] ++ [(C, tupObj [.int c0 tc0, .int c1 tc1, .int c2 tc2]), (L + 1, o')]) := fun p hp => by
      rcases List.mem_cons.mp hp with rfl | hp
      · exact ⟨hD', Fr.tup_ne2 F hD', hD⟩
      · exact H₁.news p hp
    refine wp_trip (dp := 470) (un := 4700) (m := m) (extra := [(D, tupObj [.int x tx, .int r tr])] ++ [(C, tupObj [.int c0 tc0, .int c1 tc1, .int c2 tc2]), (L + 1, o')]) (Φ := fun _ m' _ => m' (Str.ofString "total") = some (.int t tt) ∧ m' (Str.ofString "coeffs") = some (.ref C) ∧ m' (Str.ofString "coeff0_solution") = some (.int x tx) ∧ m' (Str.ofString "remainder_gcd_solution") = some (.int r tr)) ?_ F N rfl (Nat.le_of_ble_eq_true rfl) (Nat.le_of_ble_eq_true rfl) ?_
    · clear F N H₁ ap₁ Lv₁ IH
      intro s hg F N' N
      refine hideQ fun Q0 hQ0 => ?_
      (repeat' (first | (with_reducible show wpAny _ _ _ _ _ _); (fail_if_success (first | (with_reducible show wpAny _ _ (exec (Stmt.While _ _ _ _) _) _ _ _) | (with_reducible show wpAny _ _ (exec (Stmt.For _ _ _ _ _) _) _ _ _) | (with_reducible show wpAny _ _ (call (Value.ref _) _ _) _ _ _))); (first | (first | ((with_reducible show wpAny _ _ (subscriptTail _ _ (Value.ref _) (Value.ref _)) _ _ _); first | (refine' slice_13 ?zF ?zN ?zt ?_ ?zhs ?zhg; (case zF => assumption); (case zN => assumption); (case zt => exact News.isTup (by assumption) (by k_mem)); (case zhs => with_unfolding_all rfl); (case zhg => (intro _; with_unfolding_all rfl)); intro D' h' F' N' l1; (try k_lt l1); (try k_sweep)) | (refine' slice_33 ?zF ?zN ?zt ?_ ?zhs ?zhg; (case zF => assumption); (case zN => assumption); (case zt => exact News.isTup (by assumption) (by k_mem)); (case zhs => with_unfolding_all rfl); (case zhg => (intro _; with_unfolding_all rfl)); intro D' h' F' N' l1; (try k_lt l1); (try k_sweep))) | ((with_reducible show wpAny _ _ (eval (.Name _ _) _) _ _ _); first | (refine' nameX_C ?zkf ?zkv ?zkw ?zkx ?_ ?zka ?zkb ?zkc; (case zka => exact rfl); (case zkb => exact rfl); (case zkf => assumption); (case zkv => exact rfl); (case zkw => k_mem); (case zkx => assumption); (case zkc => decide)) | (refine' nameX_L ?zf ?zv ?_; (case zf => assumption); (case zv => (repeat' first | assumption | exact if_pos rfl | refine (if_neg (by decide)).trans ?_)))) | ((with_reducible show wpAny _ _ (binaryOp .FloorDiv (.int _ _) (.int _ _)) _ _ _); refine floordiv_int (by first | lia | omega) ?_ (Or.inl (PyProof.noPylong_small (by first | lia | omega)))) | walk1) | (dsimp only; walk1)) | (with_reducible show ite _ _ _); split; all_goals (try (rename_i hq; exfalso; simp only [decide_eq_true_eq, Bool.not_eq_true, decide_eq_false_iff_not, beq_iff_eq, bne_iff_ne, beq_eq_false_iff_ne, bne_eq_false_iff_eq, ne_eq, Bool.false_eq_true, not_true_eq_false, not_false_eq_true] at hq <;> first | lia | omega))))
      rename Fr _ _ _ _ => F'
      rename News _ _ _ _ => N''
      exact hQ0 _ _ ⟨⟨hg, by first | rfl | trivial⟩, _, F', N'', (by (repeat' first | assumption | exact if_pos rfl | refine (if_neg (by decide)).trans ?_)), (by (repeat' first | assumption | exact if_pos rfl | refine (if_neg (by decide)).trans ?_)), (by (repeat' first | assumption | exact if_pos rfl | refine (if_neg (by decide)).trans ?_)), by (repeat' first | assumption | exact if_pos rfl | refine (if_neg (by decide)).trans ?_)⟩
    clear F N
    intro _ m' s₃ F N M₂ G₂ hq22_
    refine ex0_4 (hq22_) ?_
    clear hq22_
    intro ht hcf hx0 hr'
    intro H'
    have H₁ := H₁.trip F (News.right (a := [_]) N) M₂ G₂
    have Lv₁ := Lv₁.tripO ap₁ (.inl rfl) M₂ F
    clear M₂ G₂ N hD hD'
    have N := H₁.news
    refine sg_block (pre := [_]) (rest := [_]) (dp := 470) (un := 4700) (Φ := fun f m'' h => f = .next ∧ m'' (Str.ofString "total") = some (.int t tt) ∧ m'' (Str.ofString "coeffs") = some (.ref C) ∧ m'' (Str.ofString "coeff0_solution") = some (.int x tx) ∧ m'' (Str.ofString "remainder_gcd_solution") = some (.int r tr) ∧
      ∃ LC lo ys n, m'' (Str.ofString "new_coeffs") = some (.ref LC) ∧ hb.get? LC = none ∧ LC ≠ L ∧ h.get? LC = some lo ∧ lo.cls = .type "list" ∧ lo.data = .seq (List.toArray ys) n ∧ IntsAre ys ([c1, c2].map fun z => Int.fdiv z gg)) ?_ F N rfl (Nat.le_of_ble_eq_true rfl) (Nat.le_of_ble_eq_true rfl) ?_
    · clear F N H₁ ap₁ Lv₁ IH
      intro s hg F N' N
      refine hideQ fun Q0 hQ0 => ?_
      simp only [List.cons_append, List.nil_append] at N
      refine wpAny_execs_cons ?_
      refine comp_div (CE := L + 1) rfl (by with_unfolding_all rfl) rfl rfl (fun _ => rfl) (by with_unfolding_all rfl) rfl (by decide) (by decide) (fun _ => rfl) (fun _ => rfl) (by decide) (by decide) ?_
      (repeat' (first | (with_reducible show wpAny _ _ _ _ _ _); (fail_if_success (first | (with_reducible show wpAny _ _ (exec (Stmt.While _ _ _ _) _) _ _ _) | (with_reducible show wpAny _ _ (exec (Stmt.For _ _ _ _ _) _) _ _ _) | (with_reducible show wpAny _ _ (call (Value.ref _) _ _) _ _ _))); (first | (first | ((with_reducible show wpAny _ _ (subscriptTail _ _ (Value.ref _) (Value.ref _)) _ _ _); first | (refine' slice_13 ?zF ?zN ?zt ?_ ?zhs ?zhg; (case zF => assumption); (case zN => assumption); (case zt => exact News.isTup (by assumption) (by k_mem)); (case zhs => with_unfolding_all rfl); (case zhg => (intro _; with_unfolding_all rfl)); intro D' h' F' N' l1; (try k_lt l1); (try k_sweep)) | (refine' slice_33 ?zF ?zN ?zt ?_ ?zhs ?zhg; (case zF => assumption); (case zN => assumption); (case zt => exact News.isTup (by assumption) (by k_mem)); (case zhs => with_unfolding_all rfl); (case zhg => (intro _; with_unfolding_all rfl)); intro D' h' F' N' l1; (try k_lt l1); (try k_sweep))) | ((with_reducible show wpAny _ _ (eval (.Name _ _) _) _ _ _); first | (refine' nameX_C ?zkf ?zkv ?zkw ?zkx ?_ ?zka ?zkb ?zkc; (case zka => exact rfl); (case zkb => exact rfl); (case zkf => assumption); (case zkv => exact rfl); (case zkw => k_mem); (case zkx => assumption); (case zkc => decide)) | (refine' nameX_L ?zf ?zv ?_; (case zf => assumption); (case zv => (repeat' first | assumption | exact if_pos rfl | refine (if_neg (by decide)).trans ?_)))) | ((with_reducible show wpAny _ _ (binaryOp .FloorDiv (.int _ _) (.int _ _)) _ _ _); refine floordiv_int (by first | lia | omega) ?_ (Or.inl (PyProof.noPylong_small (by first | lia | omega)))) | walk1) | (dsimp only; walk1)) | (with_reducible show ite _ _ _); split; all_goals (try (rename_i hq; exfalso; simp only [decide_eq_true_eq, Bool.not_eq_true, decide_eq_false_iff_not, beq_iff_eq, bne_iff_ne, beq_eq_false_iff_ne, bne_eq_false_iff_eq, ne_eq, Bool.false_eq_true, not_true_eq_false, not_false_eq_true] at hq <;> first | lia | omega))))
      rename Fr _ _ _ _ => F'
      rename News _ _ _ _ => N''
      refine ⟨_, [.int c1 tc1, .int c2 tc2], [c1, c2], gg, tg, rfl, isTuple_of N'' (.head _), (.cons _ _ (.cons _ _ (.nil))), by simp; (clear l1 N'' F' hg hr' hx0 hcf ht Lv₁ H₁ hrow hr1 hr0 hk ha0 dv2 dv1 hg1 hg0 ho' hgg T₀ M₀ hCL hocl lim T X W' hroom bsize base kc0 hc0 ht1 ht0; lia), by simp, ⟨o', (N'' (L + 1, o') (.tail _ (.tail _ (.head _)))).1, ho'⟩, hg0, hg1, m', F'.ns, fun D ys n h' tk' keep hns hD hobj hys => ?_⟩
      refine ex1_3 (hobj) ?_
      clear hobj
      intro lo hlo hlc hld
      have hDb : ∀ b o, hb.get? b = some o → h'.get? b = some o := fun b o e => keep b o (Nat.ne_of_lt (Nat.lt_of_lt_of_le (Heap.lt_size e) F'.above)) (F'.keep b o e)
      have hDn : hb.get? D = none := by
        cases e : hb.get? D with
        | none => rfl
        | some o => exact absurd (Heap.lt_size (F'.keep _ _ e)) (Nat.not_lt.mpr hD)
      dsimp only
      (repeat' (first | (with_reducible show wpAny _ _ _ _ _ _); (fail_if_success (first | (with_reducible show wpAny _ _ (exec (Stmt.While _ _ _ _) _) _ _ _) | (with_reducible show wpAny _ _ (exec (Stmt.For _ _ _ _ _) _) _ _ _) | (with_reducible show wpAny _ _ (call (Value.ref _) _ _) _ _ _))); (first | (first | ((with_reducible show wpAny _ _ (subscriptTail _ _ (Value.ref _) (Value.ref _)) _ _ _); first | (refine' slice_13 ?zF ?zN ?zt ?_ ?zhs ?zhg; (case zF => assumption); (case zN => assumption); (case zt => exact News.isTup (by assumption) (by k_mem)); (case zhs => with_unfolding_all rfl); (case zhg => (intro _; with_unfolding_all rfl)); intro D' h' F' N' l1; (try k_lt l1); (try k_sweep)) | (refine' slice_33 ?zF ?zN ?zt ?_ ?zhs ?zhg; (case zF => assumption); (case zN => assumption); (case zt => exact News.isTup (by assumption) (by k_mem)); (case zhs => with_unfolding_all rfl); (case zhg => (intro _; with_unfolding_all rfl)); intro D' h' F' N' l1; (try k_lt l1); (try k_sweep))) | ((with_reducible show wpAny _ _ (eval (.Name _ _) _) _ _ _); first | (refine' nameX_C ?zkf ?zkv ?zkw ?zkx ?_ ?zka ?zkb ?zkc; (case zka => exact rfl); (case zkb => exact rfl); (case zkf => assumption); (case zkv => exact rfl); (case zkw => k_mem); (case zkx => assumption); (case zkc => decide)) | (refine' nameX_L ?zf ?zv ?_; (case zf => assumption); (case zv => (repeat' first | assumption | exact if_pos rfl | refine (if_neg (by decide)).trans ?_)))) | ((with_reducible show wpAny _ _ (binaryOp .FloorDiv (.int _ _) (.int _ _)) _ _ _); refine floordiv_int (by first | lia | omega) ?_ (Or.inl (PyProof.noPylong_small (by first | lia | omega)))) | walk1) | (dsimp only; walk1)) | (with_reducible show ite _ _ _); split; all_goals (try (rename_i hq; exfalso; simp only [decide_eq_true_eq, Bool.not_eq_true, decide_eq_false_iff_not, beq_iff_eq, bne_iff_ne, beq_eq_false_iff_ne, bne_eq_false_iff_eq, ne_eq, Bool.false_eq_true, not_true_eq_false, not_false_eq_true] at hq <;> first | lia | omega))))
      exact hQ0 _ _ ⟨⟨hg, by first | rfl | trivial⟩, _, ⟨hns, hDb, F'.above⟩, fun p hp => ⟨keep _ _ (N'' p (.tail _ hp)).2.1 (N'' p (.tail _ hp)).1, (N'' p (.tail _ hp)).2⟩, rfl, (by (repeat' first | assumption | exact if_pos rfl | refine (if_neg (by decide)).trans ?_)), (by (repeat' first | assumption | exact if_pos rfl | refine (if_neg (by decide)).trans ?_)), (by (repeat' first | assumption | exact if_pos rfl | refine (if_neg (by decide)).trans ?_)), (by (repeat' first | assumption | exact if_pos rfl | refine (if_neg (by decide)).trans ?_)), D, lo, ys, n, (by (repeat' first | assumption | exact if_pos rfl | refine (if_neg (by decide)).trans ?_)), hDn, Nat.ne_of_gt (Nat.lt_of_lt_of_le F'.ns.lt hD), hlo, hlc, hld, hys⟩
    clear F N
    intro f m' s₃ F N M₂ G₂ hq23_
    refine ex0_6 (hq23_) ?_
    clear hq23_
    intro hq24_ ht hcf hx0 hr' hq25_
    obtain rfl := hq24_
    refine ex4_7 (hq25_) ?_
    clear hq25_
    intro LC lo ys n hnc hLb hLL hlo hlc hld hys
    have H₁ := H₁.trip F N M₂ G₂
    have Lv₁ := Lv₁.tripO ap₁ (.inl rfl) M₂ F
    clear M₂ G₂
    dsimp only
    refine x_cons (x_For ?_ fun _ => rfl)
    (first | ((with_reducible show wpAny _ _ (subscriptTail _ _ (Value.ref _) (Value.ref _)) _ _ _); first | (refine' slice_13 ?zF ?zN ?zt ?_ ?zhs ?zhg; (case zF => assumption); (case zN => assumption); (case zt => exact News.isTup (by assumption) (by k_mem)); (case zhs => with_unfolding_all rfl); (case zhg => (intro _; with_unfolding_all rfl)); intro D' h' F' N' l1; (try k_lt l1); (try k_sweep)) | (refine' slice_33 ?zF ?zN ?zt ?_ ?zhs ?zhg; (case zF => assumption); (case zN => assumption); (case zt => exact News.isTup (by assumption) (by k_mem)); (case zhs => with_unfolding_all rfl); (case zhg => (intro _; with_unfolding_all rfl)); intro D' h' F' N' l1; (try k_lt l1); (try k_sweep))) | ((with_reducible show wpAny _ _ (eval (.Name _ _) _) _ _ _); first | (refine' nameX_C ?zkf ?zkv ?zkw ?zkx ?_ ?zka ?zkb ?zkc; (case zka => exact rfl); (case zkb => exact rfl); (case zkf => assumption); (case zkv => exact rfl); (case zkw => k_mem); (case zkx => assumption); (case zkc => decide)) | (refine' nameX_L ?zf ?zv ?_; (case zf => assumption); (case zv => (repeat' first | assumption | exact if_pos rfl | refine (if_neg (by decide)).trans ?_)))) | ((with_reducible show wpAny _ _ (binaryOp .FloorDiv (.int _ _) (.int _ _)) _ _ _); refine floordiv_int (by first | lia | omega) ?_ (Or.inl (PyProof.noPylong_small (by first | lia | omega)))) | walk1)
    (first | ((with_reducible show wpAny _ _ (subscriptTail _ _ (Value.ref _) (Value.ref _)) _ _ _); first | (refine' slice_13 ?zF ?zN ?zt ?_ ?zhs ?zhg; (case zF => assumption); (case zN => assumption); (case zt => exact News.isTup (by assumption) (by k_mem)); (case zhs => with_unfolding_all rfl); (case zhg => (intro _; with_unfolding_all rfl)); intro D' h' F' N' l1; (try k_lt l1); (try k_sweep)) | (refine' slice_33 ?zF ?zN ?zt ?_ ?zhs ?zhg; (case zF => assumption); (case zN => assumption); (case zt => exact News.isTup (by assumption) (by k_mem)); (case zhs => with_unfolding_all rfl); (case zhg => (intro _; with_unfolding_all rfl)); intro D' h' F' N' l1; (try k_lt l1); (try k_sweep))) | ((with_reducible show wpAny _ _ (eval (.Name _ _) _) _ _ _); first | (refine' nameX_C ?zkf ?zkv ?zkw ?zkx ?_ ?zka ?zkb ?zkc; (case zka => exact rfl); (case zkb => exact rfl); (case zkf => assumption); (case zkv => exact rfl); (case zkw => k_mem); (case zkx => assumption); (case zkc => decide)) | (refine' nameX_L ?zf ?zv ?_; (case zf => assumption); (case zv => (repeat' first | assumption | exact if_pos rfl | refine (if_neg (by decide)).trans ?_)))) | ((with_reducible show wpAny _ _ (binaryOp .FloorDiv (.int _ _) (.int _ _)) _ _ _); refine floordiv_int (by first | lia | omega) ?_ (Or.inl (PyProof.noPylong_small (by first | lia | omega)))) | walk1)
    refine callWith_star rfl ?_
    have N : News hb L s₃.heap ([(LC, lo)] ++ [(C, tupObj [.int c0 tc0, .int c1 tc1, .int c2 tc2]), (L + 1, o')]) := fun p hp => by
      rcases List.mem_cons.mp hp with rfl | hp
      · exact ⟨hlo, hLL, hLb⟩
      · exact H₁.news p hp
    refine wp_trip (dp := 470) (un := 4700) (m := m') (extra := [(LC, lo)] ++ [(C, tupObj [.int c0 tc0, .int c1 tc1, .int c2 tc2]), (L + 1, o')]) (Φ := fun vs m'' _ => vs = .int r tr :: ys ∧ m'' = m') ?_ F N rfl (Nat.le_of_ble_eq_true rfl) (Nat.le_of_ble_eq_true rfl) ?_
    · clear F N H₁ ap₁ Lv₁ IH
      intro s hg F N' N
      refine hideQ fun Q0 hQ0 => ?_
      simp only [List.cons_append, List.nil_append] at N
      refine spliced_plain ?_
      rw [if_neg Bool.false_ne_true]
      (first | ((with_reducible show wpAny _ _ (subscriptTail _ _ (Value.ref _) (Value.ref _)) _ _ _); first | (refine' slice_13 ?zF ?zN ?zt ?_ ?zhs ?zhg; (case zF => assumption); (case zN => assumption); (case zt => exact News.isTup (by assumption) (by k_mem)); (case zhs => with_unfolding_all rfl); (case zhg => (intro _; with_unfolding_all rfl)); intro D' h' F' N' l1; (try k_lt l1); (try k_sweep)) | (refine' slice_33 ?zF ?zN ?zt ?_ ?zhs ?zhg; (case zF => assumption); (case zN => assumption); (case zt => exact News.isTup (by assumption) (by k_mem)); (case zhs => with_unfolding_all rfl); (case zhg => (intro _; with_unfolding_all rfl)); intro D' h' F' N' l1; (try k_lt l1); (try k_sweep))) | ((with_reducible show wpAny _ _ (eval (.Name _ _) _) _ _ _); first | (refine' nameX_C ?zkf ?zkv ?zkw ?zkx ?_ ?zka ?zkb ?zkc; (case zka => exact rfl); (case zkb => exact rfl); (case zkf => assumption); (case zkv => exact rfl); (case zkw => k_mem); (case zkx => assumption); (case zkc => decide)) | (refine' nameX_L ?zf ?zv ?_; (case zf => assumption); (case zv => (repeat' first | assumption | exact if_pos rfl | refine (if_neg (by decide)).trans ?_)))) | ((with_reducible show wpAny _ _ (binaryOp .FloorDiv (.int _ _) (.int _ _)) _ _ _); refine floordiv_int (by first | lia | omega) ?_ (Or.inl (PyProof.noPylong_small (by first | lia | omega)))) | walk1)
      refine spliced_star (l := LC) (o := lo) (ys := ys) (n := n) ?_ ?_
      · rw [List.size_toArray, ints_len hys, sizeLine_eq]; simp
      rw [if_pos rfl]
      refine wpAny_bind ?_
      (first | ((with_reducible show wpAny _ _ (subscriptTail _ _ (Value.ref _) (Value.ref _)) _ _ _); first | (refine' slice_13 ?zF ?zN ?zt ?_ ?zhs ?zhg; (case zF => assumption); (case zN => assumption); (case zt => exact News.isTup (by assumption) (by k_mem)); (case zhs => with_unfolding_all rfl); (case zhg => (intro _; with_unfolding_all rfl)); intro D' h' F' N' l1; (try k_lt l1); (try k_sweep)) | (refine' slice_33 ?zF ?zN ?zt ?_ ?zhs ?zhg; (case zF => assumption); (case zN => assumption); (case zt => exact News.isTup (by assumption) (by k_mem)); (case zhs => with_unfolding_all rfl); (case zhg => (intro _; with_unfolding_all rfl)); intro D' h' F' N' l1; (try k_lt l1); (try k_sweep))) | ((with_reducible show wpAny _ _ (eval (.Name _ _) _) _ _ _); first | (refine' nameX_C ?zkf ?zkv ?zkw ?zkx ?_ ?zka ?zkb ?zkc; (case zka => exact rfl); (case zkb => exact rfl); (case zkf => assumption); (case zkv => exact rfl); (case zkw => k_mem); (case zkx => assumption); (case zkc => decide)) | (refine' nameX_L ?zf ?zv ?_; (case zf => assumption); (case zv => (repeat' first | assumption | exact if_pos rfl | refine (if_neg (by decide)).trans ?_)))) | ((with_reducible show wpAny _ _ (binaryOp .FloorDiv (.int _ _) (.int _ _)) _ _ _); refine floordiv_int (by first | lia | omega) ?_ (Or.inl (PyProof.noPylong_small (by first | lia | omega)))) | walk1)
      refine wpAny_bind (wpAny_standAt (wpAny_pure ?_))
      refine ⟨rfl, (N _ (.head _)).1, hlc, hld, fun h' hk => ?_⟩
      have N1 := News.grown N hk
      exact hQ0 _ _ ⟨⟨hg, by first | rfl | trivial⟩, _, F.after hk, N1, rfl, rfl⟩
    clear F N
    intro vs m'' s₄ F N M₂ G₂ hq26_
    refine ex0_2 (hq26_) ?_
    clear hq26_
    intro hq27_ hmm
    obtain rfl := hq27_
    rw [hmm] at F
    clear hmm m''
    have H₁ := H₁.trip F (News.right (a := [_]) N) M₂ G₂
    have Lv₁ := Lv₁.tripO ap₁ (.inl rfl) M₂ F
    clear M₂ G₂ N
    simp only [List.map_cons, List.map_nil] at hys
    refine ex2_1 (ints2 hys) ?_
    intro u1 u2 hz
    clear hys
    subst hz
    refine ⟨⟨_, _, X.keeps F.keep _ _ (by k_is), rfl⟩, ?_⟩
    have hq1 : 0 < Int.fdiv c1 gg ∧ Int.fdiv c1 gg ≤ 1000 := by have := fdiv_dvd hg0 hc1 dv1; (clear hld Lv₁ H₁ F hlc hlo hLL hLb hnc hr' hx0 hcf ht N ap₁ IH hrow hr1 hr0 hk ha0 dv2 dv1 hg1 hg0 ho' hgg T₀ M₀ hCL hocl lim T X W' hroom bsize base kc2 hc2 kc0 hc0 ht1 ht0; omega)
    have hq2 : 0 < Int.fdiv c2 gg ∧ Int.fdiv c2 gg ≤ 1000 := by have := fdiv_dvd hg0 hc2 dv2; (clear hq1 hld Lv₁ H₁ F hlc hlo hLL hLb hnc hr' hx0 hcf ht N ap₁ IH hrow hr1 hr0 hk ha0 dv2 dv1 hg1 hg0 ho' hgg T₀ M₀ hCL hocl lim T X W' hroom bsize base kc1 hc1 kc0 hc0 ht1 ht0; omega)
    refine wpAny_mono (solve2_ok (t := r) W' hr0 hr1 hq1.1 hq1.2 hq2.1 hq2.2 F.keep (Nat.le_of_lt (Nat.lt_of_le_of_lt F.above F.ns.lt)) (Nat.le_of_ble_eq_true rfl)) (fun v s₅ hB => ?_) (fun _ _ x => x)
    refine ex4_8 (hB) ?_
    clear hB
    intro a₂ g₂ own₂ gown₂ hq28_ Lv₂ Mb Tb ha hg' hown hgown
    obtain rfl := hq28_
    refine ex0_2 (H₁.born Lv₂ Mb Tb ha hg' hown hgown) ?_
    intro H₂ ap₂
    have Lv₁ := Lv₁.keepO (fun _ _ q => q) (fun _ _ q => q) Mb Lv₂.base
    refine pyIter2 Lv₂.obj fun k₂ hk₂ p₂ => ?_
    rw [List.flatMap_cons]
    rw [show solveF [c1, c2] gg [x, r] = (baseL (Int.fdiv c1 gg) (Int.fdiv c2 gg) r).map (x :: ·) from by simp [solveF, solveL_two]]
    have hlen : ∀ y ∈ baseL (Int.fdiv c1 gg) (Int.fdiv c2 gg) r, y ≠ [] ∧ y.length ≤ 10 := fun y hy => by
      have := solveL_len 2 [Int.fdiv c1 gg, Int.fdiv c2 gg] r rfl y (by first | exact hy | (rw [solveL_two]; exact hy))
      exact ⟨fun e => by rw [e] at this; simp at this, by lia⟩
    generalize baseL (Int.fdiv c1 gg) (Int.fdiv c2 gg) r = ys₂ at *
    clear F H₁ Mb Tb ha hg' hown hgown
    refine gen_ind (ι := List (List Int) × (Addr → Prop) × (Nat → Prop)) (μ := fun i => i.1.length) (rows := fun i => i.1.map (x :: ·) ++ xs.flatMap (solveF [c1, c2] gg))
      (J := fun i ownD gownD s₁ s => ∃ m, Holds hb L m [(C, tupObj [.int c0 tc0, .int c1 tc1, .int c2 tc2]), (L + 1, o')] (plusO (plusO (ownOf L [(C, tupObj [.int c0 tc0, .int c1 tc1, .int c2 tc2]), (L + 1, o')]) a own') a₂ i.2.1) (plusG (plusG (fun _ => False) g gown') g₂ i.2.2) ownD gownD s₁ s ∧
        Apart (plusO (ownOf L [(C, tupObj [.int c0 tc0, .int c1 tc1, .int c2 tc2]), (L + 1, o')]) a own') (plusG (fun _ => False) g gown') a₂ g₂ i.2.1 i.2.2 ∧ Live w hb 480 4800 i.1 a₂ g₂ i.2.1 i.2.2 s ∧ Live w hb 500 5000 xs a g own' gown' s ∧
        m (Str.ofString "total") = some (.int t tt) ∧ m (Str.ofString "coeffs") = some (.ref C) ∧ m (Str.ofString "coeff0_solution") = some (.int x tx) ∧ ∀ y ∈ i.1, y ≠ [] ∧ y.length ≤ 10) ?_ (ys₂, own₂, gown₂) _ _ _ _ ⟨m', H₂, ap₂, Lv₂, Lv₁, ht, hcf, hx0, hlen⟩
    clear H₂ ap₂ Lv₂ Lv₁ ht hcf hx0 hlen
    intro hq29_
    obtain ⟨ys₂, own₂, gown₂⟩ := hq29_
    intro ownD gownD s₁ s hq30_
    refine ex1_8 (hq30_) ?_
    clear hq30_
    intro m H ap₂ Lv₂ Lv₁ ht hcf hx0 hlen
    intro IH₂
    dsimp only at H ap₂ Lv₂ hlen
    refine x_forLoop ?_
    cases ys₂ with
    | nil =>
      refine next_end Lv₂ lim rfl (Nat.le_of_ble_eq_true rfl) (Nat.le_of_ble_eq_true rfl) (Nat.le_of_ble_eq_true rfl) fun s' M T hbase => ?_
      have H' := H.ended ap₂ (fun _ q => .inl q) M T hbase
      have Lv₁ := Lv₁.keepO (fun b q z => ap₂.o b (.inl z) (.inr q)) (fun i q z => ap₂.g i z (.inr q)) M hbase
      refine x_pop (.ok .next) ?_
      rw [hk₂]
      refine x_nil (x_again rfl ?_)
      exact IH (xs, own', gown') _ _ _ _ (Nat.lt_succ_self _) ⟨m, H', ap₁, Lv₁, ht, hcf, fun p hp => hrow p (.tail _ hp)⟩
    | cons row ys₂ =>
      have hrw := hlen row (.head _)
      refine next_row Lv₂ lim rfl (Nat.le_of_ble_eq_true rfl) (Nat.le_of_ble_eq_true rfl) (Nat.le_of_ble_eq_true rfl) fun v s₂ own₃ gown₃ T => ?_
      refine ex0_2 (H.next ap₂ (fun _ q => .inl q) T) ?_
      intro H₁ ap₃
      have Lv₂ := T.live
      have Lv₁ := Lv₁.keepO (fun b q z => ap₂.o b (.inl z) (.inr q)) (fun i q z => ap₂.g i z (.inr q)) T.moves T.live.base
      refine ex2_4 (T.tup) ?_
      intro D vs hq31_ hD hD' hI
      obtain rfl := hq31_
      have hvne : vs ≠ [] := fun e => hrw.1 (by have := ints_len hI; rw [e] at this; exact List.eq_nil_of_length_eq_zero this.symm)
      have hvlen := ints_len hI
      clear T H ap₂
      dsimp only
      refine wpAny_of_eq (a := ()) rfl ?_
      have F := H₁.fr
      have N : News hb L s₂.heap ([(D, tupObj vs)] ++ [(C, tupObj [.int c0 tc0, .int c1 tc1, .int c2 tc2]), (L + 1, o')]) := fun p hp => by
        rcases List.mem_cons.mp hp with rfl | hp
        · exact ⟨hD', Fr.tup_ne2 F hD', hD⟩
        · exact H₁.news p hp
      refine wp_trip (dp := 470) (un := 4700) (m := m) (extra := [(D, tupObj vs)] ++ [(C, tupObj [.int c0 tc0, .int c1 tc1, .int c2 tc2]), (L + 1, o')]) (Φ := fun _ m' _ => m' (Str.ofString "total") = some (.int t tt) ∧ m' (Str.ofString "coeffs") = some (.ref C) ∧ m' (Str.ofString "coeff0_solution") = some (.int x tx) ∧ m' (Str.ofString "remainder_solution") = some (.ref D)) ?_ F N rfl (Nat.le_of_ble_eq_true rfl) (Nat.le_of_ble_eq_true rfl) ?_
      · clear F N H₁ ap₁ ap₃ Lv₁ Lv₂ IH IH₂
        intro s hg F N' N
        refine hideQ fun Q0 hQ0 => ?_
        (repeat' (first | (with_reducible show wpAny _ _ _ _ _ _); (fail_if_success (first | (with_reducible show wpAny _ _ (exec (Stmt.While _ _ _ _) _) _ _ _) | (with_reducible show wpAny _ _ (exec (Stmt.For _ _ _ _ _) _) _ _ _) | (with_reducible show wpAny _ _ (call (Value.ref _) _ _) _ _ _))); (first | (first | ((with_reducible show wpAny _ _ (subscriptTail _ _ (Value.ref _) (Value.ref _)) _ _ _); first | (refine' slice_13 ?zF ?zN ?zt ?_ ?zhs ?zhg; (case zF => assumption); (case zN => assumption); (case zt => exact News.isTup (by assumption) (by k_mem)); (case zhs => with_unfolding_all rfl); (case zhg => (intro _; with_unfolding_all rfl)); intro D' h' F' N' l1; (try k_lt l1); (try k_sweep)) | (refine' slice_33 ?zF ?zN ?zt ?_ ?zhs ?zhg; (case zF => assumption); (case zN => assumption); (case zt => exact News.isTup (by assumption) (by k_mem)); (case zhs => with_unfolding_all rfl); (case zhg => (intro _; with_unfolding_all rfl)); intro D' h' F' N' l1; (try k_lt l1); (try k_sweep))) | ((with_reducible show wpAny _ _ (eval (.Name _ _) _) _ _ _); first | (refine' nameX_C ?zkf ?zkv ?zkw ?zkx ?_ ?zka ?zkb ?zkc; (case zka => exact rfl); (case zkb => exact rfl); (case zkf => assumption); (case zkv => exact rfl); (case zkw => k_mem); (case zkx => assumption); (case zkc => decide)) | (refine' nameX_L ?zf ?zv ?_; (case zf => assumption); (case zv => (repeat' first | assumption | exact if_pos rfl | refine (if_neg (by decide)).trans ?_)))) | ((with_reducible show wpAny _ _ (binaryOp .FloorDiv (.int _ _) (.int _ _)) _ _ _); refine floordiv_int (by first | lia | omega) ?_ (Or.inl (PyProof.noPylong_small (by first | lia | omega)))) | walk1) | (dsimp only; walk1)) | (with_reducible show ite _ _ _); split; all_goals (try (rename_i hq; exfalso; simp only [decide_eq_true_eq, Bool.not_eq_true, decide_eq_false_iff_not, beq_iff_eq, bne_iff_ne, beq_eq_false_iff_ne, bne_eq_false_iff_eq, ne_eq, Bool.false_eq_true, not_true_eq_false, not_false_eq_true] at hq <;> first | lia | omega))))
        rename Fr _ _ _ _ => F'
        rename News _ _ _ _ => N''
        exact hQ0 _ _ ⟨⟨hg, by first | rfl | trivial⟩, _, F', N'', (by (repeat' first | assumption | exact if_pos rfl | refine (if_neg (by decide)).trans ?_)), (by (repeat' first | assumption | exact if_pos rfl | refine (if_neg (by decide)).trans ?_)), (by (repeat' first | assumption | exact if_pos rfl | refine (if_neg (by decide)).trans ?_)), by (repeat' first | assumption | exact if_pos rfl | refine (if_neg (by decide)).trans ?_)⟩
      clear F N
      intro _ m' s₃ F N M₂ G₂ hq32_
      refine ex0_4 (hq32_) ?_
      clear hq32_
      intro ht hcf hx0 hrs
      intro H''
      have H₁ := H₁.trip F (News.right (a := [_]) N) M₂ G₂
      have Lv₁ := Lv₁.tripO ap₁ (.inl rfl) M₂ F
      have Lv₂ := Lv₂.tripO ap₃ (.inl (.inl rfl)) M₂ F
      have hD' : s₃.heap.get? D = some (tupObj vs) := (N _ (.head _)).1
      have hDb := hD
      clear M₂ G₂ N hD
      refine x_cons (x_Yield rfl rfl ?_ rfl rfl)
      refine wpAny_BinOp ?_
      have N : News hb L s₃.heap ([(D, tupObj vs)] ++ [(C, tupObj [.int c0 tc0, .int c1 tc1, .int c2 tc2]), (L + 1, o')]) := fun p hp => by
        rcases List.mem_cons.mp hp with rfl | hp
        · exact ⟨hD', Fr.tup_ne2 F hD', hDb⟩
        · exact H₁.news p hp
      refine wp_trip (dp := 470) (un := 4700) (m := m') (extra := [(D, tupObj vs)] ++ [(C, tupObj [.int c0 tc0, .int c1 tc1, .int c2 tc2]), (L + 1, o')]) (Φ := fun v m'' h => (∃ D2, v = .ref D2 ∧ h.get? D2 = some (tupObj [.int x tx])) ∧ m'' = m') ?_ F N rfl (Nat.le_of_ble_eq_true rfl) (Nat.le_of_ble_eq_true rfl) ?_
      · clear F N H₁ ap₁ ap₃ Lv₁ Lv₂ IH IH₂
        intro s hg F N' N
        refine hideQ fun Q0 hQ0 => ?_
        (repeat' (first | (with_reducible show wpAny _ _ _ _ _ _); (fail_if_success (first | (with_reducible show wpAny _ _ (exec (Stmt.While _ _ _ _) _) _ _ _) | (with_reducible show wpAny _ _ (exec (Stmt.For _ _ _ _ _) _) _ _ _) | (with_reducible show wpAny _ _ (call (Value.ref _) _ _) _ _ _))); (first | (first | ((with_reducible show wpAny _ _ (subscriptTail _ _ (Value.ref _) (Value.ref _)) _ _ _); first | (refine' slice_13 ?zF ?zN ?zt ?_ ?zhs ?zhg; (case zF => assumption); (case zN => assumption); (case zt => exact News.isTup (by assumption) (by k_mem)); (case zhs => with_unfolding_all rfl); (case zhg => (intro _; with_unfolding_all rfl)); intro D' h' F' N' l1; (try k_lt l1); (try k_sweep)) | (refine' slice_33 ?zF ?zN ?zt ?_ ?zhs ?zhg; (case zF => assumption); (case zN => assumption); (case zt => exact News.isTup (by assumption) (by k_mem)); (case zhs => with_unfolding_all rfl); (case zhg => (intro _; with_unfolding_all rfl)); intro D' h' F' N' l1; (try k_lt l1); (try k_sweep))) | ((with_reducible show wpAny _ _ (eval (.Name _ _) _) _ _ _); first | (refine' nameX_C ?zkf ?zkv ?zkw ?zkx ?_ ?zka ?zkb ?zkc; (case zka => exact rfl); (case zkb => exact rfl); (case zkf => assumption); (case zkv => exact rfl); (case zkw => k_mem); (case zkx => assumption); (case zkc => decide)) | (refine' nameX_L ?zf ?zv ?_; (case zf => assumption); (case zv => (repeat' first | assumption | exact if_pos rfl | refine (if_neg (by decide)).trans ?_)))) | ((with_reducible show wpAny _ _ (binaryOp .FloorDiv (.int _ _) (.int _ _)) _ _ _); refine floordiv_int (by first | lia | omega) ?_ (Or.inl (PyProof.noPylong_small (by first | lia | omega)))) | walk1) | (dsimp only; walk1)) | (with_reducible show ite _ _ _); split; all_goals (try (rename_i hq; exfalso; simp only [decide_eq_true_eq, Bool.not_eq_true, decide_eq_false_iff_not, beq_iff_eq, bne_iff_ne, beq_eq_false_iff_ne, bne_eq_false_iff_eq, ne_eq, Bool.false_eq_true, not_true_eq_false, not_false_eq_true] at hq <;> first | lia | omega))))
        rename Fr _ _ _ _ => F'
        rename News _ _ _ _ => N''
        exact hQ0 _ _ ⟨⟨hg, by first | rfl | trivial⟩, _, F', News.right (a := [_]) N'', ⟨_, rfl, (N'' _ (.head _)).1⟩, rfl⟩
      clear F N
      intro _ m'' s₄ F N M₂ G₂ hq33_
      refine ex0_2 (hq33_) ?_
      clear hq33_
      intro hq34_ hmm
      refine ex1_2 (hq34_) ?_
      clear hq34_
      intro D2 hq35_ hD2
      obtain rfl := hq35_
      rw [hmm] at F
      clear hmm m''
      have H₁ := H₁.trip F (News.right (a := [_]) N) M₂ G₂
      have Lv₁ := Lv₁.tripO ap₁ (.inl rfl) M₂ F
      have Lv₂ := Lv₂.tripO ap₃ (.inl (.inl rfl)) M₂ F
      have hD' : s₄.heap.get? D = some (tupObj vs) := (N _ (.head _)).1
      clear M₂ G₂ N
      (first | ((with_reducible show wpAny _ _ (subscriptTail _ _ (Value.ref _) (Value.ref _)) _ _ _); first | (refine' slice_13 ?zF ?zN ?zt ?_ ?zhs ?zhg; (case zF => assumption); (case zN => assumption); (case zt => exact News.isTup (by assumption) (by k_mem)); (case zhs => with_unfolding_all rfl); (case zhg => (intro _; with_unfolding_all rfl)); intro D' h' F' N' l1; (try k_lt l1); (try k_sweep)) | (refine' slice_33 ?zF ?zN ?zt ?_ ?zhs ?zhg; (case zF => assumption); (case zN => assumption); (case zt => exact News.isTup (by assumption) (by k_mem)); (case zhs => with_unfolding_all rfl); (case zhg => (intro _; with_unfolding_all rfl)); intro D' h' F' N' l1; (try k_lt l1); (try k_sweep))) | ((with_reducible show wpAny _ _ (eval (.Name _ _) _) _ _ _); first | (refine' nameX_C ?zkf ?zkv ?zkw ?zkx ?_ ?zka ?zkb ?zkc; (case zka => exact rfl); (case zkb => exact rfl); (case zkf => assumption); (case zkv => exact rfl); (case zkw => k_mem); (case zkx => assumption); (case zkc => decide)) | (refine' nameX_L ?zf ?zv ?_; (case zf => assumption); (case zv => (repeat' first | assumption | exact if_pos rfl | refine (if_neg (by decide)).trans ?_)))) | ((with_reducible show wpAny _ _ (binaryOp .FloorDiv (.int _ _) (.int _ _)) _ _ _); refine floordiv_int (by first | lia | omega) ?_ (Or.inl (PyProof.noPylong_small (by first | lia | omega)))) | walk1)
      refine add2 (dp := 470) (un := 4700) F hD2 hD' (by simp) hvne (by rw [sizeLine_eq]; simp; lia) rfl (Nat.le_of_ble_eq_true rfl) (Nat.le_of_ble_eq_true rfl) fun s₅ F₅ M₅ G₅ h₅ => ?_
      have lt₅ := H₁.own
      have H₁ := H₁.trip F₅ (fun p hp => ⟨M₅.heap _ _ (H₁.news p hp).2.1 (H₁.news p hp).1, (H₁.news p hp).2⟩) M₅ G₅
      have Lv₁ := Lv₁.tripO ap₁ (.inl rfl) M₅ F₅
      have Lv₂ := Lv₂.tripO ap₃ (.inl (.inl rfl)) M₅ F₅
      intro l kk pp hkk
      refine H₁.yield ⟨_, _, rfl, ?_, h₅, .cons _ _ hI⟩ ?_ fun s₆ ag H' => ?_
      · cases e : hb.get? s₄.heap.objs.size with
        | none => rfl
        | some o => exact absurd (Heap.lt_size (F.keep _ _ e)) (Nat.lt_irrefl _)
      · intro D3 e q
        cases e
        exact absurd (lt₅ _ q).2 (Nat.lt_irrefl _)
      have Lv₁ := Lv₁.agreeO (fun b q => .inl (.inr q)) (fun i q => .inl (.inr q)) ag
      have Lv₂ := Lv₂.agreeO (fun b q => .inr q) (fun i q => .inr q) ag
      refine hkk _ _ _ (x_nil (x_again rfl ?_))
      exact IH₂ (ys₂, own₃, gown₃) _ _ _ _ (Nat.lt_succ_self _) ⟨m', H', ap₃, Lv₂, Lv₁, ht, hcf, hx0, fun y hy => hlen y (.tail _ hy)⟩

set_option maxHeartbeats 4000000 in
theorem solve4_ok {w : World} {hb : Heap} (W : Wd w hb) {t c0 c1 c2 c3 : Int} {tt tc0 tc1 tc2 tc3 : Tok} {s : Shared} {A : Around} (ht0 : 0 ≤ t) (ht1 : t ≤ 1000) (hc0 : 0 < c0) (kc0 : c0 ≤ 1000) (hc1 : 0 < c1) (kc1 : c1 ≤ 1000) (hc2 : 0 < c2) (kc2 : c2 ≤ 1000) (hc3 : 0 < c3) (kc3 : c3 ≤ 1000)
    (base : ∀ d o, hb.get? d = some o → s.heap.get? d = some o) (bsize : hb.objs.size ≤ s.heap.objs.size) (hroom : A.depth < recursionLimit) :
    wpAny (MM w) A (call (.ref 40) [.int t tt, .int c0 tc0, .int c1 tc1, .int c2 tc2, .int c3 tc3]) (fun v s' => Born w hb 440 4400 (solveL [c0, c1, c2, c3] t) s v s') (fun _ _ => False) s := by
  have fill : (Mine.hd.heap_39 w.params).In hb → PySem.Challenge.rw_jf0027_01.row = PySem.Challenge.rw_jf0027_01.row := by
    k_fill
    intro _; rfl
  clear fill
  have W' := W
  obtain ⟨X, p, loose, mean, mg, mb, T⟩ := W
  have lim := T.nolimit
  refine' enterGenC (cx := Str.ofString "remainder_gcd") (K := Mine.hd.heap_39 w.params) (vs := [.int c0 tc0, .int c1 tc1, .int c2 tc2, .int c3 tc3]) (binds := [(Str.ofString "total", .int t tt), (Str.ofString "coeffs", .ref s.heap.objs.size)]) ?kW ?kl ?kbase ?kbs ?kR ?ko ?kc ?kb ?kcs ?kloc ?kcm ?kb2 ?c1 ?c2 ?c3
  case ko => k_is
  case kc => k_is
  case kb =>
    intro M A E Q hQ
    show wpAny M A (newTuple [.int c0 tc0, .int c1 tc1, .int c2 tc2, .int c3 tc3] >>= fun v => pure [(Str.ofString "total", .int t tt), (Str.ofString "coeffs", v)]) Q E s
    unfold newTuple
    exact wpAny_bind (wpAny_newObj_type (wpAny_pure hQ) (by size_fits))
  case kloc => exact locs rfl
  case c1 => exact rfl
  case c2 => exact rfl
  case c3 => exact rfl
  case kcs => intro n; rfl
  case kcm => intro L; rfl
  case kR => exact hroom
  case kW => exact X
  case kl => exact lim
  case kbase => exact base
  case kbs => exact bsize
  k_whole
  intro L ocl s₁ F N hocl hCL
  generalize s.heap.objs.size = C at F N hCL ⊢
  generalize hm : bindL _ _ _ = m at F
  have ht : m (Str.ofString "total") = some (.int t tt) := by rw [← hm]; rfl
  have hcf : m (Str.ofString "coeffs") = some (.ref C) := by rw [← hm]; rfl
  clear hm
  have M₀ : Moves (ownOf L [(C, tupObj [.int c0 tc0, .int c1 tc1, .int c2 tc2, .int c3 tc3]), (L + 1, ocl)]) (fun _ => False) s₁ s₁ := Moves.refl _
  have T₀ : Tidy (fun _ => False) (fun _ => False) s₁ s₁ := Tidy.refl _
  refine x_func fun H' => x_cons ?_
  refine sg_If (dp := 450) (un := 4500) (Φ := fun f m' _ => f = false ∧ m' = m) ?_ F N rfl (Nat.le_of_ble_eq_true rfl) (Nat.le_of_ble_eq_true rfl) ?_
  · clear F N
    intro s hg F N' N
    refine hideQ fun Q0 hQ0 => ?_
    (repeat' (first | (with_reducible show wpAny _ _ _ _ _ _); (fail_if_success (first | (with_reducible show wpAny _ _ (exec (Stmt.While _ _ _ _) _) _ _ _) | (with_reducible show wpAny _ _ (exec (Stmt.For _ _ _ _ _) _) _ _ _) | (with_reducible show wpAny _ _ (call (Value.ref _) _ _) _ _ _))); (first | (first | ((with_reducible show wpAny _ _ (subscriptTail _ _ (Value.ref _) (Value.ref _)) _ _ _); first | (refine' slice_14 ?zF ?zN ?zt ?_ ?zhs ?zhg; (case zF => assumption); (case zN => assumption); (case zt => exact News.isTup (by assumption) (by k_mem)); (case zhs => with_unfolding_all rfl); (case zhg => (intro _; with_unfolding_all rfl)); intro D' h' F' N' l1; (try k_lt l1); (try k_sweep)) | (refine' slice_34 ?zF ?zN ?zt ?_ ?zhs ?zhg; (case zF => assumption); (case zN => assumption); (case zt => exact News.isTup (by assumption) (by k_mem)); (case zhs => with_unfolding_all rfl); (case zhg => (intro _; with_unfolding_all rfl)); intro D' h' F' N' l1; (try k_lt l1); (try k_sweep))) | ((with_reducible show wpAny _ _ (eval (.Name _ _) _) _ _ _); first | (refine' nameX_C ?zkf ?zkv ?zkw ?zkx ?_ ?zka ?zkb ?zkc; (case zka => exact rfl); (case zkb => exact rfl); (case zkf => assumption); (case zkv => exact rfl); (case zkw => k_mem); (case zkx => assumption); (case zkc => decide)) | (refine' nameX_L ?zf ?zv ?_; (case zf => assumption); (case zv => (repeat' first | assumption | exact if_pos rfl | refine (if_neg (by decide)).trans ?_)))) | ((with_reducible show wpAny _ _ (binaryOp .FloorDiv (.int _ _) (.int _ _)) _ _ _); refine floordiv_int (by first | lia | omega) ?_ (Or.inl (PyProof.noPylong_small (by first | lia | omega)))) | walk1) | (dsimp only; walk1)) | (with_reducible show ite _ _ _); split; all_goals (try (rename_i hq; exfalso; simp only [decide_eq_true_eq, Bool.not_eq_true, decide_eq_false_iff_not, beq_iff_eq, bne_iff_ne, beq_eq_false_iff_ne, bne_eq_false_iff_eq, ne_eq, Bool.false_eq_true, not_true_eq_false, not_false_eq_true] at hq <;> first | lia | omega))))
    rename Fr _ _ _ _ => F'
    rename News _ _ _ _ => N''
    exact hQ0 _ _ ⟨⟨hg, rfl⟩, _, F', N'', rfl, rfl⟩
  clear F N
  intro f m' s₂ F N M₂ G₂ hq1_
  refine ex0_2 (hq1_) ?_
  clear hq1_
  intro hq2_ hmm
  obtain rfl := hq2_
  rw [hmm] at F
  clear hmm m'
  have M₀ := moves_L M₀ M₂ (.inl rfl)
  have T₀ := T₀.same G₂
  clear M₂ G₂
  rw [if_neg Bool.false_ne_true]
  refine x_nil (x_cons ?_)
  refine sg_If (dp := 450) (un := 4500) (Φ := fun f m' _ => f = false ∧ m' = m) ?_ F N rfl (Nat.le_of_ble_eq_true rfl) (Nat.le_of_ble_eq_true rfl) ?_
  · clear F N
    intro s hg F N' N
    refine hideQ fun Q0 hQ0 => ?_
    (repeat' (first | (with_reducible show wpAny _ _ _ _ _ _); (fail_if_success (first | (with_reducible show wpAny _ _ (exec (Stmt.While _ _ _ _) _) _ _ _) | (with_reducible show wpAny _ _ (exec (Stmt.For _ _ _ _ _) _) _ _ _) | (with_reducible show wpAny _ _ (call (Value.ref _) _ _) _ _ _))); (first | (first | ((with_reducible show wpAny _ _ (subscriptTail _ _ (Value.ref _) (Value.ref _)) _ _ _); first | (refine' slice_14 ?zF ?zN ?zt ?_ ?zhs ?zhg; (case zF => assumption); (case zN => assumption); (case zt => exact News.isTup (by assumption) (by k_mem)); (case zhs => with_unfolding_all rfl); (case zhg => (intro _; with_unfolding_all rfl)); intro D' h' F' N' l1; (try k_lt l1); (try k_sweep)) | (refine' slice_34 ?zF ?zN ?zt ?_ ?zhs ?zhg; (case zF => assumption); (case zN => assumption); (case zt => exact News.isTup (by assumption) (by k_mem)); (case zhs => with_unfolding_all rfl); (case zhg => (intro _; with_unfolding_all rfl)); intro D' h' F' N' l1; (try k_lt l1); (try k_sweep))) | ((with_reducible show wpAny _ _ (eval (.Name _ _) _) _ _ _); first | (refine' nameX_C ?zkf ?zkv ?zkw ?zkx ?_ ?zka ?zkb ?zkc; (case zka => exact rfl); (case zkb => exact rfl); (case zkf => assumption); (case zkv => exact rfl); (case zkw => k_mem); (case zkx => assumption); (case zkc => decide)) | (refine' nameX_L ?zf ?zv ?_; (case zf => assumption); (case zv => (repeat' first | assumption | exact if_pos rfl | refine (if_neg (by decide)).trans ?_)))) | ((with_reducible show wpAny _ _ (binaryOp .FloorDiv (.int _ _) (.int _ _)) _ _ _); refine floordiv_int (by first | lia | omega) ?_ (Or.inl (PyProof.noPylong_small (by first | lia | omega)))) | walk1) | (dsimp only; walk1)) | (with_reducible show ite _ _ _); split; all_goals (try (rename_i hq; exfalso; simp only [decide_eq_true_eq, Bool.not_eq_true, decide_eq_false_iff_not, beq_iff_eq, bne_iff_ne, beq_eq_false_iff_ne, bne_eq_false_iff_eq, ne_eq, Bool.false_eq_true, not_true_eq_false, not_false_eq_true] at hq <;> first | lia | omega))))
    rename Fr _ _ _ _ => F'
    rename News _ _ _ _ => N''
    exact hQ0 _ _ ⟨⟨hg, rfl⟩, _, F', N'', rfl, rfl⟩
  clear F N
  intro f m' s₂ F N M₂ G₂ hq3_
  refine ex0_2 (hq3_) ?_
  clear hq3_
  intro hq4_ hmm
  obtain rfl := hq4_
  rw [hmm] at F
  clear hmm m'
  have M₀ := moves_L M₀ M₂ (.inl rfl)
  have T₀ := T₀.same G₂
  clear M₂ G₂
  rw [if_neg Bool.false_ne_true]
  refine x_nil (x_cons ?_)
  refine sg_If (dp := 450) (un := 4500) (Φ := fun f m' _ => f = false ∧ m' = m) ?_ F N rfl (Nat.le_of_ble_eq_true rfl) (Nat.le_of_ble_eq_true rfl) ?_
  · clear F N
    intro s hg F N' N
    refine hideQ fun Q0 hQ0 => ?_
    (repeat' (first | (with_reducible show wpAny _ _ _ _ _ _); (fail_if_success (first | (with_reducible show wpAny _ _ (exec (Stmt.While _ _ _ _) _) _ _ _) | (with_reducible show wpAny _ _ (exec (Stmt.For _ _ _ _ _) _) _ _ _) | (with_reducible show wpAny _ _ (call (Value.ref _) _ _) _ _ _))); (first | (first | ((with_reducible show wpAny _ _ (subscriptTail _ _ (Value.ref _) (Value.ref _)) _ _ _); first | (refine' slice_14 ?zF ?zN ?zt ?_ ?zhs ?zhg; (case zF => assumption); (case zN => assumption); (case zt => exact News.isTup (by assumption) (by k_mem)); (case zhs => with_unfolding_all rfl); (case zhg => (intro _; with_unfolding_all rfl)); intro D' h' F' N' l1; (try k_lt l1); (try k_sweep)) | (refine' slice_34 ?zF ?zN ?zt ?_ ?zhs ?zhg; (case zF => assumption); (case zN => assumption); (case zt => exact News.isTup (by assumption) (by k_mem)); (case zhs => with_unfolding_all rfl); (case zhg => (intro _; with_unfolding_all rfl)); intro D' h' F' N' l1; (try k_lt l1); (try k_sweep))) | ((with_reducible show wpAny _ _ (eval (.Name _ _) _) _ _ _); first | (refine' nameX_C ?zkf ?zkv ?zkw ?zkx ?_ ?zka ?zkb ?zkc; (case zka => exact rfl); (case zkb => exact rfl); (case zkf => assumption); (case zkv => exact rfl); (case zkw => k_mem); (case zkx => assumption); (case zkc => decide)) | (refine' nameX_L ?zf ?zv ?_; (case zf => assumption); (case zv => (repeat' first | assumption | exact if_pos rfl | refine (if_neg (by decide)).trans ?_)))) | ((with_reducible show wpAny _ _ (binaryOp .FloorDiv (.int _ _) (.int _ _)) _ _ _); refine floordiv_int (by first | lia | omega) ?_ (Or.inl (PyProof.noPylong_small (by first | lia | omega)))) | walk1) | (dsimp only; walk1)) | (with_reducible show ite _ _ _); split; all_goals (try (rename_i hq; exfalso; simp only [decide_eq_true_eq, Bool.not_eq_true, decide_eq_false_iff_not, beq_iff_eq, bne_iff_ne, beq_eq_false_iff_ne, bne_eq_false_iff_eq, ne_eq, Bool.false_eq_true, not_true_eq_false, not_false_eq_true] at hq <;> first | lia | omega))))
    rename Fr _ _ _ _ => F'
    rename News _ _ _ _ => N''
    exact hQ0 _ _ ⟨⟨hg, rfl⟩, _, F', N'', rfl, rfl⟩
  clear F N
  intro f m' s₂ F N M₂ G₂ hq5_
  refine ex0_2 (hq5_) ?_
  clear hq5_
  intro hq6_ hmm
  obtain rfl := hq6_
  rw [hmm] at F
  clear hmm m'
  have M₀ := moves_L M₀ M₂ (.inl rfl)
  have T₀ := T₀.same G₂
  clear M₂ G₂
  rw [if_neg Bool.false_ne_true]
  refine x_nil ?_
  refine sg_block2 (pre := [_, _]) (rest := [_]) (dp := 450) (un := 4500) (Φ := fun f m' extra' _ => f = .next ∧ m' (Str.ofString "total") = some (.int t tt) ∧ m' (Str.ofString "coeffs") = some (.ref C) ∧ ∃ o' tg, extra' = [(C, tupObj [.int c0 tc0, .int c1 tc1, .int c2 tc2, .int c3 tc3]), (L + 1, o')] ∧ o'.data = .cell (some (.int (Int.gcd (Int.gcd c1 c2) c3) tg))) ?_ F N rfl ?_ ?_ ?_
  rotate_left
  · exact Nat.le_of_ble_eq_true rfl
  · exact Nat.le_of_ble_eq_true rfl
  rotate_left
  · clear F N
    intro s hg F N' N hne
    refine hideQ fun Q0 hQ0 => ?_
    have hne := hne (L + 1, ocl) (.tail _ (.head _))
    simp only [List.cons_append, List.nil_append] at N
    (repeat' (first | (with_reducible show wpAny _ _ _ _ _ _); (fail_if_success (first | (with_reducible show wpAny _ _ (exec (Stmt.While _ _ _ _) _) _ _ _) | (with_reducible show wpAny _ _ (exec (Stmt.For _ _ _ _ _) _) _ _ _) | (with_reducible show wpAny _ _ (call (Value.ref _) _ _) _ _ _))); (first | (first | ((with_reducible show wpAny _ _ (subscriptTail _ _ (Value.ref _) (Value.ref _)) _ _ _); first | (refine' slice_14 ?zF ?zN ?zt ?_ ?zhs ?zhg; (case zF => assumption); (case zN => assumption); (case zt => exact News.isTup (by assumption) (by k_mem)); (case zhs => with_unfolding_all rfl); (case zhg => (intro _; with_unfolding_all rfl)); intro D' h' F' N' l1; (try k_lt l1); (try k_sweep)) | (refine' slice_34 ?zF ?zN ?zt ?_ ?zhs ?zhg; (case zF => assumption); (case zN => assumption); (case zt => exact News.isTup (by assumption) (by k_mem)); (case zhs => with_unfolding_all rfl); (case zhg => (intro _; with_unfolding_all rfl)); intro D' h' F' N' l1; (try k_lt l1); (try k_sweep))) | ((with_reducible show wpAny _ _ (eval (.Name _ _) _) _ _ _); first | (refine' nameX_C ?zkf ?zkv ?zkw ?zkx ?_ ?zka ?zkb ?zkc; (case zka => exact rfl); (case zkb => exact rfl); (case zkf => assumption); (case zkv => exact rfl); (case zkw => k_mem); (case zkx => assumption); (case zkc => decide)) | (refine' nameX_L ?zf ?zv ?_; (case zf => assumption); (case zv => (repeat' first | assumption | exact if_pos rfl | refine (if_neg (by decide)).trans ?_)))) | ((with_reducible show wpAny _ _ (binaryOp .FloorDiv (.int _ _) (.int _ _)) _ _ _); refine floordiv_int (by first | lia | omega) ?_ (Or.inl (PyProof.noPylong_small (by first | lia | omega)))) | walk1) | (dsimp only; walk1)) | (with_reducible show ite _ _ _); split; all_goals (try (rename_i hq; exfalso; simp only [decide_eq_true_eq, Bool.not_eq_true, decide_eq_false_iff_not, beq_iff_eq, bne_iff_ne, beq_eq_false_iff_ne, bne_eq_false_iff_eq, ne_eq, Bool.false_eq_true, not_true_eq_false, not_false_eq_true] at hq <;> first | lia | omega))))
    refine ⟨X.keeps F.keep, ?_⟩
    refine use F N (gcd_ok (W'.keeps F.keep) (by exact Int.le_of_lt (by assumption)) (by lia)) rfl (by decide) (by decide) ?_
    intro v h' tk' F₁ N₁ hk hq7_
    refine ex1_1 (hq7_) ?_
    clear hq7_
    intro t' hq8_
    obtain rfl := hq8_
    clear F N
    (repeat' (first | (with_reducible show wpAny _ _ _ _ _ _); (fail_if_success (first | (with_reducible show wpAny _ _ (exec (Stmt.While _ _ _ _) _) _ _ _) | (with_reducible show wpAny _ _ (exec (Stmt.For _ _ _ _ _) _) _ _ _) | (with_reducible show wpAny _ _ (call (Value.ref _) _ _) _ _ _))); (first | (first | ((with_reducible show wpAny _ _ (subscriptTail _ _ (Value.ref _) (Value.ref _)) _ _ _); first | (refine' slice_14 ?zF ?zN ?zt ?_ ?zhs ?zhg; (case zF => assumption); (case zN => assumption); (case zt => exact News.isTup (by assumption) (by k_mem)); (case zhs => with_unfolding_all rfl); (case zhg => (intro _; with_unfolding_all rfl)); intro D' h' F' N' l1; (try k_lt l1); (try k_sweep)) | (refine' slice_34 ?zF ?zN ?zt ?_ ?zhs ?zhg; (case zF => assumption); (case zN => assumption); (case zt => exact News.isTup (by assumption) (by k_mem)); (case zhs => with_unfolding_all rfl); (case zhg => (intro _; with_unfolding_all rfl)); intro D' h' F' N' l1; (try k_lt l1); (try k_sweep))) | ((with_reducible show wpAny _ _ (eval (.Name _ _) _) _ _ _); first | (refine' nameX_C ?zkf ?zkv ?zkw ?zkx ?_ ?zka ?zkb ?zkc; (case zka => exact rfl); (case zkb => exact rfl); (case zkf => assumption); (case zkv => exact rfl); (case zkw => k_mem); (case zkx => assumption); (case zkc => decide)) | (refine' nameX_L ?zf ?zv ?_; (case zf => assumption); (case zv => (repeat' first | assumption | exact if_pos rfl | refine (if_neg (by decide)).trans ?_)))) | ((with_reducible show wpAny _ _ (binaryOp .FloorDiv (.int _ _) (.int _ _)) _ _ _); refine floordiv_int (by first | lia | omega) ?_ (Or.inl (PyProof.noPylong_small (by first | lia | omega)))) | walk1) | (dsimp only; walk1)) | (with_reducible show ite _ _ _); split; all_goals (try (rename_i hq; exfalso; simp only [decide_eq_true_eq, Bool.not_eq_true, decide_eq_false_iff_not, beq_iff_eq, bne_iff_ne, beq_eq_false_iff_ne, bne_eq_false_iff_eq, ne_eq, Bool.false_eq_true, not_true_eq_false, not_false_eq_true] at hq <;> first | lia | omega))))
    refine wpAny_For ?_ (fun _ => rfl)
    (repeat' (first | (with_reducible show wpAny _ _ _ _ _ _); (fail_if_success (first | (with_reducible show wpAny _ _ (exec (Stmt.While _ _ _ _) _) _ _ _) | (with_reducible show wpAny _ _ (exec (Stmt.For _ _ _ _ _) _) _ _ _) | (with_reducible show wpAny _ _ (call (Value.ref _) _ _) _ _ _))); (first | (first | ((with_reducible show wpAny _ _ (subscriptTail _ _ (Value.ref _) (Value.ref _)) _ _ _); first | (refine' slice_14 ?zF ?zN ?zt ?_ ?zhs ?zhg; (case zF => assumption); (case zN => assumption); (case zt => exact News.isTup (by assumption) (by k_mem)); (case zhs => with_unfolding_all rfl); (case zhg => (intro _; with_unfolding_all rfl)); intro D' h' F' N' l1; (try k_lt l1); (try k_sweep)) | (refine' slice_34 ?zF ?zN ?zt ?_ ?zhs ?zhg; (case zF => assumption); (case zN => assumption); (case zt => exact News.isTup (by assumption) (by k_mem)); (case zhs => with_unfolding_all rfl); (case zhg => (intro _; with_unfolding_all rfl)); intro D' h' F' N' l1; (try k_lt l1); (try k_sweep))) | ((with_reducible show wpAny _ _ (eval (.Name _ _) _) _ _ _); first | (refine' nameX_C ?zkf ?zkv ?zkw ?zkx ?_ ?zka ?zkb ?zkc; (case zka => exact rfl); (case zkb => exact rfl); (case zkf => assumption); (case zkv => exact rfl); (case zkw => k_mem); (case zkx => assumption); (case zkc => decide)) | (refine' nameX_L ?zf ?zv ?_; (case zf => assumption); (case zv => (repeat' first | assumption | exact if_pos rfl | refine (if_neg (by decide)).trans ?_)))) | ((with_reducible show wpAny _ _ (binaryOp .FloorDiv (.int _ _) (.int _ _)) _ _ _); refine floordiv_int (by first | lia | omega) ?_ (Or.inl (PyProof.noPylong_small (by first | lia | omega)))) | walk1) | (dsimp only; walk1)) | (with_reducible show ite _ _ _); split; all_goals (try (rename_i hq; exfalso; simp only [decide_eq_true_eq, Bool.not_eq_true, decide_eq_false_iff_not, beq_iff_eq, bne_iff_ne, beq_eq_false_iff_ne, bne_eq_false_iff_eq, ne_eq, Bool.false_eq_true, not_true_eq_false, not_false_eq_true] at hq <;> first | lia | omega))))
    rename Fr _ _ _ _ => F'
    rename News _ _ _ _ => N''
    refine iter_tup F' N'' (.head _) (fun I h' oI F₃ N₃ hI hap hLI => ?_)
    refine for_turn ?_ (fun _ => rfl)
    refine next_item F₃ N₃ hI (.head _) (fun p hp => Nat.ne_of_lt (hap p hp)) rfl fun h₂ o₂ F₄ N₄ hI₂ => ?_
    dsimp only
    have hap2 : ∀ b ∈ List.map (·.1) (_ :: _ :: _ :: N'), b < I := fun b hb => by
      refine ex1_2 (List.mem_map.mp hb) ?_
      intro p hp hq9_
      obtain rfl := hq9_
      exact hap p hp
    have hI1 : @LT.lt Nat _ (L + 1) I := hap2 _ (.tail _ (.tail _ (.head _)))
    have hI3 : @LT.lt Nat _ C I := hap2 _ (.tail _ (.head _))
    clear F₃ N₃ F' N''
    (repeat' (first | (with_reducible show wpAny _ _ _ _ _ _); (fail_if_success (first | (with_reducible show wpAny _ _ (exec (Stmt.While _ _ _ _) _) _ _ _) | (with_reducible show wpAny _ _ (exec (Stmt.For _ _ _ _ _) _) _ _ _) | (with_reducible show wpAny _ _ (call (Value.ref _) _ _) _ _ _))); (first | (first | ((with_reducible show wpAny _ _ (subscriptTail _ _ (Value.ref _) (Value.ref _)) _ _ _); first | (refine' slice_14 ?zF ?zN ?zt ?_ ?zhs ?zhg; (case zF => assumption); (case zN => assumption); (case zt => exact News.isTup (by assumption) (by k_mem)); (case zhs => with_unfolding_all rfl); (case zhg => (intro _; with_unfolding_all rfl)); intro D' h' F' N' l1; (try k_lt l1); (try k_sweep)) | (refine' slice_34 ?zF ?zN ?zt ?_ ?zhs ?zhg; (case zF => assumption); (case zN => assumption); (case zt => exact News.isTup (by assumption) (by k_mem)); (case zhs => with_unfolding_all rfl); (case zhg => (intro _; with_unfolding_all rfl)); intro D' h' F' N' l1; (try k_lt l1); (try k_sweep))) | ((with_reducible show wpAny _ _ (eval (.Name _ _) _) _ _ _); first | (refine' nameX_C ?zkf ?zkv ?zkw ?zkx ?_ ?zka ?zkb ?zkc; (case zka => exact rfl); (case zkb => exact rfl); (case zkf => assumption); (case zkv => exact rfl); (case zkw => k_mem); (case zkx => assumption); (case zkc => decide)) | (refine' nameX_L ?zf ?zv ?_; (case zf => assumption); (case zv => (repeat' first | assumption | exact if_pos rfl | refine (if_neg (by decide)).trans ?_)))) | ((with_reducible show wpAny _ _ (binaryOp .FloorDiv (.int _ _) (.int _ _)) _ _ _); refine floordiv_int (by first | lia | omega) ?_ (Or.inl (PyProof.noPylong_small (by first | lia | omega)))) | walk1) | (dsimp only; walk1)) | (with_reducible show ite _ _ _); split; all_goals (try (rename_i hq; exfalso; simp only [decide_eq_true_eq, Bool.not_eq_true, decide_eq_false_iff_not, beq_iff_eq, bne_iff_ne, beq_eq_false_iff_ne, bne_eq_false_iff_eq, ne_eq, Bool.false_eq_true, not_true_eq_false, not_false_eq_true] at hq <;> first | lia | omega))))
    rename Fr _ _ _ _ => F'
    rename News _ _ _ _ => N''
    refine ⟨X.keeps F'.keep, ?_⟩
    refine use F' N'' (gcd_ok (W'.keeps F'.keep) (by lia) (by lia)) rfl (by decide) (by decide) ?_
    intro v h' tk' F₁ N₁ hk2 hq10_
    refine ex1_1 (hq10_) ?_
    clear hq10_
    intro t2 hq11_
    obtain rfl := hq11_
    clear F' N''
    (repeat' (first | (with_reducible show wpAny _ _ _ _ _ _); (fail_if_success (first | (with_reducible show wpAny _ _ (exec (Stmt.While _ _ _ _) _) _ _ _) | (with_reducible show wpAny _ _ (exec (Stmt.For _ _ _ _ _) _) _ _ _) | (with_reducible show wpAny _ _ (call (Value.ref _) _ _) _ _ _))); (first | (first | ((with_reducible show wpAny _ _ (subscriptTail _ _ (Value.ref _) (Value.ref _)) _ _ _); first | (refine' slice_14 ?zF ?zN ?zt ?_ ?zhs ?zhg; (case zF => assumption); (case zN => assumption); (case zt => exact News.isTup (by assumption) (by k_mem)); (case zhs => with_unfolding_all rfl); (case zhg => (intro _; with_unfolding_all rfl)); intro D' h' F' N' l1; (try k_lt l1); (try k_sweep)) | (refine' slice_34 ?zF ?zN ?zt ?_ ?zhs ?zhg; (case zF => assumption); (case zN => assumption); (case zt => exact News.isTup (by assumption) (by k_mem)); (case zhs => with_unfolding_all rfl); (case zhg => (intro _; with_unfolding_all rfl)); intro D' h' F' N' l1; (try k_lt l1); (try k_sweep))) | ((with_reducible show wpAny _ _ (eval (.Name _ _) _) _ _ _); first | (refine' nameX_C ?zkf ?zkv ?zkw ?zkx ?_ ?zka ?zkb ?zkc; (case zka => exact rfl); (case zkb => exact rfl); (case zkf => assumption); (case zkv => exact rfl); (case zkw => k_mem); (case zkx => assumption); (case zkc => decide)) | (refine' nameX_L ?zf ?zv ?_; (case zf => assumption); (case zv => (repeat' first | assumption | exact if_pos rfl | refine (if_neg (by decide)).trans ?_)))) | ((with_reducible show wpAny _ _ (binaryOp .FloorDiv (.int _ _) (.int _ _)) _ _ _); refine floordiv_int (by first | lia | omega) ?_ (Or.inl (PyProof.noPylong_small (by first | lia | omega)))) | walk1) | (dsimp only; walk1)) | (with_reducible show ite _ _ _); split; all_goals (try (rename_i hq; exfalso; simp only [decide_eq_true_eq, Bool.not_eq_true, decide_eq_false_iff_not, beq_iff_eq, bne_iff_ne, beq_eq_false_iff_ne, bne_eq_false_iff_eq, ne_eq, Bool.false_eq_true, not_true_eq_false, not_false_eq_true] at hq <;> first | lia | omega))))
    rename Fr _ _ _ _ => F'
    rename News _ _ _ _ => N''
    refine for_turn ?_ (fun _ => rfl)
    refine next_none rfl F' N'' hI₂ (.head _) (fun p hp => Nat.ne_of_lt (hap2 p.1 (by have hq := List.mem_map_of_mem (f := fun x : Addr × Obj => x.1) hp; exact hq))) rfl fun h'' F₄ N₄ => ?_
    dsimp only
    (repeat' (first | (with_reducible show wpAny _ _ _ _ _ _); (fail_if_success (first | (with_reducible show wpAny _ _ (exec (Stmt.While _ _ _ _) _) _ _ _) | (with_reducible show wpAny _ _ (exec (Stmt.For _ _ _ _ _) _) _ _ _) | (with_reducible show wpAny _ _ (call (Value.ref _) _ _) _ _ _))); (first | (first | ((with_reducible show wpAny _ _ (subscriptTail _ _ (Value.ref _) (Value.ref _)) _ _ _); first | (refine' slice_14 ?zF ?zN ?zt ?_ ?zhs ?zhg; (case zF => assumption); (case zN => assumption); (case zt => exact News.isTup (by assumption) (by k_mem)); (case zhs => with_unfolding_all rfl); (case zhg => (intro _; with_unfolding_all rfl)); intro D' h' F' N' l1; (try k_lt l1); (try k_sweep)) | (refine' slice_34 ?zF ?zN ?zt ?_ ?zhs ?zhg; (case zF => assumption); (case zN => assumption); (case zt => exact News.isTup (by assumption) (by k_mem)); (case zhs => with_unfolding_all rfl); (case zhg => (intro _; with_unfolding_all rfl)); intro D' h' F' N' l1; (try k_lt l1); (try k_sweep))) | ((with_reducible show wpAny _ _ (eval (.Name _ _) _) _ _ _); first | (refine' nameX_C ?zkf ?zkv ?zkw ?zkx ?_ ?zka ?zkb ?zkc; (case zka => exact rfl); (case zkb => exact rfl); (case zkf => assumption); (case zkv => exact rfl); (case zkw => k_mem); (case zkx => assumption); (case zkc => decide)) | (refine' nameX_L ?zf ?zv ?_; (case zf => assumption); (case zv => (repeat' first | assumption | exact if_pos rfl | refine (if_neg (by decide)).trans ?_)))) | ((with_reducible show wpAny _ _ (binaryOp .FloorDiv (.int _ _) (.int _ _)) _ _ _); refine floordiv_int (by first | lia | omega) ?_ (Or.inl (PyProof.noPylong_small (by first | lia | omega)))) | walk1) | (dsimp only; walk1)) | (with_reducible show ite _ _ _); split; all_goals (try (rename_i hq; exfalso; simp only [decide_eq_true_eq, Bool.not_eq_true, decide_eq_false_iff_not, beq_iff_eq, bne_iff_ne, beq_eq_false_iff_ne, bne_eq_false_iff_eq, ne_eq, Bool.false_eq_true, not_true_eq_false, not_false_eq_true] at hq <;> first | lia | omega))))
    exact hQ0 _ _ ⟨⟨hg, rfl⟩, _, [_, _], F₄, News.right (a := [_]) N₄, rfl, (by (repeat' first | assumption | exact if_pos rfl | refine (if_neg (by decide)).trans ?_)), (by (repeat' first | assumption | exact if_pos rfl | refine (if_neg (by decide)).trans ?_)), _, _, rfl, by assumption⟩
  intro f m' extra' s₂ F N M₂ G₂ hq12_
  refine ex0_4 (hq12_) ?_
  clear hq12_
  intro hq13_ ht hcf hq14_
  obtain rfl := hq13_
  refine ex2_2 (hq14_) ?_
  clear hq14_
  intro o' tg hq15_ ho'
  obtain rfl := hq15_
  have M₀ := M₀.trans M₂
  have T₀ := T₀.same G₂
  clear M₂ G₂
  have hg0 : 0 < (Int.gcd (Int.gcd c1 c2) c3 : Int) := Int.ofNat_lt.mpr (Int.gcd_pos_of_ne_zero_right _ (by exact Int.ne_of_gt (by assumption)))
  have hg1 : (Int.gcd (Int.gcd c1 c2) c3 : Int) ≤ 1000 := Int.le_trans (Int.gcd_le_right _ hc3) kc3
  have dv0 : (Int.gcd (Int.gcd c1 c2) c3 : Int) ∣ (Int.gcd c1 c2 : Int) := Int.gcd_dvd_left _ _
  have dv1 : (Int.gcd (Int.gcd c1 c2) c3 : Int) ∣ c1 := Int.dvd_trans dv0 (Int.gcd_dvd_left _ _)
  have dv2 : (Int.gcd (Int.gcd c1 c2) c3 : Int) ∣ c2 := Int.dvd_trans dv0 (Int.gcd_dvd_right _ _)
  have dv3 : (Int.gcd (Int.gcd c1 c2) c3 : Int) ∣ c3 := Int.gcd_dvd_right _ _
  clear dv0
  generalize hgg : (Int.gcd (Int.gcd c1 c2) c3 : Int) = gg at *
  dsimp only
  have H₀ : Holds hb L m' [(C, tupObj [.int c0 tc0, .int c1 tc1, .int c2 tc2, .int c3 tc3]), (L + 1, o')] (ownOf L [(C, tupObj [.int c0 tc0, .int c1 tc1, .int c2 tc2, .int c3 tc3]), (L + 1, o')]) (fun _ => False) (ownOf L [(C, tupObj [.int c0 tc0, .int c1 tc1, .int c2 tc2, .int c3 tc3]), (L + 1, ocl)]) (fun _ => False) s₁ s₂ :=
    ⟨F, N, fun _ q => q, M₀, T₀, fun b q => ⟨.inl q, q.lt F N⟩, fun _ q => q.elim⟩
  clear M₀ T₀
  refine x_cons (x_For ?_ fun _ => rfl)
  (repeat' ((with_reducible show wpAny _ _ _ _ _ _); (fail_if_success (with_reducible show wpAny _ _ (spliced _) _ _ _)); (first | (first | ((with_reducible show wpAny _ _ (subscriptTail _ _ (Value.ref _) (Value.ref _)) _ _ _); first | (refine' slice_14 ?zF ?zN ?zt ?_ ?zhs ?zhg; (case zF => assumption); (case zN => assumption); (case zt => exact News.isTup (by assumption) (by k_mem)); (case zhs => with_unfolding_all rfl); (case zhg => (intro _; with_unfolding_all rfl)); intro D' h' F' N' l1; (try k_lt l1); (try k_sweep)) | (refine' slice_34 ?zF ?zN ?zt ?_ ?zhs ?zhg; (case zF => assumption); (case zN => assumption); (case zt => exact News.isTup (by assumption) (by k_mem)); (case zhs => with_unfolding_all rfl); (case zhg => (intro _; with_unfolding_all rfl)); intro D' h' F' N' l1; (try k_lt l1); (try k_sweep))) | ((with_reducible show wpAny _ _ (eval (.Name _ _) _) _ _ _); first | (refine' nameX_C ?zkf ?zkv ?zkw ?zkx ?_ ?zka ?zkb ?zkc; (case zka => exact rfl); (case zkb => exact rfl); (case zkf => assumption); (case zkv => exact rfl); (case zkw => k_mem); (case zkx => assumption); (case zkc => decide)) | (refine' nameX_L ?zf ?zv ?_; (case zf => assumption); (case zv => (repeat' first | assumption | exact if_pos rfl | refine (if_neg (by decide)).trans ?_)))) | ((with_reducible show wpAny _ _ (binaryOp .FloorDiv (.int _ _) (.int _ _)) _ _ _); refine floordiv_int (by first | lia | omega) ?_ (Or.inl (PyProof.noPylong_small (by first | lia | omega)))) | walk1) | (dsimp only; walk1))))
  refine wp_trip (dp := 450) (un := 4500) (m := m') (extra := [(C, tupObj [.int c0 tc0, .int c1 tc1, .int c2 tc2, .int c3 tc3]), (L + 1, o')]) (Φ := fun vs m'' _ => (∃ t1 t2 t3, vs = [.int c0 t1, .int gg t2, .int t t3]) ∧ m'' = m') ?_ F N rfl (Nat.le_of_ble_eq_true rfl) (Nat.le_of_ble_eq_true rfl) ?_
  · clear F N H₀
    intro s hg F N' N
    refine hideQ fun Q0 hQ0 => ?_
    (repeat' (first | (with_reducible show wpAny _ _ _ _ _ _); (fail_if_success (first | (with_reducible show wpAny _ _ (exec (Stmt.While _ _ _ _) _) _ _ _) | (with_reducible show wpAny _ _ (exec (Stmt.For _ _ _ _ _) _) _ _ _) | (with_reducible show wpAny _ _ (call (Value.ref _) _ _) _ _ _))); (first | (first | ((with_reducible show wpAny _ _ (subscriptTail _ _ (Value.ref _) (Value.ref _)) _ _ _); first | (refine' slice_14 ?zF ?zN ?zt ?_ ?zhs ?zhg; (case zF => assumption); (case zN => assumption); (case zt => exact News.isTup (by assumption) (by k_mem)); (case zhs => with_unfolding_all rfl); (case zhg => (intro _; with_unfolding_all rfl)); intro D' h' F' N' l1; (try k_lt l1); (try k_sweep)) | (refine' slice_34 ?zF ?zN ?zt ?_ ?zhs ?zhg; (case zF => assumption); (case zN => assumption); (case zt => exact News.isTup (by assumption) (by k_mem)); (case zhs => with_unfolding_all rfl); (case zhg => (intro _; with_unfolding_all rfl)); intro D' h' F' N' l1; (try k_lt l1); (try k_sweep))) | ((with_reducible show wpAny _ _ (eval (.Name _ _) _) _ _ _); first | (refine' nameX_C ?zkf ?zkv ?zkw ?zkx ?_ ?zka ?zkb ?zkc; (case zka => exact rfl); (case zkb => exact rfl); (case zkf => assumption); (case zkv => exact rfl); (case zkw => k_mem); (case zkx => assumption); (case zkc => decide)) | (refine' nameX_L ?zf ?zv ?_; (case zf => assumption); (case zv => (repeat' first | assumption | exact if_pos rfl | refine (if_neg (by decide)).trans ?_)))) | ((with_reducible show wpAny _ _ (binaryOp .FloorDiv (.int _ _) (.int _ _)) _ _ _); refine floordiv_int (by first | lia | omega) ?_ (Or.inl (PyProof.noPylong_small (by first | lia | omega)))) | walk1) | (dsimp only; walk1)) | (with_reducible show ite _ _ _); split; all_goals (try (rename_i hq; exfalso; simp only [decide_eq_true_eq, Bool.not_eq_true, decide_eq_false_iff_not, beq_iff_eq, bne_iff_ne, beq_eq_false_iff_ne, bne_eq_false_iff_eq, ne_eq, Bool.false_eq_true, not_true_eq_false, not_false_eq_true] at hq <;> first | lia | omega))))
    rename Fr _ _ _ _ => F'
    rename News _ _ _ _ => N''
    exact hQ0 _ _ ⟨⟨hg, by first | rfl | trivial⟩, _, F', N'', ⟨_, _, _, rfl⟩, rfl⟩
  clear F N
  intro vs m'' s₃ F N M₂ G₂ hq16_
  refine ex0_2 (hq16_) ?_
  clear hq16_
  intro hq17_ hmm
  refine ex3_1 (hq17_) ?_
  clear hq17_
  intro t1 t2 t3 hq18_
  obtain rfl := hq18_
  rw [hmm] at F
  clear hmm m''
  have H₁ := H₀.trip F N M₂ G₂
  clear M₂ G₂ H₀
  refine ⟨X.keeps F.keep, ?_⟩
  refine wpAny_mono (base_ok W' hc0 hg0 ht0 kc0 hg1 ht1 F.keep (Nat.le_of_lt (Nat.lt_of_le_of_lt F.above F.ns.lt)) (Nat.le_of_ble_eq_true rfl)) (fun v s₄ hB => ?_) (fun _ _ x => x)
  refine ex4_8 (hB) ?_
  clear hB
  intro a g own gown hq19_ Lv Mb Tb ha hg' hown hgown
  obtain rfl := hq19_
  refine ex0_2 (H₁.born Lv Mb Tb ha hg' hown hgown) ?_
  intro H₂ ap
  have ha0 : hb.get? a = none := by
    cases e : hb.get? a with
    | none => rfl
    | some o => exact absurd (Heap.lt_size (F.keep _ _ e)) (Nat.not_lt.mpr ha)
  refine pyIter2 Lv.obj fun k hk p => ?_
  rw [show solveL [c0, c1, c2, c3] t = (baseL c0 gg t).flatMap (solveF [c1, c2, c3] gg) by rw [solveL_big]; simp only [List.foldl_cons, List.foldl_nil, hgg]]
  have hrow : ∀ p ∈ baseL c0 gg t, ∃ x r : Int, p = [x, r] ∧ 0 ≤ r ∧ r ≤ 1000 := baseL_bound hc0 hg0 ht0 ht1
  generalize baseL c0 gg t = xs at *
  clear F N H₁ Mb Tb ha hg' hown hgown
  refine gen_ind (ι := List (List Int) × (Addr → Prop) × (Nat → Prop)) (μ := fun i => i.1.length) (rows := fun i => i.1.flatMap (solveF [c1, c2, c3] gg))
    (J := fun i ownD gownD s₁ s => ∃ m, Holds hb L m [(C, tupObj [.int c0 tc0, .int c1 tc1, .int c2 tc2, .int c3 tc3]), (L + 1, o')] (plusO (ownOf L [(C, tupObj [.int c0 tc0, .int c1 tc1, .int c2 tc2, .int c3 tc3]), (L + 1, o')]) a i.2.1) (plusG (fun _ => False) g i.2.2) ownD gownD s₁ s ∧ Apart (ownOf L [(C, tupObj [.int c0 tc0, .int c1 tc1, .int c2 tc2, .int c3 tc3]), (L + 1, o')]) (fun _ => False) a g i.2.1 i.2.2 ∧
      Live w hb 500 5000 i.1 a g i.2.1 i.2.2 s ∧ m (Str.ofString "total") = some (.int t tt) ∧ m (Str.ofString "coeffs") = some (.ref C) ∧ ∀ p ∈ i.1, ∃ x r : Int, p = [x, r] ∧ 0 ≤ r ∧ r ≤ 1000) ?_ (xs, own, gown) _ _ _ _ ⟨m', H₂, ap, Lv, ht, hcf, hrow⟩
  clear H₂ ap Lv hrow ht hcf
  intro hq20_
  obtain ⟨xs, own, gown⟩ := hq20_
  intro ownD gownD s₁ s hq21_
  refine ex1_6 (hq21_) ?_
  clear hq21_
  intro m H ap Lv ht hcf hrow
  intro IH
  dsimp only at H ap Lv hrow
  refine x_forLoop ?_
  cases xs with
  | nil =>
    refine next_end Lv lim rfl (Nat.le_of_ble_eq_true rfl) (Nat.le_of_ble_eq_true rfl) (Nat.le_of_ble_eq_true rfl) fun s' M T hbase => ?_
    have H' := H.ended ap (fun _ q => q) M T hbase
    refine x_pop (.ok .next) ?_
    rw [hk]
    exact x_nil (x_end (.ok (.ret .none)) H'.done)
  | cons row xs =>
    refine ex2_3 (hrow row (.head _)) ?_
    intro x r hq22_ hr0 hr1
    obtain rfl := hq22_
    refine next_row Lv lim rfl (Nat.le_of_ble_eq_true rfl) (Nat.le_of_ble_eq_true rfl) (Nat.le_of_ble_eq_true rfl) fun v s₂ own' gown' T => ?_
    refine ex0_2 (H.next ap (fun _ q => q) T) ?_
    intro H₁ ap₁
    have Lv₁ := T.live
    refine ex2_4 (T.tup) ?_
    intro D vs hq23_ hD hD' hI
    obtain rfl := hq23_
    refine ex2_1 (ints2 hI) ?_
    intro tx tr hq24_
    obtain rfl := hq24_
    clear hI
    clear T H ap Lv
    dsimp only
    refine letOwned_gen Lv₁.obj ?_
    have F := H₁.fr
    have N : News hb L s₂.heap ([(D, tupObj [.int x tx, .int r tr])] ++ [(C, tupObj [.int c0 tc0, .int c1 tc1, .int c2 tc2, .int c3 tc3]), (L + 1, o')]) := fun p hp => by
      rcases List.mem_cons.mp hp with rfl | hp
      · exact ⟨hD', Fr.tup_ne2 F hD', hD⟩
      · exact H₁.news p hp
    refine wp_trip (dp := 450) (un := 4500) (m := m) (extra := [(D, tupObj [.int x tx, .int r tr])] ++ [(C, tupObj [.int c0 tc0, .int c1 tc1, .int c2 tc2, .int c3 tc3]), (L + 1, o')]) (Φ := fun _ m' _ => m' (Str.ofString "total") = some (.int t tt) ∧ m' (Str.ofString "coeffs") = some (.ref C) ∧ m' (Str.ofString "coeff0_solution") = some (.int x tx) ∧ m' (Str.ofString "remainder_gcd_solution") = some (.int r tr)) ?_ F N rfl (Nat.le_of_ble_eq_true rfl) (Nat.le_of_ble_eq_true rfl) ?_
    · clear F N H₁ ap₁ Lv₁ IH
      intro s hg F N' N
      refine hideQ fun Q0 hQ0 => ?_
      (repeat' (first | (with_reducible show wpAny _ _ _ _ _ _); (fail_if_success (first | (with_reducible show wpAny _ _ (exec (Stmt.While _ _ _ _) _) _ _ _) | (with_reducible show wpAny _ _ (exec (Stmt.For _ _ _ _ _) _) _ _ _) | (with_reducible show wpAny _ _ (call (Value.ref _) _ _) _ _ _))); (first | (first | ((with_reducible show wpAny _ _ (subscriptTail _ _ (Value.ref _) (Value.ref _)) _ _ _); first | (refine' slice_14 ?zF ?zN ?zt ?_ ?zhs ?zhg; (case zF => assumption); (case zN => assumption); (case zt => exact News.isTup (by assumption) (by k_mem)); (case zhs => with_unfolding_all rfl); (case zhg => (intro _; with_unfolding_all rfl)); intro D' h' F' N' l1; (try k_lt l1); (try k_sweep)) | (refine' slice_34 ?zF ?zN ?zt ?_ ?zhs ?zhg; (case zF => assumption); (case zN => assumption); (case zt => exact News.isTup (by assumption) (by k_mem)); (case zhs => with_unfolding_all rfl); (case zhg => (intro _; with_unfolding_all rfl)); intro D' h' F' N' l1; (try k_lt l1); (try k_sweep))) | ((with_reducible show wpAny _ _ (eval (.Name _ _) _) _ _ _); first | (refine' nameX_C ?zkf ?zkv ?zkw ?zkx ?_ ?zka ?zkb ?zkc; (case zka => exact rfl); (case zkb => exact rfl); (case zkf => assumption); (case zkv => exact rfl); (case zkw => k_mem); (case zkx => assumption); (case zkc => decide)) | (refine' nameX_L ?zf ?zv ?_; (case zf => assumption); (case zv => (repeat' first | assumption | exact if_pos rfl | refine (if_neg (by decide)).trans ?_)))) | ((with_reducible show wpAny _ _ (binaryOp .FloorDiv (.int _ _) (.int _ _)) _ _ _); refine floordiv_int (by first | lia | omega) ?_ (Or.inl (PyProof.noPylong_small (by first | lia | omega)))) | walk1) | (dsimp only; walk1)) | (with_reducible show ite _ _ _); split; all_goals (try (rename_i hq; exfalso; simp only [decide_eq_true_eq, Bool.not_eq_true, decide_eq_false_iff_not, beq_iff_eq, bne_iff_ne, beq_eq_false_iff_ne, bne_eq_false_iff_eq, ne_eq, Bool.false_eq_true, not_true_eq_false, not_false_eq_true] at hq <;> first | lia | omega))))
      rename Fr _ _ _ _ => F'
      rename News _ _ _ _ => N''
      exact hQ0 _ _ ⟨⟨hg, by first | rfl | trivial⟩, _, F', N'', (by (repeat' first | assumption | exact if_pos rfl | refine (if_neg (by decide)).trans ?_)), (by (repeat' first | assumption | exact if_pos rfl | refine (if_neg (by decide)).trans ?_)), (by (repeat' first | assumption | exact if_pos rfl | refine (if_neg (by decide)).trans ?_)), by (repeat' first | assumption | exact if_pos rfl | refine (if_neg (by decide)).trans ?_)⟩
    clear F N
    intro _ m' s₃ F N M₂ G₂ hq25_
    refine ex0_4 (hq25_) ?_
    clear hq25_
    intro ht hcf hx0 hr'
    intro H'
    have H₁ := H₁.trip F (News.right (a := [_]) N) M₂ G₂
    have Lv₁ := Lv₁.tripO ap₁ (.inl rfl) M₂ F
    clear M₂ G₂ N hD hD'
    have N := H₁.news
    refine sg_block (pre := [_]) (rest := [_]) (dp := 450) (un := 4500) (Φ := fun f m'' h => f = .next ∧ m'' (Str.ofString "total") = some (.int t tt) ∧ m'' (Str.ofString "coeffs") = some (.ref C) ∧ m'' (Str.ofString "coeff0_solution") = some (.int x tx) ∧ m'' (Str.ofString "remainder_gcd_solution") = some (.int r tr) ∧
      ∃ LC lo ys n, m'' (Str.ofString "new_coeffs") = some (.ref LC) ∧ hb.get? LC = none ∧ LC ≠ L ∧ h.get? LC = some lo ∧ lo.cls = .type "list" ∧ lo.data = .seq (List.toArray ys) n ∧ IntsAre ys ([c1, c2, c3].map fun z => Int.fdiv z gg)) ?_ F N rfl (Nat.le_of_ble_eq_true rfl) (Nat.le_of_ble_eq_true rfl) ?_
    · clear F N H₁ ap₁ Lv₁ IH
      intro s hg F N' N
      refine hideQ fun Q0 hQ0 => ?_
      simp only [List.cons_append, List.nil_append] at N
      refine wpAny_execs_cons ?_
      refine comp_div (CE := L + 1) rfl (by with_unfolding_all rfl) rfl rfl (fun _ => rfl) (by with_unfolding_all rfl) rfl (by decide) (by decide) (fun _ => rfl) (fun _ => rfl) (by decide) (by decide) ?_
      (repeat' (first | (with_reducible show wpAny _ _ _ _ _ _); (fail_if_success (first | (with_reducible show wpAny _ _ (exec (Stmt.While _ _ _ _) _) _ _ _) | (with_reducible show wpAny _ _ (exec (Stmt.For _ _ _ _ _) _) _ _ _) | (with_reducible show wpAny _ _ (call (Value.ref _) _ _) _ _ _))); (first | (first | ((with_reducible show wpAny _ _ (subscriptTail _ _ (Value.ref _) (Value.ref _)) _ _ _); first | (refine' slice_14 ?zF ?zN ?zt ?_ ?zhs ?zhg; (case zF => assumption); (case zN => assumption); (case zt => exact News.isTup (by assumption) (by k_mem)); (case zhs => with_unfolding_all rfl); (case zhg => (intro _; with_unfolding_all rfl)); intro D' h' F' N' l1; (try k_lt l1); (try k_sweep)) | (refine' slice_34 ?zF ?zN ?zt ?_ ?zhs ?zhg; (case zF => assumption); (case zN => assumption); (case zt => exact News.isTup (by assumption) (by k_mem)); (case zhs => with_unfolding_all rfl); (case zhg => (intro _; with_unfolding_all rfl)); intro D' h' F' N' l1; (try k_lt l1); (try k_sweep))) | ((with_reducible show wpAny _ _ (eval (.Name _ _) _) _ _ _); first | (refine' nameX_C ?zkf ?zkv ?zkw ?zkx ?_ ?zka ?zkb ?zkc; (case zka => exact rfl); (case zkb => exact rfl); (case zkf => assumption); (case zkv => exact rfl); (case zkw => k_mem); (case zkx => assumption); (case zkc => decide)) | (refine' nameX_L ?zf ?zv ?_; (case zf => assumption); (case zv => (repeat' first | assumption | exact if_pos rfl | refine (if_neg (by decide)).trans ?_)))) | ((with_reducible show wpAny _ _ (binaryOp .FloorDiv (.int _ _) (.int _ _)) _ _ _); refine floordiv_int (by first | lia | omega) ?_ (Or.inl (PyProof.noPylong_small (by first | lia | omega)))) | walk1) | (dsimp only; walk1)) | (with_reducible show ite _ _ _); split; all_goals (try (rename_i hq; exfalso; simp only [decide_eq_true_eq, Bool.not_eq_true, decide_eq_false_iff_not, beq_iff_eq, bne_iff_ne, beq_eq_false_iff_ne, bne_eq_false_iff_eq, ne_eq, Bool.false_eq_true, not_true_eq_false, not_false_eq_true] at hq <;> first | lia | omega))))
      rename Fr _ _ _ _ => F'
      rename News _ _ _ _ => N''
      refine ⟨_, [.int c1 tc1, .int c2 tc2, .int c3 tc3], [c1, c2, c3], gg, tg, rfl, isTuple_of N'' (.head _), (.cons _ _ (.cons _ _ (.cons _ _ (.nil)))), by simp; (clear l1 N'' F' hg hr' hx0 hcf ht Lv₁ H₁ hrow hr1 hr0 hk ha0 dv3 dv2 dv1 hg1 hg0 ho' hgg T₀ M₀ hCL hocl lim T X W' hroom bsize base kc0 hc0 ht1 ht0; lia), by simp, ⟨o', (N'' (L + 1, o') (.tail _ (.tail _ (.head _)))).1, ho'⟩, hg0, hg1, m', F'.ns, fun D ys n h' tk' keep hns hD hobj hys => ?_⟩
      refine ex1_3 (hobj) ?_
      clear hobj
      intro lo hlo hlc hld
      have hDb : ∀ b o, hb.get? b = some o → h'.get? b = some o := fun b o e => keep b o (Nat.ne_of_lt (Nat.lt_of_lt_of_le (Heap.lt_size e) F'.above)) (F'.keep b o e)
      have hDn : hb.get? D = none := by
        cases e : hb.get? D with
        | none => rfl
        | some o => exact absurd (Heap.lt_size (F'.keep _ _ e)) (Nat.not_lt.mpr hD)
      dsimp only
      (repeat' (first | (with_reducible show wpAny _ _ _ _ _ _); (fail_if_success (first | (with_reducible show wpAny _ _ (exec (Stmt.While _ _ _ _) _) _ _ _) | (with_reducible show wpAny _ _ (exec (Stmt.For _ _ _ _ _) _) _ _ _) | (with_reducible show wpAny _ _ (call (Value.ref _) _ _) _ _ _))); (first | (first | ((with_reducible show wpAny _ _ (subscriptTail _ _ (Value.ref _) (Value.ref _)) _ _ _); first | (refine' slice_14 ?zF ?zN ?zt ?_ ?zhs ?zhg; (case zF => assumption); (case zN => assumption); (case zt => exact News.isTup (by assumption) (by k_mem)); (case zhs => with_unfolding_all rfl); (case zhg => (intro _; with_unfolding_all rfl)); intro D' h' F' N' l1; (try k_lt l1); (try k_sweep)) | (refine' slice_34 ?zF ?zN ?zt ?_ ?zhs ?zhg; (case zF => assumption); (case zN => assumption); (case zt => exact News.isTup (by assumption) (by k_mem)); (case zhs => with_unfolding_all rfl); (case zhg => (intro _; with_unfolding_all rfl)); intro D' h' F' N' l1; (try k_lt l1); (try k_sweep))) | ((with_reducible show wpAny _ _ (eval (.Name _ _) _) _ _ _); first | (refine' nameX_C ?zkf ?zkv ?zkw ?zkx ?_ ?zka ?zkb ?zkc; (case zka => exact rfl); (case zkb => exact rfl); (case zkf => assumption); (case zkv => exact rfl); (case zkw => k_mem); (case zkx => assumption); (case zkc => decide)) | (refine' nameX_L ?zf ?zv ?_; (case zf => assumption); (case zv => (repeat' first | assumption | exact if_pos rfl | refine (if_neg (by decide)).trans ?_)))) | ((with_reducible show wpAny _ _ (binaryOp .FloorDiv (.int _ _) (.int _ _)) _ _ _); refine floordiv_int (by first | lia | omega) ?_ (Or.inl (PyProof.noPylong_small (by first | lia | omega)))) | walk1) | (dsimp only; walk1)) | (with_reducible show ite _ _ _); split; all_goals (try (rename_i hq; exfalso; simp only [decide_eq_true_eq, Bool.not_eq_true, decide_eq_false_iff_not, beq_iff_eq, bne_iff_ne, beq_eq_false_iff_ne, bne_eq_false_iff_eq, ne_eq, Bool.false_eq_true, not_true_eq_false, not_false_eq_true] at hq <;> first | lia | omega))))
      exact hQ0 _ _ ⟨⟨hg, by first | rfl | trivial⟩, _, ⟨hns, hDb, F'.above⟩, fun p hp => ⟨keep _ _ (N'' p (.tail _ hp)).2.1 (N'' p (.tail _ hp)).1, (N'' p (.tail _ hp)).2⟩, rfl, (by (repeat' first | assumption | exact if_pos rfl | refine (if_neg (by decide)).trans ?_)), (by (repeat' first | assumption | exact if_pos rfl | refine (if_neg (by decide)).trans ?_)), (by (repeat' first | assumption | exact if_pos rfl | refine (if_neg (by decide)).trans ?_)), (by (repeat' first | assumption | exact if_pos rfl | refine (if_neg (by decide)).trans ?_)), D, lo, ys, n, (by (repeat' first | assumption | exact if_pos rfl | refine (if_neg (by decide)).trans ?_)), hDn, Nat.ne_of_gt (Nat.lt_of_lt_of_le F'.ns.lt hD), hlo, hlc, hld, hys⟩
    clear F N
    intro f m' s₃ F N M₂ G₂ hq26_
    refine ex0_6 (hq26_) ?_
    clear hq26_
    intro hq27_ ht hcf hx0 hr' hq28_
    obtain rfl := hq27_
    refine ex4_7 (hq28_) ?_
    clear hq28_
    intro LC lo ys n hnc hLb hLL hlo hlc hld hys
    have H₁ := H₁.trip F N M₂ G₂
    have Lv₁ := Lv₁.tripO ap₁ (.inl rfl) M₂ F
    clear M₂ G₂
    dsimp only
    refine x_cons (x_For ?_ fun _ => rfl)
    (first | ((with_reducible show wpAny _ _ (subscriptTail _ _ (Value.ref _) (Value.ref _)) _ _ _); first | (refine' slice_14 ?zF ?zN ?zt ?_ ?zhs ?zhg; (case zF => assumption); (case zN => assumption); (case zt => exact News.isTup (by assumption) (by k_mem)); (case zhs => with_unfolding_all rfl); (case zhg => (intro _; with_unfolding_all rfl)); intro D' h' F' N' l1; (try k_lt l1); (try k_sweep)) | (refine' slice_34 ?zF ?zN ?zt ?_ ?zhs ?zhg; (case zF => assumption); (case zN => assumption); (case zt => exact News.isTup (by assumption) (by k_mem)); (case zhs => with_unfolding_all rfl); (case zhg => (intro _; with_unfolding_all rfl)); intro D' h' F' N' l1; (try k_lt l1); (try k_sweep))) | ((with_reducible show wpAny _ _ (eval (.Name _ _) _) _ _ _); first | (refine' nameX_C ?zkf ?zkv ?zkw ?zkx ?_ ?zka ?zkb ?zkc; (case zka => exact rfl); (case zkb => exact rfl); (case zkf => assumption); (case zkv => exact rfl); (case zkw => k_mem); (case zkx => assumption); (case zkc => decide)) | (refine' nameX_L ?zf ?zv ?_; (case zf => assumption); (case zv => (repeat' first | assumption | exact if_pos rfl | refine (if_neg (by decide)).trans ?_)))) | ((with_reducible show wpAny _ _ (binaryOp .FloorDiv (.int _ _) (.int _ _)) _ _ _); refine floordiv_int (by first | lia | omega) ?_ (Or.inl (PyProof.noPylong_small (by first | lia | omega)))) | walk1)
    (first | ((with_reducible show wpAny _ _ (subscriptTail _ _ (Value.ref _) (Value.ref _)) _ _ _); first | (refine' slice_14 ?zF ?zN ?zt ?_ ?zhs ?zhg; (case zF => assumption); (case zN => assumption); (case zt => exact News.isTup (by assumption) (by k_mem)); (case zhs => with_unfolding_all rfl); (case zhg => (intro _; with_unfolding_all rfl)); intro D' h' F' N' l1; (try k_lt l1); (try k_sweep)) | (refine' slice_34 ?zF ?zN ?zt ?_ ?zhs ?zhg; (case zF => assumption); (case zN => assumption); (case zt => exact News.isTup (by assumption) (by k_mem)); (case zhs => with_unfolding_all rfl); (case zhg => (intro _; with_unfolding_all rfl)); intro D' h' F' N' l1; (try k_lt l1); (try k_sweep))) | ((with_reducible show wpAny _ _ (eval (.Name _ _) _) _ _ _); first | (refine' nameX_C ?zkf ?zkv ?zkw ?zkx ?_ ?zka ?zkb ?zkc; (case zka => exact rfl); (case zkb => exact rfl); (case zkf => assumption); (case zkv => exact rfl); (case zkw => k_mem); (case zkx => assumption); (case zkc => decide)) | (refine' nameX_L ?zf ?zv ?_; (case zf => assumption); (case zv => (repeat' first | assumption | exact if_pos rfl | refine (if_neg (by decide)).trans ?_)))) | ((with_reducible show wpAny _ _ (binaryOp .FloorDiv (.int _ _) (.int _ _)) _ _ _); refine floordiv_int (by first | lia | omega) ?_ (Or.inl (PyProof.noPylong_small (by first | lia | omega)))) | walk1)
    refine callWith_star rfl ?_
    have N : News hb L s₃.heap ([(LC, lo)] ++ [(C, tupObj [.int c0 tc0, .int c1 tc1, .int c2 tc2, .int c3 tc3]), (L + 1, o')]) := fun p hp => by
      rcases List.mem_cons.mp hp with rfl | hp
      · exact ⟨hlo, hLL, hLb⟩
      · exact H₁.news p hp
    refine wp_trip (dp := 450) (un := 4500) (m := m') (extra := [(LC, lo)] ++ [(C, tupObj [.int c0 tc0, .int c1 tc1, .int c2 tc2, .int c3 tc3]), (L + 1, o')]) (Φ := fun vs m'' _ => vs = .int r tr :: ys ∧ m'' = m') ?_ F N rfl (Nat.le_of_ble_eq_true rfl) (Nat.le_of_ble_eq_true rfl) ?_
    · clear F N H₁ ap₁ Lv₁ IH
      intro s hg F N' N
      refine hideQ fun Q0 hQ0 => ?_
      simp only [List.cons_append, List.nil_append] at N
      refine spliced_plain ?_
      rw [if_neg Bool.false_ne_true]
      (first | ((with_reducible show wpAny _ _ (subscriptTail _ _ (Value.ref _) (Value.ref _)) _ _ _); first | (refine' slice_14 ?zF ?zN ?zt ?_ ?zhs ?zhg; (case zF => assumption); (case zN => assumption); (case zt => exact News.isTup (by assumption) (by k_mem)); (case zhs => with_unfolding_all rfl); (case zhg => (intro _; with_unfolding_all rfl)); intro D' h' F' N' l1; (try k_lt l1); (try k_sweep)) | (refine' slice_34 ?zF ?zN ?zt ?_ ?zhs ?zhg; (case zF => assumption); (case zN => assumption); (case zt => exact News.isTup (by assumption) (by k_mem)); (case zhs => with_unfolding_all rfl); (case zhg => (intro _; with_unfolding_all rfl)); intro D' h' F' N' l1; (try k_lt l1); (try k_sweep))) | ((with_reducible show wpAny _ _ (eval (.Name _ _) _) _ _ _); first | (refine' nameX_C ?zkf ?zkv ?zkw ?zkx ?_ ?zka ?zkb ?zkc; (case zka => exact rfl); (case zkb => exact rfl); (case zkf => assumption); (case zkv => exact rfl); (case zkw => k_mem); (case zkx => assumption); (case zkc => decide)) | (refine' nameX_L ?zf ?zv ?_; (case zf => assumption); (case zv => (repeat' first | assumption | exact if_pos rfl | refine (if_neg (by decide)).trans ?_)))) | ((with_reducible show wpAny _ _ (binaryOp .FloorDiv (.int _ _) (.int _ _)) _ _ _); refine floordiv_int (by first | lia | omega) ?_ (Or.inl (PyProof.noPylong_small (by first | lia | omega)))) | walk1)
      refine spliced_star (l := LC) (o := lo) (ys := ys) (n := n) ?_ ?_
      · rw [List.size_toArray, ints_len hys, sizeLine_eq]; simp
      rw [if_pos rfl]
      refine wpAny_bind ?_
      (first | ((with_reducible show wpAny _ _ (subscriptTail _ _ (Value.ref _) (Value.ref _)) _ _ _); first | (refine' slice_14 ?zF ?zN ?zt ?_ ?zhs ?zhg; (case zF => assumption); (case zN => assumption); (case zt => exact News.isTup (by assumption) (by k_mem)); (case zhs => with_unfolding_all rfl); (case zhg => (intro _; with_unfolding_all rfl)); intro D' h' F' N' l1; (try k_lt l1); (try k_sweep)) | (refine' slice_34 ?zF ?zN ?zt ?_ ?zhs ?zhg; (case zF => assumption); (case zN => assumption); (case zt => exact News.isTup (by assumption) (by k_mem)); (case zhs => with_unfolding_all rfl); (case zhg => (intro _; with_unfolding_all rfl)); intro D' h' F' N' l1; (try k_lt l1); (try k_sweep))) | ((with_reducible show wpAny _ _ (eval (.Name _ _) _) _ _ _); first | (refine' nameX_C ?zkf ?zkv ?zkw ?zkx ?_ ?zka ?zkb ?zkc; (case zka => exact rfl); (case zkb => exact rfl); (case zkf => assumption); (case zkv => exact rfl); (case zkw => k_mem); (case zkx => assumption); (case zkc => decide)) | (refine' nameX_L ?zf ?zv ?_; (case zf => assumption); (case zv => (repeat' first | assumption | exact if_pos rfl | refine (if_neg (by decide)).trans ?_)))) | ((with_reducible show wpAny _ _ (binaryOp .FloorDiv (.int _ _) (.int _ _)) _ _ _); refine floordiv_int (by first | lia | omega) ?_ (Or.inl (PyProof.noPylong_small (by first | lia | omega)))) | walk1)
      refine wpAny_bind (wpAny_standAt (wpAny_pure ?_))
      refine ⟨rfl, (N _ (.head _)).1, hlc, hld, fun h' hk => ?_⟩
      have N1 := News.grown N hk
      exact hQ0 _ _ ⟨⟨hg, by first | rfl | trivial⟩, _, F.after hk, N1, rfl, rfl⟩
    clear F N
    intro vs m'' s₄ F N M₂ G₂ hq29_
    refine ex0_2 (hq29_) ?_
    clear hq29_
    intro hq30_ hmm
    obtain rfl := hq30_
    rw [hmm] at F
    clear hmm m''
    have H₁ := H₁.trip F (News.right (a := [_]) N) M₂ G₂
    have Lv₁ := Lv₁.tripO ap₁ (.inl rfl) M₂ F
    clear M₂ G₂ N
    simp only [List.map_cons, List.map_nil] at hys
    refine ex3_1 (ints3 hys) ?_
    intro u1 u2 u3 hz
    clear hys
    subst hz
    refine ⟨⟨_, _, X.keeps F.keep _ _ (by k_is), rfl⟩, ?_⟩
    have hq1 : 0 < Int.fdiv c1 gg ∧ Int.fdiv c1 gg ≤ 1000 := by have := fdiv_dvd hg0 hc1 dv1; (clear hld Lv₁ H₁ F hlc hlo hLL hLb hnc hr' hx0 hcf ht N ap₁ IH hrow hr1 hr0 hk ha0 dv3 dv2 dv1 hg1 hg0 ho' hgg T₀ M₀ hCL hocl lim T X W' hroom bsize base kc3 hc3 kc2 hc2 kc0 hc0 ht1 ht0; omega)
    have hq2 : 0 < Int.fdiv c2 gg ∧ Int.fdiv c2 gg ≤ 1000 := by have := fdiv_dvd hg0 hc2 dv2; (clear hq1 hld Lv₁ H₁ F hlc hlo hLL hLb hnc hr' hx0 hcf ht N ap₁ IH hrow hr1 hr0 hk ha0 dv3 dv2 dv1 hg1 hg0 ho' hgg T₀ M₀ hCL hocl lim T X W' hroom bsize base kc3 hc3 kc1 hc1 kc0 hc0 ht1 ht0; omega)
    have hq3 : 0 < Int.fdiv c3 gg ∧ Int.fdiv c3 gg ≤ 1000 := by have := fdiv_dvd hg0 hc3 dv3; lia
    refine wpAny_mono (solve3_ok (t := r) W' hr0 hr1 hq1.1 hq1.2 hq2.1 hq2.2 hq3.1 hq3.2 F.keep (Nat.le_of_lt (Nat.lt_of_le_of_lt F.above F.ns.lt)) (Nat.le_of_ble_eq_true rfl)) (fun v s₅ hB => ?_) (fun _ _ x => x)
    refine ex4_8 (hB) ?_
    clear hB
    intro a₂ g₂ own₂ gown₂ hq31_ Lv₂ Mb Tb ha hg' hown hgown
    obtain rfl := hq31_
    refine ex0_2 (H₁.born Lv₂ Mb Tb ha hg' hown hgown) ?_
    intro H₂ ap₂
    have Lv₁ := Lv₁.keepO (fun _ _ q => q) (fun _ _ q => q) Mb Lv₂.base
    refine pyIter2 Lv₂.obj fun k₂ hk₂ p₂ => ?_
    rw [List.flatMap_cons]
    rw [show solveF [c1, c2, c3] gg [x, r] = (solveL [Int.fdiv c1 gg, Int.fdiv c2 gg, Int.fdiv c3 gg] r).map (x :: ·) from by simp [solveF, solveF]]
    have hlen : ∀ y ∈ solveL [Int.fdiv c1 gg, Int.fdiv c2 gg, Int.fdiv c3 gg] r, y ≠ [] ∧ y.length ≤ 10 := fun y hy => by
      have := solveL_len 3 [Int.fdiv c1 gg, Int.fdiv c2 gg, Int.fdiv c3 gg] r rfl y hy
      exact ⟨fun e => by rw [e] at this; simp at this, by lia⟩
    generalize solveL [Int.fdiv c1 gg, Int.fdiv c2 gg, Int.fdiv c3 gg] r = ys₂ at *
    clear F H₁ Mb Tb ha hg' hown hgown
    refine gen_ind (ι := List (List Int) × (Addr → Prop) × (Nat → Prop)) (μ := fun i => i.1.length) (rows := fun i => i.1.map (x :: ·) ++ xs.flatMap (solveF [c1, c2, c3] gg))
      (J := fun i ownD gownD s₁ s => ∃ m, Holds hb L m [(C, tupObj [.int c0 tc0, .int c1 tc1, .int c2 tc2, .int c3 tc3]), (L + 1, o')] (plusO (plusO (ownOf L [(C, tupObj [.int c0 tc0, .int c1 tc1, .int c2 tc2, .int c3 tc3]), (L + 1, o')]) a own') a₂ i.2.1) (plusG (plusG (fun _ => False) g gown') g₂ i.2.2) ownD gownD s₁ s ∧
        Apart (plusO (ownOf L [(C, tupObj [.int c0 tc0, .int c1 tc1, .int c2 tc2, .int c3 tc3]), (L + 1, o')]) a own') (plusG (fun _ => False) g gown') a₂ g₂ i.2.1 i.2.2 ∧ Live w hb 460 4600 i.1 a₂ g₂ i.2.1 i.2.2 s ∧ Live w hb 500 5000 xs a g own' gown' s ∧
        m (Str.ofString "total") = some (.int t tt) ∧ m (Str.ofString "coeffs") = some (.ref C) ∧ m (Str.ofString "coeff0_solution") = some (.int x tx) ∧ ∀ y ∈ i.1, y ≠ [] ∧ y.length ≤ 10) ?_ (ys₂, own₂, gown₂) _ _ _ _ ⟨m', H₂, ap₂, Lv₂, Lv₁, ht, hcf, hx0, hlen⟩
    clear H₂ ap₂ Lv₂ Lv₁ ht hcf hx0 hlen
    intro hq32_
    obtain ⟨ys₂, own₂, gown₂⟩ := hq32_
    intro ownD gownD s₁ s hq33_
    refine ex1_8 (hq33_) ?_
    clear hq33_
    intro m H ap₂ Lv₂ Lv₁ ht hcf hx0 hlen
    intro IH₂
    dsimp only at H ap₂ Lv₂ hlen
    refine x_forLoop ?_
    cases ys₂ with
    | nil =>
      refine next_end Lv₂ lim rfl (Nat.le_of_ble_eq_true rfl) (Nat.le_of_ble_eq_true rfl) (Nat.le_of_ble_eq_true rfl) fun s' M T hbase => ?_
      have H' := H.ended ap₂ (fun _ q => .inl q) M T hbase
      have Lv₁ := Lv₁.keepO (fun b q z => ap₂.o b (.inl z) (.inr q)) (fun i q z => ap₂.g i z (.inr q)) M hbase
      refine x_pop (.ok .next) ?_
      rw [hk₂]
      refine x_nil (x_again rfl ?_)
      exact IH (xs, own', gown') _ _ _ _ (Nat.lt_succ_self _) ⟨m, H', ap₁, Lv₁, ht, hcf, fun p hp => hrow p (.tail _ hp)⟩
    | cons row ys₂ =>
      have hrw := hlen row (.head _)
      refine next_row Lv₂ lim rfl (Nat.le_of_ble_eq_true rfl) (Nat.le_of_ble_eq_true rfl) (Nat.le_of_ble_eq_true rfl) fun v s₂ own₃ gown₃ T => ?_
      refine ex0_2 (H.next ap₂ (fun _ q => .inl q) T) ?_
      intro H₁ ap₃
      have Lv₂ := T.live
      have Lv₁ := Lv₁.keepO (fun b q z => ap₂.o b (.inl z) (.inr q)) (fun i q z => ap₂.g i z (.inr q)) T.moves T.live.base
      refine ex2_4 (T.tup) ?_
      intro D vs hq34_ hD hD' hI
      obtain rfl := hq34_
      have hvne : vs ≠ [] := fun e => hrw.1 (by have := ints_len hI; rw [e] at this; exact List.eq_nil_of_length_eq_zero this.symm)
      have hvlen := ints_len hI
      clear T H ap₂
      dsimp only
      refine wpAny_of_eq (a := ()) rfl ?_
      have F := H₁.fr
      have N : News hb L s₂.heap ([(D, tupObj vs)] ++ [(C, tupObj [.int c0 tc0, .int c1 tc1, .int c2 tc2, .int c3 tc3]), (L + 1, o')]) := fun p hp => by
        rcases List.mem_cons.mp hp with rfl | hp
        · exact ⟨hD', Fr.tup_ne2 F hD', hD⟩
        · exact H₁.news p hp
      refine wp_trip (dp := 450) (un := 4500) (m := m) (extra := [(D, tupObj vs)] ++ [(C, tupObj [.int c0 tc0, .int c1 tc1, .int c2 tc2, .int c3 tc3]), (L + 1, o')]) (Φ := fun _ m' _ => m' (Str.ofString "total") = some (.int t tt) ∧ m' (Str.ofString "coeffs") = some (.ref C) ∧ m' (Str.ofString "coeff0_solution") = some (.int x tx) ∧ m' (Str.ofString "remainder_solution") = some (.ref D)) ?_ F N rfl (Nat.le_of_ble_eq_true rfl) (Nat.le_of_ble_eq_true rfl) ?_
      · clear F N H₁ ap₁ ap₃ Lv₁ Lv₂ IH IH₂
        intro s hg F N' N
        refine hideQ fun Q0 hQ0 => ?_
        (repeat' (first | (with_reducible show wpAny _ _ _ _ _ _); (fail_if_success (first | (with_reducible show wpAny _ _ (exec (Stmt.While _ _ _ _) _) _ _ _) | (with_reducible show wpAny _ _ (exec (Stmt.For _ _ _ _ _) _) _ _ _) | (with_reducible show wpAny _ _ (call (Value.ref _) _ _) _ _ _))); (first | (first | ((with_reducible show wpAny _ _ (subscriptTail _ _ (Value.ref _) (Value.ref _)) _ _ _); first | (refine' slice_14 ?zF ?zN ?zt ?_ ?zhs ?zhg; (case zF => assumption); (case zN => assumption); (case zt => exact News.isTup (by assumption) (by k_mem)); (case zhs => with_unfolding_all rfl); (case zhg => (intro _; with_unfolding_all rfl)); intro D' h' F' N' l1; (try k_lt l1); (try k_sweep)) | (refine' slice_34 ?zF ?zN ?zt ?_ ?zhs ?zhg; (case zF => assumption); (case zN => assumption); (case zt => exact News.isTup (by assumption) (by k_mem)); (case zhs => with_unfolding_all rfl); (case zhg => (intro _; with_unfolding_all rfl)); intro D' h' F' N' l1; (try k_lt l1); (try k_sweep))) | ((with_reducible show wpAny _ _ (eval (.Name _ _) _) _ _ _); first | (refine' nameX_C ?zkf ?zkv ?zkw ?zkx ?_ ?zka ?zkb ?zkc; (case zka => exact rfl); (case zkb => exact rfl); (case zkf => assumption); (case zkv => exact rfl); (case zkw => k_mem); (case zkx => assumption); (case zkc => decide)) | (refine' nameX_L ?zf ?zv ?_; (case zf => assumption); (case zv => (repeat' first | assumption | exact if_pos rfl | refine (if_neg (by decide)).trans ?_)))) | ((with_reducible show wpAny _ _ (binaryOp .FloorDiv (.int _ _) (.int _ _)) _ _ _); refine floordiv_int (by first | lia | omega) ?_ (Or.inl (PyProof.noPylong_small (by first | lia | omega)))) | walk1) | (dsimp only; walk1)) | (with_reducible show ite _ _ _); split; all_goals (try (rename_i hq; exfalso; simp only [decide_eq_true_eq, Bool.not_eq_true, decide_eq_false_iff_not, beq_iff_eq, bne_iff_ne, beq_eq_false_iff_ne, bne_eq_false_iff_eq, ne_eq, Bool.false_eq_true, not_true_eq_false, not_false_eq_true] at hq <;> first | lia | omega))))
        rename Fr _ _ _ _ => F'
        rename News _ _ _ _ => N''
        exact hQ0 _ _ ⟨⟨hg, by first | rfl | trivial⟩, _, F', N'', (by (repeat' first | assumption | exact if_pos rfl | refine (if_neg (by decide)).trans ?_)), (by (repeat' first | assumption | exact if_pos rfl | refine (if_neg (by decide)).trans ?_)), (by (repeat' first | assumption | exact if_pos rfl | refine (if_neg (by decide)).trans ?_)), by (repeat' first | assumption | exact if_pos rfl | refine (if_neg (by decide)).trans ?_)⟩
      clear F N
      intro _ m' s₃ F N M₂ G₂ hq35_
      refine ex0_4 (hq35_) ?_
      clear hq35_
      intro ht hcf hx0 hrs
      intro H''
      have H₁ := H₁.trip F (News.right (a := [_]) N) M₂ G₂
      have Lv₁ := Lv₁.tripO ap₁ (.inl rfl) M₂ F
      have Lv₂ := Lv₂.tripO ap₃ (.inl (.inl rfl)) M₂ F
      have hD' : s₃.heap.get? D = some (tupObj vs) := (N _ (.head _)).1
      have hDb := hD
      clear M₂ G₂ N hD
      refine x_cons (x_Yield rfl rfl ?_ rfl rfl)
      refine wpAny_BinOp ?_
      have N : News hb L s₃.heap ([(D, tupObj vs)] ++ [(C, tupObj [.int c0 tc0, .int c1 tc1, .int c2 tc2, .int c3 tc3]), (L + 1, o')]) := fun p hp => by
        rcases List.mem_cons.mp hp with rfl | hp
        · exact ⟨hD', Fr.tup_ne2 F hD', hDb⟩
        · exact H₁.news p hp
      refine wp_trip (dp := 450) (un := 4500) (m := m') (extra := [(D, tupObj vs)] ++ [(C, tupObj [.int c0 tc0, .int c1 tc1, .int c2 tc2, .int c3 tc3]), (L + 1, o')]) (Φ := fun v m'' h => (∃ D2, v = .ref D2 ∧ h.get? D2 = some (tupObj [.int x tx])) ∧ m'' = m') ?_ F N rfl (Nat.le_of_ble_eq_true rfl) (Nat.le_of_ble_eq_true rfl) ?_
      · clear F N H₁ ap₁ ap₃ Lv₁ Lv₂ IH IH₂
        intro s hg F N' N
        refine hideQ fun Q0 hQ0 => ?_
        (repeat' (first | (with_reducible show wpAny _ _ _ _ _ _); (fail_if_success (first | (with_reducible show wpAny _ _ (exec (Stmt.While _ _ _ _) _) _ _ _) | (with_reducible show wpAny _ _ (exec (Stmt.For _ _ _ _ _) _) _ _ _) | (with_reducible show wpAny _ _ (call (Value.ref _) _ _) _ _ _))); (first | (first | ((with_reducible show wpAny _ _ (subscriptTail _ _ (Value.ref _) (Value.ref _)) _ _ _); first | (refine' slice_14 ?zF ?zN ?zt ?_ ?zhs ?zhg; (case zF => assumption); (case zN => assumption); (case zt => exact News.isTup (by assumption) (by k_mem)); (case zhs => with_unfolding_all rfl); (case zhg => (intro _; with_unfolding_all rfl)); intro D' h' F' N' l1; (try k_lt l1); (try k_sweep)) | (refine' slice_34 ?zF ?zN ?zt ?_ ?zhs ?zhg; (case zF => assumption); (case zN => assumption); (case zt => exact News.isTup (by assumption) (by k_mem)); (case zhs => with_unfolding_all rfl); (case zhg => (intro _; with_unfolding_all rfl)); intro D' h' F' N' l1; (try k_lt l1); (try k_sweep))) | ((with_reducible show wpAny _ _ (eval (.Name _ _) _) _ _ _); first | (refine' nameX_C ?zkf ?zkv ?zkw ?zkx ?_ ?zka ?zkb ?zkc; (case zka => exact rfl); (case zkb => exact rfl); (case zkf => assumption); (case zkv => exact rfl); (case zkw => k_mem); (case zkx => assumption); (case zkc => decide)) | (refine' nameX_L ?zf ?zv ?_; (case zf => assumption); (case zv => (repeat' first | assumption | exact if_pos rfl | refine (if_neg (by decide)).trans ?_)))) | ((with_reducible show wpAny _ _ (binaryOp .FloorDiv (.int _ _) (.int _ _)) _ _ _); refine floordiv_int (by first | lia | omega) ?_ (Or.inl (PyProof.noPylong_small (by first | lia | omega)))) | walk1) | (dsimp only; walk1)) | (with_reducible show ite _ _ _); split; all_goals (try (rename_i hq; exfalso; simp only [decide_eq_true_eq, Bool.not_eq_true, decide_eq_false_iff_not, beq_iff_eq, bne_iff_ne, beq_eq_false_iff_ne, bne_eq_false_iff_eq, ne_eq, Bool.false_eq_true, not_true_eq_false, not_false_eq_true] at hq <;> first | lia | omega))))
        rename Fr _ _ _ _ => F'
        rename News _ _ _ _ => N''
        exact hQ0 _ _ ⟨⟨hg, by first | rfl | trivial⟩, _, F', News.right (a := [_]) N'', ⟨_, rfl, (N'' _ (.head _)).1⟩, rfl⟩
      clear F N
      intro _ m'' s₄ F N M₂ G₂ hq36_
      refine ex0_2 (hq36_) ?_
      clear hq36_
      intro hq37_ hmm
      refine ex1_2 (hq37_) ?_
      clear hq37_
      intro D2 hq38_ hD2
      obtain rfl := hq38_
      rw [hmm] at F
      clear hmm m''
      have H₁ := H₁.trip F (News.right (a := [_]) N) M₂ G₂
      have Lv₁ := Lv₁.tripO ap₁ (.inl rfl) M₂ F
      have Lv₂ := Lv₂.tripO ap₃ (.inl (.inl rfl)) M₂ F
      have hD' : s₄.heap.get? D = some (tupObj vs) := (N _ (.head _)).1
      clear M₂ G₂ N
      (first | ((with_reducible show wpAny _ _ (subscriptTail _ _ (Value.ref _) (Value.ref _)) _ _ _); first | (refine' slice_14 ?zF ?zN ?zt ?_ ?zhs ?zhg; (case zF => assumption); (case zN => assumption); (case zt => exact News.isTup (by assumption) (by k_mem)); (case zhs => with_unfolding_all rfl); (case zhg => (intro _; with_unfolding_all rfl)); intro D' h' F' N' l1; (try k_lt l1); (try k_sweep)) | (refine' slice_34 ?zF ?zN ?zt ?_ ?zhs ?zhg; (case zF => assumption); (case zN => assumption); (case zt => exact News.isTup (by assumption) (by k_mem)); (case zhs => with_unfolding_all rfl); (case zhg => (intro _; with_unfolding_all rfl)); intro D' h' F' N' l1; (try k_lt l1); (try k_sweep))) | ((with_reducible show wpAny _ _ (eval (.Name _ _) _) _ _ _); first | (refine' nameX_C ?zkf ?zkv ?zkw ?zkx ?_ ?zka ?zkb ?zkc; (case zka => exact rfl); (case zkb => exact rfl); (case zkf => assumption); (case zkv => exact rfl); (case zkw => k_mem); (case zkx => assumption); (case zkc => decide)) | (refine' nameX_L ?zf ?zv ?_; (case zf => assumption); (case zv => (repeat' first | assumption | exact if_pos rfl | refine (if_neg (by decide)).trans ?_)))) | ((with_reducible show wpAny _ _ (binaryOp .FloorDiv (.int _ _) (.int _ _)) _ _ _); refine floordiv_int (by first | lia | omega) ?_ (Or.inl (PyProof.noPylong_small (by first | lia | omega)))) | walk1)
      refine add2 (dp := 450) (un := 4500) F hD2 hD' (by simp) hvne (by rw [sizeLine_eq]; simp; lia) rfl (Nat.le_of_ble_eq_true rfl) (Nat.le_of_ble_eq_true rfl) fun s₅ F₅ M₅ G₅ h₅ => ?_
      have lt₅ := H₁.own
      have H₁ := H₁.trip F₅ (fun p hp => ⟨M₅.heap _ _ (H₁.news p hp).2.1 (H₁.news p hp).1, (H₁.news p hp).2⟩) M₅ G₅
      have Lv₁ := Lv₁.tripO ap₁ (.inl rfl) M₅ F₅
      have Lv₂ := Lv₂.tripO ap₃ (.inl (.inl rfl)) M₅ F₅
      intro l kk pp hkk
      refine H₁.yield ⟨_, _, rfl, ?_, h₅, .cons _ _ hI⟩ ?_ fun s₆ ag H' => ?_
      · cases e : hb.get? s₄.heap.objs.size with
        | none => rfl
        | some o => exact absurd (Heap.lt_size (F.keep _ _ e)) (Nat.lt_irrefl _)
      · intro D3 e q
        cases e
        exact absurd (lt₅ _ q).2 (Nat.lt_irrefl _)
      have Lv₁ := Lv₁.agreeO (fun b q => .inl (.inr q)) (fun i q => .inl (.inr q)) ag
      have Lv₂ := Lv₂.agreeO (fun b q => .inr q) (fun i q => .inr q) ag
      refine hkk _ _ _ (x_nil (x_again rfl ?_))
      exact IH₂ (ys₂, own₃, gown₃) _ _ _ _ (Nat.lt_succ_self _) ⟨m', H', ap₃, Lv₂, Lv₁, ht, hcf, hx0, fun y hy => hlen y (.tail _ hy)⟩

/-- the items of a list: tuples of ints -/
inductive RowsAt (h : Heap) : List Value → List (List Int) → Prop
  | nil : RowsAt h [] []
  | cons {D : Addr} {ws : List Value} {r : List Int} {vs : List Value} {rs : List (List Int)} : h.get? D = some (tupObj ws) → IntsAre ws r → RowsAt h vs rs → RowsAt h (.ref D :: vs) (r :: rs)
theorem RowsAt.keep {h h' : Heap} {vs : List Value} {rs : List (List Int)} (x : RowsAt h vs rs) (k : ∀ D o, Value.ref D ∈ vs → h.get? D = some o → h'.get? D = some o) : RowsAt h' vs rs := by
  induction x with
  | nil => exact .nil
  | cons hd hi _ ih => exact .cons (k _ _ (.head _) hd) hi (ih fun D o hm e => k D o (.tail _ hm) e)
theorem RowsAt.snoc {h : Heap} {vs : List Value} {rs : List (List Int)} (x : RowsAt h vs rs) {D : Addr} {ws : List Value} {r : List Int} (hd : h.get? D = some (tupObj ws)) (hi : IntsAre ws r) : RowsAt h (vs ++ [.ref D]) (rs ++ [r]) := by
  induction x with
  | nil => exact .cons hd hi .nil
  | cons hd' hi' _ ih => exact .cons hd' hi' ih
theorem RowsAt.len {h : Heap} {vs : List Value} {rs : List (List Int)} (x : RowsAt h vs rs) : vs.length = rs.length := by
  induction x with
  | nil => rfl
  | cons _ _ _ ih => simp [ih]
theorem RowsAt.lt {h : Heap} {vs : List Value} {rs : List (List Int)} (x : RowsAt h vs rs) : ∀ D, Value.ref D ∈ vs → ∃ ws, h.get? D = some (tupObj ws) := by
  induction x with
  | nil => intro D hm; cases hm
  | cons hd _ _ ih =>
    intro D hm
    rcases List.mem_cons.mp hm with e | hm
    · cases e; exact ⟨_, hd⟩
    · exact ih D hm

noncomputable abbrev lstObj (acc : Array Value) (c : Nat) : Obj := { cls := .type "list", dict := none, data := .seq acc c, slots := #[] }

theorem extend_loop2 {w : World} {A : Around} {hb : Heap} {dp un : Nat} (lim : hb.NoLimit) (h1 : A.in1.handled = none) (h2 : A.in1.depth ≤ dp) (h3 : A.in1.units + 1 ≤ un) (hroom : A.in1.depth < recursionLimit) {R : Result → Shared → Prop} {S a : Addr} {g : Nat} {res : Value} (hSa : S ≠ a) (hSb : hb.get? S = none) :
    ∀ (xs : List (List Int)) (own : Addr → Prop) (gown : Nat → Prop) (s : Shared) (acc : Array Value) (c : Nat) (done : List (List Int)), Live w hb dp un xs a g own gown s → ¬ own S → s.heap.get? S = some (lstObj acc c) → RowsAt s.heap acc.toList done →
      (∀ D, Value.ref D ∈ acc.toList → ¬ own D ∧ hb.get? D = none) → acc.size + xs.length ≤ sizeLine →
      (∀ s' acc' c', Moves (fun b => own b ∨ b = S) (fun i => gown i ∨ i = g) s s' → Tidy (fun i => gown i ∨ i = g) (fun _ => False) s s' → s'.heap.get? S = some (lstObj acc' c') → RowsAt s'.heap acc'.toList (done ++ xs) → (∀ D, Value.ref D ∈ acc'.toList → hb.get? D = none) →
        (∀ b o, hb.get? b = some o → s'.heap.get? b = some o) → R (.ok (.ret res)) s') →
      codeAny (MM w) A (.builtin "list.extend.loop" ⟨[.ref S, .ref a, res], []⟩) R s := by
  intro xs
  induction xs with
  | nil =>
    intro own gown s acc c done L hoS hS hR hap hn k
    refine codeAny_builtin2 (by decide) F.entry_extend_loop ?_
    rw [Around.under_plainId F.plain_extend_loop _]
    show wpAny _ A.in1 (pyNext (.ref a) >>= _) _ _ s
    refine wpAny_bind (next_end L lim h1 h2 h3 hroom fun s' M T hbase => ?_)
    refine wpAny_pure (k s' acc c (M.mono (fun _ q => .inl q) fun _ q => q) T (M.heap _ _ hoS hS) ?_ (fun D hm => (hap D hm).2) hbase)
    rw [List.append_nil]
    exact hR.keep fun D o hm e => M.heap D o (hap D hm).1 e
  | cons x xs ih =>
    intro own gown s acc c done L hoS hS hR hap hn k
    refine codeAny_builtin2 (by decide) F.entry_extend_loop ?_
    rw [Around.under_plainId F.plain_extend_loop _]
    show wpAny _ A.in1 (pyNext (.ref a) >>= _) _ _ s
    refine wpAny_bind (next_row L lim h1 h2 h3 hroom fun v s₂ own' gown' T => ?_)
    have hS' := T.moves.heap _ _ hoS hS
    refine ex2_4 (T.tup) ?_
    intro D ws hq1_ hD hD' hI
    obtain rfl := hq1_
    have hlist : ∀ E o, Value.ref E ∈ acc.toList → s.heap.get? E = some o → s₂.heap.get? E = some o := fun E o hm e => T.moves.heap E o (hap E hm).1 e
    have hR₂ := (hR.keep hlist).snoc hD' hI
    show wpAny _ A.in1 (updateSeq S (·.push (.ref D)) >>= _) _ _ _
    refine wpAny_bind ?_
    have hself := Heap.get?_update_self (Obj.mapSeq (·.push (.ref D))) hS' rfl
    have hoS' : ¬ own' S := fun q => by
      rcases T.own S q with z | z
      · exact hoS z
      · exact absurd (Heap.lt_size hS) (Nat.not_lt.mpr z)
    have hne : ∀ E, Value.ref E ∈ acc.toList ++ [.ref D] → E ≠ S ∧ ¬ own' E ∧ hb.get? E = none := by
      intro E hm
      rcases List.mem_append.mp hm with hm | hm
      · refine ⟨fun e => ?_, fun q => ?_, (hap E hm).2⟩
        · subst e
          refine ex1_1 (hR.lt _ hm) ?_
          intro ws' e'
          rw [hS] at e'; exact absurd (congrArg Obj.cls (Option.some.inj e')) (by simp)
        · refine ex1_1 (hR.lt _ hm) ?_
          intro ws' e'
          rcases T.own E q with z | z
          · exact (hap E hm).1 z
          · exact absurd (Heap.lt_size e') (Nat.not_lt.mpr z)
      · cases List.mem_singleton.mp hm
        exact ⟨fun e => by subst e; rw [hS'] at hD'; exact absurd (congrArg Obj.cls (Option.some.inj hD')) (by simp), T.apart D rfl, hD⟩
    have oth : ∀ b o, b ≠ S → s₂.heap.get? b = some o → (s₂.heap.update S (Obj.mapSeq (·.push (.ref D)))).get? b = some o := fun b o hb e => (Heap.get?_update_other _ _ (Ne.symm hb)).trans e
    have M₂ : Moves (fun b => b = S) (fun _ => False) s₂ { s₂ with heap := s₂.heap.update S (Obj.mapSeq (·.push (.ref D))) } := ⟨fun b o q e => oth b o q e, Nat.le_of_eq (by rw [update_size]), fun i z _ e => e, Nat.le_refl _, rfl⟩
    have hbase₂ : ∀ b o, hb.get? b = some o → (s₂.heap.update S (Obj.mapSeq (·.push (.ref D)))).get? b = some o := fun b o e => oth b o (fun q => by rw [q, hSb] at e; cases e) (T.live.base b o e)
    have L₂ := T.live.keepO (X := fun b => b = S) (Y := fun _ => False) (fun b q e => q.elim (fun z => hoS' (e ▸ z)) (fun z => hSa (e.symm.trans z))) (fun _ _ q => q) M₂ hbase₂
    refine wpAny_updateSeq hS' rfl (wpAny_pure (And.intro (plainId_quiet F.plain_extend_loop _) (ih own' gown' _ (acc.push (.ref D)) _ (done ++ [x]) L₂ hoS' hself ?_ ?_ ?_ fun s' acc' c' M T' hS'' hR' hfin hb' => ?_))) ?_ ?_
    · rw [Array.toList_push]
      exact hR₂.keep fun E o hm e => oth E o (hne E hm).1 e
    · intro E hm
      rw [Array.toList_push] at hm
      exact ⟨(hne E hm).2.1, (hne E hm).2.2⟩
    · rw [Array.size_push]; simp only [List.length_cons] at hn; (first | lia | omega)
    · refine k s' acc' c' ?_ ?_ hS'' (by rw [List.append_assoc] at hR'; exact hR') hfin hb'
      · have m1 : Moves (fun b => own b ∨ b = S) (fun i => gown i ∨ i = g) s s₂ := T.moves.mono (fun _ q => .inl q) fun _ q => q
        refine (m1.step M₂ (fun b q => .inl (.inr q)) fun i q => q.elim).step M (fun b q => ?_) fun i q => ?_
        · rcases q with q | q
          · exact (T.own b q).elim (fun z => .inl (.inl z)) .inr
          · exact .inl (.inr q)
        · rcases q with q | q
          · exact (T.gown i q).elim (fun z => .inl (.inl z)) .inr
          · exact .inl (.inr q)
      · exact (T.tidy.same rfl).trans T'
    · simp only [List.length_cons] at hn; (first | lia | omega)
    · show (acc.push (.ref D)).size ≤ sizeLine + 1
      rw [Array.size_push]; simp only [List.length_cons] at hn; (first | lia | omega)

/-- what a consumer holds when a generator was drawn to its end into the list S -/
structure Drawn (hb : Heap) (S : Addr) (own : Addr → Prop) (gown : Nat → Prop) (g : Nat) (rows : List (List Int)) (s s' : Shared) (acc : Array Value) (c : Nat) : Prop where
  moves : Moves (fun b => own b ∨ b = S) (fun i => gown i ∨ i = g) s s'
  tidy : Tidy (fun i => gown i ∨ i = g) (fun _ => False) s s'
  lst : s'.heap.get? S = some (lstObj acc c)
  rows : RowsAt s'.heap acc.toList rows
  fresh : ∀ D, Value.ref D ∈ acc.toList → hb.get? D = none
  base : ∀ b o, hb.get? b = some o → s'.heap.get? b = some o

/-- a list that is touched before it grows keeps its items -/
theorem touched {M : Model} {A : Around} {E : Value → Shared → Prop} {s : Shared} {S : Addr} {c : Nat} {Q : Unit → Shared → Prop} (hS : s.heap.get? S = some (lstObj #[] c))
    (h : ∀ g e, (∀ b o, b ≠ S → s.heap.get? b = some o → g.get? b = some o) → g.get? S = some (lstObj #[] e) → g.objs.size = s.heap.objs.size → Q () { s with heap := g }) : wpAny M A (Builtin.List.listTouch (.ref S)) Q E s := by
  have one := Heap.get?_update_self (Obj.mapSeq (·.push Value.none)) hS rfl
  have two := Heap.get?_update_self (Obj.mapSeq (·.pop)) one rfl
  refine wpAny_bind (m := updateSeq S (·.push .none)) (wpAny_updateSeq hS rfl (wpAny_updateSeq (hz := by seq_fits) one rfl ?_))
  refine h _ _ (fun b o hb q => ?_) two (by rw [update_size, update_size])
  rw [Heap.get?_update_other _ _ (Ne.symm hb), Heap.get?_update_other _ _ (Ne.symm hb)]
  exact q
theorem extend2 {w : World} {A : Around} {hb : Heap} {dp un : Nat} (lim : hb.NoLimit) (h1 : A.in1.handled = none) (h2 : A.in1.depth ≤ dp) (h3 : A.in1.units + 1 ≤ un) (hroom : A.in1.depth < recursionLimit) {R : Result → Shared → Prop} {S a : Addr} {g : Nat} {res : Value} (hSa : S ≠ a) (hSb : hb.get? S = none)
    {xs : List (List Int)} {own : Addr → Prop} {gown : Nat → Prop} {s : Shared} {c : Nat} (L : Live w hb dp un xs a g own gown s) (hoS : ¬ own S) (hS : s.heap.get? S = some (lstObj #[] c)) (hn : xs.length ≤ sizeLine)
    (k : ∀ s' acc' c', Drawn hb S own gown g xs s s' acc' c' → R (.ok (.ret res)) s') :
    wpAny (MM w) A.in1 (Builtin.List.listExtendWith (.ref S) (.ref a) res)
      (fun fin s' => match fin with | .done f => R (.ok f) s' | .again c' => c'.quiet = true ∧ codeAny (MM w) A c' R s') (fun e s' => R (.error e) s') s := by
  unfold Builtin.List.listExtendWith
  refine wpAny_bind (wpAny_typeOf L.obj.typeIs ?_)
  simp only [show Builtin.List.listSameRef (.ref S) (.ref a) = false by simp [Builtin.List.listSameRef, hSa], show (Value.type "generator" == Value.type "list") = false by decide, show (Value.type "generator" == Value.type "tuple") = false by decide, Bool.or_false, Bool.false_eq_true, if_false]
  refine wpAny_bind (pyIter2 L.obj (wpAny_bind (wpAny_holding ?_)))
  unfold Builtin.List.listLengthHint
  refine wpAny_bind (wpAny_specialOf L.obj.typeIs F.gen_no_len (wpAny_bind (m := specialOf (Value.ref a) (Str.ofString "__length_hint__")) (wpAny_specialOf L.obj.typeIs F.gen_no_hint (wpAny_pure ?_))))
  refine wpAny_bind (m := rule "list.extend.makes-room") (wpAny_rule (wpAny_bind (touched hS fun h₂ e oth hS₃ hsz => ?_)))
  have M₂ : Moves (fun b => b = S) (fun _ => False) s { s with heap := h₂ } := ⟨fun b o q e => oth b o q e, Nat.le_of_eq hsz.symm, fun _ _ _ e => e, Nat.le_refl _, rfl⟩
  have L₂ := L.keepO (X := fun b => b = S) (Y := fun _ => False) (fun b q e => q.elim (fun z => hoS (e ▸ z)) (fun z => hSa (e.symm.trans z))) (fun _ _ q => q) M₂ (fun b o e => oth b o (fun q => by rw [q, hSb] at e; cases e) (L.base b o e))
  refine wpAny_pure (And.intro (plainId_quiet F.plain_extend_loop _) (extend_loop2 (done := []) lim h1 h2 h3 hroom hSa hSb xs own gown _ _ _ L₂ hoS hS₃ .nil (fun D hm => by cases hm) (by simpa using hn) fun s' acc' c' M T hS' hR' hf hb' => ?_))
  exact k s' acc' c' ⟨(M₂.mono (own' := fun b => own b ∨ b = S) (gown' := fun i => gown i ∨ i = g) (fun _ q => .inr q) fun _ q => q.elim).trans M, (Tidy.same (Tidy.refl s) rfl).trans T, hS', hR', hf, hb'⟩

theorem collect2 {w : World} {A : Around} {hb : Heap} {dp un : Nat} (lim : hb.NoLimit) (h1 : A.handled = none) (h2 : A.depth ≤ dp) (h3 : A.units + 2 ≤ un) (hroom : A.depth < recursionLimit) {Q : List Value → Shared → Prop} {E : Value → Shared → Prop} {a : Addr} {g : Nat}
    {xs : List (List Int)} {own : Addr → Prop} {gown : Nat → Prop} {s : Shared} (L : Live w hb dp un xs a g own gown s) (hn : xs.length ≤ sizeLine) (hbs : hb.objs.size ≤ s.heap.objs.size)
    (k : ∀ s' acc' c', Drawn hb s.heap.objs.size own gown g xs s s' acc' c' → Q acc'.toList s') : wpAny (MM w) A (collect (.ref a)) Q E s := by
  refine ex3_2 (L.obj) ?_
  intro oa _ _ hoa _
  have hSa : s.heap.objs.size ≠ a := Nat.ne_of_gt (Heap.lt_size hoa)
  have hoS : ¬ own s.heap.objs.size := fun q => absurd (L.oub _ q) (Nat.lt_irrefl _)
  have hSb : hb.get? s.heap.objs.size = none := Heap.get?_none_of_le hbs
  unfold collect
  refine wpAny_bind (wpAny_runValue (codeAny_builtin2 (by decide) F.entry_proto_collect ?_))
  rw [Around.under_plainId F.plain_proto_collect _]
  show wpAny _ A.in1 (newList [] >>= fun l => again (.builtin "list.__iadd__" ⟨[l, .ref a], []⟩)) _ _ s
  refine wpAny_bind (wpAny_newObj_type ?_)
  refine wpAny_pure (And.intro (plainId_quiet F.plain_list_iadd _) (codeAny_builtin2 (by decide) F.entry_list_iadd ?_))
  rw [Around.under_plainId F.plain_list_iadd _]
  show wpAny _ A.in1 (Builtin.List.listExtendWith (.ref s.heap.objs.size) (.ref a) (.ref s.heap.objs.size)) _ _ _
  have hS₁ : (s.heap.push { cls := .type "list", data := .seq ([] : List Value).toArray }).get? s.heap.objs.size = some (lstObj #[] 0) := Heap.get?_push_size _ rfl
  have M₁ : Moves (fun _ => False) (fun _ => False) s { s with heap := s.heap.push { cls := .type "list", data := .seq ([] : List Value).toArray } } := ⟨fun b o _ e => Heap.get?_push_of_some _ e, by rw [Heap.size_push]; exact Nat.le_succ _, fun i z _ e => e, Nat.le_refl _, rfl⟩
  have L₁ := L.keepO (X := fun _ => False) (Y := fun _ => False) (fun _ _ q => q) (fun _ _ q => q) M₁ (fun b o e => Heap.get?_push_of_some _ (L.base b o e))
  have fin' : ∀ s' acc' c', Drawn hb s.heap.objs.size own gown g xs { s with heap := s.heap.push { cls := .type "list", data := .seq ([] : List Value).toArray } } s' acc' c' → wpAny (MM w) A (match Value.ref s.heap.objs.size with
      | Value.ref a => do
        match (← load a).data with
          | Data.seq xs _ => pure xs.toList
          | _ => unsupported "internal:collect"
      | _ => unsupported "internal:collect") Q E s' := by
    intro s' acc' c' d
    show wpAny _ A (load s.heap.objs.size >>= _) _ _ s'
    refine wpAny_bind (wpAny_load d.lst ?_)
    exact wpAny_pure (k s' acc' c' ⟨(M₁.mono (fun _ q => q.elim) fun _ q => q.elim).trans d.moves, (Tidy.same (Tidy.refl s) rfl).trans d.tidy, d.lst, d.rows, d.fresh, d.base⟩)
  refine wpAny_mono (extend2 (R := fun r s' => ∃ acc' c', r = .ok (.ret (.ref s.heap.objs.size)) ∧ Drawn hb s.heap.objs.size own gown g xs { s with heap := s.heap.push { cls := .type "list", data := .seq ([] : List Value).toArray } } s' acc' c') lim h1 h2 h3 hroom hSa hSb L₁ hoS hS₁ hn fun s' acc' c' d => ⟨acc', c', rfl, d⟩) (fun fin s' h => ?_) (fun e s' h => ?_)
  · cases fin with
    | done f =>
      refine ex2_2 (h) ?_
      clear h
      intro acc' c' e d
      cases e
      exact fin' s' acc' c' d
    | again c' => exact And.intro h.1 (codeAny_mono h.2 fun r s'' hr => by obtain ⟨acc', c', rfl, d⟩ := hr; exact fin' s'' acc' c' d)
  · obtain ⟨_, _, e, _⟩ := h; cases e

section
variable {w : World} {A : Around} {s : Shared} {R : Result → Shared → Prop} {E : Value → Shared → Prop}

/-- a code whose tree looks at the stack first -/
theorem code_stack {M : Model} {A : Around} {R : Result → Shared → Prop} {s : Shared} {c : Code} {k : List (Code × Pos) → Sem Fin} (ht : M.den c = stack >>= k)
    (h : ∀ p st, wpAny M (A.under c) (k ((c, p) :: st)) (fun fin s' => match fin with | .done f => R (.ok f) s' | .again c' => c'.quiet = true ∧ codeAny M A c' R s') (fun e s' => R (.error e) s') s) : codeAny M A c R s := by
  intro Γ p hc hΓ
  subst hc
  rw [wpCode_iff_wp, ht, show (stack >>= k : Sem Fin) = Sem.bind (Sem.stack Sem.pure) k from rfl, Sem.wp_bind, Sem.wp_stack]
  show Sem.wp M Γ (k ((Γ.code, p) :: Γ.below)) _ _ p s
  exact Sem.wp_mono M Γ _ (fun fin p' _ q => by
    cases fin
    · exact q
    · exact ⟨q.1, q.2 (Γ.goto _) p' rfl (hΓ.goto _)⟩) (fun _ _ _ q => q) p s (h p Γ.below Γ p hΓ.in)
theorem codeAny_builtin_stack2 {id : String} {args : Args} {b : Builtin} {k : List (Code × Pos) → Sem Fin} (hne : id ≠ "proto.yield_from") (hb : entryFor table id = some b) (hk : b args = stack >>= k)
    (h : ∀ p st, wpAny (MM w) (A.under (.builtin id args)) (k ((.builtin id args, p) :: st))
      (fun fin s' => match fin with | .done f => R (.ok f) s' | .again c' => c'.quiet = true ∧ codeAny (MM w) A c' R s') (fun e s' => R (.error e) s') s) : codeAny (MM w) A (.builtin id args) R s :=
  code_stack (((den2_builtin hne).trans (by show (match entryFor table id with | some x => x args | none => _) = _; rw [hb])).trans hk) h

theorem code_list_new2 (a : Value) {Q₁ : Value → Shared → Prop}
    (h : Q₁ (.ref s.heap.objs.size) { s with heap := s.heap.push { cls := .type "list", data := .seq #[] } }) :
    codeAny (MM w) A (.call (.builtin "list.__new__") ⟨[.type "list", a], []⟩) (wants Q₁ E) s := by
  refine codeAny_of_tree ?_
  show wpAny _ A.in1 (do checkBuiltinCall "list.__new__" ⟨[.type "list", a], []⟩; again (.builtin "list.__new__" ⟨[.type "list", a], []⟩)) _ _ s
  refine wpAny_bind (wpAny_of_eq (F.newCall_list_1 a) (wpAny_pure (And.intro (plainId_quiet F.plain_list_new _) (codeAny_builtin_stack2 (by decide) F.entry_list_new rfl fun p st => ?_))))
  rw [Around.under_plainId F.plain_list_new _]
  have hsub := sub_list_self
  have hown := owner_list_new
  obtain ⟨hp, g, d, tk, os⟩ := s
  simp only [hown]
  wp_walk
  exact h

/-- what a code that is wanted to return has done -/
theorem wants_by {Q E : Value → Shared → Prop} {r : Result} {s : Shared} {G : Prop} (h : wants Q E r s) (ret : ∀ v, r = .ok (.ret v) → Q v s → G) (err : ∀ x, r = .error x → E x s → G) : G := by
  cases r with
  | error x => exact err x rfl h
  | ok f => cases f <;> first | exact ret _ rfl h | exact h.elim
/-- a type called: __new__, then __init__ (which may resume generators) -/
theorem callType_codes2 {T newId initId : String} {Bi : Builtin} {args : List Value} {Q Q₁ : Value → Shared → Prop} (ft : TypeCalled T newId initId) (hne : initId ≠ "proto.yield_from")
    (hct : checkTypeCall T ⟨args, []⟩ = pure ()) (entryI : entryFor table initId = some Bi)
    (hnew : codeAny (MM w) A.in1 (.call (.builtin newId) ⟨.type T :: args, []⟩) (wants Q₁ E) s)
    (hnext : ∀ obj s₁, Q₁ obj s₁ → s₁.TypeIs obj T ∧ argsOk initId ⟨obj :: args, []⟩ ∧
      wpAny (MM w) A.in1.in1 (Bi ⟨obj :: args, []⟩)
        (fun fin s' => match fin with | .done f => wants (fun r s₂ => r = .none ∧ Q obj s₂) E (.ok f) s' | .again c' => c'.quiet = true ∧ codeAny (MM w) A.in1 c' (wants (fun r s₂ => r = .none ∧ Q obj s₂) E) s')
        (fun e s' => wants (fun r s₂ => r = .none ∧ Q obj s₂) E (.error e) s') s₁) :
    wpAny (MM w) A (call (.type T) args) Q E s := by
  refine ft.mro.elim fun c q => q.elim fun tl mro => ?_
  have facts := And.intro ft.made (And.intro ft.sub (And.intro ft.notType ft.canCreate))
  refine ex0_4 facts ?_
  intro f1 f2 f3 f4
  clear facts
  refine wpAny_call (codeAny_of_tree (wpAny_pure ⟨Code.quiet_builtin _ (by decide +kernel), codeAny_builtin2 (by decide) F.entry_type_call ?_⟩))
  rw [Around.under_plain (weight_type_call_type T args []) rfl]
  repeat (any_goals (first | assumption | wp_step))
  refine codeAny_mono hnew fun r s₁ hr => wants_by hr (fun obj e q => ?_) fun x e q => ?_ <;> subst e
  · refine ex0_3 (hnext obj s₁ q) ?_
    intro isT ok run
    have look := ft.init.lookup
    have bound := ft.init.bind obj
    repeat (any_goals (first | assumption | wp_step))
    refine codeAny_mono (codeAny_call_builtin2 ft.init.plain hne entryI (ft.init.check _ _ _ _ _ _ _ _ isT ok run)) fun r₂ s₂ hr₂ => wants_by hr₂ (fun v e q => ?_) fun x e q => ?_ <;> subst e
    · refine ex0_2 q ?_
      intro v0 q
      subst v0
      repeat (any_goals (first | assumption | wp_step))
    · exact q
  · exact q
end

theorem list_gen2 {w : World} {A : Around} {hb : Heap} {dp un : Nat} (lim : hb.NoLimit) (h1 : A.handled = none) (h2 : A.depth ≤ dp) (h3 : A.units + 3 ≤ un) (hroom : A.depth < recursionLimit) {Q : Value → Shared → Prop} {E : Value → Shared → Prop} {a : Addr} {g : Nat}
    {xs : List (List Int)} {own : Addr → Prop} {gown : Nat → Prop} {s : Shared} (L : Live w hb dp un xs a g own gown s) (hn : xs.length ≤ sizeLine) (hbs : hb.objs.size ≤ s.heap.objs.size)
    (k : ∀ s' acc' c', Drawn hb s.heap.objs.size own gown g xs s s' acc' c' → Q (.ref s.heap.objs.size) s') : wpAny (MM w) A (call (.type "list") [.ref a]) Q E s := by
  refine ex3_2 (L.obj) ?_
  intro oa _ _ hoa _
  have hSa : s.heap.objs.size ≠ a := Nat.ne_of_gt (Heap.lt_size hoa)
  have hoS : ¬ own s.heap.objs.size := fun q => absurd (L.oub _ q) (Nat.lt_irrefl _)
  have hSb : hb.get? s.heap.objs.size = none := Heap.get?_none_of_le hbs
  refine callType_codes2 (Q₁ := fun obj s₁ => obj = .ref s.heap.objs.size ∧ s₁ = { s with heap := s.heap.push { cls := .type "list", data := .seq #[] } }) F.called_list (by decide) (F.typeCall_list_1 _) F.entry_list_init
    (code_list_new2 _ ⟨rfl, rfl⟩) fun obj s₁ h₁ => ?_
  refine ex0_2 (h₁) ?_
  clear h₁
  intro hq2_ hq3_
  obtain rfl := hq2_
  obtain rfl := hq3_
  have hS₁ : (s.heap.push { cls := .type "list", data := .seq #[] }).get? s.heap.objs.size = some (lstObj #[] 0) := Heap.get?_push_size _ rfl
  refine ⟨⟨_, hS₁, rfl⟩, F.args_list_init_2 _ _, ?_⟩
  have M₁ : Moves (fun b => b = s.heap.objs.size) (fun _ => False) s { s with heap := s.heap.push { cls := .type "list", data := .seq #[] } } := ⟨fun b o _ e => Heap.get?_push_of_some _ e, by rw [Heap.size_push]; exact Nat.le_succ _, fun i z _ e => e, Nat.le_refl _, rfl⟩
  show wpAny _ A.in1.in1 (do let old ← Builtin.List.listItems (.ref s.heap.objs.size); Builtin.List.listUpdate (.ref s.heap.objs.size) (fun _ => #[]); letGo old.toList.reverse; Builtin.List.listExtendWith (.ref s.heap.objs.size) (.ref a) .none) _ _ _
  refine wpAny_bind ?_
  unfold Builtin.List.listItems
  refine wpAny_bind (wpAny_seqItems hS₁ rfl (wpAny_pure ?_))
  show wpAny _ A.in1.in1 (updateSeq s.heap.objs.size (fun _ => #[]) >>= fun _ => letGo (#[] : Array Value).toList.reverse >>= fun _ => Builtin.List.listExtendWith (.ref s.heap.objs.size) (.ref a) .none) _ _ _
  refine wpAny_bind (wpAny_updateSeq hS₁ rfl ?_)
  have hS₂ := Heap.get?_update_self (Obj.mapSeq (fun _ => (#[] : Array Value))) hS₁ rfl
  refine wpAny_bind (wpAny_letGo ?_)
  have M₂ : Moves (fun b => b = s.heap.objs.size) (fun _ => False) { s with heap := s.heap.push { cls := .type "list", data := .seq #[] } } { s with heap := (s.heap.push { cls := .type "list", data := .seq #[] }).update s.heap.objs.size (Obj.mapSeq (fun _ => (#[] : Array Value))) } :=
    ⟨fun b o q e => (Heap.get?_update_other _ _ (Ne.symm q)).trans e, Nat.le_of_eq (by rw [update_size]), fun i z _ e => e, Nat.le_refl _, rfl⟩
  have M := M₁.trans M₂
  have L₂ := L.keepO (X := fun b => b = s.heap.objs.size) (Y := fun _ => False) (fun b q e => q.elim (fun z => hoS (e ▸ z)) (fun z => hSa (e.symm.trans z))) (fun _ _ q => q) M (fun b o e => M.heap b o (fun q => by rw [q, hSb] at e; cases e) (L.base b o e))
  refine wpAny_mono (extend2 (R := fun r s' => ∃ acc' c', r = .ok (.ret .none) ∧ Drawn hb s.heap.objs.size own gown g xs { s with heap := (s.heap.push { cls := .type "list", data := .seq #[] }).update s.heap.objs.size (Obj.mapSeq (fun _ => (#[] : Array Value))) } s' acc' c') (A := A.in1) lim h1 h2 h3 hroom hSa hSb L₂ hoS hS₂ hn fun s' acc' c' d => ⟨acc', c', rfl, d⟩) (fun fin s' h => ?_) (fun e s' h => ?_)
  · have fin' : ∀ s' acc' c', Drawn hb s.heap.objs.size own gown g xs { s with heap := (s.heap.push { cls := .type "list", data := .seq #[] }).update s.heap.objs.size (Obj.mapSeq (fun _ => (#[] : Array Value))) } s' acc' c' → Q (.ref s.heap.objs.size) s' := fun s' acc' c' d =>
      k s' acc' c' ⟨(M.mono (fun _ q => .inr q) fun _ q => q.elim).trans d.moves, (Tidy.same (Tidy.refl s) rfl).trans d.tidy, d.lst, d.rows, d.fresh, d.base⟩
    cases fin with
    | done f =>
      refine ex2_2 (h) ?_
      clear h
      intro acc' c' e d
      cases e
      exact ⟨rfl, fin' s' acc' c' d⟩
    | again c' => exact And.intro h.1 (codeAny_mono h.2 fun r s'' hr => by obtain ⟨acc', c', rfl, d⟩ := hr; exact ⟨rfl, fin' s'' acc' c' d⟩)
  · obtain ⟨_, _, e, _⟩ := h; cases e

/-- a sort's tree of questions, answered -/
noncomputable def krun {α : Type} (lt : Nat → Nat → Bool) : KasT α → α
  | .ret a => a
  | .ask i j k => krun lt (k (lt i j))
theorem krun_bind {α β : Type} (lt : Nat → Nat → Bool) (f : α → KasT β) : ∀ t : KasT α, krun lt (t.bind f) = krun lt (f (krun lt t))
  | .ret _ => rfl
  | .ask i j k => by
    show krun lt ((k (lt i j)).bind f) = _
    rw [krun_bind lt f (k (lt i j))]; rfl

/-- the questions answered in the model, where an answer leaves all as it was but for what I tells -/
theorem krun_wp {α : Type} {cmp : Nat → Nat → (Bool → Shared → Prop) → Shared → Prop} {lt : Nat → Nat → Bool} {I : Shared → Prop} (hc : ∀ i j s (C : Bool → Shared → Prop), I s → (∀ s', I s' → C (lt i j) s') → cmp i j C s) {Q : α → Shared → Prop} :
    ∀ (t : KasT α) (s : Shared), I s → (∀ s', I s' → Q (krun lt t) s') → t.kasWp cmp Q s
  | .ret a, s, hs, h => h s hs
  | .ask i j k, s, hs, h => hc i j s _ hs fun s' hs' => krun_wp hc (k (lt i j)) s' hs' h

structure KOrd (n : Nat) (lt : Nat → Nat → Bool) : Prop where
  total : ∀ i j, i < n → j < n → i ≠ j → lt i j = false → lt j i = true
  trans : ∀ i j k, i < n → j < n → k < n → lt i j = true → lt j k = true → lt i k = true
  asymm : ∀ i j, i < n → j < n → lt i j = true → lt j i = false

structure KGood (n : Nat) (p : Array Nat) : Prop where
  perm : p.toList.Perm (List.range n)

section
variable {n : Nat} {lt : Nat → Nat → Bool} {p : Array Nat}
theorem KGood.size (h : KGood n p) : p.size = n := by have := h.perm.length_eq; simpa using this
theorem KGood.nodup (h : KGood n p) : p.toList.Nodup := h.perm.nodup_iff.mpr List.nodup_range
theorem getD_of {i : Nat} (h : i < p.size) : p.getD i 0 = p[i] := by simp [Array.getD, h]
theorem KGood.below (h : KGood n p) {i : Nat} (hi : i < n) : p.getD i 0 < n := by
  have hs := h.size
  rw [getD_of (by lia)]
  have : p[i]'(by lia) ∈ List.range n := h.perm.mem_iff.mp (by simp)
  simpa using this
theorem KGood.ne (h : KGood n p) {i j : Nat} (hi : i < n) (hj : j < n) (hij : i ≠ j) : p.getD i 0 ≠ p.getD j 0 := by
  have hs := h.size
  rw [getD_of (by lia), getD_of (by lia)]
  intro e
  have := (List.getElem_inj (xs := p.toList) (i := i) (j := j) (h₀ := by simp; lia) (h₁ := by simp; lia) h.nodup).mp (by simpa using e)
  exact hij this
theorem KGood.of_perm (h : KGood n p) {q : Array Nat} (hq : q.Perm p) : KGood n q := ⟨(Array.perm_iff_toList_perm.mp hq).trans h.perm⟩

noncomputable def Asc (lt : Nat → Nat → Bool) (p : Array Nat) (m : Nat) : Prop := ∀ i j, i < j → j < m → lt (p.getD i 0) (p.getD j 0) = true

theorem asc_of_next (O : KOrd n lt) (G : KGood n p) {m : Nat} (hm : m ≤ n) (h : ∀ k, 1 ≤ k → k < m → lt (p.getD (k - 1) 0) (p.getD k 0) = true) : Asc lt p m := by
  intro i j hij hj
  induction j with
  | zero => lia
  | succ j ih =>
    have s := h (j + 1) (by lia) hj
    simp only [Nat.add_sub_cancel] at s
    by_cases e : i = j
    · subst e; exact s
    · exact O.trans _ _ _ (G.below (by lia)) (G.below (by lia)) (G.below (by exact Nat.lt_of_lt_of_le (by assumption) (by assumption))) (ih (by lia) (by exact Nat.le_of_lt (by assumption))) s

theorem asc_run (O : KOrd n lt) (G : KGood n p) : ∀ (f m0 : Nat), 1 ≤ m0 → m0 + f ≤ n → m0 ≤ krun lt (kas_asc p f m0) ∧ krun lt (kas_asc p f m0) ≤ m0 + f ∧
    (∀ k, m0 ≤ k → k < krun lt (kas_asc p f m0) → lt (p.getD (k - 1) 0) (p.getD k 0) = true) ∧
    (krun lt (kas_asc p f m0) < m0 + f → lt (p.getD (krun lt (kas_asc p f m0)) 0) (p.getD (krun lt (kas_asc p f m0) - 1) 0) = true) := by
  intro f
  induction f with
  | zero => intro m0 h1 h2; exact ⟨Nat.le_refl _, Nat.le_refl _, fun k a b => absurd b (Nat.not_lt.mpr a), fun h => absurd h (Nat.lt_irrefl _)⟩
  | succ f ih =>
    intro m0 h1 h2
    cases hc : lt (p.getD m0 0) (p.getD (m0 - 1) 0) with
    | true =>
      have e : krun lt (kas_asc p (f + 1) m0) = m0 := by
        show krun lt (if lt (p.getD m0 0) (p.getD (m0 - 1) 0) = true then .ret m0 else _) = _
        rw [if_pos hc]; rfl
      rw [e]
      exact ⟨Nat.le_refl _, by lia, fun k a b => absurd b (Nat.not_lt.mpr a), fun _ => hc⟩
    | false =>
      have e : krun lt (kas_asc p (f + 1) m0) = krun lt (kas_asc p f (m0 + 1)) := by
        show krun lt (if lt (p.getD m0 0) (p.getD (m0 - 1) 0) = true then .ret m0 else kas_asc p f (m0 + 1)) = _
        rw [if_neg (by rw [hc]; exact Bool.false_ne_true)]
      rw [e]
      refine ex0_4 (ih (m0 + 1) (by lia) (by lia)) ?_
      intro a b c d
      refine ⟨by exact Nat.le_of_lt (by assumption), by lia, fun k hk hk2 => ?_, fun hl => d (by lia)⟩
      by_cases q : k = m0
      · subst q
        exact O.total _ _ (G.below (by (clear hk2 hk d c b a e hc h1 ih G O; lia))) (G.below (by lia)) (G.ne (by lia) (by lia) (by (clear hk2 hk d c b a e hc h2 ih G O; omega))) hc
      · exact c k (by lia) hk2

theorem getD_eq {a b : Array Nat} {i j : Nat} (h : a[i]? = b[j]?) : a.getD i 0 = b.getD j 0 := by
  rw [Array.getD_eq_getD_getElem?, Array.getD_eq_getD_getElem?, h]
theorem rev_getD {m : Nat} (hm : m ≤ p.size) (k : Nat) : (kas_rev p 0 m).getD k 0 = if k < m then p.getD (m - 1 - k) 0 else p.getD k 0 := by
  have e := getElem?_mirror_all (xs := p) (i := 0) hm k
  split
  · rename_i h
    rw [if_pos ⟨Nat.zero_le _, h⟩] at e
    refine getD_eq (e.trans (by congr 1; lia))
  · rename_i h
    rw [if_neg (fun q => h q.2)] at e
    exact getD_eq e

/-- strictly falling up to m -/
noncomputable def Dsc (lt : Nat → Nat → Bool) (p : Array Nat) (m : Nat) : Prop := ∀ k, 1 ≤ k → k < m → lt (p.getD k 0) (p.getD (k - 1) 0) = true

theorem desc_run (O : KOrd n lt) (G : KGood n p) : ∀ (f m : Nat), 1 ≤ m → m + f ≤ n → Dsc lt p m → ∃ m', krun lt (kas_desc f p m 0) = (p, m', 0) ∧ m ≤ m' ∧ m' ≤ m + f ∧ Dsc lt p m' := by
  intro f
  induction f with
  | zero => intro m h1 h2 D; exact ⟨m, rfl, Nat.le_refl _, Nat.le_refl _, D⟩
  | succ f ih =>
    intro m h1 h2 D
    cases hc : lt (p.getD m 0) (p.getD (m - 1) 0) with
    | true =>
      obtain ⟨m', e, a, b, d⟩ := ih (m + 1) (by lia) (by lia) (fun k hk hk2 => by
        by_cases q : k = m
        · subst q; exact hc
        · exact D k hk (by lia))
      refine ⟨m', ?_, by exact Nat.le_of_lt (by assumption), by lia, d⟩
      show krun lt (if lt (p.getD m 0) (p.getD (m - 1) 0) = true then (if 0 > 0 then _ else kas_desc f p (m + 1) 0) else _) = _
      rw [if_pos hc, if_neg (Nat.lt_irrefl 0)]; exact e
    | false =>
      refine ⟨m, ?_, Nat.le_refl _, by lia, D⟩
      have hd := O.total _ _ (G.below (by lia)) (G.below (by lia)) (G.ne (by lia) (by lia) (by lia)) hc
      show krun lt (if lt (p.getD m 0) (p.getD (m - 1) 0) = true then _ else .ask (p.getD (m - 1) 0) (p.getD m 0) fun d => if d = true then .ret (p, m, 0) else _) = _
      rw [if_neg (by rw [hc]; exact Bool.false_ne_true)]
      show krun lt (if lt (p.getD (m - 1) 0) (p.getD m 0) = true then .ret (p, m, 0) else _) = _
      rw [if_pos hd]; rfl

theorem count_run (O : KOrd n lt) (G : KGood n p) (hn : 1 ≤ n) : ∃ m q, krun lt (kas_count n p) = (m, q) ∧ KGood n q ∧ 1 ≤ m ∧ m ≤ n ∧ Asc lt q m := by
  refine ex0_4 (asc_run O G (n - 1) 1 (Nat.le_refl _) (by omega)) ?_
  intro a b c d
  have C := asc_of_next (m := krun lt (kas_asc p (n - 1) 1)) O G (by lia) c
  unfold kas_count
  rw [krun_bind]
  generalize krun lt (kas_asc p (n - 1) 1) = m at *
  by_cases h1 : m = n
  · rw [if_pos (by simpa using h1)]
    exact ⟨m, p, rfl, G, a, by lia, C⟩
  rw [if_neg (by simpa using h1)]
  by_cases h2 : m > 1
  · rw [if_pos h2]
    refine ⟨m, p, ?_, G, a, by (clear h2 C d c a G O; lia), C⟩
    show krun lt (if lt (p.getD 0 0) (p.getD (m - 1) 0) = true then .ret (m, p) else _) = _
    rw [if_pos (C 0 (m - 1) (by (clear h1 C d c b a hn G O; omega)) (by (clear h1 C d c b a hn G O; omega)))]; rfl
  · rw [if_neg h2]
    have hm : m = 1 := by lia
    subst hm
    have d1 := d (by (clear h2 C d c b a G O; lia))
    unfold kas_descPart
    rw [krun_bind]
    obtain ⟨m', e, a', b', D⟩ := desc_run O G (n - (1 + 1)) 2 (by exact Nat.le_succ_of_le (by assumption)) (by lia) (fun k hk hk2 => by
      have : k = 1 := by lia
      subst this; exact d1)
    rw [show (1 + 1) = 2 from rfl] at *
    rw [e]
    dsimp only
    rw [if_neg (Nat.lt_irrefl 0)]
    have hs := G.size
    have G' : KGood n (kas_rev p 0 m') := G.of_perm (mirror_perm _ _ _ _)
    unfold kas_tail3
    rw [krun_bind]
    refine ex0_4 (asc_run O G' (n - m') m' (by exact Nat.le_of_lt (by assumption)) (by (clear G' D a' e d1 h2 C d c b a G O; lia))) ?_
    intro a2 b2 c2 _
    refine ⟨_, _, rfl, G', by lia, by (clear c2 a2 G' D a' e d1 h2 C d c b a G O; lia), asc_of_next O G' (by lia) fun k hk hk2 => ?_⟩
    by_cases q : k < m'
    · rw [rev_getD (by (clear q hk2 hk c2 b2 a2 G' D a' e d1 h2 C d c b a G O; lia)), rev_getD (by lia), if_pos (by (clear hk2 c2 b2 a2 G' hs D b' a' e d1 h2 h1 C d c b a hn G O; omega)), if_pos q]
      have := D (m' - 1 - (k - 1)) (by (clear hk2 c2 b2 a2 G' hs D b' a' e d1 h2 h1 C d c b a hn G O; omega)) (by (clear q hk2 hk c2 b2 a2 G' hs D b' e d1 h2 h1 C d c b a hn G O; omega))
      rw [show m' - 1 - (k - 1) - 1 = m' - 1 - k by lia] at this
      exact this
    · exact c2 k (by lia) hk2

theorem place_run (O : KOrd n lt) (G : KGood n p) {k : Nat} (hk : k < n) (A : Asc lt p k) : ∀ (f l r : Nat), r - l ≤ f → l ≤ r → r ≤ k → (∀ i, i < l → lt (p.getD i 0) (p.getD k 0) = true) → (∀ i, r ≤ i → i < k → lt (p.getD k 0) (p.getD i 0) = true) →
    krun lt (kas_place p k f l r) ≤ k ∧ (∀ i, i < krun lt (kas_place p k f l r) → lt (p.getD i 0) (p.getD k 0) = true) ∧ (∀ i, krun lt (kas_place p k f l r) ≤ i → i < k → lt (p.getD k 0) (p.getD i 0) = true) := by
  intro f
  induction f with
  | zero =>
    intro l r h1 h2 h3 hl hr
    have : l = r := by lia
    subst this
    exact ⟨h3, hl, hr⟩
  | succ f ih =>
    intro l r h1 h2 h3 hl hr
    by_cases hg : l ≥ r
    · have e : krun lt (kas_place p k (f + 1) l r) = l := by
        show krun lt (if l ≥ r then .ret l else _) = _
        rw [if_pos hg]; rfl
      have : l = r := by lia
      subst this
      rw [e]; exact ⟨h3, hl, hr⟩
    · cases hc : lt (p.getD k 0) (p.getD ((l + r) / 2) 0) with
      | true =>
        have e : krun lt (kas_place p k (f + 1) l r) = krun lt (kas_place p k f l ((l + r) / 2)) := by
          show krun lt (if l ≥ r then .ret l else .ask (p.getD k 0) (p.getD ((l + r) / 2) 0) fun c => if c = true then kas_place p k f l ((l + r) / 2) else kas_place p k f ((l + r) / 2 + 1) r) = _
          rw [if_neg hg]
          show krun lt (if lt (p.getD k 0) (p.getD ((l + r) / 2) 0) = true then _ else _) = _
          rw [if_pos hc]
        rw [e]
        refine ih _ _ (by (clear e hc hr hl h3 h2 ih A hk G O; omega)) (by lia) (by (clear e hc hr hl h2 h1 ih A hk G O; lia)) hl fun i hi hi2 => ?_
        by_cases q : i = (l + r) / 2
        · subst q; exact hc
        · exact O.trans _ _ _ (G.below (by omega)) (G.below (by (clear q e hc hg hr hl h3 h2 h1 ih A G O; omega))) (G.below (by exact Nat.lt_trans (by assumption) (by assumption))) hc (A _ _ (by lia) hi2)
      | false =>
        have e : krun lt (kas_place p k (f + 1) l r) = krun lt (kas_place p k f ((l + r) / 2 + 1) r) := by
          show krun lt (if l ≥ r then .ret l else .ask (p.getD k 0) (p.getD ((l + r) / 2) 0) fun c => if c = true then kas_place p k f l ((l + r) / 2) else kas_place p k f ((l + r) / 2 + 1) r) = _
          rw [if_neg hg]
          show krun lt (if lt (p.getD k 0) (p.getD ((l + r) / 2) 0) = true then _ else _) = _
          rw [if_neg (by rw [hc]; exact Bool.false_ne_true)]
        rw [e]
        have hd := O.total _ _ (G.below (by omega)) (G.below (by lia)) (G.ne (by omega) (by lia) (by (clear e hc hr hl h2 h1 ih A hk G O; lia))) hc
        refine ih _ _ (by (clear hd e hc hr hl h3 h2 ih A hk G O; omega)) (by lia) (by omega) (fun i hi => ?_) hr
        by_cases q : i = (l + r) / 2
        · subst q; exact hd
        · exact O.trans _ _ _ (G.below (by (clear hd e hc hr hl h2 h1 ih A G O; lia))) (G.below (by lia)) (G.below (by omega)) (A _ _ (by lia) (by (clear q hi hd e hc hr hl h2 h1 ih A hk G O; lia))) hd

theorem bubble_getD {src d : Nat} (hs : src < p.size) (hd : d ≤ src) (k : Nat) : (bubble p src d).getD k 0 = if k = src - d then p.getD src 0 else if src - d < k ∧ k ≤ src then p.getD (k - 1) 0 else p.getD k 0 := by
  have e := getElem?_bubble hs d hd k
  split at e
  · rename_i h; rw [if_pos h]; exact getD_eq e
  · rename_i h
    rw [if_neg h]
    split at e
    · rename_i h2; rw [if_pos h2]; exact getD_eq e
    · rename_i h2; rw [if_neg h2]; exact getD_eq e

theorem bin_run (O : KOrd n lt) : ∀ (f : Nat) (p : Array Nat) (k : Nat), KGood n p → k + f = n → Asc lt p k → KGood n (krun lt (kas_bin f p k)) ∧ Asc lt (krun lt (kas_bin f p k)) n := by
  intro f
  induction f with
  | zero => intro p k G hk A; have : k = n := by omega
            subst this; exact ⟨G, A⟩
  | succ f ih =>
    intro p k G hk A
    have hs := G.size
    have hkn : k < n := by lia
    have e : krun lt (kas_bin (f + 1) p k) = krun lt (kas_bin f (bubble p k (k - krun lt (kas_place p k k 0 k))) (k + 1)) := by
      show krun lt ((kas_place p k k 0 k).bind fun l => kas_bin f (bubble p k (k - l)) (k + 1)) = _
      rw [krun_bind]
    rw [e]
    refine ex0_3 (place_run O G hkn A k 0 k (by lia) (Nat.zero_le _) (Nat.le_refl _) (fun i hi => absurd hi (Nat.not_lt_zero _)) (fun i hi hi2 => absurd hi2 (Nat.not_lt.mpr hi))) ?_
    intro h1 h2 h3
    generalize krun lt (kas_place p k k 0 k) = l at *
    refine ih _ _ (G.of_perm (bubble_perm _ _ _)) (by lia) fun i j hij hj => ?_
    rw [bubble_getD (by (clear hj hij h3 h2 h1 e hkn A G ih O; lia)) (by (clear hj hij h3 h2 h1 e hkn hs A hk G ih O; lia)), bubble_getD (by lia) (by lia), show k - (k - l) = l by (clear hj hij h3 h2 e hkn hs A hk G ih O; lia)]
    repeat' split
    all_goals first
      | (exfalso; (first | lia | omega))
      | exact h3 _ (by (first | lia | omega)) (by (first | lia | omega))
      | exact h2 _ (by (first | lia | omega))
      | exact A _ _ (by (first | lia | omega)) (by (first | lia | omega))

theorem sort_run (O : KOrd n lt) (hn : 1 ≤ n) : KGood n (krun lt (kas_sort n)) ∧ Asc lt (krun lt (kas_sort n)) n := by
  have G0 : KGood n (List.toArray (List.range n)) := ⟨by simp⟩
  refine ex2_5 (count_run O G0 hn) ?_
  intro m q e G h1 h2 A
  unfold kas_sort
  rw [krun_bind, e]
  by_cases h : m < n
  · rw [if_pos h, Nat.max_eq_left h1]
    exact bin_run O _ q m G (by (clear A h2 h1 G e G0 hn O; lia)) A
  · rw [if_neg h]
    have : m = n := by lia
    subst this
    exact ⟨G, A⟩
end

/-- what a tree asks for stands among the first n, and what it tells is Q -/
noncomputable def KB {α : Type} (n : Nat) (Q : α → Prop) : KasT α → Prop
  | .ret a => Q a
  | .ask i j k => i < n ∧ j < n ∧ ∀ b, KB n Q (k b)
theorem KB.bind {α β : Type} {n : Nat} {Q : α → Prop} {R : β → Prop} {f : α → KasT β} (hf : ∀ a, Q a → KB n R (f a)) : ∀ {t : KasT α}, KB n Q t → KB n R (t.bind f)
  | .ret a, h => hf a h
  | .ask _ _ _, h => ⟨h.1, h.2.1, fun b => KB.bind hf (h.2.2 b)⟩
theorem krun_wp2 {α : Type} {cmp : Nat → Nat → (Bool → Shared → Prop) → Shared → Prop} {lt : Nat → Nat → Bool} {n : Nat} {R : α → Prop} {I : Shared → Prop} (hc : ∀ i j s (C : Bool → Shared → Prop), i < n → j < n → I s → (∀ s', I s' → C (lt i j) s') → cmp i j C s) {Q : α → Shared → Prop} :
    ∀ (t : KasT α) (s : Shared), KB n R t → I s → (∀ s', I s' → Q (krun lt t) s') → t.kasWp cmp Q s
  | .ret a, s, _, hs, h => h s hs
  | .ask i j k, s, hb, hs, h => hc i j s _ hb.1 hb.2.1 hs fun s' hs' => krun_wp2 hc (k (lt i j)) s' (hb.2.2 _) hs' h

section
variable {n : Nat} {p : Array Nat}
theorem KGood.any (h : KGood n p) (hn : 1 ≤ n) (i : Nat) : p.getD i 0 < n := by
  by_cases hi : i < n
  · exact h.below hi
  · have := h.size
    rw [Array.getD_eq_getD_getElem?, Array.getElem?_eq_none (by lia)]
    exact hn
theorem kb_asc (G : KGood n p) (hn : 1 ≤ n) : ∀ f m, KB n (fun _ => True) (kas_asc p f m)
  | 0, _ => trivial
  | f + 1, m => ⟨G.any hn _, G.any hn _, fun b => by
    cases b
    · exact kb_asc G hn f (m + 1)
    · exact trivial⟩
theorem kb_desc (hn : 1 ≤ n) : ∀ f (p : Array Nat) m q, KGood n p → KB n (fun r : Array Nat × Nat × Nat => KGood n r.1) (kas_desc f p m q)
  | 0, p, _, _, G => G
  | f + 1, p, m, q, G => by
    refine ⟨G.any hn _, G.any hn _, fun b => ?_⟩
    cases b with
    | true =>
      show KB n _ (if q > 0 then _ else _)
      split
      · exact kb_desc hn f _ _ _ (G.of_perm (mirror_perm _ _ _ _))
      · exact kb_desc hn f _ _ _ G
    | false =>
      refine ⟨G.any hn _, G.any hn _, fun d => ?_⟩
      cases d
      · exact kb_desc hn f _ _ _ G
      · exact G
theorem kb_tail3 (G : KGood n p) (hn : 1 ≤ n) (m r : Nat) : KB n (fun x : Nat × Array Nat => KGood n x.2) (kas_tail3 m r p) := by
  unfold kas_tail3
  refine KB.bind (Q := fun _ => True) (fun a _ => ?_) (kb_asc (G.of_perm (mirror_perm _ _ _ _)) hn _ _)
  show KGood n _
  exact G.of_perm (mirror_perm _ _ _ _)
theorem kb_descPart (G : KGood n p) (hn : 1 ≤ n) (m r : Nat) : KB n (fun x : Nat × Array Nat => KGood n x.2) (kas_descPart m r p) := by
  unfold kas_descPart
  refine KB.bind (Q := fun r : Array Nat × Nat × Nat => KGood n r.1) (fun x hx => ?_) (kb_desc hn _ p _ _ G)
  split
  · exact kb_tail3 (KGood.of_perm hx (mirror_perm _ _ _ _)) hn _ _
  · exact kb_tail3 hx hn _ _
theorem kb_count (G : KGood n p) (hn : 1 ≤ n) (r : Nat) : KB n (fun x : Nat × Array Nat => KGood n x.2) (kas_count r p) := by
  unfold kas_count
  refine KB.bind (Q := fun _ => True) (fun m _ => ?_) (kb_asc G hn _ _)
  split
  · exact G
  · split
    · refine ⟨G.any hn _, G.any hn _, fun b => ?_⟩
      cases b
      · exact kb_descPart (G.of_perm (mirror_perm _ _ _ _)) hn _ _
      · exact G
    · exact kb_descPart G hn _ _
theorem kb_place (G : KGood n p) (hn : 1 ≤ n) (k : Nat) : ∀ f l r, KB n (fun _ => True) (kas_place p k f l r)
  | 0, _, _ => trivial
  | f + 1, l, r => by
    show KB n _ (if l ≥ r then _ else _)
    split
    · exact trivial
    · refine ⟨G.any hn _, G.any hn _, fun b => ?_⟩
      cases b
      · exact kb_place G hn k f _ _
      · exact kb_place G hn k f _ _
theorem kb_bin (hn : 1 ≤ n) : ∀ f (p : Array Nat) k, KGood n p → KB n (KGood n) (kas_bin f p k)
  | 0, _, _, G => G
  | f + 1, _, k, G => KB.bind (Q := fun _ => True) (fun _ _ => kb_bin hn f _ _ (G.of_perm (bubble_perm _ _ _))) (kb_place G hn k _ _ _)
theorem kb_sort (hn : 1 ≤ n) : KB n (KGood n) (kas_sort n) := by
  unfold kas_sort
  refine KB.bind (Q := fun x : Nat × Array Nat => KGood n x.2) (fun x hx => ?_) (kb_count (n := n) (p := List.toArray (List.range n)) ⟨by simp⟩ hn n)
  split
  · exact kb_bin hn _ _ _ hx
  · exact hx
end

noncomputable def rowLt : List Int → List Int → Bool
  | [], [] => false
  | [], _ :: _ => true
  | _ :: _, [] => false
  | a :: r, b :: q => if a = b then rowLt r q else decide (a < b)

section
variable {prog : Program} {w : World} {A : Around} {s : Shared} {Q : Bool → Shared → Prop}
theorem lex_rows {fin : Bool} (xs ys : List Value) (r q : List Int) (i : Nat) (hx : IntsAre xs r) : IntsAre ys q → r.length = q.length → (∀ b, b = rowLt r q → Q b s) → fin = false → KatLex prog w A true fin Q (xs.zip ys) i s := by
  intro hy hl h hf
  induction hx generalizing ys q i with
  | nil =>
    cases q with
    | nil => rw [ints_nil hy, hf]; exact kat_nil (h _ rfl)
    | cons => simp at hl
  | cons a t hx ih =>
    cases q with
    | nil => simp at hl
    | cons b q =>
    refine ex2_2 (ints_cons hy) ?_
    clear hy
    intro u ys' e hy
    subst e
    refine kat_cons (wpAny_eqBool_int ?_)
    by_cases e : a = b
    · subst e
      rw [show (a == a) = true from by simp]
      refine kat_yes (ih ys' q (i + 1) hy (by simpa using hl) (fun c hc => h c ?_))
      rw [hc]; simp [rowLt]
    · rw [show (a == b) = false from by simpa using e]
      have hq : Q (decide (a < b)) s := h _ (by simp [rowLt, e])
      refine kat_no ?_
      cases hi : (true && i == 0) with
      | true => exact oneLt_int hq
      | false => exact kat_one _ _ (PyProof.Rows.lt_int hq)
theorem key_lt {E : Value → Shared → Prop} {x y : Addr} {xs ys : List Value} {r q : List Int} (hx : s.heap.get? x = some (tupObj xs)) (hy : s.heap.get? y = some (tupObj ys)) (ix : IntsAre xs r) (iy : IntsAre ys q) (hl : r.length = q.length) (h : Q (rowLt r q) s) :
    wpAny (model prog w) A (keyLt' (tuples' true) (.ref x) (.ref y)) Q E s := by
  refine kat_lt hx rfl hy rfl (lex_rows _ _ r q 0 ix iy hl (fun b hb => hb ▸ h) ?_)
  have h1 := ints_len ix
  have h2 := ints_len iy
  simp; lia
end

theorem rowLt_total : ∀ (r q : List Int), r.length = q.length → r ≠ q → rowLt r q = false → rowLt q r = true
  | [], [], _, h, _ => absurd rfl h
  | [], _ :: _, h, _, _ => by simp at h
  | _ :: _, [], h, _, _ => by simp at h
  | a :: r, b :: q, h, hne, hl => by
    unfold rowLt at hl ⊢
    by_cases e : a = b
    · subst e
      rw [if_pos rfl] at hl ⊢
      exact rowLt_total r q (by simpa using h) (fun x => hne (by rw [x])) hl
    · rw [if_neg e] at hl
      rw [if_neg (Ne.symm e)]
      simp at hl ⊢; lia
theorem rowLt_asymm : ∀ (r q : List Int), rowLt r q = true → rowLt q r = false
  | [], [], _ => by simp [rowLt]
  | [], _ :: _, _ => rfl
  | _ :: _, [], h => by simp [rowLt] at h
  | a :: r, b :: q, h => by
    unfold rowLt at h ⊢
    by_cases e : a = b
    · subst e
      rw [if_pos rfl] at h ⊢
      exact rowLt_asymm r q h
    · rw [if_neg e] at h
      rw [if_neg (Ne.symm e)]
      simp at h ⊢; exact Int.le_of_lt (by assumption)
theorem rowLt_trans : ∀ (r q t : List Int), rowLt r q = true → rowLt q t = true → rowLt r t = true
  | [], [], _, h, _ => by simp [rowLt] at h
  | _ :: _, [], _, h, _ => by simp [rowLt] at h
  | [], _ :: _, [], _, h => by simp [rowLt] at h
  | [], _ :: _, _ :: _, _, _ => rfl
  | _ :: _, _ :: _, [], _, h => by simp [rowLt] at h
  | a :: r, b :: q, c :: t, h1, h2 => by
    unfold rowLt at h1 h2 ⊢
    by_cases e : a = b
    · subst e
      rw [if_pos rfl] at h1
      by_cases f : a = c
      · subst f
        rw [if_pos rfl] at h2 ⊢
        exact rowLt_trans r q t h1 h2
      · rw [if_neg f] at h2 ⊢; exact h2
    · rw [if_neg e] at h1
      by_cases f : b = c
      · subst f
        rw [if_neg e]; exact h1
      · rw [if_neg f] at h2
        simp at h1 h2
        rw [if_neg (by lia)]
        simp; lia
theorem rowLt_irrefl (r : List Int) : rowLt r r = false := by
  cases h : rowLt r r with
  | false => rfl
  | true => have := rowLt_asymm r r h; rw [h] at this; cases this

theorem RowsAt.get {h : Heap} {vs : List Value} {rs : List (List Int)} (x : RowsAt h vs rs) : ∀ {i : Nat}, i < rs.length → ∃ D ws, vs.getD i .none = .ref D ∧ Value.ref D ∈ vs ∧ h.get? D = some (tupObj ws) ∧ IntsAre ws (rs.getD i []) := by
  induction x with
  | nil => intro i hi; simp at hi
  | cons hd hi' _ ih =>
    intro i hi
    cases i with
    | zero => exact ⟨_, _, rfl, .head _, hd, hi'⟩
    | succ i =>
      refine ex2_4 (ih (i := i) (by simpa using hi)) ?_
      intro D ws a b c d
      exact ⟨D, ws, by simpa using a, .tail _ b, c, by simpa using d⟩
theorem RowsAt.pick {h : Heap} {vs : List Value} {rs : List (List Int)} (x : RowsAt h vs rs) : ∀ (l : List Nat), (∀ i ∈ l, i < rs.length) → RowsAt h (l.map fun i => vs.getD i .none) (l.map fun i => rs.getD i [])
  | [], _ => .nil
  | i :: l, hl => by
    refine ex2_4 (x.get (hl i (.head _))) ?_
    intro D ws a _ c d
    rw [List.map_cons, List.map_cons, a]
    exact .cons c d (x.pick l fun j hj => hl j (.tail _ hj))
theorem range_pick {α : Type} (l : List α) (d : α) : (List.range l.length).map (fun i => l.getD i d) = l := by
  apply List.ext_getElem (by simp)
  intro i h1 h2
  simp at h1
  simp [h1]

theorem rows_ord {rows : List (List Int)} {k : Nat} (hlen : ∀ r ∈ rows, r.length = k) (hnd : rows.Nodup) : KOrd rows.length (fun i j => rowLt (rows.getD i []) (rows.getD j [])) := by
  have mem : ∀ i, i < rows.length → rows.getD i [] ∈ rows := fun i hi => by simp [hi]
  refine ⟨fun i j hi hj hij h => rowLt_total _ _ ((hlen _ (mem i hi)).trans (hlen _ (mem j hj)).symm) (fun e => hij ?_) h, fun i j l _ _ _ h1 h2 => rowLt_trans _ _ _ h1 h2, fun i j _ _ h => rowLt_asymm _ _ h⟩
  simp only [List.getD_eq_getElem?_getD, List.getElem?_eq_getElem hi, List.getElem?_eq_getElem hj, Option.getD_some] at e
  exact (List.getElem_inj hnd).mp e

/-- the outcome of a sort, told as rows -/
theorem picked {rows : List (List Int)} {k : Nat} (hlen : ∀ r ∈ rows, r.length = k) (hnd : rows.Nodup) (hn : 1 ≤ rows.length) :
    let p := krun (fun i j => rowLt (rows.getD i []) (rows.getD j [])) (kas_sort rows.length)
    (∀ i ∈ p.toList, i < rows.length) ∧ (p.toList.map fun i => rows.getD i []).Perm rows ∧ (p.toList.map fun i => rows.getD i []).Pairwise (fun a b => rowLt a b = true) := by
  intro p
  refine ex0_2 (sort_run (rows_ord hlen hnd) hn) ?_
  intro G A
  refine ⟨fun i hi => by simpa using G.perm.mem_iff.mp hi, ?_, ?_⟩
  · have := G.perm.map (fun i => rows.getD i [])
    rw [range_pick] at this; exact this
  · rw [List.pairwise_map, List.pairwise_iff_getElem]
    intro i j hi hj hij
    have hs := G.size
    have hi' : i < p.size := by simpa using hi
    have hj' : j < p.size := by simpa using hj
    have := A i j hij (by rw [← hs]; exact hj')
    rw [getD_of hi', getD_of hj'] at this
    simpa using this

theorem RowsAt.firsts {h : Heap} {vs : List Value} {rs : List (List Int)} (x : RowsAt h vs rs) (hne : ∀ r ∈ rs, r ≠ []) : ∃ fs, KatTups h vs fs ∧ fs.length = vs.length ∧ ∀ v ∈ fs, ∃ (n : Int) (t : Tok), v = .int n t := by
  induction x with
  | nil => exact ⟨[], .nil, rfl, fun v hv => by cases hv⟩
  | cons hd hi _ ih =>
    refine ex1_3 (ih fun r hr => hne r (.tail _ hr)) ?_
    intro fs a b c
    cases hi with
    | nil => exact absurd rfl (hne [] (.head _))
    | cons n t hi =>
      refine ⟨.int n t :: fs, .cons hd rfl rfl (by simp) a, by simp [b], fun v hv => ?_⟩
      rcases List.mem_cons.mp hv with rfl | hv
      · exact ⟨n, t, rfl⟩
      · exact c v hv

theorem sort_rows {prog : Program} {w : World} {A : Around} {E : Value → Shared → Prop} {s : Shared} {hb : Heap} {L a : Addr} {m : Str → Option Value} {vs : List Value} {rows : List (List Int)} {n k : Nat} {P : PySem.Fin → Shared → Prop}
    (F : Fr hb L s.heap m) (ho : s.heap.get? a = some (lstObj vs.toArray n)) (haL : a ≠ L) (ha0 : hb.get? a = none) (R : RowsAt s.heap vs rows) (hk : 1 ≤ k) (hlen : ∀ r ∈ rows, r.length = k) (hnd : rows.Nodup) (h2 : 2 ≤ vs.length) (h64 : vs.length < 64)
    (h : ∀ h' out rows' c, Fr hb L h' m → (∀ b o, b ≠ a → b ≠ L → s.heap.get? b = some o → h'.get? b = some o) → h'.get? a = some (lstObj (List.toArray out) c) → RowsAt h' out rows' → rows'.Perm rows → rows'.Pairwise (fun x y => rowLt x y = true) → (∀ v ∈ out, v ∈ vs) →
      P (.done (.ret .none)) { s with heap := h' }) : wpAny (model prog w) A (Builtin.«list.sort» ⟨[.ref a], []⟩) P E s := by
  have hlv := R.len
  let news := (restOf hb s.heap L).filter (fun p => decide (p.1 ≠ a))
  have N : News hb L s.heap news := fun p hp => rest_news p (List.mem_filter.mp hp).1
  have hna : ∀ p ∈ news, p.1 ≠ a := fun p hp => of_decide_eq_true (List.mem_filter.mp hp).2
  have keep : ∀ h' m' extra, Fr hb L h' m' → News hb L h' (extra :: news) → ∀ b o, b ≠ a → b ≠ L → s.heap.get? b = some o → h'.get? b = some o := by
    intro h' m' extra F' N' b o hba hbL e
    cases hn : hb.get? b with
    | none => exact (N' _ (.tail _ (List.mem_filter.mpr ⟨rest_mem e hbL hn, decide_eq_true hba⟩))).1
    | some o₂ =>
      have hh := F.keep b o₂ hn
      rw [e] at hh
      cases hh
      exact F'.keep b _ hn
  have offs : ∀ D, Value.ref D ∈ vs → D ≠ a ∧ D ≠ L := fun D hm => by
    refine ex1_1 (R.lt D hm) ?_
    intro ws e
    refine ⟨fun q => ?_, Fr.tup_ne2 F e⟩
    subst q; rw [ho] at e; exact absurd (congrArg Obj.cls (Option.some.inj e)) (by simp)
  refine kat_list_sort F N ho haL ha0 hna h2 h64 fun e1 h' F' N' => ?_
  have R' : RowsAt h' vs rows := R.keep fun D o hm e => keep h' m _ F' N' D o (offs D hm).1 (offs D hm).2 e
  obtain ⟨fs, t, hfl, hfi⟩ := R'.firsts fun r hr e => by have := hlen r hr; rw [e] at this; simp at this; lia
  refine kat_kind (s := { s with heap := h' }) t (by lia) (T := .type "int") (fun v hv => ?_) (by decide) ?_
  · refine ex2_1 (hfi v hv) ?_
    intro n u hq1_
    obtain rfl := hq1_
    exact Looks.of_pure rfl
  rw [show ((Value.type "int" != Value.type "tuple") = true) from by decide]
  refine ex0_3 (picked hlen hnd (by lia)) ?_
  intro pl pp ps
  rw [hlv]
  refine krun_wp2 (lt := fun i j => rowLt (rows.getD i []) (rows.getD j [])) (I := fun s' => s' = { s with heap := h' }) (fun i j s' C hi hj hs hC => ?_) _ _ (kb_sort (by lia)) rfl fun s' hs => ?_
  · subst hs
    refine ex2_4 (R'.get hi) ?_
    intro D1 w1 e1 _ g1 i1
    refine ex2_4 (R'.get hj) ?_
    intro D2 w2 e2 _ g2 i2
    have mem : ∀ i, i < rows.length → rows.getD i [] ∈ rows := fun i hi => by simp [hi]
    unfold kas_ask
    rw [e1, e2]
    exact key_lt (s := { s with heap := h' }) g1 g2 i1 i2 ((hlen _ (mem i hi)).trans (hlen _ (mem j hj)).symm) (hC _ rfl)
  · subst hs
    refine KasFin.intro F' N' (.head hna) fun h'' c F'' N'' => ?_
    refine h h'' _ _ c F'' (fun b o hba hbL e => keep h'' m _ F'' N'' b o hba hbL e) (N'' _ (.head _)).1 ?_ pp ps ?_
    · refine RowsAt.pick (R.keep fun D o hm e => keep h'' m _ F'' N'' D o (offs D hm).1 (offs D hm).2 e) _ pl
    · intro v hv
      refine ex1_2 (List.mem_map.mp hv) ?_
      intro i hi hq2_
      obtain rfl := hq2_
      refine ex2_3 (R.get (pl i hi)) ?_
      intro D ws e hm _
      rw [e]; exact hm


theorem minRun_le : ∀ (f n r : Nat), r ≤ 1 → minRun' f n r ≤ n + r
  | 0, n, r, _ => by
    first
      | exact Nat.le_refl _
      | (show n + r ≤ n + r; exact Nat.le_refl _)
  | f + 1, n, r, h => by
    rw [minRun'_succ]
    split
    · exact Nat.le_refl _
    · have := minRun_le f (n / 2) (max r (n % 2)) (by (first | lia | omega))
      (first | lia | omega)

section
variable {prog : Program} {w : World} {A : Around} {E : Value → Shared → Prop} {s : Shared} {κ : SortKind} {it : Array Keyed}
/-- sortRuns' of items that one counted run covers: it lays that run by and has nothing to merge -/
theorem long_runs {n : Nat} {Q : Unit → SortSt → Shared → Prop} {G : Array Nat → Shared → Prop} (h2 : 2 ≤ n)
    (hG : ∀ p' st' s', p'.size = n → arrOf st' = p'.map (kas_item it) → failedOf st' = none → G p' s' → Q () st' s') (h : (kas_count n (List.toArray (List.range n))).kasWp (kas_cmp prog w A κ it) (fun r s' => r.1 = n ∧ G r.2 s') s) :
    kasC (model prog w) A E sortRuns' Q (kas_st κ it (List.toArray (List.range n))) s := by
  refine (⟨n - 2, by (first | lia | omega)⟩ : ∃ r, n = r + 2).elim fun r e => ?_
  subst e
  have whole : (List.toArray (List.range (r + 2))).size = r + 2 := by simp
  have items : (arrOf (kas_st κ it (List.toArray (List.range (r + 2))))).size = r + 2 := (Array.size_map ..).trans whole
  have least : minRun' (r + 2) (r + 2) 0 ≤ r + 2 := minRun_le (r + 2) (r + 2) 0 (Nat.zero_le 1)
  have turns : ∀ {σ : Type} {f : Nat → σ → StateT SortSt Sem (ForInStep σ)} {x : σ} {R : σ → SortSt → Shared → Prop} {st : SortSt} {s' : Shared}, kasC (model prog w) A E (forIn (0 :: 1 :: List.range' 2 r) x f) R st s' → kasC (model prog w) A E (forIn [0:r + 2] x f) R st s' := fun q => kasC_range q
  rw [sortRuns'_eq]
  refine kasC_bind (kasC_get ?_)
  simp only [items]
  refine kasC_bind (turns (kasC_cons ?_))
  dsimp only
  rw [if_neg (by (first | lia | omega)), Nat.sub_zero]
  refine kasC_bind (kas_count_ (by (first | lia | omega)) (Nat.le_of_eq whole.symm) (fun m p s1 _ _ hp hg => ?_) h)
  refine ex0_2 hg ?_
  intro hm hg
  subst hm
  have psz := hp.trans whole
  dsimp only
  rw [if_neg (by (first | lia | omega))]
  refine kasC_bind (kasC_get ?_)
  refine kasC_bind (kasC_modify (kasC_pure (kasC_cons ?_)))
  dsimp only
  rw [if_pos (show 0 + (r + 2) ≥ r + 2 from Nat.le_of_eq (Nat.zero_add _).symm)]
  refine kasC_pure (kasC_bind (turns (kasC_cons (kasC_bind (kasC_get ?_)))))
  rw [if_pos]
  · exact kasC_pure (kasC_pure (hG p _ _ psz rfl rfl hg))
  · exact Nat.le_refl 1

theorem long_run {ks vs : List Value} {Q : SortSt → Shared → Prop} {G : Array Nat → Shared → Prop} (hl : ks.length = vs.length) (h2 : 2 ≤ vs.length)
    (hG : ∀ p st' s', p.size = vs.length → arrOf st' = p.map (kas_item (ks.toArray.zip vs.toArray)) → failedOf st' = none → G p s' → Q st' s') (h : (kas_count vs.length (List.toArray (List.range vs.length))).kasWp (kas_ask prog w A κ ks) (fun r s' => r.1 = vs.length ∧ G r.2 s') s) :
    wpAny (model prog w) A ((sortRuns').run (SortSt.mk' κ (ks.toArray.zip vs.toArray) #[] 7 none)) (fun r s' => Q r.2 s') E s := by
  have all := kas_range (ks.toArray.zip vs.toArray)
  rw [show (ks.toArray.zip vs.toArray).size = vs.length by simp [hl]] at all
  have start : SortSt.mk' κ (ks.toArray.zip vs.toArray) #[] 7 none = kas_st κ (ks.toArray.zip vs.toArray) (List.toArray (List.range vs.length)) := congrArg (fun x => SortSt.mk' κ x #[] 7 none) all.symm
  exact start ▸ long_runs (E := E) (Q := fun _ st s' => Q st s') h2 hG (kat_ask_eq hl ▸ h)
end

theorem bind_ite {α β : Type} {M : Model} {A : Around} {c : Prop} [Decidable c] {x y : Sem α} {K : α → Sem β} {Q : β → Shared → Prop} {E : Value → Shared → Prop} {s : Shared} (h : wpAny M A ((if c then x else y) >>= K) Q E s) : wpAny M A (if c then x >>= K else y >>= K) Q E s := by
  by_cases q : c
  · rw [if_pos q] at h ⊢; exact h
  · rw [if_neg q] at h ⊢; exact h
/-- list.sort of at most 1000 items: it lends them out, asks, and lays the answer in; what is left to show is what it asks -/
theorem sort_lent {prog : Program} {w : World} {A : Around} {E : Value → Shared → Prop} {s : Shared} {h₀ : Heap} {L a : Addr} {m : Str → Option Value} {news : List (Addr × Obj)} {vs : List Value} {n : Nat} {P : PySem.Fin → Shared → Prop}
    (F : Fr h₀ L s.heap m) (N : News h₀ L s.heap news) (ho : s.heap.get? a = some (lstObj vs.toArray n)) (haL : a ≠ L) (ha0 : h₀.get? a = none) (hna : ∀ p ∈ news, p.1 ≠ a) (hN : vs.length ≤ 1000)
    (few : vs.length < 2 → ∀ e h, Fr h₀ L h m → News h₀ L h ((a, seqObj "list" #[] e) :: news) → KasFin h₀ L m a e vs (P (.done (.ret .none))) { s with heap := h })
    (many : 2 ≤ vs.length → ∀ e h, Fr h₀ L h m → News h₀ L h ((a, seqObj "list" #[] e) :: news) →
      wpAny (model prog w) A (keyKind' vs.toArray) (fun κ s' => (kas_count vs.length (List.toArray (List.range vs.length))).kasWp (kas_ask prog w A κ vs)
        (fun r s'' => r.1 = vs.length ∧ KasFin h₀ L m a e (r.2.toList.map fun i => vs.getD i Value.none) (P (.done (.ret .none))) s'') s') (fun _ _ => False) { s with heap := h }) :
    wpAny (model prog w) A (Builtin.«list.sort» ⟨[.ref a], []⟩) P E s := by
  have big : ∀ {k}, k ≤ 1000 → k ≤ sizeLine := fun h => by rw [sizeLine_eq]; exact Nat.le_trans h (by decide)
  have hz : vs.toArray.size ≤ 1000 := hN
  have F1 := kas_fr F (Heap.SameBut.update s.heap a (Obj.mapSeq fun _ => (#[] : Array Value))) haL ha0
  have N1 := kas_news N (Heap.SameBut.update s.heap a (Obj.mapSeq fun _ => (#[] : Array Value))) hna
  refine (⟨_, get?_update_seq ho fun _ => #[]⟩ : ∃ e, (s.heap.update a (Obj.mapSeq fun _ => (#[] : Array Value))).get? a = some (seqObj "list" #[] e)).elim fun e ho1 => ?_
  rw [list_sort_plain]
  refine wpAny_bind (listItems_at ho rfl (wpAny_bind (listUpdate_at ho rfl ?_ (big hz) (Nat.zero_le _))))
  generalize s.heap.update a (Obj.mapSeq fun _ => (#[] : Array Value)) = h1 at F1 N1 ho1 ⊢
  have F3 := (F1.push (seqObj "tuple" vs.toArray 0)).push (seqObj "list" #[] 0)
  have N3 := News.grown (List.forall_mem_cons.mpr ⟨⟨ho1, haL, ha0⟩, N1⟩ : News h₀ L h1 ((a, seqObj "list" #[] e) :: news)) fun b x q => Heap.get?_push_of_some (seqObj "list" #[] 0) (Heap.get?_push_of_some (seqObj "tuple" vs.toArray 0) q)
  refine wpAny_bind (seqEpoch_at ho1 rfl (wpAny_bind (wpAny_newTuple (wpAny_bind (wpAny_newList (wpAny_holding ?_) (Nat.zero_le _))) (big hN))))
  dsimp only
  refine bind_ite ?_
  refine wpAny_bind (wpAny_mono (Q := fun κ s1 => wpAny (model prog w) A (StateT.run (if vs.toArray.size < 2 then pure () else sortRuns') (SortSt.mk' κ (vs.toArray.zip vs.toArray) #[] 7 none))
    (fun r s2 => ∃ out : List Value, (arrOf r.2).map (·.2) = out.toArray ∧ out.length ≤ 1000 ∧ failedOf r.2 = none ∧ KasFin h₀ L m a e out (P (.done (.ret .none))) s2) E s1) ?_ (fun κ s1 hr => ?_) fun _ _ x => x)
  · by_cases h2 : vs.length < 2
    · rw [if_pos (show vs.toArray.size < 2 from h2)]
      refine wpAny_pure ?_
      rw [if_pos (show vs.toArray.size < 2 from h2), StateT.run_pure]
      refine wpAny_pure ⟨vs, ?_, hN, rfl, few h2 e _ F3 N3⟩
      show (vs.toArray.zip vs.toArray).map (·.2) = vs.toArray
      apply Array.toList_inj.mp
      simp [List.map_snd_zip]
    · rw [if_neg (show ¬ vs.toArray.size < 2 from h2)]
      refine wpAny_mono (many (Nat.le_of_not_lt h2) e _ F3 N3) (fun κ s1 hk => ?_) fun _ _ x => x.elim
      rw [if_neg (show ¬ vs.toArray.size < 2 from h2)]
      refine long_run (Q := fun st s2 => ∃ out : List Value, (arrOf st).map (·.2) = out.toArray ∧ out.length ≤ 1000 ∧ failedOf st = none ∧ KasFin h₀ L m a e out (P (.done (.ret .none))) s2) (G := fun p s2 => KasFin h₀ L m a e (p.toList.map fun i => vs.getD i Value.none) (P (.done (.ret .none))) s2) rfl (Nat.le_of_not_lt h2) (fun p st s2 hp har hf hfin => ?_) hk
      exact ⟨_, kat_snds rfl har, by rw [List.length_map, Array.length_toList, hp]; exact hN, hf, hfin⟩
  · refine wpAny_bind (wpAny_mono hr (fun r s2 good => ?_) fun _ _ x => x)
    obtain ⟨⟨⟩, st⟩ := r
    dsimp only at good ⊢
    refine good.elim fun out good => ?_
    refine ex0_4 good ?_
    intro hout hlo hf fin
    refine ex2_4 fin ?_
    intro owned g F' N' U close
    refine ex2_4 U.split ?_
    intro pre post e0 hg x1 x2
    rw [e0] at N'
    have na := N' (a, seqObj "list" #[] e) (List.mem_append_right _ (.head _))
    rw [hout]
    refine wpAny_bind (seqEpoch_at na.1 rfl (wpAny_bind (listUpdate_at na.1 rfl ?_ (Nat.zero_le _) (Nat.le_succ_of_le (big hlo)))))
    rw [hf, show (e != e) = false from bne_self_eq_false e]
    have S2 := Heap.SameBut.update s2.heap a (Obj.mapSeq fun _ => out.toArray)
    refine (⟨_, get?_update_seq na.1 fun _ => out.toArray⟩ : ∃ c, (s2.heap.update a (Obj.mapSeq fun _ => out.toArray)).get? a = some (seqObj "list" out.toArray c)).elim fun c hc => ?_
    exact wpAny_pure (close _ c (kas_fr F' S2 na.2.1 na.2.2) (hg (seqObj "list" out.toArray c) ▸ news_set N' x1 x2 S2 hc))

theorem count_asc {n : Nat} {lt : Nat → Nat → Bool} (O : KOrd n lt) (hn : 1 ≤ n) (A : ∀ i j, i < j → j < n → lt i j = true) : krun lt (kas_count n (List.toArray (List.range n))) = (n, List.toArray (List.range n)) := by
  have G : KGood n (List.toArray (List.range n)) := ⟨by simp⟩
  refine ex0_4 (asc_run O G (n - 1) 1 (Nat.le_refl _) (by (first | lia | omega))) ?_
  intro a b _ d
  have get : ∀ i, i < n → (List.toArray (List.range n)).getD i 0 = i := fun i hi => by simp [Array.getD, hi]
  have e : krun lt (kas_asc (List.toArray (List.range n)) (n - 1) 1) = n := by
    generalize krun lt (kas_asc (List.toArray (List.range n)) (n - 1) 1) = m at *
    by_cases q : m < n
    · have h := d (by (first | lia | omega))
      rw [get _ q, get _ (by (first | lia | omega))] at h
      have h2 := O.asymm _ _ q (by (first | lia | omega)) h
      rw [A (m - 1) m (by (first | lia | omega)) q] at h2
      cases h2
    · (first | lia | omega)
  unfold kas_count
  rw [krun_bind, e, if_pos (by simp)]
  rfl

theorem sort_asc {prog : Program} {w : World} {A : Around} {E : Value → Shared → Prop} {s : Shared} {hb : Heap} {L a : Addr} {m : Str → Option Value} {vs : List Value} {rows : List (List Int)} {n k : Nat} {P : PySem.Fin → Shared → Prop}
    (F : Fr hb L s.heap m) (ho : s.heap.get? a = some (lstObj vs.toArray n)) (haL : a ≠ L) (ha0 : hb.get? a = none) (R : RowsAt s.heap vs rows) (hk : 2 ≤ vs.length → 1 ≤ k) (hlen : ∀ r ∈ rows, r.length = k) (hasc : rows.Pairwise (fun x y => rowLt x y = true)) (hN : vs.length ≤ 1000)
    (h : ∀ h' out rows' c, Fr hb L h' m → (∀ b o, b ≠ a → b ≠ L → s.heap.get? b = some o → h'.get? b = some o) → h'.get? a = some (lstObj (List.toArray out) c) → RowsAt h' out rows' → rows'.Perm rows → rows'.Pairwise (fun x y => rowLt x y = true) → (∀ v ∈ out, v ∈ vs) →
      P (.done (.ret .none)) { s with heap := h' }) : wpAny (model prog w) A (Builtin.«list.sort» ⟨[.ref a], []⟩) P E s := by
  have hlv := R.len
  have hnd : rows.Nodup := hasc.imp fun {x y} q e => by subst e; rw [rowLt_irrefl] at q; cases q
  let news := (restOf hb s.heap L).filter (fun p => decide (p.1 ≠ a))
  have N : News hb L s.heap news := fun p hp => rest_news p (List.mem_filter.mp hp).1
  have hna : ∀ p ∈ news, p.1 ≠ a := fun p hp => of_decide_eq_true (List.mem_filter.mp hp).2
  have keep : ∀ h' m' extra, Fr hb L h' m' → News hb L h' (extra :: news) → ∀ b o, b ≠ a → b ≠ L → s.heap.get? b = some o → h'.get? b = some o := by
    intro h' m' extra F' N' b o hba hbL e
    cases hn : hb.get? b with
    | none => exact (N' _ (.tail _ (List.mem_filter.mpr ⟨rest_mem e hbL hn, decide_eq_true hba⟩))).1
    | some o₂ =>
      have hh := F.keep b o₂ hn
      rw [e] at hh
      cases hh
      exact F'.keep b _ hn
  have offs : ∀ D, Value.ref D ∈ vs → D ≠ a ∧ D ≠ L := fun D hm => by
    refine ex1_1 (R.lt D hm) ?_
    intro ws e
    refine ⟨fun q => ?_, Fr.tup_ne2 F e⟩
    subst q; rw [ho] at e; exact absurd (congrArg Obj.cls (Option.some.inj e)) (by simp)
  have laid : ∀ e1 h', Fr hb L h' m → News hb L h' ((a, seqObj "list" #[] e1) :: news) → KasFin hb L m a e1 vs (P (.done (.ret .none))) { s with heap := h' } := fun e1 h' F' N' =>
    KasFin.intro F' N' (.head hna) fun h'' c F'' N'' => h h'' _ rows c F'' (fun b o hba hbL e => keep h'' m _ F'' N'' b o hba hbL e) (N'' _ (.head _)).1 (R.keep fun D o hm e => keep h'' m _ F'' N'' D o (offs D hm).1 (offs D hm).2 e) (.refl _) hasc fun v hv => hv
  refine sort_lent F N ho haL ha0 hna hN (fun _ => laid) fun h2 e1 h' F' N' => ?_
  have hk := hk h2
  have R' : RowsAt h' vs rows := R.keep fun D o hm e => keep h' m _ F' N' D o (offs D hm).1 (offs D hm).2 e
  obtain ⟨fs, t, hfl, hfi⟩ := R'.firsts fun r hr e => by have := hlen r hr; rw [e] at this; simp at this; (first | lia | omega)
  refine kat_kind (s := { s with heap := h' }) t (by (first | lia | omega)) (T := .type "int") (fun v hv => ?_) (by decide) ?_
  · refine ex2_1 (hfi v hv) ?_
    intro n u hq3_
    obtain rfl := hq3_
    exact Looks.of_pure rfl
  rw [show ((Value.type "int" != Value.type "tuple") = true) from by decide]
  rw [hlv]
  have O := rows_ord hlen hnd
  have kb := kb_count (n := rows.length) (p := List.toArray (List.range rows.length)) ⟨by simp⟩ (by (first | lia | omega)) rows.length
  refine krun_wp2 (lt := fun i j => rowLt (rows.getD i []) (rows.getD j [])) (I := fun s' => s' = { s with heap := h' }) (fun i j s' C hi hj hs hC => ?_) _ _ kb rfl fun s' hs => ?_
  · subst hs
    refine ex2_4 (R'.get hi) ?_
    intro D1 w1 e1 _ g1 i1
    refine ex2_4 (R'.get hj) ?_
    intro D2 w2 e2 _ g2 i2
    have mem : ∀ i, i < rows.length → rows.getD i [] ∈ rows := fun i hi => by simp [hi]
    unfold kas_ask
    rw [e1, e2]
    exact key_lt (s := { s with heap := h' }) g1 g2 i1 i2 ((hlen _ (mem i hi)).trans (hlen _ (mem j hj)).symm) (hC _ rfl)
  · subst hs
    rw [count_asc O (by (first | lia | omega)) fun i j hij hj => by
      have := List.pairwise_iff_getElem.mp hasc i j (by (first | lia | omega)) hj hij
      simpa [hj, show i < rows.length by (first | lia | omega)] using this]
    refine ⟨rfl, ?_⟩
    dsimp only
    rw [show (List.toArray (List.range rows.length)).toList.map (fun i => vs.getD i Value.none) = vs by rw [← hlv]; exact range_pick vs _]
    exact laid e1 h' F' N'

/-- list.sort of rows, whatever their number -/
theorem sort_all {prog : Program} {w : World} {A : Around} {E : Value → Shared → Prop} {s : Shared} {hb : Heap} {L a : Addr} {m : Str → Option Value} {vs : List Value} {rows : List (List Int)} {n k : Nat} {P : PySem.Fin → Shared → Prop}
    (F : Fr hb L s.heap m) (ho : s.heap.get? a = some (lstObj vs.toArray n)) (haL : a ≠ L) (ha0 : hb.get? a = none) (R : RowsAt s.heap vs rows) (hlen : ∀ r ∈ rows, r.length = k) (hnd : rows.Nodup) (hN : rows.length < 64 ∨ (rows.length ≤ 1000 ∧ rows.Pairwise (fun x y => rowLt x y = true)))
    (h : ∀ h' out rows' c, Fr hb L h' m → (∀ b o, b ≠ a → b ≠ L → s.heap.get? b = some o → h'.get? b = some o) → h'.get? a = some (lstObj (List.toArray out) c) → RowsAt h' out rows' → rows'.Perm rows → rows'.Pairwise (fun x y => rowLt x y = true) → (∀ v ∈ out, v ∈ vs) →
      P (.done (.ret .none)) { s with heap := h' }) : wpAny (model prog w) A (Builtin.«list.sort» ⟨[.ref a], []⟩) P E s := by
  have hlv := R.len
  by_cases h2 : vs.length < 2
  · refine sort_asc F ho haL ha0 R (fun q => absurd h2 (Nat.not_lt.mpr q)) hlen ?_ (Nat.le_trans (Nat.le_of_lt h2) (by decide)) h
    cases rows with
    | nil => exact .nil
    | cons r q => cases q with
      | nil => exact List.pairwise_singleton ..
      | cons _ _ => rw [hlv] at h2; simp at h2; (first | lia | omega)
  have hk : 1 ≤ k := by
    match rows, hlv, hlen, hnd with
    | [], q, _, _ => exact absurd (by rw [q]; simp) h2
    | [r], q, _, _ => exact absurd (by rw [q]; simp) h2
    | r :: q :: _, _, hl, hd =>
      by_cases hk : 1 ≤ k
      · exact hk
      · have e1 := hl r (.head _)
        have e2 := hl q (.tail _ (.head _))
        have z : k = 0 := by (first | lia | omega)
        subst z
        have : r = q := (List.eq_nil_of_length_eq_zero e1).trans (List.eq_nil_of_length_eq_zero e2).symm
        subst this
        simp at hd
  rcases hN with hN | ⟨hN, hasc⟩
  · exact sort_rows F ho haL ha0 R hk hlen hnd (by (first | lia | omega)) (by (first | lia | omega)) h
  · exact sort_asc F ho haL ha0 R (fun _ => hk) hlen hasc (by (first | lia | omega)) h

/-- sorted(x) in the second model -/
theorem call_sorted2 {w : World} {A : Around} {E : Value → Shared → Prop} {s : Shared} {x : Value} {Q : Value → Shared → Prop}
    (hc : wpAny (MM w) A.in1 (Builtin.«sorted» ⟨[x], []⟩) (fun fin s' => ∃ v, fin = .done (.ret v) ∧ Q v s') E s) : wpAny (MM w) A (call (.builtin "sorted") [x]) Q E s := by
  have looked : checkBuiltinCall "sorted" ⟨[x], []⟩ = pure () := by kernel_rfl
  refine wpAny_call (codeAny_call_builtin2 plain_sorted (by decide) entry_sorted (wpAny_of_eq looked (wpAny_mono hc (fun fin s' q => ?_) fun _ _ q => q)))
  refine ex1_2 q ?_
  intro v e hv
  subst e
  exact hv

/-- sorted rows, told of the heap -/
structure Sorted (hb : Heap) (rows : List (List Int)) (v : Value) (h : Heap) : Prop where
  at_ : ∃ S out rows' c, v = .ref S ∧ hb.get? S = none ∧ h.get? S = some (lstObj (List.toArray out) c) ∧ RowsAt h out rows' ∧ rows'.Perm rows ∧ rows'.Pairwise (fun x y => rowLt x y = true) ∧ ∀ D, Value.ref D ∈ out → hb.get? D = none

theorem sort_new2 {w : World} {A : Around} {hb : Heap} {L : Addr} {m : Str → Option Value} {vs : List Value} {rows : List (List Int)} {k : Nat} {s : Shared} {E : Value → Shared → Prop} {Q : Fin → Shared → Prop} (F : Fr hb L s.heap m) (R : RowsAt s.heap vs rows) (hlen : ∀ r ∈ rows, r.length = k) (hnd : rows.Nodup)
    (hN : rows.length < 64 ∨ (rows.length ≤ 1000 ∧ rows.Pairwise (fun x y => rowLt x y = true))) (hf : ∀ D, Value.ref D ∈ vs → hb.get? D = none) (h1 : A.handled = none)
    (h : ∀ v s', Sorted hb rows v s'.heap → Fr hb L s'.heap m → Moves (fun b => b = L) (fun _ => False) s s' → s'.gens = s.gens → Q (.done (.ret v)) s') :
    wpAny (MM w) A (do let l ← newList vs; let _ ← holding [l] (call (.builtin "list.sort") [l] []); ret l) Q E s := by
  have hlv := R.len
  have hn : vs.length ≤ 1000 := by rcases hN with q | q <;> (first | lia | omega)
  refine wpAny_bind (wpAny_newList ?_ (by rw [sizeLine_eq]; exact Nat.le_trans (by assumption) (by decide)))
  have hS : (s.heap.push (seqObj "list" vs.toArray 0)).get? s.heap.objs.size = some (lstObj vs.toArray 0) := Heap.get?_push_size _ rfl
  have F₁ : Fr hb L (s.heap.push (seqObj "list" vs.toArray 0)) m := F.push _
  have hSL : s.heap.objs.size ≠ L := Nat.ne_of_gt F.ns.lt
  have hSb : hb.get? s.heap.objs.size = none := by
    cases e : hb.get? s.heap.objs.size with
    | none => rfl
    | some o => exact absurd (Heap.lt_size (F.keep _ _ e)) (Nat.lt_irrefl _)
  refine wpAny_bind (wpAny_holding ?_)
  show wpAny (MM w) A _ _ _ { s with heap := s.heap.push (seqObj "list" vs.toArray 0) }
  refine piece (dp := A.depth) (un := A.units) (R := fun _ h' => ∃ out rows' c, Fr hb L h' m ∧ (∀ b o, b ≠ s.heap.objs.size → b ≠ L → (s.heap.push (seqObj "list" vs.toArray 0)).get? b = some o → h'.get? b = some o) ∧ h'.get? s.heap.objs.size = some (lstObj (List.toArray out) c) ∧ RowsAt h' out rows' ∧
    rows'.Perm rows ∧ rows'.Pairwise (fun x y => rowLt x y = true) ∧ ∀ v ∈ out, v ∈ vs) ?_ h1 (Nat.le_refl _) (Nat.le_refl _) ?_
  · refine wpAny_call_entry slot_list_sort ⟨_, hS, rfl⟩ entry_list_sort ?_ (args_list_sort _)
    refine sort_all (s := wG { s with heap := s.heap.push (seqObj "list" vs.toArray 0) } #[]) F₁ hS hSL hSb (R.keep fun D o _ e => Heap.get?_push_of_some _ e) hlen hnd hN fun h' out rows' c F' keep g R' pp ps hm => ?_
    exact ⟨_, rfl, rfl, rfl, out, rows', c, F', keep, g, R', pp, ps, hm⟩
  · intro v s' hg ho hz hq1_
    refine ex3_7 (hq1_) ?_
    clear hq1_
    intro out rows' c F' keep g R' pp ps hm
    refine wpAny_pure (h (.ref s.heap.objs.size) s' ⟨_, out, rows', c, rfl, hSb, g, R', pp, ps, fun D hD => hf D (hm _ hD)⟩ F' ⟨fun b o hL e => keep b o (Nat.ne_of_lt (Heap.lt_size e)) hL (Heap.get?_push_of_some _ e), ?_, fun i x _ e => by rw [hg]; exact e, by rw [hg]; exact Nat.le_refl _, ho⟩ hg)
    have hz' : (s.heap.push (seqObj "list" vs.toArray 0)).objs.size ≤ s'.heap.objs.size := hz
    rw [Heap.size_push] at hz'
    exact Nat.le_of_succ_le hz'

theorem sorted_gen2 {w : World} {A : Around} {hb : Heap} {dp un : Nat} {L : Addr} {m : Str → Option Value} (lim : hb.NoLimit) (h1 : A.handled = none) (h2 : A.depth ≤ dp) (h3 : A.units + 3 ≤ un) (hroom : A.depth < recursionLimit) {Q : Value → Shared → Prop} {E : Value → Shared → Prop} {a : Addr} {g : Nat}
    {xs : List (List Int)} {own : Addr → Prop} {gown : Nat → Prop} {s : Shared} {k : Nat} (F : Fr hb L s.heap m) (L₁ : Live w hb dp un xs a g own gown s) (hL : ¬ own L) (hlen : ∀ r ∈ xs, r.length = k) (hnd : xs.Nodup) (hN : xs.length < 64 ∨ (xs.length ≤ 1000 ∧ xs.Pairwise (fun x y => rowLt x y = true)))
    (h : ∀ v s', Sorted hb xs v s'.heap → Fr hb L s'.heap m → Moves (fun b => own b ∨ s.heap.objs.size ≤ b ∨ b = L) (fun i => gown i ∨ i = g) s s' → Tidy (fun i => gown i ∨ i = g) (fun _ => False) s s' → Q v s') : wpAny (MM w) A (call (.builtin "sorted") [.ref a]) Q E s := by
  refine call_sorted2 ?_
  unfold Builtin.«sorted»
  refine wpAny_bind (m := checkCount "sorted" 1 1 _) (wpAny_pure ?_)
  have hn : xs.length ≤ 1000 := by rcases hN with q | q <;> (first | lia | omega)
  show wpAny (MM w) A.in1 (collect (.ref a) >>= fun xs => (do let l ← newList xs; let _ ← holding [l] (call (.builtin "list.sort") [l] []); ret l)) _ _ s
  refine wpAny_bind (collect2 (A := A.in1) lim h1 h2 (show A.units + 1 + 2 ≤ un from h3) hroom L₁ (by rw [sizeLine_eq]; exact Nat.le_trans (by assumption) (by decide)) (Nat.le_of_lt (Nat.lt_of_le_of_lt F.above F.ns.lt)) fun s' acc' c' d => ?_)
  have F' : Fr hb L s'.heap m := ⟨F.ns.at fun o e => d.moves.heap L o (fun q => q.elim hL fun z => absurd F.ns.lt (by rw [z]; exact Nat.lt_irrefl _)) e, d.base, F.above⟩
  refine sort_new2 (A := A.in1) F' d.rows hlen hnd hN d.fresh h1 fun v s₂ S F₂ M₂ G₂ => ⟨v, rfl, h v s₂ S F₂ ?_ (d.tidy.same G₂)⟩
  refine (d.moves.mono (own' := fun b => own b ∨ s.heap.objs.size ≤ b ∨ b = L) (gown' := fun i => gown i ∨ i = g) (fun b q => q.elim .inl fun z => .inr (.inl (by rw [z]; exact Nat.le_refl _))) fun _ q => q).trans (M₂.mono (fun b q => .inr (.inr q)) fun _ q => q.elim)

/-- what _law_euclid asks of the outcome -/
theorem eu_facts {a b : Int} (ha : 0 ≤ a) (hb : 0 ≤ b) : let e := euclid a b
    a * e.1 + b * e.2.1 = e.2.2 ∧ 0 ≤ e.2.2 ∧ (e.2.2 = 0 → a = 0 ∧ b = 0) ∧ (0 < e.2.2 → Int.fmod a e.2.2 = 0 ∧ Int.fmod b e.2.2 = 0) ∧
    (0 < a → 0 < b → 0 < e.2.2 → (e.1 ≤ Int.fdiv b e.2.2 ∧ -e.1 ≤ Int.fdiv b e.2.2) ∧ (e.2.1 ≤ Int.fdiv a e.2.2 ∧ -e.2.1 ≤ Int.fdiv a e.2.2)) := by
  intro e
  have ES : EuSpec a b e.1 e.2.1 e.2.2 := euclid_spec _ a b rfl ha hb
  obtain ⟨h1, h2, h3, h4⟩ := ES
  have da : e.2.2 ∣ a := by rw [h2]; exact Int.gcd_dvd_left _ _
  have db : e.2.2 ∣ b := by rw [h2]; exact Int.gcd_dvd_right _ _
  have hd : 0 ≤ e.2.2 := by rw [h2]; exact Int.natCast_nonneg _
  have le : ∀ x z : Int, 0 < e.2.2 → x * e.2.2 ≤ z → x ≤ Int.fdiv z e.2.2 := by
    intro x z hp h
    refine ex0_3 (fmod_facts z hp) ?_
    intro q0 q1 q2
    by_cases c : x ≤ Int.fdiv z e.2.2
    · exact c
    · have : e.2.2 * (Int.fdiv z e.2.2 + 1) ≤ e.2.2 * x := Int.mul_le_mul_of_nonneg_left (by exact Int.lt_of_not_ge (by assumption)) hd
      rw [Int.mul_add, Int.mul_one, Int.mul_comm e.2.2 x] at this
      (clear c q0 hp hd db da h4 h3 h1 hb ha; omega)
  refine ⟨h1, hd, fun h0 => ?_, fun hp => ⟨?_, ?_⟩, fun pa pb hp => ⟨⟨?_, ?_⟩, ?_, ?_⟩⟩
  · rw [h0] at da db
    exact ⟨Int.zero_dvd.mp da, Int.zero_dvd.mp db⟩
  · rw [Int.fmod_eq_emod_of_nonneg a hd]; exact Int.emod_eq_zero_of_dvd da
  · rw [Int.fmod_eq_emod_of_nonneg b hd]; exact Int.emod_eq_zero_of_dvd db
  · exact le _ _ hp (h3 pb).1
  · exact le _ _ hp (by rw [Int.neg_mul]; have := (h3 pb).2; (clear hp pb pa le hd db da h4 h3 h2 h1 hb ha; omega))
  · rcases h4 pb with h | ⟨_, h, hdb⟩
    · exact le _ _ hp h.1
    · rw [h]
      refine le _ _ hp ?_
      have := Int.le_of_dvd pa da
      (clear hdb h hp pb pa le hd db da h4 h3 h1 hb ha; omega)
  · rcases h4 pb with h | ⟨_, h, hdb⟩
    · exact le _ _ hp (by rw [Int.neg_mul]; have := h.2; lia)
    · rw [h]
      have := fdiv_nonneg' ha hp
      exact Int.le_of_lt (by assumption)

set_option maxHeartbeats 2000000 in
theorem law_euclid_ok {w : World} {s : Shared} {a b : Int} {ta tb : Tok} {dp un : Nat} (W : Wd w s.heap) (ha : 0 ≤ a) (hb : 0 ≤ b) (ha2 : a ≤ 1073741823) (hb2 : b ≤ 1073741823) (hd : dp ≤ 700) (hu : un ≤ 8000) :
    wpAny (model PP w) (AA dp un) (call (.ref 75) [.int a ta, .int b tb]) (fun v s' => Grew s s' ∧ v = .bool true) (fun _ _ => False) s := by
  have W' := W
  obtain ⟨X, p, loose, mean, mg, mb, T⟩ := W
  revert X
  show (Mine.hd.heap_39 w.params).In s.heap → wpAny (model PySem.Challenge.rw_jf0027_01.row.prog w) (AA dp un) (call (.ref 75) [.int a ta, .int b tb]) (fun v s' => Grew s s' ∧ v = .bool true) (fun _ _ => False) s
  k_fill
  intro X
  have lim := T.nolimit
  refine' enter (K := Mine.hd.heap_39 w.params) (binds := [(Str.ofString "a", .int a ta), (Str.ofString "b", .int b tb)]) ?kW ?kl ?kR ?ko ?kc ?kb ?kloc ?kb2 ?c1 ?c2 ?c3 ?c4
  case ko => k_is
  case kc => k_is
  case kb => exact BindsTo.of_eq rfl
  case kloc => exact locs rfl
  case c1 => exact rfl
  case c2 => exact rfl
  case c3 => exact rfl
  case c4 => decide
  case kR => simp only [recursionLimit]; exact Nat.lt_of_le_of_lt (by assumption) (by decide)
  case kW => exact X
  case kl => exact lim
  k_whole
  intro L h₁ F N
  have EF := eu_facts ha hb
  have EB := euclid_bound a b ha hb 1073741823 (by decide) ha2 hb2
  have EU := fun tk : Nat => euclid_ok _ a b (dp + 1) (un + 3) ⟨h₁, s.gens, s.drawn, tk, s.os⟩ ta tb rfl (W'.keeps F.keep) ha hb ha2 hb2 (by have := esteps_le 30 a b hb (by exact Int.lt_of_le_of_lt (by assumption) (by decide)); lia) (by have := esteps_le 30 a b hb (by lia); lia)
  dsimp only at EF
  have ES : EuSpec a b _ _ _ := euclid_spec _ a b rfl ha hb
  have hg1 : (euclid a b).2.2 ≤ 1073741823 := by
    rw [ES.gcd]
    by_cases h0 : a = 0
    · subst h0; simp; (first | lia | omega)
    · exact Int.le_trans (Int.gcd_le_left _ (by lia)) ha2
  clear ES
  generalize euclid a b = e at *
  obtain ⟨x, y, d⟩ := e
  dsimp only at *
  refine ex0_5 (EF) ?_
  clear EF
  intro f1 f2 f3 f4 f5
  (repeat' (first | (with_reducible show wpAny _ _ _ _ _ _); (fail_if_success (first | (with_reducible show wpAny _ _ (exec (Stmt.While _ _ _ _) _) _ _ _) | (with_reducible show wpAny _ _ (exec (Stmt.For _ _ _ _ _) _) _ _ _) | (with_reducible show wpAny _ _ (call (Value.ref _) _ _) _ _ _))); (first | (first | ((with_reducible show wpAny _ _ (eval (.Name _ _) _) _ _ _); (refine' nameX_L ?zf ?zv ?_; (case zf => assumption); (case zv => (repeat' first | assumption | exact if_pos rfl | refine (if_neg (by decide)).trans ?_)))) | ((with_reducible show wpAny _ _ (binaryOp .FloorDiv (.int _ _) (.int _ _)) _ _ _); refine floordiv_int (by first | lia | omega) ?_ (Or.inl (PyProof.noPylong_small (by first | lia | omega)))) | ((with_reducible show wpAny _ _ (binaryOp .Mult (.int _ _) (.int _ _)) _ _ _); first | refine PyProof.Rows.mul_int ?_ (PySem.IntMulOk.of_right (PySem.intBits_le_64 (by first | lia | omega) (by first | lia | omega))) | refine PyProof.Rows.mul_int ?_ (PySem.IntMulOk.of_left (PySem.intBits_le_64 (by first | lia | omega) (by first | lia | omega)))) | walk1) | (dsimp only; walk1)) | (with_reducible show ite _ _ _); split; all_goals (try (rename_i hq; exfalso; simp only [decide_eq_true_eq, Bool.not_eq_true, decide_eq_false_iff_not, beq_iff_eq, bne_iff_ne, beq_eq_false_iff_ne, bne_eq_false_iff_eq, ne_eq, Bool.false_eq_true, not_true_eq_false, not_false_eq_true] at hq <;> first | lia | omega))))
  refine ⟨X.keeps F.keep, ?_⟩
  refine use F N (EU _) rfl (Nat.le_refl _) (Nat.le_refl _) ?_
  intro v h' tk' F₁ N₁ hk hq1_
  refine ex2_4 (hq1_) ?_
  clear hq1_
  intro D vs hq2_ hD hD' hI
  obtain rfl := hq2_
  have N₂ := News.add F N₁ hD hD'
  refine ex3_1 (ints3 hI) ?_
  intro tx ty td hq3_
  obtain rfl := hq3_
  clear hI
  clear F N N₁ EU
  (repeat' (first | (with_reducible show wpAny _ _ _ _ _ _); (fail_if_success (first | (with_reducible show wpAny _ _ (exec (Stmt.While _ _ _ _) _) _ _ _) | (with_reducible show wpAny _ _ (exec (Stmt.For _ _ _ _ _) _) _ _ _) | (with_reducible show wpAny _ _ (call (Value.ref _) _ _) _ _ _))); (first | (first | ((with_reducible show wpAny _ _ (eval (.Name _ _) _) _ _ _); (refine' nameX_L ?zf ?zv ?_; (case zf => assumption); (case zv => (repeat' first | assumption | exact if_pos rfl | refine (if_neg (by decide)).trans ?_)))) | ((with_reducible show wpAny _ _ (binaryOp .FloorDiv (.int _ _) (.int _ _)) _ _ _); refine floordiv_int (by first | lia | omega) ?_ (Or.inl (PyProof.noPylong_small (by first | lia | omega)))) | ((with_reducible show wpAny _ _ (binaryOp .Mult (.int _ _) (.int _ _)) _ _ _); first | refine PyProof.Rows.mul_int ?_ (PySem.IntMulOk.of_right (PySem.intBits_le_64 (by first | lia | omega) (by first | lia | omega))) | refine PyProof.Rows.mul_int ?_ (PySem.IntMulOk.of_left (PySem.intBits_le_64 (by first | lia | omega) (by first | lia | omega)))) | walk1) | (dsimp only; walk1)) | (with_reducible show ite _ _ _); split; all_goals (try (rename_i hq; exfalso; simp only [decide_eq_true_eq, Bool.not_eq_true, decide_eq_false_iff_not, beq_iff_eq, bne_iff_ne, beq_eq_false_iff_ne, bne_eq_false_iff_eq, ne_eq, Bool.false_eq_true, not_true_eq_false, not_false_eq_true] at hq <;> first | lia | omega))))
  all_goals (try dsimp only)
  all_goals (try (rename Fr _ _ _ _ => F'))
  all_goals (clear X W' T lim hD hD' hk)
  all_goals first
    | (exfalso; simp only [decide_eq_true_eq, Bool.not_eq_true, decide_eq_false_iff_not, beq_iff_eq, bne_iff_ne, beq_eq_false_iff_ne, bne_eq_false_iff_eq, ne_eq, Bool.false_eq_true, not_true_eq_false, not_false_eq_true] at *; (first | lia | omega))
    | (refine ⟨⟨F'.keep, rfl, rfl, rfl⟩, ?_⟩; congr 1; simp only [decide_eq_true_eq, Bool.not_eq_true, decide_eq_false_iff_not, beq_iff_eq, bne_iff_ne, beq_eq_false_iff_ne, bne_eq_false_iff_eq, ne_eq, Bool.false_eq_true, not_true_eq_false, not_false_eq_true] at *; first | (first | lia | omega) | (split <;> (first | lia | omega)))
    | (refine ⟨⟨F'.keep, rfl, rfl, rfl⟩, ?_⟩; congr 1; done)
    | (refine ⟨⟨F'.keep, rfl, rfl, rfl⟩, ?_⟩; congr 1; assumption)
    | (refine ⟨⟨F'.keep, rfl, rfl, rfl⟩, ?_⟩; rename_i hq; rw [hq])

/-- the sum that a row makes with its numbers -/
noncomputable def dot : List Int → List Int → Int
  | r :: rs, n :: ns => r * n + dot rs ns
  | _, _ => 0
/-- a row of the numbers -/
noncomputable def IsRow (ns : List Int) (t : Int) (r : List Int) : Prop := r.length = ns.length ∧ (∀ x ∈ r, 0 ≤ x) ∧ dot r ns = t

/-- what _law_rows tells -/
noncomputable def rowsL : List Int → Int → List (List Int)
  | [], t => if t = 0 then [[]] else []
  | n :: ns, t => (List.range (Int.fdiv t n + 1).toNat).flatMap fun (k : Nat) => (rowsL ns (t - k * n)).map fun r => (k : Int) :: r

theorem dot_nonneg : ∀ (r ns : List Int), (∀ x ∈ r, 0 ≤ x) → (∀ n ∈ ns, 0 < n) → 0 ≤ dot r ns
  | [], _, _, _ => by simp [dot]
  | _ :: _, [], _, _ => by simp [dot]
  | x :: r, n :: ns, h, hn => by
    have := dot_nonneg r ns (fun y hy => h y (.tail _ hy)) fun m hm => hn m (.tail _ hm)
    have := Int.mul_nonneg (h x (.head _)) (Int.le_of_lt (hn n (.head _)))
    simp only [dot]; exact Int.add_nonneg (by assumption) (by assumption)

theorem rowsL_mem : ∀ (ns : List Int) (t : Int), (∀ n ∈ ns, 0 < n) → ∀ r, r ∈ rowsL ns t ↔ IsRow ns t r := by
  intro ns
  induction ns with
  | nil =>
    intro t _ r
    simp only [rowsL]
    constructor
    · intro h
      split at h
      · rename_i h0; rw [List.mem_singleton.mp h]; exact ⟨rfl, (fun x hx => nomatch hx), by simp [dot, h0]⟩
      · cases h
    · intro hq1_
      refine ex0_3 (hq1_) ?_
      clear hq1_
      intro h1 _ h3
      rw [List.eq_nil_of_length_eq_zero h1] at h3 ⊢
      simp [dot] at h3
      simp [h3]
  | cons n ns ih =>
    intro t hn r
    have hn0 := hn n (.head _)
    have ih := fun t => ih t fun m hm => hn m (.tail _ hm)
    refine ex0_3 (fmod_facts t hn0) ?_
    intro f0 f1 f2
    simp only [rowsL, List.mem_flatMap, List.mem_map, List.mem_range]
    constructor
    · intro hq2_
      refine ex1_2 (hq2_) ?_
      clear hq2_
      intro k hk hq3_
      refine ex1_2 (hq3_) ?_
      clear hq3_
      intro q hq hq4_
      obtain rfl := hq4_
      refine ex0_3 ((ih _ q).mp hq) ?_
      intro h1 h2 h3
      refine ⟨by simp [h1], fun x hx => ?_, by simp only [dot, h3]; lia⟩
      rcases List.mem_cons.mp hx with rfl | hx
      · exact Int.natCast_nonneg _
      · exact h2 x hx
    · intro hq5_
      refine ex0_3 (hq5_) ?_
      clear hq5_
      intro h1 h2 h3
      match r, h1 with
      | x :: q, h1 =>
        have hx := h2 x (.head _)
        have hq2 : ∀ y ∈ q, 0 ≤ y := fun y hy => h2 y (.tail _ hy)
        simp only [dot] at h3
        have hd := dot_nonneg q ns hq2 fun m hm => hn m (.tail _ hm)
        have hk : x ≤ Int.fdiv t n := by
          by_cases c : x ≤ Int.fdiv t n
          · exact c
          · have : n * (Int.fdiv t n + 1) ≤ n * x := Int.mul_le_mul_of_nonneg_left (by exact Int.lt_of_not_ge (by assumption)) (by exact Int.le_of_lt (by assumption))
            rw [Int.mul_add, Int.mul_one, Int.mul_comm n x] at this
            (clear c hq2 hx h2 h1 f0 ih hn0 hn; omega)
        refine ⟨x.toNat, by (clear hd hq2 h3 h2 h1 f2 f1 f0 ih hn0 hn; omega), q, (ih _ q).mpr ⟨by simpa using h1, hq2, ?_⟩, ?_⟩
        · rw [Int.toNat_of_nonneg hx]; lia
        · rw [Int.toNat_of_nonneg hx]

theorem rowsL_asc : ∀ (ns : List Int) (t : Int), (rowsL ns t).Pairwise (fun x y => rowLt x y = true) := by
  intro ns
  induction ns with
  | nil => intro t; simp only [rowsL]; split <;> simp
  | cons n ns ih =>
    intro t
    simp only [rowsL]
    rw [List.pairwise_flatMap]
    refine ⟨fun k _ => ?_, ?_⟩
    · rw [List.pairwise_map]
      exact (ih _).imp fun {x y} h => by simp [rowLt, h]
    · refine List.Pairwise.imp_of_mem ?_ List.pairwise_lt_range
      intro i j _ _ hij x hx y hy
      refine ex1_2 (List.mem_map.mp hx) ?_
      intro p _ hq6_
      obtain rfl := hq6_
      refine ex1_2 (List.mem_map.mp hy) ?_
      intro q _ hq7_
      obtain rfl := hq7_
      simp only [rowLt]
      rw [if_neg (by lia)]
      simp; omega

/-- two lists in order with the same members are one -/
theorem asc_unique : ∀ (l m : List (List Int)), l.Pairwise (fun x y => rowLt x y = true) → m.Pairwise (fun x y => rowLt x y = true) → (∀ r, r ∈ l ↔ r ∈ m) → l = m
  | [], [], _, _, _ => rfl
  | [], b :: m, _, _, h => by have := (h b).mpr (.head _); cases this
  | a :: l, [], _, _, h => by have := (h a).mp (.head _); cases this
  | a :: l, b :: m, hl, hm, h => by
    refine ex0_2 (List.pairwise_cons.mp hl) ?_
    intro h1 h2
    refine ex0_2 (List.pairwise_cons.mp hm) ?_
    intro h3 h4
    have e : a = b := by
      rcases List.mem_cons.mp ((h a).mp (.head _)) with q | q
      · exact q
      · rcases List.mem_cons.mp ((h b).mpr (.head _)) with q2 | q2
        · exact q2.symm
        · have x := h3 a q
          have y := h1 b q2
          rw [rowLt_asymm _ _ x] at y; cases y
    subst e
    rw [asc_unique l m h2 h4 fun r => ?_]
    constructor
    · intro hr
      rcases List.mem_cons.mp ((h r).mp (.tail _ hr)) with q | q
      · subst q; have := h1 r hr; rw [rowLt_irrefl] at this; cases this
      · exact q
    · intro hr
      rcases List.mem_cons.mp ((h r).mpr (.tail _ hr)) with q | q
      · subst q; have := h3 r hr; rw [rowLt_irrefl] at this; cases this
      · exact q

theorem up_asc {a b : Int} (ha : 0 < a) (hb : 0 < b) : ∀ (n : Nat) (x y : Int), (y + 1).toNat = n → (up a b x y).Pairwise (fun p q => rowLt p q = true) := by
  intro n
  induction n using Nat.strongRecOn with
  | ind n ih =>
  intro x y hn
  by_cases hy : 0 ≤ y
  · rw [up_cons ⟨hy, ha⟩]
    rw [List.pairwise_append]
    refine ⟨by split <;> simp, ih _ (by (clear ih hb; omega)) _ _ rfl, fun p hp q hq => ?_⟩
    split at hp
    · rw [List.mem_singleton.mp hp]
      refine ex1_3 ((up_mem ha _ _ _ rfl).mp hq) ?_
      intro k hq8_ _ _
      obtain rfl := hq8_
      have : 0 ≤ (k : Int) * b := Int.mul_nonneg (Int.natCast_nonneg _) (by lia)
      simp only [rowLt]
      rw [if_neg (by (clear hq hp hy hn ih ha; lia))]
      simp; (clear hq hp hy hn ih ha; lia)
    · cases hp
  · rw [up_empty (fun q => hy q.1)]; exact .nil
theorem down_dsc {a b : Int} (_ha : 0 < a) (hb : 0 < b) : ∀ (n : Nat) (x y : Int), (x + 1).toNat = n → (down a b x y).Pairwise (fun p q => rowLt q p = true) := by
  intro n
  induction n using Nat.strongRecOn with
  | ind n ih =>
  intro x y hn
  by_cases hx : 0 ≤ x
  · rw [down_cons ⟨hx, hb⟩]
    rw [List.pairwise_append]
    refine ⟨by split <;> simp, ih _ (by lia) _ _ rfl, fun p hp q hq => ?_⟩
    split at hp
    · rw [List.mem_singleton.mp hp]
      refine ex1_3 ((down_mem hb _ _ _ rfl).mp hq) ?_
      intro k hq9_ _ _
      obtain rfl := hq9_
      have : 0 ≤ (k : Int) * b := Int.mul_nonneg (Int.natCast_nonneg _) (by lia)
      simp only [rowLt]
      rw [if_neg (by (clear hq hp hx hn ih _ha; lia))]
      simp; (clear hq hp hx hn ih _ha; lia)
    · cases hp
  · rw [down_empty (fun q => hx q.1)]; exact .nil

theorem baseL_nodup {a b c : Int} (ha : 0 < a) (hb : 0 < b) (hc : 0 ≤ c) : (baseL a b c).Nodup := by
  refine ex0_5 (gd_facts ha hb hc) ?_
  intro _ ha' _ hb' _
  unfold baseL
  dsimp only at *
  split
  · simp
  · split
    · simp
    · split
      · exact (up_asc ha' hb' _ _ _ rfl).imp fun {x y} q e => by subst e; rw [rowLt_irrefl] at q; cases q
      · exact (down_dsc ha' hb' _ _ _ rfl).imp fun {x y} q e => by subst e; rw [rowLt_irrefl] at q; cases q

theorem gfold_dvd : ∀ (rest : List Int) (g0 : Int), (∀ n ∈ rest, 0 < n) → 0 < g0 → let g := rest.foldl (fun g c => (Int.gcd g c : Int)) g0
    0 < g ∧ g ∣ g0 ∧ ∀ n ∈ rest, g ∣ n
  | [], g0, _, h0 => ⟨h0, Int.dvd_refl _, fun n hn => nomatch hn⟩
  | c :: rest, g0, h, h0 => by
    have hc := h c (.head _)
    refine ex0_3 (gfold_dvd rest (Int.gcd g0 c : Int) (fun n hn => h n (.tail _ hn)) (Int.ofNat_lt.mpr (Int.gcd_pos_of_ne_zero_left _ (by exact Int.ne_of_gt (by assumption))))) ?_
    intro a1 a2 a3
    refine ⟨a1, Int.dvd_trans a2 (Int.gcd_dvd_left _ _), fun n hn => ?_⟩
    rcases List.mem_cons.mp hn with rfl | hn
    · exact Int.dvd_trans a2 (Int.gcd_dvd_right _ _)
    · exact a3 n hn

theorem dot_scale (g : Int) : ∀ (r ns : List Int), (∀ n ∈ ns, g * Int.fdiv n g = n) → dot r ns = g * dot r (ns.map fun n => Int.fdiv n g)
  | [], _, _ => by simp [dot]
  | _ :: _, [], _ => by simp [dot]
  | x :: r, n :: ns, h => by
    have ih := dot_scale g r ns fun m hm => h m (.tail _ hm)
    have e := h n (.head _)
    simp only [dot, List.map_cons]
    rw [ih, Int.mul_add]
    congr 1
    rw [Int.mul_left_comm, e]

theorem solveL_spec : ∀ (m : Nat) (cs : List Int) (t : Int), cs.length = m → (∀ n ∈ cs, 0 < n) → 0 ≤ t → (∀ r, r ∈ solveL cs t ↔ IsRow cs t r) ∧ (solveL cs t).Nodup := by
  intro m
  induction m with
  | zero =>
    intro cs t h _ _
    rw [List.eq_nil_of_length_eq_zero h, solveL_nil]
    refine ⟨fun r => ?_, by split <;> simp⟩
    constructor
    · intro h
      split at h
      · rename_i h0; rw [List.mem_singleton.mp h]; exact ⟨rfl, (fun x hx => nomatch hx), by simp [dot, h0]⟩
      · cases h
    · intro hq10_
      refine ex0_3 (hq10_) ?_
      clear hq10_
      intro h1 _ h3
      rw [List.eq_nil_of_length_eq_zero h1] at h3 ⊢
      simp [dot] at h3
      simp [h3]
  | succ m ih =>
    intro cs t h hp ht
    match cs, h with
    | [c], h =>
      have hc := hp c (.head _)
      refine ex0_3 (fmod_facts t hc) ?_
      intro f0 f1 f2
      have fn := fdiv_nonneg' ht hc
      rw [solveL_one]
      refine ⟨fun r => ?_, by split <;> simp⟩
      constructor
      · intro h
        split at h
        · rename_i h0
          rw [List.mem_singleton.mp h]
          refine ⟨rfl, fun x hx => ?_, ?_⟩
          · rw [List.mem_singleton.mp hx]; exact fn
          · simp only [dot]; rw [Int.mul_comm]; (clear h fn f1 f0 hc hp ht ih; omega)
        · cases h
      · intro hq11_
        refine ex0_3 (hq11_) ?_
        clear hq11_
        intro h1 h2 h3
        match r, h1 with
        | [x], _ =>
          simp only [dot, Int.add_zero] at h3
          have hm : Int.fmod t c = 0 := by
            rw [Int.fmod_eq_emod_of_nonneg t (by lia), ← h3]; simp
          have e : Int.fdiv t c = x := by
            rw [hm, Int.add_zero] at f2
            exact Int.eq_of_mul_eq_mul_left (show c ≠ 0 by lia) (by rw [← f2, ← h3, Int.mul_comm])
          rw [if_pos hm, e]; simp
    | [a, b], h =>
      have ha := hp a (.head _)
      have hb := hp b (.tail _ (.head _))
      rw [solveL_two]
      refine ⟨fun r => ?_, baseL_nodup ha hb ht⟩
      rw [baseL_mem ha hb ht]
      constructor
      · intro hq12_
        refine ex2_4 (hq12_) ?_
        clear hq12_
        intro x y hq13_ hx hy e
        obtain rfl := hq13_
        refine ⟨rfl, fun z hz => ?_, ?_⟩
        · rcases List.mem_cons.mp hz with rfl | hz
          · exact hx
          · rw [List.mem_singleton.mp hz]; exact hy
        · simp only [dot]; rw [Int.mul_comm x, Int.mul_comm y]; lia
      · intro hq14_
        refine ex0_3 (hq14_) ?_
        clear hq14_
        intro h1 h2 h3
        match r, h1 with
        | [x, y], _ =>
          refine ⟨x, y, rfl, h2 x (.head _), h2 y (.tail _ (.head _)), ?_⟩
          simp only [dot] at h3
          rw [Int.mul_comm a, Int.mul_comm b]; lia
    | a :: b :: c :: rest, h =>
      have ha := hp a (.head _)
      have hb := hp b (.tail _ (.head _))
      have hc := hp c (.tail _ (.tail _ (.head _)))
      have hrest : ∀ n ∈ rest, 0 < n := fun n hn => hp n (.tail _ (.tail _ (.tail _ hn)))
      rw [solveL_big]
      refine ex0_3 (gfold_dvd rest (Int.gcd b c : Int) hrest (Int.ofNat_lt.mpr (Int.gcd_pos_of_ne_zero_left _ (by lia)))) ?_
      intro g1 g2 g3
      generalize rest.foldl (fun g c => (Int.gcd g c : Int)) (Int.gcd b c : Int) = g at *
      have hall : ∀ n ∈ b :: c :: rest, 0 < n ∧ g ∣ n := fun n hn => by
        rcases List.mem_cons.mp hn with rfl | hn
        · exact ⟨hb, Int.dvd_trans g2 (Int.gcd_dvd_left _ _)⟩
        · rcases List.mem_cons.mp hn with rfl | hn
          · exact ⟨hc, Int.dvd_trans g2 (Int.gcd_dvd_right _ _)⟩
          · exact ⟨hrest n hn, g3 n hn⟩
      have hq : ∀ n ∈ b :: c :: rest, g * Int.fdiv n g = n := fun n hn => (fdiv_dvd g1 (hall n hn).1 (hall n hn).2).2.2
      have hpos : ∀ n ∈ (b :: c :: rest).map fun n => Int.fdiv n g, 0 < n := fun n hn => by
        refine ex1_2 (List.mem_map.mp hn) ?_
        intro k hk hq15_
        obtain rfl := hq15_
        exact (fdiv_dvd g1 (hall k hk).1 (hall k hk).2).1
      have IH := fun s (hs : 0 ≤ s) => ih ((b :: c :: rest).map fun n => Int.fdiv n g) s (by simp at h ⊢; omega) hpos hs
      refine ⟨fun r => ?_, ?_⟩
      · rw [List.mem_flatMap]
        constructor
        · intro hq16_
          refine ex1_2 (hq16_) ?_
          clear hq16_
          intro p hpm hr
          refine ex2_4 ((baseL_mem ha g1 ht p).mp hpm) ?_
          intro x s hq17_ hx hs e
          obtain rfl := hq17_
          refine ex1_2 (List.mem_map.mp hr) ?_
          intro q hqm hq18_
          obtain rfl := hq18_
          refine ex0_3 (((IH s hs).1 q).mp (by simpa using hqm)) ?_
          intro k1 k2 k3
          refine ⟨by simp at k1 ⊢; omega, fun z hz => ?_, ?_⟩
          · rcases List.mem_cons.mp hz with rfl | hz
            · simpa using hx
            · exact k2 z hz
          · show ([x, s].getD 0 0) * a + dot q (b :: c :: rest) = t
            rw [dot_scale g q _ hq, k3, Int.mul_comm ([x, s].getD 0 0) a]
            simpa using e
        · intro hq19_
          refine ex0_3 (hq19_) ?_
          clear hq19_
          intro k1 k2 k3
          match r, k1 with
          | x :: q, k1 =>
            simp only [dot] at k3
            have hd := dot_scale g q _ hq
            have hs : 0 ≤ dot q ((b :: c :: rest).map fun n => Int.fdiv n g) := dot_nonneg _ _ (fun y hy => k2 y (.tail _ hy)) hpos
            refine ⟨[x, dot q ((b :: c :: rest).map fun n => Int.fdiv n g)], (baseL_mem ha g1 ht _).mpr ⟨_, _, rfl, k2 x (.head _), hs, ?_⟩, ?_⟩
            · rw [← hd, Int.mul_comm a]; exact k3
            · refine List.mem_map.mpr ⟨q, ?_, by simp⟩
              have := ((IH _ hs).1 q).mpr ⟨by simp at k1 ⊢; omega, fun y hy => k2 y (.tail _ hy), rfl⟩
              simpa using this
      · rw [List.nodup_iff_pairwise_ne, List.pairwise_flatMap]
        refine ⟨fun p hpm => ?_, ?_⟩
        · refine ex2_4 ((baseL_mem ha g1 ht p).mp hpm) ?_
          intro x s hq20_ hx hs e
          obtain rfl := hq20_
          unfold solveF
          rw [List.pairwise_map]
          refine List.Pairwise.imp ?_ (show List.Pairwise (fun u v : List Int => u ≠ v) (solveL ((b :: c :: rest).map fun c => Int.fdiv c g) ([x, s].getD 1 0)) from (IH s hs).2)
          intro u v huv e2
          exact huv (by simpa using e2)
        · refine List.Pairwise.imp_of_mem ?_ (baseL_nodup ha g1 ht)
          intro p q hpm hqm hpq u hu v hv e2
          refine ex2_4 ((baseL_mem ha g1 ht p).mp hpm) ?_
          intro x s hq21_ _ _ e
          obtain rfl := hq21_
          refine ex2_4 ((baseL_mem ha g1 ht q).mp hqm) ?_
          intro x' s' hq22_ _ _ e'
          obtain rfl := hq22_
          refine ex1_2 (List.mem_map.mp hu) ?_
          intro u' _ hq23_
          obtain rfl := hq23_
          refine ex1_2 (List.mem_map.mp hv) ?_
          intro v' _ hq24_
          obtain rfl := hq24_
          have hxx : x = x' := by simpa using (List.cons.inj e2).1
          subst hxx
          have : s = s' := Int.eq_of_mul_eq_mul_left (show g ≠ 0 by lia) (by lia)
          subst this
          exact hpq rfl

/-- how many rows there are -/
noncomputable def cnt : List Nat → Nat → Nat
  | [], t => if t = 0 then 1 else 0
  | n :: ns, t => ((List.range (t / n + 1)).map fun k => cnt ns (t - k * n)).sum

theorem cnt_eq : ∀ (ns : List Nat) (t : Nat), (∀ n ∈ ns, 0 < n) → (rowsL (ns.map fun n : Nat => (n : Int)) (t : Int)).length = cnt ns t := by
  intro ns
  induction ns with
  | nil =>
    intro t _
    simp only [List.map_nil, rowsL, cnt]
    by_cases h : t = 0
    · subst h; simp
    · rw [if_neg (by lia), if_neg h]; rfl
  | cons n ns ih =>
    intro t hn
    have hn0 := hn n (.head _)
    simp only [List.map_cons, rowsL, cnt, List.length_flatMap, List.length_map]
    have e : (Int.fdiv (t : Int) (n : Int) + 1).toNat = t / n + 1 := by
      rw [Int.fdiv_eq_ediv_of_nonneg _ (by lia), show ((t : Int) / (n : Int)) = ((t / n : Nat) : Int) from (Int.natCast_ediv t n).symm]
      generalize t / n = q
      lia
    rw [e]
    congr 1
    refine List.map_congr_left fun k hk => ?_
    have hk' : k ≤ t / n := by have := List.mem_range.mp hk; lia
    have hkn : k * n ≤ t := Nat.le_trans (Nat.mul_le_mul_right n hk') (Nat.div_mul_le_self t n)
    rw [← ih (t - k * n) fun m hm => hn m (.tail _ hm)]
    congr 2
    (clear hk' hk e hn0 hn ih; omega)

theorem perm_of_mem {α : Type} [DecidableEq α] {l m : List α} (hl : l.Nodup) (hm : m.Nodup) (h : ∀ x, x ∈ l ↔ x ∈ m) : l.Perm m := by
  exact (List.perm_ext_iff_of_nodup hl hm).mpr h

theorem rowsL_nodup (ns : List Int) (t : Int) : (rowsL ns t).Nodup := (rowsL_asc ns t).imp fun {x y} q e => by subst e; rw [rowLt_irrefl] at q; cases q

theorem solveL_perm {cs : List Int} {t : Int} (hp : ∀ n ∈ cs, 0 < n) (ht : 0 ≤ t) : (solveL cs t).Perm (rowsL cs t) := by
  refine ex0_2 (solveL_spec _ cs t rfl hp ht) ?_
  intro h1 h2
  exact perm_of_mem h2 (rowsL_nodup cs t) fun r => (h1 r).trans (rowsL_mem cs t hp r).symm


theorem cnt_cons (n : Nat) (ns : List Nat) (t : Nat) (hn : 0 < n) : cnt (n :: ns) t = cnt ns t + if n ≤ t then cnt (n :: ns) (t - n) else 0 := by
  rw [cnt, List.range_succ_eq_map, List.map_cons, List.sum_cons, Nat.zero_mul, Nat.sub_zero]
  congr 1
  by_cases h : n ≤ t
  · rw [if_pos h, cnt, List.map_map]
    have e : t / n = (t - n) / n + 1 := by
      have := Nat.div_eq_sub_div hn h
      omega
    rw [e]
    congr 1
    refine List.map_congr_left fun k _ => ?_
    show cnt ns (t - (k + 1) * n) = _
    congr 1
    rw [Nat.add_mul, Nat.one_mul]
    lia
  · rw [if_neg h, Nat.div_eq_of_lt (by lia)]
    rfl
/-- one number more, told for all totals at once -/
noncomputable def dpGo (n : Nat) : List Nat → List Nat → List Nat
  | [], acc => acc.reverse
  | p :: prev, acc => dpGo n prev ((p + acc.getD (n - 1) 0) :: acc)
theorem dpGo_ok (n : Nat) (ns : List Nat) (hn : 0 < n) : ∀ (prev acc : List Nat), (∀ i, i < acc.length → acc.getD i 0 = cnt (n :: ns) (acc.length - 1 - i)) → (∀ i, i < prev.length → prev.getD i 0 = cnt ns (acc.length + i)) →
    (dpGo n prev acc).length = acc.length + prev.length ∧ ∀ i, i < acc.length + prev.length → (dpGo n prev acc).getD i 0 = cnt (n :: ns) i
  | [], acc, ha, _ => by
    refine ⟨by simp [dpGo], fun i hi => ?_⟩
    simp only [List.length_nil, Nat.add_zero] at hi
    have := ha (acc.length - 1 - i) (by (clear ha hn; omega))
    rw [show acc.length - 1 - (acc.length - 1 - i) = i by (clear this ha hn; omega)] at this
    rw [← this]
    simp only [dpGo, List.getD_eq_getElem?_getD, List.getElem?_reverse hi]
  | p :: prev, acc, ha, hp => by
    have h0 := hp 0 (by simp)
    simp only [List.getD_cons_zero, Nat.add_zero] at h0
    have hv : p + acc.getD (n - 1) 0 = cnt (n :: ns) acc.length := by
      rw [cnt_cons n ns _ hn, ← h0]
      congr 1
      by_cases h : n ≤ acc.length
      · rw [if_pos h, ha _ (by (clear h0 hp ha; omega))]
        congr 1; lia
      · rw [if_neg h, List.getD_eq_getElem?_getD, List.getElem?_eq_none (by lia)]; rfl
    have ih := dpGo_ok n ns hn prev ((p + acc.getD (n - 1) 0) :: acc) (fun i hi => ?_) (fun i hi => ?_)
    · rw [dpGo]
      simp only [List.length_cons] at ih ⊢
      refine ⟨by rw [ih.1]; lia, fun i hi => ih.2 i (by lia)⟩
    · cases i with
      | zero => simp only [List.getD_cons_zero, List.length_cons]; rw [hv]; congr 1
      | succ i =>
        simp only [List.length_cons] at hi ⊢
        rw [List.getD_cons_succ, ha i (by lia)]
        congr 1; lia
    · have := hp (i + 1) (by simp; omega)
      rw [List.getD_cons_succ] at this
      rw [this, List.length_cons]
      congr 1; (clear this hi hv h0 hp ha hn; lia)
/-- how many rows there are, for the totals below N -/
noncomputable def tab (N : Nat) : List Nat → List Nat
  | [] => (List.range N).map fun t => if t = 0 then 1 else 0
  | n :: ns => dpGo n (tab N ns) []
theorem tab_ok (N : Nat) : ∀ ns : List Nat, (∀ n ∈ ns, 0 < n) → (tab N ns).length = N ∧ ∀ i, i < N → (tab N ns).getD i 0 = cnt ns i
  | [], _ => ⟨by simp [tab], fun i hi => by simp [tab, cnt, hi]⟩
  | n :: ns, h => by
    refine ex0_2 (tab_ok N ns fun m hm => h m (.tail _ hm)) ?_
    intro l e
    have := dpGo_ok n ns (h n (.head _)) (tab N ns) [] (fun i hi => by simp at hi) fun i hi => by rw [l] at hi; simpa using e i hi
    simp only [List.length_nil, Nat.zero_add, l] at this
    exact this
theorem tab_lt {N m : Nat} {ns : List Nat} (hp : ∀ n ∈ ns, 0 < n) (h : (tab N ns).all (· < m) = true) {t : Nat} (ht : t < N) : cnt ns t < m := by
  refine ex0_2 (tab_ok N ns hp) ?_
  intro l e
  rw [← e t ht]
  have hlt : t < (tab N ns).length := by lia
  have := List.all_eq_true.mp h (tab N ns)[t] (List.getElem_mem hlt)
  simp [hlt] at this ⊢
  exact this

theorem chk3 : ∀ a < 6, ∀ b < 6, ∀ c < 6, a + b + c = 0 ∨ (tab 13 [a + 1, b + 1, c + 1]).all (· < 64) = true := by decide +kernel
theorem chk4 : ∀ a < 6, ∀ b < 6, ∀ x < 36, a + b + x = 0 ∨ (tab 7 [a + 1, b + 1, x / 6 + 1, x % 6 + 1]).all (· < 64) = true := by decide +kernel
theorem chk2 : ∀ a < 7, ∀ b < 7, (tab 13 [a + 1, b + 1]).all (· < 64) = true := by decide +kernel
theorem chk1 : ∀ a < 6, (tab 13 [a + 1]).all (· < 64) = true := by decide +kernel
theorem chk0 : (tab 13 [1, 1, 1]).all (· < 1001) = true ∧ (tab 7 [1, 1, 1, 1]).all (· < 1001) = true := by decide +kernel
theorem cnt3 (a : Nat) (ha : a < 6) (b : Nat) (hb : b < 6) (c : Nat) (hc : c < 6) (t : Nat) (ht : t < 13) : a + b + c = 0 ∨ cnt [a + 1, b + 1, c + 1] t < 64 :=
  (chk3 a ha b hb c hc).imp id fun h => tab_lt (by simp) h ht
theorem cnt4 (a b c d t : Nat) (ha : a < 6) (hb : b < 6) (hc : c < 6) (hd : d < 6) (ht : t < 7) : a + b + c + d = 0 ∨ cnt [a + 1, b + 1, c + 1, d + 1] t < 64 := by
  have := chk4 a ha b hb (c * 6 + d) (by lia)
  rw [show (c * 6 + d) / 6 = c by lia, show (c * 6 + d) % 6 = d by lia] at this
  rcases this with h | h
  · left; lia
  · right; exact tab_lt (by simp) h ht
theorem cnt2 (a : Nat) (ha : a < 7) (b : Nat) (hb : b < 7) (t : Nat) (ht : t < 13) : cnt [a + 1, b + 1] t < 64 := tab_lt (by simp) (chk2 a ha b hb) ht
theorem cnt1 (a : Nat) (ha : a < 6) (t : Nat) (ht : t < 13) : cnt [a + 1] t < 64 := tab_lt (by simp) (chk1 a ha) ht
theorem cnt_ones : (∀ t < 13, cnt [1, 1, 1] t ≤ 1000) ∧ ∀ t < 7, cnt [1, 1, 1, 1] t ≤ 1000 :=
  ⟨fun t ht => Nat.le_of_lt_succ (tab_lt (by simp) chk0.1 ht), fun t ht => Nat.le_of_lt_succ (tab_lt (by simp) chk0.2 ht)⟩

theorem baseL_11 (t : Int) (ht : 0 ≤ t) : (baseL 1 1 t).Pairwise (fun p q => rowLt p q = true) := by
  have hg : (Int.gcd 1 (Int.gcd 1 t) : Int) = 1 := by simp
  unfold baseL
  dsimp only
  rw [hg]
  have e1 : Int.fdiv (1 : Int) 1 = 1 := by decide
  have et : Int.fdiv t 1 = t := by simp
  rw [e1, et]
  have ee : euclid 1 1 = (0, 1, 1) := by
    rw [euclid_pos 1 (by decide)]
    have : Int.fmod (1 : Int) 1 = 0 := by decide
    rw [this, euclid_zero]
    decide
  rw [ee]
  dsimp only
  split
  · simp
  · split
    · simp
    · rw [if_pos (by simp)]
      exact up_asc (by decide) (by decide) _ _ _ rfl

theorem flat_asc {l : List (List Int)} {f : List Int → List (List Int)} (hl : l.Pairwise (fun p q => rowLt p q = true)) (hlen : ∀ p ∈ l, ∃ x s : Int, p = [x, s]) (hd : ∀ p ∈ l, ∀ q ∈ l, p.getD 0 0 = q.getD 0 0 → p = q)
    (hf : ∀ p ∈ l, ∃ m : List (List Int), f p = m.map (fun r => p.getD 0 0 :: r) ∧ m.Pairwise (fun p q => rowLt p q = true)) : (l.flatMap f).Pairwise (fun p q => rowLt p q = true) := by
  rw [List.pairwise_flatMap]
  refine ⟨fun p hp => ?_, List.Pairwise.imp_of_mem ?_ hl⟩
  · refine ex1_2 (hf p hp) ?_
    intro m e hm
    rw [e, List.pairwise_map]
    exact hm.imp fun {x y} h => by simp [rowLt, h]
  · intro p q hp hq hpq u hu v hv
    refine ex1_2 (hf p hp) ?_
    intro m e _
    refine ex1_2 (hf q hq) ?_
    intro m' e' _
    rw [e] at hu
    rw [e'] at hv
    refine ex1_2 (List.mem_map.mp hu) ?_
    intro u' _ hq1_
    obtain rfl := hq1_
    refine ex1_2 (List.mem_map.mp hv) ?_
    intro v' _ hq2_
    obtain rfl := hq2_
    have hne : p.getD 0 0 ≠ q.getD 0 0 := fun h => by
      have := hd p hp q hq h
      subst this
      rw [rowLt_irrefl] at hpq; cases hpq
    refine ex2_1 (hlen p hp) ?_
    intro x s hq3_
    obtain rfl := hq3_
    refine ex2_1 (hlen q hq) ?_
    intro x' s' hq4_
    obtain rfl := hq4_
    simp only [List.getD_cons_zero] at hne ⊢
    simp only [rowLt] at hpq ⊢
    rw [if_neg hne] at hpq ⊢
    exact hpq

theorem baseL_11_det {t : Int} (ht : 0 ≤ t) : ∀ p ∈ baseL 1 1 t, ∀ q ∈ baseL 1 1 t, p.getD 0 0 = q.getD 0 0 → p = q := by
  intro p hp q hq h
  refine ex2_4 ((baseL_mem (by decide) (by decide) ht p).mp hp) ?_
  intro x y hq5_ _ _ e
  obtain rfl := hq5_
  refine ex2_4 ((baseL_mem (by decide) (by decide) ht q).mp hq) ?_
  intro x' y' hq6_ _ _ e'
  obtain rfl := hq6_
  simp only [List.getD_cons_zero] at h
  subst h
  have : y = y' := by (first | lia | omega)
  subst this; rfl

theorem ones3_asc {t : Int} (ht : 0 ≤ t) : (solveL [1, 1, 1] t).Pairwise (fun p q => rowLt p q = true) := by
  rw [solveL_big]
  simp only [List.foldl_nil]
  rw [show (Int.gcd 1 1 : Int) = 1 by decide]
  refine flat_asc (baseL_11 t ht) (fun p hp => ?_) (baseL_11_det ht) fun p hp => ?_
  · refine ex2_2 ((baseL_mem (by decide) (by decide) ht p).mp hp) ?_
    intro x y e _
    exact ⟨x, y, e⟩
  · refine ex2_4 ((baseL_mem (by decide) (by decide) ht p).mp hp) ?_
    intro x y hq7_ _ hy _
    obtain rfl := hq7_
    refine ⟨_, rfl, ?_⟩
    show (solveL [Int.fdiv 1 1, Int.fdiv 1 1] ([x, y].getD 1 0)).Pairwise _
    rw [show Int.fdiv (1 : Int) 1 = 1 by decide, solveL_two]
    exact baseL_11 y hy
theorem ones4_asc {t : Int} (ht : 0 ≤ t) : (solveL [1, 1, 1, 1] t).Pairwise (fun p q => rowLt p q = true) := by
  rw [solveL_big]
  simp only [List.foldl_cons, List.foldl_nil]
  rw [show (Int.gcd (Int.gcd 1 1) 1 : Int) = 1 by decide]
  refine flat_asc (baseL_11 t ht) (fun p hp => ?_) (baseL_11_det ht) fun p hp => ?_
  · refine ex2_2 ((baseL_mem (by decide) (by decide) ht p).mp hp) ?_
    intro x y e _
    exact ⟨x, y, e⟩
  · refine ex2_4 ((baseL_mem (by decide) (by decide) ht p).mp hp) ?_
    intro x y hq8_ _ hy _
    obtain rfl := hq8_
    refine ⟨_, rfl, ?_⟩
    show (solveL [Int.fdiv 1 1, Int.fdiv 1 1, Int.fdiv 1 1] ([x, y].getD 1 0)).Pairwise _
    rw [show Int.fdiv (1 : Int) 1 = 1 by decide]
    exact ones3_asc hy

/-- a for over an iterator, by what holds between its turns -/
theorem for_walks {prog : Program} {w : World} {A : Around} {I : Addr} {fp wr : List Addr} {n : Nat} {P : Nat → Value → Prop} {St : Nat → Heap → Prop} (W : Walks prog w A I fp wr n P St) {target : Expr} {body : List Stmt} {env : Env} {R : Result → Shared → Prop}
    (Inv : Nat → Shared → Prop) (hst : ∀ i s, Inv i s → St i s.heap)
    (item : ∀ i s v h' tk, i < n → Inv i s → P i v → St (i + 1) h' → (∀ b o, b ∉ wr → s.heap.get? b = some o → h'.get? b = some o) →
      ∀ Q : Flow → Shared → Prop, (∀ f s₃, (match f with
          | .next | .cont => Inv (i + 1) s₃
          | .brk => R (.ok .next) s₃
          | .ret v => R (.ok (.ret v)) s₃) → Q f s₃) →
      wpAny (model prog w) A (assign target env v) (fun _ s₂ => wpAny (model prog w) A (execs body env) Q (fun _ _ => False) s₂) (fun _ _ => False) { s with heap := h', toks := tk })
    (done : ∀ s h' tk, Inv n s → (∀ b o, b ∉ wr → s.heap.get? b = some o → h'.get? b = some o) → R (.ok .next) { s with heap := h', toks := tk })
    (ht : ∀ v, letOwnedTupleGo target (.ref I) v = pure ()) : ∀ (k i : Nat) (s : Shared), i + k = n → Inv i s → codeAny (model prog w) A (.forLoop target (.ref I) body [] env) R s := by
  intro k
  induction k with
  | zero =>
    intro i s hi hv
    have e : i = n := by omega
    subst e
    exact for_turn (W.done s _ _ (hst i s hv) fun h' tk hk => done s h' tk hv hk) ht
  | succ k ih =>
    intro i s hi hv
    refine for_turn (W.item i s _ _ (by lia) (hst i s hv) fun v h' tk hp hs hk => ?_) ht
    refine wpAny_mono (item i s v h' tk (by lia) hv hp hs hk _ fun _ _ x => x) (fun _ s₂ h₂ => wpAny_mono h₂ (fun f s₃ h₃ => ?_) fun _ _ x => x) fun _ _ x => x
    cases f with
    | next => exact ih (i + 1) s₃ (by lia) h₃
    | cont => exact ih (i + 1) s₃ (by lia) h₃
    | brk => exact h₃
    | ret v => exact h₃
/-- all that stands in h beside hb, L and S -/
noncomputable def restOf2 (hb h : Heap) (L S : Addr) : List (Addr × Obj) := (restOf hb h L).filter fun p => decide (p.1 ≠ S)
theorem rest2_ne {hb h : Heap} {L S : Addr} : ∀ p ∈ restOf2 hb h L S, p.1 ≠ S := fun p hp => of_decide_eq_true (List.mem_filter.mp hp).2
theorem rest2_news {hb h : Heap} {L S : Addr} : News hb L h (restOf2 hb h L S) := fun p hp => rest_news p (List.mem_filter.mp hp).1
theorem rest2_kept {hb h h' : Heap} {L S : Addr} {m : Str → Option Value} {news : List (Addr × Obj)} (F : Fr hb L h' m) (N : News hb L h' news) (hs : ∀ p ∈ restOf2 hb h L S, p ∈ news) (hbase : ∀ b o, hb.get? b = some o → h.get? b = some o) :
    ∀ b o, b ≠ L → b ≠ S → h.get? b = some o → h'.get? b = some o := by
  intro b o hL hS e
  cases hn : hb.get? b with
  | none => exact (N _ (hs _ (List.mem_filter.mpr ⟨rest_mem e hL hn, decide_eq_true hS⟩))).1
  | some o₂ =>
    have hh := hbase b o₂ hn
    rw [e] at hh
    cases hh
    exact F.keep b _ hn

theorem Fr.but {base h h' : Heap} {L I : Addr} {m : Str → Option Value} {wr : List Addr} (F : Fr base L h m) (hw : ∀ b ∈ wr, b = I) (hI : base.get? I = none) (hL : I ≠ L) (k : ∀ b o, b ∉ wr → h.get? b = some o → h'.get? b = some o) : Fr base L h' m :=
  ⟨F.ns.at' fun o e => k L o (fun q => hL (hw _ q).symm) e, fun b o e => k b o (fun q => by rw [hw _ q, hI] at e; cases e) (F.keep b o e), F.above⟩
theorem Fr.seq_ne {h₀ h : Heap} {L D : Addr} {m : Str → Option Value} {o : Obj} {its : Array Value} {c : Nat} (F : Fr h₀ L h m) (e : h.get? D = some o) (hd : o.data = .seq its c) : D ≠ L := fun q => by
  refine ex3_3 (F.ns) ?_
  intro oL es ep hL hdL _
  rw [q, hL] at e; cases e; rw [hd] at hdL; cases hdL
theorem RowsAt.ne {h : Heap} {vs : List Value} {rs : List (List Int)} (x : RowsAt h vs rs) {b D : Addr} {o : Obj} (hm : Value.ref D ∈ vs) (e : h.get? b = some o) (hc : o.cls ≠ .type "tuple") : D ≠ b := fun q => by
  refine ex1_1 (x.lt D hm) ?_
  intro ws e'
  rw [q, e] at e'; cases e'; exact hc rfl

theorem rowsL_pre {n : Int} {ns : List Int} {t : Int} {i : Nat} (hi : i < (Int.fdiv t n + 1).toNat) : ((List.range i).flatMap fun (k : Nat) => (rowsL ns (t - k * n)).map fun r => (k : Int) :: r).length + (rowsL ns (t - i * n)).length ≤ (rowsL (n :: ns) t).length := by
  refine ex1_1 ((⟨_, (Nat.add_sub_cancel' hi).symm⟩ : ∃ k, (Int.fdiv t n + 1).toNat = i + 1 + k)) ?_
  intro k hk
  rw [rowsL, hk, List.range_add, List.range_succ]
  simp only [List.flatMap_append, List.length_append, List.flatMap_cons, List.flatMap_nil, List.append_nil, List.length_map]
  lia
theorem add_row {prog : Program} {w : World} {A : Around} {E : Value → Shared → Prop} {s : Shared} {h₀ : Heap} {L : Addr} {m : Str → Option Value} {news : List (Addr × Obj)} {t b : Addr} {v : Value} {ws : List Value} {Q : Value → Shared → Prop} (F : Fr h₀ L s.heap m) (N : News h₀ L s.heap news) (ht : (t, tupObj [v]) ∈ news) (hb : s.heap.get? b = some (tupObj ws)) (hsz : ws.length ≤ 1000)
    (k : ∀ D h', Fr h₀ L h' m → News h₀ L h' ((D, tupObj (v :: ws)) :: news) → Q (.ref D) { s with heap := h' }) : wpAny (model prog w) A (binaryOp .Add (.ref t) (.ref b)) Q E s := by
  refine add_tuples (vs := [v]) (ws := ws) F N ⟨_, (N _ ht).1, rfl, _, rfl⟩ ⟨_, hb, rfl, _, rfl⟩ (fun e => by cases e) (fun _ e => ?_) (fun _ _ h' F' N' => k _ h' F' N') (by rw [sizeLine_eq]; simp; lia)
  subst e
  refine k t s.heap F fun p hp => ?_
  rcases List.mem_cons.mp hp with rfl | hp
  · exact N _ ht
  · exact N p hp
/-- in the midst of _law_rows: the rows told so far -/
structure RowsSt (base : Heap) (L Nn S : Addr) (t : Int) (tt : Tok) (done : List (List Int)) (m : Str → Option Value) (h : Heap) : Prop where
  fr : Fr base L h m
  ht : m (Str.ofString "total") = some (.int t tt)
  hn : m (Str.ofString "numbers") = some (.ref Nn)
  hr : m (Str.ofString "rows") = some (.ref S)
  lst : ∃ acc c, h.get? S = some (lstObj acc c) ∧ RowsAt h acc.toList done
  hL : S ≠ L
  hb : base.get? S = none

theorem RowsSt.moved {base : Heap} {L Nn S : Addr} {t : Int} {tt : Tok} {done : List (List Int)} {m m' : Str → Option Value} {h h' : Heap} (x : RowsSt base L Nn S t tt done m h) (F : Fr base L h' m') (k : ∀ b o, b ≠ L → (b = S ∨ o.cls = .type "tuple") → h.get? b = some o → h'.get? b = some o)
    (ht : m' (Str.ofString "total") = m (Str.ofString "total")) (hn : m' (Str.ofString "numbers") = m (Str.ofString "numbers")) (hr : m' (Str.ofString "rows") = m (Str.ofString "rows")) : RowsSt base L Nn S t tt done m' h' := by
  refine ex2_2 (x.lst) ?_
  intro acc c e R
  refine ⟨F, ht.trans x.ht, hn.trans x.hn, hr.trans x.hr, ⟨acc, c, k _ _ x.hL (.inl rfl) e, R.keep fun D o hm e => ?_⟩, x.hL, x.hb⟩
  refine ex1_1 (R.lt D hm) ?_
  intro ws e'
  refine k D o (fun q => x.fr.tup_ne (items := ws.toArray) ⟨_, e', rfl, _, rfl⟩ q) (.inr ?_) e
  rw [e] at e'; cases e'; rfl
theorem RowsSt.S_ne {base : Heap} {L Nn S : Addr} {t : Int} {tt : Tok} {done : List (List Int)} {m : Str → Option Value} {h : Heap} (x : RowsSt base L Nn S t tt done m h) {b : Addr} {o : Obj} (e : h.get? b = some o) (hc : o.cls ≠ .type "list") : S ≠ b := by
  rintro rfl
  refine ex2_2 (x.lst) ?_
  intro acc c e' _
  rw [e] at e'; cases e'; exact hc rfl
/-- what is told of _law_rows -/
noncomputable def RowsOk (w : World) (ns : List Int) : Prop :=
  ∀ (s : Shared) (t : Int) (tt : Tok) (Nn : Addr) (o : Obj) (vs : List Value) (c : Nat) (dp un : Nat), Wd w s.heap → s.heap.get? Nn = some o → o.cls = .type "list" → o.data = .seq (List.toArray vs) c → IntsAre vs ns → (∀ n ∈ ns, 0 < n ∧ n ≤ 1000) → t ≤ 1000 → -1000 ≤ t → (rowsL ns t).length ≤ 10000 → dp + ns.length ≤ 700 → un + 10 * ns.length ≤ 8000 →
    wpAny (model PP w) (AA dp un) (call (.ref 47) [.int t tt, .ref Nn]) (fun v s' => Grew s s' ∧ ∃ S out c, v = .ref S ∧ s.heap.get? S = none ∧ s'.heap.get? S = some (lstObj (List.toArray out) c) ∧ RowsAt s'.heap out (rowsL ns t)) (fun _ _ => False) s

set_option maxHeartbeats 2000000 in
theorem law_rows_nil {w : World} : RowsOk w [] := by
  intro s t tt Nn o vs c dp un W ho hc hd hI _ ht ht2 _ hdp hun
  cases hI
  have W' := W
  obtain ⟨X, p, loose, mean, mg, mb, T⟩ := W
  revert X
  show (Mine.hd.heap_39 w.params).In s.heap → wpAny (model PySem.Challenge.rw_jf0027_01.row.prog w) (AA dp un) (call (.ref 47) [.int t tt, .ref Nn]) (fun v s' => Grew s s' ∧ ∃ S out c, v = .ref S ∧ s.heap.get? S = none ∧ s'.heap.get? S = some (lstObj (List.toArray out) c) ∧ RowsAt s'.heap out (rowsL [] t)) (fun _ _ => False) s
  k_fill
  intro X
  have lim := T.nolimit
  have hl : s.heap.IsList Nn (List.toArray []) := ⟨o, ho, hc, c, hd⟩
  refine' enter (K := Mine.hd.heap_39 w.params) (binds := [(Str.ofString "total", .int t tt), (Str.ofString "numbers", .ref Nn)]) ?kW ?kl ?kR ?ko ?kc ?kb ?kloc ?kb2 ?c1 ?c2 ?c3 ?c4
  case ko => k_is
  case kc => k_is
  case kb => exact BindsTo.of_eq rfl
  case kloc => exact locs rfl
  case c1 => exact rfl
  case c2 => exact rfl
  case c3 => exact rfl
  case c4 => decide
  case kR => simp only [recursionLimit]; simp at hdp; exact Nat.lt_of_le_of_lt (by assumption) (by decide)
  case kW => exact X
  case kl => exact lim
  k_whole
  intro L h₁ F N
  (repeat' (first | (with_reducible show wpAny _ _ _ _ _ _); (fail_if_success (first | (with_reducible show wpAny _ _ (exec (Stmt.While _ _ _ _) _) _ _ _) | (with_reducible show wpAny _ _ (exec (Stmt.For _ _ _ _ _) _) _ _ _) | (with_reducible show wpAny _ _ (call (Value.ref _) _ _) _ _ _))); (first | (first | ((with_reducible show wpAny _ _ (eval (.Name _ _) _) _ _ _); (refine' nameX_L ?zf ?zv ?_; (case zf => assumption); (case zv => (repeat' first | assumption | exact if_pos rfl | refine (if_neg (by decide)).trans ?_)))) | ((with_reducible show wpAny _ _ (binaryOp .FloorDiv (.int _ _) (.int _ _)) _ _ _); refine floordiv_int (by first | lia | omega) ?_ (Or.inl (PyProof.noPylong_small (by first | lia | omega)))) | ((with_reducible show wpAny _ _ (binaryOp .Mult (.int _ _) (.int _ _)) _ _ _); first | refine PyProof.Rows.mul_int ?_ (PySem.IntMulOk.of_right (PySem.intBits_le_64 (by first | lia | omega) (by first | lia | omega))) | refine PyProof.Rows.mul_int ?_ (PySem.IntMulOk.of_left (PySem.intBits_le_64 (by first | lia | omega) (by first | lia | omega)))) | walk1) | (dsimp only; walk1)) | (with_reducible show ite _ _ _); split; all_goals (try (rename_i hq; exfalso; simp only [decide_eq_true_eq, Bool.not_eq_true, decide_eq_false_iff_not, beq_iff_eq, bne_iff_ne, beq_eq_false_iff_ne, bne_eq_false_iff_eq, ne_eq, Bool.false_eq_true, not_true_eq_false, not_false_eq_true] at hq <;> first | lia | omega))))
  · rename Fr _ _ _ _ => F'
    rename News _ _ _ _ => N'
    rename (t == 0) = true => h0
    refine ⟨⟨F'.keep, rfl, rfl, rfl⟩, _, _, _, rfl, (N' _ (.head _)).2.2, (N' _ (.head _)).1, ?_⟩
    rw [rowsL, if_pos (by simpa using h0)]
    exact .cons (N' _ (.tail _ (.head _))).1 .nil .nil
  · rename Fr _ _ _ _ => F'
    rename News _ _ _ _ => N'
    rename ¬ (t == 0) = true => h0
    refine ⟨⟨F'.keep, rfl, rfl, rfl⟩, _, [], _, rfl, (N' _ (.head _)).2.2, (N' _ (.head _)).1, ?_⟩
    rw [rowsL, if_neg (by simpa using h0)]
    exact .nil

set_option maxHeartbeats 4000000 in
theorem law_rows_cons {w : World} (n : Int) (ns : List Int) (ih : RowsOk w ns) : RowsOk w (n :: ns) := by
  intro s t tt Nn o vs c dp un W ho hc hd hI hpos ht ht2 hlen hdp hun
  refine ex2_2 (ints_cons hI) ?_
  clear hI
  intro tn vs hz hI
  subst hz
  have hI' : IntsAre (.int n tn :: vs) (n :: ns) := .cons _ _ hI
  have W' := W
  obtain ⟨X, p, loose, mean, mg, mb, T⟩ := W
  revert X
  show (Mine.hd.heap_39 w.params).In s.heap → wpAny (model PySem.Challenge.rw_jf0027_01.row.prog w) (AA dp un) (call (.ref 47) [.int t tt, .ref Nn]) (fun v s' => Grew s s' ∧ ∃ S out c, v = .ref S ∧ s.heap.get? S = none ∧ s'.heap.get? S = some (lstObj (List.toArray out) c) ∧ RowsAt s'.heap out (rowsL (n :: ns) t)) (fun _ _ => False) s
  k_fill
  intro X
  have lim := T.nolimit
  have hl : s.heap.IsList Nn (List.toArray (.int n tn :: vs)) := ⟨o, ho, hc, c, hd⟩
  refine' enter (K := Mine.hd.heap_39 w.params) (binds := [(Str.ofString "total", .int t tt), (Str.ofString "numbers", .ref Nn)]) ?kW ?kl ?kR ?ko ?kc ?kb ?kloc ?kb2 ?c1 ?c2 ?c3 ?c4
  case ko => k_is
  case kc => k_is
  case kb => exact BindsTo.of_eq rfl
  case kloc => exact locs rfl
  case c1 => exact rfl
  case c2 => exact rfl
  case c3 => exact rfl
  case c4 => decide
  case kR => simp only [recursionLimit]; simp at hdp; lia
  case kW => exact X
  case kl => exact lim
  k_whole
  intro L h₁ F N
  refine hideQ fun QM hQM => ?_
  have hn0 : 0 < n ∧ n ≤ 1000 := hpos n (.head _)
  (repeat' (first | (with_reducible show wpAny _ _ _ _ _ _); (fail_if_success (first | (with_reducible show wpAny _ _ (exec (Stmt.While _ _ _ _) _) _ _ _) | (with_reducible show wpAny _ _ (exec (Stmt.For _ _ _ _ _) _) _ _ _) | (with_reducible show wpAny _ _ (call (Value.ref _) _ _) _ _ _))); (first | (first | ((with_reducible show wpAny _ _ (eval (.Name _ _) _) _ _ _); (refine' nameX_L ?zf ?zv ?_; (case zf => assumption); (case zv => (repeat' first | assumption | exact if_pos rfl | refine (if_neg (by decide)).trans ?_)))) | ((with_reducible show wpAny _ _ (binaryOp .FloorDiv (.int _ _) (.int _ _)) _ _ _); refine floordiv_int (by first | lia | omega) ?_ (Or.inl (PyProof.noPylong_small (by first | lia | omega)))) | ((with_reducible show wpAny _ _ (binaryOp .Mult (.int _ _) (.int _ _)) _ _ _); first | refine PyProof.Rows.mul_int ?_ (PySem.IntMulOk.of_right (PySem.intBits_le_64 (by first | lia | omega) (by first | lia | omega))) | refine PyProof.Rows.mul_int ?_ (PySem.IntMulOk.of_left (PySem.intBits_le_64 (by first | lia | omega) (by first | lia | omega)))) | walk1) | (dsimp only; walk1)) | (with_reducible show ite _ _ _); split; all_goals (try (rename_i hq; exfalso; simp only [decide_eq_true_eq, Bool.not_eq_true, decide_eq_false_iff_not, beq_iff_eq, bne_iff_ne, beq_eq_false_iff_ne, bne_eq_false_iff_eq, ne_eq, Bool.false_eq_true, not_true_eq_false, not_false_eq_true] at hq <;> first | lia | omega))))
  all_goals (try (exfalso; rename decide (n :: ns = []) = true => hx; simp at hx; done))
  refine wpAny_For ?_ (fun _ => rfl)
  (repeat' (first | (with_reducible show wpAny _ _ _ _ _ _); (fail_if_success (first | (with_reducible show wpAny _ _ (exec (Stmt.While _ _ _ _) _) _ _ _) | (with_reducible show wpAny _ _ (exec (Stmt.For _ _ _ _ _) _) _ _ _) | (with_reducible show wpAny _ _ (call (Value.ref _) _ _) _ _ _))); (first | (first | ((with_reducible show wpAny _ _ (eval (.Name _ _) _) _ _ _); (refine' nameX_L ?zf ?zv ?_; (case zf => assumption); (case zv => (repeat' first | assumption | exact if_pos rfl | refine (if_neg (by decide)).trans ?_)))) | ((with_reducible show wpAny _ _ (binaryOp .FloorDiv (.int _ _) (.int _ _)) _ _ _); refine floordiv_int (by first | lia | omega) ?_ (Or.inl (PyProof.noPylong_small (by first | lia | omega)))) | ((with_reducible show wpAny _ _ (binaryOp .Mult (.int _ _) (.int _ _)) _ _ _); first | refine PyProof.Rows.mul_int ?_ (PySem.IntMulOk.of_right (PySem.intBits_le_64 (by first | lia | omega) (by first | lia | omega))) | refine PyProof.Rows.mul_int ?_ (PySem.IntMulOk.of_left (PySem.intBits_le_64 (by first | lia | omega) (by first | lia | omega)))) | walk1) | (dsimp only; walk1)) | (with_reducible show ite _ _ _); split; all_goals (try (rename_i hq; exfalso; simp only [decide_eq_true_eq, Bool.not_eq_true, decide_eq_false_iff_not, beq_iff_eq, bne_iff_ne, beq_eq_false_iff_ne, bne_eq_false_iff_eq, ne_eq, Bool.false_eq_true, not_true_eq_false, not_false_eq_true] at hq <;> first | lia | omega))))
  rw [show (n :: ns).getD (Int.toNat 0) 0 = n from rfl]
  refine floordiv_int (by lia) ?_ (Or.inl (PyProof.noPylong_small (by (clear hl lim X T W' hd hI hun hdp hlen ht2 ht hpos hc ho ih; omega))))
  (repeat' (first | (with_reducible show wpAny _ _ _ _ _ _); (fail_if_success (first | (with_reducible show wpAny _ _ (exec (Stmt.While _ _ _ _) _) _ _ _) | (with_reducible show wpAny _ _ (exec (Stmt.For _ _ _ _ _) _) _ _ _) | (with_reducible show wpAny _ _ (call (Value.ref _) _ _) _ _ _))); (first | (first | ((with_reducible show wpAny _ _ (eval (.Name _ _) _) _ _ _); (refine' nameX_L ?zf ?zv ?_; (case zf => assumption); (case zv => (repeat' first | assumption | exact if_pos rfl | refine (if_neg (by decide)).trans ?_)))) | ((with_reducible show wpAny _ _ (binaryOp .FloorDiv (.int _ _) (.int _ _)) _ _ _); refine floordiv_int (by first | lia | omega) ?_ (Or.inl (PyProof.noPylong_small (by first | lia | omega)))) | ((with_reducible show wpAny _ _ (binaryOp .Mult (.int _ _) (.int _ _)) _ _ _); first | refine PyProof.Rows.mul_int ?_ (PySem.IntMulOk.of_right (PySem.intBits_le_64 (by first | lia | omega) (by first | lia | omega))) | refine PyProof.Rows.mul_int ?_ (PySem.IntMulOk.of_left (PySem.intBits_le_64 (by first | lia | omega) (by first | lia | omega)))) | walk1) | (dsimp only; walk1)) | (with_reducible show ite _ _ _); split; all_goals (try (rename_i hq; exfalso; simp only [decide_eq_true_eq, Bool.not_eq_true, decide_eq_false_iff_not, beq_iff_eq, bne_iff_ne, beq_eq_false_iff_ne, bne_eq_false_iff_eq, ne_eq, Bool.false_eq_true, not_true_eq_false, not_false_eq_true] at hq <;> first | lia | omega))))
  rename IsRange _ _ _ _ _ _ _ _ => hr
  rename Fr _ _ _ _ => F₁
  rename News _ _ _ _ => N₁
  refine ex1_1 ((⟨_, F₁, (if_neg (by decide)).trans rfl, (if_neg (by decide)).trans rfl, if_pos rfl, ⟨#[], 0, (N₁ _ (.head _)).1, .nil⟩, (N₁ _ (.head _)).2.1, (N₁ _ (.head _)).2.2⟩ : ∃ S, RowsSt s.heap L Nn S t tt [] _ _)) ?_
  intro S st
  refine ex0_3 (fmod_facts t hn0.1) ?_
  intro f0 f1 f2
  have hq1 : Int.fdiv t n ≤ 1000 := by
    by_cases c : Int.fdiv t n ≤ 1000
    · exact c
    · have := Int.mul_le_mul_of_nonneg_left (show 1001 ≤ Int.fdiv t n by exact Int.lt_of_not_ge (by assumption)) (show 0 ≤ n by lia)
      (clear c f1 st N₁ F₁ hr hl lim X T W' hd hI hun hdp hlen hpos hc ho ih; omega)
  have hq2 : -1001 ≤ Int.fdiv t n := by
    by_cases c : -1001 ≤ Int.fdiv t n
    · exact c
    · have := Int.mul_le_mul_of_nonneg_left (show Int.fdiv t n ≤ -1002 by (clear hq1 f2 f1 f0 st N₁ F₁ hr hn0 hl lim X T W' hd hI hun hdp hlen ht2 ht hpos hc ho ih; omega)) (show 0 ≤ n by lia)
      (clear c hq1 f0 st N₁ F₁ hr hl lim X T W' hd hI hun hdp hlen hpos hc ho ih; omega)
  have hsz := rangeSize_nat 0 (Int.fdiv t n + 1)
  rw [Int.sub_zero] at hsz
  refine wpAny_pyIter_range hr (small_one (by decide) (by decide) (by (clear hsz f2 f1 f0 st N₁ F₁ hr hn0 hl lim X T W' hd hI hun hdp hlen ht2 ht hpos hc ho ih; omega)) (by (clear hsz f2 f1 f0 st N₁ F₁ hr hn0 hl lim X T W' hd hI hun hdp hlen ht2 ht hpos hc ho ih; omega))) ?_
  rw [hsz]
  have hIb := next_is_new F₁
  have hIL := Nat.ne_of_gt F₁.ns.lt
  have F₂ := F₁.push { cls := .type "range_iterator", data := .fields #[rawInt 0, rawInt (Int.fdiv t n + 1).toNat, rawInt 1] }
  have st₂ := st.moved F₂ (fun b o _ _ e => Heap.get?_push_of_some _ e) rfl rfl rfl
  rename Heap => h₃
  have hI₂ : IsRangeIter (h₃.push { cls := .type "range_iterator", data := .fields #[rawInt 0, rawInt (Int.fdiv t n + 1).toNat, rawInt 1] }) h₃.objs.size 0 ((Int.fdiv t n + 1).toNat : Int) 1 := Heap.get?_push_size _ rfl
  clear hr F₁ N₁ F₂ st
  generalize hN : (Int.fdiv t n + 1).toNat = N at *
  dsimp only at hIb hIL ⊢
  generalize h₃.objs.size = I at *
  have W1 := Walks.range (prog := PP) (w := w) (A := AA (dp + 1) (un + 3)) rfl I 0 1 N
  refine for_walks W1 (fun i s' => ∃ h tk m, s' = ⟨h, s.gens, s.drawn, tk, s.os⟩ ∧ RowsSt s.heap L Nn S t tt ((List.range i).flatMap fun (k : Nat) => (rowsL ns (t - k * n)).map fun r => (k : Int) :: r) m h ∧ IsRangeIter h I (0 + (i : Nat) * 1) ((N : Int) - (i : Nat)) 1) ?_ ?_ ?_ (fun _ => rfl) N 0 _ (Nat.zero_add _) ⟨_, _, _, rfl, st₂, hI₂⟩
  · rintro i s' ⟨h, tk, m, rfl, _, e⟩; exact e
  · intro i s' v h' tk' hi hq1_
    refine ex3_3 (hq1_) ?_
    clear hq1_
    intro h tk m hq2_ st hI
    obtain rfl := hq2_
    intro hq3_
    refine ex1_1 (hq3_) ?_
    clear hq3_
    intro tv hq4_
    obtain rfl := hq4_
    intro hI' hk Q3 hQ3
    clear st₂ hI₂
    rw [Int.mul_one, Int.zero_add] at hI hI' ⊢
    have F₁ := Fr.but st.fr (fun b q => List.mem_singleton.mp q) hIb hIL hk
    have st₁ := st.moved F₁ (fun b o _ q e => hk b o (fun z => by
      rw [List.mem_singleton.mp z] at e q
      rcases q with q | q
      · exact (st.S_ne hI (by simp)) q.symm
      · rw [hI] at e; cases e; exact absurd q (by simp)) e) rfl rfl rfl
    clear st hI
    have ht' := st₁.ht
    have hn' := st₁.hn
    have hr' := st₁.hr
    have N₁ : News s.heap L h' (restOf s.heap h' L) := rest_news
    generalize hoth : restOf s.heap h' L = others at N₁
    (repeat' (first | (with_reducible show wpAny _ _ _ _ _ _); (fail_if_success (first | (with_reducible show wpAny _ _ (exec (Stmt.While _ _ _ _) _) _ _ _) | (with_reducible show wpAny _ _ (exec (Stmt.For _ _ _ _ _) _) _ _ _) | (with_reducible show wpAny _ _ (call (Value.ref _) _ _) _ _ _))); (first | (first | ((with_reducible show wpAny _ _ (eval (.Name _ _) _) _ _ _); (refine' nameX_L ?zf ?zv ?_; (case zf => assumption); (case zv => (repeat' first | assumption | exact if_pos rfl | refine (if_neg (by decide)).trans ?_)))) | ((with_reducible show wpAny _ _ (binaryOp .FloorDiv (.int _ _) (.int _ _)) _ _ _); refine floordiv_int (by first | lia | omega) ?_ (Or.inl (PyProof.noPylong_small (by first | lia | omega)))) | ((with_reducible show wpAny _ _ (binaryOp .Mult (.int _ _) (.int _ _)) _ _ _); first | refine PyProof.Rows.mul_int ?_ (PySem.IntMulOk.of_right (PySem.intBits_le_64 (by first | lia | omega) (by first | lia | omega))) | refine PyProof.Rows.mul_int ?_ (PySem.IntMulOk.of_left (PySem.intBits_le_64 (by first | lia | omega) (by first | lia | omega)))) | walk1) | (dsimp only; walk1)) | (with_reducible show ite _ _ _); split; all_goals (try (rename_i hq; exfalso; simp only [decide_eq_true_eq, Bool.not_eq_true, decide_eq_false_iff_not, beq_iff_eq, bne_iff_ne, beq_eq_false_iff_ne, bne_eq_false_iff_eq, ne_eq, Bool.false_eq_true, not_true_eq_false, not_false_eq_true] at hq <;> first | lia | omega))))
    refine wpAny_For ?_ (fun _ => rfl)
    (repeat' (first | (with_reducible show wpAny _ _ _ _ _ _); (fail_if_success (first | (with_reducible show wpAny _ _ (exec (Stmt.While _ _ _ _) _) _ _ _) | (with_reducible show wpAny _ _ (exec (Stmt.For _ _ _ _ _) _) _ _ _) | (with_reducible show wpAny _ _ (call (Value.ref _) _ _) _ _ _))); (first | (first | ((with_reducible show wpAny _ _ (eval (.Name _ _) _) _ _ _); (refine' nameX_L ?zf ?zv ?_; (case zf => assumption); (case zv => (repeat' first | assumption | exact if_pos rfl | refine (if_neg (by decide)).trans ?_)))) | ((with_reducible show wpAny _ _ (binaryOp .FloorDiv (.int _ _) (.int _ _)) _ _ _); refine floordiv_int (by first | lia | omega) ?_ (Or.inl (PyProof.noPylong_small (by first | lia | omega)))) | ((with_reducible show wpAny _ _ (binaryOp .Mult (.int _ _) (.int _ _)) _ _ _); first | refine PyProof.Rows.mul_int ?_ (PySem.IntMulOk.of_right (PySem.intBits_le_64 (by first | lia | omega) (by first | lia | omega))) | refine PyProof.Rows.mul_int ?_ (PySem.IntMulOk.of_left (PySem.intBits_le_64 (by first | lia | omega) (by first | lia | omega)))) | walk1) | (dsimp only; walk1)) | (with_reducible show ite _ _ _); split; all_goals (try (rename_i hq; exfalso; simp only [decide_eq_true_eq, Bool.not_eq_true, decide_eq_false_iff_not, beq_iff_eq, bne_iff_ne, beq_eq_false_iff_ne, bne_eq_false_iff_eq, ne_eq, Bool.false_eq_true, not_true_eq_false, not_false_eq_true] at hq <;> first | lia | omega))))
    rename Fr _ _ _ _ => F₂
    rename News _ _ _ _ => N₂
    rename IntsAre _ (List.drop 1 (n :: ns)) => hI2
    rename List Value => ws
    replace hI2 : IntsAre ws ns := hI2
    refine ⟨X.keeps F₂.keep, ?_⟩
    rw [show (n :: ns).getD (Int.toNat 0) 0 = n from rfl]
    have hin : 0 ≤ (i : Int) * n ∧ (i : Int) * n ≤ t := by
      refine ⟨Int.mul_nonneg (by (clear hI2 N₂ F₂ hoth hr' hn' ht' st₁ hk hi W1 hIL hIb hsz hN hq2 hq1 f2 f1 f0 hn0 hl lim X T W' hd hI hun hdp hlen ht2 ht hpos hc ho ih; lia)) (by lia), ?_⟩
      have := Int.mul_le_mul_of_nonneg_left (show (i : Int) ≤ Int.fdiv t n by (clear hI2 N₂ F₂ hoth hr' hn' ht' st₁ hk W1 hIL hIb hsz hq2 hq1 f2 f1 f0 hn0 hl lim X T W' hd hI hun hdp hlen ht2 ht hpos hc ho ih; lia)) (show 0 ≤ n by lia)
      rw [Int.mul_comm]; (clear hI2 N₂ F₂ hoth hr' hn' ht' st₁ hk hi W1 hIL hIb hsz hN hq2 hq1 f1 hn0 hl lim X T W' hd hI hun hdp hlen ht2 ht hpos hc ho ih; lia)
    have hpre := rowsL_pre (ns := ns) (hN ▸ hi)
    refine use F₂ N₂ (ih _ (t - i * n) _ _ _ ws 0 (dp + 1) (un + 3) (W'.keeps F₂.keep) (N₂ _ (.head _)).1 rfl rfl hI2 (fun m hm => hpos m (.tail _ hm)) (by (clear hpre hI2 N₂ F₂ hoth hr' hn' ht' st₁ hk hi W1 hIL hIb hsz hN hq2 hq1 f2 f1 f0 hn0 hl lim X T W' hd hI hun hdp hlen ht2 hpos hc ho ih; lia)) (by lia) (by lia) (by simp at hdp; lia) (by simp at hun; lia)) rfl (Nat.le_refl _) (Nat.le_refl _) ?_
    intro v h₄ tk₄ F₄ N₄ hk₄ hq5_
    refine ex3_4 (hq5_) ?_
    clear hq5_
    intro S2 out c2 hq6_ hS2 hS2' R2
    obtain rfl := hq6_
    dsimp only at hS2 hS2' R2 hk₄ ⊢
    have kp2 := fun (b : Addr) (o : Obj) hb e => rest_kept (b := b) (o := o) F₂ N₂ (fun p hp => .tail _ (by rw [hoth] at hp; exact hp)) st₁.fr.keep hb e
    have kp := fun (b : Addr) (o : Obj) hb e => rest_kept (b := b) (o := o) F₄ N₄ (fun p hp => .tail _ (by rw [hoth] at hp; exact hp)) st₁.fr.keep hb e
    have hSS2 : S ≠ S2 := fun q => by
      refine ex2_2 (st₁.lst) ?_
      intro acc c e _
      have := kp2 S _ st₁.hL e
      rw [q, hS2] at this; cases this
    have st₄ := st₁.moved F₄ (fun b o hb _ e => kp b o hb e) (if_neg (by decide)) (if_neg (by decide)) (if_neg (by decide))
    have hI₄ := kp I _ hIL hI'
    have hmk : (fun y => if y = Str.ofString "k" then some (Value.int (i : Int) tv) else m y) (Str.ofString "k") = some (.int i tv) := if_pos rfl
    clear hk₄ kp kp2 N₂ N₄ F₂ hS2 hI' st₁ hk ht' hn' hr'
    generalize (fun y => if y = Str.ofString "k" then some (Value.int (i : Int) tv) else m y) = m₄ at *
    refine wpAny_pyIter_list ⟨_, hS2', rfl, _, rfl⟩ ?_
    have hI2b := next_is_new F₄
    have hI2L := Nat.ne_of_gt F₄.ns.lt
    have hS2l := Heap.lt_size hS2'
    have it₅ : (h₄.push { cls := .type "list_iterator", data := .fields #[.ref S2, .int 0 0] }).IsListIter h₄.objs.size S2 0 := ⟨_, Heap.get?_push_size _ rfl, rfl, rfl⟩
    have hl₅ : (h₄.push { cls := .type "list_iterator", data := .fields #[.ref S2, .int 0 0] }).IsList S2 out.toArray := ⟨_, Heap.get?_push_of_some _ hS2', rfl, _, rfl⟩
    have R₅ := R2.keep (h' := h₄.push { cls := .type "list_iterator", data := .fields #[.ref S2, .int 0 0] }) fun D o _ e => Heap.get?_push_of_some _ e
    have st₅ := st₄.moved (F₄.push { cls := .type "list_iterator", data := .fields #[.ref S2, .int 0 0] }) (fun b o _ _ e => Heap.get?_push_of_some _ e) rfl rfl rfl
    have hI₅ : IsRangeIter (h₄.push { cls := .type "list_iterator", data := .fields #[.ref S2, .int 0 0] }) I _ _ 1 := Heap.get?_push_of_some _ hI₄
    have hne : S2 ≠ h₄.objs.size := Nat.ne_of_lt hS2l
    clear st₄ hI₄ F₄ hS2' R2 hS2l
    dsimp only at hI2b hI2L ⊢
    have hol := R₅.len
    generalize h₄.objs.size = I2 at *
    have W2 := Walks.list (prog := PP) (w := w) (A := AA (dp + 1) (un + 3)) rfl I2 S2 hne out.toArray
    refine for_walks W2 (fun j s' => ∃ h tk m, s' = ⟨h, s.gens, s.drawn, tk, s.os⟩ ∧ RowsSt s.heap L Nn S t tt (((List.range i).flatMap fun (k : Nat) => (rowsL ns (t - k * n)).map fun r => (k : Int) :: r) ++ ((rowsL ns (t - i * n)).take j).map fun r => (i : Int) :: r) m h ∧ m (Str.ofString "k") = some (.int i tv) ∧
      IsRangeIter h I ((i + 1 : Nat) : Int) ((N : Int) - ((i + 1 : Nat) : Int)) 1 ∧ (h.IsListIter I2 S2 j ∧ h.IsList S2 out.toArray) ∧ RowsAt h out (rowsL ns (t - i * n))) ?_ ?_ ?_ (fun _ => rfl) out.toArray.size 0 _ (Nat.zero_add _) ⟨_, _, m₄, rfl, by simpa using st₅, hmk, hI₅, ⟨it₅, hl₅⟩, R₅⟩
    · rintro j s' ⟨h, tk, m, rfl, _, _, _, e, _⟩; exact e
    · clear st₅ hI₅ it₅ hl₅ R₅
      intro j s' v h₆ tk₆ hj hq7_
      refine ex3_6 (hq7_) ?_
      clear hq7_
      intro h tk m hq8_ st hmk hI hq9_ R
      obtain rfl := hq8_
      refine ex0_2 (hq9_) ?_
      clear hq9_
      intro hit hls
      intro hv hq10_
      refine ex0_2 (hq10_) ?_
      clear hq10_
      intro hit' hls'
      intro hk Q4 hQ4
      refine ex1_3 (hit) ?_
      clear hit
      intro oit eit cit dit
      have cl : ∀ b o, h.get? b = some o → o.cls ≠ .type "list_iterator" → h₆.get? b = some o := fun b o e hc => hk b o (fun z => by
        rw [List.mem_singleton.mp z, eit] at e; cases e; exact hc cit) e
      have F₆ := Fr.but st.fr (fun b q => List.mem_singleton.mp q) hI2b hI2L hk
      have st₆ := st.moved F₆ (fun b o _ q e => by
        rcases q with rfl | q
        · refine ex2_2 (st.lst) ?_
          intro acc c e' _
          rw [e'] at e; cases e
          exact cl _ _ e' (by simp)
        · exact cl _ _ e (by rw [q]; simp)) rfl rfl rfl
      have hI₆ := cl _ _ hI (by simp)
      have R₆ : RowsAt h₆ out (rowsL ns (t - i * n)) := R.keep fun D o hm e => cl D o e (by
        refine ex1_1 (R.lt D hm) ?_
        intro ws e'
        rw [e] at e'; cases e'; simp)
      have hjl : j < (rowsL ns (t - i * n)).length := by rw [← hol]; simpa using hj
      refine ex2_4 (R₆.get hjl) ?_
      intro D ws hD0 hmem hD hIw
      obtain rfl : v = .ref D := by
        have : out.getD j .none = v := by simp at hv; simp [hv]
        rw [← this, hD0]
      clear st hI R cl hk eit hls hD0
      refine ex2_2 (st₆.lst) ?_
      intro acc c' eS RS
      have hDS : D ≠ S := fun q => by rw [q, eS] at hD; exact absurd (congrArg Obj.cls (Option.some.inj hD)) (by simp)
      have hDL : D ≠ L := fun q => F₆.tup_ne (items := ws.toArray) ⟨_, hD, rfl, _, rfl⟩ q
      have hoff : ∀ p ∈ restOf2 s.heap h₆ L S, p.1 ≠ S := rest2_ne
      have N₆ : News s.heap L h₆ (restOf2 s.heap h₆ L S) := rest2_news
      generalize hoth : restOf2 s.heap h₆ L S = others at N₆ hoff
      have N₇ : News s.heap L h₆ ((S, lstObj acc c') :: others) := fun p hp => by
        rcases List.mem_cons.mp hp with rfl | hp
        · exact ⟨eS, st₆.hL, st₆.hb⟩
        · exact N₆ p hp
      clear N₆
      have ht' := st₆.ht
      have hn' := st₆.hn
      have hr' := st₆.hr
      have hwl : ws.length ≤ 1000 := by
        rw [ints_len hIw]
        have hm : (rowsL ns (t - i * n)).getD j [] ∈ rowsL ns (t - i * n) := by simp [hjl]
        have := ((rowsL_mem ns _ (fun m hm => (hpos m (.tail _ hm)).1) _).mp hm).1
        rw [this]; simp at hdp; lia
      (repeat' (first | (with_reducible show wpAny _ _ _ _ _ _); (fail_if_success (first | (with_reducible show wpAny _ _ (exec (Stmt.While _ _ _ _) _) _ _ _) | (with_reducible show wpAny _ _ (exec (Stmt.For _ _ _ _ _) _) _ _ _) | (with_reducible show wpAny _ _ (call (Value.ref _) _ _) _ _ _))); (first | (first | ((with_reducible show wpAny _ _ (eval (.Name _ _) _) _ _ _); (refine' nameX_L ?zf ?zv ?_; (case zf => assumption); (case zv => (repeat' first | assumption | exact if_pos rfl | refine (if_neg (by decide)).trans ?_)))) | ((with_reducible show wpAny _ _ (binaryOp .FloorDiv (.int _ _) (.int _ _)) _ _ _); refine floordiv_int (by first | lia | omega) ?_ (Or.inl (PyProof.noPylong_small (by first | lia | omega)))) | ((with_reducible show wpAny _ _ (binaryOp .Mult (.int _ _) (.int _ _)) _ _ _); first | refine PyProof.Rows.mul_int ?_ (PySem.IntMulOk.of_right (PySem.intBits_le_64 (by first | lia | omega) (by first | lia | omega))) | refine PyProof.Rows.mul_int ?_ (PySem.IntMulOk.of_left (PySem.intBits_le_64 (by first | lia | omega) (by first | lia | omega)))) | walk1) | (dsimp only; walk1)) | (with_reducible show ite _ _ _); split; all_goals (try (rename_i hq; exfalso; simp only [decide_eq_true_eq, Bool.not_eq_true, decide_eq_false_iff_not, beq_iff_eq, bne_iff_ne, beq_eq_false_iff_ne, bne_eq_false_iff_eq, ne_eq, Bool.false_eq_true, not_true_eq_false, not_false_eq_true] at hq <;> first | lia | omega))))
      rename Fr _ _ _ _ => F₈
      rename News _ _ _ _ => N₈
      have hD₈ := rest2_kept F₈ N₈ (fun p hp => .tail _ (.tail _ (by rw [hoth] at hp; exact hp))) st₆.fr.keep D _ hDL hDS hD
      refine add_row F₈ N₈ (.head _) hD₈ hwl fun D3 h₉ F₉ N₉ => ?_
      have hD3S : D3 ≠ S := fun q => by
        have e1 := (N₉ _ (.head _)).1
        have e2 := (N₉ _ (.tail _ (.tail _ (.head _)))).1
        rw [q, e2] at e1; exact absurd (congrArg Obj.cls (Option.some.inj e1)) (by simp)
      clear F₈ N₈
      (repeat' (first | (with_reducible show wpAny _ _ _ _ _ _); (fail_if_success (first | (with_reducible show wpAny _ _ (exec (Stmt.While _ _ _ _) _) _ _ _) | (with_reducible show wpAny _ _ (exec (Stmt.For _ _ _ _ _) _) _ _ _) | (with_reducible show wpAny _ _ (call (Value.ref _) _ _) _ _ _))); (first | (first | ((with_reducible show wpAny _ _ (eval (.Name _ _) _) _ _ _); (refine' nameX_L ?zf ?zv ?_; (case zf => assumption); (case zv => (repeat' first | assumption | exact if_pos rfl | refine (if_neg (by decide)).trans ?_)))) | ((with_reducible show wpAny _ _ (binaryOp .FloorDiv (.int _ _) (.int _ _)) _ _ _); refine floordiv_int (by first | lia | omega) ?_ (Or.inl (PyProof.noPylong_small (by first | lia | omega)))) | ((with_reducible show wpAny _ _ (binaryOp .Mult (.int _ _) (.int _ _)) _ _ _); first | refine PyProof.Rows.mul_int ?_ (PySem.IntMulOk.of_right (PySem.intBits_le_64 (by first | lia | omega) (by first | lia | omega))) | refine PyProof.Rows.mul_int ?_ (PySem.IntMulOk.of_left (PySem.intBits_le_64 (by first | lia | omega) (by first | lia | omega)))) | walk1) | (dsimp only; walk1)) | (with_reducible show ite _ _ _); split; all_goals (try (rename_i hq; exfalso; simp only [decide_eq_true_eq, Bool.not_eq_true, decide_eq_false_iff_not, beq_iff_eq, bne_iff_ne, beq_eq_false_iff_ne, bne_eq_false_iff_eq, ne_eq, Bool.false_eq_true, not_true_eq_false, not_false_eq_true] at hq <;> first | lia | omega))))
      have haz : acc.size ≤ 10000 := by
        have := RS.len
        rw [Array.length_toList, List.length_append, List.length_map] at this
        rw [this]
        have := List.length_take_le j (rowsL ns (t - i * n))
        lia
      have Nz : News s.heap L h₉ ((S, lstObj acc c') :: (D3, tupObj (Value.int (i : Int) tv :: ws)) :: others) := fun p hp => by
        rcases List.mem_cons.mp hp with rfl | hp
        · exact N₉ _ (.tail _ (.tail _ (.head _)))
        · rcases List.mem_cons.mp hp with rfl | hp
          · exact N₉ _ (.head _)
          · exact N₉ _ (.tail _ (.tail _ (.tail _ hp)))
      refine append_K (D := S) (its := acc) (n := c') F₉ Nz (.head fun p hp => ?_) (fun h' F₁₀ N₁₀ => ?_) (by rw [sizeLine_eq]; exact Nat.le_trans (by assumption) (by decide))
      · rcases List.mem_cons.mp hp with rfl | hp
        · exact hD3S
        · exact hoff p hp
      have kz := fun (b : Addr) (o : Obj) hb hs e => rest2_kept (b := b) (o := o) F₁₀ N₁₀ (fun p hp => .tail _ (.tail _ (by rw [hoth] at hp; exact hp))) st₆.fr.keep hb hs e
      clear N₉ Nz F₉
      (repeat' (first | (with_reducible show wpAny _ _ _ _ _ _); (fail_if_success (first | (with_reducible show wpAny _ _ (exec (Stmt.While _ _ _ _) _) _ _ _) | (with_reducible show wpAny _ _ (exec (Stmt.For _ _ _ _ _) _) _ _ _) | (with_reducible show wpAny _ _ (call (Value.ref _) _ _) _ _ _))); (first | (first | ((with_reducible show wpAny _ _ (eval (.Name _ _) _) _ _ _); (refine' nameX_L ?zf ?zv ?_; (case zf => assumption); (case zv => (repeat' first | assumption | exact if_pos rfl | refine (if_neg (by decide)).trans ?_)))) | ((with_reducible show wpAny _ _ (binaryOp .FloorDiv (.int _ _) (.int _ _)) _ _ _); refine floordiv_int (by first | lia | omega) ?_ (Or.inl (PyProof.noPylong_small (by first | lia | omega)))) | ((with_reducible show wpAny _ _ (binaryOp .Mult (.int _ _) (.int _ _)) _ _ _); first | refine PyProof.Rows.mul_int ?_ (PySem.IntMulOk.of_right (PySem.intBits_le_64 (by first | lia | omega) (by first | lia | omega))) | refine PyProof.Rows.mul_int ?_ (PySem.IntMulOk.of_left (PySem.intBits_le_64 (by first | lia | omega) (by first | lia | omega)))) | walk1) | (dsimp only; walk1)) | (with_reducible show ite _ _ _); split; all_goals (try (rename_i hq; exfalso; simp only [decide_eq_true_eq, Bool.not_eq_true, decide_eq_false_iff_not, beq_iff_eq, bne_iff_ne, beq_eq_false_iff_ne, bne_eq_false_iff_eq, ne_eq, Bool.false_eq_true, not_true_eq_false, not_false_eq_true] at hq <;> first | lia | omega))))
      refine hQ4 _ _ ?_
      dsimp only
      refine ex1_3 (hit') ?_
      clear hit'
      intro oi ei ci di
      refine ex1_3 (hls') ?_
      clear hls'
      intro ol el cl hq11_
      refine ex1_1 (hq11_) ?_
      clear hq11_
      intro nl dl
      have rk : ∀ {vs : List Value} {rs : List (List Int)}, RowsAt h₆ vs rs → RowsAt h' vs rs := fun x => x.keep fun D o hm e => by
        refine ex1_1 (x.lt D hm) ?_
        intro ws e'
        exact kz D o (Fr.seq_ne st₆.fr e' rfl) (x.ne hm eS (by simp)) e
      refine ⟨h', _, _, rfl, ⟨F₁₀, (if_neg (by decide)).trans st₆.ht, (if_neg (by decide)).trans st₆.hn, (if_neg (by decide)).trans st₆.hr, ⟨acc.push (.ref D3), c' + 1, (N₁₀ _ (.head _)).1, ?_⟩, st₆.hL, st₆.hb⟩, (if_neg (by decide)).trans hmk, kz I _ hIL (st₆.S_ne hI₆ (by simp)).symm hI₆,
        ⟨⟨oi, kz I2 _ hI2L (st₆.S_ne ei (by rw [ci]; simp)).symm ei, ci, di⟩, ⟨ol, kz S2 _ (Fr.seq_ne st₆.fr el dl) hSS2.symm el, cl, nl, dl⟩⟩, rk R₆⟩
      rw [Array.toList_push, List.take_add_one, List.getElem?_eq_getElem hjl, List.map_append, ← List.append_assoc]
      refine (rk RS).snoc (N₁₀ _ (.tail _ (.head _))).1 ?_
      have e : (rowsL ns (t - i * n)).getD j [] = (rowsL ns (t - i * n))[j] := by simp [hjl]
      rw [e] at hIw
      exact .cons _ _ hIw
    · clear st₅ hI₅ it₅ hl₅ R₅
      intro s' h₆ tk₆ hq12_
      refine ex3_6 (hq12_) ?_
      clear hq12_
      intro h tk m hq13_ st hmk hI hq14_ R
      obtain rfl := hq13_
      refine ex0_2 (hq14_) ?_
      clear hq14_
      intro hq15_ hls
      refine ex1_3 (hq15_) ?_
      clear hq15_
      intro oit eit cit dit
      intro hk
      have cl : ∀ b o, h.get? b = some o → o.cls ≠ .type "list_iterator" → h₆.get? b = some o := fun b o e hc => hk b o (fun z => by
        rw [List.mem_singleton.mp z, eit] at e; cases e; exact hc cit) e
      have F₆ := Fr.but st.fr (fun b q => List.mem_singleton.mp q) hI2b hI2L hk
      have st₆ := st.moved F₆ (fun b o _ q e => by
        rcases q with rfl | q
        · refine ex2_2 (st.lst) ?_
          intro acc c e' _
          rw [e'] at e; cases e
          exact cl _ _ e' (by simp)
        · exact cl _ _ e (by rw [q]; simp)) rfl rfl rfl
      have hI₆ := cl _ _ hI (by simp)
      dsimp only
      (repeat' (first | (with_reducible show wpAny _ _ _ _ _ _); (fail_if_success (first | (with_reducible show wpAny _ _ (exec (Stmt.While _ _ _ _) _) _ _ _) | (with_reducible show wpAny _ _ (exec (Stmt.For _ _ _ _ _) _) _ _ _) | (with_reducible show wpAny _ _ (call (Value.ref _) _ _) _ _ _))); (first | (first | ((with_reducible show wpAny _ _ (eval (.Name _ _) _) _ _ _); (refine' nameX_L ?zf ?zv ?_; (case zf => assumption); (case zv => (repeat' first | assumption | exact if_pos rfl | refine (if_neg (by decide)).trans ?_)))) | ((with_reducible show wpAny _ _ (binaryOp .FloorDiv (.int _ _) (.int _ _)) _ _ _); refine floordiv_int (by first | lia | omega) ?_ (Or.inl (PyProof.noPylong_small (by first | lia | omega)))) | ((with_reducible show wpAny _ _ (binaryOp .Mult (.int _ _) (.int _ _)) _ _ _); first | refine PyProof.Rows.mul_int ?_ (PySem.IntMulOk.of_right (PySem.intBits_le_64 (by first | lia | omega) (by first | lia | omega))) | refine PyProof.Rows.mul_int ?_ (PySem.IntMulOk.of_left (PySem.intBits_le_64 (by first | lia | omega) (by first | lia | omega)))) | walk1) | (dsimp only; walk1)) | (with_reducible show ite _ _ _); split; all_goals (try (rename_i hq; exfalso; simp only [decide_eq_true_eq, Bool.not_eq_true, decide_eq_false_iff_not, beq_iff_eq, bne_iff_ne, beq_eq_false_iff_ne, bne_eq_false_iff_eq, ne_eq, Bool.false_eq_true, not_true_eq_false, not_false_eq_true] at hq <;> first | lia | omega))))
      refine hQ3 _ _ ?_
      dsimp only
      refine ⟨h₆, _, m, rfl, ?_, by rw [Int.mul_one, Int.zero_add]; exact hI₆⟩
      rw [List.range_succ, List.flatMap_append, List.flatMap_cons, List.flatMap_nil, List.append_nil]
      rw [List.size_toArray, hol, List.take_length] at st₆
      exact st₆
  · clear st₂ hI₂
    intro s' h₆ tk₆ hq16_
    refine ex3_3 (hq16_) ?_
    clear hq16_
    intro h tk m hq17_ st hI
    obtain rfl := hq17_
    intro hk
    have F₆ := Fr.but st.fr (fun b q => List.mem_singleton.mp q) hIb hIL hk
    have st₆ := st.moved F₆ (fun b o _ q e => hk b o (fun z => by
      rw [List.mem_singleton.mp z] at e q
      rcases q with q | q
      · exact (st.S_ne hI (by simp)) q.symm
      · rw [hI] at e; cases e; exact absurd q (by simp)) e) rfl rfl rfl
    have hr' := st₆.hr
    have N₆ : News s.heap L h₆ [] := News.nil
    dsimp only
    (repeat' (first | (with_reducible show wpAny _ _ _ _ _ _); (fail_if_success (first | (with_reducible show wpAny _ _ (exec (Stmt.While _ _ _ _) _) _ _ _) | (with_reducible show wpAny _ _ (exec (Stmt.For _ _ _ _ _) _) _ _ _) | (with_reducible show wpAny _ _ (call (Value.ref _) _ _) _ _ _))); (first | (first | ((with_reducible show wpAny _ _ (eval (.Name _ _) _) _ _ _); (refine' nameX_L ?zf ?zv ?_; (case zf => assumption); (case zv => (repeat' first | assumption | exact if_pos rfl | refine (if_neg (by decide)).trans ?_)))) | ((with_reducible show wpAny _ _ (binaryOp .FloorDiv (.int _ _) (.int _ _)) _ _ _); refine floordiv_int (by first | lia | omega) ?_ (Or.inl (PyProof.noPylong_small (by first | lia | omega)))) | ((with_reducible show wpAny _ _ (binaryOp .Mult (.int _ _) (.int _ _)) _ _ _); first | refine PyProof.Rows.mul_int ?_ (PySem.IntMulOk.of_right (PySem.intBits_le_64 (by first | lia | omega) (by first | lia | omega))) | refine PyProof.Rows.mul_int ?_ (PySem.IntMulOk.of_left (PySem.intBits_le_64 (by first | lia | omega) (by first | lia | omega)))) | walk1) | (dsimp only; walk1)) | (with_reducible show ite _ _ _); split; all_goals (try (rename_i hq; exfalso; simp only [decide_eq_true_eq, Bool.not_eq_true, decide_eq_false_iff_not, beq_iff_eq, bne_iff_ne, beq_eq_false_iff_ne, bne_eq_false_iff_eq, ne_eq, Bool.false_eq_true, not_true_eq_false, not_false_eq_true] at hq <;> first | lia | omega))))
    refine hQM _ _ ?_
    dsimp only
    refine ex2_2 (st₆.lst) ?_
    intro acc c' eS RS
    refine ⟨⟨st₆.fr.keep, rfl, rfl, rfl⟩, S, acc.toList, c', rfl, st₆.hb, eS, ?_⟩
    rw [rowsL, hN]
    exact RS

theorem law_rows_ok {w : World} : ∀ (ns : List Int), RowsOk w ns
  | [] => law_rows_nil
  | n :: ns => law_rows_cons n ns (law_rows_ok ns)

/-- rows of two, evenly spaced -/
noncomputable def EvenR (rows : List (List Int)) : Prop := ∀ i, 2 ≤ i → i < rows.length → ∃ xk yk xp yp x1 y1 x0 y0 : Int, rows.getD i [] = [xk, yk] ∧ rows.getD (i - 1) [] = [xp, yp] ∧ rows.getD 1 [] = [x1, y1] ∧ rows.getD 0 [] = [x0, y0] ∧ xk - xp = x1 - x0 ∧ yk - yp = y1 - y0

theorem row_item {prog : Program} {w : World} {A : Around} {E : Value → Shared → Prop} {s : Shared} {h₀ : Heap} {L : Addr} {m : Str → Option Value} {value slice : PySem.Expr} {l : Addr} {vs : List Value} {k : Int} {u : Tok} {v : Value} {Q : Value → Shared → Prop} (F : Fr h₀ L s.heap m)
    (hl : h₀.IsList l vs.toArray) (h0 : 0 ≤ k) (hhi : k < 2 ^ 63) (hx : vs[k.toNat]? = some v) (h : Q v s)
    (hs : subscripted slice false (.ref l) (.int k u) = operate [.ref l, .int k u] (getItem (.ref l) (.int k u)) := by with_unfolding_all rfl) :
    wpAny (model prog w) A (subscriptTail value slice (.ref l) (.int k u)) Q E s :=
  have hl := hl.at fun o e => F.keep l o e
  tail_any hl.typeIs slot_list_getitem.lookup (wpAny_getItem_list hl h0 hhi (by simpa using hx) h) hs
theorem tup_item {prog : Program} {w : World} {A : Around} {E : Value → Shared → Prop} {s : Shared} {h₀ : Heap} {L : Addr} {m : Str → Option Value} {value slice : PySem.Expr} {l : Addr} {vs : List Value} {k : Int} {u : Tok} {v : Value} {Q : Value → Shared → Prop} (F : Fr h₀ L s.heap m)
    (hl : h₀.get? l = some (tupObj vs)) (h0 : 0 ≤ k) (hhi : k < 2 ^ 63) (hx : vs[k.toNat]? = some v) (h : Q v s)
    (hs : subscripted slice false (.ref l) (.int k u) = operate [.ref l, .int k u] (getItem (.ref l) (.int k u)) := by with_unfolding_all rfl) :
    wpAny (model prog w) A (subscriptTail value slice (.ref l) (.int k u)) Q E s := by
  refine item_tupleT (l := vs) ⟨_, F.keep _ _ hl, rfl, _, rfl⟩ (by lia) hhi (j := k.toNat) ?_ hx h hs
  have := (List.getElem?_eq_some_iff.mp hx).1
  unfold seqIndex?
  dsimp only
  rw [if_neg (show ¬ k < 0 by exact Int.not_lt.mpr (by assumption)), if_pos (by simp; lia)]

theorem RowsAt.at_ {h : Heap} {vs : List Value} {rs : List (List Int)} (x : RowsAt h vs rs) {i : Nat} (hi : i < rs.length) {a b : Int} (e : rs.getD i [] = [a, b]) : ∃ D ta tb, vs[i]? = some (.ref D) ∧ h.get? D = some (tupObj [.int a ta, .int b tb]) := by
  refine ex2_4 (x.get hi) ?_
  intro D ws h0 _ hD hI
  rw [e] at hI
  refine ex2_1 (ints2 hI) ?_
  intro ta tb hq1_
  obtain rfl := hq1_
  clear hI
  have hl := x.len
  refine ⟨D, ta, tb, ?_, hD⟩
  have hlt : i < vs.length := by lia
  simp [hlt] at h0 ⊢
  exact h0

section
set_option maxHeartbeats 4000000 in
theorem law_even_ok {w : World} {s : Shared} {S : Addr} {out : List Value} {rows : List (List Int)} {c dp un : Nat} (W : Wd w s.heap) (hS : s.heap.get? S = some (lstObj (List.toArray out) c)) (R : RowsAt s.heap out rows) (hev : EvenR rows) (hlen : rows.length ≤ 10000) (hd : dp ≤ 700) (hu : un ≤ 8000) :
    wpAny (model PP w) (AA dp un) (call (.ref 68) [.ref S]) (fun v s' => Grew s s' ∧ v = .bool true) (fun _ _ => False) s := by
  have W' := W
  obtain ⟨X, p, loose, mean, mg, mb, T⟩ := W
  revert X
  show (Mine.hd.heap_39 w.params).In s.heap → wpAny (model PySem.Challenge.rw_jf0027_01.row.prog w) (AA dp un) (call (.ref 68) [.ref S]) (fun v s' => Grew s s' ∧ v = .bool true) (fun _ _ => False) s
  k_fill
  intro X
  have lim := T.nolimit
  have hl : s.heap.IsList S (List.toArray out) := ⟨_, hS, rfl, c, rfl⟩
  have hol := R.len
  refine' enter (K := Mine.hd.heap_39 w.params) (binds := [(Str.ofString "rows", .ref S)]) ?kW ?kl ?kR ?ko ?kc ?kb ?kloc ?kb2 ?c1 ?c2 ?c3 ?c4
  case ko => k_is
  case kc => k_is
  case kb => exact BindsTo.of_eq rfl
  case kloc => exact locs rfl
  case c1 => exact rfl
  case c2 => exact rfl
  case c3 => exact rfl
  case c4 => decide
  case kR => simp only [recursionLimit]; exact Nat.lt_of_le_of_lt (by assumption) (by decide)
  case kW => exact X
  case kl => exact lim
  k_whole
  intro L h₁ F N
  refine hideQ fun QM hQM => ?_
  have hoz : out.length ≤ 10000 := by lia
  (repeat' (first | (with_reducible show wpAny _ _ _ _ _ _); (fail_if_success (first | (with_reducible show wpAny _ _ (exec (Stmt.While _ _ _ _) _) _ _ _) | (with_reducible show wpAny _ _ (exec (Stmt.For _ _ _ _ _) _) _ _ _) | (with_reducible show wpAny _ _ (call (Value.ref _) _ _) _ _ _))); (first | (first | ((with_reducible show wpAny _ _ (subscriptTail _ _ (Value.ref _) (Value.int _ _)) _ _ _); first | (refine' tup_item ?zF ?zl ?za ?zb ?zc ?_ ?zh; (case zF => k_asm); (case zl => with_reducible assumption); (case za => (first | lia | omega)); (case zb => (first | lia | omega)); (case zc => exact rfl); (case zh => with_unfolding_all rfl)) | (refine' row_item ?zF ?zl ?za ?zb ?zc ?_ ?zh; (case zF => k_asm); (case zl => with_reducible assumption); (case za => (first | lia | omega)); (case zb => (first | lia | omega)); (case zc => with_reducible assumption); (case zh => with_unfolding_all rfl))) | ((with_reducible show wpAny _ _ (eval (.Name _ _) _) _ _ _); (refine' nameX_L ?zf ?zv ?_; (case zf => assumption); (case zv => (repeat' first | assumption | exact if_pos rfl | refine (if_neg (by decide)).trans ?_)))) | walk1) | (dsimp only; walk1)) | (with_reducible show ite _ _ _); split; all_goals (try (rename_i hq; exfalso; simp only [decide_eq_true_eq, Bool.not_eq_true, decide_eq_false_iff_not, beq_iff_eq, bne_iff_ne, beq_eq_false_iff_ne, bne_eq_false_iff_eq, ne_eq, Bool.false_eq_true, not_true_eq_false, not_false_eq_true] at hq <;> first | lia | omega))))
  refine wpAny_For ?_ (fun _ => rfl)
  (repeat' (first | (with_reducible show wpAny _ _ _ _ _ _); (fail_if_success (first | (with_reducible show wpAny _ _ (exec (Stmt.While _ _ _ _) _) _ _ _) | (with_reducible show wpAny _ _ (exec (Stmt.For _ _ _ _ _) _) _ _ _) | (with_reducible show wpAny _ _ (call (Value.ref _) _ _) _ _ _))); (first | (first | ((with_reducible show wpAny _ _ (subscriptTail _ _ (Value.ref _) (Value.int _ _)) _ _ _); first | (refine' tup_item ?zF ?zl ?za ?zb ?zc ?_ ?zh; (case zF => k_asm); (case zl => with_reducible assumption); (case za => (first | lia | omega)); (case zb => (first | lia | omega)); (case zc => exact rfl); (case zh => with_unfolding_all rfl)) | (refine' row_item ?zF ?zl ?za ?zb ?zc ?_ ?zh; (case zF => k_asm); (case zl => with_reducible assumption); (case za => (first | lia | omega)); (case zb => (first | lia | omega)); (case zc => with_reducible assumption); (case zh => with_unfolding_all rfl))) | ((with_reducible show wpAny _ _ (eval (.Name _ _) _) _ _ _); (refine' nameX_L ?zf ?zv ?_; (case zf => assumption); (case zv => (repeat' first | assumption | exact if_pos rfl | refine (if_neg (by decide)).trans ?_)))) | walk1) | (dsimp only; walk1)) | (with_reducible show ite _ _ _); split; all_goals (try (rename_i hq; exfalso; simp only [decide_eq_true_eq, Bool.not_eq_true, decide_eq_false_iff_not, beq_iff_eq, bne_iff_ne, beq_eq_false_iff_ne, bne_eq_false_iff_eq, ne_eq, Bool.false_eq_true, not_true_eq_false, not_false_eq_true] at hq <;> first | lia | omega))))
  rename Fr _ _ _ _ => F'
  refine len_list (hl.at fun o e => F'.keep S o e) (by rw [List.size_toArray]; (first | lia | omega)) ?_
  rw [List.size_toArray, hol]
  (repeat' (first | (with_reducible show wpAny _ _ _ _ _ _); (fail_if_success (first | (with_reducible show wpAny _ _ (exec (Stmt.While _ _ _ _) _) _ _ _) | (with_reducible show wpAny _ _ (exec (Stmt.For _ _ _ _ _) _) _ _ _) | (with_reducible show wpAny _ _ (call (Value.ref _) _ _) _ _ _))); (first | (first | ((with_reducible show wpAny _ _ (subscriptTail _ _ (Value.ref _) (Value.int _ _)) _ _ _); first | (refine' tup_item ?zF ?zl ?za ?zb ?zc ?_ ?zh; (case zF => k_asm); (case zl => with_reducible assumption); (case za => (first | lia | omega)); (case zb => (first | lia | omega)); (case zc => exact rfl); (case zh => with_unfolding_all rfl)) | (refine' row_item ?zF ?zl ?za ?zb ?zc ?_ ?zh; (case zF => k_asm); (case zl => with_reducible assumption); (case za => (first | lia | omega)); (case zb => (first | lia | omega)); (case zc => with_reducible assumption); (case zh => with_unfolding_all rfl))) | ((with_reducible show wpAny _ _ (eval (.Name _ _) _) _ _ _); (refine' nameX_L ?zf ?zv ?_; (case zf => assumption); (case zv => (repeat' first | assumption | exact if_pos rfl | refine (if_neg (by decide)).trans ?_)))) | walk1) | (dsimp only; walk1)) | (with_reducible show ite _ _ _); split; all_goals (try (rename_i hq; exfalso; simp only [decide_eq_true_eq, Bool.not_eq_true, decide_eq_false_iff_not, beq_iff_eq, bne_iff_ne, beq_eq_false_iff_ne, bne_eq_false_iff_eq, ne_eq, Bool.false_eq_true, not_true_eq_false, not_false_eq_true] at hq <;> first | lia | omega))))
  rename IsRange _ _ _ _ _ _ _ _ => hr
  rename Fr _ _ _ _ => F₁
  rename Heap => h₃
  have hsz := rangeSize_nat 2 (rows.length : Int)
  refine wpAny_pyIter_range hr (small_one (by decide) (by decide) (by lia) (by (first | lia | omega))) ?_
  rw [hsz]
  have hIb := next_is_new F₁
  have hIL := Nat.ne_of_gt F₁.ns.lt
  generalize hN : ((rows.length : Int) - 2).toNat = N at *
  have F₂ := F₁.push { cls := .type "range_iterator", data := .fields #[rawInt 2, rawInt N, rawInt 1] }
  have hI₂ : IsRangeIter (h₃.push { cls := .type "range_iterator", data := .fields #[rawInt 2, rawInt N, rawInt 1] }) h₃.objs.size 2 (N : Int) 1 := Heap.get?_push_size _ rfl
  dsimp only at hIb hIL ⊢
  clear hr F₁
  generalize h₃.objs.size = I at *
  have W1 := Walks.range (prog := PP) (w := w) (A := AA (dp + 1) (un + 3)) rfl I 2 1 N
  refine for_walks W1 (fun i s' => ∃ h tk m, s' = ⟨h, s.gens, s.drawn, tk, s.os⟩ ∧ Fr s.heap L h m ∧ m (Str.ofString "rows") = some (.ref S) ∧ IsRangeIter h I (2 + (i : Nat) * 1) ((N : Int) - (i : Nat)) 1) ?_ ?_ ?_ (fun _ => rfl) N 0 _ (Nat.zero_add _) ⟨_, _, _, rfl, F₂, rfl, hI₂⟩
  · rintro i s' ⟨h, tk, m, rfl, _, _, e⟩; exact e
  · intro i s' v h' tk' hi hq2_
    refine ex3_4 (hq2_) ?_
    clear hq2_
    intro h tk m hq3_ F hr hI
    obtain rfl := hq3_
    intro hq4_
    refine ex1_1 (hq4_) ?_
    clear hq4_
    intro tv hq5_
    obtain rfl := hq5_
    intro hI' hk Q3 hQ3
    clear F₂ hI₂
    have F₁ := Fr.but F (fun b q => List.mem_singleton.mp q) hIb hIL hk
    have N₁ : News s.heap L h' (restOf s.heap h' L) := rest_news
    have kp₁ := F₁.keep
    refine ex8_6 (hev (i + 2) (by lia) (by lia)) ?_
    intro xk yk xp yp x1 y1 x0 y0 e1 e2 e3 e4 q1 q2
    refine ex3_2 (R.at_ (i := i + 2) (by lia) e1) ?_
    intro D1 _ _ f1 g1
    refine ex3_2 (R.at_ (i := i + 2 - 1) (by lia) e2) ?_
    intro D2 _ _ f2 g2
    refine ex3_2 (R.at_ (i := 1) (by lia) e3) ?_
    intro D3 _ _ f3 g3
    refine ex3_2 (R.at_ (i := 0) (by lia) e4) ?_
    intro D4 _ _ f4 g4
    have hI₃ : h'.get? I = some { cls := .type "range_iterator", data := .fields #[rawInt (2 + ((i + 1 : Nat) : Int) * 1), rawInt ((N : Int) - ((i + 1 : Nat) : Int)), rawInt 1] } := hI'
    refine ex1_1 ((⟨_, rfl⟩ : ∃ K : Int, K = 2 + (i : Int) * 1)) ?_
    intro K hK
    rw [← hK]
    replace f1 : out[K.toNat]? = some (.ref D1) := by rw [show K.toNat = i + 2 by (clear hI₃ g4 f4 g3 f3 g2 f2 g1 f1 q2 q1 e4 e3 e2 e1 kp₁ N₁ F₁ hk hI' hI hr F hi W1 hIL hIb hsz hN hoz hol hl lim X T W' hu hd hlen hev R hS; lia)]; exact f1
    replace f2 : out[(K - 1).toNat]? = some (.ref D2) := by rw [show (K - 1).toNat = i + 2 - 1 by (clear f1 hI₃ g4 f4 g3 f3 g2 f2 g1 q2 q1 e4 e3 e2 e1 kp₁ N₁ F₁ hk hI' hI hr F hi W1 hIL hIb hsz hN hoz hol hl lim X T W' hu hd hlen hev R hS; lia)]; exact f2
    replace f3 : out[(1 : Int).toNat]? = some (.ref D3) := f3
    replace f4 : out[(0 : Int).toNat]? = some (.ref D4) := f4
    generalize hoth : restOf s.heap h' L = others at N₁
    (repeat' ((with_reducible show wpAny _ _ _ _ _ _); (fail_if_success (first | (with_reducible show wpAny _ _ (exec (Stmt.While _ _ _ _) _) _ _ _) | (with_reducible show wpAny _ _ (exec (Stmt.For _ _ _ _ _) _) _ _ _) | (with_reducible show wpAny _ _ (call (Value.ref _) _ _) _ _ _))); (first | (first | ((with_reducible show wpAny _ _ (subscriptTail _ _ (Value.ref _) (Value.int _ _)) _ _ _); first | (refine' tup_item ?zF ?zl ?za ?zb ?zc ?_ ?zh; (case zF => k_asm); (case zl => with_reducible assumption); (case za => (first | lia | omega)); (case zb => (first | lia | omega)); (case zc => exact rfl); (case zh => with_unfolding_all rfl)) | (refine' row_item ?zF ?zl ?za ?zb ?zc ?_ ?zh; (case zF => k_asm); (case zl => with_reducible assumption); (case za => (first | lia | omega)); (case zb => (first | lia | omega)); (case zc => with_reducible assumption); (case zh => with_unfolding_all rfl))) | ((with_reducible show wpAny _ _ (eval (.Name _ _) _) _ _ _); (refine' nameX_L ?zf ?zv ?_; (case zf => assumption); (case zv => (repeat' first | assumption | exact if_pos rfl | refine (if_neg (by decide)).trans ?_)))) | walk1) | (dsimp only; walk1))))
    rw [if_neg (show ¬ (xk - xp != x1 - x0) = true by simp [q1])]
    (repeat' ((with_reducible show wpAny _ _ _ _ _ _); (fail_if_success (first | (with_reducible show wpAny _ _ (exec (Stmt.While _ _ _ _) _) _ _ _) | (with_reducible show wpAny _ _ (exec (Stmt.For _ _ _ _ _) _) _ _ _) | (with_reducible show wpAny _ _ (call (Value.ref _) _ _) _ _ _))); (first | (first | ((with_reducible show wpAny _ _ (subscriptTail _ _ (Value.ref _) (Value.int _ _)) _ _ _); first | (refine' tup_item ?zF ?zl ?za ?zb ?zc ?_ ?zh; (case zF => k_asm); (case zl => with_reducible assumption); (case za => (first | lia | omega)); (case zb => (first | lia | omega)); (case zc => exact rfl); (case zh => with_unfolding_all rfl)) | (refine' row_item ?zF ?zl ?za ?zb ?zc ?_ ?zh; (case zF => k_asm); (case zl => with_reducible assumption); (case za => (first | lia | omega)); (case zb => (first | lia | omega)); (case zc => with_reducible assumption); (case zh => with_unfolding_all rfl))) | ((with_reducible show wpAny _ _ (eval (.Name _ _) _) _ _ _); (refine' nameX_L ?zf ?zv ?_; (case zf => assumption); (case zv => (repeat' first | assumption | exact if_pos rfl | refine (if_neg (by decide)).trans ?_)))) | walk1) | (dsimp only; walk1))))
    rw [if_neg (show ¬ (yk - yp != y1 - y0) = true by simp [q2])]
    (repeat' ((with_reducible show wpAny _ _ _ _ _ _); (fail_if_success (first | (with_reducible show wpAny _ _ (exec (Stmt.While _ _ _ _) _) _ _ _) | (with_reducible show wpAny _ _ (exec (Stmt.For _ _ _ _ _) _) _ _ _) | (with_reducible show wpAny _ _ (call (Value.ref _) _ _) _ _ _))); (first | (first | ((with_reducible show wpAny _ _ (subscriptTail _ _ (Value.ref _) (Value.int _ _)) _ _ _); first | (refine' tup_item ?zF ?zl ?za ?zb ?zc ?_ ?zh; (case zF => k_asm); (case zl => with_reducible assumption); (case za => (first | lia | omega)); (case zb => (first | lia | omega)); (case zc => exact rfl); (case zh => with_unfolding_all rfl)) | (refine' row_item ?zF ?zl ?za ?zb ?zc ?_ ?zh; (case zF => k_asm); (case zl => with_reducible assumption); (case za => (first | lia | omega)); (case zb => (first | lia | omega)); (case zc => with_reducible assumption); (case zh => with_unfolding_all rfl))) | ((with_reducible show wpAny _ _ (eval (.Name _ _) _) _ _ _); (refine' nameX_L ?zf ?zv ?_; (case zf => assumption); (case zv => (repeat' first | assumption | exact if_pos rfl | refine (if_neg (by decide)).trans ?_)))) | walk1) | (dsimp only; walk1))))
    rw [if_neg Bool.false_ne_true]
    refine wpAny_execs_nil ?_
    dsimp only
    refine wpAny_execs_nil ?_
    rename Fr _ _ _ _ => F₃
    rename News _ _ _ _ => N₃
    refine hQ3 _ _ ?_
    dsimp only
    refine ⟨_, _, _, rfl, F₃, (if_neg (by decide)).trans hr, ?_⟩
    exact rest_kept F₃ N₃ (fun p hp => by rw [hoth] at hp; exact hp) kp₁ I _ hIL hI₃
  · intro s' h₆ tk₆ hq6_
    refine ex3_4 (hq6_) ?_
    clear hq6_
    intro h tk m hq7_ F hr hI
    obtain rfl := hq7_
    intro hk
    clear F₂ hI₂
    have F₁ := Fr.but F (fun b q => List.mem_singleton.mp q) hIb hIL hk
    have N₁ : News s.heap L h₆ [] := News.nil
    dsimp only
    (repeat' (first | (with_reducible show wpAny _ _ _ _ _ _); (fail_if_success (first | (with_reducible show wpAny _ _ (exec (Stmt.While _ _ _ _) _) _ _ _) | (with_reducible show wpAny _ _ (exec (Stmt.For _ _ _ _ _) _) _ _ _) | (with_reducible show wpAny _ _ (call (Value.ref _) _ _) _ _ _))); (first | (first | ((with_reducible show wpAny _ _ (subscriptTail _ _ (Value.ref _) (Value.int _ _)) _ _ _); first | (refine' tup_item ?zF ?zl ?za ?zb ?zc ?_ ?zh; (case zF => k_asm); (case zl => with_reducible assumption); (case za => (first | lia | omega)); (case zb => (first | lia | omega)); (case zc => exact rfl); (case zh => with_unfolding_all rfl)) | (refine' row_item ?zF ?zl ?za ?zb ?zc ?_ ?zh; (case zF => k_asm); (case zl => with_reducible assumption); (case za => (first | lia | omega)); (case zb => (first | lia | omega)); (case zc => with_reducible assumption); (case zh => with_unfolding_all rfl))) | ((with_reducible show wpAny _ _ (eval (.Name _ _) _) _ _ _); (refine' nameX_L ?zf ?zv ?_; (case zf => assumption); (case zv => (repeat' first | assumption | exact if_pos rfl | refine (if_neg (by decide)).trans ?_)))) | walk1) | (dsimp only; walk1)) | (with_reducible show ite _ _ _); split; all_goals (try (rename_i hq; exfalso; simp only [decide_eq_true_eq, Bool.not_eq_true, decide_eq_false_iff_not, beq_iff_eq, bne_iff_ne, beq_eq_false_iff_ne, bne_eq_false_iff_eq, ne_eq, Bool.false_eq_true, not_true_eq_false, not_false_eq_true] at hq <;> first | lia | omega))))
    refine hQM _ _ ?_
    dsimp only
    exact ⟨⟨F₁.keep, rfl, rfl, rfl⟩, rfl⟩
end

/-- a row as a datum -/
noncomputable def rowD (r : List Int) : Dat := .tuple (r.map Dat.int)
theorem mapInt_inj : ∀ (r q : List Int), r.map Dat.int = q.map Dat.int → r = q
  | [], [], _ => rfl
  | [], _ :: _, h => by cases h
  | _ :: _, [], h => by cases h
  | a :: r, b :: q, h => by
    simp only [List.map_cons, List.cons.injEq, Dat.int.injEq] at h
    rw [h.1, mapInt_inj r q h.2]
theorem rowD_inj : ∀ (rs qs : List (List Int)), rs.map rowD = qs.map rowD → rs = qs
  | [], [], _ => rfl
  | [], _ :: _, h => by cases h
  | _ :: _, [], h => by cases h
  | a :: r, b :: q, h => by
    simp only [List.map_cons, List.cons.injEq, rowD, Dat.tuple.injEq] at h
    rw [mapInt_inj _ _ h.1, rowD_inj r q h.2]
theorem ints_dat {news : List (Addr × Obj)} {vs : List Value} {ns : List Int} (h : IntsAre vs ns) : DatAll news vs (ns.map Dat.int) := by
  induction h with
  | nil => exact .nil
  | cons m t _ ih => exact .cons (.int _ _) ih
theorem rows_dat {h : Heap} {vs : List Value} {rs : List (List Int)} (x : RowsAt h vs rs) : DatAll (restOf {} h h.objs.size) vs (rs.map rowD) := by
  induction x with
  | nil => exact .nil
  | cons hd hi _ ih => exact .cons (.tuple (rest_mem hd (Nat.ne_of_lt (Heap.lt_size hd)) rfl) (ints_dat hi)) ih
theorem rows_ok (rs : List (List Int)) : ∀ d ∈ rs.map rowD, kqdOk 8 d = true := by
  intro d hd
  refine ex1_2 (List.mem_map.mp hd) ?_
  intro r _ hq1_
  obtain rfl := hq1_
  simp only [rowD, kqdOk, List.all_eq_true, List.mem_map]
  intro x hq2_
  refine ex1_2 (hq2_) ?_
  clear hq2_
  intro n _ hq3_
  obtain rfl := hq3_
  rfl
theorem rows_ne {prog : Program} {w : World} {A : Around} {E : Value → Shared → Prop} {s : Shared} {a b : Addr} {xs ys : List Value} {ka kb : Nat} {rs qs : List (List Int)} {Q : Value → Shared → Prop} (ha : s.heap.get? a = some (lstObj xs.toArray ka)) (Ra : RowsAt s.heap xs rs)
    (hb : s.heap.get? b = some (lstObj ys.toArray kb)) (Rb : RowsAt s.heap ys qs) (hu : A.units + 64 < cLine) (h : ∀ c : Bool, (c = true ↔ rs ≠ qs) → Q (.bool c) s) : wpAny (model prog w) A (compareOp .NotEq (.ref a) (.ref b)) Q E s := by
  refine kqd_ne (rest_news (hb := {}) (L := s.heap.objs.size)) (rest_mem ha (Nat.ne_of_lt (Heap.lt_size ha)) rfl) rfl rfl (rows_dat Ra) (fun _ q => q) (rest_mem hb (Nat.ne_of_lt (Heap.lt_size hb)) rfl) rfl rfl (rows_dat Rb) (fun _ q => q) (rows_ok rs) (rows_ok qs) hu (h _ ?_)
  rw [Bool.not_eq_true', decide_eq_false_iff_not]
  exact not_congr ⟨rowD_inj rs qs, fun e => by rw [e]⟩
theorem rows_ne2 {w : World} {A : Around} {E : Value → Shared → Prop} {s : Shared} {a b : Addr} {xs ys : List Value} {ka kb : Nat} {rs qs : List (List Int)} {Q : Value → Shared → Prop} (ha : s.heap.get? a = some (lstObj xs.toArray ka)) (Ra : RowsAt s.heap xs rs)
    (hb : s.heap.get? b = some (lstObj ys.toArray kb)) (Rb : RowsAt s.heap ys qs) (h1 : A.handled = none) (hu : A.units + 64 < cLine) (h : ∀ c s', (c = true ↔ rs ≠ qs) → s'.heap = s.heap → s'.gens = s.gens → s'.os = s.os → Q (.bool c) s') : wpAny (MM w) A (compareOp .NotEq (.ref a) (.ref b)) Q E s := by
  refine piece (dp := A.depth) (un := A.units) (R := fun v h' => (∃ c : Bool, v = .bool c ∧ (c = true ↔ rs ≠ qs)) ∧ h' = s.heap) ?_ h1 (Nat.le_refl _) (Nat.le_refl _) ?_
  · exact rows_ne (s := wG s #[]) ha Ra hb Rb hu fun c hc => ⟨rfl, rfl, ⟨c, rfl, hc⟩, rfl⟩
  · intro v s' hg ho _ hq4_
    refine ex0_2 (hq4_) ?_
    clear hq4_
    intro hq5_ hh
    refine ex1_2 (hq5_) ?_
    clear hq5_
    intro c hq6_ hc
    obtain rfl := hq6_
    exact h c s' hc hh hg ho

section
variable {w : World} {A : Around} {E : Value → Shared → Prop} {s : Shared} {env : Env}

theorem execs_append : ∀ (pre rest : List Stmt), execs (pre ++ rest) env = execs pre env >>= fun f => match f with | .next => execs rest env | f => pure f
  | [], rest => rfl
  | st :: pre, rest => by
    rw [List.cons_append, execs_cons, execs_cons, execs_append pre rest]
    rw [LawfulMonad.bind_assoc]
    congr 1
    funext f
    cases f <;> rfl

/-- a block without generators, in the second model -/
theorem mm_block {hb : Heap} {L : Addr} {dp un : Nat} {m : Str → Option Value} {extra : List (Addr × Obj)} {pre rest : List Stmt} {Φ : Flow → (Str → Option Value) → Heap → Prop} {Q : Flow → Shared → Prop} (T : Trip w hb L dp un (execs pre env) m extra Φ) (F : Fr hb L s.heap m) (X : News hb L s.heap extra) (h1 : A.handled = none) (h2 : A.depth ≤ dp) (h3 : A.units ≤ un)
    (k : ∀ f m' s', Fr hb L s'.heap m' → News hb L s'.heap extra → Moves (fun b => b = L) (fun _ => False) s s' → s'.gens = s.gens → Φ f m' s'.heap → match f with | .next => wpAny (MM w) A (execs rest env) Q E s' | f => Q f s') : wpAny (MM w) A (execs (pre ++ rest) env) Q E s := by
  rw [execs_append]
  refine wpAny_bind (wp_trip T F X h1 h2 h3 fun f m' s' F' N' M' G' hp => ?_)
  have := k f m' s' F' N' M' G' hp
  cases f with
  | next => exact this
  | _ => exact wpAny_pure this
end

/-- entering a plain def in the second model -/
theorem enter2 {w : World} {A : Around} {s : Shared} {K : Frag} {name qual : Str} {params : Arguments} {body : List Stmt} {scope : Scope} {dV kV doc pm cdv ct oc : Value} {an od : Option Addr} {osl : Array (Option Value)} {f : Addr} {vals : List Value}
    {binds : List (Str × Value)} {Q : Value → Shared → Prop}
    (W : K.In s.heap) (lim : s.heap.NoLimit) (R : A.depth < recursionLimit)
    (ho : K.lookup f = some ⟨oc, od, .func (fnOf name qual params body scope dV kV doc pm an cdv ct), osl⟩) (hcd : codeIn K cdv qual = true)
    (hbind : BindsTo s (fnOf name qual params body scope dV kV doc pm an cdv ct) ⟨vals, []⟩ binds) (hloc : ∀ y ∈ binds, scope.names.lookup y.1 = some .local)
    (h : ∀ h₁ tk, Fr s.heap s.heap.objs.size h₁ (fun y => binds.reverse.lookup y) →
      wpAny (MM w) (A.deeper (envOf qual scope s.heap.objs.size f cdv)) (execs body (envOf qual scope s.heap.objs.size f cdv)) (fun fl s' => Q (match fl with | .ret v => v | _ => .none) s') (fun _ _ => False) { s with heap := h₁, toks := tk })
    (hco : scope.isCoroutine = false) (hgen : scope.isGenerator = false) (hk : scope.kind = .function) (hcell : ∀ x ∈ scope.names, x.2 ≠ .cell) :
    wpAny (MM w) A (call (.ref f) vals) Q (fun _ _ => False) s := by
  refine wpAny_call (codeAny_call_def2 (fd := fnOf name qual params body scope dV kV doc pm an cdv ct) (body := body) (binds := binds) R (W _ _ ho) rfl lim (codeRec_of W hcd) rfl hbind hcell hloc (fun h₁ hns hk₁ => ?_) hco hgen hk)
  refine wpAny_mono (h h₁ _ ⟨hns, hk₁, Nat.le_refl _⟩) (fun fl s' x => x) fun _ _ x => x.elim

/-- the call of a def added a frame alone -/
theorem Fr.moves {s : Shared} {h₁ : Heap} {tk : Nat} {m : Str → Option Value} (F : Fr s.heap s.heap.objs.size h₁ m) : Moves (fun _ => False) (fun _ => False) s { s with heap := h₁, toks := tk } :=
  ⟨fun b o _ e => F.keep b o e, Nat.le_of_lt F.ns.lt, fun _ _ _ e => e, Nat.le_refl _, rfl⟩

/-- the numbers of the law: few rows, or rows in order -/
noncomputable def Few (xs : List (List Int)) : Prop := xs.length < 64 ∨ (xs.length ≤ 1000 ∧ xs.Pairwise (fun x y => rowLt x y = true))

theorem rows_cnt {ns : List Int} {t : Int} (hp : ∀ n ∈ ns, 0 < n) (ht : 0 ≤ t) : (rowsL ns t).length = cnt (ns.map Int.toNat) t.toNat := by
  have e : ns = (ns.map Int.toNat).map fun n : Nat => (n : Int) := by
    rw [List.map_map]
    conv => lhs; rw [← List.map_id ns]
    refine List.map_congr_left fun n hn => ?_
    have := hp n hn
    simp; (first | lia | omega)
  have et : t = (t.toNat : Int) := by (first | lia | omega)
  conv => lhs; rw [e, et]
  rw [cnt_eq]
  intro n hn
  refine ex1_2 (List.mem_map.mp hn) ?_
  intro m hm hq1_
  obtain rfl := hq1_
  have := hp m hm
  (first | lia | omega)

theorem cnt_law : ∀ (ns : List Int) (t : Int), (∀ n ∈ ns, 1 ≤ n ∧ n ≤ 6) → ns.length ≤ 4 → 0 ≤ t → t ≤ 12 → (ns.length = 4 → t ≤ 6) → Few (solveL ns t) ∧ (rowsL ns t).length ≤ 10000
  | ns, t, hn, hl, ht, ht2, h4 => by
    have hp : ∀ n ∈ ns, 0 < n := fun n h => by have := hn n h; (first | lia | omega)
    have e := (solveL_perm hp ht).length_eq
    have c := rows_cnt hp ht
    have key : (cnt (ns.map Int.toNat) t.toNat < 64) ∨ (cnt (ns.map Int.toNat) t.toNat ≤ 1000 ∧ (solveL ns t).Pairwise (fun x y => rowLt x y = true)) := by
      match ns, hl with
      | [], _ => left; simp only [List.map_nil, cnt]; split <;> (first | lia | omega)
      | [a], _ =>
        have ha := hn a (.head _)
        left
        have := cnt1 (a.toNat - 1) (by (first | lia | omega)) t.toNat (by (first | lia | omega))
        rw [show a.toNat - 1 + 1 = a.toNat by (first | lia | omega)] at this
        exact this
      | [a, b], _ =>
        have ha := hn a (.head _)
        have hb := hn b (.tail _ (.head _))
        left
        have := cnt2 (a.toNat - 1) (by (first | lia | omega)) (b.toNat - 1) (by (first | lia | omega)) t.toNat (by (first | lia | omega))
        rw [show a.toNat - 1 + 1 = a.toNat by (first | lia | omega), show b.toNat - 1 + 1 = b.toNat by (first | lia | omega)] at this
        exact this
      | [a, b, c], _ =>
        have ha := hn a (.head _)
        have hb := hn b (.tail _ (.head _))
        have hc := hn c (.tail _ (.tail _ (.head _)))
        by_cases q : a = 1 ∧ b = 1 ∧ c = 1
        · refine ex0_3 (q) ?_
          clear q
          intro hq2_ hq3_ hq4_
          obtain rfl := hq2_
          obtain rfl := hq3_
          obtain rfl := hq4_
          exact .inr ⟨cnt_ones.1 t.toNat (by (first | lia | omega)), ones3_asc ht⟩
        · left
          have := cnt3 (a.toNat - 1) (by (first | lia | omega)) (b.toNat - 1) (by (first | lia | omega)) (c.toNat - 1) (by (first | lia | omega)) t.toNat (by (first | lia | omega))
          rw [show a.toNat - 1 + 1 = a.toNat by (first | lia | omega), show b.toNat - 1 + 1 = b.toNat by (first | lia | omega), show c.toNat - 1 + 1 = c.toNat by (first | lia | omega)] at this
          rcases this with h | h
          · exact absurd ⟨by (first | lia | omega), by (first | lia | omega), by (first | lia | omega)⟩ q
          · exact h
      | [a, b, c, d], _ =>
        have ha := hn a (.head _)
        have hb := hn b (.tail _ (.head _))
        have hc := hn c (.tail _ (.tail _ (.head _)))
        have hd := hn d (.tail _ (.tail _ (.tail _ (.head _))))
        have ht6 := h4 rfl
        by_cases q : a = 1 ∧ b = 1 ∧ c = 1 ∧ d = 1
        · refine ex0_4 (q) ?_
          clear q
          intro hq5_ hq6_ hq7_ hq8_
          obtain rfl := hq5_
          obtain rfl := hq6_
          obtain rfl := hq7_
          obtain rfl := hq8_
          exact .inr ⟨cnt_ones.2 t.toNat (by (first | lia | omega)), ones4_asc ht⟩
        · left
          have := cnt4 (a.toNat - 1) (b.toNat - 1) (c.toNat - 1) (d.toNat - 1) t.toNat (by (first | lia | omega)) (by (first | lia | omega)) (by (first | lia | omega)) (by (first | lia | omega)) (by (first | lia | omega))
          rw [show a.toNat - 1 + 1 = a.toNat by (first | lia | omega), show b.toNat - 1 + 1 = b.toNat by (first | lia | omega), show c.toNat - 1 + 1 = c.toNat by (first | lia | omega), show d.toNat - 1 + 1 = d.toNat by (first | lia | omega)] at this
          rcases this with h | h
          · exact absurd ⟨by (first | lia | omega), by (first | lia | omega), by (first | lia | omega), by (first | lia | omega)⟩ q
          · exact h
      | _ :: _ :: _ :: _ :: _ :: _, h => simp at h
    unfold Few
    rw [e, c]
    refine ⟨key, ?_⟩
    rcases key with h | h <;> (first | lia | omega)

theorem sorted_born {w : World} {A : Around} {hb : Heap} {dp un k : Nat} {L : Addr} {m : Str → Option Value} {s s₄ s₅ : Shared} {xs : List (List Int)} {v : Value} {Q : Value → Shared → Prop} {E : Value → Shared → Prop} (lim : hb.NoLimit) (h1 : A.handled = none) (h2 : A.depth ≤ dp) (h3 : A.units + 3 ≤ un) (hroom : A.depth < recursionLimit)
    (hL : s.heap.objs.size = L) (F : Fr hb L s₄.heap m) (M : Moves (fun _ => False) (fun _ => False) s s₄) (G : s₄.gens = s.gens) (hB : Born w hb dp un xs s₄ v s₅) (hlen : ∀ r ∈ xs, r.length = k) (hnd : xs.Nodup) (hfew : Few xs)
    (h : ∀ v s', Sorted hb xs v s'.heap → Moves (fun _ => False) (fun _ => False) s s' → Tidy (fun _ => False) (fun _ => False) s s' → Q v s') : wpAny (MM w) A (call (.builtin "sorted") [v]) Q E s₅ := by
  refine ex4_8 (hB) ?_
  clear hB
  intro a g own gown hq1_ Lv Mb Tb ha hg ho hgo
  obtain rfl := hq1_
  have F₅ : Fr hb L s₅.heap m := ⟨F.ns.at fun o e => Mb.heap L o id e, Lv.base, F.above⟩
  refine sorted_gen2 (k := k) lim h1 h2 h3 hroom F₅ Lv (fun q => absurd F.ns.lt (Nat.not_lt.mpr (ho L q))) hlen hnd hfew fun v s' S F' M' T' => h v s' S ?_ ?_
  · refine (M.trans Mb).step M' (fun d q => .inr ?_) fun i q => .inr ?_
    · rcases q with q | q | q
      · exact Nat.le_trans M.hsize (ho d q)
      · exact Nat.le_trans (M.trans Mb).hsize q
      · rw [q, hL]; exact Nat.le_refl _
    · rcases q with q | q
      · exact Nat.le_trans M.gsize (hgo i q)
      · rw [q]; exact Nat.le_trans M.gsize hg
  · intro i x e hs
    rcases T' i x e hs with ⟨e1, n1⟩ | q
    · rcases Tb i x e1 hs with ⟨e2, n2⟩ | q
      · exact .inl ⟨by rw [← G]; exact e2, id⟩
      · exact q.elim
    · exact q.elim

set_option maxHeartbeats 4000000 in
theorem solved0_ok {w : World} {A : Around} {s : Shared} {t : Int} {tt : Tok} {Nn : Addr} (W : Wd w s.heap) (hl : s.heap.IsList Nn (List.toArray [])) (ht : 0 ≤ t) (ht1 : t ≤ 1000) (hfew : Few (solveL [] t))
    (h1 : A.handled = none) (h2 : A.depth ≤ 400) (h3 : A.units ≤ 4000) :
    wpAny (MM w) A (call (.ref 54) [.int t tt, .ref Nn]) (fun v s' => Sorted s.heap (solveL [] t) v s'.heap ∧ Moves (fun _ => False) (fun _ => False) s s' ∧ Tidy (fun _ => False) (fun _ => False) s s') (fun _ _ => False) s := by
  have fill : (Mine.hd.heap_39 w.params).In s.heap → PySem.Challenge.rw_jf0027_01.row = PySem.Challenge.rw_jf0027_01.row := by
    k_fill
    intro _; rfl
  clear fill
  have W' := W
  obtain ⟨X, p, loose, mean, mg, mb, T⟩ := W
  have lim := T.nolimit
  have hI : IntsAre [] [] := .nil
  refine' enter2 (K := Mine.hd.heap_39 w.params) (binds := [(Str.ofString "total", .int t tt), (Str.ofString "numbers", .ref Nn)]) ?kW ?kl ?kR ?ko ?kc ?kb ?kloc ?kb2 ?c1 ?c2 ?c3 ?c4
  case ko => k_is
  case kc => k_is
  case kb => exact BindsTo.of_eq rfl
  case kloc => exact locs rfl
  case c1 => exact rfl
  case c2 => exact rfl
  case c3 => exact rfl
  case c4 => decide
  case kR => simp only [recursionLimit]; exact Nat.lt_of_le_of_lt (by assumption) (by decide)
  case kW => exact X
  case kl => exact lim
  k_whole
  intro h₁ tk F
  have M₀ := Fr.moves (tk := tk) F
  generalize hL : s.heap.objs.size = L at F ⊢
  obtain ⟨s₂, hs₂⟩ : ∃ s₂ : Shared, s₂ = ⟨h₁, s.gens, s.drawn, tk, s.os⟩ := ⟨_, rfl⟩
  have F₂ : Fr s.heap L s₂.heap (fun y => List.lookup y [(Str.ofString "total", Value.int t tt), (Str.ofString "numbers", Value.ref Nn)].reverse) := by rw [hs₂]; exact F
  have G₂ : s₂.gens = s.gens := by rw [hs₂]
  have M₁ : Moves (fun _ => False) (fun _ => False) s s₂ := by rw [hs₂]; exact M₀
  rw [← hs₂]
  have N₂ := F₂
  have M₂ := F₂
  clear F hs₂
  refine wpAny_execs_cons (wpAny_If ?_)
  refine wp_trip (dp := 420) (un := 4200) (m := (fun y => List.lookup y [(Str.ofString "total", Value.int t tt), (Str.ofString "numbers", Value.ref Nn)].reverse)) (extra := []) (Φ := fun f m' _ => f = true ∧ m' = (fun y => List.lookup y [(Str.ofString "total", Value.int t tt), (Str.ofString "numbers", Value.ref Nn)].reverse)) ?_ F₂ News.nil h1 (by show A.depth + 1 ≤ 420; exact Nat.lt_of_le_of_lt (by assumption) (by decide)) (by show A.units + 3 ≤ 4200; exact Nat.le_trans (Nat.add_le_add_right (by assumption) _) (by decide)) ?_
  · clear F₂
    intro s' hg F N' N
    refine hideQ fun Q0 hQ0 => ?_
    (repeat' (first | (with_reducible show wpAny _ _ _ _ _ _); (fail_if_success (first | (with_reducible show wpAny _ _ (exec (Stmt.While _ _ _ _) _) _ _ _) | (with_reducible show wpAny _ _ (exec (Stmt.For _ _ _ _ _) _) _ _ _) | (with_reducible show wpAny _ _ (call (Value.ref _) _ _) _ _ _))); (first | (first | ((with_reducible show wpAny _ _ (eval (.Name _ _) _) _ _ _); (refine' nameX_L ?zf ?zv ?_; (case zf => assumption); (case zv => (repeat' first | assumption | exact if_pos rfl | refine (if_neg (by decide)).trans ?_)))) | walk1) | (dsimp only; walk1)) | (with_reducible show ite _ _ _); split; all_goals (try (rename_i hq; exfalso; simp only [decide_eq_true_eq, Bool.not_eq_true, decide_eq_false_iff_not, beq_iff_eq, bne_iff_ne, beq_eq_false_iff_ne, bne_eq_false_iff_eq, ne_eq, Bool.false_eq_true, not_true_eq_false, not_false_eq_true] at hq <;> first | lia | omega))))
    rename Fr _ _ _ _ => F'
    rename News _ _ _ _ => N''
    exact hQ0 _ _ ⟨⟨hg, by first | rfl | trivial⟩, _, F', N'', rfl, rfl⟩
  intro f m' s₃ F₃ N₃ M₃ G₃ hq2_
  refine ex0_2 (hq2_) ?_
  clear hq2_
  intro hq3_ hq4_
  obtain rfl := hq3_
  obtain rfl := hq4_
  have M₄ := M₁.step M₃ (fun d q => .inr (by rw [q, ← hL]; exact Nat.le_refl _)) fun _ q => q.elim
  have G₄ : s₃.gens = s.gens := G₃.trans G₂
  clear M₀ M₁ M₂ M₃ G₂ G₃ F₂ N₂ N₃
  rw [if_pos rfl]
  refine wpAny_execs_cons (wpAny_Return_some ?_)
  (repeat' ((with_reducible show wpAny _ _ _ _ _ _); (fail_if_success (with_reducible show wpAny _ _ (spliced _) _ _ _)); (first | (first | ((with_reducible show wpAny _ _ (eval (.Name _ _) _) _ _ _); (refine' nameX_L ?zf ?zv ?_; (case zf => assumption); (case zv => (repeat' first | assumption | exact if_pos rfl | refine (if_neg (by decide)).trans ?_)))) | walk1) | (dsimp only; walk1))))
  walk1
  (repeat' ((with_reducible show wpAny _ _ _ _ _ _); (fail_if_success (with_reducible show wpAny _ _ (spliced _) _ _ _)); (first | (first | ((with_reducible show wpAny _ _ (eval (.Name _ _) _) _ _ _); (refine' nameX_L ?zf ?zv ?_; (case zf => assumption); (case zv => (repeat' first | assumption | exact if_pos rfl | refine (if_neg (by decide)).trans ?_)))) | walk1) | (dsimp only; walk1))))
  refine wp_trip (dp := 420) (un := 4200) (m := (fun y => List.lookup y [(Str.ofString "total", Value.int t tt), (Str.ofString "numbers", Value.ref Nn)].reverse)) (extra := []) (Φ := fun vs m' _ => (∃ u0, vs = [.int t u0]) ∧ m' = (fun y => List.lookup y [(Str.ofString "total", Value.int t tt), (Str.ofString "numbers", Value.ref Nn)].reverse)) ?_ F₃ News.nil h1 (by show A.depth + 1 ≤ 420; lia) (by show A.units + 3 ≤ 4200; lia) ?_
  · clear F₃
    intro s' hg F N' N
    refine hideQ fun Q0 hQ0 => ?_
    (repeat' (first | (with_reducible show wpAny _ _ _ _ _ _); (fail_if_success (first | (with_reducible show wpAny _ _ (exec (Stmt.While _ _ _ _) _) _ _ _) | (with_reducible show wpAny _ _ (exec (Stmt.For _ _ _ _ _) _) _ _ _) | (with_reducible show wpAny _ _ (call (Value.ref _) _ _) _ _ _))); (first | (first | ((with_reducible show wpAny _ _ (eval (.Name _ _) _) _ _ _); (refine' nameX_L ?zf ?zv ?_; (case zf => assumption); (case zv => (repeat' first | assumption | exact if_pos rfl | refine (if_neg (by decide)).trans ?_)))) | walk1) | (dsimp only; walk1)) | (with_reducible show ite _ _ _); split; all_goals (try (rename_i hq; exfalso; simp only [decide_eq_true_eq, Bool.not_eq_true, decide_eq_false_iff_not, beq_iff_eq, bne_iff_ne, beq_eq_false_iff_ne, bne_eq_false_iff_eq, ne_eq, Bool.false_eq_true, not_true_eq_false, not_false_eq_true] at hq <;> first | lia | omega))))
    rename Fr _ _ _ _ => F'
    rename News _ _ _ _ => N''
    exact hQ0 _ _ ⟨⟨hg, by first | rfl | trivial⟩, _, F', N'', ⟨_, rfl⟩, rfl⟩
  intro vs m' s₄ F₄ N₄ M₅ G₅ hq5_
  refine ex0_2 (hq5_) ?_
  clear hq5_
  intro hq6_ hq7_
  refine ex1_1 (hq6_) ?_
  clear hq6_
  intro u0 hq8_
  obtain rfl := hq8_
  obtain rfl := hq7_
  have M₆ := M₄.step M₅ (fun d q => .inr (by rw [q, ← hL]; exact Nat.le_refl _)) fun _ q => q.elim
  have G₆ : s₄.gens = s.gens := G₅.trans G₄
  clear F₃ N₄ M₄ M₅ G₅ G₄
  refine ⟨X.keeps F₄.keep, ?_⟩
  have base₃ := F₄.keep
  have bsz₃ : s.heap.objs.size ≤ s₄.heap.objs.size := M₆.hsize
  have hroom : (A.deeper (envOf (Str.ofString "_law_solved") ⟨.function, [], false, false, []⟩ L 54 (.ref 53))).depth < recursionLimit := by show A.depth + 1 < 1000; lia
  refine wpAny_mono (solve0_ok W' base₃ bsz₃ hroom) (fun v s₅ hB => ?_) (fun _ _ x => x)
  walk1
  refine sorted_born (k := 0) lim h1 (by show A.depth + 1 ≤ 480; exact Nat.lt_of_le_of_lt (by assumption) (by decide)) (by show A.units + 3 + 3 ≤ 4800; lia) hroom hL F₄ M₆ G₆ (show Born w s.heap 480 4800 (solveL [] t) s₄ v s₅ by first | exact hB | (rw [solveL]; exact hB)) (fun r hr => solveL_len 0 _ _ rfl r hr) (solveL_spec 0 [] t rfl (by intro z hz; simp at hz; try (first | lia | omega)) ht).2 hfew fun v s' S M T => ?_
  exact ⟨S, M, T⟩

set_option maxHeartbeats 4000000 in
theorem solved1_ok {w : World} {A : Around} {s : Shared} {t n0 : Int} {tt t0 : Tok} {Nn : Addr} (W : Wd w s.heap) (hl : s.heap.IsList Nn (List.toArray [.int n0 t0])) (hn0 : 0 < n0 ∧ n0 ≤ 1000) (ht : 0 ≤ t) (ht1 : t ≤ 1000) (hfew : Few (solveL [n0] t))
    (h1 : A.handled = none) (h2 : A.depth ≤ 400) (h3 : A.units ≤ 4000) :
    wpAny (MM w) A (call (.ref 54) [.int t tt, .ref Nn]) (fun v s' => Sorted s.heap (solveL [n0] t) v s'.heap ∧ Moves (fun _ => False) (fun _ => False) s s' ∧ Tidy (fun _ => False) (fun _ => False) s s') (fun _ _ => False) s := by
  have fill : (Mine.hd.heap_39 w.params).In s.heap → PySem.Challenge.rw_jf0027_01.row = PySem.Challenge.rw_jf0027_01.row := by
    k_fill
    intro _; rfl
  clear fill
  have W' := W
  obtain ⟨X, p, loose, mean, mg, mb, T⟩ := W
  have lim := T.nolimit
  have hI : IntsAre [.int n0 t0] [n0] := .cons _ _ (.nil)
  refine' enter2 (K := Mine.hd.heap_39 w.params) (binds := [(Str.ofString "total", .int t tt), (Str.ofString "numbers", .ref Nn)]) ?kW ?kl ?kR ?ko ?kc ?kb ?kloc ?kb2 ?c1 ?c2 ?c3 ?c4
  case ko => k_is
  case kc => k_is
  case kb => exact BindsTo.of_eq rfl
  case kloc => exact locs rfl
  case c1 => exact rfl
  case c2 => exact rfl
  case c3 => exact rfl
  case c4 => decide
  case kR => simp only [recursionLimit]; lia
  case kW => exact X
  case kl => exact lim
  k_whole
  intro h₁ tk F
  have M₀ := Fr.moves (tk := tk) F
  generalize hL : s.heap.objs.size = L at F ⊢
  refine mm_block (pre := [_]) (dp := 420) (un := 4200) (m := (fun y => List.lookup y [(Str.ofString "total", Value.int t tt), (Str.ofString "numbers", Value.ref Nn)].reverse)) (extra := []) (Φ := fun f m' _ => f = .next ∧ m' = (fun y => List.lookup y [(Str.ofString "total", Value.int t tt), (Str.ofString "numbers", Value.ref Nn)].reverse)) ?_ F News.nil h1 (by show A.depth + 1 ≤ 420; lia) (by show A.units + 3 ≤ 4200; lia) ?_
  · clear F M₀
    intro s' hg F N' N
    refine hideQ fun Q0 hQ0 => ?_
    (repeat' (first | (with_reducible show wpAny _ _ _ _ _ _); (fail_if_success (first | (with_reducible show wpAny _ _ (exec (Stmt.While _ _ _ _) _) _ _ _) | (with_reducible show wpAny _ _ (exec (Stmt.For _ _ _ _ _) _) _ _ _) | (with_reducible show wpAny _ _ (call (Value.ref _) _ _) _ _ _))); (first | (first | ((with_reducible show wpAny _ _ (eval (.Name _ _) _) _ _ _); (refine' nameX_L ?zf ?zv ?_; (case zf => assumption); (case zv => (repeat' first | assumption | exact if_pos rfl | refine (if_neg (by decide)).trans ?_)))) | walk1) | (dsimp only; walk1)) | (with_reducible show ite _ _ _); split; all_goals (try (rename_i hq; exfalso; simp only [decide_eq_true_eq, Bool.not_eq_true, decide_eq_false_iff_not, beq_iff_eq, bne_iff_ne, beq_eq_false_iff_ne, bne_eq_false_iff_eq, ne_eq, Bool.false_eq_true, not_true_eq_false, not_false_eq_true] at hq <;> first | lia | omega))))
    rename Fr _ _ _ _ => F'
    rename News _ _ _ _ => N''
    exact hQ0 _ _ ⟨⟨hg, by first | rfl | trivial⟩, _, F', N'', rfl, rfl⟩
  intro f m' s₂ F₂ N₂ M₂ G₂ hq9_
  refine ex0_2 (hq9_) ?_
  clear hq9_
  intro hq10_ hq11_
  obtain rfl := hq10_
  obtain rfl := hq11_
  have M₁ := M₀.step M₂ (fun d q => .inr (by rw [q, ← hL]; exact Nat.le_refl _)) fun _ q => q.elim
  clear F
  dsimp only
  refine wpAny_execs_cons (wpAny_If ?_)
  refine wp_trip (dp := 420) (un := 4200) (m := (fun y => List.lookup y [(Str.ofString "total", Value.int t tt), (Str.ofString "numbers", Value.ref Nn)].reverse)) (extra := []) (Φ := fun f m' _ => f = true ∧ m' = (fun y => List.lookup y [(Str.ofString "total", Value.int t tt), (Str.ofString "numbers", Value.ref Nn)].reverse)) ?_ F₂ News.nil h1 (by show A.depth + 1 ≤ 420; lia) (by show A.units + 3 ≤ 4200; lia) ?_
  · clear F₂
    intro s' hg F N' N
    refine hideQ fun Q0 hQ0 => ?_
    (repeat' (first | (with_reducible show wpAny _ _ _ _ _ _); (fail_if_success (first | (with_reducible show wpAny _ _ (exec (Stmt.While _ _ _ _) _) _ _ _) | (with_reducible show wpAny _ _ (exec (Stmt.For _ _ _ _ _) _) _ _ _) | (with_reducible show wpAny _ _ (call (Value.ref _) _ _) _ _ _))); (first | (first | ((with_reducible show wpAny _ _ (eval (.Name _ _) _) _ _ _); (refine' nameX_L ?zf ?zv ?_; (case zf => assumption); (case zv => (repeat' first | assumption | exact if_pos rfl | refine (if_neg (by decide)).trans ?_)))) | walk1) | (dsimp only; walk1)) | (with_reducible show ite _ _ _); split; all_goals (try (rename_i hq; exfalso; simp only [decide_eq_true_eq, Bool.not_eq_true, decide_eq_false_iff_not, beq_iff_eq, bne_iff_ne, beq_eq_false_iff_ne, bne_eq_false_iff_eq, ne_eq, Bool.false_eq_true, not_true_eq_false, not_false_eq_true] at hq <;> first | lia | omega))))
    rename Fr _ _ _ _ => F'
    rename News _ _ _ _ => N''
    exact hQ0 _ _ ⟨⟨hg, by first | rfl | trivial⟩, _, F', N'', rfl, rfl⟩
  intro f m' s₃ F₃ N₃ M₃ G₃ hq12_
  refine ex0_2 (hq12_) ?_
  clear hq12_
  intro hq13_ hq14_
  obtain rfl := hq13_
  obtain rfl := hq14_
  have M₄ := M₁.step M₃ (fun d q => .inr (by rw [q, ← hL]; exact Nat.le_refl _)) fun _ q => q.elim
  have G₄ : s₃.gens = s.gens := G₃.trans G₂
  clear M₀ M₁ M₂ M₃ G₂ G₃ F₂ N₂ N₃
  rw [if_pos rfl]
  refine wpAny_execs_cons (wpAny_Return_some ?_)
  (repeat' ((with_reducible show wpAny _ _ _ _ _ _); (fail_if_success (with_reducible show wpAny _ _ (spliced _) _ _ _)); (first | (first | ((with_reducible show wpAny _ _ (eval (.Name _ _) _) _ _ _); (refine' nameX_L ?zf ?zv ?_; (case zf => assumption); (case zv => (repeat' first | assumption | exact if_pos rfl | refine (if_neg (by decide)).trans ?_)))) | walk1) | (dsimp only; walk1))))
  walk1
  (repeat' ((with_reducible show wpAny _ _ _ _ _ _); (fail_if_success (with_reducible show wpAny _ _ (spliced _) _ _ _)); (first | (first | ((with_reducible show wpAny _ _ (eval (.Name _ _) _) _ _ _); (refine' nameX_L ?zf ?zv ?_; (case zf => assumption); (case zv => (repeat' first | assumption | exact if_pos rfl | refine (if_neg (by decide)).trans ?_)))) | walk1) | (dsimp only; walk1))))
  refine wp_trip (dp := 420) (un := 4200) (m := (fun y => List.lookup y [(Str.ofString "total", Value.int t tt), (Str.ofString "numbers", Value.ref Nn)].reverse)) (extra := []) (Φ := fun vs m' _ => (∃ u0 u1, vs = [.int t u0, .int n0 u1]) ∧ m' = (fun y => List.lookup y [(Str.ofString "total", Value.int t tt), (Str.ofString "numbers", Value.ref Nn)].reverse)) ?_ F₃ News.nil h1 (by show A.depth + 1 ≤ 420; lia) (by show A.units + 3 ≤ 4200; lia) ?_
  · clear F₃
    intro s' hg F N' N
    refine hideQ fun Q0 hQ0 => ?_
    (repeat' (first | (with_reducible show wpAny _ _ _ _ _ _); (fail_if_success (first | (with_reducible show wpAny _ _ (exec (Stmt.While _ _ _ _) _) _ _ _) | (with_reducible show wpAny _ _ (exec (Stmt.For _ _ _ _ _) _) _ _ _) | (with_reducible show wpAny _ _ (call (Value.ref _) _ _) _ _ _))); (first | (first | ((with_reducible show wpAny _ _ (eval (.Name _ _) _) _ _ _); (refine' nameX_L ?zf ?zv ?_; (case zf => assumption); (case zv => (repeat' first | assumption | exact if_pos rfl | refine (if_neg (by decide)).trans ?_)))) | walk1) | (dsimp only; walk1)) | (with_reducible show ite _ _ _); split; all_goals (try (rename_i hq; exfalso; simp only [decide_eq_true_eq, Bool.not_eq_true, decide_eq_false_iff_not, beq_iff_eq, bne_iff_ne, beq_eq_false_iff_ne, bne_eq_false_iff_eq, ne_eq, Bool.false_eq_true, not_true_eq_false, not_false_eq_true] at hq <;> first | lia | omega))))
    rename Fr _ _ _ _ => F'
    rename News _ _ _ _ => N''
    exact hQ0 _ _ ⟨⟨hg, by first | rfl | trivial⟩, _, F', N'', ⟨_, _, rfl⟩, rfl⟩
  intro vs m' s₄ F₄ N₄ M₅ G₅ hq15_
  refine ex0_2 (hq15_) ?_
  clear hq15_
  intro hq16_ hq17_
  refine ex2_1 (hq16_) ?_
  clear hq16_
  intro u0 u1 hq18_
  obtain rfl := hq18_
  obtain rfl := hq17_
  have M₆ := M₄.step M₅ (fun d q => .inr (by rw [q, ← hL]; exact Nat.le_refl _)) fun _ q => q.elim
  have G₆ : s₄.gens = s.gens := G₅.trans G₄
  clear F₃ N₄ M₄ M₅ G₅ G₄
  refine ⟨X.keeps F₄.keep, ?_⟩
  have base₃ := F₄.keep
  have bsz₃ : s.heap.objs.size ≤ s₄.heap.objs.size := M₆.hsize
  have hroom : (A.deeper (envOf (Str.ofString "_law_solved") ⟨.function, [], false, false, []⟩ L 54 (.ref 53))).depth < recursionLimit := by show A.depth + 1 < 1000; lia
  refine wpAny_mono (solve1_ok W' ht ht1 hn0.1 hn0.2 base₃ bsz₃ hroom) (fun v s₅ hB => ?_) (fun _ _ x => x)
  walk1
  refine sorted_born (k := 1) lim h1 (by show A.depth + 1 ≤ 480; lia) (by show A.units + 3 + 3 ≤ 4800; lia) hroom hL F₄ M₆ G₆ (show Born w s.heap 480 4800 (solveL [n0] t) s₄ v s₅ by first | exact hB | (rw [solveL]; exact hB)) (fun r hr => solveL_len 1 _ _ rfl r hr) (solveL_spec 1 [n0] t rfl (by intro z hz; simp at hz; try lia) ht).2 hfew fun v s' S M T => ?_
  exact ⟨S, M, T⟩

set_option maxHeartbeats 4000000 in
theorem solved2_ok {w : World} {A : Around} {s : Shared} {t n0 n1 : Int} {tt t0 t1 : Tok} {Nn : Addr} (W : Wd w s.heap) (hl : s.heap.IsList Nn (List.toArray [.int n0 t0, .int n1 t1])) (hn0 : 0 < n0 ∧ n0 ≤ 1000) (hn1 : 0 < n1 ∧ n1 ≤ 1000) (ht : 0 ≤ t) (ht1 : t ≤ 1000) (hfew : Few (solveL [n0, n1] t))
    (h1 : A.handled = none) (h2 : A.depth ≤ 400) (h3 : A.units ≤ 4000) :
    wpAny (MM w) A (call (.ref 54) [.int t tt, .ref Nn]) (fun v s' => Sorted s.heap (solveL [n0, n1] t) v s'.heap ∧ Moves (fun _ => False) (fun _ => False) s s' ∧ Tidy (fun _ => False) (fun _ => False) s s') (fun _ _ => False) s := by
  have fill : (Mine.hd.heap_39 w.params).In s.heap → PySem.Challenge.rw_jf0027_01.row = PySem.Challenge.rw_jf0027_01.row := by
    k_fill
    intro _; rfl
  clear fill
  have W' := W
  obtain ⟨X, p, loose, mean, mg, mb, T⟩ := W
  have lim := T.nolimit
  have hI : IntsAre [.int n0 t0, .int n1 t1] [n0, n1] := .cons _ _ (.cons _ _ (.nil))
  refine' enter2 (K := Mine.hd.heap_39 w.params) (binds := [(Str.ofString "total", .int t tt), (Str.ofString "numbers", .ref Nn)]) ?kW ?kl ?kR ?ko ?kc ?kb ?kloc ?kb2 ?c1 ?c2 ?c3 ?c4
  case ko => k_is
  case kc => k_is
  case kb => exact BindsTo.of_eq rfl
  case kloc => exact locs rfl
  case c1 => exact rfl
  case c2 => exact rfl
  case c3 => exact rfl
  case c4 => decide
  case kR => simp only [recursionLimit]; lia
  case kW => exact X
  case kl => exact lim
  k_whole
  intro h₁ tk F
  have M₀ := Fr.moves (tk := tk) F
  generalize hL : s.heap.objs.size = L at F ⊢
  refine mm_block (pre := [_, _]) (dp := 420) (un := 4200) (m := (fun y => List.lookup y [(Str.ofString "total", Value.int t tt), (Str.ofString "numbers", Value.ref Nn)].reverse)) (extra := []) (Φ := fun f m' _ => f = .next ∧ m' = (fun y => List.lookup y [(Str.ofString "total", Value.int t tt), (Str.ofString "numbers", Value.ref Nn)].reverse)) ?_ F News.nil h1 (by show A.depth + 1 ≤ 420; lia) (by show A.units + 3 ≤ 4200; lia) ?_
  · clear F M₀
    intro s' hg F N' N
    refine hideQ fun Q0 hQ0 => ?_
    (repeat' (first | (with_reducible show wpAny _ _ _ _ _ _); (fail_if_success (first | (with_reducible show wpAny _ _ (exec (Stmt.While _ _ _ _) _) _ _ _) | (with_reducible show wpAny _ _ (exec (Stmt.For _ _ _ _ _) _) _ _ _) | (with_reducible show wpAny _ _ (call (Value.ref _) _ _) _ _ _))); (first | (first | ((with_reducible show wpAny _ _ (eval (.Name _ _) _) _ _ _); (refine' nameX_L ?zf ?zv ?_; (case zf => assumption); (case zv => (repeat' first | assumption | exact if_pos rfl | refine (if_neg (by decide)).trans ?_)))) | walk1) | (dsimp only; walk1)) | (with_reducible show ite _ _ _); split; all_goals (try (rename_i hq; exfalso; simp only [decide_eq_true_eq, Bool.not_eq_true, decide_eq_false_iff_not, beq_iff_eq, bne_iff_ne, beq_eq_false_iff_ne, bne_eq_false_iff_eq, ne_eq, Bool.false_eq_true, not_true_eq_false, not_false_eq_true] at hq <;> first | lia | omega))))
    rename Fr _ _ _ _ => F'
    rename News _ _ _ _ => N''
    exact hQ0 _ _ ⟨⟨hg, by first | rfl | trivial⟩, _, F', N'', rfl, rfl⟩
  intro f m' s₂ F₂ N₂ M₂ G₂ hq19_
  refine ex0_2 (hq19_) ?_
  clear hq19_
  intro hq20_ hq21_
  obtain rfl := hq20_
  obtain rfl := hq21_
  have M₁ := M₀.step M₂ (fun d q => .inr (by rw [q, ← hL]; exact Nat.le_refl _)) fun _ q => q.elim
  clear F
  dsimp only
  refine wpAny_execs_cons (wpAny_If ?_)
  refine wp_trip (dp := 420) (un := 4200) (m := (fun y => List.lookup y [(Str.ofString "total", Value.int t tt), (Str.ofString "numbers", Value.ref Nn)].reverse)) (extra := []) (Φ := fun f m' _ => f = true ∧ m' = (fun y => List.lookup y [(Str.ofString "total", Value.int t tt), (Str.ofString "numbers", Value.ref Nn)].reverse)) ?_ F₂ News.nil h1 (by show A.depth + 1 ≤ 420; lia) (by show A.units + 3 ≤ 4200; lia) ?_
  · clear F₂
    intro s' hg F N' N
    refine hideQ fun Q0 hQ0 => ?_
    (repeat' (first | (with_reducible show wpAny _ _ _ _ _ _); (fail_if_success (first | (with_reducible show wpAny _ _ (exec (Stmt.While _ _ _ _) _) _ _ _) | (with_reducible show wpAny _ _ (exec (Stmt.For _ _ _ _ _) _) _ _ _) | (with_reducible show wpAny _ _ (call (Value.ref _) _ _) _ _ _))); (first | (first | ((with_reducible show wpAny _ _ (eval (.Name _ _) _) _ _ _); (refine' nameX_L ?zf ?zv ?_; (case zf => assumption); (case zv => (repeat' first | assumption | exact if_pos rfl | refine (if_neg (by decide)).trans ?_)))) | walk1) | (dsimp only; walk1)) | (with_reducible show ite _ _ _); split; all_goals (try (rename_i hq; exfalso; simp only [decide_eq_true_eq, Bool.not_eq_true, decide_eq_false_iff_not, beq_iff_eq, bne_iff_ne, beq_eq_false_iff_ne, bne_eq_false_iff_eq, ne_eq, Bool.false_eq_true, not_true_eq_false, not_false_eq_true] at hq <;> first | lia | omega))))
    rename Fr _ _ _ _ => F'
    rename News _ _ _ _ => N''
    exact hQ0 _ _ ⟨⟨hg, by first | rfl | trivial⟩, _, F', N'', rfl, rfl⟩
  intro f m' s₃ F₃ N₃ M₃ G₃ hq22_
  refine ex0_2 (hq22_) ?_
  clear hq22_
  intro hq23_ hq24_
  obtain rfl := hq23_
  obtain rfl := hq24_
  have M₄ := M₁.step M₃ (fun d q => .inr (by rw [q, ← hL]; exact Nat.le_refl _)) fun _ q => q.elim
  have G₄ : s₃.gens = s.gens := G₃.trans G₂
  clear M₀ M₁ M₂ M₃ G₂ G₃ F₂ N₂ N₃
  rw [if_pos rfl]
  refine wpAny_execs_cons (wpAny_Return_some ?_)
  (repeat' ((with_reducible show wpAny _ _ _ _ _ _); (fail_if_success (with_reducible show wpAny _ _ (spliced _) _ _ _)); (first | (first | ((with_reducible show wpAny _ _ (eval (.Name _ _) _) _ _ _); (refine' nameX_L ?zf ?zv ?_; (case zf => assumption); (case zv => (repeat' first | assumption | exact if_pos rfl | refine (if_neg (by decide)).trans ?_)))) | walk1) | (dsimp only; walk1))))
  walk1
  (repeat' ((with_reducible show wpAny _ _ _ _ _ _); (fail_if_success (with_reducible show wpAny _ _ (spliced _) _ _ _)); (first | (first | ((with_reducible show wpAny _ _ (eval (.Name _ _) _) _ _ _); (refine' nameX_L ?zf ?zv ?_; (case zf => assumption); (case zv => (repeat' first | assumption | exact if_pos rfl | refine (if_neg (by decide)).trans ?_)))) | walk1) | (dsimp only; walk1))))
  refine wp_trip (dp := 420) (un := 4200) (m := (fun y => List.lookup y [(Str.ofString "total", Value.int t tt), (Str.ofString "numbers", Value.ref Nn)].reverse)) (extra := []) (Φ := fun vs m' _ => (∃ u0 u1 u2, vs = [.int t u0, .int n0 u1, .int n1 u2]) ∧ m' = (fun y => List.lookup y [(Str.ofString "total", Value.int t tt), (Str.ofString "numbers", Value.ref Nn)].reverse)) ?_ F₃ News.nil h1 (by show A.depth + 1 ≤ 420; lia) (by show A.units + 3 ≤ 4200; lia) ?_
  · clear F₃
    intro s' hg F N' N
    refine hideQ fun Q0 hQ0 => ?_
    (repeat' (first | (with_reducible show wpAny _ _ _ _ _ _); (fail_if_success (first | (with_reducible show wpAny _ _ (exec (Stmt.While _ _ _ _) _) _ _ _) | (with_reducible show wpAny _ _ (exec (Stmt.For _ _ _ _ _) _) _ _ _) | (with_reducible show wpAny _ _ (call (Value.ref _) _ _) _ _ _))); (first | (first | ((with_reducible show wpAny _ _ (eval (.Name _ _) _) _ _ _); (refine' nameX_L ?zf ?zv ?_; (case zf => assumption); (case zv => (repeat' first | assumption | exact if_pos rfl | refine (if_neg (by decide)).trans ?_)))) | walk1) | (dsimp only; walk1)) | (with_reducible show ite _ _ _); split; all_goals (try (rename_i hq; exfalso; simp only [decide_eq_true_eq, Bool.not_eq_true, decide_eq_false_iff_not, beq_iff_eq, bne_iff_ne, beq_eq_false_iff_ne, bne_eq_false_iff_eq, ne_eq, Bool.false_eq_true, not_true_eq_false, not_false_eq_true] at hq <;> first | lia | omega))))
    rename Fr _ _ _ _ => F'
    rename News _ _ _ _ => N''
    exact hQ0 _ _ ⟨⟨hg, by first | rfl | trivial⟩, _, F', N'', ⟨_, _, _, rfl⟩, rfl⟩
  intro vs m' s₄ F₄ N₄ M₅ G₅ hq25_
  refine ex0_2 (hq25_) ?_
  clear hq25_
  intro hq26_ hq27_
  refine ex3_1 (hq26_) ?_
  clear hq26_
  intro u0 u1 u2 hq28_
  obtain rfl := hq28_
  obtain rfl := hq27_
  have M₆ := M₄.step M₅ (fun d q => .inr (by rw [q, ← hL]; exact Nat.le_refl _)) fun _ q => q.elim
  have G₆ : s₄.gens = s.gens := G₅.trans G₄
  clear F₃ N₄ M₄ M₅ G₅ G₄
  refine ⟨X.keeps F₄.keep, ?_⟩
  have base₃ := F₄.keep
  have bsz₃ : s.heap.objs.size ≤ s₄.heap.objs.size := M₆.hsize
  have hroom : (A.deeper (envOf (Str.ofString "_law_solved") ⟨.function, [], false, false, []⟩ L 54 (.ref 53))).depth < recursionLimit := by show A.depth + 1 < 1000; lia
  refine wpAny_mono (solve2_ok W' ht ht1 hn0.1 hn0.2 hn1.1 hn1.2 base₃ bsz₃ hroom) (fun v s₅ hB => ?_) (fun _ _ x => x)
  walk1
  refine sorted_born (k := 2) lim h1 (by show A.depth + 1 ≤ 480; lia) (by show A.units + 3 + 3 ≤ 4800; lia) hroom hL F₄ M₆ G₆ (show Born w s.heap 480 4800 (solveL [n0, n1] t) s₄ v s₅ by first | exact hB | (rw [solveL]; exact hB)) (fun r hr => solveL_len 2 _ _ rfl r hr) (solveL_spec 2 [n0, n1] t rfl (by intro z hz; simp at hz; try lia) ht).2 hfew fun v s' S M T => ?_
  exact ⟨S, M, T⟩

set_option maxHeartbeats 4000000 in
theorem solved3_ok {w : World} {A : Around} {s : Shared} {t n0 n1 n2 : Int} {tt t0 t1 t2 : Tok} {Nn : Addr} (W : Wd w s.heap) (hl : s.heap.IsList Nn (List.toArray [.int n0 t0, .int n1 t1, .int n2 t2])) (hn0 : 0 < n0 ∧ n0 ≤ 1000) (hn1 : 0 < n1 ∧ n1 ≤ 1000) (hn2 : 0 < n2 ∧ n2 ≤ 1000) (ht : 0 ≤ t) (ht1 : t ≤ 1000) (hfew : Few (solveL [n0, n1, n2] t))
    (h1 : A.handled = none) (h2 : A.depth ≤ 400) (h3 : A.units ≤ 4000) :
    wpAny (MM w) A (call (.ref 54) [.int t tt, .ref Nn]) (fun v s' => Sorted s.heap (solveL [n0, n1, n2] t) v s'.heap ∧ Moves (fun _ => False) (fun _ => False) s s' ∧ Tidy (fun _ => False) (fun _ => False) s s') (fun _ _ => False) s := by
  have fill : (Mine.hd.heap_39 w.params).In s.heap → PySem.Challenge.rw_jf0027_01.row = PySem.Challenge.rw_jf0027_01.row := by
    k_fill
    intro _; rfl
  clear fill
  have W' := W
  obtain ⟨X, p, loose, mean, mg, mb, T⟩ := W
  have lim := T.nolimit
  have hI : IntsAre [.int n0 t0, .int n1 t1, .int n2 t2] [n0, n1, n2] := .cons _ _ (.cons _ _ (.cons _ _ (.nil)))
  refine' enter2 (K := Mine.hd.heap_39 w.params) (binds := [(Str.ofString "total", .int t tt), (Str.ofString "numbers", .ref Nn)]) ?kW ?kl ?kR ?ko ?kc ?kb ?kloc ?kb2 ?c1 ?c2 ?c3 ?c4
  case ko => k_is
  case kc => k_is
  case kb => exact BindsTo.of_eq rfl
  case kloc => exact locs rfl
  case c1 => exact rfl
  case c2 => exact rfl
  case c3 => exact rfl
  case c4 => decide
  case kR => simp only [recursionLimit]; lia
  case kW => exact X
  case kl => exact lim
  k_whole
  intro h₁ tk F
  have M₀ := Fr.moves (tk := tk) F
  generalize hL : s.heap.objs.size = L at F ⊢
  refine mm_block (pre := [_, _, _]) (dp := 420) (un := 4200) (m := (fun y => List.lookup y [(Str.ofString "total", Value.int t tt), (Str.ofString "numbers", Value.ref Nn)].reverse)) (extra := []) (Φ := fun f m' _ => f = .next ∧ m' = (fun y => List.lookup y [(Str.ofString "total", Value.int t tt), (Str.ofString "numbers", Value.ref Nn)].reverse)) ?_ F News.nil h1 (by show A.depth + 1 ≤ 420; lia) (by show A.units + 3 ≤ 4200; lia) ?_
  · clear F M₀
    intro s' hg F N' N
    refine hideQ fun Q0 hQ0 => ?_
    (repeat' (first | (with_reducible show wpAny _ _ _ _ _ _); (fail_if_success (first | (with_reducible show wpAny _ _ (exec (Stmt.While _ _ _ _) _) _ _ _) | (with_reducible show wpAny _ _ (exec (Stmt.For _ _ _ _ _) _) _ _ _) | (with_reducible show wpAny _ _ (call (Value.ref _) _ _) _ _ _))); (first | (first | ((with_reducible show wpAny _ _ (eval (.Name _ _) _) _ _ _); (refine' nameX_L ?zf ?zv ?_; (case zf => assumption); (case zv => (repeat' first | assumption | exact if_pos rfl | refine (if_neg (by decide)).trans ?_)))) | walk1) | (dsimp only; walk1)) | (with_reducible show ite _ _ _); split; all_goals (try (rename_i hq; exfalso; simp only [decide_eq_true_eq, Bool.not_eq_true, decide_eq_false_iff_not, beq_iff_eq, bne_iff_ne, beq_eq_false_iff_ne, bne_eq_false_iff_eq, ne_eq, Bool.false_eq_true, not_true_eq_false, not_false_eq_true] at hq <;> first | lia | omega))))
    rename Fr _ _ _ _ => F'
    rename News _ _ _ _ => N''
    exact hQ0 _ _ ⟨⟨hg, by first | rfl | trivial⟩, _, F', N'', rfl, rfl⟩
  intro f m' s₂ F₂ N₂ M₂ G₂ hq29_
  refine ex0_2 (hq29_) ?_
  clear hq29_
  intro hq30_ hq31_
  obtain rfl := hq30_
  obtain rfl := hq31_
  have M₁ := M₀.step M₂ (fun d q => .inr (by rw [q, ← hL]; exact Nat.le_refl _)) fun _ q => q.elim
  clear F
  dsimp only
  refine wpAny_execs_cons (wpAny_If ?_)
  refine wp_trip (dp := 420) (un := 4200) (m := (fun y => List.lookup y [(Str.ofString "total", Value.int t tt), (Str.ofString "numbers", Value.ref Nn)].reverse)) (extra := []) (Φ := fun f m' _ => f = true ∧ m' = (fun y => List.lookup y [(Str.ofString "total", Value.int t tt), (Str.ofString "numbers", Value.ref Nn)].reverse)) ?_ F₂ News.nil h1 (by show A.depth + 1 ≤ 420; lia) (by show A.units + 3 ≤ 4200; lia) ?_
  · clear F₂
    intro s' hg F N' N
    refine hideQ fun Q0 hQ0 => ?_
    (repeat' (first | (with_reducible show wpAny _ _ _ _ _ _); (fail_if_success (first | (with_reducible show wpAny _ _ (exec (Stmt.While _ _ _ _) _) _ _ _) | (with_reducible show wpAny _ _ (exec (Stmt.For _ _ _ _ _) _) _ _ _) | (with_reducible show wpAny _ _ (call (Value.ref _) _ _) _ _ _))); (first | (first | ((with_reducible show wpAny _ _ (eval (.Name _ _) _) _ _ _); (refine' nameX_L ?zf ?zv ?_; (case zf => assumption); (case zv => (repeat' first | assumption | exact if_pos rfl | refine (if_neg (by decide)).trans ?_)))) | walk1) | (dsimp only; walk1)) | (with_reducible show ite _ _ _); split; all_goals (try (rename_i hq; exfalso; simp only [decide_eq_true_eq, Bool.not_eq_true, decide_eq_false_iff_not, beq_iff_eq, bne_iff_ne, beq_eq_false_iff_ne, bne_eq_false_iff_eq, ne_eq, Bool.false_eq_true, not_true_eq_false, not_false_eq_true] at hq <;> first | lia | omega))))
    rename Fr _ _ _ _ => F'
    rename News _ _ _ _ => N''
    exact hQ0 _ _ ⟨⟨hg, by first | rfl | trivial⟩, _, F', N'', rfl, rfl⟩
  intro f m' s₃ F₃ N₃ M₃ G₃ hq32_
  refine ex0_2 (hq32_) ?_
  clear hq32_
  intro hq33_ hq34_
  obtain rfl := hq33_
  obtain rfl := hq34_
  have M₄ := M₁.step M₃ (fun d q => .inr (by rw [q, ← hL]; exact Nat.le_refl _)) fun _ q => q.elim
  have G₄ : s₃.gens = s.gens := G₃.trans G₂
  clear M₀ M₁ M₂ M₃ G₂ G₃ F₂ N₂ N₃
  rw [if_pos rfl]
  refine wpAny_execs_cons (wpAny_Return_some ?_)
  (repeat' ((with_reducible show wpAny _ _ _ _ _ _); (fail_if_success (with_reducible show wpAny _ _ (spliced _) _ _ _)); (first | (first | ((with_reducible show wpAny _ _ (eval (.Name _ _) _) _ _ _); (refine' nameX_L ?zf ?zv ?_; (case zf => assumption); (case zv => (repeat' first | assumption | exact if_pos rfl | refine (if_neg (by decide)).trans ?_)))) | walk1) | (dsimp only; walk1))))
  walk1
  (repeat' ((with_reducible show wpAny _ _ _ _ _ _); (fail_if_success (with_reducible show wpAny _ _ (spliced _) _ _ _)); (first | (first | ((with_reducible show wpAny _ _ (eval (.Name _ _) _) _ _ _); (refine' nameX_L ?zf ?zv ?_; (case zf => assumption); (case zv => (repeat' first | assumption | exact if_pos rfl | refine (if_neg (by decide)).trans ?_)))) | walk1) | (dsimp only; walk1))))
  refine wp_trip (dp := 420) (un := 4200) (m := (fun y => List.lookup y [(Str.ofString "total", Value.int t tt), (Str.ofString "numbers", Value.ref Nn)].reverse)) (extra := []) (Φ := fun vs m' _ => (∃ u0 u1 u2 u3, vs = [.int t u0, .int n0 u1, .int n1 u2, .int n2 u3]) ∧ m' = (fun y => List.lookup y [(Str.ofString "total", Value.int t tt), (Str.ofString "numbers", Value.ref Nn)].reverse)) ?_ F₃ News.nil h1 (by show A.depth + 1 ≤ 420; lia) (by show A.units + 3 ≤ 4200; lia) ?_
  · clear F₃
    intro s' hg F N' N
    refine hideQ fun Q0 hQ0 => ?_
    (repeat' (first | (with_reducible show wpAny _ _ _ _ _ _); (fail_if_success (first | (with_reducible show wpAny _ _ (exec (Stmt.While _ _ _ _) _) _ _ _) | (with_reducible show wpAny _ _ (exec (Stmt.For _ _ _ _ _) _) _ _ _) | (with_reducible show wpAny _ _ (call (Value.ref _) _ _) _ _ _))); (first | (first | ((with_reducible show wpAny _ _ (eval (.Name _ _) _) _ _ _); (refine' nameX_L ?zf ?zv ?_; (case zf => assumption); (case zv => (repeat' first | assumption | exact if_pos rfl | refine (if_neg (by decide)).trans ?_)))) | walk1) | (dsimp only; walk1)) | (with_reducible show ite _ _ _); split; all_goals (try (rename_i hq; exfalso; simp only [decide_eq_true_eq, Bool.not_eq_true, decide_eq_false_iff_not, beq_iff_eq, bne_iff_ne, beq_eq_false_iff_ne, bne_eq_false_iff_eq, ne_eq, Bool.false_eq_true, not_true_eq_false, not_false_eq_true] at hq <;> first | lia | omega))))
    rename Fr _ _ _ _ => F'
    rename News _ _ _ _ => N''
    exact hQ0 _ _ ⟨⟨hg, by first | rfl | trivial⟩, _, F', N'', ⟨_, _, _, _, rfl⟩, rfl⟩
  intro vs m' s₄ F₄ N₄ M₅ G₅ hq35_
  refine ex0_2 (hq35_) ?_
  clear hq35_
  intro hq36_ hq37_
  refine ex4_1 (hq36_) ?_
  clear hq36_
  intro u0 u1 u2 u3 hq38_
  obtain rfl := hq38_
  obtain rfl := hq37_
  have M₆ := M₄.step M₅ (fun d q => .inr (by rw [q, ← hL]; exact Nat.le_refl _)) fun _ q => q.elim
  have G₆ : s₄.gens = s.gens := G₅.trans G₄
  clear F₃ N₄ M₄ M₅ G₅ G₄
  refine ⟨X.keeps F₄.keep, ?_⟩
  have base₃ := F₄.keep
  have bsz₃ : s.heap.objs.size ≤ s₄.heap.objs.size := M₆.hsize
  have hroom : (A.deeper (envOf (Str.ofString "_law_solved") ⟨.function, [], false, false, []⟩ L 54 (.ref 53))).depth < recursionLimit := by show A.depth + 1 < 1000; lia
  refine wpAny_mono (solve3_ok W' ht ht1 hn0.1 hn0.2 hn1.1 hn1.2 hn2.1 hn2.2 base₃ bsz₃ hroom) (fun v s₅ hB => ?_) (fun _ _ x => x)
  walk1
  refine sorted_born (k := 3) lim h1 (by show A.depth + 1 ≤ 460; exact Nat.lt_of_le_of_lt (by assumption) (by decide)) (by show A.units + 3 + 3 ≤ 4600; lia) hroom hL F₄ M₆ G₆ (show Born w s.heap 460 4600 (solveL [n0, n1, n2] t) s₄ v s₅ by first | exact hB | (rw [solveL]; exact hB)) (fun r hr => solveL_len 3 _ _ rfl r hr) (solveL_spec 3 [n0, n1, n2] t rfl (by intro z hz; simp at hz; try (clear hB hroom bsz₃ base₃ G₆ M₆ F₄ hL hI lim T X W' h3 h2 h1 hfew ht1 ht hl; lia)) ht).2 hfew fun v s' S M T => ?_
  exact ⟨S, M, T⟩

set_option maxHeartbeats 4000000 in
theorem solved4_ok {w : World} {A : Around} {s : Shared} {t n0 n1 n2 n3 : Int} {tt t0 t1 t2 t3 : Tok} {Nn : Addr} (W : Wd w s.heap) (hl : s.heap.IsList Nn (List.toArray [.int n0 t0, .int n1 t1, .int n2 t2, .int n3 t3])) (hn0 : 0 < n0 ∧ n0 ≤ 1000) (hn1 : 0 < n1 ∧ n1 ≤ 1000) (hn2 : 0 < n2 ∧ n2 ≤ 1000) (hn3 : 0 < n3 ∧ n3 ≤ 1000) (ht : 0 ≤ t) (ht1 : t ≤ 1000) (hfew : Few (solveL [n0, n1, n2, n3] t))
    (h1 : A.handled = none) (h2 : A.depth ≤ 400) (h3 : A.units ≤ 4000) :
    wpAny (MM w) A (call (.ref 54) [.int t tt, .ref Nn]) (fun v s' => Sorted s.heap (solveL [n0, n1, n2, n3] t) v s'.heap ∧ Moves (fun _ => False) (fun _ => False) s s' ∧ Tidy (fun _ => False) (fun _ => False) s s') (fun _ _ => False) s := by
  have fill : (Mine.hd.heap_39 w.params).In s.heap → PySem.Challenge.rw_jf0027_01.row = PySem.Challenge.rw_jf0027_01.row := by
    k_fill
    intro _; rfl
  clear fill
  have W' := W
  obtain ⟨X, p, loose, mean, mg, mb, T⟩ := W
  have lim := T.nolimit
  have hI : IntsAre [.int n0 t0, .int n1 t1, .int n2 t2, .int n3 t3] [n0, n1, n2, n3] := .cons _ _ (.cons _ _ (.cons _ _ (.cons _ _ (.nil))))
  refine' enter2 (K := Mine.hd.heap_39 w.params) (binds := [(Str.ofString "total", .int t tt), (Str.ofString "numbers", .ref Nn)]) ?kW ?kl ?kR ?ko ?kc ?kb ?kloc ?kb2 ?c1 ?c2 ?c3 ?c4
  case ko => k_is
  case kc => k_is
  case kb => exact BindsTo.of_eq rfl
  case kloc => exact locs rfl
  case c1 => exact rfl
  case c2 => exact rfl
  case c3 => exact rfl
  case c4 => decide
  case kR => simp only [recursionLimit]; lia
  case kW => exact X
  case kl => exact lim
  k_whole
  intro h₁ tk F
  have M₀ := Fr.moves (tk := tk) F
  generalize hL : s.heap.objs.size = L at F ⊢
  refine mm_block (pre := [_, _, _, _]) (dp := 420) (un := 4200) (m := (fun y => List.lookup y [(Str.ofString "total", Value.int t tt), (Str.ofString "numbers", Value.ref Nn)].reverse)) (extra := []) (Φ := fun f m' _ => f = .next ∧ m' = (fun y => List.lookup y [(Str.ofString "total", Value.int t tt), (Str.ofString "numbers", Value.ref Nn)].reverse)) ?_ F News.nil h1 (by show A.depth + 1 ≤ 420; lia) (by show A.units + 3 ≤ 4200; lia) ?_
  · clear F M₀
    intro s' hg F N' N
    refine hideQ fun Q0 hQ0 => ?_
    (repeat' (first | (with_reducible show wpAny _ _ _ _ _ _); (fail_if_success (first | (with_reducible show wpAny _ _ (exec (Stmt.While _ _ _ _) _) _ _ _) | (with_reducible show wpAny _ _ (exec (Stmt.For _ _ _ _ _) _) _ _ _) | (with_reducible show wpAny _ _ (call (Value.ref _) _ _) _ _ _))); (first | (first | ((with_reducible show wpAny _ _ (eval (.Name _ _) _) _ _ _); (refine' nameX_L ?zf ?zv ?_; (case zf => assumption); (case zv => (repeat' first | assumption | exact if_pos rfl | refine (if_neg (by decide)).trans ?_)))) | walk1) | (dsimp only; walk1)) | (with_reducible show ite _ _ _); split; all_goals (try (rename_i hq; exfalso; simp only [decide_eq_true_eq, Bool.not_eq_true, decide_eq_false_iff_not, beq_iff_eq, bne_iff_ne, beq_eq_false_iff_ne, bne_eq_false_iff_eq, ne_eq, Bool.false_eq_true, not_true_eq_false, not_false_eq_true] at hq <;> first | lia | omega))))
    rename Fr _ _ _ _ => F'
    rename News _ _ _ _ => N''
    exact hQ0 _ _ ⟨⟨hg, by first | rfl | trivial⟩, _, F', N'', rfl, rfl⟩
  intro f m' s₂ F₂ N₂ M₂ G₂ hq39_
  refine ex0_2 (hq39_) ?_
  clear hq39_
  intro hq40_ hq41_
  obtain rfl := hq40_
  obtain rfl := hq41_
  have M₁ := M₀.step M₂ (fun d q => .inr (by rw [q, ← hL]; exact Nat.le_refl _)) fun _ q => q.elim
  clear F
  dsimp only
  refine ex1_1 ((⟨_, rfl⟩ : ∃ s₃ : Shared, s₃ = s₂)) ?_
  intro s₃ hs₃
  have F₃ := F₂
  have M₄ := M₁
  have G₄ : s₂.gens = s.gens := G₂
  rw [← hs₃] at F₃ M₄ G₄ ⊢
  clear M₀ M₁ M₂ G₂ F₂ N₂ hs₃
  refine wpAny_execs_cons (wpAny_Return_some ?_)
  (repeat' ((with_reducible show wpAny _ _ _ _ _ _); (fail_if_success (with_reducible show wpAny _ _ (spliced _) _ _ _)); (first | (first | ((with_reducible show wpAny _ _ (eval (.Name _ _) _) _ _ _); (refine' nameX_L ?zf ?zv ?_; (case zf => assumption); (case zv => (repeat' first | assumption | exact if_pos rfl | refine (if_neg (by decide)).trans ?_)))) | walk1) | (dsimp only; walk1))))
  walk1
  (repeat' ((with_reducible show wpAny _ _ _ _ _ _); (fail_if_success (with_reducible show wpAny _ _ (spliced _) _ _ _)); (first | (first | ((with_reducible show wpAny _ _ (eval (.Name _ _) _) _ _ _); (refine' nameX_L ?zf ?zv ?_; (case zf => assumption); (case zv => (repeat' first | assumption | exact if_pos rfl | refine (if_neg (by decide)).trans ?_)))) | walk1) | (dsimp only; walk1))))
  refine wp_trip (dp := 420) (un := 4200) (m := (fun y => List.lookup y [(Str.ofString "total", Value.int t tt), (Str.ofString "numbers", Value.ref Nn)].reverse)) (extra := []) (Φ := fun vs m' _ => (∃ u0 u1 u2 u3 u4, vs = [.int t u0, .int n0 u1, .int n1 u2, .int n2 u3, .int n3 u4]) ∧ m' = (fun y => List.lookup y [(Str.ofString "total", Value.int t tt), (Str.ofString "numbers", Value.ref Nn)].reverse)) ?_ F₃ News.nil h1 (by show A.depth + 1 ≤ 420; lia) (by show A.units + 3 ≤ 4200; lia) ?_
  · clear F₃
    intro s' hg F N' N
    refine hideQ fun Q0 hQ0 => ?_
    (repeat' (first | (with_reducible show wpAny _ _ _ _ _ _); (fail_if_success (first | (with_reducible show wpAny _ _ (exec (Stmt.While _ _ _ _) _) _ _ _) | (with_reducible show wpAny _ _ (exec (Stmt.For _ _ _ _ _) _) _ _ _) | (with_reducible show wpAny _ _ (call (Value.ref _) _ _) _ _ _))); (first | (first | ((with_reducible show wpAny _ _ (eval (.Name _ _) _) _ _ _); (refine' nameX_L ?zf ?zv ?_; (case zf => assumption); (case zv => (repeat' first | assumption | exact if_pos rfl | refine (if_neg (by decide)).trans ?_)))) | walk1) | (dsimp only; walk1)) | (with_reducible show ite _ _ _); split; all_goals (try (rename_i hq; exfalso; simp only [decide_eq_true_eq, Bool.not_eq_true, decide_eq_false_iff_not, beq_iff_eq, bne_iff_ne, beq_eq_false_iff_ne, bne_eq_false_iff_eq, ne_eq, Bool.false_eq_true, not_true_eq_false, not_false_eq_true] at hq <;> first | lia | omega))))
    rename Fr _ _ _ _ => F'
    rename News _ _ _ _ => N''
    exact hQ0 _ _ ⟨⟨hg, by first | rfl | trivial⟩, _, F', N'', ⟨_, _, _, _, _, rfl⟩, rfl⟩
  intro vs m' s₄ F₄ N₄ M₅ G₅ hq42_
  refine ex0_2 (hq42_) ?_
  clear hq42_
  intro hq43_ hq44_
  refine ex5_1 (hq43_) ?_
  clear hq43_
  intro u0 u1 u2 u3 u4 hq45_
  obtain rfl := hq45_
  obtain rfl := hq44_
  have M₆ := M₄.step M₅ (fun d q => .inr (by rw [q, ← hL]; exact Nat.le_refl _)) fun _ q => q.elim
  have G₆ : s₄.gens = s.gens := G₅.trans G₄
  clear F₃ N₄ M₄ M₅ G₅ G₄
  refine ⟨X.keeps F₄.keep, ?_⟩
  have base₃ := F₄.keep
  have bsz₃ : s.heap.objs.size ≤ s₄.heap.objs.size := M₆.hsize
  have hroom : (A.deeper (envOf (Str.ofString "_law_solved") ⟨.function, [], false, false, []⟩ L 54 (.ref 53))).depth < recursionLimit := by show A.depth + 1 < 1000; lia
  refine wpAny_mono (solve4_ok W' ht ht1 hn0.1 hn0.2 hn1.1 hn1.2 hn2.1 hn2.2 hn3.1 hn3.2 base₃ bsz₃ hroom) (fun v s₅ hB => ?_) (fun _ _ x => x)
  walk1
  refine sorted_born (k := 4) lim h1 (by show A.depth + 1 ≤ 440; exact Nat.lt_of_le_of_lt (by assumption) (by decide)) (by show A.units + 3 + 3 ≤ 4400; lia) hroom hL F₄ M₆ G₆ (show Born w s.heap 440 4400 (solveL [n0, n1, n2, n3] t) s₄ v s₅ by first | exact hB | (rw [solveL]; exact hB)) (fun r hr => solveL_len 4 _ _ rfl r hr) (solveL_spec 4 [n0, n1, n2, n3] t rfl (by intro z hz; simp at hz; try lia) ht).2 hfew fun v s' S M T => ?_
  exact ⟨S, M, T⟩


/-- a list of rows, new -/
noncomputable def RowList (h : Heap) (rows : List (List Int)) (v : Value) (h' : Heap) : Prop := ∃ S out c, v = .ref S ∧ h.get? S = none ∧ h'.get? S = some (lstObj (List.toArray out) c) ∧ RowsAt h' out rows

theorem Sorted.rows {hb : Heap} {xs ys : List (List Int)} {v : Value} {h : Heap} (x : Sorted hb xs v h) (hy : ys.Pairwise (fun x y => rowLt x y = true)) (hm : ∀ r, r ∈ xs ↔ r ∈ ys) : RowList hb ys v h := by
  refine ex4_7 (x.at_) ?_
  intro S out rows' c hq1_ a b R p q _
  obtain rfl := hq1_
  have e : rows' = ys := asc_unique _ _ q hy fun r => p.mem_iff.trans (hm r)
  exact ⟨S, out, c, rfl, a, b, e ▸ R⟩

theorem law_solved_ok {w : World} {A : Around} {s : Shared} {t : Int} {tt : Tok} {ns : List Int} {vs : List Value} {Nn : Addr} (W : Wd w s.heap) (hN : s.heap.IsList Nn (List.toArray vs)) (hI : IntsAre vs ns) (hn : ∀ n ∈ ns, 1 ≤ n ∧ n ≤ 6) (hl : ns.length ≤ 4) (ht : 0 ≤ t) (ht2 : t ≤ 12) (h4 : ns.length = 4 → t ≤ 6)
    (h1 : A.handled = none) (h2 : A.depth ≤ 400) (h3 : A.units ≤ 4000) :
    wpAny (MM w) A (call (.ref 54) [.int t tt, .ref Nn]) (fun v s' => RowList s.heap (rowsL ns t) v s'.heap ∧ Moves (fun _ => False) (fun _ => False) s s' ∧ Tidy (fun _ => False) (fun _ => False) s s') (fun _ _ => False) s := by
  have hp : ∀ n ∈ ns, 0 < n := fun n h => by have := hn n h; lia
  have hfew := (cnt_law ns t hn hl ht ht2 h4).1
  have hm : ∀ r, r ∈ solveL ns t ↔ r ∈ rowsL ns t := fun r => ((solveL_spec _ ns t rfl hp ht).1 r).trans (rowsL_mem ns t hp r).symm
  have fin : ∀ {Q : Value → Shared → Prop} {E : Value → Shared → Prop}, wpAny (MM w) A (call (.ref 54) [.int t tt, .ref Nn]) (fun v s' => Sorted s.heap (solveL ns t) v s'.heap ∧ Moves (fun _ => False) (fun _ => False) s s' ∧ Tidy (fun _ => False) (fun _ => False) s s') (fun _ _ => False) s →
      wpAny (MM w) A (call (.ref 54) [.int t tt, .ref Nn]) (fun v s' => RowList s.heap (rowsL ns t) v s'.heap ∧ Moves (fun _ => False) (fun _ => False) s s' ∧ Tidy (fun _ => False) (fun _ => False) s s') (fun _ _ => False) s := fun h =>
    wpAny_mono h (fun v s' ⟨a, b⟩ => ⟨a.rows (rowsL_asc ns t) hm, b⟩) fun _ _ x => x
  have ht1 : t ≤ 1000 := by exact Int.le_trans (by assumption) (by decide)
  have hq : ∀ n ∈ ns, 0 < n ∧ n ≤ 1000 := fun n h => by have := hn n h; lia
  refine fin (Q := fun _ _ => True) (E := fun _ _ => True) ?_
  clear fin
  cases hI with
  | nil => exact solved0_ok W hN ht ht1 hfew h1 h2 h3
  | cons _ _ hI =>
  cases hI with
  | nil => exact solved1_ok W hN (hq _ (.head _)) ht ht1 hfew h1 h2 h3
  | cons _ _ hI =>
  cases hI with
  | nil => exact solved2_ok W hN (hq _ (.head _)) (hq _ (.tail _ (.head _))) ht ht1 hfew h1 h2 h3
  | cons _ _ hI =>
  cases hI with
  | nil => exact solved3_ok W hN (hq _ (.head _)) (hq _ (.tail _ (.head _))) (hq _ (.tail _ (.tail _ (.head _)))) ht ht1 hfew h1 h2 h3
  | cons _ _ hI =>
  cases hI with
  | nil => exact solved4_ok W hN (hq _ (.head _)) (hq _ (.tail _ (.head _))) (hq _ (.tail _ (.tail _ (.head _)))) (hq _ (.tail _ (.tail _ (.tail _ (.head _))))) ht ht1 hfew h1 h2 h3
  | cons _ _ _ => simp only [List.length_cons] at hl; lia

theorem mm_Try {M : Model} {A : Around} {E : Value → Shared → Prop} {s : Shared} {env : Env} {body orelse : List Stmt} {h₀ : ExceptHandler} {hs : List ExceptHandler} {pos : Pos} {Q : Flow → Shared → Prop}
    (h : wpAny M A (execs body env) (fun f s₁ => match f with | .next => wpAny M A (execs orelse env) Q E s₁ | f => Q f s₁)
      (fun e s₁ => wpAny M A (noteFrame e env) (fun _ s₂ => wpAny M A (setFlight e none) (fun _ s₃ => wpAny M A (handleBy e env (h₀ :: hs)) Q E s₃) E s₂) E s₁) s) :
    wpAny M A (exec (.Try body (h₀ :: hs) orelse [] pos) env) Q E s := by
  rw [arm_exec_Try]
  exact wpAny_bind (wpAny_standAt (wpAny_tryStmt_except h))

set_option maxHeartbeats 4000000 in
theorem law_two_rows {w : World} {A : Around} {s : Shared} {a b t : Int} {ta tb tt : Tok} (W : Wd w s.heap) (ha : 0 < a) (hb : 0 < b) (ht : 0 ≤ t) (ha2 : a ≤ 1000) (hb2 : b ≤ 1000) (ht2 : t ≤ 1000) (hlen : (baseL a b t).length ≤ 10000)
    (h1 : A.handled = none) (h2 : A.depth ≤ 400) (h3 : A.units ≤ 4000) :
    wpAny (MM w) A (call (.ref 61) [.int a ta, .int b tb, .int t tt]) (fun v s' => RowList s.heap (baseL a b t) v s'.heap ∧ Moves (fun _ => False) (fun _ => False) s s' ∧ Tidy (fun _ => False) (fun _ => False) s s') (fun _ _ => False) s := by
  have fill : (Mine.hd.heap_39 w.params).In s.heap → PySem.Challenge.rw_jf0027_01.row = PySem.Challenge.rw_jf0027_01.row := by
    k_fill
    intro _; rfl
  clear fill
  have W' := W
  obtain ⟨X, p, loose, mean, mg, mb, T⟩ := W
  have lim := T.nolimit
  refine' enter2 (K := Mine.hd.heap_39 w.params) (binds := [(Str.ofString "a", .int a ta), (Str.ofString "b", .int b tb), (Str.ofString "total", .int t tt)]) ?kW ?kl ?kR ?ko ?kc ?kb ?kloc ?kb2 ?c1 ?c2 ?c3 ?c4
  case ko => k_is
  case kc => k_is
  case kb => exact BindsTo.of_eq rfl
  case kloc => exact locs rfl
  case c1 => exact rfl
  case c2 => exact rfl
  case c3 => exact rfl
  case c4 => decide
  case kR => simp only [recursionLimit]; exact Nat.lt_of_le_of_lt (by assumption) (by decide)
  case kW => exact X
  case kl => exact lim
  k_whole
  intro h₁ tk F
  have M₀ := Fr.moves (tk := tk) F
  generalize hL : s.heap.objs.size = L at F ⊢
  refine wpAny_execs_cons (mm_Try (wpAny_mono (E := fun _ _ => False) (Q := fun f s' => ∃ v, f = .ret v ∧ RowList s.heap (baseL a b t) v s'.heap ∧ Moves (fun _ => False) (fun _ => False) s s' ∧ Tidy (fun _ => False) (fun _ => False) s s') ?_ ?_ fun _ _ x => x.elim))
  rotate_left
  · intro f s' hq1_
    refine ex1_2 (hq1_) ?_
    clear hq1_
    intro v hq2_ r
    obtain rfl := hq2_
    exact r
  refine wpAny_execs_cons (wpAny_Return_some ?_)
  (repeat' ((with_reducible show wpAny _ _ _ _ _ _); (fail_if_success (with_reducible show wpAny _ _ (spliced _) _ _ _)); (first | (first | ((with_reducible show wpAny _ _ (eval (.Name _ _) _) _ _ _); (refine' nameX_L ?zf ?zv ?_; (case zf => assumption); (case zv => (repeat' first | assumption | exact if_pos rfl | refine (if_neg (by decide)).trans ?_)))) | walk1) | (dsimp only; walk1))))
  walk1
  (repeat' ((with_reducible show wpAny _ _ _ _ _ _); (fail_if_success (with_reducible show wpAny _ _ (spliced _) _ _ _)); (first | (first | ((with_reducible show wpAny _ _ (eval (.Name _ _) _) _ _ _); (refine' nameX_L ?zf ?zv ?_; (case zf => assumption); (case zv => (repeat' first | assumption | exact if_pos rfl | refine (if_neg (by decide)).trans ?_)))) | walk1) | (dsimp only; walk1))))
  refine wp_trip (dp := 420) (un := 4200) (m := fun y => List.lookup y [(Str.ofString "a", Value.int a ta), (Str.ofString "b", Value.int b tb), (Str.ofString "total", Value.int t tt)].reverse) (extra := []) (Φ := fun vs m' _ => (∃ u0 u1 u2, vs = [.int a u0, .int b u1, .int t u2]) ∧ m' = fun y => List.lookup y [(Str.ofString "a", Value.int a ta), (Str.ofString "b", Value.int b tb), (Str.ofString "total", Value.int t tt)].reverse) ?_ F News.nil h1 (by show A.depth + 1 ≤ 420; exact Nat.lt_of_le_of_lt (by assumption) (by decide)) (by show A.units + 3 ≤ 4200; exact Nat.le_trans (Nat.add_le_add_right (by assumption) _) (by decide)) ?_
  · clear F M₀
    intro s' hg F N' N
    refine hideQ fun Q0 hQ0 => ?_
    (repeat' (first | (with_reducible show wpAny _ _ _ _ _ _); (fail_if_success (first | (with_reducible show wpAny _ _ (exec (Stmt.While _ _ _ _) _) _ _ _) | (with_reducible show wpAny _ _ (exec (Stmt.For _ _ _ _ _) _) _ _ _) | (with_reducible show wpAny _ _ (call (Value.ref _) _ _) _ _ _))); (first | (first | ((with_reducible show wpAny _ _ (eval (.Name _ _) _) _ _ _); (refine' nameX_L ?zf ?zv ?_; (case zf => assumption); (case zv => (repeat' first | assumption | exact if_pos rfl | refine (if_neg (by decide)).trans ?_)))) | walk1) | (dsimp only; walk1)) | (with_reducible show ite _ _ _); split; all_goals (try (rename_i hq; exfalso; simp only [decide_eq_true_eq, Bool.not_eq_true, decide_eq_false_iff_not, beq_iff_eq, bne_iff_ne, beq_eq_false_iff_ne, bne_eq_false_iff_eq, ne_eq, Bool.false_eq_true, not_true_eq_false, not_false_eq_true] at hq <;> first | lia | omega))))
    rename Fr _ _ _ _ => F'
    rename News _ _ _ _ => N''
    exact hQ0 _ _ ⟨⟨hg, by first | rfl | trivial⟩, _, F', N'', ⟨_, _, _, rfl⟩, rfl⟩
  intro vs m' s₄ F₄ N₄ M₅ G₅ hq3_
  refine ex0_2 (hq3_) ?_
  clear hq3_
  intro hq4_ hq5_
  refine ex3_1 (hq4_) ?_
  clear hq4_
  intro u0 u1 u2 hq6_
  obtain rfl := hq6_
  obtain rfl := hq5_
  have M₆ := M₀.step M₅ (fun d q => .inr (by rw [q, ← hL]; exact Nat.le_refl _)) fun _ q => q.elim
  have G₆ : s₄.gens = s.gens := G₅
  clear F N₄ M₀ M₅ G₅
  refine ⟨X.keeps F₄.keep, ?_⟩
  have hroom : (A.deeper (envOf (Str.ofString "_law_two") ⟨.function, [], false, false, []⟩ L 61 (.ref 60))).depth < recursionLimit := by show A.depth + 1 < 1000; lia
  refine wpAny_mono (base_ok W' ha hb ht ha2 hb2 ht2 F₄.keep M₆.hsize hroom) (fun v s₅ hB => ?_) (fun _ _ x => x)
  walk1
  refine ex4_8 (hB) ?_
  clear hB
  intro ga g own gown hq7_ Lv Mb Tb hga hg ho hgo
  obtain rfl := hq7_
  refine list_gen2 lim ?_ ?_ ?_ ?_ Lv (by rw [sizeLine_eq]; exact Nat.le_trans (by assumption) (by decide)) (M₆.trans Mb).hsize fun s' acc c d => ?_
  · exact h1
  · show A.depth + 1 ≤ 500; exact Nat.lt_of_le_of_lt (by assumption) (by decide)
  · show A.units + 3 + 3 ≤ 5000; lia
  · exact hroom
  refine ⟨_, rfl, ⟨_, acc.toList, c, rfl, Heap.get?_none_of_le (M₆.trans Mb).hsize, d.lst, d.rows⟩, ?_, ?_⟩
  · refine (M₆.trans Mb).step d.moves (fun e q => .inr ?_) fun i q => .inr ?_
    · rcases q with q | q
      · exact Nat.le_trans M₆.hsize (ho e q)
      · rw [q]; exact (M₆.trans Mb).hsize
    · rcases q with q | q
      · exact Nat.le_trans M₆.gsize (hgo i q)
      · rw [q]; exact Nat.le_trans M₆.gsize hg
  · intro i x e hs
    rcases d.tidy i x e hs with ⟨e1, n1⟩ | q
    · rcases Tb i x e1 hs with ⟨e2, n2⟩ | q
      · exact .inl ⟨by rw [← G₆]; exact e2, id⟩
      · exact q.elim
    · exact q.elim

noncomputable def freedObj : Obj := ⟨.none, none, .freed, #[]⟩
/-- a heap without some of its objects -/
noncomputable def hide (h : Heap) : List Addr → Heap
  | [] => h
  | a :: l => { hide h l with objs := (hide h l).objs.setIfInBounds a freedObj }
theorem hide_size (h : Heap) : ∀ l : List Addr, (hide h l).objs.size = h.objs.size
  | [] => rfl
  | a :: l => by simp only [hide, Array.size_setIfInBounds]; exact hide_size h l
theorem hide_get (h : Heap) : ∀ (l : List Addr) (b : Addr), (hide h l).get? b = if b ∈ l then none else h.get? b
  | [], b => by simp [hide]
  | a :: l, b => by
    have ih := hide_get h l b
    by_cases e : b = a
    · subst e
      rw [if_pos (.head _)]
      unfold Heap.get?
      simp only [hide, Array.getElem?_setIfInBounds, if_true]
      by_cases hb : b < (hide h l).objs.size
      · rw [if_pos hb]; rfl
      · rw [if_neg hb]
    · have : (hide h (a :: l)).get? b = (hide h l).get? b := by
        unfold Heap.get?
        simp only [hide, Array.getElem?_setIfInBounds]
        rw [if_neg (fun q => e q.symm)]
      rw [this, ih]
      by_cases q : b ∈ l
      · rw [if_pos q, if_pos (.tail _ q)]
      · rw [if_neg q, if_neg (fun z => by rcases List.mem_cons.mp z with z | z; exact e z; exact q z)]
theorem hide_stays (h : Heap) (l : List Addr) : (hide h l).StaysIn h := fun b o e => by
  rw [hide_get] at e
  by_cases q : b ∈ l
  · rw [if_pos q] at e; cases e
  · rw [if_neg q] at e; exact e
theorem hide_of {h : Heap} {l : List Addr} {b : Addr} {o : Obj} (e : h.get? b = some o) (q : b ∉ l) : (hide h l).get? b = some o := by
  rw [hide_get, if_neg q]; exact e
theorem hide_none {h : Heap} {l : List Addr} {b : Addr} (q : b ∈ l) : (hide h l).get? b = none := by
  rw [hide_get, if_pos q]

theorem enterGenR {w : World} {A : Around} {s : Shared} {K : Frag} {name qual : Str} {params : Arguments} {body : List Stmt} {scope : Scope} {dV kV doc pm cdv ct oc : Value} {an od : Option Addr} {osl : Array (Option Value)} {f : Addr} {vals : List Value}
    {binds : List (Str × Value)} {Q : Value → Shared → Prop} {E : Value → Shared → Prop}
    (X : K.In s.heap) (lim : s.heap.NoLimit) (R : A.depth < recursionLimit)
    (ho : K.lookup f = some ⟨oc, od, .func (fnOf name qual params body scope dV kV doc pm an cdv ct), osl⟩) (hcd : codeIn K cdv qual = true)
    (hbind : BindsTo s (fnOf name qual params body scope dV kV doc pm an cdv ct) ⟨vals, []⟩ binds) (hloc : ∀ y ∈ binds, scope.names.lookup y.1 = some .local)
    (h : ∀ h₁ tk nm qn, Fr s.heap s.heap.objs.size h₁ (fun y => binds.reverse.lookup y) →
      Q (.ref h₁.objs.size) { s with gens := s.gens.push (.fresh (.func body (envOf qual scope s.heap.objs.size f cdv))), toks := tk, heap := h₁.push { cls := .type "generator", data := .fields #[.int s.gens.size 0, nm, qn] } })
    (hco : scope.isCoroutine = false) (hgen : scope.isGenerator = true) (hk : scope.kind = .function) (hcell : ∀ x ∈ scope.names, x.2 ≠ .cell) :
    wpAny (MM w) A (call (.ref f) vals) Q E s := by
  refine wpAny_call (codeAny_call_gen2 (fd := fnOf name qual params body scope dV kV doc pm an cdv ct) (body := body) (binds := binds) R (X _ _ ho) rfl lim (codeRec_of X hcd) rfl hbind hcell hloc (fun h₁ tk hns hk₁ hlt => ?_) hco hgen hk)
  exact h h₁ tk _ _ ⟨hns, hk₁, Nat.le_refl _⟩

theorem x_func_raise {w : World} {A : Around} {P : End → Shared → Prop} {s : Shared} {body : List Stmt} {env : Env}
    (h : wpAny (MM w) (A.over (.func body env) []) (execs body env) (fun _ _ => False) (fun e s' => wpAny (MM w) (A.over (.func body env) []) (leaving env e) (fun _ s'' => P (.ret (.error e)) s'') (fun _ _ => False) s') s) :
    Sg (MM w) A (.func body env) (denote table (.func body env)) [] s P := by
  show Sg (MM w) A (.func body env) (.point [] fun _ => ((execs body env).onRaise (leaving env)) >>= _) [] s P
  refine x_point ?_
  rw [Sem.onRaise_eq_wrap, Sem.bind_eq_wrap', Sem.wrap_wrap]
  refine x_wrap (wpAny_mono h (fun _ _ x => x.elim) fun e s' h' => ?_)
  show Sg (MM w) A _ (Sem.wrap _ _ _ _ ((leaving env e) >>= fun _ => Sem.raise e)) [] s' P
  rw [Sem.bind_eq_wrap', Sem.wrap_wrap]
  refine x_wrap (wpAny_mono h' (fun _ s'' h'' => ?_) fun _ _ x => x.elim)
  exact x_end (.error e) h''
theorem sub_VE_stop : isSubtype (.type "ValueError") (.type "StopIteration") = pure false := by rw [isSubtype_type]; kernel_rfl

theorem lambda_no {M : Model} {A : Around} {E : Value → Shared → Prop} {s : Shared} {a : Addr} {g : Nat} {Q : Bool → Shared → Prop} (hg : GenObj s.heap a g) (h : Q false s) : wpAny M A (Builtin.Generator.madeByALambda (.ref a)) Q E s := by
  refine ex3_4 (hg) ?_
  clear hg
  intro o nm qn ho hc hd _
  unfold Builtin.Generator.madeByALambda
  refine wpAny_bind (wpAny_load ho ?_)
  rw [hc, hd]
  exact wpAny_pure h

theorem next_raise {w : World} {A : Around} {E : Value → Shared → Prop} {s : Shared} {a : Addr} {g : Nat} {c : Code} {Q : Option Value → Shared → Prop} (hobj : GenObj s.heap a g) (hgs : s.gens[g]? = some (.fresh c)) (lim : s.heap.NoLimit) (hroom : A.depth < recursionLimit)
    (hw : Wake w (.fresh c) A.in1 (s.setGen g .running) fun e s₁ => ∃ x, e = .ret (.error x) ∧ GenObj s₁.heap a g ∧ s₁.TypeIs x "ValueError" ∧ E x (s₁.setGen g .finished)) : wpAny (MM w) A (pyNext (.ref a)) Q E s := by
  unfold pyNext
  refine wpAny_bind (wpAny_attempt (wpAny_callSpecial?_slot (name := Str.ofString "__next__") hobj.typeIs slot_gen_next
    (wpAny_call_entry2 slot_gen_next hobj.typeIs (by decide) entry_gen_next ?_ (args_gen_next _))))
  show wpAny _ A.in1 (Builtin.Generator.genWake (.ref a) (.send .none)) _ _ s
  unfold Builtin.Generator.genWake
  refine wpAny_bind (wpAny_holding (genNumber2 hobj (wpAny_bind (wpAny_genState hgs ?_))))
  refine wpAny_bind (wpAny_roomToWake lim hroom ?_)
  show wpAny _ A.in1 (.resume g (.send .none) [] _) _ _ s
  refine resume2 hgs (Wake.mono hw fun e s₁ he => ?_)
  refine ex1_4 (he) ?_
  clear he
  intro x hq1_ hg₁ hT hE
  obtain rfl := hq1_
  show wpAny (MM w) A.in1 (Builtin.Generator.genLeft (.ref a) x) _ _ (s₁.setGen g .finished)
  unfold Builtin.Generator.genLeft
  have hg₂ : GenObj (s₁.setGen g .finished).heap a g := hg₁
  have hT₂ : (s₁.setGen g .finished).TypeIs x "ValueError" := hT
  refine wpAny_bind (lambda_no hg₂ ?_)
  refine wpAny_bind (wpAny_isInstance (T := "ValueError") (b := false) hT₂ sub_VE_stop ?_)
  rw [if_neg (show ¬ (false && false) = true from Bool.false_ne_true)]
  unfold Builtin.Generator.genEscaped
  refine wpAny_bind (wpAny_isInstance (T := "ValueError") (b := false) hT₂ sub_VE_stop ?_)
  rw [if_pos (show (!false) = true from rfl)]
  refine wpAny_throw ?_
  refine wpAny_bind (wpAny_isInstance (T := "ValueError") (b := false) hT₂ sub_VE_stop ?_)
  rw [if_neg Bool.false_ne_true]
  exact wpAny_throw hE

/-- list(generator) where the generator raises at its first step -/
theorem list_raise {w : World} {A : Around} {E : Value → Shared → Prop} {s : Shared} {a : Addr} {g : Nat} {c : Code} {Q : Value → Shared → Prop} (hobj : GenObj s.heap a g) (hgs : s.gens[g]? = some (.fresh c)) (lim : s.heap.NoLimit) (hroom : A.depth < recursionLimit)
    (hw : ∀ h tk, (∀ b o, s.heap.get? b = some o → h.get? b = some o) → s.heap.objs.size ≤ h.objs.size → Wake w (.fresh c) A.in1.in1.in1 (({ s with heap := h, toks := tk } : Shared).setGen g .running) fun e s₁ => ∃ x, e = .ret (.error x) ∧ GenObj s₁.heap a g ∧ s₁.TypeIs x "ValueError" ∧ E x (s₁.setGen g .finished)) : wpAny (MM w) A (call (.type "list") [.ref a]) Q E s := by
  refine ex3_2 (id hobj) ?_
  intro oa _ _ hoa _
  have hSa : s.heap.objs.size ≠ a := Nat.ne_of_gt (Heap.lt_size hoa)
  refine callType_codes2 (Q₁ := fun obj s₁ => obj = .ref s.heap.objs.size ∧ s₁ = { s with heap := s.heap.push { cls := .type "list", data := .seq #[] } }) F.called_list (by decide) (F.typeCall_list_1 _) F.entry_list_init
    (code_list_new2 _ ⟨rfl, rfl⟩) fun obj s₁ h₁ => ?_
  refine ex0_2 (h₁) ?_
  clear h₁
  intro hq2_ hq3_
  obtain rfl := hq2_
  obtain rfl := hq3_
  have hS₁ : (s.heap.push { cls := .type "list", data := .seq #[] }).get? s.heap.objs.size = some (lstObj #[] 0) := Heap.get?_push_size _ rfl
  refine ⟨⟨_, hS₁, rfl⟩, F.args_list_init_2 _ _, ?_⟩
  show wpAny _ A.in1.in1 (do let old ← Builtin.List.listItems (.ref s.heap.objs.size); Builtin.List.listUpdate (.ref s.heap.objs.size) (fun _ => #[]); letGo old.toList.reverse; Builtin.List.listExtendWith (.ref s.heap.objs.size) (.ref a) .none) _ _ _
  refine wpAny_bind ?_
  unfold Builtin.List.listItems
  refine wpAny_bind (wpAny_seqItems hS₁ rfl (wpAny_pure ?_))
  show wpAny _ A.in1.in1 (updateSeq s.heap.objs.size (fun _ => #[]) >>= fun _ => letGo (#[] : Array Value).toList.reverse >>= fun _ => Builtin.List.listExtendWith (.ref s.heap.objs.size) (.ref a) .none) _ _ _
  refine wpAny_bind (wpAny_updateSeq hS₁ rfl ?_)
  have hS₂ := Heap.get?_update_self (Obj.mapSeq (fun _ => (#[] : Array Value))) hS₁ rfl
  refine wpAny_bind (wpAny_letGo ?_)
  have k₂ : ∀ b o, s.heap.get? b = some o → ((s.heap.push { cls := .type "list", data := .seq #[] }).update s.heap.objs.size (Obj.mapSeq (fun _ => (#[] : Array Value)))).get? b = some o := fun b o e =>
    (Heap.get?_update_other _ _ (Nat.ne_of_gt (Heap.lt_size e))).trans (Heap.get?_push_of_some _ e)
  have hobj₂ : GenObj ((s.heap.push { cls := .type "list", data := .seq #[] }).update s.heap.objs.size (Obj.mapSeq (fun _ => (#[] : Array Value)))) a g := by
    refine ex3_2 (hobj) ?_
    clear hobj
    intro o nm qn ho r
    exact ⟨o, nm, qn, k₂ _ _ ho, r⟩
  unfold Builtin.List.listExtendWith
  refine wpAny_bind (wpAny_typeOf hobj₂.typeIs ?_)
  have h1' : Builtin.List.listSameRef (.ref s.heap.objs.size) (.ref a) = false := by simp [Builtin.List.listSameRef, hSa]
  have h2' : (Value.type "generator" == Value.type "list") = false := by decide
  have h3' : (Value.type "generator" == Value.type "tuple") = false := by decide
  simp only [h1', h2', h3', Bool.or_false, Bool.false_eq_true, if_false]
  refine wpAny_bind (pyIter2 hobj₂ ?_)
  refine wpAny_bind (wpAny_holding ?_)
  unfold Builtin.List.listLengthHint
  refine wpAny_bind (wpAny_specialOf hobj₂.typeIs F.gen_no_len ?_)
  show wpAny _ A.in1.in1 (specialOf (Value.ref a) (Str.ofString "__length_hint__") >>= _) _ _ _
  refine wpAny_bind (wpAny_specialOf hobj₂.typeIs F.gen_no_hint ?_)
  refine wpAny_pure ?_
  show wpAny _ A.in1.in1 (rule "list.extend.makes-room" >>= fun _ => Builtin.List.listTouch (.ref s.heap.objs.size) >>= fun _ =>
    again (.builtin "list.extend.loop" ⟨[.ref s.heap.objs.size, .ref a, .none], []⟩)) _ _ _
  refine wpAny_bind (wpAny_rule ?_)
  refine wpAny_bind ?_
  show wpAny _ A.in1.in1 (updateSeq s.heap.objs.size (·.push .none) >>= fun _ => updateSeq s.heap.objs.size (·.pop)) _ _ _
  refine wpAny_bind (wpAny_updateSeq hS₂ rfl ?_)
  have hS₃ := Heap.get?_update_self (Obj.mapSeq (·.push Value.none)) hS₂ rfl
  refine wpAny_updateSeq (hz := by seq_fits) hS₃ rfl ?_
  have oth : ∀ b o, s.heap.get? b = some o → ((((s.heap.push { cls := .type "list", data := .seq #[] }).update s.heap.objs.size (Obj.mapSeq (fun _ => (#[] : Array Value)))).update s.heap.objs.size (Obj.mapSeq (·.push Value.none))).update s.heap.objs.size (Obj.mapSeq (·.pop))).get? b = some o :=
    fun b o e => (Heap.get?_update_other _ _ (Nat.ne_of_gt (Heap.lt_size e))).trans ((Heap.get?_update_other _ _ (Nat.ne_of_gt (Heap.lt_size e))).trans (k₂ b o e))
  refine wpAny_pure (And.intro (plainId_quiet F.plain_extend_loop _) ?_)
  refine codeAny_builtin2 (by decide) F.entry_extend_loop ?_
  rw [Around.under_plainId F.plain_extend_loop _]
  show wpAny _ A.in1.in1 (pyNext (.ref a) >>= _) _ _ _
  have hobj₃ : GenObj ((((s.heap.push { cls := .type "list", data := .seq #[] }).update s.heap.objs.size (Obj.mapSeq (fun _ => (#[] : Array Value)))).update s.heap.objs.size (Obj.mapSeq (·.push Value.none))).update s.heap.objs.size (Obj.mapSeq (·.pop))) a g := by
    refine ex3_2 (hobj) ?_
    clear hobj
    intro o nm qn ho r
    exact ⟨o, nm, qn, oth _ _ ho, r⟩
  refine wpAny_bind (next_raise hobj₃ hgs (lim.keeps oth) hroom ?_)
  exact hw _ _ oth (by rw [update_size, update_size, update_size, Heap.size_push]; exact Nat.le_succ _)
section
variable {w : World} {A : Around} {s : Shared} {env : Env} {R : Result → Shared → Prop}
theorem handlers_test2 {e : Value} {t : Expr} {pos : Pos}
    (h : wpAny (MM w) A (eval t env) (fun c s₁ => wpAny (MM w) A (excMatches e c) (fun b s₂ => R (.ok (if b then .brk else .next)) s₂) (notedBy (MM w) A env fun x s₂ => R (.error x) s₂) s₁)
      (notedBy (MM w) A env fun x s₁ => R (.error x) s₁) s) :
    codeAny (MM w) A (.handlers e [.ExceptHandler (some t) none [] pos] env) R s := by
  refine codeAny_of_tree ?_
  show wpAny _ A (do return Fin.done (← (handleWith e env [.ExceptHandler (some t) none [] pos]).onRaise (fun x => do noteFrame x env; theTreesLotGoes x))) _ _ s
  refine wpAny_bind (wpAny_noted ?_)
  unfold handleWith
  refine wpAny_bind (wpAny_standAt (wpAny_bind (wpAny_mono h (fun c s₁ h₁ => wpAny_bind (wpAny_standAt (wpAny_bind (wpAny_mono h₁ (fun b s₂ h₂ => wpAny_pure (wpAny_pure ?_)) fun _ _ x => x)))) fun _ _ x => x)))
  exact h₂

theorem handlers_suite2 {e : Value} {b₀ : Stmt} {body : List Stmt} {pos : Pos}
    (h : wpAny (MM w) A (setFlight e none) (fun _ s₁ => wpAny (MM w) A (execs (b₀ :: body) env) (fun f s₂ => R (.ok f) s₂) (notedBy (MM w) A env fun x s₂ => R (.error x) s₂) s₁) (notedBy (MM w) A env fun x s₁ => R (.error x) s₁) s) :
    codeAny (MM w) A (.handlers e [.ExceptHandler none none (b₀ :: body) pos] env) R s := by
  refine codeAny_of_tree ?_
  show wpAny _ A (do return Fin.done (← (handleWith e env [.ExceptHandler none none (b₀ :: body) pos]).onRaise (fun x => do noteFrame x env; theTreesLotGoes x))) _ _ s
  refine wpAny_bind (wpAny_noted ?_)
  unfold handleWith
  exact wpAny_bind (wpAny_standAt (wpAny_bind (wpAny_mono h (fun _ s₁ h₁ => wpAny_mono h₁ (fun f s₂ h₂ => wpAny_pure h₂) fun _ _ x => x) fun _ _ x => x)))

theorem handleBy2 {E : Value → Shared → Prop} {e : Addr} {X T : String} {t : Expr} {b₀ : Stmt} {suite : List Stmt} {pos : Pos} {rest : List ExceptHandler} {Q : Flow → Shared → Prop}
    (hexc : isSubtype (.type T) (.type "BaseException") = pure true) (hnt : isSubtype (.type ((Manifest.find? T).elim "type" fun x => x.metatype)) (.type "tuple") = pure false)
    (hsub : isSubtype (.type X) (.type T) = pure true)
    (h : wpAny (MM w) (A.mark (some (.ref e))) (eval t env) (fun c s₁ => c = .type T ∧ s₁.TypeIs (.ref e) X ∧
      wpAny (MM w) (A.mark (some (.ref e))) (setFlight (.ref e) none) (fun _ s₂ => wpAny (MM w) (A.mark (some (.ref e))) (execs (b₀ :: suite) env) Q (fun _ _ => False) s₂) (fun _ _ => False) s₁) (fun _ _ => False) s) :
    wpAny (MM w) A (handleBy (.ref e) env (.ExceptHandler (some t) none (b₀ :: suite) pos :: rest)) Q E s := by
  refine wpAny_handleBy_cons (handlers_test2 (wpAny_mono h (fun c s₁ h₁ => ?_) fun _ _ x => x.elim)) (by intro q; cases q)
  refine ex0_3 (h₁) ?_
  clear h₁
  intro hq4_ hX hk
  obtain rfl := hq4_
  refine wpAny_excMatches_type hX hexc hnt hsub ?_
  exact handlers_suite2 (wpAny_mono hk (fun _ s₂ h₂ => wpAny_mono h₂ (fun _ _ x => x) fun _ _ x => x.elim) fun _ _ x => x.elim)
end

/-- a piece without generators that raises -/
theorem pieceE {w : World} {α : Type} {A : Around} {dp un : Nat} {m : Sem α} {R : Value → Heap → Prop} {Q : α → Shared → Prop} {E : Value → Shared → Prop} {s : Shared}
    (h : wpAny (model PP w) (AA dp un) m (fun _ _ => False) (fun e s' => s'.gens = #[] ∧ s'.os = s.os ∧ R e s'.heap) (wG s #[]))
    (h1 : A.handled = none) (h2 : A.depth ≤ dp) (h3 : A.units ≤ un)
    (k : ∀ e s', s'.gens = s.gens → s'.os = s.os → R e s'.heap → E e s') : wpAny (MM w) A m Q E s := by
  show wpAny (MM w) A m Q E (wG s s.gens)
  refine tr (weak (wpAny_mono h (fun a s' x => x.elim) fun e s' ⟨hg, ho, hr⟩ => ⟨hg, ?_⟩) h1 h2 h3)
  exact k e (wG s' s.gens) rfl ho hr

set_option maxHeartbeats 4000000 in
theorem base_refuse {w : World} {A : Around} {s : Shared} {a b t : Int} {ta tb tt : Tok} (W : Wd w s.heap) (hroom : A.depth < recursionLimit) (hr : a ≤ 0 ∨ b ≤ 0 ∨ t < 0) (ha : a ≤ 1000) (hb : b ≤ 1000) (ht : t ≤ 1000) {Q : Value → Shared → Prop}
    (h : ∀ h₁ tk nm qn body env, Fr s.heap s.heap.objs.size h₁ (fun y => [(Str.ofString "a", .int a ta), (Str.ofString "b", .int b tb), (Str.ofString "c", .int t tt)].reverse.lookup y) →
      env.frame = some s.heap.objs.size → env.scope.kind = .function →
      (∀ (A' : Around) (s' : Shared), Fr s.heap s.heap.objs.size s'.heap (fun y => [(Str.ofString "a", .int a ta), (Str.ofString "b", .int b tb), (Str.ofString "c", .int t tt)].reverse.lookup y) → A'.handled = none → A'.depth ≤ 500 → A'.units ≤ 5000 →
        wpAny (MM w) A' (execs body env) (fun _ _ => False) (fun e s'' => ∃ ea, e = .ref ea ∧ Heap.NewExc s'.heap s''.heap ea "ValueError" ∧ s''.gens = s'.gens ∧ s''.os = s'.os) s') →
      Q (.ref h₁.objs.size) { s with gens := s.gens.push (.fresh (.func body env)), toks := tk, heap := h₁.push { cls := .type "generator", data := .fields #[.int s.gens.size 0, nm, qn] } }) :
    wpAny (MM w) A (call (.ref 35) [.int a ta, .int b tb, .int t tt]) Q (fun _ _ => False) s := by
  have fill : (Mine.hd.heap_39 w.params).In s.heap → PySem.Challenge.rw_jf0027_01.row = PySem.Challenge.rw_jf0027_01.row := by
    k_fill
    intro _; rfl
  clear fill
  have W' := W
  obtain ⟨X, p, loose, mean, mg, mb, T⟩ := W
  have lim := T.nolimit
  refine' enterGenR (K := Mine.hd.heap_39 w.params) (binds := [(Str.ofString "a", .int a ta), (Str.ofString "b", .int b tb), (Str.ofString "c", .int t tt)]) ?kW ?kl ?kR ?ko ?kc ?kb ?kloc ?kb2 ?c1 ?c2 ?c3 ?c4
  case ko => k_is
  case kc => k_is
  case kb => exact BindsTo.of_eq rfl
  case kloc => exact locs rfl
  case c1 => exact rfl
  case c2 => exact rfl
  case c3 => exact rfl
  case c4 => decide
  case kR => exact hroom
  case kW => exact X
  case kl => exact lim
  k_whole
  intro h₁ tk nm qn F
  refine h h₁ tk nm qn _ _ F rfl rfl fun A' s' F' p1 p2 p3 => ?_
  refine pieceE (dp := 500) (un := 5000) (R := fun e h' => ∃ ea, e = .ref ea ∧ Heap.NewExc s'.heap h' ea "ValueError") ?_ p1 p2 p3 ?_
  · clear F h
    have hg : (wG s' #[]).gens = #[] := rfl
    have N' : News s.heap s.heap.objs.size (wG s' #[]).heap (restOf s.heap s'.heap s.heap.objs.size) := rest_news
    replace F' : Fr s.heap s.heap.objs.size (wG s' #[]).heap (fun y => [(Str.ofString "a", .int a ta), (Str.ofString "b", .int b tb), (Str.ofString "c", .int t tt)].reverse.lookup y) := F'
    generalize s.heap.objs.size = L at *
    (repeat' (first | (with_reducible show wpAny _ _ _ _ _ _); (fail_if_success (first | (with_reducible show wpAny _ _ (exec (Stmt.While _ _ _ _) _) _ _ _) | (with_reducible show wpAny _ _ (exec (Stmt.For _ _ _ _ _) _) _ _ _) | (with_reducible show wpAny _ _ (call (Value.ref _) _ _) _ _ _))); (first | (first | ((with_reducible show wpAny _ _ (eval (.Name _ _) _) _ _ _); (refine' nameX_L ?zf ?zv ?_; (case zf => assumption); (case zv => (repeat' first | assumption | exact if_pos rfl | refine (if_neg (by decide)).trans ?_)))) | walk1) | (dsimp only; walk1)) | (with_reducible show ite _ _ _); split; all_goals (try (rename_i hq; exfalso; simp only [decide_eq_true_eq, Bool.not_eq_true, decide_eq_false_iff_not, beq_iff_eq, bne_iff_ne, beq_eq_false_iff_ne, bne_eq_false_iff_eq, ne_eq, Bool.false_eq_true, not_true_eq_false, not_false_eq_true] at hq <;> first | lia | omega))))
    all_goals (try (rename Heap.NewExc _ _ _ _ => hx; exact ⟨rfl, rfl, _, rfl, hx⟩))
    all_goals (exfalso; simp only [decide_eq_true_eq] at *; (first | lia | omega))
  · intro e s'' hg ho hq1_
    refine ex1_2 (hq1_) ?_
    clear hq1_
    intro ea hq2_ hx
    obtain rfl := hq2_
    exact ⟨ea, rfl, hx, hg, ho⟩

theorem FunFrames.hidden {h base h' g : Heap} {fl : List Addr} : ∀ {l : List Env}, h.FunFrames base l → h.UpToSlots h' → (∀ a ∈ l.filterMap (·.frame), a ∈ fl) → h'.FunFrames (hide g fl) l
  | [], _, _, _ => trivial
  | env :: rest, ⟨hk, ⟨L, o, hf, hn, ho, hd⟩, hr⟩, k, hs => by
    rw [List.filterMap_cons, hf] at hs
    refine ex1_1 (k L o ho hd) ?_
    intro sl e
    exact ⟨hk, ⟨L, _, hf, hide_none (hs L (.head _)), e, hd⟩, FunFrames.hidden hr k fun a ha => hs a (.tail _ ha)⟩
theorem FunFrames.slots {h base h' : Heap} {l : List Env} (x : h.FunFrames base l) (k : h.UpToSlots h') : h'.FunFrames base l :=
  x.of_keeps fun b o ho hd => let ⟨sl, e⟩ := k b o ho hd; ⟨_, e, rfl⟩

/-- what a refusal leaves -/
structure Refused (base : Heap) (s s' : Shared) : Prop where
  stays : base.StaysIn s'.heap
  slots : s.heap.UpToSlots s'.heap
  gens : ∀ (i : Nat) x, s.gens[i]? = some x → s'.gens[i]? = some x
  tidy : Tidy (fun _ => False) (fun _ => False) s s'
  os : s'.os = s.os

set_option maxHeartbeats 4000000 in
theorem law_two_none {w : World} {A : Around} {s : Shared} {base : Heap} {outer : List Env} {a b t : Int} {ta tb tt : Tok} (W : Wd w base) (hst : base.StaysIn s.heap) (bsz : base.objs.size ≤ s.heap.objs.size) (hfr : A.frames = some outer) (hff : s.heap.FunFrames base outer) (hr : a ≤ 0 ∨ b ≤ 0 ∨ t < 0) (ha : a ≤ 1000) (hb : b ≤ 1000) (ht : t ≤ 1000)
    (h1 : A.handled = none) (h2 : A.depth ≤ 400) (h3 : A.units ≤ 4000) :
    wpAny (MM w) A (call (.ref 61) [.int a ta, .int b tb, .int t tt]) (fun v s' => v = .none ∧ Refused base s s') (fun _ _ => False) s := by
  have fill : (Mine.hd.heap_39 w.params).In base → PySem.Challenge.rw_jf0027_01.row = PySem.Challenge.rw_jf0027_01.row := by
    k_fill
    intro _; rfl
  clear fill
  have W' := W
  obtain ⟨X, p, loose, mean, mg, mb, T⟩ := W
  have lim := T.nolimit
  refine' enter2 (K := Mine.hd.heap_39 w.params) (binds := [(Str.ofString "a", .int a ta), (Str.ofString "b", .int b tb), (Str.ofString "total", .int t tt)]) ?kW ?kl ?kR ?ko ?kc ?kb ?kloc ?kb2 ?c1 ?c2 ?c3 ?c4
  case ko => k_is
  case kc => k_is
  case kb => exact BindsTo.of_eq rfl
  case kloc => exact locs rfl
  case c1 => exact rfl
  case c2 => exact rfl
  case c3 => exact rfl
  case c4 => decide
  case kR => simp only [recursionLimit]; exact Nat.lt_of_le_of_lt (by assumption) (by decide)
  case kW => exact X.keeps hst
  case kl => exact lim.keeps hst
  k_whole
  intro h₁ tk F₀
  have U₀ : s.heap.UpToSlots h₁ := Heap.UpToSlots.of_keeps F₀.keep
  have kp₀ := F₀.keep
  have F : Fr base s.heap.objs.size h₁ _ := ⟨F₀.ns, fun b o e => F₀.keep b o (hst b o e), bsz⟩
  have hLn : base.get? s.heap.objs.size = none := Heap.get?_none_of_le bsz
  clear F₀
  generalize hL : s.heap.objs.size = L at F hLn ⊢
  refine wpAny_execs_cons (mm_Try ?_)
  refine wpAny_execs_cons (wpAny_Return_some ?_)
  (repeat' ((with_reducible show wpAny _ _ _ _ _ _); (fail_if_success (with_reducible show wpAny _ _ (spliced _) _ _ _)); (first | (first | ((with_reducible show wpAny _ _ (eval (.Name _ _) _) _ _ _); (refine' nameX_L ?zf ?zv ?_; (case zf => assumption); (case zv => (repeat' first | assumption | exact if_pos rfl | refine (if_neg (by decide)).trans ?_)))) | walk1) | (dsimp only; walk1))))
  walk1
  (repeat' ((with_reducible show wpAny _ _ _ _ _ _); (fail_if_success (with_reducible show wpAny _ _ (spliced _) _ _ _)); (first | (first | ((with_reducible show wpAny _ _ (eval (.Name _ _) _) _ _ _); (refine' nameX_L ?zf ?zv ?_; (case zf => assumption); (case zv => (repeat' first | assumption | exact if_pos rfl | refine (if_neg (by decide)).trans ?_)))) | walk1) | (dsimp only; walk1))))
  refine wp_trip (dp := 420) (un := 4200) (m := fun y => List.lookup y [(Str.ofString "a", Value.int a ta), (Str.ofString "b", Value.int b tb), (Str.ofString "total", Value.int t tt)].reverse) (extra := []) (Φ := fun vs m' _ => (∃ u0 u1 u2, vs = [.int a u0, .int b u1, .int t u2]) ∧ m' = fun y => List.lookup y [(Str.ofString "a", Value.int a ta), (Str.ofString "b", Value.int b tb), (Str.ofString "total", Value.int t tt)].reverse) ?_ F News.nil h1 (by show A.depth + 1 ≤ 420; exact Nat.lt_of_le_of_lt (by assumption) (by decide)) (by show A.units + 3 ≤ 4200; exact Nat.le_trans (Nat.add_le_add_right (by assumption) _) (by decide)) ?_
  · clear F
    intro s' hg F N' N
    refine hideQ fun Q0 hQ0 => ?_
    (repeat' (first | (with_reducible show wpAny _ _ _ _ _ _); (fail_if_success (first | (with_reducible show wpAny _ _ (exec (Stmt.While _ _ _ _) _) _ _ _) | (with_reducible show wpAny _ _ (exec (Stmt.For _ _ _ _ _) _) _ _ _) | (with_reducible show wpAny _ _ (call (Value.ref _) _ _) _ _ _))); (first | (first | ((with_reducible show wpAny _ _ (eval (.Name _ _) _) _ _ _); (refine' nameX_L ?zf ?zv ?_; (case zf => assumption); (case zv => (repeat' first | assumption | exact if_pos rfl | refine (if_neg (by decide)).trans ?_)))) | walk1) | (dsimp only; walk1)) | (with_reducible show ite _ _ _); split; all_goals (try (rename_i hq; exfalso; simp only [decide_eq_true_eq, Bool.not_eq_true, decide_eq_false_iff_not, beq_iff_eq, bne_iff_ne, beq_eq_false_iff_ne, bne_eq_false_iff_eq, ne_eq, Bool.false_eq_true, not_true_eq_false, not_false_eq_true] at hq <;> first | lia | omega))))
    rename Fr _ _ _ _ => F'
    rename News _ _ _ _ => N''
    exact hQ0 _ _ ⟨⟨hg, by first | rfl | trivial⟩, _, F', N'', ⟨_, _, _, rfl⟩, rfl⟩
  intro vs m' s₄ F₄ N₄ M₅ G₅ hq3_
  refine ex0_2 (hq3_) ?_
  clear hq3_
  intro hq4_ hq5_
  refine ex3_1 (hq4_) ?_
  clear hq4_
  intro u0 u1 u2 hq6_
  obtain rfl := hq6_
  obtain rfl := hq5_
  refine ⟨X.keeps F₄.keep, ?_⟩
  have U₄ : s.heap.UpToSlots s₄.heap := fun b o e hd => ⟨o.slots, M₅.heap b o (fun q => absurd (Heap.lt_size e) (by rw [q, ← hL]; exact Nat.lt_irrefl _)) (kp₀ b o e)⟩
  have G₄ : s₄.gens = s.gens := G₅
  have O₄ : s₄.os = s.os := M₅.os
  have hroom : (A.deeper (envOf (Str.ofString "_law_two") ⟨.function, [], false, false, []⟩ L 61 (.ref 60))).depth < recursionLimit := by show A.depth + 1 < 1000; lia
  clear F N₄ M₅ G₅ U₀ kp₀
  refine wpAny_mono (base_refuse (W'.keeps F₄.keep) (by exact hroom) hr ha hb ht fun h₅ tk₅ nm qn body env F₅ hf hk hbody => ?_) (fun v s₅ q => q) (fun _ _ x => x.elim)
  walk1
  have hfr₂ := Around.frames_deeper (env := envOf (Str.ofString "_law_two") { kind := .function, names := [(Str.ofString "a", .local), (Str.ofString "b", .local), (Str.ofString "total", .local), (Str.ofString "list", .globalImplicit), (Str.ofString "base_solution_linear", .globalImplicit), (Str.ofString "ValueError", .globalImplicit)], isGenerator := false, isCoroutine := false } L 61 (.ref 60)) hfr
  have hff₂ : s₄.heap.FunFrames base (envOf (Str.ofString "_law_two") { kind := .function, names := [(Str.ofString "a", .local), (Str.ofString "b", .local), (Str.ofString "total", .local), (Str.ofString "list", .globalImplicit), (Str.ofString "base_solution_linear", .globalImplicit), (Str.ofString "ValueError", .globalImplicit)], isGenerator := false, isCoroutine := false } L 61 (.ref 60) :: outer) :=
    Heap.FunFrames.cons (show ScopeKind.function ≠ ScopeKind.module by decide) rfl F₄.ns hLn (FunFrames.slots hff U₄)
  generalize hE2 : envOf (Str.ofString "_law_two") { kind := .function, names := [(Str.ofString "a", .local), (Str.ofString "b", .local), (Str.ofString "total", .local), (Str.ofString "list", .globalImplicit), (Str.ofString "base_solution_linear", .globalImplicit), (Str.ofString "ValueError", .globalImplicit)], isGenerator := false, isCoroutine := false } L 61 (.ref 60) = env₂ at *
  have st₅ : base.StaysIn (h₅.push { cls := .type "generator", data := .fields #[.int s₄.gens.size 0, nm, qn] }) := fun b o e => Heap.get?_push_of_some _ (F₅.keep b o (F₄.keep b o e))
  refine list_raise (g := s₄.gens.size) (c := .func body env) ⟨_, nm, qn, Heap.get?_push_size _ rfl, rfl, rfl, .inl rfl⟩ (by simp) (lim.keeps st₅) (by exact hroom) fun h₆ tk₆ k₆ sz₆ => ?_
  dsimp only at k₆ sz₆
  show Sg (MM w) _ (.func body env) (denote table (.func body env)) [] _ _
  have st₅' : base.StaysIn h₆ := fun b o e => k₆ b o (st₅ b o e)
  refine x_func_raise ?_
  have F₆ : Fr s₄.heap s₄.heap.objs.size h₆ _ := (F₅.push { cls := .type "generator", data := .fields #[.int s₄.gens.size 0, nm, qn] }).after k₆
  have hga : h₆.get? h₅.objs.size = some { cls := .type "generator", data := .fields #[.int s₄.gens.size 0, nm, qn] } := k₆ _ _ (Heap.get?_push_size _ rfl)
  refine wpAny_mono (hbody _ (({ s₄ with gens := s₄.gens.push (.fresh (.func body env)), heap := h₆, toks := tk₆ } : Shared).setGen s₄.gens.size .running) F₆ ?_ ?_ ?_) (fun _ _ x => x.elim) ?_
  · exact h1
  · show A.depth + 1 + frameCount [] + Code.weight (.func body env) ≤ 500
    have e1 : Code.weight (.func body env) ≤ 2 := Nat.le_of_ble_eq_true rfl
    have e2 : frameCount [] = 0 := rfl
    lia
  · show A.units + 3 + 1 + 1 + 1 + unitsOf [] + Code.cUnits (.func body env) ≤ 5000
    have e1 : Code.cUnits (.func body env) ≤ 10 := Nat.le_of_ble_eq_true rfl
    have e2 : unitsOf [] = 0 := rfl
    lia
  intro e s₇ hq7_
  refine ex1_4 (hq7_) ?_
  clear hq7_
  intro ea hq8_ hx hg₇ ho₇
  obtain rfl := hq8_
  replace hx : h₆.NewExc s₇.heap ea "ValueError" := hx
  refine ex2_3 (hx.there) ?_
  intro ob a0 he hcls hd
  have U₆ : s₄.heap.UpToSlots h₆ := Heap.UpToSlots.of_keeps F₆.keep
  have hff₃ : h₆.FunFrames base (env :: env₂ :: outer) := Heap.FunFrames.cons (by rw [hk]; decide) hf F₆.ns (by
    cases q : base.get? s₄.heap.objs.size with
    | none => rfl
    | some o => exact absurd (Heap.lt_size (F₄.keep _ _ q)) (Nat.lt_irrefl _)) (FunFrames.slots hff₂ U₆)
  have hfr₃ : ((A.deeper env₂).in1.in1.in1.over (.func body env) []).frames = some (env :: env₂ :: outer) := by
    show pushEnvs [env] (pushEnvs (envsOf []) (A.deeper env₂).frames) = _
    rw [hfr₂]; rfl
  generalize hfl : (env :: env₂ :: outer).filterMap (·.frame) = fl
  have hff₆ : h₆.FunFrames (hide h₆ fl) (env :: env₂ :: outer) := FunFrames.hidden hff₃ (Heap.UpToSlots.refl _) fun a ha => by rw [← hfl]; exact ha
  have bs₆ : base.StaysIn (hide h₆ fl) := fun b o e => hide_of (by
    exact st₅' b o e) fun q => by
      rw [← hfl] at q
      rw [(hff₃.mem q).1] at e; cases e
  have hen : (hide h₆ fl).get? ea = none := by
    cases q : (hide h₆ fl).get? ea with
    | none => rfl
    | some o => have := hide_stays _ _ _ _ q; rw [hx.new] at this; cases this
  refine wpAny_leaving_firstW (base := hide h₆ fl) (a0 := a0) hfr₃ (FunFrames.slots hff₆ (Heap.UpToSlots.of_keeps hx.keeps)) hf he (fun b o e => hx.keeps b o (hide_stays _ _ b o e)) hen hd rfl rfl fun h₈ hL₈ => ?_
  refine ex0_4 (hL₈) ?_
  clear hL₈
  intro k1 hq9_ k3 k4
  refine ex0_3 (hq9_) ?_
  clear hq9_
  intro _ _ k2
  rw [hcls] at k3
  have hnot : h₅.objs.size ∉ fl := fun q => by
    rw [← hfl] at q
    refine ex0_2 (hff₃.mem q) ?_
    intro _ hq10_
    refine ex1_2 (hq10_) ?_
    clear hq10_
    intro o ho hn
    rw [hga] at ho; cases ho; exact hn _ rfl
  refine ⟨.ref ea, rfl, ⟨_, nm, qn, k1 _ _ (hide_of hga hnot), rfl, rfl, .inl rfl⟩, ?_, ?_⟩
  · refine ex5_3 (k3) ?_
    clear k3
    intro oe _ _ _ _ e1 hq11_ _
    refine ex0_2 (hq11_) ?_
    clear hq11_
    intro e2 _
    exact ⟨oe, e1, e2⟩
  have hf₂ : env₂.frame = some L := by rw [← hE2]; rfl
  refine wpAny_looks_onW (base := hide h₆ fl) (L := L) (cls := .type "ValueError") (a0 := a0) hfr₂ hf₂ ⟨k1, hen, k2, k3⟩ fun h₉ hh₉ u₉ => ?_
  refine wpAny_landsW hh₉ fun h₁₀ hf₁₀ u₁₀ => ?_
  refine handleBy2 F.isExc_ValueError F.notTuple_ValueError F.self_ValueError ?_
  have U₁₀ : s₄.heap.UpToSlots h₁₀ := ((U₆.trans (Heap.UpToSlots.of_keeps hx.keeps)).trans k4).trans (Heap.UpToSlots.trans u₉ u₁₀)
  refine ex0_4 (hf₁₀) ?_
  clear hf₁₀
  intro j1 j2 j3 j4
  have F₁₀ : Fr base L h₁₀ _ := ⟨U₁₀.ns F₄.ns, fun b o e => j1 b o (bs₆ b o e), F₄.above⟩
  subst hE2
  clear F₄ F₅ F₆ hbody
  walk1
  refine ⟨rfl, ?_, ?_⟩
  · refine ex5_3 (j4) ?_
    clear j4
    intro oe _ _ _ _ e1 hq12_ _
    refine ex0_2 (hq12_) ?_
    clear hq12_
    intro e2 _
    exact ⟨oe, e1, e2⟩
  refine wpAny_setFlight_noneW (base := hide h₆ fl) (fl := .none) j1 j3 j4 fun h₁₁ q1 q2 q3 q4 => ?_
  refine wpAny_execs_cons (wpAny_Return_some ?_)
  (repeat' ((with_reducible show wpAny _ _ _ _ _ _); (fail_if_success (with_reducible show wpAny _ _ (spliced _) _ _ _)); (first | (first | ((with_reducible show wpAny _ _ (eval (.Name _ _) _) _ _ _); (refine' nameX_L ?zf ?zv ?_; (case zf => assumption); (case zv => (repeat' first | assumption | exact if_pos rfl | refine (if_neg (by decide)).trans ?_)))) | walk1) | (dsimp only; walk1))))
  have hgs : ∀ (x : GenState) (i : Nat), (s₇.gens.setIfInBounds s₄.gens.size x)[i]? = if i = s.gens.size then some x else s.gens[i]? := fun x i => by
    have e : s₇.gens = (s₄.gens.push (.fresh (.func body env))).setIfInBounds s₄.gens.size .running := hg₇
    rw [e, G₄, Array.getElem?_setIfInBounds]
    by_cases q : i = s.gens.size
    · subst q; simp
    · rw [if_neg (fun z => q z.symm), if_neg q, Array.getElem?_setIfInBounds, if_neg (fun z => q z.symm), Array.getElem?_push, if_neg q]
  have hos : s₇.os = s.os := Eq.trans ho₇ O₄
  dsimp only
  refine ⟨rfl, ⟨fun b o e => q1 b o (bs₆ b o e), (U₄.trans U₁₀).trans (fun b o e hn => ⟨o.slots, q4 b o e hn⟩), fun i x e => ?_, fun i x e hs => ?_, hos⟩⟩
  · exact (hgs _ i).trans (by rw [if_neg (fun q => by rw [q] at e; simp at e)]; exact e)
  · have e' := (hgs .finished i).symm.trans e
    by_cases q : i = s.gens.size
    · rw [if_pos q] at e'; cases e'; exact hs.elim
    · rw [if_neg q] at e'; exact .inl ⟨e', id⟩

theorem RowsAt.movesL {hb : Heap} {L : Addr} {m : Str → Option Value} {s s' : Shared} {vs : List Value} {rs : List (List Int)} (x : RowsAt s.heap vs rs) (F : Fr hb L s.heap m) (M : Moves (fun b => b = L) (fun _ => False) s s') : RowsAt s'.heap vs rs := x.keep fun D o hm e => M.heap D o (by
  refine ex1_1 (x.lt D hm) ?_
  intro ws e'
  exact Fr.seq_ne F e' rfl) e
theorem RowsAt.moves0 {s s' : Shared} {vs : List Value} {rs : List (List Int)} (x : RowsAt s.heap vs rs) (M : Moves (fun _ => False) (fun _ => False) s s') : RowsAt s'.heap vs rs := x.keep fun D o _ e => M.heap D o id e
theorem Fr.moves0 {hb : Heap} {L : Addr} {m : Str → Option Value} {s s' : Shared} (F : Fr hb L s.heap m) (M : Moves (fun _ => False) (fun _ => False) s s') : Fr hb L s'.heap m := ⟨F.ns.at fun o e => M.heap L o id e, fun b o e => M.heap b o id (F.keep b o e), F.above⟩
theorem News.moves0 {hb : Heap} {L : Addr} {s s' : Shared} {x : List (Addr × Obj)} (N : News hb L s.heap x) (M : Moves (fun _ => False) (fun _ => False) s s') : News hb L s'.heap x := fun p hp => ⟨M.heap _ _ id (N p hp).1, (N p hp).2⟩

theorem mm_mid {w : World} {A : Around} {env : Env} {pre rest : List Stmt} {P : Shared → Prop} {Q : Flow → Shared → Prop} {E : Value → Shared → Prop} {s : Shared} (h : wpAny (MM w) A (execs pre env) (fun f s' => f = .next ∧ P s') E s) (k : ∀ s', P s' → wpAny (MM w) A (execs rest env) Q E s') : wpAny (MM w) A (execs (pre ++ rest) env) Q E s := by
  rw [execs_append]
  refine wpAny_bind (wpAny_mono h (fun f s' ⟨e, hp⟩ => ?_) fun _ _ x => x)
  subst e
  exact k s' hp
theorem fmM (x : Int) : 0 ≤ Int.fmod x 1000000007 ∧ Int.fmod x 1000000007 ≤ 1073741823 := by
  have := fmod_facts x (show (0 : Int) < 1000000007 by decide)
  (first | lia | omega)
theorem fm9 (x : Int) : -1 ≤ Int.fmod x 9 - 1 ∧ Int.fmod x 9 - 1 ≤ 7 := by
  have := fmod_facts x (show (0 : Int) < 9 by decide)
  (first | lia | omega)

theorem law_rows2 {w : World} {A : Around} {s : Shared} {ns : List Int} {t : Int} {tt : Tok} {Nn : Addr} {o : Obj} {vs : List Value} {c : Nat} (W : Wd w s.heap) (ho : s.heap.get? Nn = some o) (hc : o.cls = .type "list") (hd : o.data = .seq (List.toArray vs) c) (hI : IntsAre vs ns) (hp : ∀ n ∈ ns, 0 < n ∧ n ≤ 1000) (ht : t ≤ 1000) (ht2 : -1000 ≤ t) (hl : (rowsL ns t).length ≤ 10000) (hn : ns.length ≤ 10)
    (h1 : A.handled = none) (h2 : A.depth ≤ 400) (h3 : A.units ≤ 4000) : wpAny (MM w) A (call (.ref 47) [.int t tt, .ref Nn]) (fun v s' => RowList s.heap (rowsL ns t) v s'.heap ∧ Moves (fun _ => False) (fun _ => False) s s' ∧ s'.gens = s.gens) (fun _ _ => False) s := by
  refine piece (dp := 400) (un := 4000) (R := fun v h' => RowList s.heap (rowsL ns t) v h' ∧ ∀ b o, s.heap.get? b = some o → h'.get? b = some o) (wpAny_mono (law_rows_ok ns (wG s #[]) t tt Nn o vs c 400 4000 W ho hc hd hI hp ht ht2 hl (by (first | lia | omega)) (by (first | lia | omega))) (fun v s' ⟨g, S, out, c, a, b, d, e⟩ => ⟨g.gens, g.os, ⟨S, out, c, a, b, d, e⟩, g.heap⟩) fun _ _ x => x) h1 h2 h3 ?_
  intro v s' hg ho hz hq1_
  refine ex0_2 (hq1_) ?_
  clear hq1_
  intro r k
  exact ⟨r, ⟨fun b o _ e => k b o e, hz, fun i x _ e => by rw [hg]; exact e, by rw [hg]; exact Nat.le_refl _, ho⟩, hg⟩

theorem law_even2 {w : World} {A : Around} {s : Shared} {S : Addr} {out : List Value} {rows : List (List Int)} {c : Nat} (W : Wd w s.heap) (hS : s.heap.get? S = some (lstObj (List.toArray out) c)) (R : RowsAt s.heap out rows) (hev : EvenR rows) (hlen : rows.length ≤ 10000)
    (h1 : A.handled = none) (h2 : A.depth ≤ 400) (h3 : A.units ≤ 4000) : wpAny (MM w) A (call (.ref 68) [.ref S]) (fun v s' => v = .bool true ∧ Moves (fun _ => False) (fun _ => False) s s' ∧ s'.gens = s.gens) (fun _ _ => False) s := by
  refine piece (dp := 400) (un := 4000) (R := fun v h' => v = .bool true ∧ ∀ b o, s.heap.get? b = some o → h'.get? b = some o) (wpAny_mono (law_even_ok (s := wG s #[]) (dp := 400) (un := 4000) W hS R hev hlen (by (first | lia | omega)) (by (first | lia | omega))) (fun v s' ⟨g, e⟩ => ⟨g.gens, g.os, e, g.heap⟩) fun _ _ x => x) h1 h2 h3 ?_
  intro v s' hg ho hz hq2_
  refine ex0_2 (hq2_) ?_
  clear hq2_
  intro r k
  exact ⟨r, ⟨fun b o _ e => k b o e, hz, fun i x _ e => by rw [hg]; exact e, by rw [hg]; exact Nat.le_refl _, ho⟩, hg⟩

theorem sorted_list2 {w : World} {A : Around} {s : Shared} {hb : Heap} {L S : Addr} {m : Str → Option Value} {out : List Value} {xs : List (List Int)} {c k : Nat} {Q : Value → Shared → Prop} {E : Value → Shared → Prop} (F : Fr hb L s.heap m) (hS : s.heap.get? S = some (lstObj (List.toArray out) c)) (R : RowsAt s.heap out xs) (hlen : ∀ r ∈ xs, r.length = k) (hnd : xs.Nodup) (hfew : Few xs) (h1 : A.handled = none)
    (h : ∀ v s', Sorted {} xs v s'.heap → Fr {} L s'.heap m → Moves (fun b => b = L) (fun _ => False) s s' → s'.gens = s.gens → Q v s') : wpAny (MM w) A (call (.builtin "sorted") [.ref S]) Q E s := by
  refine call_sorted2 ?_
  unfold Builtin.«sorted»
  refine wpAny_bind (m := checkCount "sorted" 1 1 _) (wpAny_pure ?_)
  have hn : xs.length ≤ 1000 := by rcases hfew with q | q <;> (first | lia | omega)
  have hl := R.len
  show wpAny (MM w) A.in1 (collect (.ref S) >>= fun xs => (do let l ← newList xs; let _ ← holding [l] (call (.builtin "list.sort") [l] []); ret l)) _ _ s
  refine wpAny_bind (piece (dp := A.in1.depth) (un := A.in1.units) (R := fun vs h' => vs = out ∧ ∀ b o, s.heap.get? b = some o → h'.get? b = some o) ?_ h1 (Nat.le_refl _) (Nat.le_refl _) ?_)
  · refine wpAny_collect_seq (s := wG s #[]) S (.inl rfl) hS rfl rfl (fun h' hk => ⟨rfl, rfl, by simp, hk⟩) (by rw [List.size_toArray, sizeLine_eq]; (first | lia | omega))
  · intro vs s₁ hg ho hz hq3_
    refine ex0_2 (hq3_) ?_
    clear hq3_
    intro hq4_ kp
    obtain rfl := hq4_
    have F₀ : Fr {} L s₁.heap m := ⟨F.ns.at fun o e => kp L o e, (fun b o e => by simp [Heap.get?] at e), Nat.zero_le _⟩
    have M₀ : Moves (fun b => b = L) (fun _ => False) s s₁ := ⟨fun b o _ e => kp b o e, hz, fun i x _ e => by rw [hg]; exact e, by rw [hg]; exact Nat.le_refl _, ho⟩
    refine sort_new2 (A := A.in1) (hb := {}) F₀ (R.keep fun D o _ e => kp D o e) hlen hnd hfew (fun D _ => rfl) h1 fun v s₂ Sd F₂ M₂ G₂ => ⟨v, rfl, h v s₂ Sd F₂ (M₀.trans M₂) (G₂.trans hg)⟩

/-- rows of two by one step -/
inductive Stp (dx dy : Int) : List (List Int) → Prop
  | nil : Stp dx dy []
  | one (x y : Int) : Stp dx dy [[x, y]]
  | cons (x y : Int) (l : List (List Int)) : Stp dx dy ([x + dx, y + dy] :: l) → Stp dx dy ([x, y] :: [x + dx, y + dy] :: l)

theorem Stp.at_ {dx dy : Int} {l : List (List Int)} (h : Stp dx dy l) : ∀ i, i + 1 < l.length → ∃ x y, l.getD i [] = [x, y] ∧ l.getD (i + 1) [] = [x + dx, y + dy] := by
  induction h with
  | nil => intro i hi; simp at hi
  | one x y => intro i hi; simp at hi
  | cons x y l h ih =>
    intro i hi
    cases i with
    | zero => exact ⟨x, y, rfl, rfl⟩
    | succ i =>
      refine ex2_2 (ih i (by simpa using hi)) ?_
      intro x' y' a b
      exact ⟨x', y', by simpa using a, by simpa using b⟩
theorem Stp.even {dx dy : Int} {l : List (List Int)} (h : Stp dx dy l) : EvenR l := by
  intro i h2 hi
  refine ex2_2 (h.at_ (i - 1) (by (first | lia | omega))) ?_
  intro x y a b
  refine ex2_2 (h.at_ 0 (by (first | lia | omega))) ?_
  intro x0 y0 c d
  rw [show i - 1 + 1 = i by (first | lia | omega)] at b
  exact ⟨x + dx, y + dy, x, y, x0 + dx, y0 + dy, x0, y0, b, a, d, c, by (first | lia | omega), by (first | lia | omega)⟩

theorem up_stp0 {a b : Int} (ha : 0 < a) (hb : 0 < b) : ∀ (n : Nat) (x y : Int), (y + 1).toNat = n → 0 ≤ x → Stp b (-a) (up a b x y) ∧ (up a b x y = [] ∨ ∃ l, up a b x y = [x, y] :: l) := by
  intro n
  induction n using Nat.strongRecOn with
  | ind n ih =>
  intro x y hn hx
  by_cases hy : 0 ≤ y
  · rw [up_cons ⟨hy, ha⟩, if_pos hx]
    refine ex0_2 (ih _ (by (first | lia | omega)) (x + b) (y - a) rfl (by (first | lia | omega))) ?_
    intro s e
    refine ⟨?_, .inr ⟨_, rfl⟩⟩
    rcases e with e | ⟨l, e⟩
    · rw [e]; exact .one x y
    · rw [e] at s ⊢
      rw [show y - a = y + -a by (first | lia | omega)] at s ⊢
      exact .cons x y l s
  · rw [up_empty (fun q => hy q.1)]; exact ⟨.nil, .inl rfl⟩
theorem up_stp {a b : Int} (ha : 0 < a) (hb : 0 < b) : ∀ (n : Nat) (x y : Int), (y + 1).toNat = n → Stp b (-a) (up a b x y) := by
  intro n
  induction n using Nat.strongRecOn with
  | ind n ih =>
  intro x y hn
  by_cases hx : 0 ≤ x
  · exact (up_stp0 ha hb _ x y rfl hx).1
  · by_cases hy : 0 ≤ y
    · rw [up_cons ⟨hy, ha⟩, if_neg hx]
      exact ih _ (by (first | lia | omega)) (x + b) (y - a) rfl
    · rw [up_empty (fun q => hy q.1)]; exact .nil
theorem down_stp0 {a b : Int} (ha : 0 < a) (hb : 0 < b) : ∀ (n : Nat) (x y : Int), (x + 1).toNat = n → 0 ≤ y → Stp (-b) a (down a b x y) ∧ (down a b x y = [] ∨ ∃ l, down a b x y = [x, y] :: l) := by
  intro n
  induction n using Nat.strongRecOn with
  | ind n ih =>
  intro x y hn hy
  by_cases hx : 0 ≤ x
  · rw [down_cons ⟨hx, hb⟩, if_pos hy]
    refine ex0_2 (ih _ (by (first | lia | omega)) (x - b) (y + a) rfl (by (first | lia | omega))) ?_
    intro s e
    refine ⟨?_, .inr ⟨_, rfl⟩⟩
    rcases e with e | ⟨l, e⟩
    · rw [e]; exact .one x y
    · rw [e] at s ⊢
      rw [show x - b = x + -b by (first | lia | omega)] at s ⊢
      exact .cons x y l s
  · rw [down_empty (fun q => hx q.1)]; exact ⟨.nil, .inl rfl⟩
theorem down_stp {a b : Int} (ha : 0 < a) (hb : 0 < b) : ∀ (n : Nat) (x y : Int), (x + 1).toNat = n → Stp (-b) a (down a b x y) := by
  intro n
  induction n using Nat.strongRecOn with
  | ind n ih =>
  intro x y hn
  by_cases hy : 0 ≤ y
  · exact (down_stp0 ha hb _ x y rfl hy).1
  · by_cases hx : 0 ≤ x
    · rw [down_cons ⟨hx, hb⟩, if_neg hy]
      exact ih _ (by (first | lia | omega)) (x - b) (y + a) rfl
    · rw [down_empty (fun q => hx q.1)]; exact .nil

theorem baseL_even {a b c : Int} (ha : 0 < a) (hb : 0 < b) (hc : 0 ≤ c) : EvenR (baseL a b c) := by
  refine ex0_5 (gd_facts ha hb hc) ?_
  intro _ ha' _ hb' _
  unfold baseL
  dsimp only at *
  split
  · exact (Stp.one (dx := 0) (dy := 0) 0 0).even
  · split
    · exact (Stp.nil (dx := 0) (dy := 0)).even
    · split
      · exact (up_stp ha' hb' _ _ _ rfl).even
      · exact (down_stp ha' hb' _ _ _ rfl).even

theorem baseL_rows {a b c : Int} (ha : 0 < a) (hb : 0 < b) (hc : 0 ≤ c) : ∀ r, r ∈ baseL a b c ↔ r ∈ rowsL [a, b] c := by
  intro r
  have hp : ∀ n ∈ [a, b], 0 < n := by intro n hn; simp at hn; (first | lia | omega)
  have := (solveL_spec 2 [a, b] c rfl hp hc).1 r
  rw [solveL_two] at this
  exact this.trans (rowsL_mem _ _ hp r).symm
theorem baseL_few {a b c : Int} (ha : 0 < a) (hb : 0 < b) (hc : 0 ≤ c) (ha7 : a ≤ 7) (hb7 : b ≤ 7) (hc12 : c ≤ 12) : (baseL a b c).length < 64 ∧ (rowsL [a, b] c).length < 64 := by
  have hp : ∀ n ∈ [a, b], 0 < n := by intro n hn; simp at hn; (first | lia | omega)
  have e := (solveL_perm hp hc).length_eq
  rw [solveL_two] at e
  have k := rows_cnt hp hc
  have q := cnt2 (a.toNat - 1) (by (first | lia | omega)) (b.toNat - 1) (by (first | lia | omega)) c.toNat (by (first | lia | omega))
  rw [show a.toNat - 1 + 1 = a.toNat by (first | lia | omega), show b.toNat - 1 + 1 = b.toNat by (first | lia | omega)] at q
  have k : (rowsL [a, b] c).length = cnt [a.toNat, b.toNat] c.toNat := k
  (first | lia | omega)
theorem baseL_two {a b c : Int} : ∀ r ∈ baseL a b c, r.length = 2 := fun r hr => solveL_len 2 [a, b] c rfl r hr

set_option maxHeartbeats 8000000 in
theorem law_ok {w : World} {s : Shared} {Sc : Addr} {vs : List Value} {ns : List Int} (W : Wd w s.heap) (hL : s.heap.IsList Sc (List.toArray vs)) (hI : IntsAre vs ns) (hlen : ns.length ≤ 63) :
    wpAny (MM w) callerA (call (.ref 80) [.ref Sc]) (fun v s' => v = .bool true ∧ s.heap.StaysIn s'.heap ∧ Tidy (fun _ => False) (fun _ => False) s s' ∧ s'.os = s.os) (fun _ _ => False) s := by
  have fill : (Mine.hd.heap_39 w.params).In s.heap → PySem.Challenge.rw_jf0027_01.row = PySem.Challenge.rw_jf0027_01.row := by
    k_fill
    intro _; rfl
  clear fill
  have W' := W
  obtain ⟨X, p, loose, mean, mg, mb, T⟩ := W
  have lim := T.nolimit
  refine' enter2 (K := Mine.hd.heap_39 w.params) (binds := [(Str.ofString "script", .ref Sc)]) ?kW ?kl ?kR ?ko ?kc ?kb ?kloc ?kb2 ?c1 ?c2 ?c3 ?c4
  case ko => k_is
  case kc => k_is
  case kb => exact BindsTo.of_eq rfl
  case kloc => exact locs rfl
  case c1 => exact rfl
  case c2 => exact rfl
  case c3 => exact rfl
  case c4 => decide
  case kR => show callerA.depth < recursionLimit; decide
  case kW => exact X
  case kl => exact lim
  k_whole
  intro h₁ tk F
  generalize hLL : s.heap.objs.size = L at F ⊢
  refine mm_block (pre := [_]) (dp := 320) (un := 400) (m := fun y => List.lookup y [(Str.ofString "script", Value.ref Sc)].reverse) (extra := []) (Φ := fun f m' h => f = .next ∧ m' (Str.ofString "script") = some (.ref Sc) ∧ ∃ fst tf, m' (Str.ofString "first") = some (.int fst tf)) ?_ F News.nil rfl (Nat.le_of_ble_eq_true rfl) (Nat.le_of_ble_eq_true rfl) ?_
  --[
  · clear F
    intro s' hg F N' N
    refine hideQ fun Q0 hQ0 => ?_
    (repeat' (first | (with_reducible show wpAny _ _ _ _ _ _); (fail_if_success (first | (with_reducible show wpAny _ _ (exec (Stmt.While _ _ _ _) _) _ _ _) | (with_reducible show wpAny _ _ (exec (Stmt.For _ _ _ _ _) _) _ _ _) | (with_reducible show wpAny _ _ (call (Value.ref _) _ _) _ _ _))); (first | (first | ((with_reducible show wpAny _ _ (eval (.Name _ _) _) _ _ _); (refine' nameX_L ?zf ?zv ?_; (case zf => assumption); (case zv => (repeat' first | assumption | exact if_pos rfl | refine (if_neg (by decide)).trans ?_)))) | ((with_reducible show wpAny _ _ (binaryOp .FloorDiv (.int _ _) (.int _ _)) _ _ _); refine floordiv_int (by first | lia | omega) ?_ (Or.inl (PyProof.noPylong_small (by first | lia | omega)))) | walk1) | (dsimp only; walk1)) | (with_reducible show ite _ _ _); split; all_goals (try (rename_i hq; exfalso; simp only [decide_eq_true_eq, Bool.not_eq_true, decide_eq_false_iff_not, beq_iff_eq, bne_iff_ne, beq_eq_false_iff_ne, bne_eq_false_iff_eq, ne_eq, Bool.false_eq_true, not_true_eq_false, not_false_eq_true] at hq <;> first | lia | omega))))
    all_goals (rename Fr _ _ _ _ => F'; rename News _ _ _ _ => N'')
    · exact hQ0 _ _ ⟨⟨hg, by first | rfl | trivial⟩, _, F', N'', rfl, (if_neg (by decide)).trans rfl, _, _, if_pos rfl⟩
    · exact hQ0 _ _ ⟨⟨hg, by first | rfl | trivial⟩, _, F', N'', rfl, (if_neg (by decide)).trans rfl, _, _, if_pos rfl⟩
  --]
  intro f m₁ s₁ F₁ N₁ M₁ G₁ hq1_
  refine ex0_3 (hq1_) ?_
  clear hq1_
  intro hq2_ hsc hq3_
  obtain rfl := hq2_
  refine ex2_1 (hq3_) ?_
  clear hq3_
  intro fst tf hfi
  dsimp only
  refine mm_block (pre := [_]) (dp := 320) (un := 400) (m := m₁) (extra := []) (Φ := fun f m' h => f = .next ∧ m' (Str.ofString "script") = some (.ref Sc) ∧ m' (Str.ofString "first") = some (.int fst tf) ∧ ∃ Nm o nvs nc nums, m' (Str.ofString "numbers") = some (.ref Nm) ∧ s.heap.get? Nm = none ∧ Nm ≠ L ∧ h.get? Nm = some o ∧ o.cls = .type "list" ∧ o.data = .seq (List.toArray nvs) nc ∧ IntsAre nvs nums ∧ (∀ n ∈ nums, 1 ≤ n ∧ n ≤ 6) ∧ nums.length ≤ 4) ?_ F₁ News.nil rfl (Nat.le_of_ble_eq_true rfl) (Nat.le_of_ble_eq_true rfl) ?_
  --[
  · clear F F₁
    intro s' hg F N' N
    refine hideQ fun Q0 hQ0 => ?_
    (repeat' (first | (with_reducible show wpAny _ _ _ _ _ _); (fail_if_success (with_reducible show wpAny _ _ (call (Value.ref _) _ _) _ _ _)); (first | (first | ((with_reducible show wpAny _ _ (eval (.Name _ _) _) _ _ _); (refine' nameX_L ?zf ?zv ?_; (case zf => assumption); (case zv => (repeat' first | assumption | exact if_pos rfl | refine (if_neg (by decide)).trans ?_)))) | ((with_reducible show wpAny _ _ (binaryOp .FloorDiv (.int _ _) (.int _ _)) _ _ _); refine floordiv_int (by first | lia | omega) ?_ (Or.inl (PyProof.noPylong_small (by first | lia | omega)))) | walk1) | (dsimp only; walk1)) | (with_reducible show SeqLeaf _); walk1))
    rename CarriedAll _ _ => hC
    rename NewPlain _ _ _ _ => hP
    rename Fr _ _ _ _ => F'
    rename News _ _ _ _ => N''
    rename (Heap.get? _ _ = none) => hD0
    have hI2 := gn_ints hP hC (fun _ => rfl)
    have hDL := hP.ne_locals F'
    refine ex0_2 (hP) ?_
    clear hP
    intro hq4_ _
    refine ex1_1 (hq4_) ?_
    clear hq4_
    intro nn hPl
    refine hQ0 _ _ ⟨⟨hg, by first | rfl | trivial⟩, _, F', News.right (a := [_]) N'', rfl, (if_neg (by decide)).trans hsc, (if_neg (by decide)).trans hfi, _, _, _, nn, _, if_pos rfl, hD0, hDL, hPl, rfl, rfl, hI2, ?_, ?_⟩
    · intro n hn
      refine ex1_2 (List.mem_map.mp hn) ?_
      intro a _ hq5_
      obtain rfl := hq5_
      have := fmod_facts a (show (0 : Int) < 6 by decide)
      (clear this hn hPl hDL hI2 hC hD0 N'' F' hg hfi hsc G₁ M₁ hLL lim T X W' hlen hI hL; lia)
    · rw [List.length_map]
      exact Nat.le_trans (List.length_take_le _ _) (by (clear hPl hDL hI2 hC hD0 N'' F' hg hfi hsc G₁ M₁ hLL lim T X W' hI hL; omega))
  --]
  intro f m₂ s₂ F₂ N₂ M₂ G₂ hq6_
  refine ex0_4 (hq6_) ?_
  clear hq6_
  intro hq7_ hsc₂ hfi₂ hq8_
  obtain rfl := hq7_
  refine ex5_9 (hq8_) ?_
  clear hq8_
  intro Nm oN nvs nc nums hnu hNb hNL hNo hNc hNd hNI hn6 hn4
  dsimp only
  clear hsc hfi N₁ N₂ F₁
  have X₂ : News s.heap L s₂.heap [(Nm, oN)] := fun p hp => by rw [List.mem_singleton.mp hp]; exact ⟨hNo, hNL, hNb⟩
  refine mm_block (pre := [_]) (dp := 320) (un := 400) (m := m₂) (extra := [(Nm, oN)]) (Φ := fun f m' h => f = .next ∧ m' (Str.ofString "script") = some (.ref Sc) ∧ m' (Str.ofString "first") = some (.int fst tf) ∧ m' (Str.ofString "numbers") = some (.ref Nm) ∧ ∃ tot ttot, m' (Str.ofString "total") = some (.int tot ttot) ∧ 0 ≤ tot ∧ tot ≤ 12 ∧ (nums.length = 4 → tot ≤ 6)) ?_ F₂ X₂ rfl (Nat.le_of_ble_eq_true rfl) (Nat.le_of_ble_eq_true rfl) ?_
  --[
  · clear F F₂ X₂
    intro s' hg F' N' N
    refine hideQ fun Q0 hQ0 => ?_
    have hl4 := ints_len hNI
    (repeat' (first | (with_reducible show wpAny _ _ _ _ _ _); (fail_if_success (first | (with_reducible show wpAny _ _ (exec (Stmt.While _ _ _ _) _) _ _ _) | (with_reducible show wpAny _ _ (exec (Stmt.For _ _ _ _ _) _) _ _ _) | (with_reducible show wpAny _ _ (call (Value.ref _) _ _) _ _ _))); (first | (first | ((with_reducible show wpAny _ _ (eval (.Name _ _) _) _ _ _); (refine' nameX_L ?zf ?zv ?_; (case zf => assumption); (case zv => (repeat' first | assumption | exact if_pos rfl | refine (if_neg (by decide)).trans ?_)))) | ((with_reducible show wpAny _ _ (binaryOp .FloorDiv (.int _ _) (.int _ _)) _ _ _); refine floordiv_int (by first | lia | omega) ?_ (Or.inl (PyProof.noPylong_small (by first | lia | omega)))) | walk1) | (dsimp only; walk1)) | (with_reducible show ite _ _ _); split; all_goals (try (rename_i hq; exfalso; simp only [decide_eq_true_eq, Bool.not_eq_true, decide_eq_false_iff_not, beq_iff_eq, bne_iff_ne, beq_eq_false_iff_ne, bne_eq_false_iff_eq, ne_eq, Bool.false_eq_true, not_true_eq_false, not_false_eq_true] at hq <;> first | lia | omega))))
    refine len_list (items := List.toArray nvs) ⟨oN, (N _ (.head _)).1, hNc, nc, hNd⟩ (by rw [List.size_toArray]; (first | lia | omega)) ?_
    rw [List.size_toArray, hl4]
    (repeat' (first | (with_reducible show wpAny _ _ _ _ _ _); (fail_if_success (first | (with_reducible show wpAny _ _ (exec (Stmt.While _ _ _ _) _) _ _ _) | (with_reducible show wpAny _ _ (exec (Stmt.For _ _ _ _ _) _) _ _ _) | (with_reducible show wpAny _ _ (call (Value.ref _) _ _) _ _ _))); (first | (first | ((with_reducible show wpAny _ _ (eval (.Name _ _) _) _ _ _); (refine' nameX_L ?zf ?zv ?_; (case zf => assumption); (case zv => (repeat' first | assumption | exact if_pos rfl | refine (if_neg (by decide)).trans ?_)))) | ((with_reducible show wpAny _ _ (binaryOp .FloorDiv (.int _ _) (.int _ _)) _ _ _); refine floordiv_int (by first | lia | omega) ?_ (Or.inl (PyProof.noPylong_small (by first | lia | omega)))) | walk1) | (dsimp only; walk1)) | (with_reducible show ite _ _ _); split; all_goals (try (rename_i hq; exfalso; simp only [decide_eq_true_eq, Bool.not_eq_true, decide_eq_false_iff_not, beq_iff_eq, bne_iff_ne, beq_eq_false_iff_ne, bne_eq_false_iff_eq, ne_eq, Bool.false_eq_true, not_true_eq_false, not_false_eq_true] at hq <;> first | lia | omega))))
    all_goals (rename Fr _ _ _ _ => F'; rename News _ _ _ _ => N'')
    · rename decide _ = true => hq
      have := fmod_facts fst (show (0 : Int) < 13 by decide)
      refine hQ0 _ _ ⟨⟨hg, by first | rfl | trivial⟩, _, F', N'', rfl, (if_neg (by decide)).trans hsc₂, (if_neg (by decide)).trans hfi₂, (if_neg (by decide)).trans hnu, _, _, if_pos rfl, this.1, by (clear N'' F' hq hl4 hg hn4 hn6 hNI hNd hNc hNo hNL hNb hnu hfi₂ hsc₂ G₂ M₂ G₁ M₁ hLL lim T X W' hlen hI hL; omega), fun h => ?_⟩
      simp at hq; lia
    · have := fmod_facts fst (show (0 : Int) < 7 by decide)
      exact hQ0 _ _ ⟨⟨hg, by first | rfl | trivial⟩, _, F', N'', rfl, (if_neg (by decide)).trans hsc₂, (if_neg (by decide)).trans hfi₂, (if_neg (by decide)).trans hnu, _, _, if_pos rfl, this.1, by (clear N'' F' hl4 hg hn4 hn6 hNI hNd hNc hNo hNL hNb hnu hfi₂ hsc₂ G₂ M₂ G₁ M₁ hLL lim T X W' hlen hI hL; omega), fun _ => by (clear N'' F' hl4 hg hn4 hn6 hNI hNd hNc hNo hNL hNb hnu hfi₂ hsc₂ G₂ M₂ G₁ M₁ hLL lim T X W' hlen hI hL; lia)⟩
  --]
  intro f m₃ s₃ F₃ X₃ M₃ G₃ hq9_
  refine ex0_5 (hq9_) ?_
  clear hq9_
  intro hq10_ hsc₃ hfi₃ hnu₃ hq11_
  obtain rfl := hq10_
  refine ex2_4 (hq11_) ?_
  clear hq11_
  intro tot ttot htot ht0 ht12 ht6
  dsimp only
  clear hsc₂ hfi₂ hnu X₂ F₂
  have hrl := (cnt_law nums tot hn6 hn4 ht0 ht12 ht6).2
  refine mm_block (pre := [_]) (dp := 320) (un := 400) (m := m₃) (extra := [(Nm, oN)]) (Φ := fun f m' h => f = .next ∧ m' (Str.ofString "script") = some (.ref Sc) ∧ m' (Str.ofString "first") = some (.int fst tf) ∧ m' (Str.ofString "numbers") = some (.ref Nm) ∧ m' (Str.ofString "total") = some (.int tot ttot) ∧
      ∃ Du dout dc, m' (Str.ofString "due") = some (.ref Du) ∧ Du ≠ L ∧ s.heap.get? Du = none ∧ h.get? Du = some (lstObj (List.toArray dout) dc) ∧ RowsAt h dout (rowsL nums tot)) ?_ F₃ X₃ rfl (Nat.le_of_ble_eq_true rfl) (Nat.le_of_ble_eq_true rfl) ?_
  --[
  · clear F F₃ X₃
    intro s' hg F' N' N
    refine hideQ fun Q0 hQ0 => ?_
    (repeat' (first | (with_reducible show wpAny _ _ _ _ _ _); (fail_if_success (first | (with_reducible show wpAny _ _ (exec (Stmt.While _ _ _ _) _) _ _ _) | (with_reducible show wpAny _ _ (exec (Stmt.For _ _ _ _ _) _) _ _ _) | (with_reducible show wpAny _ _ (call (Value.ref _) _ _) _ _ _))); (first | (first | ((with_reducible show wpAny _ _ (eval (.Name _ _) _) _ _ _); (refine' nameX_L ?zf ?zv ?_; (case zf => assumption); (case zv => (repeat' first | assumption | exact if_pos rfl | refine (if_neg (by decide)).trans ?_)))) | ((with_reducible show wpAny _ _ (binaryOp .FloorDiv (.int _ _) (.int _ _)) _ _ _); refine floordiv_int (by first | lia | omega) ?_ (Or.inl (PyProof.noPylong_small (by first | lia | omega)))) | walk1) | (dsimp only; walk1)) | (with_reducible show ite _ _ _); split; all_goals (try (rename_i hq; exfalso; simp only [decide_eq_true_eq, Bool.not_eq_true, decide_eq_false_iff_not, beq_iff_eq, bne_iff_ne, beq_eq_false_iff_ne, bne_eq_false_iff_eq, ne_eq, Bool.false_eq_true, not_true_eq_false, not_false_eq_true] at hq <;> first | lia | omega))))
    refine ⟨X.keeps F'.keep, ?_⟩
    refine use F' N (law_rows_ok nums _ tot _ _ oN nvs nc 320 400 (W'.keeps F'.keep) (N _ (.head _)).1 hNc hNd hNI (fun n hn => by have := hn6 n hn; lia) (by exact Int.le_trans (by assumption) (by decide)) (by lia) hrl (by lia) (by lia)) rfl (Nat.le_refl _) (Nat.le_refl _) ?_
    intro v h' tk' F₄ N₄ hk hq12_
    refine ex3_4 (hq12_) ?_
    clear hq12_
    intro S out c hq13_ hS hS' R
    obtain rfl := hq13_
    dsimp only at hS hS' R hk ⊢
    have hSb : s.heap.get? S = none := by
      cases q : s.heap.get? S with
      | none => rfl
      | some o => have := F'.keep S o q; rw [hS] at this; cases this
    have hSL : S ≠ L := fun q => Fr.seq_ne F₄ hS' rfl q
    have offL : ∀ D ws, h'.get? D = some (tupObj ws) → D ≠ L := fun D ws e => Fr.seq_ne F₄ e rfl
    have NN : News s.heap L h' (([(Nm, oN)] ++ N') ++ restOf s.heap h' L) := News.append N₄ rest_news
    have kp4 := F₄.keep
    generalize hoth : restOf s.heap h' L = others at NN
    clear N₄ N F'
    (repeat' (first | (with_reducible show wpAny _ _ _ _ _ _); (fail_if_success (first | (with_reducible show wpAny _ _ (exec (Stmt.While _ _ _ _) _) _ _ _) | (with_reducible show wpAny _ _ (exec (Stmt.For _ _ _ _ _) _) _ _ _) | (with_reducible show wpAny _ _ (call (Value.ref _) _ _) _ _ _))); (first | (first | ((with_reducible show wpAny _ _ (eval (.Name _ _) _) _ _ _); (refine' nameX_L ?zf ?zv ?_; (case zf => assumption); (case zv => (repeat' first | assumption | exact if_pos rfl | refine (if_neg (by decide)).trans ?_)))) | ((with_reducible show wpAny _ _ (binaryOp .FloorDiv (.int _ _) (.int _ _)) _ _ _); refine floordiv_int (by first | lia | omega) ?_ (Or.inl (PyProof.noPylong_small (by first | lia | omega)))) | walk1) | (dsimp only; walk1)) | (with_reducible show ite _ _ _); split; all_goals (try (rename_i hq; exfalso; simp only [decide_eq_true_eq, Bool.not_eq_true, decide_eq_false_iff_not, beq_iff_eq, bne_iff_ne, beq_eq_false_iff_ne, bne_eq_false_iff_eq, ne_eq, Bool.false_eq_true, not_true_eq_false, not_false_eq_true] at hq <;> first | lia | omega))))
    rename Fr _ _ _ _ => F₅
    rename News _ _ _ _ => N₅
    have kp := fun (b : Addr) (o : Obj) hb e => rest_kept (b := b) (o := o) F₅ N₅ (fun p hp => List.mem_append_right _ (by rw [hoth] at hp; exact hp)) kp4 hb e
    refine hQ0 _ _ ⟨⟨hg, by first | rfl | trivial⟩, _, F₅, News.left N₅, rfl, (if_neg (by decide)).trans hsc₃, (if_neg (by decide)).trans hfi₃, (if_neg (by decide)).trans hnu₃, (if_neg (by decide)).trans htot, S, out, c, if_pos rfl, hSL, hSb, kp S _ hSL hS', R.keep fun D o hm e => ?_⟩
    refine ex1_1 (R.lt D hm) ?_
    intro ws e'
    exact kp D o (offL D ws e') e
  --]
  intro f m₄ s₄ F₄ X₄ M₄ G₄ hq14_
  refine ex0_6 (hq14_) ?_
  clear hq14_
  intro hq15_ hsc₄ hfi₄ hnu₄ hto₄ hq16_
  obtain rfl := hq15_
  refine ex3_5 (hq16_) ?_
  clear hq16_
  intro Du dout dc hdu hDL hDb hDo hDR
  dsimp only
  have T₄ : Tidy (fun _ => False) (fun _ => False) s s₄ := (Tidy.refl s).same (G₄.trans (G₃.trans (G₂.trans G₁)))
  have O₄ : s₄.os = s.os := M₄.os.trans (M₃.os.trans (M₂.os.trans M₁.os))
  clear M₁ M₂ M₃ M₄ G₁ G₂ G₃ G₄ F F₃ X₃ hsc₃ hfi₃ hnu₃ htot hNo
  refine wpAny_execs_cons (wpAny_If ?_)
  (repeat' ((with_reducible show wpAny _ _ _ _ _ _); (fail_if_success (with_reducible show wpAny _ _ (spliced _) _ _ _)); (first | (first | ((with_reducible show wpAny _ _ (eval (.Name _ _) _) _ _ _); (refine' nameX_L ?zf ?zv ?_; (case zf => assumption); (case zv => (repeat' first | assumption | exact if_pos rfl | refine (if_neg (by decide)).trans ?_)))) | ((with_reducible show wpAny _ _ (binaryOp .FloorDiv (.int _ _) (.int _ _)) _ _ _); refine floordiv_int (by first | lia | omega) ?_ (Or.inl (PyProof.noPylong_small (by first | lia | omega)))) | walk1) | (dsimp only; walk1))))
  refine wp_trip (dp := 320) (un := 400) (m := m₄) (extra := [(Nm, oN)]) (Φ := fun vs m' _ => vs = [.int tot ttot, .ref Nm] ∧ m' = m₄) ?_ F₄ X₄ rfl (Nat.le_of_ble_eq_true rfl) (Nat.le_of_ble_eq_true rfl) ?_
  --[
  · clear F₄ X₄
    intro s' hg F' N' N
    refine hideQ fun Q0 hQ0 => ?_
    (repeat' (first | (with_reducible show wpAny _ _ _ _ _ _); (fail_if_success (first | (with_reducible show wpAny _ _ (exec (Stmt.While _ _ _ _) _) _ _ _) | (with_reducible show wpAny _ _ (exec (Stmt.For _ _ _ _ _) _) _ _ _) | (with_reducible show wpAny _ _ (call (Value.ref _) _ _) _ _ _))); (first | (first | ((with_reducible show wpAny _ _ (eval (.Name _ _) _) _ _ _); (refine' nameX_L ?zf ?zv ?_; (case zf => assumption); (case zv => (repeat' first | assumption | exact if_pos rfl | refine (if_neg (by decide)).trans ?_)))) | ((with_reducible show wpAny _ _ (binaryOp .FloorDiv (.int _ _) (.int _ _)) _ _ _); refine floordiv_int (by first | lia | omega) ?_ (Or.inl (PyProof.noPylong_small (by first | lia | omega)))) | walk1) | (dsimp only; walk1)) | (with_reducible show ite _ _ _); split; all_goals (try (rename_i hq; exfalso; simp only [decide_eq_true_eq, Bool.not_eq_true, decide_eq_false_iff_not, beq_iff_eq, bne_iff_ne, beq_eq_false_iff_ne, bne_eq_false_iff_eq, ne_eq, Bool.false_eq_true, not_true_eq_false, not_false_eq_true] at hq <;> first | lia | omega))))
    rename Fr _ _ _ _ => F'
    rename News _ _ _ _ => N''
    exact hQ0 _ _ ⟨⟨hg, by first | rfl | trivial⟩, _, F', N'', by first | trivial | exact ⟨rfl, rfl⟩⟩
  --]
  intro vs5 m5 s₅ F₅ X₅ M₅ G₅ hq17_
  refine ex0_2 (hq17_) ?_
  clear hq17_
  intro hq18_ hm5
  obtain rfl := hq18_
  rw [hm5] at F₅
  have hDR₅ := hDR.movesL F₄ M₅
  clear hm5 m5 F₄ X₄
  have hDo₅ := M₅.heap _ _ hDL hDo
  have T₅ := T₄.same G₅
  have O₅ := M₅.os.trans O₄
  refine ⟨X.keeps F₅.keep, ?_⟩
  have hX := X₅ _ (.head _)
  refine wpAny_mono (law_solved_ok (W'.keeps F₅.keep) ⟨oN, hX.1, hNc, nc, hNd⟩ hNI hn6 hn4 ht0 ht12 ht6 rfl (Nat.le_of_ble_eq_true rfl) (Nat.le_of_ble_eq_true rfl)) (fun v s₆ hr => ?_) fun _ _ x => x
  refine ex0_3 (hr) ?_
  clear hr
  intro hq19_ M₆ T₆
  refine ex3_4 (hq19_) ?_
  clear hq19_
  intro S out cS hq20_ hSn hSo hSR
  obtain rfl := hq20_
  have F₆ := Fr.moves0 F₅ M₆
  have X₆ := News.moves0 X₅ M₆
  have hDo₆ := M₆.heap _ _ id hDo₅
  have hDR₆ := hDR₅.moves0 M₆
  have T₆ := T₅.trans T₆
  have O₆ := M₆.os.trans O₅
  have hSL : S ≠ L := Fr.seq_ne F₆ hSo rfl
  clear F₅ X₅ T₅ M₅ M₆ O₅ hDo hDR hDo₅ hDR₅ T₄ O₄ G₅ hX
  (repeat' ((with_reducible show wpAny _ _ _ _ _ _); (fail_if_success (with_reducible show wpAny _ _ (spliced _) _ _ _)); (first | (first | ((with_reducible show wpAny _ _ (eval (.Name _ _) _) _ _ _); (refine' nameX_L ?zf ?zv ?_; (case zf => assumption); (case zv => (repeat' first | assumption | exact if_pos rfl | refine (if_neg (by decide)).trans ?_)))) | ((with_reducible show wpAny _ _ (binaryOp .FloorDiv (.int _ _) (.int _ _)) _ _ _); refine floordiv_int (by first | lia | omega) ?_ (Or.inl (PyProof.noPylong_small (by first | lia | omega)))) | walk1) | (dsimp only; walk1))))
  refine rows_ne2 hSo hSR hDo₆ hDR₆ rfl (by have := cLine_is; show 4 + 3 + 64 < cLine; decide) fun c s₇ hc hh hg ho => ?_
  cases c with
  | true => exact absurd rfl (hc.mp rfl)
  | false =>
  have F₇ : Fr s.heap L s₇.heap m₄ := by rw [hh]; exact F₆
  have T₇ : Tidy (fun _ => False) (fun _ => False) s s₇ := T₆.same hg
  have O₇ : s₇.os = s.os := ho.trans O₆
  clear F₆ X₆ hDo₆ hDR₆ T₆ O₆ hSo hSR hSn hSL hc hh hg ho hNI hn6 hn4 hNc hNd hNb hNL hDb hDL hrl ht6 hnu₄ hdu
  (repeat' ((with_reducible show wpAny _ _ _ _ _ _); (fail_if_success (with_reducible show wpAny _ _ (spliced _) _ _ _)); (first | (first | ((with_reducible show wpAny _ _ (eval (.Name _ _) _) _ _ _); (refine' nameX_L ?zf ?zv ?_; (case zf => assumption); (case zv => (repeat' first | assumption | exact if_pos rfl | refine (if_neg (by decide)).trans ?_)))) | ((with_reducible show wpAny _ _ (binaryOp .FloorDiv (.int _ _) (.int _ _)) _ _ _); refine floordiv_int (by first | lia | omega) ?_ (Or.inl (PyProof.noPylong_small (by first | lia | omega)))) | walk1) | (dsimp only; walk1))))
  rw [if_neg Bool.false_ne_true]
  refine wpAny_execs_nil ?_
  dsimp only
  refine mm_block (pre := [_, _, _]) (dp := 320) (un := 400) (m := m₄) (extra := []) (Φ := fun f m' h => f = .next ∧ m' (Str.ofString "script") = some (.ref Sc) ∧ m' (Str.ofString "first") = some (.int fst tf) ∧ m' (Str.ofString "total") = some (.int tot ttot) ∧ ∃ a ta b tb, m' (Str.ofString "a") = some (.int a ta) ∧ m' (Str.ofString "b") = some (.int b tb) ∧ -1 ≤ a ∧ a ≤ 7 ∧ -1 ≤ b ∧ b ≤ 7) ?_ F₇ News.nil rfl (Nat.le_of_ble_eq_true rfl) (Nat.le_of_ble_eq_true rfl) ?_
  · clear F₇
    intro s' hg F' N' N
    refine hideQ fun Q0 hQ0 => ?_
    (repeat' (first | (with_reducible show wpAny _ _ _ _ _ _); (fail_if_success (first | (with_reducible show wpAny _ _ (exec (Stmt.While _ _ _ _) _) _ _ _) | (with_reducible show wpAny _ _ (exec (Stmt.For _ _ _ _ _) _) _ _ _) | (with_reducible show wpAny _ _ (call (Value.ref _) _ _) _ _ _))); (first | (first | ((with_reducible show wpAny _ _ (eval (.Name _ _) _) _ _ _); (refine' nameX_L ?zf ?zv ?_; (case zf => assumption); (case zv => (repeat' first | assumption | exact if_pos rfl | refine (if_neg (by decide)).trans ?_)))) | ((with_reducible show wpAny _ _ (binaryOp .FloorDiv (.int _ _) (.int _ _)) _ _ _); refine floordiv_int (by first | lia | omega) ?_ (Or.inl (PyProof.noPylong_small (by first | lia | omega)))) | walk1) | (dsimp only; walk1)) | (with_reducible show ite _ _ _); split; all_goals (try (rename_i hq; exfalso; simp only [decide_eq_true_eq, Bool.not_eq_true, decide_eq_false_iff_not, beq_iff_eq, bne_iff_ne, beq_eq_false_iff_ne, bne_eq_false_iff_eq, ne_eq, Bool.false_eq_true, not_true_eq_false, not_false_eq_true] at hq <;> first | lia | omega))))
    all_goals (rename Fr _ _ _ _ => F'; rename News _ _ _ _ => N'')
    · exact hQ0 _ _ ⟨⟨hg, by first | rfl | trivial⟩, _, F', N'', rfl, (by (repeat' first | assumption | exact if_pos rfl | refine (if_neg (by decide)).trans ?_)), (by (repeat' first | assumption | exact if_pos rfl | refine (if_neg (by decide)).trans ?_)), (by (repeat' first | assumption | exact if_pos rfl | refine (if_neg (by decide)).trans ?_)), _, _, _, _, (by (repeat' first | assumption | exact if_pos rfl | refine (if_neg (by decide)).trans ?_)), (by (repeat' first | assumption | exact if_pos rfl | refine (if_neg (by decide)).trans ?_)), (fm9 _).1, (fm9 _).2, (fm9 _).1, (fm9 _).2⟩
    · exact hQ0 _ _ ⟨⟨hg, by first | rfl | trivial⟩, _, F', N'', rfl, (by (repeat' first | assumption | exact if_pos rfl | refine (if_neg (by decide)).trans ?_)), (by (repeat' first | assumption | exact if_pos rfl | refine (if_neg (by decide)).trans ?_)), (by (repeat' first | assumption | exact if_pos rfl | refine (if_neg (by decide)).trans ?_)), _, _, _, _, (by (repeat' first | assumption | exact if_pos rfl | refine (if_neg (by decide)).trans ?_)), (by (repeat' first | assumption | exact if_pos rfl | refine (if_neg (by decide)).trans ?_)), (fm9 _).1, (fm9 _).2, (fm9 _).1, (fm9 _).2⟩
  intro f m₈ s₈ F₈ N₈ M₈ G₈ hq21_
  refine ex0_5 (hq21_) ?_
  clear hq21_
  intro hq22_ hsc₈ hfi₈ hto₈ hq23_
  obtain rfl := hq22_
  refine ex4_6 (hq23_) ?_
  clear hq23_
  intro a ta b tb hma hmb ha0 ha7 hb0 hb7
  dsimp only
  have T₈ := T₇.same G₈
  have O₈ := M₈.os.trans O₇
  clear N₈ M₈ G₈ F₇ T₇ O₇ hsc₄ hfi₄ hto₄ T₆
  refine mm_mid (pre := [_, _]) (P := fun s' => ∃ m', Fr s.heap L s'.heap m' ∧ m' (Str.ofString "script") = some (.ref Sc) ∧ m' (Str.ofString "first") = some (.int fst tf) ∧ Tidy (fun _ => False) (fun _ => False) s s' ∧ s'.os = s.os) ?_ ?_
  rotate_left
  --[
  · intro s₉ hq24_
    refine ex1_5 (hq24_) ?_
    clear hq24_
    intro m₉ F₉ hsc₉ hfi₉ T₉ O₉
    clear F₈ T₈ O₈ hsc₈ hfi₈ hto₈ hma hmb
    refine mm_block (pre := [_, _]) (dp := 320) (un := 400) (m := m₉) (extra := []) (Φ := fun f m' h => f = .next ∧ ∃ one t1 two t2, m' (Str.ofString "one") = some (.int one t1) ∧ m' (Str.ofString "two") = some (.int two t2) ∧ 0 ≤ one ∧ one ≤ 1073741823 ∧ 0 ≤ two ∧ two ≤ 1073741823) ?_ F₉ News.nil rfl (Nat.le_of_ble_eq_true rfl) (Nat.le_of_ble_eq_true rfl) ?_
    · clear F₉
      intro s' hg F' N' N
      refine hideQ fun Q0 hQ0 => ?_
      (repeat' (first | (with_reducible show wpAny _ _ _ _ _ _); (fail_if_success (first | (with_reducible show wpAny _ _ (exec (Stmt.While _ _ _ _) _) _ _ _) | (with_reducible show wpAny _ _ (exec (Stmt.For _ _ _ _ _) _) _ _ _) | (with_reducible show wpAny _ _ (call (Value.ref _) _ _) _ _ _))); (first | (first | ((with_reducible show wpAny _ _ (eval (.Name _ _) _) _ _ _); (refine' nameX_L ?zf ?zv ?_; (case zf => assumption); (case zv => (repeat' first | assumption | exact if_pos rfl | refine (if_neg (by decide)).trans ?_)))) | ((with_reducible show wpAny _ _ (binaryOp .FloorDiv (.int _ _) (.int _ _)) _ _ _); refine floordiv_int (by first | lia | omega) ?_ (Or.inl (PyProof.noPylong_small (by first | lia | omega)))) | walk1) | (dsimp only; walk1)) | (with_reducible show ite _ _ _); split; all_goals (try (rename_i hq; exfalso; simp only [decide_eq_true_eq, Bool.not_eq_true, decide_eq_false_iff_not, beq_iff_eq, bne_iff_ne, beq_eq_false_iff_ne, bne_eq_false_iff_eq, ne_eq, Bool.false_eq_true, not_true_eq_false, not_false_eq_true] at hq <;> first | lia | omega))))
      all_goals (rename Fr _ _ _ _ => F'; rename News _ _ _ _ => N'')
      · exact hQ0 _ _ ⟨⟨hg, by first | rfl | trivial⟩, _, F', N'', rfl, _, _, _, _, (by (repeat' first | assumption | exact if_pos rfl | refine (if_neg (by decide)).trans ?_)), (by (repeat' first | assumption | exact if_pos rfl | refine (if_neg (by decide)).trans ?_)), (fmM _).1, (fmM _).2, (fmM _).1, (fmM _).2⟩
      · exact hQ0 _ _ ⟨⟨hg, by first | rfl | trivial⟩, _, F', N'', rfl, _, _, _, _, (by (repeat' first | assumption | exact if_pos rfl | refine (if_neg (by decide)).trans ?_)), (by (repeat' first | assumption | exact if_pos rfl | refine (if_neg (by decide)).trans ?_)), (fmM _).1, (fmM _).2, by decide, by decide⟩
    intro f m₁ s₁ F₁ N₁ M₁ G₁ hq25_
    refine ex0_2 (hq25_) ?_
    clear hq25_
    intro hq26_ hq27_
    obtain rfl := hq26_
    refine ex4_6 (hq27_) ?_
    clear hq27_
    intro one t1 two t2 h1 h2 o0 o1 w0 w1
    dsimp only
    have T₁ := T₉.same G₁
    have O₁ := M₁.os.trans O₉
    clear F₉ N₁ M₁ G₁ T₉ O₉ hsc₉ hfi₉
    refine wp_trip (dp := 320) (un := 400) (m := m₁) (extra := []) (Φ := fun f m' h => f = .ret (.bool true)) ?_ F₁ News.nil rfl (Nat.le_of_ble_eq_true rfl) (Nat.le_of_ble_eq_true rfl) ?_
    · clear F₁
      intro s' hg F' N' N
      refine hideQ fun Q0 hQ0 => ?_
      (repeat' (first | (with_reducible show wpAny _ _ _ _ _ _); (fail_if_success (first | (with_reducible show wpAny _ _ (exec (Stmt.While _ _ _ _) _) _ _ _) | (with_reducible show wpAny _ _ (exec (Stmt.For _ _ _ _ _) _) _ _ _) | (with_reducible show wpAny _ _ (call (Value.ref _) _ _) _ _ _))); (first | (first | ((with_reducible show wpAny _ _ (eval (.Name _ _) _) _ _ _); (refine' nameX_L ?zf ?zv ?_; (case zf => assumption); (case zv => (repeat' first | assumption | exact if_pos rfl | refine (if_neg (by decide)).trans ?_)))) | ((with_reducible show wpAny _ _ (binaryOp .FloorDiv (.int _ _) (.int _ _)) _ _ _); refine floordiv_int (by first | lia | omega) ?_ (Or.inl (PyProof.noPylong_small (by first | lia | omega)))) | walk1) | (dsimp only; walk1)) | (with_reducible show ite _ _ _); split; all_goals (try (rename_i hq; exfalso; simp only [decide_eq_true_eq, Bool.not_eq_true, decide_eq_false_iff_not, beq_iff_eq, bne_iff_ne, beq_eq_false_iff_ne, bne_eq_false_iff_eq, ne_eq, Bool.false_eq_true, not_true_eq_false, not_false_eq_true] at hq <;> first | lia | omega))))
      refine ⟨X.keeps F'.keep, ?_⟩
      refine use F' N (law_euclid_ok (dp := 320) (un := 400) (W'.keeps F'.keep) o0 w0 o1 w1 (by decide) (by decide)) rfl (Nat.le_refl _) (Nat.le_refl _) ?_
      rintro v h' tk' F₂ N₂ _ rfl
      clear F' N
      (repeat' (first | (with_reducible show wpAny _ _ _ _ _ _); (fail_if_success (first | (with_reducible show wpAny _ _ (exec (Stmt.While _ _ _ _) _) _ _ _) | (with_reducible show wpAny _ _ (exec (Stmt.For _ _ _ _ _) _) _ _ _) | (with_reducible show wpAny _ _ (call (Value.ref _) _ _) _ _ _))); (first | (first | ((with_reducible show wpAny _ _ (eval (.Name _ _) _) _ _ _); (refine' nameX_L ?zf ?zv ?_; (case zf => assumption); (case zv => (repeat' first | assumption | exact if_pos rfl | refine (if_neg (by decide)).trans ?_)))) | ((with_reducible show wpAny _ _ (binaryOp .FloorDiv (.int _ _) (.int _ _)) _ _ _); refine floordiv_int (by first | lia | omega) ?_ (Or.inl (PyProof.noPylong_small (by first | lia | omega)))) | walk1) | (dsimp only; walk1)) | (with_reducible show ite _ _ _); split; all_goals (try (rename_i hq; exfalso; simp only [decide_eq_true_eq, Bool.not_eq_true, decide_eq_false_iff_not, beq_iff_eq, bne_iff_ne, beq_eq_false_iff_ne, bne_eq_false_iff_eq, ne_eq, Bool.false_eq_true, not_true_eq_false, not_false_eq_true] at hq <;> first | lia | omega))))
      rename Fr _ _ _ _ => F₃
      rename News _ _ _ _ => N₃
      refine ⟨X.keeps F₃.keep, ?_⟩
      refine use F₃ N₃ (law_euclid_ok (dp := 320) (un := 400) (W'.keeps F₃.keep) w0 o0 w1 o1 (by decide) (by decide)) rfl (Nat.le_refl _) (Nat.le_refl _) ?_
      rintro v h' tk' F₄ N₄ _ rfl
      clear F₃ N₃ 
      (repeat' (first | (with_reducible show wpAny _ _ _ _ _ _); (fail_if_success (first | (with_reducible show wpAny _ _ (exec (Stmt.While _ _ _ _) _) _ _ _) | (with_reducible show wpAny _ _ (exec (Stmt.For _ _ _ _ _) _) _ _ _) | (with_reducible show wpAny _ _ (call (Value.ref _) _ _) _ _ _))); (first | (first | ((with_reducible show wpAny _ _ (eval (.Name _ _) _) _ _ _); (refine' nameX_L ?zf ?zv ?_; (case zf => assumption); (case zv => (repeat' first | assumption | exact if_pos rfl | refine (if_neg (by decide)).trans ?_)))) | ((with_reducible show wpAny _ _ (binaryOp .FloorDiv (.int _ _) (.int _ _)) _ _ _); refine floordiv_int (by first | lia | omega) ?_ (Or.inl (PyProof.noPylong_small (by first | lia | omega)))) | walk1) | (dsimp only; walk1)) | (with_reducible show ite _ _ _); split; all_goals (try (rename_i hq; exfalso; simp only [decide_eq_true_eq, Bool.not_eq_true, decide_eq_false_iff_not, beq_iff_eq, bne_iff_ne, beq_eq_false_iff_ne, bne_eq_false_iff_eq, ne_eq, Bool.false_eq_true, not_true_eq_false, not_false_eq_true] at hq <;> first | lia | omega))))
      rename Fr _ _ _ _ => F₅
      rename News _ _ _ _ => N₅
      refine ⟨X.keeps F₅.keep, ?_⟩
      refine use F₅ N₅ (law_euclid_ok (dp := 320) (un := 400) (W'.keeps F₅.keep) o0 o0 o1 o1 (by decide) (by decide)) rfl (Nat.le_refl _) (Nat.le_refl _) ?_
      rintro v h' tk' F₆ N₆ _ rfl
      clear F₅ N₅
      (repeat' (first | (with_reducible show wpAny _ _ _ _ _ _); (fail_if_success (first | (with_reducible show wpAny _ _ (exec (Stmt.While _ _ _ _) _) _ _ _) | (with_reducible show wpAny _ _ (exec (Stmt.For _ _ _ _ _) _) _ _ _) | (with_reducible show wpAny _ _ (call (Value.ref _) _ _) _ _ _))); (first | (first | ((with_reducible show wpAny _ _ (eval (.Name _ _) _) _ _ _); (refine' nameX_L ?zf ?zv ?_; (case zf => assumption); (case zv => (repeat' first | assumption | exact if_pos rfl | refine (if_neg (by decide)).trans ?_)))) | ((with_reducible show wpAny _ _ (binaryOp .FloorDiv (.int _ _) (.int _ _)) _ _ _); refine floordiv_int (by first | lia | omega) ?_ (Or.inl (PyProof.noPylong_small (by first | lia | omega)))) | walk1) | (dsimp only; walk1)) | (with_reducible show ite _ _ _); split; all_goals (try (rename_i hq; exfalso; simp only [decide_eq_true_eq, Bool.not_eq_true, decide_eq_false_iff_not, beq_iff_eq, bne_iff_ne, beq_eq_false_iff_ne, bne_eq_false_iff_eq, ne_eq, Bool.false_eq_true, not_true_eq_false, not_false_eq_true] at hq <;> first | lia | omega))))
      rename Fr _ _ _ _ => F₇
      rename News _ _ _ _ => N₇
      have r1 := fmod_facts one (show (0 : Int) < 100 by decide)
      have r2 := fmod_facts two (show (0 : Int) < 60 by decide)
      refine ⟨X.keeps F₇.keep, ?_⟩
      refine use F₇ N₇ (law_euclid_ok (dp := 320) (un := 400) (W'.keeps F₇.keep) r1.1 r2.1 (by omega) (by omega) (by decide) (by decide)) rfl (Nat.le_refl _) (Nat.le_refl _) ?_
      rintro v h' tk' F₈ N₈ _ rfl
      clear F₇ N₇
      (repeat' (first | (with_reducible show wpAny _ _ _ _ _ _); (fail_if_success (first | (with_reducible show wpAny _ _ (exec (Stmt.While _ _ _ _) _) _ _ _) | (with_reducible show wpAny _ _ (exec (Stmt.For _ _ _ _ _) _) _ _ _) | (with_reducible show wpAny _ _ (call (Value.ref _) _ _) _ _ _))); (first | (first | ((with_reducible show wpAny _ _ (eval (.Name _ _) _) _ _ _); (refine' nameX_L ?zf ?zv ?_; (case zf => assumption); (case zv => (repeat' first | assumption | exact if_pos rfl | refine (if_neg (by decide)).trans ?_)))) | ((with_reducible show wpAny _ _ (binaryOp .FloorDiv (.int _ _) (.int _ _)) _ _ _); refine floordiv_int (by first | lia | omega) ?_ (Or.inl (PyProof.noPylong_small (by first | lia | omega)))) | walk1) | (dsimp only; walk1)) | (with_reducible show ite _ _ _); split; all_goals (try (rename_i hq; exfalso; simp only [decide_eq_true_eq, Bool.not_eq_true, decide_eq_false_iff_not, beq_iff_eq, bne_iff_ne, beq_eq_false_iff_ne, bne_eq_false_iff_eq, ne_eq, Bool.false_eq_true, not_true_eq_false, not_false_eq_true] at hq <;> first | lia | omega))))
      exact hQ0 _ _ ⟨⟨hg, by first | rfl | trivial⟩, _, F₈, N₈, rfl⟩
    rintro f m' s' F' N' M' G' rfl
    exact ⟨rfl, F'.keep, T₁.same G', M'.os.trans O₁⟩
  --]
  have hLb : s.heap.get? L = none := Heap.get?_none_of_le (Nat.le_of_eq hLL)
  have hSb : ∀ (s' : Shared) b o, Fr s.heap L s'.heap m₈ → s.heap.get? b = some o → (hide s'.heap [L]).get? b = some o := fun s' b o F' e => hide_of (F'.keep b o e) fun q => by
    rw [List.mem_singleton.mp q, hLb] at e; cases e
  refine wpAny_execs_cons (wpAny_Assign_Name ?_)
  (repeat' ((with_reducible show wpAny _ _ _ _ _ _); (fail_if_success (with_reducible show wpAny _ _ (spliced _) _ _ _)); (first | (first | ((with_reducible show wpAny _ _ (eval (.Name _ _) _) _ _ _); (refine' nameX_L ?zf ?zv ?_; (case zf => assumption); (case zv => (repeat' first | assumption | exact if_pos rfl | refine (if_neg (by decide)).trans ?_)))) | ((with_reducible show wpAny _ _ (binaryOp .FloorDiv (.int _ _) (.int _ _)) _ _ _); refine floordiv_int (by first | lia | omega) ?_ (Or.inl (PyProof.noPylong_small (by first | lia | omega)))) | walk1) | (dsimp only; walk1))))
  refine wp_trip (dp := 320) (un := 400) (m := m₈) (extra := []) (Φ := fun vs m' _ => vs = [.int a ta, .int b tb, .int tot ttot] ∧ m' = m₈) ?_ F₈ News.nil rfl (Nat.le_of_ble_eq_true rfl) (Nat.le_of_ble_eq_true rfl) ?_
  --[
  · clear F₈
    intro s' hg F' N' N
    refine hideQ fun Q0 hQ0 => ?_
    (repeat' (first | (with_reducible show wpAny _ _ _ _ _ _); (fail_if_success (first | (with_reducible show wpAny _ _ (exec (Stmt.While _ _ _ _) _) _ _ _) | (with_reducible show wpAny _ _ (exec (Stmt.For _ _ _ _ _) _) _ _ _) | (with_reducible show wpAny _ _ (call (Value.ref _) _ _) _ _ _))); (first | (first | ((with_reducible show wpAny _ _ (eval (.Name _ _) _) _ _ _); (refine' nameX_L ?zf ?zv ?_; (case zf => assumption); (case zv => (repeat' first | assumption | exact if_pos rfl | refine (if_neg (by decide)).trans ?_)))) | ((with_reducible show wpAny _ _ (binaryOp .FloorDiv (.int _ _) (.int _ _)) _ _ _); refine floordiv_int (by first | lia | omega) ?_ (Or.inl (PyProof.noPylong_small (by first | lia | omega)))) | walk1) | (dsimp only; walk1)) | (with_reducible show ite _ _ _); split; all_goals (try (rename_i hq; exfalso; simp only [decide_eq_true_eq, Bool.not_eq_true, decide_eq_false_iff_not, beq_iff_eq, bne_iff_ne, beq_eq_false_iff_ne, bne_eq_false_iff_eq, ne_eq, Bool.false_eq_true, not_true_eq_false, not_false_eq_true] at hq <;> first | lia | omega))))
    rename Fr _ _ _ _ => F'
    rename News _ _ _ _ => N''
    exact hQ0 _ _ ⟨⟨hg, by first | rfl | trivial⟩, _, F', N'', by first | trivial | exact ⟨rfl, rfl⟩⟩
  --]
  intro vs9 m9 s₉ F₉ N₉ M₉ G₉ hq28_
  refine ex0_2 (hq28_) ?_
  clear hq28_
  intro hq29_ hm9
  obtain rfl := hq29_
  rw [hm9] at F₉
  have T₉ := T₈.same G₉
  have O₉ := M₉.os.trans O₈
  clear hm9 m9 F₈ N₉ M₉ G₉ T₈ O₈
  refine ⟨X.keeps F₉.keep, ?_⟩
  by_cases hq : a < 1 ∨ b < 1
  --[
  · refine wpAny_mono (law_two_none (base := hide s₉.heap [L]) (W'.keeps fun b o e => hSb s₉ b o F₉ e) (hide_stays _ _) (Nat.le_of_eq (hide_size _ _)) (Around.frames_deeper rfl) (Heap.FunFrames.cons (show ScopeKind.function ≠ ScopeKind.module by decide) rfl F₉.ns (hide_none (.head _)) trivial) (by lia) (by exact Int.le_trans (by assumption) (by decide)) (by lia) (by lia) rfl (Nat.le_of_ble_eq_true rfl) (Nat.le_of_ble_eq_true rfl)) (fun v s₁₀ hr => ?_) fun _ _ x => x
    refine ex0_2 (hr) ?_
    clear hr
    intro hq30_ hR
    obtain rfl := hq30_
    have F₁₀ : Fr s.heap L s₁₀.heap m₈ := ⟨hR.slots.ns F₉.ns, fun b o e => hR.stays b o (hSb s₉ b o F₉ e), F₉.above⟩
    have T₁₀ := T₉.trans hR.tidy
    have O₁₀ := hR.os.trans O₉
    clear hR F₉ T₉ O₉ hSb
    refine wp_trip (dp := 320) (un := 400) (m := m₈) (extra := []) (Φ := fun _ m' _ => m' (Str.ofString "told") = some .none ∧ m' (Str.ofString "script") = some (.ref Sc) ∧ m' (Str.ofString "first") = some (.int fst tf) ∧ m' (Str.ofString "a") = some (.int a ta) ∧ m' (Str.ofString "b") = some (.int b tb)) ?_ F₁₀ News.nil rfl (Nat.le_of_ble_eq_true rfl) (Nat.le_of_ble_eq_true rfl) ?_
    · clear F₁₀
      intro s' hg F' N' N
      refine hideQ fun Q0 hQ0 => ?_
      (repeat' (first | (with_reducible show wpAny _ _ _ _ _ _); (fail_if_success (first | (with_reducible show wpAny _ _ (exec (Stmt.While _ _ _ _) _) _ _ _) | (with_reducible show wpAny _ _ (exec (Stmt.For _ _ _ _ _) _) _ _ _) | (with_reducible show wpAny _ _ (call (Value.ref _) _ _) _ _ _))); (first | (first | ((with_reducible show wpAny _ _ (eval (.Name _ _) _) _ _ _); (refine' nameX_L ?zf ?zv ?_; (case zf => assumption); (case zv => (repeat' first | assumption | exact if_pos rfl | refine (if_neg (by decide)).trans ?_)))) | ((with_reducible show wpAny _ _ (binaryOp .FloorDiv (.int _ _) (.int _ _)) _ _ _); refine floordiv_int (by first | lia | omega) ?_ (Or.inl (PyProof.noPylong_small (by first | lia | omega)))) | walk1) | (dsimp only; walk1)) | (with_reducible show ite _ _ _); split; all_goals (try (rename_i hq; exfalso; simp only [decide_eq_true_eq, Bool.not_eq_true, decide_eq_false_iff_not, beq_iff_eq, bne_iff_ne, beq_eq_false_iff_ne, bne_eq_false_iff_eq, ne_eq, Bool.false_eq_true, not_true_eq_false, not_false_eq_true] at hq <;> first | lia | omega))))
      rename Fr _ _ _ _ => F'
      rename News _ _ _ _ => N''
      exact hQ0 _ _ ⟨⟨hg, by first | rfl | trivial⟩, _, F', N'', (by (repeat' first | assumption | exact if_pos rfl | refine (if_neg (by decide)).trans ?_)), (by (repeat' first | assumption | exact if_pos rfl | refine (if_neg (by decide)).trans ?_)), (by (repeat' first | assumption | exact if_pos rfl | refine (if_neg (by decide)).trans ?_)), (by (repeat' first | assumption | exact if_pos rfl | refine (if_neg (by decide)).trans ?_)), (by (repeat' first | assumption | exact if_pos rfl | refine (if_neg (by decide)).trans ?_))⟩
    intro _ m₁₁ s₁₁ F₁₁ N₁₁ M₁₁ G₁₁ hq31_
    refine ex0_5 (hq31_) ?_
    clear hq31_
    intro hto hsc hfi hma' hmb'
    have T₁₁ := T₁₀.same G₁₁
    have O₁₁ := M₁₁.os.trans O₁₀
    clear F₁₀ N₁₁ M₁₁ G₁₁ T₁₀ O₁₀ hma hmb hsc₈ hfi₈ hto₈
    dsimp only
    refine wpAny_execs_cons ?_
    refine wp_trip (dp := 320) (un := 400) (m := m₁₁) (extra := []) (Φ := fun f m' _ => f = .next ∧ m' (Str.ofString "script") = some (.ref Sc) ∧ m' (Str.ofString "first") = some (.int fst tf)) ?_ F₁₁ News.nil rfl (Nat.le_of_ble_eq_true rfl) (Nat.le_of_ble_eq_true rfl) ?_
    · clear F₁₁
      intro s' hg F' N' N
      (repeat' (first | (with_reducible show wpAny _ _ _ _ _ _); (fail_if_success (first | (with_reducible show wpAny _ _ (exec (Stmt.While _ _ _ _) _) _ _ _) | (with_reducible show wpAny _ _ (exec (Stmt.For _ _ _ _ _) _) _ _ _) | (with_reducible show wpAny _ _ (call (Value.ref _) _ _) _ _ _))); (first | (first | ((with_reducible show wpAny _ _ (eval (.Name _ _) _) _ _ _); (refine' nameX_L ?zf ?zv ?_; (case zf => assumption); (case zv => (repeat' first | assumption | exact if_pos rfl | refine (if_neg (by decide)).trans ?_)))) | ((with_reducible show wpAny _ _ (binaryOp .FloorDiv (.int _ _) (.int _ _)) _ _ _); refine floordiv_int (by first | lia | omega) ?_ (Or.inl (PyProof.noPylong_small (by first | lia | omega)))) | walk1) | (dsimp only; walk1)) | (with_reducible show ite _ _ _); split; all_goals (try (rename_i hq; exfalso; simp only [decide_eq_true_eq, Bool.not_eq_true, decide_eq_false_iff_not, beq_iff_eq, bne_iff_ne, beq_eq_false_iff_ne, bne_eq_false_iff_eq, ne_eq, Bool.false_eq_true, not_true_eq_false, not_false_eq_true] at hq <;> first | lia | omega))))
      all_goals first
        | exact ⟨⟨hg, by first | rfl | trivial⟩, _, F', N, rfl, hsc, hfi⟩
        | (exfalso; simp only [decide_eq_true_eq] at *; (first | lia | omega))
    intro f m₁₂ s₁₂ F₁₂ N₁₂ M₁₂ G₁₂ hq32_
    refine ex0_3 (hq32_) ?_
    clear hq32_
    intro hq33_ hsc hfi
    obtain rfl := hq33_
    dsimp only
    refine wpAny_execs_nil ⟨rfl, m₁₂, F₁₂, hsc, hfi, T₁₁.same G₁₂, M₁₂.os.trans O₁₁⟩
  --]
  have ha1 : 0 < a := by lia
  have hb1 : 0 < b := by lia
  refine ex0_2 (baseL_few ha1 hb1 ht0 ha7 hb7 ht12) ?_
  intro fw1 fw2
  refine wpAny_mono (law_two_rows (W'.keeps F₉.keep) ha1 hb1 ht0 (by lia) (by lia) (by lia) (by lia) rfl (Nat.le_of_ble_eq_true rfl) (Nat.le_of_ble_eq_true rfl)) (fun v s₁₀ hr => ?_) fun _ _ x => x
  refine ex0_3 (hr) ?_
  clear hr
  intro hq34_ M₁₀ T₁₀'
  refine ex3_4 (hq34_) ?_
  clear hq34_
  intro St out cS hq35_ hSn hSo hSR
  obtain rfl := hq35_
  have F₁₀ := Fr.moves0 F₉ M₁₀
  have T₁₀ := T₉.trans T₁₀'
  have O₁₀ := M₁₀.os.trans O₉
  have hSL : St ≠ L := Fr.seq_ne F₁₀ hSo rfl
  clear F₉ T₉ O₉ T₁₀' M₁₀ hSn
  refine wp_trip (dp := 320) (un := 400) (m := m₈) (extra := []) (Φ := fun _ m' _ => m' (Str.ofString "told") = some (.ref St) ∧ m' (Str.ofString "script") = some (.ref Sc) ∧ m' (Str.ofString "first") = some (.int fst tf) ∧ m' (Str.ofString "a") = some (.int a ta) ∧ m' (Str.ofString "b") = some (.int b tb) ∧ m' (Str.ofString "total") = some (.int tot ttot)) ?_ F₁₀ News.nil rfl (Nat.le_of_ble_eq_true rfl) (Nat.le_of_ble_eq_true rfl) ?_
  --[
  · clear F₁₀
    intro s' hg F' N' N
    refine hideQ fun Q0 hQ0 => ?_
    (repeat' (first | (with_reducible show wpAny _ _ _ _ _ _); (fail_if_success (first | (with_reducible show wpAny _ _ (exec (Stmt.While _ _ _ _) _) _ _ _) | (with_reducible show wpAny _ _ (exec (Stmt.For _ _ _ _ _) _) _ _ _) | (with_reducible show wpAny _ _ (call (Value.ref _) _ _) _ _ _))); (first | (first | ((with_reducible show wpAny _ _ (eval (.Name _ _) _) _ _ _); (refine' nameX_L ?zf ?zv ?_; (case zf => assumption); (case zv => (repeat' first | assumption | exact if_pos rfl | refine (if_neg (by decide)).trans ?_)))) | ((with_reducible show wpAny _ _ (binaryOp .FloorDiv (.int _ _) (.int _ _)) _ _ _); refine floordiv_int (by first | lia | omega) ?_ (Or.inl (PyProof.noPylong_small (by first | lia | omega)))) | walk1) | (dsimp only; walk1)) | (with_reducible show ite _ _ _); split; all_goals (try (rename_i hq; exfalso; simp only [decide_eq_true_eq, Bool.not_eq_true, decide_eq_false_iff_not, beq_iff_eq, bne_iff_ne, beq_eq_false_iff_ne, bne_eq_false_iff_eq, ne_eq, Bool.false_eq_true, not_true_eq_false, not_false_eq_true] at hq <;> first | lia | omega))))
    rename Fr _ _ _ _ => F'
    rename News _ _ _ _ => N''
    exact hQ0 _ _ ⟨⟨hg, by first | rfl | trivial⟩, _, F', N'', (by (repeat' first | assumption | exact if_pos rfl | refine (if_neg (by decide)).trans ?_)), (by (repeat' first | assumption | exact if_pos rfl | refine (if_neg (by decide)).trans ?_)), (by (repeat' first | assumption | exact if_pos rfl | refine (if_neg (by decide)).trans ?_)), (by (repeat' first | assumption | exact if_pos rfl | refine (if_neg (by decide)).trans ?_)), (by (repeat' first | assumption | exact if_pos rfl | refine (if_neg (by decide)).trans ?_)), (by (repeat' first | assumption | exact if_pos rfl | refine (if_neg (by decide)).trans ?_))⟩
  --]
  intro _ m₁₁ s₁₁ F₁₁ N₁₁ M₁₁ G₁₁ hq36_
  refine ex0_6 (hq36_) ?_
  clear hq36_
  intro htd hsc hfi hma' hmb' hto'
  have T₁₁ := T₁₀.same G₁₁
  have O₁₁ := M₁₁.os.trans O₁₀
  have R₁₁ := hSR.movesL F₁₀ M₁₁
  have S₁₁ := M₁₁.heap _ _ hSL hSo
  clear F₁₀ N₁₁ M₁₁ G₁₁ T₁₀ O₁₀ hma hmb hsc₈ hfi₈ hto₈ hSo hSR hSb
  dsimp only
  refine wpAny_execs_cons (wpAny_If ?_)
  refine wp_trip (dp := 320) (un := 400) (m := m₁₁) (extra := []) (Φ := fun f m' _ => f = false ∧ m' = m₁₁) ?_ F₁₁ News.nil rfl (Nat.le_of_ble_eq_true rfl) (Nat.le_of_ble_eq_true rfl) ?_
  --[
  · clear F₁₁
    intro s' hg F' N' N
    (repeat' (first | (with_reducible show wpAny _ _ _ _ _ _); (fail_if_success (first | (with_reducible show wpAny _ _ (exec (Stmt.While _ _ _ _) _) _ _ _) | (with_reducible show wpAny _ _ (exec (Stmt.For _ _ _ _ _) _) _ _ _) | (with_reducible show wpAny _ _ (call (Value.ref _) _ _) _ _ _))); (first | (first | ((with_reducible show wpAny _ _ (eval (.Name _ _) _) _ _ _); (refine' nameX_L ?zf ?zv ?_; (case zf => assumption); (case zv => (repeat' first | assumption | exact if_pos rfl | refine (if_neg (by decide)).trans ?_)))) | ((with_reducible show wpAny _ _ (binaryOp .FloorDiv (.int _ _) (.int _ _)) _ _ _); refine floordiv_int (by first | lia | omega) ?_ (Or.inl (PyProof.noPylong_small (by first | lia | omega)))) | walk1) | (dsimp only; walk1)) | (with_reducible show ite _ _ _); split; all_goals (try (rename_i hq; exfalso; simp only [decide_eq_true_eq, Bool.not_eq_true, decide_eq_false_iff_not, beq_iff_eq, bne_iff_ne, beq_eq_false_iff_ne, bne_eq_false_iff_eq, ne_eq, Bool.false_eq_true, not_true_eq_false, not_false_eq_true] at hq <;> first | lia | omega))))
    all_goals first
      | exact ⟨⟨hg, by first | rfl | trivial⟩, _, F', N, rfl, rfl⟩
      | (exfalso; simp only [decide_eq_true_eq] at *; (first | lia | omega))
  --]
  intro f m12 s₁₂ F₁₂ N₁₂ M₁₂ G₁₂ hq37_
  refine ex0_2 (hq37_) ?_
  clear hq37_
  intro hq38_ hm12
  obtain rfl := hq38_
  rw [hm12] at F₁₂
  have T₁₂ := T₁₁.same G₁₂
  have O₁₂ := M₁₂.os.trans O₁₁
  have R₁₂ := R₁₁.movesL F₁₁ M₁₂
  have S₁₂ := M₁₂.heap _ _ hSL S₁₁
  clear hm12 m12 F₁₁ N₁₂ M₁₂ G₁₂ T₁₁ O₁₁ R₁₁ S₁₁
  rw [if_neg Bool.false_ne_true]
  refine wpAny_execs_cons (wpAny_If ?_)
  (repeat' ((with_reducible show wpAny _ _ _ _ _ _); (fail_if_success (with_reducible show wpAny _ _ (spliced _) _ _ _)); (first | (first | ((with_reducible show wpAny _ _ (eval (.Name _ _) _) _ _ _); (refine' nameX_L ?zf ?zv ?_; (case zf => assumption); (case zv => (repeat' first | assumption | exact if_pos rfl | refine (if_neg (by decide)).trans ?_)))) | ((with_reducible show wpAny _ _ (binaryOp .FloorDiv (.int _ _) (.int _ _)) _ _ _); refine floordiv_int (by first | lia | omega) ?_ (Or.inl (PyProof.noPylong_small (by first | lia | omega)))) | walk1) | (dsimp only; walk1))))
  rw [if_neg Bool.false_ne_true]
  (repeat' ((with_reducible show wpAny _ _ _ _ _ _); (fail_if_success (with_reducible show wpAny _ _ (spliced _) _ _ _)); (first | (first | ((with_reducible show wpAny _ _ (eval (.Name _ _) _) _ _ _); (refine' nameX_L ?zf ?zv ?_; (case zf => assumption); (case zv => (repeat' first | assumption | exact if_pos rfl | refine (if_neg (by decide)).trans ?_)))) | ((with_reducible show wpAny _ _ (binaryOp .FloorDiv (.int _ _) (.int _ _)) _ _ _); refine floordiv_int (by first | lia | omega) ?_ (Or.inl (PyProof.noPylong_small (by first | lia | omega)))) | walk1) | (dsimp only; walk1))))
  refine wp_trip (dp := 320) (un := 400) (m := m₁₁) (extra := []) (Φ := fun vs m' _ => vs = [.ref St] ∧ m' = m₁₁) ?_ F₁₂ News.nil rfl (Nat.le_of_ble_eq_true rfl) (Nat.le_of_ble_eq_true rfl) ?_
  --[
  · clear F₁₂
    intro s' hg F' N' N
    refine hideQ fun Q0 hQ0 => ?_
    (repeat' (first | (with_reducible show wpAny _ _ _ _ _ _); (fail_if_success (first | (with_reducible show wpAny _ _ (exec (Stmt.While _ _ _ _) _) _ _ _) | (with_reducible show wpAny _ _ (exec (Stmt.For _ _ _ _ _) _) _ _ _) | (with_reducible show wpAny _ _ (call (Value.ref _) _ _) _ _ _))); (first | (first | ((with_reducible show wpAny _ _ (eval (.Name _ _) _) _ _ _); (refine' nameX_L ?zf ?zv ?_; (case zf => assumption); (case zv => (repeat' first | assumption | exact if_pos rfl | refine (if_neg (by decide)).trans ?_)))) | ((with_reducible show wpAny _ _ (binaryOp .FloorDiv (.int _ _) (.int _ _)) _ _ _); refine floordiv_int (by first | lia | omega) ?_ (Or.inl (PyProof.noPylong_small (by first | lia | omega)))) | walk1) | (dsimp only; walk1)) | (with_reducible show ite _ _ _); split; all_goals (try (rename_i hq; exfalso; simp only [decide_eq_true_eq, Bool.not_eq_true, decide_eq_false_iff_not, beq_iff_eq, bne_iff_ne, beq_eq_false_iff_ne, bne_eq_false_iff_eq, ne_eq, Bool.false_eq_true, not_true_eq_false, not_false_eq_true] at hq <;> first | lia | omega))))
    exact hQ0 _ _ ⟨⟨hg, by first | rfl | trivial⟩, _, F', N, by first | trivial | exact ⟨rfl, rfl⟩⟩
  --]
  intro vs13 m13 s₁₃ F₁₃ N₁₃ M₁₃ G₁₃ hq39_
  refine ex0_2 (hq39_) ?_
  clear hq39_
  intro hq40_ hm13
  obtain rfl := hq40_
  rw [hm13] at F₁₃
  have T₁₃ := T₁₂.same G₁₃
  have O₁₃ := M₁₃.os.trans O₁₂
  have R₁₃ := R₁₂.movesL F₁₂ M₁₃
  have S₁₃ := M₁₃.heap _ _ hSL S₁₂
  clear hm13 m13 F₁₂ N₁₃ M₁₃ G₁₃ T₁₂ O₁₂ R₁₂ S₁₂
  refine sorted_list2 (k := 2) F₁₃ S₁₃ R₁₃ baseL_two (baseL_nodup ha1 hb1 ht0) (.inl fw1) rfl fun v s₁₄ Sd Fe M₁₄ G₁₄ => ?_
  refine ex3_4 (Sd.rows (rowsL_asc [a, b] tot) (baseL_rows ha1 hb1 ht0)) ?_
  intro S2 out2 c2 hq41_ _ S2o S2R
  obtain rfl := hq41_
  have offb : ∀ b o, s.heap.get? b = some o → b ≠ L := fun b o e q => by rw [q, hLb] at e; cases e
  have F₁₄ : Fr s.heap L s₁₄.heap m₁₁ := ⟨Fe.ns, fun b o e => M₁₄.heap b o (offb b o e) (F₁₃.keep b o e), F₁₃.above⟩
  have T₁₄ := T₁₃.same G₁₄
  have O₁₄ := M₁₄.os.trans O₁₃
  have R₁₄ := R₁₃.movesL F₁₃ M₁₄
  have S₁₄ := M₁₄.heap _ _ hSL S₁₃
  have hS2L : S2 ≠ L := Fr.seq_ne F₁₄ S2o rfl
  clear Sd Fe M₁₄ G₁₄ F₁₃ T₁₃ O₁₃ R₁₃ S₁₃
  (repeat' ((with_reducible show wpAny _ _ _ _ _ _); (fail_if_success (with_reducible show wpAny _ _ (spliced _) _ _ _)); (first | (first | ((with_reducible show wpAny _ _ (eval (.Name _ _) _) _ _ _); (refine' nameX_L ?zf ?zv ?_; (case zf => assumption); (case zv => (repeat' first | assumption | exact if_pos rfl | refine (if_neg (by decide)).trans ?_)))) | ((with_reducible show wpAny _ _ (binaryOp .FloorDiv (.int _ _) (.int _ _)) _ _ _); refine floordiv_int (by first | lia | omega) ?_ (Or.inl (PyProof.noPylong_small (by first | lia | omega)))) | walk1) | (dsimp only; walk1))))
  refine wp_trip (dp := 320) (un := 400) (m := m₁₁) (extra := []) (Φ := fun vs m' h => (∃ Ab o, vs = [.int tot ttot, .ref Ab] ∧ h.get? Ab = some o ∧ o.cls = .type "list" ∧ ∃ k, o.data = .seq (List.toArray [.int a ta, .int b tb]) k) ∧ m' = m₁₁) ?_ F₁₄ News.nil rfl (Nat.le_of_ble_eq_true rfl) (Nat.le_of_ble_eq_true rfl) ?_
  --[
  · clear F₁₄
    intro s' hg F' N' N
    refine hideQ fun Q0 hQ0 => ?_
    (repeat' (first | (with_reducible show wpAny _ _ _ _ _ _); (fail_if_success (first | (with_reducible show wpAny _ _ (exec (Stmt.While _ _ _ _) _) _ _ _) | (with_reducible show wpAny _ _ (exec (Stmt.For _ _ _ _ _) _) _ _ _) | (with_reducible show wpAny _ _ (call (Value.ref _) _ _) _ _ _))); (first | (first | ((with_reducible show wpAny _ _ (eval (.Name _ _) _) _ _ _); (refine' nameX_L ?zf ?zv ?_; (case zf => assumption); (case zv => (repeat' first | assumption | exact if_pos rfl | refine (if_neg (by decide)).trans ?_)))) | ((with_reducible show wpAny _ _ (binaryOp .FloorDiv (.int _ _) (.int _ _)) _ _ _); refine floordiv_int (by first | lia | omega) ?_ (Or.inl (PyProof.noPylong_small (by first | lia | omega)))) | walk1) | (dsimp only; walk1)) | (with_reducible show ite _ _ _); split; all_goals (try (rename_i hq; exfalso; simp only [decide_eq_true_eq, Bool.not_eq_true, decide_eq_false_iff_not, beq_iff_eq, bne_iff_ne, beq_eq_false_iff_ne, bne_eq_false_iff_eq, ne_eq, Bool.false_eq_true, not_true_eq_false, not_false_eq_true] at hq <;> first | lia | omega))))
    rename Fr _ _ _ _ => F''
    rename News _ _ _ _ => N''
    exact hQ0 _ _ ⟨⟨hg, by first | rfl | trivial⟩, _, F'', News.right (a := [_]) N'', ⟨_, _, rfl, (N'' _ (.head _)).1, rfl, _, rfl⟩, rfl⟩
  --]
  intro vs15 m15 s₁₅ F₁₅ N₁₅ M₁₅ G₁₅ hq42_
  refine ex0_2 (hq42_) ?_
  clear hq42_
  intro hq43_ hm15
  refine ex2_4 (hq43_) ?_
  clear hq43_
  intro Ab oA hq44_ hA hAc hq45_
  obtain rfl := hq44_
  refine ex1_1 (hq45_) ?_
  clear hq45_
  intro kA hAd
  rw [hm15] at F₁₅
  have T₁₅ := T₁₄.same G₁₅
  have O₁₅ := M₁₅.os.trans O₁₄
  have R₁₅ := R₁₄.movesL F₁₄ M₁₅
  have S₁₅ := M₁₅.heap _ _ hSL S₁₄
  have S2R₁₅ := S2R.movesL F₁₄ M₁₅
  have S2o₁₅ := M₁₅.heap _ _ hS2L S2o
  clear hm15 m15 F₁₄ N₁₅ M₁₅ G₁₅ T₁₄ O₁₄ R₁₄ S₁₄ S2R S2o
  refine ⟨X.keeps F₁₅.keep, ?_⟩
  refine wpAny_mono (law_rows2 (ns := [a, b]) (W'.keeps F₁₅.keep) hA hAc hAd (.cons _ _ (.cons _ _ .nil)) (by intro n hn; simp at hn; lia) (by lia) (by lia) (by lia) (by simp) rfl (Nat.le_of_ble_eq_true rfl) (Nat.le_of_ble_eq_true rfl)) (fun v s₁₆ hr => ?_) fun _ _ x => x
  refine ex0_3 (hr) ?_
  clear hr
  intro hq46_ M₁₆ G₁₆
  refine ex3_4 (hq46_) ?_
  clear hq46_
  intro S3 out3 c3 hq47_ _ S3o S3R
  obtain rfl := hq47_
  have F₁₆ := Fr.moves0 F₁₅ M₁₆
  have T₁₆ := T₁₅.same G₁₆
  have O₁₆ := M₁₆.os.trans O₁₅
  have R₁₆ := R₁₅.moves0 M₁₆
  have S₁₆ := M₁₆.heap _ _ id S₁₅
  have S2R₁₆ := S2R₁₅.moves0 M₁₆
  have S2o₁₆ := M₁₆.heap _ _ id S2o₁₅
  clear F₁₅ T₁₅ O₁₅ R₁₅ S₁₅ S2R₁₅ S2o₁₅ M₁₆ G₁₆ hA hAc hAd
  refine rows_ne2 S2o₁₆ S2R₁₆ S3o S3R rfl (by have := cLine_is; show 4 + 3 + 64 < cLine; lia) fun c s₁₇ hc hh hg ho => ?_
  cases c with
  | true => exact absurd rfl (hc.mp rfl)
  | false =>
  have F₁₇ : Fr s.heap L s₁₇.heap m₁₁ := by rw [hh]; exact F₁₆
  have R₁₇ : RowsAt s₁₇.heap out (baseL a b tot) := by rw [hh]; exact R₁₆
  have S₁₇ := hh ▸ S₁₆
  have T₁₇ := T₁₆.same hg
  have O₁₇ := ho.trans O₁₆
  clear F₁₆ R₁₆ S₁₆ T₁₆ O₁₆ S2o₁₆ S2R₁₆ S3o S3R hc hh hg ho
  (repeat' ((with_reducible show wpAny _ _ _ _ _ _); (fail_if_success (with_reducible show wpAny _ _ (spliced _) _ _ _)); (first | (first | ((with_reducible show wpAny _ _ (eval (.Name _ _) _) _ _ _); (refine' nameX_L ?zf ?zv ?_; (case zf => assumption); (case zv => (repeat' first | assumption | exact if_pos rfl | refine (if_neg (by decide)).trans ?_)))) | ((with_reducible show wpAny _ _ (binaryOp .FloorDiv (.int _ _) (.int _ _)) _ _ _); refine floordiv_int (by first | lia | omega) ?_ (Or.inl (PyProof.noPylong_small (by first | lia | omega)))) | walk1) | (dsimp only; walk1))))
  rw [if_neg Bool.false_ne_true]
  (repeat' ((with_reducible show wpAny _ _ _ _ _ _); (fail_if_success (with_reducible show wpAny _ _ (spliced _) _ _ _)); (first | (first | ((with_reducible show wpAny _ _ (eval (.Name _ _) _) _ _ _); (refine' nameX_L ?zf ?zv ?_; (case zf => assumption); (case zv => (repeat' first | assumption | exact if_pos rfl | refine (if_neg (by decide)).trans ?_)))) | ((with_reducible show wpAny _ _ (binaryOp .FloorDiv (.int _ _) (.int _ _)) _ _ _); refine floordiv_int (by first | lia | omega) ?_ (Or.inl (PyProof.noPylong_small (by first | lia | omega)))) | walk1) | (dsimp only; walk1))))
  refine wp_trip (dp := 320) (un := 400) (m := m₁₁) (extra := []) (Φ := fun vs m' _ => vs = [.ref St] ∧ m' = m₁₁) ?_ F₁₇ News.nil rfl (Nat.le_of_ble_eq_true rfl) (Nat.le_of_ble_eq_true rfl) ?_
  --[
  · clear F₁₇
    intro s' hg F' N' N
    refine hideQ fun Q0 hQ0 => ?_
    (repeat' (first | (with_reducible show wpAny _ _ _ _ _ _); (fail_if_success (first | (with_reducible show wpAny _ _ (exec (Stmt.While _ _ _ _) _) _ _ _) | (with_reducible show wpAny _ _ (exec (Stmt.For _ _ _ _ _) _) _ _ _) | (with_reducible show wpAny _ _ (call (Value.ref _) _ _) _ _ _))); (first | (first | ((with_reducible show wpAny _ _ (eval (.Name _ _) _) _ _ _); (refine' nameX_L ?zf ?zv ?_; (case zf => assumption); (case zv => (repeat' first | assumption | exact if_pos rfl | refine (if_neg (by decide)).trans ?_)))) | ((with_reducible show wpAny _ _ (binaryOp .FloorDiv (.int _ _) (.int _ _)) _ _ _); refine floordiv_int (by first | lia | omega) ?_ (Or.inl (PyProof.noPylong_small (by first | lia | omega)))) | walk1) | (dsimp only; walk1)) | (with_reducible show ite _ _ _); split; all_goals (try (rename_i hq; exfalso; simp only [decide_eq_true_eq, Bool.not_eq_true, decide_eq_false_iff_not, beq_iff_eq, bne_iff_ne, beq_eq_false_iff_ne, bne_eq_false_iff_eq, ne_eq, Bool.false_eq_true, not_true_eq_false, not_false_eq_true] at hq <;> first | lia | omega))))
    exact hQ0 _ _ ⟨⟨hg, by first | rfl | trivial⟩, _, F', N, by first | trivial | exact ⟨rfl, rfl⟩⟩
  --]
  intro vs18 m18 s₁₈ F₁₈ N₁₈ M₁₈ G₁₈ hq48_
  refine ex0_2 (hq48_) ?_
  clear hq48_
  intro hq49_ hm18
  obtain rfl := hq49_
  rw [hm18] at F₁₈
  have T₁₈ := T₁₇.same G₁₈
  have O₁₈ := M₁₈.os.trans O₁₇
  have R₁₈ := R₁₇.movesL F₁₇ M₁₈
  have S₁₈ := M₁₈.heap _ _ hSL S₁₇
  clear hm18 m18 F₁₇ N₁₈ M₁₈ G₁₈ T₁₇ O₁₇ R₁₇ S₁₇
  refine ⟨X.keeps F₁₈.keep, ?_⟩
  refine wpAny_mono (law_even2 (W'.keeps F₁₈.keep) S₁₈ R₁₈ (baseL_even ha1 hb1 ht0) (by lia) rfl (Nat.le_of_ble_eq_true rfl) (Nat.le_of_ble_eq_true rfl)) (fun v s₁₉ hr => ?_) fun _ _ x => x
  refine ex0_3 (hr) ?_
  clear hr
  intro hq50_ M₁₉ G₁₉
  obtain rfl := hq50_
  have F₁₉ := Fr.moves0 F₁₈ M₁₉
  have T₁₉ := T₁₈.same G₁₉
  have O₁₉ := M₁₉.os.trans O₁₈
  clear F₁₈ T₁₈ O₁₈ R₁₈ S₁₈ M₁₉ G₁₉
  (repeat' ((with_reducible show wpAny _ _ _ _ _ _); (fail_if_success (with_reducible show wpAny _ _ (spliced _) _ _ _)); (first | (first | ((with_reducible show wpAny _ _ (eval (.Name _ _) _) _ _ _); (refine' nameX_L ?zf ?zv ?_; (case zf => assumption); (case zv => (repeat' first | assumption | exact if_pos rfl | refine (if_neg (by decide)).trans ?_)))) | ((with_reducible show wpAny _ _ (binaryOp .FloorDiv (.int _ _) (.int _ _)) _ _ _); refine floordiv_int (by first | lia | omega) ?_ (Or.inl (PyProof.noPylong_small (by first | lia | omega)))) | walk1) | (dsimp only; walk1))))
  rw [if_neg (show ¬ (!true) = true from Bool.false_ne_true)]
  (repeat' ((with_reducible show wpAny _ _ _ _ _ _); (fail_if_success (with_reducible show wpAny _ _ (spliced _) _ _ _)); (first | (first | ((with_reducible show wpAny _ _ (eval (.Name _ _) _) _ _ _); (refine' nameX_L ?zf ?zv ?_; (case zf => assumption); (case zv => (repeat' first | assumption | exact if_pos rfl | refine (if_neg (by decide)).trans ?_)))) | ((with_reducible show wpAny _ _ (binaryOp .FloorDiv (.int _ _) (.int _ _)) _ _ _); refine floordiv_int (by first | lia | omega) ?_ (Or.inl (PyProof.noPylong_small (by first | lia | omega)))) | walk1) | (dsimp only; walk1))))
  refine wp_trip (dp := 320) (un := 400) (m := m₁₁) (extra := []) (Φ := fun vs m' _ => (∃ u, vs = [.int a ta, .int b tb, .int (-1 - tot) u]) ∧ m' = m₁₁) ?_ F₁₉ News.nil rfl (Nat.le_of_ble_eq_true rfl) (Nat.le_of_ble_eq_true rfl) ?_
  --[
  · clear F₁₉
    intro s' hg F' N' N
    refine hideQ fun Q0 hQ0 => ?_
    (repeat' (first | (with_reducible show wpAny _ _ _ _ _ _); (fail_if_success (first | (with_reducible show wpAny _ _ (exec (Stmt.While _ _ _ _) _) _ _ _) | (with_reducible show wpAny _ _ (exec (Stmt.For _ _ _ _ _) _) _ _ _) | (with_reducible show wpAny _ _ (call (Value.ref _) _ _) _ _ _))); (first | (first | ((with_reducible show wpAny _ _ (eval (.Name _ _) _) _ _ _); (refine' nameX_L ?zf ?zv ?_; (case zf => assumption); (case zv => (repeat' first | assumption | exact if_pos rfl | refine (if_neg (by decide)).trans ?_)))) | ((with_reducible show wpAny _ _ (binaryOp .FloorDiv (.int _ _) (.int _ _)) _ _ _); refine floordiv_int (by first | lia | omega) ?_ (Or.inl (PyProof.noPylong_small (by first | lia | omega)))) | walk1) | (dsimp only; walk1)) | (with_reducible show ite _ _ _); split; all_goals (try (rename_i hq; exfalso; simp only [decide_eq_true_eq, Bool.not_eq_true, decide_eq_false_iff_not, beq_iff_eq, bne_iff_ne, beq_eq_false_iff_ne, bne_eq_false_iff_eq, ne_eq, Bool.false_eq_true, not_true_eq_false, not_false_eq_true] at hq <;> first | lia | omega))))
    exact hQ0 _ _ ⟨⟨hg, by first | rfl | trivial⟩, _, F', N, ⟨_, rfl⟩, rfl⟩
  --]
  intro vs20 m20 s₂₀ F₂₀ N₂₀ M₂₀ G₂₀ hq51_
  refine ex0_2 (hq51_) ?_
  clear hq51_
  intro hq52_ hm20
  refine ex1_1 (hq52_) ?_
  clear hq52_
  intro u hq53_
  obtain rfl := hq53_
  rw [hm20] at F₂₀
  have T₂₀ := T₁₉.same G₂₀
  have O₂₀ := M₂₀.os.trans O₁₉
  clear hm20 m20 F₁₉ N₂₀ M₂₀ G₂₀ T₁₉ O₁₉
  refine ⟨X.keeps F₂₀.keep, ?_⟩
  have hSb₂ : ∀ b o, s.heap.get? b = some o → (hide s₂₀.heap [L]).get? b = some o := fun b o e => hide_of (F₂₀.keep b o e) fun q => offb b o e (List.mem_singleton.mp q)
  refine wpAny_mono (law_two_none (base := hide s₂₀.heap [L]) (W'.keeps hSb₂) (hide_stays _ _) (Nat.le_of_eq (hide_size _ _)) (Around.frames_deeper rfl) (Heap.FunFrames.cons (show ScopeKind.function ≠ ScopeKind.module by decide) rfl F₂₀.ns (hide_none (.head _)) trivial) (.inr (.inr (by lia))) (by lia) (by lia) (by lia) rfl (Nat.le_of_ble_eq_true rfl) (Nat.le_of_ble_eq_true rfl)) (fun v s₂₁ hr => ?_) fun _ _ x => x
  refine ex0_2 (hr) ?_
  clear hr
  intro hq54_ hR
  obtain rfl := hq54_
  have F₂₁ : Fr s.heap L s₂₁.heap m₁₁ := ⟨hR.slots.ns F₂₀.ns, fun b o e => hR.stays b o (hSb₂ b o e), F₂₀.above⟩
  have T₂₁ := T₂₀.trans hR.tidy
  have O₂₁ := hR.os.trans O₂₀
  clear hR F₂₀ T₂₀ O₂₀ hSb₂
  (repeat' ((with_reducible show wpAny _ _ _ _ _ _); (fail_if_success (with_reducible show wpAny _ _ (spliced _) _ _ _)); (first | (first | ((with_reducible show wpAny _ _ (eval (.Name _ _) _) _ _ _); (refine' nameX_L ?zf ?zv ?_; (case zf => assumption); (case zv => (repeat' first | assumption | exact if_pos rfl | refine (if_neg (by decide)).trans ?_)))) | ((with_reducible show wpAny _ _ (binaryOp .FloorDiv (.int _ _) (.int _ _)) _ _ _); refine floordiv_int (by first | lia | omega) ?_ (Or.inl (PyProof.noPylong_small (by first | lia | omega)))) | walk1) | (dsimp only; walk1))))
  rw [if_neg Bool.false_ne_true]
  (repeat' ((with_reducible show wpAny _ _ _ _ _ _); (fail_if_success (with_reducible show wpAny _ _ (spliced _) _ _ _)); (first | (first | ((with_reducible show wpAny _ _ (eval (.Name _ _) _) _ _ _); (refine' nameX_L ?zf ?zv ?_; (case zf => assumption); (case zv => (repeat' first | assumption | exact if_pos rfl | refine (if_neg (by decide)).trans ?_)))) | ((with_reducible show wpAny _ _ (binaryOp .FloorDiv (.int _ _) (.int _ _)) _ _ _); refine floordiv_int (by first | lia | omega) ?_ (Or.inl (PyProof.noPylong_small (by first | lia | omega)))) | walk1) | (dsimp only; walk1))))
  rw [if_neg Bool.false_ne_true]
  refine wpAny_execs_nil ?_
  dsimp only
  refine wpAny_execs_nil ?_
  dsimp only
  refine wpAny_execs_nil ?_
  exact ⟨rfl, m₁₁, F₂₁, hsc, hfi, T₂₁, O₂₁⟩

end Mine
set_option maxHeartbeats 4000000 in
theorem PySem.Challenge.cw_jf0027_01_holds : PySem.Challenge.rw_jf0027_01.Holds := by
  refine Mine.hd ?_
  k_fill
  intro w s₀ s₁ mg mb G Y fa o pm cd doc dV kV ho hd hcd hD hmg hg args vals as hpre hlay hrd hwl hlo
  have KX := kIn_of Y
  clear Y
  refine Ground.open G ?_
  intro T B D TE TW
  clear D B TE TW
  have e80 : mg (Str.ofString "law") = some (.ref 80) := mg_of KX T.g (by k_is)
  have hfa : fa = 80 := by
    have := hmg.symm.trans e80
    cases this; rfl
  clear ho hd hcd hD hmg
  subst hfa
  have W : Mine.Wd w s₁.heap := ⟨KX, _, _, _, _, _, T⟩
  wrow_args hpre hlay hrd hwl hlo
  rename Heap.IsList _ _ _ => hL
  rename IntsAre _ _ => hI
  rename ¬ _ < _ => hc
  refine wpAny_mono (Mine.law_ok W hL hI (by (first | lia | omega))) (fun v s' hq => ?_) fun _ _ x => x.elim
  obtain ⟨rfl, st, td, hos⟩ := hq
  have hns : Mine.noSusp s'.gens := by
    intro x hx
    obtain ⟨i, hi, rfl⟩ := Array.mem_iff_getElem.mp hx
    have e : s'.gens[i]? = some s'.gens[i] := Array.getElem?_eq_getElem hi
    generalize s'.gens[i] = x at e
    cases x with
    | suspended k l c p fs cl =>
      rcases td i _ e trivial with ⟨q, _⟩ | q
      · rw [hg] at q; simp at q
      · exact q.elim
    | _ => trivial
  refine ⟨⟨.inl ⟨.bool true, .bool true, [], rfl, fun cls => ?_, .bool true, ?_, fun _ => ⟨List.nodup_nil, fun a h => by cases h⟩⟩, .of_keep st, hos, fun y hy => ?_⟩, hns⟩
  · rfl
  · refine postW_of (X := true) ?_ ?_ rfl
    · first | rfl | (with_unfolding_all rfl) | decide
    · first | rfl | (with_unfolding_all rfl) | skip
  · have := hns y hy
    cases y with
    | suspended k l c p fs cl => exact this.elim
    | _ => rfl
