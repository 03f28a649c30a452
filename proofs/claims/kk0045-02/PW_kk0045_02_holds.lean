import PyProof.Rows.All
import Wide.All
import OpenK.AllK
import Wide.FinOn
import PySem.Challenge.RW_kk0045_02
open PySem PySem.W PyProof.Rows PySem.Spec PySem.Calls
set_option Elab.async false
set_option linter.all false
set_option maxRecDepth 100000
set_option genSizeOf false
theorem Kk.nos {α : Type _} {a : α} {P : Prop} (h : none = some a) : P := nomatch h
theorem Kk.sno {α : Type _} {a : α} {P : Prop} (h : some a = none) : P := nomatch h
local macro_rules | `(tactic| k_call_by "c" $t) => `(tactic| first | exact Kk.nos $t | exact Kk.sno $t | induction ($t) | cases ($t))
section
namespace Kk
theorem exG0_2 {p0 p1 G : Prop} (h : p0 ∧ p1) (k : p0 → p1 → G) : G := k h.1 h.2
theorem exG0_3 {p0 p1 p2 G : Prop} (h : p0 ∧ p1 ∧ p2) (k : p0 → p1 → p2 → G) : G := k h.1 h.2.1 h.2.2
theorem exG0_4 {p0 p1 p2 p3 G : Prop} (h : p0 ∧ p1 ∧ p2 ∧ p3) (k : p0 → p1 → p2 → p3 → G) : G := k h.1 h.2.1 h.2.2.1 h.2.2.2
theorem exG0_5 {p0 p1 p2 p3 p4 G : Prop} (h : p0 ∧ p1 ∧ p2 ∧ p3 ∧ p4) (k : p0 → p1 → p2 → p3 → p4 → G) : G := k h.1 h.2.1 h.2.2.1 h.2.2.2.1 h.2.2.2.2
theorem exG0_6 {p0 p1 p2 p3 p4 p5 G : Prop} (h : p0 ∧ p1 ∧ p2 ∧ p3 ∧ p4 ∧ p5) (k : p0 → p1 → p2 → p3 → p4 → p5 → G) : G := k h.1 h.2.1 h.2.2.1 h.2.2.2.1 h.2.2.2.2.1 h.2.2.2.2.2
theorem exG0_7 {p0 p1 p2 p3 p4 p5 p6 G : Prop} (h : p0 ∧ p1 ∧ p2 ∧ p3 ∧ p4 ∧ p5 ∧ p6) (k : p0 → p1 → p2 → p3 → p4 → p5 → p6 → G) : G := k h.1 h.2.1 h.2.2.1 h.2.2.2.1 h.2.2.2.2.1 h.2.2.2.2.2.1 h.2.2.2.2.2.2
theorem exG1_1 {α0 : Sort _} {p0 : α0 → Prop} {G : Prop} (h : ∃ x0, p0 x0) (k : ∀ x0, p0 x0 → G) : G := h.elim fun x0 h => k x0 h
theorem exG1_2 {α0 : Sort _} {p0 p1 : α0 → Prop} {G : Prop} (h : ∃ x0, p0 x0 ∧ p1 x0) (k : ∀ x0, p0 x0 → p1 x0 → G) : G := h.elim fun x0 h => k x0 h.1 h.2
theorem exG1_3 {α0 : Sort _} {p0 p1 p2 : α0 → Prop} {G : Prop} (h : ∃ x0, p0 x0 ∧ p1 x0 ∧ p2 x0) (k : ∀ x0, p0 x0 → p1 x0 → p2 x0 → G) : G := h.elim fun x0 h => k x0 h.1 h.2.1 h.2.2
theorem exG1_4 {α0 : Sort _} {p0 p1 p2 p3 : α0 → Prop} {G : Prop} (h : ∃ x0, p0 x0 ∧ p1 x0 ∧ p2 x0 ∧ p3 x0) (k : ∀ x0, p0 x0 → p1 x0 → p2 x0 → p3 x0 → G) : G := h.elim fun x0 h => k x0 h.1 h.2.1 h.2.2.1 h.2.2.2
theorem exG1_5 {α0 : Sort _} {p0 p1 p2 p3 p4 : α0 → Prop} {G : Prop} (h : ∃ x0, p0 x0 ∧ p1 x0 ∧ p2 x0 ∧ p3 x0 ∧ p4 x0) (k : ∀ x0, p0 x0 → p1 x0 → p2 x0 → p3 x0 → p4 x0 → G) : G := h.elim fun x0 h => k x0 h.1 h.2.1 h.2.2.1 h.2.2.2.1 h.2.2.2.2
theorem exG1_8 {α0 : Sort _} {p0 p1 p2 p3 p4 p5 p6 p7 : α0 → Prop} {G : Prop} (h : ∃ x0, p0 x0 ∧ p1 x0 ∧ p2 x0 ∧ p3 x0 ∧ p4 x0 ∧ p5 x0 ∧ p6 x0 ∧ p7 x0) (k : ∀ x0, p0 x0 → p1 x0 → p2 x0 → p3 x0 → p4 x0 → p5 x0 → p6 x0 → p7 x0 → G) : G := h.elim fun x0 h => k x0 h.1 h.2.1 h.2.2.1 h.2.2.2.1 h.2.2.2.2.1 h.2.2.2.2.2.1 h.2.2.2.2.2.2.1 h.2.2.2.2.2.2.2
theorem exG1_9 {α0 : Sort _} {p0 p1 p2 p3 p4 p5 p6 p7 p8 : α0 → Prop} {G : Prop} (h : ∃ x0, p0 x0 ∧ p1 x0 ∧ p2 x0 ∧ p3 x0 ∧ p4 x0 ∧ p5 x0 ∧ p6 x0 ∧ p7 x0 ∧ p8 x0) (k : ∀ x0, p0 x0 → p1 x0 → p2 x0 → p3 x0 → p4 x0 → p5 x0 → p6 x0 → p7 x0 → p8 x0 → G) : G := h.elim fun x0 h => k x0 h.1 h.2.1 h.2.2.1 h.2.2.2.1 h.2.2.2.2.1 h.2.2.2.2.2.1 h.2.2.2.2.2.2.1 h.2.2.2.2.2.2.2.1 h.2.2.2.2.2.2.2.2
theorem exG2_1 {α0 α1 : Sort _} {p0 : α0 → α1 → Prop} {G : Prop} (h : ∃ x0 x1, p0 x0 x1) (k : ∀ x0 x1, p0 x0 x1 → G) : G := h.elim fun x0 h => h.elim fun x1 h => k x0 x1 h
theorem exG2_2 {α0 α1 : Sort _} {p0 p1 : α0 → α1 → Prop} {G : Prop} (h : ∃ x0 x1, p0 x0 x1 ∧ p1 x0 x1) (k : ∀ x0 x1, p0 x0 x1 → p1 x0 x1 → G) : G := h.elim fun x0 h => h.elim fun x1 h => k x0 x1 h.1 h.2
theorem exG2_3 {α0 α1 : Sort _} {p0 p1 p2 : α0 → α1 → Prop} {G : Prop} (h : ∃ x0 x1, p0 x0 x1 ∧ p1 x0 x1 ∧ p2 x0 x1) (k : ∀ x0 x1, p0 x0 x1 → p1 x0 x1 → p2 x0 x1 → G) : G := h.elim fun x0 h => h.elim fun x1 h => k x0 x1 h.1 h.2.1 h.2.2
theorem exG2_4 {α0 α1 : Sort _} {p0 p1 p2 p3 : α0 → α1 → Prop} {G : Prop} (h : ∃ x0 x1, p0 x0 x1 ∧ p1 x0 x1 ∧ p2 x0 x1 ∧ p3 x0 x1) (k : ∀ x0 x1, p0 x0 x1 → p1 x0 x1 → p2 x0 x1 → p3 x0 x1 → G) : G := h.elim fun x0 h => h.elim fun x1 h => k x0 x1 h.1 h.2.1 h.2.2.1 h.2.2.2
theorem exG2_5 {α0 α1 : Sort _} {p0 p1 p2 p3 p4 : α0 → α1 → Prop} {G : Prop} (h : ∃ x0 x1, p0 x0 x1 ∧ p1 x0 x1 ∧ p2 x0 x1 ∧ p3 x0 x1 ∧ p4 x0 x1) (k : ∀ x0 x1, p0 x0 x1 → p1 x0 x1 → p2 x0 x1 → p3 x0 x1 → p4 x0 x1 → G) : G := h.elim fun x0 h => h.elim fun x1 h => k x0 x1 h.1 h.2.1 h.2.2.1 h.2.2.2.1 h.2.2.2.2
theorem exG2_6 {α0 α1 : Sort _} {p0 p1 p2 p3 p4 p5 : α0 → α1 → Prop} {G : Prop} (h : ∃ x0 x1, p0 x0 x1 ∧ p1 x0 x1 ∧ p2 x0 x1 ∧ p3 x0 x1 ∧ p4 x0 x1 ∧ p5 x0 x1) (k : ∀ x0 x1, p0 x0 x1 → p1 x0 x1 → p2 x0 x1 → p3 x0 x1 → p4 x0 x1 → p5 x0 x1 → G) : G := h.elim fun x0 h => h.elim fun x1 h => k x0 x1 h.1 h.2.1 h.2.2.1 h.2.2.2.1 h.2.2.2.2.1 h.2.2.2.2.2
theorem exG2_8 {α0 α1 : Sort _} {p0 p1 p2 p3 p4 p5 p6 p7 : α0 → α1 → Prop} {G : Prop} (h : ∃ x0 x1, p0 x0 x1 ∧ p1 x0 x1 ∧ p2 x0 x1 ∧ p3 x0 x1 ∧ p4 x0 x1 ∧ p5 x0 x1 ∧ p6 x0 x1 ∧ p7 x0 x1) (k : ∀ x0 x1, p0 x0 x1 → p1 x0 x1 → p2 x0 x1 → p3 x0 x1 → p4 x0 x1 → p5 x0 x1 → p6 x0 x1 → p7 x0 x1 → G) : G := h.elim fun x0 h => h.elim fun x1 h => k x0 x1 h.1 h.2.1 h.2.2.1 h.2.2.2.1 h.2.2.2.2.1 h.2.2.2.2.2.1 h.2.2.2.2.2.2.1 h.2.2.2.2.2.2.2
theorem exG2_13 {α0 α1 : Sort _} {p0 p1 p2 p3 p4 p5 p6 p7 p8 p9 p10 p11 p12 : α0 → α1 → Prop} {G : Prop} (h : ∃ x0 x1, p0 x0 x1 ∧ p1 x0 x1 ∧ p2 x0 x1 ∧ p3 x0 x1 ∧ p4 x0 x1 ∧ p5 x0 x1 ∧ p6 x0 x1 ∧ p7 x0 x1 ∧ p8 x0 x1 ∧ p9 x0 x1 ∧ p10 x0 x1 ∧ p11 x0 x1 ∧ p12 x0 x1) (k : ∀ x0 x1, p0 x0 x1 → p1 x0 x1 → p2 x0 x1 → p3 x0 x1 → p4 x0 x1 → p5 x0 x1 → p6 x0 x1 → p7 x0 x1 → p8 x0 x1 → p9 x0 x1 → p10 x0 x1 → p11 x0 x1 → p12 x0 x1 → G) : G := h.elim fun x0 h => h.elim fun x1 h => k x0 x1 h.1 h.2.1 h.2.2.1 h.2.2.2.1 h.2.2.2.2.1 h.2.2.2.2.2.1 h.2.2.2.2.2.2.1 h.2.2.2.2.2.2.2.1 h.2.2.2.2.2.2.2.2.1 h.2.2.2.2.2.2.2.2.2.1 h.2.2.2.2.2.2.2.2.2.2.1 h.2.2.2.2.2.2.2.2.2.2.2.1 h.2.2.2.2.2.2.2.2.2.2.2.2
theorem exG3_2 {α0 α1 α2 : Sort _} {p0 p1 : α0 → α1 → α2 → Prop} {G : Prop} (h : ∃ x0 x1 x2, p0 x0 x1 x2 ∧ p1 x0 x1 x2) (k : ∀ x0 x1 x2, p0 x0 x1 x2 → p1 x0 x1 x2 → G) : G := h.elim fun x0 h => h.elim fun x1 h => h.elim fun x2 h => k x0 x1 x2 h.1 h.2
theorem exG3_3 {α0 α1 α2 : Sort _} {p0 p1 p2 : α0 → α1 → α2 → Prop} {G : Prop} (h : ∃ x0 x1 x2, p0 x0 x1 x2 ∧ p1 x0 x1 x2 ∧ p2 x0 x1 x2) (k : ∀ x0 x1 x2, p0 x0 x1 x2 → p1 x0 x1 x2 → p2 x0 x1 x2 → G) : G := h.elim fun x0 h => h.elim fun x1 h => h.elim fun x2 h => k x0 x1 x2 h.1 h.2.1 h.2.2
theorem exG3_4 {α0 α1 α2 : Sort _} {p0 p1 p2 p3 : α0 → α1 → α2 → Prop} {G : Prop} (h : ∃ x0 x1 x2, p0 x0 x1 x2 ∧ p1 x0 x1 x2 ∧ p2 x0 x1 x2 ∧ p3 x0 x1 x2) (k : ∀ x0 x1 x2, p0 x0 x1 x2 → p1 x0 x1 x2 → p2 x0 x1 x2 → p3 x0 x1 x2 → G) : G := h.elim fun x0 h => h.elim fun x1 h => h.elim fun x2 h => k x0 x1 x2 h.1 h.2.1 h.2.2.1 h.2.2.2
theorem exG3_5 {α0 α1 α2 : Sort _} {p0 p1 p2 p3 p4 : α0 → α1 → α2 → Prop} {G : Prop} (h : ∃ x0 x1 x2, p0 x0 x1 x2 ∧ p1 x0 x1 x2 ∧ p2 x0 x1 x2 ∧ p3 x0 x1 x2 ∧ p4 x0 x1 x2) (k : ∀ x0 x1 x2, p0 x0 x1 x2 → p1 x0 x1 x2 → p2 x0 x1 x2 → p3 x0 x1 x2 → p4 x0 x1 x2 → G) : G := h.elim fun x0 h => h.elim fun x1 h => h.elim fun x2 h => k x0 x1 x2 h.1 h.2.1 h.2.2.1 h.2.2.2.1 h.2.2.2.2
theorem exG3_6 {α0 α1 α2 : Sort _} {p0 p1 p2 p3 p4 p5 : α0 → α1 → α2 → Prop} {G : Prop} (h : ∃ x0 x1 x2, p0 x0 x1 x2 ∧ p1 x0 x1 x2 ∧ p2 x0 x1 x2 ∧ p3 x0 x1 x2 ∧ p4 x0 x1 x2 ∧ p5 x0 x1 x2) (k : ∀ x0 x1 x2, p0 x0 x1 x2 → p1 x0 x1 x2 → p2 x0 x1 x2 → p3 x0 x1 x2 → p4 x0 x1 x2 → p5 x0 x1 x2 → G) : G := h.elim fun x0 h => h.elim fun x1 h => h.elim fun x2 h => k x0 x1 x2 h.1 h.2.1 h.2.2.1 h.2.2.2.1 h.2.2.2.2.1 h.2.2.2.2.2
theorem exG3_7 {α0 α1 α2 : Sort _} {p0 p1 p2 p3 p4 p5 p6 : α0 → α1 → α2 → Prop} {G : Prop} (h : ∃ x0 x1 x2, p0 x0 x1 x2 ∧ p1 x0 x1 x2 ∧ p2 x0 x1 x2 ∧ p3 x0 x1 x2 ∧ p4 x0 x1 x2 ∧ p5 x0 x1 x2 ∧ p6 x0 x1 x2) (k : ∀ x0 x1 x2, p0 x0 x1 x2 → p1 x0 x1 x2 → p2 x0 x1 x2 → p3 x0 x1 x2 → p4 x0 x1 x2 → p5 x0 x1 x2 → p6 x0 x1 x2 → G) : G := h.elim fun x0 h => h.elim fun x1 h => h.elim fun x2 h => k x0 x1 x2 h.1 h.2.1 h.2.2.1 h.2.2.2.1 h.2.2.2.2.1 h.2.2.2.2.2.1 h.2.2.2.2.2.2
theorem exG3_8 {α0 α1 α2 : Sort _} {p0 p1 p2 p3 p4 p5 p6 p7 : α0 → α1 → α2 → Prop} {G : Prop} (h : ∃ x0 x1 x2, p0 x0 x1 x2 ∧ p1 x0 x1 x2 ∧ p2 x0 x1 x2 ∧ p3 x0 x1 x2 ∧ p4 x0 x1 x2 ∧ p5 x0 x1 x2 ∧ p6 x0 x1 x2 ∧ p7 x0 x1 x2) (k : ∀ x0 x1 x2, p0 x0 x1 x2 → p1 x0 x1 x2 → p2 x0 x1 x2 → p3 x0 x1 x2 → p4 x0 x1 x2 → p5 x0 x1 x2 → p6 x0 x1 x2 → p7 x0 x1 x2 → G) : G := h.elim fun x0 h => h.elim fun x1 h => h.elim fun x2 h => k x0 x1 x2 h.1 h.2.1 h.2.2.1 h.2.2.2.1 h.2.2.2.2.1 h.2.2.2.2.2.1 h.2.2.2.2.2.2.1 h.2.2.2.2.2.2.2
theorem exG4_4 {α0 α1 α2 α3 : Sort _} {p0 p1 p2 p3 : α0 → α1 → α2 → α3 → Prop} {G : Prop} (h : ∃ x0 x1 x2 x3, p0 x0 x1 x2 x3 ∧ p1 x0 x1 x2 x3 ∧ p2 x0 x1 x2 x3 ∧ p3 x0 x1 x2 x3) (k : ∀ x0 x1 x2 x3, p0 x0 x1 x2 x3 → p1 x0 x1 x2 x3 → p2 x0 x1 x2 x3 → p3 x0 x1 x2 x3 → G) : G := h.elim fun x0 h => h.elim fun x1 h => h.elim fun x2 h => h.elim fun x3 h => k x0 x1 x2 x3 h.1 h.2.1 h.2.2.1 h.2.2.2
theorem exG5_4 {α0 α1 α2 α3 α4 : Sort _} {p0 p1 p2 p3 : α0 → α1 → α2 → α3 → α4 → Prop} {G : Prop} (h : ∃ x0 x1 x2 x3 x4, p0 x0 x1 x2 x3 x4 ∧ p1 x0 x1 x2 x3 x4 ∧ p2 x0 x1 x2 x3 x4 ∧ p3 x0 x1 x2 x3 x4) (k : ∀ x0 x1 x2 x3 x4, p0 x0 x1 x2 x3 x4 → p1 x0 x1 x2 x3 x4 → p2 x0 x1 x2 x3 x4 → p3 x0 x1 x2 x3 x4 → G) : G := h.elim fun x0 h => h.elim fun x1 h => h.elim fun x2 h => h.elim fun x3 h => h.elim fun x4 h => k x0 x1 x2 x3 x4 h.1 h.2.1 h.2.2.1 h.2.2.2
theorem exG5_7 {α0 α1 α2 α3 α4 : Sort _} {p0 p1 p2 p3 p4 p5 p6 : α0 → α1 → α2 → α3 → α4 → Prop} {G : Prop} (h : ∃ x0 x1 x2 x3 x4, p0 x0 x1 x2 x3 x4 ∧ p1 x0 x1 x2 x3 x4 ∧ p2 x0 x1 x2 x3 x4 ∧ p3 x0 x1 x2 x3 x4 ∧ p4 x0 x1 x2 x3 x4 ∧ p5 x0 x1 x2 x3 x4 ∧ p6 x0 x1 x2 x3 x4) (k : ∀ x0 x1 x2 x3 x4, p0 x0 x1 x2 x3 x4 → p1 x0 x1 x2 x3 x4 → p2 x0 x1 x2 x3 x4 → p3 x0 x1 x2 x3 x4 → p4 x0 x1 x2 x3 x4 → p5 x0 x1 x2 x3 x4 → p6 x0 x1 x2 x3 x4 → G) : G := h.elim fun x0 h => h.elim fun x1 h => h.elim fun x2 h => h.elim fun x3 h => h.elim fun x4 h => k x0 x1 x2 x3 x4 h.1 h.2.1 h.2.2.1 h.2.2.2.1 h.2.2.2.2.1 h.2.2.2.2.2.1 h.2.2.2.2.2.2
theorem exG5_8 {α0 α1 α2 α3 α4 : Sort _} {p0 p1 p2 p3 p4 p5 p6 p7 : α0 → α1 → α2 → α3 → α4 → Prop} {G : Prop} (h : ∃ x0 x1 x2 x3 x4, p0 x0 x1 x2 x3 x4 ∧ p1 x0 x1 x2 x3 x4 ∧ p2 x0 x1 x2 x3 x4 ∧ p3 x0 x1 x2 x3 x4 ∧ p4 x0 x1 x2 x3 x4 ∧ p5 x0 x1 x2 x3 x4 ∧ p6 x0 x1 x2 x3 x4 ∧ p7 x0 x1 x2 x3 x4) (k : ∀ x0 x1 x2 x3 x4, p0 x0 x1 x2 x3 x4 → p1 x0 x1 x2 x3 x4 → p2 x0 x1 x2 x3 x4 → p3 x0 x1 x2 x3 x4 → p4 x0 x1 x2 x3 x4 → p5 x0 x1 x2 x3 x4 → p6 x0 x1 x2 x3 x4 → p7 x0 x1 x2 x3 x4 → G) : G := h.elim fun x0 h => h.elim fun x1 h => h.elim fun x2 h => h.elim fun x3 h => h.elim fun x4 h => k x0 x1 x2 x3 x4 h.1 h.2.1 h.2.2.1 h.2.2.2.1 h.2.2.2.2.1 h.2.2.2.2.2.1 h.2.2.2.2.2.2.1 h.2.2.2.2.2.2.2
theorem exG9_3 {α0 α1 α2 α3 α4 α5 α6 α7 α8 : Sort _} {p0 p1 p2 : α0 → α1 → α2 → α3 → α4 → α5 → α6 → α7 → α8 → Prop} {G : Prop} (h : ∃ x0 x1 x2 x3 x4 x5 x6 x7 x8, p0 x0 x1 x2 x3 x4 x5 x6 x7 x8 ∧ p1 x0 x1 x2 x3 x4 x5 x6 x7 x8 ∧ p2 x0 x1 x2 x3 x4 x5 x6 x7 x8) (k : ∀ x0 x1 x2 x3 x4 x5 x6 x7 x8, p0 x0 x1 x2 x3 x4 x5 x6 x7 x8 → p1 x0 x1 x2 x3 x4 x5 x6 x7 x8 → p2 x0 x1 x2 x3 x4 x5 x6 x7 x8 → G) : G := h.elim fun x0 h => h.elim fun x1 h => h.elim fun x2 h => h.elim fun x3 h => h.elim fun x4 h => h.elim fun x5 h => h.elim fun x6 h => h.elim fun x7 h => h.elim fun x8 h => k x0 x1 x2 x3 x4 x5 x6 x7 x8 h.1 h.2.1 h.2.2
end Kk
end
section
set_option maxHeartbeats 8000000
namespace Kk
noncomputable abbrev PP : Program := PySem.Challenge.rw_kk0045_02.row.toRowW.prog
noncomputable def digS : List Nat → List Stmt → Stmt
 | [], _ => .Pass default
 | i :: r, l => match r with
  | [] => l.getD i (.Pass default)
  | _ :: _ => digS r (match l.getD i (.Pass default) with | .FunctionDef _ _ b _ _ _ _ _ _ _ => b | .ClassDef _ _ _ b _ _ _ _ _ _ _ => b | _ => [])
noncomputable def fs (p : List Nat) : FuncData := match digS p PP.main.body with
 | .FunctionDef n a b _ _ _ s _ _ _ => { name := n, qualname := n, params := a, body := .stmts b, scope := s, globals := 3, closure := [], defaults := .none, kwdefaults := .none }
 | _ => default
noncomputable def kE (P : Params) (s : String) (t : Nat) (v : Value) : DictEntry := { hash := PyData.keyHash P (Str.ofString s), key := .str (Str.ofString s) t, val := v }
noncomputable def vS (s : String) (t : Nat) : Value := .str (Str.ofString s) t
noncomputable def tU (a : Array Value) : Obj := { cls := .type "tuple", data := .seq a }
noncomputable def cO (a : Array Value) : Obj := { cls := .type "code", data := .fields a }
noncomputable def fU (f : FuncData) : Obj := { cls := .type "function", data := .func f }
noncomputable def HK (P : Params) : Frag := (nat_lit 2, { cls := .none, data := .dict #[kE P "type.__subclasses__.Exception.0" 212 (.int 31 0), kE P "type.__subclasses__.Exception.n" 213 (.int 1 0)] 2 }) ::
(nat_lit 3, { cls := .type "dict", data := .dict #[kE P "__name__" 165 (vS "law_kk0045_02" 522), kE P "__doc__" 166 (.none), kE P "__package__" 167 (.none), kE P "__loader__" 168 (.builtin "__main__.__loader__#opaque"), kE P "__spec__" 169 (.none), kE P "__annotations__" 170 (.ref 6), kE P "__builtins__" 171 (.ref 4), kE P "__file__" 173 (vS "/claim/cut.py" 172), kE P "__cached__" 174 (.none), kE P "_wall" 193 (.ref 21), kE P "YaccError" 215 (.ref 31), kE P "Production" 306 (.ref 81), kE P "rightmost_terminal" 315 (.ref 92), kE P "GrammarError" 331 (.ref 102), kE P "Grammar" 520 (.ref 227), kE P "_name_aliases" 521 (.ref 232), kE P "_law_rows" 529 (.ref 237), kE P "law" 535 (.ref 242)] 18 }) ::
(nat_lit 15, tU #[]) ::
(nat_lit 17, tU #[vS "k" 190]) ::
(nat_lit 18, tU #[]) ::
(nat_lit 20, cO #[vS "_wall" 187, vS "_wall" 188, vS "/claim/cut.py" 189, .int 1 0, .int 1 0, .int 0 0, .int 0 0, .int 3 0, .ref 15, .bool true, .int 181 0, .ref 16, .none, .ref 17, .ref 18, .ref 19, .int 191 0, .int 1 0, vS "/claim/cut.py" 192]) ::
(nat_lit 21, fU ({ fs [0] with qualname := "_wall", globals := 3, closure := [], defaults := .none, kwdefaults := .none, pyModule := vS "__main__" 164, code := .ref 20 })) ::
(nat_lit 22, tU #[.type "Exception"]) ::
(nat_lit 29, tU #[]) ::
(nat_lit 30, { cls := .type "dict", data := .dict #[kE P "__module__" 203 (vS "sly.yacc" 194), kE P "__firstlineno__" 207 (.int 5 206), kE P "__static_attributes__" 208 (.ref 29), kE P "__weakref__" 210 (.ref 32), kE P "__doc__" 211 (.none)] 3 }) ::
(nat_lit 31, { cls := .type "type", data := .cls { name := Str.ofString "YaccError", bases := [.type "Exception"], mro := [.ref 31, .type "Exception", .type "BaseException", .type "object"], ns := 30, qualname := Str.ofString "YaccError", subclasses := [.ref 102] }, slots := #[some (.ref 22), none, some (vS "YaccError" 196), some (vS "YaccError" 204), some (.builtin "Exception.__new__"), some (.bool true)] }) ::
(nat_lit 32, { cls := .type "getset_descriptor", data := .fields #[vS "__weakref__" 209, .ref 31, .builtin "ExceptionGroup.__weakref__", .none] }) ::
(nat_lit 35, tU #[.type "object"]) ::
(nat_lit 42, tU #[vS "right" 230, .int 0 231]) ::
(nat_lit 43, tU #[.ref 42, .none, vS "" 232, .int 0 233]) ::
(nat_lit 44, tU #[]) ::
(nat_lit 46, tU #[vS "self" 237, vS "number" 238, vS "name" 239, vS "prod" 240, vS "precedence" 241, vS "func" 242, vS "file" 243, vS "line" 244, vS "n" 245, vS "s" 246, vS "namecount" 247, vS "key" 248, vS "nameuse" 249, vS "namemap" 250, vS "index" 251, vS "k" 252, vS "alias" 253]) ::
(nat_lit 47, tU #[]) ::
(nat_lit 49, cO #[vS "__init__" 234, vS "Production.__init__" 235, vS "/claim/cut.py" 236, .int 10 0, .int 8 0, .int 0 0, .int 0 0, .int 3 0, .ref 44, .bool true, .int 181 0, .ref 45, .none, .ref 46, .ref 47, .ref 48, .int 254 0, .int 10 0, vS "/claim/cut.py" 255]) ::
(nat_lit 50, fU ({ fs [3,1] with qualname := "Production.__init__", globals := 3, closure := [], defaults := .ref 43, kwdefaults := .none, pyModule := vS "sly.yacc" 194, code := .ref 49 })) ::
(nat_lit 51, tU #[]) ::
(nat_lit 53, tU #[vS "self" 260, vS "s" 261]) ::
(nat_lit 54, tU #[]) ::
(nat_lit 56, cO #[vS "__str__" 257, vS "Production.__str__" 258, vS "/claim/cut.py" 259, .int 52 0, .int 1 0, .int 0 0, .int 0 0, .int 3 0, .ref 51, .bool true, .int 181 0, .ref 52, .none, .ref 53, .ref 54, .ref 55, .int 262 0, .int 52 0, vS "/claim/cut.py" 263]) ::
(nat_lit 57, fU ({ fs [3,2] with qualname := "Production.__str__", globals := 3, closure := [], defaults := .none, kwdefaults := .none, pyModule := vS "sly.yacc" 194, code := .ref 56 })) ::
(nat_lit 58, tU #[]) ::
(nat_lit 60, tU #[vS "self" 268]) ::
(nat_lit 61, tU #[]) ::
(nat_lit 63, cO #[vS "__repr__" 265, vS "Production.__repr__" 266, vS "/claim/cut.py" 267, .int 61 0, .int 1 0, .int 0 0, .int 0 0, .int 3 0, .ref 58, .bool true, .int 181 0, .ref 59, .none, .ref 60, .ref 61, .ref 62, .int 269 0, .int 61 0, vS "/claim/cut.py" 270]) ::
(nat_lit 64, fU ({ fs [3,3] with qualname := "Production.__repr__", globals := 3, closure := [], defaults := .none, kwdefaults := .none, pyModule := vS "sly.yacc" 194, code := .ref 63 })) ::
(nat_lit 65, tU #[]) ::
(nat_lit 67, tU #[vS "self" 275]) ::
(nat_lit 68, tU #[]) ::
(nat_lit 70, cO #[vS "__len__" 272, vS "Production.__len__" 273, vS "/claim/cut.py" 274, .int 64 0, .int 1 0, .int 0 0, .int 0 0, .int 3 0, .ref 65, .bool true, .int 181 0, .ref 66, .none, .ref 67, .ref 68, .ref 69, .int 276 0, .int 64 0, vS "/claim/cut.py" 277]) ::
(nat_lit 71, fU ({ fs [3,4] with qualname := "Production.__len__", globals := 3, closure := [], defaults := .none, kwdefaults := .none, pyModule := vS "sly.yacc" 194, code := .ref 70 })) ::
(nat_lit 72, tU #[]) ::
(nat_lit 74, tU #[vS "self" 282, vS "index" 283]) ::
(nat_lit 75, tU #[]) ::
(nat_lit 77, cO #[vS "__getitem__" 279, vS "Production.__getitem__" 280, vS "/claim/cut.py" 281, .int 67 0, .int 2 0, .int 0 0, .int 0 0, .int 3 0, .ref 72, .bool true, .int 181 0, .ref 73, .none, .ref 74, .ref 75, .ref 76, .int 284 0, .int 67 0, vS "/claim/cut.py" 285]) ::
(nat_lit 78, fU ({ fs [3,5] with qualname := "Production.__getitem__", globals := 3, closure := [], defaults := .none, kwdefaults := .none, pyModule := vS "sly.yacc" 194, code := .ref 77 })) ::
(nat_lit 79, tU #[vS "file" 287, vS "func" 288, vS "len" 289, vS "line" 290, vS "lr_items" 291, vS "lr_next" 292, vS "name" 293, vS "namemap" 294, vS "number" 295, vS "prec" 296, vS "prod" 297, vS "usyms" 298]) ::
(nat_lit 80, { cls := .type "dict", data := .dict #[kE P "__module__" 223 (vS "sly.yacc" 194), kE P "__firstlineno__" 227 (.int 7 226), kE P "reduced" 229 (.int 0 228), kE P "__init__" 256 (.ref 50), kE P "__str__" 264 (.ref 57), kE P "__repr__" 271 (.ref 64), kE P "__len__" 278 (.ref 71), kE P "__getitem__" 286 (.ref 78), kE P "__static_attributes__" 299 (.ref 79), kE P "__dict__" 301 (.ref 82), kE P "__weakref__" 303 (.ref 83), kE P "__doc__" 304 (.none)] 4 }) ::
(nat_lit 81, { cls := .type "type", data := .cls { name := Str.ofString "Production", bases := [.type "object"], mro := [.ref 81, .type "object"], ns := 80, qualname := Str.ofString "Production" }, slots := #[some (.ref 35), none, some (vS "Production" 216), some (vS "Production" 224), some (.builtin "object.__new__"), some (.bool true)] }) ::
(nat_lit 82, { cls := .type "getset_descriptor", data := .fields #[vS "__dict__" 300, .ref 81, .builtin "function.__dict__", .builtin "function.__dict__#set"] }) ::
(nat_lit 83, { cls := .type "getset_descriptor", data := .fields #[vS "__weakref__" 302, .ref 81, .builtin "ExceptionGroup.__weakref__", .none] }) ::
(nat_lit 86, tU #[]) ::
(nat_lit 88, tU #[vS "symbols" 310, vS "terminals" 311, vS "i" 312]) ::
(nat_lit 89, tU #[]) ::
(nat_lit 91, cO #[vS "rightmost_terminal" 307, vS "rightmost_terminal" 308, vS "/claim/cut.py" 309, .int 69 0, .int 2 0, .int 0 0, .int 0 0, .int 3 0, .ref 86, .bool true, .int 181 0, .ref 87, .none, .ref 88, .ref 89, .ref 90, .int 313 0, .int 69 0, vS "/claim/cut.py" 314]) ::
(nat_lit 92, fU ({ fs [4] with qualname := "rightmost_terminal", globals := 3, closure := [], defaults := .none, kwdefaults := .none, pyModule := vS "sly.yacc" 194, code := .ref 91 })) ::
(nat_lit 93, tU #[.ref 31]) ::
(nat_lit 100, tU #[]) ::
(nat_lit 101, { cls := .type "dict", data := .dict #[kE P "__module__" 323 (vS "sly.yacc" 194), kE P "__firstlineno__" 327 (.int 76 326), kE P "__static_attributes__" 328 (.ref 100), kE P "__doc__" 329 (.none)] 2 }) ::
(nat_lit 102, { cls := .type "type", data := .cls { name := Str.ofString "GrammarError", bases := [.ref 31], mro := [.ref 102, .ref 31, .type "Exception", .type "BaseException", .type "object"], ns := 101, qualname := Str.ofString "GrammarError" }, slots := #[some (.ref 93), none, some (vS "GrammarError" 316), some (vS "GrammarError" 324), some (.builtin "Exception.__new__"), some (.bool true)] }) ::
(nat_lit 105, tU #[.type "object"]) ::
(nat_lit 112, tU #[]) ::
(nat_lit 114, tU #[vS "self" 347, vS "terminals" 348, vS "term" 349]) ::
(nat_lit 115, tU #[]) ::
(nat_lit 117, cO #[vS "__init__" 344, vS "Grammar.__init__" 345, vS "/claim/cut.py" 346, .int 80 0, .int 2 0, .int 0 0, .int 0 0, .int 3 0, .ref 112, .bool true, .int 181 0, .ref 113, .none, .ref 114, .ref 115, .ref 116, .int 350 0, .int 80 0, vS "/claim/cut.py" 351]) ::
(nat_lit 118, fU ({ fs [6,0] with qualname := "Grammar.__init__", globals := 3, closure := [], defaults := .none, kwdefaults := .none, pyModule := vS "sly.yacc" 194, code := .ref 117 })) ::
(nat_lit 119, tU #[]) ::
(nat_lit 121, tU #[vS "self" 356]) ::
(nat_lit 122, tU #[]) ::
(nat_lit 124, cO #[vS "__len__" 353, vS "Grammar.__len__" 354, vS "/claim/cut.py" 355, .int 95 0, .int 1 0, .int 0 0, .int 0 0, .int 3 0, .ref 119, .bool true, .int 181 0, .ref 120, .none, .ref 121, .ref 122, .ref 123, .int 357 0, .int 95 0, vS "/claim/cut.py" 358]) ::
(nat_lit 125, fU ({ fs [6,1] with qualname := "Grammar.__len__", globals := 3, closure := [], defaults := .none, kwdefaults := .none, pyModule := vS "sly.yacc" 194, code := .ref 124 })) ::
(nat_lit 126, tU #[]) ::
(nat_lit 128, tU #[vS "self" 363, vS "index" 364]) ::
(nat_lit 129, tU #[]) ::
(nat_lit 131, cO #[vS "__getitem__" 360, vS "Grammar.__getitem__" 361, vS "/claim/cut.py" 362, .int 98 0, .int 2 0, .int 0 0, .int 0 0, .int 3 0, .ref 126, .bool true, .int 181 0, .ref 127, .none, .ref 128, .ref 129, .ref 130, .int 365 0, .int 98 0, vS "/claim/cut.py" 366]) ::
(nat_lit 132, fU ({ fs [6,2] with qualname := "Grammar.__getitem__", globals := 3, closure := [], defaults := .none, kwdefaults := .none, pyModule := vS "sly.yacc" 194, code := .ref 131 })) ::
(nat_lit 133, tU #[]) ::
(nat_lit 135, tU #[vS "self" 371, vS "term" 372, vS "assoc" 373, vS "level" 374]) ::
(nat_lit 136, tU #[]) ::
(nat_lit 138, cO #[vS "set_precedence" 368, vS "Grammar.set_precedence" 369, vS "/claim/cut.py" 370, .int 101 0, .int 4 0, .int 0 0, .int 0 0, .int 3 0, .ref 133, .bool true, .int 181 0, .ref 134, .none, .ref 135, .ref 136, .ref 137, .int 375 0, .int 101 0, vS "/claim/cut.py" 376]) ::
(nat_lit 139, fU ({ fs [6,3] with qualname := "Grammar.set_precedence", globals := 3, closure := [], defaults := .none, kwdefaults := .none, pyModule := vS "sly.yacc" 194, code := .ref 138 })) ::
(nat_lit 140, tU #[.none, vS "" 378, .int 0 379]) ::
(nat_lit 141, tU #[]) ::
(nat_lit 143, tU #[vS "self" 383, vS "prodname" 384, vS "syms" 385, vS "func" 386, vS "file" 387, vS "line" 388, vS "n" 389, vS "s" 390, vS "c" 391, vS "precname" 392, vS "prodprec" 393, vS "map" 394, vS "m" 395, vS "pnumber" 396, vS "t" 397, vS "p" 398]) ::
(nat_lit 144, tU #[]) ::
(nat_lit 146, cO #[vS "add_production" 380, vS "Grammar.add_production" 381, vS "/claim/cut.py" 382, .int 109 0, .int 6 0, .int 0 0, .int 0 0, .int 3 0, .ref 141, .bool true, .int 181 0, .ref 142, .none, .ref 143, .ref 144, .ref 145, .int 399 0, .int 109 0, vS "/claim/cut.py" 400]) ::
(nat_lit 147, fU ({ fs [6,4] with qualname := "Grammar.add_production", globals := 3, closure := [], defaults := .ref 140, kwdefaults := .none, pyModule := vS "sly.yacc" 194, code := .ref 146 })) ::
(nat_lit 148, tU #[.none]) ::
(nat_lit 149, tU #[]) ::
(nat_lit 151, tU #[vS "self" 405, vS "start" 406]) ::
(nat_lit 152, tU #[]) ::
(nat_lit 154, cO #[vS "set_start" 402, vS "Grammar.set_start" 403, vS "/claim/cut.py" 404, .int 160 0, .int 2 0, .int 0 0, .int 0 0, .int 3 0, .ref 149, .bool true, .int 181 0, .ref 150, .none, .ref 151, .ref 152, .ref 153, .int 407 0, .int 160 0, vS "/claim/cut.py" 408]) ::
(nat_lit 155, fU ({ fs [6,5] with qualname := "Grammar.set_start", globals := 3, closure := [], defaults := .ref 148, kwdefaults := .none, pyModule := vS "sly.yacc" 194, code := .ref 154 })) ::
(nat_lit 156, tU #[]) ::
(nat_lit 159, cO #[vS "find_unreachable" 410, vS "Grammar.find_unreachable" 411, vS "/claim/cut.py" 412, .int 169 0, .int 1 0, .int 0 0, .int 0 0, .int 3 0, .ref 156, .bool true, .int 181 0, .ref 157, .none, .none, .none, .ref 158, .int 413 0, .int 169 0, vS "/claim/cut.py" 414]) ::
(nat_lit 160, fU ({ fs [6,6] with qualname := "Grammar.find_unreachable", globals := 3, closure := [], defaults := .none, kwdefaults := .none, pyModule := vS "sly.yacc" 194, code := .ref 159 })) ::
(nat_lit 161, tU #[]) ::
(nat_lit 163, tU #[vS "self" 419, vS "terminates" 420, vS "t" 421, vS "n" 422, vS "some_change" 423, vS "pl" 424, vS "p" 425, vS "s" 426, vS "p_terminates" 427, vS "infinite" 428, vS "term" 429]) ::
(nat_lit 164, tU #[]) ::
(nat_lit 166, cO #[vS "infinite_cycles" 416, vS "Grammar.infinite_cycles" 417, vS "/claim/cut.py" 418, .int 182 0, .int 1 0, .int 0 0, .int 0 0, .int 3 0, .ref 161, .bool true, .int 181 0, .ref 162, .none, .ref 163, .ref 164, .ref 165, .int 430 0, .int 182 0, vS "/claim/cut.py" 431]) ::
(nat_lit 167, fU ({ fs [6,7] with qualname := "Grammar.infinite_cycles", globals := 3, closure := [], defaults := .none, kwdefaults := .none, pyModule := vS "sly.yacc" 194, code := .ref 166 })) ::
(nat_lit 168, tU #[]) ::
(nat_lit 170, tU #[vS "self" 436, vS "result" 437, vS "p" 438, vS "s" 439]) ::
(nat_lit 171, tU #[]) ::
(nat_lit 173, cO #[vS "undefined_symbols" 433, vS "Grammar.undefined_symbols" 434, vS "/claim/cut.py" 435, .int 215 0, .int 1 0, .int 0 0, .int 0 0, .int 3 0, .ref 168, .bool true, .int 181 0, .ref 169, .none, .ref 170, .ref 171, .ref 172, .int 440 0, .int 215 0, vS "/claim/cut.py" 441]) ::
(nat_lit 174, fU ({ fs [6,8] with qualname := "Grammar.undefined_symbols", globals := 3, closure := [], defaults := .none, kwdefaults := .none, pyModule := vS "sly.yacc" 194, code := .ref 173 })) ::
(nat_lit 175, tU #[]) ::
(nat_lit 177, tU #[vS "self" 446, vS "unused_tok" 447, vS "s" 448, vS "v" 449]) ::
(nat_lit 178, tU #[]) ::
(nat_lit 180, cO #[vS "unused_terminals" 443, vS "Grammar.unused_terminals" 444, vS "/claim/cut.py" 445, .int 225 0, .int 1 0, .int 0 0, .int 0 0, .int 3 0, .ref 175, .bool true, .int 181 0, .ref 176, .none, .ref 177, .ref 178, .ref 179, .int 450 0, .int 225 0, vS "/claim/cut.py" 451]) ::
(nat_lit 181, fU ({ fs [6,9] with qualname := "Grammar.unused_terminals", globals := 3, closure := [], defaults := .none, kwdefaults := .none, pyModule := vS "sly.yacc" 194, code := .ref 180 })) ::
(nat_lit 182, tU #[]) ::
(nat_lit 184, tU #[vS "self" 456, vS "unused_prod" 457, vS "s" 458, vS "v" 459, vS "p" 460]) ::
(nat_lit 185, tU #[]) ::
(nat_lit 187, cO #[vS "unused_rules" 453, vS "Grammar.unused_rules" 454, vS "/claim/cut.py" 455, .int 232 0, .int 1 0, .int 0 0, .int 0 0, .int 3 0, .ref 182, .bool true, .int 181 0, .ref 183, .none, .ref 184, .ref 185, .ref 186, .int 461 0, .int 232 0, vS "/claim/cut.py" 462]) ::
(nat_lit 188, fU ({ fs [6,10] with qualname := "Grammar.unused_rules", globals := 3, closure := [], defaults := .none, kwdefaults := .none, pyModule := vS "sly.yacc" 194, code := .ref 187 })) ::
(nat_lit 189, tU #[]) ::
(nat_lit 191, tU #[vS "self" 467, vS "unused" 468, vS "termname" 469]) ::
(nat_lit 192, tU #[]) ::
(nat_lit 194, cO #[vS "unused_precedence" 464, vS "Grammar.unused_precedence" 465, vS "/claim/cut.py" 466, .int 240 0, .int 1 0, .int 0 0, .int 0 0, .int 3 0, .ref 189, .bool true, .int 181 0, .ref 190, .none, .ref 191, .ref 192, .ref 193, .int 470 0, .int 240 0, vS "/claim/cut.py" 471]) ::
(nat_lit 195, fU ({ fs [6,11] with qualname := "Grammar.unused_precedence", globals := 3, closure := [], defaults := .none, kwdefaults := .none, pyModule := vS "sly.yacc" 194, code := .ref 194 })) ::
(nat_lit 196, tU #[]) ::
(nat_lit 198, tU #[vS "self" 476, vS "beta" 477]) ::
(nat_lit 199, tU #[]) ::
(nat_lit 201, cO #[vS "_first" 473, vS "Grammar._first" 474, vS "/claim/cut.py" 475, .int 247 0, .int 2 0, .int 0 0, .int 0 0, .int 3 0, .ref 196, .bool true, .int 181 0, .ref 197, .none, .ref 198, .ref 199, .ref 200, .int 478 0, .int 247 0, vS "/claim/cut.py" 479]) ::
(nat_lit 202, fU ({ fs [6,12] with qualname := "Grammar._first", globals := 3, closure := [], defaults := .none, kwdefaults := .none, pyModule := vS "sly.yacc" 194, code := .ref 201 })) ::
(nat_lit 203, tU #[]) ::
(nat_lit 205, tU #[vS "self" 484]) ::
(nat_lit 206, tU #[]) ::
(nat_lit 208, cO #[vS "compute_first" 481, vS "Grammar.compute_first" 482, vS "/claim/cut.py" 483, .int 250 0, .int 1 0, .int 0 0, .int 0 0, .int 3 0, .ref 203, .bool true, .int 181 0, .ref 204, .none, .ref 205, .ref 206, .ref 207, .int 485 0, .int 250 0, vS "/claim/cut.py" 486]) ::
(nat_lit 209, fU ({ fs [6,13] with qualname := "Grammar.compute_first", globals := 3, closure := [], defaults := .none, kwdefaults := .none, pyModule := vS "sly.yacc" 194, code := .ref 208 })) ::
(nat_lit 210, tU #[.none]) ::
(nat_lit 211, tU #[]) ::
(nat_lit 213, tU #[vS "self" 491, vS "start" 492]) ::
(nat_lit 214, tU #[]) ::
(nat_lit 216, cO #[vS "compute_follow" 488, vS "Grammar.compute_follow" 489, vS "/claim/cut.py" 490, .int 253 0, .int 2 0, .int 0 0, .int 0 0, .int 3 0, .ref 211, .bool true, .int 181 0, .ref 212, .none, .ref 213, .ref 214, .ref 215, .int 493 0, .int 253 0, vS "/claim/cut.py" 494]) ::
(nat_lit 217, fU ({ fs [6,14] with qualname := "Grammar.compute_follow", globals := 3, closure := [], defaults := .ref 210, kwdefaults := .none, pyModule := vS "sly.yacc" 194, code := .ref 216 })) ::
(nat_lit 218, tU #[]) ::
(nat_lit 220, tU #[vS "self" 499]) ::
(nat_lit 221, tU #[]) ::
(nat_lit 223, cO #[vS "build_lritems" 496, vS "Grammar.build_lritems" 497, vS "/claim/cut.py" 498, .int 256 0, .int 1 0, .int 0 0, .int 0 0, .int 3 0, .ref 218, .bool true, .int 181 0, .ref 219, .none, .ref 220, .ref 221, .ref 222, .int 500 0, .int 256 0, vS "/claim/cut.py" 501]) ::
(nat_lit 224, fU ({ fs [6,15] with qualname := "Grammar.build_lritems", globals := 3, closure := [], defaults := .none, kwdefaults := .none, pyModule := vS "sly.yacc" 194, code := .ref 223 })) ::
(nat_lit 225, tU #[vS "First" 503, vS "Follow" 504, vS "Nonterminals" 505, vS "Precedence" 506, vS "Prodmap" 507, vS "Prodnames" 508, vS "Productions" 509, vS "Start" 510, vS "Terminals" 511, vS "UsedPrecedence" 512]) ::
(nat_lit 226, { cls := .type "dict", data := .dict #[kE P "__module__" 339 (vS "sly.yacc" 194), kE P "__firstlineno__" 343 (.int 78 342), kE P "__init__" 352 (.ref 118), kE P "__len__" 359 (.ref 125), kE P "__getitem__" 367 (.ref 132), kE P "set_precedence" 377 (.ref 139), kE P "add_production" 401 (.ref 147), kE P "set_start" 409 (.ref 155), kE P "find_unreachable" 415 (.ref 160), kE P "infinite_cycles" 432 (.ref 167), kE P "undefined_symbols" 442 (.ref 174), kE P "unused_terminals" 452 (.ref 181), kE P "unused_rules" 463 (.ref 188), kE P "unused_precedence" 472 (.ref 195), kE P "_first" 480 (.ref 202), kE P "compute_first" 487 (.ref 209), kE P "compute_follow" 495 (.ref 217), kE P "build_lritems" 502 (.ref 224), kE P "__static_attributes__" 513 (.ref 225), kE P "__dict__" 515 (.ref 228), kE P "__weakref__" 517 (.ref 229), kE P "__doc__" 518 (.none)] 4 }) ::
(nat_lit 227, { cls := .type "type", data := .cls { name := Str.ofString "Grammar", bases := [.type "object"], mro := [.ref 227, .type "object"], ns := 226, qualname := Str.ofString "Grammar" }, slots := #[some (.ref 105), none, some (vS "Grammar" 332), some (vS "Grammar" 340), some (.builtin "object.__new__"), some (.bool true)] }) ::
(nat_lit 228, { cls := .type "getset_descriptor", data := .fields #[vS "__dict__" 514, .ref 227, .builtin "function.__dict__", .builtin "function.__dict__#set"] }) ::
(nat_lit 229, { cls := .type "getset_descriptor", data := .fields #[vS "__weakref__" 516, .ref 227, .builtin "ExceptionGroup.__weakref__", .none] }) ::
(nat_lit 232, { cls := .type "dict", data := .dict #[] }) ::
(nat_lit 233, tU #[]) ::
(nat_lit 236, cO #[vS "_law_rows" 524, vS "_law_rows" 525, vS "/claim/cut.py" 526, .int 260 0, .int 1 0, .int 0 0, .int 0 0, .int 3 0, .ref 233, .bool true, .int 181 0, .ref 234, .none, .none, .none, .ref 235, .int 527 0, .int 260 0, vS "/claim/cut.py" 528]) ::
(nat_lit 237, fU ({ fs [9] with qualname := "_law_rows", globals := 3, closure := [], defaults := .none, kwdefaults := .none, pyModule := vS "law_kk0045_02" 522, code := .ref 236 })) ::
(nat_lit 238, tU #[]) ::
(nat_lit 241, cO #[vS "law" 530, vS "law" 531, vS "/claim/cut.py" 532, .int 274 0, .int 1 0, .int 0 0, .int 0 0, .int 3 0, .ref 238, .bool true, .int 181 0, .ref 239, .none, .none, .none, .ref 240, .int 533 0, .int 274 0, vS "/claim/cut.py" 534]) ::
(nat_lit 242, fU ({ fs [10] with qualname := "law", globals := 3, closure := [], defaults := .none, kwdefaults := .none, pyModule := vS "law_kk0045_02" 522, code := .ref 241 })) :: []
noncomputable def asL : List Addr := [2, 3, 15, 17, 18, 20, 21, 22, 29, 30, 31, 32, 35, 42, 43, 44, 46, 47, 49, 50, 51, 53, 54, 56, 57, 58, 60, 61, 63, 64, 65, 67, 68, 70, 71, 72, 74, 75, 77, 78, 79, 80, 81, 82, 83, 86, 88, 89, 91, 92, 93, 100, 101, 102, 105, 112, 114, 115, 117, 118, 119, 121, 122, 124, 125, 126, 128, 129, 131, 132, 133, 135, 136, 138, 139, 140, 141, 143, 144, 146, 147, 148, 149, 151, 152, 154, 155, 156, 159, 160, 161, 163, 164, 166, 167, 168, 170, 171, 173, 174, 175, 177, 178, 180, 181, 182, 184, 185, 187, 188, 189, 191, 192, 194, 195, 196, 198, 199, 201, 202, 203, 205, 206, 208, 209, 210, 211, 213, 214, 216, 217, 218, 220, 221, 223, 224, 225, 226, 227, 228, 229, 232, 233, 236, 237, 238, 241, 242]
theorem hkE (P : Params) : asL = (HK P).map (·.1) := by kernel_rfl
noncomputable abbrev HKh : Hook := kmHook HK asL hkE [157, 45]
noncomputable abbrev loose0 : List Str := [Str.ofString "Production", Str.ofString "Grammar", Str.ofString "_name_aliases"]
noncomputable def QQ : Program := { PP with main := { PP.main with body := (PP.main.body.eraseIdx 8).eraseIdx 1 } }
noncomputable def hp46 (P : Params) : Heap := { objs := ⟨[boot_o_0 P, boot_o_1 P, boot_o_2 P, boot_o_3 P, boot_o_4 P, boot_o_5 P, boot_o_6 P, boot_o_7 P, boot_o_8 P, boot_o_9 P, boot_o_10 P, tU #[], { cls := .none, data := .fields #[] },
 cO #[vS "<module>" 182, vS "<module>" 183, vS "/claim/cut.py" 184, .int 1 0, .int 0 0, .int 0 0, .int 0 0, .int 0 0, .ref 11, .bool false, .int 181 0, .ref 12, .none, .none, .none, .none, .int 185 0, .int 1 0, vS "/claim/cut.py" 186],
 { cls := .type "frame", slots := #[some (.ref 13), some (.ref 3), some (.ref 3), none, some (vS "__main__" 164), none, some (.ref 0)] }]⟩ }
noncomputable def ob46 (P : Params) (i : Nat) : Obj := (hp46 P).objs.toList.getD i default
noncomputable def tr47 (P : Params) : BT :=
 .node (boot_o_0 P) (.node (boot_o_1 P) (.node (boot_o_3 P) (.node (boot_o_7 P) .nil .nil) (.node (ob46 P 11) .nil .nil)) (.node (boot_o_5 P) (.node (boot_o_9 P) .nil .nil) (.node (ob46 P 13) .nil .nil)))
  (.node (boot_o_2 P) (.node (boot_o_4 P) (.node (boot_o_8 P) .nil .nil) (.node (ob46 P 12) .nil .nil)) (.node (boot_o_6 P) (.node (boot_o_10 P) .nil .nil) (.node (ob46 P 14) .nil .nil)))
noncomputable abbrev env0 : Env := { scope := PP.main.scope, locals := mainNs, globals := mainNs, cells := [], code := .ref 13, frame := some 14 }
noncomputable abbrev p0 : Pos := ⟨0, 0, 0, 0⟩
noncomputable abbrev pE : Pos := ⟨274, 0, 316, 99⟩
noncomputable abbrev code0 : Code := .body (behindTheImports PP) env0
noncomputable abbrev sb (w : World) (os : OsState) : Shared := ⟨boot_heap w.params, Array.mk [], boot_drawn, boot_toks, os⟩
noncomputable abbrev s46 (w : World) (os : OsState) : Shared := { heap := hp46 w.params, toks := 187, os := os }
noncomputable abbrev s47 (w : World) (os : OsState) : SharedT := { tree := tr47 w.params, n := 15, life := {}, gens := #[], drawn := {}, toks := 187, os := os }
theorem left_gen {p q : Program} {loose : List Str} {Xt : Shared → Bool} {α : Type} {Yf : Shared → α} {Ya : World → α} {N n1 n2 n3 : Nat} {H0 : Params → Heap} {d0 : Drawn} {k0 m0 : Nat} {an : Option Value} {env : Env} {cd : Code} {pa pz : Pos} {l : List Stmt} {s46 : World → OsState → Shared} {s47 : World → OsState → SharedT}
  (lk : World → Shared → Bool × _ × α) (hlk : lk = fun w s => ((staticsOk (importedModules p.main.body) (H0 w.params) s.heap && namesBound p s.heap && gensDone s && laidKept (H0 w.params) s.heap), openSeen q loose (importedModules p.main.body) Xt true s, Yf s))
  (op : ∀ w : World, (fencedOpening treeTable p w N).map (fun s => (s.heap, s.gens, s.drawn, s.toks)) = some (H0 w.params, Array.mk [], d0, k0))
  (z1 : ∀ w : World, ((H0 w.params).isNs mainGlobals && (Array.mk [] : Array GenState).size == 0) = true) (z2 : ∀ w : World, (H0 w.params).objs.size = m0) (z3 : ∀ w : World, (H0 w.params).nsMap mainGlobals (Str.ofString "__annotations__") = an)
  (pre : ∀ (w : World) (os : OsState), topGo treeTable p w m0 an n1 ⟨H0 w.params, Array.mk [], d0, k0, os⟩ (topStub p) = some (s46 w os, ⟨denote treeTable (.body l env), cd, pa, [topFrame pa]⟩))
  (blk : ∀ (w : World) (os : OsState), segRun treeTable p w m0 an 1 n2 (s46 w os) (blockOf l env cd pa [topFrame pa]) = some (.next, (s47 w os).abs, cd, pa))
  (mn : ∀ w : World, (fun os => (segRunT treeTable p w m0 an 1 n3 (s47 w os) (piecesOf l env cd pa [topFrame pa])).map (fun x => (x.1, x.2.2.1, x.2.2.2, (topRun treeTable p w m0 an 2 x.2.1.abs ⟨doneF .next, cd, pz, [topFrame pa]⟩).map (lk w)))) =
   fun os => some (.next, cd, pz, some (true, openGood q loose, Ya w)))
  (hN : Nat.ble (n1 + (n2 + (n3 + 2))) N = true) : LeftO p q loose Xt Yf Ya N true := fun w => by
 refine exG1_2 (Option.map_eq_some_iff.mp (op w)) fun r1 e e' => ?_
 obtain ⟨h, gs, d, k, os⟩ := r1
 obtain ⟨rfl, rfl, rfl, rfl⟩ : h = H0 w.params ∧ gs = Array.mk [] ∧ d = d0 ∧ k = k0 := by simpa using e'
 refine exG1_2 (Option.map_eq_some_iff.mp (congrFun (mn w) os)) fun r2 hx hy => ?_
 obtain ⟨f, S, c, pp⟩ := r2
 injection hy with hy1 hy2
 injection hy2 with hy2 hy3
 injection hy3 with hy3 hy4
 dsimp only at hy1 hy2 hy3 hy4
 subst hy1; subst hy2; subst hy3
 refine exG1_2 (Option.map_eq_some_iff.mp hy4) fun s2 hs2 hl => ?_
 have hk : topRun treeTable p w m0 an (n3 + 2) (s47 w os).abs (restOf (l ++ []) env c pa [topFrame pa]) = some s2 := piece_app (segRun_of hx) hs2
 rw [List.append_nil] at hk
 have r := topRun_mono (N - (n1 + (n2 + (n3 + 2)))) _ _ _ _ (go_top (pre w os) (piece_block (blk w os) hk))
 rw [show n1 + (n2 + (n3 + 2)) + (N - (n1 + (n2 + (n3 + 2)))) = N by have := Nat.le_of_ble_eq_true hN; omega] at r
 subst hlk
 injection hl with l1 l2
 have t : topFrom treeTable p w N ⟨H0 w.params, Array.mk [], d, k, os⟩ = some s2 := by
  unfold topFrom
  dsimp only
  rw [z1, z2, z3, r]
  show (match staticsOk (importedModules p.main.body) (H0 w.params) s2.heap && namesBound p s2.heap && gensDone s2 && laidKept (H0 w.params) s2.heap with | true => _ | false => _) = _
  rw [l1]
 unfold openEnds
 rw [e]
 show (topFrom treeTable p w N _).map _ = _
 rw [t]
 exact congrArg some l2
theorem pre0 (w : World) (os : OsState) : topGo treeTable PP w 11 (some (.ref 6)) 12 (sb w os) (topStub PP) = some (s46 w os, ⟨denote treeTable code0, code0, p0, [topFrame p0]⟩) := by
 rewrite [PySem.W.Fast.te15667345088766844465, PySem.W.Fast.te11892475500146522536, PySem.W.Fast.te14364793385576792824]
 kernel_rfl
theorem blk0 (w : World) (os : OsState) : segRun treeTable PP w 11 (some (.ref 6)) 1 1 (s46 w os) (blockOf (behindTheImports PP) env0 code0 p0 [topFrame p0]) = some (.next, (s47 w os).abs, code0, p0) := by
 rewrite [PySem.W.Fast.te14374325043358763698, PySem.W.Fast.te14364793385576792824]
 kernel_rfl
noncomputable def Xt0 (s : Shared) : Bool := xlAt QQ [] s && recOk PySem.Challenge.rw_kk0045_02.row.records s
noncomputable def looks0 (w : World) (s : Shared) := ((staticsOk (importedModules PP.main.body) (boot_heap w.params) s.heap && namesBound PP s.heap && gensDone s && laidKept (boot_heap w.params) s.heap), openSeen QQ loose0 (importedModules PP.main.body) Xt0 true s, HKh.obs s)
theorem main0 (w : World) : (fun os => (segRunT treeTable PP w 11 (some (.ref 6)) 1 1696 (s47 w os) (piecesOf (behindTheImports PP) env0 code0 p0 [topFrame p0])).map (fun x => (x.1, x.2.2.1, x.2.2.2, (topRun treeTable PP w 11 (some (.ref 6)) 2 x.2.1.abs ⟨doneF .next, code0, pE, [topFrame p0]⟩).map (looks0 w)))) =
  fun os => some (.next, code0, pE, some (true, openGood QQ loose0, HKh.val w)) := by
 unfold looks0
 rewrite [PySem.W.Fast.te10110043849684766642, PySem.W.Fast.te14364793385576792824, PySem.W.Fast.te14082659384304107361, PySem.W.Fast.te4187177175401517315]
 kernel_rfl
theorem fence0 (s : Shared) : fenceModules? PP s = some s := by kernel_rfl
theorem op0 (w : World) : (fencedOpening treeTable PP w 3508).map (fun s => (s.heap, s.gens, s.drawn, s.toks)) = some (boot_heap w.params, Array.mk [], boot_drawn, boot_toks) := boot_open (p := PP) (N := 3508) (by kernel_rfl) (by kernel_rfl) fence0 w
theorem z10 (w : World) : ((boot_heap w.params).isNs mainGlobals && (Array.mk [] : Array GenState).size == 0) = true := by kernel_rfl
theorem z20 (w : World) : (boot_heap w.params).objs.size = 11 := by kernel_rfl
theorem z30 (w : World) : (boot_heap w.params).nsMap mainGlobals (Str.ofString "__annotations__") = some (.ref 6) := by kernel_rfl
theorem left0 : LeftO PP QQ loose0 Xt0 HKh.obs HKh.val 3508 true := @left_gen PP QQ loose0 Xt0 HKh.α HKh.obs HKh.val 3508 12 1 1696 boot_heap boot_drawn boot_toks 11 (some (.ref 6)) env0 code0 p0 pE (behindTheImports PP) s46 s47 looks0 (by kernel_rfl) op0 z10 z20 z30 pre0 blk0 main0 (by kernel_rfl)
theorem said0 : OpenLaw.wellSaid PySem.Challenge.rw_kk0045_02 = true := by
 rewrite [PySem.W.Fast.te9446332074065402090]
 kernel_rfl
end Kk
end
section
namespace Kk
inductive V where
 | none | bool (b : Bool) | int (i : Int) | str (s : Str) | ref (a : Addr) | ty (n : String) | oth
 deriving DecidableEq, Inhabited
noncomputable def er : Value → V
 | .none => .none
 | .bool b => .bool b
 | .int i _ => .int i
 | .str s _ => .str s
 | .ref a => .ref a
 | .type n => .ty n
 | _ => .oth
theorem er_none {v : Value} (h : er v = .none) : v = .none := by induction v <;> first | rfl | k_call_by "c" h
theorem er_bool {v : Value} {b} (h : er v = .bool b) : v = .bool b := by induction v <;> first | (k_call_by "c" h; rfl) | k_call_by "c" h
theorem er_int {v : Value} {i} (h : er v = .int i) : ∃ t, v = .int i t := by induction v <;> first | (k_call_by "c" h; exact ⟨_, rfl⟩) | k_call_by "c" h
theorem er_str {v : Value} {i} (h : er v = .str i) : ∃ t, v = .str i t := by induction v <;> first | (k_call_by "c" h; exact ⟨_, rfl⟩) | k_call_by "c" h
theorem er_ref {v : Value} {a} (h : er v = .ref a) : v = .ref a := by induction v <;> first | (k_call_by "c" h; rfl) | k_call_by "c" h
set_option genInjectivity false in
structure FnPart where
 params : Arguments
 body : List Stmt
 scope : Scope
 cl : List (Str × Addr)
 qual : Str
 code : Addr
inductive O where
 | list (xs : List V) | tup (xs : List V) | dict (es : List (Str × V)) (ep : Nat) | set (xs : List Str)
 | inst (c d : Addr) | fn (fp : FnPart) | code (q : Str) | tab (fresh : Bool) | pin (vs : Array Value)
set_option genInjectivity false in
structure Gx where
 prog : Program
 w : World
 K : Frag
 p : Program
 loose : List Str
 mean : ExcName → Option Value
 mg : Str → Option Value
 mb : Str → Option Value
 gram : Addr
 tabs : List (Addr × Addr)
noncomputable def ORep (g : Gx) (h : Heap) (a : Addr) : O → Prop
 | .list xs => ∃ vs : Array Value, h.PlainList a vs ∧ vs.toList.map er = xs
 | .tup xs => ∃ (vs : Array Value) (n : Nat), h.get? a = some { cls := .type "tuple", data := .seq vs n } ∧ vs.toList.map er = xs
 | .dict es ep => (a == sysModules) = false ∧ ∃ kvs, h.DictAt (PySem.strKind g.prog g.w) a kvs ep ∧ kvs.map (fun p => (p.1, er p.2)) = es
 | .set xs => ∃ S, h.SetOf (PySem.strKind g.prog g.w) a S xs.length ∧ (∀ k, S k = decide (k ∈ xs))
 | .inst c d => h.get? a = some (instObj c d)
 | .fn fp => ∃ o fd, h.get? a = some o ∧ o.data = .func fd ∧ o.cls = .type "function" ∧ fd.code = .ref fp.code ∧ fd.qualname = fp.qual ∧ fd.params = fp.params ∧ fd.body = .stmts fp.body ∧ fd.scope = fp.scope ∧ fd.closure = fp.cl ∧
   fd.globals = mainGlobals ∧ fd.builtins = builtinsNs ∧ fd.defaults = .none ∧ fd.kwdefaults = .none
 | .code q => ∃ o vs t, h.get? a = some o ∧ o.data = .fields vs ∧ vs[1]? = some (.str q t)
 | .tab fresh => ∃ ps, h.get? a = some (tabObj ps) ∧ TriplesOk ps.toList ∧ (fresh = true → ps = #[])
 | .pin vs => h.get? a = some { cls := .type "list", data := .seq vs }
theorem ORep.at {g : Gx} {h h' : Heap} {a : Addr} {o : O} (x : ORep g h a o) (k : ∀ ob, h.get? a = some ob → h'.get? a = some ob) : ORep g h' a o := by
 induction o with
 | list xs => obtain ⟨vs, p, e⟩ := x; exact ⟨vs, p.at k, e⟩
 | tup xs => obtain ⟨vs, n, p, e⟩ := x; exact ⟨vs, n, k _ p, e⟩
 | dict es ep => obtain ⟨hs, kvs, ⟨o, es', ho, r⟩, e⟩ := x; exact ⟨hs, kvs, ⟨o, es', k _ ho, r⟩, e⟩
 | set xs => obtain ⟨S, ⟨o, es, ep, t, ho, r⟩, e⟩ := x; exact ⟨S, ⟨o, es, ep, t, k _ ho, r⟩, e⟩
 | inst c d => exact k _ x
 | fn fp => obtain ⟨o, fd, ho, r⟩ := x; exact ⟨o, fd, k _ ho, r⟩
 | code q => obtain ⟨o, vs, t, ho, r⟩ := x; exact ⟨o, vs, t, k _ ho, r⟩
 | tab fresh => obtain ⟨ps, ho, r⟩ := x; exact ⟨ps, k _ ho, r⟩
 | pin vs => exact k _ x
theorem ORep.there {g : Gx} {h : Heap} {a : Addr} {o : O} (x : ORep g h a o) : ∃ ob, h.get? a = some ob := by
 induction o with
 | list xs => obtain ⟨vs, ⟨n, p⟩, e⟩ := x; exact ⟨_, p⟩
 | tup xs => obtain ⟨vs, n, p, e⟩ := x; exact ⟨_, p⟩
 | dict es ep => obtain ⟨_, kvs, ⟨o, es', ho, r⟩, e⟩ := x; exact ⟨_, ho⟩
 | set xs => obtain ⟨S, ⟨o, es, ep, t, ho, r⟩, e⟩ := x; exact ⟨_, ho⟩
 | inst c d => exact ⟨_, x⟩
 | fn fp => obtain ⟨o, fd, ho, r⟩ := x; exact ⟨_, ho⟩
 | code q => obtain ⟨o, vs, t, ho, r⟩ := x; exact ⟨_, ho⟩
 | tab fresh => obtain ⟨ps, ho, r⟩ := x; exact ⟨_, ho⟩
 | pin vs => exact ⟨_, x⟩
set_option genInjectivity false in
structure St where
 σ : Str → Option V
 μ : Addr → Option O
inductive Ex where | key | gram
noncomputable def M (α : Type) := (α → St → Prop) → (Ex → St → Prop) → St → Prop
inductive Fl where | next | brk | cont | ret (v : V)
noncomputable def FlR : Fl → Flow → Prop
 | .next, .next => True
 | .brk, .brk => True
 | .cont, .cont => True
 | .ret v, .ret u => er u = v
 | _, _ => False
set_option genInjectivity false in
structure Cx where
 A : Around
 env : Env
 base : Addr → Option Obj
 own : List Addr
 fr : Addr → Option Data
 s0 : Shared
 outer : List Env
noncomputable def BaseIn (b : Addr → Option Obj) (h : Heap) : Prop := ∀ a o, b a = some o → h.get? a = some o
set_option genInjectivity false in
structure Sc where
 sc : Scope
 own : List Str
 code : Option Addr := none
 cl : Option (List (Str × Addr)) := none
inductive Md where | fn | hand | comp
structure Static (g : Gx) (h : Heap) : Prop where
 kin : g.K.In h
 top : Top g.p g.loose g.mean g.mg g.mb h
 codes : CodeAll g.tabs h
structure Ok (g : Gx) (S : Sc) (md : Md) (n : Nat) (C : Cx) : Prop where
 stat : ∀ h, BaseIn C.base h → Static g h
 scope : C.env.scope = S.sc
 kind : S.sc.kind = .function
 glob : C.env.globals = mainGlobals
 blt : C.env.builtins = builtinsNs
 cells : ∀ x c, C.env.cells.lookup x = some c → c ∈ C.own ∨ ∃ o, C.base c = some o
 ownL : ∀ c ∈ C.own, c ≠ C.env.locals ∧ C.base c = none ∧ C.fr c = none
 baseL : C.base C.env.locals = none
 frL : C.fr C.env.locals = none
 frB : ∀ a d, C.fr a = some d → C.base a = none
 ownN : ∀ x ∈ S.own, ∃ c, C.env.cells.lookup x = some c ∧ c ∈ C.own
 inj : ∀ x y c, C.env.cells.lookup x = some c → C.env.cells.lookup y = some c → c ∈ C.own → x = y
 code : ∀ c, S.code = some c → C.env.code = .ref c
 clo : ∀ cl, S.cl = some cl → ∀ y c, cl.lookup y = some c → C.env.cells.lookup y = some c
 hnd : md = .hand ∨ C.A.handled = none
 guards : C.A.guards = some []
 frames : md = .comp ∨ (C.A.frames = some (C.env :: C.outer) ∧ C.env.frame = some C.env.locals)
 outs : ∀ e ∈ C.outer, e.scope.kind ≠ .module ∧ ∃ L d, e.frame = some L ∧ C.fr L = some d ∧ ∀ vs, d ≠ .fields vs
 depth : C.A.depth + 10 * n ≤ 900
 units : C.A.units + 10 * n ≤ 9000
noncomputable def Off (C : Cx) (a : Addr) : Prop := a ≠ C.env.locals ∧ a ∉ C.own ∧ C.base a = none ∧ C.fr a = none
noncomputable def VarAt (env : Env) (h : Heap) (m : Str → Option Value) (x : Str) (u : V) : Prop :=
 match env.kindOf x with
 | some .local => ∃ v, m x = some v ∧ er v = u
 | some .cell => ∃ c v, env.cells.lookup x = some c ∧ h.IsCell c (some v) ∧ er v = u
 | some .free => ∃ c v, env.cells.lookup x = some c ∧ h.IsCell c (some v) ∧ er v = u
 | _ => True
structure Sim (g : Gx) (C : Cx) (st : St) (s : Shared) : Prop where
 gens : s.gens = C.s0.gens
 drawn : s.drawn = C.s0.drawn
 os : s.os = C.s0.os
 base : BaseIn C.base s.heap
 vars : ∃ m, s.heap.Ns C.env.locals m ∧ ∀ x u, st.σ x = some u → VarAt C.env s.heap m x u
 cells : ∀ c ∈ C.own, ∃ v, s.heap.IsCell c v
 frs : ∀ a d, C.fr a = some d → ∃ o, s.heap.get? a = some o ∧ o.data = d
 objs : ∀ a o, st.μ a = some o → ORep g s.heap a o ∧ Off C a
noncomputable def Post (g : Gx) (C : Cx) {α β : Type} (R : α → β → Prop) (Q : α → St → Prop) (b : β) (s : Shared) : Prop :=
 ∃ a st, R a b ∧ Sim g C st s ∧ Q a st
noncomputable def exCls (g : Gx) : Ex → Value
 | .key => .type "KeyError"
 | .gram => .ref g.gram
noncomputable def Raised (g : Gx) (C : Cx) (st : St) (x : Ex) (e : Value) (h : Heap) (fl : Option Value) : Prop :=
 ∃ a oe vs, e = .ref a ∧ h.get? a = some oe ∧ oe.cls = exCls g x ∧ oe.data = .fields vs ∧ 1 < vs.size ∧ Off C a ∧ st.μ a = none ∧ (match fl with
  | none => vs[1]? = some .none
  | some f => ∃ T oT ts, vs[1]? = some (.ref T) ∧ T ≠ a ∧ h.get? T = some oT ∧ oT.data = .fields ts ∧ ts[3]? = some f ∧ Off C T ∧ st.μ T = none)
noncomputable def PostX (g : Gx) (C : Cx) (X : Ex → St → Prop) (e : Value) (s : Shared) : Prop :=
 ∃ x st fl, Sim g C st s ∧ X x st ∧ (fl = none ∨ fl = some .none ∨ fl = some (rawInt C.env.locals)) ∧ Raised g C st x e s.heap fl
noncomputable def Ref (g : Gx) (S : Sc) (md : Md) (n : Nat) {α β : Type} (R : α → β → Prop) (p : M α) (t : Env → Sem β) : Prop :=
 ∀ C, Ok g S md n C → ∀ st s Q X, Sim g C st s → p Q X st → wpAny (model g.prog g.w) C.A (t C.env) (Post g C R Q) (PostX g C X) s
noncomputable abbrev VR (v : V) (u : Value) : Prop := er u = v
end Kk
end
section
namespace Kk
noncomputable def upd {β : Type} (f : Addr → Option β) (a : Addr) (b : β) : Addr → Option β := fun x => if x = a then some b else f x
noncomputable def supd {β : Type} (f : Str → Option β) (a : Str) (b : β) : Str → Option β := fun x => if x = a then some b else f x
noncomputable def St.put (st : St) (a : Addr) (o : O) : St := { st with μ := upd st.μ a o }
noncomputable def St.set (st : St) (x : Str) (v : V) : St := { st with σ := supd st.σ x v }
section
variable {g : Gx} {S : Sc} {md : Md} {n : Nat} {C : Cx} {st st' : St} {s : Shared} {h' : Heap} {tk : Nat}
theorem Sim.L_there (x : Sim g C st s) : ∃ o, s.heap.get? C.env.locals = some o := by
 obtain ⟨m, ⟨o, es, ep, ho, _⟩, _⟩ := x.vars; exact ⟨o, ho⟩
theorem Sim.off_new (x : Sim g C st s) {a : Addr} (ha : s.heap.get? a = none) : Off C a := by
 refine ⟨?_, ?_, ?_, ?_⟩
 ·rintro rfl; obtain ⟨o, ho⟩ := x.L_there; rw [ha] at ho; k_call_by "c" ho
 ·intro hm; obtain ⟨v, o, ho, _⟩ := x.cells a hm; rw [ha] at ho; k_call_by "c" ho
 ·cases e : C.base a with
  | none => rfl
  | some o => have := x.base a o e; rw [ha] at this; k_call_by "c" this
 ·cases e : C.fr a with
  | none => rfl
  | some d => obtain ⟨o, ho, _⟩ := x.frs a d e; rw [ha] at ho; k_call_by "c" ho
theorem Sim.mu_none (x : Sim g C st s) {a : Addr} (ha : s.heap.get? a = none) : st.μ a = none := by
 cases e : st.μ a with
 | none => rfl
 | some o => obtain ⟨ob, hob⟩ := (x.objs a o e).1.there; rw [ha] at hob; k_call_by "c" hob
theorem VarAt.keep {env : Env} {h h' : Heap} {m : Str → Option Value} {x : Str} {u : V} (hv : VarAt env h m x u) (k : ∀ c v, env.cells.lookup x = some c → h.IsCell c v → h'.IsCell c v) : VarAt env h' m x u := by
 unfold VarAt at hv ⊢
 split
 ·rename_i e; rw [e] at hv; exact hv
 ·rename_i e; rw [e] at hv; obtain ⟨c, v, a, b, d⟩ := hv; exact ⟨c, v, a, k _ _ a b, d⟩
 ·rename_i e; rw [e] at hv; obtain ⟨c, v, a, b, d⟩ := hv; exact ⟨c, v, a, k _ _ a b, d⟩
 ·trivial
theorem isCell_keep {h h' : Heap} {c : Addr} {v : Option Value} (x : h.IsCell c v) (k : ∀ o, h.get? c = some o → h'.get? c = some o) : h'.IsCell c v :=
 by obtain ⟨o, ho, hd⟩ := x; exact ⟨o, k o ho, hd⟩
theorem ns_keep {h h' : Heap} {a : Addr} {m : Str → Option Value} (x : h.Ns a m) (k : ∀ o, h.get? a = some o → h'.get? a = some o) : h'.Ns a m :=
 by obtain ⟨o, es, ep, ho, r⟩ := x; exact ⟨o, es, ep, k o ho, r⟩
theorem Sim.ext (x : Sim g C st s) (Y : Ok g S md n C) (P : Addr → Prop) (hP : ∀ a, P a → Off C a) (k : ∀ b o, ¬ P b → s.heap.get? b = some o → h'.get? b = some o)
  (objs : ∀ a o, st'.μ a = some o → ORep g h' a o ∧ Off C a) (hσ : st'.σ = st.σ) : Sim g C st' { s with heap := h', toks := tk } := by
 have kL : ∀ o, s.heap.get? C.env.locals = some o → h'.get? C.env.locals = some o := fun o => k _ o fun h => (hP _ h).1 rfl
 have kc : ∀ c ∈ C.own, ∀ o, s.heap.get? c = some o → h'.get? c = some o := fun c hc o => k _ o fun h => (hP _ h).2.1 hc
 have kb : ∀ b o, C.base b = some o → h'.get? b = some o := fun b o e => k b o (fun h => by have := (hP _ h).2.2.1; rw [e] at this; k_call_by "c" this) (x.base b o e)
 refine ⟨x.gens, x.drawn, x.os, kb, ?_, ?_, fun a d e => ?_, objs⟩
 ·refine exG1_2 x.vars fun m hm hv => ?_
  refine ⟨m, ns_keep hm kL, fun y u e => (hv y u (hσ ▸ e)).keep fun c v hl hc => isCell_keep hc ?_⟩
  rcases Y.cells y c hl with h | ⟨o, h⟩
  ·exact kc c h
  ·intro o' ho'
   have := kb c o h
   rw [x.base c o h] at ho'; cases ho'; exact this
 ·intro c hc
  refine exG1_1 (x.cells c hc) fun v hv => ?_
  exact ⟨v, isCell_keep hv (kc c hc)⟩
 ·refine exG1_2 (x.frs a d e) fun o ho hd => ?_
  exact ⟨o, k a o (fun h => by have := (hP _ h).2.2.2; rw [e] at this; k_call_by "c" this) ho, hd⟩
theorem Sim.grow (x : Sim g C st s) (k : ∀ b o, s.heap.get? b = some o → h'.get? b = some o) : Sim g C st { s with heap := h', toks := tk } := by
 refine ⟨x.gens, x.drawn, x.os, fun b o e => k _ _ (x.base b o e), ?_, ?_, fun a d e => (by obtain ⟨o, ho, hd⟩ := x.frs a d e; exact ⟨o, k _ _ ho, hd⟩), fun a o e => ⟨(x.objs a o e).1.at fun ob => k _ ob, (x.objs a o e).2⟩⟩
 ·refine exG1_2 x.vars fun m hm hv => ?_
  exact ⟨m, hm.keeps k, fun y u e => (hv y u e).keep fun c v _ hc => hc.keeps k⟩
 ·intro c hc
  refine exG1_1 (x.cells c hc) fun v hv => ?_
  exact ⟨v, hv.keeps k⟩
theorem Sim.tick (x : Sim g C st s) : Sim g C st { s with toks := tk } := x.grow (h' := s.heap) fun _ _ e => e
theorem Sim.new (x : Sim g C st s) {a : Addr} {o : O} (ha : s.heap.get? a = none) (k : ∀ b o, s.heap.get? b = some o → h'.get? b = some o) (ho : ORep g h' a o) : Sim g C (st.put a o) { s with heap := h', toks := tk } := by
 have y : Sim g C st { s with heap := h', toks := tk } := x.grow k
 refine ⟨y.gens, y.drawn, y.os, y.base, y.vars, y.cells, y.frs, fun b o' e => ?_⟩
 unfold St.put upd at e
 dsimp only at e
 split at e
 ·rename_i q; k_call_by "c" e; subst q; exact ⟨ho, x.off_new ha⟩
 ·exact y.objs b o' e
theorem Sim.push (x : Sim g C st s) {o : O} {ob : Obj} (ho : ORep g (s.heap.push ob) s.heap.objs.size o) : Sim g C (st.put s.heap.objs.size o) { s with heap := s.heap.push ob, toks := tk } :=
 x.new (Heap.get?_none_of_le (Nat.le_refl _)) (fun _ _ e => Heap.get?_push_of_some _ e) ho
theorem Sim.change (x : Sim g C st s) (Y : Ok g S md n C) {a : Addr} {o o' : O} (ha : st.μ a = some o) (k : Heap.ExtBut a s.heap h') (ho : ORep g h' a o') : Sim g C (st.put a o') { s with heap := h', toks := tk } := by
 have ha' := (x.objs a o ha).2
 refine x.ext Y (fun b => b = a) (fun b e => e ▸ ha') (fun b o e => k b o e) (fun b o₁ e => ?_) rfl
 unfold St.put upd at e
 dsimp only at e
 split at e
 ·rename_i q; k_call_by "c" e; subst q; exact ⟨ho, ha'⟩
 ·rename_i q; exact ⟨(x.objs b o₁ e).1.at fun ob => k b ob q, (x.objs b o₁ e).2⟩
theorem Sim.temp (x : Sim g C st s) (Y : Ok g S md n C) {a : Addr} (ha : Off C a) (hm : st.μ a = none) (k : Heap.ExtBut a s.heap h') : Sim g C st { s with heap := h', toks := tk } := by
 refine x.ext Y (fun b => b = a) (fun b e => e ▸ ha) (fun b o e => k b o e) (fun b o₁ e => ?_) rfl
 exact ⟨(x.objs b o₁ e).1.at fun ob => k b ob (fun q => by rw [q, hm] at e; k_call_by "c" e), (x.objs b o₁ e).2⟩
theorem Sim.store (x : Sim g C st s) (Y : Ok g S md n C) {y : Str} {v : Value} (hk : C.env.kindOf y = some .local) {m : Str → Option Value} (hm : s.heap.Ns C.env.locals m)
  (hv : ∀ x u, st.σ x = some u → VarAt C.env s.heap m x u) (hn : h'.Ns C.env.locals (fun z => if z = y then some v else m z)) (k : Heap.SameBut C.env.locals s.heap h') :
  Sim g C (st.set y (er v)) { s with heap := h', toks := tk } := by
 have off : ∀ a o, a ≠ C.env.locals → s.heap.get? a = some o → h'.get? a = some o := fun a o ne e => k.extBut a o ne e
 refine ⟨x.gens, x.drawn, x.os, fun b o e => off _ _ (fun q => by have := Y.baseL; rw [← q, e] at this; k_call_by "c" this) (x.base b o e), ?_, ?_, fun a d e => (by obtain ⟨o, ho, hd⟩ := x.frs a d e; exact ⟨o, off _ _ (fun q => by have := Y.frL; rw [← q, e] at this; k_call_by "c" this) ho, hd⟩), fun a o e => ⟨(x.objs a o e).1.at fun ob => off _ ob (x.objs a o e).2.1, (x.objs a o e).2⟩⟩
 ·refine ⟨_, hn, fun z u e => ?_⟩
  have cellk : ∀ c v, C.env.cells.lookup z = some c → s.heap.IsCell c v → h'.IsCell c v := fun c v hl hc => isCell_keep hc fun o => off c o (by
   rcases Y.cells z c hl with h | ⟨o', h⟩
   ·exact (Y.ownL c h).1
   ·intro q; have := Y.baseL; rw [← q, h] at this; k_call_by "c" this)
  unfold St.set supd at e
  dsimp only at e
  by_cases q : z = y
  ·subst q
   rw [if_pos rfl] at e; k_call_by "c" e
   unfold VarAt; rw [hk]; exact ⟨v, if_pos rfl, rfl⟩
  ·rw [if_neg q] at e
   have := hv z u e
   unfold VarAt at this ⊢
   split
   ·rename_i e'; rw [e'] at this; obtain ⟨v', a, b⟩ := this; exact ⟨v', (if_neg q).trans a, b⟩
   ·rename_i e'; rw [e'] at this; obtain ⟨c, v', a, b, d⟩ := this; exact ⟨c, v', a, cellk _ _ a b, d⟩
   ·rename_i e'; rw [e'] at this; obtain ⟨c, v', a, b, d⟩ := this; exact ⟨c, v', a, cellk _ _ a b, d⟩
   ·trivial
 ·intro c hc
  refine exG1_1 (x.cells c hc) fun v hv => ?_
  exact ⟨v, isCell_keep hv fun o => off c o (Y.ownL c hc).1⟩
theorem Sim.storeCell (x : Sim g C st s) (Y : Ok g S md n C) {y : Str} {v : Value} {c : Addr} (hk : C.env.kindOf y = some .cell) (hl : C.env.cells.lookup y = some c) (hc : c ∈ C.own)
  (hn : h'.IsCell c (some v)) (k : Heap.SameBut c s.heap h') : Sim g C (st.set y (er v)) { s with heap := h', toks := tk } := by
 have off : ∀ a o, a ≠ c → s.heap.get? a = some o → h'.get? a = some o := fun a o ne e => k.extBut a o ne e
 refine ⟨x.gens, x.drawn, x.os, fun b o e => off _ _ (fun q => by have := (Y.ownL c hc).2.1; rw [← q, e] at this; k_call_by "c" this) (x.base b o e), ?_, ?_, fun a d e => (by obtain ⟨o, ho, hd⟩ := x.frs a d e; exact ⟨o, off _ _ (fun q => by have := (Y.ownL c hc).2.2; rw [← q, e] at this; k_call_by "c" this) ho, hd⟩), fun a o e => ⟨(x.objs a o e).1.at fun ob => off _ ob (fun q => (x.objs a o e).2.2.1 (q ▸ hc)), (x.objs a o e).2⟩⟩
 ·refine exG1_2 x.vars fun m hm hv => ?_
  refine ⟨m, ns_keep hm fun o => off _ o (Ne.symm (Y.ownL c hc).1), fun z u e => ?_⟩
  unfold St.set supd at e
  dsimp only at e
  by_cases q : z = y
  ·subst q
   rw [if_pos rfl] at e; k_call_by "c" e
   unfold VarAt; rw [hk]; exact ⟨c, v, hl, hn, rfl⟩
  ·rw [if_neg q] at e
   exact (hv z u e).keep fun c' v' hl' hc' => isCell_keep hc' fun o => off c' o fun q' => q (Y.inj z y c (q' ▸ hl') hl hc)
 ·intro c' hc'
  by_cases q : c' = c
  ·subst q; exact ⟨_, hn⟩
  ·refine exG1_1 (x.cells c' hc') fun v hv => ?_
   exact ⟨v, isCell_keep hv fun o => off c' o q⟩
end
end Kk
end
section
namespace Kk
noncomputable def mret {α : Type} (a : α) : M α := fun Q _ st => Q a st
noncomputable def mbind {α β : Type} (p : M α) (f : α → M β) : M β := fun Q X st => p (fun a st' => f a Q X st') X st
noncomputable def mstuck {α : Type} : M α := fun _ _ _ => False
noncomputable def locM (x : Str) : M V := fun Q _ st => match st.σ x with | some v => Q v st | none => False
noncomputable def setM (x : Str) (v : V) : M Unit := fun Q _ st => Q () (st.set x v)
variable {g : Gx} {S : Sc} {md : Md} {n : Nat} {C : Cx} {st st' : St} {s : Shared} {α β γ δ : Type}
noncomputable abbrev RefE (g : Gx) (S : Sc) (md : Md) (n : Nat) (p : M V) (e : Expr) : Prop := Ref g S md n VR p (eval e)
noncomputable abbrev RefS (g : Gx) (S : Sc) (md : Md) (n : Nat) (p : M Fl) (e : Stmt) : Prop := Ref g S md n FlR p (exec e)
noncomputable abbrev RefB (g : Gx) (S : Sc) (md : Md) (n : Nat) (p : M Fl) (e : List Stmt) : Prop := Ref g S md n FlR p (execs e)
noncomputable abbrev RefT (g : Gx) (S : Sc) (md : Md) (n : Nat) (p : M Bool) (e : Expr) : Prop := Ref g S md n (fun a b => b = a) p (fun env => isTrue e env (eval e env))
theorem Ref.use {R : α → β → Prop} {p : M α} {t : Env → Sem β} {Q : α → St → Prop} {X : Ex → St → Prop} {G : β → Shared → Prop} (r : Ref g S md n R p t) (Y : Ok g S md n C) (x : Sim g C st s) (h : p Q X st)
  (k : ∀ a b st' s', R a b → Sim g C st' s' → Q a st' → G b s') : wpAny (model g.prog g.w) C.A (t C.env) G (PostX g C X) s :=
 wpAny_mono (r C Y st s Q X x h) (fun b s' q0 => by obtain ⟨a, st', hr, hs, hq⟩ := q0; exact k a b st' s' hr hs hq) fun _ _ e => e
noncomputable def varOk (sc : Scope) (x : Str) : Bool := (match sc.names.lookup x with | some .local | some .cell | some .free => true | _ => false) && !(x == ("__debug__" : Str)) && !(x == ("__classdict__" : Str))
theorem Ok.kindOf (Y : Ok g S md n C) (x : Str) : C.env.kindOf x = S.sc.names.lookup x := by unfold Env.kindOf; rw [Y.scope]
theorem load_var {x : Str} {u : V} {Q : V → St → Prop} {E : Value → Shared → Prop} (hv : varOk S.sc x = true) (Y : Ok g S md n C) (X : Sim g C st s) (e : st.σ x = some u) (q : Q u st) :
  wpAny (model g.prog g.w) C.A (loadName C.env x) (Post g C VR Q) E s := by
 refine exG1_2 X.vars fun m hm hx => ?_
 have h1 := hx x u e
 have hk : C.env.scope.kind = .function := by rw [Y.scope]; exact Y.kind
 simp only [varOk, Bool.and_eq_true, Bool.not_eq_true'] at hv
 refine exG0_2 hv fun r1 h4 => ?_
 obtain ⟨h2, h3⟩ := r1
 unfold VarAt at h1
 rw [Y.kindOf x] at h1
 split at h2
 ·rename_i e2
  rw [e2] at h1
  refine exG1_2 h1 fun v a b => ?_
  exact wpAny_loadName_local hk ((Y.kindOf x).trans e2) hm a ⟨u, st, b, X, q⟩
 ·rename_i e2
  rw [e2] at h1
  refine exG2_3 h1 fun c v a b d => ?_
  exact wpAny_loadName_cell hk ((Y.kindOf x).trans e2) a b ⟨u, st, d, X, q⟩
 ·rename_i e2
  rw [e2] at h1
  refine exG2_3 h1 fun c v a b d => ?_
  exact wpAny_loadName_free hk ((Y.kindOf x).trans e2) a b ⟨u, st, d, X, q⟩ h4
 ·k_call_by "c" h2
theorem ref_Name {x : Str} {pos : Pos} (hv : varOk S.sc x = true) : RefE g S md n (locM x) (.Name x pos) := by
 intro C Y st s Q X x' h
 unfold locM at h
 have hd : (x == ("__debug__" : Str)) = false := by simp only [varOk, Bool.and_eq_true, Bool.not_eq_true'] at hv; exact hv.1.2
 split at h
 ·rename_i v e
  exact wpAny_Name (load_var hv Y x' e h) hd
 ·exact h.elim
theorem ref_Int {i : Int} {k pos} : RefE g S md n (mret (.int i)) (.Constant (.int i) k pos) := fun C Y st s Q X x h =>
 wpAny_Constant_int ⟨_, st, rfl, x.tick, h⟩
theorem ref_Str {i : Str} {k pos} : RefE g S md n (mret (.str i)) (.Constant (.str i) k pos) := fun C Y st s Q X x h =>
 wpAny_Constant_str ⟨_, st, rfl, x.tick, h⟩
theorem ref_None {k pos} : RefE g S md n (mret .none) (.Constant .none k pos) := fun C Y st s Q X x h =>
 wpAny_Constant_none ⟨_, st, rfl, x, h⟩
theorem ref_Bool {b k pos} : RefE g S md n (mret (.bool b)) (.Constant (.bool b) k pos) := fun C Y st s Q X x h =>
 wpAny_Constant_bool ⟨_, st, rfl, x, h⟩
noncomputable def stOk (S : Sc) (x : Str) : Bool := match S.sc.names.lookup x with
 | some .local => true
 | some .cell => S.own.contains x
 | _ => false
theorem store_var {x : Str} {v : Value} {Q : Unit → Shared → Prop} {E : Value → Shared → Prop} (hv : stOk S x = true) (Y : Ok g S md n C) (X : Sim g C st s)
  (q : ∀ s', Sim g C (st.set x (er v)) s' → Q () s') : wpAny (model g.prog g.w) C.A (storeName C.env x v) Q E s := by
 have hk : C.env.scope.kind = .function := by rw [Y.scope]; exact Y.kind
 unfold stOk at hv
 split at hv
 ·rename_i e
  refine exG1_2 X.vars fun m hm hx => ?_
  have hl : C.env.kindOf x = some .local := (Y.kindOf x).trans e
  refine wpAny_storeName_local hl hm (fun h' hn hs => q _ (X.store Y hl hm hx hn hs)) ?_
  rw [hk]; rfl
 ·rename_i e
  have hl : C.env.kindOf x = some .cell := (Y.kindOf x).trans e
  refine exG1_2 (Y.ownN x (by simpa using hv)) fun c hc ho => ?_
  refine exG1_1 (X.cells c ho) fun v₀ hv₀ => ?_
  refine wpAny_storeName_cell hk hl hc hv₀ fun h' hn hs => q _ (X.storeCell Y hl hc ho hn hs)
 ·k_call_by "c" hv
theorem ref_nil : RefB g S md n (mret .next) [] := fun C Y st s Q X x h => wpAny_execs_nil ⟨.next, st, trivial, x, h⟩
noncomputable def mseq (p q : M Fl) : M Fl := fun Q X st => p (fun f st' => match f with | .next => q Q X st' | f => Q f st') X st
theorem ref_cons {p q : M Fl} {a : Stmt} {r : List Stmt} (ha : RefS g S md n p a) (hr : RefB g S md n q r) : RefB g S md n (mseq p q) (a :: r) := by
 intro C Y st s Q X x h
 refine wpAny_execs_cons (ha.use Y x h fun f b st' s' hf x' hq => ?_)
 induction f <;> induction b <;> first | exact hf.elim | exact hr C Y _ _ _ _ x' hq | exact ⟨_, st', hf, x', hq⟩
theorem ref_one {p : M Fl} {a : Stmt} (ha : RefS g S md n p a) : RefB g S md n p [a] := by
 intro C Y st s Q X x h
 refine wpAny_execs_cons (ha.use Y x h fun f b st' s' hf x' hq => ?_)
 induction f <;> induction b <;> first | exact hf.elim | exact wpAny_execs_nil ⟨_, st', hf, x', hq⟩ | exact ⟨_, st', hf, x', hq⟩
noncomputable def mif {α : Type} (c : M Bool) (p q : M α) : M α := fun Q X st => c (fun b st' => if b = true then p Q X st' else q Q X st') X st
theorem ref_If {c : M Bool} {p q : M Fl} {t : Expr} {b o : List Stmt} {pos : Pos} (hc : RefT g S md n c t) (hb : RefB g S md n p b) (ho : RefB g S md n q o) : RefS g S md n (mif c p q) (.If t b o pos) := by
 intro C Y st s Q X x h
 refine wpAny_If (hc.use Y x h fun f b' st' s' hf x' hq => ?_)
 subst hf
 cases b'
 ·exact ho C Y _ _ _ _ x' hq
 ·exact hb C Y _ _ _ _ x' hq
theorem ref_IfExp {c : M Bool} {p q : M V} {t b o : Expr} {pos : Pos} (hc : RefT g S md n c t) (hb : RefE g S md n p b) (ho : RefE g S md n q o) : RefE g S md n (mif c p q) (.IfExp t b o pos) := by
 intro C Y st s Q X x h
 refine wpAny_IfExp (hc.use Y x h fun f b' st' s' hf x' hq => ?_)
 subst hf
 cases b'
 ·exact ho C Y _ _ _ _ x' hq
 ·exact hb C Y _ _ _ _ x' hq
theorem ref_Return {p : M V} {e : Expr} {pos : Pos} (h : RefE g S md n p e) : RefS g S md n (mbind p fun v => mret (.ret v)) (.Return (some e) pos) := fun C Y st s Q X x hp =>
 wpAny_Return_some (h.use Y x hp fun v b st' s' hv x' hq => ⟨.ret v, st', hv, x', hq⟩)
theorem ref_Return0 {pos : Pos} : RefS g S md n (mret (.ret .none)) (.Return none pos) := fun C Y st s Q X x hp => wpAny_Return_none ⟨.ret .none, st, rfl, x, hp⟩
theorem ref_Pass {pos : Pos} : RefS g S md n (mret .next) (.Pass pos) := fun C Y st s Q X x hp => wpAny_Pass ⟨.next, st, trivial, x, hp⟩
theorem ref_Break {pos : Pos} : RefS g S md n (mret .brk) (.Break pos) := fun C Y st s Q X x hp => wpAny_Break ⟨.brk, st, trivial, x, hp⟩
theorem ref_Continue {pos : Pos} : RefS g S md n (mret .cont) (.Continue pos) := fun C Y st s Q X x hp => wpAny_Continue ⟨.cont, st, trivial, x, hp⟩
theorem Ok.inter (Y : Ok g S md n C) : interactive C.env = false := by
 unfold interactive; rw [Y.scope, Y.kind]; rfl
theorem ref_Expr {p : M V} {e : Expr} {pos : Pos} (h : RefE g S md n p e) (hs : ∀ env, swapsWith e none pos.line env = pure false := by intro _; rfl) :
  RefS g S md n (mbind p fun _ => mret .next) (.Expr e pos) := fun C Y st s Q X x hp =>
 wpAny_Expr_any (h.use Y x hp fun v b st' s' hv x' hq => ⟨.next, st', trivial, x', hq⟩) Y.inter (hs _)
noncomputable def assignM (x : Str) (p : M V) : M Fl := mbind p fun v => mbind (setM x v) fun _ => mret .next
theorem ref_Assign {p : M V} {e : Expr} {x : Str} {px pos : Pos} (hv : stOk S x = true) (h : RefE g S md n p e)
  (hs : ∀ env : Env, env.scope = S.sc → swapsWith e (some (.Name x px)) pos.line env = pure false := by intro env he; first | rfl | (k_call_by "c" env; k_call_by "c" he; kernel_rfl)) :
  RefS g S md n (assignM x p) (.Assign [.Name x px] e pos) := by
 intro C Y st s Q X x' hp
 refine wpAny_Assign_Name (h.use Y x' hp fun v b st' s' hb x'' hq => ?_) (hs _ Y.scope)
 refine store_var hv Y x'' fun s'' x3 => ?_
 refine ⟨.next, _, trivial, x3, ?_⟩
 rw [hb]; exact hq
theorem ref_T_Not {c : M Bool} {t : Expr} {pos : Pos} (hc : RefT g S md n c t) : RefT g S md n (mbind c fun b => mret (!b)) (.UnaryOp .Not t pos) := fun C Y st s Q X x hp =>
 wpAny_isTrue_Not (hc.use Y x hp fun v b st' s' hv x' hq => ⟨_, st', by rw [hv], x', hq⟩)
noncomputable abbrev RefAll (g : Gx) (S : Sc) (md : Md) (n : Nat) (op : BoolOp) (p : M Bool) (es : List Expr) : Prop := Ref g S md n (fun a b => b = a) p (fun env => allTrue op es env)
theorem ref_And_nil : RefAll g S md n .And (mret true) [] := fun C Y st s Q X x hp => wpAny_allTrue_And_nil ⟨_, st, rfl, x, hp⟩
theorem ref_Or_nil : RefAll g S md n .Or (mret false) [] := fun C Y st s Q X x hp => wpAny_allTrue_Or_nil ⟨_, st, rfl, x, hp⟩
theorem ref_And_cons {c d : M Bool} {t : Expr} {r : List Expr} (hc : RefT g S md n c t) (hd : RefAll g S md n .And d r) : RefAll g S md n .And (mif c d (mret false)) (t :: r) := by
 intro C Y st s Q X x hp
 refine wpAny_allTrue_And_cons (hc.use Y x hp fun v b st' s' hv x' hq => ?_)
 subst hv
 k_call_by "c" b
 ·exact ⟨_, st', rfl, x', hq⟩
 ·exact hd C Y _ _ _ _ x' hq
theorem ref_Or_cons {c d : M Bool} {t : Expr} {r : List Expr} (hc : RefT g S md n c t) (hd : RefAll g S md n .Or d r) : RefAll g S md n .Or (mif c (mret true) d) (t :: r) := by
 intro C Y st s Q X x hp
 refine wpAny_allTrue_Or_cons (hc.use Y x hp fun v b st' s' hv x' hq => ?_)
 subst hv
 k_call_by "c" b
 ·exact hd C Y _ _ _ _ x' hq
 ·exact ⟨_, st', rfl, x', hq⟩
theorem ref_T_BoolOp {op : BoolOp} {c : M Bool} {ts : List Expr} {pos : Pos} (hc : RefAll g S md n op c ts) : RefT g S md n c (.BoolOp op ts pos) := fun C Y st s Q X x hp => wpAny_isTrue_BoolOp (hc C Y _ _ _ _ x hp)
end Kk
end
section
namespace Kk
variable {g : Gx} {S : Sc} {md : Md} {n : Nat} {C : Cx} {st st' : St} {s : Shared} {α β γ δ : Type}
mutual
inductive Rd (μ : Addr → Option O) : V → PyData → Prop
 | none : Rd μ .none .none
 | bool (b) : Rd μ (.bool b) (.bool b)
 | int (i) : Rd μ (.int i) (.int i)
 | str (x) : Rd μ (.str x) (.str x)
 | list {a xs ds} : μ a = some (.list xs) → RdAll μ xs ds → Rd μ (.ref a) (.list ds)
 | tup {a xs ds} : μ a = some (.tup xs) → RdAll μ xs ds → Rd μ (.ref a) (.tuple ds)
inductive RdAll (μ : Addr → Option O) : List V → List PyData → Prop
 | nil : RdAll μ [] []
 | cons {v vs d ds} : Rd μ v d → RdAll μ vs ds → RdAll μ (v :: vs) (d :: ds)
end
theorem Rd.reads_aux (x : Sim g C st s) {v : V} {d : PyData} (r : Rd st.μ v d) : ∀ v', er v' = v → ∃ as, Reads s.heap v' d as := by
 refine Rd.rec (motive_1 := fun v d _ => ∀ v', er v' = v → ∃ as, Reads s.heap v' d as) (motive_2 := fun vs ds _ => ∀ us, us.map er = vs → ∃ as, ReadsAll s.heap us ds as) ?_ ?_ ?_ ?_ ?_ ?_ ?_ ?_ r
 ·intro v' e; rw [er_none e]; exact ⟨_, .none⟩
 ·intro b v' e; rw [er_bool e]; exact ⟨_, .bool b⟩
 ·intro i v' e; obtain ⟨t, q⟩ := er_int e; rw [q]; exact ⟨_, .int i t⟩
 ·intro y v' e; obtain ⟨t, q⟩ := er_str e; rw [q]; exact ⟨_, .str y t⟩
 ·intro a xs ds h _ ih v' e
  rw [er_ref e]
  refine exG0_2 (x.objs a _ h) fun r1 _ => ?_
  obtain ⟨vs, ⟨n, p⟩, q⟩ := r1
  refine exG1_1 (ih vs.toList q) fun as z => ?_
  exact ⟨_, .list p rfl rfl z⟩
 ·intro a xs ds h _ ih v' e
  rw [er_ref e]
  refine exG0_2 (x.objs a _ h) fun r2 _ => ?_
  obtain ⟨vs, n, p, q⟩ := r2
  refine exG1_1 (ih vs.toList q) fun as z => ?_
  exact ⟨_, .tuple p rfl rfl z⟩
 ·intro us e; rw [List.map_eq_nil_iff.mp e]; exact ⟨_, .nil⟩
 ·intro v vs d ds _ _ ih1 ih2 us e
  refine exG2_3 (List.map_eq_cons_iff.mp e) fun u us' h1 h2 h3 => ?_
  refine exG1_1 (ih1 u h2) fun as p => ?_
  refine exG1_1 (ih2 us' h3) fun bs q => ?_
  rw [h1]; exact ⟨_, .cons p q⟩
theorem Rd.reads (x : Sim g C st s) {v : V} {d : PyData} (r : Rd st.μ v d) (v' : Value) (e : er v' = v) : ∃ as, Reads s.heap v' d as := Rd.reads_aux x r v' e
theorem RdAll.reads (x : Sim g C st s) {vs : List V} {ds : List PyData} (r : RdAll st.μ vs ds) : ∀ us, us.map er = vs → ∃ as, ReadsAll s.heap us ds as := by
 refine RdAll.rec (motive_1 := fun _ _ _ => True) (motive_2 := fun vs ds _ => ∀ us, us.map er = vs → ∃ as, ReadsAll s.heap us ds as) trivial (fun _ => trivial) (fun _ => trivial) (fun _ => trivial) (fun _ _ _ => trivial) (fun _ _ _ => trivial) ?_ ?_ r
 ·intro us e; rw [List.map_eq_nil_iff.mp e]; exact ⟨_, .nil⟩
 ·intro v vs d ds r1 _ _ ih2 us e
  refine exG2_3 (List.map_eq_cons_iff.mp e) fun u us' h1 h2 h3 => ?_
  refine exG1_1 (Rd.reads x r1 u h2) fun as p => ?_
  refine exG1_1 (ih2 us' h3) fun bs q => ?_
  rw [h1]; exact ⟨_, .cons p q⟩
noncomputable def dget (es : List (Str × V)) (k : Str) : Option V := (es.find? fun p => p.1 = k).map (·.2)
noncomputable def dput (es : List (Str × V)) (k : Str) (v : V) : List (Str × V) := if es.any (fun p => p.1 = k) then es.map (fun p => if p.1 = k then (p.1, v) else p) else es ++ [(k, v)]
theorem dget_map (kvs : List (Str × Value)) (k : Str) : dget (kvs.map fun p => (p.1, er p.2)) k = (valueAt kvs k).map er := by
 unfold dget valueAt
 induction kvs with
 | nil => rfl
 | cons p r ih =>
  simp only [List.map_cons, List.find?_cons]
  by_cases h : p.1 = k
  ·simp [h]
  ·simp only [h, decide_false]; exact ih
theorem dput_map (kvs : List (Str × Value)) (k : Str) (v : Value) : (stored kvs k v).map (fun p => (p.1, er p.2)) = dput (kvs.map fun p => (p.1, er p.2)) k (er v) := by
 unfold dput stored
 have e : ((kvs.map fun p => (p.1, er p.2)).any fun p => decide (p.1 = k)) = kvs.any fun p => decide (p.1 = k) := by rw [List.any_map]; rfl
 rw [e]
 split
 ·simp only [List.map_map]
  apply List.map_congr_left
  intro p _
  simp only [Function.comp]
  split <;> simp_all
 ·simp
noncomputable def strIn (y x : Str) : Bool := !(Builtin.Str.occurrences x y 0 x.length 1).isEmpty
noncomputable def okD (d : PyData) : Prop := d.canLay0 = true ∧ d.depth ≤ 50
inductive EqH (st : St) (k : Bool → Prop) : V → V → Prop
 | int {i j : Int} : k (i == j) → EqH st k (.int i) (.int j)
 | str {x y : Str} : k (x == y) → EqH st k (.str x) (.str y)
 | rd {a b : V} {d e : PyData} : Rd st.μ a d → Rd st.μ b e → okD d → okD e → k (PyData.eqv d e) → EqH st k a b
inductive InH (st : St) (k : Bool → Prop) : V → V → Prop
 | str {y t : Str} : k (strIn y t) → InH st k (.str y) (.str t)
 | dict {a : Addr} {es : List (Str × V)} {ep : Nat} {y : Str} : st.μ a = some (.dict es ep) → k (dget es y).isSome → InH st k (.str y) (.ref a)
 | set {a : Addr} {ys : List Str} {y : Str} : st.μ a = some (.set ys) → k (decide (y ∈ ys)) → InH st k (.str y) (.ref a)
 | list {a : Addr} {xs : List V} {x : V} {ds : List PyData} {d : PyData} : st.μ a = some (.list xs) → RdAll st.μ xs ds → Rd st.μ x d → okD (.list ds) → okD d → k (ds.any fun y => PyData.eqv y d) → InH st k x (.ref a)
 | tup {a : Addr} {xs : List V} {x : V} {ds : List PyData} {d : PyData} : st.μ a = some (.tup xs) → RdAll st.μ xs ds → Rd st.μ x d → okD (.list ds) → okD d → k (ds.any fun y => PyData.eqv y d) → InH st k x (.ref a)
inductive CmpH (st : St) (k : Bool → Prop) : CmpOp → V → V → Prop
 | eq {a b : V} : EqH st k a b → CmpH st k .Eq a b
 | ne {a b : V} : EqH st (fun c => k (!c)) a b → CmpH st k .NotEq a b
 | in_ {a b : V} : InH st k a b → CmpH st k .In a b
 | nin {a b : V} : InH st (fun c => k (!c)) a b → CmpH st k .NotIn a b
 | is_ {a : V} : k (decide (a = .none)) → CmpH st k .Is a .none
 | isn {a : V} : k (!decide (a = .none)) → CmpH st k .IsNot a .none
 | lt {i j : Int} : k (decide (i < j)) → CmpH st k .Lt (.int i) (.int j)
 | gt {i j : Int} : k (decide (i > j)) → CmpH st k .Gt (.int i) (.int j)
 | le {i j : Int} : k (decide (i ≤ j)) → CmpH st k .LtE (.int i) (.int j)
 | ge {i j : Int} : k (decide (i ≥ j)) → CmpH st k .GtE (.int i) (.int j)
noncomputable def cmpM (op : CmpOp) (a b : V) : M Bool := fun Q _ st => CmpH st (fun c => Q c st) op a b
theorem Ok.room (Y : Ok g S md n C) : C.A.units + 60 < cLine := by have := Y.units; unfold cLine; omega
theorem Ok.deep (Y : Ok g S md n C) {m j : Nat} (h : j ≤ 50) (hm : m ≤ j) : C.A.units + m < cLine := by have := Y.room; omega
theorem Ok.deep1 (Y : Ok g S md n C) {m j : Nat} (h : j ≤ 50) (hm : m ≤ j) : C.A.units + 1 + m < cLine := by have := Y.room; omega
noncomputable abbrev CmpEnd (g : Gx) (C : Cx) (st : St) (k : Bool → Prop) (r : Value) (s' : Shared) : Prop := ∃ c, r = .bool c ∧ Sim g C st s' ∧ k c
theorem eq_run {a b : V} {va vb : Value} {k : Bool → Prop} {E : Value → Shared → Prop} (Y : Ok g S md n C) (x : Sim g C st s) (ha : er va = a) (hb : er vb = b) (h : EqH st k a b) :
  wpAny (model g.prog g.w) C.A (compareOp .Eq va vb) (CmpEnd g C st k) E s := by
 induction h with
 | int h =>
  obtain ⟨t, rfl⟩ := er_int ha
  obtain ⟨u, rfl⟩ := er_int hb
  exact PyProof.Rows.eq_int ⟨_, rfl, x, h⟩
 | str h =>
  obtain ⟨t, rfl⟩ := er_str ha
  obtain ⟨u, rfl⟩ := er_str hb
  exact PyProof.Rows.eq_str ⟨_, rfl, x, h⟩
 | @rd _ _ d e rd re od oe q =>
  refine exG1_1 (rd.reads x va ha) fun as r1 => ?_
  refine exG1_1 (re.reads x vb hb) fun bs r2 => ?_
  exact SeqAt.compareEq_reads r1 r2 od.1 oe.1 (Y.deep od.2 (Nat.min_le_left ..)) ⟨_, rfl, x, q⟩
theorem ne_run {a b : V} {va vb : Value} {k : Bool → Prop} {E : Value → Shared → Prop} (Y : Ok g S md n C) (x : Sim g C st s) (ha : er va = a) (hb : er vb = b) (h : EqH st (fun c => k (!c)) a b) :
  wpAny (model g.prog g.w) C.A (compareOp .NotEq va vb) (CmpEnd g C st k) E s := by
 induction h with
 | int h =>
  obtain ⟨t, rfl⟩ := er_int ha
  obtain ⟨u, rfl⟩ := er_int hb
  exact PyProof.Rows.ne_int ⟨_, rfl, x, h⟩
 | str h =>
  obtain ⟨t, rfl⟩ := er_str ha
  obtain ⟨u, rfl⟩ := er_str hb
  exact PyProof.Rows.ne_str ⟨_, rfl, x, h⟩
 | @rd _ _ d e rd re od oe q =>
  refine exG1_1 (rd.reads x va ha) fun as r1 => ?_
  refine exG1_1 (re.reads x vb hb) fun bs r2 => ?_
  exact SeqAt.compareNe_reads r1 r2 od.1 oe.1 (Y.deep od.2 (Nat.min_le_left ..)) ⟨_, rfl, x, q⟩
theorem isStrOf_self (y : Str) (t : Tok) : (PySem.strKind g.prog g.w).is y (.str y t) = true := by simp [PySem.strKind, Value.isStrOf]
theorem dict_in {a : Addr} {es : List (Str × V)} {ep : Nat} (x : Sim g C st s) (h : st.μ a = some (.dict es ep)) : (a == sysModules) = false ∧ ∃ kvs, s.heap.DictAt (PySem.strKind g.prog g.w) a kvs ep ∧ kvs.map (fun p => (p.1, er p.2)) = es := (x.objs a _ h).1
theorem in_run {a b : V} {va vb : Value} {k : Bool → Prop} {E : Value → Shared → Prop} (Y : Ok g S md n C) (x : Sim g C st s) (ha : er va = a) (hb : er vb = b) (h : InH st k a b) :
  wpAny (model g.prog g.w) C.A (compareOp .In va vb) (CmpEnd g C st k) E s := by
 induction h with
 | str h =>
  obtain ⟨t, rfl⟩ := er_str ha
  obtain ⟨u, rfl⟩ := er_str hb
  exact PyProof.Rows.in_str ⟨_, rfl, x, h⟩
 | dict hm h =>
  rw [er_ref hb]
  obtain ⟨t, rfl⟩ := er_str ha
  refine exG0_2 (dict_in x hm) fun hs r3 => ?_
  refine exG1_2 r3 fun kvs hd e => ?_
  refine wpAny_in_of (isStrOf_self _ t) hs hd.dictOf.mapOf ⟨_, rfl, x.tick, ?_⟩
  rw [← e, dget_map, Option.isSome_map] at h
  exact h
 | set hm h =>
  rw [er_ref hb]
  obtain ⟨t, rfl⟩ := er_str ha
  refine exG0_2 (x.objs _ _ hm) fun r4 _ => ?_
  obtain ⟨F, hF, e⟩ := r4
  refine wpAny_inSet_of (isStrOf_self _ t) rfl hF ⟨_, rfl, x.tick, ?_⟩
  rw [e]; exact h
 | @list _ _ _ ds d hm r1 r2 o1 o2 q =>
  rw [er_ref hb]
  refine exG0_2 (x.objs _ _ hm) fun r5 _ => ?_
  obtain ⟨vs, ⟨n, p⟩, q1⟩ := r5
  refine exG1_1 (r1.reads x vs.toList q1) fun as z1 => ?_
  refine exG1_1 (r2.reads x va ha) fun bs z2 => ?_
  exact SeqAt.in_list_reads (.list p rfl rfl z1) z2 o1.1 o2.1 (Y.deep1 o2.2 (Nat.min_le_right ..)) ⟨_, rfl, x, q⟩
 | @tup _ _ _ ds d hm r1 r2 o1 o2 q =>
  rw [er_ref hb]
  refine exG0_2 (x.objs _ _ hm) fun r6 _ => ?_
  obtain ⟨vs, n, p, q1⟩ := r6
  refine exG1_1 (r1.reads x vs.toList q1) fun as z1 => ?_
  refine exG1_1 (r2.reads x va ha) fun bs z2 => ?_
  exact SeqAt.in_tuple_reads (.tuple p rfl rfl z1) z2 o1.1 o2.1 (Y.deep1 o2.2 (Nat.min_le_right ..)) ⟨_, rfl, x, q⟩
theorem notIn_run {a b : V} {va vb : Value} {k : Bool → Prop} {E : Value → Shared → Prop} (Y : Ok g S md n C) (x : Sim g C st s) (ha : er va = a) (hb : er vb = b) (h : InH st (fun c => k (!c)) a b) :
  wpAny (model g.prog g.w) C.A (compareOp .NotIn va vb) (CmpEnd g C st k) E s := by
 induction h with
 | str h =>
  obtain ⟨t, rfl⟩ := er_str ha
  obtain ⟨u, rfl⟩ := er_str hb
  exact PyProof.Rows.notIn_str ⟨_, rfl, x, h⟩
 | dict hm h =>
  rw [er_ref hb]
  obtain ⟨t, rfl⟩ := er_str ha
  refine exG0_2 (dict_in x hm) fun hs r7 => ?_
  refine exG1_2 r7 fun kvs hd e => ?_
  refine wpAny_notIn_of (isStrOf_self _ t) hs hd.dictOf.mapOf ⟨_, rfl, x.tick, ?_⟩
  rw [← e, dget_map, Option.isSome_map] at h
  exact h
 | set hm h =>
  rw [er_ref hb]
  obtain ⟨t, rfl⟩ := er_str ha
  refine exG0_2 (x.objs _ _ hm) fun r8 _ => ?_
  obtain ⟨F, hF, e⟩ := r8
  refine wpAny_notInSet_of (isStrOf_self _ t) rfl hF ⟨_, rfl, x.tick, ?_⟩
  rw [e]; exact h
 | @list _ _ _ ds d hm r1 r2 o1 o2 q =>
  rw [er_ref hb]
  refine exG0_2 (x.objs _ _ hm) fun r9 _ => ?_
  obtain ⟨vs, ⟨n, p⟩, q1⟩ := r9
  refine exG1_1 (r1.reads x vs.toList q1) fun as z1 => ?_
  refine exG1_1 (r2.reads x va ha) fun bs z2 => ?_
  exact SeqAt.notIn_list_reads (.list p rfl rfl z1) z2 o1.1 o2.1 (Y.deep1 o2.2 (Nat.min_le_right ..)) ⟨_, rfl, x, q⟩
 | @tup _ _ _ ds d hm r1 r2 o1 o2 q =>
  rw [er_ref hb]
  refine exG0_2 (x.objs _ _ hm) fun r10 _ => ?_
  obtain ⟨vs, n, p, q1⟩ := r10
  refine exG1_1 (r1.reads x vs.toList q1) fun as z1 => ?_
  refine exG1_1 (r2.reads x va ha) fun bs z2 => ?_
  exact SeqAt.notIn_tuple_reads (.tuple p rfl rfl z1) z2 o1.1 o2.1 (Y.deep1 o2.2 (Nat.min_le_right ..)) ⟨_, rfl, x, q⟩
theorem none_dec (v : Value) : (v == .none) = decide (er v = .none) := by induction v <;> first | rfl | (simp [er])
theorem cmp_run {op : CmpOp} {a b : V} {va vb : Value} {k : Bool → Prop} {E : Value → Shared → Prop} (Y : Ok g S md n C) (x : Sim g C st s) (ha : er va = a) (hb : er vb = b) (h : CmpH st k op a b) :
  wpAny (model g.prog g.w) C.A (compareOp op va vb) (CmpEnd g C st k) E s := by
 induction h with
 | eq h => exact eq_run Y x ha hb h
 | ne h => exact ne_run Y x ha hb h
 | in_ h => exact in_run Y x ha hb h
 | nin h => exact notIn_run Y x ha hb h
 | is_ h => rw [er_none hb]; exact is_none ⟨_, rfl, x, by rw [none_dec, ha]; exact h⟩
 | isn h => rw [er_none hb]; exact isNot_none ⟨_, rfl, x, by rw [none_dec, ha]; exact h⟩
 | lt h => obtain ⟨t, rfl⟩ := er_int ha; obtain ⟨u, rfl⟩ := er_int hb; exact PyProof.Rows.lt_int ⟨_, rfl, x, h⟩
 | gt h => obtain ⟨t, rfl⟩ := er_int ha; obtain ⟨u, rfl⟩ := er_int hb; exact PyProof.Rows.gt_int ⟨_, rfl, x, h⟩
 | le h => obtain ⟨t, rfl⟩ := er_int ha; obtain ⟨u, rfl⟩ := er_int hb; exact PyProof.Rows.le_int ⟨_, rfl, x, h⟩
 | ge h => obtain ⟨t, rfl⟩ := er_int ha; obtain ⟨u, rfl⟩ := er_int hb; exact PyProof.Rows.ge_int ⟨_, rfl, x, h⟩
theorem ref_Compare {op : CmpOp} {p q : M V} {l r : Expr} {pos : Pos} (hl : RefE g S md n p l) (hr : RefE g S md n q r) (hm : behindInMarks op r = false := by with_unfolding_all rfl) :
  RefE g S md n (mbind p fun a => mbind q fun b => mbind (cmpM op a b) fun c => mret (.bool c)) (.Compare l [op] [r] pos) := fun C Y st s Q X x h =>
 wpAny_Compare1 (hl.use Y x h fun a va st1 s1 ha x1 h1 => hr.use Y x1 h1 fun b vb st2 s2 hb x2 h2 =>
  wpAny_mono (cmp_run Y x2 ha hb h2) (fun r s' q0 => by obtain ⟨c, e, x3, q⟩ := q0; exact ⟨_, st2, by rw [e]; rfl, x3, q⟩) fun _ _ e => e) hm
theorem ref_T_Compare {op : CmpOp} {p q : M V} {l r : Expr} {pos : Pos} (hl : RefE g S md n p l) (hr : RefE g S md n q r) (hm : behindInMarks op r = false := by with_unfolding_all rfl) :
  RefT g S md n (mbind p fun a => mbind q fun b => cmpM op a b) (.Compare l [op] [r] pos) := fun C Y st s Q X x h =>
 wpAny_isTrue_Compare1 (hl.use Y x h fun a va st1 s1 ha x1 h1 => hr.use Y x1 h1 fun b vb st2 s2 hb x2 h2 =>
  wpAny_mono (cmp_run Y x2 ha hb h2) (fun r s' q0 => by obtain ⟨c, e, x3, q⟩ := q0; rw [e]; exact wpAny_truthy_bool ⟨_, st2, rfl, x3, q⟩) fun _ _ e => e) hm
inductive TruH (st : St) (k : Bool → Prop) : V → Prop
 | none : k false → TruH st k .none
 | bool {b : Bool} : k b → TruH st k (.bool b)
 | int {i : Int} : k (i != 0) → TruH st k (.int i)
 | str {x : Str} : x.length ≤ 100000 → k ((x.length : Int) != 0) → TruH st k (.str x)
 | list {a : Addr} {xs : List V} : st.μ a = some (.list xs) → xs.length ≤ 100000 → k (!xs.isEmpty) → TruH st k (.ref a)
 | tup {a : Addr} {xs : List V} : st.μ a = some (.tup xs) → xs.length ≤ 100000 → k (!xs.isEmpty) → TruH st k (.ref a)
 | dict {a : Addr} {es : List (Str × V)} {ep : Nat} : st.μ a = some (.dict es ep) → es.length ≤ 100000 → k (!es.isEmpty) → TruH st k (.ref a)
 | pin {a : Addr} {vs : Array Value} : st.μ a = some (.pin vs) → vs.size ≤ 100000 → k (!vs.isEmpty) → TruH st k (.ref a)
noncomputable def truthM (v : V) : M Bool := fun Q _ st => TruH st (fun c => Q c st) v
theorem arr_len {vs : Array Value} {xs : List V} (q : vs.toList.map er = xs) : vs.size = xs.length := by rw [← q, List.length_map, Array.length_toList]
theorem arr_emp {vs : Array Value} {xs : List V} (q : vs.toList.map er = xs) : vs.isEmpty = xs.isEmpty := by rw [← q, List.isEmpty_map, Array.isEmpty_toList]
theorem truth_run {a : V} {va : Value} {k : Bool → Prop} {E : Value → Shared → Prop} (Y : Ok g S md n C) (x : Sim g C st s) (ha : er va = a) (h : TruH st k a) :
  wpAny (model g.prog g.w) C.A (truthy va) (fun c s' => Sim g C st s' ∧ k c) E s := by
 induction h with
 | none h => rw [er_none ha]; exact PyProof.Rows.truthy_none ⟨x, h⟩
 | bool h => rw [er_bool ha]; exact wpAny_truthy_bool ⟨x, h⟩
 | int h => obtain ⟨t, rfl⟩ := er_int ha; exact PyProof.Rows.truthy_int ⟨x, h⟩
 | str z h => obtain ⟨t, rfl⟩ := er_str ha; exact PySem.P.truthy_str (by omega) ⟨x.tick, h⟩
 | list hm z h =>
  rw [er_ref ha]
  refine exG0_2 (x.objs _ _ hm) fun r11 _ => ?_
  obtain ⟨vs, p, q⟩ := r11
  exact wpAny_truthy_list p.isList (by rw [arr_len q]; omega) ⟨x.tick, by rw [arr_emp q]; exact h⟩
 | tup hm z h =>
  rw [er_ref ha]
  refine exG0_2 (x.objs _ _ hm) fun r12 _ => ?_
  obtain ⟨vs, n, p, q⟩ := r12
  exact ktl_truthy p (by rw [arr_len q]; omega) ⟨x.tick, by rw [arr_emp q]; exact h⟩
 | dict hm z h =>
  rw [er_ref ha]
  refine exG0_2 (dict_in x hm) fun hs r13 => ?_
  refine exG1_2 r13 fun kvs hd e => ?_
  have hl := congrArg List.length e
  rw [List.length_map] at hl
  refine wpAny_truthy_dict hs hd.dictOf (by omega) ⟨x.tick, ?_⟩
  rw [← e, List.isEmpty_map] at h
  exact h
 | @pin _ vs hm z h =>
  rw [er_ref ha]
  have p : s.heap.PlainList _ vs := ⟨0, (x.objs _ _ hm).1⟩
  exact wpAny_truthy_list p.isList (by omega) ⟨x.tick, h⟩
theorem ref_T_value {p : M V} {e : Expr} (h : RefE g S md n p e) (he : ∀ env whole, isTrue e env whole = (do let v ← whole; standAt e.pos; holding [v] (truthy v)) := by intro _ _; rfl) :
  RefT g S md n (mbind p truthM) e := fun C Y st s Q X x hp =>
 wpAny_isTrue_value (h.use Y x hp fun a va st1 s1 ha x1 h1 => wpAny_mono (truth_run Y x1 ha h1) (fun c s' q0 => by obtain ⟨x2, q⟩ := q0; exact ⟨c, st1, rfl, x2, q⟩) fun _ _ e => e) (he _ _)
end Kk
end
section
namespace Kk
variable {g : Gx} {S : Sc} {md : Md} {n : Nat} {C : Cx} {st st' : St} {s : Shared} {α β γ δ : Type}
theorem Ok.here (Y : Ok g S md n C) (x : Sim g C st s) : Static g s.heap := Y.stat _ x.base
theorem handed_of {v : Value} {u : V} (e : er v = u) (h : u ≠ .oth) : handedIn v = true := by
 induction v <;> first | rfl | (exact absurd e.symm h)
noncomputable def attrB (K : Frag) (C : Addr) (name : Str) : Bool := plainGet K C name && hasDictIn K C && (match findIn K (.ref C) name with | some a => noGet K a | none => false)
noncomputable def setB (K : Frag) (C : Addr) (name : Str) : Bool := (findIn K (.ref C) "__setattr__" == some (some (.builtin "object.__setattr__"))) && plainOver K C && (takerIn K C name == some none) && hasDictIn K C
inductive AttrH (c : Addr) (nm : Str) (Q : V → St → Prop) (st : St) : V → Prop
 | mk {a d : Addr} {es : List (Str × V)} {ep : Nat} {u : V} : st.μ a = some (.inst c d) → st.μ d = some (.dict es ep) → dget es nm = some u → u ≠ .oth → Q u st → AttrH c nm Q st (.ref a)
noncomputable def attrM (c : Addr) (nm : Str) (v : V) : M V := fun Q _ st => AttrH c nm Q st v
inductive SetAH (c : Addr) (nm : Str) (u : V) (Q : Unit → St → Prop) (st : St) : V → Prop
 | mk {a d : Addr} {es : List (Str × V)} {ep : Nat} : st.μ a = some (.inst c d) → st.μ d = some (.dict es ep) → es.length ≤ 1000 → (∀ ep, Q () (st.put d (.dict (dput es nm u) ep))) → SetAH c nm u Q st (.ref a)
noncomputable def setAttrM (c : Addr) (nm : Str) (v u : V) : M Unit := fun Q _ st => SetAH c nm u Q st v
theorem isStr_of_is {k : Str} {v : Value} (h : (PySem.strKind g.prog g.w).is k v = true) (nm : Str) : v.isStr nm = (PySem.strKind g.prog g.w).is nm v := by
 obtain ⟨t, rfl⟩ := Value.isStrOf_shape h
 rfl
theorem dict_dictOf {h : Heap} {d : Addr} {kvs : List (Str × Value)} {ep : Nat} (hd : h.DictAt (PySem.strKind g.prog g.w) d kvs ep) :
  ∃ es : List DictEntry, h.get? d = some (dictOf es ep) ∧ KeysOf (PySem.strKind g.prog g.w) es.toArray ∧ Pairs (PySem.strKind g.prog g.w) es kvs ∧ (kvs.map (·.1)).Nodup := by
 refine exG2_6 hd fun o es ho r1 hdat hk hp hn => ?_
 obtain ⟨c1, c2, c3⟩ := r1
 refine ⟨es.toList, ?_, by simpa using hk, hp, hn⟩
 rw [ho]
 obtain ⟨oc, od, oda, osl⟩ := o
 dsimp only at c1 c2 c3 hdat
 subst c1 c2 c3 hdat
 simp [dictOf]
theorem pairs_strs {es : List DictEntry} {kvs : List (Str × Value)} (hp : Pairs (PySem.strKind g.prog g.w) es kvs) : ∀ e ∈ es, ∃ k, (PySem.strKind g.prog g.w).is k e.key = true := by
 induction hp with
 | nil => intro e he; k_call_by "c" he
 | cons h1 _ _ ih => intro e he; rcases List.mem_cons.mp he with rfl | he; exact ⟨_, h1⟩; exact ih e he
theorem find_isStr {es : List DictEntry} {kvs : List (Str × Value)} (hp : Pairs (PySem.strKind g.prog g.w) es kvs) (nm : Str) : (es.find? fun e => e.key.isStr nm) = es.find? fun e => (PySem.strKind g.prog g.w).is nm e.key := by
 have := pairs_strs hp
 clear hp
 induction es with
 | nil => rfl
 | cons e r ih =>
  refine exG1_1 (this e (.head _)) fun k hk => ?_
  rw [List.find?_cons, List.find?_cons, isStr_of_is hk nm, ih fun e he => this e (.tail _ he)]
theorem getL_some {es : List DictEntry} {kvs : List (Str × Value)} (hp : Pairs (PySem.strKind g.prog g.w) es kvs) {nm : Str} {v : Value} (h : valueAt kvs nm = some v) : getL nm es = some (some v) := by
 have h2 := hp.find nm
 rw [h, ← find_isStr hp nm] at h2
 refine exG1_2 (Option.map_eq_some_iff.mp h2) fun e h3 h4 => ?_
 unfold getL
 rw [h3]
 simp [h4]
theorem getL_none {es : List DictEntry} {kvs : List (Str × Value)} (hp : Pairs (PySem.strKind g.prog g.w) es kvs) {nm : Str} (h : valueAt kvs nm = none) : getL nm es = some none := by
 have h2 := hp.find nm
 rw [h, ← find_isStr hp nm] at h2
 have h3 := Option.map_eq_none_iff.mp h2
 unfold getL
 rw [h3]
 have h4 : es.any (·.refKey) = false := by
  rw [List.any_eq_false]
  intro e he
  refine exG1_1 (pairs_strs hp e he) fun k hk => ?_
  refine exG1_1 (Value.isStrOf_shape hk) fun t ht => ?_
  simp [DictEntry.refKey, ht]
 simp [h4]
theorem dget_real {es : List (Str × V)} {kvs : List (Str × Value)} (e : kvs.map (fun p => (p.1, er p.2)) = es) {nm : Str} {u : V} (h : dget es nm = some u) : ∃ v, valueAt kvs nm = some v ∧ er v = u := by
 rw [← e, dget_map] at h
 refine exG1_2 (Option.map_eq_some_iff.mp h) fun v a b => ?_
 exact ⟨v, a, b⟩
theorem dget_real_none {es : List (Str × V)} {kvs : List (Str × Value)} (e : kvs.map (fun p => (p.1, er p.2)) = es) {nm : Str} (h : dget es nm = none) : valueAt kvs nm = none := by
 rw [← e, dget_map] at h
 exact Option.map_eq_none_iff.mp h
theorem inst_at {a c d : Addr} {es : List (Str × V)} {ep : Nat} (x : Sim g C st s) (h1 : st.μ a = some (.inst c d)) (h2 : st.μ d = some (.dict es ep)) :
  ∃ kvs es', s.heap.get? a = some (instObj c d) ∧ s.heap.get? d = some (dictOf es' ep) ∧ InstAt s.heap a (instObj c d) c (some (dictOf es' ep)) ∧ Pairs (PySem.strKind g.prog g.w) es' kvs ∧
   KeysOf (PySem.strKind g.prog g.w) es'.toArray ∧ (kvs.map (·.1)).Nodup ∧ kvs.map (fun p => (p.1, er p.2)) = es ∧ (d == sysModules) = false := by
 have q1 := (x.objs _ _ h1).1
 refine exG0_2 (dict_in x h2) fun hs r2 => ?_
 refine exG1_2 r2 fun kvs hd e => ?_
 refine exG1_4 (dict_dictOf hd) fun es' k1 k2 k3 k4 => ?_
 exact ⟨kvs, es', q1, k1, ⟨q1, rfl, rfl, k1⟩, k3, k2, k4, e, hs⟩
theorem attr_run {c : Addr} {nm : Str} {a : V} {va : Value} {b : Bool} {Q : V → St → Prop} {X : Ex → St → Prop} {E : Value → Shared → Prop} (hB : attrB g.K c nm = true) (Y : Ok g S md n C) (x : Sim g C st s) (ha : er va = a) (h : attrM c nm a Q X st) :
  wpAny (model g.prog g.w) C.A (getAttr va nm b) (Post g C VR Q) E s := by
 obtain ⟨h1, h2, hu, ho, h⟩ := h
 rw [er_ref ha]
 refine exG2_8 (inst_at x h1 h2) fun kvs es' i1 i2 I p _ _ e _ => ?_
 refine exG1_2 (dget_real e hu) fun v v1 v2 => ?_
 simp only [attrB, Bool.and_eq_true] at hB
 refine exG0_2 hB fun r3 b3 => ?_
 obtain ⟨b1, b2⟩ := r3
 split at b3
 ·rename_i at' hat
  exact get_value (Y.here x).kin I (plainGet_of b1).1 (findObj_own b2 hat b3 (getL_some p v1)) (handed_of v2 ho) ⟨_, st, v2, x.tick, h⟩
 ·k_call_by "c" b3
theorem ref_Attribute {c : Addr} {nm : Str} {p : M V} {e : Expr} {pos : Pos} (hB : attrB g.K c nm = true) (h : RefE g S md n p e)
  (he : ∀ env, eval (.Attribute e nm pos) env = (do
   let o ← eval e env
   standAt pos.atName
   let r ← holding [o] (getAttr o nm true)
   letTemporaryGo e o r
   pure r) := by intro _; with_unfolding_all rfl) : RefE g S md n (mbind p (attrM c nm)) (.Attribute e nm pos) := fun C Y st s Q X x hp =>
 Attribute_any_ (h.use Y x hp fun a va st1 s1 ha x1 h1 => attr_run hB Y x1 ha h1) (he _)
theorem dict_put_at {h : Heap} {d : Addr} {kvs : List (Str × Value)} {ep : Nat} {nm : Str} {v : Value} {t : Tok} (hd : h.DictAt (PySem.strKind g.prog g.w) d kvs ep) :
  ∃ ep', (h.update d (Obj.putName nm (hashStr g.w nm) (.str nm t) v)).DictAt (PySem.strKind g.prog g.w) d (stored kvs nm v) ep' := by
 refine exG1_4 (dict_dictOf hd) fun es ho hk hp hn => ?_
 have hkey : (PySem.strKind g.prog g.w).is nm (.str nm t) = true := isStrOf_self nm t
 have hidx : (es.findIdx? fun e => (PySem.strKind g.prog g.w).is nm e.key) = kvs.findIdx? fun kv => decide (kv.1 = nm) := hp.findIdx nm
 have hsame : (es.findIdx? fun e => e.key.isStr nm) = es.findIdx? fun e => (PySem.strKind g.prog g.w).is nm e.key := by
  have := pairs_strs hp
  clear hidx hk ho hd hp
  induction es with
  | nil => rfl
  | cons e r ih =>
   refine exG1_1 (this e (.head _)) fun k hk => ?_
   rw [List.findIdx?_cons, List.findIdx?_cons, isStr_of_is hk nm, ih fun e he => this e (.tail _ he)]
 have hput : Obj.putName nm (hashStr g.w nm) (.str nm t) v (dictOf es ep) = (match es.findIdx? (fun e => (PySem.strKind g.prog g.w).is nm e.key) with
   | some i => dictOf (es.modify i fun e => { e with val := v }) ep
   | none => dictOf (es ++ [⟨hashStr g.w nm, .str nm t, v⟩]) (ep + 1)) := by
  rw [Obj.putName_eq]
  unfold Obj.putNameByArray dictOf
  simp only [List.findIdx?_toArray, hsame]
  cases es.findIdx? fun e => (PySem.strKind g.prog g.w).is nm e.key <;> simp
 cases hi : es.findIdx? fun e => (PySem.strKind g.prog g.w).is nm e.key with
 | some i =>
  rw [hi] at hput
  dsimp only at hput
  refine ⟨ep, dictOf (es.modify i fun e => { e with val := v }) ep, (es.modify i fun e => { e with val := v }).toArray, ?_, ⟨rfl, rfl, rfl⟩, rfl, ?_, ?_, ?_⟩
  ·rw [Heap.get?_update_self _ ho (by rw [hput]; rfl), hput]
  ·have := hk.modify i v
   simpa using this
  ·rw [stored, if_pos (any_of_findIdx_some (hidx ▸ hi))]
   simpa using hp.modify hn hi v
  ·rw [stored, if_pos (any_of_findIdx_some (hidx ▸ hi)), keys_map_store]; exact hn
 | none =>
  rw [hi] at hput
  dsimp only at hput
  have hnot : nm ∉ kvs.map (·.1) := not_mem_of_findIdx_none (hidx ▸ hi)
  have hany : ¬ (kvs.any fun kv => decide (kv.1 = nm)) = true := by
   rw [List.any_eq_true]; rintro ⟨kv, hkv, he⟩
   exact hnot (List.mem_map.mpr ⟨kv, hkv, of_decide_eq_true he⟩)
  refine ⟨ep + 1, dictOf (es ++ [⟨hashStr g.w nm, .str nm t, v⟩]) (ep + 1), (es ++ ([⟨hashStr g.w nm, .str nm t, v⟩] : List DictEntry)).toArray, ?_, ⟨rfl, rfl, rfl⟩, rfl, ?_, ?_, ?_⟩
  ·rw [Heap.get?_update_self _ ho (by rw [hput]; rfl), hput]
  ·have : KeysOf (PySem.strKind g.prog g.w) (es.toArray.push ⟨hashStr g.w nm, .str nm t, v⟩) := hk.push hkey v
   simpa using this
  ·rw [stored, if_neg hany]
   simpa using hp.append hkey (hashStr g.w nm) v
  ·rw [stored, if_neg hany, List.map_append, List.nodup_append]
   refine ⟨hn, by simp, ?_⟩
   intro a ha b hb
   simp only [List.map_cons, List.map_nil, List.mem_singleton] at hb
   subst hb
   exact fun e => hnot (e ▸ ha)
theorem setattr_run {c : Addr} {nm : Str} {a u : V} {va vu : Value} {Q : Unit → St → Prop} {X : Ex → St → Prop} {E : Value → Shared → Prop} {G : Unit → Shared → Prop} (hB : setB g.K c nm = true) (Y : Ok g S md n C) (x : Sim g C st s)
  (ha : er va = a) (hu : er vu = u) (h : setAttrM c nm a u Q X st) (k : ∀ st' s', Sim g C st' s' → Q () st' → G () s') :
  wpAny (model g.prog g.w) C.A (setAttr va nm vu) G E s := by
 obtain @⟨a', d, es, ep, h1, h2, hz, h⟩ := h
 rw [er_ref ha]
 refine exG2_8 (inst_at x h1 h2) fun kvs es' i1 i2 I p kk nd e hs => ?_
 simp only [setB, Bool.and_eq_true, beq_iff_eq] at hB
 refine exG0_2 hB fun r4 b4 => ?_
 obtain ⟨⟨b1, b2⟩, b3⟩ := r4
 have X' := (Y.here x).kin
 refine set_plain X' I b1 (osa_open (s := { s with toks := s.toks + 1 }) X' I b2 b3 fun b => ?_)
 refine exG1_2 (any_some b4) fun cd hc hd' => ?_
 refine wpAny_bind (wpAny_pure (wpAny_bind (wpAny_bind (wpAny_loadPart i1 (wpAny_bind (Looks.here (s := { s with toks := s.toks + 1 }) (looks_clsIn X' hc) ?_))))))
 rw [hd']
 refine wpAny_pure (a := some d) (wpAny_bind (wpAny_pure (wpAny_bind ?_)))
 unfold nsSet
 refine wpAny_bind (wpAny_bind (wpAny_askSetting (wpAny_pure (wpAny_bind (wpAny_mkText (wpAny_bind (wpAny_loadPart i2 ?_)))))))
 dsimp only [dictOf]
 have c0 : (es'.toArray.any (·.refKey)) = false := by
  rw [← Array.any_toList, List.any_eq_false]
  intro en he
  refine exG1_1 (pairs_strs p en (by simpa using he)) fun k' hk => ?_
  refine exG1_1 (Value.isStrOf_shape hk) fun t ht => ?_
  simp [DictEntry.refKey, ht]
 rw [aRefKeyMayBeTheName_eq]
 unfold aRefKeyMayBeTheNameByArray
 rw [c0, Bool.and_false]
 refine wpAny_updatePart i2 ?_
 refine exG0_2 (dict_in x h2) fun _ r5 => ?_
 refine exG1_2 r5 fun kvs' hd2 e2 => ?_
 refine exG1_1 (dict_put_at (t := s.toks + 1) (nm := nm) (v := vu) hd2) fun ep' put => ?_
 refine exG1_4 (dict_dictOf put) fun es3 ho3 _ p3 _ => ?_
 have hlen : es3.length ≤ 1001 := by
  rw [p3.length]
  have := stored_length_le kvs' nm vu
  have l2 := congrArg List.length e2
  rw [List.length_map] at l2
  omega
 refine wpAny_bind (wpAny_lookBehind ho3 (pastItsLine_dict (by rw [List.size_toArray, sizeLine_eq]; omega)) (wpAny_pure ?_))
 refine k _ _ (x.change Y (tk := s.toks + 1 + 1) (o' := .dict (dput es nm u) ep') h2 (Heap.SameBut.update ..).extBut ⟨hs, _, put, ?_⟩) (h ep')
 rw [dput_map, e2, hu]
theorem ref_AssignAttr {c : Addr} {nm : Str} {p q : M V} {o e : Expr} {apos pos : Pos} (hB : setB g.K c nm = true) (hv : RefE g S md n p e) (ho : RefE g S md n q o)
  (hs : ∀ env, swapsWith e (some (.Attribute o nm apos)) pos.line env = pure false := by intro _; rfl) :
  RefS g S md n (mbind p fun v => mbind q fun a => mbind (setAttrM c nm a v) fun _ => mret .next) (.Assign [.Attribute o nm apos] e pos) := fun C Y st s Q X x hp =>
 plainObj_wpAny_Assign_Attribute (hv.use Y x hp fun v vv st1 s1 ev x1 h1 => ho.use Y x1 h1 fun a va st2 s2 ea x2 h2 =>
  setattr_run hB Y x2 ea ev h2 fun st3 s3 x3 q3 => ⟨.next, st3, trivial, x3, q3⟩) (hs _)
end Kk
end
section
namespace Kk
variable {g : Gx} {S : Sc} {md : Md} {n : Nat} {C : Cx} {st st' : St} {s : Shared} {α β γ δ : Type}
theorem len_er {vs : List Value} {xs : List V} (e : vs.map er = xs) : vs.length = xs.length := by rw [← e, List.length_map]
theorem size_er {vs : Array Value} {xs : List V} (e : vs.toList.map er = xs) : vs.size = xs.length := by rw [← e, List.length_map, Array.length_toList]
theorem sizeL : (1000 : Nat) ≤ sizeLine := by rw [sizeLine_eq]; omega
noncomputable abbrev RefX (g : Gx) (S : Sc) (md : Md) (n : Nat) (p : M (List V)) (es : List Expr) : Prop := ∀ pos, Ref g S md n (fun a b => b.map er = a) p (fun env => spliced (backTo pos (starEach es env)))
theorem refX_nil : RefX g S md n (mret []) [] := fun pos C Y st s Q X x h => wpAny_items_nil ⟨[], st, rfl, x, h⟩
theorem refX_cons {p : M V} {q : M (List V)} {e : Expr} {r : List Expr} (h : RefE g S md n p e) (hr : RefX g S md n q r) (he : ∀ env, starEach (e :: r) env = (false, eval e env) :: starEach r env := by intro _; rfl) :
  RefX g S md n (mbind p fun v => mbind q fun vs => mret (v :: vs)) (e :: r) := fun pos C Y st s Q X x hp =>
 wpAny_items_cons (h.use Y x hp fun v b st1 s1 hv x1 h1 => (hr pos).use Y x1 h1 fun vs bs st2 s2 hvs x2 h2 => ⟨_, st2, by show List.map er (b :: bs) = _; rw [List.map_cons, hv, hvs], x2, h2⟩) (he _)
noncomputable def tupM (xs : List V) : M V := fun Q _ st => xs.length ≤ 1000 ∧ ∀ a, st.μ a = none → Q (.ref a) (st.put a (.tup xs))
noncomputable def listM (xs : List V) : M V := fun Q _ st => xs.length ≤ 1000 ∧ ∀ a, st.μ a = none → Q (.ref a) (st.put a (.list xs))
theorem Sim.newTup (x : Sim g C st s) {vs : List Value} {xs : List V} (e : vs.map er = xs) : Sim g C (st.put s.heap.objs.size (.tup xs)) { s with heap := s.heap.push { cls := .type "tuple", data := .seq vs.toArray } } :=
 x.push (tk := s.toks) ⟨vs.toArray, 0, Heap.get?_push_size _ rfl, by simpa using e⟩
theorem Sim.newList (x : Sim g C st s) {vs : List Value} {xs : List V} (e : vs.map er = xs) : Sim g C (st.put s.heap.objs.size (.list xs)) { s with heap := s.heap.push { cls := .type "list", data := .seq vs.toArray } } :=
 x.push (tk := s.toks) ⟨vs.toArray, ⟨0, Heap.get?_push_size _ rfl⟩, by simpa using e⟩
theorem Sim.fresh (x : Sim g C st s) : st.μ s.heap.objs.size = none := x.mu_none (Heap.get?_none_of_le (Nat.le_refl _))
theorem ref_Tuple {p : M (List V)} {es : List Expr} {k : Nat} {pos : Pos} (h : RefX g S md n p es) : RefE g S md n (mbind p tupM) (.Tuple es k pos) := fun C Y st s Q X x hp =>
 wpAny_Tuple ((h pos).use Y x hp fun xs vs st1 s1 e x1 q0 => by obtain ⟨hz, q⟩ := q0; exact ⟨by rw [len_er e]; exact Nat.le_trans hz sizeL, _, _, rfl, x1.newTup e, q _ x1.fresh⟩)
theorem ref_List {p : M (List V)} {es : List Expr} {pos : Pos} (h : RefX g S md n p es) : RefE g S md n (mbind p listM) (.List es pos) := fun C Y st s Q X x hp =>
 wpAny_List ((h pos).use Y x hp fun xs vs st1 s1 e x1 q0 => by obtain ⟨hz, q⟩ := q0; exact ⟨by rw [len_er e]; exact Nat.le_trans hz sizeL, _, _, rfl, x1.newList e, q _ x1.fresh⟩)
inductive BinH (Q : V → St → Prop) (st : St) : Operator → V → V → Prop
 | addI {i j : Int} : Q (.int (i + j)) st → BinH Q st .Add (.int i) (.int j)
 | subI {i j : Int} : Q (.int (i - j)) st → BinH Q st .Sub (.int i) (.int j)
 | mulI {i j : Int} : i.natAbs ≤ 1000 → Q (.int (i * j)) st → BinH Q st .Mult (.int i) (.int j)
 | divI {i j : Int} : j ≠ 0 → j.natAbs ≤ 100000 → Q (.int (i.fdiv j)) st → BinH Q st .FloorDiv (.int i) (.int j)
 | modI {i j : Int} : j ≠ 0 → Q (.int (i.fmod j)) st → BinH Q st .Mod (.int i) (.int j)
 | addS {x y : Str} : x.length ≤ 100000 → y.length ≤ 100000 → Q (.str (x ++ y)) st → BinH Q st .Add (.str x) (.str y)
 | addL {a b : Addr} {xs ys : List V} : st.μ a = some (.list xs) → st.μ b = some (.list ys) → xs.length ≤ 1000 → ys.length ≤ 1000 → (∀ a, st.μ a = none → Q (.ref a) (st.put a (.list (xs ++ ys)))) → BinH Q st .Add (.ref a) (.ref b)
 | addT {a b : Addr} {xs ys : List V} : st.μ a = some (.tup xs) → st.μ b = some (.tup ys) → xs.length ≤ 1000 → ys.length ≤ 1000 → xs ≠ [] → ys ≠ [] → (∀ a, st.μ a = none → Q (.ref a) (st.put a (.tup (xs ++ ys)))) → BinH Q st .Add (.ref a) (.ref b)
noncomputable def binM (op : Operator) (a b : V) : M V := fun Q _ st => BinH Q st op a b
theorem bits_small {i : Int} (h : i.natAbs ≤ 1000) : Builtin.Int.intBits i ≤ 64 := by
 unfold Builtin.Int.intBits
 by_cases h0 : i.natAbs = 0
 ·have : i = 0 := by omega
  subst this; decide
 ·have : i.natAbs.log2 < 10 := (Nat.log2_lt h0).mpr (by omega)
  split <;> omega
theorem ne_er {us : Array Value} {zs : List V} (e : us.toList.map er = zs) (h : zs ≠ []) : ¬ us.isEmpty = true := by
 intro he
 have := size_er e
 rw [Array.isEmpty_iff_size_eq_zero.mp he] at this
 exact h (List.eq_nil_of_length_eq_zero this.symm)
theorem bin_run {op : Operator} {a b : V} {va vb : Value} {Q : V → St → Prop} {X : Ex → St → Prop} {E : Value → Shared → Prop} (Y : Ok g S md n C) (x : Sim g C st s) (ha : er va = a) (hb : er vb = b) (h : binM op a b Q X st) :
  wpAny (model g.prog g.w) C.A (binaryOp op va vb) (Post g C VR Q) E s := by
 induction h with
 | addI h => obtain ⟨t, rfl⟩ := er_int ha; obtain ⟨u, rfl⟩ := er_int hb; exact PySem.P.add_int ⟨_, st, rfl, x.tick, h⟩
 | subI h => obtain ⟨t, rfl⟩ := er_int ha; obtain ⟨u, rfl⟩ := er_int hb; exact PySem.P.sub_int ⟨_, st, rfl, x.tick, h⟩
 | mulI z h => obtain ⟨t, rfl⟩ := er_int ha; obtain ⟨u, rfl⟩ := er_int hb; exact PySem.P.mul_int ⟨_, st, rfl, x.tick, h⟩ (.of_left (bits_small z))
 | divI z z2 h => obtain ⟨t, rfl⟩ := er_int ha; obtain ⟨u, rfl⟩ := er_int hb; exact PyProof.Rows.floordiv_int z ⟨_, st, rfl, x.tick, h⟩ (.inl (PyProof.noPylong_small (by omega)))
 | modI z h => obtain ⟨t, rfl⟩ := er_int ha; obtain ⟨u, rfl⟩ := er_int hb; exact PyProof.Rows.mod_int' z ⟨_, st, rfl, x.tick, h⟩
 | addS z1 z2 h => obtain ⟨t, rfl⟩ := er_str ha; obtain ⟨u, rfl⟩ := er_str hb; exact PyProof.Rows.add_str (fun t' tk => ⟨_, st, rfl, x.tick, h⟩) (by rw [sizeLine_eq]; omega)
 | addL h1 h2 z1 z2 q =>
  rw [er_ref ha, er_ref hb]
  refine exG0_2 (x.objs _ _ h1) fun r1 _ => ?_
  obtain ⟨vs, ⟨n1, p1⟩, e1⟩ := r1
  refine exG0_2 (x.objs _ _ h2) fun r2 _ => ?_
  obtain ⟨ws, ⟨n2, p2⟩, e2⟩ := r2
  refine concat_meets ⟨_, p1, rfl⟩ ⟨_, p2, rfl⟩ noFill_list_add seq_list_add PySem.F.slot_list_add PySem.F.entry_list_add (PySem.F.args_list_add_2 _ _) (list_addW _ _ vs ws n1 n2 none none #[] #[] (by rw [size_er e1, size_er e2, sizeLine_eq]; omega)) ⟨p1, p2, ?_⟩
  rw [show (vs ++ ws) = (vs.toList ++ ws.toList).toArray from by simp]
  exact ⟨_, _, rfl, x.newList (by rw [List.map_append, e1, e2]), q _ x.fresh⟩
 | addT h1 h2 z1 z2 n1' n2' q =>
  rw [er_ref ha, er_ref hb]
  refine exG0_2 (x.objs _ _ h1) fun r3 _ => ?_
  obtain ⟨vs, n1, p1, e1⟩ := r3
  refine exG0_2 (x.objs _ _ h2) fun r4 _ => ?_
  obtain ⟨ws, n2, p2, e2⟩ := r4
  refine PySem.P.add_tuple p1 p2 (ne_er e1 n1') (ne_er e2 n2') ?_ (by rw [size_er e1, size_er e2, sizeLine_eq]; omega)
  rw [show (vs ++ ws) = (vs.toList ++ ws.toList).toArray from by simp]
  exact ⟨_, _, rfl, x.newTup (by rw [List.map_append, e1, e2]), q _ x.fresh⟩
theorem ref_BinOp {op : Operator} {p q : M V} {l r : Expr} {pos : Pos} (hl : RefE g S md n p l) (hr : RefE g S md n q r) : RefE g S md n (mbind p fun a => mbind q fun b => binM op a b) (.BinOp l op r pos) := fun C Y st s Q X x h =>
 wpAny_BinOp (hl.use Y x h fun a va st1 s1 ha x1 h1 => hr.use Y x1 h1 fun b vb st2 s2 hb x2 h2 => wpAny_mono (bin_run (E := PostX g C X) Y x2 ha hb h2) (fun _ _ p => p) fun _ _ e => e)
theorem ref_USub {p : M V} {e : Expr} {pos : Pos} (h : RefE g S md n p e) : RefE g S md n (mbind p fun a Q _ st => match a with | .int i => Q (.int (-i)) st | _ => False) (.UnaryOp .USub e pos) := fun C Y st s Q X x hp =>
 wpAny_UnaryOp (h.use Y x hp fun a va st1 s1 ha x1 h1 => by
  dsimp only at h1
  split at h1
  ·obtain ⟨t, rfl⟩ := er_int ha
   exact PySem.P.neg_int ⟨_, st1, rfl, x1.tick, h1⟩
  ·exact h1.elim)
inductive IopH (Q : V → St → Prop) (st : St) : Operator → V → V → Prop
 | addI {i j : Int} : Q (.int (i + j)) st → IopH Q st .Add (.int i) (.int j)
 | subI {i j : Int} : Q (.int (i - j)) st → IopH Q st .Sub (.int i) (.int j)
noncomputable def iopM (op : Operator) (a b : V) : M V := fun Q _ st => IopH Q st op a b
theorem iop_run {op : Operator} {a b : V} {va vb : Value} {Q : V → St → Prop} {X : Ex → St → Prop} {E : Value → Shared → Prop} (Y : Ok g S md n C) (x : Sim g C st s) (ha : er va = a) (hb : er vb = b) (h : iopM op a b Q X st) :
  wpAny (model g.prog g.w) C.A (inplaceOp op va vb) (Post g C VR Q) E s := by
 induction h with
 | addI h => obtain ⟨t, rfl⟩ := er_int ha; obtain ⟨u, rfl⟩ := er_int hb; exact PySem.P.iadd_int ⟨_, st, rfl, x.tick, h⟩
 | subI h => obtain ⟨t, rfl⟩ := er_int ha; obtain ⟨u, rfl⟩ := er_int hb; exact PySem.P.isub_int ⟨_, st, rfl, x.tick, h⟩
theorem ref_AugName {op : Operator} {x : Str} {p : M V} {e : Expr} {px pos : Pos} (hv : varOk S.sc x = true) (hs : stOk S x = true) (h : RefE g S md n p e) :
  RefS g S md n (mbind (locM x) fun a => mbind p fun b => mbind (iopM op a b) fun r => mbind (setM x r) fun _ => mret .next) (.AugAssign (.Name x px) op e pos) := by
 intro C Y st s Q X x' hp
 unfold mbind locM at hp
 split at hp
 ·rename_i v ev
  refine wpAny_AugAssign_Name (wpAny_mono (load_var (Q := fun v' st' => v' = v ∧ st' = st) (E := PostX g C X) hv Y x' ev ⟨rfl, rfl⟩) (fun old s1 h1 => ?_) fun _ _ e => e)
  refine exG2_4 h1 fun v' st1 e1 x1 r5 r6 => ?_
  obtain rfl := r5
  obtain rfl := r6
  refine h.use Y x1 hp fun b vb st2 s2 hb x2 h2 => ?_
  refine wpAny_mono (iop_run (E := PostX g C X) Y x2 e1 hb h2) (fun r s3 h3 => ?_) fun _ _ e => e
  revert h3; refine fun oO => exG2_3 oO fun w' st3 e3 x3 h3 => ?_
  refine store_var hs Y x3 fun s4 x4 => ⟨.next, _, trivial, x4, ?_⟩
  rw [e3]; exact h3
 ·exact hp.elim
theorem seqIndex_small {k : Int} {m j : Nat} (h : (0 ≤ k ∧ k < m ∧ j = k.toNat) ∨ (k < 0 ∧ -(m : Int) ≤ k ∧ j = (k + m).toNat)) (hm : m ≤ 1000) : -1000 ≤ k ∧ k ≤ 1000 := by omega
inductive IdxH (Q : V → St → Prop) (Xc : Ex → St → Prop) (st : St) : V → V → Prop
 | str {x : Str} {k : Int} {c : Nat} : (decide (-1000 ≤ k) && decide (k ≤ 1000)) = true → (seqIndex? k x.length).bind (x.cps[·]?) = some c → Q (.str ⟨#[c]⟩) st → IdxH Q Xc st (.str x) (.int k)
 | list {a : Addr} {k : Int} {xs : List V} {j : Nat} {u : V} : st.μ a = some (.list xs) → xs.length ≤ 1000 → seqIndex? k xs.length = some j → xs[j]? = some u → Q u st → IdxH Q Xc st (.ref a) (.int k)
 | tup {a : Addr} {k : Int} {xs : List V} {j : Nat} {u : V} : st.μ a = some (.tup xs) → xs.length ≤ 1000 → seqIndex? k xs.length = some j → xs[j]? = some u → Q u st → IdxH Q Xc st (.ref a) (.int k)
 | pin {a : Addr} {k : Int} {vs : Array Value} {j : Nat} {u : V} : st.μ a = some (.pin vs) → (vs.toList.map er).length ≤ 1000 → seqIndex? k (vs.toList.map er).length = some j → (vs.toList.map er)[j]? = some u → Q u st → IdxH Q Xc st (.ref a) (.int k)
 | dict {a : Addr} {k : Str} {es : List (Str × V)} {ep : Nat} {u : V} : st.μ a = some (.dict es ep) → dget es k = some u → Q u st → IdxH Q Xc st (.ref a) (.str k)
 | key {a : Addr} {k : Str} {es : List (Str × V)} {ep : Nat} : st.μ a = some (.dict es ep) → dget es k = none → Xc .key st → IdxH Q Xc st (.ref a) (.str k)
noncomputable def idxM (o i : V) : M V := fun Q Xc st => IdxH Q Xc st o i
theorem seqIndex_lt {k : Int} {m j : Nat} (h : seqIndex? k m = some j) : (0 ≤ k ∧ k < m ∧ j = k.toNat) ∨ (k < 0 ∧ -(m : Int) ≤ k ∧ j = (k + m).toNat) := by
 unfold seqIndex? at h
 by_cases h0 : k < 0
 ·rw [if_pos h0] at h
  dsimp only at h
  split at h
  ·rename_i h2; k_call_by "c" h; refine .inr ⟨h0, ?_, rfl⟩; simp at h2; omega
  ·k_call_by "c" h
 ·rw [if_neg h0] at h
  dsimp only at h
  split at h
  ·rename_i h2; k_call_by "c" h; simp at h2; exact .inl ⟨h2.1, h2.2, rfl⟩
  ·k_call_by "c" h
theorem er_at {vs : Array Value} {xs : List V} (e : vs.toList.map er = xs) {j : Nat} {u : V} (h : xs[j]? = some u) : ∃ v, vs[j]? = some v ∧ er v = u := by
 rw [← e, List.getElem?_map] at h
 refine exG1_2 (Option.map_eq_some_iff.mp h) fun v a b => ?_
 exact ⟨v, by rw [← Array.getElem?_toList]; exact a, b⟩
theorem list_item {a : Addr} {vs : Array Value} {xs : List V} {k : Int} {t : Tok} {j : Nat} {u : V} {Q : V → St → Prop} {E : Value → Shared → Prop} (x : Sim g C st s) (p : s.heap.IsList a vs) (e : vs.toList.map er = xs) (hz : xs.length ≤ 1000) (hj : seqIndex? k xs.length = some j) (hv : xs[j]? = some u) (q : Q u st) :
  wpAny (model g.prog g.w) C.A (getItem (.ref a) (.int k t)) (Post g C VR Q) E s := by
 refine exG1_2 (er_at e hv) fun v hv' hv2 => ?_
 have hsz := size_er e
 rcases seqIndex_lt hj with ⟨h1, h2, h3⟩ | ⟨h1, h2, h3⟩
 ·rw [h3] at hv'; exact wpAny_getItem_list p h1 (by omega) hv' ⟨_, st, hv2, x, q⟩
 ·rw [h3] at hv'; exact wpAny_getItem_list_neg p h1 (by omega) (by omega) (by rw [hsz]; exact hv') ⟨_, st, hv2, x, q⟩
theorem idx_run {a b : V} {va vb : Value} {Q : V → St → Prop} {X : Ex → St → Prop} {E : Value → Shared → Prop} (Y : Ok g S md n C) (x : Sim g C st s) (ha : er va = a) (hb : er vb = b) (h : IdxH Q X st a b)
  (hk : ∀ d k t es ep, va = .ref d → vb = .str k t → st.μ d = some (.dict es ep) → dget es k = none → X .key st → wpAny (model g.prog g.w) C.A (getItem va vb) (Post g C VR Q) E s) :
  wpAny (model g.prog g.w) C.A (getItem va vb) (Post g C VR Q) E s := by
 induction h with
 | str hz hc h =>
  obtain ⟨t, rfl⟩ := er_str ha
  obtain ⟨u, rfl⟩ := er_int hb
  refine PySem.P.getItem_str ?_ hc ⟨_, st, rfl, x.tick, h⟩
  simp only [Bool.and_eq_true, decide_eq_true_eq] at hz
  simp only [Bool.or_eq_false_iff, decide_eq_false_iff_not]
  omega
 | list hm hz hj hv h =>
  obtain ⟨u, rfl⟩ := er_int hb
  rw [er_ref ha]
  refine exG0_2 (x.objs _ _ hm) fun r7 _ => ?_
  obtain ⟨vs, p, e⟩ := r7
  exact list_item x p.isList e hz hj hv h
 | tup hm hz hj hv h =>
  obtain ⟨u, rfl⟩ := er_int hb
  rw [er_ref ha]
  refine exG0_2 (x.objs _ _ hm) fun r8 _ => ?_
  obtain ⟨vs, n', p, e⟩ := r8
  refine exG1_2 (er_at e hv) fun v hv' hv2 => ?_
  have hk := seqIndex_small (seqIndex_lt hj) hz
  exact PySem.P.getItem_tuple p (by omega) (by omega) (by rw [size_er e]; exact hj) hv' ⟨_, st, hv2, x, h⟩
 | pin hm hz hj hv h =>
  obtain ⟨u, rfl⟩ := er_int hb
  rw [er_ref ha]
  exact list_item x ⟨_, (x.objs _ _ hm).1, rfl, 0, rfl⟩ rfl hz hj hv h
 | dict hm hv h =>
  obtain ⟨u, rfl⟩ := er_str hb
  rw [er_ref ha]
  refine exG0_2 (dict_in x hm) fun hs r9 => ?_
  refine exG1_2 r9 fun kvs hd e => ?_
  refine exG1_2 (dget_real e hv) fun v' a1 a2 => ?_
  exact wpAny_getItem_of (isStrOf_self _ u) hd.dictOf.mapOf a1 ⟨_, st, a2, x.tick, h⟩
 | key hm hv h =>
  refine exG1_1 (er_str hb) fun u e => ?_
  exact hk _ _ _ _ _ (er_ref ha) e hm hv h
end Kk
end
section
namespace Kk
variable {g : Gx} {S : Sc} {md : Md} {n : Nat} {C : Cx} {st st' : St} {s : Shared} {h' : Heap} {tk : Nat} {α β γ δ : Type}
theorem Sim.slots (x : Sim g C st s) (Y : Ok g S md n C) {F : List Addr} (hF : ∀ a ∈ F, a = C.env.locals ∨ ∃ d, C.fr a = some d) (k : Heap.SlotsOnly F s.heap h') : Sim g C st { s with heap := h' } := by
 have off : ∀ a, a ≠ C.env.locals → C.fr a = none → h'.get? a = s.heap.get? a := fun a h1 h2 => k.2.1 a fun hm => by
  rcases hF a hm with e | ⟨d, e⟩
  ·exact h1 e
  ·rw [h2] at e; k_call_by "c" e
 have kb : ∀ b o, C.base b = some o → h'.get? b = some o := fun b o e => (off b (fun q => by have := Y.baseL; rw [← q, e] at this; k_call_by "c" this) (by
  cases q : C.fr b with
  | none => rfl
  | some d => have := Y.frB b d q; rw [e] at this; k_call_by "c" this)).trans (x.base b o e)
 have kc : ∀ c ∈ C.own, h'.get? c = s.heap.get? c := fun c hc => off c (Y.ownL c hc).1 (Y.ownL c hc).2.2
 refine ⟨x.gens, x.drawn, x.os, kb, ?_, ?_, ?_, fun a o e => ⟨(x.objs a o e).1.at fun ob hb => (off a (x.objs a o e).2.1 (x.objs a o e).2.2.2.2).trans hb, (x.objs a o e).2⟩⟩
 ·refine exG1_2 x.vars fun m r1 hv => ?_
  obtain ⟨o, es, ep, ho, hd, r⟩ := r1
  refine exG1_1 (k.2.2 _ _ ho) fun sl hs => ?_
  refine ⟨m, ⟨_, es, ep, hs, hd, r⟩, fun y u e => (hv y u e).keep fun c v hl hc => isCell_keep hc fun ob hb => ?_⟩
  rcases Y.cells y c hl with h | ⟨o', h⟩
  ·exact (kc c h).trans hb
  ·have := kb c o' h
   rw [x.base c o' h] at hb; k_call_by "c" hb; exact this
 ·intro c hc
  refine exG1_1 (x.cells c hc) fun v hv => ?_
  exact ⟨v, isCell_keep hv fun ob hb => (kc c hc).trans hb⟩
 ·intro a d e
  refine exG1_2 (x.frs a d e) fun o ho hd => ?_
  refine exG1_1 (k.2.2 _ _ ho) fun sl hs => ?_
  exact ⟨_, hs, hd⟩
theorem Sim.funFrames (x : Sim g C st s) (Y : Ok g S md n C) (hf : C.env.frame = some C.env.locals) : s.heap.FunFrames {} (C.env :: C.outer) := by
 have hk : C.env.scope.kind ≠ .module := by rw [Y.scope, Y.kind]; decide
 have none : ∀ a, (({} : Heap)).get? a = Option.none := fun a => by unfold Heap.get?; simp
 refine ⟨hk, ?_, ?_⟩
 ·refine exG1_2 x.vars fun m r2 hv => ?_
  obtain ⟨o, es, ep, ho, hd, r⟩ := r2
  exact ⟨_, o, hf, none _, ho, fun vs q => by rw [hd] at q; k_call_by "c" q⟩
 ·have := Y.outs
  generalize C.outer = l at this ⊢
  induction l with
  | nil => trivial
  | cons e r ih =>
   refine exG0_2 (this e (.head _)) fun h1 r3 => ?_
   refine exG2_3 r3 fun L d h2 h3 h4 => ?_
   refine exG1_2 (x.frs L d h3) fun o ho hd => ?_
   exact ⟨h1, ⟨L, o, h2, none _, ho, fun vs => hd ▸ h4 vs⟩, ih fun e' he => this e' (.tail _ he)⟩
theorem frames_in (Y : Ok g S md n C) (hf : C.env.frame = some C.env.locals) : ∀ a ∈ (C.env :: C.outer).filterMap (·.frame), a = C.env.locals ∨ ∃ d, C.fr a = some d := by
 intro a ha
 refine exG1_2 (List.mem_filterMap.mp ha) fun e he hfe => ?_
 rcases List.mem_cons.mp he with rfl | he
 ·rw [hf] at hfe; k_call_by "c" hfe; exact .inl rfl
 ·refine exG0_2 (Y.outs e he) fun _ r4 => ?_
  refine exG2_3 r4 fun L d h2 h3 _ => ?_
  rw [h2] at hfe; k_call_by "c" hfe
  exact .inr ⟨d, h3⟩
theorem entry_run {x : Ex} {a : Addr} {oe : Obj} {vs : Array Value} {head : Value} {b : Bool} {E : Value → Shared → Prop} {Q : Unit → Shared → Prop} (Y : Ok g S md n C) (hfr : C.A.frames = some (C.env :: C.outer)) (hf : C.env.frame = some C.env.locals)
  (sx : Sim g C st s) (ho : s.heap.get? a = some oe) (hc : oe.cls = exCls g x) (hd : oe.data = .fields vs) (hz : 1 < vs.size) (oa : Off C a) (ma : st.μ a = none)
  (h : ∀ s', Sim g C st s' → Raised g C st x (.ref a) s'.heap (some (rawInt C.env.locals)) → Q () s') :
  wpAny (model g.prog g.w) C.A (do let f ← frameOf C.env; let pl ← entryPlaceOf C.env.locals b; let t ← EntryCells.newEntry head f .none (rawInt C.env.locals) .none pl; setField (.ref a) 1 t) Q E s := by
 refine wpAny_bind (wpAny_frameOf_fun hfr (sx.funFrames Y hf) hf fun h₁ hs₁ => ?_)
 have x1 := sx.slots Y (frames_in Y hf) hs₁
 have aF : a ∉ (C.env :: C.outer).filterMap (·.frame) := fun hm => by
  rcases frames_in Y hf a hm with e | ⟨d, e⟩
  ·exact oa.1 e
  ·have := oa.2.2.2; rw [e] at this; k_call_by "c" this
 have ho₁ : h₁.get? a = some oe := (hs₁.2.1 a aF).trans ho
 refine wpAny_bind (wpAny_entryPlaceOf fun pl hpl => ?_)
 unfold EntryCells.newEntry newFields
 refine wpAny_bind (wpAny_newObj_type ?_ (hpl.sizeOk5 _ _ _ _ _))
 generalize hob : ({ cls := .type "traceback", dict := none, data := .fields ([head, .ref C.env.locals, .none, rawInt C.env.locals, .none] ++ (if pl.isEmpty then List.replicate 6 Value.none else pl)).toArray } : Obj) = ob
 have hne : h₁.objs.size ≠ a := Nat.ne_of_gt (Heap.lt_size ho₁)
 have x2 : Sim g C st { s with heap := h₁.push ob } := x1.grow (tk := s.toks) fun _ _ e => Heap.get?_push_of_some _ e
 have ho₂ : (h₁.push ob).get? a = some oe := Heap.get?_push_of_some _ ho₁
 have nT : ({ s with heap := h₁ } : Shared).heap.get? h₁.objs.size = none := Heap.get?_none_of_le (Nat.le_refl _)
 refine wpAny_setField ho₂ hd hz ?_
 have x3 : Sim g C st { s with heap := (h₁.push ob).update a (Obj.mapFields (·.setIfInBounds 1 (Value.ref h₁.objs.size))) } := x2.temp (tk := s.toks) Y oa ma (Heap.SameBut.update ..).extBut
 refine h _ x3 ⟨a, _, _, rfl, Heap.get?_update_self _ ho₂ (Obj.isFreed_of_fields (Obj.data_mapFields hd _)), (Obj.cls_mapFields ..).trans hc, Obj.data_mapFields hd _, by simpa using hz, oa, ma, ?_⟩
 refine ⟨h₁.objs.size, ob, _, by simp [hz], hne, ?_, by rw [← hob], ?_, x1.off_new nT, x1.mu_none nT⟩
 ·show ((h₁.push ob).update a _).get? _ = _
  rw [Heap.get?_update_other _ _ (Ne.symm hne)]
  exact Heap.get?_push_size _ (by rw [← hob]; rfl)
 ·rcases hpl with rfl | ⟨_, _, _, _, _, _, _, rfl⟩ <;> simp
theorem note_run {x : Ex} {e : Value} {fl : Option Value} {E : Value → Shared → Prop} {Q : Unit → Shared → Prop} (Y : Ok g S md n C) (hm : md ≠ .comp) (sx : Sim g C st s) (hfl : fl = none ∨ fl = some .none ∨ fl = some (rawInt C.env.locals))
  (R : Raised g C st x e s.heap fl) (h : ∀ s', Sim g C st s' → Raised g C st x e s'.heap (some (rawInt C.env.locals)) → Q () s') :
  wpAny (model g.prog g.w) C.A (noteFrame e C.env) Q E s := by
 refine exG0_2 (Y.frames.resolve_left hm) fun hfr hf => ?_
 refine exG3_8 R fun a oe vs r5 ho hc hd hz oa ma hT => ?_
 obtain rfl := r5
 unfold noteFrame
 simp only [hf]
 rcases hfl with rfl | rfl | rfl
 ·dsimp only at hT
  refine wpAny_bind (wpAny_field ho hd hT ?_)
  rw [if_neg (by decide)]
  exact entry_run Y hfr hf sx ho hc hd hz oa ma h
 ·dsimp only at hT
  refine exG3_7 hT fun T oT ts h1 h2 h3 h4 h5 h6 h7 => ?_
  refine wpAny_bind (wpAny_field ho hd h1 ?_)
  rw [if_pos (show (Value.ref T != Value.none) = true from by simp)]
  refine wpAny_bind (wpAny_field h3 h4 h5 ?_)
  rw [if_neg (show ¬ ((Value.none == rawInt C.env.locals) = true) from by simp [rawInt])]
  refine wpAny_bind (wpAny_setField h3 h4 (Array.getElem?_eq_some_iff.mp h5).1 ?_)
  have x2 : Sim g C st { s with heap := s.heap.update T (Obj.mapFields (·.setIfInBounds 3 Value.none)) } := sx.temp (tk := s.toks) Y h6 h7 (Heap.SameBut.update ..).extBut
  exact entry_run Y hfr hf x2 ((Heap.get?_update_other _ _ h2).trans ho) hc hd hz oa ma h
 ·dsimp only at hT
  refine exG3_7 hT fun T oT ts h1 h2 h3 h4 h5 h6 h7 => ?_
  refine wpAny_bind (wpAny_field ho hd h1 ?_)
  rw [if_pos (show (Value.ref T != Value.none) = true from by simp)]
  refine wpAny_bind (wpAny_field h3 h4 h5 ?_)
  rw [if_pos (show (rawInt C.env.locals == rawInt C.env.locals) = true from by simp)]
  exact wpAny_pure (h _ sx ⟨a, oe, vs, rfl, ho, hc, hd, hz, oa, ma, T, oT, ts, h1, h2, h3, h4, h5, h6, h7⟩)
theorem flight_run {x : Ex} {e : Value} {f : Value} {fr : Option Addr} {E : Value → Shared → Prop} {Q : Unit → Shared → Prop} (Y : Ok g S md n C) (sx : Sim g C st s)
  (R : Raised g C st x e s.heap (some f)) (h : ∀ s', Sim g C st s' → Raised g C st x e s'.heap (some (fr.elim .none fun f => rawInt f)) → Q () s') :
  wpAny (model g.prog g.w) C.A (setFlight e fr) Q E s := by
 refine exG3_8 R fun a oe vs r6 ho hc hd hz oa ma hT => ?_
 obtain rfl := r6
 dsimp only at hT
 refine exG3_7 hT fun T oT ts h1 h2 h3 h4 h5 h6 h7 => ?_
 unfold setFlight
 refine wpAny_bind (wpAny_field ho hd h1 ?_)
 rw [if_pos (show (Value.ref T != Value.none) = true from by simp)]
 have hz3 := (Array.getElem?_eq_some_iff.mp h5).1
 refine wpAny_setField h3 h4 hz3 ?_
 have x2 : Sim g C st { s with heap := s.heap.update T (Obj.mapFields (·.setIfInBounds 3 (fr.elim Value.none fun f => rawInt f))) } := sx.temp (tk := s.toks) Y h6 h7 (Heap.SameBut.update ..).extBut
 refine h _ x2 ⟨a, oe, vs, rfl, (Heap.get?_update_other _ _ h2).trans ho, hc, hd, hz, oa, ma, T, _, _, h1, h2, Heap.get?_update_self _ h3 (Obj.isFreed_of_fields (Obj.data_mapFields h4 _)), Obj.data_mapFields h4 _, by simp [hz3], h6, h7⟩
theorem noted_of {X : Ex → St → Prop} {E : Value → Shared → Prop} {e : Value} (Y : Ok g S md n C) (hm : md ≠ .comp)
  (h : ∀ x st s', Sim g C st s' → X x st → Raised g C st x e s'.heap (some (rawInt C.env.locals)) → E e s') (p : PostX g C X e s) : notedBy (model g.prog g.w) C.A C.env E e s := by
 refine exG3_4 p fun x st fl sx hX hfl R => ?_
 unfold notedBy
 exact note_run Y hm sx hfl R fun s' x' R' => h x st s' x' hX R'
theorem came_back {X : Ex → St → Prop} {e : Value} {x : Ex} (Y : Ok g S md n C) (hm : md ≠ .comp) (sx : Sim g C st s) (hX : X x st) (R : Raised g C st x e s.heap (some (rawInt C.env.locals))) :
  cameBackBy (model g.prog g.w) C.A C.env (PostX g C X) e s := by
 refine exG0_2 (Y.frames.resolve_left hm) fun hfr hf => ?_
 unfold cameBackBy
 refine exG3_8 (id R) fun a oe vs r7 ho hc hd hz oa ma r8 => ?_
 obtain rfl := r7
 refine exG3_7 r8 fun T oT ts h1 h2 h3 h4 h5 h6 h7 => ?_
 refine wpAny_bind (wpAny_field ho hd h1 ?_)
 rw [if_neg (show ¬ ((Value.ref T == Value.none) = true) from by simp)]
 refine flight_run Y sx R fun s' x' R' => ?_
 refine ⟨x, st, _, x', hX, .inr (.inr rfl), ?_⟩
 rw [hf] at R'
 exact R'
end Kk
end
section
namespace Kk
variable {g : Gx} {S : Sc} {md : Md} {n : Nat} {C : Cx} {st st' : St} {s : Shared} {h' : Heap} {tk : Nat} {α β γ δ : Type}
noncomputable def rebase (C : Cx) (st : St) (h : Heap) : Cx := { C with base := fun b => if (st.μ b).isSome || decide (b = C.env.locals) || decide (b ∈ C.own) || (C.fr b).isSome then none else h.get? b }
theorem base_sub (Y : Ok g S md n C) (x : Sim g C st s) {b : Addr} {o : Obj} (h : C.base b = some o) : (rebase C st s.heap).base b = some o := by
 unfold rebase
 dsimp only
 have h1 : (st.μ b).isSome = false := by
  cases e : st.μ b with
  | none => rfl
  | some q => have := (x.objs b q e).2.2.2.1; rw [h] at this; k_call_by "c" this
 have h2 : b ≠ C.env.locals := by rintro rfl; have := Y.baseL; rw [h] at this; k_call_by "c" this
 have h3 : b ∉ C.own := fun hm => by have := (Y.ownL b hm).2.1; rw [h] at this; k_call_by "c" this
 have h4 : (C.fr b).isSome = false := by
  cases e : C.fr b with
  | none => rfl
  | some d => have := Y.frB b d e; rw [h] at this; k_call_by "c" this
 rw [h1, h4, decide_eq_false h2, decide_eq_false h3]
 exact x.base b o h
theorem rebase_none {b : Addr} {h : Heap} (e : (st.μ b).isSome = true ∨ b = C.env.locals ∨ b ∈ C.own ∨ (C.fr b).isSome = true) : (rebase C st h).base b = none := by
 unfold rebase
 dsimp only
 rw [if_pos]
 simp only [Bool.or_eq_true, decide_eq_true_eq]
 rcases e with e | e | e | e
 ·exact .inl (.inl (.inl e))
 ·exact .inl (.inl (.inr e))
 ·exact .inl (.inr e)
 ·exact .inr e
theorem rebase_some {b : Addr} {o : Obj} {h : Heap} (e : (rebase C st h).base b = some o) : h.get? b = some o := by
 unfold rebase at e
 dsimp only at e
 split at e
 ·k_call_by "c" e
 ·exact e
theorem rebase_has {b : Addr} {o : Obj} {h : Heap} (e : h.get? b = some o) (hb : Off C b) (hm : st.μ b = none) : (rebase C st h).base b = some o := by
 unfold rebase
 dsimp only
 rw [hm, hb.2.2.2, decide_eq_false hb.1, decide_eq_false hb.2.1]
 exact e
theorem rebase_ok (Y : Ok g S md n C) (x : Sim g C st s) : Ok g S md n (rebase C st s.heap) where
 stat := fun h hb => Y.stat h fun b o e => hb b o (base_sub Y x e)
 scope := Y.scope
 kind := Y.kind
 glob := Y.glob
 blt := Y.blt
 cells := fun y c h => (Y.cells y c h).imp id fun q0 => by obtain ⟨o, e⟩ := q0; exact ⟨o, base_sub Y x e⟩
 ownL := fun c hc => ⟨(Y.ownL c hc).1, rebase_none (.inr (.inr (.inl hc))), (Y.ownL c hc).2.2⟩
 baseL := rebase_none (.inr (.inl rfl))
 frL := Y.frL
 frB := fun a d e => rebase_none (.inr (.inr (.inr (by
  have : C.fr a = some d := e
  rw [this]; rfl))))
 ownN := Y.ownN
 inj := Y.inj
 code := Y.code
 clo := Y.clo
 hnd := Y.hnd
 guards := Y.guards
 frames := Y.frames
 outs := Y.outs
 depth := Y.depth
 units := Y.units
theorem rebase_sim (x : Sim g C st s) : Sim g (rebase C st s.heap) st s :=
 ⟨x.gens, x.drawn, x.os, fun b o e => rebase_some e, x.vars, x.cells, x.frs, fun a o e => ⟨(x.objs a o e).1, (x.objs a o e).2.1, (x.objs a o e).2.2.1, rebase_none (.inl (by rw [e]; rfl)), (x.objs a o e).2.2.2.2⟩⟩
theorem off_of_rebase (Y : Ok g S md n C) (x : Sim g C st s) {a : Addr} (h : Off (rebase C st s.heap) a) : Off C a :=
 ⟨h.1, h.2.1, (by
  cases e : C.base a with
  | none => rfl
  | some o => have := base_sub Y x e; rw [h.2.2.1] at this; k_call_by "c" this), h.2.2.2⟩
theorem unbase {s' : Shared} (Y : Ok g S md n C) (x : Sim g C st s) (x' : Sim g (rebase C st s.heap) st' s') : Sim g C st' s' :=
 ⟨x'.gens, x'.drawn, x'.os, fun b o e => x'.base b o (base_sub Y x e), x'.vars, x'.cells, x'.frs, fun a o e => ⟨(x'.objs a o e).1, off_of_rebase Y x (x'.objs a o e).2⟩⟩
theorem unbaseX {s' : Shared} {X : Ex → St → Prop} {e : Value} (Y : Ok g S md n C) (x : Sim g C st s) (h : PostX g (rebase C st s.heap) X e s') : PostX g C X e s' := by
 refine exG3_4 h fun k st1 fl x1 hX hfl r1 => ?_
 refine exG3_8 r1 fun a oe vs e1 e2 e3 e4 e5 e6 e7 e8 => ?_
 refine ⟨k, st1, fl, unbase Y x x1, hX, hfl, a, oe, vs, e1, e2, e3, e4, e5, off_of_rebase Y x e6, e7, ?_⟩
 induction fl with
 | none => exact e8
 | some f =>
  refine exG3_7 e8 fun T oT ts h1 h2 h3 h4 h5 h6 h7 => ?_
  exact ⟨T, oT, ts, h1, h2, h3, h4, h5, off_of_rebase Y x h6, h7⟩
theorem keep_run {P : Addr → Prop} {R : α → β → Prop} {p : M α} {t : Env → Sem β} {Q : α → St → Prop} {X : Ex → St → Prop} (r : Ref g S md n R p t) (Y : Ok g S md n C) (x : Sim g C st s) (hP : ∀ b, P b → Off C b ∧ st.μ b = none) (h : p Q X st) :
  wpAny (model g.prog g.w) C.A (t C.env) (fun b s' => ∃ a st', R a b ∧ Sim g C st' s' ∧ Q a st' ∧ (∀ b, P b → (s.heap.get? b).isSome = true → st'.μ b = none) ∧ ∀ b o, P b → s.heap.get? b = some o → s'.heap.get? b = some o) (PostX g C X) s := by
 refine wpAny_mono (r (rebase C st s.heap) (rebase_ok Y x) st s Q X (rebase_sim x) h) (fun b s' ⟨a, st', hr, x', q⟩ => ⟨a, st', hr, unbase Y x x', q, ?_, ?_⟩) fun e s' he => unbaseX Y x he
 ·intro b hb hs
  refine exG1_1 (Option.isSome_iff_exists.mp hs) fun o ho => ?_
  cases e : st'.μ b with
  | none => rfl
  | some ob =>
   have h1 := (x'.objs b ob e).2.2.2.1
   rw [rebase_has ho (hP b hb).1 (hP b hb).2] at h1; k_call_by "c" h1
 ·intro b o hb ho
  exact x'.base b o (rebase_has ho (hP b hb).1 (hP b hb).2)
noncomputable def forM {ι : Type} (cur : Nat → St → Option ι → Prop) (asg : ι → M Unit) (body els : M Fl) : Nat → List ι → M Fl
 | i, [] => fun Q X st => cur i st none ∧ els Q X st
 | i, x :: r => fun Q X st => cur i st (some x) ∧ asg x (fun _ st1 => body (fun f st2 => match f with
   | .brk => Q .next st2
   | .ret v => Q (.ret v) st2
   | _ => forM cur asg body els (i + 1) r Q X st2) X st1) X st
structure Proto (g : Gx) (C : Cx) {ι : Type} (I : Addr) (P : Addr → Prop) (It : Nat → Heap → Prop) (cur : Nat → St → Option ι → Prop) (target : Expr) (asg : ι → M Unit) : Prop where
 off : ∀ b, P b → Off C b
 stable : ∀ i h h', It i h → (∀ b o, P b → h.get? b = some o → h'.get? b = some o) → It i h'
 there : ∀ i h, It i h → ∀ b, P b → (h.get? b).isSome = true
 item : ∀ i x st s (Q : Unit → St → Prop) (X : Ex → St → Prop), (∀ b, P b → st.μ b = none) → cur i st (some x) → It i s.heap → Sim g C st s → asg x Q X st →
  wpAny (model g.prog g.w) C.A (pyNext (.ref I)) (fun r s1 => ∃ v, r = some v ∧ wpAny (model g.prog g.w) C.A (letOwnedTupleGo target (.ref I) v) (fun _ s2 =>
   wpAny (model g.prog g.w) C.A (assign target C.env v) (fun _ s3 => ∃ st', Sim g C st' s3 ∧ It (i + 1) s3.heap ∧ (∀ b, P b → st'.μ b = none) ∧ (∀ b o, ¬ P b → Off C b → st.μ b = none → s.heap.get? b = some o → st'.μ b = none ∧ s3.heap.get? b = some o) ∧ Q () st') (PostX g C X) s2) (PostX g C X) s1) (PostX g C X) s
 done : ∀ i st s (E : Value → Shared → Prop), (∀ b, P b → st.μ b = none) → cur i st none → It i s.heap → Sim g C st s → wpAny (model g.prog g.w) C.A (pyNext (.ref I)) (fun r s1 => r = none ∧ Sim g C st s1 ∧ ∀ b o, ¬ P b → s.heap.get? b = some o → s1.heap.get? b = some o) E s
theorem for_run {ι : Type} {I : Addr} {P : Addr → Prop} {It : Nat → Heap → Prop} {cur : Nat → St → Option ι → Prop} {target : Expr} {asg : ι → M Unit} {pb pe : M Fl} {body orelse : List Stmt} {Q : Fl → St → Prop} {X : Ex → St → Prop}
  (Pr : Proto g C I P It cur target asg) (Y : Ok g S md n C) (hm : md ≠ .comp) (hb : RefB g S md n pb body) (he : RefB g S md n pe orelse) {i : Nat} {rest : List ι}
  (h : forM cur asg pb pe i rest Q X st) (hI : It i s.heap) (x : Sim g C st s) (hP : ∀ b, P b → st.μ b = none) :
  codeAny (model g.prog g.w) C.A (.forLoop target (.ref I) body orelse C.env) (fun r s' => match r with | .ok f => Post g C FlR Q f s' | .error e => cameBackBy (model g.prog g.w) C.A C.env (PostX g C X) e s') s := by
 have noted : ∀ e s', PostX g C X e s' → notedBy (model g.prog g.w) C.A C.env (fun e s' => cameBackBy (model g.prog g.w) C.A C.env (PostX g C X) e s') e s' := fun e s' p =>
  noted_of Y hm (fun k st2 s2 x2 hX R => came_back Y hm x2 hX R) p
 refine codeAny_forLoop_any (fun k s => ∃ i rest st, k = rest.length ∧ forM cur asg pb pe i rest Q X st ∧ It i s.heap ∧ Sim g C st s ∧ ∀ b, P b → st.μ b = none) ?_ rest.length ⟨i, rest, st, rfl, h, hI, x, hP⟩
 intro k s q0q
 refine exG3_5 q0q fun i rest st r2 h hI x hP => ?_
 obtain rfl := r2
 induction rest with
 | nil =>
  unfold forM at h
  refine wpAny_mono (Pr.done i st s _ hP h.1 hI x) (fun r s1 h1 => ?_) fun _ _ e => e
  refine exG0_3 h1 fun r3 x1 _ => ?_
  obtain rfl := r3
  refine wpAny_mono (he C Y st s1 Q X x1 h.2) (fun f s2 p => p) noted
 | cons y rest =>
  unfold forM at h
  refine wpAny_mono (Pr.item i y st s _ X hP h.1 hI x h.2) (fun r s1 h1 => ?_) noted
  revert h1; refine fun oO => exG1_2 oO fun v r4 h1 => ?_
  obtain rfl := r4
  refine wpAny_mono h1 (fun _ s2 h2 => ?_) noted
  refine wpAny_mono h2 (fun _ s3 h3 => ?_) noted
  revert h3; refine fun oO => exG1_5 oO fun st3 x3 hI3 hP3 _ h3 => ?_
  refine wpAny_mono (keep_run (P := P) hb Y x3 (fun b hb => ⟨Pr.off b hb, hP3 b hb⟩) h3) (fun f s4 h4 => ?_) noted
  revert h4; refine fun oO => exG2_5 oO fun f' st4 hf x4 h4 hP4 k4 => ?_
  have hI4 : It (i + 1) s4.heap := Pr.stable _ _ _ hI3 k4
  have hP4' : ∀ b, P b → st4.μ b = none := fun b hb => hP4 b hb (Pr.there _ _ hI3 b hb)
  induction f' <;> induction f <;> first | exact hf.elim | skip
  ·exact ⟨rest.length, by simp, i + 1, rest, st4, rfl, h4, hI4, x4, hP4'⟩
  ·exact ⟨.next, st4, trivial, x4, h4⟩
  ·exact ⟨rest.length, by simp, i + 1, rest, st4, rfl, h4, hI4, x4, hP4'⟩
  ·exact ⟨_, st4, hf, x4, h4⟩
end Kk
end
section
namespace Kk
variable {g : Gx} {S : Sc} {md : Md} {n : Nat} {C : Cx} {st st' : St} {s : Shared} {h' : Heap} {tk : Nat} {α β γ δ : Type}
theorem Sim.temps (x : Sim g C st s) (Y : Ok g S md n C) (P : Addr → Prop) (hP : ∀ a, P a → Off C a ∧ st.μ a = none) (k : ∀ b o, ¬ P b → s.heap.get? b = some o → h'.get? b = some o) :
  Sim g C st { s with heap := h', toks := tk } :=
 x.ext Y P (fun a h => (hP a h).1) k (fun a o e => ⟨(x.objs a o e).1.at fun ob => k a ob (fun h => by rw [(hP a h).2] at e; k_call_by "c" e), (x.objs a o e).2⟩) rfl
noncomputable abbrev RefA (g : Gx) (S : Sc) (md : Md) (n : Nat) (asg : V → M Unit) (target : Expr) : Prop := ∀ v, Ref g S md n (fun (_ _ : Unit) => True) (asg (er v)) (fun env => assign target env v)
theorem refA_Name {x : Str} {px : Pos} (hv : stOk S x = true) : RefA g S md n (setM x) (.Name x px) := fun v C Y st s Q X sx h =>
 wpAny_assign_Name (store_var hv Y sx fun s' x' => ⟨(), _, trivial, x', h⟩)
noncomputable def setsM : List Str → List V → M Unit
 | x :: xs, v :: vs => mbind (setM x v) fun _ => setsM xs vs
 | [], [] => mret ()
 | _, _ => mstuck
inductive NamesAre : List Expr → List Str → Prop
 | nil : NamesAre [] []
 | cons {x : Str} {p : Pos} {r : List Expr} {xs : List Str} : NamesAre r xs → NamesAre (.Name x p :: r) (x :: xs)
noncomputable def unpackM (xs : List Str) (v : V) : M Unit := fun Q X st => match v with
 | .ref a => (match st.μ a with
  | some (.tup vs) => setsM xs vs Q X st
  | _ => False)
 | _ => False
theorem each_name {env : Env} {x : Str} {p : Pos} {r : List Expr} : assignEach (.Name x p :: r) env = (false, assign (.Name x p) env) :: assignEach r env := by kernel_rfl
theorem assignEach_names {env : Env} {elts : List Expr} {xs : List Str} (h : NamesAre elts xs) : (assignEach elts env).length = xs.length ∧ (assignEach elts env).findIdx? (·.1) = none := by
 induction h with
 | nil => exact ⟨rfl, rfl⟩
 | cons _ ih => rw [each_name]; exact ⟨congrArg (· + 1) ih.1, by rw [List.findIdx?_cons, ih.2]; rfl⟩
theorem setsM_length {Q : Unit → St → Prop} {X : Ex → St → Prop} : ∀ {xs : List Str} {vs : List V} {st : St}, setsM xs vs Q X st → xs.length = vs.length
 | [], [], _, _ => rfl
 | x :: xs, v :: vs, st, h => congrArg (· + 1) (setsM_length (st := st.set x v) h)
 | [], _ :: _, _, h => h.elim
 | _ :: _, [], _, h => h.elim
theorem sets_run {Q : Unit → St → Prop} {X : Ex → St → Prop} {E : Value → Shared → Prop} (Y : Ok g S md n C) {elts : List Expr} {xs : List Str} (h : NamesAre elts xs) : ∀ (vs : List Value) (st : St) (s : Shared), (xs.all (stOk S)) = true → Sim g C st s → setsM xs (vs.map er) Q X st →
  wpAny (model g.prog g.w) C.A (assignInOrder ((assignEach elts C.env).map (·.2)) vs) (Post g C (fun (_ _ : Unit) => True) Q) E s := by
 induction h with
 | nil =>
  intro vs st s ho sx hq
  induction vs with
  | nil => exact wpAny_pure ⟨(), st, trivial, sx, hq⟩
  | cons => exact hq.elim
 | cons _ ih =>
  intro vs st s ho sx hq
  simp only [List.all_cons, Bool.and_eq_true] at ho
  rw [each_name]
  induction vs with
  | nil => exact hq.elim
  | cons v vs => exact wpAny_bind (wpAny_holding (wpAny_assign_Name (store_var ho.1 Y sx fun s' x' => ih vs _ _ ho.2 x' hq)))
theorem Ok.handled (Y : Ok g S md n C) (h : md ≠ .hand) : C.A.handled = none := Y.hnd.resolve_left h
theorem tup_in {a : Addr} {xs : List V} (x : Sim g C st s) (h : st.μ a = some (.tup xs)) : ∃ vs : Array Value, s.heap.IsTuple a vs ∧ vs.toList.map er = xs := by
 refine exG0_2 (x.objs a _ h) fun r1 _ => ?_
 obtain ⟨vs, n, p, q⟩ := r1
 exact ⟨vs, ⟨_, p, rfl, n, rfl⟩, q⟩
theorem list_in {a : Addr} {xs : List V} (x : Sim g C st s) (h : st.μ a = some (.list xs)) : ∃ vs : Array Value, s.heap.IsList a vs ∧ vs.toList.map er = xs := by
 refine exG0_2 (x.objs a _ h) fun r2 _ => ?_
 obtain ⟨vs, p, q⟩ := r2
 exact ⟨vs, p.isList, q⟩
theorem refA_Tuple {elts : List Expr} {xs : List Str} {x1} {pos : Pos} (hm : md ≠ .hand) (h1 : NamesAre elts xs) (ho : (xs.all (stOk S)) = true) : RefA g S md n (unpackM xs) (.Tuple elts x1 pos) := by
 intro v C Y st s Q X sx h
 unfold unpackM at h
 split at h
 ·rename_i a ea
  rw [er_ref ea]
  split at h
  ·rename_i vs hm'
   refine exG1_2 (tup_in sx hm') fun us ht e => ?_
   refine exG0_2 (assignEach_names (env := C.env) h1) fun l1 l2 => ?_
   have l3 := setsM_length h
   have l4 := congrArg List.length e
   simp only [List.length_map, Array.length_toList] at l4
   refine wpAny_assign_Tuple (Y.handled hm) ht (by omega) l2 fun h₁ hx₁ => ?_
   refine sets_run (X := X) Y h1 _ _ _ ho (sx.grow fun b o eb => hx₁ b o (Nat.ne_of_lt (Heap.lt_size eb)) eb) ?_
   rw [e]; exact h
  ·exact h.elim
 ·exact h.elim
theorem arr_er {vs : Array Value} {xs : List V} (e : vs.toList.map er = xs) {i : Nat} {u : V} (h : xs[i]? = some u) : ∃ v, vs[i]? = some v ∧ er v = u := by
 rw [← e, List.getElem?_map] at h
 refine exG1_2 (Option.map_eq_some_iff.mp h) fun v a b => ?_
 exact ⟨v, by simpa using a, b⟩
theorem arr_er_none {vs : Array Value} {xs : List V} (e : vs.toList.map er = xs) {i : Nat} (h : xs[i]? = none) : vs[i]? = none := by
 rw [← e, List.getElem?_map, Option.map_eq_none_iff] at h
 simpa using h
theorem asg_keep {P : Addr → Prop} {target : Expr} {asg : V → M Unit} {v : Value} {Q : Unit → St → Prop} {X : Ex → St → Prop} {It : Heap → Prop} {h0 : Heap} (ha : RefA g S md n asg target) (Y : Ok g S md n C) (x : Sim g C st s)
  (hP : ∀ b, P b → Off C b ∧ st.μ b = none ∧ (s.heap.get? b).isSome = true) (hI : ∀ h', (∀ b o, P b → s.heap.get? b = some o → h'.get? b = some o) → It h') (k0 : ∀ b o, ¬ P b → h0.get? b = some o → s.heap.get? b = some o) (h : asg (er v) Q X st) :
  wpAny (model g.prog g.w) C.A (assign target C.env v) (fun _ s3 => ∃ st', Sim g C st' s3 ∧ It s3.heap ∧ (∀ b, P b → st'.μ b = none) ∧ (∀ b o, ¬ P b → Off C b → st.μ b = none → h0.get? b = some o → st'.μ b = none ∧ s3.heap.get? b = some o) ∧ Q () st') (PostX g C X) s :=
 wpAny_mono (keep_run (P := fun b => Off C b ∧ st.μ b = none) (ha v) Y x (fun b hb => hb) h) (fun _ s3 ⟨_, st3, _, x3, q3, n3, k3⟩ => ⟨st3, x3, hI _ (fun b o hb ho => k3 b o ⟨(hP b hb).1, (hP b hb).2.1⟩ ho),
  fun b hb => n3 b ⟨(hP b hb).1, (hP b hb).2.1⟩ (hP b hb).2.2, fun b o hb ho hm e => ⟨n3 b ⟨ho, hm⟩ (by rw [k0 b o hb e]; rfl), k3 b o ⟨ho, hm⟩ (k0 b o hb e)⟩, q3⟩) fun _ _ e => e
noncomputable def curL (a : Addr) (i : Nat) (st : St) (o : Option V) : Prop := ∃ xs, st.μ a = some (.list xs) ∧ xs[i]? = o
noncomputable def curT (a : Addr) (i : Nat) (st : St) (o : Option V) : Prop := ∃ xs, st.μ a = some (.tup xs) ∧ xs[i]? = o
theorem letGo_other {target : Expr} {I : Addr} {o : Obj} {T : String} {v : Value} {Q : Unit → Shared → Prop} {E : Value → Shared → Prop} (ho : s.heap.get? I = some o) (hc : o.cls = .type T) {fs : Array Value} (hd : o.data = .fields fs)
  (hT : (["enumerate", "zip", "dict_itemiterator", "dict_reverseitemiterator", "odict_iterator", "itertools.zip_longest", "itertools.pairwise"].contains T) = false)
  (hQ : Q () s) : wpAny (model g.prog g.w) C.A (letOwnedTupleGo target (.ref I) v) Q E s := by
 have key : ∀ a : Addr, wpAny (model g.prog g.w) C.A (letOwnedTupleGo (.Tuple [] 0 default) (.ref I) (.ref a)) Q E s := fun a => by
  unfold letOwnedTupleGo
  refine wpAny_bind (wpAny_load ho ?_)
  rw [hc, hd]
  simp only [hT, Bool.false_and, Bool.false_eq_true, if_false]
  exact wpAny_pure hQ
 cases (target) <;> first
  | exact wpAny_pure hQ
  | (induction v <;> first | exact wpAny_pure hQ | exact key _)
theorem proto_list {a I : Addr} {target : Expr} {asg : V → M Unit} (Y : Ok g S md n C) (hm : md ≠ .hand) (ha : RefA g S md n asg target) (hI : Off C I) :
  Proto g C I (· = I) (fun i h => h.IsListIter I a i) (curL a) target asg where
 off := fun b hb => hb ▸ hI
 stable := fun i h h' x k => x.at fun o e => k I o rfl e
 there := fun i h q0 b hb => by obtain ⟨o, ho, _⟩ := q0; rw [hb, ho]; rfl
 item := by
  intro i x st s Q X hP ⟨xs, hx, hi⟩ hit sx h
  refine exG1_2 (list_in sx hx) fun vs hl e => ?_
  refine exG1_2 (arr_er e hi) fun v hv ev => ?_
  refine wpAny_pyNext_list_item hit hl hv fun h₁ hit₁ hs₁ => ?_
  have x1 : Sim g C st { s with heap := h₁ } := sx.temps (tk := s.toks) Y (· = I) (fun b hb => ⟨hb ▸ hI, hP b hb⟩) fun b o hb => hs₁.extBut b o hb
  refine exG1_3 (id hit₁) fun o₁ ho₁ hc₁ hd₁ => ?_
  refine ⟨v, rfl, letGo_other ho₁ hc₁ hd₁ (by decide) ?_⟩
  refine asg_keep (P := (· = I)) ha Y x1 (fun b hb => ⟨hb ▸ hI, hP b hb, by rw [hb]; show (h₁.get? I).isSome = true; rw [ho₁]; rfl⟩) (It := fun h => h.IsListIter I a (i + 1)) (fun h' k => hit₁.at fun o e => k I o rfl e) (fun b o hb => hs₁.extBut b o hb) ?_
  rw [ev]; exact h
 done := by
  intro i st s E hP ⟨xs, hx, hi⟩ hit sx
  refine exG1_2 (list_in sx hx) fun vs hl e => ?_
  refine wpAny_pyNext_list_end (Y.handled hm) hit hl (arr_er_none e hi) fun h₁ hs₁ => ⟨rfl, ?_, fun b o hb => hs₁ b o hb⟩
  exact sx.temps (tk := s.toks) Y (· = I) (fun b hb => ⟨hb ▸ hI, hP b hb⟩) fun b o hb => hs₁ b o hb
theorem proto_tup {a I : Addr} {target : Expr} {asg : V → M Unit} (Y : Ok g S md n C) (hm : md ≠ .hand) (ha : RefA g S md n asg target) (hI : Off C I) :
  Proto g C I (· = I) (fun i h => h.IsTupleIter I a i) (curT a) target asg where
 off := fun b hb => hb ▸ hI
 stable := fun i h h' q0 k => by obtain ⟨o, ho, r⟩ := q0; exact ⟨o, k I o rfl ho, r⟩
 there := fun i h q0 b hb => by obtain ⟨o, ho, _⟩ := q0; rw [hb, ho]; rfl
 item := by
  intro i x st s Q X hP ⟨xs, hx, hi⟩ hit sx h
  refine exG1_2 (tup_in sx hx) fun vs hl e => ?_
  refine exG1_2 (arr_er e hi) fun v hv ev => ?_
  refine wpAny_pyNext_tuple_item hit hl hv fun h₁ hit₁ hs₁ => ?_
  have x1 : Sim g C st { s with heap := h₁ } := sx.temps (tk := s.toks) Y (· = I) (fun b hb => ⟨hb ▸ hI, hP b hb⟩) fun b o hb => hs₁.extBut b o hb
  refine exG1_3 (id hit₁) fun o₁ ho₁ hc₁ hd₁ => ?_
  refine ⟨v, rfl, letGo_other ho₁ hc₁ hd₁ (by decide) ?_⟩
  refine asg_keep (P := (· = I)) ha Y x1 (fun b hb => ⟨hb ▸ hI, hP b hb, by rw [hb]; show (h₁.get? I).isSome = true; rw [ho₁]; rfl⟩) (It := fun h => h.IsTupleIter I a (i + 1)) (fun h' k => ⟨o₁, k I o₁ rfl ho₁, hc₁, hd₁⟩) (fun b o hb => hs₁.extBut b o hb) ?_
  rw [ev]; exact h
 done := by
  intro i st s E hP ⟨xs, hx, hi⟩ hit sx
  refine exG1_2 (tup_in sx hx) fun vs hl e => ?_
  refine wpAny_pyNext_tuple_end (Y.handled hm) hit hl (arr_er_none e hi) fun h₁ hs₁ => ⟨rfl, ?_, fun b o hb => hs₁ b o hb⟩
  exact sx.temps (tk := s.toks) Y (· = I) (fun b hb => ⟨hb ▸ hI, hP b hb⟩) fun b o hb => hs₁ b o hb
noncomputable def curR (k : Nat) (i : Nat) (_ : St) (o : Option V) : Prop := o = if i < k then some (.int i) else none
theorem proto_range {k : Nat} {I : Addr} {target : Expr} {asg : V → M Unit} (Y : Ok g S md n C) (hm : md ≠ .hand) (ha : RefA g S md n asg target) (hI : Off C I) :
  Proto g C I (· = I) (fun i h => IsRangeIter h I (i : Int) ((k : Int) - i) 1) (curR k) target asg where
 off := fun b hb => hb ▸ hI
 stable := fun i h h' x k => k I _ rfl x
 there := fun i h ho b hb => by rw [hb, show h.get? I = _ from ho]; rfl
 item := by
  intro i x st s Q X hP hi hit sx h
  unfold curR at hi
  split at hi
  ·rename_i hlt
   k_call_by "c" hi
   refine wpAny_pyNext_range_item hit (by omega) fun h₁ hit₁ hs₁ => ?_
   have x1 : Sim g C st { s with heap := h₁, toks := s.toks + 1 } := sx.temps Y (· = I) (fun b hb => ⟨hb ▸ hI, hP b hb⟩) fun b o hb => hs₁.extBut b o hb
   refine ⟨_, rfl, letGo_other hit₁ rfl rfl (by decide) ?_⟩
   have hit₂ : IsRangeIter h₁ I ((i + 1 : Nat) : Int) ((k : Int) - (i + 1 : Nat)) 1 := by
    have e : ((i + 1 : Nat) : Int) = (i : Int) + 1 := by omega
    rw [e, show (k : Int) - ((i : Int) + 1) = (k : Int) - i - 1 by omega]; exact hit₁
   exact asg_keep (P := (· = I)) ha Y x1 (fun b hb => ⟨hb ▸ hI, hP b hb, by rw [hb]; show (h₁.get? I).isSome = true; rw [show h₁.get? I = _ from hit₁]; rfl⟩) (It := fun h => IsRangeIter h I ((i + 1 : Nat) : Int) ((k : Int) - (i + 1 : Nat)) 1) (fun h' k => k I _ rfl hit₂) (fun b o hb => hs₁.extBut b o hb) h
  ·k_call_by "c" hi
 done := by
  intro i st s E hP hi hit sx
  unfold curR at hi
  split at hi
  ·k_call_by "c" hi
  ·refine wpAny_pyNext_range_end (Y.handled hm) hit (by omega) fun h₁ hs₁ => ⟨rfl, ?_, fun b o hb => hs₁ b o hb⟩
   exact sx.temps (tk := s.toks) Y (· = I) (fun b hb => ⟨hb ▸ hI, hP b hb⟩) fun b o hb => hs₁ b o hb
noncomputable def curK (d : Addr) (m ep : Nat) (i : Nat) (st : St) (o : Option Str) : Prop := ∃ es, st.μ d = some (.dict es ep) ∧ es.length = m ∧ es[i]?.map (·.1) = o
theorem proto_keys {d I : Addr} {m ep : Nat} {target : Expr} {asg : V → M Unit} (Y : Ok g S md n C) (hm : md ≠ .hand) (ha : RefA g S md n asg target) (hI : Off C I) :
  Proto g C I (· = I) (fun i h => h.IsKeyIter I d i m ep) (curK d m ep) target (fun k => asg (.str k)) where
 off := fun b hb => hb ▸ hI
 stable := fun i h h' q0 k => by obtain ⟨o, ho, r⟩ := q0; exact ⟨o, k I o rfl ho, r⟩
 there := fun i h q0 b hb => by obtain ⟨o, ho, _⟩ := q0; rw [hb, ho]; rfl
 item := by
  intro i x st s Q X hP ⟨es, hx, hl, hi⟩ hit sx h
  refine exG0_2 (dict_in sx hx) fun _ r3 => ?_
  refine exG1_2 r3 fun kvs hd e => ?_
  refine exG1_2 (Option.map_eq_some_iff.mp hi) fun p hp r4 => ?_
  obtain rfl := r4
  rw [← e, List.getElem?_map] at hp
  refine exG1_2 (Option.map_eq_some_iff.mp hp) fun kv hkv r5 => ?_
  obtain rfl := r5
  have hlen : m = kvs.length := by rw [← hl, ← e]; simp
  subst hlen
  refine wpAny_pyNext_dict_item hit hd hkv fun key h₁ hkey hit₁ hs₁ => ?_
  have x1 : Sim g C st { s with heap := h₁ } := sx.temps (tk := s.toks) Y (· = I) (fun b hb => ⟨hb ▸ hI, hP b hb⟩) fun b o hb => hs₁.extBut b o hb
  refine exG1_3 (id hit₁) fun o₁ ho₁ hc₁ hd₁ => ?_
  refine ⟨key, rfl, letGo_other ho₁ hc₁ hd₁ (by decide) ?_⟩
  refine asg_keep (P := (· = I)) ha Y x1 (fun b hb => ⟨hb ▸ hI, hP b hb, by rw [hb]; show (h₁.get? I).isSome = true; rw [ho₁]; rfl⟩) (It := fun h => h.IsKeyIter I d (i + 1) kvs.length ep) (fun h' k => ⟨o₁, k I o₁ rfl ho₁, hc₁, hd₁⟩) (fun b o hb => hs₁.extBut b o hb) ?_
  obtain ⟨t, rfl⟩ := Value.isStrOf_shape hkey
  exact h
 done := by
  intro i st s E hP ⟨es, hx, hl, hi⟩ hit sx
  refine exG0_2 (dict_in sx hx) fun _ r6 => ?_
  refine exG1_2 r6 fun kvs hd e => ?_
  have hlen : m = kvs.length := by rw [← hl, ← e]; simp
  subst hlen
  have hi2 := Option.map_eq_none_iff.mp hi
  rw [← e, List.getElem?_map] at hi2
  refine wpAny_pyNext_dict_end (Y.handled hm) hit hd (Option.map_eq_none_iff.mp hi2) fun h₁ hs₁ => ⟨rfl, ?_, fun b o hb => hs₁ b o hb⟩
  exact sx.temps (tk := s.toks) Y (· = I) (fun b hb => ⟨hb ▸ hI, hP b hb⟩) fun b o hb => hs₁ b o hb
end Kk
end
section
namespace Kk
variable {g : Gx} {S : Sc} {md : Md} {n : Nat} {C : Cx} {st st' : St} {s : Shared} {h' : Heap} {tk : Nat} {α β γ δ : Type}
theorem ref_sets {elts : List Expr} {xs : List Str} {vs : List Value} (h1 : NamesAre elts xs) (ho : (xs.all (stOk S)) = true) :
  Ref g S md n (fun (_ _ : Unit) => True) (setsM xs (vs.map er)) (fun env => assignInOrder ((assignEach elts env).map (·.2)) vs) :=
 fun C Y st s Q X sx h => sets_run (X := X) Y h1 _ _ _ ho sx h
theorem unpack_keep {P : Addr → Prop} {elts : List Expr} {xs : List Str} {x1} {pos : Pos} {t : Addr} {items : Array Value} {Q : Unit → St → Prop} {X : Ex → St → Prop} {It : Heap → Prop} {h0 : Heap}
  (Y : Ok g S md n C) (hm : md ≠ .hand) (h1 : NamesAre elts xs) (ho : (xs.all (stOk S)) = true) (x : Sim g C st s) (ht : s.heap.IsTuple t items)
  (hP : ∀ b, P b → Off C b ∧ st.μ b = none ∧ (s.heap.get? b).isSome = true) (hI : ∀ h', (∀ b o, P b → s.heap.get? b = some o → h'.get? b = some o) → It h') (k0 : ∀ b o, ¬ P b → h0.get? b = some o → s.heap.get? b = some o) (h : setsM xs (items.toList.map er) Q X st) :
  wpAny (model g.prog g.w) C.A (assign (.Tuple elts x1 pos) C.env (.ref t)) (fun _ s3 => ∃ st', Sim g C st' s3 ∧ It s3.heap ∧ (∀ b, P b → st'.μ b = none) ∧ (∀ b o, ¬ P b → Off C b → st.μ b = none → h0.get? b = some o → st'.μ b = none ∧ s3.heap.get? b = some o) ∧ Q () st') (PostX g C X) s := by
 refine exG0_2 (assignEach_names (env := C.env) h1) fun l1 l2 => ?_
 have l3 := setsM_length h
 simp only [List.length_map, Array.length_toList] at l3
 refine wpAny_assign_Tuple (Y.handled hm) ht (by omega) l2 fun h₁ hx₁ => ?_
 have k1 : ∀ b o, s.heap.get? b = some o → h₁.get? b = some o := fun b o eb => hx₁ b o (Nat.ne_of_lt (Heap.lt_size eb)) eb
 have x1 : Sim g C st { s with heap := h₁ } := x.grow k1
 have there : ∀ b, P b → ∃ o, s.heap.get? b = some o := fun b hb => Option.isSome_iff_exists.mp (hP b hb).2.2
 have some₁ : ∀ b o, s.heap.get? b = some o → (h₁.get? b).isSome = true := fun b o e => by rw [k1 b o e]; rfl
 refine wpAny_mono (keep_run (P := fun b => Off C b ∧ st.μ b = none) (ref_sets (vs := items.toList) h1 ho) Y x1 (fun b hb => hb) h) (fun _ s3 ⟨_, st3, _, x3, q3, n3, k3⟩ =>
  ⟨st3, x3, hI _ (fun b o hb ho => k3 b o ⟨(hP b hb).1, (hP b hb).2.1⟩ (k1 b o ho)), fun b hb => ?_, fun b o hb hof hm e => ⟨n3 b ⟨hof, hm⟩ (some₁ b o (k0 b o hb e)), k3 b o ⟨hof, hm⟩ (k1 b o (k0 b o hb e))⟩, q3⟩) fun _ _ e => e
 refine exG1_1 (there b hb) fun o ho => ?_
 exact n3 b ⟨(hP b hb).1, (hP b hb).2.1⟩ (some₁ b o ho)
noncomputable def curE (cur : Nat → St → Option V → Prop) (i : Nat) (st : St) (o : Option (Nat × V)) : Prop := match o with
 | none => cur i st none
 | some (j, v) => j = i ∧ cur i st (some v)
theorem proto_enumL {a I J : Addr} {elts : List Expr} {xs : List Str} {x1} {pos : Pos} (Y : Ok g S md n C) (hm : md ≠ .hand) (h1 : NamesAre elts xs) (ho : (xs.all (stOk S)) = true) (hI : Off C I) (hJ : Off C J) (hne : I ≠ J) :
  Proto g C I (fun b => b = I ∨ b = J) (fun i h => (∃ old, IsEnum h I J i old) ∧ h.IsListIter J a i) (curE (curL a)) (.Tuple elts x1 pos) (fun p => setsM xs [.int p.1, p.2]) where
 off := fun b hb => by rcases hb with rfl | rfl <;> assumption
 stable := fun i h h' q0 k => by obtain ⟨⟨old, x⟩, y⟩ := q0; exact ⟨⟨old, k I _ (.inl rfl) x⟩, y.at fun o e => k J o (.inr rfl) e⟩
 there := fun i h ⟨⟨old, x⟩, ⟨o, ho, _⟩⟩ b hb => by
  rcases hb with rfl | rfl
  ·rw [show h.get? b = _ from x]; rfl
  ·rw [ho]; rfl
 item := by
  intro i q0q st s Q X hP q1q q2q sx h
  obtain ⟨j, u⟩ := q0q
  refine exG0_2 q1q fun r1 r2 => ?_
  obtain rfl := r1
  refine exG1_2 r2 fun xs' hx hi => ?_
  refine exG0_2 q2q fun r3 hit2 => ?_
  obtain ⟨old, hit⟩ := r3
  refine exG1_2 (list_in sx hx) fun vs hl e => ?_
  refine exG1_2 (arr_er e hi) fun v hv ev => ?_
  refine wpAny_pyNext_enum_item hit hit2 hl hv hne fun h₁ he₁ hit₁ ht₁ hz₁ hk₁ => ?_
  refine ⟨_, rfl, wpAny_letOwnedTupleGo_enum he₁ fun h₂ he₂ hs₂ => ?_⟩
  replace hs₂ : Heap.SameBut I h₁ h₂ := hs₂
  have hIlt : I < s.heap.objs.size := Heap.lt_size hit
  have ht₂ : h₂.IsTuple s.heap.objs.size #[.int j s.toks, v] := ⟨_, (hs₂.2 _ (Nat.ne_of_gt hIlt)).trans ht₁, rfl, _, rfl⟩
  have k0 : ∀ b o, ¬ (b = I ∨ b = J) → s.heap.get? b = some o → h₂.get? b = some o := fun b o hb eb => hs₂.extBut b o (fun q => hb (.inl q)) (hk₁ b o (fun q => hb (.inl q)) (fun q => hb (.inr q)) eb)
  have x2 : Sim g C st { s with heap := h₂, toks := s.toks + 1 } := sx.temps Y (fun b => b = I ∨ b = J) (fun b hb => ⟨by rcases hb with rfl | rfl <;> assumption, hP b hb⟩) k0
  have hit₂ : h₂.IsListIter J a (j + 1) := hit₁.extBut hs₂.extBut (Ne.symm hne)
  have he₃ : IsEnum h₂ I J ((j + 1 : Nat) : Int) v := by
   have e : ((j + 1 : Nat) : Int) = (j : Int) + 1 := by omega
   rw [e]; exact he₂
  refine unpack_keep (P := fun b => b = I ∨ b = J) (It := fun h => (∃ old, IsEnum h I J ((j + 1 : Nat) : Int) old) ∧ h.IsListIter J a (j + 1)) Y hm h1 ho x2 ht₂ (fun b hb => ⟨by rcases hb with rfl | rfl <;> assumption, hP b hb, ?_⟩)
   (fun h' k => ⟨⟨v, k I _ (.inl rfl) he₃⟩, hit₂.at fun o e => k J o (.inr rfl) e⟩) k0 ?_
  ·rcases hb with rfl | rfl
   ·show (h₂.get? b).isSome = true; rw [show h₂.get? b = _ from he₂]; rfl
   ·obtain ⟨o, ho, _⟩ := hit₂; show (h₂.get? b).isSome = true; rw [ho]; rfl
  ·show setsM xs [V.int j, er v] Q X st
   rw [ev]; exact h
 done := by
  intro i st s E hP q0q q1q sx
  refine exG1_2 q0q fun xs' hx hi => ?_
  refine exG0_2 q1q fun r4 hit2 => ?_
  obtain ⟨old, hit⟩ := r4
  refine exG1_2 (list_in sx hx) fun vs hl e => ?_
  refine wpAny_pyNext_enum_end (Y.handled hm) hit hit2 hl (arr_er_none e hi) fun h₁ hs₁ => ⟨rfl, ?_, fun b o hb => hs₁ b o fun q => hb (.inr q)⟩
  exact sx.temps (tk := s.toks) Y (· = J) (fun b hb => ⟨hb ▸ hJ, hP b (.inr hb)⟩) fun b o hb => hs₁ b o hb
theorem nextOf_tuple_item {prog : Program} {w : World} {A : Around} {E : Value → Shared → Prop} {it l : Addr} {i : Nat} {items : Array Value} {x : Value} {Q : Value → Shared → Prop} (hit : s.heap.IsTupleIter it l i)
  (hl : s.heap.IsTuple l items) (hx : items[i]? = some x)
  (hQ : ∀ h', h'.IsTupleIter it l (i + 1) → Heap.SameBut it s.heap h' → Q x { s with heap := h' }) :
  wpAny (model prog w) A (Builtin.SmallTypes.nextOf (.ref it)) Q E s := by
 refine exG1_3 (id hit) fun o ho hc hd => ?_
 refine exG1_3 hl fun ol hol _ r5 => ?_
 refine exG1_1 r5 fun nl hdl => ?_
 unfold Builtin.SmallTypes.nextOf
 refine wpAny_bind (wpAny_callSpecial?_slot (name := Str.ofString "__next__") hit.typeIs F.slot_tuple_iterator_next
  (wpAny_call_entry F.slot_tuple_iterator_next hit.typeIs F.entry_tuple_iterator_next ?_ (F.args_tuple_iterator_next_1 _)))
 show wpAny _ _ (field (.ref it) 0 >>= _) _ _ s
 refine wpAny_bind (wpAny_field ho hd (x := .ref l) rfl ?_)
 show wpAny _ _ (if (Value.ref l == Value.none) = true then _ else _) _ _ s
 rw [if_neg (show ¬ ((Value.ref l == Value.none) = true) from Bool.false_ne_true)]
 show wpAny _ _ (field (.ref it) 1 >>= _) _ _ s
 refine wpAny_bind (wpAny_field ho hd (x := .int i 0) rfl ?_)
 show wpAny _ _ (seqItems? (.ref l) >>= _) _ _ s
 refine wpAny_bind (wpAny_seqItems hol hdl ?_)
 simp only [Int.toNat_natCast, hx]
 refine wpAny_bind (wpAny_setField ho hd (by simp) (wpAny_pure ⟨x, rfl, wpAny_pure (hQ _ ?_ (Heap.SameBut.update ..))⟩))
 exact ⟨_, Heap.get?_update_self _ ho (Obj.isFreed_of_fields (Obj.data_mapFields hd _)), (Obj.cls_mapFields ..).trans hc, by
  rw [Obj.data_mapFields hd]; simp [rawInt]⟩
theorem nextOf_tuple_end {prog : Program} {w : World} {A : Around} {E : Value → Shared → Prop} {it l : Addr} {i : Nat} {items : Array Value} {Q : Value → Shared → Prop} (hh : A.handled = none)
  (hit : s.heap.IsTupleIter it l i) (hl : s.heap.IsTuple l items) (hx : items[i]? = none)
  (hE : ∀ h' e, Heap.ExtBut it s.heap h' → (∃ o, h'.get? e = some o ∧ o.cls = .type "StopIteration") → E (.ref e) { s with heap := h' }) :
  wpAny (model prog w) A (Builtin.SmallTypes.nextOf (.ref it)) Q E s := by
 refine exG1_3 (id hit) fun o ho hc hd => ?_
 refine exG1_3 hl fun ol hol _ r6 => ?_
 refine exG1_1 r6 fun nl hdl => ?_
 unfold Builtin.SmallTypes.nextOf
 refine wpAny_bind (wpAny_callSpecial?_slot (name := Str.ofString "__next__") hit.typeIs F.slot_tuple_iterator_next
  (wpAny_call_entry F.slot_tuple_iterator_next hit.typeIs F.entry_tuple_iterator_next ?_ (F.args_tuple_iterator_next_1 _)))
 show wpAny _ _ (field (.ref it) 0 >>= _) _ _ s
 refine wpAny_bind (wpAny_field ho hd (x := .ref l) rfl ?_)
 show wpAny _ _ (if (Value.ref l == Value.none) = true then _ else _) _ _ s
 rw [if_neg (show ¬ ((Value.ref l == Value.none) = true) from Bool.false_ne_true)]
 show wpAny _ _ (field (.ref it) 1 >>= _) _ _ s
 refine wpAny_bind (wpAny_field ho hd (x := .int i 0) rfl ?_)
 show wpAny _ _ (seqItems? (.ref l) >>= _) _ _ s
 refine wpAny_bind (wpAny_seqItems hol hdl ?_)
 simp only [Int.toNat_natCast, hx]
 refine wpAny_bind (wpAny_rule (wpAny_bind (wpAny_setField ho hd (by simp) ?_)))
 show wpAny _ _ (newExc (.type "StopIteration") [] >>= _) _ _ _
 refine wpAny_bind ?_
 simp only [newExc, newTuple]
 refine wpAny_bind (wpAny_newObj_type ?_ (by size_fits))
 refine wpAny_bind (m := firstArgMember _ _) (wpAny_of_eq (a := Value.none) (by first | rfl | (simp only [firstArgMember]; rfl)) ?_)
 refine wpAny_newObj_type ?_ (by size_fits)
 simp only [raiseNew]
 refine wpAny_bind (wpAny_handled ?_)
 first | rw [show A.in1.handled = none from hh] | rw [hh]
 refine wpAny_bind (wpAny_pure (wpAny_throw ?_))
 exact hE _ _ (((Heap.SameBut.update ..).extBut.push _).push _) ⟨_, Heap.get?_push_size _ rfl, rfl⟩
theorem draws_tup {prog : Program} {w : World} {A : Around} (hh : A.handled = none) (it l : Addr) (hne : l ≠ it) (items : Array Value) :
  Draws prog w A it [it, l] items.size (fun i v => items[i]? = some v) (fun i h => h.IsTupleIter it l i ∧ h.IsTuple l items) where
 live := fun _ _ st => by obtain ⟨o, ho, _⟩ := st.1; exact ⟨o, ho⟩
 frame := fun _ _ _ st hk => ⟨(by obtain ⟨o, ho, r⟩ := st.1; exact ⟨o, hk it (by simp) o ho, r⟩), (by obtain ⟨o, ho, r⟩ := st.2; exact ⟨o, hk l (by simp) o ho, r⟩)⟩
 item := fun i s Q E hi st hQ => by
  refine nextOf_tuple_item st.1 st.2 (x := items[i]) (by simp [hi]) fun h' hit' hs' => ?_
  exact hQ _ h' s.toks (by simp [hi]) ⟨hit', st.2.extBut hs'.extBut hne⟩ hs'
 done := fun s Q E st hE => nextOf_tuple_end hh st.1 st.2 (by simp) hE
theorem draws_dead {prog : Program} {w : World} {A : Around} (hh : A.handled = none) (it l : Addr) (items : Array Value) (n : Nat) (hx : items[n]? = none) :
  Draws prog w A it [it, l] n (fun i v => False) (fun i h => i = n ∧ h.IsTupleIter it l n ∧ h.IsTuple l items) where
 live := fun _ _ st => by obtain ⟨o, ho, _⟩ := st.2.1; exact ⟨o, ho⟩
 frame := fun _ _ _ st hk => ⟨st.1, (by obtain ⟨o, ho, r⟩ := st.2.1; exact ⟨o, hk it (by simp) o ho, r⟩), (by obtain ⟨o, ho, r⟩ := st.2.2; exact ⟨o, hk l (by simp) o ho, r⟩)⟩
 item := fun i s Q E hi st hQ => absurd hi (by rw [st.1]; exact Nat.lt_irrefl _)
 done := fun s Q E st hE => nextOf_tuple_end hh st.2.1 st.2.2 hx hE
theorem proto_enumT {a I J : Addr} {elts : List Expr} {xs : List Str} {x1} {pos : Pos} (Y : Ok g S md n C) (hm : md ≠ .hand) (h1 : NamesAre elts xs) (ho : (xs.all (stOk S)) = true) (hI : Off C I) (hJ : Off C J) (hne : I ≠ J) :
  Proto g C I (fun b => b = I ∨ b = J) (fun i h => (∃ old, IsEnum h I J i old) ∧ h.IsTupleIter J a i) (curE (curT a)) (.Tuple elts x1 pos) (fun p => setsM xs [.int p.1, p.2]) where
 off := fun b hb => by rcases hb with rfl | rfl <;> assumption
 stable := fun i h h' q0 k => by obtain ⟨⟨old, x⟩, ⟨o, ho, r⟩⟩ := q0; exact ⟨⟨old, k I _ (.inl rfl) x⟩, ⟨o, k J o (.inr rfl) ho, r⟩⟩
 there := fun i h ⟨⟨old, x⟩, ⟨o, ho, _⟩⟩ b hb => by
  rcases hb with rfl | rfl
  ·rw [show h.get? b = _ from x]; rfl
  ·rw [ho]; rfl
 item := by
  intro i q0q st s Q X hP q1q q2q sx h
  obtain ⟨j, u⟩ := q0q
  refine exG0_2 q1q fun r7 r8 => ?_
  obtain rfl := r7
  refine exG1_2 r8 fun xs' hx hi => ?_
  refine exG0_2 q2q fun r9 hit2 => ?_
  obtain ⟨old, hit⟩ := r9
  refine exG1_2 (tup_in sx hx) fun vs hl e => ?_
  refine exG1_2 (arr_er e hi) fun v hv ev => ?_
  have haJ : a ≠ J := by rintro rfl; have := hP a (.inr rfl); rw [hx] at this; k_call_by "c" this
  have haI : a ≠ I := by rintro rfl; have := hP a (.inl rfl); rw [hx] at this; k_call_by "c" this
  have hlt : j < vs.size := (Array.getElem?_eq_some_iff.mp hv).1
  refine wpAny_pyNext_enum_itemD (draws_tup (A := C.A.in1) (Y.handled hm) J a haJ vs) hit ⟨hit2, hl⟩ hlt hne (by simp [hne, Ne.symm haI]) fun y h₁ tk hy he₁ hit₁ ht₁ hz₁ hk₁ => ?_
  cases hv.symm.trans hy
  refine ⟨_, rfl, wpAny_letOwnedTupleGo_enum he₁ fun h₂ he₂ hs₂ => ?_⟩
  replace hs₂ : Heap.SameBut I h₁ h₂ := hs₂
  have hIlt : I < s.heap.objs.size := Heap.lt_size hit
  have ht₂ : h₂.IsTuple s.heap.objs.size #[.int j tk, v] := ⟨_, (hs₂.2 _ (Nat.ne_of_gt hIlt)).trans ht₁, rfl, _, rfl⟩
  have k0 : ∀ b o, ¬ (b = I ∨ b = J) → s.heap.get? b = some o → h₂.get? b = some o := fun b o hb eb => hs₂.extBut b o (fun q => hb (.inl q)) (hk₁ b o (fun q => hb (.inl q)) (fun q => hb (.inr q)) eb)
  have x2 : Sim g C st { s with heap := h₂, toks := tk + 1 } := sx.temps Y (fun b => b = I ∨ b = J) (fun b hb => ⟨by rcases hb with rfl | rfl <;> assumption, hP b hb⟩) k0
  have hit₂ : h₂.IsTupleIter J a (j + 1) := hit₁.1.extBut hs₂.extBut (Ne.symm hne)
  have he₃ : IsEnum h₂ I J ((j + 1 : Nat) : Int) v := by
   have e : ((j + 1 : Nat) : Int) = (j : Int) + 1 := by omega
   rw [e]; exact he₂
  refine exG1_2 (id hit₂) fun o2 ho2 r2 => ?_
  refine unpack_keep (P := fun b => b = I ∨ b = J) (It := fun h => (∃ old, IsEnum h I J ((j + 1 : Nat) : Int) old) ∧ h.IsTupleIter J a (j + 1)) Y hm h1 ho x2 ht₂ (fun b hb => ⟨by rcases hb with rfl | rfl <;> assumption, hP b hb, ?_⟩)
   (fun h' k => ⟨⟨v, k I _ (.inl rfl) he₃⟩, ⟨o2, k J o2 (.inr rfl) ho2, r2⟩⟩) k0 ?_
  ·rcases hb with rfl | rfl
   ·show (h₂.get? b).isSome = true; rw [show h₂.get? b = _ from he₂]; rfl
   ·show (h₂.get? b).isSome = true; rw [ho2]; rfl
  ·show setsM xs [V.int j, er v] Q X st
   rw [ev]; exact h
 done := by
  intro i st s E hP q0q q1q sx
  refine exG1_2 q0q fun xs' hx hi => ?_
  refine exG0_2 q1q fun r10 hit2 => ?_
  obtain ⟨old, hit⟩ := r10
  refine exG1_2 (tup_in sx hx) fun vs hl e => ?_
  have haJ : a ≠ J := by rintro rfl; have := hP a (.inr rfl); rw [hx] at this; k_call_by "c" this
  refine wpAny_pyNext_enum_endD (draws_dead (A := C.A.in1) (Y.handled hm) J a vs i (arr_er_none e hi)) hit ⟨rfl, hit2, hl⟩ fun h₁ hs₁ => ⟨rfl, ?_, fun b o hb => hs₁ b o fun q => hb (.inr q)⟩
  exact sx.temps (tk := s.toks) Y (· = J) (fun b hb => ⟨hb ▸ hJ, hP b (.inr hb)⟩) fun b o hb => hs₁ b o hb
noncomputable def curI (d : Addr) (m ep : Nat) (i : Nat) (st : St) (o : Option (Str × V)) : Prop := ∃ es, st.μ d = some (.dict es ep) ∧ es.length = m ∧ es[i]? = o
theorem proto_items {d I : Addr} {m ep : Nat} {elts : List Expr} {xs : List Str} {x1} {pos : Pos} (Y : Ok g S md n C) (hm : md ≠ .hand) (h1 : NamesAre elts xs) (ho : (xs.all (stOk S)) = true) (hI : Off C I) :
  Proto g C I (· = I) (fun i h => ∃ ok ov, IsItemIter h I d i m ep ok ov) (curI d m ep) (.Tuple elts x1 pos) (fun p => setsM xs [.str p.1, p.2]) where
 off := fun b hb => hb ▸ hI
 stable := fun i h h' q0 k => by obtain ⟨ok, ov, x⟩ := q0; exact ⟨ok, ov, k I _ rfl x⟩
 there := fun i h q0 b hb => by obtain ⟨ok, ov, ho⟩ := q0; rw [hb, show h.get? I = _ from ho]; rfl
 item := by
  intro i q0q st s Q X hP q1q q2q sx h
  obtain ⟨ky, u⟩ := q0q
  refine exG1_3 q1q fun es hx hl hi => ?_
  refine exG2_1 q2q fun ok ov hit => ?_
  refine exG0_2 (dict_in sx hx) fun _ r11 => ?_
  refine exG1_2 r11 fun kvs hd e => ?_
  rw [← e, List.getElem?_map] at hi
  refine exG1_2 (Option.map_eq_some_iff.mp hi) fun kv hkv e2 => ?_
  obtain ⟨k0, v⟩ := kv
  k_call_by "c" e2
  have hlen : m = kvs.length := by rw [← hl, ← e]; simp
  subst hlen
  refine wpAny_pyNext_items_item hit hd hkv fun key h₁ hkey he₁ ht₁ hz₁ hk₁ => ?_
  refine ⟨_, rfl, wpAny_letOwnedTupleGo_items he₁ fun h₂ he₂ hs₂ => ?_⟩
  replace hs₂ : Heap.SameBut I h₁ h₂ := hs₂
  have hIlt : I < s.heap.objs.size := Heap.lt_size hit
  have ht₂ : h₂.IsTuple s.heap.objs.size #[key, v] := ⟨_, (hs₂.2 _ (Nat.ne_of_gt hIlt)).trans ht₁, rfl, _, rfl⟩
  have x2 : Sim g C st { s with heap := h₂ } := sx.temps (tk := s.toks) Y (· = I) (fun b hb => ⟨hb ▸ hI, hP b hb⟩) fun b o hb eb => hs₂.extBut b o hb (hk₁ b o hb eb)
  refine unpack_keep (P := (· = I)) (It := fun h => ∃ ok ov, IsItemIter h I d (i + 1) kvs.length ep ok ov) Y hm h1 ho x2 ht₂ (fun b hb => ⟨hb ▸ hI, hP b hb, ?_⟩)
   (fun h' k => ⟨_, _, k I _ rfl he₂⟩) (fun b o hb eb => hs₂.extBut b o hb (hk₁ b o hb eb)) ?_
  ·show (h₂.get? b).isSome = true; rw [hb, show h₂.get? I = _ from he₂]; rfl
  ·obtain ⟨t, rfl⟩ := Value.isStrOf_shape hkey
   exact h
 done := by
  intro i st s E hP q0q q1q sx
  refine exG1_3 q0q fun es hx hl hi => ?_
  refine exG2_1 q1q fun ok ov hit => ?_
  refine exG0_2 (dict_in sx hx) fun _ r12 => ?_
  refine exG1_2 r12 fun kvs hd e => ?_
  have hlen : m = kvs.length := by rw [← hl, ← e]; simp
  subst hlen
  rw [← e, List.getElem?_map, Option.map_eq_none_iff] at hi
  refine wpAny_pyNext_items_end (Y.handled hm) hit hd hi fun h₁ hs₁ => ⟨rfl, ?_, fun b o hb => hs₁ b o hb⟩
  exact sx.temps (tk := s.toks) Y (· = I) (fun b hb => ⟨hb ▸ hI, hP b hb⟩) fun b o hb => hs₁ b o hb
end Kk
end
section
namespace Kk
variable {g : Gx} {S : Sc} {md : Md} {n : Nat} {C : Cx} {st st' : St} {s : Shared} {h' : Heap} {tk : Nat} {α β γ δ : Type}
theorem gl_run {x : Str} {v : Value} {pos : Pos} {Q : Value → Shared → Prop} {E : Value → Shared → Prop} (hx : S.sc.names.lookup x = some .globalImplicit) (hd : (x == ("__debug__" : Str)) = false) (e : nsIn g.K mainGlobals x = some (some v))
  (Y : Ok g S md n C) (sx : Sim g C st s) (q : Q v s) : wpAny (model g.prog g.w) C.A (eval (.Name x pos) C.env) Q E s :=
 Name_function_global ((congrArg Scope.kind Y.scope).trans Y.kind) ((Y.kindOf x).trans hx) (loadGlobal_global (env := C.env) (show s.heap.Ns C.env.globals g.mg from Y.glob ▸ (Y.here sx).top.g) (mg_of (Y.here sx).kin (Y.here sx).top.g e) q) hd
theorem bl_run {x : Str} {v : Value} {pos : Pos} {Q : Value → Shared → Prop} {E : Value → Shared → Prop} (hx : S.sc.names.lookup x = some .globalImplicit) (hd : (x == ("__debug__" : Str)) = false) (hn : x ≠ "__name__") (e : nsIn g.K mainGlobals x = some none) (hv : bootBuiltins x = some v)
  (Y : Ok g S md n C) (sx : Sim g C st s) (q : Q v s) : wpAny (model g.prog g.w) C.A (eval (.Name x pos) C.env) Q E s :=
 Name_function_global ((congrArg Scope.kind Y.scope).trans Y.kind) ((Y.kindOf x).trans hx) (loadGlobal_builtin (env := C.env) (show s.heap.Ns C.env.globals g.mg from Y.glob ▸ (Y.here sx).top.g) (mg_none_of (Y.here sx).kin (Y.here sx).top.g e)
  (show s.heap.Ns C.env.builtins g.mb from Y.blt ▸ (Y.here sx).top.b) (((Y.here sx).top.builtins x hn).trans hv) q) hd
structure Blt (g : Gx) (S : Sc) (x : Str) (v : Value) : Prop where
 glob : S.sc.names.lookup x = some .globalImplicit
 dbg : (x == ("__debug__" : Str)) = false
 nm : x ≠ "__name__"
 none : nsIn g.K mainGlobals x = some none
 boot : bootBuiltins x = some v
theorem Blt.run {x : Str} {v : Value} {pos : Pos} {Q : Value → Shared → Prop} {E : Value → Shared → Prop} (b : Blt g S x v) (Y : Ok g S md n C) (sx : Sim g C st s) (q : Q v s) : wpAny (model g.prog g.w) C.A (eval (.Name x pos) C.env) Q E s :=
 bl_run b.glob b.dbg b.nm b.none b.boot Y sx q
set_option genInjectivity false in
inductive Src where
 | list (a : Addr) | tup (a : Addr) | rng (k : Nat) | enL (a : Addr) | enT (a : Addr) | keys (d : Addr) (m ep : Nat) | items (d : Addr) (m ep : Nat)
noncomputable def curMap {ι κ : Type} (f : ι → κ) (cur : Nat → St → Option ι → Prop) (i : Nat) (st : St) (o : Option κ) : Prop := ∃ o', o = o'.map f ∧ cur i st o'
noncomputable def Src.cur : Src → Nat → St → Option (List V) → Prop
 | .list a => curMap (fun v => [v]) (curL a)
 | .tup a => curMap (fun v => [v]) (curT a)
 | .rng k => curMap (fun v => [v]) (curR k)
 | .enL a => curMap (fun p : Nat × V => [V.int p.1, p.2]) (curE (curL a))
 | .enT a => curMap (fun p : Nat × V => [V.int p.1, p.2]) (curE (curT a))
 | .keys d m ep => curMap (fun k => [V.str k]) (curK d m ep)
 | .items d m ep => curMap (fun p : Str × V => [V.str p.1, p.2]) (curI d m ep)
noncomputable def listAt (st : St) (a : Addr) : List V := match st.μ a with | some (.list xs) => xs | some (.tup xs) => xs | _ => []
noncomputable def dictAt (st : St) (a : Addr) : List (Str × V) := match st.μ a with | some (.dict es _) => es | _ => []
noncomputable def enumFrom (i : Nat) : List V → List (List V)
 | [] => []
 | v :: r => [.int i, v] :: enumFrom (i + 1) r
noncomputable def Src.its (st : St) : Src → List (List V)
 | .list a => (listAt st a).map fun v => [v]
 | .tup a => (listAt st a).map fun v => [v]
 | .rng k => (List.range k).map fun i : Nat => [V.int (i : Int)]
 | .enL a => enumFrom 0 (listAt st a)
 | .enT a => enumFrom 0 (listAt st a)
 | .keys d _ _ => (dictAt st d).map fun p => [.str p.1]
 | .items d _ _ => (dictAt st d).map fun p => [.str p.1, p.2]
theorem Proto.map {ι κ : Type} {I : Addr} {P : Addr → Prop} {It : Nat → Heap → Prop} {cur : Nat → St → Option ι → Prop} {target : Expr} {asg : ι → M Unit} (Pr : Proto g C I P It cur target asg) (f : ι → κ) {asg' : κ → M Unit} (h : ∀ y, asg' (f y) = asg y) :
  Proto g C I P It (curMap f cur) target asg' where
 off := Pr.off
 stable := Pr.stable
 there := Pr.there
 item := by
  intro i x st s Q X hP q0q hI sx hq
  refine exG1_2 q0q fun o' e hc => ?_
  cases o' with
  | none => k_call_by "c" e
  | some y => k_call_by "c" e; rw [h] at hq; exact Pr.item i y st s Q X hP hc hI sx hq
 done := by
  intro i st s E hP q0q hI sx
  refine exG1_2 q0q fun o' e hc => ?_
  cases o' with
  | none => exact Pr.done i st s E hP hc hI sx
  | some y => k_call_by "c" e
structure TgOk (g : Gx) (S : Sc) (md : Md) (n : Nat) (target : Expr) (asg : List V → M Unit) : Prop where
 one : RefA g S md n (fun v => asg [v]) target
 two : (∃ elts xs x1 pos, target = .Tuple elts x1 pos ∧ NamesAre elts xs ∧ (xs.all (stOk S)) = true ∧ ∀ a b, asg [a, b] = setsM xs [a, b]) ∨ ∀ a b, asg [a, b] = mstuck
noncomputable def asg1 (x : Str) : List V → M Unit | [v] => setM x v | _ => mstuck
noncomputable def asgT (xs : List Str) : List V → M Unit | [v] => unpackM xs v | l => setsM xs l
theorem tg_Name {x : Str} {px : Pos} (hv : stOk S x = true) : TgOk g S md n (.Name x px) (asg1 x) := ⟨refA_Name hv, .inr fun _ _ => rfl⟩
theorem tg_Tuple {elts : List Expr} {xs : List Str} {x1} {pos : Pos} (hm : md ≠ .hand) (h1 : NamesAre elts xs) (ho : (xs.all (stOk S)) = true) : TgOk g S md n (.Tuple elts x1 pos) (asgT xs) :=
 ⟨refA_Tuple hm h1 ho, .inl ⟨elts, xs, x1, pos, rfl, h1, ho, fun _ _ => rfl⟩⟩
noncomputable def Stands (g : Gx) (C : Cx) (sr : Src) (I : Addr) (P : Addr → Prop) (It : Nat → Heap → Prop) (st : St) (h : Heap) : Prop :=
 It 0 h ∧ (∀ b, P b → Off C b ∧ st.μ b = none ∧ (h.get? b).isSome = true) ∧ (∀ S' md' n' C', Ok g S' md' n' C' → md' ≠ .hand → (∀ b, P b → Off C' b) → ∀ target asg, TgOk g S' md' n' target asg → Proto g C' I P It sr.cur target asg) ∧
  ∀ i (A : Around) (s : Shared) (Q : Value → Shared → Prop) (E : Value → Shared → Prop), It i s.heap → Q (.ref I) s → wpAny (model g.prog g.w) A (pyIter (.ref I)) Q E s
noncomputable abbrev RefIt (g : Gx) (S : Sc) (md : Md) (n : Nat) (p : M Src) (iter : Expr) : Prop := ∀ C, Ok g S md n C → ∀ st s Q X, Sim g C st s → p Q X st →
 wpAny (model g.prog g.w) C.A (eval iter C.env) (fun x s1 => wpAny (model g.prog g.w) C.A (pyIter x) (fun it s2 => ∃ sr st' I P It, it = .ref I ∧ Sim g C st' s2 ∧ Q sr st' ∧ Stands g C sr I P It st' s2.heap) (PostX g C X) s1) (PostX g C X) s
inductive SeqH (Q : Src → St → Prop) (st : St) : V → Prop
 | list {a : Addr} {xs : List V} : st.μ a = some (.list xs) → Q (.list a) st → SeqH Q st (.ref a)
 | tup {a : Addr} {xs : List V} : st.μ a = some (.tup xs) → Q (.tup a) st → SeqH Q st (.ref a)
 | dict {a : Addr} {es : List (Str × V)} {ep : Nat} : st.μ a = some (.dict es ep) → Q (.keys a es.length ep) st → SeqH Q st (.ref a)
noncomputable def seqM (v : V) : M Src := fun Q _ st => SeqH Q st v
theorem stuck_item {ι : Type} {asg : List V → M Unit} (h : ∀ a b, asg [a, b] = mstuck) {I : Addr} {P : Addr → Prop} {It : Nat → Heap → Prop} {cur : Nat → St → Option ι → Prop} {target : Expr} {f : ι → V × V} {xs : List Str} {elts : List Expr} {x1 : Nat} {pos : Pos}
  (Pr : Proto g C I P It cur (.Tuple elts x1 pos) (fun p => setsM xs [(f p).1, (f p).2])) : Proto g C I P It (curMap (fun p => [(f p).1, (f p).2]) cur) target asg where
 off := Pr.off
 stable := Pr.stable
 there := Pr.there
 item := by
  intro i x st s Q X hP q0q hI sx hq
  refine exG1_2 q0q fun o' e hc => ?_
  cases o' with
  | none => k_call_by "c" e
  | some y => k_call_by "c" e; rw [h] at hq; exact hq.elim
 done := by
  intro i st s E hP q0q hI sx
  refine exG1_2 q0q fun o' e hc => ?_
  cases o' with
  | none => exact Pr.done i st s E hP hc hI sx
  | some y => k_call_by "c" e
theorem ref_seq {p : M V} {iter : Expr} (hm : md ≠ .hand) (h : RefE g S md n p iter) : RefIt g S md n (mbind p seqM) iter := by
 intro C Y st s Q X x hp
 refine h.use Y x hp fun v va st1 s1 hv x1 h1 => ?_
 have nN : s1.heap.get? s1.heap.objs.size = none := Heap.get?_none_of_le (Nat.le_refl _)
 induction h1 with
 | @list a xs hx h1 =>
   rw [er_ref hv]
   refine exG1_2 (list_in x1 hx) fun vs hl e => ?_
   refine wpAny_pyIter_list hl ⟨_, st1, s1.heap.objs.size, (· = s1.heap.objs.size), fun i h => h.IsListIter s1.heap.objs.size a i, rfl, x1.grow (tk := s1.toks) fun _ _ e => Heap.get?_push_of_some _ e, h1, ?_⟩
   refine ⟨⟨_, Heap.get?_push_size _ rfl, rfl, rfl⟩, fun b hb => by subst hb; exact ⟨x1.off_new nN, x1.mu_none nN, by first | (rw [Heap.get?_push_size _ rfl]; rfl)⟩, fun S' md' n' C' Y' hm' hO target asg T => ?_, fun i A s Q E hI hQ => wpAny_pyIter_listiter hI hQ⟩
   exact (proto_list Y' hm' T.one (hO _ rfl)).map _ fun _ => rfl
 | @tup a xs hx h1 =>
   rw [er_ref hv]
   refine exG1_2 (tup_in x1 hx) fun vs hl e => ?_
   refine wpAny_pyIter_tuple hl ⟨_, st1, s1.heap.objs.size, (· = s1.heap.objs.size), fun i h => h.IsTupleIter s1.heap.objs.size a i, rfl, x1.grow (tk := s1.toks) fun _ _ e => Heap.get?_push_of_some _ e, h1, ?_⟩
   refine ⟨⟨_, Heap.get?_push_size _ rfl, rfl, rfl⟩, fun b hb => by subst hb; exact ⟨x1.off_new nN, x1.mu_none nN, by first | (rw [Heap.get?_push_size _ rfl]; rfl)⟩, fun S' md' n' C' Y' hm' hO target asg T => ?_, fun i A s Q E hI hQ => wpAny_pyIter_tupleiter hI hQ⟩
   exact (proto_tup Y' hm' T.one (hO _ rfl)).map _ fun _ => rfl
 | @dict a es ep hx h1 =>
   rw [er_ref hv]
   refine exG0_2 (dict_in x1 hx) fun hs r1 => ?_
   refine exG1_2 r1 fun kvs hd e => ?_
   have hl : es.length = kvs.length := by rw [← e]; simp
   refine wpAny_pyIter_dict hs hd ⟨_, st1, s1.heap.objs.size, (· = s1.heap.objs.size), fun i h => h.IsKeyIter s1.heap.objs.size a i es.length ep, rfl, x1.grow (tk := s1.toks) fun _ _ e => Heap.get?_push_of_some _ e, h1, ?_⟩
   refine ⟨⟨_, Heap.get?_push_size _ rfl, rfl, by rw [hl]; rfl⟩, fun b hb => by subst hb; exact ⟨x1.off_new nN, x1.mu_none nN, by first | (rw [Heap.get?_push_size _ rfl]; rfl)⟩, fun S' md' n' C' Y' hm' hO target asg T => ?_, fun i A s Q E hI hQ => wpAny_pyIter_keyiter hI hQ⟩
   exact (proto_keys Y' hm' T.one (hO _ rfl)).map _ fun _ => rfl
inductive RngH (Q : Src → St → Prop) (st : St) : V → Prop
 | mk {i : Int} : i ≤ 100000 → -100000 ≤ i → Q (.rng i.toNat) st → RngH Q st (.int i)
noncomputable def rngM (v : V) : M Src := fun Q _ st => RngH Q st v
theorem ref_range {p : M V} {e : Expr} {px pos : Pos} (hm : md ≠ .hand) (b : Blt g S "range" (.type "range")) (h : RefE g S md n p e) (he : ∀ env, starEach [e] env = (false, eval e env) :: starEach [] env := by intro _; rfl) :
  RefIt g S md n (mbind p rngM) (.Call (.Name "range" px) [e] [] pos) := by
 intro C Y st s Q X x hp
 refine wpAny_Call_NameR (b.run Y x ?_)
 refine PyProof.Rows.callWith_type1 (wpAny_items_cons (h.use Y x hp fun v va st1 s1 hv x1 h1 => wpAny_items_nil ?_) (he _)) (he _)
 induction h1 with
 | @mk i h2 h3 h1 =>
  obtain ⟨t, rfl⟩ := er_int hv
  refine call_range_1 ?_
  refine wpAny_pyIter_range (IsRange.new ..) (small_one (by decide) (by decide) (by omega) (by omega)) ?_
  have x2 : Sim g C st1 { s1 with heap := s1.heap.push { cls := .type "range", data := .fields #[.int 0 s1.toks, .int i t, .int 1 (s1.toks + 1)] }, toks := s1.toks + 1 + 1 } := x1.grow fun _ _ e => Heap.get?_push_of_some _ e
  generalize hH : s1.heap.push { cls := .type "range", data := .fields #[.int 0 s1.toks, .int i t, .int 1 (s1.toks + 1)] } = H at x2 ⊢
  have nN : ({ s1 with heap := H, toks := s1.toks + 1 + 1 } : Shared).heap.get? H.objs.size = none := Heap.get?_none_of_le (Nat.le_refl _)
  refine ⟨_, st1, H.objs.size, (· = H.objs.size), fun j h => IsRangeIter h H.objs.size (j : Int) ((i.toNat : Int) - j) 1, rfl, x2.grow (tk := s1.toks + 1 + 1) fun _ _ e => Heap.get?_push_of_some _ e, h1, ?_⟩
  refine ⟨?_, fun b hb => by subst hb; exact ⟨x2.off_new nN, x2.mu_none nN, by first | (rw [Heap.get?_push_size _ rfl]; rfl)⟩, fun S' md' n' C' Y' hm' hO target asg T => ?_, fun i A s Q E hI hQ => wpAny_pyIter_rangeiter hI hQ⟩
  ·have hsz : Builtin.Range.rangeSize 0 i 1 = (i.toNat : Int) - ((0 : Nat) : Int) := by rw [rangeSize_one]; split <;> omega
   rw [hsz]
   exact Heap.get?_push_size _ rfl
  ·exact (proto_range Y' hm' T.one (hO _ rfl)).map _ fun _ => rfl
inductive EnH (Q : Src → St → Prop) (st : St) : V → Prop
 | list {a : Addr} {xs : List V} : st.μ a = some (.list xs) → Q (.enL a) st → EnH Q st (.ref a)
 | tup {a : Addr} {xs : List V} : st.μ a = some (.tup xs) → Q (.enT a) st → EnH Q st (.ref a)
noncomputable def enM (v : V) : M Src := fun Q _ st => EnH Q st v
theorem meets_enumT (l : Addr) (items : Array Value) (n : Nat) :
  Meets (Builtin.«enumerate.__new__» ⟨[.type "enumerate", .ref l], []⟩) (fun _ R s => s.heap.get? l = some { cls := .type "tuple", data := .seq items n } ∧
   R (.ok (.ret (.ref (s.heap.push { cls := .type "tuple_iterator", data := .fields #[.ref l, .int 0 0] }).objs.size)))
    { s with heap := (s.heap.push { cls := .type "tuple_iterator", data := .fields #[.ref l, .int 0 0] }).push { cls := .type "enumerate", data := .fields #[.none, .bool false, .ref s.heap.objs.size, rawInt 0, .none, .none] } }) :=
 .of_wp fun prog w A R s h => by
  obtain ⟨hp, g, d, tk, os⟩ := s; obtain ⟨hl, h⟩ := h
  have hsub := sub_enumerate
  have hL : Heap.IsTuple (Shared.heap ⟨hp, g, d, tk, os⟩) l items := ⟨_, hl, rfl, n, rfl⟩
  wp_walk using AutoSeq1.wpAny_loadPart' hl
  refine wpAny_stack_any fun st => wpAny_pure ?_
  split
  ·rename_i c _ _ _ _ _
   cases (c == Value.type "enumerate")
   ·wp_walk using AutoSeq1.wpAny_loadPart' hl, wpAny_pyIter_tuple hL
    exact ⟨_, rfl, h⟩
   ·wp_walk using AutoSeq1.wpAny_loadPart' hl, wpAny_pyIter_tuple hL
    exact ⟨_, rfl, h⟩
  ·wp_walk using AutoSeq1.wpAny_loadPart' hl, wpAny_pyIter_tuple hL
   exact ⟨_, rfl, h⟩
theorem call_enumT {prog : Program} {w : World} {A : Around} {E : Value → Shared → Prop} {l : Addr} {items : Array Value} {n : Nat} {Q : Value → Shared → Prop} (hl : s.heap.get? l = some { cls := .type "tuple", data := .seq items n })
  (h : ∀ h', IsEnum h' (s.heap.objs.size + 1) s.heap.objs.size 0 .none → h'.IsTupleIter s.heap.objs.size l 0 → h'.objs.size = s.heap.objs.size + 2 →
   (∀ b o, s.heap.get? b = some o → h'.get? b = some o) → Q (.ref (s.heap.objs.size + 1)) { s with heap := h' }) :
  wpAny (model prog w) A (call (.type "enumerate") [.ref l]) Q E s := by
 refine callType_new PySem.F.called_enumerate (by decide) (PySem.F.typeCall_enumerate_1 _) (PySem.F.newCall_enumerate_1 _) (fun obj => PySem.F.args_object_init_2 obj _) PySem.F.entry_enumerate_new
  (meets_enumT l items n) ⟨hl, ?_⟩
 have hz : (s.heap.push { cls := .type "tuple_iterator", data := .fields #[.ref l, .int 0 0] }).objs.size = s.heap.objs.size + 1 := Heap.size_push ..
 show _ ∧ _
 rw [hz]
 have he : IsEnum ((s.heap.push { cls := .type "tuple_iterator", data := .fields #[.ref l, .int 0 0] }).push
   { cls := .type "enumerate", data := .fields #[.none, .bool false, .ref s.heap.objs.size, rawInt 0, .none, .none] }) (s.heap.objs.size + 1) s.heap.objs.size 0 .none := by
  have := Heap.get?_push_size (s.heap.push { cls := .type "tuple_iterator", data := .fields #[.ref l, .int 0 0] })
   (o := { cls := .type "enumerate", data := .fields #[.none, .bool false, .ref s.heap.objs.size, rawInt 0, .none, .none] }) rfl
  rw [hz] at this; exact this
 refine ⟨⟨_, he, rfl⟩, h _ he ⟨_, Heap.get?_push_of_some _ (Heap.get?_push_size _ rfl), rfl, rfl⟩ (by rw [Heap.size_push, hz]) fun b o x => Heap.get?_push_of_some _ (Heap.get?_push_of_some _ x)⟩
theorem ref_enum {p : M V} {e : Expr} {px pos : Pos} (hm : md ≠ .hand) (b : Blt g S "enumerate" (.type "enumerate")) (h : RefE g S md n p e) (he : ∀ env, starEach [e] env = (false, eval e env) :: starEach [] env := by intro _; rfl) :
  RefIt g S md n (mbind p enM) (.Call (.Name "enumerate" px) [e] [] pos) := by
 intro C Y st s Q X x hp
 refine wpAny_Call_NameR (b.run Y x ?_)
 refine PyProof.Rows.callWith_type1 (wpAny_items_cons (h.use Y x hp fun v va st1 s1 hv x1 h1 => wpAny_items_nil ?_) (he _)) (he _)
 have nN : s1.heap.get? s1.heap.objs.size = none := Heap.get?_none_of_le (Nat.le_refl _)
 have nN1 : s1.heap.get? (s1.heap.objs.size + 1) = none := Heap.get?_none_of_le (Nat.le_succ _)
 have hne : s1.heap.objs.size + 1 ≠ s1.heap.objs.size := Nat.succ_ne_self _
 induction h1 with
 | @list a xs hx h1 =>
   rw [er_ref hv]
   refine exG1_2 (list_in x1 hx) fun vs hl e => ?_
   refine call_enumerate_list hl fun h₁ he₁ hit₁ hz₁ hk₁ => ?_
   have x2 : Sim g C st1 { s1 with heap := h₁ } := x1.grow (tk := s1.toks) hk₁
   refine wpAny_pyIter_enum he₁ ⟨_, st1, s1.heap.objs.size + 1, fun b => b = s1.heap.objs.size + 1 ∨ b = s1.heap.objs.size, fun i h => (∃ old, IsEnum h (s1.heap.objs.size + 1) s1.heap.objs.size i old) ∧ h.IsListIter s1.heap.objs.size a i, rfl, x2, h1, ?_⟩
   refine ⟨⟨⟨_, he₁⟩, hit₁⟩, fun b hb => ?_, fun S' md' n' C' Y' hm' hO target asg T => ?_, fun i A s Q E hI hQ => ?_⟩
   ·rcases hb with rfl | rfl
    ·exact ⟨x1.off_new nN1, x1.mu_none nN1, by show (h₁.get? _).isSome = true; rw [show h₁.get? _ = _ from he₁]; rfl⟩
    ·obtain ⟨oo, hoo, _⟩ := hit₁; exact ⟨x1.off_new nN, x1.mu_none nN, by show (h₁.get? _).isSome = true; rw [hoo]; rfl⟩
   ·rcases T.two with ⟨elts, ys, z1, pos, rfl, q1, q2, q3⟩ | q
    ·exact (proto_enumL Y' hm' q1 q2 (hO _ (.inl rfl)) (hO _ (.inr rfl)) hne).map _ fun p => q3 _ _
    ·exact stuck_item (f := fun p : Nat × V => (V.int p.1, p.2)) q (proto_enumL (elts := []) (xs := []) (x1 := 0) (pos := default) Y' hm' .nil rfl (hO _ (.inl rfl)) (hO _ (.inr rfl)) hne)
   ·refine exG1_1 hI.1 fun old hI => ?_
    exact wpAny_pyIter_enum hI hQ
 | @tup a xs hx h1 =>
   rw [er_ref hv]
   refine exG0_2 (x1.objs _ _ hx) fun r2 _ => ?_
   obtain ⟨vs, n', hl, e⟩ := r2
   refine call_enumT hl fun h₁ he₁ hit₁ hz₁ hk₁ => ?_
   have x2 : Sim g C st1 { s1 with heap := h₁ } := x1.grow (tk := s1.toks) hk₁
   refine wpAny_pyIter_enum he₁ ⟨_, st1, s1.heap.objs.size + 1, fun b => b = s1.heap.objs.size + 1 ∨ b = s1.heap.objs.size, fun i h => (∃ old, IsEnum h (s1.heap.objs.size + 1) s1.heap.objs.size i old) ∧ h.IsTupleIter s1.heap.objs.size a i, rfl, x2, h1, ?_⟩
   refine ⟨⟨⟨_, he₁⟩, hit₁⟩, fun b hb => ?_, fun S' md' n' C' Y' hm' hO target asg T => ?_, fun i A s Q E hI hQ => ?_⟩
   ·rcases hb with rfl | rfl
    ·exact ⟨x1.off_new nN1, x1.mu_none nN1, by show (h₁.get? _).isSome = true; rw [show h₁.get? _ = _ from he₁]; rfl⟩
    ·obtain ⟨oo, hoo, _⟩ := hit₁; exact ⟨x1.off_new nN, x1.mu_none nN, by show (h₁.get? _).isSome = true; rw [hoo]; rfl⟩
   ·rcases T.two with ⟨elts, ys, z1, pos, rfl, q1, q2, q3⟩ | q
    ·exact (proto_enumT Y' hm' q1 q2 (hO _ (.inl rfl)) (hO _ (.inr rfl)) hne).map _ fun p => q3 _ _
    ·exact stuck_item (f := fun p : Nat × V => (V.int p.1, p.2)) q (proto_enumT (elts := []) (xs := []) (x1 := 0) (pos := default) Y' hm' .nil rfl (hO _ (.inl rfl)) (hO _ (.inr rfl)) hne)
   ·refine exG1_1 hI.1 fun old hI => ?_
    exact wpAny_pyIter_enum hI hQ
inductive ItH (Q : Src → St → Prop) (st : St) : V → Prop
 | mk {a : Addr} {es : List (Str × V)} {ep : Nat} : st.μ a = some (.dict es ep) → Q (.items a es.length ep) st → ItH Q st (.ref a)
noncomputable def itemsM (v : V) : M Src := fun Q _ st => ItH Q st v
theorem getM_dict {name : Str} {id : String} {pl : Sem Bool} {a : Addr} {es : List (Str × V)} {ep : Nat} {Q : Value × List Value → Shared → Prop} {E : Value → Shared → Prop} (slot : Slot "dict" name id) (hty : typeOf (.builtin id) = pure (.type "method_descriptor"))
  (x : Sim g C st s) (hx : st.μ a = some (.dict es ep)) (h : Q (.builtin id, [.ref a]) s) : wpAny (model g.prog g.w) C.A (getMethod (.ref a) name pl) Q E s := by
 refine exG0_2 (dict_in x hx) fun hs r3 => ?_
 refine exG1_2 r3 fun kvs hd e => ?_
 exact getMethod_builtin hd.dictOf.typeIs PySem.F.plainAttrs_dict slot hty hd.dictOf.mapOf.noDict h
theorem kcp_entry' : entryFor table "dict_itemiterator.__iter__" = some Builtin.«dict_keyiterator.__iter__» :=
 entryFor_alias (id' := "dict_keyiterator.__iter__") (by kernel_rfl) rfl (by decide +kernel) (by kernel_rfl)
theorem pyIter_itemiter {prog : Program} {w : World} {A : Around} {E : Value → Shared → Prop} {it d : Addr} {i n ep : Nat} {ok ov : Value} {Q : Value → Shared → Prop} (hit : IsItemIter s.heap it d i n ep ok ov) (h : Q (.ref it) s) : wpAny (model prog w) A (pyIter (.ref it)) Q E s := by
 have hT : s.TypeIs (.ref it) "dict_itemiterator" := ⟨_, hit, rfl⟩
 refine wpAny_pyIter_slot hT PySem.F.slot_dict_itemiterator_iter (wpAny_call_entry PySem.F.slot_dict_itemiterator_iter hT kcp_entry' ?_ (PySem.F.args_dict_itemiterator_iter_1 _))
 show wpAny _ _ (ret (.ref it)) _ _ s
 exact wpAny_pure ⟨_, rfl, "dict_itemiterator", _, hT, PySem.F.slot_dict_itemiterator_next.lookup, h⟩
theorem ref_items {p : M V} {o : Expr} {apos pos : Pos} {pl : Env → Sem Bool} (hm : md ≠ .hand) (h : RefE g S md n p o)
  (he : ∀ env, eval (.Call (.Attribute o "items" apos) [] [] pos) env = (do
   let ov ← eval o env
   standAt apos.atName
   let (f, first) ← holding [ov] (getMethod ov "items" (pl env))
   callWith pos f first (backTo pos (starEach [] env)) []) := by intro _; rfl) :
  RefIt g S md n (mbind p itemsM) (.Call (.Attribute o "items" apos) [] [] pos) := by
 intro C Y st s Q X x hp
 refine MethodCall_ (pl := pl C.env) (h.use Y x hp fun v va st1 s1 hv x1 h1 => ?_) (he _)
 induction h1 with
 | @mk a es ep hx h1 =>
   rw [er_ref hv]
   refine exG0_2 (dict_in x1 hx) fun hs r4 => ?_
   refine exG1_2 r4 fun kvs hd e => ?_
   have hl : es.length = kvs.length := by rw [← e]; simp
   refine getM_dict PySem.F.slot_dict_items PySem.F.type_dict_items x1 hx ?_
   refine method_meetsIn PySem.F.slot_dict_items PySem.F.entry_dict_items rfl (PySem.evalArgs_none ⟨rfl, hd.dictOf.typeIs, PySem.F.args_dict_items_1 _, _, meets_dict_items _ a hs, ⟨kvs, hd.dictOf⟩, ?_⟩)
   have x2 : Sim g C st1 { s1 with heap := s1.heap.push { cls := .type "dict_items", data := .fields #[.ref a] } } := x1.grow (tk := s1.toks) fun _ _ e => Heap.get?_push_of_some _ e
   have hv2 : (s1.heap.push { cls := .type "dict_items", data := .fields #[.ref a] }).IsItemsView s1.heap.objs.size a := ⟨_, Heap.get?_push_size _ rfl, rfl, rfl⟩
   have hd2 := hd.push { cls := .type "dict_items", data := .fields #[.ref a] }
   generalize s1.heap.push { cls := .type "dict_items", data := .fields #[.ref a] } = H at x2 hv2 hd2 ⊢
   have nN : ({ s1 with heap := H } : Shared).heap.get? H.objs.size = none := Heap.get?_none_of_le (Nat.le_refl _)
   refine wpAny_pyIter_items hv2 hd2 ⟨_, st1, H.objs.size, (· = H.objs.size), fun i h => ∃ ok ov, IsItemIter h H.objs.size a i es.length ep ok ov, rfl, x2.grow (tk := s1.toks) fun _ _ e => Heap.get?_push_of_some _ e, h1, ?_⟩
   refine ⟨⟨_, _, by rw [hl]; exact Heap.get?_push_size _ rfl⟩, fun b hb => by subst hb; exact ⟨x2.off_new nN, x2.mu_none nN, by first | (rw [Heap.get?_push_size _ rfl]; rfl)⟩, fun S' md' n' C' Y' hm' hO target asg T => ?_, fun i A s Q E hI hQ => ?_⟩
   ·rcases T.two with ⟨elts, ys, z1, pos, rfl, q1, q2, q3⟩ | q
    ·exact (proto_items Y' hm' q1 q2 (hO _ rfl)).map _ fun p => q3 _ _
    ·exact stuck_item (f := fun p : Str × V => (V.str p.1, p.2)) q (proto_items (elts := []) (xs := []) (x1 := 0) (pos := default) Y' hm' .nil rfl (hO _ rfl))
   ·revert hI; refine fun oO => exG2_1 oO fun ok ov hI => ?_
    exact pyIter_itemiter hI hQ
noncomputable def loopM (asg : List V → M Unit) (body els : M Fl) (sr : Src) : M Fl := fun Q X st => forM sr.cur asg body els 0 (sr.its st) Q X st
theorem ref_For {p : M Src} {target iter : Expr} {asg : List V → M Unit} {pb pe : M Fl} {body orelse : List Stmt} {pos : Pos} (h : RefIt g S .fn n p iter) (T : TgOk g S .fn n target asg) (hb : RefB g S .fn n pb body) (he : RefB g S .fn n pe orelse)
  (hs : ∀ env x, foldedSetIterable iter env x = pure x := by intro _ _; rfl) :
  RefS g S .fn n (mbind p (loopM asg pb pe)) (.For target iter body orelse pos) := by
 intro C Y st s Q X x hp
 refine wpAny_For (wpAny_mono (h C Y st s _ X x hp) (fun xv s1 h1 => wpAny_mono h1 (fun it s2 h2 => ?_) fun _ _ e => e) fun _ _ e => e) (hs _)
 revert h2; refine fun oO => exG5_7 oO fun sr st' I P It r5 x2 h2 I0 hP hpr _ => ?_
 obtain rfl := r5
 refine codeAny_mono (for_run (hpr S .fn n C Y (by intro h; k_call_by "c" h) (fun b hb => (hP b hb).1) target asg T) Y (by intro h; k_call_by "c" h) hb he h2 I0 x2 fun b hb => (hP b hb).2.1) fun r s' hr => ?_
 exact hr
end Kk
end
section
namespace Kk
variable {g : Gx} {S : Sc} {md : Md} {n : Nat} {C : Cx} {st st' : St} {s : Shared} {h' : Heap} {tk : Nat} {α β γ δ : Type}
theorem raised_key {h' : Heap} {e : Addr} {X : Ex → St → Prop} (x : Sim g C st s) (hX : X .key st) (N : Heap.NewExc s.heap h' e "KeyError") : PostX g C X (.ref e) { s with heap := h', toks := tk } := by
 refine exG2_3 N.there fun ob t ho hc hd => ?_
 exact ⟨.key, st, none, x.grow N.keeps, hX, .inl rfl, e, ob, _, rfl, ho, hc, hd, by simp, x.off_new N.new, x.mu_none N.new, rfl⟩
theorem idx_runX {a b : V} {va vb : Value} {Q : V → St → Prop} {X : Ex → St → Prop} (Y : Ok g S md n C) (hm : md ≠ .hand) (x : Sim g C st s) (ha : er va = a) (hb : er vb = b) (h : idxM a b Q X st) :
  wpAny (model g.prog g.w) C.A (getItem va vb) (Post g C VR Q) (PostX g C X) s :=
 idx_run Y x ha hb h fun d k t es ep e1 e2 h1 h2 hX => by
  rw [e1, e2]
  refine exG0_2 (dict_in x h1) fun hs r1 => ?_
  refine exG1_2 r1 fun kvs hd e => ?_
  exact wpAny_getItem_missing_of (isStrOf_self _ t) hs (Y.handled hm) hd.dictOf.mapOf (dget_real_none e h2) fun h' e N => raised_key x hX N
theorem idx_type {a b : V} {va vb : Value} {Q : V → St → Prop} {X : Ex → St → Prop} (x : Sim g C st s) (ha : er va = a) (hb : er vb = b) (h : idxM a b Q X st) :
  ∃ T id, s.TypeIs va T ∧ typeLookup (.type T) "__getitem__" = pure (some (.builtin id)) := by
 have dct : ∀ {d : Addr} {es : List (Str × V)} {ep : Nat}, st.μ d = some (.dict es ep) → ∃ T id, s.TypeIs (.ref d) T ∧ typeLookup (.type T) "__getitem__" = pure (some (.builtin id)) := fun hm => by
  refine exG0_2 (dict_in x hm) fun hs r2 => ?_
  refine exG1_2 r2 fun kvs hd e => ?_
  exact ⟨"dict", _, hd.dictOf.typeIs, slot_dict_getitem.lookup⟩
 induction h with
 | str _ _ _ => obtain ⟨t, e⟩ := er_str ha; rw [e]; exact ⟨"str", _, typeIs_str _ _ _, PySem.F.slot_str_getitem.lookup⟩
 | list hm _ _ _ _ => rw [er_ref ha]; obtain ⟨vs, hl, e⟩ := list_in x hm; exact ⟨"list", _, hl.typeIs, slot_list_getitem.lookup⟩
 | tup hm _ _ _ _ => rw [er_ref ha]; obtain ⟨vs, hl, e⟩ := tup_in x hm; exact ⟨"tuple", _, hl.typeIs, slot_tuple_getitem.lookup⟩
 | pin hm _ _ _ _ => rw [er_ref ha]; exact ⟨"list", _, Heap.IsList.typeIs ⟨_, (x.objs _ _ hm).1, rfl, 0, rfl⟩, slot_list_getitem.lookup⟩
 | dict hm _ _ => rw [er_ref ha]; exact dct hm
 | key hm _ _ => rw [er_ref ha]; exact dct hm
theorem subTail_run {value slice : Expr} {o i : Value} {T id : String} {Q : Value → Shared → Prop} {E : Value → Shared → Prop} (hT : s.TypeIs o T)
  (hl : typeLookup (.type T) "__getitem__" = pure (some (.builtin id))) (h : wpAny (model g.prog g.w) C.A (getItem o i) Q E s)
  (hs : subscripted slice false o i = operate [o, i] (getItem o i) ∨ subscripted slice false o i = operate [i, o] (getItem o i)) :
  wpAny (model g.prog g.w) C.A (subscriptTail value slice o i) Q E s := by
 unfold subscriptTail
 refine wpAny_bind ?_
 rw [getitemInPython_of_ne hT.not_modules]
 refine wpAny_bind (wpAny_specialOf hT hl ?_)
 have fin : wpAny (model g.prog g.w) C.A (subscripted slice false o i) (fun r s₃ => wpAny (model g.prog g.w) C.A (letTemporaryGo value o r >>= fun _ => pure r) Q E s₃) E s := by
  rcases hs with hs | hs <;>
  ·rw [hs]
   exact wpAny_operating (wpAny_mono h (fun r s₃ h₃ => wpAny_bind (wpAny_letTemporaryGo (wpAny_pure h₃))) fun _ _ x => x)
 first
  | exact wpAny_pure (wpAny_bind fin)
  | exact wpAny_bind (wpAny_pure (wpAny_bind fin))
  | exact wpAny_bind fin
theorem ref_Subscript {p q : M V} {v i : Expr} {pos : Pos} (hm : md ≠ .hand) (hv : RefE g S md n p v) (hi : RefE g S md n q i) (hs : ∀ o k, subscripted i false o k = operate [o, k] (getItem o k) := by intro _ _; rfl) :
  RefE g S md n (mbind p fun a => mbind q fun b => idxM a b) (.Subscript v i pos) := fun C Y st s Q X x hp =>
 Subscript_ (hv.use Y x hp fun a va st1 s1 ha x1 h1 => hi.use Y x1 h1 fun b vb st2 s2 hb x2 h2 => by
  refine exG2_2 (idx_type x2 ha hb h2) fun T id hT hl => ?_
  exact subTail_run hT hl (idx_runX Y hm x2 ha hb h2) (.inl (hs _ _)))
noncomputable abbrev RefP (g : Gx) (S : Sc) (md : Md) (n : Nat) (p : M (Option Int)) (e : Option Expr) : Prop := Ref g S md n (fun a b => IsPart b a) p (evalPart e)
theorem refP_none : RefP g S md n (mret none) none := fun C Y st s Q X x h => evalPart_none_step ⟨none, st, .none, x, h⟩
theorem refP_some {p : M V} {e : Expr} (h : RefE g S md n p e) : RefP g S md n (mbind p fun v Q _ st => match v with | .int i => Q (some i) st | _ => False) (some e) := fun C Y st s Q X x hp =>
 evalPart_some_step (h.use Y x hp fun a va st1 s1 ha x1 h1 => by
  dsimp only at h1
  split at h1
  ·obtain ⟨t, rfl⟩ := er_int ha
   exact ⟨_, st1, .int _ _, x1, h1⟩
  ·exact h1.elim)
inductive SliH (Q : V → St → Prop) (st : St) : V → Option Int → Option Int → Prop
 | list {a : Addr} {i j : Int} {xs : List V} : st.μ a = some (.list xs) → 0 ≤ i → i ≤ j → xs.length ≤ 1000 → (∀ b, st.μ b = none → Q (.ref b) (st.put b (.list ((xs.drop i.toNat).take (j - i).toNat)))) → SliH Q st (.ref a) (some i) (some j)
 | pin {a : Addr} {i j : Int} {vs : Array Value} : st.μ a = some (.pin vs) → 0 ≤ i → i ≤ j → (vs.toList.map er).length ≤ 1000 → (∀ b, st.μ b = none → Q (.ref b) (st.put b (.list (((vs.toList.map er).drop i.toNat).take (j - i).toNat)))) → SliH Q st (.ref a) (some i) (some j)
 | tup {a : Addr} {j : Int} {xs : List V} : st.μ a = some (.tup xs) → 1 ≤ j → j < xs.length → xs.length ≤ 1000 → (∀ b, st.μ b = none → Q (.ref b) (st.put b (.tup (xs.take j.toNat)))) → SliH Q st (.ref a) none (some j)
 | str {x : Str} {lo hi : Option Int} : x.length ≤ 1000 → Q (.str (Txt.slice x lo hi)) st → SliH Q st (.str x) lo hi
noncomputable def sliceM (o : V) (lo hi : Option Int) : M V := fun Q _ st => SliH Q st o lo hi
theorem filterMap_range_take {α : Type} (xs : List α) (a m : Nat) : (List.range m).filterMap (fun k => xs[a + k]?) = (xs.drop a).take m := by
 induction m generalizing a with
 | zero => simp
 | succ m ih =>
  rw [List.range_succ_eq_map, List.filterMap_cons, List.filterMap_map]
  have e : ((fun k => xs[a + k]?) ∘ Nat.succ) = fun k => xs[(a + 1) + k]? := by funext k; simp only [Function.comp]; congr 1; omega
  rw [e, ih (a + 1)]
  simp only [Nat.add_zero]
  cases h : xs[a]? with
  | none =>
   have hl : xs.length ≤ a := by simpa using h
   simp [List.drop_of_length_le hl, List.drop_of_length_le (Nat.le_succ_of_le hl)]
  | some v =>
   obtain ⟨hlt, rfl⟩ := List.getElem?_eq_some_iff.mp h
   rw [List.drop_eq_getElem_cons hlt, List.take_succ_cons]
theorem slicePick_ab (items : Array Value) (i j : Int) (h0 : 0 ≤ i) (h1 : i ≤ j) : slicePick items (some i) (some j) none = ((items.toList.drop i.toNat).take (j - i).toNat).toArray := by
 obtain ⟨a, rfl⟩ := Int.eq_ofNat_of_zero_le h0
 obtain ⟨b, rfl⟩ := Int.eq_ofNat_of_zero_le (Int.le_trans h0 h1)
 have e : sliceBounds (some (a : Int)) (some (b : Int)) none items.size = (((min a items.size : Nat) : Int), ((min b items.size : Nat) : Int), 1) := by
  simp only [sliceBounds, Option.getD_none]
  have h2 : ¬ ((a : Int) < 0) := by omega
  have h3 : ¬ ((b : Int) < 0) := by omega
  simp only [h2, h3, if_false, show (1 : Int) > 0 by omega, if_true]
  refine Prod.ext ?_ (Prod.ext ?_ rfl) <;> (dsimp only; omega)
 rw [kmk_pick_nat items e]
 congr 1
 have h3 : ((b : Int) - (a : Int)).toNat = b - a := by omega
 rw [h3]
 simp only [Int.toNat_natCast]
 by_cases hb : b ≤ items.size
 ·rw [Nat.min_eq_left hb, Nat.min_eq_left (by omega)]
 ·by_cases ha : a ≤ items.size
  ·rw [Nat.min_eq_right (by omega : items.size ≤ b), Nat.min_eq_left ha, List.take_of_length_le (by simp), List.take_of_length_le (by simp; omega)]
  ·rw [Nat.min_eq_right (by omega : items.size ≤ b), Nat.min_eq_right (by omega : items.size ≤ a), List.drop_of_length_le (by simp), List.drop_of_length_le (by simp; omega)]
   simp
theorem adjust_to (b n : Nat) (hb : b ≤ n) : Builtin.Slice.sliceAdjust none (some (b : Int)) 1 (n : Int) = (0, (b : Int)) := by
 unfold Builtin.Slice.sliceAdjust
 have h1 : ¬ ((1 : Int) < 0) := by omega
 have h2 : ¬ ((b : Int) < 0) := by omega
 simp only [h1, h2, if_false]
 congr 1
 omega
theorem places_to (b : Nat) : Builtin.Slice.slicePlaces 0 (b : Int) 1 = b := by
 unfold Builtin.Slice.slicePlaces
 have h1 : (1 : Int) > 0 := by omega
 simp only [h1, if_true, Int.ediv_one]
 split <;> omega
theorem sliceApplied_to {prog : Program} {w : World} {A : Around} {E : Value → Shared → Prop} {sl : Addr} {b n : Nat} {u : Tok} {Q : Int × Int × Nat → Shared → Prop} (hs : s.heap.IsSliceOf sl .none (.int b u) .none) (hb : b ≤ n) (h : Q (0, 1, b) s) :
  wpAny (model prog w) A (Builtin.Slice.sliceApplied (.ref sl) (pure (n : Int))) Q E s := by
 refine exG1_3 (id hs) fun os hos hcs hds => ?_
 unfold Builtin.Slice.sliceApplied Builtin.Slice.sliceFields
 refine wpAny_bind (wpAny_bind (wpAny_field hos hds (x := .none) rfl (wpAny_bind (wpAny_field hos hds (x := .int b u) rfl (wpAny_bind (wpAny_field hos hds (x := .none) rfl (wpAny_pure ?_)))))))
 refine wpAny_bind (slicePart_none ?_)
 show wpAny _ _ (if ((1 : Int) == 0) = true then _ else _) _ _ s
 rw [if_neg (by decide)]
 refine wpAny_bind (slicePart_none (wpAny_bind (slicePart_int (wpAny_bind (wpAny_pure ?_)))))
 show wpAny _ _ (match Builtin.Slice.sliceAdjust none (some (b : Int)) 1 (n : Int) with | (lo, hi) => pure (lo, (1 : Int), Builtin.Slice.slicePlaces lo hi 1)) _ _ s
 rw [adjust_to b n hb]
 show wpAny _ _ (pure ((0 : Int), (1 : Int), Builtin.Slice.slicePlaces (0 : Int) (b : Int) 1)) _ _ s
 rw [places_to b]
 exact wpAny_pure h
theorem getItem_tuple_to {prog : Program} {w : World} {A : Around} {E : Value → Shared → Prop} {t sl : Addr} {items : Array Value} {b : Nat} {u : Tok} {Q : Value → Shared → Prop} (ht : s.heap.IsTuple t items) (hs : s.heap.IsSliceOf sl .none (.int b u) .none) (hb : b < items.size)
  (h : Q (.ref s.heap.objs.size) { s with heap := s.heap.push { cls := .type "tuple", data := .seq (items.toList.take b).toArray } })
  (hsz : items.size ≤ sizeLine) : wpAny (model prog w) A (getItem (.ref t) (.ref sl)) Q E s := by
 have hok : sizeOk (.seq (items.toList.take b).toArray) := by
  show (items.toList.take b).toArray.size ≤ sizeLine
  rw [List.size_toArray, List.length_take, Array.length_toList]
  omega
 refine exG1_3 (id hs) fun os hos hcs hds => ?_
 have hTs : s.TypeIs (.ref sl) "slice" := ⟨os, hos, hcs⟩
 unfold getItem
 try with_reducible refine wpAny_holding ?_
 first | refine wpAny_bind (wpAny_pure ?_) | skip
 refine wpAny_bind (wpAny_sequenceKey ht.typeIs (by decide) ?_)
 refine wpAny_bind (wpAny_callSpecial?_slot (name := Str.ofString "__getitem__") ht.typeIs slot_tuple_getitem
  (wpAny_call_entry slot_tuple_getitem ht.typeIs entry_tuple_getitem ?_ (args_tuple_getitem _ _)))
 show wpAny _ _ (Builtin.Tuple.tupleItemsOf (.ref t) >>= _) _ _ s
 refine wpAny_bind (tupleItemsOf_ ht ?_)
 refine wpAny_bind (wpAny_typeOf hTs ?_)
 rw [if_pos (by decide)]
 refine wpAny_bind (sliceApplied_to hs (Nat.le_of_lt hb) ?_)
 have hno : ¬ (((0 : Int) == 0 && (1 : Int) == 1 && b == items.size) = true) := by
  have : (b == items.size) = false := by rw [beq_eq_false_iff_ne]; omega
  rw [this]; simp
 show wpAny _ _ (if ((0 : Int) == 0 && (1 : Int) == 1 && b == items.size) = true then _ else _) _ _ s
 rw [if_neg hno]
 have hp : ((List.range b).filterMap fun (k : Nat) => items[((0 : Int) + (k : Int) * 1).toNat]?).toArray = (items.toList.take b).toArray := by
  have e : (fun (k : Nat) => items[((0 : Int) + (k : Int) * 1).toNat]?) = fun k => items.toList[0 + k]? := by
   funext k
   have : ((0 : Int) + (k : Int) * 1).toNat = 0 + k := by omega
   rw [this]; simp
  rw [e, filterMap_range_take]; simp
 rw [hp]
 unfold Builtin.Tuple.tupleExact
 first
  | exact wpAny_bind (wpAny_newObj_type (wpAny_pure ⟨_, rfl, wpAny_pure h⟩) hok)
  | exact wpAny_bind (wpAny_pure (wpAny_bind (wpAny_newObj_type (wpAny_pure ⟨_, rfl, wpAny_pure h⟩) hok)))
theorem slice_run {o : V} {lo hi : Option Int} {vo vl vu : Value} {Q : V → St → Prop} {X : Ex → St → Prop} {E : Value → Shared → Prop} (x : Sim g C st s) (ho : er vo = o) (hl : IsPart vl lo) (hu : IsPart vu hi) (h : sliceM o lo hi Q X st) :
  ∃ T id, ({ s with heap := s.heap.push { cls := .type "slice", data := .fields #[vl, vu, .none] } } : Shared).TypeIs vo T ∧ typeLookup (.type T) "__getitem__" = pure (some (.builtin id)) ∧
   wpAny (model g.prog g.w) C.A (getItem vo (.ref s.heap.objs.size)) (Post g C VR Q) E { s with heap := s.heap.push { cls := .type "slice", data := .fields #[vl, vu, .none] } } := by
 have x1 : Sim g C st { s with heap := s.heap.push { cls := .type "slice", data := .fields #[vl, vu, .none] } } := x.grow (tk := s.toks) fun _ _ e => Heap.get?_push_of_some _ e
 have hsl : (s.heap.push { cls := .type "slice", data := .fields #[vl, vu, .none] }).IsSliceOf s.heap.objs.size vl vu .none := Heap.IsSliceOf.new ..
 generalize s.heap.push { cls := .type "slice", data := .fields #[vl, vu, .none] } = H at x1 hsl ⊢
 induction h with
 | @list a i j xs hm h0 h1 hz h =>
   rw [er_ref ho]
   refine exG1_2 (list_in x1 hm) fun vs hv e => ?_
   refine ⟨"list", _, hv.typeIs, slot_list_getitem.lookup, wpAny_getItem_list_slice hv hsl hl hu .none (by simp) ?_ (by rw [size_er e]; exact Nat.le_trans hz sizeL)⟩
   rw [slicePick_ab vs i j h0 h1]
   exact ⟨_, _, rfl, x1.newList (by rw [List.map_take, List.map_drop, e]), h _ x1.fresh⟩
 | @pin a i j vs hm h0 h1 hz h =>
   rw [er_ref ho]
   have hv : Heap.IsList H a vs := ⟨_, (x1.objs _ _ hm).1, rfl, 0, rfl⟩
   have e : vs.toList.map er = vs.toList.map er := rfl
   refine ⟨"list", _, hv.typeIs, slot_list_getitem.lookup, wpAny_getItem_list_slice hv hsl hl hu .none (by simp) ?_ (by rw [size_er e]; exact Nat.le_trans hz sizeL)⟩
   rw [slicePick_ab vs i j h0 h1]
   exact ⟨_, _, rfl, x1.newList (by rw [List.map_take, List.map_drop]), h _ x1.fresh⟩
 | @tup a j xs hm h0 h1 hz h =>
   rw [er_ref ho]
   refine exG1_2 (tup_in x1 hm) fun vs hv e => ?_
   k_call_by "c" hl
   cases (hu) with
   | int j t =>
   obtain ⟨b, rfl⟩ := Int.eq_ofNat_of_zero_le (show 0 ≤ j by omega)
   refine ⟨"tuple", _, hv.typeIs, slot_tuple_getitem.lookup, getItem_tuple_to hv hsl (by rw [size_er e]; omega) ?_ (by rw [size_er e]; exact Nat.le_trans hz sizeL)⟩
   exact ⟨_, _, rfl, x1.newTup (by rw [List.map_take, e]; rfl), h _ x1.fresh⟩
 | @str y lo hi hz h =>
  obtain ⟨t, rfl⟩ := er_str ho
  have part : ∀ {v : Value} {k : Option Int}, IsPart v k → ∃ p : Option (Int × Tok), v = partValue p ∧ p.map (·.1) = k := by
   intro v k hp
   induction hp with
   | none => exact ⟨none, rfl, rfl⟩
   | int i t => exact ⟨some (i, t), rfl, rfl⟩
  refine exG1_2 (part hl) fun l r3 r4 => ?_
  obtain rfl := r3
  obtain rfl := r4
  refine exG1_2 (part hu) fun u r5 r6 => ?_
  obtain rfl := r5
  obtain rfl := r6
  refine exG1_3 hsl fun os hos hcs hds => ?_
  refine ⟨"str", _, typeIs_str _ _ _, PySem.F.slot_str_getitem.lookup, wpAny_getItem_str_slice (l := l) (u := u) (st := none) ⟨os, hos, hcs, hds⟩ rfl ?_⟩
  have e : Txt.slice y (l.map (·.1)) (u.map (·.1)) = if ((1 : Int) == 1 && (slicePicked y l u none).length == y.length) = true then y else ⟨((slicePicked y l u none).filterMap (y.cps[·]?)).toArray⟩ := rfl
  unfold sliceMade
  dsimp only [Option.map_none, Option.getD_none]
  rw [e] at h
  split
  ·rename_i hc
   rw [if_pos hc] at h
   exact ⟨_, st, rfl, x1, h⟩
  ·rename_i hc
   rw [if_neg hc] at h
   refine ⟨?_, _, st, rfl, x1.tick, h⟩
   show (List.filterMap (fun x => y.cps[x]?) (slicePicked y l u none)).toArray.size ≤ sizeLine
   rw [List.size_toArray]
   exact Nat.le_trans (List.length_filterMap_le _ _) (Nat.le_trans (sliceIndices_le _ _ _) (Nat.le_trans hz sizeL))
theorem ref_Slice {p : M V} {pl pu : M (Option Int)} {v : Expr} {lo hi : Option Expr} {p1 pos : Pos} (hv : RefE g S md n p v) (hl : RefP g S md n pl lo) (hu : RefP g S md n pu hi) :
  RefE g S md n (mbind p fun o => mbind pl fun a => mbind pu fun b => sliceM o a b) (.Subscript v (.Slice lo hi none p1) pos) := fun C Y st s Q X x hp =>
 Subscript_ (hv.use Y x hp fun a va st1 s1 ha x1 h1 => wpAny_Slice (hl.use Y x1 h1 fun l vl st2 s2 hl' x2 h2 => hu.use Y x2 h2 fun u vu st3 s3 hu' x3 h3 => by
  rw [evalPart_none]
  obtain ⟨T, id, hT, hlk, hr⟩ := slice_run x3 ha hl' hu' h3
  exact wpAny_pure (subTail_run hT hlk hr (.inr rfl))))
end Kk
end
section
namespace Kk
variable {g : Gx} {S : Sc} {md : Md} {n : Nat} {C : Cx} {st st' : St} {s : Shared} {h' : Heap} {tk : Nat} {α β γ δ : Type}
inductive SetIH (v : V) (Q : Unit → St → Prop) (st : St) : V → V → Prop
 | list {a : Addr} {k : Int} {xs : List V} : st.μ a = some (.list xs) → 0 ≤ k → k < xs.length → xs.length ≤ 1000 → Q () (st.put a (.list (xs.set k.toNat v))) → SetIH v Q st (.ref a) (.int k)
 | dict {a : Addr} {k : Str} {es : List (Str × V)} {ep : Nat} : st.μ a = some (.dict es ep) → es.length ≤ 1000 → (∀ ep, Q () (st.put a (.dict (dput es k v) ep))) → SetIH v Q st (.ref a) (.str k)
noncomputable def setItemM (o i v : V) : M Unit := fun Q _ st => SetIH v Q st o i
theorem setItem_plain {prog : Program} {w : World} {A : Around} {E : Value → Shared → Prop} {l : Addr} {items : Array Value} {k : Int} {t : Tok} {v : Value} {Q : Unit → Shared → Prop} (hl : s.heap.PlainList l items) (h0 : 0 ≤ k) (hfit : k < 2 ^ 63) (hn : k < items.size)
  (hQ : ∀ h', h'.PlainList l (items.setIfInBounds k.toNat v) → Heap.SameBut l s.heap h' → Q () { s with heap := h' }) :
  wpAny (model prog w) A (setItem (.ref l) (.int k t) v) Q E s := by
 refine exG1_1 (id hl) fun m ho => ?_
 have hT := hl.isList.typeIs
 unfold setItem
 try with_reducible refine wpAny_holding ?_
 first | refine wpAny_bind (wpAny_pure ?_) | skip
 refine wpAny_bind (wpAny_sequenceKey hT (by decide) ?_)
 refine wpAny_bind (wpAny_callSpecial?_slot (name := Str.ofString "__setitem__") hT slot_list_setitem
  (wpAny_call_entry slot_list_setitem hT entry_list_setitem ?_ (args_list_setitem _ _ _)))
 show wpAny _ _ (Builtin.List.listSubscript? (.int k t) >>= _) _ _ s
 refine wpAny_bind (wpAny_listSubscript_int (fitsIndex_of h0 hfit) ?_)
 clear hfit
 obtain ⟨j, rfl⟩ := Int.eq_ofNat_of_zero_le h0
 have hj : j < items.size := by omega
 have hx' : items[j]? = some items[j] := Array.getElem?_eq_getElem hj
 show wpAny _ _ ((seqItemAt l j >>= fun r => pure (r.map (j, ·))) >>= _) _ _ s
 refine wpAny_bind (wpAny_bind (wpAny_seqItemAt ho rfl (wpAny_pure ?_)))
 rw [hx']
 show wpAny _ _ (setSeqItemAt l j v >>= _) _ _ s
 have hfin : (s.heap.update l (Obj.mapSeq (·.setIfInBounds j v))).PlainList l (items.setIfInBounds j v) := ⟨_, IsL.update (n := m) ho _⟩
 refine wpAny_bind (wpAny_setSeqItemAt ho rfl ?_)
 first
  | exact wpAny_bind (wpAny_pure (wpAny_pure ⟨.none, rfl, wpAny_pure (hQ _ hfin (Heap.SameBut.update ..))⟩))
  | exact wpAny_pure ⟨.none, rfl, wpAny_pure (hQ _ hfin (Heap.SameBut.update ..))⟩
theorem len_pairs {kvs : List (Str × Value)} {es : List (Str × V)} (e : kvs.map (fun p => (p.1, er p.2)) = es) : es.length = kvs.length := by rw [← e, List.length_map]
theorem setItem_run {o i v : V} {vo vi vv : Value} {Q : Unit → St → Prop} {X : Ex → St → Prop} {E : Value → Shared → Prop} (Y : Ok g S md n C) (x : Sim g C st s) (ho : er vo = o) (hi : er vi = i) (hv : er vv = v) (h : setItemM o i v Q X st) :
  wpAny (model g.prog g.w) C.A (setItem vo vi vv) (fun _ s' => ∃ st', Sim g C st' s' ∧ Q () st') E s := by
 induction h with
 | @list a k xs hm h0 h1 hz h =>
  obtain ⟨t, rfl⟩ := er_int hi
  rw [er_ref ho]
  refine exG0_2 (x.objs _ _ hm) fun r1 _ => ?_
  obtain ⟨vs, hp, e⟩ := r1
  have hsz := size_er e
  refine setItem_plain hp h0 (by omega) (by omega) fun h' hp' hs' => ⟨_, x.change Y (tk := s.toks) (o' := .list (xs.set k.toNat v)) hm hs'.extBut ⟨_, hp', ?_⟩, h⟩
  simp only [Array.toList_setIfInBounds, List.map_set, e, hv]
 | @dict a k es ep hm hz h =>
  obtain ⟨t, rfl⟩ := er_str hi
  rw [er_ref ho]
  refine exG0_2 (dict_in x hm) fun hs r2 => ?_
  refine exG1_2 r2 fun kvs hd e => ?_
  refine wpAny_setItem_pairs (isStrOf_self _ t) hd.dictOf (fun h' hd' hs' => ?_) (by rw [sizeLine_eq]; have := len_pairs e; omega)
  refine exG3_4 hd' fun ob es' ep' q1 q2 q3 q4 => ?_
  refine ⟨_, x.change Y (tk := s.toks + 1) (o' := .dict (dput es k v) ep') hm hs'.extBut ⟨hs, _, ⟨ob, es', q1, q2, q3, q4⟩, ?_⟩, h ep'⟩
  rw [dput_map, e, hv]
theorem ref_AssignSub {p q r : M V} {o i e : Expr} {p1 pos : Pos} (hv : RefE g S md n p e) (ho : RefE g S md n q o) (hi : RefE g S md n r i)
  (hs : ∀ env, swapsWith e (some (.Subscript o i p1)) pos.line env = pure false := by intro _; rfl) :
  RefS g S md n (mbind p fun v => mbind q fun a => mbind r fun k => mbind (setItemM a k v) fun _ => mret .next) (.Assign [.Subscript o i p1] e pos) := fun C Y st s Q X x hp =>
 wpAny_Assign_Subscript (hv.use Y x hp fun v vv st1 s1 ev x1 h1 => ho.use Y x1 h1 fun a va st2 s2 ea x2 h2 => hi.use Y x2 h2 fun k vk st3 s3 ek x3 h3 =>
  wpAny_mono (setItem_run (E := PostX g C X) Y x3 ea ek ev h3) (fun _ s4 q0 => by obtain ⟨st4, x4, q4⟩ := q0; exact ⟨.next, st4, trivial, x4, q4⟩) fun _ _ e => e) (hs _)
theorem ref_AugSub {op : Operator} {p q r : M V} {o i e : Expr} {p1 pos : Pos} (hm : md ≠ .hand) (ho : RefE g S md n q o) (hi : RefE g S md n r i) (hv : RefE g S md n p e)
  (ha : ∀ ov iv new, augStore i ov iv new = (do holding [new, ov, iv] (setItem ov iv new); release [new, ov, iv] []; pure .next) := by intro _ _ _; rfl) :
  RefS g S md n (mbind q fun a => mbind r fun k => mbind (idxM a k) fun old => mbind p fun v => mbind (iopM op old v) fun new => mbind (setItemM a k new) fun _ => mret .next) (.AugAssign (.Subscript o i p1) op e pos) := fun C Y st s Q X x hp =>
 wpAny_AugAssign_Subscript_any (ho.use Y x hp fun a va st1 s1 ea x1 h1 => hi.use Y x1 h1 fun k vk st2 s2 ek x2 h2 =>
  wpAny_mono (idx_runX Y hm x2 ea ek h2) (fun old s3 ⟨uold, st3, eo, x3, h3⟩ => hv.use Y x3 h3 fun v vv st4 s4 ev x4 h4 =>
   wpAny_mono (iop_run (E := PostX g C X) Y x4 eo ev h4) (fun nw s5 ⟨unew, st5, en, x5, h5⟩ =>
    wpAny_mono (setItem_run (E := PostX g C X) Y x5 ea ek en h5) (fun _ s6 q0 => by obtain ⟨st6, x6, q6⟩ := q0; exact ⟨.next, st6, trivial, x6, q6⟩) fun _ _ e => e) fun _ _ e => e) fun _ _ e => e) ha
inductive DelH (Q : Unit → St → Prop) (st : St) : V → Prop
 | mk {a : Addr} {xs : List V} : st.μ a = some (.list xs) → 2 ≤ xs.length → xs.length ≤ 1000 → Q () (st.put a (.list (xs.take (xs.length - 2)))) → DelH Q st (.ref a)
noncomputable def delLastM (o : V) : M Unit := fun Q _ st => DelH Q st o
theorem zipIdx_none {α : Type} (p : Nat → Bool) (l : List α) (k : Nat) (hp : ∀ j, k ≤ j → j < k + l.length → p j = true) :
  ((l.zipIdx k).filterMap fun x => if p x.2 = true then none else some x.1) = [] := by
 induction l generalizing k with
 | nil => simp
 | cons x r ih =>
  rw [List.zipIdx_cons, List.filterMap_cons]
  have h0 := hp k (Nat.le_refl _) (by simp)
  simp only [h0, if_true]
  exact ih (k + 1) fun j h1 h2 => hp j (by omega) (by simp only [List.length_cons]; omega)
theorem zipIdx_keep {α : Type} (p : Nat → Bool) (l : List α) (m k : Nat) (hp : ∀ j, k ≤ j → j < k + l.length → p j = decide (m + k ≤ j)) :
  ((l.zipIdx k).filterMap fun x => if p x.2 = true then none else some x.1) = l.take m := by
 induction l generalizing m k with
 | nil => simp
 | cons x r ih =>
  induction m with
  | zero => exact zipIdx_none p _ k fun j h1 h2 => by rw [hp j h1 h2]; simp; omega
  | succ m =>
   rw [List.zipIdx_cons, List.filterMap_cons]
   have h0 := hp k (Nat.le_refl _) (by simp)
   have : p k = false := by rw [h0]; simp
   simp only [this, Bool.false_eq_true, if_false, List.take_succ_cons]
   rw [ih m (k + 1) fun j h1 h2 => by rw [hp j (by omega) (by simp only [List.length_cons]; omega)]; congr 1; simp; omega]
set_option maxRecDepth 100000 in
theorem delItem_last2 {prog : Program} {w : World} {A : Around} {E : Value → Shared → Prop} {l sl : Addr} {items : Array Value} {vl : Value} {Q : Unit → Shared → Prop} (hl : s.heap.PlainList l items) (hs : s.heap.IsSliceOf sl vl .none .none) (pl : IsPart vl (some (-2))) (h2 : 2 ≤ items.size) (hz : items.size ≤ 1000)
  (hQ : ∀ h', h'.PlainList l (items.toList.take (items.size - 2)).toArray → Heap.SameBut l s.heap h' → Q () { s with heap := h' }) :
  wpAny (model prog w) A (delItem (.ref l) (.ref sl)) Q E s := by
 refine exG1_1 (id hl) fun m ho => ?_
 refine exG1_3 (id hs) fun os hos hcs hds => ?_
 have hTs : s.TypeIs (.ref sl) "slice" := ⟨os, hos, hcs⟩
 have hT := hl.isList.typeIs
 refine wpAny_delItem_slot hT (by decide) PySem.F.slot_list_delitem (wpAny_call_entry PySem.F.slot_list_delitem hT PySem.F.entry_list_delitem ?_ (PySem.F.args_list_delitem_2 _ _))
 show wpAny _ _ (Builtin.List.listSubscript? (.ref sl) >>= _) _ _ s
 refine wpAny_bind ?_
 unfold Builtin.List.listSubscript?
 refine wpAny_bind (wpAny_specialOf hTs slice_no_index ?_)
 simp only [Option.isNone_none, if_true]
 refine wpAny_pure ?_
 show wpAny _ _ (typeOf (.ref sl) >>= _) _ _ s
 refine wpAny_bind (wpAny_typeOf hTs ?_)
 rw [if_neg (by decide)]
 rw [listSliceParts_eq]
 refine wpAny_bind (wpAny_bind (wpAny_field hos hds (x := .none) rfl (wpAny_bind (wpAny_listPart .none ?_))))
 rw [if_neg (by decide)]
 refine wpAny_bind (wpAny_field hos hds (x := vl) rfl (wpAny_bind (wpAny_listPart pl ?_)))
 refine wpAny_bind (wpAny_field hos hds (x := .none) rfl (wpAny_bind (wpAny_listPart .none (wpAny_pure ?_))))
 refine wpAny_bind (m := Builtin.List.listItems (.ref l)) ?_
 unfold Builtin.List.listItems
 refine wpAny_bind (wpAny_seqItems ho rfl (wpAny_pure ?_))
 refine wpAny_bind (wpAny_of_eq (sliceIndices_raw (some (-2)) none none items.size (by simp)) ?_)
 refine wpAny_bind (wpAny_rule ?_)
 have eb : sliceBounds (some (-2)) none none items.size = (((items.size - 2 : Nat) : Int), (items.size : Int), 1) := by
  simp only [sliceBounds, Option.getD_none]
  simp only [show (-2 : Int) < 0 by omega, show (1 : Int) > 0 by omega, if_true]
  refine Prod.ext ?_ (Prod.ext rfl rfl)
  dsimp only
  omega
 rw [eb]
 dsimp only
 refine wpAny_bind (m := updateSeq l _) (wpAny_updateSeq (hz := Nat.le_trans hz sizeL) (_hz' := (by rw [List.size_toArray]; refine Nat.le_trans (List.length_filterMap_le _ _) ?_; rw [List.length_zipIdx, Array.length_toList]; exact Nat.le_succ_of_le (Nat.le_trans hz sizeL))) ho rfl (wpAny_bind (wpAny_letGo (wpAny_pure ⟨.none, rfl, hQ _ ⟨if (items.toList.take (items.size - 2)).toArray.size = items.size then m else m + 1, ?_⟩ (Heap.SameBut.update ..)⟩))))
 have key : ∀ f : Array Value → Array Value, f items = (items.toList.take (items.size - 2)).toArray →
   (s.heap.update l (Obj.mapSeq f)).get? l = some { cls := .type "list", data := .seq (items.toList.take (items.size - 2)).toArray (if (items.toList.take (items.size - 2)).toArray.size = items.size then m else m + 1) } := by
  intro f e
  have := IsL.update (n := m) ho f
  unfold IsL at this
  rw [this, e]
  congr 3
  simp [beq_iff_eq]
 apply key
 congr 1
 refine zipIdx_keep _ items.toList (items.size - 2) 0 fun j _ hj => ?_
 show (if (1 : Int) > 0 then (decide (((items.size - 2 : Nat) : Int) ≤ (j : Int)) && decide ((j : Int) < (items.size : Int)) && (((j : Int) - ((items.size - 2 : Nat) : Int)) % 1 == 0)) else _) = _
 rw [if_pos (by omega), Int.emod_one]
 simp only [Array.length_toList] at hj
 have h1 : (j : Int) < (items.size : Int) := by omega
 rw [decide_eq_true h1]
 simp only [Bool.and_true, beq_self_eq_true]
 congr 1
 simp
end Kk
end
section
namespace Kk
variable {g : Gx} {S : Sc} {md : Md} {n : Nat} {C : Cx} {st st' : St} {s : Shared} {h' : Heap} {tk : Nat} {α β γ δ : Type}
theorem delLast_run {o : V} {vo vl : Value} {sl : Addr} {Q : Unit → St → Prop} {X : Ex → St → Prop} {E : Value → Shared → Prop} (Y : Ok g S md n C) (x : Sim g C st s) (ho : er vo = o) (hs : s.heap.IsSliceOf sl vl .none .none) (pl : IsPart vl (some (-2))) (h : delLastM o Q X st) :
  wpAny (model g.prog g.w) C.A (delItem vo (.ref sl)) (fun _ s' => ∃ st', Sim g C st' s' ∧ Q () st') E s := by
 obtain @⟨a, xs, hm, h2, hz, h⟩ := h
 rw [er_ref ho]
 refine exG0_2 (x.objs _ _ hm) fun r1 _ => ?_
 obtain ⟨vs, hp, e⟩ := r1
 have hsz := size_er e
 refine delItem_last2 hp hs pl (by omega) (by omega) fun h' hp' hs' => ⟨_, x.change Y (tk := s.toks) (o' := .list (xs.take (xs.length - 2))) hm hs'.extBut ⟨_, hp', ?_⟩, h⟩
 show List.map er (List.take (vs.size - 2) vs.toList) = _
 rw [List.map_take, e, hsz]
theorem ref_DelLast {p : M V} {pl : M (Option Int)} {o : Expr} {lo : Expr} {p1 p2 pos : Pos} (ho : RefE g S md n p o) (hl : RefP g S md n pl (some lo)) :
  RefS g S md n (mbind p fun a => mbind pl fun l => fun Q X st => l = some (-2) ∧ delLastM a (fun _ st' => Q .next st') X st) (.Delete [.Subscript o (.Slice (some lo) none none p1) p2] pos) := fun C Y st s Q X x hp =>
 wpAny_Delete (wpAny_deleteEach_cons (wpAny_delete_Subscript (ho.use Y x hp fun a va st1 s1 ea x1 h1 => wpAny_Slice (hl.use Y x1 h1 fun l vl st2 s2 el x2 h2 => wpAny_evalPart_none (by
  obtain ⟨rfl, h2⟩ := h2
  rw [evalPart_none]
  have x3 : Sim g C st2 { s2 with heap := s2.heap.push { cls := .type "slice", data := .fields #[vl, .none, .none] } } := x2.grow (tk := s2.toks) fun _ _ e => Heap.get?_push_of_some _ e
  exact wpAny_pure (wpAny_mono (delLast_run (E := PostX g C X) Y x3 ea (Heap.IsSliceOf.new ..) el h2) (fun _ s4 q0 => by obtain ⟨st4, x4, q4⟩ := q0; exact wpAny_deleteEach_nil ⟨.next, st4, trivial, x4, q4⟩) fun _ _ e => e))))))
noncomputable def whileStep (t : M Bool) (body els : M Fl) (Q : Fl → St → Prop) (X : Ex → St → Prop) (K : St → Prop) : St → Prop :=
 t (fun b st1 => if b = true then body (fun f st2 => match f with | .brk => Q .next st2 | .ret v => Q (.ret v) st2 | _ => K st2) X st1 else els Q X st1) X
noncomputable def whileM (t : M Bool) (body els : M Fl) : M Fl := fun Q X st => ∃ I : Nat → St → Prop, (∀ k st, I k st → whileStep t body els Q X (fun st' => ∃ j, j < k ∧ I j st') st) ∧ ∃ k, I k st
theorem ref_While {t : M Bool} {pb pe : M Fl} {test : Expr} {body orelse : List Stmt} {pos : Pos} (ht : RefT g S .fn n t test) (hb : RefB g S .fn n pb body) (he : RefB g S .fn n pe orelse) :
  RefS g S .fn n (whileM t pb pe) (.While test body orelse pos) := by
 intro C Y st s Q X x ⟨I, hI, k, hk⟩
 have hm : Md.fn ≠ Md.comp := by intro h; k_call_by "c" h
 have noted : ∀ e s', PostX g C X e s' → notedBy (model g.prog g.w) C.A C.env (fun e s' => cameBackBy (model g.prog g.w) C.A C.env (PostX g C X) e s') e s' := fun e s' p =>
  noted_of Y hm (fun k st2 s2 x2 hX R => came_back Y hm x2 hX R) p
 refine wpAny_While (codeAny_mono (codeAny_whileLoop (R := fun r s' => match r with | .ok f => Post g C FlR Q f s' | .error e => cameBackBy (model g.prog g.w) C.A C.env (PostX g C X) e s') (fun k s => ∃ st, Sim g C st s ∧ I k st) ?_ k ⟨st, x, hk⟩) fun r s' h => h)
 intro k s q0q
 refine exG1_2 q0q fun st x hk => ?_
 refine wpAny_mono (ht C Y st s _ X x (hI k st hk)) (fun b s1 z0 => ?_) noted
 refine exG2_3 z0 fun b' st1 eb x1 h1 => ?_
 subst eb
 k_call_by "c" b
 ·simp only [Bool.false_eq_true, if_false] at h1 ⊢
  exact wpAny_mono (he C Y st1 s1 Q X x1 h1) (fun f s2 p => p) noted
 ·simp only [if_true] at h1 ⊢
  refine wpAny_mono (hb C Y st1 s1 _ X x1 h1) (fun f s2 z0 => ?_) noted
  refine exG2_3 z0 fun f' st2 ef x2 h2 => ?_
  induction f' <;> induction f <;> first | exact ef.elim | skip
  ·obtain ⟨j, hj, h2⟩ := h2; exact ⟨j, hj, st2, x2, h2⟩
  ·exact ⟨.next, st2, trivial, x2, h2⟩
  ·obtain ⟨j, hj, h2⟩ := h2; exact ⟨j, hj, st2, x2, h2⟩
  ·exact ⟨_, st2, ef, x2, h2⟩
theorem ref_AssertHolds {t : M Bool} {test : Expr} {msg : Option Expr} {pos : Pos} (ht : RefT g S md n t test) : RefS g S md n (mbind t fun b Q _ st => b = true ∧ Q .next st) (.Assert test msg pos) := fun C Y st s Q X x hp =>
 wpAny_Assert_holds (ht.use Y x hp fun b b' st1 s1 eb x1 h1 => ⟨by rw [eb]; exact h1.1, .next, st1, trivial, x1, h1.2⟩)
theorem hand_ok {e : Addr} (Y : Ok g S .fn n C) : Ok g S .hand n { C with A := C.A.mark (some (.ref e)) } where
 stat := Y.stat
 scope := Y.scope
 kind := Y.kind
 glob := Y.glob
 blt := Y.blt
 cells := Y.cells
 ownL := Y.ownL
 baseL := Y.baseL
 frL := Y.frL
 frB := Y.frB
 ownN := Y.ownN
 inj := Y.inj
 code := Y.code
 clo := Y.clo
 hnd := .inl rfl
 guards := Y.guards
 frames := .inr (Y.frames.resolve_left (by intro h; k_call_by "c" h))
 outs := Y.outs
 depth := Y.depth
 units := Y.units
theorem hand_sim {e : Addr} (x : Sim g C st s) : Sim g { C with A := C.A.mark (some (.ref e)) } st s := ⟨x.gens, x.drawn, x.os, x.base, x.vars, x.cells, x.frs, x.objs⟩
theorem hand_back {e : Addr} (x : Sim g { C with A := C.A.mark (some (.ref e)) } st s) : Sim g C st s := ⟨x.gens, x.drawn, x.os, x.base, x.vars, x.cells, x.frs, x.objs⟩
theorem isExc_KeyError : isSubtype (.type "KeyError") (.type "BaseException") = pure true := by rw [isSubtype_type]; kernel_rfl
theorem notTuple_KeyError : isSubtype (.type ((Manifest.find? "KeyError").elim "type" fun x => x.metatype)) (.type "tuple") = pure false := by
 rw [show ((Manifest.find? "KeyError").elim "type" fun x => x.metatype) = "type" from by kernel_rfl, isSubtype_type]; kernel_rfl
theorem isKey_KeyError : isSubtype (.type "KeyError") (.type "KeyError") = pure true := by rw [isSubtype_type]; kernel_rfl
noncomputable def tryKeyM (body hand : M Fl) : M Fl := fun Q X st => body Q (fun k st' => match k with | .key => hand Q (fun _ _ => False) st' | k => False) st
theorem ref_TryKey {pb ph : M Fl} {body : List Stmt} {b₀ : Stmt} {suite : List Stmt} {tp hp pos : Pos} (hb : RefB g S .fn n pb body) (hh : RefB g S .hand n ph (b₀ :: suite)) (bl : Blt g S "KeyError" (.type "KeyError")) :
  RefS g S .fn n (tryKeyM pb ph) (.Try body [.ExceptHandler (some (.Name "KeyError" tp)) none (b₀ :: suite) hp] [] [] pos) := by
 intro C Y st s Q X x h
 have hm : Md.fn ≠ Md.comp := by intro h; k_call_by "c" h
 unfold tryKeyM at h
 refine wpAny_Try_except (wpAny_mono (hb C Y st s Q _ x h) (fun f s1 ⟨f', st1, ef, x1, h1⟩ => ?_) fun e s1 hx => ?_)
 ·induction f' <;> induction f <;> first | exact ef.elim | exact wpAny_execs_nil ⟨_, st1, ef, x1, h1⟩ | exact ⟨_, st1, ef, x1, h1⟩
 ·refine exG3_4 hx fun k st1 fl x1 h1 hfl R => ?_
  induction k with
  | gram => exact h1.elim
  | key =>
   refine note_run Y hm x1 hfl R fun s2 x2 R2 => flight_run (fr := none) Y x2 R2 fun s3 x3 R3 => ?_
   refine exG3_8 (id R3) fun a oe vs r2 ho hc hd hz oa ma hT => ?_
   obtain rfl := r2
   refine wpAny_handleBy_builtin (X := "KeyError") (T := "KeyError") (b := true) isExc_KeyError notTuple_KeyError isKey_KeyError ?_
   refine bl.run (C := { C with A := C.A.mark (some (.ref a)) }) (hand_ok Y) (hand_sim x3) ⟨rfl, ⟨oe, ho, hc⟩, ?_⟩
   rw [if_pos rfl]
   refine flight_run (C := { C with A := C.A.mark (some (.ref a)) }) (fr := none) (hand_ok Y) (hand_sim x3) (show Raised g { C with A := C.A.mark (some (.ref a)) } st1 .key (.ref a) s3.heap (some .none) from R3) fun s4 x4 R4 => ?_
   refine wpAny_mono (hh _ (hand_ok Y) st1 s4 Q _ x4 h1) (fun f s5 q0 => by obtain ⟨f', st5, ef, x5, h5⟩ := q0; exact ⟨f', st5, ef, hand_back x5, h5⟩) fun e s5 q0 => by obtain ⟨k, st5, fl5, x5, h5, r5⟩ := q0; exact h5.elim
noncomputable abbrev CallV (g : Gx) (md : Md) (n : Nat) (fv : Value) (f : List V → M V) : Prop := ∀ S C, Ok g S md n C → ∀ st s Q X vs, Sim g C st s → f (vs.map er) Q X st →
 wpAny (model g.prog g.w) C.A (call fv vs) (Post g C VR Q) (PostX g C X) s
theorem ref_CallB {x : Str} {id : String} {p : M (List V)} {f : List V → M V} {e : Expr} {r : List Expr} {px pos : Pos} (b : Blt g S x (.builtin id)) (hp : RefX g S md n p (e :: r)) (hc : CallV g md n (.builtin id) f)
  (he : ∀ env, starEach (e :: r) env = (false, eval e env) :: starEach r env := by intro _; rfl) (hpl : ∀ env, (backTo pos (starEach r env)).any (·.1) = false := by intro _; rfl) :
  RefE g S md n (mbind p f) (.Call (.Name x px) (e :: r) [] pos) := fun C Y st s Q X sx h =>
 wpAny_Call_NameR (b.run Y sx (PyProof.Rows.callWith_builtin1 ((hp pos).use Y sx h fun us vs st1 s1 ev x1 h1 => hc S C Y st1 s1 Q X vs x1 (by rw [ev]; exact h1)) (he _) (hpl _)))
theorem ref_CallT {x : Str} {T : String} {p : M (List V)} {f : List V → M V} {e : Expr} {r : List Expr} {px pos : Pos} (b : Blt g S x (.type T)) (hp : RefX g S md n p (e :: r)) (hc : CallV g md n (.type T) f)
  (he : ∀ env, starEach (e :: r) env = (false, eval e env) :: starEach r env := by intro _; rfl) (hpl : ∀ env, (backTo pos (starEach r env)).any (·.1) = false := by intro _; rfl) :
  RefE g S md n (mbind p f) (.Call (.Name x px) (e :: r) [] pos) := fun C Y st s Q X sx h =>
 wpAny_Call_NameR (b.run Y sx (PyProof.Rows.callWith_type1 ((hp pos).use Y sx h fun us vs st1 s1 ev x1 h1 => hc S C Y st1 s1 Q X vs x1 (by rw [ev]; exact h1)) (he _) (hpl _)))
theorem ref_CallT0 {x : Str} {T : String} {f : List V → M V} {px pos : Pos} (b : Blt g S x (.type T)) (hc : CallV g md n (.type T) f) :
  RefE g S md n (f []) (.Call (.Name x px) [] [] pos) := fun C Y st s Q X sx h =>
 wpAny_Call_NameR (b.run Y sx (PyProof.Rows.callWith_type0 (hc S C Y st s Q X [] sx h)))
inductive Kd where | list | dict | set
noncomputable def Kd.ty : Kd → String | .list => "list" | .dict => "dict" | .set => "set"
noncomputable def Kd.of : O → Option Kd | .list _ => some .list | .dict _ _ => some .dict | .set _ => some .set | _ => none
inductive KindH (k : Kd) (Q : Unit → St → Prop) (st : St) : V → Prop
 | mk {a : Addr} {o : O} : st.μ a = some o → Kd.of o = some k → Q () st → KindH k Q st (.ref a)
noncomputable def kindM (k : Kd) (a : V) : M Unit := fun Q _ st => KindH k Q st a
theorem kind_attrs (k : Kd) : PlainAttrs k.ty := by
 k_call_by "c" k
 ·exact PySem.F.plainAttrs_list
 ·exact PySem.F.plainAttrs_dict
 ·exact PySem.F.plainAttrs_set
theorem getM_run {k : Kd} {a : V} {va : Value} {name : Str} {id : String} {pl : Sem Bool} {Q : Value × List Value → Shared → Prop} {E : Value → Shared → Prop} {Qm : Unit → St → Prop} {X : Ex → St → Prop} (slot : Slot k.ty name id) (hty : typeOf (.builtin id) = pure (.type "method_descriptor"))
  (x : Sim g C st s) (ha : er va = a) (h : kindM k a Qm X st) (hq : Qm () st → Q (.builtin id, [va]) s) : wpAny (model g.prog g.w) C.A (getMethod va name pl) Q E s := by
 induction h with
 | @mk b o hm hk h =>
   rw [er_ref ha] at hq ⊢
   have key : s.TypeIs (.ref b) k.ty ∧ ∀ c, Value.ref b = .ref c → ∃ ob, s.heap.get? c = some ob ∧ ob.dict = none := by
    induction o with
    | list xs =>
     k_call_by "c" hk
     refine exG0_2 (x.objs _ _ hm) fun r3 _ => ?_
     obtain ⟨vs, ⟨m, hp⟩, e⟩ := r3
     exact ⟨⟨_, hp, rfl⟩, fun c e => by k_call_by "c" e; exact ⟨_, hp, rfl⟩⟩
    | dict es ep =>
     k_call_by "c" hk
     refine exG0_2 (dict_in x hm) fun hs r4 => ?_
     refine exG1_2 r4 fun kvs hd e => ?_
     exact ⟨hd.dictOf.typeIs, hd.dictOf.mapOf.noDict⟩
    | set xs =>
     k_call_by "c" hk
     refine exG0_2 (x.objs _ _ hm) fun r5 _ => ?_
     obtain ⟨F, hF, e⟩ := r5
     exact ⟨hF.typeIs, hF.noDict⟩
    | _ => k_call_by "c" hk
   exact getMethod_builtin key.1 (kind_attrs k) slot hty key.2 (hq h)
theorem ref_Meth1 {k : Kd} {name : Str} {id : String} {p : M V} {q : M (List V)} {f : List V → M V} {o e : Expr} {r : List Expr} {apos pos : Pos} {pl : Env → Sem Bool} (slot : Slot k.ty name id) (hty : typeOf (.builtin id) = pure (.type "method_descriptor"))
  (hc : CallV g md n (.builtin id) f) (ho : RefE g S md n p o) (hq : RefX g S md n q (e :: r))
  (he : ∀ env, eval (.Call (.Attribute o name apos) (e :: r) [] pos) env = (do
   let ov ← eval o env
   standAt apos.atName
   let (f, first) ← holding [ov] (getMethod ov name (pl env))
   callWith pos f first (backTo pos (starEach (e :: r) env)) []) := by intro _; rfl)
  (he2 : ∀ env, starEach (e :: r) env = (false, eval e env) :: starEach r env := by intro _; rfl) (hpl : ∀ env, (backTo pos (starEach r env)).any (·.1) = false := by intro _; rfl) :
  RefE g S md n (mbind p fun a => mbind (kindM k a) fun _ => mbind q fun vs => f (a :: vs)) (.Call (.Attribute o name apos) (e :: r) [] pos) := fun C Y st s Q X sx hp =>
 MethodCall_ (pl := pl C.env) (ho.use Y sx hp fun a va st1 s1 ea x1 h1 => getM_run slot hty x1 ea h1 fun h2 =>
  callWith_method1 ((hq pos).use Y x1 h2 fun us vs st2 s2 ev x2 h3 => hc S C Y st2 s2 Q X (va :: vs) x2 (by rw [List.map_cons, ea, ev]; exact h3)) (he2 _) (hpl _)) (he _)
theorem mapC {vs : List Value} {a : V} {r : List V} (h : vs.map er = a :: r) : ∃ va ws, vs = va :: ws ∧ er va = a ∧ ws.map er = r := by
 refine exG2_3 (List.map_eq_cons_iff.mp h) fun va ws h1 h2 h3 => ?_
 exact ⟨va, ws, h1, h2, h3⟩
theorem map1 {vs : List Value} {a : V} (h : vs.map er = [a]) : ∃ va, vs = [va] ∧ er va = a := by
 refine exG2_3 (mapC h) fun va ws h1 h2 h3 => ?_
 exact ⟨va, h1.trans (congrArg (va :: ·) (List.map_eq_nil_iff.mp h3)), h2⟩
theorem map2 {vs : List Value} {a b : V} (h : vs.map er = [a, b]) : ∃ va vb, vs = [va, vb] ∧ er va = a ∧ er vb = b := by
 refine exG2_3 (mapC h) fun va ws h1 h2 h3 => ?_
 refine exG1_2 (map1 h3) fun vb h4 h5 => ?_
 exact ⟨va, vb, h1.trans (congrArg (va :: ·) h4), h2, h5⟩
theorem map3 {vs : List Value} {a b c : V} (h : vs.map er = [a, b, c]) : ∃ va vb vc, vs = [va, vb, vc] ∧ er va = a ∧ er vb = b ∧ er vc = c := by
 refine exG2_3 (mapC h) fun va ws h1 h2 h3 => ?_
 refine exG2_2 (map2 h3) fun vb vc h4 h5 => ?_
 exact ⟨va, vb, vc, h1.trans (congrArg (va :: ·) h4), h2, h5⟩
inductive AppH (Q : V → St → Prop) (st : St) : List V → Prop
 | mk {a : Addr} {v : V} {xs : List V} : st.μ a = some (.list xs) → xs.length ≤ 1000 → Q .none (st.put a (.list (xs ++ [v]))) → AppH Q st [.ref a, v]
noncomputable def appendM (vs : List V) : M V := fun Q _ st => AppH Q st vs
theorem call_append : CallV g md n (.builtin "list.append") appendM := by
 intro S C Y st s Q X vs x h
 replace h : AppH Q st (vs.map er) := h
 generalize e0 : vs.map er = us at h
 induction h with
 | @mk a v xs hm hz h =>
  refine exG2_3 (map2 e0) fun va vv r6 e1 e2 => ?_
  obtain rfl := r6
  rw [er_ref e1]
  refine exG0_2 (x.objs _ _ hm) fun r7 _ => ?_
  obtain ⟨ws, hp, e⟩ := r7
  refine wpAny_list_append_plain hp (fun h' hp' hs' => ⟨.none, _, rfl, x.change Y (tk := s.toks) (o' := .list (xs ++ [v])) hm hs'.extBut ⟨_, hp', ?_⟩, h⟩) (by rw [size_er e]; exact Nat.le_trans hz sizeL)
  rw [Array.toList_push, List.map_append, e, List.map_cons, List.map_nil, e2]
inductive GetH (Q : V → St → Prop) (st : St) : List V → Prop
 | one {a : Addr} {k : Str} {es : List (Str × V)} {ep : Nat} : st.μ a = some (.dict es ep) → Q ((dget es k).getD .none) st → GetH Q st [.ref a, .str k]
 | two {a : Addr} {k : Str} {d : V} {es : List (Str × V)} {ep : Nat} : st.μ a = some (.dict es ep) → Q ((dget es k).getD d) st → GetH Q st [.ref a, .str k, d]
 | no {a : Addr} {d : V} {es : List (Str × V)} {ep : Nat} : st.μ a = some (.dict es ep) → Q d st → GetH Q st [.ref a, .none, d]
theorem dget_getD {es : List (Str × V)} {kvs : List (Str × Value)} (e : kvs.map (fun p => (p.1, er p.2)) = es) (k : Str) (d : Value) : er ((valueAt kvs k).getD d) = (dget es k).getD (er d) := by
 rw [← e, dget_map]
 cases valueAt kvs k <;> rfl
inductive AddH (Q : V → St → Prop) (st : St) : List V → Prop
 | mk {a : Addr} {k : Str} {xs : List Str} : st.μ a = some (.set xs) → xs.length ≤ 1000 → Q .none (st.put a (.set (if k ∈ xs then xs else xs ++ [k]))) → AddH Q st [.ref a, .str k]
noncomputable def addM (vs : List V) : M V := fun Q _ st => AddH Q st vs
theorem call_add : CallV g md n (.builtin "set.add") addM := by
 intro S C Y st s Q X vs x h
 replace h : AddH Q st (vs.map er) := h
 generalize e0 : vs.map er = us at h
 induction h with
 | @mk a k xs hm hz h =>
  refine exG2_3 (map2 e0) fun va vv r8 e1 e2 => ?_
  obtain rfl := r8
  rw [er_ref e1]
  obtain ⟨t, rfl⟩ := er_str e2
  refine exG0_2 (x.objs _ _ hm) fun r9 _ => ?_
  obtain ⟨F, hF, e⟩ := r9
  refine call_set_add (isStrOf_self k t) rfl hF (by unfold scanBound; omega) fun h' hs' hF' => ⟨.none, _, rfl, x.change Y (tk := s.toks + 1) (o' := .set (if k ∈ xs then xs else xs ++ [k])) hm hs'.extBut ⟨fun k' => F k' || decide (k' = k), ?_, ?_⟩, h⟩
  ·have hlen : (if k ∈ xs then xs else xs ++ [k]).length = if F k then xs.length else xs.length + 1 := by
    rw [e k]; by_cases hk : k ∈ xs <;> simp [hk]
   rw [hlen]; exact hF'
  ·intro k'
   dsimp only
   rw [e k']
   by_cases hk : k ∈ xs
   ·rw [if_pos hk]
    by_cases hk' : k' = k
    ·subst hk'; simp [hk]
    ·simp [hk']
   ·rw [if_neg hk]; simp
theorem dictSetDefault_pairs {prog : Program} {w : World} {K : Type} [DecidableEq K] {knd : KeyKind prog w K} {A : Around} {E : Value → Shared → Prop} {d : Addr} {kvs : List (K × Value)} {k : K} {key dflt : Value} {Q : Value → Shared → Prop} (hkey : knd.is k key = true) (hm : s.heap.DictOf knd d kvs)
  (hthere : ∀ v, valueAt kvs k = some v → Q v { s with toks := s.toks + 1 })
  (hnew : valueAt kvs k = none → ∀ h', h'.DictOf knd d (stored kvs k dflt) → Heap.SameBut d s.heap h' → Q dflt { s with heap := h', toks := s.toks + 1 })
  (hsz : kvs.length ≤ sizeLine) :
  wpAny (model prog w) A (dictSetDefault d key dflt) Q E s := by
 refine exG3_6 (id hm) fun o es ep ho hc hd hk hp hn => ?_
 have hes : es.size ≤ sizeLine := by have e1 := hp.length; have e2 : es.toList.length = es.size := (by simp); omega
 have hf : ∀ x, findBy knd.is es x = valueAt kvs x := fun x => by
  refine exG3_5 hm.mapOf fun o2 es2 ep2 ho2 _ hd2 _ hf2 => ?_
  rw [ho] at ho2; k_call_by "c" ho2
  rw [hd] at hd2; k_call_by "c" hd2
  exact hf2 x
 unfold dictSetDefault
 try with_reducible refine wpAny_holding ?_
 refine wpAny_bind (knd.pyHash hkey ?_)
 refine wpAny_bind (wpAny_dictFind_of (s := { s with toks := s.toks + 1 }) hkey ho hd hk ?_)
 have hidx : (es.findIdx? fun e => knd.is k e.key) = kvs.findIdx? fun kv => decide (kv.1 = k) := by
  rw [← hp.findIdx k]; obtain ⟨l⟩ := es; simp
 cases hi : es.findIdx? fun e => knd.is k e.key with
 | some i =>
  have hfk : valueAt kvs k = (es[i]?).map (·.val) := by rw [← hf k, findBy_of_findIdx?, hi]
  refine wpAny_bind (wpAny_dictEntries (s := { s with toks := s.toks + 1 }) ho hd ?_)
  cases he : es[i]? with
  | none =>
   exfalso
   have := Array.findIdx?_eq_some_iff_findIdx_eq.mp hi
   have hlt : i < es.size := this.1
   rw [Array.getElem?_eq_getElem hlt] at he
   exact nomatch he
  | some e =>
   rw [he] at hfk
   exact wpAny_bind (wpAny_rule (wpAny_pure (hthere e.val hfk)))
 | none =>
  have hfk : valueAt kvs k = none := by rw [← hf k, findBy_of_findIdx?, hi]
  have hnot : k ∉ kvs.map (·.1) := not_mem_of_findIdx_none (hidx ▸ hi)
  have hany : ¬ (kvs.any fun kv => decide (kv.1 = k)) = true := by
   rw [List.any_eq_true]; rintro ⟨kv, hkv, he⟩
   exact hnot (List.mem_map.mpr ⟨kv, hkv, of_decide_eq_true he⟩)
  refine wpAny_bind (wpAny_rule (wpAny_bind (wpAny_updateDictKeys (hz := hes) (s := { s with toks := s.toks + 1 }) ho hd (wpAny_pure (hnew hfk _ ⟨_, _, ep + 1, Heap.get?_update_self _ ho (Obj.isFreed_of_dict (Obj.data_mapDictKeys hd _)),
   hc.mapDictKeys _, Obj.data_mapDictKeys hd _, hk.push hkey _, ?_, ?_⟩ (Heap.SameBut.update ..))))))
  ·rw [stored, if_neg hany]
   have := hp.append hkey (knd.hash k) dflt
   obtain ⟨l⟩ := es
   simpa using this
  ·rw [stored, if_neg hany, List.map_append, List.nodup_append]
   refine ⟨hn, by simp, ?_⟩
   intro a ha b hb
   simp only [List.map_cons, List.map_nil, List.mem_singleton] at hb
   subst hb
   exact fun e => hnot (e ▸ ha)
inductive SdfH (Q : V → St → Prop) (st : St) : List V → Prop
 | old {a : Addr} {k : Str} {d u : V} {es : List (Str × V)} {ep : Nat} : st.μ a = some (.dict es ep) → es.length ≤ 1000 → dget es k = some u → Q u st → SdfH Q st [.ref a, .str k, d]
 | new {a : Addr} {k : Str} {d : V} {es : List (Str × V)} {ep : Nat} : st.μ a = some (.dict es ep) → es.length ≤ 1000 → dget es k = none → (∀ ep, Q d (st.put a (.dict (dput es k d) ep))) → SdfH Q st [.ref a, .str k, d]
noncomputable def setdefaultM (vs : List V) : M V := fun Q _ st => SdfH Q st vs
theorem sdf_run {a : Addr} {k : Str} {t : Tok} {vd : Value} {d : V} {es : List (Str × V)} {ep : Nat} {Q : V → St → Prop} {E : Value → Shared → Prop} (Y : Ok g S md n C) (x : Sim g C st s) (e3 : er vd = d) (hm : st.μ a = some (.dict es ep)) (hz : es.length ≤ 1000)
  (h1 : ∀ u, dget es k = some u → Q u st) (h2 : dget es k = none → ∀ ep, Q d (st.put a (.dict (dput es k d) ep))) :
  wpAny (model g.prog g.w) C.A (call (.builtin "dict.setdefault") [.ref a, .str k t, vd]) (Post g C VR Q) E s := by
 refine exG0_2 (dict_in x hm) fun hs r10 => ?_
 refine exG1_2 r10 fun kvs hd e => ?_
 have hl := len_pairs e
 refine wpAny_call_entry PySem.F.slot_dict_setdefault hd.dictOf.typeIs PySem.F.entry_dict_setdefault ?_ (PySem.F.args_dict_setdefault_3 _ _ _)
 unfold Builtin.«dict.setdefault»
 refine wpAny_bind ?_
 unfold Builtin.Dict.keyAndDefault
 refine wpAny_bind (wpAny_notOrdered_dict hd.dictOf.typeIs ?_)
 show wpAny _ _ (pure (a, Value.str k t, some vd)) _ _ s
 refine wpAny_pure ?_
 show wpAny _ _ (if (a == sysModules) = true then _ else (dictSetDefault a (Value.str k t) vd >>= _)) _ _ s
 rw [if_neg (by rw [hs]; exact Bool.false_ne_true)]
 refine wpAny_bind (dictSetDefault_pairs (isStrOf_self k t) hd.dictOf (fun v hv => wpAny_pure ⟨v, rfl, ?_⟩) (fun hv h' hd' hs' => wpAny_pure ⟨vd, rfl, ?_⟩) (by rw [sizeLine_eq]; omega))
 ·exact ⟨_, st, rfl, x.tick, h1 _ (by rw [← e, dget_map, hv]; rfl)⟩
 ·refine exG3_4 hd' fun ob es' ep' q1 q2 q3 q4 => ?_
  refine ⟨d, _, e3, x.change Y (tk := s.toks + 1) (o' := .dict (dput es k d) ep') hm hs'.extBut ⟨hs, _, ⟨ob, es', q1, q2, q3, q4⟩, ?_⟩, h2 (by rw [← e, dget_map, hv]; rfl) ep'⟩
  rw [dput_map, e, e3]
theorem call_setdefault : CallV g md n (.builtin "dict.setdefault") setdefaultM := by
 intro S C Y st s Q X vs x h
 replace h : SdfH Q st (vs.map er) := h
 generalize e0 : vs.map er = us at h
 induction h with
 | old hm hz hk h =>
  refine exG3_4 (map3 e0) fun va vv vd r11 e1 e2 e3 => ?_
  obtain rfl := r11
  obtain ⟨t, rfl⟩ := er_str e2
  rw [er_ref e1]
  exact sdf_run Y x e3 hm hz (fun u hu => by rw [hk] at hu; k_call_by "c" hu; exact h) fun hn => by rw [hk] at hn; k_call_by "c" hn
 | new hm hz hk h =>
  refine exG3_4 (map3 e0) fun va vv vd r12 e1 e2 e3 => ?_
  obtain rfl := r12
  obtain ⟨t, rfl⟩ := er_str e2
  rw [er_ref e1]
  exact sdf_run Y x e3 hm hz (fun u hu => by rw [hk] at hu; k_call_by "c" hu) fun _ => h
inductive LenH (Q : V → St → Prop) (st : St) : List V → Prop
 | str {x : Str} : x.length ≤ 100000 → Q (.int x.length) st → LenH Q st [.str x]
 | list {a : Addr} {xs : List V} : st.μ a = some (.list xs) → xs.length ≤ 100000 → Q (.int xs.length) st → LenH Q st [.ref a]
 | tup {a : Addr} {xs : List V} : st.μ a = some (.tup xs) → xs.length ≤ 100000 → Q (.int xs.length) st → LenH Q st [.ref a]
 | dict {a : Addr} {es : List (Str × V)} {ep : Nat} : st.μ a = some (.dict es ep) → es.length ≤ 100000 → Q (.int es.length) st → LenH Q st [.ref a]
noncomputable def lenM (vs : List V) : M V := fun Q _ st => LenH Q st vs
theorem call_len : CallV g md n (.builtin "len") lenM := by
 intro S C Y st s Q X vs x h
 replace h : LenH Q st (vs.map er) := h
 generalize e0 : vs.map er = us at h
 induction h with
 | str hz h =>
  refine exG1_2 (map1 e0) fun va r13 e1 => ?_
  obtain rfl := r13
  obtain ⟨t, rfl⟩ := er_str e1
  exact PyProof.Rows.len_str (by omega) ⟨_, st, rfl, x.tick, h⟩
 | list hm hz h =>
  refine exG1_2 (map1 e0) fun va r14 e1 => ?_
  obtain rfl := r14
  rw [er_ref e1]
  refine exG1_2 (list_in x hm) fun ws hl e => ?_
  have hsz := size_er e
  exact call_len_list hl (by omega) ⟨_, st, by rw [hsz]; rfl, x.tick, h⟩
 | tup hm hz h =>
  refine exG1_2 (map1 e0) fun va r15 e1 => ?_
  obtain rfl := r15
  rw [er_ref e1]
  refine exG1_2 (tup_in x hm) fun ws hl e => ?_
  have hsz := size_er e
  exact PyProof.Rows.len_tuple hl (by omega) ⟨_, st, by rw [hsz]; rfl, x.tick, h⟩
 | dict hm hz h =>
  refine exG1_2 (map1 e0) fun va r16 e1 => ?_
  obtain rfl := r16
  rw [er_ref e1]
  refine exG0_2 (dict_in x hm) fun hs r17 => ?_
  refine exG1_2 r17 fun kvs hd e => ?_
  have hl := len_pairs e
  exact call_len_dict hs hd.dictOf (by omega) ⟨_, st, by rw [hl]; rfl, x.tick, h⟩
inductive TupH (Q : V → St → Prop) (st : St) : List V → Prop
 | mk {a : Addr} {xs : List V} : st.μ a = some (.list xs) → xs.length ≤ 1000 → (∀ b, st.μ b = none → Q (.ref b) (st.put b (.tup xs))) → TupH Q st [.ref a]
noncomputable def tupleM (vs : List V) : M V := fun Q _ st => TupH Q st vs
theorem call_tuple : CallV g md n (.type "tuple") tupleM := by
 intro S C Y st s Q X vs x h
 replace h : TupH Q st (vs.map er) := h
 generalize e0 : vs.map er = us at h
 induction h with
 | mk hm hz h =>
  refine exG1_2 (map1 e0) fun va r18 e1 => ?_
  obtain rfl := r18
  rw [er_ref e1]
  refine exG1_2 (list_in x hm) fun ws hl e => ?_
  refine call_tuple_list hl (fun h' hk => ?_) (by rw [size_er e]; exact Nat.le_trans hz sizeL)
  have x1 : Sim g C st { s with heap := h' } := x.grow (tk := s.toks) hk
  have x2 := x1.newTup (vs := ws.toList) e
  exact ⟨_, _, rfl, by simpa using x2, h _ x1.fresh⟩
noncomputable def setM0 (vs : List V) : M V := fun Q _ st => vs = [] ∧ ∀ b, st.μ b = none → Q (.ref b) (st.put b (.set []))
theorem call_set : CallV g md n (.type "set") setM0 := by
 intro S C Y st s Q X vs x ⟨e0, h⟩
 have : vs = [] := by simpa using e0
 subst this
 refine call_set_0 fun led => ⟨_, _, rfl, x.push (tk := s.toks) (o := .set []) ⟨fun _ => false, ⟨_, #[], 0, _, Heap.get?_push_size _ rfl, ⟨rfl, rfl, rfl⟩, rfl, fun e he => by simp at he, fun k => by simp, by decide, by rfl, rfl⟩, fun k => by simp⟩, h _ x.fresh⟩
inductive IxH (Q : V → St → Prop) (st : St) : List V → Prop
 | mk {a : Addr} {k : Str} {ys : List Str} : st.μ a = some (.list (ys.map .str)) → ys.length ≤ 1000 → k ∈ ys → Q (.int (ys.idxOf k : Nat)) st → IxH Q st [.ref a, .str k]
noncomputable def indexM (vs : List V) : M V := fun Q _ st => IxH Q st vs
theorem strs_of {us : List Value} : ∀ {ys : List Str}, us.map er = ys.map V.str → StrsAre us ys := by
 induction us with
 | nil => intro ys h; induction ys with | nil => exact .nil | cons => k_call_by "c" h
 | cons u r ih =>
  intro ys h
  induction ys with
  | nil => k_call_by "c" h
  | cons y ys =>
   simp only [List.map_cons, List.cons.injEq] at h
   obtain ⟨t, rfl⟩ := er_str h.1
   exact .cons y t (ih h.2)
theorem isStrOf_at (k : Str) {vs : List Value} {ys : List Str} (h : StrsAre vs ys) : ∀ j (h1 : j < vs.length) (h2 : j < ys.length), PyProof.Rows.isStrOf k vs[j] = (ys[j] == k) := by
 induction h with
 | nil => intro j h1; exact absurd h1 (Nat.not_lt_zero _)
 | cons y t r ih =>
  intro j h1 h2
  induction j with
  | zero => rfl
  | succ j => exact ih j (Nat.lt_of_succ_lt_succ h1) (Nat.lt_of_succ_lt_succ h2)
theorem call_index : CallV g md n (.builtin "list.index") indexM := by
 intro S C Y st s Q X vs x h
 replace h : IxH Q st (vs.map er) := h
 generalize e0 : vs.map er = us at h
 induction h with
 | @mk a k ys hm hz hk h =>
  refine exG2_3 (map2 e0) fun va vv r19 e1 e2 => ?_
  obtain rfl := r19
  rw [er_ref e1]
  obtain ⟨t, rfl⟩ := er_str e2
  refine exG0_2 (x.objs _ _ hm) fun r20 _ => ?_
  obtain ⟨ws, ⟨m, hp⟩, e⟩ := r20
  have hi := strs_of e
  have hlen := hi.length
  simp only [Array.length_toList] at hlen
  have hj : ys.idxOf k < ys.length := List.idxOf_lt_length_iff.mpr hk
  refine call_meets PySem.F.slot_list_index ⟨_, hp, rfl⟩ PySem.F.entry_list_index (PySem.F.args_list_index_2 _ _)
   (SeqAt.list_indexAt a ws m none #[] (.str k t) (PyProof.Rows.isStrOf k) (ys.idxOf k) (by omega) (by omega) ?_ ?_) ⟨hp, fun y hy => (eq_isStrOf k t hi y (by simpa using hy)).at _ _, ⟨_, st, rfl, x.tick, h⟩⟩
  ·have := isStrOf_at k hi (ys.idxOf k) (by simpa using (by omega : ys.idxOf k < ws.size)) hj
   simp only [Array.getElem_toList] at this
   rw [this]
   simp [List.getElem_idxOf hj]
  ·intro j hjs hlt
   have := isStrOf_at k hi j (by simpa using hjs) (by omega)
   simp only [Array.getElem_toList] at this
   rw [this]
   exact List.not_of_lt_findIdx (p := fun y => y == k) hlt
end Kk
end
section
namespace Kk
variable {g : Gx} {S : Sc} {md : Md} {n : Nat} {C : Cx} {st st' : St} {s : Shared} {h' : Heap} {tk : Nat} {α β γ δ : Type}
noncomputable def closL (cells : List (Str × Addr)) : List (Str × NameKind) → List (Str × Addr) → List (Str × Addr)
 | [], acc => acc
 | (nm, k) :: r, acc => closL cells r (if k == .free then (match cells.lookup nm with | some c => (nm, c) :: acc | none => acc) else acc)
theorem closure_run {env : Env} (names : List (Str × NameKind)) (h : ∀ x ∈ names, x.2 = .free → ∃ c, env.cells.lookup x.1 = some c) : ∀ acc : List (Str × Addr),
  (forIn names acc fun (x : Str × NameKind) (cs : List (Str × Addr)) => if (x.2 == .free) = true then (do let c ← cellOf env x.1; pure (ForInStep.yield ((x.1, c) :: cs))) else pure (ForInStep.yield cs) : Sem (List (Str × Addr))) = pure (closL env.cells names acc) := by
 induction names with
 | nil => intro acc; rfl
 | cons x r ih =>
  obtain ⟨nm, k⟩ := x
  intro acc
  have ih' := ih fun y hy => h y (.tail _ hy)
  rw [List.forIn_cons]
  unfold closL
  by_cases hk : (k == NameKind.free) = true
  ·refine exG1_1 (h (nm, k) (.head _) (by simpa using hk)) fun c hc => ?_
   have e : cellOf env nm = pure c := by unfold cellOf; rw [show env.cells.lookup nm = some c from hc]
   simp only [hk, if_true, e, pure_bind, hc]
   exact ih' _
  ·simp only [hk, if_false, pure_bind, Bool.false_eq_true]
   exact ih' _
theorem closure_eq {scope : Scope} {env : Env} (h : ∀ x ∈ scope.names, x.2 = .free → ∃ c, env.cells.lookup x.1 = some c) : closureFor scope env = pure (closL env.cells scope.names []) := by
 have := closure_run scope.names h []
 unfold closureFor
 simp only [bind_pure]
 rw [← this]
theorem closL_sub (cells : List (Str × Addr)) : ∀ (names : List (Str × NameKind)) (acc : List (Str × Addr)) (y : Str) (c : Addr), (∀ z d, acc.lookup z = some d → cells.lookup z = some d) → (closL cells names acc).lookup y = some c → cells.lookup y = some c
 | [], acc, y, c, h, e => h y c e
 | (nm, k) :: r, acc, y, c, h, e => by
  unfold closL at e
  refine closL_sub cells r _ y c ?_ e
  split
  ·split
   ·rename_i c' hc'
    intro z d hz
    rw [List.lookup_cons] at hz
    split at hz
    ·rename_i hb
     k_call_by "c" hz
     rw [beq_iff_eq.mp hb]; exact hc'
    ·exact h z d hz
   ·exact h
  ·exact h
theorem closL_has (cells : List (Str × Addr)) : ∀ (names : List (Str × NameKind)) (acc : List (Str × Addr)) (y : Str), (y, NameKind.free) ∈ names ∨ (acc.lookup y).isSome = true → (cells.lookup y).isSome = true → ((closL cells names acc).lookup y).isSome = true
 | [], acc, y, h, hc => by
  rcases h with h | h
  ·k_call_by "c" h
  ·exact h
 | (nm, k) :: r, acc, y, h, hc => by
  unfold closL
  refine closL_has cells r _ y ?_ hc
  rcases h with h | h
  ·rcases List.mem_cons.mp h with e | h
   ·k_call_by "c" e
    right
    refine exG1_1 (Option.isSome_iff_exists.mp hc) fun c hc => ?_
    simp [hc]
   ·exact .inl h
  ·right
   split
   ·split
    ·rw [List.lookup_cons]; split
     ·rfl
     ·exact h
    ·exact h
   ·exact h
theorem cellsFrom_append : ∀ (names : List (Str × NameKind)) (n : Nat) (acc : List (Str × Addr)), cellsFrom n names acc = cellsFrom n names [] ++ acc
 | [], n, acc => rfl
 | (nm, k) :: r, n, acc => by
  unfold cellsFrom
  split
  ·rw [cellsFrom_append r (n + 1) ((nm, n) :: acc), cellsFrom_append r (n + 1) [(nm, n)], List.append_assoc]; rfl
  ·exact cellsFrom_append r n acc
theorem cellsFrom_mem : ∀ (names : List (Str × NameKind)) (n : Nat) (acc : List (Str × Addr)) (x : Str) (c : Addr), (x, c) ∈ cellsFrom n names acc → (x, c) ∈ acc ∨ (x, NameKind.cell) ∈ names
 | [], n, acc, x, c, h => .inl h
 | (nm, k) :: r, n, acc, x, c, h => by
  unfold cellsFrom at h
  split at h
  ·rename_i hk
   rcases cellsFrom_mem r _ _ x c h with h | h
   ·rcases List.mem_cons.mp h with e | h
    ·k_call_by "c" e; right; rw [show k = .cell from by simpa using hk]; exact .head _
    ·exact .inl h
   ·exact .inr (.tail _ h)
  ·rcases cellsFrom_mem r _ _ x c h with h | h
   ·exact .inl h
   ·exact .inr (.tail _ h)
theorem cellsFrom_has : ∀ (names : List (Str × NameKind)) (n : Nat) (acc : List (Str × Addr)) (x : Str), (x, NameKind.cell) ∈ names ∨ (∃ c, (x, c) ∈ acc) → ∃ c, (x, c) ∈ cellsFrom n names acc
 | [], n, acc, x, h => by
  rcases h with h | h
  ·k_call_by "c" h
  ·exact h
 | (nm, k) :: r, n, acc, x, h => by
  unfold cellsFrom
  split
  ·refine cellsFrom_has r _ _ x ?_
   rcases h with h | ⟨c, h⟩
   ·rcases List.mem_cons.mp h with e | h
    ·k_call_by "c" e; exact .inr ⟨n, .head _⟩
    ·exact .inl h
   ·exact .inr ⟨c, .tail _ h⟩
  ·rename_i hk
   refine cellsFrom_has r _ _ x ?_
   rcases h with h | h
   ·rcases List.mem_cons.mp h with e | h
    ·k_call_by "c" e; exact absurd (by simp) hk
    ·exact .inl h
   ·exact .inr h
theorem lookup_of_mem {α : Type} : ∀ {l : List (Str × α)} {x : Str} {c : α}, (x, c) ∈ l → ∃ d, l.lookup x = some d
 | (y, d) :: r, x, c, h => by
  rw [List.lookup_cons]
  cases hb : x == y with
  | true => exact ⟨d, rfl⟩
  | false =>
   rcases List.mem_cons.mp h with e | h
   ·k_call_by "c" e; simp at hb
   ·exact lookup_of_mem h
theorem lookup_append {α : Type} (l r : List (Str × α)) (x : Str) : (l ++ r).lookup x = (l.lookup x).or (r.lookup x) := by
 induction l with
 | nil => rfl
 | cons p l ih =>
  obtain ⟨y, d⟩ := p
  rw [List.cons_append, List.lookup_cons, List.lookup_cons]
  cases x == y <;> simp [ih]
theorem newEnv_comp {scope : Scope} {cl : List (Str × Addr)} {env : Env} {Q : Env → Shared → Prop} {E : Value → Shared → Prop}
  (h : Q { scope, locals := s.heap.objs.size, globals := env.globals, cells := cellsFrom (s.heap.objs.size + 1) scope.names cl, qual := env.qual, func := none, code := env.code, frame := env.frame, builtins := env.builtins }
   { s with heap := pushCells (s.heap.push { cls := .type "dict", data := .dict #[] }) scope.names }) :
  wpAny (model g.prog g.w) C.A (newFunctionEnv scope env.globals cl [] env.qual none .none (some env)) Q E s := by
 simp only [newFunctionEnv, Option.isSome_some, if_true]
 refine wpAny_bind (wpAny_alloc ?_)
 refine wpAny_bind (wpAny_layCells _ (fun name kind cells => by cases hkc : kind == NameKind.cell <;> simp [hkc]) _ _ _ _ ?_)
 rw [show ({ s with heap := s.heap.push { cls := .type "dict", data := .dict #[] } } : Shared).heap.objs.size = s.heap.objs.size + 1 from Heap.size_push ..]
 refine wpAny_bind ?_
 rw [List.forIn_nil]
 exact wpAny_pure (wpAny_pure h)
noncomputable def relS (scope : Scope) (S : Sc) : Scope := { scope with names := scope.names.map fun (n, k) => if (k == .free && S.sc.kind == .function && S.sc.names.lookup n == some .cell) then (n, .cell) else (n, k) }
noncomputable def freeOf (scope : Scope) : List Str := (scope.names.filter fun x => x.2 == .free).map (·.1)
noncomputable def cellOfs (scope : Scope) : List Str := (scope.names.filter fun x => x.2 == .cell).map (·.1)
noncomputable def compS (scope : Scope) (S : Sc) : Sc := { sc := relS scope S, own := cellOfs scope, code := S.code }
noncomputable def compOk (scope : Scope) (S : Sc) : Bool := (scope.kind == .function) && (scope.names.all fun x => scope.names.lookup x.1 == some x.2) &&
 ((freeOf scope).all fun y => S.sc.names.lookup y == some .cell || S.sc.names.lookup y == some .free)
theorem relabel_eq (Y : Ok g S md n C) (scope : Scope) : relabel scope C.env = relS scope S := by
 unfold relabel relS
 congr 1
 apply List.map_congr_left
 intro q0q _
 obtain ⟨nm, k⟩ := q0q
 dsimp only
 rw [Y.kindOf nm, Y.scope]
theorem relS_lookup (scope : Scope) (S : Sc) (y : Str) : (relS scope S).names.lookup y = (scope.names.lookup y).map fun k => if (k == .free && S.sc.kind == .function && S.sc.names.lookup y == some .cell) = true then .cell else k := by
 unfold relS
 dsimp only
 induction scope.names with
 | nil => rfl
 | cons p r ih =>
  obtain ⟨nm, k⟩ := p
  rw [List.map_cons, List.lookup_cons]
  cases hb : y == nm with
  | true =>
   have := beq_iff_eq.mp hb
   subst this
   by_cases hc : (k == .free && S.sc.kind == .function && S.sc.names.lookup y == some .cell) = true
   ·simp only [hc, if_true, List.lookup_cons, beq_self_eq_true, Option.map_some]
   ·simp only [hc, if_false, List.lookup_cons, beq_self_eq_true, Bool.false_eq_true, Option.map_some]
  | false =>
   by_cases hc : (k == .free && S.sc.kind == .function && S.sc.names.lookup nm == some .cell) = true
   ·simp only [hc, if_true, List.lookup_cons, hb]; exact ih
   ·simp only [hc, if_false, List.lookup_cons, hb, Bool.false_eq_true]; exact ih
open Classical in
noncomputable def cbase (st : St) (fr : Addr → Option Data) (P : Addr → Prop) (h : Heap) : Addr → Option Obj := fun b => if (st.μ b).isSome = true ∨ (fr b).isSome = true ∨ P b then none else h.get? b
theorem cbase_some {st : St} {fr : Addr → Option Data} {P : Addr → Prop} {h : Heap} {b : Addr} {o : Obj} (e : cbase st fr P h b = some o) : h.get? b = some o ∧ st.μ b = none ∧ fr b = none ∧ ¬ P b := by
 unfold cbase at e
 split at e
 ·k_call_by "c" e
 ·rename_i hn
  refine ⟨e, ?_, ?_, fun h => hn (.inr (.inr h))⟩
  ·cases hm : st.μ b with
   | none => rfl
   | some o => exact absurd (.inl (by rw [hm]; rfl)) hn
  ·cases hm : fr b with
   | none => rfl
   | some o => exact absurd (.inr (.inl (by rw [hm]; rfl))) hn
theorem cbase_has {st : St} {fr : Addr → Option Data} {P : Addr → Prop} {h : Heap} {b : Addr} {o : Obj} (e : h.get? b = some o) (h1 : st.μ b = none) (h2 : fr b = none) (h3 : ¬ P b) : cbase st fr P h b = some o := by
 unfold cbase
 rw [if_neg]
 ·exact e
 ·rw [h1, h2]; rintro (h | h | h)
  ·k_call_by "c" h
  ·k_call_by "c" h
  ·exact h3 h
theorem cbase_none {st : St} {fr : Addr → Option Data} {P : Addr → Prop} {h : Heap} {b : Addr} (e : (st.μ b).isSome = true ∨ (fr b).isSome = true ∨ P b) : cbase st fr P h b = none := by
 unfold cbase; rw [if_pos e]
noncomputable def compC (C : Cx) (st : St) (P : Addr → Prop) (h : Heap) (env' : Env) (own : List Addr) : Cx := ⟨C.A, env', cbase st C.fr P h, own, C.fr, C.s0, []⟩
noncomputable def compSt (scope : Scope) (st : St) : St := ⟨fun y => if y ∈ freeOf scope then st.σ y else none, st.μ⟩
theorem lookup_mem {α : Type} [DecidableEq α] {l : List (Str × α)} (h : (l.all fun x => l.lookup x.1 == some x.2) = true) {x : Str} {k : α} (hm : (x, k) ∈ l) : l.lookup x = some k := by
 have := List.all_eq_true.mp h _ hm
 simpa using this
theorem mem_freeOf {scope : Scope} {y : Str} : y ∈ freeOf scope ↔ (y, NameKind.free) ∈ scope.names := by
 unfold freeOf
 simp only [List.mem_map, List.mem_filter, beq_iff_eq]
 constructor
 ·rintro ⟨⟨a, b⟩, ⟨h1, h2⟩, h3⟩; dsimp only at h2 h3; subst h2 h3; exact h1
 ·intro h; exact ⟨_, ⟨h, rfl⟩, rfl⟩
theorem mem_cellOfs {scope : Scope} {y : Str} : y ∈ cellOfs scope ↔ (y, NameKind.cell) ∈ scope.names := by
 unfold cellOfs
 simp only [List.mem_map, List.mem_filter, beq_iff_eq]
 constructor
 ·rintro ⟨⟨a, b⟩, ⟨h1, h2⟩, h3⟩; dsimp only at h2 h3; subst h2 h3; exact h1
 ·intro h; exact ⟨_, ⟨h, rfl⟩, rfl⟩
section
variable {scope : Scope} {P : Addr → Prop} {H : Heap}
theorem free_cell (Y : Ok g S md n C) (x : Sim g C st s) (hc : compOk scope S = true) {y : Str} (hy : y ∈ freeOf scope) {u : V} (hu : st.σ y = some u) : ∃ c v, C.env.cells.lookup y = some c ∧ s.heap.IsCell c (some v) ∧ er v = u := by
 refine exG1_2 x.vars fun m hm hv => ?_
 have h1 := hv y u hu
 unfold VarAt at h1
 rw [Y.kindOf y] at h1
 simp only [compOk, Bool.and_eq_true] at hc
 have := List.all_eq_true.mp hc.2 y hy
 simp only [Bool.or_eq_true, beq_iff_eq] at this
 rcases this with e | e <;> (rw [e] at h1; exact h1)
theorem comp_setup (Y : Ok g S md n C) (hm : md ≠ .hand) (x : Sim g C st s) (hc : compOk scope S = true) (hfree : ((freeOf scope).all fun y => (st.σ y).isSome) = true) (hP : ∀ b, P b → Off C b ∧ st.μ b = none ∧ (s.heap.get? b).isSome = true)
  {h0 : Heap} (hsz : s.heap.objs.size ≤ h0.objs.size) (k0 : ∀ b o, s.heap.get? b = some o → h0.get? b = some o) {env' : Env} {own : List Addr}
  (he : env' = { scope := relS scope S, locals := h0.objs.size, globals := C.env.globals, cells := cellsFrom (h0.objs.size + 1) scope.names (closL C.env.cells scope.names []), qual := C.env.qual, func := none, code := C.env.code, frame := C.env.frame, builtins := C.env.builtins })
  (ho : own = (cellsFrom (h0.objs.size + 1) scope.names []).map (·.2)) {H : Heap} (hH : H = pushCells (h0.push { cls := .type "dict", data := .dict #[] }) scope.names) :
  Ok g (compS scope S) .comp n (compC C st P s.heap env' own) ∧ Sim g (compC C st P s.heap env' own) (compSt scope st) { s with heap := H } ∧ (∀ b, P b → Off (compC C st P s.heap env' own) b) ∧ H.Ns env'.locals (fun _ => none) ∧ (∀ b o, h0.get? b = some o → H.get? b = some o) := by
 have ok := cellsFrom_ok scope.names (h0.push { cls := .type "dict", data := .dict #[] }) (h0.objs.size + 1) [] ⟨fun _ _ hm => (nomatch hm), List.Pairwise.nil⟩ (by rw [Heap.size_push]; exact Nat.le_refl _)
 rw [Heap.size_push, ← hH] at ok
 have kH : ∀ b o, h0.get? b = some o → H.get? b = some o := fun b o e => by rw [hH]; exact pushCells_keeps _ _ b o (Heap.get?_push_of_some _ e)
 have old : ∀ {b : Addr} {o : Obj}, s.heap.get? b = some o → b < h0.objs.size := fun e => Nat.lt_of_lt_of_le (Heap.lt_size e) hsz
 have newN : ∀ {b : Addr}, h0.objs.size ≤ b → s.heap.get? b = none := fun {b} hb => by
  cases e : s.heap.get? b with
  | none => rfl
  | some o => exact absurd (old e) (Nat.not_lt.mpr hb)
 have base_in : ∀ b o, C.base b = some o → cbase st C.fr P s.heap b = some o := fun b o e => by
  refine cbase_has (x.base b o e) ?_ ?_ ?_
  ·cases hq : st.μ b with
   | none => rfl
   | some q => have := (x.objs b q hq).2.2.2.1; rw [e] at this; k_call_by "c" this
  ·cases hq : C.fr b with
   | none => rfl
   | some q => have := Y.frB b q hq; rw [e] at this; k_call_by "c" this
  ·intro hp; have := (hP b hp).1.2.2.1; rw [e] at this; k_call_by "c" this
 have own_in : ∀ c ∈ C.own, ∃ o, cbase st C.fr P s.heap c = some o := fun c hc => by
  refine exG2_2 (x.cells c hc) fun v o ho _ => ?_
  refine ⟨o, cbase_has ho ?_ (Y.ownL c hc).2.2 fun hp => (hP c hp).1.2.1 hc⟩
  cases hq : st.μ c with
  | none => rfl
  | some q => exact absurd hc (x.objs c q hq).2.2.1
 have fr_new : ∀ b, h0.objs.size ≤ b → C.fr b = none := fun b hb => by
  cases hq : C.fr b with
  | none => rfl
  | some d => obtain ⟨o, ho, _⟩ := x.frs b d hq; rw [newN hb] at ho; k_call_by "c" ho
 have base_new : ∀ b, h0.objs.size ≤ b → cbase st C.fr P s.heap b = none := fun b hb => by
  cases e : cbase st C.fr P s.heap b with
  | none => rfl
  | some o => have := (cbase_some e).1; rw [newN hb] at this; k_call_by "c" this
 have own_ge : ∀ c ∈ own, h0.objs.size + 1 ≤ c := fun c hc => by
  rw [ho] at hc
  refine exG1_2 (List.mem_map.mp hc) fun r1 hm e => ?_
  obtain ⟨nm, c'⟩ := r1
  k_call_by "c" e
  exact (ok.empty nm c' hm).2
 have hcells : ∀ y, env'.cells.lookup y = ((cellsFrom (h0.objs.size + 1) scope.names []).lookup y).or ((closL C.env.cells scope.names []).lookup y) := fun y => by
  rw [he]; dsimp only; rw [cellsFrom_append, lookup_append]
 have new_own : ∀ y c, (cellsFrom (h0.objs.size + 1) scope.names []).lookup y = some c → c ∈ own := fun y c e => by
  rw [ho]; exact List.mem_map.mpr ⟨(y, c), mem_of_lookup e, rfl⟩
 have clos_old : ∀ y c, (closL C.env.cells scope.names []).lookup y = some c → C.env.cells.lookup y = some c ∧ ∃ o, cbase st C.fr P s.heap c = some o := fun y c e => by
  have e1 := closL_sub C.env.cells scope.names [] y c (fun z d h => by k_call_by "c" h) e
  refine ⟨e1, ?_⟩
  rcases Y.cells y c e1 with h | ⟨o, h⟩
  ·exact own_in c h
  ·exact ⟨o, base_in c o h⟩
 have hloc : env'.locals = h0.objs.size := by rw [he]
 simp only [compOk, Bool.and_eq_true] at hc
 have hc0 : compOk scope S = true := by simp only [compOk, Bool.and_eq_true]; exact hc
 have Hns : H.Ns env'.locals (fun _ => none) := by rw [hloc, hH]; exact (Heap.Ns.new h0 (.type "dict")).keeps (pushCells_keeps _ _)
 refine ⟨?_, ?_, ?_, Hns, kH⟩
 ·exact {
   stat := fun h hb => Y.stat h fun b o e => hb b o (base_in b o e)
   scope := by rw [show (compC C st P s.heap env' own).env = env' from rfl, he]; rfl
   kind := by have := hc.1.1; exact beq_iff_eq.mp this
   glob := by rw [show (compC C st P s.heap env' own).env = env' from rfl, he]; exact Y.glob
   blt := by rw [show (compC C st P s.heap env' own).env = env' from rfl, he]; exact Y.blt
   cells := fun y c e => by
    have e1 : ((cellsFrom (h0.objs.size + 1) scope.names []).lookup y).or ((closL C.env.cells scope.names []).lookup y) = some c := (hcells y).symm.trans e
    cases e2 : (cellsFrom (h0.objs.size + 1) scope.names []).lookup y with
    | some d => rw [e2] at e1; injection e1 with e1; subst e1; exact .inl (new_own y _ e2)
    | none => rw [e2, Option.none_or] at e1; exact .inr (clos_old y c e1).2
   ownL := fun c hcm => ⟨fun q => absurd (own_ge c hcm) (by rw [show c = h0.objs.size from q.trans hloc]; exact Nat.not_succ_le_self _),
     base_new c (Nat.le_of_succ_le (own_ge c hcm)), fr_new c (Nat.le_of_succ_le (own_ge c hcm))⟩
   baseL := by show cbase st C.fr P s.heap env'.locals = none; rw [hloc]; exact base_new _ (Nat.le_refl _)
   frL := by show C.fr env'.locals = none; rw [hloc]; exact fr_new _ (Nat.le_refl _)
   frB := fun a d e => cbase_none (.inr (.inl (by rw [show C.fr a = some d from e]; rfl)))
   ownN := fun y hy => by
    refine exG1_1 (cellsFrom_has scope.names (h0.objs.size + 1) [] y (.inl (mem_cellOfs.mp hy))) fun c hcm => ?_
    refine exG1_1 (lookup_of_mem hcm) fun d hd => ?_
    exact ⟨d, by rw [show (compC C st P s.heap env' own).env = env' from rfl, hcells, hd]; rfl, new_own y d hd⟩
   inj := fun a b c ha hb hcm => by
    have new : ∀ y, env'.cells.lookup y = some c → (cellsFrom (h0.objs.size + 1) scope.names []).lookup y = some c := fun y e => by
     rw [hcells] at e
     cases e2 : (cellsFrom (h0.objs.size + 1) scope.names []).lookup y with
     | some d => rw [e2] at e; k_call_by "c" e; rfl
     | none =>
      rw [e2, Option.none_or] at e
      refine exG0_2 (clos_old y c e) fun _ r2 => ?_
      refine exG1_1 r2 fun o h1 => ?_
      exact absurd (own_ge c hcm) (Nat.not_le.mpr (Nat.lt_succ_of_lt (old (cbase_some h1).1)))
    exact name_of_addr ok.apart (mem_of_lookup (new a ha)) (mem_of_lookup (new b hb))
   code := fun c e => by rw [show (compC C st P s.heap env' own).env = env' from rfl, he]; exact Y.code c e
   clo := fun cl e => nomatch e
   hnd := .inr (Y.handled hm)
   guards := Y.guards
   frames := .inl rfl
   outs := fun e he => nomatch he
   depth := Y.depth
   units := Y.units }
 ·refine ⟨x.gens, x.drawn, x.os, fun b o e => kH b o (k0 b o (cbase_some e).1), ⟨fun _ => none, Hns, fun y u hu => ?_⟩, fun c hcm => ?_, fun a d e => ?_, fun a o e => ?_⟩
  ·have hu' : (if y ∈ freeOf scope then st.σ y else none) = some u := hu
   by_cases hy : y ∈ freeOf scope
   ·rw [if_pos hy] at hu'
    refine exG2_3 (free_cell Y x hc0 hy hu') fun c v h1 h2 h3 => ?_
    have hmem := mem_freeOf.mp hy
    have hlk := lookup_mem hc.1.2 hmem
    have none1 : (cellsFrom (h0.objs.size + 1) scope.names []).lookup y = none := by
     cases e2 : (cellsFrom (h0.objs.size + 1) scope.names []).lookup y with
     | none => rfl
     | some d =>
      rcases cellsFrom_mem _ _ _ _ _ (mem_of_lookup e2) with h | h
      ·k_call_by "c" h
      ·have := lookup_mem hc.1.2 h; rw [hlk] at this; k_call_by "c" this
    have hl2 : env'.cells.lookup y = some c := by
     rw [hcells, none1, Option.none_or]
     obtain ⟨d, hd⟩ := Option.isSome_iff_exists.mp (closL_has C.env.cells scope.names [] y (.inl hmem) (by rw [h1]; rfl))
     rw [hd, ← h1, (clos_old y d hd).1]
    have cellH : H.IsCell c (some v) := isCell_keep h2 fun o e => kH c o (k0 c o e)
    have hk : env'.kindOf y = some .cell ∨ env'.kindOf y = some .free := by
     unfold Env.kindOf
     rw [he]
     dsimp only
     rw [relS_lookup, hlk, Option.map_some]
     split
     ·exact .inl rfl
     ·exact .inr rfl
    show VarAt env' H _ y u
    unfold VarAt
    rcases hk with hk | hk <;> (rw [hk]; exact ⟨c, v, hl2, cellH, h3⟩)
   ·rw [if_neg hy] at hu'; cases hu'
  ·have hcm' : c ∈ own := hcm
   rw [ho] at hcm'
   refine exG1_2 (List.mem_map.mp hcm') fun r3 hmm e => ?_
   obtain ⟨nm, c'⟩ := r3
   k_call_by "c" e
   exact ⟨none, (ok.empty nm c' hmm).1⟩
  ·refine exG1_2 (x.frs a d e) fun o h1 h2 => ?_
   exact ⟨o, kH a o (k0 a o h1), h2⟩
  ·have e' : st.μ a = some o := e
   refine exG0_2 (x.objs a o e') fun r hoff => ?_
   refine exG1_1 r.there fun ob hob => ?_
   refine ⟨r.at fun ob h => kH a ob (k0 a ob h), ?_, fun hcm => ?_, cbase_none (.inl (by rw [e']; rfl)), hoff.2.2.2⟩
   ·intro q
    exact absurd (old hob) (by rw [show a = h0.objs.size from q.trans hloc]; exact Nat.lt_irrefl _)
   ·exact absurd (own_ge a hcm) (Nat.not_le.mpr (Nat.lt_succ_of_lt (old hob)))
 ·intro b hb
  refine exG0_3 (hP b hb) fun hoff _ hsome => ?_
  refine exG1_1 (Option.isSome_iff_exists.mp hsome) fun ob hob => ?_
  refine ⟨?_, fun hcm => ?_, cbase_none (.inr (.inr hb)), hoff.2.2.2⟩
  ·intro q
   exact absurd (old hob) (by rw [show b = h0.objs.size from q.trans hloc]; exact Nat.lt_irrefl _)
  ·exact absurd (own_ge b hcm) (Nat.not_le.mpr (Nat.lt_succ_of_lt (old hob)))
theorem comp_back (Y : Ok g S md n C) (x : Sim g C st s) (hP : ∀ b, P b → Off C b ∧ st.μ b = none ∧ (s.heap.get? b).isSome = true) {env' : Env} {own : List Addr} {s' : Shared} (x' : Sim g (compC C st P s.heap env' own) st' s') :
  Sim g C ⟨st.σ, st'.μ⟩ s' := by
 have base_in : ∀ b o, C.base b = some o → cbase st C.fr P s.heap b = some o := fun b o e => by
  refine cbase_has (x.base b o e) ?_ ?_ ?_
  ·cases hq : st.μ b with
   | none => rfl
   | some q => have := (x.objs b q hq).2.2.2.1; rw [e] at this; k_call_by "c" this
  ·cases hq : C.fr b with
   | none => rfl
   | some q => have := Y.frB b q hq; rw [e] at this; k_call_by "c" this
  ·intro hp; have := (hP b hp).1.2.2.1; rw [e] at this; k_call_by "c" this
 have own_in : ∀ c ∈ C.own, ∀ o, s.heap.get? c = some o → cbase st C.fr P s.heap c = some o := fun c hc o ho => by
  refine cbase_has ho ?_ (Y.ownL c hc).2.2 fun hp => (hP c hp).1.2.1 hc
  cases hq : st.μ c with
  | none => rfl
  | some q => exact absurd hc (x.objs c q hq).2.2.1
 have loc_in : ∀ o, s.heap.get? C.env.locals = some o → cbase st C.fr P s.heap C.env.locals = some o := fun o ho => by
  refine cbase_has ho ?_ Y.frL fun hp => (hP _ hp).1.1 rfl
  cases hq : st.μ C.env.locals with
  | none => rfl
  | some q => exact absurd rfl (x.objs _ q hq).2.1
 refine ⟨x'.gens, x'.drawn, x'.os, fun b o e => x'.base b o (base_in b o e), ?_, fun c hc => ?_, x'.frs, fun a o e => ?_⟩
 ·refine exG1_2 x.vars fun m hm hv => ?_
  refine ⟨m, ns_keep hm fun o ho => x'.base _ o (loc_in o ho), fun y u hu => (hv y u hu).keep fun c v hl hcell => isCell_keep hcell fun o ho => ?_⟩
  rcases Y.cells y c hl with h | ⟨o', h⟩
  ·exact x'.base c o (own_in c h o ho)
  ·have := x.base c o' h
   rw [ho] at this; k_call_by "c" this
   exact x'.base c _ (base_in c _ h)
 ·refine exG1_1 (x.cells c hc) fun v hv => ?_
  exact ⟨v, isCell_keep hv fun o ho => x'.base c o (own_in c hc o ho)⟩
 ·refine exG0_2 (x'.objs a o e) fun r hoff => ?_
  refine ⟨r, ?_, fun hc => ?_, ?_, hoff.2.2.2⟩
  ·rintro rfl
   refine exG1_1 x.L_there fun ob hob => ?_
   have := hoff.2.2.1
   rw [show (compC C st P s.heap env' own).base C.env.locals = _ from loc_in ob hob] at this; k_call_by "c" this
  ·refine exG2_2 (x.cells a hc) fun v ob hob _ => ?_
   have := hoff.2.2.1
   rw [show (compC C st P s.heap env' own).base a = _ from own_in a hc ob hob] at this; k_call_by "c" this
  ·cases hb : C.base a with
   | none => rfl
   | some ob => have := hoff.2.2.1; rw [show (compC C st P s.heap env' own).base a = _ from base_in a ob hb] at this; k_call_by "c" this
end
end Kk
end
section
namespace Kk
variable {g : Gx} {S : Sc} {md : Md} {n : Nat} {C : Cx} {st st' : St} {s : Shared} {h' : Heap} {tk : Nat} {α β γ δ : Type}
noncomputable def compGo {ι : Type} (cur : Nat → St → Option ι → Prop) (asg : ι → M Unit) (tests : M Bool) (elt : M V) (fin : List V → St → Prop) : Nat → List ι → List V → St → Prop
 | i, [], acc, st => cur i st none ∧ fin acc st
 | i, x :: r, acc, st => cur i st (some x) ∧ asg x (fun _ st1 => tests (fun b st2 => if b = true then elt (fun v st3 => acc.length ≤ 1000 ∧ compGo cur asg tests elt fin (i + 1) r (acc ++ [v]) st3) (fun _ _ => False) st2
   else compGo cur asg tests elt fin (i + 1) r acc st2) (fun _ _ => False) st1) (fun _ _ => False) st
noncomputable abbrev RefTs (g : Gx) (S : Sc) (md : Md) (n : Nat) (p : M Bool) (ifs : List Expr) : Prop := Ref g S md n (fun a b => b = a) p (fun env => forIn ifs true fun c r => if r = true then do let ok ← isTrue c env (eval c env); pure (ForInStep.yield ok) else pure (ForInStep.yield r))
theorem refTs_nil : RefTs g S md n (mret true) [] := fun C Y st s Q X x h => wpAny_tests_nil ⟨true, st, rfl, x, h⟩
theorem refTs_one {p : M Bool} {t : Expr} (h : RefT g S md n p t) : RefTs g S md n p [t] := fun C Y st s Q X x hp => wpAny_tests_one (h C Y st s Q X x hp)
theorem postX_false {e : Value} (h : PostX g C (fun _ _ => False) e s) : False := by obtain ⟨_, _, _, _, h, _⟩ := h; exact h
theorem compLoop_run {ι : Type} {I D : Addr} {P : Addr → Prop} {It : Nat → Heap → Prop} {cur : Nat → St → Option ι → Prop} {target elt iter : Expr} {ifs : List Expr} {scope : Scope} {pos : Pos} {asg : ι → M Unit} {pt : M Bool} {pe : M V} {fin : List V → St → Prop} {R : Result → Shared → Prop}
  (Pr : Proto g C I P It cur target asg) (Y : Ok g S md n C) (ht : RefTs g S md n pt ifs) (hel : RefE g S md n pe elt) (hD : Off C D) (hDP : ¬ P D)
  (hfin : ∀ acc st' s' (vs : Array Value), Sim g C st' s' → st'.μ D = none → s'.heap.PlainList D vs → vs.toList.map er = acc → fin acc st' → R (.ok .next) s')
  {i : Nat} {rest : List ι} {acc : List V} (h : compGo cur asg pt pe fin i rest acc st) (hI : It i s.heap) (x : Sim g C st s) (hP : ∀ b, P b → st.μ b = none) (hDm : st.μ D = none) {vs : Array Value} (hl : s.heap.PlainList D vs) (ea : vs.toList.map er = acc) :
  codeAny (model g.prog g.w) C.A (.compLoop (.ListComp elt [⟨target, iter, ifs, 0⟩] scope pos) 0 (.ref I) (.ref D) C.env) R s := by
 have no : ∀ e s', PostX g C (fun _ _ => False) e s' → notedBy (model g.prog g.w) C.A C.env (fun e s' => R (.error e) s') e s' := fun e s' p => (postX_false p).elim
 refine codeAny_loop rfl (fun k s => ∃ i rest acc st vs, k = rest.length ∧ compGo cur asg pt pe fin i rest acc st ∧ It i s.heap ∧ Sim g C st s ∧ (∀ b, P b → st.μ b = none) ∧ st.μ D = none ∧ s.heap.PlainList D vs ∧ vs.toList.map er = acc) ?_ rest.length
  ⟨i, rest, acc, st, vs, rfl, h, hI, x, hP, hDm, hl, ea⟩
 intro k s q0q
 refine exG5_8 q0q fun i rest acc st vs r1 h hI x hP hDm hl ea => ?_
 obtain rfl := r1
 show wpAny _ _ ((compTurn (.ListComp elt [⟨target, iter, ifs, 0⟩] scope pos) 0 (.ref I) (.ref D) C.env).onRaise (fun x => do noteFrame x C.env; theTreesLotGoes x)) _ _ s
 refine wpAny_noted ?_
 rw [compTurn_list]
 refine wpAny_bind (wpAny_standAt (wpAny_bind ?_))
 induction rest with
 | nil =>
  unfold compGo at h
  refine wpAny_mono (Pr.done i st s _ hP h.1 hI x) (fun r s1 h1 => ?_) fun _ _ e => e
  refine exG0_3 h1 fun r2 x1 k1 => ?_
  obtain rfl := r2
  refine exG1_1 (id hl) fun m hm => ?_
  exact wpAny_pure (hfin acc st s1 vs x1 hDm ⟨m, k1 _ _ hDP hm⟩ ea h.2)
 | cons y rest =>
  unfold compGo at h
  refine wpAny_mono (Pr.item i y st s _ _ hP h.1 hI x h.2) (fun r s1 h1 => ?_) no
  revert h1; refine fun oO => exG1_2 oO fun v r3 h1 => ?_
  obtain rfl := r3
  refine wpAny_bind (wpAny_mono h1 (fun _ s2 h2 => ?_) no)
  refine wpAny_bind (wpAny_mono h2 (fun _ s3 h3 => ?_) no)
  revert h3; refine fun oO => exG1_5 oO fun st3 x3 hI3 hP3 k3 h3 => ?_
  refine exG1_1 (id hl) fun m hm => ?_
  refine exG0_2 (k3 D _ hDP hD hDm hm) fun hD3 hm3 => ?_
  refine wpAny_bind (wpAny_mono (keep_run (P := fun b => P b ∨ b = D) ht Y x3 (fun b hb => by rcases hb with hb | rfl; exact ⟨Pr.off b hb, hP3 b hb⟩; exact ⟨hD, hD3⟩) h3) (fun ok s4 h4 => ?_) no)
  revert h4; refine fun oO => exG2_5 oO fun ok' st4 r4 x4 h4 n4 k4 => ?_
  obtain rfl := r4
  have hI4 : It (i + 1) s4.heap := Pr.stable _ _ _ hI3 fun b o hb => k4 b o (.inl hb)
  have hP4 : ∀ b, P b → st4.μ b = none := fun b hb => n4 b (.inl hb) (Pr.there _ _ hI3 b hb)
  have hm4 := k4 D _ (.inr rfl) hm3
  have hD4 : st4.μ D = none := n4 D (.inr rfl) (by rw [hm3]; rfl)
  induction ok with
  | false =>
   simp only [Bool.false_eq_true, if_false] at h4
   refine wpAny_pure ⟨rfl, rest.length, by simp, i + 1, rest, acc, st4, vs, rfl, h4, hI4, x4, hP4, hD4, ⟨m, hm4⟩, ea⟩
  | true =>
   simp only [if_true] at h4
   refine wpAny_bind (wpAny_bind (wpAny_mono (keep_run (P := fun b => P b ∨ b = D) hel Y x4 (fun b hb => by rcases hb with hb | rfl; exact ⟨Pr.off b hb, hP4 b hb⟩; exact ⟨hD, hD4⟩) h4) (fun u s5 h5 => ?_) no))
   revert h5; refine fun oO => exG2_5 oO fun u' st5 eu x5 r5 n5 k5 => ?_
   obtain ⟨hz, h5⟩ := r5
   have hI5 : It (i + 1) s5.heap := Pr.stable _ _ _ hI4 fun b o hb => k5 b o (.inl hb)
   have hP5 : ∀ b, P b → st5.μ b = none := fun b hb => n5 b (.inl hb) (Pr.there _ _ hI4 b hb)
   have hm5 := k5 D _ (.inr rfl) hm4
   have hD5 : st5.μ D = none := n5 D (.inr rfl) (by rw [hm4]; rfl)
   refine wpAny_bind (wpAny_list_append_plain (l := D) (items := vs) ⟨m, hm5⟩ (fun h6 hl6 hs6 => ?_) (by rw [size_er ea]; exact Nat.le_trans hz sizeL))
   refine wpAny_pure (wpAny_pure ⟨rfl, rest.length, by simp, i + 1, rest, acc ++ [u'], st5, vs.push u, rfl, h5, Pr.stable _ _ _ hI5 fun b o hb e => hs6.extBut b o (fun q => hDP (q ▸ hb)) e, ?_, hP5, hD5, hl6, ?_⟩)
   ·exact x5.temps (tk := s5.toks) Y (· = D) (fun b hb => hb ▸ ⟨hD, hD5⟩) fun b o hb e => hs6.extBut b o hb e
   ·rw [Array.toList_push, List.map_append, ea, List.map_cons, List.map_nil, eu]
theorem Sim.adopt (x : Sim g C st s) {a : Addr} {o : O} (ha : Off C a) (ho : ORep g s.heap a o) : Sim g C (st.put a o) s := by
 refine ⟨x.gens, x.drawn, x.os, x.base, x.vars, x.cells, x.frs, fun b o' e => ?_⟩
 unfold St.put upd at e
 dsimp only at e
 split at e
 ·rename_i q; k_call_by "c" e; subst q; exact ⟨ho, ha⟩
 ·exact x.objs b o' e
theorem comp_core {target elt iter : Expr} {ifs : List Expr} {scope : Scope} {pos : Pos} {asg : List V → M Unit} {pt : M Bool} {pe : M V} {fin : List V → St → Prop} {sr : Src} {I : Addr} {P : Addr → Prop} {It : Nat → Heap → Prop} {RR : Value → Addr → Result → Shared → Prop} {E : Value → Shared → Prop}
  (Y : Ok g S md n C) (hm : md ≠ .hand) (x : Sim g C st s) (hc : compOk scope S = true) (hfree : ((freeOf scope).all fun y => (st.σ y).isSome) = true) (Sd : Stands g C sr I P It st s.heap)
  (T : TgOk g (compS scope S) .comp n target asg) (ht : RefTs g (compS scope S) .comp n pt ifs) (hel : RefE g (compS scope S) .comp n pe elt)
  (h : compGo sr.cur asg pt pe fin 0 (sr.its st) [] (compSt scope st))
  (hR : ∀ acc st' s' D L m, Sim g C ⟨st.σ, upd st'.μ D (.list acc)⟩ s' → st'.μ D = none → fin acc st' → s'.heap.Ns L m → Off C L → (upd st'.μ D (.list acc)) L = none → RR (.ref D) L (.ok .next) s') :
  wpAny (model g.prog g.w) C.A (newList []) (fun acc s3 => wpAny (model g.prog g.w) C.A (newFunctionEnv scope C.env.globals (closL C.env.cells scope.names []) [] C.env.qual none .none (some C.env)) (fun cenv s4 =>
   codeAny (model g.prog g.w) C.A (.compStart (.ListComp elt [⟨target, iter, ifs, 0⟩] scope pos) 0 (.ref I) acc { cenv with scope := relabel scope C.env }) (RR acc cenv.locals) s4) E s3) E s := by
 refine exG0_4 Sd fun I0 hP hpr hself => ?_
 refine wpAny_newObj_type (newEnv_comp ?_) (by size_fits)
 dsimp only
 rw [relabel_eq Y]
 generalize h0e : s.heap.push { cls := .type "list", dict := none, data := .seq ([] : List Value).toArray } = h0
 have hsz : s.heap.objs.size ≤ h0.objs.size := by rw [← h0e, Heap.size_push]; exact Nat.le_succ _
 have k0 : ∀ b o, s.heap.get? b = some o → h0.get? b = some o := fun b o e => by rw [← h0e]; exact Heap.get?_push_of_some _ e
 have hDl : h0.PlainList s.heap.objs.size #[] := by rw [← h0e]; exact ⟨0, Heap.get?_push_size _ rfl⟩
 have hDn : s.heap.get? s.heap.objs.size = none := Heap.get?_none_of_le (Nat.le_refl _)
 generalize hDe : s.heap.objs.size = D at hDl hDn
 have hDlt : D < h0.objs.size := by obtain ⟨m, hm⟩ := hDl; exact Heap.lt_size hm
 refine exG0_5 (comp_setup Y hm x hc hfree hP hsz k0 rfl rfl rfl) fun Y' x' hO hN kH => ?_
 generalize hce : ({ scope := relS scope S, locals := h0.objs.size, globals := C.env.globals, cells := cellsFrom (h0.objs.size + 1) scope.names (closL C.env.cells scope.names []), qual := C.env.qual, func := none, code := C.env.code, frame := C.env.frame, builtins := C.env.builtins } : Env) = env' at Y' x' hO hN ⊢
 have hloc : env'.locals = h0.objs.size := by rw [← hce]
 rw [show h0.objs.size = env'.locals from hloc.symm]
 generalize hHe : pushCells (h0.push { cls := .type "dict", data := .dict #[] }) scope.names = H at Y' x' hO hN kH ⊢
 have kall : ∀ b o, s.heap.get? b = some o → H.get? b = some o := fun b o e => kH b o (k0 b o e)
 have hDoff : Off (compC C st P s.heap env' ((cellsFrom (h0.objs.size + 1) scope.names []).map (·.2))) D := by
  refine ⟨?_, fun hcm => ?_, ?_, ?_⟩
  ·show D ≠ env'.locals
   rw [hloc]; exact Nat.ne_of_lt hDlt
  ·have := (Y'.ownL D hcm).1
   refine exG1_2 (List.mem_map.mp hcm) fun r6 hmm e => ?_
   obtain ⟨nm, c'⟩ := r6
   have ok := cellsFrom_ok scope.names (h0.push { cls := .type "dict", data := .dict #[] }) (h0.objs.size + 1) [] ⟨fun _ _ hm => (nomatch hm), List.Pairwise.nil⟩ (by rw [Heap.size_push]; exact Nat.le_refl _)
   rw [Heap.size_push] at ok
   have hge := (ok.empty nm c' hmm).2
   dsimp only at e
   rw [e] at hge
   exact absurd hge (Nat.not_le.mpr (Nat.lt_succ_of_lt hDlt))
  ·show cbase st C.fr P s.heap D = none
   cases e : cbase st C.fr P s.heap D with
   | none => rfl
   | some o => have := (cbase_some e).1; rw [hDn] at this; k_call_by "c" this
  ·show C.fr D = none
   cases e : C.fr D with
   | none => rfl
   | some d => obtain ⟨o, ho, _⟩ := x.frs D d e; rw [hDn] at ho; k_call_by "c" ho
 have hDP : ¬ P D := fun hp => by have := (hP D hp).2.2; rw [hDn] at this; k_call_by "c" this
 have hDm : st.μ D = none := x.mu_none hDn
 have itH : It 0 H := (hpr _ _ _ _ Y' (by intro h; k_call_by "c" h) hO target asg T).stable _ _ _ I0 fun b o _ e => kall b o e
 have loop : ∀ s₁ : Shared, s₁ = { s with heap := H } → codeAny (model g.prog g.w) C.A (.compLoop (.ListComp elt [⟨target, iter, ifs, 0⟩] scope pos) 0 (.ref I) (.ref D) env') (RR (.ref D) env'.locals) s₁ := by
  rintro s₁ rfl
  refine compLoop_run (C := compC C st P s.heap env' ((cellsFrom (h0.objs.size + 1) scope.names []).map (·.2))) (hpr _ _ _ _ Y' (by intro h; k_call_by "c" h) hO target asg T) Y' ht hel hDoff hDP ?_ h itH x' (fun b hb => (hP b hb).2.1) hDm (vs := #[]) (by obtain ⟨m, hm⟩ := hDl; exact ⟨m, kH _ _ hm⟩) rfl
  intro acc st' s' vs xs' hDs hpl ev hf
  have xb := comp_back Y x hP xs'
  refine exG1_2 xs'.vars fun m hm _ => ?_
  have hLoff : Off C env'.locals := by rw [hloc]; exact x.off_new (Heap.get?_none_of_le hsz)
  have hDoff2 : Off C D := x.off_new hDn
  refine hR acc st' s' D env'.locals m (xb.adopt (a := D) (o := .list acc) hDoff2 ⟨vs, hpl, ev⟩) hDs hf hm hLoff ?_
  unfold upd
  split
  ·rename_i q; exact absurd (q.symm.trans hloc) (Nat.ne_of_lt hDlt)
  ·cases e : st'.μ env'.locals with
   | none => rfl
   | some o => exact absurd rfl (xs'.objs _ o e).2.1
 refine codeAny_compStart_list (loop _ rfl) (hself 0 _ _ _ _ itH (loop _ rfl))
end Kk
end
section
namespace Kk
variable {g : Gx} {S : Sc} {md : Md} {n : Nat} {C : Cx} {st st' : St} {s : Shared} {h' : Heap} {tk : Nat} {α β γ δ : Type}
noncomputable def hasFree (scope : Scope) (st : St) : Prop := ((freeOf scope).all fun y => (st.σ y).isSome) = true
noncomputable def compM (scope : Scope) (psrc : M Src) (asg : List V → M Unit) (tests : M Bool) (elt : M V) : M V := fun Q X st => hasFree scope st ∧ psrc (fun sr st1 => hasFree scope st1 ∧
 compGo sr.cur asg tests elt (fun acc st' => ∀ D, st'.μ D = none → Q (.ref D) ⟨st1.σ, upd st'.μ D (.list acc)⟩) 0 (sr.its st1) [] (compSt scope st1)) X st
theorem closure_ok {scope : Scope} (Y : Ok g S md n C) (x : Sim g C st s) (hc : compOk scope S = true) (hf : hasFree scope st) : closureFor scope C.env = pure (closL C.env.cells scope.names []) := by
 refine closure_eq fun p hp hk => ?_
 obtain ⟨y, k⟩ := p
 dsimp only at hk
 subst hk
 have hy := mem_freeOf.mpr hp
 refine exG1_1 (Option.isSome_iff_exists.mp (List.all_eq_true.mp hf y hy)) fun u hu => ?_
 refine exG2_2 (free_cell Y x hc hy hu) fun c v h1 _ => ?_
 exact ⟨c, h1⟩
theorem compOk_kind {scope : Scope} (hc : compOk scope S = true) : scope.kind = .function := by
 simp only [compOk, Bool.and_eq_true] at hc; exact beq_iff_eq.mp hc.1.1
theorem compOk_names {scope : Scope} (hc : compOk scope S = true) : ∀ x ∈ scope.names, x.2 = .local → scope.names.lookup x.1 = some .local := by
 simp only [compOk, Bool.and_eq_true] at hc
 intro x hx h
 have := lookup_mem hc.1.2 (x := x.1) (k := x.2) hx
 rw [this, h]
section
variable {target elt iter : Expr} {ifs : List Expr} {scope : Scope} {pos : Pos} {psrc : M Src} {asg : List V → M Unit} {pt : M Bool} {pe : M V}
theorem ref_ListComp (hm : md ≠ .hand) (hc : compOk scope S = true) (hi : RefIt g S md n psrc iter) (T : TgOk g (compS scope S) .comp n target asg) (ht : RefTs g (compS scope S) .comp n pt ifs) (hel : RefE g (compS scope S) .comp n pe elt)
  (hs : ∀ env x, foldedSetIterable iter env x = pure x := by intro _ _; rfl) :
  RefE g S md n (compM scope psrc asg pt pe) (.ListComp elt [⟨target, iter, ifs, 0⟩] scope pos) := by
 intro C Y st s Q X x ⟨hf, h⟩
 rw [eval_ListComp]
 refine wpAny_comprehension_free (use := none) rfl (hs _) (closure_ok Y x hc hf) (compOk_kind hc) (compOk_names hc) (wpAny_mono (hi C Y st s _ X x h) (fun xv s1 h1 => wpAny_mono h1 (fun it s2 h2 => ?_) fun _ _ e => e) fun _ _ e => e)
 revert h2; refine fun oO => exG5_4 oO fun sr st2 I P It r1 x2 r2 Sd => ?_
 obtain rfl := r1
 obtain ⟨hf2, h2⟩ := r2
 refine comp_core (RR := fun acc L => compPost (model g.prog g.w) C.A (PostX g C X) none (Post g C VR Q) acc L) Y hm x2 hc hf2 Sd T ht hel h2 ?_
 intro acc st3 s3 D L m x3 hD hq hN hL hLm
 refine ⟨m, hN, fun h' hs' => ⟨.ref D, _, rfl, x3.temps (tk := s3.toks) Y (· = L) (fun b hb => hb ▸ ⟨hL, hLm⟩) fun b o hb e => hs'.extBut b o hb e, hq D hD⟩⟩
theorem ref_AssignComp {y : Str} {py spos : Pos} (hm : md ≠ .hand) (hv : stOk S y = true) (hc : compOk scope S = true) (hi : RefIt g S md n psrc iter) (T : TgOk g (compS scope S) .comp n target asg) (ht : RefTs g (compS scope S) .comp n pt ifs) (hel : RefE g (compS scope S) .comp n pe elt)
  (hsw : ∀ env : Env, env.scope = S.sc → swapsWith (.ListComp elt [⟨target, iter, ifs, 0⟩] scope pos) (some (.Name y py)) spos.line env = pure true)
  (hs : ∀ env x, foldedSetIterable iter env x = pure x := by intro _ _; rfl) :
  RefS g S md n (assignM y (compM scope psrc asg pt pe)) (.Assign [.Name y py] (.ListComp elt [⟨target, iter, ifs, 0⟩] scope pos) spos) := by
 intro C Y st s Q X x ⟨hf, h⟩
 rw [exec_Assign_Name_used _ _ _ _ (hsw _ Y.scope)]
 refine wpAny_bind (wpAny_standAt (wpAny_bind ?_))
 show wpAny _ _ (do let _ ← comprehension (.ListComp elt [⟨target, iter, ifs, 0⟩] scope pos) scope C.env _ (newList []) false (eval iter C.env) (some (assign (.Name y py) C.env))) _ _ s
 refine wpAny_bind (wpAny_mono (wpAny_comprehension_free (use := some (assign (.Name y py) C.env)) (Q := fun _ s' => Post g C FlR Q .next s') rfl (hs _) (closure_ok Y x hc hf) (compOk_kind hc) (compOk_names hc)
  (wpAny_mono (hi C Y st s _ X x h) (fun xv s1 h1 => wpAny_mono h1 (fun it s2 h2 => ?_) fun _ _ e => e) fun _ _ e => e)) (fun _ s' hq => wpAny_pure (wpAny_pure hq)) fun _ _ e => e)
 revert h2; refine fun oO => exG5_4 oO fun sr st2 I P It r3 x2 r4 Sd => ?_
 obtain rfl := r3
 obtain ⟨hf2, h2⟩ := r4
 refine comp_core (RR := fun acc L => compPost (model g.prog g.w) C.A (PostX g C X) (some (assign (.Name y py) C.env)) (fun _ s' => Post g C FlR Q .next s') acc L) Y hm x2 hc hf2 Sd T ht hel h2 ?_
 intro acc st3 s3 D L m x3 hD hq hN hL hLm
 show wpAny _ _ (assign (.Name y py) C.env (.ref D)) _ _ s3
 have hLs : (s3.heap.get? L).isSome = true := by obtain ⟨o, _, _, ho, _⟩ := hN; rw [ho]; rfl
 refine wpAny_mono (keep_run (P := (· = L)) (refA_Name hv (.ref D)) Y x3 (fun b hb => hb ▸ ⟨hL, hLm⟩) (Q := fun _ st' => Q .next st') (X := X) (hq D hD)) (fun _ s4 z0 => ?_) fun _ _ e => e
 refine exG2_5 z0 fun _ st4 _ x4 q4 n4 k4 => ?_
 refine ⟨m, hN.at' (fun o e => k4 L o rfl e), fun h' hs' => ⟨.next, st4, trivial, x4.temps (tk := s4.toks) Y (· = L) (fun b hb => hb ▸ ⟨hL, n4 L rfl hLs⟩) fun b o hb e => hs'.extBut b o hb e, q4⟩⟩
end
end Kk
end
section
namespace Kk
variable {g : Gx} {S : Sc} {md : Md} {n : Nat} {C : Cx} {st st' : St} {s : Shared} {h' : Heap} {tk : Nat} {α β γ δ : Type}
noncomputable def frUp (C : Cx) (h : Heap) : Addr → Option Data := fun b => if b = C.env.locals then (h.get? b).map (·.data) else C.fr b
noncomputable def callC (C : Cx) (st : St) (h : Heap) (A' : Around) (env' : Env) (own : List Addr) : Cx := ⟨A', env', cbase st (frUp C h) (fun _ => False) h, own, frUp C h, C.s0, C.env :: C.outer⟩
theorem cbase_base (Y : Ok g S md n C) (x : Sim g C st s) {b : Addr} {o : Obj} (e : C.base b = some o) : cbase st (frUp C s.heap) (fun _ => False) s.heap b = some o := by
 refine cbase_has (x.base b o e) ?_ ?_ id
 ·cases hq : st.μ b with
  | none => rfl
  | some q => have := (x.objs b q hq).2.2.2.1; rw [e] at this; k_call_by "c" this
 ·unfold frUp
  rw [if_neg (fun q => by have := Y.baseL; rw [← q, e] at this; k_call_by "c" this)]
  cases hq : C.fr b with
  | none => rfl
  | some q => have := Y.frB b q hq; rw [e] at this; k_call_by "c" this
theorem cbase_own (Y : Ok g S md n C) (x : Sim g C st s) {c : Addr} (hc : c ∈ C.own) {o : Obj} (ho : s.heap.get? c = some o) : cbase st (frUp C s.heap) (fun _ => False) s.heap c = some o := by
 refine cbase_has ho ?_ ?_ id
 ·cases hq : st.μ c with
  | none => rfl
  | some q => exact absurd hc (x.objs c q hq).2.2.1
 ·unfold frUp
  rw [if_neg (Y.ownL c hc).1]; exact (Y.ownL c hc).2.2
theorem cbase_cell (Y : Ok g S md n C) (x : Sim g C st s) {y : Str} {c : Addr} (hl : C.env.cells.lookup y = some c) : ∃ o, cbase st (frUp C s.heap) (fun _ => False) s.heap c = some o := by
 rcases Y.cells y c hl with h | ⟨o, h⟩
 ·refine exG2_2 (x.cells c h) fun v o ho _ => ?_
  exact ⟨o, cbase_own Y x h ho⟩
 ·exact ⟨o, cbase_base Y x h⟩
theorem frUp_there (x : Sim g C st s) {a : Addr} {d : Data} (e : frUp C s.heap a = some d) : ∃ o, s.heap.get? a = some o ∧ o.data = d := by
 unfold frUp at e
 split at e
 ·rename_i q
  refine exG1_2 (Option.map_eq_some_iff.mp e) fun o ho hd => ?_
  exact ⟨o, ho, hd⟩
 ·exact x.frs a d e
theorem frUp_new (x : Sim g C st s) {a : Addr} (ha : s.heap.get? a = none) : frUp C s.heap a = none := by
 cases e : frUp C s.heap a with
 | none => rfl
 | some d => obtain ⟨o, ho, _⟩ := frUp_there x e; rw [ha] at ho; k_call_by "c" ho
theorem cbase_new {fr : Addr → Option Data} {P : Addr → Prop} {a : Addr} (ha : s.heap.get? a = none) : cbase st fr P s.heap a = none := by
 cases e : cbase st fr P s.heap a with
 | none => rfl
 | some o => have := (cbase_some e).1; rw [ha] at this; k_call_by "c" this
structure Around' (A A' : Around) (k : Nat) : Prop where
 hnd : A'.handled = A.handled
 guards : A'.guards = A.guards
 frames : A'.frames = A.frames
 depth : A'.depth ≤ A.depth + k
 units : A'.units ≤ A.units + k
structure Enters (C : Cx) (st : St) (s : Shared) (Sb : Sc) (env' : Env) (own : List Addr) (σ' : Str → Option V) (s₁ : Shared) : Prop where
 sc : env'.scope = Sb.sc
 kind : Sb.sc.kind = .function
 glob : env'.globals = mainGlobals
 blt : env'.builtins = builtinsNs
 frame : env'.frame = some env'.locals
 loc : s.heap.objs.size ≤ env'.locals
 cells : ∀ y c, env'.cells.lookup y = some c → c ∈ own ∨ ∃ o, cbase st (frUp C s.heap) (fun _ => False) s.heap c = some o
 ownC : ∀ c ∈ own, env'.locals < c ∧ ∃ v, s₁.heap.IsCell c v
 ownN : ∀ x ∈ Sb.own, ∃ c, env'.cells.lookup x = some c ∧ c ∈ own
 inj : ∀ x y c, env'.cells.lookup x = some c → env'.cells.lookup y = some c → c ∈ own → x = y
 code : ∀ c, Sb.code = some c → env'.code = .ref c
 clo : ∀ cl, Sb.cl = some cl → ∀ y c, cl.lookup y = some c → env'.cells.lookup y = some c
 same : ∃ h tk, s₁ = { s with heap := h, toks := tk }
 keep : ∀ b o, s.heap.get? b = some o → s₁.heap.get? b = some o
 vars : ∃ m, s₁.heap.Ns env'.locals m ∧ ∀ x u, σ' x = some u → VarAt env' s₁.heap m x u
theorem call_setup {Sb : Sc} {env' : Env} {own : List Addr} {σ' : Str → Option V} {s₁ : Shared} {A' : Around} {k : Nat} (Y : Ok g S .fn (n + 1) C) (x : Sim g C st s) (hA : Around' C.A A' k) (hk : k ≤ 4) (En : Enters C st s Sb env' own σ' s₁) :
  Ok g Sb .fn n (callC C st s.heap (A'.deeper env') env' own) ∧ Sim g (callC C st s.heap (A'.deeper env') env' own) ⟨σ', st.μ⟩ s₁ := by
 have hm : Md.fn ≠ Md.comp := by intro h; k_call_by "c" h
 refine exG0_2 (Y.frames.resolve_left hm) fun hfr hf => ?_
 have nL : s.heap.get? env'.locals = none := Heap.get?_none_of_le En.loc
 have nO : ∀ c ∈ own, s.heap.get? c = none := fun c hc => Heap.get?_none_of_le (Nat.le_trans En.loc (Nat.le_of_lt (En.ownC c hc).1))
 have hd := Y.depth
 have hu := Y.units
 have hd' := hA.depth
 have hu' := hA.units
 refine exG2_1 En.same fun h₁ tk₁ r1 => ?_
 obtain rfl := r1
 constructor
 ·exact {
   stat := fun h hb => Y.stat h fun b o e => hb b o (cbase_base Y x e)
   scope := En.sc
   kind := En.kind
   glob := En.glob
   blt := En.blt
   cells := En.cells
   ownL := fun c hc => ⟨Nat.ne_of_gt (En.ownC c hc).1, show cbase st (frUp C s.heap) (fun _ => False) s.heap c = none from cbase_new (nO c hc), frUp_new x (nO c hc)⟩
   baseL := show cbase st (frUp C s.heap) (fun _ => False) s.heap env'.locals = none from cbase_new nL
   frL := frUp_new x nL
   frB := fun a d e => show cbase st (frUp C s.heap) (fun _ => False) s.heap a = none from cbase_none (.inr (.inl (by rw [show frUp C s.heap a = some d from e]; rfl)))
   ownN := En.ownN
   inj := En.inj
   code := En.code
   clo := En.clo
   hnd := .inr (by
    show A'.handled = none
    rw [hA.hnd]; exact Y.handled (by intro h; k_call_by "c" h))
   guards := hA.guards.trans Y.guards
   frames := .inr ⟨by
    show A'.frames.map (env' :: ·) = some (env' :: C.env :: C.outer)
    rw [hA.frames, hfr]; rfl, En.frame⟩
   outs := fun e he => by
    rcases List.mem_cons.mp he with rfl | he
    ·refine exG1_2 x.vars fun m r2 hv => ?_
     obtain ⟨o, es, ep, ho, hdat, r⟩ := r2
     refine ⟨by rw [Y.scope, Y.kind]; decide, _, o.data, hf, ?_, fun vs q => by rw [hdat] at q; k_call_by "c" q⟩
     show frUp C s.heap C.env.locals = _
     unfold frUp; rw [if_pos rfl, ho]; rfl
    ·refine exG0_2 (Y.outs e he) fun h1 r3 => ?_
     refine exG2_3 r3 fun L d h2 h3 h4 => ?_
     refine ⟨h1, L, d, h2, ?_, h4⟩
     show frUp C s.heap L = _
     unfold frUp
     rw [if_neg (fun q => by have := Y.frL; rw [← q, h3] at this; k_call_by "c" this)]; exact h3
   depth := by show A'.depth + 1 + 10 * n ≤ 900; omega
   units := by show A'.units + 3 + 10 * n ≤ 9000; omega }
 ·refine ⟨x.gens, x.drawn, x.os, fun b o e => En.keep b o (cbase_some (show cbase st (frUp C s.heap) (fun _ => False) s.heap b = some o from e)).1, En.vars, fun c hc => (En.ownC c hc).2, fun a d e => ?_, fun a o e => ?_⟩
  ·refine exG1_2 (frUp_there x e) fun o ho hdat => ?_
   exact ⟨o, En.keep a o ho, hdat⟩
  ·have e' : st.μ a = some o := e
   refine exG0_2 (x.objs a o e') fun r hoff => ?_
   refine exG1_1 r.there fun ob hob => ?_
   refine ⟨r.at fun ob h => En.keep a ob h, ?_, fun hc => ?_, show cbase st (frUp C s.heap) (fun _ => False) s.heap a = none from cbase_none (.inl (by rw [e']; rfl)), ?_⟩
   ·intro q
    rw [show a = env'.locals from q, nL] at hob; k_call_by "c" hob
   ·rw [nO a hc] at hob; k_call_by "c" hob
   ·show frUp C s.heap a = none
    unfold frUp; rw [if_neg hoff.1]; exact hoff.2.2.2
theorem off_back {A' : Around} {env' : Env} {own : List Addr} (Y : Ok g S .fn n C) (x : Sim g C st s) {a : Addr} (h : Off (callC C st s.heap A' env' own) a) : Off C a := by
 refine ⟨?_, fun hc => ?_, ?_, ?_⟩
 ·rintro rfl
  refine exG1_1 x.L_there fun o ho => ?_
  have := h.2.2.2
  rw [show (callC C st s.heap A' env' own).fr C.env.locals = frUp C s.heap C.env.locals from rfl] at this
  unfold frUp at this
  rw [if_pos rfl, ho] at this; k_call_by "c" this
 ·refine exG2_2 (x.cells a hc) fun v o ho _ => ?_
  have := h.2.2.1
  rw [show (callC C st s.heap A' env' own).base a = _ from cbase_own Y x hc ho] at this; k_call_by "c" this
 ·cases e : C.base a with
  | none => rfl
  | some o => have := h.2.2.1; rw [show (callC C st s.heap A' env' own).base a = _ from cbase_base Y x e] at this; k_call_by "c" this
 ·cases e : C.fr a with
  | none => rfl
  | some d =>
   have := h.2.2.2
   rw [show (callC C st s.heap A' env' own).fr a = frUp C s.heap a from rfl] at this
   unfold frUp at this
   split at this
   ·rename_i q; have h2 := Y.frL; rw [← q, e] at h2; k_call_by "c" h2
   ·rw [e] at this; k_call_by "c" this
theorem call_back {A' : Around} {env' : Env} {own : List Addr} {s' : Shared} (Y : Ok g S .fn n C) (x : Sim g C st s) (x' : Sim g (callC C st s.heap A' env' own) st' s') : Sim g C ⟨st.σ, st'.μ⟩ s' := by
 refine ⟨x'.gens, x'.drawn, x'.os, fun b o e => x'.base b o (cbase_base Y x e), ?_, fun c hc => ?_, fun a d e => ?_, fun a o e => ⟨(x'.objs a o e).1, off_back Y x (x'.objs a o e).2⟩⟩
 ·refine exG1_2 x.vars fun m r4 hv => ?_
  obtain ⟨o, es, ep, ho, hdat, r⟩ := r4
  obtain ⟨o', ho', hd'⟩ := x'.frs C.env.locals o.data (by
   show frUp C s.heap C.env.locals = _
   unfold frUp; rw [if_pos rfl, ho]; rfl)
  refine ⟨m, ⟨o', es, ep, ho', hd'.trans hdat, r⟩, fun y u hu => (hv y u hu).keep fun c v hl hcell => isCell_keep hcell fun ob hob => ?_⟩
  refine exG1_1 (cbase_cell Y x hl) fun o2 h2 => ?_
  have := (cbase_some h2).1
  rw [hob] at this; k_call_by "c" this
  exact x'.base c _ h2
 ·refine exG2_2 (x.cells c hc) fun v o ho hdat => ?_
  exact ⟨v, o, x'.base c o (cbase_own Y x hc ho), hdat⟩
 ·refine x'.frs a d ?_
  show frUp C s.heap a = some d
  unfold frUp
  rw [if_neg (fun q => by have := Y.frL; rw [← q, e] at this; k_call_by "c" this)]; exact e
theorem raised_back {A' : Around} {env' : Env} {own : List Addr} {h : Heap} {k : Ex} {e : Value} {fl : Option Value} {σ' : Str → Option V} (Y : Ok g S .fn n C) (x : Sim g C st s) (R : Raised g (callC C st s.heap A' env' own) st' k e h fl) : Raised g C ⟨σ', st'.μ⟩ k e h fl := by
 refine exG3_8 R fun a oe vs e1 e2 e3 e4 e5 e6 e7 e8 => ?_
 refine ⟨a, oe, vs, e1, e2, e3, e4, e5, off_back Y x e6, e7, ?_⟩
 induction fl with
 | none => exact e8
 | some f =>
  refine exG3_7 e8 fun T oT ts h1 h2 h3 h4 h5 h6 h7 => ?_
  exact ⟨T, oT, ts, h1, h2, h3, h4, h5, off_back Y x h6, h7⟩
noncomputable def retV : Fl → V | .ret v => v | _ => .none
noncomputable def callM (pb : M Fl) (σ' : Str → Option V) : M V := fun Q X st => pb (fun f st' => Q (retV f) ⟨st.σ, st'.μ⟩) (fun k st' => X k ⟨st.σ, st'.μ⟩) ⟨σ', st.μ⟩
theorem call_body {Sb : Sc} {env' : Env} {own : List Addr} {σ' : Str → Option V} {s₁ : Shared} {A' : Around} {k : Nat} {pb : M Fl} {body : List Stmt} {Q : V → St → Prop} {X : Ex → St → Prop} {R : Result → Shared → Prop}
  (Y : Ok g S .fn (n + 1) C) (x : Sim g C st s) (hA : Around' C.A A' k) (hk : k ≤ 4) (En : Enters C st s Sb env' own σ' s₁) (hb : RefB g Sb .fn n pb body) (h : callM pb σ' Q X st)
  (hR : ∀ v s', Post g C VR Q v s' → R (.ok (.ret v)) s') (hE : ∀ e s', PostX g C X e s' → R (.error e) s') :
  wpAny (model g.prog g.w) (A'.deeper env') (execs body env') (fun f s' => R (.ok (.ret (match f with | .ret v => v | _ => .none))) s')
   (fun e s' => wpAny (model g.prog g.w) (A'.deeper env') (leaving env' e) (fun _ s'' => R (.error e) s'') (fun e' s'' => R (.error e') s'') s') s₁ := by
 refine exG0_2 (call_setup Y x hA hk En) fun Y' x' => ?_
 have hm : Md.fn ≠ Md.comp := by intro h; k_call_by "c" h
 refine wpAny_mono (hb _ Y' _ _ _ _ x' h) (fun f s' ⟨f', st2, ef, x2, q⟩ => hR _ _ ?_) fun e s' ⟨ke, st2, fl, x2, hX, hfl, Rs⟩ => ?_
 ·refine ⟨retV f', _, ?_, call_back Y x x2, q⟩
  induction f' <;> induction f <;> first | exact ef.elim | rfl | exact ef
 ·unfold leaving
  refine wpAny_bind (note_run (C := callC C st s.heap (A'.deeper env') env' own) Y' hm x2 hfl Rs fun s3 x3 R3 => ?_)
  refine flight_run (C := callC C st s.heap (A'.deeper env') env' own) (fr := none) Y' x3 R3 fun s4 x4 R4 => hE e s4 ?_
  exact ⟨ke, _, some .none, call_back Y x x4, hX, .inr (.inl rfl), raised_back Y x R4⟩
theorem bindL_eq (k : Str → Option NameKind) : ∀ (binds : List (Str × Value)) (m : Str → Option Value) (x : Str), k x = some .local → bindL k binds m x = (binds.reverse.lookup x).or (m x)
 | [], m, x, h => by simp [bindL]
 | (nm, v) :: r, m, x, h => by
  rw [bindL, bindL_eq k r _ x h, List.reverse_cons, lookup_append]
  by_cases hx : x = nm
  ·subst hx
   simp only [h, if_true, List.lookup_cons, beq_self_eq_true, List.lookup_nil, Option.or_assoc, Option.some_or]
  ·have hb : (x == nm) = false := beq_eq_false_iff_ne.mpr hx
   simp only [List.lookup_cons, hb, List.lookup_nil, Option.or_none]
   congr 1
   split <;> simp [hx]
theorem bindC_eq (k : Str → Option NameKind) : ∀ (binds : List (Str × Value)) (m : Str → Option Value) (x : Str), k x ≠ some .local → bindC k binds m x = (binds.reverse.lookup x).or (m x)
 | [], m, x, h => by simp [bindC]
 | (nm, v) :: r, m, x, h => by
  rw [bindC, bindC_eq k r _ x h, List.reverse_cons, lookup_append]
  by_cases hx : x = nm
  ·subst hx
   simp only [h, if_false, List.lookup_cons, beq_self_eq_true, List.lookup_nil, Option.or_assoc, if_true, Option.some_or]
  ·have hb : (x == nm) = false := beq_eq_false_iff_ne.mpr hx
   simp only [List.lookup_cons, hb, List.lookup_nil, Option.or_none]
   congr 1
   split <;> simp [hx]
noncomputable def argσ (binds : List (Str × V)) : Str → Option V := fun x => binds.reverse.lookup x
theorem lookup_er (l : List (Str × Value)) (x : Str) : (l.map fun p => (p.1, er p.2)).lookup x = (l.lookup x).map er := by
 induction l with
 | nil => rfl
 | cons p r ih =>
  rw [List.map_cons, List.lookup_cons, List.lookup_cons]
  cases x == p.1 <;> simp [ih]
structure IsFn (g : Gx) (fa : Addr) (fd : FuncData) (body : List Stmt) : Prop where
 look : ∃ o, g.K.lookup fa = some o ∧ o.data = .func fd
 code : codeIn g.K fd.code fd.qualname = true
 body : fd.body = .stmts body
 clo : fd.closure = []
 glob : fd.globals = mainGlobals
 blt : fd.builtins = builtinsNs
 kind : fd.scope.kind = .function
 co : fd.scope.isCoroutine = false
 gen : fd.scope.isGenerator = false
noncomputable def fnS (fd : FuncData) : Sc := { sc := fd.scope, own := cellOfs fd.scope, code := (match fd.code with | .ref c => some c | _ => none) }
theorem call_fun {fa : Addr} {fd : FuncData} {body : List Stmt} {vals : List Value} {binds : List (Str × Value)} {A' : Around} {k : Nat} {pb : M Fl} {Q : V → St → Prop} {X : Ex → St → Prop} {R : Result → Shared → Prop}
  (Y : Ok g S .fn (n + 1) C) (x : Sim g C st s) (hA : Around' C.A A' k) (hk : k ≤ 4) (F : IsFn g fa fd body) (hbind : ∀ s : Shared, g.K.In s.heap → BindsTo s fd ⟨vals, []⟩ binds)
  (hkind : ∀ y ∈ binds, fd.scope.names.lookup y.1 = some .local ∨ (fd.scope.names.lookup y.1 = some .cell ∧ (y.1, NameKind.cell) ∈ fd.scope.names))
  (hb : RefB g (fnS fd) .fn n pb body) (h : callM pb (argσ (binds.map fun p => (p.1, er p.2))) Q X st)
  (hR : ∀ v s', Post g C VR Q v s' → R (.ok (.ret v)) s') (hE : ∀ e s', PostX g C X e s' → R (.error e) s') :
  codeAny (model g.prog g.w) A' (.call (.ref fa) ⟨vals, []⟩) R s := by
 refine exG1_2 F.look fun o hlk hdat => ?_
 have hst := Y.here x
 have hd := Y.depth
 have hd' := hA.depth
 have ok := cellsFrom_ok fd.scope.names (s.heap.push { cls := .type "frame", data := .dict #[] }) (s.heap.objs.size + 1) [] ⟨fun _ _ hm => (nomatch hm), List.Pairwise.nil⟩ (by rw [Heap.size_push]; exact Nat.le_refl _)
 rw [Heap.size_push] at ok
 refine codeAny_call_function (by unfold recursionLimit; omega) (hst.kin _ _ hlk) hdat F.co F.gen F.body (codeRec_of hst.kin F.code) (hbind s hst.kin _ _ _ _ ?_)
 rw [F.clo]
 refine wpAny_newFunctionEnv_cells F.kind (fun y hy => ?_) fun env' he s₁ I => ?_
 ·rcases hkind y hy with h | ⟨h1, h2⟩
  ·exact .inl h
  ·refine exG1_1 (cellsFrom_has fd.scope.names (s.heap.objs.size + 1) [] y.1 (.inl h2)) fun c hc => ?_
   refine exG1_1 (lookup_of_mem hc) fun d hd => ?_
   exact .inr ⟨h1, by rw [hd]; rfl⟩
 ·have eloc : env'.locals = s.heap.objs.size := by rw [he]; rfl
  have ecells : env'.cells = cellsFrom (s.heap.objs.size + 1) fd.scope.names [] := by rw [he]; rfl
  have En : Enters C st s (fnS fd) env' ((cellOfs fd.scope).filterMap fun y => env'.cells.lookup y) (argσ (binds.map fun p => (p.1, er p.2))) s₁ := {
   sc := by rw [he]; rfl
   kind := F.kind
   glob := by rw [he]; exact F.glob
   blt := by rw [he]; exact F.blt
   frame := by rw [he]; rfl
   loc := Nat.le_of_eq eloc.symm
   cells := fun y c e => by
    have e2 : (cellsFrom (s.heap.objs.size + 1) fd.scope.names []).lookup y = some c := by rw [← ecells]; exact e
    rcases cellsFrom_mem _ _ _ _ _ (mem_of_lookup e2) with h | h
    ·k_call_by "c" h
    ·exact .inl (List.mem_filterMap.mpr ⟨y, mem_cellOfs.mpr h, e⟩)
   ownC := fun c hc => by
    refine exG1_2 (List.mem_filterMap.mp hc) fun y _ e => ?_
    exact ⟨I.above y c (mem_of_lookup e), _, I.cell y c e⟩
   ownN := fun y hy => by
    refine exG1_1 (cellsFrom_has fd.scope.names (s.heap.objs.size + 1) [] y (.inl (mem_cellOfs.mp hy))) fun c hc => ?_
    refine exG1_1 (lookup_of_mem hc) fun d hd => ?_
    rw [← ecells] at hd
    exact ⟨d, hd, List.mem_filterMap.mpr ⟨y, hy, hd⟩⟩
   inj := fun a b c ha hb _ => name_of_addr I.apart (mem_of_lookup ha) (mem_of_lookup hb)
   code := fun c e => by
    rw [he]
    show fd.code = .ref c
    unfold fnS at e
    dsimp only at e
    split at e
    ·rename_i q; k_call_by "c" e; exact q
    ·k_call_by "c" e
   clo := fun cl e => nomatch e
   same := I.toInCall.same
   keep := I.toInCall.keep
   vars := by
    refine ⟨_, I.toInCall.ns, fun y u hu => ?_⟩
    unfold argσ at hu
    rw [← List.map_reverse, lookup_er] at hu
    refine exG1_2 (Option.map_eq_some_iff.mp hu) fun v hv ev => ?_
    have hmem : y ∈ binds.map (·.1) := by
     have := mem_of_lookup hv
     exact List.mem_map.mpr ⟨(y, v), List.mem_reverse.mp this, rfl⟩
    refine exG1_2 (List.mem_map.mp hmem) fun r5 hy' e' => ?_
    obtain ⟨y', v'⟩ := r5
    dsimp only at e'
    subst e'
    have hko : env'.kindOf y' = fd.scope.names.lookup y' := by rw [he]; rfl
    unfold VarAt
    rcases hkind _ hy' with h | ⟨h1, h2⟩
    ·rw [hko, h]
     refine ⟨v, ?_, ev⟩
     rw [bindL_eq _ _ _ _ (hko.trans h), hv]; rfl
    ·rw [hko, h1]
     refine exG1_1 (cellsFrom_has fd.scope.names (s.heap.objs.size + 1) [] y' (.inl h2)) fun c hc => ?_
     refine exG1_1 (lookup_of_mem hc) fun d hd => ?_
     refine ⟨d, v, by rw [ecells]; exact hd, ?_, ev⟩
     have := I.cell y' d (by rw [ecells]; exact hd)
     rw [bindC_eq _ _ _ _ (by rw [hko, h1]; intro q; k_call_by "c" q), hv] at this
     exact this }
  exact ⟨hst.top.nolimit.keeps I.toInCall.keep, codeAny_func (call_body Y x hA hk En hb h hR hE)⟩
end Kk
end
section
namespace Kk
variable {g : Gx} {S : Sc} {md : Md} {n : Nat} {C : Cx} {st st' : St} {s : Shared} {h' : Heap} {tk : Nat} {α β γ δ : Type}
theorem Ok.low (Y : Ok g S md n C) (x : Sim g C st s) : (s.heap.objs.size == sysModules) = false := by
 have := modules_low (Y.here x).top.nolimit
 exact beq_eq_false_iff_ne.mpr (Nat.ne_of_gt this)
theorem ref_Dict0 {pos : Pos} : RefE g S md n (fun Q _ st => ∀ a, st.μ a = none → ∀ ep, Q (.ref a) (st.put a (.dict [] ep))) (.Dict [] [] pos) := fun C Y st s Q X x h =>
 wpAny_Dict_empty ⟨_, _, rfl, x.push (tk := s.toks) (o := .dict [] 0) ⟨Y.low x, [], ⟨_, #[], Heap.get?_push_size _ rfl, ⟨rfl, rfl, rfl⟩, rfl, fun e he => by simp at he, .nil, by simp⟩, rfl⟩, h _ x.fresh 0⟩
noncomputable def fnM (names : List Str) (tail : List (Str × V)) (k : Nat) (pb : M Fl) (us : List V) : M V := fun Q X st => us.length = k ∧ callM pb (argσ (names.zip us ++ tail)) Q X st
theorem zip_er (names : List Str) (vs : List Value) : (names.zip vs).map (fun p => (p.1, er p.2)) = names.zip (vs.map er) := by
 induction names generalizing vs with
 | nil => simp
 | cons a r ih => induction vs with
  | nil => simp
  | cons v vs => simp [ih]
structure Binds (g : Gx) (fd : FuncData) (names : List Str) (tail : List (Str × Value)) (k : Nat) : Prop where
 binds : ∀ vs : List Value, vs.length = k → ∀ s : Shared, g.K.In s.heap → BindsTo s fd ⟨vs, []⟩ (names.zip vs ++ tail)
 kind : ∀ y ∈ names ++ tail.map (·.1), fd.scope.names.lookup y = some .local ∨ (fd.scope.names.lookup y = some .cell ∧ (y, NameKind.cell) ∈ fd.scope.names)
theorem run_fn {fa : Addr} {fd : FuncData} {body : List Stmt} {names : List Str} {tail : List (Str × Value)} {k : Nat} {pb : M Fl} {A' : Around} {j : Nat} {vs : List Value} {Q : V → St → Prop} {X : Ex → St → Prop} {R : Result → Shared → Prop}
  (F : IsFn g fa fd body) (B : Binds g fd names tail k) (hb : RefB g (fnS fd) .fn n pb body) (Y : Ok g S .fn (n + 1) C) (x : Sim g C st s) (hA : Around' C.A A' j) (hj : j ≤ 4)
  (h : fnM names (tail.map fun p => (p.1, er p.2)) k pb (vs.map er) Q X st)
  (hR : ∀ v s', Post g C VR Q v s' → R (.ok (.ret v)) s') (hE : ∀ e s', PostX g C X e s' → R (.error e) s') :
  codeAny (model g.prog g.w) A' (.call (.ref fa) ⟨vs, []⟩) R s := by
 revert h; refine fun oO => exG0_2 oO fun hl h => ?_
 rw [List.length_map] at hl
 refine call_fun Y x hA hj F (fun s X => B.binds vs hl s X) (fun y hy => ?_) hb ?_ hR hE
 ·refine B.kind y.1 ?_
  rcases List.mem_append.mp hy with h | h
  ·exact List.mem_append_left _ ((List.of_mem_zip h).1)
  ·exact List.mem_append_right _ (List.mem_map.mpr ⟨y, h, rfl⟩)
 ·rw [List.map_append, zip_er]; exact h
theorem Around'.refl (A : Around) : Around' A A 0 := ⟨rfl, rfl, rfl, Nat.le_refl _, Nat.le_refl _⟩
theorem callV_fn {fa : Addr} {fd : FuncData} {body : List Stmt} {names : List Str} {tail : List (Str × Value)} {k : Nat} {pb : M Fl} (F : IsFn g fa fd body) (B : Binds g fd names tail k) (hb : RefB g (fnS fd) .fn n pb body) :
  CallV g .fn (n + 1) (.ref fa) (fnM names (tail.map fun p => (p.1, er p.2)) k pb) := fun S C Y st s Q X vs x h =>
 wpAny_call (run_fn F B hb Y x (Around'.refl _) (by omega) h (fun v s' p => p) fun e s' p => p)
structure Glb (g : Gx) (S : Sc) (x : Str) (v : Value) : Prop where
 glob : S.sc.names.lookup x = some .globalImplicit
 dbg : (x == ("__debug__" : Str)) = false
 is : nsIn g.K mainGlobals x = some (some v)
theorem Glb.run {x : Str} {v : Value} {pos : Pos} {Q : Value → Shared → Prop} {E : Value → Shared → Prop} (b : Glb g S x v) (Y : Ok g S md n C) (sx : Sim g C st s) (q : Q v s) : wpAny (model g.prog g.w) C.A (eval (.Name x pos) C.env) Q E s :=
 gl_run b.glob b.dbg b.is Y sx q
theorem ref_CallG {x : Str} {a : Addr} {p : M (List V)} {f : List V → M V} {e : Expr} {r : List Expr} {px pos : Pos} (b : Glb g S x (.ref a)) (hk : keepIn g.K (.ref a) = true) (hp : RefX g S md n p (e :: r)) (hc : CallV g md n (.ref a) f)
  (he : ∀ env, starEach (e :: r) env = (false, eval e env) :: starEach r env := by intro _; rfl) (hpl : ∀ env, (backTo pos (starEach r env)).any (·.1) = false := by intro _; rfl) :
  RefE g S md n (mbind p f) (.Call (.Name x px) (e :: r) [] pos) := fun C Y st s Q X sx h =>
 wpAny_Call_NameR (b.run Y sx (callWith_K (first := []) (Y.here sx).kin hk ((hp pos).use Y sx h fun us vs st1 s1 ev x1 h1 => ⟨(Y.here x1).kin, hc S C Y st1 s1 Q X vs x1 (by rw [ev]; exact h1)⟩) (he _) (hpl _)))
inductive InsH (c : Addr) (nm : Str) (Q : Unit → St → Prop) (st : St) : V → Prop
 | mk {a d : Addr} {es : List (Str × V)} {ep : Nat} : st.μ a = some (.inst c d) → st.μ d = some (.dict es ep) → dget es nm = none → Q () st → InsH c nm Q st (.ref a)
noncomputable def instM (c : Addr) (nm : Str) (a : V) : M Unit := fun Q _ st => InsH c nm Q st a
noncomputable def methB (K : Frag) (c : Addr) (nm : Str) (f : Addr) : Bool := plainGet K c nm && (findIn K (.ref c) nm == some (some (.ref f))) && isFn K (.ref f) && keepIn K (.ref f)
theorem own_meth {c f : Addr} {nm : Str} {a : V} {va : Value} {pl : Sem Bool} {Q : Value × List Value → Shared → Prop} {E : Value → Shared → Prop} {Qm : Unit → St → Prop} {X : Ex → St → Prop} (hB : methB g.K c nm f = true) (Y : Ok g S md n C) (x : Sim g C st s) (ha : er va = a) (h : instM c nm a Qm X st)
  (hq : Qm () st → Q (.ref f, [va]) s) : wpAny (model g.prog g.w) C.A (getMethod va nm pl) Q E s := by
 obtain ⟨h1, h2, hn, h⟩ := h
 rw [er_ref ha] at hq ⊢
 refine exG2_8 (inst_at x h1 h2) fun kvs es' i1 i2 I p kk nd e hs => ?_
 simp only [methB, Bool.and_eq_true, beq_iff_eq] at hB
 refine exG0_2 hB fun r1 b4 => ?_
 obtain ⟨⟨b1, b2⟩, b3⟩ := r1
 refine method_fn (Y.here x).kin I (plainGet_of b1).1 (plainGet_of b1).2 b2 (beq_iff_eq.mp b3) ?_ (hq h)
 show (lookIn nm (dictOf es' _)).map _ = _
 rw [lookIn_dict, getL_none p (dget_real_none e hn)]; rfl
theorem ref_MethOwn {c fa : Addr} {nm : Str} {p : M V} {q : M (List V)} {f : List V → M V} {o e : Expr} {r : List Expr} {apos pos : Pos} {pl : Env → Sem Bool} (hB : methB g.K c nm fa = true)
  (hc : CallV g md n (.ref fa) f) (ho : RefE g S md n p o) (hq : RefX g S md n q (e :: r))
  (he : ∀ env, eval (.Call (.Attribute o nm apos) (e :: r) [] pos) env = (do
   let ov ← eval o env
   standAt apos.atName
   let (f, first) ← holding [ov] (getMethod ov nm (pl env))
   callWith pos f first (backTo pos (starEach (e :: r) env)) []) := by intro _; rfl)
  (he2 : ∀ env, starEach (e :: r) env = (false, eval e env) :: starEach r env := by intro _; rfl) (hpl : ∀ env, (backTo pos (starEach r env)).any (·.1) = false := by intro _; rfl) :
  RefE g S md n (mbind p fun a => mbind (instM c nm a) fun _ => mbind q fun vs => f (a :: vs)) (.Call (.Attribute o nm apos) (e :: r) [] pos) := fun C Y st s Q X sx hp =>
 MethodCall_ (pl := pl C.env) (ho.use Y sx hp fun a va st1 s1 ea x1 h1 => own_meth hB Y x1 ea h1 fun h2 =>
  callWith_K (first := [va]) (Y.here x1).kin (by simp only [methB, Bool.and_eq_true] at hB; exact hB.2) ((hq pos).use Y x1 h2 fun us vs st2 s2 ev x2 h3 => ⟨(Y.here x2).kin, hc S C Y st2 s2 Q X (va :: vs) x2 (by rw [List.map_cons, ea, ev]; exact h3)⟩) (he2 _) (hpl _)) (he _)
theorem ref_MethOwn0 {c fa : Addr} {nm : Str} {p : M V} {f : List V → M V} {o : Expr} {apos pos : Pos} {pl : Env → Sem Bool} (hB : methB g.K c nm fa = true)
  (hc : CallV g md n (.ref fa) f) (ho : RefE g S md n p o)
  (he : ∀ env, eval (.Call (.Attribute o nm apos) [] [] pos) env = (do
   let ov ← eval o env
   standAt apos.atName
   let (f, first) ← holding [ov] (getMethod ov nm (pl env))
   callWith pos f first (backTo pos (starEach [] env)) []) := by intro _; rfl) :
  RefE g S md n (mbind p fun a => mbind (instM c nm a) fun _ => f [a]) (.Call (.Attribute o nm apos) [] [] pos) := fun C Y st s Q X sx hp =>
 MethodCall_ (pl := pl C.env) (ho.use Y sx hp fun a va st1 s1 ea x1 h1 => own_meth hB Y x1 ea h1 fun h2 =>
  callWith_K0 (first := [va]) (Y.here x1).kin (by simp only [methB, Bool.and_eq_true] at hB; exact hB.2) (hc S C Y st1 s1 Q X [va] x1 (by rw [List.map_cons, ea, List.map_nil]; exact h2))) (he _)
noncomputable def makeM (c : Addr) (f : List V → M V) (us : List V) : M V := fun Q X st => ∀ d x, st.μ d = none → st.μ x = none → d ≠ x → f (.ref x :: us) (fun v st' => v = .none ∧ Q (.ref x) st') X ((st.put d (.dict [] 0)).put x (.inst c d))
noncomputable def makeB (K : Frag) (c fi : Addr) : Bool := makesIn K c && (findIn K (.ref c) "__init__" == some (some (.ref fi))) && (typeIn K (.ref fi) == some (.type "function"))
theorem callV_cls {c fi : Addr} {fd : FuncData} {body : List Stmt} {names : List Str} {tail : List (Str × Value)} {k : Nat} {pb : M Fl} (hB : makeB g.K c fi = true) (F : IsFn g fi fd body) (B : Binds g fd names tail k) (hb : RefB g (fnS fd) .fn n pb body) :
  CallV g .fn (n + 1) (.ref c) (makeM c (fnM names (tail.map fun p => (p.1, er p.2)) k pb)) := by
 intro S C Y st s Q X vs x h
 simp only [makeB, Bool.and_eq_true, beq_iff_eq] at hB
 refine exG0_2 hB fun r2 b3 => ?_
 obtain ⟨b1, b2⟩ := r2
 have X' := (Y.here x).kin
 obtain ⟨hp, gn, dr, tk, os⟩ := s
 refine wpAny_call (make_core (makes_of X' b1) (looks_findIn X' b2) (fun self => bind_fn X' self b3) (.inl rfl) ?_)
 have x1 : Sim g C (st.put hp.objs.size (.dict [] 0)) ⟨hp.push emptyDict, gn, dr, tk, os⟩ := x.push (tk := tk) (o := .dict [] 0) (ob := emptyDict) ⟨Y.low x, [], ⟨_, #[], Heap.get?_push_size _ rfl, ⟨rfl, rfl, rfl⟩, rfl, fun e he => by simp at he, .nil, by simp⟩, rfl⟩
 have x2 : Sim g C ((st.put hp.objs.size (.dict [] 0)).put (hp.push emptyDict).objs.size (.inst c hp.objs.size)) ⟨(hp.push emptyDict).push (instObj c hp.objs.size), gn, dr, tk, os⟩ :=
  x1.push (tk := tk) (o := .inst c hp.objs.size) (ob := instObj c hp.objs.size) (Heap.get?_push_size _ rfl)
 rw [Heap.size_push] at x2
 refine run_fn (A' := C.A.under (.builtin "type.__call__" ⟨.ref c :: vs, []⟩)) (j := 1) (vs := .ref (hp.objs.size + 1) :: vs) F B hb Y x2 ⟨rfl, ?_, rfl, Nat.le_refl _, ?_⟩ (by omega)
  (h hp.objs.size (hp.objs.size + 1) x.fresh (x.mu_none (Heap.get?_none_of_le (Nat.le_succ _))) (Nat.ne_of_lt (Nat.lt_succ_self _))) (fun v s' p => ?_) fun e s' p => p
 ·show pushGuards (Code.guards (.builtin "type.__call__" ⟨.ref c :: vs, []⟩)) C.A.guards = _
  rw [show Code.guards (.builtin "type.__call__" ⟨.ref c :: vs, []⟩) = [] from by
   unfold Code.guards
   rw [if_neg]
   show ¬ guardIds.contains "type.__call__" = true
   decide]
  rfl
 ·show C.A.units + _ ≤ _
  exact Nat.le_refl _
 ·refine exG2_4 p fun u st' eu x' r3 q => ?_
  obtain rfl := r3
  exact ⟨er_none eu, _, _, rfl, x', q⟩
end Kk
end
section
namespace Kk
variable {g : Gx} {S : Sc} {md : Md} {n : Nat} {C : Cx} {st st' : St} {s : Shared} {h' : Heap} {tk : Nat} {α β γ δ : Type}
noncomputable def Cx.in1 (C : Cx) : Cx := { C with A := C.A.in1 }
theorem in1_ok (Y : Ok g S md (n + 1) C) : Ok g S md n C.in1 where
 stat := Y.stat
 scope := Y.scope
 kind := Y.kind
 glob := Y.glob
 blt := Y.blt
 cells := Y.cells
 ownL := Y.ownL
 baseL := Y.baseL
 frL := Y.frL
 frB := Y.frB
 ownN := Y.ownN
 inj := Y.inj
 code := Y.code
 clo := Y.clo
 hnd := Y.hnd
 guards := Y.guards
 frames := Y.frames
 outs := Y.outs
 depth := by have := Y.depth; show C.A.depth + 10 * n ≤ 900; omega
 units := by have := Y.units; show C.A.units + 1 + 10 * n ≤ 9000; omega
theorem in1_sim (x : Sim g C st s) : Sim g C.in1 st s := ⟨x.gens, x.drawn, x.os, x.base, x.vars, x.cells, x.frs, x.objs⟩
theorem in1_back (x : Sim g C.in1 st s) : Sim g C st s := ⟨x.gens, x.drawn, x.os, x.base, x.vars, x.cells, x.frs, x.objs⟩
theorem in1_postX {X : Ex → St → Prop} {e : Value} (h : PostX g C.in1 X e s) : PostX g C X e s := by
 refine exG3_4 h fun k st1 fl x1 hX hfl R => ?_
 exact ⟨k, st1, fl, in1_back x1, hX, hfl, R⟩
theorem Ok.less {m : Nat} (Y : Ok g S md n C) (h : m ≤ n) : Ok g S md m C where
 stat := Y.stat
 scope := Y.scope
 kind := Y.kind
 glob := Y.glob
 blt := Y.blt
 cells := Y.cells
 ownL := Y.ownL
 baseL := Y.baseL
 frL := Y.frL
 frB := Y.frB
 ownN := Y.ownN
 inj := Y.inj
 code := Y.code
 clo := Y.clo
 hnd := Y.hnd
 guards := Y.guards
 frames := Y.frames
 outs := Y.outs
 depth := by have := Y.depth; omega
 units := by have := Y.units; omega
inductive LowH (c : Addr) (f : List V → M V) (Q : Int → St → Prop) (X : Ex → St → Prop) (st : St) : V → Prop
 | mk {a d : Addr} {es : List (Str × V)} {ep : Nat} : st.μ a = some (.inst c d) → st.μ d = some (.dict es ep) → f [.ref a] (fun r st' => ∃ i, r = .int i ∧ (0 ≤ i ∧ i < 2 ^ 62) ∧ Q i st') X st → LowH c f Q X st (.ref a)
noncomputable def lenOwnM (c : Addr) (f : List V → M V) (v : V) : M Int := fun Q X st => LowH c f Q X st v
noncomputable def lenB (K : Frag) (c f : Addr) : Bool := (findIn K (.ref c) "__len__" == some (some (.ref f))) && (typeIn K (.ref f) == some (.type "function"))
theorem len_body {c fa : Addr} {f : List V → M V} {v : V} {va : Value} {Q : Int → St → Prop} {X : Ex → St → Prop} (hB : lenB g.K c fa = true) (hc : CallV g .fn n (.ref fa) f) (Y : Ok g S .fn (n + 1) C) (x : Sim g C st s) (ha : er va = v) (h : lenOwnM c f v Q X st) :
  wpAny (model g.prog g.w) C.A.in1 (Builtin.«len» ⟨[va], []⟩) (fun fin s' => ∃ i t st', fin = .done (.ret (.int i t)) ∧ Sim g C st' s' ∧ Q i st') (PostX g C X) s := by
 induction h with
 | @mk a d es ep h1 h2 h =>
  rw [er_ref ha]
  refine exG2_8 (inst_at x h1 h2) fun kvs es' i1 i2 I p kk nd e hs => ?_
  simp only [lenB, Bool.and_eq_true, beq_iff_eq] at hB
  unfold Builtin.«len»
  refine wpAny_bind (m := oneArg "len" _) (wpAny_pure ?_)
  refine wpAny_bind (m := callSpecial? (.ref a) (Str.ofString "__len__")) (special_fn (Y.here x).kin I hB.1 hB.2 ?_)
  refine wpAny_mono (hc S C.in1 (in1_ok Y) st s _ X [.ref a] (in1_sim x) h) (fun r s' hr => ?_) fun e s' he => in1_postX he
  refine exG2_3 hr fun u st' eu x' r1 => ?_
  refine exG1_3 r1 fun i r2 r3 q => ?_
  obtain rfl := r2
  obtain ⟨h0, h1⟩ := r3
  obtain ⟨t, rfl⟩ := er_int eu
  refine wpAny_bind (wpAny_holding (wpAny_pure ?_))
  refine wpAny_bind (wpAny_letGo ?_)
  show wpAny _ _ (if i < 0 then _ else _) _ _ _
  rw [if_neg (by omega)]
  show wpAny _ _ (if i ≥ 2 ^ 63 then _ else _) _ _ _
  rw [if_neg (by omega)]
  exact wpAny_bind (wpAny_mkInt (wpAny_pure ⟨i, _, st', rfl, (in1_back x').tick, q⟩))
noncomputable def truB (K : Frag) (c f : Addr) : Bool := lenB K c f && (findIn K (.ref c) "__bool__" == some none)
theorem truth_own {c fa : Addr} {f : List V → M V} {v : V} {va : Value} {Q : Bool → St → Prop} {X : Ex → St → Prop} (hB : truB g.K c fa = true) (hc : CallV g .fn n (.ref fa) f) (Y : Ok g S .fn (n + 2) C) (x : Sim g C st s) (ha : er va = v) (h : lenOwnM c f v (fun i st' => Q (i != 0) st') X st) :
  wpAny (model g.prog g.w) C.A (truthy va) (Post g C (fun a b => b = a) Q) (PostX g C X) s := by
 simp only [truB, Bool.and_eq_true, beq_iff_eq] at hB
 refine exG0_2 hB fun hL hBo => ?_
 have hL0 := hL
 simp only [lenB, Bool.and_eq_true, beq_iff_eq] at hL0
 have key : wpAny (model g.prog g.w) C.A (runValue (.builtin "len" ⟨[va], []⟩)) (fun r s' => ∃ i t st', r = .int i t ∧ Sim g C st' s' ∧ Q (i != 0) st') (PostX g C X) s := by
  refine wpAny_runValue (codeAny_builtin entry_len ?_)
  rw [Around.under_plainId plain_len _]
  refine wpAny_mono (len_body (Q := fun i st' => Q (i != 0) st') hL hc (Y.less (Nat.le_succ _)) x ha h) (fun fin s' z0 => ?_) fun _ _ e => e
  refine exG3_3 z0 fun i t st' e x' q => ?_
  subst e
  exact ⟨i, t, st', rfl, x', q⟩
 obtain @⟨a, d, es, ep, h1, h2, h⟩ := id h
 obtain rfl := er_ref ha
 refine exG2_8 (inst_at x h1 h2) fun kvs es' i1 i2 I p kk nd e hs => ?_
 have X' := (Y.here x).kin
 unfold truthy
 refine wpAny_bind (m := callSpecial? (.ref a) (Str.ofString "__bool__")) (wpAny_bind (wpAny_bind (I.type.here ((looks_findIn X' hBo).here (wpAny_pure ?_)))))
 refine wpAny_bind (wpAny_bind (I.type.here ((looks_findIn X' hL0.1).here ?_)))
 show wpAny _ _ (if (some (Value.ref fa)).isNone = true then _ else _) _ _ _
 rw [if_neg (by simp)]
 refine wpAny_bind (wpAny_mono key (fun r s' z0 => ?_) fun _ _ e => e)
 refine exG3_3 z0 fun i t st' e x' q => ?_
 subst e
 exact wpAny_pure ⟨_, st', rfl, x', q⟩
theorem ref_T_own {c fa : Addr} {f : List V → M V} {p : M V} {e : Expr} (hB : truB g.K c fa = true) (hc : CallV g .fn n (.ref fa) f) (h : RefE g S .fn (n + 2) p e) (he : ∀ env whole, isTrue e env whole = (do let v ← whole; standAt e.pos; holding [v] (truthy v)) := by intro _ _; rfl) :
  RefT g S .fn (n + 2) (mbind p fun v Q X st => lenOwnM c f v (fun i st' => Q (i != 0) st') X st) e := fun C Y st s Q X x hp =>
 wpAny_isTrue_value (h.use Y x hp fun a va st1 s1 ha x1 h1 => truth_own hB hc Y x1 ha h1) (he _ _)
theorem ref_stuckS {e : Stmt} : RefS g S md n mstuck e := fun C Y st s Q X x h => h.elim
theorem ref_stuckB {e : List Stmt} : RefB g S md n mstuck e := fun C Y st s Q X x h => h.elim
end Kk
end
section
namespace Kk
variable {g : Gx} {S : Sc} {md : Md} {n : Nat} {C : Cx} {st st' : St} {s : Shared} {h' : Heap} {tk : Nat} {α β γ δ : Type}
section
variable {prog : Program} {w : World} {A : Around} {E : Value → Shared → Prop}
theorem pyHash_none {Q : Int → Shared → Prop} (h : Q 0xFCA86420 { s with toks := s.toks + 1 }) : wpAny (model prog w) A (pyHash .none) Q E s := by
 unfold pyHash
 refine wpAny_bind ?_
 rw [cRoomFor, if_neg (by decide)]; refine wpAny_pure ?_
 refine wpAny_bind (wpAny_specialOf (typeIs_none s) PySem.F.slot_NoneType_hash.lookup ?_)
 show wpAny _ _ (if (some (Value.builtin "NoneType.__hash__") == some Value.none) = true then _ else _) Q E s
 rw [if_neg (by decide)]
 refine wpAny_bind (wpAny_specialOf (typeIs_none s) PySem.F.slot_NoneType_hash.lookup ?_)
 show wpAny _ _ (callSpecialIfBoundUnlessNone? .none "__hash__" _ >>= _) Q E s
 refine wpAny_bind (wpAny_callSpecialIfBoundUnlessNone?_slot (typeIs_none s) PySem.F.slot_NoneType_hash
  (wpAny_call_entry PySem.F.slot_NoneType_hash (typeIs_none s) PySem.F.entry_NoneType_hash
   (show wpAny _ _ (do ret (← mkInt 0xFCA86420)) _ _ s from wpAny_ret_mkInt ?_) (PySem.F.args_NoneType_hash_1 _)))
 show wpAny _ _ (if (decide (-(2 : Int) ^ 63 ≤ 0xFCA86420) && decide ((0xFCA86420 : Int) < 2 ^ 63)) = true then _ else _) Q E _
 rw [if_pos (by decide)]
 exact wpAny_pure h
theorem truthDropped_bool {b : Bool} {Q : Bool → Shared → Prop} (h : Q b s) : wpAny (model prog w) A (truthOfDropped (.bool b)) Q E s := by
 unfold truthOfDropped; exact wpAny_truthy_bool h
theorem eqBool_none_str {x : Str} {t : Tok} {Q : Bool → Shared → Prop} (h : Q false s) : wpAny (model prog w) A (PySem.eqBool .none (.str x t)) Q E s := by
 unfold PySem.eqBool
 refine wpAny_holding ?_
 rw [if_neg (by simp)]
 refine wpAny_bind ?_
 have := EqNone.eq_none_str (prog := prog) (w := w) (A := A) (E := E) (s := s) (a := x) (t := t) (Q := fun v s' => wpAny (model prog w) A (truthOfDropped v) Q E s') (truthDropped_bool h)
 exact this
theorem eqBool_str_none {x : Str} {t : Tok} {Q : Bool → Shared → Prop} (h : Q false s) : wpAny (model prog w) A (PySem.eqBool (.str x t) .none) Q E s := by
 unfold PySem.eqBool
 refine wpAny_holding ?_
 rw [if_neg (by simp)]
 refine wpAny_bind ?_
 have := EqNone.eq_str_none (prog := prog) (w := w) (A := A) (E := E) (s := s) (a := x) (t := t) (Q := fun v s' => wpAny (model prog w) A (truthOfDropped v) Q E s') (truthDropped_bool h)
 exact this
theorem eqBool_none_none {Q : Bool → Shared → Prop} (h : Q true s) : wpAny (model prog w) A (PySem.eqBool .none .none) Q E s := by
 unfold PySem.eqBool
 refine wpAny_holding ?_
 rw [if_pos (by simp)]
 exact wpAny_bind (wpAny_rule (wpAny_pure h))
end
noncomputable def isOpt : Option Str → Value → Bool
 | none, .none => true
 | some x, v => Value.isStrOf x v
 | _, _ => false
theorem isOpt_shape {k : Option Str} {v : Value} (h : isOpt k v = true) : (k = none ∧ v = .none) ∨ ∃ x t, k = some x ∧ v = .str x t := by
 induction k with
 | none => induction v <;> first | exact .inl ⟨rfl, rfl⟩ | k_call_by "c" h
 | some x => obtain ⟨t, rfl⟩ := Value.isStrOf_shape h; exact .inr ⟨x, t, rfl, rfl⟩
noncomputable def optKind (prog : Program) (w : World) : KeyKind prog w (Option Str) where
 is := isOpt
 hash := fun k => match k with | none => 0xFCA86420 | some x => hashStr w x
 inj := fun v a b ha hb => by
  rcases isOpt_shape ha with ⟨rfl, rfl⟩ | ⟨x, t, rfl, rfl⟩ <;> rcases isOpt_shape hb with ⟨rfl, e⟩ | ⟨y, u, rfl, e⟩
  ·rfl
  ·k_call_by "c" e
  ·k_call_by "c" e
  ·injection e with e; rw [e]
 byValue := fun k v h => by rcases isOpt_shape h with ⟨rfl, rfl⟩ | ⟨x, t, rfl, rfl⟩ <;> rfl
 pyHash := fun hv h => by
  rcases isOpt_shape hv with ⟨rfl, rfl⟩ | ⟨x, t, rfl, rfl⟩
  ·exact pyHash_none h
  ·exact wpAny_pyHash_str h
 eqBool := fun hu hv h => by
  rcases isOpt_shape hu with ⟨rfl, rfl⟩ | ⟨x, t, rfl, rfl⟩ <;> rcases isOpt_shape hv with ⟨rfl, rfl⟩ | ⟨y, u, rfl, rfl⟩
  ·exact eqBool_none_none (by simpa using h)
  ·exact eqBool_none_str (by simpa using h)
  ·exact eqBool_str_none (by simpa using h)
  ·exact wpAny_eqBool_str (by simpa using h)
 «strs» := fun k x t v h => by
  rcases isOpt_shape h with ⟨rfl, e⟩ | ⟨y, u, rfl, e⟩
  ·k_call_by "c" e
  ·injection e with e
   subst e
   induction v <;> rfl
theorem opt_mapOf {h : Heap} {d : Addr} {kvs : List (Str × Value)} (hm : h.DictOf (PySem.strKind g.prog g.w) d kvs) : h.MapOf (optKind g.prog g.w) d (fun k => k.bind fun x => valueAt kvs x) := by
 refine exG3_5 hm.mapOf fun o es ep ho hc hd hk hf => ?_
 refine ⟨o, es, ep, ho, hc, hd, fun e he => ?_, fun k => ?_⟩
 ·refine exG1_2 (hk e he) fun x h1 h2 => ?_
  exact ⟨some x, h1, h2⟩
 ·induction k with
  | some x => exact hf x
  | none =>
   show findBy isOpt es none = none
   unfold findBy
   rw [Option.map_eq_none_iff, Array.find?_eq_none]
   intro e he
   refine exG1_2 (hk e he) fun x h1 h2 => ?_
   refine exG1_1 (Value.isStrOf_shape h1) fun t ht => ?_
   rw [ht]
   simp [isOpt]
noncomputable def getM2 (vs : List V) : M V := fun Q _ st => GetH Q st vs
theorem call_get2 : CallV g md n (.builtin "dict.get") getM2 := by
 intro S C Y st s Q X vs x h
 replace h : GetH Q st (vs.map er) := h
 generalize e0 : vs.map er = us at h
 induction h with
 | one hm h =>
  refine exG2_3 (map2 e0) fun va vv r1 e1 e2 => ?_
  obtain rfl := r1
  rw [er_ref e1]
  obtain ⟨t, rfl⟩ := er_str e2
  refine exG0_2 (dict_in x hm) fun hs r2 => ?_
  refine exG1_2 r2 fun kvs hd e => ?_
  exact call_meetsIn PySem.F.slot_dict_get hd.dictOf.typeIs PySem.F.entry_dict_get (PySem.F.args_dict_get_2 _ _) (meets_dict_get (PySem.strKind g.prog g.w) _ (isStrOf_self _ t) hs) ⟨_, hd.dictOf.mapOf, ⟨_, st, dget_getD e _ .none, x.tick, h⟩⟩
 | two hm h =>
  refine exG3_4 (map3 e0) fun va vv vd r3 e1 e2 e3 => ?_
  obtain rfl := r3
  rw [er_ref e1]
  obtain ⟨t, rfl⟩ := er_str e2
  refine exG0_2 (dict_in x hm) fun hs r4 => ?_
  refine exG1_2 r4 fun kvs hd e => ?_
  exact call_meetsIn PySem.F.slot_dict_get hd.dictOf.typeIs PySem.F.entry_dict_get (PySem.F.args_dict_get_3 _ _ _) (meets_dict_get_default (PySem.strKind g.prog g.w) _ (isStrOf_self _ t) hs vd) ⟨_, hd.dictOf.mapOf, ⟨_, st, (dget_getD e _ vd).trans (by rw [e3]), x.tick, h⟩⟩
 | no hm h =>
  refine exG3_4 (map3 e0) fun va vv vd r5 e1 e2 e3 => ?_
  obtain rfl := r5
  rw [er_ref e1, er_none e2]
  refine exG0_2 (dict_in x hm) fun hs r6 => ?_
  refine exG1_2 r6 fun kvs hd e => ?_
  exact call_meetsIn PySem.F.slot_dict_get hd.dictOf.typeIs PySem.F.entry_dict_get (PySem.F.args_dict_get_3 _ _ _) (meets_dict_get_default (optKind g.prog g.w) _ (k := none) rfl hs vd) ⟨_, opt_mapOf hd.dictOf, ⟨_, st, e3, x.tick, h⟩⟩
theorem ref_T_InEmpty {x : Str} {a : Addr} {ep : Nat} {p : M V} {l : Expr} {px pos : Pos} (b : Glb g S x (.ref a)) (hl : g.K.lookup a = some ⟨.type "dict", none, .dict #[] ep, #[]⟩) (ha : (a == sysModules) = false) (h : RefE g S md n p l) :
  RefT g S md n (mbind p fun v Q _ st => (∃ k, v = .str k) ∧ Q false st) (.Compare l [.In] [.Name x px] pos) := fun C Y st s Q X sx hp =>
 wpAny_isTrue_Compare1 (h.use Y sx hp fun v va st1 s1 ev x1 h1 => b.run Y x1 (by
  obtain ⟨⟨k, rfl⟩, h1⟩ := h1
  obtain ⟨t, rfl⟩ := er_str ev
  have hd : s1.heap.DictOf (PySem.strKind g.prog g.w) a [] := ⟨_, #[], ep, (Y.here x1).kin _ _ hl, ⟨rfl, rfl, rfl⟩, rfl, fun e he => by simp at he, .nil, by simp⟩
  exact wpAny_in_of (isStrOf_self k t) ha hd.mapOf (wpAny_truthy_bool ⟨_, st1, rfl, x1.tick, h1⟩))) rfl
inductive FmtH (Q : Str → St → Prop) (st : St) : V → Prop
 | str {x : Str} : x.length ≤ 1000 → Q x st → FmtH Q st (.str x)
 | int {i : Int} : i.natAbs ≤ 1000 → (Str.ofString (toString i)).length ≤ 1000 → Q (Str.ofString (toString i)) st → FmtH Q st (.int i)
noncomputable def fmtM (v : V) : M Str := fun Q _ st => FmtH Q st v
theorem log_small {i : Int} (h : i.natAbs ≤ 1000) : i.natAbs.log2 < 1920 := by
 by_cases h0 : i.natAbs = 0
 ·rw [h0]; decide
 ·have : i.natAbs.log2 < 10 := (Nat.log2_lt h0).mpr (by omega)
  omega
theorem fmt_run {v : V} {va : Value} {Q : Str → St → Prop} {X : Ex → St → Prop} {E : Value → Shared → Prop} (x : Sim g C st s) (ha : er va = v) (h : fmtM v Q X st) :
  wpAny (model g.prog g.w) C.A (formatField va Str.empty) (fun r s' => ∃ y t, r = .str y t ∧ y.length ≤ 1000 ∧ Sim g C st s' ∧ Q y st) E s := by
 induction h with
 | str z h => obtain ⟨t, rfl⟩ := er_str ha; exact wpAny_formatField_str ⟨_, _, rfl, z, x, h⟩ ⟨_, _, rfl, z, x.tick, h⟩
 | int z z2 h => obtain ⟨t, rfl⟩ := er_int ha; exact wpAny_formatField_int (log_small z) ⟨_, _, rfl, z2, x.tick, h⟩
theorem cat_len (a b : Str) : (a ++ b).length = a.length + b.length := PyProof.Rows.len_cat a b
theorem ref_F2 {p q : M V} {e1 e2 : Expr} {p1 p2 pos : Pos} (h1 : RefE g S md n p e1) (h2 : RefE g S md n q e2) :
  RefE g S md n (mbind p fun a => mbind (fmtM a) fun x => mbind q fun b => mbind (fmtM b) fun y => mret (.str (x ++ y))) (.JoinedStr [.FormattedValue e1 (-1) none p1, .FormattedValue e2 (-1) none p2] pos) := fun C Y st s Q X sx hp =>
 wpAny_JoinedStr (wpAny_FormattedValue_plain (h1.use Y sx hp fun a va st1 s1 ea x1 q1 => wpAny_mono (fmt_run (E := PostX g C X) x1 ea q1) (fun r s2 ⟨x, t, er', zx, x2, q2⟩ => ⟨x, t, er', by
   rw [cat_len]; exact Nat.le_trans (by show 0 + x.length ≤ 1000; omega) sizeL, wpAny_FormattedValue_plain (h2.use Y x2 q2 fun b vb st3 s3 eb x3 q3 => wpAny_mono (fmt_run (E := PostX g C X) x3 eb q3) (fun r s4 ⟨y, u, er4, zy, x4, q4⟩ => by
   have hlen : (Str.empty ++ x ++ y).length ≤ sizeLine := by
    rw [cat_len, cat_len, sizeLine_eq]; show 0 + x.length + y.length ≤ _; omega
   refine ⟨y, u, er4, hlen, hlen, ?_⟩
   rw [KPc.empty_app]
   exact ⟨_, _, rfl, x4.tick, q4⟩) fun _ _ e => e)⟩) fun _ _ e => e))
end Kk
end
section
open PySem PySem.W PyProof.Rows PySem.Spec PySem.Calls PySem.Builtin
namespace Kk
variable {g : Gx} {S : Sc} {md : Md} {n : Nat} {C : Cx} {st st' : St} {s : Shared} {h' : Heap} {tk : Nat} {α β γ δ : Type}
set_option maxHeartbeats 1000000 in
set_option maxRecDepth 100000 in
theorem strs_show (ys : List Str) : PyData.showableAll (ys.map .str) = true ∧ PyData.hasDictAll (ys.map .str) = false ∧ PyData.depthAll (ys.map .str) = 0 := by
 induction ys with
 | nil => exact ⟨rfl, rfl, rfl⟩
 | cons y r ih =>
  refine exG0_3 ih fun a b c => ?_
  refine ⟨?_, ?_, ?_⟩
  ·simp only [List.map_cons, PyData.showableAll, PyData.showable, a, Bool.and_true]
  ·simp only [List.map_cons, PyData.hasDictAll, PyData.hasDict, b, Bool.or_false]
  ·simp only [List.map_cons, PyData.depthAll, PyData.depth, c]; rfl
theorem rd_strs {μ : Addr → Option O} : ∀ ys : List Str, RdAll μ (ys.map V.str) (ys.map .str)
 | [] => .nil
 | y :: r => .cons (.str y) (rd_strs r)
noncomputable def arrowText (y : Str) (ys : List Str) : Str := y ++ (" -> " : Str) ++ (PyData.list (ys.map .str)).shown
end Kk
end
section
open PySem PySem.W PyProof.Rows PySem.Spec PySem.Calls PySem.Builtin
namespace Kk
namespace Fk
noncomputable def bound : Obj := { cls := .type "builtin_function_or_method", data := .fields #[.builtin "dict.fromkeys", .type "dict"] }
theorem type_fk : typeOf (.builtin "dict.fromkeys") = pure (.type "classmethod_descriptor") := by show builtinType _ = _; rw [builtinType_eq_fast]; kernel_rfl
theorem entry_fk : entryFor table "dict.fromkeys" = some Builtin.«dict.fromkeys» := entryFor_of_tree (by kernel_rfl)
theorem quiet_fk {as : Args} : (Code.builtin "dict.fromkeys" as).quiet = true := Code.quiet_builtin _ (by decide +kernel)
theorem type_dict : isType (.type "dict") = pure true := by first | rfl | kernel_rfl | (unfold isType; rw [isSubtype_type]; kernel_rfl)
theorem sub_dict : isSubtype (.type "dict") (.type "dict") = pure true := PySem.F.kt_sub_dict
theorem owner_fk : (kfb_private% "ownerAndName") "dict.fromkeys" = ("dict", "fromkeys") := by first | decide +kernel | kernel_rfl
theorem typeCall_dict_0 : checkTypeCall "dict" ⟨[], []⟩ = pure () := by kernel_rfl
theorem newCall_dict_0 : checkBuiltinCall "dict.__new__" ⟨[.type "dict"], []⟩ = pure () := by kernel_rfl
theorem plain_fk : plainId "dict.fromkeys" = true := by decide +kernel
section
variable {prog : Program} {w : World} {M : Model} {A : Around} {E : Value → Shared → Prop} {s : Shared}
theorem run_get {P : PySem.Fin → Shared → Prop} (h : P (.done (.ret (.ref s.heap.objs.size))) { s with heap := s.heap.push bound }) :
  wpAny M A (Builtin.«classmethod_descriptor.__get__» ⟨[.builtin "dict.fromkeys", .none, .type "dict"], []⟩) P E s := by
 unfold Builtin.«classmethod_descriptor.__get__»
 refine wpAny_bind (wpAny_of_eq (a := (.builtin "dict.fromkeys", none, some (.type "dict"))) (by first | rfl | kernel_rfl) ?_)
 simp only [owner_fk]
 refine wpAny_bind (wpAny_of_eq (a := .type "dict") rfl ?_)
 refine wpAny_bind (wpAny_of_eq (a := true) type_dict ?_)
 refine KFB.if_not rfl ?_
 refine wpAny_bind (wpAny_of_eq (a := true) sub_dict ?_)
 refine KFB.if_not rfl ?_
 exact wpAny_bind (wpAny_newObj_type (wpAny_pure h))
theorem getm {K : Frag} {pl : Sem Bool} {Q : Value × List Value → Shared → Prop} (X : K.In s.heap)
  (e : findCls K (.type "dict") (.type "type") (PySem.Str.ofString "fromkeys") = some (.get (.builtin "classmethod_descriptor.__get__") (.builtin "dict.fromkeys") .none (.type "dict")))
  (h : Q (.ref s.heap.objs.size, []) { s with heap := s.heap.push bound, toks := s.toks + 1 }) :
  wpAny (model prog w) A (getMethod (.type "dict") (PySem.Str.ofString "fromkeys") pl) Q E s := by
 have hstub : opaqueClassAbove (.type "dict") = pure none := by unfold opaqueClassAbove; dsimp only; rw [show Manifest.isStub "dict" = false by decide +kernel]; rfl
 have ht : typeOf (.type "dict") = pure (.type "type") := by first | rfl | kernel_rfl
 have L0 : Looks (model prog w) s.heap (typeOf (.type "dict")) (.type "type") := Looks.of_pure ht
 have hg : findIn K (.type "type") "__getattribute__" = some (some (.builtin "type.__getattribute__")) := type_tga
 unfold getMethod specialOf
 refine wpAny_bind (wpAny_bind (L0.here ((looks_findIn X hg).here ?_)))
 dsimp only
 rw [if_pos canon_tga]
 refine wpAny_bind (wpAny_mono (Q := fun v => Q (v, [])) (E := E) ?_ (fun _ _ z => wpAny_pure z) fun _ _ z => z)
 have LO : Looks (model prog w) s.heap (opaqueClassAbove (.type "dict")) none := Looks.of_pure hstub
 refine cls_open X LO L0 hg (looks_hook X (r := none) (by rfl)) (by show subIn K _ _ = _; rfl) e ?_
 show wpAny _ _ (holding [.builtin "dict.fromkeys"] (call (.builtin "classmethod_descriptor.__get__") [.builtin "dict.fromkeys", .none, .type "dict"]) >>= fun v => ret v) _ _ _
 refine wpAny_bind (wpAny_holding (wpAny_call_entry KFB.slot_get type_fk KFB.entry_get (run_get ⟨_, rfl, wpAny_pure (wpAny_pure h)⟩) (KFB.args_get _ _ _)))
noncomputable def StandsAt (x : Addr) (h : Heap) : Prop := h.get? x = some bound
theorem callWith_fields {pos : Pos} {u : Addr} {first : List Value} {args : List (Bool × Sem Value)} {Q : Value → Shared → Prop} (hplain : args.any (·.1) = false)
  (h : wpAny M A (evalArgs (.ref u) true args []) (fun x s₁ => StandsAt u s₁.heap ∧ wpAny M A (call (.ref u) (first ++ x.pos) x.kw) Q E s₁) E s) : wpAny M A (callWith pos (.ref u) first args []) Q E s := by
 unfold callWith
 refine wpAny_bind (wpAny_holding (wpAny_mono h (fun x s₁ h₁ => wpAny_bind (wpAny_standAt ?_)) fun _ _ x => x))
 refine exG0_2 h₁ fun ho hcall => ?_
 rw [hplain]
 refine wpAny_bind (m := keeperOf (.ref u)) ?_
 unfold keeperOf
 refine wpAny_bind (wpAny_load ho ?_)
 simp only [bound, show (Value.type "builtin_function_or_method" != Value.type "method") = true by decide, show (Value.type "builtin_function_or_method" == Value.type "builtin_function_or_method" || Value.type "builtin_function_or_method" == Value.type "method-wrapper") = true by decide, if_true]
 refine wpAny_pure ?_
 exact wpAny_bind (wpAny_mono hcall (fun r s₂ hr => wpAny_bind (wpAny_holding (wpAny_point (wpAny_pure hr)))) fun _ _ x => x)
theorem code_dict_new {Q₁ : Value → Shared → Prop} (h : Q₁ (.ref s.heap.objs.size) { s with heap := s.heap.push { cls := .type "dict", data := .dict #[] } }) :
  codeAny (model prog w) A (.call (.builtin "dict.__new__") ⟨[.type "dict"], []⟩) (wants Q₁ E) s := by
 refine codeAny_call_builtin PySem.F.kt_plain_dict_new PySem.F.kt_entry_dict_new (wpAny_of_eq newCall_dict_0 ?_)
 have hsub := PySem.F.kt_sub_dict
 have hmro := PySem.F.kt_mro_dict
 obtain ⟨hp, g, d, tk, os⟩ := s
 unfold Builtin.«dict.__new__»
 wp_walk
 exact h
variable {K : Type} [DecidableEq K] {knd : KeyKind prog w K}
theorem call_dict0 {Q : Value → Shared → Prop} (h : Q (.ref s.heap.objs.size) { s with heap := s.heap.push { cls := .type "dict", data := .dict #[] } }) :
  wpAny (model prog w) A (call (.type "dict") []) Q E s := by
 refine callType_codes (Q₁ := fun obj s₁ => obj = .ref s.heap.objs.size ∧ s₁ = { s with heap := s.heap.push { cls := .type "dict", data := .dict #[] } }) PySem.F.kt_called_dict typeCall_dict_0 PySem.F.entry_dict_init (code_dict_new ⟨rfl, rfl⟩) ?_
 intro obj s₁ q0q
 obtain ⟨rfl, rfl⟩ := q0q
 have hT : ({ s with heap := s.heap.push { cls := .type "dict", data := .dict #[] } } : Shared).TypeIs (.ref s.heap.objs.size) "dict" := ⟨_, Heap.get?_push_size _ rfl, rfl⟩
 refine ⟨hT, PySem.F.args_dict_init_1 _, ?_⟩
 unfold Builtin.«dict.__init__»
 refine wpAny_bind ?_
 unfold Builtin.Dict.selfAndRest
 refine wpAny_bind (wpAny_notOrdered_dict hT ?_)
 show wpAny _ _ (pure (s.heap.objs.size, [])) _ _ _
 refine wpAny_pure ?_
 exact wpAny_pure ⟨rfl, h⟩
theorem setHashed_pairs {d : Addr} {kvs : List (K × Value)} {k : K} {key v : Value} {Q : Unit → Shared → Prop} (hkey : knd.is k key = true) (hm : s.heap.DictOf knd d kvs)
  (hQ : ∀ h', h'.DictOf knd d (stored kvs k v) → Heap.SameBut d s.heap h' → Q () { s with heap := h' })
  (hsz : kvs.length ≤ sizeLine) :
  wpAny (model prog w) A (dictSetHashed d key (knd.hash k) v) Q E s := by
 refine exG3_6 hm fun o es ep ho hc hd hk hp hn => ?_
 have hes : es.size ≤ sizeLine := by have e1 := hp.length; have e2 : es.toList.length = es.size := (by simp); omega
 unfold dictSetHashed
 try with_reducible refine wpAny_holding ?_
 refine wpAny_bind (wpAny_dictFind_of hkey ho hd hk ?_)
 have hidx : (es.findIdx? fun e => knd.is k e.key) = kvs.findIdx? fun kv => decide (kv.1 = k) := by
  rw [← hp.findIdx k]; obtain ⟨l⟩ := es; simp
 cases hi : es.findIdx? fun e => knd.is k e.key with
 | some i =>
  refine wpAny_bind (wpAny_rule (wpAny_bind (wpAny_updateDict ho hd (wpAny_point (hQ _ ⟨_, _, ep, Heap.get?_update_self _ ho (Obj.isFreed_of_dict (Obj.data_mapDict hd _)),
   hc.mapDict _, Obj.data_mapDict hd _, hk.modify _ _, ?_, ?_⟩ (Heap.SameBut.update ..))))))
  ·rw [stored, if_pos (any_of_findIdx_some (hidx ▸ hi))]
   have hl : (es.toList.findIdx? fun e => knd.is k e.key) = some i := by rw [← hi]; obtain ⟨l⟩ := es; simp
   have := hp.modify hn hl v
   obtain ⟨l⟩ := es
   simpa using this
  ·rw [stored, if_pos (any_of_findIdx_some (hidx ▸ hi)), keys_map_store]; exact hn
 | none =>
  have hnot : k ∉ kvs.map (·.1) := not_mem_of_findIdx_none (hidx ▸ hi)
  have hany : ¬ (kvs.any fun kv => decide (kv.1 = k)) = true := by
   rw [List.any_eq_true]; rintro ⟨kv, hkv, he⟩
   exact hnot (List.mem_map.mpr ⟨kv, hkv, of_decide_eq_true he⟩)
  refine wpAny_bind (wpAny_rule (wpAny_updateDictKeys (hz := hes) ho hd (hQ _ ⟨_, _, ep + 1, Heap.get?_update_self _ ho (Obj.isFreed_of_dict (Obj.data_mapDictKeys hd _)),
   hc.mapDictKeys _, Obj.data_mapDictKeys hd _, hk.push hkey _, ?_, ?_⟩ (Heap.SameBut.update ..))))
  ·rw [stored, if_neg hany]
   have := hp.append hkey (knd.hash k) v
   obtain ⟨l⟩ := es
   simpa using this
  ·rw [stored, if_neg hany, List.map_append, List.nodup_append]
   refine ⟨hn, by simp, ?_⟩
   intro a ha b hb
   simp only [List.map_cons, List.map_nil, List.mem_singleton] at hb
   subst hb
   exact fun e => hnot (e ▸ ha)
theorem run_fk {o : Addr} {kvs : List (K × Value)} {v : Value} {P : PySem.Fin → Shared → Prop} (hoS : (o == sysModules) = false) (ho : s.heap.DictOf knd o kvs) (hsz : kvs.length ≤ 1000)
  (h : ∀ h', h'.DictOf knd s.heap.objs.size (kvs.map fun p => (p.1, v)) → (∀ b ob, s.heap.get? b = some ob → h'.get? b = some ob) → P (.done (.ret (.ref s.heap.objs.size))) { s with heap := h' }) :
  wpAny (model prog w) A (Builtin.«dict.fromkeys» ⟨[.type "dict", .ref o, v], []⟩) P E s := by
 unfold Builtin.«dict.fromkeys»
 refine wpAny_bind (wpAny_of_eq (a := true) type_dict ?_)
 refine KFB.if_not rfl ?_
 refine wpAny_bind (wpAny_of_eq (a := true) sub_dict ?_)
 refine KFB.if_not rfl ?_
 refine KFB.if_not rfl ?_
 refine wpAny_bind (wpAny_pure ?_)
 refine wpAny_bind (call_dict0 ?_)
 have hnew : (s.heap.push { cls := .type "dict", data := .dict #[] }).DictOf knd s.heap.objs.size [] := Heap.DictOf.new s.heap
 have ho' : (s.heap.push { cls := .type "dict", data := .dict #[] }).DictOf knd o kvs := ho.push _
 have hold : ∀ b ob, s.heap.get? b = some ob → (s.heap.push { cls := .type "dict", data := .dict #[] }).get? b = some ob := fun b ob e => Heap.get?_push_of_some _ e
 have hdo : s.heap.objs.size ≠ o := by
  refine exG3_2 ho fun _ _ _ hg _ => ?_
  exact fun e => absurd (Heap.lt_size hg) (by rw [e]; exact Nat.lt_irrefl _)
 have hsz0 : s.heap.get? s.heap.objs.size = none := Heap.get?_none_of_le (Nat.le_refl _)
 generalize s.heap.push { cls := .type "dict", data := .dict #[] } = H at hnew ho' hold ⊢
 generalize s.heap.objs.size = d at hnew hdo hsz0 h ⊢
 refine wpAny_holding ?_
 refine wpAny_bind (wpAny_typeOf ho'.typeIs ?_)
 refine wpAny_bind (wpAny_typeOf hnew.typeIs ?_)
 refine KFB.if_so (by decide) ?_
 refine wpAny_bind (wpAny_rule ?_)
 refine wpAny_bind (m := Dict.addrOf (.ref o)) (wpAny_pure ?_)
 unfold Dict.showsAll
 rw [if_neg (by rw [hoS]; exact Bool.false_ne_true)]
 refine wpAny_bind (wpAny_pure ?_)
 refine exG3_6 ho' fun oo es ep hoo hc hdat hk hp hn => ?_
 refine wpAny_bind (wpAny_dictEpoch hoo hdat ?_)
 refine wpAny_bind (wpAny_dictEntries hoo hdat ?_)
 have hes : es.size = kvs.length := by rw [← hp.length]; simp
 rw [KPc.range_list]
 refine wpAny_bind ?_
 have loop : ∀ (m i : Nat) (s₁ : Shared) , i + m = kvs.length → s₁.gens = s.gens → s₁.drawn = s.drawn → s₁.toks = s.toks → s₁.os = s.os → s₁.heap.DictOf knd d ((kvs.take i).map fun p => (p.1, v)) → s₁.heap.get? o = some oo → (∀ b ob, s.heap.get? b = some ob → s₁.heap.get? b = some ob) →
   wpAny (model prog w) A (forIn (List.range' i m 1) PUnit.unit fun i __s => do
       let __do_lift ← dictEntries o
       match __do_lift[i]? with
        | some e => do
         let __do_lift ← Dict.addrOf (Value.ref d)
         holding [e.key] (dictSetHashed __do_lift e.key e.hash v)
         let __do_lift ← dictEpoch o
         if (__do_lift != ep) = true then do
           unsupported "dict.fromkeys:source-changed-during-callback"
           pure (ForInStep.yield PUnit.unit)
          else pure (ForInStep.yield PUnit.unit)
        | x => do
         unsupported "internal:dict.fromkeys"
         pure (ForInStep.yield PUnit.unit)) (fun _ s' => wpAny (model prog w) A (ret (Value.ref d)) P E s') E s₁ := by
  intro m
  induction m with
  | zero =>
   intro i s₁ hi e1 e2 e3 e4 hd ho1 hk1
   obtain ⟨H1, g1, d1, t1, o1⟩ := s₁
   dsimp only at e1 e2 e3 e4
   subst e1 e2 e3 e4
   refine wpAny_pure (wpAny_pure (h H1 ?_ hk1))
   rw [List.take_of_length_le (by omega)] at hd
   exact hd
  | succ m ih =>
   intro i s₁ hi e1 e2 e3 e4 hd ho1 hk1
   rw [List.range'_succ]
   refine KPc.turn ?_
   refine wpAny_bind (wpAny_dictEntries ho1 hdat ?_)
   have hlt : i < es.size := by omega
   have hlt2 : i < kvs.length := by omega
   rw [Array.getElem?_eq_getElem hlt]
   dsimp only
   refine wpAny_bind (m := Dict.addrOf (.ref d)) (wpAny_pure ?_)
   refine exG0_2 (hp.get? (e := es[i]) (k := kvs[i].1) (v := kvs[i].2) (i := i) (by simp [hlt]) (by simp [hlt2])) fun q1 q2 => ?_
   refine exG1_2 (hk es[i] (Array.getElem_mem hlt)) fun k' hk' hh => ?_
   have : k' = kvs[i].1 := knd.inj _ _ _ hk' q1
   subst this
   rw [hh]
   refine wpAny_bind (wpAny_holding (setHashed_pairs q1 hd (fun h2 hd2 hs2 => ?_) (by rw [List.length_map, List.length_take, sizeLine_eq]; omega)))
   refine wpAny_bind (wpAny_dictEpoch (s := { s₁ with heap := h2 }) (hs2.extBut o oo (Ne.symm hdo) ho1) hdat ?_)
   refine KFB.if_not (by simp) ?_
   refine wpAny_pure ?_
   refine ih (i + 1) { s₁ with heap := h2 } (by omega) e1 e2 e3 e4 ?_ (hs2.extBut o oo (Ne.symm hdo) ho1) fun b ob e => hs2.extBut b ob (fun q => by rw [q, hsz0] at e; k_call_by "c" e) (hk1 b ob e)
   have hnot : ¬ (((kvs.take i).map fun p => (p.1, v)).any fun kv => decide (kv.1 = kvs[i].1)) = true := by
    rw [List.any_eq_true]
    intro q0q
    refine exG1_2 q0q fun kv hkv he => ?_
    refine exG1_2 (List.mem_map.mp hkv) fun p hp2 e => ?_
    subst e
    have he := of_decide_eq_true he
    obtain ⟨j, hj, e⟩ := List.mem_iff_getElem.mp hp2
    rw [List.getElem_take] at e
    rw [List.length_take] at hj
    have hnd := List.pairwise_iff_getElem.mp hn j i (by rw [List.length_map]; omega) (by rw [List.length_map]; omega) (by omega)
    apply hnd
    rw [List.getElem_map, List.getElem_map, e, he]
   rw [stored, if_neg hnot] at hd2
   rw [List.take_succ_eq_append_getElem hlt2, List.map_append]
   exact hd2
 have e0 : List.range' 0 es.size 1 = List.range' 0 kvs.length 1 := by rw [hes]
 rw [e0]
 exact loop kvs.length 0 { s with heap := H } (by omega) rfl rfl rfl rfl (by simpa using hnew) hoo hold
end
end Fk
section
variable {g : Gx} {S : Sc} {md : Md} {n : Nat} {C : Cx} {st st' : St} {s : Shared}
theorem check_fk {a b : Value} : checkBoundCall "dict.fromkeys" ⟨[.type "dict", a, b], []⟩ = pure () := by first | kernel_rfl | rfl
noncomputable def fromkeysM (vs : List V) : M V := fun Q _ st => match vs with
 | [.ref a, v] => (match st.μ a with
  | some (.dict es _) => es.length ≤ 1000 ∧ ∀ b, st.μ b = none → ∀ ep, Q (.ref b) (st.put b (.dict (es.map fun p => (p.1, v)) ep))
  | _ => False)
 | _ => False
theorem ref_FromKeys {p : M (List V)} {e1 e2 : Expr} {p0 p1 pos : Pos} {pl : Env → Sem Bool} (b : Blt g S "dict" (.type "dict")) (hp : RefX g S md n p [e1, e2])
  (hf : findCls g.K (.type "dict") (.type "type") (PySem.Str.ofString "fromkeys") = some (.get (.builtin "classmethod_descriptor.__get__") (.builtin "dict.fromkeys") .none (.type "dict")))
  (he : ∀ env, eval (.Call (.Attribute (.Name "dict" p0) "fromkeys" p1) [e1, e2] [] pos) env = (do
   let ov ← eval (.Name "dict" p0) env
   standAt p1.atName
   let (f, first) ← holding [ov] (getMethod ov "fromkeys" (pl env))
   callWith pos f first (backTo pos (starEach [e1, e2] env)) []) := by intro _; rfl)
  (he2 : ∀ env, starEach [e1, e2] env = (false, eval e1 env) :: starEach [e2] env := by intro _; rfl) (hpl : ∀ env, (backTo pos (starEach [e2] env)).any (·.1) = false := by intro _; rfl) :
  RefE g S md n (mbind p fromkeysM) (.Call (.Attribute (.Name "dict" p0) "fromkeys" p1) [e1, e2] [] pos) := by
 intro C Y st s Q X sx h
 refine MethodCall_ (pl := pl C.env) (b.run Y sx ?_) (he _)
 refine Fk.getm (Y.here sx).kin hf ?_
 have x1 : Sim g C st { s with heap := s.heap.push Fk.bound, toks := s.toks + 1 } := sx.grow fun _ _ e => Heap.get?_push_of_some _ e
 have hb1 : (s.heap.push Fk.bound).get? s.heap.objs.size = some Fk.bound := Heap.get?_push_size _ rfl
 have hoff : Off C s.heap.objs.size := sx.off_new (Heap.get?_none_of_le (Nat.le_refl _))
 have hmu := sx.fresh
 generalize s.heap.push Fk.bound = H at x1 hb1 ⊢
 generalize s.heap.objs.size = u at hb1 hoff hmu ⊢
 rw [he2]
 refine Fk.callWith_fields (by show (false || (backTo pos (starEach [e2] C.env)).any (·.1)) = false; rw [hpl]; rfl) (evalArgs_plain ?_)
 have hspl := keep_run (P := (· = u)) (hp pos) Y x1 (fun c hc => hc ▸ ⟨hoff, hmu⟩) h
 dsimp only at hspl
 rw [he2] at hspl
 refine wpAny_mono hspl (fun vs s2 z0 => ?_) fun _ _ e => e
 refine exG2_5 z0 fun us st2 ev x2 h2 _ k2 => ?_
 have hb2 : s2.heap.get? u = some Fk.bound := k2 u _ rfl hb1
 refine ⟨hb2, ?_⟩
 unfold fromkeysM at h2
 split at h2
 ·rename_i a v
  refine exG2_3 (map2 ev) fun va vv r1 q1 q2 => ?_
  obtain rfl := r1
  rw [er_ref q1]
  split at h2
  ·rename_i es ep hm
   refine exG0_2 (dict_in x2 hm) fun hs r2 => ?_
   refine exG1_2 r2 fun kvs hd e => ?_
   have hl : es.length = kvs.length := by rw [← e]; simp
   refine wpAny_call (codeAny_of_tree ?_)
   show wpAny _ C.A.in1 (callAny (.ref u) ⟨[.ref a, vv], []⟩) _ _ s2
   simp only [callAny]
   refine wpAny_bind (wpAny_load hb2 ?_)
   simp only [Fk.bound, show (Value.type "builtin_function_or_method" == Value.type "method" || Value.type "builtin_function_or_method" == Value.type "builtin_function_or_method" || Value.type "builtin_function_or_method" == Value.type "method-wrapper") = true by decide, if_true]
   refine KFB.if_so (by decide) ?_
   refine wpAny_bind (wpAny_of_eq (a := ()) check_fk ?_)
   refine wpAny_bind (wpAny_pure (wpAny_pure ?_))
   refine ⟨Fk.quiet_fk, codeAny_builtin Fk.entry_fk (Fk.run_fk (knd := PySem.strKind g.prog g.w) hs hd.dictOf (by omega) fun h' hd' hk' => ?_)⟩
   refine exG3_4 hd' fun ob es' ep' z1 z2 z3 z4 => ?_
   refine ⟨.ref s2.heap.objs.size, st2.put s2.heap.objs.size (.dict (es.map fun p => (p.1, v)) ep'), rfl, x2.new (tk := s2.toks) (o := .dict (es.map fun p => (p.1, v)) ep') (Heap.get?_none_of_le (Nat.le_refl _)) hk' ⟨Y.low x2, _, ⟨ob, es', z1, z2, z3, z4⟩, ?_⟩, h2.2 _ x2.fresh ep'⟩
   rw [List.map_map, ← e, List.map_map]
   apply List.map_congr_left
   intro p _
   simp only [Function.comp, q2]
  ·exact h2.elim
 ·exact h2.elim
end
end Kk
end
section
namespace Kk
variable {g : Gx} {S : Sc} {md : Md} {n : Nat} {C : Cx} {st st' : St} {s : Shared} {h' : Heap} {tk : Nat} {α β γ δ : Type}
theorem codeAll_mem {h : Heap} : ∀ {tabs : List (Addr × Addr)}, CodeAll tabs h → ∀ q ∈ tabs, CodeHd h q.1 q.2
 | [], _, q, hq => nomatch hq
 | t :: r, x, q, hq => by
  rcases List.mem_cons.mp hq with rfl | hq
  ·exact x.1
  ·exact codeAll_mem x.2 q hq
theorem built_at (Y : Ok g S md n C) (x : Sim g C st s) {P : Addr} {ps : Array Value} (hP : s.heap.get? P = some (tabObj ps)) : mainGlobals ≠ P ∧ s.heap.BuiltinsAt g.mg P := by
 have T := (Y.here x).top
 refine exG2_6 T.bmain fun bm ob b1 b2 b3 b4 b5 b6 => ?_
 refine ⟨fun q => ?_, bm, ob, b1, b2, fun q => ?_, fun q => ?_, b3, b4, b5, b6⟩
 ·refine exG3_3 T.g fun o es ep e hd _ => ?_
  rw [q, hP] at e; k_call_by "c" e; k_call_by "c" hd
 ·refine exG3_3 T.g fun o es ep e hd _ => ?_
  rw [q, e] at b3; k_call_by "c" b3; rw [hd] at b6; k_call_by "c" b6
 ·rw [q, hP] at b3; k_call_by "c" b3; k_call_by "c" b4
theorem Sim.tabGrow (x : Sim g C st s) (Y : Ok g S md n C) {P : Addr} {b : Bool} {ps : Array Value} (hm : st.μ P = some (.tab b)) (hx : Heap.ExtBut P s.heap h') (hp : h'.get? P = some (tabObj ps)) (ht : TriplesOk ps.toList) :
  Sim g C (st.put P (.tab false)) { s with heap := h', toks := tk } :=
 x.change Y hm hx ⟨ps, hp, ht, fun e => nomatch e⟩
noncomputable def lamM (P : Addr) (v : V) : M V := fun Q _ st => (∃ b, st.μ P = some (.tab b)) ∧ ∀ f, st.μ f = none → Q (.ref f) (st.put P (.tab false))
theorem ref_Lambda {p : M V} {params : Arguments} {d0 body : Expr} {scope : Scope} {pos : Pos} {c P : Addr} (hcode : S.code = some c) (hP : (c, P) ∈ g.tabs) (hfree : ∀ x ∈ scope.names, x.2 ≠ .free) (h : RefE g S md n p d0)
  (hdef : ∀ env, defaultsOf params env = (evalEach [d0] env, []) := by intro _; rfl) (hee : ∀ env, evalEach [d0] env = [eval d0 env] := by intro _; rfl) :
  RefE g S md n (mbind p (lamM P)) (.Lambda params body scope pos) := by
 intro C Y st s Q X x hp
 rw [arm_eval_Lambda, hdef, hee]
 refine wpAny_bind (PySem.wpAny_evalAll_cons (h.use Y x hp fun v va st1 s1 ev x1 h1 => PySem.wpAny_evalAll_nil ?_))
 refine wpAny_bind (wpAny_holding (wpAny_pure ?_))
 refine exG0_2 h1 fun r1 hq => ?_
 obtain ⟨b, hm⟩ := r1
 rw [makeFunction_eq]
 simp only [List.isEmpty_cons, Bool.false_eq_true, if_false, List.zip_nil_right, List.filterMap_nil, List.isEmpty_nil, if_true, pure_bind]
 refine wpAny_bind (wpAny_newTextTuple ?_)
 have x2 : Sim g C st1 { s1 with heap := s1.heap.push { cls := .type "tuple", data := .seq ([va] : List Value).toArray } } := x1.grow (tk := s1.toks) fun _ _ e => Heap.get?_push_of_some _ e
 generalize s1.heap.push { cls := .type "tuple", data := .seq ([va] : List Value).toArray } = H at x2 ⊢
 generalize s1.heap.objs.size = dV at *
 refine exG1_3 ((x2.objs P _ hm).1) fun ps hps ht _ => ?_
 refine exG0_2 (built_at Y x2 hps) fun hgP hb => ?_
 have hC : CodeHd H c P := codeAll_mem (Y.here x2).codes (c, P) hP
 have hn : (st1.put P (.tab false)).μ = upd st1.μ P (.tab false) := rfl
 have fin : ∀ (h2 : Heap) (tk : Tok), Sim g C (st1.put P (.tab false)) { s1 with heap := h2, toks := tk } → ∀ ob, Post g C VR Q (.ref h2.objs.size) { s1 with heap := h2.push ob, toks := tk } := fun h2 tk x3 ob => by
  refine ⟨.ref h2.objs.size, st1.put P (.tab false), rfl, x3.grow (tk := tk) (fun _ _ e => Heap.get?_push_of_some _ e), hq _ ?_⟩
  have := x3.fresh
  rw [hn] at this
  unfold upd at this
  dsimp only at this
  split at this
  ·k_call_by "c" this
  ·exact this
 cases hca : codeAmong pos ps.toList with
 | none =>
  refine kdv_makeTail (dV := .ref dV) (closureFor_none hfree) Y.glob (Y.here x2).top.g (Y.code c hcode) hC hps ht hca hgP hb fun c' ctv doc h2 tk hx hge hlt hrec htb => ?_
  refine fin h2 tk (x2.tabGrow (tk := tk) Y hm hx htb ?_) _
  have : (ps ++ #[rawInt pos.line, rawInt pos.col, .ref c']).toList = ps.toList ++ [rawInt pos.line, rawInt pos.col, .ref c'] := by simp
  rw [this]
  exact TriplesOk_snoc _ _ _ _ ht
 | some cv =>
  refine kdv_makeTailHit (dV := .ref dV) (closureFor_none hfree) Y.glob (Y.here x2).top.g (Y.code c hcode) hC hps ht hca hb fun ctv doc h2 tk hk hge => ?_
  have x3 : Sim g C st1 { s1 with heap := h2, toks := tk } := x2.grow hk
  refine fin h2 tk ?_ _
  exact x3.adopt (x2.objs P _ hm).2 ⟨ps, hk _ _ hps, ht, fun e => nomatch e⟩
theorem def_run {params : Arguments} {body : List Stmt} {scope : Scope} {name : Str} {pos : Pos} {c P : Addr} {Q : Flow → Shared → Prop} {E : Value → Shared → Prop} (Y : Ok g S .fn n C) (x : Sim g C st s) (hcode : S.code = some c) (hP : (c, P) ∈ g.tabs) (hst : stOk S name = true)
  (hcl : ((freeOf scope).all fun y => S.own.contains y) = true) (hm : st.μ P = some (.tab true)) (hd0 : params.defaults = []) (hk0 : params.kw_defaults = []) (ha : annTrees params none C.env = [])
  (h : ∀ f c' q s', st.μ f = none → st.μ c' = none → f ≠ c' → f ≠ P → c' ≠ P → Sim g C ((((st.put P (.tab false)).put c' (.code q)).put f (.fn ⟨params, body, scope, closL C.env.cells scope.names [], q, c'⟩)).set name (.ref f)) s' → Q .next s') :
  wpAny (model g.prog g.w) C.A (exec (.FunctionDef name params body [] none [] scope none name pos) C.env) Q E s := by
 refine nestDef_K hd0 hk0 ha ?_
 refine exG1_3 ((x.objs P _ hm).1) fun ps hps ht hfr => ?_
 have := hfr rfl
 subst this
 refine exG0_2 (built_at Y x hps) fun hgP hb => ?_
 have hC : CodeHd s.heap c P := codeAll_mem (Y.here x).codes (c, P) hP
 have hclos : closureFor scope C.env = pure (closL C.env.cells scope.names []) := closure_eq fun p hp hk => by
  obtain ⟨y, k⟩ := p
  dsimp only at hk
  subst hk
  refine exG1_2 (Y.ownN y (by simpa using List.all_eq_true.mp hcl y (mem_freeOf.mpr hp))) fun d hd _ => ?_
  exact ⟨d, hd⟩
 refine makeFunction_K (mg := g.mg) hclos Y.glob (Y.here x).top.g (Y.code c hcode) hC hps ht rfl hgP hb fun c' ctv doc h2 tk hx hge hlt hrec htb => ?_
 refine exG4_4 hrec fun c₂ oc vs t e2 hoc hd hv => ?_
 k_call_by "c" e2
 have x2 : Sim g C (st.put P (.tab false)) { s with heap := h2, toks := tk } := x.tabGrow (tk := tk) Y hm hx htb (by
  have : ((#[] : Array Value) ++ #[rawInt pos.line, rawInt pos.col, .ref c']).toList = [] ++ [rawInt pos.line, rawInt pos.col, .ref c'] := by simp
  rw [this]
  exact TriplesOk_snoc _ _ _ _ ht)
 have nc : s.heap.get? c' = none := Heap.get?_none_of_le hge
 have hcP : c' ≠ P := fun q => by rw [q, hps] at nc; k_call_by "c" nc
 have offc : Off C c' := x.off_new nc
 have muc : st.μ c' = none := x.mu_none nc
 have x3 : Sim g C ((st.put P (.tab false)).put c' (.code (qualnameIn C.env name name))) { s with heap := h2, toks := tk } := x2.adopt offc ⟨oc, vs, t, hoc, hd, hv⟩
 have nf : ({ s with heap := h2, toks := tk } : Shared).heap.get? h2.objs.size = none := Heap.get?_none_of_le (Nat.le_refl _)
 have hfc : h2.objs.size ≠ c' := Nat.ne_of_gt hlt
 have hfP : h2.objs.size ≠ P := fun q => by rw [← q] at htb; have := nf; rw [show ({ s with heap := h2, toks := tk } : Shared).heap.get? h2.objs.size = h2.get? h2.objs.size from rfl, htb] at this; k_call_by "c" this
 have muf : st.μ h2.objs.size = none := by
  have := x2.mu_none nf
  unfold St.put upd at this
  dsimp only at this
  rw [if_neg hfP] at this
  exact this
 have x4 := x3.push (tk := tk) (o := .fn ⟨params, body, scope, closL C.env.cells scope.names [], qualnameIn C.env name name, c'⟩)
  (ob := fnMade name (qualnameIn C.env name name) params body scope (closL C.env.cells scope.names []) doc ((g.mg "__name__").getD .none) c' ctv)
  ⟨_, _, Heap.get?_push_size _ rfl, rfl, rfl, rfl, rfl, rfl, rfl, rfl, rfl, rfl, rfl, rfl, rfl⟩
 refine store_var hst Y x4 fun s' x5 => ?_
 exact h _ c' _ s' muf muc hfc hfP hcP x5
noncomputable def markS (scope : Scope) (cl : List (Str × Addr)) : Sc := { sc := scope, own := [], cl := some cl }
noncomputable def isFnM (v : V) : M Unit := fun Q _ st => match v with
 | .ref f => (match st.μ f with | some (.fn _) => Q () st | _ => False)
 | _ => False
noncomputable def cloM (params : Arguments) (body : List Stmt) (scope : Scope) (cl : List (Str × Addr)) (names : List Str) (pb : M Fl) (fv : V) (us : List V) : M V := fun Q X st => match fv with
 | .ref f => ∃ fp, st.μ f = some (.fn fp) ∧ fp.params = params ∧ fp.body = body ∧ fp.scope = scope ∧ fp.cl = cl ∧ st.μ fp.code = some (.code fp.qual) ∧ us.length = names.length ∧
  callM pb (fun x => if x ∈ freeOf scope then st.σ x else argσ (names.zip us) x) Q X st
 | _ => False
theorem ref_CallClo {fname : Str} {params : Arguments} {body : List Stmt} {scope : Scope} {cl : List (Str × Addr)} {names : List Str} {pb : M Fl} {q : M (List V)} {e : Expr} {r : List Expr} {px pos : Pos} (hS : S.cl = some cl) (hv : varOk S.sc fname = true)
  (hb : RefB g (markS scope cl) .fn n pb body) (hk : scope.kind = .function) (hco : scope.isCoroutine = false) (hgen : scope.isGenerator = false) (hfl : ((freeOf scope).all fun y => S.sc.names.lookup y == some .cell || S.sc.names.lookup y == some .free) = true)
  (hcell : ∀ x ∈ scope.names, x.2 ≠ .cell) (hloc : ∀ x ∈ names, scope.names.lookup x = some .local) (hnames : (scope.names.all fun x => scope.names.lookup x.1 == some x.2) = true) (hcl : ∀ y ∈ freeOf scope, (cl.lookup y).isSome = true)
  (hbind : ∀ (fd : FuncData) (vs : List Value), fd.params = params → fd.defaults = .none → fd.kwdefaults = .none → vs.length = names.length → bindArgs fd ⟨vs, []⟩ = pure (names.zip vs))
  (hq : RefX g S .fn (n + 1) q (e :: r)) (he : ∀ env, starEach (e :: r) env = (false, eval e env) :: starEach r env := by intro _; rfl) (hpl : ∀ env, (backTo pos (starEach r env)).any (·.1) = false := by intro _; rfl) :
  RefE g S .fn (n + 1) (mbind (locM fname) fun fv => mbind (isFnM fv) fun _ => mbind q fun us => cloM params body scope cl names pb fv us) (.Call (.Name fname px) (e :: r) [] pos) := by
 intro C Y st s Q X x hp
 refine wpAny_Call_NameR ((ref_Name (pos := px) hv).use Y x hp fun fv vf st1 s1 ef x1 h1 => ?_)
 induction fv with
 | ref f =>
  rw [er_ref ef]
  have h1 : (match st1.μ f with | some (.fn _) => mbind q (fun us => cloM params body scope cl names pb (.ref f) us) Q X st1 | _ => False) := h1
  split at h1
  ·rename_i fp0 hm0
   refine exG2_4 ((x1.objs f _ hm0).1) fun o0 fd0 g1 g2 g3 _ => ?_
   have fnat : FnAt f s1.heap := by obtain ⟨oc, od, dt, sl⟩ := o0; dsimp only at g2; subst g2; exact ⟨oc, od, fd0, sl, g1⟩
   refine callWith_F (first := []) fnat ((hq pos).use Y x1 h1 fun us vs st2 s2 ev x2 h2 => ?_) (he _) (hpl _)
   revert h2; refine fun oO => exG1_8 oO fun fp hm r2 r3 r4 r5 hc hl h2 => ?_
   obtain rfl := r2
   obtain rfl := r3
   obtain rfl := r4
   obtain rfl := r5
   refine exG2_13 ((x2.objs f _ hm).1) fun o fd k1 k2 k3 k4 k5 k6 k7 k8 k9 k10 k11 k12 k13 => ?_
   refine exG3_3 ((x2.objs fp.code _ hc).1) fun oc ovs ot c1 c2 c3 => ?_
   refine ⟨by obtain ⟨oc, od, dt, sl⟩ := o; dsimp only at k2; subst k2; exact ⟨oc, od, fd, sl, k1⟩, ?_⟩
   show wpAny _ _ (call (.ref f) vs) _ _ _
   have hlv : vs.length = names.length := by rw [← hl, ← ev, List.length_map]
   have hd := Y.depth
   refine wpAny_call (codeAny_call_function (by unfold recursionLimit; omega) k1 k2 (by rw [k8]; exact hco) (by rw [k8]; exact hgen) k7 ⟨fp.code, oc, ovs, ot, k4, c1, c2, by rw [k5]; exact c3⟩ ?_)
   rw [hbind fd vs k6 k12 k13 hlv, k9, k10, k11, k8]
   refine wpAny_pure (wpAny_newFunctionEnv hcell (fun y hy => hloc y.1 (List.of_mem_zip hy).1) (fun h3 hns hsb => ?_) hk)
   have keep : ∀ b o, s2.heap.get? b = some o → h3.get? b = some o := fun b o e => hsb.extBut b o (Nat.ne_of_lt (Heap.lt_size e)) (Heap.get?_push_of_some _ e)
   refine ⟨(Y.here x2).top.nolimit.keeps keep, codeAny_func ?_⟩
   have En : Enters C st2 s2 (markS fp.scope fp.cl) (newEnv fp.scope s2.heap.objs.size mainGlobals fp.cl (fd.qualname ++ ".<locals>.") (some f) fd.code none builtinsNs) []
     (fun x => if x ∈ freeOf fp.scope then st2.σ x else argσ (names.zip us) x) { s2 with heap := h3, toks := s2.toks + (names.zip vs).length } := {
    sc := rfl
    kind := hk
    glob := rfl
    blt := rfl
    frame := rfl
    loc := Nat.le_refl _
    cells := fun y d e2 => .inr (cbase_cell Y x2 (Y.clo _ hS y d e2))
    ownC := fun c hc => nomatch hc
    ownN := fun c hc => nomatch hc
    inj := fun _ _ c _ _ hc => nomatch hc
    code := fun c e => nomatch e
    clo := fun c e y d hy => by k_call_by "c" e; exact hy
    same := ⟨_, _, rfl⟩
    keep := keep
    vars := by
     refine ⟨_, hns, fun y u hu => ?_⟩
     by_cases hy : y ∈ freeOf fp.scope
     ·rw [if_pos hy] at hu
      refine exG1_2 x2.vars fun m hmm hvv => ?_
      have h1 := hvv y u hu
      unfold VarAt at h1
      rw [Y.kindOf y] at h1
      have hkk := List.all_eq_true.mp hfl y hy
      simp only [Bool.or_eq_true, beq_iff_eq] at hkk
      refine exG1_1 (Option.isSome_iff_exists.mp (hcl y hy)) fun d hd => ?_
      have hd2 := Y.clo _ hS y d hd
      have key : ∃ c v, C.env.cells.lookup y = some c ∧ s2.heap.IsCell c (some v) ∧ er v = u := by
       rcases hkk with e | e <;> (rw [e] at h1; exact h1)
      refine exG2_3 key fun c v q1 q2 q3 => ?_
      rw [hd2] at q1
      k_call_by "c" q1
      have hfk : (newEnv fp.scope s2.heap.objs.size mainGlobals fp.cl (fd.qualname ++ ".<locals>.") (some f) fd.code none builtinsNs).kindOf y = some .free := lookup_mem hnames (mem_freeOf.mp hy)
      unfold VarAt
      rw [hfk]
      exact ⟨d, v, hd, isCell_keep q2 fun o e => keep d o e, q3⟩
     ·rw [if_neg hy] at hu
      unfold argσ at hu
      rw [← ev, ← zip_er, ← List.map_reverse, lookup_er] at hu
      refine exG1_2 (Option.map_eq_some_iff.mp hu) fun v hv2 ev2 => ?_
      have hmem : y ∈ names := (List.of_mem_zip (List.mem_reverse.mp (mem_of_lookup hv2))).1
      unfold VarAt
      rw [show (newEnv fp.scope s2.heap.objs.size mainGlobals fp.cl (fd.qualname ++ ".<locals>.") (some f) fd.code none builtinsNs).kindOf y = some NameKind.local from hloc y hmem]
      exact ⟨v, hv2, ev2⟩ }
   exact call_body (k := 0) Y x2 (Around'.refl _) (by omega) En hb h2 (R := fun r s' => match r with | .ok (.ret v) => Post g C VR Q v s' | .ok _ => False | .error e => PostX g C X e s') (fun v s' p => p) fun e s' p => p
  ·exact h1.elim
 | _ => exact False.elim h1
end Kk
end
section
namespace Kk
variable {g : Gx} {S : Sc} {md : Md} {n : Nat} {C : Cx} {st st' : St} {s : Shared} {h' : Heap} {tk : Nat} {α β γ δ : Type}
noncomputable def arrowM (a b : V) : M V := fun Q _ st => match a, b with
 | .str y, .ref l => (match st.μ l with
   | some (.list xs) => ∃ ys : List Str, xs = ys.map .str ∧ y.length ≤ 1000 ∧ (PyData.list (ys.map .str)).shown.length ≤ 1000 ∧ Q (.str (arrowText y ys)) st
   | _ => False)
 | _, _ => False
noncomputable def strM (a : V) : M Unit := fun Q _ st => match a with | .str y => y.length ≤ 1000 ∧ Q () st | _ => False
theorem field_str {y : Str} {t : Tok} {K : Value → Shared → Prop} {E : Value → Shared → Prop} (x : Sim g C st s) (hy : y.length ≤ 1000) (h : ∀ u s', Sim g C st s' → K (.str y u) s') : wpAny (model g.prog g.w) C.A (formatField (.str y t) Str.empty) K E s :=
 wpAny_formatField_str (h _ _ x) (h _ _ x.tick) (Nat.le_trans hy sizeL)
theorem conv_str {y : Str} {t : Tok} {K : Value → Shared → Prop} {E : Value → Shared → Prop} (x : Sim g C st s) (hy : y.length ≤ 1000) (h : ∀ u s', Sim g C st s' → K (.str y u) s') : wpAny (model g.prog g.w) C.A (convS (.str y t)) (fun r s2 => wpAny (model g.prog g.w) C.A (formatField r Str.empty) K E s2) E s := by
 show wpAny _ _ (habitSame "fstring-hands-on-the-str" (.str y t)) _ _ s
 exact wpAny_habitSame_str (field_str x hy h) (field_str x.tick hy h) (Nat.le_trans hy sizeL)
theorem ref_Arrow {p q : M V} {e1 e2 : Expr} {k : Nat} {p1 p2 p3 pos : Pos} (h1 : RefE g S md n p e1) (h2 : RefE g S md n q e2) :
  RefE g S md n (mbind p fun a => mbind (strM a) fun _ => mbind q fun b => arrowM a b) (.JoinedStr [.FormattedValue e1 115 none p1, .Constant (.str " -> ") k p2, .FormattedValue e2 115 none p3] pos) := by
 intro C Y st s Q X sx hp
 refine wpAny_JoinedStr (wpAny_FormattedValue_s (h1.use Y sx hp fun a va st1 s1 ea x1 q1 => ?_))
 induction a with
 | str y =>
  obtain ⟨zy, q1⟩ : y.length ≤ 1000 ∧ q (fun b => arrowM (.str y) b Q X) X st1 := q1
  obtain ⟨t, rfl⟩ := er_str ea
  refine conv_str x1 zy fun u s2 x2 => ?_
  refine ⟨y, u, rfl, ?_, ?_⟩
  ·rw [cat_len]; exact Nat.le_trans (by show 0 + y.length ≤ 1000; omega) sizeL
  refine wpAny_Constant_str ⟨_, _, rfl, ?_, ?_⟩
  ·rw [cat_len, cat_len]; exact Nat.le_trans (by show 0 + y.length + 4 ≤ 1004; omega) (by rw [sizeLine_eq]; omega)
  refine wpAny_FormattedValue_s (h2.use Y x2.tick q1 fun b vb st3 s3 eb x3 q3 => ?_)
  induction b with
  | ref l =>
   rw [er_ref eb]
   have q3 : (match st3.μ l with
    | some (.list xs) => ∃ ys : List Str, xs = ys.map .str ∧ y.length ≤ 1000 ∧ (PyData.list (ys.map .str)).shown.length ≤ 1000 ∧ Q (.str (arrowText y ys)) st3
    | _ => False) := q3
   split at q3
   ·rename_i xs hl
    revert q3; refine fun oO => exG1_4 oO fun ys r1 _ hd q3 => ?_
    obtain rfl := r1
    refine exG1_1 ((Rd.list hl (rd_strs ys)).reads x3 (.ref l) rfl) fun as rr => ?_
    refine exG0_3 (strs_show ys) fun s1' s2' s3' => ?_
    refine convS_of_reads rr (by simp only [PyData.showable]; exact s1') (by simp only [PyData.hasDict, s2']; intro q; k_call_by "c" q) Y.guards (by
     have := Y.units
     simp only [PyData.depth, s3']
     unfold cLine; omega) (fun _ _ e => e) (fun h' u' tk hk => ?_) (Nat.le_trans hd sizeL)
    refine field_str (x3.grow (tk := tk) hk) hd fun u2 s4 x4 => ?_
    have hlen : (Str.empty ++ y ++ (" -> " : Str) ++ (PyData.list (ys.map .str)).shown).length ≤ sizeLine := by
     rw [cat_len, cat_len, cat_len, sizeLine_eq]
     have : (Str.empty).length = 0 := rfl
     have : ((" -> " : Str)).length = 4 := by decide +kernel
     omega
    refine ⟨_, _, rfl, hlen, hlen, ?_⟩
    rw [KPc.empty_app]
    exact ⟨_, _, rfl, x4.tick, q3⟩
   ·exact q3.elim
  | _ => exact False.elim q3
 | _ => exact False.elim q1
end Kk
end
section
namespace Kk
variable {g : Gx} {S : Sc} {md : Md} {n : Nat}
noncomputable def plainE : Expr → Bool | .Starred .. => false | _ => true
theorem star_of {e : Expr} {r : List Expr} {env : Env} (h : plainE e = true) : starEach (e :: r) env = (false, eval e env) :: starEach r env := by
 cases (e) <;> first | rfl | k_call_by "c" h
theorem refX_c {p : M V} {q : M (List V)} {e : Expr} {r : List Expr} (h : RefE g S md n p e) (hr : RefX g S md n q r) (he : plainE e = true := by rfl) :
  RefX g S md n (mbind p fun v => mbind q fun vs => mret (v :: vs)) (e :: r) := refX_cons h hr fun _ => star_of he
end Kk
end
section
namespace Kk
variable {g : Gx} {S : Sc} {md : Md} {n : Nat}
variable {target elt iter : Expr} {ifs : List Expr} {scope : Scope} {pos : Pos} {psrc : M Src} {asg : List V → M Unit} {pt : M Bool} {pe : M V}
structure RE (g : Gx) (S : Sc) (md : Md) (n : Nat) (p : M V) (e : Expr) : Prop where ok : RefE g S md n p e
structure RX (g : Gx) (S : Sc) (md : Md) (n : Nat) (p : M (List V)) (e : List Expr) : Prop where ok : RefX g S md n p e
structure RT (g : Gx) (S : Sc) (md : Md) (n : Nat) (p : M Bool) (e : Expr) : Prop where ok : RefT g S md n p e
structure RS (g : Gx) (S : Sc) (md : Md) (n : Nat) (p : M Fl) (e : Stmt) : Prop where ok : RefS g S md n p e
structure RB (g : Gx) (S : Sc) (md : Md) (n : Nat) (p : M Fl) (e : List Stmt) : Prop where ok : RefB g S md n p e
structure RIt (g : Gx) (S : Sc) (md : Md) (n : Nat) (p : M Src) (e : Expr) : Prop where ok : RefIt g S md n p e
structure RTs (g : Gx) (S : Sc) (md : Md) (n : Nat) (p : M Bool) (e : List Expr) : Prop where ok : RefTs g S md n p e
structure RP (g : Gx) (S : Sc) (md : Md) (n : Nat) (p : M (Option Int)) (e : Option Expr) : Prop where ok : RefP g S md n p e
structure RA (g : Gx) (S : Sc) (md : Md) (n : Nat) (op : BoolOp) (p : M Bool) (e : List Expr) : Prop where ok : RefAll g S md n op p e
theorem w_Name {x : Str} {pos : Pos} (hv : varOk S.sc x = true) : RE g S md n (locM x) (.Name x pos) := ⟨ref_Name hv⟩
theorem w_Int {i : Int} {k pos} : RE g S md n (mret (.int i)) (.Constant (.int i) k pos) := ⟨ref_Int ⟩
theorem w_Str {i : Str} {k pos} : RE g S md n (mret (.str i)) (.Constant (.str i) k pos) := ⟨ref_Str ⟩
theorem w_None {k pos} : RE g S md n (mret .none) (.Constant .none k pos) := ⟨ref_None ⟩
theorem w_Bool {b k pos} : RE g S md n (mret (.bool b)) (.Constant (.bool b) k pos) := ⟨ref_Bool ⟩
theorem w_nil  : RB g S md n (mret .next) [] := ⟨ref_nil ⟩
theorem w_cons {p q : M Fl} {a : Stmt} {r : List Stmt} (ha : RS g S md n p a) (hr : RB g S md n q r) : RB g S md n (mseq p q) (a :: r) := ⟨ref_cons ha.ok hr.ok⟩
theorem w_one {p : M Fl} {a : Stmt} (ha : RS g S md n p a) : RB g S md n p [a] := ⟨ref_one ha.ok⟩
theorem w_If {c : M Bool} {p q : M Fl} {t : Expr} {b o : List Stmt} {pos : Pos} (hc : RT g S md n c t) (hb : RB g S md n p b) (ho : RB g S md n q o) : RS g S md n (mif c p q) (.If t b o pos) := ⟨ref_If hc.ok hb.ok ho.ok⟩
theorem w_IfExp {c : M Bool} {p q : M V} {t b o : Expr} {pos : Pos} (hc : RT g S md n c t) (hb : RE g S md n p b) (ho : RE g S md n q o) : RE g S md n (mif c p q) (.IfExp t b o pos) := ⟨ref_IfExp hc.ok hb.ok ho.ok⟩
theorem w_Return {p : M V} {e : Expr} {pos : Pos} (h : RE g S md n p e) : RS g S md n (mbind p fun v => mret (.ret v)) (.Return (some e) pos) := ⟨ref_Return h.ok⟩
theorem w_Return0 {pos : Pos} : RS g S md n (mret (.ret .none)) (.Return none pos) := ⟨ref_Return0 ⟩
theorem w_Pass {pos : Pos} : RS g S md n (mret .next) (.Pass pos) := ⟨ref_Pass ⟩
theorem w_Break {pos : Pos} : RS g S md n (mret .brk) (.Break pos) := ⟨ref_Break ⟩
theorem w_Continue {pos : Pos} : RS g S md n (mret .cont) (.Continue pos) := ⟨ref_Continue ⟩
theorem w_Expr {p : M V} {e : Expr} {pos : Pos} (h : RE g S md n p e) (hs : ∀ env, swapsWith e none pos.line env = pure false := by intro _; rfl) : RS g S md n (mbind p fun _ => mret .next) (.Expr e pos) := ⟨ref_Expr h.ok hs⟩
theorem w_Assign {p : M V} {e : Expr} {x : Str} {px pos : Pos} (hv : stOk S x = true) (h : RE g S md n p e) (hs : ∀ env : Env, env.scope = S.sc → swapsWith e (some (.Name x px)) pos.line env = pure false := by intro env he; first | rfl | (k_call_by "c" env; k_call_by "c" he; kernel_rfl)) : RS g S md n (assignM x p) (.Assign [.Name x px] e pos) := ⟨ref_Assign hv h.ok hs⟩
theorem w_T_Not {c : M Bool} {t : Expr} {pos : Pos} (hc : RT g S md n c t) : RT g S md n (mbind c fun b => mret (!b)) (.UnaryOp .Not t pos) := ⟨ref_T_Not hc.ok⟩
theorem w_And_nil  : RA g S md n .And (mret true) [] := ⟨ref_And_nil ⟩
theorem w_Or_nil  : RA g S md n .Or (mret false) [] := ⟨ref_Or_nil ⟩
theorem w_And_cons {c d : M Bool} {t : Expr} {r : List Expr} (hc : RT g S md n c t) (hd : RA g S md n .And d r) : RA g S md n .And (mif c d (mret false)) (t :: r) := ⟨ref_And_cons hc.ok hd.ok⟩
theorem w_Or_cons {c d : M Bool} {t : Expr} {r : List Expr} (hc : RT g S md n c t) (hd : RA g S md n .Or d r) : RA g S md n .Or (mif c (mret true) d) (t :: r) := ⟨ref_Or_cons hc.ok hd.ok⟩
theorem w_T_BoolOp {op : BoolOp} {c : M Bool} {ts : List Expr} {pos : Pos} (hc : RA g S md n op c ts) : RT g S md n c (.BoolOp op ts pos) := ⟨ref_T_BoolOp hc.ok⟩
theorem w_Compare {op : CmpOp} {p q : M V} {l r : Expr} {pos : Pos} (hl : RE g S md n p l) (hr : RE g S md n q r) (hm : behindInMarks op r = false := by with_unfolding_all rfl) : RE g S md n (mbind p fun a => mbind q fun b => mbind (cmpM op a b) fun c => mret (.bool c)) (.Compare l [op] [r] pos) := ⟨ref_Compare hl.ok hr.ok hm⟩
theorem w_T_Compare {op : CmpOp} {p q : M V} {l r : Expr} {pos : Pos} (hl : RE g S md n p l) (hr : RE g S md n q r) (hm : behindInMarks op r = false := by with_unfolding_all rfl) : RT g S md n (mbind p fun a => mbind q fun b => cmpM op a b) (.Compare l [op] [r] pos) := ⟨ref_T_Compare hl.ok hr.ok hm⟩
theorem w_T_value {p : M V} {e : Expr} (h : RE g S md n p e) (he : ∀ env whole, isTrue e env whole = (do let v ← whole; standAt e.pos; holding [v] (truthy v)) := by intro _ _; rfl) : RT g S md n (mbind p truthM) e := ⟨ref_T_value h.ok he⟩
theorem w_Attribute {c : Addr} {nm : Str} {p : M V} {e : Expr} {pos : Pos} (hB : attrB g.K c nm = true) (h : RE g S md n p e) (he : ∀ env, eval (.Attribute e nm pos) env = (do
   let o ← eval e env
   standAt pos.atName
   let r ← holding [o] (getAttr o nm true)
   letTemporaryGo e o r
   pure r) := by intro _; with_unfolding_all rfl) : RE g S md n (mbind p (attrM c nm)) (.Attribute e nm pos) := ⟨ref_Attribute hB h.ok he⟩
theorem w_AssignAttr {c : Addr} {nm : Str} {p q : M V} {o e : Expr} {apos pos : Pos} (hB : setB g.K c nm = true) (hv : RE g S md n p e) (ho : RE g S md n q o) (hs : ∀ env, swapsWith e (some (.Attribute o nm apos)) pos.line env = pure false := by intro _; rfl) : RS g S md n (mbind p fun v => mbind q fun a => mbind (setAttrM c nm a v) fun _ => mret .next) (.Assign [.Attribute o nm apos] e pos) := ⟨ref_AssignAttr hB hv.ok ho.ok hs⟩
theorem wX_nil  : RX g S md n (mret []) [] := ⟨refX_nil ⟩
theorem wX_c {p : M V} {q : M (List V)} {e : Expr} {r : List Expr} (h : RE g S md n p e) (hr : RX g S md n q r) (he : plainE e = true := by rfl) : RX g S md n (mbind p fun v => mbind q fun vs => mret (v :: vs)) (e :: r) := ⟨refX_c h.ok hr.ok he⟩
theorem w_Tuple {p : M (List V)} {es : List Expr} {k : Nat} {pos : Pos} (h : RX g S md n p es) : RE g S md n (mbind p tupM) (.Tuple es k pos) := ⟨ref_Tuple h.ok⟩
theorem w_List {p : M (List V)} {es : List Expr} {pos : Pos} (h : RX g S md n p es) : RE g S md n (mbind p listM) (.List es pos) := ⟨ref_List h.ok⟩
theorem w_BinOp {op : Operator} {p q : M V} {l r : Expr} {pos : Pos} (hl : RE g S md n p l) (hr : RE g S md n q r) : RE g S md n (mbind p fun a => mbind q fun b => binM op a b) (.BinOp l op r pos) := ⟨ref_BinOp hl.ok hr.ok⟩
theorem w_USub {p : M V} {e : Expr} {pos : Pos} (h : RE g S md n p e) : RE g S md n (mbind p fun a Q _ st => match a with | .int i => Q (.int (-i)) st | _ => False) (.UnaryOp .USub e pos) := ⟨ref_USub h.ok⟩
theorem w_AugName {op : Operator} {x : Str} {p : M V} {e : Expr} {px pos : Pos} (hv : varOk S.sc x = true) (hs : stOk S x = true) (h : RE g S md n p e) : RS g S md n (mbind (locM x) fun a => mbind p fun b => mbind (iopM op a b) fun r => mbind (setM x r) fun _ => mret .next) (.AugAssign (.Name x px) op e pos) := ⟨ref_AugName hv hs h.ok⟩
theorem w_seq {p : M V} {iter : Expr} (hm : md ≠ .hand) (h : RE g S md n p iter) : RIt g S md n (mbind p seqM) iter := ⟨ref_seq hm h.ok⟩
theorem w_range {p : M V} {e : Expr} {px pos : Pos} (hm : md ≠ .hand) (b : Blt g S "range" (.type "range")) (h : RE g S md n p e) (he : ∀ env, starEach [e] env = (false, eval e env) :: starEach [] env := by intro _; rfl) : RIt g S md n (mbind p rngM) (.Call (.Name "range" px) [e] [] pos) := ⟨ref_range hm b h.ok he⟩
theorem w_enum {p : M V} {e : Expr} {px pos : Pos} (hm : md ≠ .hand) (b : Blt g S "enumerate" (.type "enumerate")) (h : RE g S md n p e) (he : ∀ env, starEach [e] env = (false, eval e env) :: starEach [] env := by intro _; rfl) : RIt g S md n (mbind p enM) (.Call (.Name "enumerate" px) [e] [] pos) := ⟨ref_enum hm b h.ok he⟩
theorem w_items {p : M V} {o : Expr} {apos pos : Pos} {pl : Env → Sem Bool} (hm : md ≠ .hand) (h : RE g S md n p o) (he : ∀ env, eval (.Call (.Attribute o "items" apos) [] [] pos) env = (do
   let ov ← eval o env
   standAt apos.atName
   let (f, first) ← holding [ov] (getMethod ov "items" (pl env))
   callWith pos f first (backTo pos (starEach [] env)) []) := by intro _; rfl) : RIt g S md n (mbind p itemsM) (.Call (.Attribute o "items" apos) [] [] pos) := ⟨ref_items hm h.ok he⟩
theorem w_For {p : M Src} {target iter : Expr} {asg : List V → M Unit} {pb pe : M Fl} {body orelse : List Stmt} {pos : Pos} (h : RIt g S .fn n p iter) (T : TgOk g S .fn n target asg) (hb : RB g S .fn n pb body) (he : RB g S .fn n pe orelse) (hs : ∀ env x, foldedSetIterable iter env x = pure x := by intro _ _; rfl) : RS g S .fn n (mbind p (loopM asg pb pe)) (.For target iter body orelse pos) := ⟨ref_For h.ok T hb.ok he.ok hs⟩
theorem w_Subscript {p q : M V} {v i : Expr} {pos : Pos} (hm : md ≠ .hand) (hv : RE g S md n p v) (hi : RE g S md n q i) (hs : ∀ o k, subscripted i false o k = operate [o, k] (getItem o k) := by intro _ _; rfl) : RE g S md n (mbind p fun a => mbind q fun b => idxM a b) (.Subscript v i pos) := ⟨ref_Subscript hm hv.ok hi.ok hs⟩
theorem wP_none  : RP g S md n (mret none) none := ⟨refP_none ⟩
theorem wP_some {p : M V} {e : Expr} (h : RE g S md n p e) : RP g S md n (mbind p fun v Q _ st => match v with | .int i => Q (some i) st | _ => False) (some e) := ⟨refP_some h.ok⟩
theorem w_Slice {p : M V} {pl pu : M (Option Int)} {v : Expr} {lo hi : Option Expr} {p1 pos : Pos} (hv : RE g S md n p v) (hl : RP g S md n pl lo) (hu : RP g S md n pu hi) : RE g S md n (mbind p fun o => mbind pl fun a => mbind pu fun b => sliceM o a b) (.Subscript v (.Slice lo hi none p1) pos) := ⟨ref_Slice hv.ok hl.ok hu.ok⟩
theorem w_AssignSub {p q r : M V} {o i e : Expr} {p1 pos : Pos} (hv : RE g S md n p e) (ho : RE g S md n q o) (hi : RE g S md n r i) (hs : ∀ env, swapsWith e (some (.Subscript o i p1)) pos.line env = pure false := by intro _; rfl) : RS g S md n (mbind p fun v => mbind q fun a => mbind r fun k => mbind (setItemM a k v) fun _ => mret .next) (.Assign [.Subscript o i p1] e pos) := ⟨ref_AssignSub hv.ok ho.ok hi.ok hs⟩
theorem w_AugSub {op : Operator} {p q r : M V} {o i e : Expr} {p1 pos : Pos} (hm : md ≠ .hand) (ho : RE g S md n q o) (hi : RE g S md n r i) (hv : RE g S md n p e) (ha : ∀ ov iv new, augStore i ov iv new = (do holding [new, ov, iv] (setItem ov iv new); release [new, ov, iv] []; pure .next) := by intro _ _ _; rfl) : RS g S md n (mbind q fun a => mbind r fun k => mbind (idxM a k) fun old => mbind p fun v => mbind (iopM op old v) fun new => mbind (setItemM a k new) fun _ => mret .next) (.AugAssign (.Subscript o i p1) op e pos) := ⟨ref_AugSub hm ho.ok hi.ok hv.ok ha⟩
theorem w_DelLast {p : M V} {pl : M (Option Int)} {o : Expr} {lo : Expr} {p1 p2 pos : Pos} (ho : RE g S md n p o) (hl : RP g S md n pl (some lo)) : RS g S md n (mbind p fun a => mbind pl fun l => fun Q X st => l = some (-2) ∧ delLastM a (fun _ st' => Q .next st') X st) (.Delete [.Subscript o (.Slice (some lo) none none p1) p2] pos) := ⟨ref_DelLast ho.ok hl.ok⟩
theorem w_While {t : M Bool} {pb pe : M Fl} {test : Expr} {body orelse : List Stmt} {pos : Pos} (ht : RT g S .fn n t test) (hb : RB g S .fn n pb body) (he : RB g S .fn n pe orelse) : RS g S .fn n (whileM t pb pe) (.While test body orelse pos) := ⟨ref_While ht.ok hb.ok he.ok⟩
theorem w_AssertHolds {t : M Bool} {test : Expr} {msg : Option Expr} {pos : Pos} (ht : RT g S md n t test) : RS g S md n (mbind t fun b Q _ st => b = true ∧ Q .next st) (.Assert test msg pos) := ⟨ref_AssertHolds ht.ok⟩
theorem w_TryKey {pb ph : M Fl} {body : List Stmt} {b₀ : Stmt} {suite : List Stmt} {tp hp pos : Pos} (hb : RB g S .fn n pb body) (hh : RB g S .hand n ph (b₀ :: suite)) (bl : Blt g S "KeyError" (.type "KeyError")) : RS g S .fn n (tryKeyM pb ph) (.Try body [.ExceptHandler (some (.Name "KeyError" tp)) none (b₀ :: suite) hp] [] [] pos) := ⟨ref_TryKey hb.ok hh.ok bl⟩
theorem w_CallB {x : Str} {id : String} {p : M (List V)} {f : List V → M V} {e : Expr} {r : List Expr} {px pos : Pos} (b : Blt g S x (.builtin id)) (hp : RX g S md n p (e :: r)) (hc : CallV g md n (.builtin id) f) (he : ∀ env, starEach (e :: r) env = (false, eval e env) :: starEach r env := by intro _; rfl) (hpl : ∀ env, (backTo pos (starEach r env)).any (·.1) = false := by intro _; rfl) : RE g S md n (mbind p f) (.Call (.Name x px) (e :: r) [] pos) := ⟨ref_CallB b hp.ok hc he hpl⟩
theorem w_CallT {x : Str} {T : String} {p : M (List V)} {f : List V → M V} {e : Expr} {r : List Expr} {px pos : Pos} (b : Blt g S x (.type T)) (hp : RX g S md n p (e :: r)) (hc : CallV g md n (.type T) f) (he : ∀ env, starEach (e :: r) env = (false, eval e env) :: starEach r env := by intro _; rfl) (hpl : ∀ env, (backTo pos (starEach r env)).any (·.1) = false := by intro _; rfl) : RE g S md n (mbind p f) (.Call (.Name x px) (e :: r) [] pos) := ⟨ref_CallT b hp.ok hc he hpl⟩
theorem w_CallT0 {x : Str} {T : String} {f : List V → M V} {px pos : Pos} (b : Blt g S x (.type T)) (hc : CallV g md n (.type T) f) : RE g S md n (f []) (.Call (.Name x px) [] [] pos) := ⟨ref_CallT0 b hc⟩
theorem w_Meth1 {k : Kd} {name : Str} {id : String} {p : M V} {q : M (List V)} {f : List V → M V} {o e : Expr} {r : List Expr} {apos pos : Pos} {pl : Env → Sem Bool} (slot : Slot k.ty name id) (hty : typeOf (.builtin id) = pure (.type "method_descriptor")) (hc : CallV g md n (.builtin id) f) (ho : RE g S md n p o) (hq : RX g S md n q (e :: r)) (he : ∀ env, eval (.Call (.Attribute o name apos) (e :: r) [] pos) env = (do
   let ov ← eval o env
   standAt apos.atName
   let (f, first) ← holding [ov] (getMethod ov name (pl env))
   callWith pos f first (backTo pos (starEach (e :: r) env)) []) := by intro _; rfl) (he2 : ∀ env, starEach (e :: r) env = (false, eval e env) :: starEach r env := by intro _; rfl) (hpl : ∀ env, (backTo pos (starEach r env)).any (·.1) = false := by intro _; rfl) : RE g S md n (mbind p fun a => mbind (kindM k a) fun _ => mbind q fun vs => f (a :: vs)) (.Call (.Attribute o name apos) (e :: r) [] pos) := ⟨ref_Meth1 slot hty hc ho.ok hq.ok he he2 hpl⟩
theorem wTs_nil  : RTs g S md n (mret true) [] := ⟨refTs_nil ⟩
theorem wTs_one {p : M Bool} {t : Expr} (h : RT g S md n p t) : RTs g S md n p [t] := ⟨refTs_one h.ok⟩
theorem w_ListComp (hm : md ≠ .hand) (hc : compOk scope S = true) (hi : RIt g S md n psrc iter) (T : TgOk g (compS scope S) .comp n target asg) (ht : RTs g (compS scope S) .comp n pt ifs) (hel : RE g (compS scope S) .comp n pe elt) (hs : ∀ env x, foldedSetIterable iter env x = pure x := by intro _ _; rfl) : RE g S md n (compM scope psrc asg pt pe) (.ListComp elt [⟨target, iter, ifs, 0⟩] scope pos) := ⟨ref_ListComp hm hc hi.ok T ht.ok hel.ok hs⟩
theorem w_AssignComp {y : Str} {py spos : Pos} (hm : md ≠ .hand) (hv : stOk S y = true) (hc : compOk scope S = true) (hi : RIt g S md n psrc iter) (T : TgOk g (compS scope S) .comp n target asg) (ht : RTs g (compS scope S) .comp n pt ifs) (hel : RE g (compS scope S) .comp n pe elt) (hsw : ∀ env : Env, env.scope = S.sc → swapsWith (.ListComp elt [⟨target, iter, ifs, 0⟩] scope pos) (some (.Name y py)) spos.line env = pure true) (hs : ∀ env x, foldedSetIterable iter env x = pure x := by intro _ _; rfl) : RS g S md n (assignM y (compM scope psrc asg pt pe)) (.Assign [.Name y py] (.ListComp elt [⟨target, iter, ifs, 0⟩] scope pos) spos) := ⟨ref_AssignComp hm hv hc hi.ok T ht.ok hel.ok hsw hs⟩
theorem w_Dict0 {pos : Pos} : RE g S md n (fun Q _ st => ∀ a, st.μ a = none → ∀ ep, Q (.ref a) (st.put a (.dict [] ep))) (.Dict [] [] pos) := ⟨ref_Dict0 ⟩
theorem w_CallG {x : Str} {a : Addr} {p : M (List V)} {f : List V → M V} {e : Expr} {r : List Expr} {px pos : Pos} (b : Glb g S x (.ref a)) (hk : keepIn g.K (.ref a) = true) (hp : RX g S md n p (e :: r)) (hc : CallV g md n (.ref a) f) (he : ∀ env, starEach (e :: r) env = (false, eval e env) :: starEach r env := by intro _; rfl) (hpl : ∀ env, (backTo pos (starEach r env)).any (·.1) = false := by intro _; rfl) : RE g S md n (mbind p f) (.Call (.Name x px) (e :: r) [] pos) := ⟨ref_CallG b hk hp.ok hc he hpl⟩
theorem w_MethOwn {c fa : Addr} {nm : Str} {p : M V} {q : M (List V)} {f : List V → M V} {o e : Expr} {r : List Expr} {apos pos : Pos} {pl : Env → Sem Bool} (hB : methB g.K c nm fa = true) (hc : CallV g md n (.ref fa) f) (ho : RE g S md n p o) (hq : RX g S md n q (e :: r)) (he : ∀ env, eval (.Call (.Attribute o nm apos) (e :: r) [] pos) env = (do
   let ov ← eval o env
   standAt apos.atName
   let (f, first) ← holding [ov] (getMethod ov nm (pl env))
   callWith pos f first (backTo pos (starEach (e :: r) env)) []) := by intro _; rfl) (he2 : ∀ env, starEach (e :: r) env = (false, eval e env) :: starEach r env := by intro _; rfl) (hpl : ∀ env, (backTo pos (starEach r env)).any (·.1) = false := by intro _; rfl) : RE g S md n (mbind p fun a => mbind (instM c nm a) fun _ => mbind q fun vs => f (a :: vs)) (.Call (.Attribute o nm apos) (e :: r) [] pos) := ⟨ref_MethOwn hB hc ho.ok hq.ok he he2 hpl⟩
theorem w_MethOwn0 {c fa : Addr} {nm : Str} {p : M V} {f : List V → M V} {o : Expr} {apos pos : Pos} {pl : Env → Sem Bool} (hB : methB g.K c nm fa = true) (hc : CallV g md n (.ref fa) f) (ho : RE g S md n p o) (he : ∀ env, eval (.Call (.Attribute o nm apos) [] [] pos) env = (do
   let ov ← eval o env
   standAt apos.atName
   let (f, first) ← holding [ov] (getMethod ov nm (pl env))
   callWith pos f first (backTo pos (starEach [] env)) []) := by intro _; rfl) : RE g S md n (mbind p fun a => mbind (instM c nm a) fun _ => f [a]) (.Call (.Attribute o nm apos) [] [] pos) := ⟨ref_MethOwn0 hB hc ho.ok he⟩
theorem w_T_own {c fa : Addr} {f : List V → M V} {p : M V} {e : Expr} (hB : truB g.K c fa = true) (hc : CallV g .fn n (.ref fa) f) (h : RE g S .fn (n + 2) p e) (he : ∀ env whole, isTrue e env whole = (do let v ← whole; standAt e.pos; holding [v] (truthy v)) := by intro _ _; rfl) : RT g S .fn (n + 2) (mbind p fun v Q X st => lenOwnM c f v (fun i st' => Q (i != 0) st') X st) e := ⟨ref_T_own hB hc h.ok he⟩
theorem w_stuckS {e : Stmt} : RS g S md n mstuck e := ⟨ref_stuckS ⟩
theorem w_stuckB {e : List Stmt} : RB g S md n mstuck e := ⟨ref_stuckB ⟩
theorem w_T_InEmpty {x : Str} {a : Addr} {ep : Nat} {p : M V} {l : Expr} {px pos : Pos} (b : Glb g S x (.ref a)) (hl : g.K.lookup a = some ⟨.type "dict", none, .dict #[] ep, #[]⟩) (ha : (a == sysModules) = false) (h : RE g S md n p l) : RT g S md n (mbind p fun v Q _ st => (∃ k, v = .str k) ∧ Q false st) (.Compare l [.In] [.Name x px] pos) := ⟨ref_T_InEmpty b hl ha h.ok⟩
theorem w_F2 {p q : M V} {e1 e2 : Expr} {p1 p2 pos : Pos} (h1 : RE g S md n p e1) (h2 : RE g S md n q e2) : RE g S md n (mbind p fun a => mbind (fmtM a) fun x => mbind q fun b => mbind (fmtM b) fun y => mret (.str (x ++ y))) (.JoinedStr [.FormattedValue e1 (-1) none p1, .FormattedValue e2 (-1) none p2] pos) := ⟨ref_F2 h1.ok h2.ok⟩
theorem w_FromKeys {p : M (List V)} {e1 e2 : Expr} {p0 p1 pos : Pos} {pl : Env → Sem Bool} (b : Blt g S "dict" (.type "dict")) (hp : RX g S md n p [e1, e2]) (hf : findCls g.K (.type "dict") (.type "type") (PySem.Str.ofString "fromkeys") = some (.get (.builtin "classmethod_descriptor.__get__") (.builtin "dict.fromkeys") .none (.type "dict"))) (he : ∀ env, eval (.Call (.Attribute (.Name "dict" p0) "fromkeys" p1) [e1, e2] [] pos) env = (do
   let ov ← eval (.Name "dict" p0) env
   standAt p1.atName
   let (f, first) ← holding [ov] (getMethod ov "fromkeys" (pl env))
   callWith pos f first (backTo pos (starEach [e1, e2] env)) []) := by intro _; rfl) (he2 : ∀ env, starEach [e1, e2] env = (false, eval e1 env) :: starEach [e2] env := by intro _; rfl) (hpl : ∀ env, (backTo pos (starEach [e2] env)).any (·.1) = false := by intro _; rfl) : RE g S md n (mbind p fromkeysM) (.Call (.Attribute (.Name "dict" p0) "fromkeys" p1) [e1, e2] [] pos) := ⟨ref_FromKeys b hp.ok hf he he2 hpl⟩
theorem w_Lambda {p : M V} {params : Arguments} {d0 body : Expr} {scope : Scope} {pos : Pos} {c P : Addr} (hcode : S.code = some c) (hP : (c, P) ∈ g.tabs) (hfree : ∀ x ∈ scope.names, x.2 ≠ .free) (h : RE g S md n p d0) (hdef : ∀ env, defaultsOf params env = (evalEach [d0] env, []) := by intro _; rfl) (hee : ∀ env, evalEach [d0] env = [eval d0 env] := by intro _; rfl) : RE g S md n (mbind p (lamM P)) (.Lambda params body scope pos) := ⟨ref_Lambda hcode hP hfree h.ok hdef hee⟩
theorem w_CallClo {fname : Str} {params : Arguments} {body : List Stmt} {scope : Scope} {cl : List (Str × Addr)} {names : List Str} {pb : M Fl} {q : M (List V)} {e : Expr} {r : List Expr} {px pos : Pos} (hS : S.cl = some cl) (hv : varOk S.sc fname = true) (hb : RB g (markS scope cl) .fn n pb body) (hk : scope.kind = .function) (hco : scope.isCoroutine = false) (hgen : scope.isGenerator = false) (hfl : ((freeOf scope).all fun y => S.sc.names.lookup y == some .cell || S.sc.names.lookup y == some .free) = true) (hcell : ∀ x ∈ scope.names, x.2 ≠ .cell) (hloc : ∀ x ∈ names, scope.names.lookup x = some .local) (hnames : (scope.names.all fun x => scope.names.lookup x.1 == some x.2) = true) (hcl : ∀ y ∈ freeOf scope, (cl.lookup y).isSome = true) (hbind : ∀ (fd : FuncData) (vs : List Value), fd.params = params → fd.defaults = .none → fd.kwdefaults = .none → vs.length = names.length → bindArgs fd ⟨vs, []⟩ = pure (names.zip vs)) (hq : RX g S .fn (n + 1) q (e :: r)) (he : ∀ env, starEach (e :: r) env = (false, eval e env) :: starEach r env := by intro _; rfl) (hpl : ∀ env, (backTo pos (starEach r env)).any (·.1) = false := by intro _; rfl) : RE g S .fn (n + 1) (mbind (locM fname) fun fv => mbind (isFnM fv) fun _ => mbind q fun us => cloM params body scope cl names pb fv us) (.Call (.Name fname px) (e :: r) [] pos) := ⟨ref_CallClo hS hv hb.ok hk hco hgen hfl hcell hloc hnames hcl hbind hq.ok he hpl⟩
theorem w_Arrow {p q : M V} {e1 e2 : Expr} {k : Nat} {p1 p2 p3 pos : Pos} (h1 : RE g S md n p e1) (h2 : RE g S md n q e2) : RE g S md n (mbind p fun a => mbind (strM a) fun _ => mbind q fun b => arrowM a b) (.JoinedStr [.FormattedValue e1 115 none p1, .Constant (.str " -> ") k p2, .FormattedValue e2 115 none p3] pos) := ⟨ref_Arrow h1.ok h2.ok⟩
end Kk
end
section
namespace Kk
variable {g : Gx} {S : Sc} {md : Md} {n : Nat}
structure Mine (g : Gx) : Prop where
 K : g.K = HK g.w.params
 tabs : g.tabs = [(159, 157), (49, 45)]
noncomputable def fnOf (K : Frag) (a : Addr) : FuncData := match K.lookup a with
 | some ⟨_, _, .func fd, _⟩ => fd
 | _ => default
noncomputable def bodyOf (fd : FuncData) : List Stmt := match fd.body with | .stmts b => b | _ => []
noncomputable def kindB (fd : FuncData) (l : List Str) : Bool := l.all fun y => fd.scope.names.lookup y == some .local || (fd.scope.names.lookup y == some .cell && fd.scope.names.any fun p => p.1 == y && p.2 == .cell)
theorem binds_mk {fd : FuncData} {names : List Str} {tail : List (Str × Value)} {k : Nat} (hk : kindB fd (names ++ tail.map (·.1)) = true) (hb : ∀ vs : List Value, vs.length = k → ∀ s : Shared, g.K.In s.heap → BindsTo s fd ⟨vs, []⟩ (names.zip vs ++ tail)) : Binds g fd names tail k := ⟨hb, fun y hy => by
 have h2 := List.all_eq_true.mp hk y hy
 simp only [Bool.or_eq_true, beq_iff_eq, Bool.and_eq_true, List.any_eq_true] at h2
 rcases h2 with h2 | ⟨h2, p, hp, e1, e2⟩
 ·exact .inl h2
 ·exact .inr ⟨h2, by obtain ⟨a, b⟩ := p; dsimp only at e1 e2; subst e1; subst e2; exact hp⟩⟩
theorem lenS {P : List Value → Prop} {n : Nat} (h : ∀ a r, r.length = n → P (a :: r)) : ∀ vs : List Value, vs.length = n + 1 → P vs := fun vs => match vs with
 | [] => fun e => (nomatch e)
 | a :: r => fun e => h a r (Nat.succ.inj e)
theorem lenZ {P : List Value → Prop} (h : P []) : ∀ vs : List Value, vs.length = 0 → P vs := fun vs => match vs with
 | [] => fun _ => h
 | a :: r => fun e => (nomatch e)
theorem bdN1 {fd : FuncData} {names : List Str} {tail : List (Str × Value)} (hk : kindB fd (names ++ tail.map (·.1)) = true) (hb : ∀ a0 S, peek g.K S (bindArgs fd ⟨[a0], []⟩) = some (names.zip [a0] ++ tail)) : Binds g fd names tail 1 :=
 binds_mk hk (lenS (P := fun vs => ∀ s : Shared, g.K.In s.heap → BindsTo s fd ⟨vs, []⟩ (names.zip (vs) ++ tail)) fun a0 => lenZ (P := fun vs => ∀ s : Shared, g.K.In s.heap → BindsTo s fd ⟨a0 :: vs, []⟩ (names.zip (a0 :: vs) ++ tail)) fun s X => kp_binds X (hb a0))
theorem bdN2 {fd : FuncData} {names : List Str} {tail : List (Str × Value)} (hk : kindB fd (names ++ tail.map (·.1)) = true) (hb : ∀ a0 a1 S, peek g.K S (bindArgs fd ⟨[a0, a1], []⟩) = some (names.zip [a0, a1] ++ tail)) : Binds g fd names tail 2 :=
 binds_mk hk (lenS (P := fun vs => ∀ s : Shared, g.K.In s.heap → BindsTo s fd ⟨vs, []⟩ (names.zip (vs) ++ tail)) fun a0 => lenS (P := fun vs => ∀ s : Shared, g.K.In s.heap → BindsTo s fd ⟨a0 :: vs, []⟩ (names.zip (a0 :: vs) ++ tail)) fun a1 => lenZ (P := fun vs => ∀ s : Shared, g.K.In s.heap → BindsTo s fd ⟨a0 :: a1 :: vs, []⟩ (names.zip (a0 :: a1 :: vs) ++ tail)) fun s X => kp_binds X (hb a0 a1))
theorem bdN4 {fd : FuncData} {names : List Str} {tail : List (Str × Value)} (hk : kindB fd (names ++ tail.map (·.1)) = true) (hb : ∀ a0 a1 a2 a3 S, peek g.K S (bindArgs fd ⟨[a0, a1, a2, a3], []⟩) = some (names.zip [a0, a1, a2, a3] ++ tail)) : Binds g fd names tail 4 :=
 binds_mk hk (lenS (P := fun vs => ∀ s : Shared, g.K.In s.heap → BindsTo s fd ⟨vs, []⟩ (names.zip (vs) ++ tail)) fun a0 => lenS (P := fun vs => ∀ s : Shared, g.K.In s.heap → BindsTo s fd ⟨a0 :: vs, []⟩ (names.zip (a0 :: vs) ++ tail)) fun a1 => lenS (P := fun vs => ∀ s : Shared, g.K.In s.heap → BindsTo s fd ⟨a0 :: a1 :: vs, []⟩ (names.zip (a0 :: a1 :: vs) ++ tail)) fun a2 => lenS (P := fun vs => ∀ s : Shared, g.K.In s.heap → BindsTo s fd ⟨a0 :: a1 :: a2 :: vs, []⟩ (names.zip (a0 :: a1 :: a2 :: vs) ++ tail)) fun a3 => lenZ (P := fun vs => ∀ s : Shared, g.K.In s.heap → BindsTo s fd ⟨a0 :: a1 :: a2 :: a3 :: vs, []⟩ (names.zip (a0 :: a1 :: a2 :: a3 :: vs) ++ tail)) fun s X => kp_binds X (hb a0 a1 a2 a3))
theorem bdN6 {fd : FuncData} {names : List Str} {tail : List (Str × Value)} (hk : kindB fd (names ++ tail.map (·.1)) = true) (hb : ∀ a0 a1 a2 a3 a4 a5 S, peek g.K S (bindArgs fd ⟨[a0, a1, a2, a3, a4, a5], []⟩) = some (names.zip [a0, a1, a2, a3, a4, a5] ++ tail)) : Binds g fd names tail 6 :=
 binds_mk hk (lenS (P := fun vs => ∀ s : Shared, g.K.In s.heap → BindsTo s fd ⟨vs, []⟩ (names.zip (vs) ++ tail)) fun a0 => lenS (P := fun vs => ∀ s : Shared, g.K.In s.heap → BindsTo s fd ⟨a0 :: vs, []⟩ (names.zip (a0 :: vs) ++ tail)) fun a1 => lenS (P := fun vs => ∀ s : Shared, g.K.In s.heap → BindsTo s fd ⟨a0 :: a1 :: vs, []⟩ (names.zip (a0 :: a1 :: vs) ++ tail)) fun a2 => lenS (P := fun vs => ∀ s : Shared, g.K.In s.heap → BindsTo s fd ⟨a0 :: a1 :: a2 :: vs, []⟩ (names.zip (a0 :: a1 :: a2 :: vs) ++ tail)) fun a3 => lenS (P := fun vs => ∀ s : Shared, g.K.In s.heap → BindsTo s fd ⟨a0 :: a1 :: a2 :: a3 :: vs, []⟩ (names.zip (a0 :: a1 :: a2 :: a3 :: vs) ++ tail)) fun a4 => lenS (P := fun vs => ∀ s : Shared, g.K.In s.heap → BindsTo s fd ⟨a0 :: a1 :: a2 :: a3 :: a4 :: vs, []⟩ (names.zip (a0 :: a1 :: a2 :: a3 :: a4 :: vs) ++ tail)) fun a5 => lenZ (P := fun vs => ∀ s : Shared, g.K.In s.heap → BindsTo s fd ⟨a0 :: a1 :: a2 :: a3 :: a4 :: a5 :: vs, []⟩ (names.zip (a0 :: a1 :: a2 :: a3 :: a4 :: a5 :: vs) ++ tail)) fun s X => kp_binds X (hb a0 a1 a2 a3 a4 a5))
theorem bdN8 {fd : FuncData} {names : List Str} {tail : List (Str × Value)} (hk : kindB fd (names ++ tail.map (·.1)) = true) (hb : ∀ a0 a1 a2 a3 a4 a5 a6 a7 S, peek g.K S (bindArgs fd ⟨[a0, a1, a2, a3, a4, a5, a6, a7], []⟩) = some (names.zip [a0, a1, a2, a3, a4, a5, a6, a7] ++ tail)) : Binds g fd names tail 8 :=
 binds_mk hk (lenS (P := fun vs => ∀ s : Shared, g.K.In s.heap → BindsTo s fd ⟨vs, []⟩ (names.zip (vs) ++ tail)) fun a0 => lenS (P := fun vs => ∀ s : Shared, g.K.In s.heap → BindsTo s fd ⟨a0 :: vs, []⟩ (names.zip (a0 :: vs) ++ tail)) fun a1 => lenS (P := fun vs => ∀ s : Shared, g.K.In s.heap → BindsTo s fd ⟨a0 :: a1 :: vs, []⟩ (names.zip (a0 :: a1 :: vs) ++ tail)) fun a2 => lenS (P := fun vs => ∀ s : Shared, g.K.In s.heap → BindsTo s fd ⟨a0 :: a1 :: a2 :: vs, []⟩ (names.zip (a0 :: a1 :: a2 :: vs) ++ tail)) fun a3 => lenS (P := fun vs => ∀ s : Shared, g.K.In s.heap → BindsTo s fd ⟨a0 :: a1 :: a2 :: a3 :: vs, []⟩ (names.zip (a0 :: a1 :: a2 :: a3 :: vs) ++ tail)) fun a4 => lenS (P := fun vs => ∀ s : Shared, g.K.In s.heap → BindsTo s fd ⟨a0 :: a1 :: a2 :: a3 :: a4 :: vs, []⟩ (names.zip (a0 :: a1 :: a2 :: a3 :: a4 :: vs) ++ tail)) fun a5 => lenS (P := fun vs => ∀ s : Shared, g.K.In s.heap → BindsTo s fd ⟨a0 :: a1 :: a2 :: a3 :: a4 :: a5 :: vs, []⟩ (names.zip (a0 :: a1 :: a2 :: a3 :: a4 :: a5 :: vs) ++ tail)) fun a6 => lenS (P := fun vs => ∀ s : Shared, g.K.In s.heap → BindsTo s fd ⟨a0 :: a1 :: a2 :: a3 :: a4 :: a5 :: a6 :: vs, []⟩ (names.zip (a0 :: a1 :: a2 :: a3 :: a4 :: a5 :: a6 :: vs) ++ tail)) fun a7 => lenZ (P := fun vs => ∀ s : Shared, g.K.In s.heap → BindsTo s fd ⟨a0 :: a1 :: a2 :: a3 :: a4 :: a5 :: a6 :: a7 :: vs, []⟩ (names.zip (a0 :: a1 :: a2 :: a3 :: a4 :: a5 :: a6 :: a7 :: vs) ++ tail)) fun s X => kp_binds X (hb a0 a1 a2 a3 a4 a5 a6 a7))
noncomputable def fn (g : Gx) (a : Addr) : FuncData := fnOf (HK g.w.params) a
theorem ty_append : typeOf (.builtin "list.append") = pure (.type "method_descriptor") := by show builtinType _ = _; rw [builtinType_eq_fast]; kernel_rfl
theorem ty_index : typeOf (.builtin "list.index") = pure (.type "method_descriptor") := by show builtinType _ = _; rw [builtinType_eq_fast]; kernel_rfl
theorem ty_get : typeOf (.builtin "dict.get") = pure (.type "method_descriptor") := by show builtinType _ = _; rw [builtinType_eq_fast]; kernel_rfl
theorem ty_setdefault : typeOf (.builtin "dict.setdefault") = pure (.type "method_descriptor") := by show builtinType _ = _; rw [builtinType_eq_fast]; kernel_rfl
theorem ty_add : typeOf (.builtin "set.add") = pure (.type "method_descriptor") := by show builtinType _ = _; rw [builtinType_eq_fast]; kernel_rfl
theorem at_Productions (m : Mine g) : attrB g.K 227 "Productions" = true := by rw [m.K]; kernel_rfl
theorem st_Productions (m : Mine g) : setB g.K 227 "Productions" = true := by rw [m.K]; kernel_rfl
theorem at_Prodnames (m : Mine g) : attrB g.K 227 "Prodnames" = true := by rw [m.K]; kernel_rfl
theorem st_Prodnames (m : Mine g) : setB g.K 227 "Prodnames" = true := by rw [m.K]; kernel_rfl
theorem at_Prodmap (m : Mine g) : attrB g.K 227 "Prodmap" = true := by rw [m.K]; kernel_rfl
theorem st_Prodmap (m : Mine g) : setB g.K 227 "Prodmap" = true := by rw [m.K]; kernel_rfl
theorem at_Terminals (m : Mine g) : attrB g.K 227 "Terminals" = true := by rw [m.K]; kernel_rfl
theorem st_Terminals (m : Mine g) : setB g.K 227 "Terminals" = true := by rw [m.K]; kernel_rfl
theorem at_Nonterminals (m : Mine g) : attrB g.K 227 "Nonterminals" = true := by rw [m.K]; kernel_rfl
theorem st_Nonterminals (m : Mine g) : setB g.K 227 "Nonterminals" = true := by rw [m.K]; kernel_rfl
theorem st_First (m : Mine g) : setB g.K 227 "First" = true := by rw [m.K]; kernel_rfl
theorem st_Follow (m : Mine g) : setB g.K 227 "Follow" = true := by rw [m.K]; kernel_rfl
theorem at_Precedence (m : Mine g) : attrB g.K 227 "Precedence" = true := by rw [m.K]; kernel_rfl
theorem st_Precedence (m : Mine g) : setB g.K 227 "Precedence" = true := by rw [m.K]; kernel_rfl
theorem at_UsedPrecedence (m : Mine g) : attrB g.K 227 "UsedPrecedence" = true := by rw [m.K]; kernel_rfl
theorem st_UsedPrecedence (m : Mine g) : setB g.K 227 "UsedPrecedence" = true := by rw [m.K]; kernel_rfl
theorem st_Start (m : Mine g) : setB g.K 227 "Start" = true := by rw [m.K]; kernel_rfl
theorem at_name (m : Mine g) : attrB g.K 81 "name" = true := by rw [m.K]; kernel_rfl
theorem st_name (m : Mine g) : setB g.K 81 "name" = true := by rw [m.K]; kernel_rfl
theorem at_prod (m : Mine g) : attrB g.K 81 "prod" = true := by rw [m.K]; kernel_rfl
theorem st_prod (m : Mine g) : setB g.K 81 "prod" = true := by rw [m.K]; kernel_rfl
theorem at_number (m : Mine g) : attrB g.K 81 "number" = true := by rw [m.K]; kernel_rfl
theorem st_number (m : Mine g) : setB g.K 81 "number" = true := by rw [m.K]; kernel_rfl
theorem st_func (m : Mine g) : setB g.K 81 "func" = true := by rw [m.K]; kernel_rfl
theorem st_file (m : Mine g) : setB g.K 81 "file" = true := by rw [m.K]; kernel_rfl
theorem st_line (m : Mine g) : setB g.K 81 "line" = true := by rw [m.K]; kernel_rfl
theorem st_prec (m : Mine g) : setB g.K 81 "prec" = true := by rw [m.K]; kernel_rfl
theorem st_len (m : Mine g) : setB g.K 81 "len" = true := by rw [m.K]; kernel_rfl
theorem at_usyms (m : Mine g) : attrB g.K 81 "usyms" = true := by rw [m.K]; kernel_rfl
theorem st_usyms (m : Mine g) : setB g.K 81 "usyms" = true := by rw [m.K]; kernel_rfl
theorem st_namemap (m : Mine g) : setB g.K 81 "namemap" = true := by rw [m.K]; kernel_rfl
theorem st_lr_items (m : Mine g) : setB g.K 81 "lr_items" = true := by rw [m.K]; kernel_rfl
theorem st_lr_next (m : Mine g) : setB g.K 81 "lr_next" = true := by rw [m.K]; kernel_rfl
theorem b_len (m : Mine g) (h : S.sc.names.lookup ("len" : Str) = some .globalImplicit) : Blt g S "len" (.builtin "len") := ⟨h, by decide +kernel, by decide +kernel, by rw [m.K]; kernel_rfl, by kernel_rfl⟩
theorem b_tuple (m : Mine g) (h : S.sc.names.lookup ("tuple" : Str) = some .globalImplicit) : Blt g S "tuple" (.type "tuple") := ⟨h, by decide +kernel, by decide +kernel, by rw [m.K]; kernel_rfl, by kernel_rfl⟩
theorem b_set (m : Mine g) (h : S.sc.names.lookup ("set" : Str) = some .globalImplicit) : Blt g S "set" (.type "set") := ⟨h, by decide +kernel, by decide +kernel, by rw [m.K]; kernel_rfl, by kernel_rfl⟩
theorem b_range (m : Mine g) (h : S.sc.names.lookup ("range" : Str) = some .globalImplicit) : Blt g S "range" (.type "range") := ⟨h, by decide +kernel, by decide +kernel, by rw [m.K]; kernel_rfl, by kernel_rfl⟩
theorem b_enumerate (m : Mine g) (h : S.sc.names.lookup ("enumerate" : Str) = some .globalImplicit) : Blt g S "enumerate" (.type "enumerate") := ⟨h, by decide +kernel, by decide +kernel, by rw [m.K]; kernel_rfl, by kernel_rfl⟩
theorem b_dict (m : Mine g) (h : S.sc.names.lookup ("dict" : Str) = some .globalImplicit) : Blt g S "dict" (.type "dict") := ⟨h, by decide +kernel, by decide +kernel, by rw [m.K]; kernel_rfl, by kernel_rfl⟩
theorem b_KeyError (m : Mine g) (h : S.sc.names.lookup ("KeyError" : Str) = some .globalImplicit) : Blt g S "KeyError" (.type "KeyError") := ⟨h, by decide +kernel, by decide +kernel, by rw [m.K]; kernel_rfl, by kernel_rfl⟩
theorem gl_Production (m : Mine g) (h : S.sc.names.lookup ("Production" : Str) = some .globalImplicit) : Glb g S "Production" (.ref 81) := ⟨h, by decide +kernel, by rw [m.K]; kernel_rfl⟩
theorem kp_Production (m : Mine g) : keepIn g.K (.ref 81) = true := by rw [m.K]; kernel_rfl
theorem gl_rightmost_terminal (m : Mine g) (h : S.sc.names.lookup ("rightmost_terminal" : Str) = some .globalImplicit) : Glb g S "rightmost_terminal" (.ref 92) := ⟨h, by decide +kernel, by rw [m.K]; kernel_rfl⟩
theorem kp_rightmost_terminal (m : Mine g) : keepIn g.K (.ref 92) = true := by rw [m.K]; kernel_rfl
theorem gl_Grammar (m : Mine g) (h : S.sc.names.lookup ("Grammar" : Str) = some .globalImplicit) : Glb g S "Grammar" (.ref 227) := ⟨h, by decide +kernel, by rw [m.K]; kernel_rfl⟩
theorem kp_Grammar (m : Mine g) : keepIn g.K (.ref 227) = true := by rw [m.K]; kernel_rfl
theorem gl__name_aliases (m : Mine g) (h : S.sc.names.lookup ("_name_aliases" : Str) = some .globalImplicit) : Glb g S "_name_aliases" (.ref 232) := ⟨h, by decide +kernel, by rw [m.K]; kernel_rfl⟩
theorem gl__law_rows (m : Mine g) (h : S.sc.names.lookup ("_law_rows" : Str) = some .globalImplicit) : Glb g S "_law_rows" (.ref 237) := ⟨h, by decide +kernel, by rw [m.K]; kernel_rfl⟩
theorem kp__law_rows (m : Mine g) : keepIn g.K (.ref 237) = true := by rw [m.K]; kernel_rfl
theorem lk_aliases (m : Mine g) : g.K.lookup 232 = some ⟨.type "dict", none, .dict #[] 0, #[]⟩ := by rw [m.K]; kernel_rfl
theorem mt_set_precedence (m : Mine g) : methB g.K 227 "set_precedence" 139 = true := by rw [m.K]; kernel_rfl
theorem mt_add_production (m : Mine g) : methB g.K 227 "add_production" 147 = true := by rw [m.K]; kernel_rfl
theorem mt_set_start (m : Mine g) : methB g.K 227 "set_start" 155 = true := by rw [m.K]; kernel_rfl
theorem mt_find_unreachable (m : Mine g) : methB g.K 227 "find_unreachable" 160 = true := by rw [m.K]; kernel_rfl
theorem mt_infinite_cycles (m : Mine g) : methB g.K 227 "infinite_cycles" 167 = true := by rw [m.K]; kernel_rfl
theorem mt_undefined_symbols (m : Mine g) : methB g.K 227 "undefined_symbols" 174 = true := by rw [m.K]; kernel_rfl
theorem mt_unused_terminals (m : Mine g) : methB g.K 227 "unused_terminals" 181 = true := by rw [m.K]; kernel_rfl
theorem mt_unused_rules (m : Mine g) : methB g.K 227 "unused_rules" 188 = true := by rw [m.K]; kernel_rfl
theorem mt_unused_precedence (m : Mine g) : methB g.K 227 "unused_precedence" 195 = true := by rw [m.K]; kernel_rfl
theorem tr_Production (m : Mine g) : truB g.K 81 71 = true := by rw [m.K]; kernel_rfl
theorem mk_Production (m : Mine g) : makeB g.K 81 50 = true := by rw [m.K]; kernel_rfl
theorem mk_Grammar (m : Mine g) : makeB g.K 227 118 = true := by rw [m.K]; kernel_rfl
theorem fk_find (m : Mine g) : findCls g.K (.type "dict") (.type "type") (PySem.Str.ofString "fromkeys") = some (.get (.builtin "classmethod_descriptor.__get__") (.builtin "dict.fromkeys") .none (.type "dict")) := by rw [m.K]; kernel_rfl
theorem is_init_P (m : Mine g) : IsFn g 50 (fn g 50) (bodyOf (fn g 50)) := ⟨⟨_, by rw [m.K]; rfl, rfl⟩, by rw [m.K]; kernel_rfl, rfl, rfl, rfl, rfl, rfl, rfl, rfl⟩
theorem is_len_P (m : Mine g) : IsFn g 71 (fn g 71) (bodyOf (fn g 71)) := ⟨⟨_, by rw [m.K]; rfl, rfl⟩, by rw [m.K]; kernel_rfl, rfl, rfl, rfl, rfl, rfl, rfl, rfl⟩
theorem is_rightmost (m : Mine g) : IsFn g 92 (fn g 92) (bodyOf (fn g 92)) := ⟨⟨_, by rw [m.K]; rfl, rfl⟩, by rw [m.K]; kernel_rfl, rfl, rfl, rfl, rfl, rfl, rfl, rfl⟩
theorem is_init_G (m : Mine g) : IsFn g 118 (fn g 118) (bodyOf (fn g 118)) := ⟨⟨_, by rw [m.K]; rfl, rfl⟩, by rw [m.K]; kernel_rfl, rfl, rfl, rfl, rfl, rfl, rfl, rfl⟩
theorem is_set_precedence (m : Mine g) : IsFn g 139 (fn g 139) (bodyOf (fn g 139)) := ⟨⟨_, by rw [m.K]; rfl, rfl⟩, by rw [m.K]; kernel_rfl, rfl, rfl, rfl, rfl, rfl, rfl, rfl⟩
theorem is_add_production (m : Mine g) : IsFn g 147 (fn g 147) (bodyOf (fn g 147)) := ⟨⟨_, by rw [m.K]; rfl, rfl⟩, by rw [m.K]; kernel_rfl, rfl, rfl, rfl, rfl, rfl, rfl, rfl⟩
theorem is_set_start (m : Mine g) : IsFn g 155 (fn g 155) (bodyOf (fn g 155)) := ⟨⟨_, by rw [m.K]; rfl, rfl⟩, by rw [m.K]; kernel_rfl, rfl, rfl, rfl, rfl, rfl, rfl, rfl⟩
theorem is_find_unreachable (m : Mine g) : IsFn g 160 (fn g 160) (bodyOf (fn g 160)) := ⟨⟨_, by rw [m.K]; rfl, rfl⟩, by rw [m.K]; kernel_rfl, rfl, rfl, rfl, rfl, rfl, rfl, rfl⟩
theorem is_infinite_cycles (m : Mine g) : IsFn g 167 (fn g 167) (bodyOf (fn g 167)) := ⟨⟨_, by rw [m.K]; rfl, rfl⟩, by rw [m.K]; kernel_rfl, rfl, rfl, rfl, rfl, rfl, rfl, rfl⟩
theorem is_undefined_symbols (m : Mine g) : IsFn g 174 (fn g 174) (bodyOf (fn g 174)) := ⟨⟨_, by rw [m.K]; rfl, rfl⟩, by rw [m.K]; kernel_rfl, rfl, rfl, rfl, rfl, rfl, rfl, rfl⟩
theorem is_unused_terminals (m : Mine g) : IsFn g 181 (fn g 181) (bodyOf (fn g 181)) := ⟨⟨_, by rw [m.K]; rfl, rfl⟩, by rw [m.K]; kernel_rfl, rfl, rfl, rfl, rfl, rfl, rfl, rfl⟩
theorem is_unused_rules (m : Mine g) : IsFn g 188 (fn g 188) (bodyOf (fn g 188)) := ⟨⟨_, by rw [m.K]; rfl, rfl⟩, by rw [m.K]; kernel_rfl, rfl, rfl, rfl, rfl, rfl, rfl, rfl⟩
theorem is_unused_precedence (m : Mine g) : IsFn g 195 (fn g 195) (bodyOf (fn g 195)) := ⟨⟨_, by rw [m.K]; rfl, rfl⟩, by rw [m.K]; kernel_rfl, rfl, rfl, rfl, rfl, rfl, rfl, rfl⟩
theorem is_law_rows (m : Mine g) : IsFn g 237 (fn g 237) (bodyOf (fn g 237)) := ⟨⟨_, by rw [m.K]; rfl, rfl⟩, by rw [m.K]; kernel_rfl, rfl, rfl, rfl, rfl, rfl, rfl, rfl⟩
end Kk
end
section
set_option maxHeartbeats 4000000
namespace Kk
variable {g : Gx} {S : Sc} {md : Md} {n : Nat}
noncomputable def r_init_P (m : Mine g) : { p : M Fl // RefB g (fnS (fn g 50)) .fn n p (bodyOf (fn g 50)) } := ⟨_, RB.ok
 (w_cons (w_AssignAttr (st_name m) (w_Name (by kernel_rfl)) (w_Name (by kernel_rfl)))
 (w_cons (w_AssignAttr (st_prod m) (w_CallT (b_tuple m (by kernel_rfl)) (wX_c (w_Name (by kernel_rfl)) wX_nil) call_tuple) (w_Name (by kernel_rfl)))
 (w_cons (w_AssignAttr (st_number m) (w_Name (by kernel_rfl)) (w_Name (by kernel_rfl)))
 (w_cons (w_AssignAttr (st_func m) (w_Name (by kernel_rfl)) (w_Name (by kernel_rfl)))
 (w_cons (w_AssignAttr (st_file m) (w_Name (by kernel_rfl)) (w_Name (by kernel_rfl)))
 (w_cons (w_AssignAttr (st_line m) (w_Name (by kernel_rfl)) (w_Name (by kernel_rfl)))
 (w_cons (w_AssignAttr (st_prec m) (w_Name (by kernel_rfl)) (w_Name (by kernel_rfl)))
 (w_cons (w_AssignAttr (st_len m) (w_CallB (b_len m (by kernel_rfl)) (wX_c (w_Attribute (at_prod m) (w_Name (by kernel_rfl))) wX_nil) call_len) (w_Name (by kernel_rfl)))
 (w_cons (w_AssignAttr (st_usyms m) (w_List wX_nil) (w_Name (by kernel_rfl)))
 (w_cons (w_For (w_enum (by intro h; k_call_by "c" h) (b_enumerate m (by kernel_rfl)) (w_Attribute (at_prod m) (w_Name (by kernel_rfl)))) (tg_Tuple (by intro h; k_call_by "c" h) (.cons (.cons .nil)) (by kernel_rfl))
  (w_one (w_If (w_T_Compare (w_Name (by kernel_rfl)) (w_Attribute (at_usyms m) (w_Name (by kernel_rfl))))
   (w_one (w_Expr (w_Meth1 (k := .list) PySem.F.slot_list_append ty_append call_append (w_Attribute (at_usyms m) (w_Name (by kernel_rfl))) (wX_c (w_Name (by kernel_rfl)) wX_nil)))) w_nil)) w_nil)
 (w_cons (w_Assign (by kernel_rfl) w_Dict0)
 (w_cons (w_For (w_seq (by intro h; k_call_by "c" h) (w_Attribute (at_prod m) (w_Name (by kernel_rfl)))) (tg_Name (by kernel_rfl))
  (w_cons (w_Expr (w_Meth1 (k := .dict) PySem.F.slot_dict_setdefault ty_setdefault call_setdefault (w_Name (by kernel_rfl)) (wX_c (w_Name (by kernel_rfl)) (wX_c w_Int wX_nil))))
  (w_cons (w_AugSub (by intro h; k_call_by "c" h) (w_Name (by kernel_rfl)) (w_Name (by kernel_rfl)) w_Int)
  (w_one (w_If (w_T_InEmpty (gl__name_aliases m (by kernel_rfl)) (lk_aliases m) (by decide) (w_Name (by kernel_rfl))) w_stuckB w_nil)))) w_nil)
 (w_cons (w_Assign (by kernel_rfl) (w_FromKeys (b_dict m (by kernel_rfl)) (wX_c (w_Name (by kernel_rfl)) (wX_c w_Int wX_nil)) (fk_find m)))
 (w_cons (w_Assign (by kernel_rfl) w_Dict0)
 (w_cons (w_For (w_enum (by intro h; k_call_by "c" h) (b_enumerate m (by kernel_rfl)) (w_Attribute (at_prod m) (w_Name (by kernel_rfl)))) (tg_Tuple (by intro h; k_call_by "c" h) (.cons (.cons .nil)) (by kernel_rfl))
  (w_cons (w_If (w_T_Compare (w_Subscript (by intro h; k_call_by "c" h) (w_Name (by kernel_rfl)) (w_Name (by kernel_rfl))) w_Int)
   (w_cons (w_Assign (by kernel_rfl) (w_F2 (w_Name (by kernel_rfl)) (w_Subscript (by intro h; k_call_by "c" h) (w_Name (by kernel_rfl)) (w_Name (by kernel_rfl)))))
   (w_one (w_AugSub (by intro h; k_call_by "c" h) (w_Name (by kernel_rfl)) (w_Name (by kernel_rfl)) w_Int)))
   (w_one (w_Assign (by kernel_rfl) (w_Name (by kernel_rfl)))))
  (w_cons (w_AssignSub (w_Lambda (c := 49) (P := 45) (by kernel_rfl) (by rw [m.tabs]; decide) (by decide +kernel) (w_Name (by kernel_rfl))) (w_Name (by kernel_rfl)) (w_Name (by kernel_rfl)))
  (w_one (w_If (w_T_InEmpty (gl__name_aliases m (by kernel_rfl)) (lk_aliases m) (by decide) (w_Name (by kernel_rfl))) w_stuckB w_nil)))) w_nil)
 (w_cons (w_AssignAttr (st_namemap m) (w_Name (by kernel_rfl)) (w_Name (by kernel_rfl)))
 (w_cons (w_AssignAttr (st_lr_items m) (w_List wX_nil) (w_Name (by kernel_rfl)))
 (w_one (w_AssignAttr (st_lr_next m) w_None (w_Name (by kernel_rfl)))))))))))))))))))))⟩
noncomputable def r_len_P (m : Mine g) : { p : M Fl // RefB g (fnS (fn g 71)) .fn n p (bodyOf (fn g 71)) } := ⟨_, RB.ok
 (w_one (w_Return (w_CallB (b_len m (by kernel_rfl)) (wX_c (w_Attribute (at_prod m) (w_Name (by kernel_rfl))) wX_nil) call_len)))⟩
noncomputable def r_rightmost (m : Mine g) : { p : M Fl // RefB g (fnS (fn g 92)) .fn n p (bodyOf (fn g 92)) } := ⟨_, RB.ok
 (w_cons (w_Assign (by kernel_rfl) (w_BinOp (w_CallB (b_len m (by kernel_rfl)) (wX_c (w_Name (by kernel_rfl)) wX_nil) call_len) w_Int))
 (w_cons (w_While (w_T_Compare (w_Name (by kernel_rfl)) w_Int)
  (w_cons (w_If (w_T_Compare (w_Subscript (by intro h; k_call_by "c" h) (w_Name (by kernel_rfl)) (w_Name (by kernel_rfl))) (w_Name (by kernel_rfl)))
   (w_one (w_Return (w_Subscript (by intro h; k_call_by "c" h) (w_Name (by kernel_rfl)) (w_Name (by kernel_rfl))))) w_nil)
  (w_one (w_AugName (by kernel_rfl) (by kernel_rfl) w_Int))) w_nil)
 (w_one (w_Return w_None))))⟩
noncomputable def r_init_G (m : Mine g) : { p : M Fl // RefB g (fnS (fn g 118)) .fn n p (bodyOf (fn g 118)) } := ⟨_, RB.ok
 (w_cons (w_AssignAttr (st_Productions m) (w_List (wX_c w_None wX_nil)) (w_Name (by kernel_rfl)))
 (w_cons (w_AssignAttr (st_Prodnames m) w_Dict0 (w_Name (by kernel_rfl)))
 (w_cons (w_AssignAttr (st_Prodmap m) w_Dict0 (w_Name (by kernel_rfl)))
 (w_cons (w_AssignAttr (st_Terminals m) w_Dict0 (w_Name (by kernel_rfl)))
 (w_cons (w_For (w_seq (by intro h; k_call_by "c" h) (w_Name (by kernel_rfl))) (tg_Name (by kernel_rfl))
  (w_one (w_AssignSub (w_List wX_nil) (w_Attribute (at_Terminals m) (w_Name (by kernel_rfl))) (w_Name (by kernel_rfl)))) w_nil)
 (w_cons (w_AssignSub (w_List wX_nil) (w_Attribute (at_Terminals m) (w_Name (by kernel_rfl))) w_Str)
 (w_cons (w_AssignAttr (st_Nonterminals m) w_Dict0 (w_Name (by kernel_rfl)))
 (w_cons (w_AssignAttr (st_First m) w_Dict0 (w_Name (by kernel_rfl)))
 (w_cons (w_AssignAttr (st_Follow m) w_Dict0 (w_Name (by kernel_rfl)))
 (w_cons (w_AssignAttr (st_Precedence m) w_Dict0 (w_Name (by kernel_rfl)))
 (w_cons (w_AssignAttr (st_UsedPrecedence m) (w_CallT0 (b_set m (by kernel_rfl)) call_set) (w_Name (by kernel_rfl)))
 (w_one (w_AssignAttr (st_Start m) w_None (w_Name (by kernel_rfl)))))))))))))))⟩
noncomputable def r_set_precedence (m : Mine g) : { p : M Fl // RefB g (fnS (fn g 139)) .fn n p (bodyOf (fn g 139)) } := ⟨_, RB.ok
 (w_cons (w_AssertHolds (w_T_Compare (w_Attribute (at_Productions m) (w_Name (by kernel_rfl))) (w_List (wX_c w_None wX_nil))))
 (w_cons (w_If (w_T_Compare (w_Name (by kernel_rfl)) (w_Attribute (at_Precedence m) (w_Name (by kernel_rfl))))
  (w_one w_stuckS) w_nil)
 (w_cons (w_If (w_T_Compare (w_Name (by kernel_rfl)) (w_List (wX_c w_Str (wX_c w_Str (wX_c w_Str wX_nil)))))
  (w_one w_stuckS) w_nil)
 (w_one (w_AssignSub (w_Tuple (wX_c (w_Name (by kernel_rfl)) (wX_c (w_Name (by kernel_rfl)) wX_nil))) (w_Attribute (at_Precedence m) (w_Name (by kernel_rfl))) (w_Name (by kernel_rfl)))))))⟩
theorem bd_Production (m : Mine g) : Binds g (fn g 50) ["self", "number", "name", "prod", "precedence", "func", "file", "line"] [] 8 := bdN8 (by kernel_rfl) (by rw [m.K]; intros; kernel_rfl)
theorem cv_Production (m : Mine g) : CallV g .fn (n + 1) (.ref 81) (makeM 81 (fnM ["self", "number", "name", "prod", "precedence", "func", "file", "line"] (([] : List (Str × Value)).map fun p => (p.1, er p.2)) 8 (r_init_P (n := n) m).1)) := callV_cls (mk_Production m) (is_init_P m) (bd_Production m) (r_init_P m).2
theorem bd_Production4 (m : Mine g) : Binds g (fn g 50) ["self", "number", "name", "prod"] [("precedence", .ref 42), ("func", .none), ("file", .str "" 232), ("line", .int 0 233)] 4 := bdN4 (by kernel_rfl) (by rw [m.K]; intros; kernel_rfl)
theorem cv_Production4 (m : Mine g) : CallV g .fn (n + 1) (.ref 81) (makeM 81 (fnM ["self", "number", "name", "prod"] (([("precedence", .ref 42), ("func", .none), ("file", .str "" 232), ("line", .int 0 233)] : List (Str × Value)).map fun p => (p.1, er p.2)) 4 (r_init_P (n := n) m).1)) := callV_cls (mk_Production m) (is_init_P m) (bd_Production4 m) (r_init_P m).2
theorem bd_len_P (m : Mine g) : Binds g (fn g 71) ["self"] [] 1 := bdN1 (by kernel_rfl) (by rw [m.K]; intros; kernel_rfl)
theorem cv_len_P (m : Mine g) : CallV g .fn (n + 1) (.ref 71) (fnM ["self"] (([] : List (Str × Value)).map fun p => (p.1, er p.2)) 1 (r_len_P (n := n) m).1) := callV_fn (is_len_P m) (bd_len_P m) (r_len_P m).2
theorem bd_rightmost (m : Mine g) : Binds g (fn g 92) ["symbols", "terminals"] [] 2 := bdN2 (by kernel_rfl) (by rw [m.K]; intros; kernel_rfl)
theorem cv_rightmost (m : Mine g) : CallV g .fn (n + 1) (.ref 92) (fnM ["symbols", "terminals"] (([] : List (Str × Value)).map fun p => (p.1, er p.2)) 2 (r_rightmost (n := n) m).1) := callV_fn (is_rightmost m) (bd_rightmost m) (r_rightmost m).2
theorem bd_Grammar (m : Mine g) : Binds g (fn g 118) ["self", "terminals"] [] 2 := bdN2 (by kernel_rfl) (by rw [m.K]; intros; kernel_rfl)
theorem cv_Grammar (m : Mine g) : CallV g .fn (n + 1) (.ref 227) (makeM 227 (fnM ["self", "terminals"] (([] : List (Str × Value)).map fun p => (p.1, er p.2)) 2 (r_init_G (n := n) m).1)) := callV_cls (mk_Grammar m) (is_init_G m) (bd_Grammar m) (r_init_G m).2
theorem bd_set_precedence (m : Mine g) : Binds g (fn g 139) ["self", "term", "assoc", "level"] [] 4 := bdN4 (by kernel_rfl) (by rw [m.K]; intros; kernel_rfl)
theorem cv_set_precedence (m : Mine g) : CallV g .fn (n + 1) (.ref 139) (fnM ["self", "term", "assoc", "level"] (([] : List (Str × Value)).map fun p => (p.1, er p.2)) 4 (r_set_precedence (n := n) m).1) := callV_fn (is_set_precedence m) (bd_set_precedence m) (r_set_precedence m).2
noncomputable def r_undefined_symbols (m : Mine g) : { p : M Fl // RefB g (fnS (fn g 174)) .fn (n + 3) p (bodyOf (fn g 174)) } := ⟨_, RB.ok
 (w_cons (w_Assign (by kernel_rfl) (w_List wX_nil))
 (w_cons (w_For (w_seq (by intro h; k_call_by "c" h) (w_Attribute (at_Productions m) (w_Name (by kernel_rfl)))) (tg_Name (by kernel_rfl))
  (w_cons (w_If (w_T_Not (w_T_own (tr_Production m) (cv_len_P m) (w_Name (by kernel_rfl))))
   (w_one w_Continue) w_nil)
  (w_one (w_For (w_seq (by intro h; k_call_by "c" h) (w_Attribute (at_prod m) (w_Name (by kernel_rfl)))) (tg_Name (by kernel_rfl))
   (w_one (w_If (w_T_BoolOp (w_And_cons (w_T_Compare (w_Name (by kernel_rfl)) (w_Attribute (at_Prodnames m) (w_Name (by kernel_rfl)))) (w_And_cons (w_T_Compare (w_Name (by kernel_rfl)) (w_Attribute (at_Terminals m) (w_Name (by kernel_rfl)))) (w_And_cons (w_T_Compare (w_Name (by kernel_rfl)) w_Str) w_And_nil))))
    (w_one (w_Expr (w_Meth1 (k := .list) PySem.F.slot_list_append ty_append call_append (w_Name (by kernel_rfl)) (wX_c (w_Tuple (wX_c (w_Name (by kernel_rfl)) (wX_c (w_Name (by kernel_rfl)) wX_nil))) wX_nil)))) w_nil)) w_nil))) w_nil)
 (w_one (w_Return (w_Name (by kernel_rfl))))))⟩
noncomputable def r_infinite_cycles (m : Mine g) : { p : M Fl // RefB g (fnS (fn g 167)) .fn n p (bodyOf (fn g 167)) } := ⟨_, RB.ok
 (w_cons (w_Assign (by kernel_rfl) w_Dict0)
 (w_cons (w_For (w_seq (by intro h; k_call_by "c" h) (w_Attribute (at_Terminals m) (w_Name (by kernel_rfl)))) (tg_Name (by kernel_rfl))
  (w_one (w_AssignSub w_Bool (w_Name (by kernel_rfl)) (w_Name (by kernel_rfl)))) w_nil)
 (w_cons (w_AssignSub w_Bool (w_Name (by kernel_rfl)) w_Str)
 (w_cons (w_For (w_seq (by intro h; k_call_by "c" h) (w_Attribute (at_Nonterminals m) (w_Name (by kernel_rfl)))) (tg_Name (by kernel_rfl))
  (w_one (w_AssignSub w_Bool (w_Name (by kernel_rfl)) (w_Name (by kernel_rfl)))) w_nil)
 (w_cons (w_While (w_T_value w_Bool)
  (w_cons (w_Assign (by kernel_rfl) w_Bool)
  (w_cons (w_For (w_items (by intro h; k_call_by "c" h) (w_Attribute (at_Prodnames m) (w_Name (by kernel_rfl)))) (tg_Tuple (by intro h; k_call_by "c" h) (.cons (.cons .nil)) (by kernel_rfl))
   (w_one (w_For (w_seq (by intro h; k_call_by "c" h) (w_Name (by kernel_rfl))) (tg_Name (by kernel_rfl))
    (w_cons (w_For (w_seq (by intro h; k_call_by "c" h) (w_Attribute (at_prod m) (w_Name (by kernel_rfl)))) (tg_Name (by kernel_rfl))
     (w_one (w_If (w_T_Not (w_T_value (w_Subscript (by intro h; k_call_by "c" h) (w_Name (by kernel_rfl)) (w_Name (by kernel_rfl)))))
      (w_cons (w_Assign (by kernel_rfl) w_Bool)
      (w_one w_Break)) w_nil))
     (w_one (w_Assign (by kernel_rfl) w_Bool)))
    (w_one (w_If (w_T_value (w_Name (by kernel_rfl)))
     (w_cons (w_If (w_T_Not (w_T_value (w_Subscript (by intro h; k_call_by "c" h) (w_Name (by kernel_rfl)) (w_Name (by kernel_rfl)))))
      (w_cons (w_AssignSub w_Bool (w_Name (by kernel_rfl)) (w_Name (by kernel_rfl)))
      (w_one (w_Assign (by kernel_rfl) w_Bool))) w_nil)
     (w_one w_Break)) w_nil))) w_nil)) w_nil)
  (w_one (w_If (w_T_Not (w_T_value (w_Name (by kernel_rfl))))
   (w_one w_Break) w_nil)))) w_nil)
 (w_cons (w_Assign (by kernel_rfl) (w_List wX_nil))
 (w_cons (w_For (w_items (by intro h; k_call_by "c" h) (w_Name (by kernel_rfl))) (tg_Tuple (by intro h; k_call_by "c" h) (.cons (.cons .nil)) (by kernel_rfl))
  (w_one (w_If (w_T_Not (w_T_value (w_Name (by kernel_rfl))))
   (w_one (w_If (w_T_BoolOp (w_And_cons (w_T_Compare (w_Name (by kernel_rfl)) (w_Attribute (at_Prodnames m) (w_Name (by kernel_rfl)))) (w_And_cons (w_T_Compare (w_Name (by kernel_rfl)) (w_Attribute (at_Terminals m) (w_Name (by kernel_rfl)))) (w_And_cons (w_T_Compare (w_Name (by kernel_rfl)) w_Str) w_And_nil))))
    (w_one w_Pass)
    (w_one (w_Expr (w_Meth1 (k := .list) PySem.F.slot_list_append ty_append call_append (w_Name (by kernel_rfl)) (wX_c (w_Name (by kernel_rfl)) wX_nil)))))) w_nil)) w_nil)
 (w_one (w_Return (w_Name (by kernel_rfl)))))))))))⟩
noncomputable def r_unused_terminals (m : Mine g) : { p : M Fl // RefB g (fnS (fn g 181)) .fn n p (bodyOf (fn g 181)) } := ⟨_, RB.ok
 (w_cons (w_Assign (by kernel_rfl) (w_List wX_nil))
 (w_cons (w_For (w_items (by intro h; k_call_by "c" h) (w_Attribute (at_Terminals m) (w_Name (by kernel_rfl)))) (tg_Tuple (by intro h; k_call_by "c" h) (.cons (.cons .nil)) (by kernel_rfl))
  (w_one (w_If (w_T_BoolOp (w_And_cons (w_T_Compare (w_Name (by kernel_rfl)) w_Str) (w_And_cons (w_T_Not (w_T_value (w_Name (by kernel_rfl)))) w_And_nil)))
   (w_one (w_Expr (w_Meth1 (k := .list) PySem.F.slot_list_append ty_append call_append (w_Name (by kernel_rfl)) (wX_c (w_Name (by kernel_rfl)) wX_nil)))) w_nil)) w_nil)
 (w_one (w_Return (w_Name (by kernel_rfl))))))⟩
noncomputable def r_unused_rules (m : Mine g) : { p : M Fl // RefB g (fnS (fn g 188)) .fn n p (bodyOf (fn g 188)) } := ⟨_, RB.ok
 (w_cons (w_Assign (by kernel_rfl) (w_List wX_nil))
 (w_cons (w_For (w_items (by intro h; k_call_by "c" h) (w_Attribute (at_Nonterminals m) (w_Name (by kernel_rfl)))) (tg_Tuple (by intro h; k_call_by "c" h) (.cons (.cons .nil)) (by kernel_rfl))
  (w_one (w_If (w_T_Not (w_T_value (w_Name (by kernel_rfl))))
   (w_cons (w_Assign (by kernel_rfl) (w_Subscript (by intro h; k_call_by "c" h) (w_Subscript (by intro h; k_call_by "c" h) (w_Attribute (at_Prodnames m) (w_Name (by kernel_rfl))) (w_Name (by kernel_rfl))) w_Int))
   (w_one (w_Expr (w_Meth1 (k := .list) PySem.F.slot_list_append ty_append call_append (w_Name (by kernel_rfl)) (wX_c (w_Name (by kernel_rfl)) wX_nil))))) w_nil)) w_nil)
 (w_one (w_Return (w_Name (by kernel_rfl))))))⟩
noncomputable def r_unused_precedence (m : Mine g) : { p : M Fl // RefB g (fnS (fn g 195)) .fn n p (bodyOf (fn g 195)) } := ⟨_, RB.ok
 (w_cons (w_Assign (by kernel_rfl) (w_List wX_nil))
 (w_cons (w_For (w_seq (by intro h; k_call_by "c" h) (w_Attribute (at_Precedence m) (w_Name (by kernel_rfl)))) (tg_Name (by kernel_rfl))
  (w_one (w_If (w_T_Not (w_T_BoolOp (w_Or_cons (w_T_Compare (w_Name (by kernel_rfl)) (w_Attribute (at_Terminals m) (w_Name (by kernel_rfl)))) (w_Or_cons (w_T_Compare (w_Name (by kernel_rfl)) (w_Attribute (at_UsedPrecedence m) (w_Name (by kernel_rfl)))) w_Or_nil))))
   (w_one (w_Expr (w_Meth1 (k := .list) PySem.F.slot_list_append ty_append call_append (w_Name (by kernel_rfl)) (wX_c (w_Tuple (wX_c (w_Name (by kernel_rfl)) (wX_c (w_Subscript (by intro h; k_call_by "c" h) (w_Subscript (by intro h; k_call_by "c" h) (w_Attribute (at_Precedence m) (w_Name (by kernel_rfl))) (w_Name (by kernel_rfl))) w_Int) wX_nil))) wX_nil)))) w_nil)) w_nil)
 (w_one (w_Return (w_Name (by kernel_rfl))))))⟩
noncomputable def r_law_rows (m : Mine g) : { p : M Fl // RefB g (fnS (fn g 237)) .fn n p (bodyOf (fn g 237)) } := ⟨_, RB.ok
 (w_cons (w_Assign (by kernel_rfl) (w_List wX_nil))
 (w_cons (w_For (w_seq (by intro h; k_call_by "c" h) (w_Slice (w_Name (by kernel_rfl)) (wP_some w_Int) (wP_some w_Int))) (tg_Name (by kernel_rfl))
  (w_cons (w_Assign (by kernel_rfl) (w_List wX_nil))
  (w_cons (w_Assign (by kernel_rfl) (w_BinOp (w_Name (by kernel_rfl)) w_Int))
  (w_cons (w_For (w_range (by intro h; k_call_by "c" h) (b_range m (by kernel_rfl)) (w_BinOp (w_BinOp (w_Name (by kernel_rfl)) w_Int) w_Int)) (tg_Name (by kernel_rfl))
   (w_cons (w_Expr (w_Meth1 (k := .list) PySem.F.slot_list_append ty_append call_append (w_Name (by kernel_rfl)) (wX_c (w_Subscript (by intro h; k_call_by "c" h) w_Str (w_BinOp (w_Name (by kernel_rfl)) w_Int)) wX_nil)))
   (w_one (w_Assign (by kernel_rfl) (w_BinOp (w_Name (by kernel_rfl)) w_Int)))) w_nil)
  (w_cons (w_Assign (by kernel_rfl) (w_Tuple (wX_c (w_Subscript (by intro h; k_call_by "c" h) w_Str (w_BinOp (w_Name (by kernel_rfl)) w_Int)) (wX_c (w_Name (by kernel_rfl)) wX_nil))))
  (w_one (w_If (w_T_Compare (w_Name (by kernel_rfl)) (w_ListComp (by intro h; k_call_by "c" h) (by kernel_rfl) (w_seq (by intro h; k_call_by "c" h) (w_Name (by kernel_rfl))) (tg_Name (by kernel_rfl)) wTs_nil (w_Slice (w_Name (by kernel_rfl)) wP_none (wP_some w_Int))))
   (w_one (w_Expr (w_Meth1 (k := .list) PySem.F.slot_list_append ty_append call_append (w_Name (by kernel_rfl)) (wX_c (w_BinOp (w_Name (by kernel_rfl)) (w_Tuple (wX_c (w_Compare (w_BinOp (w_BinOp (w_Name (by kernel_rfl)) w_Int) w_Int) w_Int) wX_nil))) wX_nil)))) w_nil)))))) w_nil)
 (w_cons (w_If (w_T_Compare (w_CallB (b_len m (by kernel_rfl)) (wX_c (w_Name (by kernel_rfl)) wX_nil) call_len) w_Int)
  (w_one (w_Assign (by kernel_rfl) (w_List (wX_c (w_Tuple (wX_c w_Str (wX_c (w_List (wX_c w_Str (wX_c w_Str wX_nil))) (wX_c w_Bool wX_nil)))) (wX_c (w_Tuple (wX_c w_Str (wX_c (w_List (wX_c w_Str (wX_c w_Str (wX_c w_Str wX_nil)))) (wX_c w_Bool wX_nil)))) (wX_c (w_Tuple (wX_c w_Str (wX_c (w_List wX_nil) (wX_c w_Bool wX_nil)))) wX_nil)))))) w_nil)
 (w_one (w_Return (w_Name (by kernel_rfl)))))))⟩
noncomputable def r_set_start (m : Mine g) : { p : M Fl // RefB g (fnS (fn g 155)) .fn (n + 1) p (bodyOf (fn g 155)) } := ⟨_, RB.ok
 (w_cons (w_If (w_T_Not (w_T_value (w_Name (by kernel_rfl))))
  (w_one (w_Assign (by kernel_rfl) (w_Attribute (at_name m) (w_Subscript (by intro h; k_call_by "c" h) (w_Attribute (at_Productions m) (w_Name (by kernel_rfl))) w_Int)))) w_nil)
 (w_cons (w_If (w_T_Compare (w_Name (by kernel_rfl)) (w_Attribute (at_Nonterminals m) (w_Name (by kernel_rfl))))
  (w_one w_stuckS) w_nil)
 (w_cons (w_AssignSub (w_CallG (gl_Production m (by kernel_rfl)) (kp_Production m) (wX_c w_Int (wX_c w_Str (wX_c (w_List (wX_c (w_Name (by kernel_rfl)) wX_nil)) wX_nil))) (cv_Production4 m)) (w_Attribute (at_Productions m) (w_Name (by kernel_rfl))) w_Int)
 (w_cons (w_Expr (w_Meth1 (k := .list) PySem.F.slot_list_append ty_append call_append (w_Subscript (by intro h; k_call_by "c" h) (w_Attribute (at_Nonterminals m) (w_Name (by kernel_rfl))) (w_Name (by kernel_rfl))) (wX_c w_Int wX_nil)))
 (w_one (w_AssignAttr (st_Start m) (w_Name (by kernel_rfl)) (w_Name (by kernel_rfl))))))))⟩
end Kk
end
section
set_option maxHeartbeats 4000000
namespace Kk
variable {g : Gx} {S : Sc} {md : Md} {n : Nat}
noncomputable def r_add_production_c9 (m : Mine g) : { p : M Fl // RefB g (fnS (fn g 147)) .fn (n + 1) p ((bodyOf (fn g 147)).drop 9) } := ⟨_, RB.ok
 (w_cons (w_Assign (by kernel_rfl) (w_CallG (gl_Production m (by kernel_rfl)) (kp_Production m) (wX_c (w_Name (by kernel_rfl)) (wX_c (w_Name (by kernel_rfl)) (wX_c (w_Name (by kernel_rfl)) (wX_c (w_Name (by kernel_rfl)) (wX_c (w_Name (by kernel_rfl)) (wX_c (w_Name (by kernel_rfl)) (wX_c (w_Name (by kernel_rfl)) wX_nil))))))) (cv_Production m)))
 (w_cons (w_Expr (w_Meth1 (k := .list) PySem.F.slot_list_append ty_append call_append (w_Attribute (at_Productions m) (w_Name (by kernel_rfl))) (wX_c (w_Name (by kernel_rfl)) wX_nil)))
 (w_cons (w_AssignSub (w_Name (by kernel_rfl)) (w_Attribute (at_Prodmap m) (w_Name (by kernel_rfl))) (w_Name (by kernel_rfl)))
 (w_one (w_TryKey
  (w_one (w_Expr (w_Meth1 (k := .list) PySem.F.slot_list_append ty_append call_append (w_Subscript (by intro h; k_call_by "c" h) (w_Attribute (at_Prodnames m) (w_Name (by kernel_rfl))) (w_Name (by kernel_rfl))) (wX_c (w_Name (by kernel_rfl)) wX_nil))))
  (w_one (w_AssignSub (w_List (wX_c (w_Name (by kernel_rfl)) wX_nil)) (w_Attribute (at_Prodnames m) (w_Name (by kernel_rfl))) (w_Name (by kernel_rfl)))) (b_KeyError m (by kernel_rfl)))))))⟩
noncomputable def r_add_production_c6 (m : Mine g) : { p : M Fl // RefB g (fnS (fn g 147)) .fn (n + 1) p ((bodyOf (fn g 147)).drop 6) } := ⟨_, RB.ok
 (w_cons (w_Assign (by kernel_rfl) (w_CallB (b_len m (by kernel_rfl)) (wX_c (w_Attribute (at_Productions m) (w_Name (by kernel_rfl))) wX_nil) call_len))
 (w_cons (w_If (w_T_Compare (w_Name (by kernel_rfl)) (w_Attribute (at_Nonterminals m) (w_Name (by kernel_rfl))))
  (w_one (w_AssignSub (w_List wX_nil) (w_Attribute (at_Nonterminals m) (w_Name (by kernel_rfl))) (w_Name (by kernel_rfl)))) w_nil)
 (w_cons (w_For (w_seq (by intro h; k_call_by "c" h) (w_Name (by kernel_rfl))) (tg_Name (by kernel_rfl))
  (w_one (w_If (w_T_Compare (w_Name (by kernel_rfl)) (w_Attribute (at_Terminals m) (w_Name (by kernel_rfl))))
   (w_one (w_Expr (w_Meth1 (k := .list) PySem.F.slot_list_append ty_append call_append (w_Subscript (by intro h; k_call_by "c" h) (w_Attribute (at_Terminals m) (w_Name (by kernel_rfl))) (w_Name (by kernel_rfl))) (wX_c (w_Name (by kernel_rfl)) wX_nil))))
   (w_cons (w_If (w_T_Compare (w_Name (by kernel_rfl)) (w_Attribute (at_Nonterminals m) (w_Name (by kernel_rfl))))
    (w_one (w_AssignSub (w_List wX_nil) (w_Attribute (at_Nonterminals m) (w_Name (by kernel_rfl))) (w_Name (by kernel_rfl)))) w_nil)
   (w_one (w_Expr (w_Meth1 (k := .list) PySem.F.slot_list_append ty_append call_append (w_Subscript (by intro h; k_call_by "c" h) (w_Attribute (at_Nonterminals m) (w_Name (by kernel_rfl))) (w_Name (by kernel_rfl))) (wX_c (w_Name (by kernel_rfl)) wX_nil))))))) w_nil) ⟨(r_add_production_c9 (n := n) m).2⟩)))⟩
noncomputable def r_add_production_c4 (m : Mine g) : { p : M Fl // RefB g (fnS (fn g 147)) .fn (n + 1) p ((bodyOf (fn g 147)).drop 4) } := ⟨_, RB.ok
 (w_cons (w_Assign (by kernel_rfl) (w_Arrow (w_Name (by kernel_rfl)) (w_Name (by kernel_rfl))))
 (w_cons (w_If (w_T_Compare (w_Name (by kernel_rfl)) (w_Attribute (at_Prodmap m) (w_Name (by kernel_rfl))))
  (w_cons (w_Assign (by kernel_rfl) (w_Subscript (by intro h; k_call_by "c" h) (w_Attribute (at_Prodmap m) (w_Name (by kernel_rfl))) (w_Name (by kernel_rfl))))
  (w_one w_stuckS)) w_nil) ⟨(r_add_production_c6 (n := n) m).2⟩))⟩
noncomputable def r_add_production_c3 (m : Mine g) : { p : M Fl // RefB g (fnS (fn g 147)) .fn (n + 1) p ((bodyOf (fn g 147)).drop 3) } := ⟨_, RB.ok
 (w_cons (w_If (w_T_Compare w_Str (w_Name (by kernel_rfl)))
  (w_cons (w_If (w_T_Compare (w_Subscript (by intro h; k_call_by "c" h) (w_Name (by kernel_rfl)) (w_USub w_Int)) w_Str)
   (w_one w_stuckS) w_nil)
  (w_cons (w_If (w_T_Compare (w_Subscript (by intro h; k_call_by "c" h) (w_Name (by kernel_rfl)) (w_USub w_Int)) w_Str)
   (w_one w_stuckS) w_nil)
  (w_cons (w_Assign (by kernel_rfl) (w_Subscript (by intro h; k_call_by "c" h) (w_Name (by kernel_rfl)) (w_USub w_Int)))
  (w_cons (w_Assign (by kernel_rfl) (w_Meth1 (k := .dict) PySem.F.slot_dict_get ty_get call_get2 (w_Attribute (at_Precedence m) (w_Name (by kernel_rfl))) (wX_c (w_Name (by kernel_rfl)) wX_nil)))
  (w_cons (w_If (w_T_Not (w_T_value (w_Name (by kernel_rfl))))
   (w_one w_stuckS)
   (w_one (w_Expr (w_Meth1 (k := .set) PySem.F.slot_set_add ty_add call_add (w_Attribute (at_UsedPrecedence m) (w_Name (by kernel_rfl))) (wX_c (w_Name (by kernel_rfl)) wX_nil)))))
  (w_one (w_DelLast (w_Name (by kernel_rfl)) (wP_some (w_USub w_Int)))))))))
  (w_cons (w_Assign (by kernel_rfl) (w_CallG (gl_rightmost_terminal m (by kernel_rfl)) (kp_rightmost_terminal m) (wX_c (w_Name (by kernel_rfl)) (wX_c (w_Attribute (at_Terminals m) (w_Name (by kernel_rfl))) wX_nil)) (cv_rightmost m)))
  (w_one (w_Assign (by kernel_rfl) (w_Meth1 (k := .dict) PySem.F.slot_dict_get ty_get call_get2 (w_Attribute (at_Precedence m) (w_Name (by kernel_rfl))) (wX_c (w_Name (by kernel_rfl)) (wX_c (w_Tuple (wX_c w_Str (wX_c w_Int wX_nil))) wX_nil))))))) ⟨(r_add_production_c4 (n := n) m).2⟩)⟩
noncomputable def r_add_production (m : Mine g) : { p : M Fl // RefB g (fnS (fn g 147)) .fn (n + 1) p (bodyOf (fn g 147)) } := ⟨_, RB.ok
 (w_cons (w_If (w_T_Compare (w_Name (by kernel_rfl)) (w_Attribute (at_Terminals m) (w_Name (by kernel_rfl))))
  (w_one w_stuckS) w_nil)
 (w_cons (w_If (w_T_Compare (w_Name (by kernel_rfl)) w_Str)
  (w_one w_stuckS) w_nil)
 (w_cons (w_For (w_enum (by intro h; k_call_by "c" h) (b_enumerate m (by kernel_rfl)) (w_Name (by kernel_rfl))) (tg_Tuple (by intro h; k_call_by "c" h) (.cons (.cons .nil)) (by kernel_rfl))
  (w_one (w_If (w_T_BoolOp (w_And_cons (w_T_Compare (w_Subscript (by intro h; k_call_by "c" h) (w_Name (by kernel_rfl)) w_Int) w_Str) (w_And_cons (w_T_Compare (w_Subscript (by intro h; k_call_by "c" h) (w_Name (by kernel_rfl)) w_Int) (w_Subscript (by intro h; k_call_by "c" h) (w_Name (by kernel_rfl)) (w_USub w_Int))) w_And_nil)))
   (w_cons (w_Assign (by kernel_rfl) (w_Slice (w_Name (by kernel_rfl)) (wP_some w_Int) (wP_some (w_USub w_Int))))
   (w_cons (w_If (w_T_Compare (w_CallB (b_len m (by kernel_rfl)) (wX_c (w_Name (by kernel_rfl)) wX_nil) call_len) w_Int)
    (w_one w_stuckS) w_nil)
   (w_cons (w_If (w_T_Compare (w_Name (by kernel_rfl)) (w_Attribute (at_Terminals m) (w_Name (by kernel_rfl))))
    (w_one (w_AssignSub (w_List wX_nil) (w_Attribute (at_Terminals m) (w_Name (by kernel_rfl))) (w_Name (by kernel_rfl)))) w_nil)
   (w_cons (w_AssignSub (w_Name (by kernel_rfl)) (w_Name (by kernel_rfl)) (w_Name (by kernel_rfl)))
   (w_one w_Continue))))) w_nil)) w_nil) ⟨(r_add_production_c3 (n := n) m).2⟩)))⟩
theorem bd_add_production (m : Mine g) : Binds g (fn g 147) ["self", "prodname", "syms", "func", "file", "line"] [] 6 := bdN6 (by kernel_rfl) (by rw [m.K]; intros; kernel_rfl)
theorem cv_add_production (m : Mine g) : CallV g .fn (n + 1 + 1) (.ref 147) (fnM ["self", "prodname", "syms", "func", "file", "line"] (([] : List (Str × Value)).map fun p => (p.1, er p.2)) 6 (r_add_production (n := n) m).1) := callV_fn (is_add_production m) (bd_add_production m) (r_add_production m).2
theorem bd_undefined_symbols (m : Mine g) : Binds g (fn g 174) ["self"] [] 1 := bdN1 (by kernel_rfl) (by rw [m.K]; intros; kernel_rfl)
theorem cv_undefined_symbols (m : Mine g) : CallV g .fn (n + 3 + 1) (.ref 174) (fnM ["self"] (([] : List (Str × Value)).map fun p => (p.1, er p.2)) 1 (r_undefined_symbols (n := n) m).1) := callV_fn (is_undefined_symbols m) (bd_undefined_symbols m) (r_undefined_symbols m).2
theorem bd_infinite_cycles (m : Mine g) : Binds g (fn g 167) ["self"] [] 1 := bdN1 (by kernel_rfl) (by rw [m.K]; intros; kernel_rfl)
theorem cv_infinite_cycles (m : Mine g) : CallV g .fn (n + 1) (.ref 167) (fnM ["self"] (([] : List (Str × Value)).map fun p => (p.1, er p.2)) 1 (r_infinite_cycles (n := n) m).1) := callV_fn (is_infinite_cycles m) (bd_infinite_cycles m) (r_infinite_cycles m).2
theorem bd_unused_terminals (m : Mine g) : Binds g (fn g 181) ["self"] [] 1 := bdN1 (by kernel_rfl) (by rw [m.K]; intros; kernel_rfl)
theorem cv_unused_terminals (m : Mine g) : CallV g .fn (n + 1) (.ref 181) (fnM ["self"] (([] : List (Str × Value)).map fun p => (p.1, er p.2)) 1 (r_unused_terminals (n := n) m).1) := callV_fn (is_unused_terminals m) (bd_unused_terminals m) (r_unused_terminals m).2
theorem bd_unused_rules (m : Mine g) : Binds g (fn g 188) ["self"] [] 1 := bdN1 (by kernel_rfl) (by rw [m.K]; intros; kernel_rfl)
theorem cv_unused_rules (m : Mine g) : CallV g .fn (n + 1) (.ref 188) (fnM ["self"] (([] : List (Str × Value)).map fun p => (p.1, er p.2)) 1 (r_unused_rules (n := n) m).1) := callV_fn (is_unused_rules m) (bd_unused_rules m) (r_unused_rules m).2
theorem bd_unused_precedence (m : Mine g) : Binds g (fn g 195) ["self"] [] 1 := bdN1 (by kernel_rfl) (by rw [m.K]; intros; kernel_rfl)
theorem cv_unused_precedence (m : Mine g) : CallV g .fn (n + 1) (.ref 195) (fnM ["self"] (([] : List (Str × Value)).map fun p => (p.1, er p.2)) 1 (r_unused_precedence (n := n) m).1) := callV_fn (is_unused_precedence m) (bd_unused_precedence m) (r_unused_precedence m).2
theorem bd_law_rows (m : Mine g) : Binds g (fn g 237) ["script"] [] 1 := bdN1 (by kernel_rfl) (by rw [m.K]; intros; kernel_rfl)
theorem cv_law_rows (m : Mine g) : CallV g .fn (n + 1) (.ref 237) (fnM ["script"] (([] : List (Str × Value)).map fun p => (p.1, er p.2)) 1 (r_law_rows (n := n) m).1) := callV_fn (is_law_rows m) (bd_law_rows m) (r_law_rows m).2
theorem bd_set_start (m : Mine g) : Binds g (fn g 155) ["self", "start"] [] 2 := bdN2 (by kernel_rfl) (by rw [m.K]; intros; kernel_rfl)
theorem cv_set_start (m : Mine g) : CallV g .fn (n + 1 + 1) (.ref 155) (fnM ["self", "start"] (([] : List (Str × Value)).map fun p => (p.1, er p.2)) 2 (r_set_start (n := n) m).1) := callV_fn (is_set_start m) (bd_set_start m) (r_set_start m).2
end Kk
end
section
set_option maxHeartbeats 4000000
namespace Kk
variable {g : Gx} {S : Sc} {md : Md} {n : Nat}
noncomputable def mkA (g : Gx) : Arguments := match bodyOf (fn g 160) with | .FunctionDef _ a _ _ _ _ _ _ _ _ :: _ => a | _ => ⟨[], [], none, [], [], none, []⟩
noncomputable def mkB (g : Gx) : List Stmt := match bodyOf (fn g 160) with | .FunctionDef _ _ b _ _ _ _ _ _ _ :: _ => b | _ => []
noncomputable def mkS (g : Gx) : Scope := match bodyOf (fn g 160) with | .FunctionDef _ _ _ _ _ _ sc _ _ _ :: _ => sc | _ => (fn g 160).scope
theorem mk_cell (g : Gx) : ∀ x ∈ (mkS g).names, x.2 ≠ .cell := by
 have h : ((mkS g).names.all fun x => x.2 != .cell) = true := by kernel_rfl
 intro x hx
 have := List.all_eq_true.mp h x hx
 simpa using this
theorem mk_loc (g : Gx) : ∀ x ∈ (["s"] : List Str), (mkS g).names.lookup x = some .local := by
 intro x hx
 simp only [List.mem_cons, List.not_mem_nil, or_false] at hx
 subst hx
 kernel_rfl
theorem mk_bind (g : Gx) : ∀ (fd : FuncData) (vs : List Value), fd.params = mkA g → fd.defaults = .none → fd.kwdefaults = .none → vs.length = (["s"] : List Str).length → bindArgs fd ⟨vs, []⟩ = pure ((["s"] : List Str).zip vs) := by
 intro fd vs h1 h2 h3 h4
 obtain ⟨v, rfl⟩ := List.length_eq_one_iff.mp h4
 obtain ⟨a0, a1, a2, a3, a4, a5, a6, a7, a8, a9, a10⟩ := fd
 dsimp only at h1 h2 h3
 subst h1; subst h2; subst h3
 rfl
noncomputable def r_mark1 (m : Mine g) (cl : List (Str × Addr)) (hcl : ∀ y ∈ freeOf (mkS g), (cl.lookup y).isSome = true) (pb : M Fl) (hb : RB g (markS (mkS g) cl) .fn n pb (mkB g)) : { p : M Fl // RefB g (markS (mkS g) cl) .fn (n + 1) p (mkB g) } := ⟨_, RB.ok
 (w_cons (w_If (w_T_Compare (w_Name (by kernel_rfl)) (w_Name (by kernel_rfl)))
  (w_one w_Return0) w_nil)
 (w_cons (w_Expr (w_Meth1 (k := .set) PySem.F.slot_set_add ty_add call_add (w_Name (by kernel_rfl)) (wX_c (w_Name (by kernel_rfl)) wX_nil)))
 (w_one (w_For (w_seq (by intro h; k_call_by "c" h) (w_Meth1 (k := .dict) PySem.F.slot_dict_get ty_get call_get2 (w_Attribute (at_Prodnames m) (w_Name (by kernel_rfl))) (wX_c (w_Name (by kernel_rfl)) (wX_c (w_List wX_nil) wX_nil)))) (tg_Name (by kernel_rfl))
  (w_one (w_For (w_seq (by intro h; k_call_by "c" h) (w_Attribute (at_prod m) (w_Name (by kernel_rfl)))) (tg_Name (by kernel_rfl))
   (w_one (w_Expr (w_CallClo rfl (by kernel_rfl) hb rfl rfl rfl (by kernel_rfl) (mk_cell g) (mk_loc g) (by kernel_rfl) hcl (mk_bind g) (wX_c (w_Name (by kernel_rfl)) wX_nil)))) w_nil)) w_nil))))⟩
noncomputable def r_out (m : Mine g) (cl : List (Str × Addr)) (hcl : ∀ y ∈ freeOf (mkS g), (cl.lookup y).isSome = true) (pb : M Fl) (hb : RB g (markS (mkS g) cl) .fn n pb (mkB g)) : { p : M Fl // RefB g { fnS (fn g 160) with cl := some cl } .fn (n + 1) p ((bodyOf (fn g 160)).drop 1) } := ⟨_, RB.ok
 (w_cons (w_Assign (by kernel_rfl) (w_CallT0 (b_set m (by kernel_rfl)) call_set))
 (w_cons (w_Expr (w_CallClo rfl (by kernel_rfl) hb rfl rfl rfl (by kernel_rfl) (mk_cell g) (mk_loc g) (by kernel_rfl) hcl (mk_bind g) (wX_c (w_Subscript (by intro h; k_call_by "c" h) (w_Attribute (at_prod m) (w_Subscript (by intro h; k_call_by "c" h) (w_Attribute (at_Productions m) (w_Name (by kernel_rfl))) w_Int)) w_Int) wX_nil)))
 (w_one (w_Return (w_ListComp (by intro h; k_call_by "c" h) (by kernel_rfl) (w_seq (by intro h; k_call_by "c" h) (w_Attribute (at_Nonterminals m) (w_Name (by kernel_rfl)))) (tg_Name (by kernel_rfl)) (wTs_one (w_T_Compare (w_Name (by kernel_rfl)) (w_Name (by kernel_rfl)))) (w_Name (by kernel_rfl)))))))⟩
end Kk
end
section
set_option maxHeartbeats 4000000
namespace Kk
variable {g : Gx} {S : Sc} {md : Md} {n : Nat}
noncomputable def r_mark (m : Mine g) (cl : List (Str × Addr)) (hcl : ∀ y ∈ freeOf (mkS g), (cl.lookup y).isSome = true) : ∀ k, { p : M Fl // RefB g (markS (mkS g) cl) .fn (n + k) p (mkB g) }
 | 0 => ⟨mstuck, ref_stuckB⟩
 | k + 1 => r_mark1 (n := n + k) m cl hcl (r_mark m cl hcl k).1 ⟨(r_mark m cl hcl k).2⟩
noncomputable def defM (g : Gx) (cl : List (Str × Addr)) (rest : M Fl) : M Fl := fun Q X st => st.μ 157 = some (.tab true) ∧ ∀ f c' q, st.μ f = none → st.μ c' = none → f ≠ c' → f ≠ 157 → c' ≠ 157 →
 rest Q X ((((st.put 157 (.tab false)).put c' (.code q)).put f (.fn ⟨mkA g, mkB g, mkS g, cl, q, c'⟩)).set "mark_reachable_from" (.ref f))
noncomputable def r_find (m : Mine g) : { p : M Fl // RefB g (fnS (fn g 160)) .fn (n + 30) p (bodyOf (fn g 160)) } :=
 ⟨fun Q X st => ∀ cl (hcl : ∀ y ∈ freeOf (mkS g), (cl.lookup y).isSome = true), defM g cl (r_out (n := n + 29) m cl hcl (r_mark (n := n) m cl hcl 29).1 ⟨(r_mark m cl hcl 29).2⟩).1 Q X st, by
  intro C Y st s Q X x hp
  have hown : ((freeOf (mkS g)).all fun y => (fnS (fn g 160)).own.contains y) = true := by kernel_rfl
  have hcl : ∀ y ∈ freeOf (mkS g), ((closL C.env.cells (mkS g).names []).lookup y).isSome = true := fun y hy => by
   refine closL_has _ _ _ y (.inl (mem_freeOf.mp hy)) ?_
   refine exG1_2 (Y.ownN y (by simpa using List.all_eq_true.mp hown y hy)) fun c hc _ => ?_
   rw [hc]; rfl
  refine exG0_2 (hp _ hcl) fun hm hp => ?_
  have Y2 : Ok g { fnS (fn g 160) with cl := some (closL C.env.cells (mkS g).names []) } .fn (n + 30) C := { Y with clo := fun cl e y c h => by k_call_by "c" e; exact closL_sub _ _ _ y c (fun z d h => by k_call_by "c" h) h }
  have r := (r_out (n := n + 29) m (closL C.env.cells (mkS g).names []) hcl (r_mark (n := n) m _ hcl 29).1 ⟨(r_mark m _ hcl 29).2⟩).2
  obtain ⟨ps, hbod⟩ : ∃ ps, bodyOf (fn g 160) = .FunctionDef "mark_reachable_from" (mkA g) (mkB g) [] none [] (mkS g) none "mark_reachable_from" ps :: (bodyOf (fn g 160)).drop 1 := ⟨_, rfl⟩
  rw [hbod]
  refine wpAny_execs_cons (def_run (c := 159) (P := 157) Y x (by kernel_rfl) (by rw [m.tabs]; decide) (by kernel_rfl) hown hm rfl rfl rfl fun f c' q s' h1 h2 h3 h4 h5 x2 => ?_)
  exact r C Y2 _ _ Q X x2 (hp f c' q h1 h2 h3 h4 h5)⟩
theorem bd_find_unreachable (m : Mine g) : Binds g (fn g 160) ["self"] [] 1 := bdN1 (by kernel_rfl) (by rw [m.K]; intros; kernel_rfl)
theorem cv_find_unreachable (m : Mine g) : CallV g .fn (n + 30 + 1) (.ref 160) (fnM ["self"] (([] : List (Str × Value)).map fun p => (p.1, er p.2)) 1 (r_find (n := n) m).1) := callV_fn (is_find_unreachable m) (bd_find_unreachable m) (r_find m).2
end Kk
end
section
set_option maxHeartbeats 4000000
namespace Kk
variable {g : Gx} {S : Sc} {md : Md} {n : Nat}
noncomputable abbrev lawS (g : Gx) : Sc := { fnS (fn g 242) with code := none }
noncomputable def r_law_c24 (m : Mine g) : { p : M Fl // RefB g (lawS g) .fn (n + 40) p ((bodyOf (fn g 242)).drop 24) } := ⟨_, RB.ok
 (w_cons (w_Assign (by kernel_rfl) (w_Compare (w_CallB (b_len m (by kernel_rfl)) (wX_c (w_ListComp (by intro h; k_call_by "c" h) (by kernel_rfl) (w_seq (by intro h; k_call_by "c" h) (w_Name (by kernel_rfl))) (tg_Name (by kernel_rfl)) (wTs_one (w_T_value (w_Subscript (by intro h; k_call_by "c" h) (w_Name (by kernel_rfl)) w_Int))) (w_Name (by kernel_rfl))) wX_nil) call_len) w_Int))
 (w_one (w_Return (w_Compare (w_MethOwn0 (mt_unused_precedence m) (cv_unused_precedence m) (w_Name (by kernel_rfl))) (w_BinOp (w_List (wX_c (w_Tuple (wX_c w_Str (wX_c w_Str wX_nil))) wX_nil)) (w_IfExp (w_T_value (w_Name (by kernel_rfl))) (w_List wX_nil) (w_List (wX_c (w_Tuple (wX_c w_Str (wX_c w_Str wX_nil))) wX_nil))))))))⟩
noncomputable def r_law_c23 (m : Mine g) : { p : M Fl // RefB g (lawS g) .fn (n + 40) p ((bodyOf (fn g 242)).drop 23) } := ⟨_, RB.ok
 (w_cons (w_If (w_T_Compare (w_MethOwn0 (mt_infinite_cycles m) (cv_infinite_cycles m) (w_Name (by kernel_rfl))) (w_ListComp (by intro h; k_call_by "c" h) (by kernel_rfl) (w_seq (by intro h; k_call_by "c" h) (w_Name (by kernel_rfl))) (tg_Name (by kernel_rfl)) (wTs_one (w_T_BoolOp (w_And_cons (w_T_Compare (w_Name (by kernel_rfl)) (w_Name (by kernel_rfl))) (w_And_cons (w_T_Compare (w_Name (by kernel_rfl)) (w_Name (by kernel_rfl))) w_And_nil)))) (w_Name (by kernel_rfl))))
  (w_one (w_Return w_Bool)) w_nil) ⟨(r_law_c24 (n := n) m).2⟩)⟩
noncomputable def r_law_c21 (m : Mine g) : { p : M Fl // RefB g (lawS g) .fn (n + 40) p ((bodyOf (fn g 242)).drop 21) } := ⟨_, RB.ok
 (w_cons (w_Assign (by kernel_rfl) (w_List wX_nil))
 (w_cons (w_For (w_range (by intro h; k_call_by "c" h) (b_range m (by kernel_rfl)) w_Int) (tg_Name (by kernel_rfl))
  (w_one (w_Assign (by kernel_rfl) (w_ListComp (by intro h; k_call_by "c" h) (by kernel_rfl) (w_seq (by intro h; k_call_by "c" h) (w_Name (by kernel_rfl))) (tg_Name (by kernel_rfl)) (wTs_one (w_T_Compare (w_CallB (b_len m (by kernel_rfl)) (wX_c (w_ListComp (by intro h; k_call_by "c" h) (by kernel_rfl) (w_seq (by intro h; k_call_by "c" h) (w_Subscript (by intro h; k_call_by "c" h) (w_Name (by kernel_rfl)) w_Int)) (tg_Name (by kernel_rfl)) (wTs_one (w_T_BoolOp (w_And_cons (w_T_Compare (w_Name (by kernel_rfl)) (w_Name (by kernel_rfl))) (w_And_cons (w_T_Compare (w_Name (by kernel_rfl)) (w_Name (by kernel_rfl))) w_And_nil)))) (w_Name (by kernel_rfl))) wX_nil) call_len) w_Int)) (w_Subscript (by intro h; k_call_by "c" h) (w_Name (by kernel_rfl)) w_Int)) (by intro env he; k_call_by "c" env; k_call_by "c" he; kernel_rfl))) w_nil) ⟨(r_law_c23 (n := n) m).2⟩))⟩
noncomputable def r_law_c20 (m : Mine g) : { p : M Fl // RefB g (lawS g) .fn (n + 40) p ((bodyOf (fn g 242)).drop 20) } := ⟨_, RB.ok
 (w_cons (w_If (w_T_Compare (w_MethOwn0 (mt_find_unreachable m) (cv_find_unreachable m) (w_Name (by kernel_rfl))) (w_ListComp (by intro h; k_call_by "c" h) (by kernel_rfl) (w_seq (by intro h; k_call_by "c" h) (w_Name (by kernel_rfl))) (tg_Name (by kernel_rfl)) (wTs_one (w_T_Compare (w_Name (by kernel_rfl)) (w_Name (by kernel_rfl)))) (w_Name (by kernel_rfl))))
  (w_one (w_Return w_Bool)) w_nil) ⟨(r_law_c21 (n := n) m).2⟩)⟩
noncomputable def r_law_c18 (m : Mine g) : { p : M Fl // RefB g (lawS g) .fn (n + 40) p ((bodyOf (fn g 242)).drop 18) } := ⟨_, RB.ok
 (w_cons (w_Assign (by kernel_rfl) (w_List (wX_c (w_Name (by kernel_rfl)) wX_nil)))
 (w_cons (w_For (w_range (by intro h; k_call_by "c" h) (b_range m (by kernel_rfl)) w_Int) (tg_Name (by kernel_rfl))
  (w_one (w_For (w_seq (by intro h; k_call_by "c" h) (w_Name (by kernel_rfl))) (tg_Name (by kernel_rfl))
   (w_one (w_If (w_T_Compare (w_Subscript (by intro h; k_call_by "c" h) (w_Name (by kernel_rfl)) w_Int) (w_Name (by kernel_rfl)))
    (w_one (w_Assign (by kernel_rfl) (w_BinOp (w_Name (by kernel_rfl)) (w_ListComp (by intro h; k_call_by "c" h) (by kernel_rfl) (w_seq (by intro h; k_call_by "c" h) (w_Subscript (by intro h; k_call_by "c" h) (w_Name (by kernel_rfl)) w_Int)) (tg_Name (by kernel_rfl)) (wTs_one (w_T_Compare (w_Name (by kernel_rfl)) (w_Name (by kernel_rfl)))) (w_Name (by kernel_rfl)))))) w_nil)) w_nil)) w_nil) ⟨(r_law_c20 (n := n) m).2⟩))⟩
noncomputable def r_law_c16 (m : Mine g) : { p : M Fl // RefB g (lawS g) .fn (n + 40) p ((bodyOf (fn g 242)).drop 16) } := ⟨_, RB.ok
 (w_cons (w_AssignComp (by intro h; k_call_by "c" h) (by kernel_rfl) (by kernel_rfl) (w_seq (by intro h; k_call_by "c" h) (w_Name (by kernel_rfl))) (tg_Name (by kernel_rfl)) (wTs_one (w_T_BoolOp (w_And_cons (w_T_Compare (w_Name (by kernel_rfl)) (w_Name (by kernel_rfl))) (w_And_cons (w_T_Compare (w_CallB (b_len m (by kernel_rfl)) (wX_c (w_ListComp (by intro h; k_call_by "c" h) (by kernel_rfl) (w_seq (by intro h; k_call_by "c" h) (w_Name (by kernel_rfl))) (tg_Name (by kernel_rfl)) (wTs_one (w_T_Compare (w_Name (by kernel_rfl)) (w_Subscript (by intro h; k_call_by "c" h) (w_Name (by kernel_rfl)) w_Int))) (w_Name (by kernel_rfl))) wX_nil) call_len) w_Int) w_And_nil)))) (w_Name (by kernel_rfl)) (by intro env he; k_call_by "c" env; k_call_by "c" he; kernel_rfl))
 (w_cons (w_If (w_T_Compare (w_ListComp (by intro h; k_call_by "c" h) (by kernel_rfl) (w_seq (by intro h; k_call_by "c" h) (w_MethOwn0 (mt_unused_rules m) (cv_unused_rules m) (w_Name (by kernel_rfl)))) (tg_Name (by kernel_rfl)) wTs_nil (w_Tuple (wX_c (w_Attribute (at_name m) (w_Name (by kernel_rfl))) (wX_c (w_Attribute (at_number m) (w_Name (by kernel_rfl))) wX_nil)))) (w_ListComp (by intro h; k_call_by "c" h) (by kernel_rfl) (w_seq (by intro h; k_call_by "c" h) (w_Name (by kernel_rfl))) (tg_Name (by kernel_rfl)) wTs_nil (w_Tuple (wX_c (w_Name (by kernel_rfl)) (wX_c (w_BinOp (w_Meth1 (k := .list) PySem.F.slot_list_index ty_index call_index (w_Name (by kernel_rfl)) (wX_c (w_Name (by kernel_rfl)) wX_nil)) w_Int) wX_nil)))))
  (w_one (w_Return w_Bool)) w_nil) ⟨(r_law_c18 (n := n) m).2⟩))⟩
noncomputable def r_law_c15 (m : Mine g) : { p : M Fl // RefB g (lawS g) .fn (n + 40) p ((bodyOf (fn g 242)).drop 15) } := ⟨_, RB.ok
 (w_cons (w_If (w_T_Compare (w_MethOwn0 (mt_unused_terminals m) (cv_unused_terminals m) (w_Name (by kernel_rfl))) (w_ListComp (by intro h; k_call_by "c" h) (by kernel_rfl) (w_seq (by intro h; k_call_by "c" h) (w_List (wX_c w_Str (wX_c w_Str (wX_c w_Str wX_nil))))) (tg_Name (by kernel_rfl)) (wTs_one (w_T_Compare (w_CallB (b_len m (by kernel_rfl)) (wX_c (w_ListComp (by intro h; k_call_by "c" h) (by kernel_rfl) (w_seq (by intro h; k_call_by "c" h) (w_Name (by kernel_rfl))) (tg_Name (by kernel_rfl)) (wTs_one (w_T_Compare (w_Name (by kernel_rfl)) (w_Subscript (by intro h; k_call_by "c" h) (w_Name (by kernel_rfl)) w_Int))) (w_Name (by kernel_rfl))) wX_nil) call_len) w_Int)) (w_Name (by kernel_rfl))))
  (w_one (w_Return w_Bool)) w_nil) ⟨(r_law_c16 (n := n) m).2⟩)⟩
noncomputable def r_law_c14 (m : Mine g) : { p : M Fl // RefB g (lawS g) .fn (n + 40) p ((bodyOf (fn g 242)).drop 14) } := ⟨_, RB.ok
 (w_cons (w_If (w_T_Compare (w_ListComp (by intro h; k_call_by "c" h) (by kernel_rfl) (w_seq (by intro h; k_call_by "c" h) (w_MethOwn0 (mt_undefined_symbols m) (cv_undefined_symbols m) (w_Name (by kernel_rfl)))) (tg_Tuple (by intro h; k_call_by "c" h) (.cons (.cons .nil)) (by kernel_rfl)) wTs_nil (w_Tuple (wX_c (w_Name (by kernel_rfl)) (wX_c (w_Attribute (at_number m) (w_Name (by kernel_rfl))) wX_nil)))) (w_Name (by kernel_rfl)))
  (w_one (w_Return w_Bool)) w_nil) ⟨(r_law_c15 (n := n) m).2⟩)⟩
noncomputable def r_law_c12 (m : Mine g) : { p : M Fl // RefB g (lawS g) .fn (n + 40) p ((bodyOf (fn g 242)).drop 12) } := ⟨_, RB.ok
 (w_cons (w_Assign (by kernel_rfl) (w_IfExp (w_T_Compare (w_Name (by kernel_rfl)) (w_Name (by kernel_rfl))) (w_List (wX_c (w_Tuple (wX_c (w_Name (by kernel_rfl)) (wX_c w_Int wX_nil))) wX_nil)) (w_List wX_nil)))
 (w_cons (w_For (w_enum (by intro h; k_call_by "c" h) (b_enumerate m (by kernel_rfl)) (w_Name (by kernel_rfl))) (tg_Tuple (by intro h; k_call_by "c" h) (.cons (.cons .nil)) (by kernel_rfl))
  (w_one (w_Assign (by kernel_rfl) (w_BinOp (w_Name (by kernel_rfl)) (w_ListComp (by intro h; k_call_by "c" h) (by kernel_rfl) (w_seq (by intro h; k_call_by "c" h) (w_Subscript (by intro h; k_call_by "c" h) (w_Name (by kernel_rfl)) w_Int)) (tg_Name (by kernel_rfl)) (wTs_one (w_T_BoolOp (w_And_cons (w_T_Compare (w_Name (by kernel_rfl)) (w_Name (by kernel_rfl))) (w_And_cons (w_T_Compare (w_Name (by kernel_rfl)) (w_Name (by kernel_rfl))) w_And_nil)))) (w_Tuple (wX_c (w_Name (by kernel_rfl)) (wX_c (w_BinOp (w_Name (by kernel_rfl)) w_Int) wX_nil))))))) w_nil) ⟨(r_law_c14 (n := n) m).2⟩))⟩
noncomputable def r_law_c10 (m : Mine g) : { p : M Fl // RefB g (lawS g) .fn (n + 40) p ((bodyOf (fn g 242)).drop 10) } := ⟨_, RB.ok
 (w_cons (w_Assign (by kernel_rfl) (w_List wX_nil))
 (w_cons (w_For (w_seq (by intro h; k_call_by "c" h) (w_Name (by kernel_rfl))) (tg_Name (by kernel_rfl))
  (w_one (w_For (w_seq (by intro h; k_call_by "c" h) (w_BinOp (w_List (wX_c (w_Subscript (by intro h; k_call_by "c" h) (w_Name (by kernel_rfl)) w_Int) wX_nil)) (w_Subscript (by intro h; k_call_by "c" h) (w_Name (by kernel_rfl)) w_Int))) (tg_Name (by kernel_rfl))
   (w_one (w_If (w_T_BoolOp (w_And_cons (w_T_Compare (w_Name (by kernel_rfl)) (w_Name (by kernel_rfl))) (w_And_cons (w_T_Compare (w_Name (by kernel_rfl)) (w_Name (by kernel_rfl))) w_And_nil)))
    (w_one (w_Expr (w_Meth1 (k := .list) PySem.F.slot_list_append ty_append call_append (w_Name (by kernel_rfl)) (wX_c (w_Name (by kernel_rfl)) wX_nil)))) w_nil)) w_nil)) w_nil) ⟨(r_law_c12 (n := n) m).2⟩))⟩
noncomputable def r_law_c8 (m : Mine g) : { p : M Fl // RefB g (lawS g) .fn (n + 40) p ((bodyOf (fn g 242)).drop 8) } := ⟨_, RB.ok
 (w_cons (w_Assign (by kernel_rfl) (w_List (wX_c w_Str (wX_c w_Str (wX_c w_Str (wX_c w_Str wX_nil))))))
 (w_cons (w_Assign (by kernel_rfl) (w_ListComp (by intro h; k_call_by "c" h) (by kernel_rfl) (w_seq (by intro h; k_call_by "c" h) (w_Name (by kernel_rfl))) (tg_Name (by kernel_rfl)) wTs_nil (w_Subscript (by intro h; k_call_by "c" h) (w_Name (by kernel_rfl)) w_Int)) (by intro env he; k_call_by "c" env; k_call_by "c" he; kernel_rfl)) ⟨(r_law_c10 (n := n) m).2⟩))⟩
noncomputable def r_law_c6 (m : Mine g) : { p : M Fl // RefB g (lawS g) .fn (n + 40) p ((bodyOf (fn g 242)).drop 6) } := ⟨_, RB.ok
 (w_cons (w_Assign (by kernel_rfl) (w_IfExp (w_T_Compare (w_BinOp (w_Name (by kernel_rfl)) w_Int) w_Int) (w_Subscript (by intro h; k_call_by "c" h) (w_Subscript (by intro h; k_call_by "c" h) (w_Name (by kernel_rfl)) (w_BinOp (w_BinOp (w_Name (by kernel_rfl)) w_Int) (w_CallB (b_len m (by kernel_rfl)) (wX_c (w_Name (by kernel_rfl)) wX_nil) call_len))) w_Int) (w_Subscript (by intro h; k_call_by "c" h) (w_Subscript (by intro h; k_call_by "c" h) (w_Name (by kernel_rfl)) w_Int) w_Int)))
 (w_cons (w_Expr (w_MethOwn (mt_set_start m) (cv_set_start m) (w_Name (by kernel_rfl)) (wX_c (w_IfExp (w_T_Compare (w_BinOp (w_Name (by kernel_rfl)) w_Int) w_Int) (w_Name (by kernel_rfl)) w_None) wX_nil))) ⟨(r_law_c8 (n := n) m).2⟩))⟩
noncomputable def r_law_c5 (m : Mine g) : { p : M Fl // RefB g (lawS g) .fn (n + 40) p ((bodyOf (fn g 242)).drop 5) } := ⟨_, RB.ok
 (w_cons (w_For (w_enum (by intro h; k_call_by "c" h) (b_enumerate m (by kernel_rfl)) (w_Name (by kernel_rfl))) (tg_Tuple (by intro h; k_call_by "c" h) (.cons (.cons .nil)) (by kernel_rfl))
  (w_cons (w_AssignComp (by intro h; k_call_by "c" h) (by kernel_rfl) (by kernel_rfl) (w_seq (by intro h; k_call_by "c" h) (w_Subscript (by intro h; k_call_by "c" h) (w_Name (by kernel_rfl)) w_Int)) (tg_Name (by kernel_rfl)) wTs_nil (w_IfExp (w_T_Compare (w_Name (by kernel_rfl)) w_Str) w_Str (w_Name (by kernel_rfl))) (by intro env he; k_call_by "c" env; k_call_by "c" he; kernel_rfl))
  (w_one (w_Expr (w_MethOwn (mt_add_production m) (cv_add_production m) (w_Name (by kernel_rfl)) (wX_c (w_Subscript (by intro h; k_call_by "c" h) (w_Name (by kernel_rfl)) w_Int) (wX_c (w_BinOp (w_Name (by kernel_rfl)) (w_IfExp (w_T_value (w_Subscript (by intro h; k_call_by "c" h) (w_Name (by kernel_rfl)) w_Int)) (w_List (wX_c w_Str (wX_c w_Str wX_nil))) (w_List wX_nil))) (wX_c w_None (wX_c w_Str (wX_c (w_BinOp w_Int (w_Name (by kernel_rfl))) wX_nil))))))))) w_nil) ⟨(r_law_c6 (n := n) m).2⟩)⟩
noncomputable def r_law_c2 (m : Mine g) : { p : M Fl // RefB g (lawS g) .fn (n + 40) p ((bodyOf (fn g 242)).drop 2) } := ⟨_, RB.ok
 (w_cons (w_Assign (by kernel_rfl) (w_CallG (gl_Grammar m (by kernel_rfl)) (kp_Grammar m) (wX_c (w_List (wX_c w_Str (wX_c w_Str (wX_c w_Str wX_nil)))) wX_nil) (cv_Grammar m)))
 (w_cons (w_Assign (by kernel_rfl) (w_List (wX_c (w_Tuple (wX_c w_Str (wX_c w_Str wX_nil))) (wX_c (w_Tuple (wX_c w_Str (wX_c w_Str wX_nil))) (wX_c (w_Tuple (wX_c w_Str (wX_c w_Str wX_nil))) wX_nil)))))
 (w_cons (w_For (w_enum (by intro h; k_call_by "c" h) (b_enumerate m (by kernel_rfl)) (w_Name (by kernel_rfl))) (tg_Tuple (by intro h; k_call_by "c" h) (.cons (.cons .nil)) (by kernel_rfl))
  (w_one (w_Expr (w_MethOwn (mt_set_precedence m) (cv_set_precedence m) (w_Name (by kernel_rfl)) (wX_c (w_Subscript (by intro h; k_call_by "c" h) (w_Name (by kernel_rfl)) w_Int) (wX_c (w_Subscript (by intro h; k_call_by "c" h) (w_Name (by kernel_rfl)) w_Int) (wX_c (w_BinOp (w_Name (by kernel_rfl)) w_Int) wX_nil)))))) w_nil) ⟨(r_law_c5 (n := n) m).2⟩)))⟩
noncomputable def r_law (m : Mine g) : { p : M Fl // RefB g (lawS g) .fn (n + 40) p (bodyOf (fn g 242)) } := ⟨_, RB.ok
 (w_cons (w_Assign (by kernel_rfl) (w_CallG (gl__law_rows m (by kernel_rfl)) (kp__law_rows m) (wX_c (w_Name (by kernel_rfl)) wX_nil) (cv_law_rows m)))
 (w_cons (w_Assign (by kernel_rfl) (w_IfExp (w_T_value (w_Name (by kernel_rfl))) (w_Subscript (by intro h; k_call_by "c" h) (w_Name (by kernel_rfl)) w_Int) w_Int)) ⟨(r_law_c2 (n := n) m).2⟩))⟩
end Kk
end
section
set_option maxHeartbeats 1000000
namespace Kk
variable {α β γ δ : Type}
theorem ofString_inj {a b : String} : (Str.ofString a = Str.ofString b) = (a = b) := by
 apply propext
 constructor
 ·intro h
  rw [Str.ofString_eq_toList, Str.ofString_eq_toList] at h
  injection h with h
  have h2 : a.toList.map Char.toNat = b.toList.map Char.toNat := by simpa using h
  have h3 : a.toList = b.toList := by
   have key : ∀ l1 l2 : List Char, l1.map Char.toNat = l2.map Char.toNat → l1 = l2 := by
    intro l1
    induction l1 with
    | nil => intro l2 h; induction l2 with | nil => rfl | cons => k_call_by "c" h
    | cons c r ih =>
     intro l2 h
     induction l2 with
     | nil => k_call_by "c" h
     | cons d s =>
      simp only [List.map_cons, List.cons.injEq] at h
      rw [Char.toNat_inj.mp h.1, ih s h.2]
   exact key _ _ h2
  exact String.toList_inj.mp h3
 ·rintro rfl; rfl
theorem preLe {ys pre post : List α} {y : α} {n : Nat} (h : ys = pre ++ y :: post) (hl : ys.length ≤ n + 1) : pre.length ≤ n := by
 rw [h, List.length_append, List.length_cons] at hl; omega
noncomputable def Le (μ μ' : Addr → Option O) : Prop := ∀ a o, μ a = some o → μ' a = some o
variable {μ μ' μ1 μ2 μ3 F F' : Addr → Option O} {st st' st1 st2 : St} {a b c d : Addr} {o o' o1 o2 : O} {Q : α → St → Prop} {X : Ex → St → Prop}
theorem Le.refl : Le μ μ := fun _ _ h => h
theorem Le.trans (h : Le μ1 μ2) (k : Le μ2 μ3) : Le μ1 μ3 := fun a o e => k a o (h a o e)
theorem Le.get (h : Le μ μ') (e : μ a = some o) : μ' a = some o := h a o e
theorem Le.noneOf (h : Le μ μ') (e : μ' a = none) : μ a = none := by
 cases q : μ a with
 | none => rfl
 | some o => rw [h a o q] at e; k_call_by "c" e
theorem u_same : upd μ a o a = some o := if_pos rfl
theorem u_ne (h : b ≠ a) (e : μ b = some o') : upd μ a o b = some o' := (if_neg h).trans e
theorem u_old (h : μ a = none) (e : μ b = some o') : upd μ a o b = some o' := u_ne (by rintro rfl; rw [h] at e; k_call_by "c" e) e
theorem u_none (h : b ≠ a) (e : μ b = none) : upd μ a o b = none := (if_neg h).trans e
theorem Le.new (h : Le F μ) (e : μ a = none) : Le F (upd μ a o) := fun b p q => u_old e (h b p q)
theorem Le.mut (h : Le F μ) (e : F a = none) : Le F (upd μ a o) := fun b p q => u_ne (by rintro rfl; rw [e] at q; k_call_by "c" q) (h b p q)
theorem Le.ext (h : Le F μ) (e : μ a = none) : Le (upd F a o) (upd μ a o) := fun b p q => by
 by_cases hb : b = a
 ·subst hb; rw [u_same] at q ⊢; exact q
 ·exact u_ne hb (h b p ((if_neg hb).symm.trans q))
theorem put_same : (st.put a o).μ a = some o := u_same
theorem put_ne (h : b ≠ a) (e : st.μ b = some o') : (st.put a o).μ b = some o' := u_ne h e
theorem put_old (h : st.μ a = none) (e : st.μ b = some o') : (st.put a o).μ b = some o' := u_old h e
theorem set_mu {x : Str} {v : V} (e : st.μ b = some o') : (st.set x v).μ b = some o' := e
theorem Le.trans2 (k : Le μ2 μ3) (h : Le μ1 μ2) : Le μ1 μ3 := h.trans k
theorem Le.put_new (e : st.μ a = none) (h : Le F st.μ) : Le F (st.put a o).μ := h.new e
theorem Le.put_mut (e : F a = none) (h : Le F st.μ) : Le F (st.put a o).μ := h.mut e
theorem Le.st_set {x : Str} {v : V} (h : Le F st.μ) : Le F (st.set x v).μ := h
theorem ne_none2 (e : μ b = none) (h : μ a = some o) : a ≠ b := by rintro rfl; rw [h] at e; k_call_by "c" e
theorem ne_none (h : μ a = some o) (e : μ b = none) : a ≠ b := by rintro rfl; rw [h] at e; k_call_by "c" e
noncomputable def SameBut (L : List Str) (f f' : Str → Option V) : Prop := ∀ x, x ∉ L → f' x = f x
theorem SameBut.get {L : List Str} {f f' : Str → Option V} {x : Str} {v : V} (h : SameBut L f f') (hx : x ∉ L) (e : f x = some v) : f' x = some v := (h x hx).trans e
theorem SameBut.refl {L : List Str} {f : Str → Option V} : SameBut L f f := fun _ _ => rfl
theorem SameBut.sub {L L' : List Str} {f f' : Str → Option V} (h : SameBut L f f') (k : ∀ x ∈ L, x ∈ L') : SameBut L' f f' := fun x hx => h x fun h => hx (k x h)
theorem SameBut.set {L : List Str} {f : Str → Option V} {x : Str} {v : V} (hx : x ∈ L) (h : SameBut L f st.σ) : SameBut L f (st.set x v).σ := fun y hy =>
 (if_neg (by rintro rfl; exact hy hx)).trans (h y hy)
theorem SameBut.put {L : List Str} {f : Str → Option V} (h : SameBut L f st.σ) : SameBut L f (st.put a o).σ := h
theorem sig_same {x : Str} {v : V} : (st.set x v).σ x = some v := if_pos rfl
theorem sig_ne {x y : Str} {v w : V} (h : y ≠ x) (e : st.σ y = some w) : (st.set x v).σ y = some w := (if_neg h).trans e
theorem sig_put {y : Str} {w : V} (e : st.σ y = some w) : (st.put a o).σ y = some w := e
theorem sig_comp {y : Str} {w : V} {scope : Scope} (h : decide (y ∈ freeOf scope) = true) (e : st.σ y = some w) : (compSt scope st).σ y = some w := (if_pos (of_decide_eq_true h)).trans e
theorem wk_bind {p : M α} {f : α → M β} {Q : β → St → Prop} (h : p (fun a st' => f a Q X st') X st) : mbind p f Q X st := h
theorem wk_ret {a : α} (h : Q a st) : mret a Q X st := h
theorem wk_loc {x : Str} {v : V} {Q : V → St → Prop} (e : st.σ x = some v) (h : Q v st) : locM x Q X st := by unfold locM; rw [e]; exact h
theorem wk_bloc {x : Str} {v : V} {f : V → M β} {Q : β → St → Prop} (e : st.σ x = some v) (h : f v Q X st) : mbind (locM x) f Q X st := by unfold mbind locM; rw [e]; exact h
theorem wk_bret {a : α} {f : α → M β} {Q : β → St → Prop} (h : f a Q X st) : mbind (mret a) f Q X st := h
theorem wk_sasg {x : Str} {p : M V} {q : M Fl} {Q : Fl → St → Prop} (h : p (fun v st' => q Q X (st'.set x v)) X st) : mseq (assignM x p) q Q X st := h
theorem wk_set {x : Str} {v : V} {Q : Unit → St → Prop} (h : Q () (st.set x v)) : setM x v Q X st := h
theorem wk_asg {x : Str} {p : M V} {Q : Fl → St → Prop} (h : p (fun v st' => Q .next (st'.set x v)) X st) : assignM x p Q X st := h
noncomputable def seqK (q : M Fl) (Q : Fl → St → Prop) (X : Ex → St → Prop) (f : Fl) (st : St) : Prop := match f with | .next => q Q X st | f => Q f st
theorem wk_seq {p q : M Fl} {Q : Fl → St → Prop} (h : p (seqK q Q X) X st) : mseq p q Q X st := h
theorem wk_next {q : M Fl} {Q : Fl → St → Prop} (h : q Q X st) : seqK q Q X .next st := h
theorem wk_retS {q : M Fl} {Q : Fl → St → Prop} {v : V} (h : Q (.ret v) st) : seqK q Q X (.ret v) st := h
theorem wk_contS {q : M Fl} {Q : Fl → St → Prop} (h : Q .cont st) : seqK q Q X .cont st := h
noncomputable def ifK (p q : M α) (Q : α → St → Prop) (X : Ex → St → Prop) (b : Bool) (st : St) : Prop := if b = true then p Q X st else q Q X st
theorem wk_if {c : M Bool} {p q : M α} (h : c (ifK p q Q X) X st) : mif c p q Q X st := h
theorem wk_true {p q : M α} (h : p Q X st) : ifK p q Q X true st := h
theorem wk_false {p q : M α} (h : q Q X st) : ifK p q Q X false st := h
theorem wk_pos {p q : M α} {b : Bool} (e : b = true) (h : p Q X st) : ifK p q Q X b st := (if_pos e).mpr h
theorem wk_neg {p q : M α} {b : Bool} (e : b = false) (h : q Q X st) : ifK p q Q X b st := (if_neg (by rw [e]; decide)).mpr h
theorem wk_split {p q : M α} {b : Bool} (h1 : b = true → p Q X st) (h2 : b = false → q Q X st) : ifK p q Q X b st := by
 cases hb : b
 ·exact h2 hb
 ·exact h1 hb
theorem wk_attr {c a d : Addr} {nm : Str} {es : List (Str × V)} {ep : Nat} {u : V} {Q : V → St → Prop} (h1 : st.μ a = some (.inst c d)) (h2 : st.μ d = some (.dict es ep)) (h3 : dget es nm = some u) (h4 : u ≠ .oth) (h : Q u st) : attrM c nm (.ref a) Q X st := .mk h1 h2 h3 h4 h
theorem wk_battr {x : Str} {c a d : Addr} {nm : Str} {es : List (Str × V)} {ep : Nat} {u : V} {f : V → M β} {Q : β → St → Prop} (e : st.σ x = some (.ref a)) (h1 : st.μ a = some (.inst c d)) (h2 : st.μ d = some (.dict es ep)) (h3 : dget es nm = some u) (h4 : u ≠ .oth) (h : f u Q X st) : mbind (mbind (locM x) (attrM c nm)) f Q X st := wk_bind (wk_bloc e (wk_attr h1 h2 h3 h4 h))
theorem wk_setAttr {c a d : Addr} {nm : Str} {es : List (Str × V)} {ep : Nat} {u : V} {Q : Unit → St → Prop} (h1 : st.μ a = some (.inst c d)) (h2 : st.μ d = some (.dict es ep)) (h3 : es.length ≤ 1000) (h : ∀ ep, Q () (st.put d (.dict (dput es nm u) ep))) : setAttrM c nm (.ref a) u Q X st := .mk h1 h2 h3 h
theorem wk_inst {c a d : Addr} {nm : Str} {es : List (Str × V)} {ep : Nat} {Q : Unit → St → Prop} (h1 : st.μ a = some (.inst c d)) (h2 : st.μ d = some (.dict es ep)) (h3 : dget es nm = none) (h : Q () st) : instM c nm (.ref a) Q X st := .mk h1 h2 h3 h
theorem wk_tup {xs : List V} {Q : V → St → Prop} (hl : xs.length ≤ 1000) (h : ∀ a, st.μ a = none → Q (.ref a) (st.put a (.tup xs))) : tupM xs Q X st := ⟨hl, h⟩
theorem wk_list {xs : List V} {Q : V → St → Prop} (hl : xs.length ≤ 1000) (h : ∀ a, st.μ a = none → Q (.ref a) (st.put a (.list xs))) : listM xs Q X st := ⟨hl, h⟩
theorem wk_kind {k : Kd} {a : Addr} {o : O} {Q : Unit → St → Prop} (h1 : st.μ a = some o) (h2 : Kd.of o = some k) (h : Q () st) : kindM k (.ref a) Q X st := .mk h1 h2 h
theorem wk_append {a : Addr} {v : V} {xs : List V} {Q : V → St → Prop} (h1 : st.μ a = some (.list xs)) (h2 : xs.length ≤ 1000) (h : Q .none (st.put a (.list (xs ++ [v])))) : appendM [.ref a, v] Q X st := .mk h1 h2 h
theorem wk_seqL {a : Addr} {xs : List V} {Q : Src → St → Prop} (h1 : st.μ a = some (.list xs)) (h : Q (.list a) st) : seqM (.ref a) Q X st := .list h1 h
theorem wk_seqT {a : Addr} {xs : List V} {Q : Src → St → Prop} (h1 : st.μ a = some (.tup xs)) (h : Q (.tup a) st) : seqM (.ref a) Q X st := .tup h1 h
theorem wk_seqD {a : Addr} {es : List (Str × V)} {ep : Nat} {Q : Src → St → Prop} (h1 : st.μ a = some (.dict es ep)) (h : Q (.keys a es.length ep) st) : seqM (.ref a) Q X st := .dict h1 h
theorem wk_items {a : Addr} {es : List (Str × V)} {ep : Nat} {Q : Src → St → Prop} (h1 : st.μ a = some (.dict es ep)) (h : Q (.items a es.length ep) st) : itemsM (.ref a) Q X st := .mk h1 h
theorem wk_enL {a : Addr} {xs : List V} {Q : Src → St → Prop} (h1 : st.μ a = some (.list xs)) (h : Q (.enL a) st) : enM (.ref a) Q X st := .list h1 h
theorem wk_enT {a : Addr} {xs : List V} {Q : Src → St → Prop} (h1 : st.μ a = some (.tup xs)) (h : Q (.enT a) st) : enM (.ref a) Q X st := .tup h1 h
theorem wk_rng {i : Int} {Q : Src → St → Prop} (h1 : i ≤ 100000) (h2 : -100000 ≤ i) (h : Q (.rng i.toNat) st) : rngM (.int i) Q X st := .mk h1 h2 h
theorem wk_lenL {a : Addr} {xs : List V} {Q : V → St → Prop} (h1 : st.μ a = some (.list xs)) (h2 : xs.length ≤ 100000) (h : Q (.int xs.length) st) : lenM [.ref a] Q X st := .list h1 h2 h
theorem wk_lenT {a : Addr} {xs : List V} {Q : V → St → Prop} (h1 : st.μ a = some (.tup xs)) (h2 : xs.length ≤ 100000) (h : Q (.int xs.length) st) : lenM [.ref a] Q X st := .tup h1 h2 h
theorem wk_idxL {a : Addr} {k : Int} {xs : List V} {j : Nat} {u : V} {Q : V → St → Prop} (h1 : st.μ a = some (.list xs)) (h2 : xs.length ≤ 1000) (h3 : seqIndex? k xs.length = some j) (h4 : xs[j]? = some u) (h : Q u st) : idxM (.ref a) (.int k) Q X st := .list h1 h2 h3 h4 h
theorem wk_idxT {a : Addr} {k : Int} {xs : List V} {j : Nat} {u : V} {Q : V → St → Prop} (h1 : st.μ a = some (.tup xs)) (h2 : xs.length ≤ 1000) (h3 : seqIndex? k xs.length = some j) (h4 : xs[j]? = some u) (h : Q u st) : idxM (.ref a) (.int k) Q X st := .tup h1 h2 h3 h4 h
theorem wk_idxD {a : Addr} {k : Str} {es : List (Str × V)} {ep : Nat} {u : V} {Q : V → St → Prop} (h1 : st.μ a = some (.dict es ep)) (h2 : dget es k = some u) (h : Q u st) : idxM (.ref a) (.str k) Q X st := .dict h1 h2 h
theorem wk_itemD {a : Addr} {k : Str} {v : V} {es : List (Str × V)} {ep : Nat} {Q : Unit → St → Prop} (h1 : st.μ a = some (.dict es ep)) (h2 : es.length ≤ 1000) (h : ∀ ep, Q () (st.put a (.dict (dput es k v) ep))) : setItemM (.ref a) (.str k) v Q X st := .dict h1 h2 h
theorem wk_itemL {a : Addr} {k : Int} {v : V} {xs : List V} {Q : Unit → St → Prop} (h1 : st.μ a = some (.list xs)) (h2 : 0 ≤ k) (h3 : k < xs.length) (h4 : xs.length ≤ 1000) (h : Q () (st.put a (.list (xs.set k.toNat v)))) : setItemM (.ref a) (.int k) v Q X st := .list h1 h2 h3 h4 h
theorem wk_inD {a : Addr} {y : Str} {es : List (Str × V)} {ep : Nat} {Q : Bool → St → Prop} (h1 : st.μ a = some (.dict es ep)) (h : Q (dget es y).isSome st) : cmpM .In (.str y) (.ref a) Q X st := .in_ (.dict h1 h)
theorem wk_ninD {a : Addr} {y : Str} {es : List (Str × V)} {ep : Nat} {Q : Bool → St → Prop} (h1 : st.μ a = some (.dict es ep)) (h : Q (!(dget es y).isSome) st) : cmpM .NotIn (.str y) (.ref a) Q X st := .nin (.dict h1 h)
theorem wk_inSet {a : Addr} {y : Str} {ys : List Str} {Q : Bool → St → Prop} (h1 : st.μ a = some (.set ys)) (h : Q (decide (y ∈ ys)) st) : cmpM .In (.str y) (.ref a) Q X st := .in_ (.set h1 h)
theorem wk_ninSet {a : Addr} {y : Str} {ys : List Str} {Q : Bool → St → Prop} (h1 : st.μ a = some (.set ys)) (h : Q (!decide (y ∈ ys)) st) : cmpM .NotIn (.str y) (.ref a) Q X st := .nin (.set h1 h)
theorem wk_eqS {x y : Str} {Q : Bool → St → Prop} (h : Q (x == y) st) : cmpM .Eq (.str x) (.str y) Q X st := .eq (.str h)
theorem wk_neS {x y : Str} {Q : Bool → St → Prop} (h : Q (!(x == y)) st) : cmpM .NotEq (.str x) (.str y) Q X st := .ne (.str h)
theorem wk_eqI {x y : Int} {Q : Bool → St → Prop} (h : Q (x == y) st) : cmpM .Eq (.int x) (.int y) Q X st := .eq (.int h)
theorem wk_gtI {x y : Int} {Q : Bool → St → Prop} (h : Q (decide (x > y)) st) : cmpM .Gt (.int x) (.int y) Q X st := .gt h
theorem wk_geI {x y : Int} {Q : Bool → St → Prop} (h : Q (decide (x ≥ y)) st) : cmpM .GtE (.int x) (.int y) Q X st := .ge h
theorem wk_neR {a b : Addr} {d e : PyData} {Q : Bool → St → Prop} (h1 : Rd st.μ (.ref a) d) (h2 : Rd st.μ (.ref b) e) (h3 : okD d) (h4 : okD e) (h : Q (!PyData.eqv d e) st) : cmpM .NotEq (.ref a) (.ref b) Q X st := .ne (.rd h1 h2 h3 h4 h)
theorem wk_eqR {a b : Addr} {d e : PyData} {Q : Bool → St → Prop} (h1 : Rd st.μ (.ref a) d) (h2 : Rd st.μ (.ref b) e) (h3 : okD d) (h4 : okD e) (h : Q (PyData.eqv d e) st) : cmpM .Eq (.ref a) (.ref b) Q X st := .eq (.rd h1 h2 h3 h4 h)
noncomputable def LR {ι α : Type} (R : ι → α → Prop) : List ι → List α → Prop
 | [], [] => True
 | v :: vs, y :: ys => R v y ∧ LR R vs ys
 | _, _ => False
section
variable {ι : Type}
theorem LR.length {R : ι → α → Prop} : ∀ {vs : List ι} {ys : List α}, LR R vs ys → vs.length = ys.length
 | [], [], _ => rfl
 | v :: vs, y :: ys, h => congrArg (· + 1) (LR.length h.2)
theorem LR.mono {R R' : ι → α → Prop} (k : ∀ v y, R v y → R' v y) : ∀ {vs : List ι} {ys : List α}, LR R vs ys → LR R' vs ys
 | [], [], _ => trivial
 | v :: vs, y :: ys, h => ⟨k _ _ h.1, LR.mono k h.2⟩
theorem LR.app {R : ι → α → Prop} : ∀ {vs : List ι} {ys : List α} {ws : List ι} {zs : List α}, LR R vs ys → LR R ws zs → LR R (vs ++ ws) (ys ++ zs)
 | [], [], _, _, _, k => k
 | v :: vs, y :: ys, _, _, h, k => ⟨h.1, LR.app h.2 k⟩
theorem LR.one {R : ι → α → Prop} {v : ι} {y : α} (h : R v y) : LR R [v] [y] := ⟨h, trivial⟩
theorem LR.get {R : ι → α → Prop} : ∀ {vs : List ι} {ys : List α} {i : Nat} {y : α}, LR R vs ys → ys[i]? = some y → ∃ v, vs[i]? = some v ∧ R v y
 | [], [], _, _, _, e => by k_call_by "c" e
 | v :: vs, y :: ys, 0, _, h, e => by k_call_by "c" e; exact ⟨v, rfl, h.1⟩
 | v :: vs, y :: ys, i + 1, _, h, e => LR.get (i := i) h.2 e
theorem LR.map {κ : Type} {R : ι → α → Prop} {R' : κ → α → Prop} {f : ι → κ} (k : ∀ v y, R v y → R' (f v) y) : ∀ {vs : List ι} {ys : List α}, LR R vs ys → LR R' (vs.map f) ys
 | [], [], _ => trivial
 | v :: vs, y :: ys, h => ⟨k _ _ h.1, LR.map k h.2⟩
theorem LR.of_map {R : ι → α → Prop} {f : α → ι} (k : ∀ y, R (f y) y) : ∀ (ys : List α), LR R (ys.map f) ys
 | [] => trivial
 | y :: ys => ⟨k y, LR.of_map k ys⟩
theorem LR.eq_map {f : α → ι} : ∀ {vs : List ι} {ys : List α}, LR (fun v y => v = f y) vs ys → vs = ys.map f
 | [], [], _ => rfl
 | v :: vs, y :: ys, h => by rw [h.1, LR.eq_map h.2]; rfl
end
theorem LR.strs (ys : List Str) : LR (fun v y => v = .str y) (ys.map V.str) ys := LR.of_map (f := V.str) (R := fun v y => v = .str y) (fun _ => rfl) ys
noncomputable def bodyK (Q : Fl → St → Prop) (K : St → Prop) (f : Fl) (st : St) : Prop := match f with | .brk => Q .next st | .ret v => Q (.ret v) st | _ => K st
theorem wk_nextB {Q : Fl → St → Prop} {K : St → Prop} (h : K st) : bodyK Q K .next st := h
theorem wk_contB {Q : Fl → St → Prop} {K : St → Prop} (h : K st) : bodyK Q K .cont st := h
theorem wk_brkB {Q : Fl → St → Prop} {K : St → Prop} (h : Q .next st) : bodyK Q K .brk st := h
theorem wk_retB {Q : Fl → St → Prop} {K : St → Prop} {v : V} (h : Q (.ret v) st) : bodyK Q K (.ret v) st := h
theorem forM_rule {ι : Type} {cur : Nat → St → Option ι → Prop} {asg : ι → M Unit} {body els : M Fl} {Q : Fl → St → Prop} {xs : List ι} (I : Nat → St → Prop)
  (hs : ∀ i st' x (K : St → Prop), xs[i]? = some x → I i st' → (∀ st2, I (i + 1) st2 → K st2) → cur i st' (some x) ∧ asg x (fun _ st1 => body (bodyK Q K) X st1) X st')
  (he : ∀ st', I xs.length st' → cur xs.length st' none ∧ els Q X st') : ∀ (r : List ι) (i : Nat) (st : St), xs.drop i = r → i ≤ xs.length → I i st → forM cur asg body els i r Q X st := by
 intro r
 induction r with
 | nil =>
  intro i st hd hi h
  have : i = xs.length := Nat.le_antisymm hi (by simpa using hd)
  subst this
  exact he st h
 | cons x r ih =>
  intro i st hd hi h
  have hx : xs[i]? = some x := by
   have := congrArg (·[0]?) hd
   simpa using this
  have hlt : i < xs.length := (List.getElem?_eq_some_iff.mp hx).1
  have hd2 : xs.drop (i + 1) = r := by
   rw [← List.drop_drop, hd]; rfl
  exact hs i st x (fun st2 => forM cur asg body els (i + 1) r Q X st2) hx h fun st2 h2 => ih (i + 1) st2 hd2 hlt h2
theorem loop_gen {sr : Src} {asg : List V → M Unit} {body els : M Fl} {Q : Fl → St → Prop} {its : List (List V)} {ys : List α} {G : List V → α → Prop} (hi : sr.its st = its) (hr : LR G its ys) (I : List α → St → Prop) (h0 : I [] st)
  (hc : ∀ i st', i ≤ ys.length → I (ys.take i) st' → sr.cur i st' its[i]?)
  (hs : ∀ pre y post l st' (K : St → Prop), ys = pre ++ y :: post → G l y → I pre st' → (∀ st2, I (pre ++ [y]) st2 → K st2) → asg l (fun _ st1 => body (bodyK Q K) X st1) X st')
  (he : ∀ st', I ys st' → els Q X st') : loopM asg body els sr Q X st := by
 unfold loopM
 rw [hi]
 have hlen := hr.length
 refine forM_rule (xs := its) (fun i st' => I (ys.take i) st') ?_ ?_ _ 0 st rfl (Nat.zero_le _) (by simpa using h0)
 ·intro i st' x K hx hI hK
  have hlt : i < ys.length := hlen ▸ (List.getElem?_eq_some_iff.mp hx).1
  refine exG1_2 (hr.get (List.getElem?_eq_getElem hlt)) fun v' hv' hR => ?_
  rw [hx] at hv'; cases hv'
  refine ⟨hx ▸ hc i st' (Nat.le_of_lt hlt) hI, ?_⟩
  refine hs (ys.take i) ys[i] (ys.drop (i + 1)) x st' K (by rw [← List.drop_eq_getElem_cons hlt, List.take_append_drop]) hR hI fun st2 h2 => hK st2 ?_
  rw [List.take_succ_eq_append_getElem hlt]; exact h2
 ·intro st' hI
  have := hc _ st' (Nat.le_of_eq hlen) hI
  rw [hlen, List.take_length] at hI
  refine ⟨by simpa using this, he st' hI⟩
noncomputable def compB (elt : M V) (acc : List V) (K : List V → St → Prop) (b : Bool) (st : St) : Prop := if b = true then elt (fun v st3 => acc.length ≤ 1000 ∧ K (acc ++ [v]) st3) (fun _ _ => False) st else K acc st
theorem compGo_rule {ι : Type} {cur : Nat → St → Option ι → Prop} {asg : ι → M Unit} {tests : M Bool} {elt : M V} {fin : List V → St → Prop} {xs : List ι} (I : Nat → List V → St → Prop)
  (hs : ∀ i acc st' x (K : List V → St → Prop), xs[i]? = some x → I i acc st' → (∀ acc' st2, I (i + 1) acc' st2 → K acc' st2) → cur i st' (some x) ∧ asg x (fun _ st1 => tests (compB elt acc K) (fun _ _ => False) st1) (fun _ _ => False) st')
  (he : ∀ acc st', I xs.length acc st' → cur xs.length st' none ∧ fin acc st') : ∀ (r : List ι) (i : Nat) (acc : List V) (st : St), xs.drop i = r → i ≤ xs.length → I i acc st → compGo cur asg tests elt fin i r acc st := by
 intro r
 induction r with
 | nil =>
  intro i acc st hd hi h
  have : i = xs.length := Nat.le_antisymm hi (by simpa using hd)
  subst this
  exact he acc st h
 | cons x r ih =>
  intro i acc st hd hi h
  have hx : xs[i]? = some x := by
   have := congrArg (·[0]?) hd
   simpa using this
  have hlt : i < xs.length := (List.getElem?_eq_some_iff.mp hx).1
  have hd2 : xs.drop (i + 1) = r := by
   rw [← List.drop_drop, hd]; rfl
  exact hs i acc st x (fun acc' st2 => compGo cur asg tests elt fin (i + 1) r acc' st2) hx h fun acc' st2 h2 => ih (i + 1) acc' st2 hd2 hlt h2
noncomputable def compK (scope : Scope) (asg : List V → M Unit) (tests : M Bool) (elt : M V) (Q : V → St → Prop) (sr : Src) (st1 : St) : Prop := hasFree scope st1 ∧
 compGo sr.cur asg tests elt (fun acc st' => ∀ D, st'.μ D = none → Q (.ref D) ⟨st1.σ, upd st'.μ D (.list acc)⟩) 0 (sr.its st1) [] (compSt scope st1)
theorem wk_comp {scope : Scope} {psrc : M Src} {asg : List V → M Unit} {tests : M Bool} {elt : M V} {Q : V → St → Prop} (hf : hasFree scope st) (h : psrc (compK scope asg tests elt Q) X st) : compM scope psrc asg tests elt Q X st := ⟨hf, h⟩
theorem comp_gen {sr : Src} {scope : Scope} {asg : List V → M Unit} {tests : M Bool} {elt : M V} {Q : V → St → Prop} {its : List (List V)} {ys : List α} {G : List V → α → Prop} (hf : hasFree scope st) (hi : sr.its st = its) (hr : LR G its ys) (I : List α → List V → St → Prop) (h0 : I [] [] (compSt scope st))
  (hc : ∀ i acc st', i ≤ ys.length → I (ys.take i) acc st' → sr.cur i st' its[i]?)
  (hs : ∀ pre y post l acc st' (K : List V → St → Prop), ys = pre ++ y :: post → G l y → I pre acc st' → (∀ acc' st2, I (pre ++ [y]) acc' st2 → K acc' st2) → asg l (fun _ st1 => tests (compB elt acc K) (fun _ _ => False) st1) (fun _ _ => False) st')
  (he : ∀ acc st' D, I ys acc st' → st'.μ D = none → Q (.ref D) ⟨st.σ, upd st'.μ D (.list acc)⟩) : compK scope asg tests elt Q sr st := by
 refine ⟨hf, ?_⟩
 rw [hi]
 have hlen := hr.length
 refine compGo_rule (xs := its) (fun i acc st' => I (ys.take i) acc st') ?_ ?_ _ 0 [] _ rfl (Nat.zero_le _) (by simpa using h0)
 ·intro i acc st' x K hx hI hK
  have hlt : i < ys.length := hlen ▸ (List.getElem?_eq_some_iff.mp hx).1
  refine exG1_2 (hr.get (List.getElem?_eq_getElem hlt)) fun v' hv' hR => ?_
  rw [hx] at hv'; cases hv'
  refine ⟨hx ▸ hc i acc st' (Nat.le_of_lt hlt) hI, ?_⟩
  refine hs (ys.take i) ys[i] (ys.drop (i + 1)) x acc st' K (by rw [← List.drop_eq_getElem_cons hlt, List.take_append_drop]) hR hI fun acc' st2 h2 => hK acc' st2 ?_
  rw [List.take_succ_eq_append_getElem hlt]; exact h2
 ·intro acc st' hI
  have := hc _ acc st' (Nat.le_of_eq hlen) hI
  rw [hlen, List.take_length] at hI
  refine ⟨by simpa using this, fun D hD => he acc st' D hI hD⟩
theorem cur_list {xs : List V} {i : Nat} (h : st.μ a = some (.list xs)) : (Src.list a).cur i st (xs.map fun v => [v])[i]? := ⟨xs[i]?, by rw [List.getElem?_map], xs, h, rfl⟩
theorem cur_tup {xs : List V} {i : Nat} (h : st.μ a = some (.tup xs)) : (Src.tup a).cur i st (xs.map fun v => [v])[i]? := ⟨xs[i]?, by rw [List.getElem?_map], xs, h, rfl⟩
theorem its_list {xs : List V} (h : st.μ a = some (.list xs)) : (Src.list a).its st = xs.map fun v => [v] := by simp only [Src.its, listAt, h]
theorem its_tup {xs : List V} (h : st.μ a = some (.tup xs)) : (Src.tup a).its st = xs.map fun v => [v] := by simp only [Src.its, listAt, h]
theorem enumFrom_get (xs : List V) : ∀ (k i : Nat), (enumFrom k xs)[i]? = xs[i]?.map fun v => [V.int ((k + i : Nat) : Int), v] := by
 induction xs with
 | nil => intro k i; simp [enumFrom]
 | cons v r ih =>
  intro k i
  induction i with
  | zero => simp [enumFrom]
  | succ i => simp only [enumFrom, List.getElem?_cons_succ, ih]; rw [show k + 1 + i = k + (i + 1) by omega]
theorem cur_enL {xs xs' : List V} {i : Nat} (h : st.μ a = some (.list xs')) (e : xs'[i]? = xs[i]?) : (Src.enL a).cur i st (enumFrom 0 xs)[i]? := by
 rw [enumFrom_get, Nat.zero_add]
 cases q : xs[i]? with
 | none => exact ⟨none, rfl, xs', h, e.trans q⟩
 | some v => exact ⟨some (i, v), rfl, rfl, xs', h, e.trans q⟩
theorem cur_enT {xs : List V} {i : Nat} (h : st.μ a = some (.tup xs)) : (Src.enT a).cur i st (enumFrom 0 xs)[i]? := by
 rw [enumFrom_get, Nat.zero_add]
 cases q : xs[i]? with
 | none => exact ⟨none, rfl, xs, h, q⟩
 | some v => exact ⟨some (i, v), rfl, rfl, xs, h, q⟩
theorem its_enL {xs : List V} (h : st.μ a = some (.list xs)) : (Src.enL a).its st = enumFrom 0 xs := by simp only [Src.its, listAt, h]
theorem its_enT {xs : List V} (h : st.μ a = some (.tup xs)) : (Src.enT a).its st = enumFrom 0 xs := by simp only [Src.its, listAt, h]
theorem cur_keys {es : List (Str × V)} {i ep : Nat} (h : st.μ d = some (.dict es ep)) : (Src.keys d es.length ep).cur i st (es.map fun p => [V.str p.1])[i]? :=
 ⟨es[i]?.map (·.1), by rw [List.getElem?_map, Option.map_map]; rfl, es, h, rfl, rfl⟩
theorem cur_items {es : List (Str × V)} {i ep : Nat} (h : st.μ d = some (.dict es ep)) : (Src.items d es.length ep).cur i st (es.map fun p => [V.str p.1, p.2])[i]? :=
 ⟨es[i]?, by rw [List.getElem?_map], es, h, rfl, rfl⟩
theorem its_keys {es : List (Str × V)} {k ep ep' : Nat} (h : st.μ d = some (.dict es ep)) : (Src.keys d k ep').its st = es.map fun p => [V.str p.1] := by simp only [Src.its, dictAt, h]
theorem its_items {es : List (Str × V)} {k ep ep' : Nat} (h : st.μ d = some (.dict es ep)) : (Src.items d k ep').its st = es.map fun p => [V.str p.1, p.2] := by simp only [Src.its, dictAt, h]
theorem cur_rng {k i : Nat} : (Src.rng k).cur i st ((List.range k).map fun i : Nat => [V.int (i : Int)])[i]? := by
 rw [List.getElem?_map]
 refine ⟨((List.range k)[i]?).map fun i : Nat => V.int (i : Int), by rw [Option.map_map]; rfl, ?_⟩
 unfold curR
 by_cases h : i < k
 ·rw [List.getElem?_range h, if_pos h]; rfl
 ·rw [List.getElem?_eq_none (by simpa using Nat.le_of_not_lt h), if_neg h]; rfl
theorem LR.enum {R : V → α → Prop} : ∀ {xs : List V} {ys : List α} (k : Nat), LR R xs ys → LR (fun l (p : α × Nat) => ∃ v, l = [V.int (p.2 : Int), v] ∧ R v p.1) (enumFrom k xs) (ys.zipIdx k)
 | [], [], _, _ => trivial
 | v :: vs, y :: ys, k, h => ⟨⟨v, rfl, h.1⟩, LR.enum (k + 1) h.2⟩
theorem LR.ones {R : V → α → Prop} {xs : List V} {ys : List α} (h : LR R xs ys) : LR (fun l y => ∃ v, l = [v] ∧ R v y) (xs.map fun v => [v]) ys := h.map fun v y h => ⟨v, rfl, h⟩
end Kk
end
section
namespace Kk
variable {α β γ δ : Type}
theorem dget_same {es : List (Str × V)} {k : Str} {v : V} : dget (dput es k v) k = some v := by
 unfold dput
 split
 ·rename_i h
  unfold dget
  induction es with
  | nil => simp at h
  | cons p r ih =>
   simp only [List.map_cons, List.find?_cons]
   by_cases e : p.1 = k
   ·simp [e]
   ·simp only [e, if_false, decide_false]
    exact ih (by simpa [e] using h)
 ·rename_i h
  unfold dget
  rw [List.find?_append]
  have : es.find? (fun p => decide (p.1 = k)) = none := by
   rw [List.find?_eq_none]
   intro p hp hk
   exact h (List.any_eq_true.mpr ⟨p, hp, hk⟩)
  rw [this]
  simp
theorem dget_put_ne {es : List (Str × V)} {k y : Str} {v : V} (h : y ≠ k) : dget (dput es k v) y = dget es y := by
 unfold dput
 split
 ·unfold dget
  rename_i h0; clear h0
  induction es with
  | nil => rfl
  | cons p r ih =>
   simp only [List.map_cons, List.find?_cons]
   by_cases e : p.1 = k
   ·have : ¬ k = y := fun e2 => h e2.symm
    simp only [e, if_true, this, decide_false]
    simpa using ih
   ·simp only [e, if_false]
    by_cases e2 : p.1 = y
    ·simp [e2]
    ·simp only [e2, decide_false]; exact ih
 ·unfold dget
  rw [List.find?_append]
  have : ([(k, v)] : List (Str × V)).find? (fun p => decide (p.1 = y)) = none := by simp [Ne.symm h]
  rw [this, Option.or_none]
theorem dget_ne {es : List (Str × V)} {k y : Str} {v : V} {r : Option V} (h : y ≠ k) (e : dget es y = r) : dget (dput es k v) y = r := (dget_put_ne h).trans e
theorem dput_len {es : List (Str × V)} {k : Str} {v : V} {n : Nat} (h : es.length ≤ n) : (dput es k v).length ≤ n + 1 := by
 unfold dput
 split
 ·simpa using Nat.le_succ_of_le h
 ·simpa using h
theorem wk_asg1 {x : Str} {v : V} {Q : Unit → St → Prop} {X : Ex → St → Prop} {st : St} (h : Q () (st.set x v)) : asg1 x [v] Q X st := h
theorem wk_asgT2 {x y : Str} {v w : V} {Q : Unit → St → Prop} {X : Ex → St → Prop} {st : St} (h : Q () ((st.set x v).set y w)) : asgT [x, y] [v, w] Q X st := h
theorem wk_asgT1 {x y : Str} {v w : V} {t : Addr} {Q : Unit → St → Prop} {X : Ex → St → Prop} {st : St} (h1 : st.μ t = some (.tup [v, w])) (h : Q () ((st.set x v).set y w)) : asgT [x, y] [.ref t] Q X st := by
 unfold asgT unpackM; simp only [h1]; exact h
theorem wk_and {d : M Bool} {b b2 : Bool} {Q : Bool → St → Prop} {X : Ex → St → Prop} {st : St} (hd : ∀ (Q : Bool → St → Prop) X, Q b2 st → d Q X st) (h : Q (b && b2) st) : ifK d (mret false) Q X b st := by
 k_call_by "c" b
 ·exact h
 ·exact hd _ _ (by simpa using h)
theorem wk_or {d : M Bool} {b b2 : Bool} {Q : Bool → St → Prop} {X : Ex → St → Prop} {st : St} (hd : ∀ (Q : Bool → St → Prop) X, Q b2 st → d Q X st) (h : Q (b || b2) st) : ifK (mret true) d Q X b st := by
 k_call_by "c" b
 ·exact hd _ _ (by simpa using h)
 ·exact h
theorem wk_bindR {p : M α} {f : α → (β → St → Prop) → (Ex → St → Prop) → St → Prop} {Q : β → St → Prop} {X : Ex → St → Prop} {st : St} (h : p (fun a st' => f a Q X st') X st) : mbind p f Q X st := h
theorem wk_bindL {p : (α → St → Prop) → (Ex → St → Prop) → St → Prop} {f : α → M β} {Q : β → St → Prop} {X : Ex → St → Prop} {st : St} (h : p (fun a st' => f a Q X st') X st) : mbind p f Q X st := h
theorem wk_bindB {p : (α → St → Prop) → (Ex → St → Prop) → St → Prop} {f : α → (β → St → Prop) → (Ex → St → Prop) → St → Prop} {Q : β → St → Prop} {X : Ex → St → Prop} {st : St} (h : p (fun a st' => f a Q X st') X st) : mbind p f Q X st := h
section
variable {X : Ex → St → Prop} {st : St}
theorem canLay_strs : ∀ {ys : List Str}, (∀ y ∈ ys, PyData.strOk y = true) → PyData.canLayAll0 (ys.map .str) = true
 | [], _ => rfl
 | y :: r, h => by
  rw [List.map_cons, PyData.canLayAll0, PyData.canLay0, h y (.head _), canLay_strs fun z hz => h z (.tail _ hz)]; rfl
theorem depth_strs : ∀ (ys : List Str), PyData.depthAll (ys.map .str) = 0
 | [] => rfl
 | y :: r => by rw [List.map_cons, PyData.depthAll, PyData.depth, depth_strs r]; rfl
theorem okD_strs {ys : List Str} (h : ∀ y ∈ ys, PyData.strOk y = true) : okD (.list (ys.map .str)) := ⟨canLay_strs h, by rw [PyData.depth, depth_strs]; omega⟩
theorem okD_str {y : Str} (h : PyData.strOk y = true) : okD (.str y) := ⟨h, by rw [PyData.depth]; omega⟩
theorem rdAll_strs {μ : Addr → Option O} : ∀ (ys : List Str), RdAll μ (ys.map .str) (ys.map .str)
 | [] => .nil
 | y :: r => .cons (.str y) (rdAll_strs r)
theorem any_strs (ys : List Str) (x : Str) : ((ys.map PyData.str).any fun y => PyData.eqv y (.str x)) = decide (x ∈ ys) := by
 induction ys with
 | nil => rfl
 | cons y r ih =>
  rw [List.map_cons, List.any_cons, ih, PyData.eqv]
  by_cases e : x = y
  ·subst e; simp
  ·have : (y == x) = false := by simpa using Ne.symm e
   simp [this, e]
theorem wk_inL {a : Addr} {x : Str} {ys : List Str} {Q : Bool → St → Prop} (h1 : st.μ a = some (.list (ys.map .str))) (h2 : ∀ y ∈ ys, PyData.strOk y = true) (h3 : PyData.strOk x = true) (h : Q (decide (x ∈ ys)) st) : cmpM .In (.str x) (.ref a) Q X st := .in_ (.list h1 (rdAll_strs ys) (.str x) (okD_strs h2) (okD_str h3) (by rw [any_strs]; exact h))
theorem wk_ninL {a : Addr} {x : Str} {ys : List Str} {Q : Bool → St → Prop} (h1 : st.μ a = some (.list (ys.map .str))) (h2 : ∀ y ∈ ys, PyData.strOk y = true) (h3 : PyData.strOk x = true) (h : Q (!decide (x ∈ ys)) st) : cmpM .NotIn (.str x) (.ref a) Q X st := .nin (.list h1 (rdAll_strs ys) (.str x) (okD_strs h2) (okD_str h3) (by rw [any_strs]; exact h))
variable {Q : Bool → St → Prop}
theorem wk_truthL {a : Addr} {xs : List V} (h1 : st.μ a = some (.list xs)) (h2 : xs.length ≤ 100000) (h : Q (!xs.isEmpty) st) : truthM (.ref a) Q X st := .list h1 h2 h
theorem wk_truthT {a : Addr} {xs : List V} (h1 : st.μ a = some (.tup xs)) (h2 : xs.length ≤ 100000) (h : Q (!xs.isEmpty) st) : truthM (.ref a) Q X st := .tup h1 h2 h
theorem wk_truthB {b : Bool} (h : Q b st) : truthM (.bool b) Q X st := .bool h
theorem wk_truthN (h : Q false st) : truthM .none Q X st := .none h
end
end Kk
end
section
open Kk
local macro_rules | `(tactic| k_call_by "e" $t) => `(tactic| with_reducible exact $t)
local macro_rules | `(tactic| k_call_by "a" $t) => `(tactic| with_reducible apply $t)
local macro_rules | `(tactic| k_call_by "m" $t) => `(tactic| ((with_reducible apply $t); walk_at "mu"))
local macro_rules | `(tactic| k_call_by "mm" $t) => `(tactic| (k_call_by "m" $t; walk_at "mu"))
local macro_rules | `(tactic| k_call_by "md" $t) => `(tactic| (k_call_by "mm" $t; walk_at "dg"))
local macro_rules | `(tactic| k_call_by "ml" $t) => `(tactic| (k_call_by "m" $t; walk_at "ln"))
local macro_rules | `(tactic| k_call_by "r" $t) => `(tactic| ((with_reducible apply $t); with_reducible assumption))
local macro_rules | `(tactic| walk_at "nm") => `(tactic| (first | decide | focus (simp only [ofString_inj, ne_eq, String.reduceEq, not_false_eq_true, List.mem_cons, List.not_mem_nil, or_false, false_or, or_self, not_or, and_self, or_true, true_or, not_false_iff]; done)))
local macro_rules | `(tactic| walk_at "sg") => `(tactic| first | assumption | k_call_by "e" sig_same | (k_call_by "a" sig_ne; walk_at "nm"; walk_at "sg") | (k_call_by "a" sig_put; walk_at "sg") | (k_call_by "a" sig_comp; kernel_rfl; walk_at "sg") | (k_call_by "a" SameBut.get; assumption; walk_at "nm"; walk_at "sg"))
local macro_rules | `(tactic| walk_at "mu") => `(tactic| first | with_reducible assumption | k_call_by "e" put_same | k_call_by "e" u_same | (k_call_by "r" put_old; walk_at "mu") | (k_call_by "r" u_old; walk_at "mu") | (k_call_by "a" put_ne; walk_at "ne"; walk_at "mu") | (k_call_by "a" u_ne; walk_at "ne"; walk_at "mu") | k_call_by "m" set_mu | (k_call_by "r" Le.get; walk_at "mu") | (k_call_by "a" Le.get; k_call_by "r" Le.put_mut; with_reducible assumption; walk_at "mu"))
local macro_rules | `(tactic| walk_at "ne") => `(tactic| first | with_reducible assumption | exact Ne.symm (by with_reducible assumption) | focus (k_call_by "r" ne_none2; walk_at "mu"; done))
local macro_rules | `(tactic| walk_at "le") => `(tactic| first | with_reducible assumption | k_call_by "e" Le.refl | (k_call_by "r" Le.put_new; walk_at "le") | (k_call_by "r" Le.new2; walk_at "le") | (k_call_by "r" Le.put_mut; walk_at "le") | (k_call_by "a" Le.st_set; walk_at "le") | (k_call_by "r" Le.trans2; walk_at "le"))
local macro_rules | `(tactic| walk_at "dg") => `(tactic| first | with_reducible assumption | k_call_by "e" dget_same | (k_call_by "a" dget_ne; walk_at "nm"; walk_at "dg") | rfl)
local macro_rules | `(tactic| walk_at "ln") => `(tactic| first | with_reducible assumption | exact Nat.zero_le _ | (k_call_by "a" dput_len; walk_at "ln") | focus (simp only [List.length_cons, List.length_nil, List.length_map, List.length_append, List.length_singleton]; first | exact Nat.le_trans (by with_reducible assumption) (by decide) | omega) | exact Nat.le_trans (by with_reducible assumption) (by decide) | omega)
local macro_rules | `(tactic| walk_at "w1") => `(tactic| first | (k_call_by "a" wk_battr; walk_at "sg"; walk_at "mu"; walk_at "mu"; walk_at "dg"; focus (first | assumption | (intro e; k_call_by "c" e; done))) | (k_call_by "a" wk_bloc; walk_at "sg") | (with_reducible first | apply wk_sasg | apply wk_bret | apply wk_seq | apply wk_bind | apply wk_bindR | apply wk_bindL | apply wk_bindB | apply wk_ret | apply wk_set | apply wk_asg | apply wk_next | apply wk_if | apply wk_retS | apply wk_brkS | apply wk_contS | apply wk_true | apply wk_false | apply wk_nextB | apply wk_contB | apply wk_brkB | apply wk_retB) | (k_call_by "a" wk_loc; walk_at "sg") | (k_call_by "md" wk_attr; first | assumption | focus (intro e; k_call_by "c" e; done)) | k_call_by "md" wk_inst | k_call_by "m" wk_seqL | k_call_by "m" wk_seqT | k_call_by "m" wk_seqD | k_call_by "m" wk_items | k_call_by "m" wk_enL | k_call_by "m" wk_enT | (k_call_by "m" wk_kind; rfl) | k_call_by "m" wk_inD | k_call_by "m" wk_ninD | k_call_by "m" wk_inSet | k_call_by "m" wk_ninSet | k_call_by "a" wk_asg1 | k_call_by "a" wk_asgT2 | k_call_by "m" wk_asgT1 | (k_call_by "m" wk_inL; with_reducible assumption; with_reducible assumption) | (k_call_by "m" wk_ninL; with_reducible assumption; with_reducible assumption) | (k_call_by "a" wk_and; focus (intro Q X h; walk_at "w"; with_reducible exact h)) | (k_call_by "a" wk_or; focus (intro Q X h; walk_at "w"; with_reducible exact h)) | k_call_by "ml" wk_truthL | k_call_by "ml" wk_truthT | k_call_by "a" wk_truthB | k_call_by "a" wk_truthN | (k_call_by "mm" wk_setAttr; walk_at "ln"; intro ep) | k_call_by "a" wk_eqS | k_call_by "a" wk_neS | k_call_by "a" wk_eqI | k_call_by "a" wk_gtI | k_call_by "a" wk_geI | k_call_by "ml" wk_append | k_call_by "ml" wk_lenL | k_call_by "ml" wk_lenT)
local macro_rules | `(tactic| walk_at "w") => `(tactic| repeat walk_at "w1")
section
set_option maxHeartbeats 1000000
namespace Kk
variable {α β γ δ : Type}
theorem wk_own {c a d : Addr} {f : List V → M V} {es : List (Str × V)} {ep : Nat} {Q : Int → St → Prop} {X : Ex → St → Prop} {st : St} (h1 : st.μ a = some (.inst c d)) (h2 : st.μ d = some (.dict es ep))
  (h : f [.ref a] (fun r st' => ∃ i, r = .int i ∧ (0 ≤ i ∧ i < 2 ^ 62) ∧ Q i st') X st) : lenOwnM c f (.ref a) Q X st := .mk h1 h2 h
theorem wk_fn {names : List Str} {tail : List (Str × V)} {k : Nat} {pb : M Fl} {us : List V} {Q : V → St → Prop} {X : Ex → St → Prop} {st : St} (hk : us.length = k)
  (h : pb (fun f st' => Q (retV f) ⟨st.σ, st'.μ⟩) (fun k st' => X k ⟨st.σ, st'.μ⟩) ⟨argσ (names.zip us ++ tail), st.μ⟩) : fnM names tail k pb us Q X st := ⟨hk, h⟩
theorem wk_en1 {names : List Str} {tail : List (Str × V)} {k : Nat} {pb : M Fl} {us : List V} {Q : V → St → Prop} {X : Ex → St → Prop} {st : St} {a1 : Str} {v1 : V} (hk : us.length = k) (h1 : argσ (names.zip us ++ tail) a1 = some v1)
  (h : ∀ σ, σ a1 = some v1 → pb (fun f st' => Q (retV f) ⟨st.σ, st'.μ⟩) (fun k st' => X k ⟨st.σ, st'.μ⟩) ⟨σ, st.μ⟩) : fnM names tail k pb us Q X st := wk_fn hk (h _ h1)
theorem wk_en2 {names : List Str} {tail : List (Str × V)} {k : Nat} {pb : M Fl} {us : List V} {Q : V → St → Prop} {X : Ex → St → Prop} {st : St} {a1 a2 : Str} {v1 v2 : V} (hk : us.length = k) (h1 : argσ (names.zip us ++ tail) a1 = some v1) (h2 : argσ (names.zip us ++ tail) a2 = some v2)
  (h : ∀ σ, σ a1 = some v1 → σ a2 = some v2 → pb (fun f st' => Q (retV f) ⟨st.σ, st'.μ⟩) (fun k st' => X k ⟨st.σ, st'.μ⟩) ⟨σ, st.μ⟩) : fnM names tail k pb us Q X st := wk_fn hk (h _ h1 h2)
theorem wk_en4 {names : List Str} {tail : List (Str × V)} {k : Nat} {pb : M Fl} {us : List V} {Q : V → St → Prop} {X : Ex → St → Prop} {st : St} {a1 a2 a3 a4 : Str} {v1 v2 v3 v4 : V} (hk : us.length = k) (h1 : argσ (names.zip us ++ tail) a1 = some v1) (h2 : argσ (names.zip us ++ tail) a2 = some v2) (h3 : argσ (names.zip us ++ tail) a3 = some v3) (h4 : argσ (names.zip us ++ tail) a4 = some v4)
  (h : ∀ σ, σ a1 = some v1 → σ a2 = some v2 → σ a3 = some v3 → σ a4 = some v4 → pb (fun f st' => Q (retV f) ⟨st.σ, st'.μ⟩) (fun k st' => X k ⟨st.σ, st'.μ⟩) ⟨σ, st.μ⟩) : fnM names tail k pb us Q X st := wk_fn hk (h _ h1 h2 h3 h4)
theorem wk_en6 {names : List Str} {tail : List (Str × V)} {k : Nat} {pb : M Fl} {us : List V} {Q : V → St → Prop} {X : Ex → St → Prop} {st : St} {a1 a2 a3 a4 a5 a6 : Str} {v1 v2 v3 v4 v5 v6 : V} (hk : us.length = k) (h1 : argσ (names.zip us ++ tail) a1 = some v1) (h2 : argσ (names.zip us ++ tail) a2 = some v2) (h3 : argσ (names.zip us ++ tail) a3 = some v3) (h4 : argσ (names.zip us ++ tail) a4 = some v4) (h5 : argσ (names.zip us ++ tail) a5 = some v5) (h6 : argσ (names.zip us ++ tail) a6 = some v6)
  (h : ∀ σ, σ a1 = some v1 → σ a2 = some v2 → σ a3 = some v3 → σ a4 = some v4 → σ a5 = some v5 → σ a6 = some v6 → pb (fun f st' => Q (retV f) ⟨st.σ, st'.μ⟩) (fun k st' => X k ⟨st.σ, st'.μ⟩) ⟨σ, st.μ⟩) : fnM names tail k pb us Q X st := wk_fn hk (h _ h1 h2 h3 h4 h5 h6)
theorem wk_en8 {names : List Str} {tail : List (Str × V)} {k : Nat} {pb : M Fl} {us : List V} {Q : V → St → Prop} {X : Ex → St → Prop} {st : St} {a1 a2 a3 a4 a5 a6 a7 a8 : Str} {v1 v2 v3 v4 v5 v6 v7 v8 : V} (hk : us.length = k) (h1 : argσ (names.zip us ++ tail) a1 = some v1) (h2 : argσ (names.zip us ++ tail) a2 = some v2) (h3 : argσ (names.zip us ++ tail) a3 = some v3) (h4 : argσ (names.zip us ++ tail) a4 = some v4) (h5 : argσ (names.zip us ++ tail) a5 = some v5) (h6 : argσ (names.zip us ++ tail) a6 = some v6) (h7 : argσ (names.zip us ++ tail) a7 = some v7) (h8 : argσ (names.zip us ++ tail) a8 = some v8)
  (h : ∀ σ, σ a1 = some v1 → σ a2 = some v2 → σ a3 = some v3 → σ a4 = some v4 → σ a5 = some v5 → σ a6 = some v6 → σ a7 = some v7 → σ a8 = some v8 → pb (fun f st' => Q (retV f) ⟨st.σ, st'.μ⟩) (fun k st' => X k ⟨st.σ, st'.μ⟩) ⟨σ, st.μ⟩) : fnM names tail k pb us Q X st := wk_fn hk (h _ h1 h2 h3 h4 h5 h6 h7 h8)
set_option genInjectivity false in
structure PR where
 num : Int
 nm : Str
 sy : List Str
inductive ProdAt (μ : Addr → Option O) (v : V) (p : PR) : Prop
 | mk (a d : Addr) (es : List (Str × V)) (ep : Nat) (t : Addr) : v = .ref a → μ a = some (.inst 81 d) → μ d = some (.dict es ep) → dget es "name" = some (.str p.nm) → dget es "number" = some (.int p.num) → dget es "prod" = some (.ref t) → μ t = some (.tup (p.sy.map .str)) → ProdAt μ v p
theorem ProdAt.le {μ μ' : Addr → Option O} (k : Le μ μ') {v : V} {p : PR} (h : ProdAt μ v p) : ProdAt μ' v p :=
 by obtain ⟨a, d, es, ep, t, e1, e2, e3, e4, e5, e6, e7⟩ := h; exact ⟨a, d, es, ep, t, e1, k _ _ e2, k _ _ e3, e4, e5, e6, k _ _ e7⟩
inductive FG (μ : Addr → Option O) (gr : Addr) (ps : List PR) (pk tk nk : List Str) (occ : Str → List Int) (us : List Str) : Prop
 | mk (d : Addr) (es : List (Str × V)) (ep : Nat) (P : Addr) (vs : List V) (pn : Addr) (ad : Str → Addr) (pe : Nat) (t : Addr) (at_ : Str → Addr) (te : Nat) (nt : Addr) (an : Str → Addr) (ne : Nat) (pr a1 a2 a3 : Addr) (pre : Nat) (up : Addr) :
  μ gr = some (.inst 227 d) → μ d = some (.dict es ep) → dget es "Productions" = some (.ref P) → μ P = some (.list vs) → LR (ProdAt μ) vs ps →
  dget es "Prodnames" = some (.ref pn) → μ pn = some (.dict (pk.map fun k => (k, .ref (ad k))) pe) → (∀ k ∈ pk, ∃ ws, μ (ad k) = some (.list ws) ∧ LR (ProdAt μ) ws (ps.filter fun p => p.nm = k)) →
  dget es "Terminals" = some (.ref t) → μ t = some (.dict (tk.map fun k => (k, .ref (at_ k))) te) → (∀ k ∈ tk, μ (at_ k) = some (.list ((occ k).map .int))) →
  dget es "Nonterminals" = some (.ref nt) → μ nt = some (.dict (nk.map fun k => (k, .ref (an k))) ne) → (∀ k ∈ nk, μ (an k) = some (.list ((occ k).map .int))) →
  dget es "Precedence" = some (.ref pr) → μ pr = some (.dict [("A", .ref a1), ("Y", .ref a2), ("Z", .ref a3)] pre) → μ a1 = some (.tup [.str "left", .int 1]) → μ a2 = some (.tup [.str "right", .int 2]) → μ a3 = some (.tup [.str "nonassoc", .int 3]) →
  dget es "UsedPrecedence" = some (.ref up) → μ up = some (.set us) → FG μ gr ps pk tk nk occ us
theorem dget_keys {ks : List Str} {f : Str → V} {y : Str} : dget (ks.map fun k => (k, f k)) y = if y ∈ ks then some (f y) else none := by
 unfold dget
 induction ks with
 | nil => rfl
 | cons k r ih =>
  simp only [List.map_cons, List.find?_cons]
  by_cases e : k = y
  ·subst e; simp
  ·simp only [e, decide_false, List.mem_cons, Ne.symm e, false_or]
   rw [← ih]
theorem dget_keys_some {ks : List Str} {f : Str → V} {y : Str} : (dget (ks.map fun k => (k, f k)) y).isSome = decide (y ∈ ks) := by
 rw [dget_keys]; by_cases h : y ∈ ks <;> simp [h]
variable {g : Gx} {Q : V → St → Prop} {X : Ex → St → Prop} {st : St}
inductive UndR (μ : Addr → Option O) (v : V) (q : Str × PR) : Prop
 | mk (t : Addr) (u : V) : v = .ref t → μ t = some (.tup [.str q.1, u]) → ProdAt μ u q.2 → UndR μ v q
noncomputable def undOf (pk tk : List Str) (ps : List PR) : List (Str × PR) := ps.flatMap fun p => (p.sy.filter fun s => !decide (s ∈ pk) && (!decide (s ∈ tk) && !(s == ("error" : Str)))).map fun s => (s, p)
theorem sp_len_P {k : Nat} {m : Mine g} {v : V} {p : PR} (hp : ProdAt st.μ v p) (hl : p.sy.length ≤ 100) (h : Q (.int p.sy.length) st) : fnM ["self"] (([] : List (Str × Value)).map fun p => (p.1, er p.2)) 1 (r_len_P (n := k) m).1 [v] Q X st := by
 obtain ⟨a, d, es, ep, t, rfl, e2, e3, e4, e5, e6, e7⟩ := hp
 refine wk_en1 (a1 := "self") (v1 := (V.ref a : V)) rfl (by kernel_rfl) fun σ s_self => ?_
 unfold r_len_P; dsimp only
 walk_at "w"
 simpa [retV] using h
theorem flatMap_len {f : α → List β} {pre : List α} {y : α} {post ys : List α} (e : ys = pre ++ y :: post) : (pre.flatMap f).length + (f y).length ≤ (ys.flatMap f).length := by
 rw [e, List.flatMap_append, List.flatMap_cons]; simp
theorem UndR.le {μ μ' : Addr → Option O} (k : Le μ μ') {v : V} {q : Str × PR} (h : UndR μ v q) : UndR μ' v q :=
 by obtain ⟨t, u, e1, e2, e3⟩ := h; exact ⟨t, u, e1, k _ _ e2, e3.le k⟩
theorem sp_undefined {k : Nat} {m : Mine g} {gr : Addr} {ps : List PR} {pk tk nk : List Str} {occ : Str → List Int} {us : List Str} (hG : FG st.μ gr ps pk tk nk occ us) (hl : ∀ p ∈ ps, p.sy.length ≤ 100) (hb : (undOf pk tk ps).length ≤ 500)
  (h : ∀ r μ' vs, Le st.μ μ' → μ' r = some (.list vs) → LR (UndR μ') vs (undOf pk tk ps) → Q (.ref r) ⟨st.σ, μ'⟩) :
  fnM ["self"] (([] : List (Str × Value)).map fun p => (p.1, er p.2)) 1 (r_undefined_symbols (n := k) m).1 [.ref gr] Q X st := by
 refine wk_en1 (a1 := "self") (v1 := (V.ref gr : V)) rfl (by kernel_rfl) fun σ s_self => ?_
 obtain ⟨d, es, ep, P, vs, pn, ad, pe, t, at_, te, nt, an, ne, pr, a1, a2, a3, pre, up, g1, g2, g3, g4, g5, g6, g7, g8, g9, g10, g11, -, -, -, -, -, -, -, -, -, -⟩ := id hG
 unfold r_undefined_symbols; dsimp only
 walk_at "w"
 refine wk_list (by simp) fun r hr => ?_
 walk_at "w"
 have hI0 : Le st.μ (st.put r (.list [])).μ := by walk_at "le"
 refine loop_gen (its_list (xs := vs) (by walk_at "mu")) g5.ones (fun pre st' => st'.σ "self" = some (.ref gr) ∧ st'.σ "result" = some (.ref r) ∧ ∃ F acc, Le st.μ F ∧ F r = none ∧ Le F st'.μ ∧ st'.μ r = some (.list acc) ∧ LR (UndR F) acc (undOf pk tk pre)) ?_ ?_ ?_ ?_
 ·exact ⟨by walk_at "sg", by walk_at "sg", st.μ, [], Le.refl, hr, by walk_at "le", by walk_at "mu", trivial⟩
 ·intro i st' hi q0q
  refine exG0_3 q0q fun _ _ r1 => ?_
  refine exG2_5 r1 fun F acc k1 k2 k3 k4 k5 => ?_
  exact cur_list (by walk_at "mu")
 ·intro pre p post l st' K hps q0q q1q hK
  refine exG1_2 q0q fun v r2 hp => ?_
  obtain rfl := r2
  refine exG0_3 q1q fun s1 s2 r3 => ?_
  refine exG2_5 r3 fun F acc k1 k2 k3 k4 k5 => ?_
  have hpm : p ∈ ps := by rw [hps]; simp
  walk_at "w"
  obtain ⟨pa, pd, pes, pep, pt, rfl, e2, e3, e4, e5, e6, e7⟩ := id hp
  refine wk_own (by walk_at "mu") (by walk_at "mu") ?_
  refine sp_len_P (p := p) (hp.le (k1.trans k3)) (hl p hpm) ?_
  refine ⟨_, rfl, ⟨by omega, ?_⟩, ?_⟩
  ·have := hl p hpm; omega
  walk_at "w"
  refine wk_split (fun hb1 => ?_) (fun hb1 => ?_)
  ·walk_at "w"
   have : p.sy = [] := by simpa using hb1
   refine hK _ ⟨by walk_at "sg", by walk_at "sg", F, acc, k1, k2, by walk_at "le", by walk_at "mu", ?_⟩
   rw [undOf, List.flatMap_append, List.flatMap_cons, this]
   simpa [undOf] using k5
  ·walk_at "w"
   refine loop_gen (its_tup (xs := p.sy.map .str) (by walk_at "mu")) (LR.strs p.sy).ones (fun pre2 st' => st'.σ "self" = some (.ref gr) ∧ st'.σ "result" = some (.ref r) ∧ st'.σ "p" = some (.ref pa) ∧ ∃ F acc, Le st.μ F ∧ F r = none ∧ Le F st'.μ ∧ st'.μ r = some (.list acc) ∧
    LR (UndR F) acc (undOf pk tk pre ++ (pre2.filter fun s => !decide (s ∈ pk) && (!decide (s ∈ tk) && !(s == ("error" : Str)))).map fun s => (s, p))) ?_ ?_ ?_ ?_
   ·exact ⟨by walk_at "sg", by walk_at "sg", by walk_at "sg", F, acc, k1, k2, k3, by walk_at "mu", by simpa using k5⟩
   ·intro i st' hi q0q
    refine exG0_4 q0q fun _ _ _ r4 => ?_
    refine exG2_5 r4 fun F acc k1 k2 k3 k4 k5 => ?_
    exact cur_tup (by walk_at "mu")
   ·intro pre2 x post2 l st2 K2 hs2 q0q q1q hK2
    refine exG1_2 q0q fun v r5 r6 => ?_
    obtain rfl := r5
    obtain rfl := r6
    refine exG0_4 q1q fun s1 s2 s3 r7 => ?_
    refine exG2_5 r7 fun F acc k1 k2 k3 k4 k5 => ?_
    walk_at "w"
    rw [dget_keys_some, dget_keys_some]
    refine wk_split (fun hb2 => ?_) (fun hb2 => ?_)
    ·walk_at "w"
     have hal : acc.length ≤ 1000 := by
      have h1 := k5.length
      have h2 := flatMap_len (f := fun p => (p.sy.filter fun s => !decide (s ∈ pk) && (!decide (s ∈ tk) && !(s == ("error" : Str)))).map fun s => (s, p)) hps
      have h3 : ((pre2.filter fun s => !decide (s ∈ pk) && (!decide (s ∈ tk) && !(s == ("error" : Str)))).map fun s => (s, p)).length ≤ ((p.sy.filter fun s => !decide (s ∈ pk) && (!decide (s ∈ tk) && !(s == ("error" : Str)))).map fun s => (s, p)).length := by
       rw [hs2, List.filter_append]; simp
      simp only [List.length_append, undOf] at h1 hb
      omega
     refine wk_tup (by simp) fun t ht => ?_
     walk_at "w"
     have hrt : r ≠ t := ne_none (o := .list acc) (by walk_at "mu") ht
     have hFt : F t = none := k3.noneOf ht
     refine hK2 _ ⟨by walk_at "sg", by walk_at "sg", by walk_at "sg", upd F t (.tup [.str x, .ref pa]), _, k1.new hFt, u_none hrt k2, Le.put_mut (u_none hrt k2) (Le.ext k3 ht), by walk_at "mu", ?_⟩
     rw [List.filter_append, List.filter_cons_of_pos (by simpa using hb2), List.map_append, ← List.append_assoc]
     refine LR.app (k5.mono fun v y => UndR.le (Le.refl.new hFt)) (LR.one ⟨t, _, rfl, u_same, (hp.le k1).le (Le.refl.new hFt)⟩)
    ·walk_at "w"
     refine hK2 _ ⟨by walk_at "sg", by walk_at "sg", by walk_at "sg", F, acc, k1, k2, by walk_at "le", by walk_at "mu", ?_⟩
     rw [List.filter_append, List.filter_cons_of_neg (by simpa using hb2)]
     simpa using k5
   ·intro st2 q0q
    refine exG0_4 q0q fun s1 s2 s3 r8 => ?_
    refine exG2_5 r8 fun F acc k1 k2 k3 k4 k5 => ?_
    walk_at "w"
    refine hK _ ⟨by walk_at "sg", by walk_at "sg", F, acc, k1, k2, by walk_at "le", by walk_at "mu", ?_⟩
    rw [undOf, List.flatMap_append]
    simpa [undOf] using k5
 ·intro st' q0q
  refine exG0_3 q0q fun s1 s2 r9 => ?_
  refine exG2_5 r9 fun F acc k1 k2 k3 k4 k5 => ?_
  walk_at "w"
  exact h r _ acc (k1.trans k3) k4 (k5.mono fun v y => UndR.le k3)
end Kk
end
section
set_option maxHeartbeats 1000000
namespace Kk
variable {α β γ δ : Type}
section
variable {Q : Bool → St → Prop} {X : Ex → St → Prop} {st : St}
end
theorem LR.itemsOf {f : Str → V} (ks : List Str) : LR (fun l k => l = [.str k, f k]) ((ks.map fun k => (k, f k)).map fun p => [V.str p.1, p.2]) ks := by
 rw [List.map_map]; exact LR.of_map (R := fun (l : List V) (k : Str) => l = [V.str k, f k]) (f := fun k => [V.str k, f k]) (fun _ => rfl) ks
theorem LR.keysOf {f : Str → V} (ks : List Str) : LR (fun l k => l = [.str k]) ((ks.map fun k => (k, f k)).map fun p => [V.str p.1]) ks := by
 rw [List.map_map]; exact LR.of_map (R := fun (l : List V) (k : Str) => l = [V.str k]) (f := fun k => [V.str k]) (fun _ => rfl) ks
variable {g : Gx} {Q : V → St → Prop} {X : Ex → St → Prop} {st : St}
noncomputable def unT (tk : List Str) (occ : Str → List Int) : List Str := tk.filter fun s => !(s == ("error" : Str)) && (occ s).isEmpty
theorem sp_unused_terminals {k : Nat} {m : Mine g} {gr : Addr} {ps : List PR} {pk tk nk : List Str} {occ : Str → List Int} {us : List Str} (hG : FG st.μ gr ps pk tk nk occ us) (hoc : ∀ k, (occ k).length ≤ 500) (hb : tk.length ≤ 500)
  (h : ∀ r μ', Le st.μ μ' → μ' r = some (.list ((unT tk occ).map .str)) → Q (.ref r) ⟨st.σ, μ'⟩) :
  fnM ["self"] (([] : List (Str × Value)).map fun p => (p.1, er p.2)) 1 (r_unused_terminals (n := k) m).1 [.ref gr] Q X st := by
 refine wk_en1 (a1 := "self") (v1 := (V.ref gr : V)) rfl (by kernel_rfl) fun σ s_self => ?_
 obtain ⟨d, es, ep, P, vs, pn, ad, pe, t, at_, te, nt, an, ne, pr, a1, a2, a3, pre, up, g1, g2, g3, g4, g5, g6, g7, g8, g9, g10, g11, -, -, -, -, -, -, -, -, -, -⟩ := id hG
 unfold r_unused_terminals; dsimp only
 walk_at "w"
 refine wk_list (by simp) fun r hr => ?_
 walk_at "w"
 refine loop_gen (its_items (by walk_at "mu")) (LR.itemsOf tk) (fun pre st' => st'.σ "self" = some (.ref gr) ∧ st'.σ "unused_tok" = some (.ref r) ∧ Le st.μ st'.μ ∧ st'.μ r = some (.list ((unT pre occ).map .str))) ?_ ?_ ?_ ?_
 ·exact ⟨by walk_at "sg", by walk_at "sg", by walk_at "le", set_mu put_same⟩
 ·intro i st' hi q0q
  refine exG0_4 q0q fun _ _ k1 k2 => ?_
  exact cur_items (by walk_at "mu")
 ·intro pre s post l st' K hps q0q q1q hK
  obtain rfl := q0q
  refine exG0_4 q1q fun s1 s2 k1 k2 => ?_
  have hs : s ∈ tk := by rw [hps]; simp
  have g12 := g11 s hs
  walk_at "w"
  have hbl : ((occ s).map V.int).length ≤ 100000 := by have := hoc s; simp; omega
  walk_at "w"
  refine wk_split (fun hb1 => ?_) (fun hb1 => ?_)
  ·have hlen : ((unT pre occ).map V.str).length ≤ 1000 := by
    have h1 : (unT pre occ).length ≤ pre.length := List.length_filter_le ..
    have h2 := congrArg List.length hps
    simp at h2 ⊢; omega
   walk_at "w"
   refine hK _ ⟨by walk_at "sg", by walk_at "sg", Le.put_mut hr k1, ?_⟩
   have e : unT (pre ++ [s]) occ = unT pre occ ++ [s] := by rw [unT, unT, List.filter_append, List.filter_cons_of_pos (by simpa using hb1)]; rfl
   rw [e, List.map_append]; exact put_same
  ·walk_at "w"
   refine hK _ ⟨by walk_at "sg", by walk_at "sg", k1, ?_⟩
   have e : unT (pre ++ [s]) occ = unT pre occ := by rw [unT, unT, List.filter_append, List.filter_cons_of_neg (by simpa using hb1)]; simp
   rw [e]; exact k2
 ·intro st' q0q
  refine exG0_4 q0q fun s1 s2 k1 k2 => ?_
  walk_at "w"
  exact h r _ k1 k2
noncomputable def unR (ps : List PR) (nk : List Str) (occ : Str → List Int) : List PR := (nk.filter fun s => (occ s).isEmpty).flatMap fun s => (ps.filter fun p => p.nm = s).take 1
theorem sp_unused_rules {k : Nat} {m : Mine g} {gr : Addr} {ps : List PR} {pk tk nk : List Str} {occ : Str → List Int} {us : List Str} (hG : FG st.μ gr ps pk tk nk occ us) (hoc : ∀ k, (occ k).length ≤ 500) (hb : nk.length ≤ 500) (hps : ps.length ≤ 500)
  (hpk : ∀ s ∈ nk, occ s = [] → s ∈ pk) (hpk2 : ∀ s ∈ pk, ps.filter (fun p => p.nm = s) ≠ [])
  (h : ∀ r μ' vs, Le st.μ μ' → μ' r = some (.list vs) → LR (ProdAt μ') vs (unR ps nk occ) → Q (.ref r) ⟨st.σ, μ'⟩) :
  fnM ["self"] (([] : List (Str × Value)).map fun p => (p.1, er p.2)) 1 (r_unused_rules (n := k) m).1 [.ref gr] Q X st := by
 refine wk_en1 (a1 := "self") (v1 := (V.ref gr : V)) rfl (by kernel_rfl) fun σ s_self => ?_
 obtain ⟨d, es, ep, P, vs, pn, ad, pe, t, at_, te, nt, an, ne, pr, a1, a2, a3, pre, up, g1, g2, g3, g4, g5, g6, g7, g8, g9, g10, g11, g12, g13, g14, -, -, -, -, -, -, -⟩ := id hG
 unfold r_unused_rules; dsimp only
 walk_at "w"
 refine wk_list (by simp) fun r hr => ?_
 walk_at "w"
 refine loop_gen (its_items (by walk_at "mu")) (LR.itemsOf nk) (fun pre st' => st'.σ "self" = some (.ref gr) ∧ st'.σ "unused_prod" = some (.ref r) ∧ Le st.μ st'.μ ∧ ∃ acc, st'.μ r = some (.list acc) ∧ acc.length ≤ pre.length ∧ LR (ProdAt st.μ) acc (unR ps pre occ)) ?_ ?_ ?_ ?_
 ·exact ⟨by walk_at "sg", by walk_at "sg", by walk_at "le", [], by walk_at "mu", Nat.le_refl _, trivial⟩
 ·intro i st' hi q0q
  refine exG0_4 q0q fun _ _ k1 k2 => ?_
  exact cur_items (by walk_at "mu")
 ·intro pre s post l st' K hnk q0q q1q hK
  obtain rfl := q0q
  refine exG0_4 q1q fun s1 s2 k1 r1 => ?_
  refine exG1_3 r1 fun acc k2 k3 k4 => ?_
  have hs : s ∈ nk := by rw [hnk]; simp
  have g15 := g14 s hs
  walk_at "w"
  have hbl : ((occ s).map V.int).length ≤ 100000 := by have := hoc s; simp; omega
  walk_at "w"
  refine wk_split (fun hb1 => ?_) (fun hb1 => ?_)
  ·have he : occ s = [] := by simpa using hb1
   have hsp := hpk s hs he
   refine exG1_2 (g8 s hsp) fun ws g16 g17 => ?_
   have hlen : acc.length ≤ 1000 := by
    have h2 := congrArg List.length hnk
    simp at h2 ⊢; omega
   walk_at "w"
   refine wk_idxD (u := .ref (ad s)) (by walk_at "mu") (by rw [dget_keys, if_pos hsp]) ?_
   walk_at "w"
   obtain ⟨p, qs, hq⟩ : ∃ p qs, ps.filter (fun p => p.nm = s) = p :: qs := by
    cases e : ps.filter (fun p => p.nm = s) with
    | nil => exact absurd e (hpk2 s hsp)
    | cons p qs => exact ⟨p, qs, rfl⟩
   rw [hq] at g17
   obtain ⟨w, ws, rfl⟩ : ∃ w ws', ws = w :: ws' := by
    induction ws with
    | nil => exact g17.elim
    | cons w ws => exact ⟨w, ws, rfl⟩
   have hwl : (w :: ws).length ≤ 1000 := by
    have h1 := LR.length g17
    have h2 : (p :: qs).length ≤ ps.length := by rw [← hq]; exact List.length_filter_le ..
    omega
   refine wk_idxL (j := 0) (u := w) (xs := w :: ws) (by walk_at "mu") hwl (by simp [seqIndex?]) rfl ?_
   walk_at "w"
   refine hK _ ⟨by walk_at "sg", by walk_at "sg", Le.put_mut hr k1, _, by walk_at "mu", by simp; omega, ?_⟩
   rw [unR, List.filter_append, List.filter_cons_of_pos (by simpa using hb1), List.flatMap_append]
   refine LR.app k4 ?_
   simp only [List.filter_nil, List.flatMap_cons, List.flatMap_nil, List.append_nil, hq]
   exact LR.one g17.1
  ·walk_at "w"
   refine hK _ ⟨by walk_at "sg", by walk_at "sg", k1, acc, k2, by simp; omega, ?_⟩
   rw [unR, List.filter_append, List.filter_cons_of_neg (by simpa using hb1)]
   simpa [unR] using k4
 ·intro st' q0q
  refine exG0_4 q0q fun s1 s2 k1 r2 => ?_
  refine exG1_3 r2 fun acc k2 k3 k4 => ?_
  walk_at "w"
  exact h r _ acc k1 k2 (k4.mono fun v y hh => hh.le k1)
end Kk
end
section
set_option maxHeartbeats 1000000
namespace Kk
variable {α β γ δ : Type}
variable {g : Gx} {Q : V → St → Prop} {X : Ex → St → Prop} {st : St}
noncomputable def ascOf (s : Str) : Str := if s = ("A" : Str) then "left" else if s = ("Y" : Str) then "right" else "nonassoc"
noncomputable def precNames : List Str := ["A", "Y", "Z"]
noncomputable def unP (tk us : List Str) : List Str := precNames.filter fun s => !(decide (s ∈ tk) || decide (s ∈ us))
inductive PrR (μ : Addr → Option O) (v : V) (s : Str) : Prop
 | mk (t : Addr) : v = .ref t → μ t = some (.tup [.str s, .str (ascOf s)]) → PrR μ v s
theorem PrR.le {μ μ' : Addr → Option O} (k : Le μ μ') {v : V} {s : Str} (h : PrR μ v s) : PrR μ' v s := by obtain ⟨t, e, h⟩ := h; exact ⟨t, e, k _ _ h⟩
theorem sp_unused_precedence {k : Nat} {m : Mine g} {gr : Addr} {ps : List PR} {pk tk nk : List Str} {occ : Str → List Int} {us : List Str} (hG : FG st.μ gr ps pk tk nk occ us)
  (h : ∀ r μ' vs, Le st.μ μ' → μ' r = some (.list vs) → LR (PrR μ') vs (unP tk us) → Q (.ref r) ⟨st.σ, μ'⟩) :
  fnM ["self"] (([] : List (Str × Value)).map fun p => (p.1, er p.2)) 1 (r_unused_precedence (n := k) m).1 [.ref gr] Q X st := by
 refine wk_en1 (a1 := "self") (v1 := (V.ref gr : V)) rfl (by kernel_rfl) fun σ s_self => ?_
 obtain ⟨d, es, ep, P, vs, pn, ad, pe, t, at_, te, nt, an, ne, pr, a1, a2, a3, pre, up, g1, g2, g3, g4, g5, g6, g7, g8, g9, g10, g11, g12, g13, g14, g15, g16, g17, g18, g19, g20, g21⟩ := id hG
 unfold r_unused_precedence; dsimp only
 walk_at "w"
 refine wk_list (by simp) fun r hr => ?_
 walk_at "w"
 refine loop_gen (its_keys (by walk_at "mu")) (G := fun l s => l = [.str s]) (ys := precNames) (by exact ⟨rfl, rfl, rfl, trivial⟩) (fun pre st' => st'.σ "self" = some (.ref gr) ∧ st'.σ "unused" = some (.ref r) ∧ ∃ F acc, Le st.μ F ∧ F r = none ∧ Le F st'.μ ∧ st'.μ r = some (.list acc) ∧ acc.length ≤ pre.length ∧
  LR (PrR F) acc (pre.filter fun s => !(decide (s ∈ tk) || decide (s ∈ us)))) ?_ ?_ ?_ ?_
 ·exact ⟨by walk_at "sg", by walk_at "sg", st.μ, [], Le.refl, hr, by walk_at "le", by walk_at "mu", Nat.le_refl _, trivial⟩
 ·intro i st' hi q0q
  refine exG0_3 q0q fun _ _ r1 => ?_
  refine exG2_6 r1 fun F acc k1 k2 k3 k4 k5 k6 => ?_
  exact cur_keys (by walk_at "mu")
 ·intro pre s post l st' K hps q0q q1q hK
  obtain rfl := q0q
  refine exG0_3 q1q fun s1 s2 r2 => ?_
  refine exG2_6 r2 fun F acc k1 k2 k3 k4 k5 k6 => ?_
  have hs : s ∈ precNames := by rw [hps]; simp
  obtain ⟨pa, lv, p1, p2⟩ : ∃ pa lv, dget [(("A" : Str), V.ref a1), ("Y", V.ref a2), ("Z", V.ref a3)] s = some (.ref pa) ∧ st.μ pa = some (.tup [.str (ascOf s), .int lv]) := by
   simp only [precNames, List.mem_cons, List.not_mem_nil, or_false] at hs
   rcases hs with rfl | rfl | rfl
   ·exact ⟨a1, 1, by kernel_rfl, by rw [g17]; congr⟩
   ·exact ⟨a2, 2, by kernel_rfl, by rw [g18]; congr⟩
   ·exact ⟨a3, 3, by kernel_rfl, by rw [g19]; congr⟩
  walk_at "w"
  rw [dget_keys_some]
  refine wk_split (fun hb1 => ?_) (fun hb1 => ?_)
  ·walk_at "w"
   refine wk_idxD (u := .ref pa) (by walk_at "mu") p1 ?_
   walk_at "w"
   refine wk_idxT (j := 0) (u := .str (ascOf s)) (by walk_at "mu") (by simp) (by simp [seqIndex?]) rfl ?_
   walk_at "w"
   refine wk_tup (by simp) fun t ht => ?_
   have hal : acc.length ≤ 1000 := by
    have h2 := congrArg List.length hps
    simp [precNames] at h2; omega
   walk_at "w"
   have hrt : r ≠ t := ne_none (o := .list acc) (by walk_at "mu") ht
   have hFt : F t = none := k3.noneOf ht
   refine hK _ ⟨by walk_at "sg", by walk_at "sg", upd F t (.tup [.str s, .str (ascOf s)]), _, k1.new hFt, u_none hrt k2, Le.put_mut (u_none hrt k2) (Le.ext k3 ht), by walk_at "mu", by simp; omega, ?_⟩
   rw [List.filter_append, List.filter_cons_of_pos (by simpa using hb1)]
   refine LR.app (k6.mono fun v y => PrR.le (Le.refl.new hFt)) (LR.one ⟨t, rfl, u_same⟩)
  ·walk_at "w"
   refine hK _ ⟨by walk_at "sg", by walk_at "sg", F, acc, k1, k2, by walk_at "le", by walk_at "mu", by simp; omega, ?_⟩
   rw [List.filter_append, List.filter_cons_of_neg (by simpa using hb1)]
   simpa using k6
 ·intro st' q0q
  refine exG0_3 q0q fun s1 s2 r3 => ?_
  refine exG2_6 r3 fun F acc k1 k2 k3 k4 k5 k6 => ?_
  walk_at "w"
  exact h r _ acc (k1.trans k3) k4 (k6.mono fun v y hh => hh.le k3)
end Kk
end
section
set_option maxHeartbeats 1000000
namespace Kk
variable {α β γ δ : Type}
theorem FG.le {F μ : Addr → Option O} {gr : Addr} {ps : List PR} {pk tk nk : List Str} {occ : Str → List Int} {us : List Str} (hG : FG F gr ps pk tk nk occ us) (k : Le F μ) : FG μ gr ps pk tk nk occ us := by
 obtain ⟨d, es, ep, P, vs, pn, ad, pe, t, at_, te, nt, an, ne, pr, a1, a2, a3, pre, up, g1, g2, g3, g4, g5, g6, g7, g8, g9, g10, g11, g12, g13, g14, g15, g16, g17, g18, g19, g20, g21⟩ := id hG
 exact ⟨d, es, ep, P, vs, pn, ad, pe, t, at_, te, nt, an, ne, pr, a1, a2, a3, pre, up, k _ _ g1, k _ _ g2, g3, k _ _ g4, g5.mono fun v y h => h.le k, g6, k _ _ g7, fun s hs => (by obtain ⟨ws, a, b⟩ := g8 s hs; exact ⟨ws, k _ _ a, b.mono fun v y h => h.le k⟩),
  g9, k _ _ g10, fun s hs => k _ _ (g11 s hs), g12, k _ _ g13, fun s hs => k _ _ (g14 s hs), g15, k _ _ g16, k _ _ g17, k _ _ g18, k _ _ g19, g20, k _ _ g21⟩
noncomputable def nx (ps : List PR) (pk : List Str) (s : Str) : List Str := if s ∈ pk then (ps.filter fun p => p.nm = s).flatMap PR.sy else []
inductive Reach (ps : List PR) (pk : List Str) (s : Str) : Str → Prop
 | self : Reach ps pk s s
 | step {y z : Str} : Reach ps pk s y → z ∈ nx ps pk y → Reach ps pk s z
theorem Reach.trans {ps : List PR} {pk : List Str} {s y z : Str} (h : Reach ps pk s y) (k : Reach ps pk y z) : Reach ps pk s z := by
 induction k with
 | self => exact h
 | step _ hz ih => exact .step ih hz
noncomputable def left (Sg xs : List Str) : Nat := (Sg.filter fun y => decide (y ∉ xs)).length
theorem left_le {Sg xs xs' : List Str} (h : ∀ y ∈ xs, y ∈ xs') : left Sg xs' ≤ left Sg xs := by
 unfold left
 induction Sg with
 | nil => exact Nat.le_refl _
 | cons a r ih =>
  simp only [List.filter_cons]
  by_cases h1 : a ∈ xs
  ·simp [h1, h a h1]; simpa using ih
  ·by_cases h2 : a ∈ xs'
   ·simp [h1, h2]; simp at ih; omega
   ·simp [h1, h2]; simpa using ih
theorem left_lt {Sg xs : List Str} {k : Str} (hk : k ∈ Sg) (h : k ∉ xs) : left Sg (xs ++ [k]) + 1 ≤ left Sg xs := by
 unfold left
 induction Sg with
 | nil => k_call_by "c" hk
 | cons a r ih =>
  have hle := left_le (Sg := r) (xs := xs) (xs' := xs ++ [k]) (by simp +contextual)
  unfold left at hle
  simp only [List.filter_cons]
  by_cases h0 : a = k
  ·subst h0
   simp [h]; simpa using hle
  ·have hk' : k ∈ r := by rcases List.mem_cons.mp hk with rfl | h; exact absurd rfl h0; exact h
   have := ih hk'
   by_cases h1 : a ∈ xs
   ·simp [h1]; simpa using this
   ·simp [h1, h0]; simpa using this
structure MarkOk (ps : List PR) (pk Sg : List Str) (B : Nat) (xs : List Str) (s : Str) (xs' : List Str) : Prop where
 sub : ∀ y ∈ xs, y ∈ xs'
 here : s ∈ xs'
 sound : ∀ y ∈ xs', y ∈ xs ∨ Reach ps pk s y
 closed : ∀ x ∈ xs', x ∉ xs → ∀ y ∈ nx ps pk x, y ∈ xs'
 room : xs'.length + left Sg xs' ≤ B
section
variable {X : Ex → St → Prop} {st : St}
theorem wk_splitC {elt : M V} {acc : List V} {K : List V → St → Prop} {b : Bool} (h1 : b = true → elt (fun v st3 => acc.length ≤ 1000 ∧ K (acc ++ [v]) st3) (fun _ _ => False) st) (h2 : b = false → K acc st) : compB elt acc K b st := by
 unfold compB
 cases hb : b
 ·exact h2 hb
 ·exact h1 hb
theorem wk_add {a : Addr} {k : Str} {xs : List Str} {Q : V → St → Prop} (h1 : st.μ a = some (.set xs)) (h2 : xs.length ≤ 1000) (h : Q .none (st.put a (.set (if k ∈ xs then xs else xs ++ [k])))) : addM [.ref a, .str k] Q X st := .mk h1 h2 h
theorem wk_get2 {a : Addr} {k : Str} {d : V} {es : List (Str × V)} {ep : Nat} {Q : V → St → Prop} (h1 : st.μ a = some (.dict es ep)) (h : Q ((dget es k).getD d) st) : getM2 [.ref a, .str k, d] Q X st := .two h1 h
theorem wk_clo {params : Arguments} {body : List Stmt} {scope : Scope} {cl : List (Str × Addr)} {names : List Str} {pb : M Fl} {f : Addr} {fp : FnPart} {us : List V} {Q : V → St → Prop} (h1 : st.μ f = some (.fn fp)) (h2 : fp.params = params ∧ fp.body = body ∧ fp.scope = scope ∧ fp.cl = cl) (h3 : st.μ fp.code = some (.code fp.qual)) (h4 : us.length = names.length)
  (h : pb (fun f st' => Q (retV f) ⟨st.σ, st'.μ⟩) (fun k st' => X k ⟨st.σ, st'.μ⟩) ⟨fun x => if x ∈ freeOf scope then st.σ x else argσ (names.zip us) x, st.μ⟩) : cloM params body scope cl names pb (.ref f) us Q X st := ⟨fp, h1, h2.1, h2.2.1, h2.2.2.1, h2.2.2.2, h3, h4, h⟩
theorem clo_free {scope : Scope} {x : Str} {v : V} {bs : List (Str × V)} {μ : Addr → Option O} (h : decide (x ∈ freeOf scope) = true) (e : st.σ x = some v) : (St.mk (fun x => if x ∈ freeOf scope then st.σ x else argσ bs x) μ).σ x = some v := (if_pos (of_decide_eq_true h)).trans e
theorem clo_loc {scope : Scope} {σ : Str → Option V} {x : Str} {v : V} {bs : List (Str × V)} {μ : Addr → Option O} (h : decide (x ∈ freeOf scope) = false) (e : argσ bs x = some v) : (St.mk (fun x => if x ∈ freeOf scope then σ x else argσ bs x) μ).σ x = some v := (if_neg (of_decide_eq_false h)).trans e
theorem wk_isFn {f : Addr} {fp : FnPart} {Q : Unit → St → Prop} (h1 : st.μ f = some (.fn fp)) (h : Q () st) : isFnM (.ref f) Q X st := by
 unfold isFnM; simp only [h1]; exact h
end
noncomputable def Bound (st : St) : List Str → Prop
 | [] => True
 | x :: r => (∃ v, st.σ x = some v) ∧ Bound st r
theorem Bound.of_mem {st : St} : ∀ {L : List Str}, Bound st L → ∀ x ∈ L, ∃ v, st.σ x = some v
 | y :: r, h, x, hx => by
  rcases List.mem_cons.mp hx with rfl | hx
  ·exact h.1
  ·exact Bound.of_mem h.2 x hx
theorem hasFree_of {st : St} {scope : Scope} (L : List Str) (h : freeOf scope = L) (k : Bound st L) : hasFree scope st := by
 unfold hasFree
 rw [h, List.all_eq_true]
 intro y hy
 refine exG1_1 (k.of_mem y hy) fun v e => ?_
 rw [e]; rfl
variable {g : Gx} {X : Ex → St → Prop}
theorem sp_mark {n : Nat} {m : Mine g} {cl : List (Str × Addr)} {hcl : ∀ y ∈ freeOf (mkS g), (cl.lookup y).isSome = true} {gr : Addr} {ps : List PR} {pk tk nk : List Str} {occ : Str → List Int} {us : List Str} {R f c' : Addr} {q : Str} {Sg : List Str} {B : Nat} (hB : B ≤ 100)
  (hSg : ∀ s ∈ Sg, ∀ y ∈ nx ps pk s, y ∈ Sg) : ∀ (k : Nat) (F : Addr → Option O) (X : Ex → St → Prop) (st : St) (Q : Fl → St → Prop) (s : Str) (xs : List Str),
  FG F gr ps pk tk nk occ us → F R = none → F f = some (.fn ⟨mkA g, mkB g, mkS g, cl, q, c'⟩) → F c' = some (.code q) → Le F st.μ → st.μ R = some (.set xs) → s ∈ Sg → left Sg xs < k → xs.length + left Sg xs ≤ B →
  st.σ "s" = some (.str s) → st.σ "reachable" = some (.ref R) → st.σ "self" = some (.ref gr) → st.σ "mark_reachable_from" = some (.ref f) →
  (∀ fl st' xs', Le F st'.μ → st'.μ R = some (.set xs') → MarkOk ps pk Sg B xs s xs' → Q fl st') → (r_mark (n := n) m cl hcl k).1 Q X st := by
 intro k
 induction k with
 | zero => intro F X st Q s xs _ _ _ _ _ _ _ h; omega
 | succ k ih =>
  intro F X st Q s xs hG hR hf hc hF hx hs hl hroom v1 v2 v3 v4 h
  unfold r_mark r_mark1; dsimp only
  walk_at "w"
  refine wk_split (fun hb => ?_) (fun hb => ?_)
  ·walk_at "w"
   have : s ∈ xs := by simpa using hb
   exact h _ _ xs hF hx ⟨fun y h => h, this, fun y h => .inl h, fun x a b => absurd a b, hroom⟩
  ·walk_at "w"
   have hsx : s ∉ xs := by simpa using hb
   refine wk_add (by walk_at "mu") (by omega) ?_
   rw [if_neg hsx]
   have hF1 : Le F (st.put R (.set (xs ++ [s]))).μ := hF.mut hR
   obtain ⟨d, es, ep, P, vs, pn, ad, pe, t, at_, te, nt, an, ne, pr, a1, a2, a3, pre, up, g1, g2, g3, g4, g5, g6, g7, g8, -, -, -, -, -, -, -, -, -, -, -, -, -⟩ := id hG
   walk_at "w"
   refine wk_list (by simp) fun e he => ?_
   walk_at "w"
   refine wk_get2 (by walk_at "mu") ?_
   rw [dget_keys]
   have hFe : F e = none := hF1.noneOf he
   have heR : R ≠ e := ne_none (o := .set (xs ++ [s])) (by walk_at "mu") he
   have hF2 : Le (upd F e (.list [])) ((st.put R (.set (xs ++ [s]))).put e (.list [])).μ := Le.ext hF1 he
   have hFF : Le F (upd F e (.list [])) := Le.refl.new hFe
   obtain ⟨la, ws, L, hv, hla, hws, hL, hnx⟩ : ∃ la ws L, (if s ∈ pk then some (V.ref (ad s)) else none).getD (V.ref e) = .ref la ∧ upd F e (.list []) la = some (.list ws) ∧ LR (ProdAt (upd F e (.list []))) ws L ∧ (∀ p ∈ L, ∀ y ∈ p.sy, y ∈ nx ps pk s) ∧ ∀ y ∈ nx ps pk s, ∃ p ∈ L, y ∈ p.sy := by
    by_cases hp : s ∈ pk
    ·refine exG1_2 (g8 s hp) fun ws w1 w2 => ?_
     refine ⟨ad s, ws, _, by rw [if_pos hp]; rfl, hFF _ _ w1, w2.mono fun v y h => h.le hFF, ?_, ?_⟩
     ·intro p hp2 y hy
      rw [nx, if_pos hp]; exact List.mem_flatMap.mpr ⟨p, hp2, hy⟩
     ·intro y hy
      rw [nx, if_pos hp] at hy; exact List.mem_flatMap.mp hy
    ·refine ⟨e, [], [], by rw [if_neg hp]; rfl, u_same, trivial, (by intro p hp; k_call_by "c" hp), ?_⟩
     intro y hy; rw [nx, if_neg hp] at hy; k_call_by "c" hy
   rw [hv]
   have hG' := hG.le hFF
   have hR' : upd F e (.list []) R = none := u_none heR hR
   have hf' := hFF _ _ hf
   have hc' := hFF _ _ hc
   generalize upd F e (.list []) = F' at hF2 hFF hla hws hG' hR' hf' hc'
   have hleft := left_lt hs hsx
   walk_at "w"
   refine loop_gen (its_list (by walk_at "mu")) hws.ones (fun pre st' => st'.σ "s" = some (.str s) ∧ st'.σ "reachable" = some (.ref R) ∧ st'.σ "self" = some (.ref gr) ∧ st'.σ "mark_reachable_from" = some (.ref f) ∧ Le F' st'.μ ∧ ∃ ys, st'.μ R = some (.set ys) ∧
    (∀ y ∈ xs, y ∈ ys) ∧ s ∈ ys ∧ (∀ y ∈ ys, y ∈ xs ∨ Reach ps pk s y) ∧ (∀ x ∈ ys, x ∉ xs → x ≠ s → ∀ y ∈ nx ps pk x, y ∈ ys) ∧ ys.length + left Sg ys ≤ B ∧ left Sg ys < k ∧ ∀ p ∈ pre, ∀ y ∈ p.sy, y ∈ ys) ?_ ?_ ?_ ?_
   ·refine ⟨by walk_at "sg", by walk_at "sg", by walk_at "sg", by walk_at "sg", hF2, xs ++ [s], by walk_at "mu", by simp +contextual, by simp, ?_, ?_, by simp; omega, by omega, by simp⟩
    ·intro y hy
     rcases List.mem_append.mp hy with h | h
     ·exact .inl h
     ·rw [List.mem_singleton.mp h]; exact .inr .self
    ·intro x hx1 hx2 hx3
     rcases List.mem_append.mp hx1 with h | h
     ·exact absurd h hx2
     ·exact absurd (List.mem_singleton.mp h) hx3
   ·intro i st' hi q0q
    refine exG0_6 q0q fun _ _ _ _ k1 r1 => ?_
    refine exG1_2 r1 fun ys k2 _ => ?_
    exact cur_list (by walk_at "mu")
   ·intro pre p post l st2 K hpp q0q q1q hK
    refine exG1_2 q0q fun v r2 hp => ?_
    obtain rfl := r2
    refine exG0_6 q1q fun u1 u2 u3 u4 k1 r3 => ?_
    refine exG1_8 r3 fun ys k2 k3 k4 k5 k6 k7 k8 k9 => ?_
    have hpL : p ∈ L := by rw [hpp]; simp
    obtain ⟨pa, pd, pes, pep, pt, rfl, e2, e3, e4, e5, e6, e7⟩ := id hp
    walk_at "w"
    refine loop_gen (its_tup (xs := p.sy.map .str) (by walk_at "mu")) (LR.strs p.sy).ones (fun pre2 st' => st'.σ "s" = some (.str s) ∧ st'.σ "reachable" = some (.ref R) ∧ st'.σ "self" = some (.ref gr) ∧ st'.σ "mark_reachable_from" = some (.ref f) ∧ Le F' st'.μ ∧ ∃ ys, st'.μ R = some (.set ys) ∧
     (∀ y ∈ xs, y ∈ ys) ∧ s ∈ ys ∧ (∀ y ∈ ys, y ∈ xs ∨ Reach ps pk s y) ∧ (∀ x ∈ ys, x ∉ xs → x ≠ s → ∀ y ∈ nx ps pk x, y ∈ ys) ∧ ys.length + left Sg ys ≤ B ∧ left Sg ys < k ∧ (∀ p ∈ pre, ∀ y ∈ p.sy, y ∈ ys) ∧ ∀ y ∈ pre2, y ∈ ys) ?_ ?_ ?_ ?_
    ·exact ⟨by walk_at "sg", by walk_at "sg", by walk_at "sg", by walk_at "sg", k1, ys, k2, k3, k4, k5, k6, k7, k8, k9, by simp⟩
    ·intro i st' hi q0q
     refine exG0_6 q0q fun _ _ _ _ k1 r4 => ?_
     refine exG1_2 r4 fun ys k2 _ => ?_
     exact cur_tup (by walk_at "mu")
    ·intro pre2 z post2 l st3 K2 hpp2 q0q q1q hK2
     refine exG1_2 q0q fun v r5 r6 => ?_
     obtain rfl := r5
     obtain rfl := r6
     refine exG0_6 q1q fun u1 u2 u3 u4 k1 r7 => ?_
     refine exG1_9 r7 fun ys k2 k3 k4 k5 k6 k7 k8 k9 k10 => ?_
     have hz : z ∈ p.sy := by rw [hpp2]; simp
     have hzn : z ∈ nx ps pk s := hL p hpL z hz
     walk_at "w"
     refine wk_isFn (by walk_at "mu") ?_
     walk_at "w"
     refine wk_clo (by walk_at "mu") ⟨rfl, rfl, rfl, rfl⟩ (by walk_at "mu") rfl ?_
     refine ih F' _ _ _ z ys hG' hR' hf' hc' ?_ ?_ (hSg s hs z hzn) k8 k7 ?_ ?_ ?_ ?_ ?_
     ·exact k1
     ·exact k2
     ·exact clo_loc (by kernel_rfl) (by kernel_rfl)
     ·exact clo_free (by kernel_rfl) (by walk_at "sg")
     ·exact clo_free (by kernel_rfl) (by walk_at "sg")
     ·exact clo_free (by kernel_rfl) (by walk_at "sg")
     intro fl st' zs hF' hzs hM
     walk_at "w"
     refine hK2 _ ⟨by walk_at "sg", by walk_at "sg", by walk_at "sg", by walk_at "sg", hF', zs, hzs, fun y hy => hM.sub y (k3 y hy), hM.sub s k4, ?_, ?_, hM.room, ?_, fun p hp y hy => hM.sub y (k9 p hp y hy), ?_⟩
     ·intro y hy
      rcases hM.sound y hy with h | h
      ·exact k5 y h
      ·exact .inr (Reach.trans (.step .self hzn) h)
     ·intro x hx1 hx2 hx3 y hy
      by_cases hx4 : x ∈ ys
      ·exact hM.sub y (k6 x hx4 hx2 hx3 y hy)
      ·exact hM.closed x hx1 hx4 y hy
     ·have := left_le (Sg := Sg) hM.sub; omega
     ·intro y hy
      rcases List.mem_append.mp hy with h | h
      ·exact hM.sub y (k10 y h)
      ·rw [List.mem_singleton.mp h]; exact hM.here
    ·intro st3 q0q
     refine exG0_6 q0q fun u1 u2 u3 u4 k1 r8 => ?_
     refine exG1_9 r8 fun ys k2 k3 k4 k5 k6 k7 k8 k9 k10 => ?_
     walk_at "w"
     refine hK _ ⟨u1, u2, u3, u4, k1, ys, k2, k3, k4, k5, k6, k7, k8, ?_⟩
     intro p' hp' y hy
     rcases List.mem_append.mp hp' with h | h
     ·exact k9 p' h y hy
     ·rw [List.mem_singleton.mp h] at hy; exact k10 y hy
   ·intro st2 q0q
    refine exG0_6 q0q fun u1 u2 u3 u4 k1 r9 => ?_
    refine exG1_8 r9 fun ys k2 k3 k4 k5 k6 k7 k8 k9 => ?_
    walk_at "w"
    refine h _ _ ys (hFF.trans k1) k2 ⟨k3, k4, k5, ?_, k7⟩
    intro x hx1 hx2 y hy
    by_cases hx3 : x = s
    ·subst hx3
     refine exG1_2 (hnx y hy) fun p hp hyp => ?_
     exact k9 p hp y hyp
    ·exact k6 x hx1 hx2 hx3 y hy
noncomputable def unre (nk xs : List Str) : List Str := nk.filter fun s => !decide (s ∈ xs)
theorem sp_find_unreachable {Q : V → St → Prop} {st : St} {n : Nat} {m : Mine g} {F : Addr → Option O} {gr : Addr} {p0 : PR} {ps : List PR} {pk tk nk : List Str} {occ : Str → List Int} {us : List Str} {Sg : List Str} {start : Str} (hG : FG F gr (p0 :: ps) pk tk nk occ us) (hF : Le F st.μ) (h157 : F 157 = none) (hT : st.μ 157 = some (.tab true))
  (hSg : ∀ s ∈ Sg, ∀ y ∈ nx (p0 :: ps) pk s, y ∈ Sg) (hSl : Sg.length ≤ 20) (hp0 : p0.sy = [start]) (hst : start ∈ Sg) (hnk : nk.length ≤ 500) (hpl : ps.length ≤ 500)
  (h : ∀ r μ' xs, Le (upd F 157 (.tab false)) μ' → μ' r = some (.list ((unre nk xs).map .str)) → (∀ y, y ∈ xs ↔ Reach (p0 :: ps) pk start y) → Q (.ref r) ⟨st.σ, μ'⟩) :
  fnM ["self"] (([] : List (Str × Value)).map fun p => (p.1, er p.2)) 1 (r_find (n := n) m).1 [.ref gr] Q X st := by
 refine wk_en1 (a1 := "self") (v1 := (V.ref gr : V)) rfl (by kernel_rfl) fun σ s_self => ?_
 unfold r_find; dsimp only
 intro cl hcl
 refine ⟨hT, ?_⟩
 intro f c' q hf hc hfc hf1 hc1
 obtain ⟨Fz, hz⟩ : ∃ Fz, Fz = upd F 157 (.tab false) := ⟨_, rfl⟩
 have hFb : Le Fz (upd st.μ 157 (.tab false)) := fun b p e => by
  rw [hz] at e
  by_cases hb : b = 157
  ·subst hb; rw [u_same] at e ⊢; exact e
  ·exact u_ne hb (hF b p ((if_neg hb).symm.trans e))
 have hGz := hG.le (hz ▸ Le.refl.new h157 : Le F Fz)
 have hFf : Fz f = none := by rw [hz]; exact u_none hf1 (hF.noneOf hf)
 have hFc : Fz c' = none := by rw [hz]; exact u_none hc1 (hF.noneOf hc)
 rw [← hz] at h
 have hF2 : Le (upd (upd Fz c' (.code q)) f (.fn ⟨mkA g, mkB g, mkS g, cl, q, c'⟩)) (((st.put 157 (.tab false)).put c' (.code q)).put f (.fn ⟨mkA g, mkB g, mkS g, cl, q, c'⟩)).μ := by
  refine Le.ext (Le.ext hFb (u_none hc1 hc)) ?_
  exact u_none hfc (u_none hf1 hf)
 have hFF : Le Fz (upd (upd Fz c' (.code q)) f (.fn ⟨mkA g, mkB g, mkS g, cl, q, c'⟩)) := (Le.refl.new hFc).trans (Le.refl.new (u_none hfc hFf))
 have hf' : upd (upd Fz c' (.code q)) f (.fn ⟨mkA g, mkB g, mkS g, cl, q, c'⟩) f = some (.fn ⟨mkA g, mkB g, mkS g, cl, q, c'⟩) := u_same
 have hc' : upd (upd Fz c' (.code q)) f (.fn ⟨mkA g, mkB g, mkS g, cl, q, c'⟩) c' = some (.code q) := u_ne (Ne.symm hfc) u_same
 have hG' := hGz.le hFF
 generalize upd (upd Fz c' (.code q)) f (.fn ⟨mkA g, mkB g, mkS g, cl, q, c'⟩) = F' at hF2 hFF hf' hc' hG'
 have hst0 : ((({ σ := σ, μ := st.μ } : St).put 157 (.tab false)).put c' (.code q)).put f (.fn ⟨mkA g, mkB g, mkS g, cl, q, c'⟩) = ⟨σ, (((st.put 157 (.tab false)).put c' (.code q)).put f (.fn ⟨mkA g, mkB g, mkS g, cl, q, c'⟩)).μ⟩ := rfl
 rw [hst0]
 generalize (((st.put 157 (.tab false)).put c' (.code q)).put f (.fn ⟨mkA g, mkB g, mkS g, cl, q, c'⟩)).μ = μ1 at hF2
 unfold r_out; dsimp only
 walk_at "w"
 refine ⟨rfl, fun R hR => ?_⟩
 walk_at "w"
 obtain ⟨d, es, ep, P, vs, pn, ad, pe, t, at_, te, nt, an, ne, pr, a1, a2, a3, pre, up, g1, g2, g3, g4, g5, g6, g7, g8, g9, g10, g11, g12, g13, g14, -, -, -, -, -, -, -⟩ := id hG'
 have hR1 : μ1 R = none := hR
 have hF3 : Le F' (upd μ1 R (.set [])) := hF2.new hR1
 have hR' : F' R = none := hF2.noneOf hR1
 refine wk_isFn (by walk_at "mu") ?_
 walk_at "w"
 obtain ⟨v0, vs', rfl⟩ : ∃ v vs', vs = v :: vs' := by
  induction vs with
  | nil => exact g5.elim
  | cons v vs => exact ⟨v, vs, rfl⟩
 obtain ⟨pa, pd, pes, pep, pt, rfl, e2, e3, e4, e5, e6, e7⟩ := g5.1
 rw [hp0] at e7
 have hvl : (V.ref pa :: vs').length ≤ 1000 := by
  have := g5.length; simp at this ⊢; omega
 refine wk_idxL (j := 0) (u := .ref pa) (by walk_at "mu") hvl (by simp [seqIndex?]) rfl ?_
 walk_at "w"
 refine wk_idxT (j := 0) (u := .str start) (by walk_at "mu") (by simp) (by simp [seqIndex?]) rfl ?_
 walk_at "w"
 refine wk_clo (by walk_at "mu") ⟨rfl, rfl, rfl, rfl⟩ (by walk_at "mu") rfl ?_
 have hl0 : left Sg [] ≤ 20 := by unfold left; exact Nat.le_trans (List.length_filter_le ..) hSl
 refine sp_mark (B := 20) (by omega) hSg 29 F' _ _ _ start [] hG' hR' hf' hc' ?_ ?_ hst (by omega) (by walk_at "ln") ?_ ?_ ?_ ?_ ?_
 ·exact hF3
 ·exact u_same
 ·exact clo_loc (by kernel_rfl) (by kernel_rfl)
 ·exact clo_free (by kernel_rfl) (by walk_at "sg")
 ·exact clo_free (by kernel_rfl) (by walk_at "sg")
 ·exact clo_free (by kernel_rfl) (by walk_at "sg")
 intro fl st' xs hF4 hxs hM
 walk_at "w"
 refine wk_comp (hasFree_of ["reachable"] (by kernel_rfl) ⟨⟨_, by walk_at "sg"⟩, trivial⟩) ?_
 walk_at "w"
 refine comp_gen (hasFree_of ["reachable"] (by kernel_rfl) ⟨⟨_, by walk_at "sg"⟩, trivial⟩) (its_keys (by walk_at "mu")) (LR.keysOf nk) (fun pre acc st2 => st2.σ "reachable" = some (.ref R) ∧ Le F' st2.μ ∧ st2.μ R = some (.set xs) ∧ acc = (pre.filter fun s => !decide (s ∈ xs)).map .str) ?_ ?_ ?_ ?_
 ·exact ⟨by walk_at "sg", hF4, hxs, rfl⟩
 ·intro i acc st2 hi q0q
  refine exG0_4 q0q fun _ k1 k2 k3 => ?_
  exact cur_keys (by walk_at "mu")
 ·intro pre s post l acc st2 K hps q0q q1q hK
  obtain rfl := q0q
  refine exG0_4 q1q fun s1 k1 k2 k3 => ?_
  walk_at "w"
  have hal : acc.length ≤ 1000 := by
   have h1 : (pre.filter fun s => !decide (s ∈ xs)).length ≤ pre.length := List.length_filter_le ..
   have h2 := congrArg List.length hps
   rw [k3, List.length_map]; simp at h2; omega
  refine wk_splitC (fun hb => ?_) (fun hb => ?_)
  ·walk_at "w"
   refine ⟨hal, hK _ _ ⟨by walk_at "sg", k1, k2, ?_⟩⟩
   rw [List.filter_append, List.filter_cons_of_pos (by simpa using hb), k3]; simp
  ·refine hK _ _ ⟨by walk_at "sg", k1, k2, ?_⟩
   rw [List.filter_append, List.filter_cons_of_neg (by simpa using hb), k3]; simp
 ·intro acc st2 D q0q hD
  refine exG0_4 q0q fun s1 k1 k2 r10 => ?_
  obtain rfl := r10
  walk_at "w"
  refine h D _ xs ((hFF.trans k1).new hD) u_same ?_
  intro y
  constructor
  ·intro hy
   rcases hM.sound y hy with h | h
   ·k_call_by "c" h
   ·exact h
  ·intro hy
   induction hy with
   | self => exact hM.here
   | step h1 h2 ih => exact hM.closed _ ih (by simp) _ h2
end Kk
end
section
set_option maxHeartbeats 1000000
namespace Kk
variable {α β γ δ : Type}
theorem dput_old {ks : List Str} {f : Str → V} {n : Str} {v : V} (h : n ∈ ks) : dput (ks.map fun k => (k, f k)) n v = ks.map fun k => (k, if k = n then v else f k) := by
 unfold dput
 rw [if_pos (List.any_eq_true.mpr ⟨(n, f n), List.mem_map.mpr ⟨n, h, rfl⟩, by simp⟩), List.map_map]
 apply List.map_congr_left
 intro k _
 simp only [Function.comp]
 split <;> simp_all
theorem dput_new {ks : List Str} {f : Str → V} {n : Str} {v : V} (h : n ∉ ks) : dput (ks.map fun k => (k, f k)) n v = (ks ++ [n]).map fun k => (k, if k = n then v else f k) := by
 unfold dput
 rw [if_neg, List.map_append]
 ·congr 1
  ·apply List.map_congr_left
   intro k hk
   rw [if_neg (by rintro rfl; exact h hk)]
  ·simp
 ·rw [List.any_eq_true]
  intro q0q
  refine exG1_2 q0q fun p hp hn => ?_
  refine exG1_2 (List.mem_map.mp hp) fun k hk r1 => ?_
  obtain rfl := r1
  exact h ((of_decide_eq_true hn : k = n) ▸ hk)
section
variable {X : Ex → St → Prop} {st : St} {Q : Fl → St → Prop}
noncomputable def whileK (body els : M Fl) (Q : Fl → St → Prop) (X : Ex → St → Prop) (K : St → Prop) (b : Bool) (st : St) : Prop := if b = true then body (bodyK Q K) X st else els Q X st
theorem wk_while {t : M Bool} {body els : M Fl} (I : Nat → St → Prop) (hs : ∀ k st (K : St → Prop), I k st → (∀ j st', j < k → I j st' → K st') → t (whileK body els Q X K) X st) (h0 : ∃ k, I k st) : whileM t body els Q X st :=
 ⟨I, fun k st h => hs k st (fun st' => ∃ j, j < k ∧ I j st') h fun j st' a b => ⟨j, a, b⟩, h0⟩
theorem wk_whT {body els : M Fl} {K : St → Prop} (h : body (bodyK Q K) X st) : whileK body els Q X K true st := h
theorem wk_whF {body els : M Fl} {K : St → Prop} (h : els Q X st) : whileK body els Q X K false st := h
theorem wk_whS {body els : M Fl} {K : St → Prop} {b : Bool} (h : b = true → body (bodyK Q K) X st) (k : b = false → els Q X st) : whileK body els Q X K b st := by
 cases hb : b
 ·exact k hb
 ·exact h hb
end
inductive Tm (ps : List PR) (pk tk : List Str) : Str → Prop
 | tok {s : Str} : s ∈ tk → Tm ps pk tk s
 | rule {p : PR} : p ∈ ps → p.nm ∈ pk → (∀ y ∈ p.sy, Tm ps pk tk y) → Tm ps pk tk p.nm
noncomputable def cnt (nk : List Str) (b : Str → Bool) : Nat := (nk.filter fun k => !b k).length
theorem flen_le {p q : Str → Bool} : ∀ {l : List Str}, (∀ k ∈ l, p k = true → q k = true) → (l.filter p).length ≤ (l.filter q).length
 | [], _ => Nat.le_refl _
 | a :: r, h => by
  have ih := flen_le (l := r) fun k hk => h k (.tail _ hk)
  simp only [List.filter_cons]
  cases hp : p a
  ·cases hq : q a
   ·simpa using ih
   ·simp; omega
  ·rw [h a (.head _) hp]; simpa using ih
theorem flen_lt {p q : Str → Bool} {n : Str} (h1 : p n = false) (h2 : q n = true) : ∀ {l : List Str}, n ∈ l → (∀ k ∈ l, p k = true → q k = true) → (l.filter p).length < (l.filter q).length
 | a :: r, hn, h => by
  have ih := flen_le (l := r) fun k hk => h k (.tail _ hk)
  simp only [List.filter_cons]
  by_cases e : a = n
  ·subst e; simp [h1, h2]; omega
  ·have hr : n ∈ r := by rcases List.mem_cons.mp hn with rfl | h; exact absurd rfl e; exact h
   have ih2 := flen_lt h1 h2 hr fun k hk => h k (.tail _ hk)
   cases hp : p a
   ·cases hq : q a
    ·simpa using ih2
    ·simp; omega
   ·rw [h a (.head _) hp]; simpa using ih2
theorem cnt_lt {nk : List Str} {b : Str → Bool} {n : Str} (h : n ∈ nk) (hb : b n = false) : cnt nk (fun k => if k = n then true else b k) < cnt nk b :=
 flen_lt (n := n) (by simp) (by simp [hb]) h fun k _ hk => by
  by_cases e : k = n
  ·simp [e] at hk
  ·simpa [e] using hk
noncomputable def clAt (ps : List PR) (b : Str → Bool) (n : Str) : Prop := ∀ p ∈ ps.filter (fun p => p.nm = n), (∀ y ∈ p.sy, b y = true) → b n = true
local macro_rules | `(tactic| walk_at "w1") => `(tactic| with_reducible first | apply wk_whT | apply wk_whF)
variable {g : Gx} {X : Ex → St → Prop} {Q : V → St → Prop} {st : St}
noncomputable def endS : Str := "$end"
noncomputable def ksOf (tk nk : List Str) : List Str := tk ++ endS :: nk
theorem sp_infinite {n : Nat} {m : Mine g} {F : Addr → Option O} {gr : Addr} {ps : List PR} {pk tk nk : List Str} {occ : Str → List Int} {us : List Str} (hG : FG F gr ps pk tk nk occ us) (hF : Le F st.μ)
  (htk : tk.Nodup) (hnk : nk.Nodup) (hdis : ∀ s ∈ nk, s ∉ tk) (hend : endS ∉ tk) (hend2 : endS ∉ nk) (hpn : ∀ s ∈ pk, s ∈ nk) (hsy : ∀ p ∈ ps, ∀ y ∈ p.sy, y ∈ tk ∨ y ∈ nk) (hlen : tk.length + nk.length ≤ 100)
  (h : ∀ r μ' (b : Str → Bool), Le F μ' → μ' r = some (.list (((ksOf tk nk).filter fun s => !b s && !(!decide (s ∈ pk) && (!decide (s ∈ tk) && !(s == ("error" : Str))))).map .str)) → (∀ s ∈ tk, b s = true) → b endS = true → (∀ s ∈ nk, b s = true ↔ Tm ps pk tk s) → Q (.ref r) ⟨st.σ, μ'⟩) :
  fnM ["self"] (([] : List (Str × Value)).map fun p => (p.1, er p.2)) 1 (r_infinite_cycles (n := n) m).1 [.ref gr] Q X st := by
 refine wk_en1 (a1 := "self") (v1 := (V.ref gr : V)) rfl (by kernel_rfl) fun σ s_self => ?_
 obtain ⟨d, es, ep, P, vs, pn, ad, pe, t, at_, te, nt, an, ne, pr, a1, a2, a3, pre, up, g1, g2, g3, g4, g5, g6, g7, g8, g9, g10, g11, g12, g13, g14, -, -, -, -, -, -, -⟩ := id hG
 have hkl : (ksOf tk nk).length ≤ 1000 := by unfold ksOf; simp; omega
 unfold r_infinite_cycles; dsimp only
 walk_at "w"
 intro r hr ep0
 walk_at "w"
 have hFr : F r = none := hF.noneOf hr
 have hF1 : Le F ((St.mk σ st.μ).put r (.dict [] ep0)).μ := hF.new hr
 refine loop_gen (its_keys (by walk_at "mu")) (LR.keysOf tk) (fun pre st' => st'.σ "self" = some (.ref gr) ∧ st'.σ "terminates" = some (.ref r) ∧ Le F st'.μ ∧ ∃ ep, st'.μ r = some (.dict (pre.map fun k => (k, .bool true)) ep)) ?_ ?_ ?_ ?_
 ·exact ⟨by walk_at "sg", by walk_at "sg", by walk_at "le", ep0, set_mu put_same⟩
 ·intro i st' hi q0q
  refine exG0_4 q0q fun _ _ k1 _ => ?_
  exact cur_keys (by walk_at "mu")
 ·intro pre s post l st' K hps q0q q1q hK
  obtain rfl := q0q
  refine exG0_4 q1q fun s1 s2 k1 r2 => ?_
  refine exG1_1 r2 fun ep1 k2 => ?_
  have hs : s ∉ pre := by
   rw [hps, List.nodup_append] at htk
   intro hm; exact htk.2.2 s hm s (by simp) rfl
  have hpl : pre.length ≤ 500 := preLe hps (by first | omega | (simp; done) | (simp; omega))
  walk_at "w"
  refine wk_itemD (by walk_at "mu") (by walk_at "ln") fun ep2 => ?_
  walk_at "w"
  refine hK _ ⟨by walk_at "sg", by walk_at "sg", k1.mut hFr, ep2, ?_⟩
  rw [put_same, dput_new hs]
  congr 3
  funext k; split <;> rfl
 intro st1 q0q
 refine exG0_4 q0q fun s1 s2 k1 r3 => ?_
 refine exG1_1 r3 fun ep1 k2 => ?_
 walk_at "w"
 refine wk_itemD (by walk_at "mu") (by walk_at "ln") fun ep2 => ?_
 walk_at "w"
 rw [show (Str.ofString "$end") = endS from rfl, dput_new hend]
 refine loop_gen (its_keys (by walk_at "mu")) (LR.keysOf nk) (fun pre st' => st'.σ "self" = some (.ref gr) ∧ st'.σ "terminates" = some (.ref r) ∧ Le F st'.μ ∧ ∃ ep, st'.μ r = some (.dict ((ksOf tk pre).map fun k => (k, .bool (decide (k ∈ tk ++ [endS])))) ep)) ?_ ?_ ?_ ?_
 ·refine ⟨by walk_at "sg", by walk_at "sg", k1.mut hFr, ep2, ?_⟩
  rw [put_same]
  congr 2
  apply List.map_congr_left
  intro k hk
  rw [decide_eq_true hk]; split <;> rfl
 ·intro i st' hi q0q
  refine exG0_4 q0q fun _ _ k1 _ => ?_
  exact cur_keys (by walk_at "mu")
 ·intro pre s post l st' K hps q0q q1q hK
  obtain rfl := q0q
  refine exG0_4 q1q fun s1 s2 k1 r4 => ?_
  refine exG1_1 r4 fun ep1 k2 => ?_
  have hsn : s ∈ nk := by rw [hps]; simp
  have hs1 : s ∉ pre := by
   rw [hps, List.nodup_append] at hnk
   intro hm; exact hnk.2.2 s hm s (by simp) rfl
  have hs2 : s ≠ endS := by rintro rfl; exact hend2 hsn
  have hs : s ∉ ksOf tk pre := by
   unfold ksOf; simp [hdis s hsn, hs2, hs1]
  have hpl : pre.length ≤ 100 := preLe hps (by first | omega | (simp; done) | (simp; omega))
  walk_at "w"
  refine wk_itemD (by walk_at "mu") (by simp [ksOf]; omega) fun ep2 => ?_
  walk_at "w"
  refine hK _ ⟨by walk_at "sg", by walk_at "sg", k1.mut hFr, ep2, ?_⟩
  rw [put_same, dput_new hs, show ksOf tk pre ++ [s] = ksOf tk (pre ++ [s]) by simp [ksOf]]
  congr 2
  apply List.map_congr_left
  intro k hk
  split
  ·rename_i e; subst e
   rw [decide_eq_false]; simp [hdis k hsn, hs2]
  ·rfl
 intro st2 q0q
 refine exG0_4 q0q fun s1 s2 k1 r5 => ?_
 refine exG1_1 r5 fun ep1 k2 => ?_
 walk_at "w"
 refine wk_while (fun k st' => st'.σ "self" = some (.ref gr) ∧ st'.σ "terminates" = some (.ref r) ∧ Le F st'.μ ∧ ∃ b ep, st'.μ r = some (.dict ((ksOf tk nk).map fun k => (k, .bool (b k))) ep) ∧ (∀ s ∈ tk, b s = true) ∧ b endS = true ∧ (∀ s ∈ nk, b s = true → Tm ps pk tk s) ∧ k = cnt nk b) ?_ ?_
 ·intro k st3 K q0q hK
  refine exG0_4 q0q fun s1 s2 k1 r6 => ?_
  refine exG2_5 r6 fun b0 ep3 k2 k3 k4 k5 k6 => ?_
  walk_at "w"
  have hkey : ∀ (b : Str → Bool) s, s ∈ ksOf tk nk → dget ((ksOf tk nk).map fun k => (k, V.bool (b k))) s = some (.bool (b s)) := fun b s hs => by rw [dget_keys, if_pos hs]
  refine loop_gen (its_items (by walk_at "mu")) (LR.itemsOf pk) (fun pre st' => st'.σ "self" = some (.ref gr) ∧ st'.σ "terminates" = some (.ref r) ∧ Le F st'.μ ∧ ∃ b c ep, st'.σ "some_change" = some (.bool c) ∧ st'.μ r = some (.dict ((ksOf tk nk).map fun k => (k, .bool (b k))) ep) ∧ (∀ s ∈ tk, b s = true) ∧ b endS = true ∧ (∀ s ∈ nk, b s = true → Tm ps pk tk s) ∧
   (c = false → b = b0 ∧ ∀ n ∈ pre, clAt ps b n) ∧ (c = true → cnt nk b < cnt nk b0)) ?_ ?_ ?_ ?_
  ·exact ⟨by walk_at "sg", by walk_at "sg", k1, b0, false, ep3, by walk_at "sg", k2, k3, k4, k5, fun _ => ⟨rfl, by simp⟩, by simp⟩
  ·intro i st' hi q0q
   refine exG0_4 q0q fun _ _ k1 _ => ?_
   exact cur_items (by walk_at "mu")
  ·intro pre1 x post1 l st4 K1 hpk q0q q1q hK1
   obtain rfl := q0q
   refine exG0_4 q1q fun s1 s2 k1 r7 => ?_
   refine exG3_7 r7 fun b c ep4 s3 k2 k3 k4 k5 k6 k7 => ?_
   have hxp : x ∈ pk := by rw [hpk]; simp
   have hxn : x ∈ ksOf tk nk := by simp [ksOf, hpn x hxp]
   refine exG1_2 (g8 x hxp) fun ws w1 w2 => ?_
   walk_at "w"
   refine loop_gen (its_list (by walk_at "mu")) w2.ones (fun pre st' => st'.σ "self" = some (.ref gr) ∧ st'.σ "terminates" = some (.ref r) ∧ st'.σ "n" = some (.str x) ∧ st'.σ "some_change" = some (.bool c) ∧ Le F st'.μ ∧ st'.μ r = some (.dict ((ksOf tk nk).map fun k => (k, .bool (b k))) ep4) ∧
    ∀ p ∈ pre, ∃ y ∈ p.sy, b y = false) ?_ ?_ ?_ ?_
   ·exact ⟨by walk_at "sg", by walk_at "sg", by walk_at "sg", by walk_at "sg", k1, k2, by simp⟩
   ·intro i st' hi q0q
    refine exG0_6 q0q fun _ _ _ _ k1 _ => ?_
    exact cur_list (by walk_at "mu")
   ·intro pre2 p post2 l st5 K2 hL q0q q1q hK2
    refine exG1_2 q0q fun v r8 hp => ?_
    obtain rfl := r8
    refine exG0_7 q1q fun u1 u2 u3 u4 k1 k2 u5 => ?_
    have hpf : p ∈ ps.filter fun p => p.nm = x := by rw [hL]; simp
    have hps := (List.mem_filter.mp hpf).1
    have hpx : p.nm = x := by simpa using (List.mem_filter.mp hpf).2
    obtain ⟨pa, pd, pes, pep, pt, rfl, e2, e3, e4, e5, e6, e7⟩ := id hp
    walk_at "w"
    refine loop_gen (its_tup (by walk_at "mu")) (LR.strs p.sy).ones (fun pre st' => st'.σ "self" = some (.ref gr) ∧ st'.σ "terminates" = some (.ref r) ∧ st'.σ "n" = some (.str x) ∧ st'.σ "some_change" = some (.bool c) ∧ Le F st'.μ ∧ st'.μ r = some (.dict ((ksOf tk nk).map fun k => (k, .bool (b k))) ep4) ∧
     ∀ y ∈ pre, b y = true) ?_ ?_ ?_ ?_
    ·exact ⟨by walk_at "sg", by walk_at "sg", by walk_at "sg", by walk_at "sg", k1, k2, by simp⟩
    ·intro i st' hi q0q
     refine exG0_6 q0q fun _ _ _ _ k1 _ => ?_
     exact cur_tup (by walk_at "mu")
    ·intro pre3 y post3 l st6 K3 hy q0q q1q hK3
     refine exG1_2 q0q fun v r9 r10 => ?_
     obtain rfl := r9
     obtain rfl := r10
     refine exG0_7 q1q fun v1 v2 v3 v4 k1 k2 v5 => ?_
     have hyp : y ∈ p.sy := by rw [hy]; simp
     have hyk : y ∈ ksOf tk nk := by rcases hsy p hps y hyp with h | h <;> simp [ksOf, h]
     walk_at "w"
     refine wk_idxD (u := .bool (b y)) (by walk_at "mu") (hkey b y hyk) ?_
     walk_at "w"
     refine wk_split (fun hb => ?_) (fun hb => ?_)
     ·walk_at "w"
      refine hK2 _ ⟨by walk_at "sg", by walk_at "sg", by walk_at "sg", by walk_at "sg", k1, k2, ?_⟩
      intro p' hp'
      rcases List.mem_append.mp hp' with h | h
      ·exact u5 p' h
      ·rw [List.mem_singleton.mp h]; exact ⟨y, hyp, by simpa using hb⟩
     ·walk_at "w"
      refine hK3 _ ⟨by walk_at "sg", by walk_at "sg", by walk_at "sg", by walk_at "sg", k1, k2, ?_⟩
      intro z hz
      rcases List.mem_append.mp hz with h | h
      ·exact v5 z h
      ·rw [List.mem_singleton.mp h]; simpa using hb
    ·intro st6 q0q
     refine exG0_7 q0q fun v1 v2 v3 v4 k1 k2 v5 => ?_
     walk_at "w"
     refine wk_idxD (u := .bool (b x)) (by walk_at "mu") (hkey b x hxn) ?_
     walk_at "w"
     refine wk_split (fun hb => ?_) (fun hb => ?_)
     ·have hbx : b x = false := by simpa using hb
      walk_at "w"
      refine wk_itemD (by walk_at "mu") (by simpa using hkl) fun ep5 => ?_
      walk_at "w"
      refine hK1 _ ⟨by walk_at "sg", by walk_at "sg", k1.mut hFr, fun k => if k = x then true else b k, true, ep5, by walk_at "sg", ?_, ?_, ?_, ?_, by simp, fun _ => ?_⟩
      ·refine set_mu (put_same.trans ?_)
       rw [dput_old hxn]
       congr 3
       funext k; by_cases e : k = x <;> simp [e]
      ·intro s hs; dsimp only; split
       ·rfl
       ·exact k3 s hs
      ·dsimp only; split
       ·rfl
       ·exact k4
      ·intro s hs hsb
       by_cases e : s = x
       ·rw [e, ← hpx]
        refine .rule hps (hpx ▸ hxp) fun y hy => ?_
        rcases hsy p hps y hy with h | h
        ·exact .tok h
        ·exact k5 y h (v5 y hy)
       ·dsimp only at hsb; rw [if_neg e] at hsb; exact k5 s hs hsb
      ·have h1 := cnt_lt (nk := nk) (b := b) (hpn x hxp) hbx
       induction c with
       | false => rw [(k6 rfl).1] at h1 ⊢; exact h1
       | true => exact Nat.lt_trans h1 (k7 rfl)
     ·have hbx : b x = true := by simpa using hb
      walk_at "w"
      refine hK1 _ ⟨by walk_at "sg", by walk_at "sg", k1, b, c, ep4, by walk_at "sg", k2, k3, k4, k5, fun hc => ⟨(k6 hc).1, ?_⟩, k7⟩
      intro n hn
      rcases List.mem_append.mp hn with h | h
      ·exact (k6 hc).2 n h
      ·rw [List.mem_singleton.mp h]; exact fun _ _ _ => hbx
   ·intro st5 q0q
    refine exG0_7 q0q fun u1 u2 u3 u4 k1 k2 u5 => ?_
    walk_at "w"
    refine hK1 _ ⟨by walk_at "sg", by walk_at "sg", k1, b, c, ep4, by walk_at "sg", k2, k3, k4, k5, fun hc => ⟨(k6 hc).1, ?_⟩, k7⟩
    intro n hn
    rcases List.mem_append.mp hn with h | h
    ·exact (k6 hc).2 n h
    ·rw [List.mem_singleton.mp h]
     intro p hp hall
     refine exG1_2 (u5 p hp) fun y hy hf => ?_
     rw [hall y hy] at hf; k_call_by "c" hf
  ·intro st4 q0q
   refine exG0_4 q0q fun s1 s2 k1 r11 => ?_
   refine exG3_7 r11 fun b c ep4 s3 k2 k3 k4 k5 k6 k7 => ?_
   walk_at "w"
   induction c with
   | true =>
    refine wk_neg rfl ?_
    walk_at "w"
    exact hK (cnt nk b) _ (by have := k7 rfl; omega) ⟨s1, s2, k1, b, ep4, k2, k3, k4, k5, rfl⟩
   | false =>
    obtain ⟨rfl, hcl⟩ := k6 rfl
    refine wk_pos rfl ?_
    walk_at "w"
    refine wk_list (by simp) fun r2 hr2 => ?_
    have hr12 : r ≠ r2 := ne_none (o := .dict ((ksOf tk nk).map fun k => (k, .bool (b k))) ep4) (by assumption) hr2
    have hF2r : F r2 = none := k1.noneOf hr2
    walk_at "w"
    refine loop_gen (its_items (by walk_at "mu")) (LR.itemsOf (ksOf tk nk)) (fun pre st' => st'.σ "self" = some (.ref gr) ∧ st'.σ "infinite" = some (.ref r2) ∧ Le F st'.μ ∧ st'.μ r = some (.dict ((ksOf tk nk).map fun k => (k, .bool (b k))) ep4) ∧
     st'.μ r2 = some (.list ((pre.filter fun s => !b s && !(!decide (s ∈ pk) && (!decide (s ∈ tk) && !(s == ("error" : Str))))).map .str))) ?_ ?_ ?_ ?_
    ·exact ⟨by walk_at "sg", by walk_at "sg", k1.mut hF2r, by walk_at "mu", set_mu put_same⟩
    ·intro i st' hi q0q
     refine exG0_5 q0q fun _ _ k1 k2 _ => ?_
     exact cur_items (by walk_at "mu")
    ·intro pre1 x post1 l st5 K1 hks q0q q1q hK1
     obtain rfl := q0q
     refine exG0_5 q1q fun u1 u2 u3 u4 u5 => ?_
     have hlen1 : ((pre1.filter fun s => !b s && !(!decide (s ∈ pk) && (!decide (s ∈ tk) && !(s == ("error" : Str))))).map V.str).length ≤ 1000 := by
      rw [List.length_map]
      refine Nat.le_trans (List.length_filter_le ..) ?_
      have := congrArg List.length hks
      simp at this; omega
     walk_at "w"
     refine wk_split (fun hb => ?_) (fun hb => ?_)
     ·walk_at "w"
      rw [dget_keys_some, dget_keys_some]
      refine wk_split (fun hb2 => ?_) (fun hb2 => ?_)
      ·walk_at "w"
       refine hK1 _ ⟨by walk_at "sg", by walk_at "sg", u3, u4, ?_⟩
       refine set_mu (set_mu ?_)
       rw [List.filter_append, List.filter_cons_of_neg]
       ·simpa using u5
       ·simp only [Bool.and_true] at hb2
        rw [hb2]; simp
      ·walk_at "w"
       refine hK1 _ ⟨by walk_at "sg", by walk_at "sg", u3.mut hF2r, by walk_at "mu", ?_⟩
       rw [List.filter_append, List.filter_cons_of_pos, List.map_append]
       ·exact put_same
       ·simp only [Bool.and_true] at hb2
        rw [hb2]; simpa using hb
     ·walk_at "w"
      refine hK1 _ ⟨by walk_at "sg", by walk_at "sg", u3, u4, ?_⟩
      have hbx : b x = true := by simpa using hb
      refine set_mu (set_mu ?_)
      rw [List.filter_append, List.filter_cons_of_neg (by simp [hbx])]
      simpa using u5
    ·intro st5 q0q
     refine exG0_5 q0q fun u1 u2 u3 u4 u5 => ?_
     walk_at "w"
     refine h r2 _ b u3 u5 k3 k4 fun s hs => ⟨k5 s hs, fun ht => ?_⟩
     clear hs
     induction ht with
     | tok h => exact k3 _ h
     | rule h1 h2 h3 ih => exact hcl _ h2 _ (List.mem_filter.mpr ⟨h1, by simp⟩) ih
 ·refine ⟨_, s1, s2, k1, fun k => decide (k ∈ tk ++ [endS]), ep1, k2, fun s hs => by simp [hs], by simp, fun s hs hb => ?_, rfl⟩
  have : s ∈ tk ++ [endS] := of_decide_eq_true hb
  rcases List.mem_append.mp this with h | h
  ·exact .tok h
  ·rw [List.mem_singleton.mp h] at hs; exact absurd hs hend2
end Kk
end
section
set_option maxHeartbeats 1000000
namespace Kk
variable {α β γ δ : Type}
section
variable {X : Ex → St → Prop} {st : St}
theorem wk_tuple {l : Addr} {xs : List V} {Q : V → St → Prop} (h1 : st.μ l = some (.list xs)) (h2 : xs.length ≤ 1000) (h : ∀ b, st.μ b = none → Q (.ref b) (st.put b (.tup xs))) : tupleM [.ref l] Q X st := .mk h1 h2 h
theorem wk_setdef {a : Addr} {k : Str} {d : V} {es : List (Str × V)} {ep : Nat} {Q : V → St → Prop} (h1 : st.μ a = some (.dict es ep)) (h2 : es.length ≤ 1000) (h : ∀ u, dget es k = some u → Q u st) (h' : dget es k = none → ∀ ep, Q d (st.put a (.dict (dput es k d) ep))) : setdefaultM [.ref a, .str k, d] Q X st := by
 cases e : dget es k with
 | some u => exact .old h1 h2 e (h u e)
 | none => exact .new h1 h2 e (h' e)
theorem wk_fromkeys {a : Addr} {v : V} {es : List (Str × V)} {ep : Nat} {Q : V → St → Prop} (h1 : st.μ a = some (.dict es ep)) (h2 : es.length ≤ 1000) (h : ∀ b, st.μ b = none → ∀ ep, Q (.ref b) (st.put b (.dict (es.map fun p => (p.1, v)) ep))) : fromkeysM [.ref a, v] Q X st := by
 unfold fromkeysM; simp only [h1]; exact ⟨h2, h⟩
theorem wk_lam {P : Addr} {v : V} {Q : V → St → Prop} (h1 : ∃ b, st.μ P = some (.tab b)) (h : ∀ f, st.μ f = none → Q (.ref f) (st.put P (.tab false))) : lamM P v Q X st := ⟨h1, h⟩
theorem wk_iadd {i j : Int} {Q : V → St → Prop} (h : Q (.int (i + j)) st) : iopM .Add (.int i) (.int j) Q X st := .addI h
theorem wk_isub {i j : Int} {Q : V → St → Prop} (h : Q (.int (i - j)) st) : iopM .Sub (.int i) (.int j) Q X st := .subI h
theorem wk_fmtS {x : Str} {Q : Str → St → Prop} (h1 : x.length ≤ 1000) (h : Q x st) : fmtM (.str x) Q X st := .str h1 h
theorem wk_fmtI {i : Int} {Q : Str → St → Prop} (h1 : i.natAbs ≤ 1000) (h2 : (Str.ofString (toString i)).length ≤ 1000) (h : Q (Str.ofString (toString i)) st) : fmtM (.int i) Q X st := .int h1 h2 h
end
structure PI (F0 : Addr → Option O) (x d t u : Addr) (num : Int) (nm : Str) (sy : List Str) (μ : Addr → Option O) : Prop where
 le : Le F0 μ
 tab : ∃ b, μ 45 = some (.tab b)
 ix : μ x = some (.inst 81 d)
 it : μ t = some (.tup (sy.map .str))
 iu : ∃ acc : List Str, μ u = some (.list (acc.map .str)) ∧ acc.length ≤ 10 ∧ ∀ y ∈ acc, y ∈ sy
 dc : ∃ es ep, μ d = some (.dict es ep) ∧ es.length ≤ 12 ∧ dget es "name" = some (.str nm) ∧ dget es "number" = some (.int num) ∧ dget es "prod" = some (.ref t) ∧ dget es "usyms" = some (.ref u)
noncomputable def Loc (F0 : Addr → Option O) (x d t u a : Addr) : Prop := F0 a = none ∧ a ≠ 45 ∧ a ≠ x ∧ a ≠ d ∧ a ≠ t ∧ a ≠ u
section
variable {F0 : Addr → Option O} {x d t u a : Addr} {num : Int} {nm : Str} {sy : List Str} {μ : Addr → Option O} {o : O}
theorem PI.fresh (h : PI F0 x d t u num nm sy μ) (ha : μ a = none) : Loc F0 x d t u a := by
 obtain ⟨le, ⟨b, tb⟩, ix, it, ⟨acc, iu, i2, i3⟩, es, ep, dc, j⟩ := h
 exact ⟨le.noneOf ha, Ne.symm (ne_none tb ha), Ne.symm (ne_none ix ha), Ne.symm (ne_none dc ha), Ne.symm (ne_none it ha), Ne.symm (ne_none iu ha)⟩
theorem PI.loc (h : PI F0 x d t u num nm sy μ) (k : Loc F0 x d t u a) : PI F0 x d t u num nm sy (upd μ a o) := by
 obtain ⟨le, ⟨b, tb⟩, ix, it, ⟨acc, iu, i2, i3⟩, es, ep, dc, j⟩ := h
 refine exG0_6 k fun k1 k2 k3 k4 k5 k6 => ?_
 exact ⟨le.mut k1, ⟨b, u_ne (Ne.symm k2) tb⟩, u_ne (Ne.symm k3) ix, u_ne (Ne.symm k5) it, ⟨acc, u_ne (Ne.symm k6) iu, i2, i3⟩, es, ep, u_ne (Ne.symm k4) dc, j⟩
theorem PI.tabs (h : PI F0 x d t u num nm sy μ) (h45 : F0 45 = none) {b : Bool} : PI F0 x d t u num nm sy (upd μ 45 (.tab b)) := by
 obtain ⟨le, ⟨b', tb⟩, ix, it, ⟨acc, iu, i2, i3⟩, es, ep, dc, j⟩ := h
 have ne : ∀ {a : Addr} {o : O}, μ a = some o → (∀ b, o ≠ .tab b) → a ≠ 45 := by rintro a o h k rfl; rw [tb] at h; k_call_by "c" h; exact k _ rfl
 exact ⟨le.mut h45, ⟨b, u_same⟩, u_ne (ne ix nofun) ix, u_ne (ne it nofun) it, ⟨acc, u_ne (ne iu nofun) iu, i2, i3⟩, es, ep, u_ne (ne dc nofun) dc, j⟩
theorem PI.usy (h : PI F0 x d t u num nm sy μ) (hu : F0 u = none) {acc : List Str} (h1 : acc.length ≤ 10) (h2 : ∀ y ∈ acc, y ∈ sy) : PI F0 x d t u num nm sy (upd μ u (.list (acc.map .str))) := by
 obtain ⟨le, ⟨b', tb⟩, ix, it, ⟨acc', iu, i2, i3⟩, es, ep, dc, j⟩ := h
 have ne : ∀ {a : Addr} {o : O}, μ a = some o → (∀ b, o ≠ .list b) → a ≠ u := by rintro a o h k rfl; rw [iu] at h; k_call_by "c" h; exact k _ rfl
 exact ⟨le.mut hu, ⟨b', u_ne (ne tb nofun) tb⟩, u_ne (ne ix nofun) ix, u_ne (ne it nofun) it, ⟨acc, u_same, h1, h2⟩, es, ep, u_ne (ne dc nofun) dc, j⟩
end
theorem small_shown : ∀ i : Nat, i ≤ 10 → (Str.ofString (toString (i : Int))).length ≤ 1000 := by
 intro i hi
 have : ∀ i : Fin 11, (Str.ofString (toString ((i.val : Nat) : Int))).length ≤ 1000 := by decide +kernel
 exact this ⟨i, by omega⟩
variable {g : Gx} {X : Ex → St → Prop} {Q : Fl → St → Prop} {st : St}
theorem sp_init_P {n : Nat} {m : Mine g} {F0 : Addr → Option O} {x d l : Addr} {num : Int} {nm : Str} {sy : List Str} {pv fv fi lv : V} (hF : Le F0 st.μ) (h45 : F0 45 = none) (hx0 : F0 x = none) (hd0 : F0 d = none) (hdx : d ≠ x) (hx : st.μ x = some (.inst 81 d)) (hd : st.μ d = some (.dict [] 0)) (hl : st.μ l = some (.list (sy.map .str))) (hT : ∃ b, st.μ 45 = some (.tab b))
  (hsl : sy.length ≤ 4) (hok : ∀ y ∈ sy, PyData.strOk y = true) (hyl : ∀ y ∈ sy, y.length ≤ 1000) (s1 : st.σ "self" = some (.ref x)) (s2 : st.σ "number" = some (.int num)) (s3 : st.σ "name" = some (.str nm)) (s4 : st.σ "prod" = some (.ref l)) (s5 : st.σ "precedence" = some pv) (s6 : st.σ "func" = some fv) (s7 : st.σ "file" = some fi) (s8 : st.σ "line" = some lv)
  (h : ∀ st' t, Le F0 st'.μ → (∃ b, st'.μ 45 = some (.tab b)) → st'.μ x = some (.inst 81 d) → st'.μ t = some (.tup (sy.map .str)) → (∃ es ep, st'.μ d = some (.dict es ep) ∧ dget es "name" = some (.str nm) ∧ dget es "number" = some (.int num) ∧ dget es "prod" = some (.ref t)) → st.μ t = none → Q .next st') : (r_init_P (n := n) m).1 Q X st := by
 unfold r_init_P; dsimp only
 have hxd := Ne.symm hdx
 revert hT; refine fun oO => exG1_1 oO fun b45 hT => ?_
 have hld : l ≠ d := by rintro rfl; rw [hd] at hl; k_call_by "c" hl
 have hlx : l ≠ x := by rintro rfl; rw [hx] at hl; k_call_by "c" hl
 have h45d : (45 : Addr) ≠ d := by rintro e; rw [← e, hT] at hd; k_call_by "c" hd
 have h45x : (45 : Addr) ≠ x := by rintro e; rw [← e, hT] at hx; k_call_by "c" hx
 walk_at "w"
 refine wk_tuple (xs := sy.map .str) (by walk_at "mu") (by walk_at "ln") fun t ht => ?_
 have htx : x ≠ t := ne_none (o := .inst 81 d) (by walk_at "mu") ht
 have htd : d ≠ t := ne_none put_same ht
 have htd' := Ne.symm htd
 have ht0 : st.μ t = none := by
  cases e : st.μ t with
  | none => rfl
  | some o => exact absurd ht (by rw [put_ne htd' e]; nofun)
 have ht45 : (45 : Addr) ≠ t := by rintro e; rw [← e, hT] at ht0; k_call_by "c" ht0
 walk_at "w"
 have hul : (sy.map V.str).length ≤ 100000 := by simp; omega
 walk_at "w"
 refine wk_list (by simp) fun u hu => ?_
 walk_at "w"
 have hxu : x ≠ u := ne_none (o := .inst 81 d) (by walk_at "mu") hu
 have hdu : d ≠ u := ne_none put_same hu
 have htu : t ≠ u := ne_none (o := .tup (sy.map .str)) (by walk_at "mu") hu
 have h45u : (45 : Addr) ≠ u := ne_none (o := .tab b45) (by walk_at "mu") hu
 have hu0 : st.μ u = none := by
  cases e : st.μ u with
  | none => rfl
  | some o => exact absurd (hu.symm.trans (put_ne (Ne.symm hdu) (put_ne (Ne.symm hdu) (put_ne (Ne.symm hdu) (put_ne (Ne.symm hdu) (put_ne (Ne.symm hdu) (put_ne (Ne.symm hdu) (put_ne (Ne.symm hdu) (put_ne (Ne.symm htu) (put_ne (Ne.symm hdu) e)))))))))) nofun
 have hFu : F0 u = none := hF.noneOf hu0
 have hFt : F0 t = none := hF.noneOf ht0
 refine loop_gen (its_enT (by walk_at "mu")) (LR.enum 0 (LR.strs sy)) (fun pre st' => st'.σ "self" = some (.ref x) ∧ st'.σ "prod" = some (.ref l) ∧ PI F0 x d t u num nm sy st'.μ ∧ ∃ acc : List Str, st'.μ u = some (.list (acc.map .str)) ∧ acc.length ≤ pre.length ∧ ∀ y ∈ acc, y ∈ sy) ?_ ?_ ?_ ?_
 ·exact ⟨by walk_at "sg", by walk_at "sg", ⟨by walk_at "le", ⟨b45, by walk_at "mu"⟩, by walk_at "mu", by walk_at "mu", ⟨[], put_ne (Ne.symm hdu) put_same, by simp, by simp⟩, _, _, by walk_at "mu", by walk_at "ln", by walk_at "dg", by walk_at "dg", by walk_at "dg", by walk_at "dg"⟩, [], put_ne (Ne.symm hdu) put_same, by simp, by simp⟩
 ·intro i st' hi q0q
  refine exG0_4 q0q fun _ _ k1 _ => ?_
  exact cur_enT k1.it
 ·intro pre q0q post l' st2 K hps q1q q2q hK
  obtain ⟨y, j⟩ := q0q
  refine exG1_2 q1q fun v r1 r2 => ?_
  obtain rfl := r1
  obtain rfl := r2
  refine exG0_4 q2q fun v1 v2 k1 r3 => ?_
  refine exG1_3 r3 fun acc k2 k3 k4 => ?_
  obtain ⟨le, ⟨b, tb⟩, ix, it, -, es, ep, dc, c1, c2, c3, c4, c5⟩ := id k1
  have hy : y ∈ sy := by
   have : (y, j) ∈ sy.zipIdx 0 := by rw [hps]; simp
   exact (List.mem_zipIdx this).2.2 ▸ List.getElem_mem _
  have hpl : pre.length ≤ 3 := preLe hps (by first | omega | (simp; done) | (simp; omega))
  walk_at "w"
  refine wk_ninL (ys := acc) (by walk_at "mu") (fun z hz => hok z (k4 z hz)) (hok y hy) ?_
  refine wk_split (fun hb => ?_) (fun hb => ?_)
  ·have hal : (acc.map V.str).length ≤ 1000 := by simp; omega
   walk_at "w"
   refine hK _ ⟨by walk_at "sg", by walk_at "sg", ?_, acc ++ [y], ?_, by simp; omega, ?_⟩
   ·have := k1.usy hFu (acc := acc ++ [y]) (by walk_at "ln") (by simpa [or_imp, forall_and] using ⟨k4, hy⟩)
    rw [List.map_append] at this; exact this
   ·rw [List.map_append]; exact put_same
   ·simpa [or_imp, forall_and] using ⟨k4, hy⟩
  ·walk_at "w"
   exact hK _ ⟨by walk_at "sg", by walk_at "sg", k1, acc, k2, by simp; omega, k4⟩
 intro st2 q0q
 refine exG0_4 q0q fun v1 v2 k1 _ => ?_
 walk_at "w"
 intro nc hnc ep0
 have lnc := k1.fresh hnc
 have k2 : PI F0 x d t u num nm sy (st2.put nc (.dict [] ep0)).μ := k1.loc lnc
 obtain ⟨le, ⟨b, tb⟩, ix, it, -, es, ep, dc, c1, c2, c3, c4, c5⟩ := id k2
 walk_at "w"
 refine loop_gen (its_tup (by walk_at "mu")) (LR.strs sy).ones (fun pre st' => st'.σ "self" = some (.ref x) ∧ st'.σ "namecount" = some (.ref nc) ∧ PI F0 x d t u num nm sy st'.μ ∧ ∃ (ks : List Str) (c : Str → Int) (ep : Nat), st'.μ nc = some (.dict (ks.map fun k => (k, .int (c k))) ep) ∧ ks.length ≤ pre.length ∧ ∀ y ∈ pre, y ∈ ks) ?_ ?_ ?_ ?_
 ·exact ⟨by walk_at "sg", by walk_at "sg", k2, [], fun _ => 0, ep0, put_same, by simp, by simp⟩
 ·intro i st' hi q0q
  refine exG0_4 q0q fun _ _ k1 _ => ?_
  exact cur_tup k1.it
 ·intro pre y post l' st3 K hps q0q q1q hK
  refine exG1_2 q0q fun v r4 r5 => ?_
  obtain rfl := r4
  obtain rfl := r5
  refine exG0_4 q1q fun v1 v2 k1 r6 => ?_
  refine exG3_3 r6 fun ks c ep1 k3 k4 k5 => ?_
  have hpl : pre.length ≤ 3 := preLe hps (by first | omega | (simp; done) | (simp; omega))
  walk_at "w"
  refine wk_setdef (by walk_at "mu") (by walk_at "ln") (fun w hw => ?_) (fun hw ep2 => ?_)
  ·have hyk : y ∈ ks := by
    rw [dget_keys] at hw
    by_cases h : y ∈ ks
    ·exact h
    ·rw [if_neg h] at hw; k_call_by "c" hw
   walk_at "w"
   refine wk_idxD (u := .int (c y)) (by walk_at "mu") (by rw [dget_keys, if_pos hyk]) ?_
   walk_at "w"
   refine wk_iadd ?_
   walk_at "w"
   refine wk_itemD (by walk_at "mu") (by walk_at "ln") fun ep3 => ?_
   walk_at "w"
   refine ⟨⟨y, rfl⟩, ?_⟩
   walk_at "w"
   refine hK _ ⟨by walk_at "sg", by walk_at "sg", k1.loc lnc, ks, fun k => if k = y then c y + 1 else c k, ep3, ?_, by simp; omega, ?_⟩
   ·rw [put_same, dput_old hyk]
    congr 3
    funext k; by_cases e : k = y <;> simp [e]
   ·simpa [or_imp, forall_and] using ⟨k5, hyk⟩
  ·have hyk : y ∉ ks := by
    intro h
    rw [dget_keys, if_pos h] at hw; k_call_by "c" hw
   rw [dput_new hyk]
   have hyk' : y ∈ ks ++ [y] := by simp
   walk_at "w"
   refine wk_idxD (u := .int 0) (by walk_at "mu") (by rw [dget_keys (ks := ks ++ [y]) (f := fun k => if k = y then V.int 0 else V.int (c k)), if_pos hyk']; simp) ?_
   walk_at "w"
   refine wk_iadd ?_
   walk_at "w"
   refine wk_itemD (by walk_at "mu") (by walk_at "ln") fun ep3 => ?_
   walk_at "w"
   refine ⟨⟨y, rfl⟩, ?_⟩
   walk_at "w"
   refine hK _ ⟨by walk_at "sg", by walk_at "sg", PI.loc (PI.loc k1 lnc) lnc, ks ++ [y], fun k => if k = y then 1 else c k, ep3, ?_, by simp; omega, ?_⟩
   ·rw [put_same, dput_old (ks := ks ++ [y]) (f := fun k => if k = y then V.int 0 else V.int (c k)) hyk']
    congr 3
    funext k; by_cases e : k = y <;> simp [e]
   ·simp only [List.mem_append, List.mem_singleton, or_imp, forall_and]
    exact ⟨fun z hz => .inl (k5 z hz), fun z hz => .inr hz⟩
 intro st3 q0q
 refine exG0_4 q0q fun v1 v2 k1 r7 => ?_
 refine exG3_3 r7 fun ks c ep1 k3 k4 k5 => ?_
 walk_at "w"
 refine wk_fromkeys (by walk_at "mu") (by walk_at "ln") fun nu hnu ep2 => ?_
 have lnu := k1.fresh hnu
 have hncu : nc ≠ nu := ne_none k3 hnu
 have k6 : PI F0 x d t u num nm sy (st3.put nu (.dict ((ks.map fun k => (k, V.int (c k))).map fun p => (p.1, V.int 0)) ep2)).μ := k1.loc lnu
 have k7 : (st3.put nu (.dict ((ks.map fun k => (k, V.int (c k))).map fun p => (p.1, V.int 0)) ep2)).μ nu = some (.dict (ks.map fun k => (k, V.int ((0 : Nat) : Int))) ep2) := by rw [put_same, List.map_map]; rfl
 have k8 : (st3.put nu (.dict ((ks.map fun k => (k, V.int (c k))).map fun p => (p.1, V.int 0)) ep2)).μ nc = some (.dict (ks.map fun k => (k, .int (c k))) ep1) := put_ne hncu k3
 walk_at "w"
 intro nm' hnm ep3
 have hnu1 : (st3.put nu (.dict ((ks.map fun k => (k, V.int (c k))).map fun p => (p.1, V.int 0)) ep2)).μ nm' = none := hnm
 have lnm := k6.fresh hnm
 have hncm : nc ≠ nm' := ne_none k8 hnm
 have hnum : nu ≠ nm' := ne_none k7 hnm
 have k9 : PI F0 x d t u num nm sy (((st3.put nu (.dict ((ks.map fun k => (k, V.int (c k))).map fun p => (p.1, V.int 0)) ep2)).set "nameuse" (.ref nu)).put nm' (.dict [] ep3)).μ := k6.loc lnm
 obtain ⟨le, ⟨b, tb⟩, ix, it, -, es, ep, dc, c1, c2, c3, c4, c5⟩ := id k9
 walk_at "w"
 refine loop_gen (its_enT (by walk_at "mu")) (LR.enum 0 (LR.strs sy)) (fun pre st' => st'.σ "self" = some (.ref x) ∧ st'.σ "namecount" = some (.ref nc) ∧ st'.σ "nameuse" = some (.ref nu) ∧ st'.σ "namemap" = some (.ref nm') ∧ PI F0 x d t u num nm sy st'.μ ∧ st'.μ nc = some (.dict (ks.map fun k => (k, .int (c k))) ep1) ∧
  ∃ (uu : Str → Nat) (ep : Nat) (es' : List (Str × V)) (ep' : Nat), st'.μ nu = some (.dict (ks.map fun k => (k, .int ((uu k : Nat) : Int))) ep) ∧ (∀ k, uu k ≤ pre.length) ∧ st'.μ nm' = some (.dict es' ep') ∧ es'.length ≤ pre.length) ?_ ?_ ?_ ?_
 ·exact ⟨by walk_at "sg", by walk_at "sg", by walk_at "sg", by walk_at "sg", k9, by walk_at "mu", fun _ => 0, ep2, [], ep3, set_mu (put_ne hnum k7), by simp, set_mu put_same, by simp⟩
 ·intro i st' hi q0q
  refine exG0_6 q0q fun _ _ _ _ k1 _ => ?_
  exact cur_enT k1.it
 ·intro pre q0q post l' st5 K hps q1q q2q hK
  obtain ⟨y, j⟩ := q0q
  refine exG1_2 q1q fun v r8 r9 => ?_
  obtain rfl := r8
  obtain rfl := r9
  refine exG0_7 q2q fun v1 v2 v3 v4 k1 k2 r10 => ?_
  refine exG4_4 r10 fun uu ep4 es5 ep5 k3 k4' k5' k6' => ?_
  have hy : y ∈ sy := by
   have : (y, j) ∈ sy.zipIdx 0 := by rw [hps]; simp
   exact (List.mem_zipIdx this).2.2 ▸ List.getElem_mem _
  have hpl : pre.length ≤ 3 := preLe hps (by first | omega | (simp; done) | (simp; omega))
  have hyk := k5 y hy
  have hksl : (ks.map fun k => (k, V.int ((uu k : Nat) : Int))).length ≤ 1000 := by simp; omega
  have hal5 : es5.length ≤ 1000 := by omega
  have hpost : ∀ kk : Str, ∀ st6 : St, st6.σ "self" = some (.ref x) → st6.σ "namecount" = some (.ref nc) → st6.σ "nameuse" = some (.ref nu) → st6.σ "namemap" = some (.ref nm') → PI F0 x d t u num nm sy st6.μ → st6.μ nc = some (.dict (ks.map fun k => (k, .int (c k))) ep1) →
   (∃ (uu : Str → Nat) (ep : Nat), st6.μ nu = some (.dict (ks.map fun k => (k, .int ((uu k : Nat) : Int))) ep) ∧ ∀ k, uu k ≤ pre.length + 1) → st6.μ nm' = some (.dict es5 ep5) → ∀ f ep6, K ((st6.put 45 (.tab false)).put nm' (.dict (dput es5 kk (.ref f)) ep6)) := by
   intro kk st6 w1 w2 w3 w4 w5 w6 q0q w9 f ep6
   refine exG2_2 q0q fun uu' ep7 w7 w8 => ?_
   refine hK _ ⟨w1, w2, w3, w4, (w5.tabs h45).loc lnm, put_ne hncm (put_ne lnc.2.1 w6), uu', ep7, _, ep6, put_ne hnum (put_ne lnu.2.1 w7), by simpa using w8, put_same, ?_⟩
   have := dput_len (k := kk) (v := .ref f) k6'
   simpa using this
  walk_at "w"
  refine wk_idxD (u := .int (c y)) (by walk_at "mu") (by rw [dget_keys, if_pos hyk]) ?_
  walk_at "w"
  refine wk_split (fun hb => ?_) (fun hb => ?_)
  ·walk_at "w"
   refine wk_fmtS (hyl y hy) ?_
   walk_at "w"
   refine wk_idxD (u := .int ((uu y : Nat) : Int)) (by walk_at "mu") (by rw [dget_keys, if_pos hyk]) ?_
   walk_at "w"
   have hu3 : uu y ≤ 3 := Nat.le_trans (k4' y) hpl
   refine wk_fmtI (by walk_at "ln") (small_shown _ (by omega)) ?_
   walk_at "w"
   refine wk_idxD (u := .int ((uu y : Nat) : Int)) (by walk_at "mu") (by rw [dget_keys, if_pos hyk]) ?_
   walk_at "w"
   refine wk_iadd ?_
   walk_at "w"
   refine wk_itemD (by walk_at "mu") hksl fun ep6 => ?_
   walk_at "w"
   refine exG1_1 k1.tab fun b tb => ?_
   refine wk_lam ⟨b, put_ne (Ne.symm lnu.2.1) tb⟩ fun f hf => ?_
   walk_at "w"
   refine wk_itemD (es := es5) (ep := ep5) (put_ne (Ne.symm lnm.2.1 |>.symm) (put_ne (Ne.symm hnum) k5')) hal5 fun ep7 => ?_
   walk_at "w"
   refine ⟨⟨y, rfl⟩, ?_⟩
   walk_at "w"
   refine hpost _ ((((St.set st5 _ _).set _ _).set _ _).put nu _) ?_ ?_ ?_ ?_ ?_ ?_ ?_ ?_ f ep7
   ·walk_at "sg"
   ·walk_at "sg"
   ·walk_at "sg"
   ·walk_at "sg"
   ·exact k1.loc lnu
   ·exact put_ne hncu k2
   ·refine ⟨fun k => if k = y then uu y + 1 else uu k, ep6, ?_, ?_⟩
    ·rw [put_same, dput_old hyk]
     congr 3
     funext k; by_cases e : k = y <;> simp [e]
    ·intro k; dsimp only; have := k4' k; have := k4' y; split <;> omega
   ·exact put_ne (Ne.symm hnum) k5'
  ·walk_at "w"
   refine exG1_1 k1.tab fun b tb => ?_
   refine wk_lam ⟨b, tb⟩ fun f hf => ?_
   walk_at "w"
   refine wk_itemD (es := es5) (ep := ep5) (put_ne lnm.2.1 k5') hal5 fun ep7 => ?_
   walk_at "w"
   refine ⟨⟨y, rfl⟩, ?_⟩
   walk_at "w"
   refine hpost y (((St.set st5 _ _).set _ _).set _ _) ?_ ?_ ?_ ?_ ?_ ?_ ?_ ?_ f ep7
   ·walk_at "sg"
   ·walk_at "sg"
   ·walk_at "sg"
   ·walk_at "sg"
   ·exact k1
   ·exact k2
   ·exact ⟨uu, ep4, k3, fun k => by have := k4' k; omega⟩
   ·exact k5'
 intro st5 q0q
 refine exG0_6 q0q fun v1 v2 v3 v4 k1 _ => ?_
 obtain ⟨le, ⟨b, tb⟩, ix, it, -, es, ep, dc, c1, c2, c3, c4, c5⟩ := id k1
 walk_at "w"
 have hes : es.length ≤ 997 := by omega
 refine wk_list (by simp) fun u2 hu2 => ?_
 have hxu2 : x ≠ u2 := ne_none (o := .inst 81 d) (put_ne hxd ix) hu2
 have hdu2 : d ≠ u2 := ne_none put_same hu2
 have htu2 : t ≠ u2 := ne_none (o := .tup (sy.map .str)) (put_ne htd' it) hu2
 have h45u2 : (45 : Addr) ≠ u2 := ne_none (o := .tab b) (put_ne h45d tb) hu2
 have hFu2 : F0 u2 = none := (Le.mut le hd0).noneOf hu2
 walk_at "w"
 refine h _ t (by walk_at "le") ⟨b, put_ne h45d (put_ne h45d (put_ne h45u2 (put_ne h45d tb)))⟩ (put_ne hxd (put_ne hxd (put_ne hxu2 (put_ne hxd ix)))) (put_ne htd' (put_ne htd' (put_ne htu2 (put_ne htd' it)))) ⟨_, _, put_same, by walk_at "dg", by walk_at "dg", by walk_at "dg"⟩ ht0
end Kk
end
section
set_option maxHeartbeats 1000000
namespace Kk
variable {α β γ δ : Type}
set_option genInjectivity false in
inductive C where
 | list (xs : List V) | dict (es : List (Str × V)) | set (xs : List Str) | tab
noncomputable def OIs (o : O) : C → Prop
 | .list xs => o = .list xs
 | .dict es => ∃ ep, o = .dict es ep
 | .set xs => o = .set xs
 | .tab => ∃ b, o = .tab b
noncomputable def Is (μ : Addr → Option O) (a : Addr) (c : C) : Prop := ∃ o, μ a = some o ∧ OIs o c
inductive Lb where
 | tab | d | P | pn | pm | t | nt | pr | up | sy | B (k : Str) | T (k : Str) | N (k : Str)
 deriving DecidableEq
structure Mem (μ F : Addr → Option O) (ad : Lb → Addr) (M : Lb → Option C) : Prop where
 le : Le F μ
 is : ∀ l c, M l = some c → Is μ (ad l) c
 inj : ∀ l l' c c', M l = some c → M l' = some c' → ad l = ad l' → l = l'
 off : ∀ l c, M l = some c → F (ad l) = none
section
variable {μ μ' F F' : Addr → Option O} {ad : Lb → Addr} {M M' : Lb → Option C} {l : Lb} {c c' : C} {o : O} {a : Addr}
theorem Mem.grow (h : Mem μ F ad M) (k : Le μ μ') : Mem μ' F ad M := ⟨h.le.trans k, fun l c e => by obtain ⟨o, a, b⟩ := h.is l c e; exact ⟨o, k _ _ a, b⟩, h.inj, h.off⟩
theorem Mem.drop (h : Mem μ F ad M) (k : ∀ l c, M' l = some c → M l = some c) : Mem μ F ad M' := ⟨h.le, fun l c e => h.is l c (k l c e), fun l l' c c' e e' => h.inj l l' c c' (k l c e) (k l' c' e'), fun l c e => h.off l c (k l c e)⟩
theorem Mem.put (h : Mem μ F ad M) (hl : M l = some c) (ho : OIs o c') : Mem (upd μ (ad l) o) F ad (fun l' => if l' = l then some c' else M l') := by
 have key : ∀ l' d, (if l' = l then some c' else M l') = some d → ∃ d', M l' = some d' := fun l' d e => by
  by_cases q : l' = l
  ·subst q; exact ⟨_, hl⟩
  ·rw [if_neg q] at e; exact ⟨_, e⟩
 refine ⟨h.le.mut (h.off l c hl), fun l' d e => ?_, fun l1 l2 d d' e e' => ?_, fun l' d e => ?_⟩
 ·by_cases q : l' = l
  ·subst q; rw [if_pos rfl] at e; k_call_by "c" e; exact ⟨o, u_same, ho⟩
  ·rw [if_neg q] at e
   refine exG1_2 (h.is l' d e) fun o' h1 h2 => ?_
   exact ⟨o', u_ne (fun z => q (h.inj l' l d c e hl z)) h1, h2⟩
 ·obtain ⟨_, q1⟩ := key l1 d e; obtain ⟨_, q2⟩ := key l2 d' e'; exact h.inj l1 l2 _ _ q1 q2
 ·obtain ⟨_, q1⟩ := key l' d e; exact h.off l' _ q1
theorem Mem.new (h : Mem μ F ad M) (hl : M l = none) (ha : μ a = none) (ho : OIs o c) : Mem (upd μ a o) F (fun l' => if l' = l then a else ad l') (fun l' => if l' = l then some c else M l') := by
 have ne : ∀ l' d, M l' = some d → ad l' ≠ a := fun l' d e z => by
  refine exG1_2 (h.is l' d e) fun o' h1 _ => ?_
  rw [z, ha] at h1; k_call_by "c" h1
 refine ⟨h.le.new ha, fun l' d e => ?_, fun l1 l2 d d' e e' z => ?_, fun l' d e => ?_⟩
 ·by_cases q : l' = l
  ·subst q; rw [if_pos rfl] at e ⊢; k_call_by "c" e; exact ⟨o, u_same, ho⟩
  ·rw [if_neg q] at e ⊢
   refine exG1_2 (h.is l' d e) fun o' h1 h2 => ?_
   exact ⟨o', u_old ha h1, h2⟩
 ·by_cases q1 : l1 = l
  ·by_cases q2 : l2 = l
   ·rw [q1, q2]
   ·rw [if_neg q2] at e'; rw [if_pos q1, if_neg q2] at z
    exact absurd z.symm (ne l2 _ e')
  ·rw [if_neg q1] at e
   by_cases q2 : l2 = l
   ·rw [if_neg q1, if_pos q2] at z; exact absurd z (ne l1 _ e)
   ·rw [if_neg q2] at e'; rw [if_neg q1, if_neg q2] at z; exact h.inj l1 l2 _ _ e e' z
 ·by_cases q : l' = l
  ·rw [if_pos q]; exact h.le.noneOf ha
  ·rw [if_neg q] at e ⊢; exact h.off l' d e
theorem Mem.set (h : Mem μ F ad M) (hl : M l = some c) (ho : OIs o c') (hM : ∀ l' d, M' l' = some d → (l' = l ∧ d = c') ∨ (l' ≠ l ∧ M l' = some d)) : Mem (upd μ (ad l) o) F ad M' :=
 (h.put hl ho).drop fun l' d e => by
  rcases hM l' d e with ⟨q, z⟩ | ⟨q, z⟩
  ·rw [z]; exact if_pos q
  ·exact (if_neg q).trans z
theorem Mem.newSet {l2 : Lb} {c2 c3 : C} {o2 : O} (h : Mem μ F ad M) (hl : M l = none) (ha : μ a = none) (ho : OIs o c) (hl2 : M l2 = some c3) (ho2 : OIs o2 c2) (hM : ∀ l' d, M' l' = some d → (l' = l ∧ d = c) ∨ (l' = l2 ∧ d = c2) ∨ (l' ≠ l ∧ l' ≠ l2 ∧ M l' = some d)) :
  Mem (upd (upd μ a o) (ad l2) o2) F (fun l' => if l' = l then a else ad l') M' := by
 have hne : l2 ≠ l := fun q => by rw [← q, hl2] at hl; k_call_by "c" hl
 have m2 := (h.new hl ha ho).put (l := l2) (c := c3) ((if_neg hne).trans hl2) ho2
 rw [if_neg hne] at m2
 refine m2.drop fun l' d e => ?_
 rcases hM l' d e with ⟨q, z⟩ | ⟨q, z⟩ | ⟨q, q2, z⟩
 ·rw [z, q, if_neg (Ne.symm hne)]; exact if_pos rfl
 ·rw [z]; exact if_pos q
 ·rw [if_neg q2, if_neg q]; exact z
theorem Mem.frz (h : Mem μ F ad M) (k : Le F' μ) (n : ∀ a o, F' a = some o → F a = some o ∨ ∀ l c, M l = some c → ad l ≠ a) : Mem μ F' ad M :=
 ⟨k, h.is, h.inj, fun l c e => by
  cases q : F' (ad l) with
  | none => rfl
  | some o =>
   rcases n _ o q with h1 | h1
   ·rw [h.off l c e] at h1; k_call_by "c" h1
   ·exact absurd rfl (h1 l c e)⟩
end
set_option genInjectivity false in
structure GS where
 es : List (Str × V)
 vs : List V
 kb : List Str
 cb : Str → List V
 pm : List (Str × V)
 kt : List Str
 ct : Str → List V
 kn : List Str
 cn : Str → List V
 us : List Str
 pr : List (Str × V)
 sy : Option (List V)
noncomputable def tabOf (ks : List Str) (f : Str → Addr) : List (Str × V) := ks.map fun k => (k, .ref (f k))
noncomputable def gmem (ad : Lb → Addr) (S : GS) : Lb → Option C
 | .tab => some .tab
 | .d => some (.dict S.es)
 | .P => some (.list S.vs)
 | .pn => some (.dict (tabOf S.kb fun k => ad (.B k)))
 | .pm => some (.dict S.pm)
 | .t => some (.dict (tabOf S.kt fun k => ad (.T k)))
 | .nt => some (.dict (tabOf S.kn fun k => ad (.N k)))
 | .pr => some (.dict S.pr)
 | .up => some (.set S.us)
 | .sy => S.sy.map .list
 | .B k => if k ∈ S.kb then some (.list (S.cb k)) else none
 | .T k => if k ∈ S.kt then some (.list (S.ct k)) else none
 | .N k => if k ∈ S.kn then some (.list (S.cn k)) else none
structure Attrs (ad : Lb → Addr) (es : List (Str × V)) : Prop where
 P : dget es "Productions" = some (.ref (ad .P))
 pn : dget es "Prodnames" = some (.ref (ad .pn))
 pm : dget es "Prodmap" = some (.ref (ad .pm))
 t : dget es "Terminals" = some (.ref (ad .t))
 nt : dget es "Nonterminals" = some (.ref (ad .nt))
 pr : dget es "Precedence" = some (.ref (ad .pr))
 up : dget es "UsedPrecedence" = some (.ref (ad .up))
 len : es.length ≤ 20
 no : ∀ x ∈ (["set_precedence", "add_production", "set_start", "find_unreachable", "infinite_cycles", "undefined_symbols", "unused_terminals", "unused_rules", "unused_precedence"] : List Str), dget es x = none
structure Gm (μ F : Addr → Option O) (gr : Addr) (ad : Lb → Addr) (S : GS) : Prop where
 mem : Mem μ F ad (gmem ad S)
 tab : ad .tab = 45
 gri : F gr = some (.inst 227 (ad .d))
 at_ : Attrs ad S.es
section
variable {μ μ' F F' : Addr → Option O} {gr : Addr} {ad : Lb → Addr} {S : GS} {k : Str} {o : O} {a : Addr} {v : V}
theorem Gm.gr_ (h : Gm μ F gr ad S) : μ gr = some (.inst 227 (ad .d)) := h.mem.le _ _ h.gri
theorem Gm.d (h : Gm μ F gr ad S) : ∃ ep, μ (ad .d) = some (.dict S.es ep) := by obtain ⟨o, a, ep, rfl⟩ := h.mem.is .d _ rfl; exact ⟨ep, a⟩
theorem Gm.P (h : Gm μ F gr ad S) : μ (ad .P) = some (.list S.vs) := by obtain ⟨o, a, rfl⟩ := h.mem.is .P _ rfl; exact a
theorem Gm.pn (h : Gm μ F gr ad S) : ∃ ep, μ (ad .pn) = some (.dict (tabOf S.kb fun k => ad (.B k)) ep) := by obtain ⟨o, a, ep, rfl⟩ := h.mem.is .pn _ rfl; exact ⟨ep, a⟩
theorem Gm.pm (h : Gm μ F gr ad S) : ∃ ep, μ (ad .pm) = some (.dict S.pm ep) := by obtain ⟨o, a, ep, rfl⟩ := h.mem.is .pm _ rfl; exact ⟨ep, a⟩
theorem Gm.t (h : Gm μ F gr ad S) : ∃ ep, μ (ad .t) = some (.dict (tabOf S.kt fun k => ad (.T k)) ep) := by obtain ⟨o, a, ep, rfl⟩ := h.mem.is .t _ rfl; exact ⟨ep, a⟩
theorem Gm.nt (h : Gm μ F gr ad S) : ∃ ep, μ (ad .nt) = some (.dict (tabOf S.kn fun k => ad (.N k)) ep) := by obtain ⟨o, a, ep, rfl⟩ := h.mem.is .nt _ rfl; exact ⟨ep, a⟩
theorem Gm.pr (h : Gm μ F gr ad S) : ∃ ep, μ (ad .pr) = some (.dict S.pr ep) := by obtain ⟨o, a, ep, rfl⟩ := h.mem.is .pr _ rfl; exact ⟨ep, a⟩
theorem Gm.up (h : Gm μ F gr ad S) : μ (ad .up) = some (.set S.us) := by obtain ⟨o, a, rfl⟩ := h.mem.is .up _ rfl; exact a
theorem Gm.tb (h : Gm μ F gr ad S) : ∃ b, μ 45 = some (.tab b) := by obtain ⟨o, a, b, rfl⟩ := h.mem.is .tab _ rfl; rw [h.tab] at a; exact ⟨b, a⟩
theorem Gm.sy (h : Gm μ F gr ad S) {xs : List V} (e : S.sy = some xs) : μ (ad .sy) = some (.list xs) := by obtain ⟨o, a, rfl⟩ := h.mem.is .sy (.list xs) (by simp [gmem, e]); exact a
theorem Gm.B (h : Gm μ F gr ad S) (hk : k ∈ S.kb) : μ (ad (.B k)) = some (.list (S.cb k)) := by obtain ⟨o, a, rfl⟩ := h.mem.is (.B k) _ (if_pos hk); exact a
theorem Gm.T (h : Gm μ F gr ad S) (hk : k ∈ S.kt) : μ (ad (.T k)) = some (.list (S.ct k)) := by obtain ⟨o, a, rfl⟩ := h.mem.is (.T k) _ (if_pos hk); exact a
theorem Gm.N (h : Gm μ F gr ad S) (hk : k ∈ S.kn) : μ (ad (.N k)) = some (.list (S.cn k)) := by obtain ⟨o, a, rfl⟩ := h.mem.is (.N k) _ (if_pos hk); exact a
theorem Gm.grow (h : Gm μ F gr ad S) (k : Le μ μ') : Gm μ' F gr ad S := ⟨h.mem.grow k, h.tab, h.gri, h.at_⟩
theorem Gm.appP (h : Gm μ F gr ad S) : Gm (upd μ (ad .P) (.list (S.vs ++ [v]))) F gr ad { S with vs := S.vs ++ [v] } :=
 ⟨h.mem.set (l := .P) (c' := .list (S.vs ++ [v])) rfl rfl fun l c e => by induction l <;> first | exact .inr ⟨fun q => Lb.noConfusion q, e⟩ | (k_call_by "c" e; exact .inl ⟨rfl, rfl⟩), h.tab, h.gri, h.at_⟩
theorem Gm.setP (h : Gm μ F gr ad S) {xs : List V} : Gm (upd μ (ad .P) (.list xs)) F gr ad { S with vs := xs } :=
 ⟨h.mem.set (l := .P) (c' := .list xs) rfl rfl fun l c e => by induction l <;> first | exact .inr ⟨fun q => Lb.noConfusion q, e⟩ | (k_call_by "c" e; exact .inl ⟨rfl, rfl⟩), h.tab, h.gri, h.at_⟩
theorem Gm.setPM (h : Gm μ F gr ad S) {es : List (Str × V)} {ep : Nat} : Gm (upd μ (ad .pm) (.dict es ep)) F gr ad { S with pm := es } :=
 ⟨h.mem.set (l := .pm) (c' := .dict es) rfl ⟨ep, rfl⟩ fun l c e => by induction l <;> first | exact .inr ⟨fun q => Lb.noConfusion q, e⟩ | (k_call_by "c" e; exact .inl ⟨rfl, rfl⟩), h.tab, h.gri, h.at_⟩
theorem Gm.setPr (h : Gm μ F gr ad S) {es : List (Str × V)} {ep : Nat} : Gm (upd μ (ad .pr) (.dict es ep)) F gr ad { S with pr := es } :=
 ⟨h.mem.set (l := .pr) (c' := .dict es) rfl ⟨ep, rfl⟩ fun l c e => by induction l <;> first | exact .inr ⟨fun q => Lb.noConfusion q, e⟩ | (k_call_by "c" e; exact .inl ⟨rfl, rfl⟩), h.tab, h.gri, h.at_⟩
theorem Gm.setU (h : Gm μ F gr ad S) {xs : List Str} : Gm (upd μ (ad .up) (.set xs)) F gr ad { S with us := xs } :=
 ⟨h.mem.set (l := .up) (c' := .set xs) rfl rfl fun l c e => by induction l <;> first | exact .inr ⟨fun q => Lb.noConfusion q, e⟩ | (k_call_by "c" e; exact .inl ⟨rfl, rfl⟩), h.tab, h.gri, h.at_⟩
theorem Gm.setD (h : Gm μ F gr ad S) {es : List (Str × V)} {ep : Nat} (hA : Attrs ad es) : Gm (upd μ (ad .d) (.dict es ep)) F gr ad { S with es := es } :=
 ⟨h.mem.set (l := .d) (c' := .dict es) rfl ⟨ep, rfl⟩ fun l c e => by induction l <;> first | exact .inr ⟨fun q => Lb.noConfusion q, e⟩ | (k_call_by "c" e; exact .inl ⟨rfl, rfl⟩), h.tab, h.gri, hA⟩
theorem Gm.setSy (h : Gm μ F gr ad S) {xs ys : List V} (e : S.sy = some xs) : Gm (upd μ (ad .sy) (.list ys)) F gr ad { S with sy := some ys } :=
 ⟨h.mem.set (l := .sy) (c := .list xs) (c' := .list ys) (by simp [gmem, e]) rfl fun l c e => by induction l <;> first | exact .inr ⟨fun q => Lb.noConfusion q, e⟩ | (k_call_by "c" e; exact .inl ⟨rfl, rfl⟩), h.tab, h.gri, h.at_⟩
theorem Gm.noSy (h : Gm μ F gr ad S) : Gm μ F gr ad { S with sy := none } :=
 ⟨h.mem.drop fun l c e => by induction l <;> first | exact e | (simp [gmem] at e), h.tab, h.gri, h.at_⟩
theorem Gm.newSy (h : Gm μ F gr ad S) {ys : List V} (e : S.sy = none) (ha : μ a = none) : Gm (upd μ a (.list ys)) F gr (fun l => if l = .sy then a else ad l) { S with sy := some ys } :=
 ⟨(h.mem.new (l := .sy) (c := .list ys) (by simp [gmem, e]) ha rfl).drop fun l c e => by induction l <;> simpa [gmem] using e, by simpa using h.tab, by simpa using h.gri, by
  have := h.at_; exact ⟨this.P, this.pn, this.pm, this.t, this.nt, this.pr, this.up, this.len, this.no⟩⟩
theorem Gm.appT (h : Gm μ F gr ad S) (hk : k ∈ S.kt) : Gm (upd μ (ad (.T k)) (.list (S.ct k ++ [v]))) F gr ad { S with ct := fun k' => if k' = k then S.ct k ++ [v] else S.ct k' } :=
 ⟨h.mem.set (l := .T k) (c := .list (S.ct k)) (c' := .list (S.ct k ++ [v])) (if_pos hk) rfl fun l c e => by
  induction l <;> first | exact .inr ⟨fun q => Lb.noConfusion q, e⟩ | skip
  rename_i k'
  by_cases q : k' = k
  ·rw [q] at e ⊢; exact .inl ⟨rfl, (Option.some.inj (((if_pos hk).trans (congrArg (fun x => some (C.list x)) (if_pos rfl))).symm.trans e)).symm⟩
  ·exact .inr ⟨fun z => q (Lb.T.inj z), by simpa only [gmem, if_neg q] using e⟩, h.tab, h.gri, h.at_⟩
theorem Gm.appN (h : Gm μ F gr ad S) (hk : k ∈ S.kn) : Gm (upd μ (ad (.N k)) (.list (S.cn k ++ [v]))) F gr ad { S with cn := fun k' => if k' = k then S.cn k ++ [v] else S.cn k' } :=
 ⟨h.mem.set (l := .N k) (c := .list (S.cn k)) (c' := .list (S.cn k ++ [v])) (if_pos hk) rfl fun l c e => by
  induction l <;> first | exact .inr ⟨fun q => Lb.noConfusion q, e⟩ | skip
  rename_i k'
  by_cases q : k' = k
  ·rw [q] at e ⊢; exact .inl ⟨rfl, (Option.some.inj (((if_pos hk).trans (congrArg (fun x => some (C.list x)) (if_pos rfl))).symm.trans e)).symm⟩
  ·exact .inr ⟨fun z => q (Lb.N.inj z), by simpa only [gmem, if_neg q] using e⟩, h.tab, h.gri, h.at_⟩
theorem Gm.appB (h : Gm μ F gr ad S) (hk : k ∈ S.kb) : Gm (upd μ (ad (.B k)) (.list (S.cb k ++ [v]))) F gr ad { S with cb := fun k' => if k' = k then S.cb k ++ [v] else S.cb k' } :=
 ⟨h.mem.set (l := .B k) (c := .list (S.cb k)) (c' := .list (S.cb k ++ [v])) (if_pos hk) rfl fun l c e => by
  induction l <;> first | exact .inr ⟨fun q => Lb.noConfusion q, e⟩ | skip
  rename_i k'
  by_cases q : k' = k
  ·rw [q] at e ⊢; exact .inl ⟨rfl, (Option.some.inj (((if_pos hk).trans (congrArg (fun x => some (C.list x)) (if_pos rfl))).symm.trans e)).symm⟩
  ·exact .inr ⟨fun z => q (Lb.B.inj z), by simpa only [gmem, if_neg q] using e⟩, h.tab, h.gri, h.at_⟩
theorem tabOf_new {ks : List Str} {f : Str → Addr} (h : k ∉ ks) : dput (tabOf ks f) k (.ref a) = tabOf (ks ++ [k]) fun k' => if k' = k then a else f k' := by
 unfold tabOf
 rw [dput_new h]
 congr 1
 funext k'; by_cases q : k' = k <;> simp [q]
theorem tabT {ks : List Str} {ad : Lb → Addr} {k : Str} {a : Addr} (h : k ∉ ks) : tabOf (ks ++ [k]) (fun k' => if Lb.T k' = Lb.T k then a else ad (.T k')) = dput (tabOf ks fun k => ad (.T k)) k (.ref a) := by
 rw [tabOf_new h]; congr 1; funext k'
 by_cases q : k' = k
 ·rw [q, if_pos rfl, if_pos rfl]
 ·rw [if_neg q, if_neg fun z => q (Lb.T.inj z)]
theorem tabN {ks : List Str} {ad : Lb → Addr} {k : Str} {a : Addr} (h : k ∉ ks) : tabOf (ks ++ [k]) (fun k' => if Lb.N k' = Lb.N k then a else ad (.N k')) = dput (tabOf ks fun k => ad (.N k)) k (.ref a) := by
 rw [tabOf_new h]; congr 1; funext k'
 by_cases q : k' = k
 ·rw [q, if_pos rfl, if_pos rfl]
 ·rw [if_neg q, if_neg fun z => q (Lb.N.inj z)]
theorem tabB {ks : List Str} {ad : Lb → Addr} {k : Str} {a : Addr} (h : k ∉ ks) : tabOf (ks ++ [k]) (fun k' => if Lb.B k' = Lb.B k then a else ad (.B k')) = dput (tabOf ks fun k => ad (.B k)) k (.ref a) := by
 rw [tabOf_new h]; congr 1; funext k'
 by_cases q : k' = k
 ·rw [q, if_pos rfl, if_pos rfl]
 ·rw [if_neg q, if_neg fun z => q (Lb.B.inj z)]
theorem Gm.newT (h : Gm μ F gr ad S) {xs : List V} {ep : Nat} (hk : k ∉ S.kt) (ha : μ a = none) : Gm (upd (upd μ a (.list xs)) (ad .t) (.dict (dput (tabOf S.kt fun k => ad (.T k)) k (.ref a)) ep)) F gr (fun l => if l = .T k then a else ad l) { S with kt := S.kt ++ [k], ct := fun k' => if k' = k then xs else S.ct k' } := by
 refine ⟨h.mem.newSet (l := .T k) (l2 := .t) (c := .list xs) (c3 := .dict (tabOf S.kt fun k => ad (.T k))) (c2 := .dict (dput (tabOf S.kt fun k => ad (.T k)) k (.ref a))) (if_neg hk) ha rfl rfl ⟨ep, rfl⟩ fun l c e => ?_, h.tab, h.gri, ⟨h.at_.P, h.at_.pn, h.at_.pm, h.at_.t, h.at_.nt, h.at_.pr, h.at_.up, h.at_.len, h.at_.no⟩⟩
 induction l <;> first | exact .inr (.inr ⟨fun q => Lb.noConfusion q, fun q => Lb.noConfusion q, e⟩) | exact .inr (.inl ⟨rfl, (Option.some.inj e).symm.trans (congrArg C.dict (tabT hk))⟩) | skip
 rename_i k'
 by_cases q : k' = k
 ·rw [q] at e ⊢; exact .inl ⟨rfl, (Option.some.inj (((if_pos (List.mem_append_right _ (.head _))).trans (congrArg (fun x => some (C.list x)) (if_pos rfl))).symm.trans e)).symm⟩
 ·refine .inr (.inr ⟨fun z => q (Lb.T.inj z), fun z => Lb.noConfusion z, ?_⟩)
  simpa only [gmem, List.mem_append, List.mem_singleton, q, or_false, if_false] using e
theorem Gm.newN (h : Gm μ F gr ad S) {xs : List V} {ep : Nat} (hk : k ∉ S.kn) (ha : μ a = none) : Gm (upd (upd μ a (.list xs)) (ad .nt) (.dict (dput (tabOf S.kn fun k => ad (.N k)) k (.ref a)) ep)) F gr (fun l => if l = .N k then a else ad l) { S with kn := S.kn ++ [k], cn := fun k' => if k' = k then xs else S.cn k' } := by
 refine ⟨h.mem.newSet (l := .N k) (l2 := .nt) (c := .list xs) (c3 := .dict (tabOf S.kn fun k => ad (.N k))) (c2 := .dict (dput (tabOf S.kn fun k => ad (.N k)) k (.ref a))) (if_neg hk) ha rfl rfl ⟨ep, rfl⟩ fun l c e => ?_, h.tab, h.gri, ⟨h.at_.P, h.at_.pn, h.at_.pm, h.at_.t, h.at_.nt, h.at_.pr, h.at_.up, h.at_.len, h.at_.no⟩⟩
 induction l <;> first | exact .inr (.inr ⟨fun q => Lb.noConfusion q, fun q => Lb.noConfusion q, e⟩) | exact .inr (.inl ⟨rfl, (Option.some.inj e).symm.trans (congrArg C.dict (tabN hk))⟩) | skip
 rename_i k'
 by_cases q : k' = k
 ·rw [q] at e ⊢; exact .inl ⟨rfl, (Option.some.inj (((if_pos (List.mem_append_right _ (.head _))).trans (congrArg (fun x => some (C.list x)) (if_pos rfl))).symm.trans e)).symm⟩
 ·refine .inr (.inr ⟨fun z => q (Lb.N.inj z), fun z => Lb.noConfusion z, ?_⟩)
  simpa only [gmem, List.mem_append, List.mem_singleton, q, or_false, if_false] using e
theorem Gm.newB (h : Gm μ F gr ad S) {xs : List V} {ep : Nat} (hk : k ∉ S.kb) (ha : μ a = none) : Gm (upd (upd μ a (.list xs)) (ad .pn) (.dict (dput (tabOf S.kb fun k => ad (.B k)) k (.ref a)) ep)) F gr (fun l => if l = .B k then a else ad l) { S with kb := S.kb ++ [k], cb := fun k' => if k' = k then xs else S.cb k' } := by
 refine ⟨h.mem.newSet (l := .B k) (l2 := .pn) (c := .list xs) (c3 := .dict (tabOf S.kb fun k => ad (.B k))) (c2 := .dict (dput (tabOf S.kb fun k => ad (.B k)) k (.ref a))) (if_neg hk) ha rfl rfl ⟨ep, rfl⟩ fun l c e => ?_, h.tab, h.gri, ⟨h.at_.P, h.at_.pn, h.at_.pm, h.at_.t, h.at_.nt, h.at_.pr, h.at_.up, h.at_.len, h.at_.no⟩⟩
 induction l <;> first | exact .inr (.inr ⟨fun q => Lb.noConfusion q, fun q => Lb.noConfusion q, e⟩) | exact .inr (.inl ⟨rfl, (Option.some.inj e).symm.trans (congrArg C.dict (tabB hk))⟩) | skip
 rename_i k'
 by_cases q : k' = k
 ·rw [q] at e ⊢; exact .inl ⟨rfl, (Option.some.inj (((if_pos (List.mem_append_right _ (.head _))).trans (congrArg (fun x => some (C.list x)) (if_pos rfl))).symm.trans e)).symm⟩
 ·refine .inr (.inr ⟨fun z => q (Lb.B.inj z), fun z => Lb.noConfusion z, ?_⟩)
  simpa only [gmem, List.mem_append, List.mem_singleton, q, or_false, if_false] using e
noncomputable def cut (μ : Addr → Option O) : Addr → Option O := fun a => if a = 45 then none else μ a
theorem cut_none : cut μ 45 = none := if_pos rfl
theorem cut_le : Le (cut μ) μ := fun a o e => by
 unfold cut at e
 split at e
 ·k_call_by "c" e
 ·exact e
theorem cut_get (h : a ≠ 45) (e : μ a = some o) : cut μ a = some o := (if_neg h).trans e
theorem Gm.made (h : Gm μ F gr ad S) (k : Le (cut μ) μ') (ht : ∃ b, μ' 45 = some (.tab b)) : Gm μ' F gr ad S := by
 have h45 : F 45 = none := h.tab ▸ h.mem.off .tab _ rfl
 refine ⟨⟨fun a o e => k a o (cut_get (by rintro rfl; rw [h45] at e; k_call_by "c" e) (h.mem.le a o e)), fun l c e => ?_, h.mem.inj, h.mem.off⟩, h.tab, h.gri, h.at_⟩
 refine exG1_2 (h.mem.is l c e) fun o h1 h2 => ?_
 by_cases q : l = .tab
 ·subst q
  refine exG1_1 ht fun b hb => ?_
  rw [h.tab]
  k_call_by "c" e
  exact ⟨_, hb, b, rfl⟩
 ·exact ⟨o, k _ _ (cut_get (fun z => q (h.mem.inj l .tab c _ e rfl (z.trans h.tab.symm))) h1), h2⟩
theorem Gm.frz (h : Gm μ F gr ad S) (k0 : Le F F') (k : Le F' μ) (n : ∀ a o, F' a = some o → F a = some o ∨ ∀ l c, gmem ad S l = some c → ad l ≠ a) : Gm μ F' gr ad S := ⟨h.mem.frz k n, h.tab, k0 _ _ h.gri, h.at_⟩
end
end Kk
end
section
set_option maxHeartbeats 1000000
namespace Kk
variable {α β γ δ : Type}
theorem seqIndex_nat {i n : Nat} (h : i < n) : seqIndex? (i : Int) n = some i := by
 unfold seqIndex?
 simp only
 split <;> simp_all <;> omega
theorem dget_tab {ks : List Str} {f : Str → Addr} {y : Str} : dget (tabOf ks f) y = if y ∈ ks then some (.ref (f y)) else none := dget_keys
theorem dget_tab_some {ks : List Str} {f : Str → Addr} {y : Str} : (dget (tabOf ks f) y).isSome = decide (y ∈ ks) := dget_keys_some
theorem tabOf_len {ks : List Str} {f : Str → Addr} : (tabOf ks f).length = ks.length := by simp [tabOf]
section
variable {X : Ex → St → Prop} {st : St} {Q : V → St → Prop}
theorem wk_sub {i j : Int} (h : Q (.int (i - j)) st) : binM .Sub (.int i) (.int j) Q X st := .subI h
theorem wk_addI {i j : Int} (h : Q (.int (i + j)) st) : binM .Add (.int i) (.int j) Q X st := .addI h
theorem wk_addL {a b : Addr} {xs ys : List V} (h1 : st.μ a = some (.list xs)) (h2 : st.μ b = some (.list ys)) (h3 : xs.length ≤ 1000) (h4 : ys.length ≤ 1000) (h : ∀ a, st.μ a = none → Q (.ref a) (st.put a (.list (xs ++ ys)))) : binM .Add (.ref a) (.ref b) Q X st := .addL h1 h2 h3 h4 h
theorem wk_addT {a b : Addr} {xs ys : List V} (h1 : st.μ a = some (.tup xs)) (h2 : st.μ b = some (.tup ys)) (h3 : xs.length ≤ 1000) (h4 : ys.length ≤ 1000) (h5 : xs ≠ []) (h6 : ys ≠ []) (h : ∀ a, st.μ a = none → Q (.ref a) (st.put a (.tup (xs ++ ys)))) : binM .Add (.ref a) (.ref b) Q X st := .addT h1 h2 h3 h4 h5 h6 h
theorem wk_get {a : Addr} {k : Str} {es : List (Str × V)} {ep : Nat} (h1 : st.μ a = some (.dict es ep)) (h : Q ((dget es k).getD .none) st) : getM2 [.ref a, .str k] Q X st := .one h1 h
theorem wk_get2N {a : Addr} {d : V} {es : List (Str × V)} {ep : Nat} (h1 : st.μ a = some (.dict es ep)) (h : Q d st) : getM2 [.ref a, .none, d] Q X st := .no h1 h
end
local macro_rules | `(tactic| walk_at "w1") => `(tactic| with_reducible first | apply wk_whT | apply wk_whF)
variable {g : Gx} {X : Ex → St → Prop} {Q : V → St → Prop} {st : St}
noncomputable def rmost (kt ys : List Str) : V := match ys.reverse.find? fun s => decide (s ∈ kt) with | some s => .str s | none => .none
theorem sp_rightmost {n : Nat} {m : Mine g} {y t : Addr} {ys kt : List Str} {f : Str → Addr} {ep : Nat} (h1 : st.μ y = some (.list (ys.map .str))) (h2 : st.μ t = some (.dict (tabOf kt f) ep)) (hl : ys.length ≤ 100) (h : Q (rmost kt ys) ⟨st.σ, st.μ⟩) :
  fnM ["symbols", "terminals"] (([] : List (Str × Value)).map fun p => (p.1, er p.2)) 2 (r_rightmost (n := n) m).1 [.ref y, .ref t] Q X st := by
 refine wk_en2 (a1 := "symbols") (v1 := (V.ref y : V)) (a2 := "terminals") (v2 := (V.ref t : V)) rfl (by kernel_rfl) (by kernel_rfl) fun σ s_symbols s_terminals => ?_
 unfold r_rightmost; dsimp only
 have hl2 : (ys.map V.str).length ≤ 100000 := by simp; omega
 have hl3 : (ys.map V.str).length ≤ 1000 := by simp; omega
 walk_at "w"
 refine wk_sub ?_
 walk_at "w"
 refine wk_while (fun k st' => st'.σ "symbols" = some (.ref y) ∧ st'.σ "terminals" = some (.ref t) ∧ st'.σ "i" = some (.int ((k : Int) - 1)) ∧ st'.μ = st.μ ∧ k ≤ ys.length ∧ (ys.reverse.find? fun s => decide (s ∈ kt)) = ((ys.take k).reverse.find? fun s => decide (s ∈ kt))) ?_ ?_
 ·intro k st1 K q0q hK
  refine exG0_6 q0q fun v1 v2 v3 v4 v5 v6 => ?_
  have e1 : st1.μ y = some (.list (ys.map .str)) := by rw [v4]; exact h1
  have e2 : st1.μ t = some (.dict (tabOf kt f) ep) := by rw [v4]; exact h2
  walk_at "w"
  refine wk_whS (fun hb => ?_) (fun hb => ?_)
  ·have hk : 1 ≤ k := by simp at hb; omega
   obtain ⟨j, rfl⟩ : ∃ j, k = j + 1 := ⟨k - 1, by omega⟩
   have hj : j < ys.length := v5
   have ej : ((j + 1 : Nat) : Int) - 1 = (j : Int) := by omega
   rw [ej] at v3
   have hgj : (ys.map V.str)[j]? = some (.str ys[j]) := by simp [hj]
   have htk : (ys.take (j + 1)).reverse = ys[j] :: (ys.take j).reverse := by
    rw [List.take_succ_eq_append_getElem hj]; simp
   walk_at "w"
   refine wk_idxL (u := .str ys[j]) (by walk_at "mu") hl3 (seqIndex_nat (by simpa using hj)) hgj ?_
   walk_at "w"
   rw [dget_tab_some]
   refine wk_split (fun hc => ?_) (fun hc => ?_)
   ·walk_at "w"
    refine wk_idxL (u := .str ys[j]) (by walk_at "mu") hl3 (seqIndex_nat (by simpa using hj)) hgj ?_
    walk_at "w"
    rw [v4]
    have : rmost kt ys = .str ys[j] := by
     unfold rmost
     rw [v6, htk, List.find?_cons_of_pos (by simpa using hc)]
    rw [this] at h; exact h
   ·walk_at "w"
    refine wk_isub ?_
    walk_at "w"
    refine hK j _ (Nat.lt_succ_self _) ⟨by walk_at "sg", by walk_at "sg", by walk_at "sg", v4, by omega, ?_⟩
    rw [v6, htk, List.find?_cons_of_neg (by simpa using hc)]
  ·have hk : k = 0 := by simp at hb; omega
   subst hk
   walk_at "w"
   rw [v4]
   have : rmost kt ys = .none := by
    unfold rmost
    rw [v6]; simp
   rw [this] at h; exact h
 ·refine ⟨ys.length, by walk_at "sg", by walk_at "sg", ?_, rfl, Nat.le_refl _, by rw [List.take_length]⟩
  rw [sig_same]; simp
theorem sp_Prod {n : Nat} {m : Mine g} {l : Addr} {num : Int} {nm : Str} {sy : List Str} {pv fv fi lv : V} (hl : st.μ l = some (.list (sy.map .str))) (hT : ∃ b, st.μ 45 = some (.tab b)) (hsl : sy.length ≤ 4) (hok : ∀ y ∈ sy, PyData.strOk y = true) (hyl : ∀ y ∈ sy, y.length ≤ 1000)
  (h : ∀ x μ' F', Le (cut st.μ) μ' → (∃ b, μ' 45 = some (.tab b)) → Le F' μ' → (∀ a o, F' a = some o → st.μ a = none) → ProdAt F' (.ref x) ⟨num, nm, sy⟩ → Q (.ref x) ⟨st.σ, μ'⟩) :
  makeM 81 (fnM ["self", "number", "name", "prod", "precedence", "func", "file", "line"] (([] : List (Str × Value)).map fun p => (p.1, er p.2)) 8 (r_init_P (n := n) m).1) [.int num, .str nm, .ref l, pv, fv, fi, lv] Q X st := by
 intro d x hd hx hdx
 revert hT; refine fun oO => exG1_1 oO fun b hT => ?_
 have hx45 : x ≠ 45 := by rintro rfl; rw [hT] at hx; k_call_by "c" hx
 have hd45 : d ≠ 45 := by rintro rfl; rw [hT] at hd; k_call_by "c" hd
 have hx' : (st.put d (.dict [] 0)).μ x = none := u_none (Ne.symm hdx) hx
 refine wk_en8 (a1 := "self") (v1 := (V.ref x : V)) (a2 := "number") (v2 := (V.int num : V)) (a3 := "name") (v3 := (V.str nm : V)) (a4 := "prod") (v4 := (V.ref l : V)) (a5 := "precedence") (v5 := (pv : V)) (a6 := "func") (v6 := (fv : V)) (a7 := "file") (v7 := (fi : V)) (a8 := "line") (v8 := (lv : V)) rfl (by kernel_rfl) (by kernel_rfl) (by kernel_rfl) (by kernel_rfl) (by kernel_rfl) (by kernel_rfl) (by kernel_rfl) (by kernel_rfl) fun σ s_self s_number s_name s_prod s_precedence s_func s_file s_line => ?_
 refine sp_init_P (F0 := cut st.μ) (x := x) (d := d) (l := l) (num := num) (nm := nm) (sy := sy) (cut_le.trans (Le.put_new hx' (Le.put_new hd Le.refl))) cut_none (cut_le.noneOf hx) (cut_le.noneOf hd) hdx put_same (put_ne hdx put_same) (put_old hx' (put_old hd hl)) ⟨b, put_old hx' (put_old hd hT)⟩ hsl hok hyl s_self s_number s_name s_prod s_precedence s_func s_file s_line ?_
 intro st' t k1 k2 k3 k4 q0q ht
 refine exG2_4 q0q fun es ep k5 k6 k7 k8 => ?_
 have ht0 : st.μ t = none := (Le.put_new hx' (Le.put_new hd Le.refl) : Le st.μ _).noneOf ht
 have htx : x ≠ t := ne_none (μ := ((st.put d (.dict [] 0)).put x (.inst 81 d)).μ) put_same ht
 have htd : d ≠ t := ne_none (μ := ((st.put d (.dict [] 0)).put x (.inst 81 d)).μ) (put_ne hdx put_same) ht
 refine ⟨rfl, h x _ (upd (upd (upd (fun _ => none) t (.tup (sy.map .str))) d (.dict es ep)) x (.inst 81 d)) k1 k2 ?_ ?_ ?_⟩
 ·intro a o e
  unfold upd at e
  split at e
  ·k_call_by "c" e; subst_vars; exact k3
  ·split at e
   ·k_call_by "c" e; subst_vars; exact k5
   ·split at e
    ·k_call_by "c" e; subst_vars; exact k4
    ·k_call_by "c" e
 ·intro a o e
  unfold upd at e
  split at e
  ·subst_vars; exact hx
  ·split at e
   ·subst_vars; exact hd
   ·split at e
    ·subst_vars; exact ht0
    ·k_call_by "c" e
 ·exact ⟨x, d, es, ep, t, rfl, u_same, u_ne hdx u_same, k6, k7, k8, u_ne (Ne.symm htx) (u_ne (Ne.symm htd) u_same)⟩
end Kk
end
section
set_option maxHeartbeats 1000000
namespace Kk
variable {α β γ δ : Type}
section
variable {g : Gx} {X : Ex → St → Prop} {st : St} {Q : Fl → St → Prop} {F0 : Addr → Option O} {x d l : Addr} {es : List (Str × V)} {M : Lb → Option C} {ad : Lb → Addr}
structure IG (F0 : Addr → Option O) (x d l : Addr) (st : St) (es : List (Str × V)) (M : Lb → Option C) (ad : Lb → Addr) : Prop where
 s1 : st.σ "self" = some (.ref x)
 s2 : st.σ "terminals" = some (.ref l)
 ix : st.μ x = some (.inst 227 d)
 ad_ : ad .d = d
 mem : Mem st.μ F0 ad M
 md : M .d = some (.dict es)
theorem IG.dict (h : IG F0 x d l st es M ad) : ∃ ep, st.μ d = some (.dict es ep) := by
 obtain ⟨o, a, ep, rfl⟩ := h.mem.is .d _ h.md; rw [h.ad_] at a; exact ⟨ep, a⟩
theorem IG.put {a : Addr} {o : O} {c : C} {lab : Lb} {nm : Str} {ep : Nat} (h : IG F0 x d l st es M ad) (ha : st.μ a = none) (hl : M lab = none) (ho : OIs o c) :
  IG F0 x d l ((st.put a o).put d (.dict (dput es nm (.ref a)) ep)) (dput es nm (.ref a)) (fun l' => if l' = .d then some (.dict (dput es nm (.ref a))) else if l' = lab then some c else M l') (fun l' => if l' = lab then a else ad l') := by
 have hld : Lb.d ≠ lab := by rintro rfl; rw [h.md] at hl; k_call_by "c" hl
 have e : (if Lb.d = lab then a else ad .d) = d := by rw [if_neg hld, h.ad_]
 have m := (h.mem.new hl ha ho).put (l := .d) (c := .dict es) (c' := .dict (dput es nm (.ref a))) (o := .dict (dput es nm (.ref a)) ep) (by rw [if_neg hld, h.md]) ⟨ep, rfl⟩
 rw [e] at m
 refine ⟨h.s1, h.s2, ?_, e, m, if_pos rfl⟩
 refine exG1_1 h.dict fun ep' hd => ?_
 have hxd : x ≠ d := by rintro rfl; rw [h.ix] at hd; k_call_by "c" hd
 exact put_ne hxd (put_old ha h.ix)
theorem IG.put0 {a : Addr} {o : O} {nm : Str} {ep : Nat} (h : IG F0 x d l st es M ad) (ha : st.μ a = none) :
  IG F0 x d l ((st.put a o).put d (.dict (dput es nm (.ref a)) ep)) (dput es nm (.ref a)) (fun l' => if l' = .d then some (.dict (dput es nm (.ref a))) else M l') ad := by
 have m := (h.mem.grow (Le.refl.new ha : Le st.μ (upd st.μ a o))).put (l := .d) (c := .dict es) (c' := .dict (dput es nm (.ref a))) (o := .dict (dput es nm (.ref a)) ep) h.md ⟨ep, rfl⟩
 rw [h.ad_] at m
 refine ⟨h.s1, h.s2, ?_, h.ad_, m, if_pos rfl⟩
 refine exG1_1 h.dict fun ep' hd => ?_
 have hxd : x ≠ d := by rintro rfl; rw [h.ix] at hd; k_call_by "c" hd
 exact put_ne hxd (put_old ha h.ix)
theorem IG.dictP {nm : Str} {lab : Lb} (h : IG F0 x d l st es M ad) (hl : M lab = none) (he : es.length ≤ 1000)
  (k : ∀ st' a, IG F0 x d l st' (dput es nm (.ref a)) (fun l' => if l' = .d then some (.dict (dput es nm (.ref a))) else if l' = lab then some (.dict []) else M l') (fun l' => if l' = lab then a else ad l') → Q .next st') :
  mbind (fun Q x st => ∀ (a : Addr), st.μ a = none → ∀ (ep : Nat), Q (V.ref a) (st.put a (O.dict [] ep))) (fun v => mbind (locM "self") fun a => mbind (setAttrM 227 nm a v) fun x => mret Fl.next) Q X st := by
 refine wk_bind ?_
 intro a ha ep
 refine exG1_1 h.dict fun ep' hd => ?_
 refine wk_bind (wk_loc (v := .ref x) h.s1 (wk_bind (wk_setAttr (es := es) (ep := ep') (put_old ha h.ix) (put_old ha hd) he fun ep2 => ?_)))
 exact k _ a (h.put ha hl ⟨ep, rfl⟩)
theorem IG.dict0 {nm : Str} (h : IG F0 x d l st es M ad) (he : es.length ≤ 1000)
  (k : ∀ st' a, IG F0 x d l st' (dput es nm (.ref a)) (fun l' => if l' = .d then some (.dict (dput es nm (.ref a))) else M l') ad → Q .next st') :
  mbind (fun Q x st => ∀ (a : Addr), st.μ a = none → ∀ (ep : Nat), Q (V.ref a) (st.put a (O.dict [] ep))) (fun v => mbind (locM "self") fun a => mbind (setAttrM 227 nm a v) fun x => mret Fl.next) Q X st := by
 refine wk_bind ?_
 intro a ha ep
 refine exG1_1 h.dict fun ep' hd => ?_
 refine wk_bind (wk_loc (v := .ref x) h.s1 (wk_bind (wk_setAttr (es := es) (ep := ep') (put_old ha h.ix) (put_old ha hd) he fun ep2 => ?_)))
 exact k _ a (h.put0 ha)
theorem Le.upd_of {F μ : Addr → Option O} {a : Addr} {o : O} (h : Le F μ) (e : μ a = some o) : Le (upd F a o) μ := fun b p q => by
 unfold upd at q
 split at q
 ·k_call_by "c" q; subst_vars; exact e
 ·exact h b p q
theorem IG.fr (h : IG F0 x d l st es M ad) : Mem st.μ (upd F0 x (.inst 227 d)) ad M := by
 refine h.mem.frz (h.mem.le.upd_of h.ix) fun a o e => ?_
 unfold upd at e
 split at e
 ·subst_vars
  right
  intro l c hc hx
  refine exG1_2 (h.mem.is l c hc) fun o a1 a2 => ?_
  rw [hx, h.ix] at a1
  k_call_by "c" a1
  induction c <;> simp [OIs] at a2
 ·exact .inl e
noncomputable def rmem (ad : Lb → Addr) (es : List (Str × V)) (kt : List Str) : Lb → Option C
 | .tab => some .tab
 | .d => some (.dict es)
 | .P => some (.list [.none])
 | .pn => some (.dict [])
 | .pm => some (.dict [])
 | .t => some (.dict (tabOf kt fun k => ad (.T k)))
 | .T k => if k ∈ kt then some (.list []) else none
 | .nt => none
 | .pr => none
 | .up => none
 | .sy => none
 | .B _ => none
 | .N _ => none
theorem IG.newT {kt : List Str} {k : Str} {a : Addr} {ep : Nat} (h : IG F0 x d l st es (rmem ad es kt) ad) (hk : k ∉ kt) (ha : st.μ a = none) :
  IG F0 x d l ((st.put a (.list [])).put (ad .t) (.dict (dput (tabOf kt fun k => ad (.T k)) k (.ref a)) ep)) es (rmem (fun l => if l = .T k then a else ad l) es (kt ++ [k])) (fun l => if l = .T k then a else ad l) := by
 refine ⟨h.s1, h.s2, ?_, h.ad_, h.mem.newSet (l := .T k) (l2 := .t) (c := .list []) (c3 := .dict (tabOf kt fun k => ad (.T k))) (c2 := .dict (dput (tabOf kt fun k => ad (.T k)) k (.ref a))) (if_neg hk) ha rfl rfl ⟨ep, rfl⟩ fun l c e => ?_, rfl⟩
 ·refine exG1_2 (h.mem.is .t _ rfl) fun o q r1 => ?_
  refine exG1_1 r1 fun ep' r2 => ?_
  obtain rfl := r2
  have hxt : x ≠ ad .t := by intro e; rw [← e, h.ix] at q; k_call_by "c" q
  exact put_ne hxt (put_old ha h.ix)
 ·induction l <;> first | exact .inr (.inr ⟨fun q => Lb.noConfusion q, fun q => Lb.noConfusion q, e⟩) | skip
  ·exact .inr (.inl ⟨rfl, (Option.some.inj e).symm.trans (congrArg C.dict (tabT hk))⟩)
  ·rename_i k'
   by_cases q : k' = k
   ·rw [q] at e ⊢; exact .inl ⟨rfl, (Option.some.inj ((if_pos (List.mem_append_right _ (.head _))).symm.trans e)).symm⟩
   ·refine .inr (.inr ⟨fun z => q (Lb.T.inj z), fun z => Lb.noConfusion z, ?_⟩)
    simpa only [rmem, List.mem_append, List.mem_singleton, q, or_false] using e
theorem IG.drop {M' : Lb → Option C} (h : IG F0 x d l st es M ad) (k : ∀ l c, M' l = some c → M l = some c) (hd : M' .d = some (.dict es)) : IG F0 x d l st es M' ad := ⟨h.s1, h.s2, h.ix, h.ad_, h.mem.drop k, hd⟩
theorem IG.putV {v : V} {nm : Str} {ep : Nat} (h : IG F0 x d l st es M ad) : IG F0 x d l (st.put d (.dict (dput es nm v) ep)) (dput es nm v) (fun l' => if l' = .d then some (.dict (dput es nm v)) else M l') ad := by
 have m := h.mem.put (l := .d) (c := .dict es) (c' := .dict (dput es nm v)) (o := .dict (dput es nm v) ep) h.md ⟨ep, rfl⟩
 rw [h.ad_] at m
 refine ⟨h.s1, h.s2, ?_, h.ad_, m, if_pos rfl⟩
 refine exG1_1 h.dict fun ep' hd => ?_
 have hxd : x ≠ d := by rintro rfl; rw [h.ix] at hd; k_call_by "c" hd
 exact put_ne hxd h.ix
theorem IG.set {y : Str} {v : V} (h : IG F0 x d l st es M ad) (h1 : ("self" : Str) ≠ y) (h2 : ("terminals" : Str) ≠ y) : IG F0 x d l (st.set y v) es M ad := ⟨sig_ne h1 h.s1, sig_ne h2 h.s2, h.ix, h.ad_, h.mem, h.md⟩
noncomputable def S0 (es : List (Str × V)) : GS := ⟨es, [.none], [], fun _ => [], [], ["A", "B", "C", "error"], fun _ => [], [], fun _ => [], [], [], none⟩
noncomputable def xmem (ex : Lb → Bool) (ad : Lb → Addr) (es : List (Str × V)) : Lb → Option C := fun l => if ex l = true then gmem ad (S0 es) l else none
theorem IG.x0 {kt : List Str} (h : IG F0 x d l st es (rmem ad es kt) ad) (hk : kt = (["A", "B", "C", "error"] : List Str)) (hP : ad .P = ad .P) : IG F0 x d l st es (xmem (fun l => match l with | .nt | .pr | .up => false | _ => true) ad es) ad :=
 h.drop (fun l c e => by subst hk; induction l <;> simp [xmem, gmem, S0] at e <;> first | exact e | (simp [rmem, tabOf]; exact e) | skip
             ) rfl
theorem xmem_pos {ex : Lb → Bool} {l : Lb} (h : ex l = true) : xmem ex ad es l = gmem ad (S0 es) l := if_pos h
theorem xmem_get {ex : Lb → Bool} {l : Lb} {c : C} (e : xmem ex ad es l = some c) : ex l = true ∧ gmem ad (S0 es) l = some c := by
 unfold xmem at e
 split at e
 ·exact ⟨‹_›, e⟩
 ·k_call_by "c" e
theorem gS0 {ad ad' : Lb → Addr} {es es' : List (Str × V)} (hT : ∀ k, ad' (.T k) = ad (.T k)) {l : Lb} (hl : l ≠ .d) : gmem ad' (S0 es') l = gmem ad (S0 es) l := by
 induction l <;> first | rfl | exact absurd rfl hl | exact congrArg (fun f => some (C.dict (tabOf _ f))) (funext hT)
theorem IG.xg {lab : Lb} {c : C} {ex : Lb → Bool} {es' : List (Str × V)} {a : Addr} (h : IG F0 x d l st es' (fun l' => if l' = .d then some (.dict es') else if l' = lab then some c else xmem ex ad es l') (fun l' => if l' = lab then a else ad l')) (hd : ex .d = true)
  (hT : ∀ k, lab ≠ .T k) (hc : gmem (fun l' => if l' = lab then a else ad l') (S0 es') lab = some c) :
  IG F0 x d l st es' (xmem (fun l => decide (l = lab) || ex l) (fun l' => if l' = lab then a else ad l') es') (fun l' => if l' = lab then a else ad l') := by
 refine h.drop (fun l c' e => ?_) ((xmem_pos (by simp only [hd, Bool.or_true])).trans rfl)
 refine exG0_2 (xmem_get e) fun p e => ?_
 by_cases q : l = .d
 ·rw [q] at e ⊢; exact (if_pos rfl).trans e
 ·rw [if_neg q]
  by_cases q2 : l = lab
  ·rw [if_pos q2]; rw [q2, hc] at e; exact e
  ·rw [if_neg q2]
   rw [gS0 (ad := ad) (es := es) (fun k => if_neg fun z => hT k z.symm) q] at e
   exact (xmem_pos (by simpa only [q2, decide_false, Bool.false_or] using p)).trans e
theorem IG.xnt {ex : Lb → Bool} {es' : List (Str × V)} {a : Addr} (h : IG F0 x d l st es' (fun l' => if l' = .d then some (.dict es') else if l' = .nt then some (.dict []) else xmem ex ad es l') (fun l' => if l' = .nt then a else ad l')) (hd : ex .d = true) :
  IG F0 x d l st es' (xmem (fun l => decide (l = .nt) || ex l) (fun l' => if l' = .nt then a else ad l') es') (fun l' => if l' = .nt then a else ad l') := h.xg hd (fun k q => Lb.noConfusion q) rfl
theorem IG.xpr {ex : Lb → Bool} {es' : List (Str × V)} {a : Addr} (h : IG F0 x d l st es' (fun l' => if l' = .d then some (.dict es') else if l' = .pr then some (.dict []) else xmem ex ad es l') (fun l' => if l' = .pr then a else ad l')) (hd : ex .d = true) :
  IG F0 x d l st es' (xmem (fun l => decide (l = .pr) || ex l) (fun l' => if l' = .pr then a else ad l') es') (fun l' => if l' = .pr then a else ad l') := h.xg hd (fun k q => Lb.noConfusion q) rfl
theorem IG.xup {ex : Lb → Bool} {es' : List (Str × V)} {a : Addr} (h : IG F0 x d l st es' (fun l' => if l' = .d then some (.dict es') else if l' = .up then some (.set []) else xmem ex ad es l') (fun l' => if l' = .up then a else ad l')) (hd : ex .d = true) :
  IG F0 x d l st es' (xmem (fun l => decide (l = .up) || ex l) (fun l' => if l' = .up then a else ad l') es') (fun l' => if l' = .up then a else ad l') := h.xg hd (fun k q => Lb.noConfusion q) rfl
theorem IG.xv {ex : Lb → Bool} {es' : List (Str × V)} (h : IG F0 x d l st es' (fun l' => if l' = .d then some (.dict es') else xmem ex ad es l') ad) (hd : ex .d = true) :
  IG F0 x d l st es' (xmem ex ad es') ad := by
 refine h.drop (fun l c' e => ?_) ((xmem_pos hd).trans rfl)
 refine exG0_2 (xmem_get e) fun p e => ?_
 by_cases q : l = .d
 ·rw [q] at e ⊢; exact (if_pos rfl).trans e
 ·rw [if_neg q]
  rw [gS0 (ad := ad) (es := es) (fun k => rfl) q] at e
  exact (xmem_pos p).trans e
theorem IG.toGm (h : IG F0 x d l st es M ad) (hd : ∀ l c, gmem ad (S0 es) l = some c → M l = some c) (ht : ad .tab = 45) (hA : Attrs ad es) : Gm st.μ (upd F0 x (.inst 227 d)) x ad (S0 es) :=
 ⟨h.fr.drop hd, ht, by rw [u_same, h.ad_], hA⟩
end
variable {g : Gx} {X : Ex → St → Prop} {Q : V → St → Prop} {st : St}
theorem sp_Grammar {n : Nat} {m : Mine g} {l : Addr} (hl : st.μ l = some (.list [.str "A", .str "B", .str "C"])) (hT : ∃ b, st.μ 45 = some (.tab b))
  (h : ∀ gr μ' F ad es, es.length ≤ 15 → Le (cut st.μ) F → Gm μ' F gr ad (S0 es) → Q (.ref gr) ⟨st.σ, μ'⟩) :
  makeM 227 (fnM ["self", "terminals"] (([] : List (Str × Value)).map fun p => (p.1, er p.2)) 2 (r_init_G (n := n) m).1) [.ref l] Q X st := by
 intro d x hd hx hdx
 revert hT; refine fun oO => exG1_1 oO fun b hT => ?_
 have hx' : (st.put d (.dict [] 0)).μ x = none := u_none (Ne.symm hdx) hx
 refine wk_en2 (a1 := "self") (v1 := (V.ref x : V)) (a2 := "terminals") (v2 := (V.ref l : V)) rfl (by kernel_rfl) (by kernel_rfl) fun σ s_self s_terminals => ?_
 have m0 : Mem st.μ (cut st.μ) (fun _ => 45) (fun l => if l = .tab then some .tab else none) := by
  refine ⟨cut_le, ?_, ?_, fun _ _ _ => cut_none⟩
  ·intro l c e
   split at e
   ·k_call_by "c" e; exact ⟨_, hT, b, rfl⟩
   ·k_call_by "c" e
  ·intro l l' c c' e e' _
   split at e
   ·split at e'
    ·subst_vars; rfl
    ·cases e'
   ·k_call_by "c" e
 have m1 := m0.new (l := .d) (c := .dict []) (o := .dict [] 0) rfl hd ⟨0, rfl⟩
 have m2 := m1.grow (Le.refl.new hx' : Le (upd st.μ d (.dict [] 0)) (upd (upd st.μ d (.dict [] 0)) x (.inst 227 d)))
 have hl2 : (upd (upd st.μ d (.dict [] 0)) x (.inst 227 d)) l = some (.list [.str "A", .str "B", .str "C"]) := u_old hx' (u_old hd hl)
 have G0 : IG (cut st.μ) x d l ⟨σ, upd (upd st.μ d (.dict [] 0)) x (.inst 227 d)⟩ [] _ _ := ⟨s_self, s_terminals, u_same, rfl, m2, rfl⟩
 have hF0x : cut st.μ x = none := cut_le.noneOf hx
 clear m0 m1 m2
 unfold r_init_G; dsimp only
 walk_at "w"
 refine wk_list (by simp) fun P hP => ?_
 refine exG1_1 G0.dict fun ep0 hd0 => ?_
 walk_at "w"
 rename_i ep1
 have hal : cut st.μ l = some (.list [.str "A", .str "B", .str "C"]) := cut_get (by rintro rfl; rw [hT] at hl; k_call_by "c" hl) hl
 have G1 : IG (cut st.μ) x d l _ _ _ _ := G0.put (a := P) (o := .list [.none]) (c := .list [.none]) (lab := .P) (nm := "Productions") (ep := ep1) hP rfl rfl
 refine IG.dictP (lab := .pn) G1 rfl (by walk_at "ln") fun st2 pn G2 => ?_
 walk_at "w"
 refine IG.dictP (lab := .pm) G2 rfl (by walk_at "ln") fun st3 pm G3 => ?_
 walk_at "w"
 refine IG.dictP (lab := .t) G3 rfl (by walk_at "ln") fun st4 t G4 => ?_
 have G5 := G4.drop (M' := rmem (fun l' => if l' = .t then t else if l' = .pm then pm else if l' = .pn then pn else if l' = .P then P else if l' = .d then d else 45) (dput (dput (dput (dput [] "Productions" (.ref P)) "Prodnames" (.ref pn)) "Prodmap" (.ref pm)) "Terminals" (.ref t)) []) (by
  intro l c e
  induction l <;> simp [rmem, tabOf] at e ⊢ <;> exact e) rfl
 have s_t := G5.s2
 have hl4 := G5.mem.le _ _ hal
 walk_at "w"
 refine loop_gen (its_list (xs := [.str "A", .str "B", .str "C"]) (by walk_at "mu")) (ys := (["A", "B", "C"] : List Str)) (G := fun l y => ∃ v, l = [v] ∧ v = .str y) (by exact ⟨⟨_, rfl, rfl⟩, ⟨_, rfl, rfl⟩, ⟨_, rfl, rfl⟩, trivial⟩) (fun pre st' => ∃ ad, IG (cut st.μ) x d l st' _ (rmem ad _ pre) ad ∧ (∀ lab, (∀ k, lab ≠ .T k) → ad lab = (fun l' => if l' = .t then t else if l' = .pm then pm else if l' = .pn then pn else if l' = .P then P else if l' = .d then d else 45) lab)) ⟨_, G5, fun _ _ => rfl⟩ ?_ ?_ ?_
 ·intro i st' hi q0q
  refine exG1_2 q0q fun ad k1 k2 => ?_
  exact cur_list (k1.mem.le _ _ hal)
 ·intro pre y post l' st' K hps q0q q1q hK
  refine exG1_2 q0q fun v r3 r4 => ?_
  obtain rfl := r3
  obtain rfl := r4
  refine exG1_2 q1q fun ad k1 k2 => ?_
  have hy : y ∉ pre := by
   have hn : (["A", "B", "C"] : List Str).Nodup := by decide +kernel
   rw [hps, List.nodup_append] at hn
   intro hm; exact hn.2.2 y hm y (by simp) rfl
  have hpl : pre.length ≤ 3 := preLe hps (by first | omega | (simp; done) | (simp; omega))
  have s_self := k1.s1
  refine exG1_1 k1.dict fun ep5 hd5 => ?_
  have ix := k1.ix
  have et : ad .t = t := k2 .t (by nofun)
  walk_at "w"
  refine wk_list (by simp) fun a ha => ?_
  walk_at "w"
  refine exG1_2 (k1.mem.is .t _ rfl) fun _ q r5 => ?_
  refine exG1_1 r5 fun ep6 r6 => ?_
  obtain rfl := r6
  rw [et] at q
  refine wk_itemD (by walk_at "mu") (by rw [tabOf_len]; omega) fun ep7 => ?_
  walk_at "w"
  have k3 := (k1.set (y := "term") (v := .str y) (by walk_at "nm") (by walk_at "nm")).newT (ep := ep7) hy ha
  rw [et] at k3
  refine hK _ ⟨_, k3, fun lab hlab => ?_⟩
  rw [if_neg (hlab y)]; exact k2 lab hlab
 intro st5 q0q
 refine exG1_2 q0q fun ad k1 k2 => ?_
 have s_self := k1.s1
 refine exG1_1 k1.dict fun ep5 hd5 => ?_
 have ix := k1.ix
 have et : ad .t = t := k2 .t (by nofun)
 walk_at "w"
 refine wk_list (by simp) fun a ha => ?_
 walk_at "w"
 refine exG1_2 (k1.mem.is .t _ rfl) fun _ q r7 => ?_
 refine exG1_1 r7 fun ep6 r8 => ?_
 obtain rfl := r8
 rw [et] at q
 refine wk_itemD (by walk_at "mu") (by rw [tabOf_len]; simp) fun ep7 => ?_
 walk_at "w"
 have k3 := k1.newT (k := "error") (ep := ep7) (by decide +kernel) ha
 rw [et] at k3
 have k4 : ∀ lab, (∀ k, lab ≠ .T k) → (fun l => if l = Lb.T "error" then a else ad l) lab = (fun l' => if l' = .t then t else if l' = .pm then pm else if l' = .pn then pn else if l' = .P then P else if l' = .d then d else 45) lab := fun lab hlab => by
  dsimp only; rw [if_neg (hlab _)]; exact k2 lab hlab
 generalize (fun l => if l = Lb.T "error" then a else ad l) = ad' at k3 k4
 have q1 : ad' .P = P := k4 .P nofun
 have q2 : ad' .pn = pn := k4 .pn nofun
 have q3 : ad' .pm = pm := k4 .pm nofun
 have q4 : ad' .t = t := k4 .t nofun
 have q5 : ad' .tab = 45 := k4 .tab nofun
 have f0 := k3.x0 rfl rfl
 have f1 : dget (dput (dput (dput (dput [] ("Productions" : Str) (V.ref P)) "Prodnames" (.ref pn)) "Prodmap" (.ref pm)) "Terminals" (.ref t)) "Productions" = some (.ref P) := by walk_at "dg"
 have f2 : dget (dput (dput (dput (dput [] ("Productions" : Str) (V.ref P)) "Prodnames" (.ref pn)) "Prodmap" (.ref pm)) "Terminals" (.ref t)) "Prodnames" = some (.ref pn) := by walk_at "dg"
 have f3 : dget (dput (dput (dput (dput [] ("Productions" : Str) (V.ref P)) "Prodnames" (.ref pn)) "Prodmap" (.ref pm)) "Terminals" (.ref t)) "Prodmap" = some (.ref pm) := by walk_at "dg"
 have f4 : dget (dput (dput (dput (dput [] ("Productions" : Str) (V.ref P)) "Prodnames" (.ref pn)) "Prodmap" (.ref pm)) "Terminals" (.ref t)) "Terminals" = some (.ref t) := by walk_at "dg"
 have f5 : (dput (dput (dput (dput [] ("Productions" : Str) (V.ref P)) "Prodnames" (.ref pn)) "Prodmap" (.ref pm)) "Terminals" (.ref t)).length ≤ 4 := by walk_at "ln"
 have f6 : ∀ x ∈ (["set_precedence", "add_production", "set_start", "find_unreachable", "infinite_cycles", "undefined_symbols", "unused_terminals", "unused_rules", "unused_precedence"] : List Str), dget (dput (dput (dput (dput [] ("Productions" : Str) (V.ref P)) "Prodnames" (.ref pn)) "Prodmap" (.ref pm)) "Terminals" (.ref t)) x = none := by
  intro y hy
  simp only [List.mem_cons, List.not_mem_nil, or_false] at hy
  rcases hy with rfl | rfl | rfl | rfl | rfl | rfl | rfl | rfl | rfl <;> walk_at "dg"
 clear k3 k1 G0 G1 G2 G3 G4 G5
 generalize (dput (dput (dput (dput [] ("Productions" : Str) (V.ref P)) "Prodnames" (.ref pn)) "Prodmap" (.ref pm)) "Terminals" (.ref t)) = es4 at f0 f1 f2 f3 f4 f5 f6
 refine IG.dictP (lab := .nt) f0 rfl (by omega) fun st6 nt G6 => ?_
 have G6' := G6.xnt rfl
 clear G6 f0
 walk_at "w"
 refine IG.dict0 G6' (by walk_at "ln") fun st7 fi G7 => ?_
 have G7' := G7.xv rfl
 clear G7 G6'
 walk_at "w"
 refine IG.dict0 G7' (by walk_at "ln") fun st8 fo G8 => ?_
 have G8' := G8.xv rfl
 clear G8 G7'
 walk_at "w"
 refine IG.dictP (lab := .pr) G8' rfl (by walk_at "ln") fun st9 pr G9 => ?_
 have G9' := G9.xpr rfl
 clear G9 G8'
 walk_at "w"
 refine ⟨rfl, fun up hup => ?_⟩
 have s_self := G9'.s1
 refine exG1_1 G9'.dict fun ep9 hd9 => ?_
 have ix9 := G9'.ix
 walk_at "w"
 rename_i ep10 ep11
 have G10 := (G9'.put (a := up) (o := .set []) (c := .set []) (lab := .up) (nm := "UsedPrecedence") (ep := ep10) hup rfl rfl).xup rfl
 have G11 := (G10.putV (nm := "Start") (v := .none) (ep := ep11)).xv rfl
 clear G9' G10
 refine ⟨rfl, h x _ _ _ _ ?_ (Le.refl.new hF0x) (G11.toGm ?_ ?_ ?_)⟩
 ·walk_at "ln"
 ·intro l' c e
  cases l' <;> first | exact e | (simp [gmem, S0] at e; done)
 ·simpa using q5
 ·refine ⟨?_, ?_, ?_, ?_, ?_, ?_, ?_, by walk_at "ln", ?_⟩
  ·simp only [reduceCtorEq, if_false, q1]; walk_at "dg"
  ·simp only [reduceCtorEq, if_false, q2]; walk_at "dg"
  ·simp only [reduceCtorEq, if_false, q3]; walk_at "dg"
  ·simp only [reduceCtorEq, if_false, q4]; walk_at "dg"
  ·simp only [reduceCtorEq, if_false, if_true]; walk_at "dg"
  ·simp only [reduceCtorEq, if_false, if_true]; walk_at "dg"
  ·simp only [reduceCtorEq, if_false, if_true]; walk_at "dg"
  ·intro y hy
   have hy0 := f6 y hy
   simp only [List.mem_cons, List.not_mem_nil, or_false] at hy
   rcases hy with rfl | rfl | rfl | rfl | rfl | rfl | rfl | rfl | rfl <;> walk_at "dg"
end Kk
end
section
set_option maxHeartbeats 1000000
namespace Kk
variable {α β γ δ : Type}
section
variable {μ μ' F F' : Addr → Option O} {gr : Addr} {ad : Lb → Addr} {S : GS} {k : Str} {o : O} {a : Addr} {v : V}
theorem Gm.apart (h : Gm μ F gr ad S) (ha : μ a = none) : ∀ l c, gmem ad S l = some c → ad l ≠ a := fun l c e z => by
 refine exG1_2 (h.mem.is l c e) fun o' h1 _ => ?_
 rw [z, ha] at h1; k_call_by "c" h1
theorem Gm.alloc (h : Gm μ F gr ad S) (ha : μ a = none) : Gm (upd μ a o) (upd F a o) gr ad S := by
 have hF := h.mem.le.noneOf ha
 refine (h.grow (Le.refl.new ha)).frz (Le.refl.new hF) (Le.ext h.mem.le ha) fun b p e => ?_
 unfold upd at e
 split at e
 ·subst_vars; exact .inr (h.apart ha)
 ·exact .inl e
noncomputable def un (F F' : Addr → Option O) : Addr → Option O := fun a => match F a with | some o => some o | none => F' a
theorem un_l : Le F (un F F') := fun a o e => by unfold un; rw [e]
theorem un_r (h : ∀ a o, F' a = some o → F a = none) : Le F' (un F F') := fun a o e => by unfold un; rw [h a o e]; exact e
theorem un_le (h : Le F μ) (k : Le F' μ) : Le (un F F') μ := fun a o e => by
 unfold un at e
 split at e
 ·rename_i q; k_call_by "c" e; exact h _ _ q
 ·exact k _ _ e
theorem un_or {b : Addr} {p : O} (e : un F F' b = some p) : F b = some p ∨ F' b = some p := by
 unfold un at e
 split at e
 ·rename_i q; k_call_by "c" e; exact .inl q
 ·exact .inr e
theorem Gm.prod (h : Gm μ F gr ad S) (k : Le (cut μ) μ') (ht : ∃ b, μ' 45 = some (.tab b)) (hF : Le F' μ') (hn : ∀ a o, F' a = some o → μ a = none) : Gm μ' (un F F') gr ad S ∧ Le F' (un F F') := by
 have h1 := h.made k ht
 refine ⟨h1.frz un_l (un_le h1.mem.le hF) fun a o e => ?_, un_r fun a o e => h.mem.le.noneOf (hn a o e)⟩
 rcases un_or e with e | e
 ·exact .inl e
 ·exact .inr (h.apart (hn a o e))
inductive GmAll (μ : Addr → Option O) (gr : Addr) (ad : Lb → Addr) (S : GS) : Prop
 | mk (i0 : μ gr = some (.inst 227 (ad .d))) (e0 : Nat) (i1 : μ (ad .d) = some (.dict S.es e0)) (i2 : μ (ad .P) = some (.list S.vs)) (e1 : Nat) (i3 : μ (ad .pn) = some (.dict (tabOf S.kb fun k => ad (.B k)) e1)) (e2 : Nat) (i4 : μ (ad .pm) = some (.dict S.pm e2))
  (e3 : Nat) (i5 : μ (ad .t) = some (.dict (tabOf S.kt fun k => ad (.T k)) e3)) (e4 : Nat) (i6 : μ (ad .nt) = some (.dict (tabOf S.kn fun k => ad (.N k)) e4)) (e5 : Nat) (i7 : μ (ad .pr) = some (.dict S.pr e5)) (i8 : μ (ad .up) = some (.set S.us))
theorem Gm.all (h : Gm μ F gr ad S) : GmAll μ gr ad S := by
 refine exG1_1 h.d fun e0 h0 => ?_
 refine exG1_1 h.pn fun e1 h1 => ?_
 refine exG1_1 h.pm fun e2 h2 => ?_
 refine exG1_1 h.t fun e3 h3 => ?_
 refine exG1_1 h.nt fun e4 h4 => ?_
 refine exG1_1 h.pr fun e5 h5 => ?_
 exact ⟨h.gr_, e0, h0, h.P, e1, h1, e2, h2, e3, h3, e4, h4, e5, h5, h.up⟩
end
section
variable {X : Ex → St → Prop} {st : St} {Q : Fl → St → Prop}
theorem wk_try {b h : M Fl} (k : b Q (fun k st' => match k with | .key => h Q (fun _ _ => False) st' | k => False) st) : tryKeyM b h Q X st := k
theorem wk_idxKey {a : Addr} {k : Str} {es : List (Str × V)} {ep : Nat} {Q : V → St → Prop} (h1 : st.μ a = some (.dict es ep)) (h2 : dget es k = none) (h : X .key st) : idxM (.ref a) (.str k) Q X st := .key h1 h2 h
end
variable {g : Gx} {X : Ex → St → Prop} {st : St}
theorem sp_set_precedence {Q : V → St → Prop} {n : Nat} {m : Mine g} {F : Addr → Option O} {gr : Addr} {ad : Lb → Addr} {S : GS} {term assoc : Str} {lv : Int} (hG : Gm st.μ F gr ad S) (hv : S.vs = [.none]) (ht : dget S.pr term = none) (hp : S.pr.length ≤ 10) (ha : assoc ∈ (["left", "right", "nonassoc"] : List Str))
  (h : ∀ μ' F' tp, Le F F' → F' tp = some (.tup [.str assoc, .int lv]) → Gm μ' F' gr ad { S with pr := dput S.pr term (.ref tp) } → Q .none ⟨st.σ, μ'⟩) :
  fnM ["self", "term", "assoc", "level"] (([] : List (Str × Value)).map fun p => (p.1, er p.2)) 4 (r_set_precedence (n := n) m).1 [.ref gr, .str term, .str assoc, .int lv] Q X st := by
 refine wk_en4 (a1 := "self") (v1 := (V.ref gr : V)) (a2 := "term") (v2 := (V.str term : V)) (a3 := "assoc") (v3 := (V.str assoc : V)) (a4 := "level") (v4 := (V.int lv : V)) rfl (by kernel_rfl) (by kernel_rfl) (by kernel_rfl) (by kernel_rfl) fun σ s_self s_term s_assoc s_level => ?_
 obtain ⟨A1, A2, A3, A4, A5, A6, A7, A8, A9⟩ := hG.at_
 obtain ⟨i0, e0, i1, i2, e1, i3, e2, i4, e3, i5, e4, i6, e5, i7, i8⟩ := hG.all
 unfold r_set_precedence; dsimp only
 walk_at "w"
 refine wk_list (by simp) fun l1 hl1 => ?_
 walk_at "w"
 refine wk_eqR (d := .list [.none]) (e := .list [.none]) (.list (xs := [.none]) (by rw [hv] at i2; walk_at "mu") (.cons .none .nil)) (.list (xs := [.none]) (by walk_at "mu") (.cons .none .nil)) ⟨rfl, by decide⟩ ⟨rfl, by decide⟩ ?_
 refine ⟨rfl, ?_⟩
 walk_at "w"
 rw [ht]
 refine wk_neg rfl ?_
 walk_at "w"
 refine wk_list (by simp) fun l2 hl2 => ?_
 walk_at "w"
 refine wk_ninL (ys := ["left", "right", "nonassoc"]) (by exact put_same) (by decide +kernel) ?_ ?_
 ·simp only [List.mem_cons, List.not_mem_nil, or_false] at ha
  rcases ha with rfl | rfl | rfl <;> decide +kernel
 refine wk_neg (by simp [ha]) ?_
 walk_at "w"
 refine wk_tup (by simp) fun tp htp => ?_
 have hG1 : Gm _ _ gr ad S := (((hG.grow (Le.refl.new hl1)).grow (Le.refl.new hl2)).alloc htp (o := .tup [.str assoc, .int lv]))
 walk_at "w"
 refine wk_itemD (es := S.pr) (ep := e5) (by walk_at "mu") (by omega) fun ep => ?_
 walk_at "w"
 exact h _ _ tp (Le.refl.new ((hG.grow (Le.refl.new hl1)).grow (Le.refl.new hl2) |>.mem.le.noneOf htp)) u_same hG1.setPr
end Kk
end
section
set_option maxHeartbeats 1000000
namespace Kk
variable {α β γ δ : Type}
theorem wk_join {p q rest : M Fl} {b : Bool} {Q : Fl → St → Prop} {X : Ex → St → Prop} {st : St} (J : St → Prop) (h : ∀ st', J st' → rest Q X st') (h1 : b = true → ∀ Q' : Fl → St → Prop, (∀ st', J st' → Q' .next st') → p Q' X st) (h2 : b = false → ∀ Q' : Fl → St → Prop, (∀ st', J st' → Q' .next st') → q Q' X st) :
  ifK p q (seqK rest Q X) X b st := by
 k_call_by "c" b
 ·exact h2 rfl _ h
 ·exact h1 rfl _ h
variable {g : Gx} {X : Ex → St → Prop} {st : St} {Q : Fl → St → Prop}
theorem sp_add_c9 {n : Nat} {m : Mine g} {F : Addr → Option O} {gr : Addr} {ad : Lb → Addr} {S : GS} {num : Int} {nm mp : Str} {sy : List Str} {pv fv fi lv : V} (hG : Gm st.μ F gr ad S) (hsy : S.sy = some (sy.map .str)) (hvl : S.vs.length ≤ 100) (hpl : S.pm.length ≤ 100) (hkl : S.kb.length ≤ 100) (hcl : ∀ k ∈ S.kb, (S.cb k).length ≤ 100)
  (hsl : sy.length ≤ 4) (hok : ∀ y ∈ sy, PyData.strOk y = true) (hyl : ∀ y ∈ sy, y.length ≤ 1000)
  (v1 : st.σ "self" = some (.ref gr)) (v2 : st.σ "prodname" = some (.str nm)) (v3 : st.σ "syms" = some (.ref (ad .sy))) (v4 : st.σ "prodprec" = some pv) (v5 : st.σ "func" = some fv) (v6 : st.σ "file" = some fi) (v7 : st.σ "line" = some lv) (v8 : st.σ "pnumber" = some (.int num)) (v9 : st.σ "map" = some (.str mp))
  (h : ∀ st' F' v ad' kb' cb', Le F F' → ProdAt F' v ⟨num, nm, sy⟩ → (nm ∈ S.kb → kb' = S.kb ∧ cb' = fun k => if k = nm then S.cb nm ++ [v] else S.cb k) → (nm ∉ S.kb → kb' = S.kb ++ [nm] ∧ cb' = fun k => if k = nm then [v] else S.cb k) →
   Gm st'.μ F' gr ad' { S with vs := S.vs ++ [v], pm := dput S.pm mp v, kb := kb', cb := cb' } → Q .next st') : (r_add_production_c9 (n := n) m).1 Q X st := by
 unfold r_add_production_c9; dsimp only
 obtain ⟨A1, A2, A3, A4, A5, A6, A7, A8, A9⟩ := hG.at_
 walk_at "w"
 refine sp_Prod (num := num) (nm := nm) (sy := sy) (hG.sy hsy) hG.tb hsl hok hyl fun x μ1 F1 k1 k2 k3 k4 k5 => ?_
 refine exG0_2 (hG.prod k1 k2 k3 k4) fun hG1 hF1 => ?_
 have hP := k5.le hF1
 have hFF : Le F (un F F1) := un_l
 generalize un F F1 = F2 at hG1 hF1 hP hFF
 obtain ⟨i0, e0, i1, i2, e1, i3, e2, i4, e3, i5, e4, i6, e5, i7, i8⟩ := hG1.all
 have hG2 : Gm (((⟨st.σ, μ1⟩ : St).set "p" (.ref x)).put (ad .P) (.list (S.vs ++ [.ref x]))).μ F2 gr ad { S with vs := S.vs ++ [.ref x] } := hG1.appP
 obtain ⟨j0, o0, j1, j2, o1, j3, o2, j4, o3, j5, o4, j6, o5, j7, j8⟩ := hG2.all
 walk_at "w"
 refine wk_itemD (by walk_at "mu") (by dsimp only; omega) fun ep => ?_
 have hG3 : Gm ((((⟨st.σ, μ1⟩ : St).set "p" (.ref x)).put (ad .P) (.list (S.vs ++ [.ref x]))).put (ad .pm) (.dict (dput S.pm mp (.ref x)) ep)).μ F2 gr ad { S with vs := S.vs ++ [.ref x], pm := dput S.pm mp (.ref x) } := hG2.setPM
 obtain ⟨l0, u0, l1, l2, u1, l3, u2, l4, u3, l5, u4, l6, u5, l7, l8⟩ := hG3.all
 walk_at "w"
 refine wk_try ?_
 walk_at "w"
 by_cases hk : nm ∈ S.kb
 ·have l9 := hG3.B hk
  have hcl' := hcl nm hk
  refine wk_idxD (u := .ref (ad (.B nm))) (by walk_at "mu") (by rw [dget_tab, if_pos hk]) ?_
  walk_at "w"
  exact h _ F2 (.ref x) ad _ _ hFF hP (fun _ => ⟨rfl, rfl⟩) (fun h => absurd hk h) (hG3.appB hk)
 ·refine wk_idxKey (by walk_at "mu") (by rw [dget_tab, if_neg hk]) ?_
  dsimp only
  walk_at "w"
  refine wk_list (by simp) fun a ha => ?_
  walk_at "w"
  refine wk_itemD (by walk_at "mu") (by rw [tabOf_len]; dsimp only; omega) fun ep2 => ?_
  walk_at "w"
  exact h _ F2 (.ref x) _ _ _ hFF hP (fun h => absurd h hk) (fun _ => ⟨rfl, rfl⟩) (hG3.newB hk ha)
noncomputable def ctAdd (kt : List Str) (ct : Str → List V) (v : V) (sy : List Str) : Str → List V := fun k => ct k ++ (sy.filter fun t => decide (t = k) && decide (t ∈ kt)).map fun _ => v
noncomputable def cnAdd (kt : List Str) (cn : Str → List V) (v : V) (sy : List Str) : Str → List V := fun k => cn k ++ (sy.filter fun t => decide (t = k) && !decide (t ∈ kt)).map fun _ => v
noncomputable def knStep (kt : List Str) (acc : List Str) (t : Str) : List Str := if t ∈ kt ∨ t ∈ acc then acc else acc ++ [t]
noncomputable def knAdd (kt kn sy : List Str) : List Str := sy.foldl (knStep kt) kn
theorem knAdd_app {kt kn pre : List Str} {y : Str} : knAdd kt kn (pre ++ [y]) = knStep kt (knAdd kt kn pre) y := by simp [knAdd]
theorem knAdd_len (kt sy kn : List Str) : (knAdd kt kn sy).length ≤ kn.length + sy.length := by
 unfold knAdd
 induction sy generalizing kn with
 | nil => simp
 | cons y r ih =>
  have := ih (knStep kt kn y)
  simp only [List.foldl_cons, List.length_cons]
  have h2 : (knStep kt kn y).length ≤ kn.length + 1 := by unfold knStep; split <;> simp
  omega
theorem knAdd_mem {kt sy kn : List Str} {k : Str} (h : k ∈ kn) : k ∈ knAdd kt kn sy := by
 unfold knAdd
 induction sy generalizing kn with
 | nil => exact h
 | cons y r ih =>
  rw [List.foldl_cons]
  refine ih ?_
  unfold knStep; split
  ·exact h
  ·simp [h]
theorem ctAdd_in {kt : List Str} {ct : Str → List V} {v : V} {pre : List Str} {y : Str} (h : y ∈ kt) : (fun k' => if k' = y then ctAdd kt ct v pre y ++ [v] else ctAdd kt ct v pre k') = ctAdd kt ct v (pre ++ [y]) := by
 funext k
 unfold ctAdd
 rw [List.filter_append, List.map_append]
 by_cases e : k = y
 ·subst e; simp [h]
 ·have e' : ¬ y = k := fun z => e z.symm
  simp [e, e']
theorem ctAdd_out {kt : List Str} {ct : Str → List V} {v : V} {pre : List Str} {y : Str} (h : y ∉ kt) : ctAdd kt ct v pre = ctAdd kt ct v (pre ++ [y]) := by
 funext k
 unfold ctAdd
 rw [List.filter_append, List.map_append]
 simp [h]
theorem cnAdd_out {kt : List Str} {cn : Str → List V} {v : V} {pre : List Str} {y : Str} (h : y ∉ kt) : (fun k' => if k' = y then cnAdd kt cn v pre y ++ [v] else cnAdd kt cn v pre k') = cnAdd kt cn v (pre ++ [y]) := by
 funext k
 unfold cnAdd
 rw [List.filter_append, List.map_append]
 by_cases e : k = y
 ·subst e; simp [h]
 ·have e' : ¬ y = k := fun z => e z.symm
  simp [e, e']
theorem cnAdd_in {kt : List Str} {cn : Str → List V} {v : V} {pre : List Str} {y : Str} (h : y ∈ kt) : cnAdd kt cn v pre = cnAdd kt cn v (pre ++ [y]) := by
 funext k
 unfold cnAdd
 rw [List.filter_append, List.map_append]
 simp [h]
theorem cnAdd_new {kt kn : List Str} {cn : Str → List V} {v : V} {pre : List Str} {y : Str} (h0 : ∀ k, k ∉ kn → cn k = []) (hy : y ∉ kt) (h : y ∉ knAdd kt kn pre) : cnAdd kt cn v pre y = [] := by
 unfold cnAdd
 have h1 : y ∉ kn := fun hm => h (knAdd_mem hm)
 have h2 : y ∉ pre := by
  intro hm
  apply h
  clear h h0
  unfold knAdd
  induction pre generalizing kn with
  | nil => k_call_by "c" hm
  | cons z r ih =>
   rw [List.foldl_cons]
   rcases List.mem_cons.mp hm with rfl | hm
   ·refine knAdd_mem ?_
    unfold knStep; split
    ·rename_i h; exact h.resolve_left hy
    ·simp
   ·by_cases hz : y ∈ knStep kt kn z
    ·exact knAdd_mem hz
    ·exact ih (kn := knStep kt kn z) hz hm
 rw [h0 y h1]
 simp only [List.nil_append, List.map_eq_nil_iff, List.filter_eq_nil_iff]
 intro z hz
 have : ¬ z = y := by rintro rfl; exact h2 hz
 simp [this]
theorem sp_add_c6 {n : Nat} {m : Mine g} {F : Addr → Option O} {gr : Addr} {ad : Lb → Addr} {S : GS} {nm mp : Str} {sy : List Str} {pv fv fi lv : V} (hG : Gm st.μ F gr ad S) (hsy : S.sy = some (sy.map .str)) (hvl : S.vs.length ≤ 100) (hpl : S.pm.length ≤ 100) (hkl : S.kb.length ≤ 100) (hcl : ∀ k ∈ S.kb, (S.cb k).length ≤ 100)
  (hknl : S.kn.length ≤ 100) (hcn0 : ∀ k, k ∉ S.kn → S.cn k = []) (hctl : ∀ k, (S.ct k).length ≤ 100) (hcnl : ∀ k, (S.cn k).length ≤ 100)
  (hsl : sy.length ≤ 4) (hok : ∀ y ∈ sy, PyData.strOk y = true) (hyl : ∀ y ∈ sy, y.length ≤ 1000)
  (v1 : st.σ "self" = some (.ref gr)) (v2 : st.σ "prodname" = some (.str nm)) (v3 : st.σ "syms" = some (.ref (ad .sy))) (v4 : st.σ "prodprec" = some pv) (v5 : st.σ "func" = some fv) (v6 : st.σ "file" = some fi) (v7 : st.σ "line" = some lv) (v9 : st.σ "map" = some (.str mp))
  (h : ∀ st' F' v ad' kb' cb', Le F F' → ProdAt F' v ⟨S.vs.length, nm, sy⟩ → (nm ∈ S.kb → kb' = S.kb ∧ cb' = fun k => if k = nm then S.cb nm ++ [v] else S.cb k) → (nm ∉ S.kb → kb' = S.kb ++ [nm] ∧ cb' = fun k => if k = nm then [v] else S.cb k) →
   Gm st'.μ F' gr ad' { S with vs := S.vs ++ [v], pm := dput S.pm mp v, kb := kb', cb := cb', ct := ctAdd S.kt S.ct (.int S.vs.length) sy, kn := knAdd S.kt (if nm ∈ S.kn then S.kn else S.kn ++ [nm]) sy, cn := cnAdd S.kt S.cn (.int S.vs.length) sy } → Q .next st') : (r_add_production_c6 (n := n) m).1 Q X st := by
 unfold r_add_production_c6; dsimp only
 obtain ⟨A1, A2, A3, A4, A5, A6, A7, A8, A9⟩ := hG.at_
 obtain ⟨i0, e0, i1, i2, e1, i3, e2, i4, e3, i5, e4, i6, e5, i7, i8⟩ := hG.all
 walk_at "w"
 rw [dget_tab_some]
 have b0 : SameBut ["pnumber"] st.σ (st.set "pnumber" (.int S.vs.length)).σ := SameBut.refl.set (by walk_at "nm")
 refine wk_join (fun st1 => SameBut ["pnumber"] st.σ st1.σ ∧ st1.σ "pnumber" = some (.int S.vs.length) ∧ ∃ ad1, ad1 .sy = ad .sy ∧ Gm st1.μ F gr ad1 { S with kn := if nm ∈ S.kn then S.kn else S.kn ++ [nm] }) ?_ (fun hb Q' hQ' => ?_) (fun hb Q' hQ' => ?_)
 rotate_left
 ·have hk : nm ∉ S.kn := by simpa using hb
  walk_at "w"
  refine wk_list (by simp) fun a ha => ?_
  walk_at "w"
  refine wk_itemD (by walk_at "mu") (by rw [tabOf_len]; omega) fun ep2 => ?_
  walk_at "w"
  refine hQ' _ ⟨b0, by walk_at "sg", fun l => if l = .N nm then a else ad l, ?_, ?_⟩
  rotate_left
  ·have := hG.newN (xs := []) (ep := ep2) hk ha
   rw [if_neg hk]
   have e : (fun k' => if k' = nm then [] else S.cn k') = S.cn := by
    funext k'; split
    ·subst_vars; exact (hcn0 _ hk).symm
    ·rfl
   rw [e] at this
   exact this
  ·simp
 ·have hk : nm ∈ S.kn := by simpa using hb
  walk_at "w"
  refine hQ' _ ⟨b0, by walk_at "sg", ad, rfl, ?_⟩
  rw [if_pos hk]; exact hG
 have hkn1 : (if nm ∈ S.kn then S.kn else S.kn ++ [nm]).length ≤ 101 := by
  split
  ·omega
  ·simp; omega
 have hcn1 : ∀ k, k ∉ (if nm ∈ S.kn then S.kn else S.kn ++ [nm]) → S.cn k = [] := fun k hk => hcn0 k fun hm => hk (by
  split
  ·exact hm
  ·exact List.mem_append.mpr (.inl hm))
 generalize (if nm ∈ S.kn then S.kn else S.kn ++ [nm]) = kn1 at h hkn1 hcn1
 intro st1 q0q
 refine exG0_3 q0q fun b1 p1 r1 => ?_
 refine exG1_2 r1 fun ad1 hadsy hG1 => ?_
 rw [← hadsy] at v3
 obtain ⟨i0, e0, i1, i2, e1, i3, e2, i4, e3, i5, e4, i6, e5, i7, i8⟩ := hG1.all
 have i9 := hG1.sy hsy
 walk_at "w"
 refine loop_gen (its_list (by walk_at "mu")) (LR.strs sy).ones (fun pre st' => SameBut ["pnumber", "t"] st.σ st'.σ ∧ st'.σ "pnumber" = some (.int S.vs.length) ∧ ∃ ad2, ad2 .sy = ad1 .sy ∧ Gm st'.μ F gr ad2 { S with ct := ctAdd S.kt S.ct (.int S.vs.length) pre, kn := knAdd S.kt kn1 pre, cn := cnAdd S.kt S.cn (.int S.vs.length) pre }) ?_ ?_ ?_ ?_
 ·refine ⟨b1.sub (by simp), p1, ad1, rfl, ?_⟩
  have e1 : ctAdd S.kt S.ct (.int S.vs.length) [] = S.ct := by funext k; simp [ctAdd]
  have e2 : cnAdd S.kt S.cn (.int S.vs.length) [] = S.cn := by funext k; simp [cnAdd]
  rw [e1, e2]; exact hG1
 ·intro i st' hi q0q
  refine exG0_3 q0q fun _ _ r2 => ?_
  refine exG1_2 r2 fun ad2 hs2 hG2 => ?_
  refine cur_list ?_
  rw [← hs2]; exact hG2.sy hsy
 ·intro pre y post l st2 K hps q0q q1q hK
  refine exG1_2 q0q fun v r3 r4 => ?_
  obtain rfl := r3
  obtain rfl := r4
  refine exG0_3 q1q fun b2 p2 r5 => ?_
  refine exG1_2 r5 fun ad2 hs2 hG2 => ?_
  have hpl4 : pre.length ≤ 4 := preLe hps (by first | omega | (simp; done) | (simp; omega))
  have hctl2 : (ctAdd S.kt S.ct (.int S.vs.length) pre y).length ≤ 1000 := by
   unfold ctAdd
   have := hctl y
   have h2 : (pre.filter fun t => decide (t = y) && decide (t ∈ S.kt)).length ≤ pre.length := List.length_filter_le ..
   rw [List.length_append, List.length_map]; omega
  have hcnl2 : (cnAdd S.kt S.cn (.int S.vs.length) pre y).length ≤ 1000 := by
   unfold cnAdd
   have := hcnl y
   have h2 : (pre.filter fun t => decide (t = y) && !decide (t ∈ S.kt)).length ≤ pre.length := List.length_filter_le ..
   rw [List.length_append, List.length_map]; omega
  have hknl2 := knAdd_len S.kt pre kn1
  obtain ⟨A1, A2, A3, A4, A5, A6, A7, A8, A9⟩ := hG2.at_
  obtain ⟨i0, e0, i1, i2, e1, i3, e2, i4, e3, i5, e4, i6, e5, i7, i8⟩ := hG2.all
  dsimp only at i5 i6 A1 A4 A5
  have b3 : SameBut ["pnumber", "t"] st.σ (st2.set "t" (.str y)).σ := SameBut.set (by walk_at "nm") b2
  walk_at "w"
  rw [dget_tab_some]
  refine wk_split (fun hb => ?_) (fun hb => ?_)
  ·have hyt : y ∈ S.kt := by simpa using hb
   have i10 := hG2.T (k := y) hyt
   dsimp only at i10
   walk_at "w"
   refine wk_idxD (u := .ref (ad2 (.T y))) (by walk_at "mu") (by rw [dget_tab, if_pos hyt]) ?_
   walk_at "w"
   refine hK _ ⟨b3, by walk_at "sg", ad2, hs2, ?_⟩
   have := hG2.appT (k := y) (v := .int S.vs.length) hyt
   dsimp only at this
   rw [ctAdd_in hyt] at this
   rw [knAdd_app, ← cnAdd_in hyt, knStep, if_pos (.inl hyt)]
   exact this
  ·have hyt : y ∉ S.kt := by simpa using hb
   walk_at "w"
   rw [dget_tab_some]
   refine wk_join (fun st3 => SameBut ["pnumber", "t"] st.σ st3.σ ∧ st3.σ "pnumber" = some (.int S.vs.length) ∧ st3.σ "t" = some (.str y) ∧ ∃ ad3, ad3 .sy = ad1 .sy ∧ Gm st3.μ F gr ad3 { S with ct := ctAdd S.kt S.ct (.int S.vs.length) pre, kn := knAdd S.kt kn1 (pre ++ [y]), cn := cnAdd S.kt S.cn (.int S.vs.length) pre }) ?_ (fun hb Q' hQ' => ?_) (fun hb Q' hQ' => ?_)
   rotate_left
   ·have hk : y ∉ knAdd S.kt kn1 pre := by simpa using hb
    walk_at "w"
    refine wk_list (by simp) fun a ha => ?_
    walk_at "w"
    refine wk_itemD (by walk_at "mu") (by rw [tabOf_len]; omega) fun ep2 => ?_
    walk_at "w"
    refine hQ' _ ⟨b3, by walk_at "sg", by walk_at "sg", fun l => if l = .N y then a else ad2 l, ?_, ?_⟩
    rotate_left
    ·have := hG2.newN (k := y) (xs := []) (ep := ep2) hk ha
     dsimp only at this
     have e : (fun k' => if k' = y then [] else cnAdd S.kt S.cn (.int S.vs.length) pre k') = cnAdd S.kt S.cn (.int S.vs.length) pre := by
      funext k'; split
      ·subst_vars; exact (cnAdd_new hcn1 hyt hk).symm
      ·rfl
     rw [e] at this
     rw [knAdd_app, knStep, if_neg (by simp [hyt, hk])]
     exact this
    ·simpa using hs2
   ·have hk : y ∈ knAdd S.kt kn1 pre := by simpa using hb
    walk_at "w"
    refine hQ' _ ⟨b3, by walk_at "sg", by walk_at "sg", ad2, hs2, ?_⟩
    rw [knAdd_app, knStep, if_pos (.inr hk)]; exact hG2
   intro st3 q0q
   refine exG0_4 q0q fun b4 p4 t4 r6 => ?_
   refine exG1_2 r6 fun ad3 hs3 hG3 => ?_
   have hk : y ∈ knAdd S.kt kn1 (pre ++ [y]) := by
    rw [knAdd_app, knStep]; split
    ·rename_i h; exact h.resolve_left hyt
    ·simp
   obtain ⟨A1, A2, A3, A4, A5, A6, A7, A8, A9⟩ := hG3.at_
   obtain ⟨i0, e0, i1, i2, e1, i3, e2, i4, e3, i5, e4, i6, e5, i7, i8⟩ := hG3.all
   have i10 := hG3.N (k := y) hk
   dsimp only at i6 A1 A4 A5 i10
   walk_at "w"
   refine wk_idxD (u := .ref (ad3 (.N y))) (by walk_at "mu") (by rw [dget_tab, if_pos hk]) ?_
   walk_at "w"
   refine hK _ ⟨b4, by walk_at "sg", ad3, hs3, ?_⟩
   have := hG3.appN (k := y) (v := .int S.vs.length) hk
   dsimp only at this
   rw [cnAdd_out hyt] at this
   rw [← ctAdd_out hyt]
   exact this
 ·intro st2 q0q
  refine exG0_3 q0q fun b2 p2 r7 => ?_
  refine exG1_2 r7 fun ad2 hs2 hG2 => ?_
  walk_at "w"
  rw [← hs2] at v3
  refine sp_add_c9 (num := S.vs.length) (nm := nm) (mp := mp) (sy := sy) (pv := pv) (fv := fv) (fi := fi) (lv := lv) hG2 hsy hvl hpl hkl hcl hsl hok hyl (by walk_at "sg") (by walk_at "sg") (by walk_at "sg") (by walk_at "sg") (by walk_at "sg") (by walk_at "sg") (by walk_at "sg") p2 (by walk_at "sg") ?_
  intro st' F' v ad' kb' cb' q1 q2 q3 q4 q5
  exact h st' F' v ad' kb' cb' q1 q2 q3 q4 q5
end Kk
end
section
set_option maxHeartbeats 1000000
namespace Kk
variable {α β γ δ : Type}
section
variable {X : Ex → St → Prop} {st : St}
theorem wk_str {y : Str} {Q : Unit → St → Prop} (h1 : y.length ≤ 1000) (h : Q () st) : strM (.str y) Q X st := ⟨h1, h⟩
theorem wk_arrow {y : Str} {l : Addr} {ys : List Str} {Q : V → St → Prop} (h1 : st.μ l = some (.list (ys.map .str))) (h2 : y.length ≤ 1000) (h3 : (PyData.list (ys.map .str)).shown.length ≤ 1000) (h : Q (.str (arrowText y ys)) st) : arrowM (.str y) (.ref l) Q X st := by
 unfold arrowM; simp only [h1]; exact ⟨ys, rfl, h2, h3, h⟩
theorem seqIndex_neg {i n : Nat} (h0 : 0 < i) (h : i ≤ n) : seqIndex? (-(i : Int)) n = some (n - i) := by
 unfold seqIndex?
 have h1 : (-(i : Int)) < 0 := by omega
 simp only [h1, if_true]
 have h2 : -(i : Int) + n = ((n - i : Nat) : Int) := by omega
 rw [h2]
 have h3 : n - i < n := by omega
 simp [h3]
theorem wk_del {a : Addr} {xs : List V} {Q : Unit → St → Prop} (h1 : st.μ a = some (.list xs)) (h2 : 2 ≤ xs.length) (h3 : xs.length ≤ 1000) (h : Q () (st.put a (.list (xs.take (xs.length - 2))))) : delLastM (.ref a) Q X st := .mk h1 h2 h3 h
theorem wk_idxS {x : Str} {k : Int} {c : Nat} {Q : V → St → Prop} (h1 : (decide (-1000 ≤ k) && decide (k ≤ 1000)) = true) (h2 : (seqIndex? k x.length).bind (x.cps[·]?) = some c) (h : Q (.str ⟨#[c]⟩) st) : idxM (.str x) (.int k) Q X st := .str h1 h2 h
theorem wk_inS {x y : Str} {Q : Bool → St → Prop} (h : Q (strIn x y) st) : cmpM .In (.str x) (.str y) Q X st := .in_ (.str h)
theorem wk_sliceS {x : Str} {lo hi : Option Int} {Q : V → St → Prop} (h1 : x.length ≤ 1000) (h : Q (.str (Txt.slice x lo hi)) st) : sliceM (.str x) lo hi Q X st := .str h1 h
theorem wk_lenS {x : Str} {Q : V → St → Prop} (h2 : x.length ≤ 100000) (h : Q (.int x.length) st) : lenM [.str x] Q X st := .str h2 h
theorem wk_neI {x y : Int} {Q : Bool → St → Prop} (h : Q (!(x == y)) st) : cmpM .NotEq (.int x) (.int y) Q X st := .ne (.int h)
end
variable {g : Gx} {X : Ex → St → Prop} {st : St} {Q : Fl → St → Prop}
structure Small (S : GS) : Prop where
 vs : S.vs.length ≤ 100
 pm : S.pm.length ≤ 100
 kb : S.kb.length ≤ 100
 cb : ∀ k ∈ S.kb, (S.cb k).length ≤ 100
 kn : S.kn.length ≤ 100
 cn0 : ∀ k, k ∉ S.kn → S.cn k = []
 ct : ∀ k, (S.ct k).length ≤ 100
 cn : ∀ k, (S.cn k).length ≤ 100
 kt : S.kt.length ≤ 100
 ct0 : ∀ k, k ∉ S.kt → S.ct k = []
 us : S.us.length ≤ 100
structure Took (S S' : GS) (nm : Str) (sy : List Str) (v : V) : Prop where
 vs : S'.vs = S.vs ++ [v]
 pm : S'.pm = dput S.pm (arrowText nm sy) v
 kb : S'.kb = if nm ∈ S.kb then S.kb else S.kb ++ [nm]
 cb : S'.cb = fun k => if k = nm then (if nm ∈ S.kb then S.cb nm else []) ++ [v] else S.cb k
 kt : S'.kt = S.kt
 ct : S'.ct = ctAdd S.kt S.ct (.int S.vs.length) sy
 kn : S'.kn = knAdd S.kt (if nm ∈ S.kn then S.kn else S.kn ++ [nm]) sy
 cn : S'.cn = cnAdd S.kt S.cn (.int S.vs.length) sy
 us : S'.us = S.us
 pr : S'.pr = S.pr
 es : S'.es = S.es
theorem sp_add_c4 {n : Nat} {m : Mine g} {F : Addr → Option O} {gr : Addr} {ad : Lb → Addr} {S : GS} {nm : Str} {sy : List Str} {pv fv fi lv : V} (hG : Gm st.μ F gr ad S) (hsy : S.sy = some (sy.map .str)) (hS : Small S)
  (hsl : sy.length ≤ 4) (hok : ∀ y ∈ sy, PyData.strOk y = true) (hyl : ∀ y ∈ sy, y.length ≤ 1000) (hnl : nm.length ≤ 1000) (hsh : (PyData.list (sy.map .str)).shown.length ≤ 1000) (hnew : dget S.pm (arrowText nm sy) = none)
  (v1 : st.σ "self" = some (.ref gr)) (v2 : st.σ "prodname" = some (.str nm)) (v3 : st.σ "syms" = some (.ref (ad .sy))) (v4 : st.σ "prodprec" = some pv) (v5 : st.σ "func" = some fv) (v6 : st.σ "file" = some fi) (v7 : st.σ "line" = some lv)
  (h : ∀ st' F' v ad' S', Le F F' → ProdAt F' v ⟨S.vs.length, nm, sy⟩ → Took S S' nm sy v → Gm st'.μ F' gr ad' S' → Q .next st') : (r_add_production_c4 (n := n) m).1 Q X st := by
 unfold r_add_production_c4; dsimp only
 obtain ⟨A1, A2, A3, A4, A5, A6, A7, A8, A9⟩ := hG.at_
 obtain ⟨i0, e0, i1, i2, e1, i3, e2, i4, e3, i5, e4, i6, e5, i7, i8⟩ := hG.all
 have i9 := hG.sy hsy
 walk_at "w"
 refine wk_str hnl ?_
 walk_at "w"
 refine wk_arrow (ys := sy) (by walk_at "mu") hnl hsh ?_
 walk_at "w"
 rw [hnew]
 refine wk_neg rfl ?_
 walk_at "w"
 refine sp_add_c6 (st := st.set "map" (.str (arrowText nm sy))) (nm := nm) (mp := arrowText nm sy) (sy := sy) (pv := pv) (fv := fv) (fi := fi) (lv := lv) hG hsy hS.vs hS.pm hS.kb hS.cb hS.kn hS.cn0 hS.ct hS.cn hsl hok hyl (by walk_at "sg") (by walk_at "sg") (by walk_at "sg") (by walk_at "sg") (by walk_at "sg") (by walk_at "sg") (by walk_at "sg") (by walk_at "sg") ?_
 intro st' F' v ad' kb' cb' q1 q2 q3 q4 q5
 have e1 : kb' = if nm ∈ S.kb then S.kb else S.kb ++ [nm] := by
  by_cases hk : nm ∈ S.kb
  ·rw [if_pos hk]; exact (q3 hk).1
  ·rw [if_neg hk]; exact (q4 hk).1
 have e2 : cb' = fun k => if k = nm then (if nm ∈ S.kb then S.cb nm else []) ++ [v] else S.cb k := by
  by_cases hk : nm ∈ S.kb
  ·simp only [if_pos hk]; exact (q3 hk).2
  ·simp only [if_neg hk]; exact (q4 hk).2
 exact h st' F' v ad' { S with vs := S.vs ++ [v], pm := dput S.pm (arrowText nm sy) v, kb := kb', cb := cb', ct := ctAdd S.kt S.ct (.int S.vs.length) sy, kn := knAdd S.kt (if nm ∈ S.kn then S.kn else S.kn ++ [nm]) sy, cn := cnAdd S.kt S.cn (.int S.vs.length) sy } q1 q2 ⟨rfl, rfl, e1, e2, rfl, rfl, rfl, rfl, rfl, rfl, rfl⟩ q5
noncomputable def marks (fl : Bool) : List Str := if fl then ["%prec", "Z"] else []
noncomputable def usZ (us : List Str) (fl : Bool) : List Str := if fl then (if ("Z" : Str) ∈ us then us else us ++ [("Z" : Str)]) else us
theorem sp_add_c3 {n : Nat} {m : Mine g} {F : Addr → Option O} {gr : Addr} {ad : Lb → Addr} {S : GS} {nm : Str} {sy : List Str} {fl : Bool} {z : Addr} {za : List V} {fv fi lv : V} (hG : Gm st.μ F gr ad S) (hsy : S.sy = some ((sy ++ marks fl).map .str)) (hS : Small S) (hus : S.us.length ≤ 50)
  (hz : dget S.pr "Z" = some (.ref z)) (hz2 : F z = some (.tup za)) (hza : za ≠ []) (hzl : za.length ≤ 100)
  (hsl : sy.length ≤ 4) (hok : ∀ y ∈ sy, PyData.strOk y = true) (hyl : ∀ y ∈ sy, y.length ≤ 1000) (hyp : ("%prec" : Str) ∉ sy) (hnl : nm.length ≤ 1000) (hsh : (PyData.list (sy.map .str)).shown.length ≤ 1000) (hnew : dget S.pm (arrowText nm sy) = none)
  (v1 : st.σ "self" = some (.ref gr)) (v2 : st.σ "prodname" = some (.str nm)) (v3 : st.σ "syms" = some (.ref (ad .sy))) (v5 : st.σ "func" = some fv) (v6 : st.σ "file" = some fi) (v7 : st.σ "line" = some lv)
  (h : ∀ st' F' v ad' S', Le F F' → ProdAt F' v ⟨S.vs.length, nm, sy⟩ → Took { S with us := usZ S.us fl } S' nm sy v → Gm st'.μ F' gr ad' S' → Q .next st') : (r_add_production_c3 (n := n) m).1 Q X st := by
 unfold r_add_production_c3; dsimp only
 obtain ⟨A1, A2, A3, A4, A5, A6, A7, A8, A9⟩ := hG.at_
 obtain ⟨i0, e0, i1, i2, e1, i3, e2, i4, e3, i5, e4, i6, e5, i7, i8⟩ := hG.all
 have i9 := hG.sy hsy
 have hz3 := hG.mem.le _ _ hz2
 have hokm : ∀ y ∈ sy ++ marks fl, PyData.strOk y = true := by
  intro y hy
  rcases List.mem_append.mp hy with h | h
  ·exact hok y h
  ·unfold marks at h
   split at h
   ·simp only [List.mem_cons, List.not_mem_nil, or_false] at h
    rcases h with rfl | rfl <;> decide +kernel
   ·k_call_by "c" h
 walk_at "w"
 refine wk_inL (ys := sy ++ marks fl) (by walk_at "mu") hokm (by decide +kernel) ?_
 induction fl with
 | true =>
  have hml : ((sy ++ marks true).map V.str).length = sy.length + 2 := by simp [marks]
  refine wk_pos (by simp [marks]) ?_
  walk_at "w"
  dsimp only
  have hneg1 : seqIndex? (-1) ((sy ++ marks true).map V.str).length = some (sy.length + 1) := by
   rw [hml, show (-1 : Int) = -((1 : Nat) : Int) from rfl, seqIndex_neg (by omega) (by omega)]; rfl
  have hneg2 : seqIndex? (-2) ((sy ++ marks true).map V.str).length = some sy.length := by
   rw [hml, show (-2 : Int) = -((2 : Nat) : Int) from rfl, seqIndex_neg (by omega) (by omega)]; rfl
  have hgz : ((sy ++ marks true).map V.str)[sy.length + 1]? = some (.str "Z") := by
   rw [List.getElem?_map, List.getElem?_append_right (by omega)]; simp [marks]
  have hgp : ((sy ++ marks true).map V.str)[sy.length]? = some (.str "%prec") := by
   rw [List.getElem?_map, List.getElem?_append_right (by omega)]; simp [marks]
  refine wk_idxL (by walk_at "mu") (by omega) hneg1 hgz ?_
  walk_at "w"
  refine wk_neg (by decide +kernel) ?_
  walk_at "w"
  dsimp only
  refine wk_idxL (by walk_at "mu") (by omega) hneg2 hgp ?_
  walk_at "w"
  refine wk_neg (by decide +kernel) ?_
  walk_at "w"
  dsimp only
  refine wk_idxL (by walk_at "mu") (by omega) hneg1 hgz ?_
  walk_at "w"
  refine wk_get (by walk_at "mu") ?_
  rw [hz]
  have hzl2 : za.length ≤ 100000 := by omega
  walk_at "w"
  refine wk_truthT (xs := za) (by walk_at "mu") hzl2 ?_
  walk_at "w"
  refine wk_neg (by induction za with | nil => exact absurd rfl hza | cons => rfl) ?_
  walk_at "w"
  refine wk_add (by walk_at "mu") (by have := hS.us; omega) ?_
  have hG1 := hG.setU (xs := if ("Z" : Str) ∈ S.us then S.us else S.us ++ [("Z" : Str)])
  have i10 := hG1.sy hsy
  walk_at "w"
  dsimp only
  refine ⟨rfl, ?_⟩
  refine wk_del (xs := (sy ++ marks true).map V.str) (by exact i10) (by omega) (by omega) ?_
  walk_at "w"
  have hG2 := hG1.setSy (ys := sy.map .str) hsy
  have ht : ((sy ++ marks true).map V.str).take (((sy ++ marks true).map V.str).length - 2) = sy.map .str := by
   rw [hml]; simp [marks]
  rw [ht]
  refine sp_add_c4 (nm := nm) (sy := sy) (pv := .ref z) (fv := fv) (fi := fi) (lv := lv) (F := F) (ad := ad) (S := { S with us := if ("Z" : Str) ∈ S.us then S.us else S.us ++ [("Z" : Str)], sy := some (sy.map .str) }) hG2 rfl ⟨hS.vs, hS.pm, hS.kb, hS.cb, hS.kn, hS.cn0, hS.ct, hS.cn, hS.kt, hS.ct0, ?_⟩ hsl hok hyl hnl hsh hnew ?_ ?_ ?_ ?_ ?_ ?_ ?_ ?_
  ·have := hS.us; dsimp only; split
   ·omega
   ·simp; omega
  ·walk_at "sg"
  ·walk_at "sg"
  ·walk_at "sg"
  ·exact sig_put (sig_put sig_same)
  ·walk_at "sg"
  ·walk_at "sg"
  ·walk_at "sg"
  ·intro st' F' v ad' S' q1 q2 q3 q4
   exact h st' F' v ad' S' q1 q2 ⟨q3.vs, q3.pm, q3.kb, q3.cb, q3.kt, q3.ct, q3.kn, q3.cn, q3.us, q3.pr, q3.es⟩ q4
 | false =>
  refine wk_neg (by simp [marks, hyp]) ?_
  walk_at "w"
  have e0 : sy ++ marks false = sy := by simp [marks]
  rw [e0] at hsy i9
  refine sp_rightmost (ys := sy) (kt := S.kt) (by walk_at "mu") (by walk_at "mu") (by omega) ?_
  have key : ∀ (st1 : St) (p : V), Le st.μ st1.μ → SameBut ["precname", "prodprec"] st.σ st1.σ → st1.σ "prodprec" = some p → (r_add_production_c4 (n := n) m).1 Q X st1 := by
   intro st1 p hle hsb hp
   refine sp_add_c4 (nm := nm) (sy := sy) (pv := p) (fv := fv) (fi := fi) (lv := lv) (F := F) (ad := ad) (S := S) (hG.grow hle) hsy hS hsl hok hyl hnl hsh hnew (by walk_at "sg") (by walk_at "sg") (by walk_at "sg") hp (by walk_at "sg") (by walk_at "sg") (by walk_at "sg") ?_
   intro st' F' v ad' S' q1 q2 q3 q4
   exact h st' F' v ad' S' q1 q2 ⟨q3.vs, q3.pm, q3.kb, q3.cb, q3.kt, q3.ct, q3.kn, q3.cn, q3.us, q3.pr, q3.es⟩ q4
  have hr : (∃ s, rmost S.kt sy = .str s) ∨ rmost S.kt sy = .none := by
   unfold rmost; split
   ·exact .inl ⟨_, rfl⟩
   ·exact .inr rfl
  rcases hr with ⟨s, hr⟩ | hr <;> rw [hr]
  ·walk_at "w"
   refine wk_tup (by simp) fun tp htp => ?_
   walk_at "w"
   refine wk_get2 (by walk_at "mu") ?_
   walk_at "w"
   refine key _ ((dget S.pr s).getD (V.ref tp)) (Le.refl.new htp) ?_ sig_same
   exact SameBut.set (by walk_at "nm") (SameBut.put (SameBut.set (by walk_at "nm") SameBut.refl))
  ·walk_at "w"
   refine wk_tup (by simp) fun tp htp => ?_
   walk_at "w"
   refine wk_get2N (by walk_at "mu") ?_
   walk_at "w"
   refine key _ (V.ref tp) (Le.refl.new htp) ?_ sig_same
   exact SameBut.set (by walk_at "nm") (SameBut.put (SameBut.set (by walk_at "nm") SameBut.refl))
end Kk
end
section
set_option maxHeartbeats 1000000
namespace Kk
variable {α β γ δ : Type}
variable {g : Gx} {X : Ex → St → Prop} {st : St}
noncomputable def alpha : List Str := ["A", "B", "C", "+", "s", "t", "u", "v"]
noncomputable def qt (s : Str) : Str := if s = ("+" : Str) then "'+'" else s
noncomputable def uq (s : Str) : Str := if s = ("'+'" : Str) then "+" else s
noncomputable def ktP (kt P : List Str) : List Str := if ("+" : Str) ∈ P then (if ("+" : Str) ∈ kt then kt else kt ++ [("+" : Str)]) else kt
theorem uq_qt {s : Str} (h : s ∈ alpha) : uq (qt s) = s := by
 have : ∀ s ∈ alpha, uq (qt s) = s := by decide +kernel
 exact this s h
theorem zip_split {xs : List Str} {pre post : List (Str × Nat)} {y : Str} {j : Nat} (h : xs.zipIdx = pre ++ (y, j) :: post) : j = pre.length ∧ xs = pre.map (·.1) ++ y :: post.map (·.1) := by
 constructor
 ·have h1 := congrArg (·[pre.length]?) h
  simp only [List.getElem?_zipIdx, Nat.zero_add, List.getElem?_append_right (Nat.le_refl _), Nat.sub_self, List.getElem?_cons_zero] at h1
  refine exG1_2 (Option.map_eq_some_iff.mp h1) fun x _ e => ?_
  k_call_by "c" e; rfl
 ·have h1 := congrArg (List.map (·.1)) h
  simpa using h1
theorem raw_cases {sy : List Str} {fl : Bool} (h : ∀ s ∈ sy, s ∈ alpha) {y : Str} (hy : y ∈ sy.map qt ++ marks fl) : y = ("'+'" : Str) ∨ (uq y = y ∧ y ≠ ("+" : Str) ∧ ∃ c, (seqIndex? 0 y.length).bind (y.cps[·]?) = some c ∧ strIn ⟨#[c]⟩ "'\"" = false) := by
 have key : ∀ s ∈ alpha, qt s = ("'+'" : Str) ∨ (uq (qt s) = qt s ∧ qt s ≠ ("+" : Str) ∧ (match (seqIndex? 0 (qt s).length).bind ((qt s).cps[·]?) with | some c => !strIn ⟨#[c]⟩ "'\"" | none => false) = true) := by
  intro s hs
  simp only [alpha, List.mem_cons, List.not_mem_nil, or_false] at hs
  rcases hs with rfl | rfl | rfl | rfl | rfl | rfl | rfl | rfl
  ·exact .inr ⟨by decide +kernel, by decide +kernel, by kernel_rfl⟩
  ·exact .inr ⟨by decide +kernel, by decide +kernel, by kernel_rfl⟩
  ·exact .inr ⟨by decide +kernel, by decide +kernel, by kernel_rfl⟩
  ·exact .inl (by decide +kernel)
  ·exact .inr ⟨by decide +kernel, by decide +kernel, by kernel_rfl⟩
  ·exact .inr ⟨by decide +kernel, by decide +kernel, by kernel_rfl⟩
  ·exact .inr ⟨by decide +kernel, by decide +kernel, by kernel_rfl⟩
  ·exact .inr ⟨by decide +kernel, by decide +kernel, by kernel_rfl⟩
 rcases List.mem_append.mp hy with hy | hy
 ·refine exG1_2 (List.mem_map.mp hy) fun s hs r1 => ?_
  obtain rfl := r1
  rcases key s (h s hs) with k | ⟨k1, k2, k3⟩
  ·exact .inl k
  ·refine .inr ⟨k1, k2, ?_⟩
   split at k3
   ·rename_i c e; exact ⟨c, e, by simpa using k3⟩
   ·k_call_by "c" k3
 ·unfold marks at hy
  split at hy
  ·simp only [List.mem_cons, List.not_mem_nil, or_false] at hy
   rcases hy with rfl | rfl
   ·exact .inr ⟨by decide +kernel, by decide +kernel, 37, by kernel_rfl, by kernel_rfl⟩
   ·exact .inr ⟨by decide +kernel, by decide +kernel, 90, by kernel_rfl, by kernel_rfl⟩
  ·k_call_by "c" hy
theorem set_mid {P R : List Str} {y c : Str} : ((P ++ y :: R).map V.str).set P.length (.str c) = ((P ++ [c]) ++ R).map V.str := by
 simp
theorem sp_add_production {Q : V → St → Prop} {n : Nat} {m : Mine g} {F : Addr → Option O} {gr : Addr} {ad : Lb → Addr} {S : GS} {nm : Str} {sy : List Str} {fl : Bool} {z y : Addr} {za : List V} {fv fi lv : V} (hG : Gm st.μ F gr ad S) (hsy : S.sy = some ((sy.map qt ++ marks fl).map .str)) (hy : ad .sy = y) (hS : Small S) (hus : S.us.length ≤ 50) (hktl : S.kt.length ≤ 50)
  (hz : dget S.pr "Z" = some (.ref z)) (hz2 : F z = some (.tup za)) (hza : za ≠ []) (hzl : za.length ≤ 100) (hn1 : nm ∉ S.kt) (hn2 : nm ≠ ("error" : Str)) (hok2 : PyData.strOk nm = true)
  (hsl : sy.length ≤ 4) (hal : ∀ s ∈ sy, s ∈ alpha) (hnl : nm.length ≤ 1000) (hsh : (PyData.list (sy.map .str)).shown.length ≤ 1000) (hnew : dget S.pm (arrowText nm sy) = none)
  (h : ∀ μ' F' v ad' S', Le F F' → ProdAt F' v ⟨S.vs.length, nm, sy⟩ → Took { S with us := usZ S.us fl, kt := ktP S.kt sy } S' nm sy v → Gm μ' F' gr ad' S' → Q .none ⟨st.σ, μ'⟩) :
  fnM ["self", "prodname", "syms", "func", "file", "line"] (([] : List (Str × Value)).map fun p => (p.1, er p.2)) 6 (r_add_production (n := n) m).1 [.ref gr, .str nm, .ref y, fv, fi, lv] Q X st := by
 subst hy
 refine wk_en6 (a1 := "self") (v1 := (V.ref gr : V)) (a2 := "prodname") (v2 := (V.str nm : V)) (a3 := "syms") (v3 := (V.ref (ad .sy) : V)) (a4 := "func") (v4 := (fv : V)) (a5 := "file") (v5 := (fi : V)) (a6 := "line") (v6 := (lv : V)) rfl (by kernel_rfl) (by kernel_rfl) (by kernel_rfl) (by kernel_rfl) (by kernel_rfl) (by kernel_rfl) fun σ s_self s_prodname s_syms s_func s_file s_line => ?_
 obtain ⟨A1, A2, A3, A4, A5, A6, A7, A8, A9⟩ := hG.at_
 obtain ⟨i0, e0, i1, i2, e1, i3, e2, i4, e3, i5, e4, i6, e5, i7, i8⟩ := hG.all
 have i9 := hG.sy hsy
 unfold r_add_production; dsimp only
 walk_at "w"
 rw [dget_tab_some]
 refine wk_neg (by simp [hn1]) ?_
 walk_at "w"
 refine wk_neg (by simpa using hn2) ?_
 walk_at "w"
 generalize hraw : sy.map qt ++ marks fl = raw at hsy i9
 have hrl : raw.length ≤ 6 := by
  rw [← hraw]; induction fl <;> simp [marks] <;> omega
 have hrc : ∀ y ∈ raw, y = ("'+'" : Str) ∨ (uq y = y ∧ y ≠ ("+" : Str) ∧ ∃ c, (seqIndex? 0 y.length).bind (y.cps[·]?) = some c ∧ strIn ⟨#[c]⟩ "'\"" = false) := fun y hy => raw_cases (fl := fl) hal (hraw ▸ hy)
 refine loop_gen (its_enL (by walk_at "mu")) (LR.enum 0 (LR.strs raw)) (fun pre st' => SameBut ["n", "s", "c"] σ st'.σ ∧ ∃ ad', ad' .sy = ad .sy ∧ Gm st'.μ F gr ad' { S with sy := some (((pre.map (·.1)).map uq ++ raw.drop pre.length).map .str), kt := ktP S.kt ((pre.map (·.1)).map uq) }) ?_ ?_ ?_ ?_
 ·refine ⟨SameBut.refl, ad, rfl, ?_⟩
  have : ktP S.kt [] = S.kt := by simp [ktP]
  simp only [List.map_nil, List.nil_append, List.length_nil, List.drop_zero, this]
  have hG' := hG
  k_call_by "c" S; k_call_by "c" hsy; exact hG'
 ·intro i st' hi q0q
  refine exG0_2 q0q fun _ r2 => ?_
  refine exG1_2 r2 fun ad' hs' hG' => ?_
  have hi' : i ≤ raw.length := by simpa using hi
  refine cur_enL (xs' := ((((raw.zipIdx.take i).map (·.1)).map uq) ++ raw.drop (raw.zipIdx.take i).length).map .str) ?_ ?_
  ·rw [← hs']; exact hG'.sy rfl
  ·have hl : (raw.zipIdx.take i).length = i := by simp; omega
   have hl1 : (((raw.zipIdx.take i).map (·.1)).map uq).length = i := by simp; omega
   rw [hl, List.getElem?_map, List.getElem?_map, List.getElem?_append_right (by omega), hl1, Nat.sub_self, List.getElem?_drop, Nat.add_zero]
 ·intro pre q0q post l st2 K hps q1q q2q hK
  obtain ⟨x, j⟩ := q0q
  refine exG1_2 q1q fun v r3 r4 => ?_
  obtain rfl := r3
  obtain rfl := r4
  refine exG0_2 q2q fun b2 r5 => ?_
  refine exG1_2 r5 fun ad2 hs2 hG2 => ?_
  obtain ⟨rfl, hsplit⟩ := zip_split hps
  have hdrop : raw.drop pre.length = x :: post.map (·.1) := by rw [hsplit, List.drop_left' (by simp)]
  have hdrop2 : raw.drop (pre ++ [(x, pre.length)]).length = post.map (·.1) := by
   rw [hsplit, List.length_append, ← List.drop_drop, List.drop_left' (by simp)]; rfl
  rw [hdrop] at hG2
  have hxr : x ∈ raw := by rw [hsplit]; simp
  have hpl6 : pre.length + 1 + post.length ≤ 6 := by
   have := congrArg List.length hsplit; simp at this; omega
  have b3 : SameBut ["n", "s", "c"] σ ((st2.set "n" (.int ((pre.length : Nat) : Int))).set "s" (.str x)).σ := SameBut.set (by walk_at "nm") (SameBut.set (by walk_at "nm") b2)
  rcases hrc x hxr with rfl | ⟨hu1, hu2, c, hc1, hc2⟩
  ·obtain ⟨A1, A2, A3, A4, A5, A6, A7, A8, A9⟩ := hG2.at_
   obtain ⟨i0, e0, i1, i2, e1, i3, e2, i4, e3, i5, e4, i6, e5, i7, i8⟩ := hG2.all
   dsimp only at i5 A4
   walk_at "w"
   refine wk_idxS (c := 39) (by decide) (by kernel_rfl) ?_
   walk_at "w"
   refine wk_inS ?_
   refine wk_pos (by kernel_rfl) ?_
   walk_at "w"
   refine wk_idxS (c := 39) (by decide) (by kernel_rfl) ?_
   walk_at "w"
   dsimp only
   refine wk_idxS (c := 39) (by decide) (by kernel_rfl) ?_
   walk_at "w"
   refine wk_pos (by kernel_rfl) ?_
   walk_at "w"
   dsimp only
   have hslice : Txt.slice ("'+'" : Str) (some 1) (some (-1)) = ("+" : Str) := by kernel_rfl
   refine wk_sliceS (by decide +kernel) ?_
   rw [hslice]
   walk_at "w"
   refine wk_lenS (by decide +kernel) ?_
   walk_at "w"
   refine wk_neI ?_
   refine wk_neg (by kernel_rfl) ?_
   walk_at "w"
   rw [dget_tab_some]
   have b4 : SameBut ["n", "s", "c"] σ (((st2.set "n" (.int ((pre.length : Nat) : Int))).set "s" (.str "'+'")).set "c" (.str "+")).σ := SameBut.set (by walk_at "nm") b3
   have hjoin : ∀ (st3 : St) (ad3 : Lb → Addr), SameBut ["n", "s", "c"] σ st3.σ → st3.σ "n" = some (.int ((pre.length : Nat) : Int)) → st3.σ "c" = some (.str "+") → ad3 .sy = ad .sy → Gm st3.μ F gr ad3 { S with sy := some (((pre.map (·.1)).map uq ++ ("'+'" : Str) :: post.map (·.1)).map .str), kt := ktP S.kt ((pre.map (·.1)).map uq ++ [("+" : Str)]) } →
     K (st3.put (ad .sy) (.list (((((pre.map (·.1)).map uq ++ ("'+'" : Str) :: post.map (·.1)).map V.str)).set pre.length (.str "+")))) := by
    intro st3 ad3 c1 c2 c3 c4 c5
    refine hK _ ⟨c1, ad3, c4, ?_⟩
    rw [hdrop2]
    have hsm : (((pre.map (·.1)).map uq ++ ("'+'" : Str) :: post.map (·.1)).map V.str).set pre.length (.str "+") = (((pre.map (·.1)).map uq ++ [("+" : Str)]) ++ post.map (·.1)).map V.str := by
     have := set_mid (P := (pre.map (·.1)).map uq) (R := post.map (·.1)) (y := "'+'") (c := "+")
     rwa [show ((pre.map (·.1)).map uq).length = pre.length by simp] at this
    rw [hsm, ← c4]
    have h1 := c5.setSy (ys := (((pre.map (·.1)).map uq ++ [("+" : Str)]) ++ post.map (·.1)).map V.str) rfl
    have h2 : uq ("'+'" : Str) = "+" := by decide +kernel
    simp only [List.map_append, List.map_cons, List.map_nil, h2] at h1 ⊢
    exact h1
   refine wk_join (fun st3 => SameBut ["n", "s", "c"] σ st3.σ ∧ st3.σ "n" = some (.int ((pre.length : Nat) : Int)) ∧ st3.σ "c" = some (.str "+") ∧ ∃ ad3 : Lb → Addr, ad3 .sy = ad .sy ∧ Gm st3.μ F gr ad3 { S with sy := some (((pre.map (·.1)).map uq ++ ("'+'" : Str) :: post.map (·.1)).map .str), kt := ktP S.kt ((pre.map (·.1)).map uq ++ [("+" : Str)]) }) ?_ (fun hb Q' hQ' => ?_) (fun hb Q' hQ' => ?_)
   ·intro st3 q0q
    refine exG0_4 q0q fun c1 c2 c3 r6 => ?_
    refine exG1_2 r6 fun ad3 c4 c5 => ?_
    have i10 := c5.sy rfl
    rw [c4] at i10
    walk_at "w"
    refine wk_itemL (by walk_at "mu") (by omega) (by walk_at "ln") (by walk_at "ln") ?_
    walk_at "w"
    exact hjoin st3 ad3 c1 c2 c3 c4 c5
   ·have hk : ("+" : Str) ∉ ktP S.kt ((pre.map (·.1)).map uq) := by simpa using hb
    have hk1 : ("+" : Str) ∉ ((pre.map (·.1)).map uq) ∧ ("+" : Str) ∉ S.kt := by
     unfold ktP at hk
     split at hk
     ·split at hk
      ·exact absurd ‹_› hk
      ·simp at hk
     ·exact ⟨‹_›, hk⟩
    walk_at "w"
    refine wk_list (by simp) fun a ha => ?_
    walk_at "w"
    refine wk_itemD (by walk_at "mu") (by rw [tabOf_len]; unfold ktP; rw [if_neg hk1.1]; omega) fun ep2 => ?_
    walk_at "w"
    refine hQ' _ ⟨b4, by walk_at "sg", by walk_at "sg", fun l => if l = .T "+" then a else ad2 l, ?_, ?_⟩
    ·simpa using hs2
    ·have := hG2.newT (k := "+") (xs := []) (ep := ep2) hk ha
     dsimp only at this
     have e : (fun k' => if k' = ("+" : Str) then [] else S.ct k') = S.ct := by
      funext k'; split
      ·subst_vars; exact (hS.ct0 _ hk1.2).symm
      ·rfl
     rw [e] at this
     have e2 : ktP S.kt ((pre.map (·.1)).map uq ++ [("+" : Str)]) = ktP S.kt ((pre.map (·.1)).map uq) ++ [("+" : Str)] := by
      unfold ktP; rw [if_neg hk1.1, if_pos (by simp), if_neg hk1.2]
     rw [e2]
     exact this
   ·have hk : ("+" : Str) ∈ ktP S.kt ((pre.map (·.1)).map uq) := by simpa using hb
    walk_at "w"
    refine hQ' _ ⟨b4, by walk_at "sg", by walk_at "sg", ad2, hs2, ?_⟩
    have e2 : ktP S.kt ((pre.map (·.1)).map uq ++ [("+" : Str)]) = ktP S.kt ((pre.map (·.1)).map uq) := by
     unfold ktP at hk ⊢
     rw [if_pos (by simp : ("+" : Str) ∈ (pre.map (·.1)).map uq ++ [("+" : Str)])]
     by_cases hk1 : ("+" : Str) ∈ S.kt
     ·simp [hk1]
     ·by_cases hk2 : ("+" : Str) ∈ (pre.map (·.1)).map uq
      ·rw [if_pos hk2]
      ·rw [if_neg hk2] at hk; exact absurd hk hk1
    rw [e2]; exact hG2
  ·walk_at "w"
   refine wk_idxS (by decide) hc1 ?_
   walk_at "w"
   refine wk_inS ?_
   rw [hc2]
   walk_at "w"
   refine hK _ ⟨b3, ad2, hs2, ?_⟩
   rw [hdrop2]
   simp only [List.map_append, List.map_cons, List.map_nil, hu1]
   have : ktP S.kt ((pre.map (·.1)).map uq ++ [x]) = ktP S.kt ((pre.map (·.1)).map uq) := by
    have hm : (("+" : Str) ∈ (pre.map (·.1)).map uq ++ [x]) = (("+" : Str) ∈ (pre.map (·.1)).map uq) := propext (by rw [List.mem_append, List.mem_singleton]; exact ⟨fun h => h.resolve_right (Ne.symm hu2), .inl⟩)
    unfold ktP; simp only [hm]
   rw [this]
   show Gm st2.μ F gr ad2 _
   simpa using hG2
 ·intro st2 q0q
  refine exG0_2 q0q fun b2 r7 => ?_
  refine exG1_2 r7 fun ad2 hs2 hG2 => ?_
  walk_at "w"
  have hm : raw.zipIdx.map (·.1) = raw := by simp
  have hl : raw.zipIdx.length = raw.length := by simp
  rw [hm, hl, List.drop_length, List.append_nil] at hG2
  have hu : raw.map uq = sy ++ marks fl := by
   rw [← hraw, List.map_append, List.map_map]
   congr 1
   ·rw [show sy = sy.map id by simp]
    simp only [List.map_map]
    apply List.map_congr_left
    intro s hs; exact uq_qt (hal s hs)
   ·induction fl <;> decide +kernel
  have hkt : ktP S.kt (raw.map uq) = ktP S.kt sy := by
   have : (("+" : Str) ∈ raw.map uq) = (("+" : Str) ∈ sy) := by
    rw [hu]
    apply propext
    rw [List.mem_append]
    constructor
    ·rintro (h | h)
     ·exact h
     ·k_call_by "c" fl
      ·k_call_by "c" h
      ·exact absurd h (by decide +kernel)
    ·exact .inl
   unfold ktP; simp only [this]
  rw [hkt, hu] at hG2
  have hktl' : (ktP S.kt sy).length ≤ 51 := by
   unfold ktP; split
   ·split
    ·omega
    ·simp; omega
   ·omega
  have hct0' : ∀ k, k ∉ ktP S.kt sy → S.ct k = [] := fun k hk => hS.ct0 k fun hm => hk (by
   unfold ktP; split
   ·split
    ·exact hm
    ·exact List.mem_append.mpr (.inl hm)
   ·exact hm)
  have hok : ∀ y ∈ sy, PyData.strOk y = true := by
   have : ∀ y ∈ alpha, PyData.strOk y = true := by decide +kernel
   exact fun y hy => this y (hal y hy)
  have hyl : ∀ y ∈ sy, y.length ≤ 1000 := by
   have : ∀ y ∈ alpha, y.length ≤ 1000 := by decide +kernel
   exact fun y hy => this y (hal y hy)
  have hyp : ("%prec" : Str) ∉ sy := by
   have : ∀ y ∈ alpha, y ≠ ("%prec" : Str) := by decide +kernel
   exact fun hm => this _ (hal _ hm) rfl
  rw [← hs2] at s_syms
  refine sp_add_c3 (nm := nm) (sy := sy) (fl := fl) (za := za) (fv := fv) (fi := fi) (lv := lv) hG2 rfl ⟨hS.vs, hS.pm, hS.kb, hS.cb, hS.kn, hS.cn0, hS.ct, hS.cn, by dsimp only; omega, hct0', hS.us⟩ hus hz hz2 hza hzl hsl hok hyl hyp hnl hsh hnew (by walk_at "sg") (by walk_at "sg") (by walk_at "sg") (by walk_at "sg") (by walk_at "sg") (by walk_at "sg") ?_
  intro st' F' v ad' S' q1 q2 q3 q4
  exact h _ F' v ad' S' q1 q2 ⟨q3.vs, q3.pm, q3.kb, q3.cb, q3.kt, q3.ct, q3.kn, q3.cn, q3.us, q3.pr, q3.es⟩ q4
end Kk
end
section
set_option maxHeartbeats 1000000
namespace Kk
variable {α β γ δ : Type}
theorem wk_cut {p rest : M Fl} {Q : Fl → St → Prop} {X : Ex → St → Prop} {st : St} (J : St → Prop) (h : ∀ st', J st' → rest Q X st') (h1 : ∀ Q' : Fl → St → Prop, (∀ st', J st' → Q' .next st') → p Q' X st) : mseq p rest Q X st := h1 (seqK rest Q X) h
theorem wk_truthS {x : Str} {Q : Bool → St → Prop} {X : Ex → St → Prop} {st : St} (h1 : x.length ≤ 100000) (h : Q ((x.length : Int) != 0) st) : truthM (.str x) Q X st := .str h1 h
variable {g : Gx} {X : Ex → St → Prop} {Q : V → St → Prop} {st : St}
theorem sp_Prod4 {n : Nat} {m : Mine g} {l : Addr} {num : Int} {nm : Str} {sy : List Str} (hl : st.μ l = some (.list (sy.map .str))) (hT : ∃ b, st.μ 45 = some (.tab b)) (hsl : sy.length ≤ 4) (hok : ∀ y ∈ sy, PyData.strOk y = true) (hyl : ∀ y ∈ sy, y.length ≤ 1000)
  (h : ∀ x μ' F', Le (cut st.μ) μ' → (∃ b, μ' 45 = some (.tab b)) → Le F' μ' → (∀ a o, F' a = some o → st.μ a = none) → ProdAt F' (.ref x) ⟨num, nm, sy⟩ → Q (.ref x) ⟨st.σ, μ'⟩) :
  makeM 81 (fnM ["self", "number", "name", "prod"] (([("precedence", .ref 42), ("func", .none), ("file", .str "" 232), ("line", .int 0 233)] : List (Str × Value)).map fun p => (p.1, er p.2)) 4 (r_init_P (n := n) m).1) [.int num, .str nm, .ref l] Q X st := by
 intro d x hd hx hdx
 revert hT; refine fun oO => exG1_1 oO fun b hT => ?_
 have hx45 : x ≠ 45 := by rintro rfl; rw [hT] at hx; k_call_by "c" hx
 have hd45 : d ≠ 45 := by rintro rfl; rw [hT] at hd; k_call_by "c" hd
 have hx' : (st.put d (.dict [] 0)).μ x = none := u_none (Ne.symm hdx) hx
 refine wk_en8 (a1 := "self") (v1 := (V.ref x : V)) (a2 := "number") (v2 := (V.int num : V)) (a3 := "name") (v3 := (V.str nm : V)) (a4 := "prod") (v4 := (V.ref l : V)) (a5 := "precedence") (v5 := (er (.ref 42))) (a6 := "func") (v6 := (er (.none))) (a7 := "file") (v7 := (er (.str "" 232))) (a8 := "line") (v8 := (er (.int 0 233))) rfl (by kernel_rfl) (by kernel_rfl) (by kernel_rfl) (by kernel_rfl) (by kernel_rfl) (by kernel_rfl) (by kernel_rfl) (by kernel_rfl) fun σ s_self s_number s_name s_prod s_precedence s_func s_file s_line => ?_
 refine sp_init_P (F0 := cut st.μ) (x := x) (d := d) (l := l) (num := num) (nm := nm) (sy := sy) (cut_le.trans (Le.put_new hx' (Le.put_new hd Le.refl))) cut_none (cut_le.noneOf hx) (cut_le.noneOf hd) hdx put_same (put_ne hdx put_same) (put_old hx' (put_old hd hl)) ⟨b, put_old hx' (put_old hd hT)⟩ hsl hok hyl s_self s_number s_name s_prod s_precedence s_func s_file s_line ?_
 intro st' t k1 k2 k3 k4 q0q ht
 refine exG2_4 q0q fun es ep k5 k6 k7 k8 => ?_
 have ht0 : st.μ t = none := (Le.put_new hx' (Le.put_new hd Le.refl) : Le st.μ _).noneOf ht
 have htx : x ≠ t := ne_none (μ := ((st.put d (.dict [] 0)).put x (.inst 81 d)).μ) put_same ht
 have htd : d ≠ t := ne_none (μ := ((st.put d (.dict [] 0)).put x (.inst 81 d)).μ) (put_ne hdx put_same) ht
 refine ⟨rfl, h x _ (upd (upd (upd (fun _ => none) t (.tup (sy.map .str))) d (.dict es ep)) x (.inst 81 d)) k1 k2 ?_ ?_ ?_⟩
 ·intro a o e
  unfold upd at e
  split at e
  ·k_call_by "c" e; subst_vars; exact k3
  ·split at e
   ·k_call_by "c" e; subst_vars; exact k5
   ·split at e
    ·k_call_by "c" e; subst_vars; exact k4
    ·k_call_by "c" e
 ·intro a o e
  unfold upd at e
  split at e
  ·subst_vars; exact hx
  ·split at e
   ·subst_vars; exact hd
   ·split at e
    ·subst_vars; exact ht0
    ·k_call_by "c" e
 ·exact ⟨x, d, es, ep, t, rfl, u_same, u_ne hdx u_same, k6, k7, k8, u_ne (Ne.symm htx) (u_ne (Ne.symm htd) u_same)⟩
theorem Attrs.start {ad : Lb → Addr} {es : List (Str × V)} {v : V} (h : Attrs ad es) (hl : es.length ≤ 15) : Attrs ad (dput es "Start" v) := by
 obtain ⟨A1, A2, A3, A4, A5, A6, A7, A8, A9⟩ := h
 refine ⟨by walk_at "dg", by walk_at "dg", by walk_at "dg", by walk_at "dg", by walk_at "dg", by walk_at "dg", by walk_at "dg", Nat.le_trans (dput_len hl) (by omega), ?_⟩
 intro y hy
 have hy0 := A9 y hy
 simp only [List.mem_cons, List.not_mem_nil, or_false] at hy
 rcases hy with rfl | rfl | rfl | rfl | rfl | rfl | rfl | rfl | rfl <;> walk_at "dg"
theorem sp_set_start {n : Nat} {m : Mine g} {F : Addr → Option O} {gr : Addr} {ad : Lb → Addr} {S : GS} {sv v1 : V} {rest : List V} {p1 : PR} {start : Str} (hG : Gm st.μ F gr ad S) (hvs : S.vs = .none :: v1 :: rest) (hvl : S.vs.length ≤ 100) (hp1 : ProdAt F v1 p1) (hsv : (sv = .none ∧ start = p1.nm) ∨ (sv = .str start ∧ start.length ≠ 0)) (hsl : start.length ≤ 100)
  (hkn : start ∈ S.kn) (hcn : (S.cn start).length ≤ 100) (hes : S.es.length ≤ 15) (hok : PyData.strOk start = true)
  (h : ∀ μ' F' v0 ad', Le F F' → ProdAt F' v0 ⟨0, "S'", [start]⟩ → Gm μ' F' gr ad' { S with vs := v0 :: v1 :: rest, cn := fun k => if k = start then S.cn start ++ [.int 0] else S.cn k, es := dput S.es "Start" (.str start) } → Q .none ⟨st.σ, μ'⟩) :
  fnM ["self", "start"] (([] : List (Str × Value)).map fun p => (p.1, er p.2)) 2 (r_set_start (n := n) m).1 [.ref gr, sv] Q X st := by
 refine wk_en2 (a1 := "self") (v1 := (V.ref gr : V)) (a2 := "start") (v2 := (sv : V)) rfl (by kernel_rfl) (by kernel_rfl) fun σ s_self s_start => ?_
 obtain ⟨A1, A2, A3, A4, A5, A6, A7, A8, A9⟩ := hG.at_
 obtain ⟨i0, e0, i1, i2, e1, i3, e2, i4, e3, i5, e4, i6, e5, i7, i8⟩ := hG.all
 unfold r_set_start; dsimp only
 refine wk_cut (fun st1 => st1.σ "self" = some (.ref gr) ∧ st1.σ "start" = some (.str start) ∧ st1.μ = st.μ) ?_ (fun Q' hQ' => ?_)
 rotate_left
 ·rcases hsv with ⟨rfl, rfl⟩ | ⟨rfl, hne⟩
  ·walk_at "w"
   refine wk_pos rfl ?_
   walk_at "w"
   rw [hvs] at i2 hvl
   refine wk_idxL (j := 1) (u := v1) (by walk_at "mu") (by omega) (by simp [seqIndex?]; omega) rfl ?_
   obtain ⟨pa, pd, pes, pep, pt, rfl, q2, q3, q4, q5, q6, q7⟩ := hp1.le hG.mem.le
   walk_at "w"
   exact hQ' _ ⟨by walk_at "sg", by walk_at "sg", rfl⟩
  ·walk_at "w"
   refine wk_truthS (by omega) ?_
   walk_at "w"
   refine wk_neg (by simpa using hne) ?_
   walk_at "w"
   exact hQ' _ ⟨by walk_at "sg", by walk_at "sg", rfl⟩
 intro q0q q1q
 obtain ⟨σ1, μ1⟩ := q0q
 refine exG0_3 q1q fun s1 s2 e => ?_
 dsimp only at s1 s2 e
 subst e
 walk_at "w"
 rw [dget_tab_some]
 refine wk_neg (by simp [hkn]) ?_
 walk_at "w"
 refine wk_list (by simp) fun l hl => ?_
 have hG0 := hG.grow (Le.refl.new hl : Le st.μ (upd st.μ l (.list [.str start])))
 walk_at "w"
 refine sp_Prod4 (num := 0) (nm := "S'") (sy := [start]) (by exact put_same) hG0.tb (by simp) (by simpa using hok) (by simp; omega) fun x μ1 F1 k1 k2 k3 k4 k5 => ?_
 refine exG0_2 (hG0.prod k1 k2 k3 k4) fun hG1 hF1 => ?_
 have hP := k5.le hF1
 have hFF : Le F (un F F1) := un_l
 generalize un F F1 = F2 at hG1 hF1 hP hFF
 rw [show ((St.mk σ1 st.μ).put l (.list [.str start])).σ = σ1 from rfl]
 obtain ⟨i0, e0, i1, i2, e1, i3, e2, i4, e3, i5, e4, i6, e5, i7, i8⟩ := hG1.all
 walk_at "w"
 refine wk_itemL (by walk_at "mu") (by omega) (by rw [hvs]; simp; omega) (by omega) ?_
 have hset : S.vs.set (0 : Int).toNat (.ref x) = .ref x :: v1 :: rest := by rw [hvs]; rfl
 rw [hset]
 have hG2 : Gm ((⟨σ1, μ1⟩ : St).put (ad .P) (.list (.ref x :: v1 :: rest))).μ F2 gr ad { S with vs := .ref x :: v1 :: rest } := hG1.setP
 obtain ⟨j0, o0, j1, j2, o1, j3, o2, j4, o3, j5, o4, j6, o5, j7, j8⟩ := hG2.all
 have j9 := hG2.N (k := start) hkn
 dsimp only at j1 j6 j9
 have hcn' : (S.cn start).length ≤ 1000 := by omega
 walk_at "w"
 refine wk_idxD (u := .ref (ad (.N start))) (by walk_at "mu") (by rw [dget_tab, if_pos hkn]) ?_
 have hG3 : Gm (((⟨σ1, μ1⟩ : St).put (ad .P) (.list (.ref x :: v1 :: rest))).put (ad (.N start)) (.list (S.cn start ++ [.int 0]))).μ F2 gr ad { S with vs := .ref x :: v1 :: rest, cn := fun k => if k = start then S.cn start ++ [.int 0] else S.cn k } := hG2.appN hkn
 obtain ⟨l0, u0, l1, -, -, -, -, -, -, -, -, -, -, -, -⟩ := hG3.all
 dsimp only at l1
 have hes' : S.es.length ≤ 1000 := by omega
 walk_at "w"
 exact h _ F2 (.ref x) ad hFF hP (hG3.setD (hG.at_.start hes))
end Kk
end
section
set_option maxHeartbeats 1000000
namespace Kk
variable {α β γ δ : Type}
set_option genInjectivity false in
structure R where
 nm : Str
 sy : List Str
 fl : Bool
inductive RowR (μ : Addr → Option O) (v : V) (r : R) : Prop
 | mk (a l : Addr) : v = .ref a → μ a = some (.tup [.str r.nm, .ref l, .bool r.fl]) → μ l = some (.list (r.sy.map .str)) → RowR μ v r
theorem RowR.le {μ μ' : Addr → Option O} (k : Le μ μ') {v : V} {r : R} (h : RowR μ v r) : RowR μ' v r := by obtain ⟨a, l, e, h1, h2⟩ := h; exact ⟨a, l, e, k _ _ h1, k _ _ h2⟩
noncomputable def names4 : List Str := ["s", "t", "u", "v"]
structure RowOk (r : R) : Prop where
 nm : r.nm ∈ names4
 sy : ∀ s ∈ r.sy, s ∈ alpha
 len : r.sy.length ≤ 3
structure RowsOk (rows : List R) : Prop where
 ok : ∀ r ∈ rows, RowOk r
 nd : (rows.map fun r => (r.nm, r.sy)).Nodup
 len : rows.length ≤ 8
theorem Rd.le {μ μ' : Addr → Option O} (k : Le μ μ') {v : V} {d : PyData} (r : Rd μ v d) : Rd μ' v d :=
 Rd.rec (motive_1 := fun v d _ => Rd μ' v d) (motive_2 := fun vs ds _ => RdAll μ' vs ds) .none .bool .int .str (fun h _ ih => .list (k _ _ h) ih) (fun h _ ih => .tup (k _ _ h) ih) .nil (fun _ _ a b => .cons a b) r
theorem RdAll.le {μ μ' : Addr → Option O} (k : Le μ μ') {vs : List V} {ds : List PyData} (r : RdAll μ vs ds) : RdAll μ' vs ds :=
 RdAll.rec (motive_1 := fun v d _ => Rd μ' v d) (motive_2 := fun vs ds _ => RdAll μ' vs ds) .none .bool .int .str (fun h _ ih => .list (k _ _ h) ih) (fun h _ ih => .tup (k _ _ h) ih) .nil (fun _ _ a b => .cons a b) r
theorem RdAll.app {μ : Addr → Option O} {vs ws : List V} {ds es : List PyData} (r : RdAll μ vs ds) (k : RdAll μ ws es) : RdAll μ (vs ++ ws) (ds ++ es) :=
 RdAll.rec (motive_1 := fun _ _ _ => True) (motive_2 := fun vs ds _ => RdAll μ (vs ++ ws) (ds ++ es)) trivial (fun _ => trivial) (fun _ => trivial) (fun _ => trivial) (fun _ _ _ => trivial) (fun _ _ _ => trivial) k (fun h _ _ ih => .cons h ih) r
noncomputable def rowD (nm : Str) (sy : List Str) : PyData := .tuple [.str nm, .list (sy.map .str)]
theorem eqvAll_strs : ∀ (xs ys : List Str), PyData.eqvAll (xs.map .str) (ys.map .str) = decide (xs = ys)
 | [], [] => rfl
 | [], _ :: _ => rfl
 | _ :: _, [] => rfl
 | x :: xs, y :: ys => by
  rw [List.map_cons, List.map_cons, PyData.eqvAll, PyData.eqv, eqvAll_strs xs ys]
  by_cases h : x = y
  ·subst h; simp
  ·simp [h]
theorem eqv_row {n1 n2 : Str} {s1 s2 : List Str} : PyData.eqv (rowD n1 s1) (rowD n2 s2) = decide (n1 = n2 ∧ s1 = s2) := by
 unfold rowD
 rw [PyData.eqv, PyData.eqvAll, PyData.eqvAll, PyData.eqvAll, PyData.eqv, PyData.eqv, eqvAll_strs, Bool.and_true]
 by_cases h : n1 = n2
 ·subst h; simp
 ·simp [h]
theorem row_lay {nm : Str} {sy : List Str} (h1 : PyData.strOk nm = true) (h2 : ∀ s ∈ sy, PyData.strOk s = true) : (rowD nm sy).canLay0 = true := by
 unfold rowD
 rw [PyData.canLay0, PyData.canLayAll0, PyData.canLayAll0, PyData.canLayAll0, PyData.canLay0, PyData.canLay0, h1, canLay_strs h2]; rfl
theorem row_depth {nm : Str} {sy : List Str} : (rowD nm sy).depth = 2 := by
 unfold rowD
 rw [PyData.depth, PyData.depthAll, PyData.depthAll, PyData.depthAll, PyData.depth, PyData.depth, depth_strs]; rfl
theorem alpha_ok : ∀ s ∈ alpha, PyData.strOk s = true := by decide +kernel
theorem names_ok : ∀ s ∈ names4, PyData.strOk s = true := by decide +kernel
theorem rows_lay : ∀ {rs : List R}, (∀ r ∈ rs, RowOk r) → PyData.canLayAll0 (rs.map fun r => rowD r.nm r.sy) = true
 | [], _ => rfl
 | r :: rs, h => by
  have hr := h r (.head _)
  rw [List.map_cons, PyData.canLayAll0, row_lay (names_ok _ hr.nm) fun s hs => alpha_ok _ (hr.sy s hs), rows_lay fun q hq => h q (.tail _ hq)]; rfl
theorem rows_depth : ∀ (rs : List R), PyData.depthAll (rs.map fun r => rowD r.nm r.sy) ≤ 2
 | [] => by rw [List.map_nil, PyData.depthAll]; omega
 | r :: rs => by rw [List.map_cons, PyData.depthAll, row_depth]; have := rows_depth rs; omega
theorem rows_any (rs : List R) (nm : Str) (sy : List Str) : ((rs.map fun r => rowD r.nm r.sy).any fun y => PyData.eqv y (rowD nm sy)) = decide ((nm, sy) ∈ rs.map fun r => (r.nm, r.sy)) := by
 induction rs with
 | nil => rfl
 | cons r rs ih =>
  rw [List.map_cons, List.any_cons, ih, eqv_row, List.map_cons]
  by_cases h : r.nm = nm ∧ r.sy = sy
  ·obtain ⟨rfl, rfl⟩ := h; simp
  ·have : ¬ ((nm, sy) = (r.nm, r.sy)) := by rintro e; k_call_by "c" e; exact h ⟨rfl, rfl⟩
   simp [h, this]
section
variable {X : Ex → St → Prop} {st : St} {Q : V → St → Prop}
theorem wk_sliceP {a : Addr} {i j : Int} {vs : Array Value} (h1 : st.μ a = some (.pin vs)) (h2 : 0 ≤ i) (h3 : i ≤ j) (h4 : (vs.toList.map er).length ≤ 1000) (h : ∀ b, st.μ b = none → Q (.ref b) (st.put b (.list (((vs.toList.map er).drop i.toNat).take (j - i).toNat)))) : sliceM (.ref a) (some i) (some j) Q X st := .pin h1 h2 h3 h4 h
theorem wk_sliceT {a : Addr} {j : Int} {xs : List V} (h1 : st.μ a = some (.tup xs)) (h2 : 1 ≤ j) (h3 : j < xs.length) (h4 : xs.length ≤ 1000) (h : ∀ b, st.μ b = none → Q (.ref b) (st.put b (.tup (xs.take j.toNat)))) : sliceM (.ref a) none (some j) Q X st := .tup h1 h2 h3 h4 h
theorem wk_div {i j : Int} (h1 : j ≠ 0) (h2 : j.natAbs ≤ 100000) (h : Q (.int (i.fdiv j)) st) : binM .FloorDiv (.int i) (.int j) Q X st := .divI h1 h2 h
theorem wk_mod {i j : Int} (h1 : j ≠ 0) (h : Q (.int (i.fmod j)) st) : binM .Mod (.int i) (.int j) Q X st := .modI h1 h
end
theorem wk_ninR {a : Addr} {x : V} {xs : List V} {ds : List PyData} {d : PyData} {Q : Bool → St → Prop} {X : Ex → St → Prop} {st : St} (h1 : st.μ a = some (.list xs)) (h2 : RdAll st.μ xs ds) (h3 : Rd st.μ x d) (h4 : okD (.list ds)) (h5 : okD d) (h : Q (!(ds.any fun y => PyData.eqv y d)) st) : cmpM .NotIn x (.ref a) Q X st := .nin (.list h1 h2 h3 h4 h5 h)
noncomputable def pickB (t : Str) (al : List Str) (i : Int) : Bool := (decide (-1000 ≤ i) && decide (i ≤ 1000)) && (match (seqIndex? i t.length).bind (t.cps[·]?) with | some c => decide ((⟨#[c]⟩ : Str) ∈ al) | none => false)
theorem pick_of {t : Str} {al : List Str} {i : Int} (h : pickB t al i = true) : ∃ c, (decide (-1000 ≤ i) && decide (i ≤ 1000)) = true ∧ (seqIndex? i t.length).bind (t.cps[·]?) = some c ∧ (⟨#[c]⟩ : Str) ∈ al := by
 unfold pickB at h
 rw [Bool.and_eq_true] at h
 have h2 := h.2
 cases hc : (seqIndex? i t.length).bind (t.cps[·]?) with
 | none => rw [hc] at h2; k_call_by "c" h2
 | some c => rw [hc] at h2; exact ⟨c, h.1, rfl, of_decide_eq_true h2⟩
theorem pick8 {i : Int} (h0 : 0 ≤ i) (h1 : i < 8) : ∃ c, (decide (-1000 ≤ i) && decide (i ≤ 1000)) = true ∧ (seqIndex? i ("ABC+stuv" : Str).length).bind (("ABC+stuv" : Str).cps[·]?) = some c ∧ (⟨#[c]⟩ : Str) ∈ alpha := by
 obtain ⟨k, rfl⟩ := Int.eq_ofNat_of_zero_le h0
 exact pick_of ((by decide +kernel : ∀ k : _root_.Fin 8, pickB "ABC+stuv" alpha ((k : Nat) : Int) = true) ⟨k, by omega⟩)
theorem pick4 {i : Int} (h0 : 0 ≤ i) (h1 : i < 4) : ∃ c, (decide (-1000 ≤ i) && decide (i ≤ 1000)) = true ∧ (seqIndex? i ("stuv" : Str).length).bind (("stuv" : Str).cps[·]?) = some c ∧ (⟨#[c]⟩ : Str) ∈ names4 := by
 obtain ⟨k, rfl⟩ := Int.eq_ofNat_of_zero_le h0
 exact pick_of ((by decide +kernel : ∀ k : _root_.Fin 4, pickB "stuv" names4 ((k : Nat) : Int) = true) ⟨k, by omega⟩)
variable {g : Gx} {X : Ex → St → Prop} {Q : V → St → Prop} {st : St}
theorem sp_law_rows {n : Nat} {m : Mine g} {sc : Addr} {ns : List Int} {pv : Array Value} (hs : st.μ sc = some (.pin pv)) (hpv : pv.toList.map er = ns.map .int) (hl : ns.length ≤ 100)
  (h : ∀ a μ' vs rows, Le st.μ μ' → μ' a = some (.list vs) → LR (RowR μ') vs rows → RowsOk rows → rows ≠ [] → Q (.ref a) ⟨st.σ, μ'⟩) :
  fnM ["script"] (([] : List (Str × Value)).map fun p => (p.1, er p.2)) 1 (r_law_rows (n := n) m).1 [.ref sc] Q X st := by
 refine wk_en1 (a1 := "script") (v1 := (V.ref sc : V)) rfl (by kernel_rfl) fun σ s_script => ?_
 unfold r_law_rows; dsimp only
 walk_at "w"
 refine wk_list (by simp) fun r hr => ?_
 walk_at "w"
 dsimp only
 have hpl : (pv.toList.map er).length ≤ 1000 := by rw [hpv]; simp; omega
 refine wk_sliceP (vs := pv) (by walk_at "mu") (by omega) (by omega) hpl fun b hb => ?_
 rw [hpv]
 have hrb : r ≠ b := ne_none put_same hb
 have hsl : ((ns.map V.int).drop (1 : Int).toNat).take (9 - 1 : Int).toNat = ((ns.drop 1).take 8).map V.int := by
  rw [List.map_take, List.map_drop]; rfl
 rw [hsl]
 have hnl : ((ns.drop 1).take 8).length ≤ 8 := by simp; omega
 generalize (ns.drop 1).take 8 = nums at hnl
 walk_at "w"
 have hb0 : st.μ b = none := by
  cases e : st.μ b with
  | none => rfl
  | some o => rw [show ((({ σ := σ, μ := st.μ } : St).put r (.list [])).set "rows" (.ref r)).μ b = upd st.μ r (.list []) b from rfl, u_ne (Ne.symm hrb) e] at hb; k_call_by "c" hb
 have hLe : Le st.μ ((((St.mk σ st.μ).put r (.list [])).set "rows" (.ref r)).put b (.list (nums.map .int))).μ := by walk_at "le"
 refine loop_gen (its_list (xs := nums.map .int) (by walk_at "mu")) (ys := nums) (G := fun l y => l = [.int y]) (by rw [List.map_map]; exact LR.of_map (R := fun (l : List V) y => l = [V.int y]) (f := fun y => [V.int y]) (fun _ => rfl) nums) (fun pre st' => st'.σ "rows" = some (.ref r) ∧ st'.μ b = some (.list (nums.map .int)) ∧ ∃ F acc rws, Le st.μ F ∧ F r = none ∧ F b = some (.list (nums.map .int)) ∧ Le F st'.μ ∧ st'.μ r = some (.list acc) ∧ LR (RowR F) acc rws ∧ RowsOk rws ∧ rws.length ≤ pre.length) ?_ ?_ ?_ ?_
 ·refine ⟨by walk_at "sg", put_same, upd st.μ b (.list (nums.map .int)), [], [], Le.refl.new hb0, u_none hrb hr, u_same, ?_, by walk_at "mu", trivial, ⟨by simp, by simp, by simp⟩, by simp⟩
  refine Le.ext (μ := (((St.mk σ st.μ).put r (.list [])).set "rows" (.ref r)).μ) ?_ hb
  walk_at "le"
 ·intro i st' hi q0q
  refine exG0_3 q0q fun _ k1 _ => ?_
  exact cur_list k1
 ·intro pre y post l st1 K hns q0q q1q hK
  obtain rfl := q0q
  refine exG0_3 q1q fun s1 k0 r1 => ?_
  refine exG3_8 r1 fun F acc rws k1 k2 k3 k4 k5 k6 k7 k8 => ?_
  have hpl : pre.length + 1 ≤ 8 := by have := congrArg List.length hns; simp at this; omega
  have hal : acc.length ≤ 8 := by have := k6.length; omega
  walk_at "w"
  refine wk_list (by simp) fun s hs1 => ?_
  have hFs : F s = none := k4.noneOf hs1
  have hrs : r ≠ s := ne_none k5 hs1
  walk_at "w"
  refine wk_div (by decide) (by decide) ?_
  walk_at "w"
  refine wk_div (by decide) (by decide) ?_
  walk_at "w"
  refine wk_mod (by decide) ?_
  walk_at "w"
  have hm0 : 0 ≤ (y.fdiv 4).fmod 4 := Int.fmod_nonneg_of_pos _ (by decide)
  have hm1 : (y.fdiv 4).fmod 4 < 4 := Int.fmod_lt_of_pos _ (by decide)
  refine wk_rng (by omega) (by omega) ?_
  have hkk : ((y.fdiv 4).fmod 4).toNat ≤ 3 := by omega
  generalize ((y.fdiv 4).fmod 4).toNat = kk at hkk
  refine loop_gen (its := (List.range kk).map fun i : Nat => [V.int (i : Int)]) rfl (ys := List.range kk) (G := fun l i => l = [V.int ((i : Nat) : Int)]) (LR.of_map (R := fun (l : List V) i => l = [V.int ((i : Nat) : Int)]) (f := fun i : Nat => [V.int (i : Int)]) (fun _ => rfl) _) (fun pre2 st' => st'.σ "rows" = some (.ref r) ∧ st'.σ "number" = some (.int y) ∧ st'.σ "symbols" = some (.ref s) ∧ Le F st'.μ ∧ st'.μ r = some (.list acc) ∧
   ∃ (rest : Int) (sy : List Str), st'.σ "rest" = some (.int rest) ∧ st'.μ s = some (.list (sy.map .str)) ∧ sy.length = pre2.length ∧ ∀ x ∈ sy, x ∈ alpha) ?_ ?_ ?_ ?_
  ·exact ⟨by walk_at "sg", by walk_at "sg", by walk_at "sg", k4.new hs1, by walk_at "mu", _, [], by walk_at "sg", set_mu (set_mu put_same), rfl, by simp⟩
  ·rintro i st' hi _
   exact cur_rng
  ·intro pre2 i post2 l st2 K2 hrg q0q q1q hK2
   obtain rfl := q0q
   refine exG0_6 q1q fun t1 t2 t3 t4 t5 r2 => ?_
   refine exG2_4 r2 fun rest sy t6 t7 t8 t9 => ?_
   have hp2 : pre2.length ≤ 3 := preLe hrg (by first | omega | (simp; done) | (simp; omega))
   have hsyl : (sy.map V.str).length ≤ 1000 := by simp; omega
   walk_at "w"
   refine wk_mod (by decide) ?_
   walk_at "w"
   refine exG1_3 (pick8 (i := rest.fmod 8) (Int.fmod_nonneg_of_pos _ (by decide)) (Int.fmod_lt_of_pos _ (by decide))) fun c c1 c2 c3 => ?_
   refine wk_idxS c1 c2 ?_
   walk_at "w"
   refine wk_div (by decide) (by decide) ?_
   walk_at "w"
   refine hK2 _ ⟨by walk_at "sg", by walk_at "sg", by walk_at "sg", t4.mut hFs, by exact set_mu (put_ne hrs (set_mu t5)), _, sy ++ [⟨#[c]⟩], by walk_at "sg", ?_, by simp [t8], ?_⟩
   ·rw [List.map_append]; exact set_mu put_same
   ·intro x hx
    rcases List.mem_append.mp hx with hx | hx
    ·exact t9 x hx
    ·rw [List.mem_singleton.mp hx]; exact c3
  intro st2 q0q
  refine exG0_6 q0q fun t1 t2 t3 t4 t5 r3 => ?_
  refine exG2_4 r3 fun rest sy t6 t7 t8 t9 => ?_
  have hsy3 : sy.length ≤ 3 := by rw [t8]; simpa using hkk
  have hF1 : Le (upd F s (.list (sy.map .str))) st2.μ := t4.upd_of t7
  have hFF1 : Le F (upd F s (.list (sy.map .str))) := Le.refl.new hFs
  have hF1r : upd F s (.list (sy.map .str)) r = none := u_none hrs k2
  have hF1s : upd F s (.list (sy.map .str)) s = some (.list (sy.map .str)) := u_same
  generalize upd F s (.list (sy.map .str)) = F1 at hF1 hFF1 hF1r hF1s
  walk_at "w"
  refine wk_mod (by decide) ?_
  walk_at "w"
  refine exG1_3 (pick4 (i := y.fmod 4) (Int.fmod_nonneg_of_pos _ (by decide)) (Int.fmod_lt_of_pos _ (by decide))) fun c c1 c2 c3 => ?_
  refine wk_idxS c1 c2 ?_
  walk_at "w"
  refine wk_tup (by simp) fun w hw => ?_
  have hwr : r ≠ w := ne_none t5 hw
  have hF2 : Le (upd F1 w (.tup [.str ⟨#[c]⟩, .ref s])) (st2.put w (.tup [.str ⟨#[c]⟩, .ref s])).μ := Le.ext hF1 hw
  have hFF2 : Le F1 (upd F1 w (.tup [.str ⟨#[c]⟩, .ref s])) := Le.refl.new (hF1.noneOf hw)
  have hF2r : upd F1 w (.tup [.str ⟨#[c]⟩, .ref s]) r = none := u_none hwr hF1r
  have hF2w : upd F1 w (.tup [.str ⟨#[c]⟩, .ref s]) w = some (.tup [.str ⟨#[c]⟩, .ref s]) := u_same
  generalize upd F1 w (.tup [.str ⟨#[c]⟩, .ref s]) = F2 at hF2 hFF2 hF2r hF2w
  have hF02 : Le F F2 := hFF1.trans hFF2
  walk_at "w"
  refine wk_comp (hasFree_of [] (by kernel_rfl) trivial) ?_
  walk_at "w"
  refine comp_gen (hasFree_of [] (by kernel_rfl) trivial) (its_list (xs := acc) (by walk_at "mu")) k6.ones (fun pre3 acc3 st' => ∃ F3, Le F2 F3 ∧ F3 r = none ∧ Le F3 st'.μ ∧ st'.μ r = some (.list acc) ∧ RdAll F3 acc3 (pre3.map fun q => rowD q.nm q.sy)) ?_ ?_ ?_ ?_
  ·exact ⟨F2, Le.refl, hF2r, hF2, by exact put_old hw t5, .nil⟩
  ·intro i acc3 st' hi q0q
   refine exG1_5 q0q fun F3 _ _ _ k _ => ?_
   exact cur_list k
  ·intro pre3 q post3 l acc3 st3 K3 hq q0q q1q hK3
   refine exG1_2 q0q fun v r4 hR => ?_
   obtain rfl := r4
   refine exG1_5 q1q fun F3 f1 f2 f3 f4 f5 => ?_
   obtain ⟨qa, ql, rfl, q1, q2⟩ := hR.le (hF02.trans f1)
   have hac : acc3.length ≤ 1000 := by
    have h1 := LR.length k6
    have h2 : ∀ {vs : List V} {ds : List PyData}, RdAll F3 vs ds → vs.length = ds.length := by
     intro vs ds h; induction h using RdAll.rec (motive_1 := fun _ _ _ => True) <;> simp_all
    have h3 := h2 f5
    have h4 := congrArg List.length hq
    simp at h3 h4; omega
   walk_at "w"
   refine wk_splitC (fun _ => ?_) (fun hb => by k_call_by "c" hb)
   walk_at "w"
   dsimp only
   refine wk_sliceT (xs := [.str q.nm, .ref ql, .bool q.fl]) (by walk_at "mu") (by omega) (by simp) (by simp) fun b3 hb3 => ?_
   refine ⟨hac, hK3 _ _ ⟨upd F3 b3 (.tup [.str q.nm, .ref ql]), f1.trans (Le.refl.new (f3.noneOf hb3)), u_none (ne_none f4 hb3) f2, Le.ext f3 hb3, put_old hb3 f4, ?_⟩⟩
   rw [List.map_append]
   refine RdAll.app (RdAll.le (Le.refl.new (f3.noneOf hb3)) f5) (.cons (.tup u_same (.cons (.str _) (.cons ?_ .nil))) .nil)
   exact Rd.le (Le.refl.new (f3.noneOf hb3)) (.list q2 (rdAll_strs q.sy))
  ·intro acc3 st3 D q0q hD
   refine exG1_5 q0q fun F3 f1 f2 f3 f4 f5 => ?_
   walk_at "w"
   have hnm : (⟨#[c]⟩ : Str) ∈ names4 := c3
   have g1 : Le F3 (upd st3.μ D (.list acc3)) := f3.new hD
   have hdep := rows_depth rws
   refine wk_ninR (xs := acc3) (ds := rws.map fun q : R => rowD q.nm q.sy) (d := rowD ⟨#[c]⟩ sy) (by exact u_same) (RdAll.le g1 f5) (.tup (g1 _ _ (f1 _ _ hF2w)) (.cons (.str _) (.cons (.list (g1 _ _ (f1 _ _ (hFF2 _ _ hF1s))) (rdAll_strs sy)) .nil)))
    ⟨rows_lay k7.ok, by rw [PyData.depth]; omega⟩ ⟨row_lay (names_ok _ hnm) fun x hx => alpha_ok _ (t9 x hx), by rw [row_depth]; omega⟩ ?_
   rw [rows_any]
   refine wk_split (fun hb1 => ?_) (fun hb1 => ?_)
   ·have hnew : ((⟨#[c]⟩ : Str), sy) ∉ rws.map fun q => (q.nm, q.sy) := by simpa using hb1
    have f4' : upd st3.μ D (.list acc3) r = some (.list acc) := u_old hD f4
    have gw : upd st3.μ D (.list acc3) w = some (.tup [.str ⟨#[c]⟩, .ref s]) := g1 _ _ (f1 _ _ hF2w)
    walk_at "w"
    refine wk_div (by decide) (by decide) ?_
    walk_at "w"
    refine wk_mod (by decide) ?_
    walk_at "w"
    refine wk_tup (by simp) fun w2 hw2 => ?_
    walk_at "w"
    refine wk_addT (xs := [.str ⟨#[c]⟩, .ref s]) (ys := [.bool _]) (by walk_at "mu") (by walk_at "mu") (by simp) (by simp) (by simp) (by simp) fun w3 hw3 => ?_
    have hrw2 : r ≠ w2 := ne_none f4' hw2
    have hrw3 : r ≠ w3 := ne_none (put_ne hrw2 f4') hw3
    have hal' : acc.length ≤ 1000 := by omega
    walk_at "w"
    have hF3w : F3 w3 = none := (Le.put_new hw2 g1).noneOf hw3
    have hLe4 := Le.refl.new (o := .tup [.str ⟨#[c]⟩, .ref s, .bool ((y.fdiv 16).fmod 2 == 1)]) hF3w
    refine hK _ ⟨by walk_at "sg", ?_, upd F3 w3 (.tup [.str ⟨#[c]⟩, .ref s, .bool ((y.fdiv 16).fmod 2 == 1)]), acc ++ [.ref w3], rws ++ [⟨⟨#[c]⟩, sy, (y.fdiv 16).fmod 2 == 1⟩], ((k1.trans hF02).trans f1).trans hLe4, u_none hrw3 f2, hLe4 _ _ (f1 _ _ (hF02 _ _ k3)), ?_, put_same, ?_, ⟨?_, ?_, ?_⟩, by simp; omega⟩
    ·exact put_ne (Ne.symm hrb) (put_old hw3 (put_old hw2 (g1 _ _ (f1 _ _ (hF02 _ _ k3)))))
    ·exact Le.put_mut (u_none hrw3 f2) (Le.ext (Le.put_new hw2 g1) hw3)
    ·refine LR.app (k6.mono fun v q hq => hq.le ((hF02.trans f1).trans hLe4)) (LR.one ⟨w3, s, rfl, u_same, hLe4 _ _ (f1 _ _ (hFF2 _ _ hF1s))⟩)
    ·intro q hq
     rcases List.mem_append.mp hq with hq | hq
     ·exact k7.ok q hq
     ·rw [List.mem_singleton.mp hq]; exact ⟨c3, t9, hsy3⟩
    ·rw [List.map_append, List.nodup_append]
     refine ⟨k7.nd, by simp, ?_⟩
     intro a ha b hb e
     simp only [List.map_cons, List.map_nil, List.mem_singleton] at hb
     subst hb; subst e; exact hnew ha
    ·simp; omega
   ·walk_at "w"
    refine hK _ ⟨by walk_at "sg", ?_, F3, acc, rws, ((k1.trans hF02).trans f1), f2, ?_, g1, ?_, k6.mono fun v q hq => hq.le (hF02.trans f1), k7, by simp; omega⟩
    ·exact g1 _ _ (f1 _ _ (hF02 _ _ k3))
    ·exact f1 _ _ (hF02 _ _ k3)
    ·exact u_old hD f4
 ·intro st1 q0q
  refine exG0_3 q0q fun s1 k0 r5 => ?_
  refine exG3_8 r5 fun F acc rws k1 k2 k3 k4 k5 k6 k7 k8 => ?_
  walk_at "w"
  have hal : acc.length ≤ 100000 := by have := k6.length; have := k7.len; omega
  refine wk_lenL (by walk_at "mu") hal ?_
  walk_at "w"
  refine wk_split (fun hb => ?_) (fun hb => ?_)
  ·walk_at "w"
   refine wk_list (by simp) fun l1 hl1 => ?_
   walk_at "w"
   refine wk_tup (by simp) fun t1 ht1 => ?_
   walk_at "w"
   refine wk_list (by simp) fun l2 hl2 => ?_
   walk_at "w"
   refine wk_tup (by simp) fun t2 ht2 => ?_
   walk_at "w"
   refine wk_list (by simp) fun l3 hl3 => ?_
   walk_at "w"
   refine wk_tup (by simp) fun t3 ht3 => ?_
   walk_at "w"
   refine wk_list (by simp) fun L hL => ?_
   walk_at "w"
   have hk := k1.trans k4
   refine h L _ [.ref t1, .ref t2, .ref t3] [⟨"s", ["t", "A"], false⟩, ⟨"t", ["t", "u", "+"], true⟩, ⟨"v", [], false⟩] (by walk_at "le") (by walk_at "mu") ⟨⟨t1, l1, rfl, by walk_at "mu", by
    show _ = some (O.list [V.str "t", V.str "A"]); walk_at "mu"⟩, ⟨t2, l2, rfl, by walk_at "mu", by
    show _ = some (O.list [V.str "t", V.str "u", V.str "+"]); walk_at "mu"⟩, ⟨t3, l3, rfl, by walk_at "mu", by
    show _ = some (O.list []); walk_at "mu"⟩, trivial⟩ ⟨?_, ?_, by simp⟩ (by simp)
   ·intro q hq
    simp only [List.mem_cons, List.not_mem_nil, or_false] at hq
    rcases hq with rfl | rfl | rfl
    ·exact ⟨by decide +kernel, by decide +kernel, by decide⟩
    ·exact ⟨by decide +kernel, by decide +kernel, by decide⟩
    ·exact ⟨by decide +kernel, by decide +kernel, by decide⟩
   ·decide +kernel
  ·walk_at "w"
   refine h r _ acc rws (k1.trans k4) k5 (k6.mono fun v q hq => hq.le k4) k7 ?_
   rintro rfl
   have := k6.length
   simp at this; simp [this] at hb
end Kk
end
section
set_option maxHeartbeats 1000000
namespace Kk
variable {α β γ δ : Type}
noncomputable def toks : List Str := ["A", "B", "C", "+"]
noncomputable def prOf (p : R × Nat) : PR := ⟨(p.2 : Int), p.1.nm, p.1.sy⟩
noncomputable def numb (rows : List R) : List PR := (rows.zipIdx 1).map prOf
theorem numb_app (rows : List R) (r : R) : numb (rows ++ [r]) = numb rows ++ [⟨((rows.length + 1 : Nat) : Int), r.nm, r.sy⟩] := by
 unfold numb
 rw [List.zipIdx_append, List.map_append]
 simp [prOf, Nat.add_comm]
noncomputable def occ (rows : List R) (k : Str) : List Int := (numb rows).flatMap fun p => (p.sy.filter fun t => decide (t = k)).map fun _ => p.num
theorem occ_app (rows : List R) (r : R) (k : Str) : occ (rows ++ [r]) k = occ rows k ++ (r.sy.filter fun t => decide (t = k)).map fun _ => ((rows.length + 1 : Nat) : Int) := by
 unfold occ
 rw [numb_app, List.flatMap_append]
 simp
noncomputable def kbOf (rows : List R) : List Str := rows.foldl (fun acc r => if r.nm ∈ acc then acc else acc ++ [r.nm]) []
noncomputable def knOf (rows : List R) : List Str := rows.foldl (fun acc r => knAdd toks (knStep toks acc r.nm) r.sy) []
noncomputable def ktOf (rows : List R) : List Str := ktP ["A", "B", "C", "error"] (rows.flatMap R.sy)
noncomputable def usOf (rows : List R) : List Str := if rows.any (·.fl) then ["Z"] else []
theorem alpha_split : ∀ s ∈ alpha, s ∈ toks ∨ s ∈ names4 := by decide +kernel
theorem names_toks : ∀ s ∈ names4, s ∉ toks := by decide +kernel
theorem names_alpha : ∀ s ∈ names4, s ∈ alpha := by decide +kernel
theorem names_kt : ∀ s ∈ names4, s ∉ ((["A", "B", "C", "error", "+"] : List Str)) := by decide +kernel
theorem toks_kt : ∀ s ∈ toks, s = ("+" : Str) ∨ s ∈ ((["A", "B", "C", "error"] : List Str)) := by decide +kernel
theorem ktOf_app (rows : List R) (r : R) : ktOf (rows ++ [r]) = ktP (ktOf rows) r.sy := by
 unfold ktOf ktP
 rw [List.flatMap_append]
 have h0 : ("+" : Str) ∉ ((["A", "B", "C", "error"] : List Str)) := by decide +kernel
 simp only [List.flatMap_cons, List.flatMap_nil, List.append_nil, List.mem_append, if_neg h0]
 by_cases h1 : ("+" : Str) ∈ rows.flatMap R.sy
 ·by_cases h2 : ("+" : Str) ∈ r.sy
  ·simp [h1, h2]
  ·simp [h1, h2]
 ·by_cases h2 : ("+" : Str) ∈ r.sy
  ·simp only [h1, h2, or_true, if_true, if_false, h0]
  ·simp [h1, h2]
theorem ktOf_sub {rows : List R} {k : Str} (h : k ∈ ktOf rows) : k ∈ ((["A", "B", "C", "error", "+"] : List Str)) := by
 unfold ktOf ktP at h
 have h0 : ("+" : Str) ∉ ((["A", "B", "C", "error"] : List Str)) := by decide +kernel
 rw [if_neg h0] at h
 split at h
 ·simpa using h
 ·simp at h ⊢; rcases h with h | h | h | h <;> simp [h]
theorem ktOf_len (rows : List R) : (ktOf rows).length ≤ 5 := by
 unfold ktOf ktP
 split
 ·split <;> simp
 ·simp
theorem ktOf_toks {rows : List R} (h : ∀ r ∈ rows, RowOk r) {r : R} {s : Str} (hr : r ∈ rows) (hs : s ∈ r.sy) : (s ∈ ktOf rows ↔ s ∈ toks) := by
 have hal := (h r hr).sy s hs
 constructor
 ·intro hk
  rcases alpha_split s hal with h1 | h1
  ·exact h1
  ·exact absurd (ktOf_sub hk) (names_kt s h1)
 ·intro ht
  unfold ktOf ktP
  have h0 : ("+" : Str) ∉ ((["A", "B", "C", "error"] : List Str)) := by decide +kernel
  rw [if_neg h0]
  rcases toks_kt s ht with rfl | h1
  ·rw [if_pos (List.mem_flatMap.mpr ⟨r, hr, hs⟩)]; simp
  ·split
   ·exact List.mem_append.mpr (.inl h1)
   ·exact h1
theorem ktOf_mono {rows : List R} {r : R} {k : Str} (h : k ∈ ktOf rows) : k ∈ ktOf (rows ++ [r]) := by
 rw [ktOf_app]
 unfold ktP
 split
 ·split
  ·exact h
  ·exact List.mem_append.mpr (.inl h)
 ·exact h
theorem occ_nil {rows : List R} {k : Str} (h : ∀ r ∈ rows, k ∉ r.sy) : occ rows k = [] := by
 unfold occ numb
 rw [List.flatMap_eq_nil_iff]
 intro p hp
 rw [List.map_eq_nil_iff, List.filter_eq_nil_iff]
 intro t ht he
 have : t = k := of_decide_eq_true he
 subst this
 refine exG1_2 (List.mem_map.mp hp) fun r1 hr1 r2 => ?_
 obtain ⟨r, i⟩ := r1
 obtain rfl := r2
 exact h r ((List.mem_zipIdx hr1).2.2 ▸ List.getElem_mem _) ht
theorem knAdd_congr {kt kt' : List Str} : ∀ {sy kn : List Str}, (∀ s ∈ sy, (s ∈ kt ↔ s ∈ kt')) → knAdd kt kn sy = knAdd kt' kn sy
 | [], _, _ => rfl
 | y :: r, kn, h => by
  unfold knAdd
  rw [List.foldl_cons, List.foldl_cons]
  have e : knStep kt kn y = knStep kt' kn y := by unfold knStep; simp only [h y (.head _)]
  rw [e]
  exact knAdd_congr fun s hs => h s (.tail _ hs)
theorem knOf_app (rows : List R) (r : R) : knOf (rows ++ [r]) = knAdd toks (knStep toks (knOf rows) r.nm) r.sy := by simp [knOf]
theorem kbOf_app (rows : List R) (r : R) : kbOf (rows ++ [r]) = if r.nm ∈ kbOf rows then kbOf rows else kbOf rows ++ [r.nm] := by
 unfold kbOf; rw [List.foldl_append]; rfl
theorem usOf_app (rows : List R) (r : R) : usOf (rows ++ [r]) = usZ (usOf rows) r.fl := by
 unfold usOf usZ
 rw [List.any_append]
 cases h1 : rows.any (·.fl) <;> cases h2 : r.fl <;> simp [h2]
theorem kbOf_len : ∀ (rows : List R), (kbOf rows).length ≤ rows.length := by
 intro rows
 suffices h : ∀ (rows : List R) (acc : List Str), (rows.foldl (fun acc r => if r.nm ∈ acc then acc else acc ++ [r.nm]) acc).length ≤ acc.length + rows.length by
  simpa [kbOf] using h rows []
 intro rows
 induction rows with
 | nil => intro acc; simp
 | cons r rs ih =>
  intro acc
  rw [List.foldl_cons]
  refine Nat.le_trans (ih _) ?_
  split
  ·simp
  ·simp; omega
theorem knOf_len : ∀ (rows : List R), (∀ r ∈ rows, r.sy.length ≤ 3) → (knOf rows).length ≤ 4 * rows.length := by
 intro rows
 suffices h : ∀ (rows : List R) (acc : List Str), (∀ r ∈ rows, r.sy.length ≤ 3) → (rows.foldl (fun acc r => knAdd toks (knStep toks acc r.nm) r.sy) acc).length ≤ acc.length + 4 * rows.length by
  intro h2; simpa [knOf] using h rows [] h2
 intro rows
 induction rows with
 | nil => intro acc _; simp
 | cons r rs ih =>
  intro acc h
  rw [List.foldl_cons]
  refine Nat.le_trans (ih _ fun q hq => h q (.tail _ hq)) ?_
  have h1 := knAdd_len toks r.sy (knStep toks acc r.nm)
  have h2 := h r (.head _)
  have h3 : (knStep toks acc r.nm).length ≤ acc.length + 1 := by
   unfold knStep; split
   ·omega
   ·simp
  simp; omega
theorem occ_len (rows : List R) (k : Str) (h : ∀ r ∈ rows, r.sy.length ≤ 3) : (occ rows k).length ≤ 3 * rows.length := by
 unfold occ numb
 rw [List.flatMap_map]
 suffices hh : ∀ (rows : List R) (n : Nat), (∀ r ∈ rows, r.sy.length ≤ 3) → ((rows.zipIdx n).flatMap fun p => ((prOf p).sy.filter fun t => decide (t = k)).map fun _ => (prOf p).num).length ≤ 3 * rows.length by
  exact hh rows 1 h
 intro rows
 induction rows with
 | nil => intro n _; simp
 | cons r rs ih =>
  intro n h
  rw [List.zipIdx_cons, List.flatMap_cons, List.length_append]
  have h1 := ih (n + 1) fun q hq => h q (.tail _ hq)
  have h2 : (((prOf (r, n)).sy.filter fun t => decide (t = k)).map fun _ => (prOf (r, n)).num).length ≤ 3 := by
   rw [List.length_map]; exact Nat.le_trans (List.length_filter_le ..) (h r (.head _))
  simp at h1 h2 ⊢; omega
structure GR (F : Addr → Option O) (S : GS) (rows : List R) : Prop where
 vs : ∃ rs, S.vs = .none :: rs ∧ LR (ProdAt F) rs (numb rows)
 pm : ∀ k, (dget S.pm k).isSome = true → ∃ r ∈ rows, k = arrowText r.nm r.sy
 pml : S.pm.length ≤ rows.length
 kb : S.kb = kbOf rows
 cb : ∀ k ∈ S.kb, LR (ProdAt F) (S.cb k) ((numb rows).filter fun p => p.nm = k)
 kt : S.kt = ktOf rows
 ct : ∀ k, S.ct k = if k ∈ ktOf rows then (occ rows k).map .int else []
 kn : S.kn = knOf rows
 cn : ∀ k, S.cn k = if k ∈ names4 then (occ rows k).map .int else []
 us : S.us = usOf rows
theorem dget_put_some {es : List (Str × V)} {k y : Str} {v : V} (h : (dget (dput es k v) y).isSome = true) : y = k ∨ (dget es y).isSome = true := by
 by_cases e : y = k
 ·exact .inl e
 ·rw [dget_put_ne e] at h; exact .inr h
theorem numb_len (rows : List R) : (numb rows).length = rows.length := by simp [numb]
theorem GR.small {F : Addr → Option O} {S : GS} {rows : List R} (h : GR F S rows) (hr : ∀ r ∈ rows, RowOk r) (hl : rows.length ≤ 8) : Small S ∧ S.us.length ≤ 50 ∧ S.kt.length ≤ 50 := by
 have h3 : ∀ r ∈ rows, r.sy.length ≤ 3 := fun r hm => (hr r hm).len
 have hocc := fun k => occ_len rows k h3
 refine exG1_2 h.vs fun rs h1 h2 => ?_
 have h4 := h2.length
 rw [numb_len] at h4
 refine ⟨⟨by rw [h1]; simp; omega, by have := h.pml; omega, by rw [h.kb]; have := kbOf_len rows; omega, ?_, by rw [h.kn]; have := knOf_len rows h3; omega, ?_, ?_, ?_, by rw [h.kt]; have := ktOf_len rows; omega, ?_, ?_⟩, ?_, ?_⟩
 ·intro k hk
  have h5 := (h.cb k hk).length
  have h6 : ((numb rows).filter fun p => p.nm = k).length ≤ (numb rows).length := List.length_filter_le ..
  rw [numb_len] at h6; omega
 ·intro k hk
  rw [h.cn]
  by_cases hn : k ∈ names4
  ·rw [if_pos hn]
   rw [List.map_eq_nil_iff]
   rw [h.kn] at hk
   unfold occ
   rw [List.flatMap_eq_nil_iff]
   intro p hp
   rw [List.map_eq_nil_iff, List.filter_eq_nil_iff]
   intro t ht he
   have : t = k := of_decide_eq_true he
   subst this
   exfalso
   apply hk
   refine exG1_2 (List.mem_map.mp hp) fun r3 hr1 r4 => ?_
   obtain ⟨r, i⟩ := r3
   obtain rfl := r4
   have hrm : r ∈ rows := (List.mem_zipIdx hr1).2.2 ▸ List.getElem_mem _
   have key : ∀ (rs : List R) (acc : List Str), r ∈ rs → t ∈ rs.foldl (fun acc r => knAdd toks (knStep toks acc r.nm) r.sy) acc := by
    intro rs
    induction rs with
    | nil => intro acc h; k_call_by "c" h
    | cons q qs ih =>
     intro acc hm
     rw [List.foldl_cons]
     rcases List.mem_cons.mp hm with rfl | hm
     ·have hin : t ∈ knAdd toks (knStep toks acc r.nm) r.sy := by
       have ht0 : t ∉ toks := names_toks t hn
       have ht' : t ∈ r.sy := ht
       generalize knStep toks acc r.nm = kn0
       generalize r.sy = sy at ht'
       unfold knAdd
       induction sy generalizing kn0 with
       | nil => cases ht'
       | cons z zs ih2 =>
        rw [List.foldl_cons]
        rcases List.mem_cons.mp ht' with rfl | hz
        ·refine knAdd_mem (kt := toks) (sy := zs) ?_
         unfold knStep; split
         ·rename_i h; exact h.resolve_left ht0
         ·simp
        ·exact ih2 _ hz
      clear ih hm
      generalize knAdd toks (knStep toks acc r.nm) r.sy = a0 at hin
      induction qs generalizing a0 with
      | nil => exact hin
      | cons q qs ih3 =>
       rw [List.foldl_cons]
       refine ih3 _ (knAdd_mem ?_)
       unfold knStep; split
       ·exact hin
       ·simp [hin]
     ·exact ih _ hm
   exact key rows [] hrm
  ·rw [if_neg hn]
 ·intro k; rw [h.ct]; have := hocc k; split
  ·rw [List.length_map]; omega
  ·simp
 ·intro k; rw [h.cn]; have := hocc k; split
  ·rw [List.length_map]; omega
  ·simp
 ·intro k hk; rw [h.ct, if_neg (by rw [← h.kt]; exact hk)]
 ·rw [h.us]; unfold usOf; split <;> simp
 ·rw [h.us]; unfold usOf; split <;> simp
 ·rw [h.kt]; have := ktOf_len rows; omega
theorem GR.step {F F' : Addr → Option O} {S S' : GS} {rows : List R} {r : R} {v : V} (h : GR F S rows) (hF : Le F F') (hr : ∀ q ∈ rows ++ [r], RowOk q) (hv : ProdAt F' v ⟨S.vs.length, r.nm, r.sy⟩) (T : Took { S with us := usZ S.us r.fl, kt := ktP S.kt r.sy } S' r.nm r.sy v) : GR F' S' (rows ++ [r]) := by
 refine exG1_2 h.vs fun rs h1 h2 => ?_
 have hlen : S.vs.length = rows.length + 1 := by rw [h1]; have := h2.length; rw [numb_len] at this; simp [this]
 have hrow : RowOk r := hr r (by simp)
 have hkt : S'.kt = ktOf (rows ++ [r]) := by rw [T.kt]; dsimp only; rw [h.kt, ktOf_app]
 have hin : ∀ s ∈ r.sy, (s ∈ ktP S.kt r.sy ↔ s ∈ toks) := fun s hs => by
  rw [h.kt, ← ktOf_app]; exact ktOf_toks hr (r := r) (by simp) hs
 have hnum : (((S.vs.length : Nat)) : Int) = ((rows.length + 1 : Nat) : Int) := by rw [hlen]
 rw [hlen] at hv
 constructor
 ·refine ⟨rs ++ [v], by rw [T.vs]; dsimp only; rw [h1]; rfl, ?_⟩
  rw [numb_app]
  exact LR.app (h2.mono fun _ _ q => q.le hF) (LR.one hv)
 ·intro k hk
  rw [T.pm] at hk
  rcases dget_put_some hk with rfl | hk
  ·exact ⟨r, by simp, rfl⟩
  ·refine exG1_2 (h.pm k hk) fun q hq e => ?_
   exact ⟨q, by simp [hq], e⟩
 ·rw [T.pm]
  have := dput_len (k := arrowText r.nm r.sy) (v := v) h.pml
  simpa using this
 ·rw [T.kb, kbOf_app]; dsimp only; rw [h.kb]
 ·intro k hk
  rw [T.cb, numb_app, List.filter_append]
  dsimp only
  by_cases e : k = r.nm
  ·subst e
   rw [if_pos rfl]
   refine LR.app ?_ ?_
   ·split
    ·rename_i hm; exact (h.cb _ hm).mono fun _ _ q => q.le hF
    ·rename_i hm
     have : (numb rows).filter (fun p => decide (p.nm = r.nm)) = [] := by
      rw [List.filter_eq_nil_iff]
      intro p hp he
      apply hm
      rw [h.kb]
      refine exG1_2 (List.mem_map.mp hp) fun r5 hq1 r6 => ?_
      obtain ⟨q, i⟩ := r5
      obtain rfl := r6
      have hqm : q ∈ rows := (List.mem_zipIdx hq1).2.2 ▸ List.getElem_mem _
      have he' : q.nm = r.nm := of_decide_eq_true he
      rw [← he']
      have key : ∀ (rs : List R) (acc : List Str), (q ∈ rs ∨ q.nm ∈ acc) → q.nm ∈ rs.foldl (fun acc r => if r.nm ∈ acc then acc else acc ++ [r.nm]) acc := by
       intro rs
       induction rs with
       | nil => intro acc h; rcases h with h | h; k_call_by "c" h; exact h
       | cons z zs ih =>
        intro acc hm
        rw [List.foldl_cons]
        apply ih
        rcases hm with hm | hm
        ·rcases List.mem_cons.mp hm with rfl | hm
         ·right; split
          ·assumption
          ·simp
         ·exact .inl hm
        ·right; split
         ·exact hm
         ·simp [hm]
      exact key rows [] (.inl hqm)
     rw [this]; trivial
   ·rw [List.filter_cons_of_pos (by simp)]; exact LR.one hv
  ·rw [if_neg e, List.filter_cons_of_neg (by simpa using Ne.symm e)]
   have hk' : k ∈ S.kb := by
    rw [T.kb] at hk
    dsimp only at hk
    split at hk
    ·exact hk
    ·rcases List.mem_append.mp hk with hk | hk
     ·exact hk
     ·exact absurd (List.mem_singleton.mp hk) e
   simpa using (h.cb k hk').mono fun _ _ q => q.le hF
 ·exact hkt
 ·intro k
  rw [T.ct]
  dsimp only
  unfold ctAdd
  have hK : ktP S.kt r.sy = ktOf (rows ++ [r]) := by rw [h.kt, ktOf_app]
  rw [h.ct, occ_app, hK, hnum]
  by_cases hk2 : k ∈ ktOf (rows ++ [r])
  ·have e1 : (r.sy.filter fun t => decide (t = k) && decide (t ∈ ktOf (rows ++ [r]))) = r.sy.filter fun t => decide (t = k) := by
    apply List.filter_congr
    intro t ht
    by_cases e : t = k
    ·subst e; simp [hk2]
    ·simp [e]
   rw [if_pos hk2, e1, List.map_append, List.map_map]
   have e2 : (if k ∈ ktOf rows then (occ rows k).map V.int else []) = (occ rows k).map V.int := by
    split
    ·rfl
    ·rename_i hk
     rw [occ_nil, List.map_nil]
     intro q hq hs
     apply hk
     have hal := (hr q (by simp [hq])).sy k hs
     rcases alpha_split k hal with h1 | h1
     ·exact (ktOf_toks (fun z hz => hr z (by simp [hz])) hq hs).mpr h1
     ·exact absurd (ktOf_sub hk2) (names_kt k h1)
   rw [e2]; rfl
  ·have e1 : (r.sy.filter fun t => decide (t = k) && decide (t ∈ ktOf (rows ++ [r]))) = [] := by
    rw [List.filter_eq_nil_iff]
    intro t ht
    by_cases e : t = k
    ·subst e; simp [hk2]
    ·simp [e]
   rw [if_neg hk2, e1, if_neg (fun hm => hk2 (ktOf_mono hm))]; rfl
 ·rw [T.kn]; dsimp only
  rw [knOf_app, knAdd_congr hin, h.kn]
  congr 1
  unfold knStep
  have : r.nm ∉ toks := names_toks _ hrow.nm
  simp [this]
 ·intro k
  rw [T.cn]
  dsimp only
  unfold cnAdd
  have hK : ktP S.kt r.sy = ktOf (rows ++ [r]) := by rw [h.kt, ktOf_app]
  rw [h.cn, occ_app, hK, hnum]
  by_cases hk : k ∈ names4
  ·have e1 : (r.sy.filter fun t => decide (t = k) && !decide (t ∈ ktOf (rows ++ [r]))) = r.sy.filter fun t => decide (t = k) := by
    apply List.filter_congr
    intro t ht
    by_cases e : t = k
    ·subst e
     have : t ∉ ktOf (rows ++ [r]) := fun hm => names_kt t hk (ktOf_sub hm)
     simp [this]
    ·simp [e]
   rw [if_pos hk, if_pos hk, e1, List.map_append, List.map_map]; rfl
  ·have e1 : (r.sy.filter fun t => decide (t = k) && !decide (t ∈ ktOf (rows ++ [r]))) = [] := by
    rw [List.filter_eq_nil_iff]
    intro t ht
    by_cases e : t = k
    ·subst e
     have h1 : t ∈ toks := (alpha_split t (hrow.sy t ht)).resolve_right hk
     have : t ∈ ktOf (rows ++ [r]) := (ktOf_toks hr (r := r) (by simp) ht).mpr h1
     simp [this]
    ·simp [e]
   rw [if_neg hk, if_neg hk, e1]; rfl
 ·rw [T.us, usOf_app]; dsimp only; rw [h.us]
end Kk
end
section
set_option maxHeartbeats 1000000
namespace Kk
variable {α β γ δ : Type}
noncomputable def ch (s : Str) : Nat := s.cps[0]!
noncomputable def enc1 : List Nat → List Nat
 | [] => []
 | c :: r => 44 :: 32 :: 39 :: c :: 39 :: enc1 r
noncomputable def enc0 : List Nat → List Nat
 | [] => []
 | c :: r => 39 :: c :: 39 :: enc1 r
theorem enc1_inj : ∀ {r r' : List Nat}, enc1 r ++ [93] = enc1 r' ++ [93] → r = r'
 | [], [], _ => rfl
 | [], c :: r', h => by simp [enc1] at h
 | c :: r, [], h => by simp [enc1] at h
 | c :: r, c' :: r', h => by
  simp only [enc1, List.cons_append, List.cons.injEq, true_and] at h
  rw [h.1, enc1_inj h.2]
theorem enc0_inj {r r' : List Nat} (h : enc0 r ++ [93] = enc0 r' ++ [93]) : r = r' := by
 induction r with
 | nil => cases r' with
  | nil => rfl
  | cons c r' => simp [enc0] at h
 | cons c r => cases r' with
  | nil => simp [enc0] at h
  | cons c' r' =>
   simp only [enc0, List.cons_append, List.cons.injEq, true_and] at h
   rw [h.1, enc1_inj h.2]
theorem enc1_len : ∀ r : List Nat, (enc1 r).length = 5 * r.length
 | [] => rfl
 | c :: r => by simp [enc1, enc1_len r]; omega
theorem alpha_repr : ∀ s ∈ alpha, (reprText s).cps.toList = [39, ch s, 39] := by
 intro s hs
 simp only [alpha, List.mem_cons, List.not_mem_nil, or_false] at hs
 rcases hs with rfl | rfl | rfl | rfl | rfl | rfl | rfl | rfl <;> kernel_rfl
theorem alpha_ch : ∀ s ∈ alpha, s = ⟨#[ch s]⟩ := by decide +kernel
theorem names_ch : ∀ s ∈ names4, s = ⟨#[ch s]⟩ := by decide +kernel
theorem cps_app (a b : Str) : (a ++ b).cps.toList = a.cps.toList ++ b.cps.toList := by
 show (a.cps ++ b.cps).toList = _
 simp
theorem from_txt : ∀ (sy : List Str) (k : Nat) (acc : Str), (∀ s ∈ sy, s ∈ alpha) → (textFrom k acc (PyData.shownAll (sy.map .str))).cps.toList = acc.cps.toList ++ (if k = 0 then enc0 (sy.map ch) else enc1 (sy.map ch))
 | [], k, acc, _ => by
  show acc.cps.toList = _
  split <;> simp [enc0, enc1]
 | s :: r, k, acc, h => by
  rw [List.map_cons, PyData.shownAll, PyData.shown, textFrom, from_txt r (k + 1) _ fun t ht => h t (.tail _ ht), cps_app, cps_app, alpha_repr s (h s (.head _)), show (if k + 1 = 0 then enc0 (r.map ch) else enc1 (r.map ch)) = enc1 (r.map ch) from if_neg (by omega)]
  by_cases hk : k = 0
  ·subst hk
   have e : ((if 0 > 0 then ", " else "" : String) : Str).cps.toList = [] := by kernel_rfl
   rw [e]; simp [enc0]
  ·have hk' : k > 0 := by omega
   have e : ((if k > 0 then ", " else "" : String) : Str).cps.toList = [44, 32] := by rw [if_pos hk']; kernel_rfl
   rw [e]; simp [hk, enc1]
theorem shown_txt {sy : List Str} (h : ∀ s ∈ sy, s ∈ alpha) : (PyData.list (sy.map .str)).shown.cps.toList = 91 :: (enc0 (sy.map ch) ++ [93]) := by
 rw [PyData.shown]
 unfold listText
 rw [cps_app, from_txt sy 0 _ h, if_pos rfl]
 have e1 : ("[" : Str).cps.toList = [91] := by kernel_rfl
 have e2 : ("]" : Str).cps.toList = [93] := by kernel_rfl
 rw [e1, e2]; simp
theorem shown_len {sy : List Str} (h : ∀ s ∈ sy, s ∈ alpha) (hl : sy.length ≤ 4) : (PyData.list (sy.map .str)).shown.length ≤ 1000 := by
 have h1 := congrArg List.length (shown_txt h)
 rw [Array.length_toList] at h1
 show (PyData.list (sy.map .str)).shown.cps.size ≤ 1000
 rw [h1]
 induction sy with
 | nil => simp [enc0]
 | cons s r =>
  simp only [List.map_cons, enc0, List.length_cons, List.length_append, enc1_len, List.length_map, List.length_nil]
  simp at hl; omega
theorem chs_inj : ∀ {sy sy' : List Str}, (∀ s ∈ sy, s ∈ alpha) → (∀ s ∈ sy', s ∈ alpha) → sy.map ch = sy'.map ch → sy = sy'
 | [], [], _, _, _ => rfl
 | [], _ :: _, _, _, h => by k_call_by "c" h
 | _ :: _, [], _, _, h => by k_call_by "c" h
 | s :: r, s' :: r', h1, h2, h => by
  simp only [List.map_cons, List.cons.injEq] at h
  rw [alpha_ch s (h1 s (.head _)), alpha_ch s' (h2 s' (.head _)), h.1, chs_inj (fun t ht => h1 t (.tail _ ht)) (fun t ht => h2 t (.tail _ ht)) h.2]
theorem arrow_inj {n1 n2 : Str} {s1 s2 : List Str} (h1 : n1 ∈ names4) (h2 : n2 ∈ names4) (k1 : ∀ s ∈ s1, s ∈ alpha) (k2 : ∀ s ∈ s2, s ∈ alpha) (h : arrowText n1 s1 = arrowText n2 s2) : n1 = n2 ∧ s1 = s2 := by
 have e := congrArg (fun t : Str => t.cps.toList) h
 unfold arrowText at e
 rw [cps_app, cps_app, cps_app, cps_app, shown_txt k1, shown_txt k2, names_ch n1 h1, names_ch n2 h2] at e
 simp only [List.cons_append, List.nil_append, List.cons.injEq] at e
 have e3 := List.append_cancel_left e.2
 simp only [List.cons.injEq, true_and] at e3
 have e4 := enc0_inj e3
 refine ⟨?_, chs_inj k1 k2 e4⟩
 rw [names_ch n1 h1, names_ch n2 h2, e.1]
end Kk
end
section
set_option maxHeartbeats 1000000
namespace Kk
variable {α β γ δ : Type}
theorem comp_pure {scope : Scope} {asg : List V → M Unit} {tests : M Bool} {elt : M V} {Q : V → St → Prop} {st : St} {a : Addr} {xs : List V} {ys : List α} {Rr : V → α → Prop} (RO : (Addr → Option O) → V → β → Prop) (hm : ∀ μ μ' v b, Le μ μ' → RO μ v b → RO μ' v b) (f : α → List β) (L : List Str)
  (hf : hasFree scope st) (hx : st.μ a = some (.list xs)) (hr : LR Rr xs ys) (hlen : ys.length ≤ 900)
  (hs : ∀ y v st' acc (K : List V → St → Prop), y ∈ ys → Rr v y → Le st.μ st'.μ → SameBut L (compSt scope st).σ st'.σ → acc.length ≤ 1000 → (∀ st2 v b, f y = [b] → Le st'.μ st2.μ → SameBut L (compSt scope st).σ st2.σ → RO st2.μ v b → K (acc ++ [v]) st2) → (∀ st2, f y = [] → Le st'.μ st2.μ → SameBut L (compSt scope st).σ st2.σ → K acc st2) →
   asg [v] (fun _ st1 => tests (compB elt acc K) (fun _ _ => False) st1) (fun _ _ => False) st')
  (he : ∀ D μ' vs, Le st.μ μ' → st.μ D = none → μ' D = some (.list vs) → LR (RO μ') vs (ys.flatMap f) → Q (.ref D) ⟨st.σ, μ'⟩) : compK scope asg tests elt Q (.list a) st := by
 refine comp_gen hf (its_list hx) hr.ones (fun pre acc st' => Le st.μ st'.μ ∧ SameBut L (compSt scope st).σ st'.σ ∧ acc.length ≤ pre.length ∧ LR (RO st'.μ) acc (pre.flatMap f)) ⟨Le.refl, SameBut.refl, Nat.le_refl _, trivial⟩ ?_ ?_ ?_
 ·intro i acc st' hi q0q
  refine exG0_2 q0q fun k _ => ?_
  exact cur_list (k _ _ hx)
 ·intro pre y post l acc st' K hps q0q q1q hK
  refine exG1_2 q0q fun v r1 hR => ?_
  obtain rfl := r1
  refine exG0_4 q1q fun k1 k2 k3 k4 => ?_
  have hpl : pre.length ≤ 900 := preLe hps (by first | omega | (simp; done) | (simp; omega))
  refine hs y v st' acc K (by rw [hps]; simp) hR k1 k2 (by omega) (fun st2 w b e q1 q2 q3 => ?_) (fun st2 e q1 q2 => ?_)
  ·refine hK _ _ ⟨k1.trans q1, q2, by simp; omega, ?_⟩
   rw [List.flatMap_append]
   refine LR.app (k4.mono fun _ _ => hm _ _ _ _ q1) ?_
   simp only [List.flatMap_cons, List.flatMap_nil, List.append_nil, e]
   exact LR.one q3
  ·refine hK _ _ ⟨k1.trans q1, q2, by simp; omega, ?_⟩
   rw [List.flatMap_append]
   simp only [List.flatMap_cons, List.flatMap_nil, List.append_nil, e]
   exact k4.mono fun _ _ => hm _ _ _ _ q1
 ·intro acc st' D q0q hD
  refine exG0_4 q0q fun k1 k2 k3 k4 => ?_
  exact he D _ acc (k1.new hD) (k1.noneOf hD) u_same (k4.mono fun _ _ => hm _ _ _ _ (Le.refl.new hD))
theorem forM_cons {ι : Type} {cur : Nat → St → Option ι → Prop} {asg : ι → M Unit} {body els : M Fl} {Q : Fl → St → Prop} {X : Ex → St → Prop} {st : St} {i : Nat} {x : ι} {r : List ι} (hc : cur i st (some x)) (h : asg x (fun _ st1 => body (bodyK Q (fun st2 => forM cur asg body els (i + 1) r Q X st2)) X st1) X st) : forM cur asg body els i (x :: r) Q X st := ⟨hc, h⟩
theorem forM_nil {ι : Type} {cur : Nat → St → Option ι → Prop} {asg : ι → M Unit} {body els : M Fl} {Q : Fl → St → Prop} {X : Ex → St → Prop} {st : St} {i : Nat} (hc : cur i st none) (h : els Q X st) : forM cur asg body els i [] Q X st := ⟨hc, h⟩
variable {g : Gx} {X : Ex → St → Prop} {Q : Fl → St → Prop} {st : St}
structure Prec (F : Addr → Option O) (pr : List (Str × V)) : Prop where
 at_ : ∃ a1 a2 a3, pr = [(("A" : Str), V.ref a1), ("Y", V.ref a2), ("Z", V.ref a3)] ∧ F a1 = some (.tup [.str "left", .int 1]) ∧ F a2 = some (.tup [.str "right", .int 2]) ∧ F a3 = some (.tup [.str "nonassoc", .int 3])
theorem Prec.le {F F' : Addr → Option O} {pr : List (Str × V)} (h : Prec F pr) (k : Le F F') : Prec F' pr := by obtain ⟨a1, a2, a3, e, h1, h2, h3⟩ := h.at_; exact ⟨a1, a2, a3, e, k _ _ h1, k _ _ h2, k _ _ h3⟩
theorem law_c2 {n : Nat} {m : Mine g} {xa : Addr} {xo : O} (hxa : st.μ xa = some xo) (hxo : ∀ b, xo ≠ .tab b) {ra : Addr} {vs : List V} {rows : List R} {hd : Int} (hT : ∃ b, st.μ 45 = some (.tab b)) (h157 : st.μ 157 = some (.tab true)) (v1 : st.σ "rows" = some (.ref ra)) (v2 : st.σ "head" = some (.int hd)) (hra : st.μ ra = some (.list vs)) (hvs : LR (RowR st.μ) vs rows)
  (h : ∀ st' F gr ad S, F xa = some xo → st'.σ "rows" = some (.ref ra) → st'.σ "head" = some (.int hd) → st'.σ "grammar" = some (.ref gr) → F ra = some (.list vs) → LR (RowR F) vs rows → F 157 = some (.tab true) → Gm st'.μ F gr ad S → GR F S [] → S.sy = none → Prec F S.pr → S.es.length ≤ 15 → (r_law_c5 (n := n) m).1 Q X st') :
  (r_law_c2 (n := n) m).1 Q X st := by
 unfold r_law_c2; dsimp only
 walk_at "w"
 refine wk_list (by simp) fun l hl => ?_
 revert hT; refine fun oO => exG1_1 oO fun b hT => ?_
 walk_at "w"
 refine sp_Grammar (by exact put_same) ⟨b, put_old hl hT⟩ fun gr μ1 F0 ad es hes hF0 hG0 => ?_
 rw [show (st.put l (.list [.str "A", .str "B", .str "C"])).σ = st.σ from rfl]
 walk_at "w"
 refine wk_tup (by simp) fun t1 ht1 => ?_
 have hG1 := hG0.alloc (o := .tup [.str "A", .str "left"]) ht1
 have k1 := Le.refl.new (o := .tup [.str "A", .str "left"]) (hG0.mem.le.noneOf ht1)
 walk_at "w"
 refine wk_tup (by simp) fun t2 ht2 => ?_
 have hG2 := hG1.alloc (o := .tup [.str "Y", .str "right"]) ht2
 have k2 := Le.refl.new (o := .tup [.str "Y", .str "right"]) (hG1.mem.le.noneOf ht2)
 walk_at "w"
 refine wk_tup (by simp) fun t3 ht3 => ?_
 have hG3 := hG2.alloc (o := .tup [.str "Z", .str "nonassoc"]) ht3
 have k3 := Le.refl.new (o := .tup [.str "Z", .str "nonassoc"]) (hG2.mem.le.noneOf ht3)
 walk_at "w"
 refine wk_list (by simp) fun sd hsd => ?_
 have hG4 := hG3.alloc (o := .list [.ref t1, .ref t2, .ref t3]) hsd
 have k4 := Le.refl.new (o := .list [.ref t1, .ref t2, .ref t3]) (hG3.mem.le.noneOf hsd)
 have f1 := k4 _ _ (k3 _ _ (k2 _ _ (u_same (μ := F0) (a := t1) (o := .tup [.str "A", .str "left"]))))
 have f2 := k4 _ _ (k3 _ _ (u_same (μ := upd F0 t1 (.tup [.str "A", .str "left"])) (a := t2) (o := .tup [.str "Y", .str "right"])))
 have f3 := k4 _ _ (u_same (μ := upd (upd F0 t1 (.tup [.str "A", .str "left"])) t2 (.tup [.str "Y", .str "right"])) (a := t3) (o := .tup [.str "Z", .str "nonassoc"]))
 have f4 := u_same (μ := upd (upd (upd F0 t1 (.tup [.str "A", .str "left"])) t2 (.tup [.str "Y", .str "right"])) t3 (.tup [.str "Z", .str "nonassoc"])) (a := sd) (o := .list [.ref t1, .ref t2, .ref t3])
 have kk := ((k1.trans k2).trans k3).trans k4
 have hbase : Le (cut st.μ) F0 := by
  intro a o e
  have hne : a ≠ 45 := by rintro rfl; rw [cut_none] at e; k_call_by "c" e
  exact hF0 _ _ (cut_get hne (put_old hl (cut_le _ _ e)))
 have hc : ∀ {a : Addr} {o : O}, st.μ a = some o → a ≠ 45 → F0 a = some o := fun e ne => hbase _ _ (cut_get ne e)
 have ne45 : ∀ {a : Addr} {o : O}, st.μ a = some o → (∀ b, o ≠ .tab b) → a ≠ 45 := by rintro a o e k rfl; rw [hT] at e; k_call_by "c" e; exact k _ rfl
 generalize upd (upd (upd (upd F0 t1 (.tup [.str "A", .str "left"])) t2 (.tup [.str "Y", .str "right"])) t3 (.tup [.str "Z", .str "nonassoc"])) sd (.list [.ref t1, .ref t2, .ref t3]) = F4 at hG4 f1 f2 f3 f4 kk
 clear hG0 hG1 hG2 hG3 k1 k2 k3 k4
 walk_at "w"
 have s1 : SameBut ["grammar", "sides", "k", "pair"] st.σ ((((((({ σ := st.σ, μ := μ1 } : St).set "grammar" (.ref gr)).put t1 (.tup [.str "A", .str "left"])).put t2 (.tup [.str "Y", .str "right"])).put t3 (.tup [.str "Z", .str "nonassoc"])).put sd (.list [.ref t1, .ref t2, .ref t3])).set "sides" (.ref sd)).σ := by
  refine SameBut.set (by walk_at "nm") (SameBut.put (SameBut.put (SameBut.put (SameBut.put (SameBut.set (by walk_at "nm") ?_)))))
  exact SameBut.refl
 have s2 : ((((((({ σ := st.σ, μ := μ1 } : St).set "grammar" (.ref gr)).put t1 (.tup [.str "A", .str "left"])).put t2 (.tup [.str "Y", .str "right"])).put t3 (.tup [.str "Z", .str "nonassoc"])).put sd (.list [.ref t1, .ref t2, .ref t3])).set "sides" (.ref sd)).σ "grammar" = some (.ref gr) := by walk_at "sg"
 have hG4' : Gm ((((((({ σ := st.σ, μ := μ1 } : St).set "grammar" (.ref gr)).put t1 (.tup [.str "A", .str "left"])).put t2 (.tup [.str "Y", .str "right"])).put t3 (.tup [.str "Z", .str "nonassoc"])).put sd (.list [.ref t1, .ref t2, .ref t3])).set "sides" (.ref sd)).μ F4 gr ad (S0 es) := hG4
 generalize ((((((({ σ := st.σ, μ := μ1 } : St).set "grammar" (.ref gr)).put t1 (.tup [.str "A", .str "left"])).put t2 (.tup [.str "Y", .str "right"])).put t3 (.tup [.str "Z", .str "nonassoc"])).put sd (.list [.ref t1, .ref t2, .ref t3])).set "sides" (.ref sd)) = q0 at s1 s2 hG4' ⊢
 clear hG4
 have hno : dget es "set_precedence" = none := hG4'.at_.no _ (by simp)
 have hne : t1 ≠ t2 ∧ t1 ≠ t3 ∧ t2 ≠ t3 := by
  refine ⟨?_, ?_, ?_⟩ <;> (rintro rfl; first | (rw [f1] at f2; injection f2 with f2; simp [ofString_inj] at f2; done) | (rw [f1] at f3; injection f3 with f3; simp [ofString_inj] at f3; done) | (rw [f2] at f3; injection f3 with f3; simp [ofString_inj] at f3; done))
 unfold loopM
 rw [its_enL (xs := [.ref t1, .ref t2, .ref t3]) (hG4'.mem.le _ _ f4)]
 simp only [enumFrom]
 have g0a := hG4'.mem.le _ _ f1
 have m0a := s1
 have m0b := s2
 obtain ⟨i0, e0, i1, -, -, -, -, -, -, -, -, -, -, -, -⟩ := hG4'.all
 dsimp only [S0] at i1
 refine forM_cons (cur_enL (i := 0) (xs := [.ref t1, .ref t2, .ref t3]) (hG4'.mem.le _ _ f4) rfl) ?_
 walk_at "w"
 refine wk_idxT (j := 0) (u := .str "A") (by walk_at "mu") (by simp) (by simp [seqIndex?]) rfl ?_
 walk_at "w"
 refine wk_idxT (j := 1) (u := .str "left") (by walk_at "mu") (by simp) (by simp [seqIndex?]) rfl ?_
 walk_at "w"
 refine wk_addI ?_
 walk_at "w"
 refine sp_set_precedence (st := { q0 with σ := ((q0.set "k" _).set "pair" _).σ }) (F := F4) (ad := ad) (S := { S0 es with pr := [] }) hG4' rfl (by kernel_rfl) (by simp) (by decide +kernel) fun μ5 F5 p1 a1 b1 c1 => ?_
 walk_at "w"
 have d1 : dput [] ("A" : Str) (V.ref p1) = [(("A" : Str), V.ref p1)] := by kernel_rfl
 dsimp only at c1
 rw [d1] at c1
 have s0x : SameBut ["grammar", "sides", "k", "pair"] st.σ ((q0.set "k" (.int (((0 : Nat)) : Int))).set "pair" (.ref t1)).σ := SameBut.set (by walk_at "nm") (SameBut.set (by walk_at "nm") s1)
 have s0y : ((q0.set "k" (.int (((0 : Nat)) : Int))).set "pair" (.ref t1)).σ "grammar" = some (.ref gr) := by walk_at "sg"
 obtain ⟨q1, hq1⟩ : ∃ q : St, q = ⟨((q0.set "k" (.int (((0 : Nat)) : Int))).set "pair" (.ref t1)).σ, μ5⟩ := ⟨_, rfl⟩
 have s0z : SameBut ["grammar", "sides", "k", "pair"] st.σ q1.σ := by rw [hq1]; exact s0x
 have s0w : q1.σ "grammar" = some (.ref gr) := by rw [hq1]; exact s0y
 have s0v : Gm q1.μ F5 gr ad { S0 es with pr := [(("A" : Str), V.ref p1)] } := by rw [hq1]; exact c1
 show forM _ _ _ _ _ _ _ _ (⟨((q0.set "k" (.int (((0 : Nat)) : Int))).set "pair" (.ref t1)).σ, μ5⟩ : St)
 rw [← hq1]
 clear hq1
 replace f1 := a1 _ _ f1
 replace f2 := a1 _ _ f2
 replace f3 := a1 _ _ f3
 replace f4 := a1 _ _ f4
 have g1a := s0v.mem.le _ _ f2
 have m1a := s0z
 have m1b := s0w
 obtain ⟨i0, e0, i1, -, -, -, -, -, -, -, -, -, -, -, -⟩ := s0v.all
 dsimp only [S0] at i1
 refine forM_cons (cur_enL (i := 1) (xs := [.ref t1, .ref t2, .ref t3]) (s0v.mem.le _ _ f4) rfl) ?_
 walk_at "w"
 refine wk_idxT (j := 0) (u := .str "Y") (by walk_at "mu") (by simp) (by simp [seqIndex?]) rfl ?_
 walk_at "w"
 refine wk_idxT (j := 1) (u := .str "right") (by walk_at "mu") (by simp) (by simp [seqIndex?]) rfl ?_
 walk_at "w"
 refine wk_addI ?_
 walk_at "w"
 refine sp_set_precedence (st := { q1 with σ := ((q1.set "k" _).set "pair" _).σ }) (F := F5) (ad := ad) (S := { S0 es with pr := [(("A" : Str), V.ref p1)] }) s0v rfl (by kernel_rfl) (by simp) (by decide +kernel) fun μ6 F6 p2 a2 b2 c2 => ?_
 walk_at "w"
 have d2 : dput [(("A" : Str), V.ref p1)] ("Y" : Str) (V.ref p2) = [(("A" : Str), V.ref p1), (("Y" : Str), V.ref p2)] := by kernel_rfl
 dsimp only at c2
 rw [d2] at c2
 have s1x : SameBut ["grammar", "sides", "k", "pair"] st.σ ((q1.set "k" (.int (((0 + 1 : Nat)) : Int))).set "pair" (.ref t2)).σ := SameBut.set (by walk_at "nm") (SameBut.set (by walk_at "nm") s0z)
 have s1y : ((q1.set "k" (.int (((0 + 1 : Nat)) : Int))).set "pair" (.ref t2)).σ "grammar" = some (.ref gr) := by walk_at "sg"
 obtain ⟨q2, hq2⟩ : ∃ q : St, q = ⟨((q1.set "k" (.int (((0 + 1 : Nat)) : Int))).set "pair" (.ref t2)).σ, μ6⟩ := ⟨_, rfl⟩
 have s1z : SameBut ["grammar", "sides", "k", "pair"] st.σ q2.σ := by rw [hq2]; exact s1x
 have s1w : q2.σ "grammar" = some (.ref gr) := by rw [hq2]; exact s1y
 have s1v : Gm q2.μ F6 gr ad { S0 es with pr := [(("A" : Str), V.ref p1), (("Y" : Str), V.ref p2)] } := by rw [hq2]; exact c2
 show forM _ _ _ _ _ _ _ _ (⟨((q1.set "k" (.int (((0 + 1 : Nat)) : Int))).set "pair" (.ref t2)).σ, μ6⟩ : St)
 rw [← hq2]
 clear hq2
 replace f1 := a2 _ _ f1
 replace f2 := a2 _ _ f2
 replace f3 := a2 _ _ f3
 replace f4 := a2 _ _ f4
 have g2a := s1v.mem.le _ _ f3
 have m2a := s1z
 have m2b := s1w
 obtain ⟨i0, e0, i1, -, -, -, -, -, -, -, -, -, -, -, -⟩ := s1v.all
 dsimp only [S0] at i1
 refine forM_cons (cur_enL (i := 2) (xs := [.ref t1, .ref t2, .ref t3]) (s1v.mem.le _ _ f4) rfl) ?_
 walk_at "w"
 refine wk_idxT (j := 0) (u := .str "Z") (by walk_at "mu") (by simp) (by simp [seqIndex?]) rfl ?_
 walk_at "w"
 refine wk_idxT (j := 1) (u := .str "nonassoc") (by walk_at "mu") (by simp) (by simp [seqIndex?]) rfl ?_
 walk_at "w"
 refine wk_addI ?_
 walk_at "w"
 refine sp_set_precedence (st := { q2 with σ := ((q2.set "k" _).set "pair" _).σ }) (F := F6) (ad := ad) (S := { S0 es with pr := [(("A" : Str), V.ref p1), (("Y" : Str), V.ref p2)] }) s1v rfl (by kernel_rfl) (by simp) (by decide +kernel) fun μ7 F7 p3 a3 b3 c3 => ?_
 walk_at "w"
 have d3 : dput [(("A" : Str), V.ref p1), (("Y" : Str), V.ref p2)] ("Z" : Str) (V.ref p3) = [(("A" : Str), V.ref p1), (("Y" : Str), V.ref p2), (("Z" : Str), V.ref p3)] := by kernel_rfl
 dsimp only at c3
 rw [d3] at c3
 have s2x : SameBut ["grammar", "sides", "k", "pair"] st.σ ((q2.set "k" (.int (((0 + 1 + 1 : Nat)) : Int))).set "pair" (.ref t3)).σ := SameBut.set (by walk_at "nm") (SameBut.set (by walk_at "nm") s1z)
 have s2y : ((q2.set "k" (.int (((0 + 1 + 1 : Nat)) : Int))).set "pair" (.ref t3)).σ "grammar" = some (.ref gr) := by walk_at "sg"
 obtain ⟨q3, hq3⟩ : ∃ q : St, q = ⟨((q2.set "k" (.int (((0 + 1 + 1 : Nat)) : Int))).set "pair" (.ref t3)).σ, μ7⟩ := ⟨_, rfl⟩
 have s2z : SameBut ["grammar", "sides", "k", "pair"] st.σ q3.σ := by rw [hq3]; exact s2x
 have s2w : q3.σ "grammar" = some (.ref gr) := by rw [hq3]; exact s2y
 have s2v : Gm q3.μ F7 gr ad { S0 es with pr := [(("A" : Str), V.ref p1), (("Y" : Str), V.ref p2), (("Z" : Str), V.ref p3)] } := by rw [hq3]; exact c3
 show forM _ _ _ _ _ _ _ _ (⟨((q2.set "k" (.int (((0 + 1 + 1 : Nat)) : Int))).set "pair" (.ref t3)).σ, μ7⟩ : St)
 rw [← hq3]
 clear hq3
 replace f1 := a3 _ _ f1
 replace f2 := a3 _ _ f2
 replace f3 := a3 _ _ f3
 replace f4 := a3 _ _ f4
 refine forM_nil (cur_enL (i := 3) (xs := [.ref t1, .ref t2, .ref t3]) (s2v.mem.le _ _ f4) rfl) ?_
 walk_at "w"
 have hF7 : Le F0 F7 := ((kk.trans a1).trans a2).trans a3
 have hra' := hc hra (ne45 hra nofun)
 refine h q3 F7 gr ad _ (hF7 _ _ (hc hxa (ne45 hxa hxo))) (SameBut.get s2z (by walk_at "nm") v1) (SameBut.get s2z (by walk_at "nm") v2) s2w (hF7 _ _ hra') ?_ (hF7 _ _ (hc h157 (by decide))) s2v ⟨⟨[], rfl, trivial⟩, ?_, Nat.le_refl _, rfl, ?_, ?_, ?_, rfl, ?_, rfl⟩ rfl ⟨p1, p2, p3, rfl, a3 _ _ (a2 _ _ b1), a3 _ _ b2, b3⟩ hes
 ·refine hvs.mono fun v r hv => ?_
  obtain ⟨a, l', rfl, e1, e2⟩ := hv
  exact ⟨a, l', rfl, hF7 _ _ (hc e1 (ne45 e1 nofun)), hF7 _ _ (hc e2 (ne45 e2 nofun))⟩
 ·intro k hk; simp [S0, dget] at hk
 ·intro k hk; simp [S0] at hk
 ·show _ = ktOf []; unfold ktOf ktP; simp [S0]
 ·intro k; simp [S0, occ, numb]
 ·intro k; simp [S0, occ, numb]
end Kk
end
section
set_option maxHeartbeats 1000000
namespace Kk
variable {α β γ δ : Type}
variable {g : Gx} {X : Ex → St → Prop} {Q : Fl → St → Prop} {st : St}
theorem law_c5 {n : Nat} {m : Mine g} {F : Addr → Option O} {xa : Addr} {xo : O} (hxa : F xa = some xo) {gr : Addr} {ad : Lb → Addr} {S : GS} {ra : Addr} {vs : List V} {rows : List R} {hd : Int} (v1 : st.σ "rows" = some (.ref ra)) (v2 : st.σ "head" = some (.int hd)) (v3 : st.σ "grammar" = some (.ref gr)) (hra : F ra = some (.list vs)) (hvs : LR (RowR F) vs rows) (hR : RowsOk rows)
  (h157 : F 157 = some (.tab true)) (hG : Gm st.μ F gr ad S) (hS : GR F S []) (hsy : S.sy = none) (hP : Prec F S.pr) (hes : S.es.length ≤ 15)
  (h : ∀ st' F gr ad S, F xa = some xo → st'.σ "rows" = some (.ref ra) → st'.σ "head" = some (.int hd) → st'.σ "grammar" = some (.ref gr) → F ra = some (.list vs) → LR (RowR F) vs rows → F 157 = some (.tab true) → Gm st'.μ F gr ad S → GR F S rows → Prec F S.pr → S.es.length ≤ 15 → (r_law_c6 (n := n) m).1 Q X st') :
  (r_law_c5 (n := n) m).1 Q X st := by
 unfold r_law_c5; dsimp only
 have hra' := hG.mem.le _ _ hra
 walk_at "w"
 refine loop_gen (its_enL (by walk_at "mu")) (LR.enum 0 hvs) (fun pre st' => SameBut ["k", "row", "symbols"] st.σ st'.σ ∧ ∃ F' ad' S', Le F F' ∧ Gm st'.μ F' gr ad' S' ∧ GR F' S' (pre.map (·.1)) ∧ S'.sy = none ∧ S'.pr = S.pr ∧ S'.es = S.es) ?_ ?_ ?_ ?_
 ·exact ⟨SameBut.refl, F, ad, S, Le.refl, hG, hS, hsy, rfl, rfl⟩
 ·intro i st' hi q0q
  refine exG0_2 q0q fun _ r1 => ?_
  refine exG3_3 r1 fun F' ad' S' k1 k2 _ => ?_
  exact cur_enL (k2.mem.le _ _ (k1 _ _ hra)) rfl
 ·intro pre q0q post l st1 K hps q1q q2q hK
  obtain ⟨r, j⟩ := q0q
  refine exG1_2 q1q fun v r2 hv => ?_
  obtain rfl := r2
  refine exG0_2 q2q fun b1 r3 => ?_
  refine exG3_6 r3 fun F1 ad1 S1 k1 k2 k3 k4 k5 k6 => ?_
  have hsplit : rows = pre.map (·.1) ++ r :: post.map (·.1) := by
   have := congrArg (List.map (·.1)) hps
   simpa using this
  have hrm : r ∈ rows := by rw [hsplit]; simp
  have hpre : ∀ q ∈ pre.map (·.1), q ∈ rows := fun q hq => by rw [hsplit]; simp only [List.mem_append]; exact .inl hq
  have hro := hR.ok r hrm
  have hpl : (pre.map (·.1)).length ≤ 8 := by
   have h1 := congrArg List.length hsplit; have h2 := hR.len; simp at h1 ⊢; omega
  refine exG0_3 (k3.small (fun q hq => hR.ok q (hpre q hq)) hpl) fun hSm hus hktl => ?_
  obtain ⟨w, sl, rfl, w1, w2⟩ := hv.le (k1.trans k2.mem.le)
  obtain ⟨A1, A2, A3, A4, A5, A6, A7, A8, A9⟩ := k2.at_
  have hno := A9 "add_production" (by simp)
  walk_at "w"
  refine wk_comp (hasFree_of [] (by kernel_rfl) trivial) ?_
  walk_at "w"
  refine wk_idxT (j := 1) (u := .ref sl) (by walk_at "mu") (by simp) (by simp [seqIndex?]) rfl ?_
  walk_at "w"
  refine comp_pure (Rr := fun v y => v = .str y) (fun _ v s => v = .str s) (fun _ _ _ _ _ h => h) (fun s => [qt s]) ["x"] (hasFree_of [] (by kernel_rfl) trivial) (by walk_at "mu") (LR.strs r.sy) (by have := hro.len; omega) ?_ ?_
  ·rintro y v st2 acc K2 hy rfl q1 q2 q3 q4 q5
   walk_at "w"
   refine wk_splitC (fun _ => ?_) (fun hb => by k_call_by "c" hb)
   walk_at "w"
   refine wk_split (fun hb => ?_) (fun hb => ?_)
   ·walk_at "w"
    have e : y = ("+" : Str) := by simpa using hb
    exact ⟨q3, q4 _ _ "'+'" (by rw [e]; rfl) Le.refl (SameBut.set (by walk_at "nm") q2) rfl⟩
   ·walk_at "w"
    have e : y ≠ ("+" : Str) := by simpa using hb
    exact ⟨q3, q4 _ _ y (by simp [qt, e]) Le.refl (SameBut.set (by walk_at "nm") q2) rfl⟩
  ·intro D μ2 vs2 q1 q2 q3 q4
   have q5 : vs2 = (r.sy.map qt).map V.str := by
    have := LR.eq_map (f := V.str) q4
    rw [this, ← List.map_eq_flatMap]
   subst q5
   have k2' := k2.grow q1
   have w1' := q1 _ _ w1
   have w2' := q1 _ _ w2
   obtain ⟨i0, e0, i1, -, -, -, -, -, -, -, -, -, -, -, -⟩ := k2'.all
   walk_at "w"
   refine wk_idxT (j := 0) (u := .str r.nm) (by walk_at "mu") (by simp) (by simp [seqIndex?]) rfl ?_
   walk_at "w"
   refine wk_idxT (j := 2) (u := .bool r.fl) (by walk_at "mu") (by simp) (by simp [seqIndex?]) rfl ?_
   walk_at "w"
   have hlen1 : ((r.sy.map qt).map V.str).length ≤ 1000 := by have := hro.len; simp; omega
   have hkont : ∀ (nn : Nat) (X3 : Ex → St → Prop) (st3 : St) (y : Addr) (Q3 : V → St → Prop), SameBut ["k", "row", "symbols"] st.σ st3.σ → st3.μ y = none → Gm st3.μ F1 gr ad1 S1 → (∀ st4 : St, SameBut ["k", "row", "symbols"] st.σ st4.σ → (∃ F' ad' S', Le F F' ∧ Gm st4.μ F' gr ad' S' ∧ GR F' S' ((pre ++ [(r, j)]).map (·.1)) ∧ S'.sy = none ∧ S'.pr = S.pr ∧ S'.es = S.es) → Q3 .none st4) →
     ∀ lv, fnM ["self", "prodname", "syms", "func", "file", "line"] (([] : List (Str × Value)).map fun p => (p.1, er p.2)) 6 (r_add_production (n := nn) m).1 [.ref gr, .str r.nm, .ref y, .none, .str "", lv] Q3 X3 (st3.put y (.list ((r.sy.map qt ++ marks r.fl).map V.str))) := by
    intro nn X3 st3 y Q3 c1 c2 c3 c4 lv
    have c5 := c3.newSy (ys := (r.sy.map qt ++ marks r.fl).map V.str) k4 c2
    refine exG3_4 ((hP.le k1).at_) fun z1 z2 z3 ze zf1 zf2 zf3 => ?_
    have hz : dget S1.pr "Z" = some (.ref z3) := by rw [k5, ze]; kernel_rfl
    have hnk : r.nm ∉ S1.kt := by rw [k3.kt]; exact fun hm => names_kt _ hro.nm (ktOf_sub hm)
    have hne : r.nm ≠ ("error" : Str) := by
     have : ∀ s ∈ names4, s ≠ ("error" : Str) := by decide +kernel
     exact this _ hro.nm
    have hnl : r.nm.length ≤ 1000 := by
     have : ∀ s ∈ names4, s.length ≤ 1000 := by decide +kernel
     exact this _ hro.nm
    have hnew : dget S1.pm (arrowText r.nm r.sy) = none := by
     cases e : dget S1.pm (arrowText r.nm r.sy) with
     | none => rfl
     | some u =>
      obtain ⟨q, hq, he⟩ := k3.pm (arrowText r.nm r.sy) (by rw [e]; rfl)
      have hqo := hR.ok q (hpre q hq)
      refine exG0_2 (arrow_inj hro.nm hqo.nm hro.sy hqo.sy he) fun e1 e2 => ?_
      have hnd := hR.nd
      rw [hsplit, List.map_append, List.map_cons, List.nodup_append] at hnd
      exact absurd rfl (hnd.2.2 (q.nm, q.sy) (List.mem_map.mpr ⟨q, hq, rfl⟩) (q.nm, q.sy) (by rw [← e1, ← e2]; simp))
    refine sp_add_production (F := F1) (ad := fun l => if l = .sy then y else ad1 l) (S := { S1 with sy := some ((r.sy.map qt ++ marks r.fl).map V.str) }) (nm := r.nm) (sy := r.sy) (fl := r.fl) (z := z3) (za := [.str "nonassoc", .int 3]) c5 rfl (by simp) ⟨hSm.vs, hSm.pm, hSm.kb, hSm.cb, hSm.kn, hSm.cn0, hSm.ct, hSm.cn, hSm.kt, hSm.ct0, hSm.us⟩ hus hktl hz zf3 (by simp) (by simp) hnk hne (names_ok _ hro.nm) (by have := hro.len; omega) hro.sy hnl (shown_len hro.sy (by have := hro.len; omega)) hnew ?_
    intro μ' F' v ad' S' e1 e2 T hG'
    refine c4 _ c1 ⟨F', ad', { S' with sy := none }, k1.trans e1, hG'.noSy, ?_, rfl, T.pr.trans k5, T.es.trans k6⟩
    have hst := GR.step (S := { S1 with sy := some ((r.sy.map qt ++ marks r.fl).map V.str) }) (r := r) (v := v) ⟨k3.vs, k3.pm, k3.pml, k3.kb, k3.cb, k3.kt, k3.ct, k3.kn, k3.cn, k3.us⟩ e1 (fun q hq => by
     rcases List.mem_append.mp hq with hq | hq
     ·exact hR.ok q (hpre q hq)
     ·rw [List.mem_singleton.mp hq]; exact hro) e2 T
    rw [List.map_append]
    exact ⟨hst.vs, hst.pm, hst.pml, hst.kb, hst.cb, hst.kt, hst.ct, hst.kn, hst.cn, hst.us⟩
   have hDm : ((r.sy.map qt).map V.str) = (r.sy.map qt).map V.str := rfl
   refine wk_split (fun hb => ?_) (fun hb => ?_)
   ·walk_at "w"
    refine wk_list (by simp) fun E hE => ?_
    refine wk_addL (xs := (r.sy.map qt).map V.str) (ys := [.str "%prec", .str "Z"]) (by walk_at "mu") (by walk_at "mu") hlen1 (by simp) fun y hy => ?_
    walk_at "w"
    refine wk_addI ?_
    walk_at "w"
    have e : (r.sy.map qt).map V.str ++ [V.str "%prec", V.str "Z"] = (r.sy.map qt ++ marks r.fl).map V.str := by rw [hb]; simp [marks]
    rw [e]
    refine hkont _ _ _ y _ ?_ hy (k2'.grow (Le.refl.new hE)) (fun st4 d1 d2 => ?_) _
    ·exact SameBut.put (SameBut.set (by walk_at "nm") (show SameBut _ st.σ ((st1.set "k" _).set "row" _).σ from SameBut.set (by walk_at "nm") (SameBut.set (by walk_at "nm") b1)))
    ·walk_at "w"
     exact hK _ ⟨d1, d2⟩
   ·walk_at "w"
    refine wk_list (by simp) fun E hE => ?_
    refine wk_addL (xs := (r.sy.map qt).map V.str) (ys := []) (by walk_at "mu") (by walk_at "mu") hlen1 (by simp) fun y hy => ?_
    walk_at "w"
    refine wk_addI ?_
    walk_at "w"
    have e : (r.sy.map qt).map V.str ++ [] = (r.sy.map qt ++ marks r.fl).map V.str := by rw [hb]; simp [marks]
    rw [e]
    refine hkont _ _ _ y _ ?_ hy (k2'.grow (Le.refl.new hE)) (fun st4 d1 d2 => ?_) _
    ·exact SameBut.put (SameBut.set (by walk_at "nm") (show SameBut _ st.σ ((st1.set "k" _).set "row" _).σ from SameBut.set (by walk_at "nm") (SameBut.set (by walk_at "nm") b1)))
    ·walk_at "w"
     exact hK _ ⟨d1, d2⟩
 ·intro st1 q0q
  refine exG0_2 q0q fun b1 r4 => ?_
  refine exG3_6 r4 fun F1 ad1 S1 k1 k2 k3 k4 k5 k6 => ?_
  walk_at "w"
  have hm : rows.zipIdx.map (·.1) = rows := by simp
  rw [hm] at k3
  exact h st1 F1 gr ad1 S1 (k1 _ _ hxa) (by walk_at "sg") (by walk_at "sg") (by walk_at "sg") (k1 _ _ hra) (hvs.mono fun _ _ hv => hv.le k1) (k1 _ _ h157) k2 k3 (k5 ▸ hP.le k1) (k6 ▸ hes)
end Kk
end
section
set_option maxHeartbeats 1000000
namespace Kk
variable {α β γ δ : Type}
noncomputable def methNames : List Str := ["set_precedence", "add_production", "set_start", "find_unreachable", "infinite_cycles", "undefined_symbols", "unused_terminals", "unused_rules", "unused_precedence"]
noncomputable def occS (rows : List R) (start : Str) (k : Str) : List Int := occ rows k ++ if k = start then [0] else []
noncomputable def p0Of (start : Str) : PR := ⟨0, "S'", [start]⟩
structure Fin (μ : Addr → Option O) (gr : Addr) (rows : List R) (start : Str) : Prop where
 fg : FG μ gr (p0Of start :: numb rows) (kbOf rows) (ktOf rows) (knOf rows) (occS rows start) (usOf rows)
 meth : ∃ d es ep, μ gr = some (.inst 227 d) ∧ μ d = some (.dict es ep) ∧ ∀ x ∈ methNames, dget es x = none
theorem Fin.le {μ μ' : Addr → Option O} {gr : Addr} {rows : List R} {start : Str} (h : Fin μ gr rows start) (k : Le μ μ') : Fin μ' gr rows start :=
 ⟨h.fg.le k, by obtain ⟨d, es, ep, a, b, c⟩ := h.meth; exact ⟨d, es, ep, k _ _ a, k _ _ b, c⟩⟩
theorem knAdd_names {kn sy : List Str} (h : ∀ k ∈ kn, k ∈ names4) (hs : ∀ s ∈ sy, s ∈ alpha) : ∀ k ∈ knAdd toks kn sy, k ∈ names4 := by
 unfold knAdd
 induction sy generalizing kn with
 | nil => exact h
 | cons y r ih =>
  rw [List.foldl_cons]
  refine ih ?_ fun s hs' => hs s (.tail _ hs')
  intro k hk
  unfold knStep at hk
  split at hk
  ·exact h k hk
  ·rename_i hn
   rcases List.mem_append.mp hk with hk | hk
   ·exact h k hk
   ·rw [List.mem_singleton.mp hk]
    exact (alpha_split y (hs y (.head _))).resolve_left fun hm => hn (.inl hm)
theorem knOf_names {rows : List R} (h : ∀ r ∈ rows, RowOk r) : ∀ k ∈ knOf rows, k ∈ names4 := by
 suffices hh : ∀ (rows : List R) (acc : List Str), (∀ r ∈ rows, RowOk r) → (∀ k ∈ acc, k ∈ names4) → ∀ k ∈ rows.foldl (fun acc r => knAdd toks (knStep toks acc r.nm) r.sy) acc, k ∈ names4 by
  exact hh rows [] h (by simp)
 intro rows
 induction rows with
 | nil => intro acc _ h; exact h
 | cons r rs ih =>
  intro acc h1 h2
  rw [List.foldl_cons]
  refine ih _ (fun q hq => h1 q (.tail _ hq)) (knAdd_names ?_ (h1 r (.head _)).sy)
  intro k hk
  unfold knStep at hk
  split at hk
  ·exact h2 k hk
  ·rcases List.mem_append.mp hk with hk | hk
   ·exact h2 k hk
   ·rw [List.mem_singleton.mp hk]; exact (h1 r (.head _)).nm
theorem knOf_nm {rows : List R} (h : ∀ r ∈ rows, RowOk r) {r : R} (hr : r ∈ rows) : r.nm ∈ knOf rows := by
 suffices hh : ∀ (rows : List R) (acc : List Str), (∀ r ∈ rows, RowOk r) → (r ∈ rows ∨ r.nm ∈ acc) → r.nm ∈ rows.foldl (fun acc r => knAdd toks (knStep toks acc r.nm) r.sy) acc by
  exact hh rows [] h (.inl hr)
 intro rows
 induction rows with
 | nil => intro acc _ h; rcases h with h | h; k_call_by "c" h; exact h
 | cons q qs ih =>
  intro acc h1 h2
  rw [List.foldl_cons]
  refine ih _ (fun z hz => h1 z (.tail _ hz)) ?_
  rcases h2 with h2 | h2
  ·rcases List.mem_cons.mp h2 with rfl | h2
   ·right
    refine knAdd_mem ?_
    unfold knStep; split
    ·rename_i h; exact h.resolve_left (names_toks _ (h1 r (.head _)).nm)
    ·simp
   ·exact .inl h2
  ·right
   refine knAdd_mem ?_
   unfold knStep; split
   ·exact h2
   ·simp [h2]
theorem kbOf_mem {rows : List R} {k : Str} (h : k ∈ kbOf rows) : ∃ r ∈ rows, r.nm = k := by
 suffices hh : ∀ (rs : List R) (acc : List Str), (∀ q ∈ rs, q ∈ rows) → (∀ y ∈ acc, ∃ r ∈ rows, r.nm = y) → k ∈ rs.foldl (fun acc r => if r.nm ∈ acc then acc else acc ++ [r.nm]) acc → ∃ r ∈ rows, r.nm = k by
  exact hh rows [] (fun q hq => hq) (by simp) h
 intro rs
 induction rs with
 | nil => intro acc _ h1 h2; exact h1 k h2
 | cons q qs ih =>
  intro acc h1 h2 h3
  rw [List.foldl_cons] at h3
  refine ih _ (fun z hz => h1 z (.tail _ hz)) ?_ h3
  intro y hy
  split at hy
  ·exact h2 y hy
  ·rcases List.mem_append.mp hy with hy | hy
   ·exact h2 y hy
   ·exact ⟨q, h1 q (.head _), (List.mem_singleton.mp hy).symm⟩
theorem names_S : ∀ s ∈ names4, s ≠ ("S'" : Str) := by decide +kernel
theorem Gm.fin {μ F : Addr → Option O} {gr : Addr} {ad : Lb → Addr} {S : GS} {rows : List R} {start : Str} {v0 : V} {rs : List V} (hG : Gm μ F gr ad { S with vs := v0 :: rs, cn := fun k => if k = start then S.cn start ++ [.int 0] else S.cn k, es := dput S.es "Start" (.str start) })
  (hS : GR F S rows) (hvs : LR (ProdAt F) rs (numb rows)) (hv0 : ProdAt F v0 (p0Of start)) (hP : Prec F S.pr) (hR : ∀ r ∈ rows, RowOk r) (hst : start ∈ names4) : Fin μ gr rows start := by
 obtain ⟨A1, A2, A3, A4, A5, A6, A7, A8, A9⟩ := hG.at_
 obtain ⟨i0, e0, i1, i2, e1, i3, e2, i4, e3, i5, e4, i6, e5, i7, i8⟩ := hG.all
 refine exG3_4 hP.at_ fun a1 a2 a3 ep p1 p2 p3 => ?_
 have hle := hG.mem.le
 dsimp only at i1 i2 i3 i5 i6 i7 i8 A1 A2 A4 A5 A6 A7
 rw [hS.kb] at i3
 rw [hS.kt] at i5
 rw [hS.kn] at i6
 rw [ep] at i7
 rw [hS.us] at i8
 refine ⟨⟨ad .d, _, e0, ad .P, v0 :: rs, ad .pn, fun k => ad (.B k), e1, ad .t, fun k => ad (.T k), e3, ad .nt, fun k => ad (.N k), e4, ad .pr, a1, a2, a3, e5, ad .up, i0, i1, A1, i2, ⟨hv0.le hle, hvs.mono fun _ _ h => h.le hle⟩, A2, i3, ?_, A4, i5, ?_, A5, i6, ?_, A6, i7, hle _ _ p1, hle _ _ p2, hle _ _ p3, A7, i8⟩, ad .d, _, e0, i0, i1, A9⟩
 ·intro k hk
  have hk' : k ∈ S.kb := hS.kb ▸ hk
  refine ⟨_, hG.B hk', ?_⟩
  refine exG1_2 (kbOf_mem hk) fun r hr hn => ?_
  have : ¬ (p0Of start).nm = k := by
   intro e; exact names_S k (hn ▸ (hR r hr).nm) e.symm
  rw [List.filter_cons_of_neg (by simpa using this)]
  exact (hS.cb k hk').mono fun _ _ h => h.le hle
 ·intro k hk
  have h1 := hG.T (k := k) (by dsimp only; rw [hS.kt]; exact hk)
  dsimp only at h1
  rw [h1, hS.ct, if_pos hk]
  have : k ≠ start := by rintro rfl; exact names_kt _ hst (ktOf_sub hk)
  simp [occS, this]
 ·intro k hk
  have h1 := hG.N (k := k) (by dsimp only; rw [hS.kn]; exact hk)
  dsimp only at h1
  rw [h1]
  have hkn := knOf_names hR k hk
  by_cases e : k = start
  ·subst e; simp [occS, hS.cn, hkn]
  ·rw [if_neg e, hS.cn, if_pos hkn]; simp [occS, e]
variable {g : Gx} {X : Ex → St → Prop} {Q : Fl → St → Prop} {st : St}
theorem law_c6 {n : Nat} {m : Mine g} {F : Addr → Option O} {xa : Addr} {xo : O} (hxa : F xa = some xo) {gr : Addr} {ad : Lb → Addr} {S : GS} {ra : Addr} {vs : List V} {rows : List R} {hd : Int} (v1 : st.σ "rows" = some (.ref ra)) (v2 : st.σ "head" = some (.int hd)) (v3 : st.σ "grammar" = some (.ref gr)) (hra : F ra = some (.list vs)) (hvs : LR (RowR F) vs rows) (hR : RowsOk rows) (hne : rows ≠ [])
  (h157 : F 157 = some (.tab true)) (hG : Gm st.μ F gr ad S) (hS : GR F S rows) (hP : Prec F S.pr) (hes : S.es.length ≤ 15)
  (h : ∀ st' start, st'.μ xa = some xo → (∃ b, st'.μ 45 = some (.tab b)) → st'.σ "rows" = some (.ref ra) → st'.σ "grammar" = some (.ref gr) → st'.σ "start" = some (.str start) → (∃ r ∈ rows, r.nm = start) → st'.μ ra = some (.list vs) → LR (RowR st'.μ) vs rows → st'.μ 157 = some (.tab true) → Fin st'.μ gr rows start → (r_law_c8 (n := n) m).1 Q X st') :
  (r_law_c6 (n := n) m).1 Q X st := by
 unfold r_law_c6; dsimp only
 have hra' := hG.mem.le _ _ hra
 have hlen := hvs.length
 have hrl := hR.len
 have hvl : vs.length ≤ 100000 := by omega
 have hvl2 : vs.length ≤ 1000 := by omega
 have hpos : 0 < rows.length := List.length_pos_iff.mpr hne
 refine wk_cut (fun st1 => SameBut ["start"] st.σ st1.σ ∧ st1.μ = st.μ ∧ ∃ i r, rows[i]? = some r ∧ st1.σ "start" = some (.str r.nm) ∧ ((hd.fmod 2 == 1) = false → i = 0)) ?_ (fun Q' hQ' => ?_)
 rotate_left
 ·walk_at "w"
  refine wk_mod (by decide) ?_
  walk_at "w"
  refine wk_split (fun hb => ?_) (fun hb => ?_)
  ·walk_at "w"
   refine wk_div (by decide) (by decide) ?_
   walk_at "w"
   refine wk_mod (by omega) ?_
   have h0 : 0 ≤ (hd.fdiv 2).fmod (vs.length : Int) := Int.fmod_nonneg_of_pos _ (by omega)
   have h1 : (hd.fdiv 2).fmod (vs.length : Int) < vs.length := Int.fmod_lt_of_pos _ (by omega)
   obtain ⟨i, hi⟩ : ∃ i : Nat, (hd.fdiv 2).fmod (vs.length : Int) = (i : Int) := ⟨_, (Int.toNat_of_nonneg h0).symm⟩
   rw [hi] at h1 ⊢
   have hi2 : i < rows.length := by omega
   refine exG1_2 (hvs.get (List.getElem?_eq_getElem hi2)) fun v hv hRv => ?_
   obtain ⟨w, sl, rfl, w1, w2⟩ := hRv.le hG.mem.le
   refine wk_idxL (by walk_at "mu") hvl2 (seqIndex_nat (by omega)) hv ?_
   walk_at "w"
   refine wk_idxT (j := 0) (u := .str rows[i].nm) (by walk_at "mu") (by simp) (by simp [seqIndex?]) rfl ?_
   walk_at "w"
   exact hQ' _ ⟨SameBut.set (by walk_at "nm") SameBut.refl, rfl, i, _, List.getElem?_eq_getElem hi2, sig_same, fun h => by rw [hb] at h; k_call_by "c" h⟩
  ·walk_at "w"
   refine exG1_2 (hvs.get (List.getElem?_eq_getElem hpos)) fun v hv hRv => ?_
   obtain ⟨w, sl, rfl, w1, w2⟩ := hRv.le hG.mem.le
   refine wk_idxL (j := 0) (by walk_at "mu") hvl2 (seqIndex_nat (i := 0) (by omega)) hv ?_
   walk_at "w"
   refine wk_idxT (j := 0) (u := .str rows[0].nm) (by walk_at "mu") (by simp) (by simp [seqIndex?]) rfl ?_
   walk_at "w"
   exact hQ' _ ⟨SameBut.set (by walk_at "nm") SameBut.refl, rfl, 0, _, List.getElem?_eq_getElem hpos, sig_same, fun _ => rfl⟩
 intro st1 q0q
 refine exG0_3 q0q fun b1 hmu r1 => ?_
 refine exG2_3 r1 fun i r hi s1 hz => ?_
 have hrm : r ∈ rows := List.mem_of_getElem? hi
 have hro := hR.ok r hrm
 have hG1 : Gm st1.μ F gr ad S := hmu ▸ hG
 obtain ⟨A1, A2, A3, A4, A5, A6, A7, A8, A9⟩ := hG1.at_
 obtain ⟨i0, e0, i1, -, -, -, -, -, -, -, -, -, -, -, -⟩ := hG1.all
 have hno := A9 "set_start" (by simp)
 refine exG0_3 (hS.small hR.ok hR.len) fun hSm hus hktl => ?_
 refine exG1_2 hS.vs fun rs hrs1 hrs2 => ?_
 obtain ⟨v1', rest, rfl⟩ : ∃ v rest, rs = v :: rest := by
  induction rs with
  | nil => have := hrs2.length; rw [numb_len] at this; simp at this; omega
  | cons v rest => exact ⟨v, rest, rfl⟩
 have hnumb : numb rows ≠ [] := by intro e; have := numb_len rows; rw [e] at this; simp at this; omega
 obtain ⟨p1, prest, hp1⟩ : ∃ p ps, numb rows = p :: ps := by
  cases e : numb rows with
  | nil => exact absurd e hnumb
  | cons p ps => exact ⟨p, ps, rfl⟩
 have hpn : i = 0 → r.nm = p1.nm := by
  rintro rfl
  have : (numb rows)[0]? = some p1 := by rw [hp1]; rfl
  unfold numb at this
  rw [List.getElem?_map, List.getElem?_zipIdx, hi] at this
  simp [prOf] at this
  rw [← this]
 have hnz : r.nm.length ≠ 0 ∧ r.nm.length ≤ 100 := by
  have : ∀ s ∈ names4, s.length ≠ 0 ∧ s.length ≤ 100 := by decide +kernel
  exact this _ hro.nm
 have hkn : r.nm ∈ S.kn := by rw [hS.kn]; exact knOf_nm hR.ok hrm
 have hgo : ∀ (nn : Nat) (sv : V), ((sv = .none ∧ r.nm = p1.nm) ∨ (sv = .str r.nm ∧ r.nm.length ≠ 0)) → ∀ (Q3 : V → St → Prop) (X3 : Ex → St → Prop), (∀ μ', μ' xa = some xo → (∃ b, μ' 45 = some (.tab b)) → μ' ra = some (.list vs) → LR (RowR μ') vs rows → μ' 157 = some (.tab true) → Fin μ' gr rows r.nm → Q3 .none ⟨st1.σ, μ'⟩) →
   fnM ["self", "start"] (([] : List (Str × Value)).map fun p => (p.1, er p.2)) 2 (r_set_start (n := nn) m).1 [.ref gr, sv] Q3 X3 st1 := by
  intro nn sv hsv Q3 X3 hk
  have hp1' : ProdAt F v1' p1 := by rw [hp1] at hrs2; exact hrs2.1
  refine sp_set_start (F := F) (ad := ad) (S := S) hG1 hrs1 hSm.vs hp1' hsv hnz.2 hkn (hSm.cn _) hes (names_ok _ hro.nm) fun μ' F' v0 ad' k1 k2 k3 => ?_
  have hle := k1.trans k3.mem.le
  refine hk μ' (hle _ _ hxa) k3.tb (hle _ _ hra) (hvs.mono fun _ _ q => q.le hle) (hle _ _ h157) ?_
  have hS' : GR F' S rows := ⟨⟨_, hrs1, hrs2.mono fun _ _ q => q.le k1⟩, hS.pm, hS.pml, hS.kb, fun k hk => (hS.cb k hk).mono fun _ _ q => q.le k1, hS.kt, hS.ct, hS.kn, hS.cn, hS.us⟩
  exact k3.fin hS' (hrs2.mono fun _ _ q => q.le k1) k2 (hP.le k1) hR.ok hro.nm
 walk_at "w"
 refine wk_mod (by decide) ?_
 walk_at "w"
 refine wk_split (fun hb => ?_) (fun hb => ?_)
 ·walk_at "w"
  refine hgo _ _ (.inr ⟨rfl, hnz.1⟩) _ _ fun μ' qx qy q1 q2 q3 q4 => ?_
  walk_at "w"
  exact h _ r.nm qx qy (by walk_at "sg") (by walk_at "sg") s1 ⟨r, hrm, rfl⟩ q1 q2 q3 q4
 ·walk_at "w"
  refine hgo _ _ (.inl ⟨rfl, hpn (hz hb)⟩) _ _ fun μ' qx qy q1 q2 q3 q4 => ?_
  walk_at "w"
  exact h _ r.nm qx qy (by walk_at "sg") (by walk_at "sg") s1 ⟨r, hrm, rfl⟩ q1 q2 q3 q4
end Kk
end
section
set_option maxHeartbeats 1000000
namespace Kk
variable {α β γ δ : Type}
noncomputable def nt (μ : Addr → Option O) : Addr → Option O := fun a => match μ a with | some (.tab _) => none | x => x
theorem nt_le {μ : Addr → Option O} : Le (nt μ) μ := fun a o e => by
 unfold nt at e
 split at e
 ·k_call_by "c" e
 ·exact e
theorem nt_get {μ : Addr → Option O} {a : Addr} {o : O} (e : μ a = some o) (h : ∀ b, o ≠ .tab b) : nt μ a = some o := by
 unfold nt
 rw [e]
 induction o <;> first | rfl | exact absurd rfl (h _)
theorem nt_tab {μ : Addr → Option O} {a : Addr} {b : Bool} (e : μ a = some (.tab b)) : nt μ a = none := by unfold nt; rw [e]
theorem ProdAt.nt {μ : Addr → Option O} {v : V} {p : PR} (h : ProdAt μ v p) : ProdAt (nt μ) v p :=
 by obtain ⟨a, d, es, ep, t, e1, e2, e3, e4, e5, e6, e7⟩ := h; exact ⟨a, d, es, ep, t, e1, nt_get e2 nofun, nt_get e3 nofun, e4, e5, e6, nt_get e7 nofun⟩
theorem RowR.nt {μ : Addr → Option O} {v : V} {r : R} (h : RowR μ v r) : RowR (nt μ) v r := by obtain ⟨a, l, e, h1, h2⟩ := h; exact ⟨a, l, e, nt_get h1 nofun, nt_get h2 nofun⟩
theorem Fin.nt {μ : Addr → Option O} {gr : Addr} {rows : List R} {start : Str} (h : Fin μ gr rows start) : Fin (nt μ) gr rows start := by
 refine ⟨?_, by obtain ⟨d, es, ep, a, b, c⟩ := h.meth; exact ⟨d, es, ep, nt_get a nofun, nt_get b nofun, c⟩⟩
 obtain ⟨d, es, ep, P, vs, pn, ad, pe, t, at_, te, nt', an, ne, pr, a1, a2, a3, pre, up, g1, g2, g3, g4, g5, g6, g7, g8, g9, g10, g11, g12, g13, g14, g15, g16, g17, g18, g19, g20, g21⟩ := h.fg
 exact ⟨d, es, ep, P, vs, pn, ad, pe, t, at_, te, nt', an, ne, pr, a1, a2, a3, pre, up, nt_get g1 nofun, nt_get g2 nofun, g3, nt_get g4 nofun, g5.mono fun v y h => h.nt, g6, nt_get g7 nofun, fun s hs => (by obtain ⟨ws, a, b⟩ := g8 s hs; exact ⟨ws, nt_get a nofun, b.mono fun v y h => h.nt⟩),
  g9, nt_get g10 nofun, fun s hs => nt_get (g11 s hs) nofun, g12, nt_get g13 nofun, fun s hs => nt_get (g14 s hs) nofun, g15, nt_get g16 nofun, nt_get g17 nofun, nt_get g18 nofun, nt_get g19 nofun, g20, nt_get g21 nofun⟩
structure LW (st : St) (gr : Addr) (rows : List R) (start : Str) : Prop where
 rs : ∃ ra vs, st.σ "rows" = some (.ref ra) ∧ st.μ ra = some (.list vs) ∧ LR (RowR st.μ) vs rows
 gm : st.σ "grammar" = some (.ref gr)
 fin : Fin st.μ gr rows start
 sta : st.σ "start" = some (.str start)
theorem LW.next {st st' : St} {gr : Addr} {rows : List R} {start : Str} {L : List Str} (h : LW st gr rows start) (b : SameBut L st.σ st'.σ) (hL : ("rows" : Str) ∉ L ∧ ("grammar" : Str) ∉ L ∧ ("start" : Str) ∉ L) (k : Le (nt st.μ) st'.μ) : LW st' gr rows start := by
 refine exG2_3 h.rs fun ra vs h1 h2 h3 => ?_
 exact ⟨⟨ra, vs, b.get hL.1 h1, k _ _ (nt_get h2 nofun), h3.mono fun _ _ q => q.nt.le k⟩, b.get hL.2.1 h.gm, h.fin.nt.le k, b.get hL.2.2 h.sta⟩
inductive SV (st : St) (x : Str) (xs : List Str) : Prop
 | mk (a : Addr) : st.σ x = some (.ref a) → st.μ a = some (.list (xs.map .str)) → SV st x xs
theorem SV.next {st st' : St} {x : Str} {xs : List Str} {L : List Str} (h : SV st x xs) (b : SameBut L st.σ st'.σ) (hL : x ∉ L) (k : Le (nt st.μ) st'.μ) : SV st' x xs := by obtain ⟨a, e1, e2⟩ := h; exact ⟨a, b.get hL e1, k _ _ (nt_get e2 nofun)⟩
theorem Le.nt {μ μ' : Addr → Option O} (h : Le μ μ') : Le (Kk.nt μ) μ' := nt_le.trans h
noncomputable def ruledOf (rows : List R) : List Str := rows.map R.nm
inductive PairR (μ : Addr → Option O) (v : V) (q : Str × Int) : Prop
 | mk (t : Addr) : v = .ref t → μ t = some (.tup [.str q.1, .int q.2]) → PairR μ v q
theorem PairR.le {μ μ' : Addr → Option O} (k : Le μ μ') {v : V} {q : Str × Int} (h : PairR μ v q) : PairR μ' v q := by obtain ⟨t, e, h⟩ := h; exact ⟨t, e, k _ _ h⟩
inductive DV (st : St) (x : Str) (qs : List (Str × Int)) : Prop
 | mk (a : Addr) (vs : List V) : st.σ x = some (.ref a) → st.μ a = some (.list vs) → LR (PairR st.μ) vs qs → DV st x qs
theorem toks_ok : ∀ s ∈ toks, PyData.strOk s = true := by decide +kernel
theorem ruled_ok {rows : List R} (h : ∀ r ∈ rows, RowOk r) : ∀ s ∈ ruledOf rows, PyData.strOk s = true := by
 intro s hs
 refine exG1_2 (List.mem_map.mp hs) fun r hr r1 => ?_
 obtain rfl := r1
 exact names_ok _ (h r hr).nm
variable {g : Gx} {X : Ex → St → Prop} {Q : Fl → St → Prop} {st : St} {gr : Addr} {rows : List R} {start : Str}
theorem law_c8 {n : Nat} {m : Mine g} (hW : LW st gr rows start) (hR : RowsOk rows)
  (h : ∀ st', SameBut ["tokens", "ruled"] st.σ st'.σ → Le st.μ st'.μ → SV st' "tokens" toks → SV st' "ruled" (ruledOf rows) → (r_law_c10 (n := n) m).1 Q X st') : (r_law_c8 (n := n) m).1 Q X st := by
 unfold r_law_c8; dsimp only
 refine exG2_3 hW.rs fun ra vs h1 h2 h3 => ?_
 have hrl := hR.len
 walk_at "w"
 refine wk_list (by simp) fun tk htk => ?_
 walk_at "w"
 refine wk_comp (hasFree_of [] (by kernel_rfl) trivial) ?_
 walk_at "w"
 refine comp_pure (Rr := RowR st.μ) (fun _ v s => v = .str s) (fun _ _ _ _ _ h => h) (fun r : R => [r.nm]) ["row"] (hasFree_of [] (by kernel_rfl) trivial) (by walk_at "mu") h3 (by omega) ?_ ?_
 ·rintro r v st2 acc K2 hy hv q1 q2 q3 q4 q5
  obtain ⟨w, sl, rfl, w1, w2⟩ := hv
  have w1' := q1 _ _ (put_old htk w1)
  walk_at "w"
  refine wk_splitC (fun _ => ?_) (fun hb => by k_call_by "c" hb)
  walk_at "w"
  refine wk_idxT (j := 0) (u := .str r.nm) (by walk_at "mu") (by simp) (by simp [seqIndex?]) rfl ?_
  exact ⟨q3, q4 _ _ r.nm rfl Le.refl (SameBut.set (by walk_at "nm") q2) rfl⟩
 ·intro D μ2 vs2 q1 q0 q2 q3
  have q5 : vs2 = (ruledOf rows).map V.str := by
   rw [LR.eq_map (f := V.str) q3, ← List.map_eq_flatMap]; rfl
  subst q5
  walk_at "w"
  refine h _ ?_ ?_ ⟨tk, by walk_at "sg", q1 _ _ put_same⟩ ⟨D, by walk_at "sg", q2⟩
  ·exact SameBut.set (by walk_at "nm") (show SameBut _ st.σ ((st.put tk _).set "tokens" _).σ from SameBut.set (by walk_at "nm") (SameBut.put SameBut.refl))
  ·exact (Le.refl.new htk : Le st.μ (upd st.μ tk _)).trans q1
theorem law_c10 {n : Nat} {m : Mine g} (hW : LW st gr rows start) (hR : RowsOk rows) (hT : SV st "tokens" toks)
  (h : ∀ st', SameBut ["names", "row", "x"] st.σ st'.σ → Le st.μ st'.μ → SV st' "names" (knOf rows) → (r_law_c12 (n := n) m).1 Q X st') : (r_law_c10 (n := n) m).1 Q X st := by
 unfold r_law_c10; dsimp only
 refine exG2_3 hW.rs fun ra vs h1 h2 h3 => ?_
 obtain ⟨ta, t1, t2⟩ := hT
 walk_at "w"
 refine wk_list (by simp) fun na hna => ?_
 walk_at "w"
 refine loop_gen (its_list (xs := vs) (by walk_at "mu")) h3.ones (fun pre st' => SameBut ["names", "row", "x"] st.σ st'.σ ∧ st'.σ "names" = some (.ref na) ∧ Le st.μ st'.μ ∧ st'.μ na = some (.list ((knOf pre).map .str))) ?_ ?_ ?_ ?_
 ·exact ⟨SameBut.set (by walk_at "nm") (SameBut.put SameBut.refl), by walk_at "sg", by walk_at "le", set_mu put_same⟩
 ·intro i st' hi q0q
  refine exG0_4 q0q fun _ _ k1 _ => ?_
  exact cur_list (k1 _ _ h2)
 ·intro pre r post l st1 K hps q0q q1q hK
  refine exG1_2 q0q fun v r2 hv => ?_
  obtain rfl := r2
  refine exG0_4 q1q fun b1 b2 k1 k2 => ?_
  obtain ⟨w, sl, rfl, w1, w2⟩ := hv
  have hrm : r ∈ rows := by rw [hps]; simp
  have hro := hR.ok r hrm
  have hpre : ∀ q ∈ pre, RowOk q := fun q hq => hR.ok q (by rw [hps]; simp [hq])
  have hpl : pre.length ≤ 8 := by have := congrArg List.length hps; have := hR.len; simp at *; omega
  have hknl := knOf_len pre fun q hq => (hpre q hq).len
  walk_at "w"
  refine wk_idxT (j := 0) (u := .str r.nm) (by walk_at "mu") (by simp) (by simp [seqIndex?]) rfl ?_
  walk_at "w"
  refine wk_list (by simp) fun l1 hl1 => ?_
  walk_at "w"
  refine wk_idxT (j := 1) (u := .ref sl) (by walk_at "mu") (by simp) (by simp [seqIndex?]) rfl ?_
  walk_at "w"
  refine wk_addL (xs := [.str r.nm]) (ys := r.sy.map .str) (by walk_at "mu") (by walk_at "mu") (by simp) (by have := hro.len; simp; omega) fun l2 hl2 => ?_
  have hnl1 : na ≠ l1 := ne_none (μ := st1.μ) k2 hl1
  have hnl2 : na ≠ l2 := ne_none (put_ne hnl1 k2) hl2
  walk_at "w"
  refine loop_gen (its_list (xs := (r.nm :: r.sy).map .str) (by exact put_same)) (LR.strs (r.nm :: r.sy)).ones (fun pre2 st' => SameBut ["names", "row", "x"] st.σ st'.σ ∧ st'.σ "names" = some (.ref na) ∧ Le st.μ st'.μ ∧ st'.μ l2 = some (.list ((r.nm :: r.sy).map .str)) ∧ st'.μ na = some (.list ((knAdd toks (knOf pre) pre2).map .str))) ?_ ?_ ?_ ?_
  ·refine ⟨SameBut.put (SameBut.put (SameBut.set (by walk_at "nm") b1)), by walk_at "sg", ?_, put_same, put_ne hnl2 (put_ne hnl1 (set_mu k2))⟩
   exact Le.put_new hl2 (Le.put_new hl1 k1)
  ·intro i st' hi q0q
   refine exG0_5 q0q fun _ _ _ k _ => ?_
   exact cur_list k
  ·intro pre2 y post2 l st2 K2 hps2 q0q q1q hK2
   refine exG1_2 q0q fun v r3 r4 => ?_
   obtain rfl := r3
   obtain rfl := r4
   refine exG0_5 q1q fun c1 c2 c3 c4 c5 => ?_
   have hym : y ∈ r.nm :: r.sy := by rw [hps2]; simp
   have hyok : PyData.strOk y = true := by
    rcases List.mem_cons.mp hym with rfl | hy
    ·exact names_ok _ hro.nm
    ·exact alpha_ok _ (hro.sy y hy)
   have hal : ∀ z ∈ knAdd toks (knOf pre) pre2, z ∈ names4 := knAdd_names (knOf_names hpre) fun z hz => by
    have : z ∈ r.nm :: r.sy := by rw [hps2]; simp [hz]
    rcases List.mem_cons.mp this with rfl | hz
    ·exact names_alpha _ hro.nm
    ·exact hro.sy z hz
   have hlen2 : ((knAdd toks (knOf pre) pre2).map V.str).length ≤ 1000 := by
    have h1 := knAdd_len toks pre2 (knOf pre)
    have h2 := congrArg List.length hps2
    have h3 := hro.len
    simp at h2 ⊢; omega
   walk_at "w"
   refine wk_ninL (ys := toks) (by walk_at "mu") toks_ok hyok ?_
   have hcond : ∀ (Q3 : Bool → St → Prop) (X3 : Ex → St → Prop), Q3 (!decide (y ∈ knAdd toks (knOf pre) pre2)) (st2.set "x" (.str y)) → mif (mbind (locM "x") fun a => mbind (locM "names") fun b => cmpM CmpOp.NotIn a b) (mret true) (mret false) Q3 X3 (st2.set "x" (.str y)) := by
    intro Q3 X3 hq
    walk_at "w"
    refine wk_ninL (ys := knAdd toks (knOf pre) pre2) (by walk_at "mu") (fun z hz => names_ok _ (hal z hz)) hyok ?_
    refine wk_split (fun hb => ?_) (fun hb => ?_)
    ·rw [hb] at hq; exact hq
    ·rw [hb] at hq; exact hq
   refine wk_and hcond ?_
   refine wk_split (fun hb => ?_) (fun hb => ?_)
   ·walk_at "w"
    refine hK2 _ ⟨SameBut.put (SameBut.set (by walk_at "nm") c1), by walk_at "sg", Le.put_mut hna c3, put_ne (Ne.symm hnl2) c4, ?_⟩
    rw [knAdd_app, knStep, if_neg (by simpa using hb), List.map_append]
    exact put_same
   ·walk_at "w"
    refine hK2 _ ⟨SameBut.set (by walk_at "nm") c1, by walk_at "sg", c3, c4, ?_⟩
    have hm : y ∈ toks ∨ y ∈ knAdd toks (knOf pre) pre2 := by
     by_cases q : y ∈ toks
     ·exact .inl q
     ·right; simpa [q] using hb
    rw [knAdd_app, knStep, if_pos hm]
    exact c5
  ·intro st2 q0q
   refine exG0_5 q0q fun c1 c2 c3 c4 c5 => ?_
   walk_at "w"
   refine hK _ ⟨c1, c2, c3, ?_⟩
   rw [knOf_app]
   exact c5
 ·intro st1 q0q
  refine exG0_4 q0q fun b1 b2 k1 k2 => ?_
  walk_at "w"
  exact h _ b1 k1 ⟨na, b2, k2⟩
end Kk
end
section
set_option maxHeartbeats 1000000
namespace Kk
variable {α β γ δ : Type}
noncomputable def dueP (ruled : List Str) (rows : List R) : List (Str × Int) := (numb rows).flatMap fun p => (p.sy.filter fun x => !decide (x ∈ toks) && !decide (x ∈ ruled)).map fun x => (x, p.num)
theorem dueP_app (ruled : List Str) (rows : List R) (r : R) : dueP ruled (rows ++ [r]) = dueP ruled rows ++ (r.sy.filter fun x => !decide (x ∈ toks) && !decide (x ∈ ruled)).map fun x => (x, ((rows.length + 1 : Nat) : Int)) := by
 unfold dueP
 rw [numb_app, List.flatMap_append]
 simp
theorem filt_flat (l : List α) (p : α → Bool) (f : α → β) : (l.filter p).map f = l.flatMap fun x => if p x = true then [f x] else [] := by
 induction l with
 | nil => rfl
 | cons z zs ih =>
  rw [List.flatMap_cons, ← ih, List.filter_cons]
  split <;> rfl
theorem zip_splitR {xs : List R} {pre post : List (R × Nat)} {y : R} {j : Nat} (h : xs.zipIdx = pre ++ (y, j) :: post) : j = pre.length ∧ xs = pre.map (·.1) ++ y :: post.map (·.1) := by
 constructor
 ·have h1 := congrArg (·[pre.length]?) h
  simp only [List.getElem?_zipIdx, Nat.zero_add, List.getElem?_append_right (Nat.le_refl _), Nat.sub_self, List.getElem?_cons_zero] at h1
  refine exG1_2 (Option.map_eq_some_iff.mp h1) fun x _ e => ?_
  k_call_by "c" e; rfl
 ·have h1 := congrArg (List.map (·.1)) h
  simpa using h1
variable {g : Gx} {X : Ex → St → Prop} {Q : Fl → St → Prop} {st : St} {gr : Addr} {rows : List R} {start : Str}
theorem law_c12 {n : Nat} {m : Mine g} (hW : LW st gr rows start) (hR : RowsOk rows) (hst : start ∈ ruledOf rows) (hT : SV st "tokens" toks) (hRu : SV st "ruled" (ruledOf rows))
  (h : ∀ st', SameBut ["due", "k", "row"] st.σ st'.σ → Le st.μ st'.μ → DV st' "due" (dueP (ruledOf rows) rows) → (r_law_c14 (n := n) m).1 Q X st') : (r_law_c12 (n := n) m).1 Q X st := by
 unfold r_law_c12; dsimp only
 refine exG2_3 hW.rs fun ra vs h1 h2 h3 => ?_
 obtain ⟨ta, t1, t2⟩ := hT
 obtain ⟨ua, u1, u2⟩ := hRu
 have s1 := hW.sta
 have tok_ := toks_ok
 have rul_ := ruled_ok hR.ok
 have sta_ := rul_ _ hst
 walk_at "w"
 refine wk_neg (by simp [hst]) ?_
 walk_at "w"
 refine wk_list (by simp) fun d0 hd0 => ?_
 walk_at "w"
 refine loop_gen (its_enL (xs := vs) (by walk_at "mu")) (LR.enum 0 h3) (fun pre st' => SameBut ["due", "k", "row"] st.σ st'.σ ∧ Le st.μ st'.μ ∧ DV st' "due" (dueP (ruledOf rows) (pre.map (·.1))) ∧ ∃ a vs', st'.σ "due" = some (.ref a) ∧ st'.μ a = some (.list vs') ∧ vs'.length ≤ 3 * pre.length) ?_ ?_ ?_ ?_
 ·exact ⟨SameBut.set (by walk_at "nm") (SameBut.put SameBut.refl), Le.put_new hd0 Le.refl, ⟨d0, [], by walk_at "sg", set_mu put_same, trivial⟩, d0, [], by walk_at "sg", set_mu put_same, by simp⟩
 ·intro i st' hi q0q
  refine exG0_3 q0q fun _ k1 _ => ?_
  exact cur_enL (k1 _ _ h2) rfl
 ·intro pre q0q post l st1 K hps q1q q2q hK
  obtain ⟨r, j⟩ := q0q
  refine exG1_2 q1q fun v r1 hv => ?_
  obtain rfl := r1
  refine exG0_4 q2q fun b1 k1 r2 r3 => ?_
  obtain ⟨da, dvs, d1, d2, d3⟩ := r2
  refine exG2_3 r3 fun da' dvs' e1 e2 e3 => ?_
  have hda : da' = da := by rw [d1] at e1; k_call_by "c" e1; rfl
  subst hda
  have hdv : dvs' = dvs := by rw [d2] at e2; k_call_by "c" e2; rfl
  subst hdv
  obtain ⟨w, sl, rfl, w1, w2⟩ := hv
  obtain ⟨rfl, hsplit⟩ := zip_splitR hps
  have hrm : r ∈ rows := by rw [hsplit]; simp
  have hro := hR.ok r hrm
  have hpl : pre.length ≤ 8 := by have := congrArg List.length hsplit; have := hR.len; simp at *; omega
  walk_at "w"
  refine wk_comp (hasFree_of ["k", "ruled", "tokens"] (by kernel_rfl) ⟨⟨_, by walk_at "sg"⟩, ⟨_, by walk_at "sg"⟩, ⟨_, by walk_at "sg"⟩, trivial⟩) ?_
  walk_at "w"
  refine wk_idxT (j := 1) (u := .ref sl) (by walk_at "mu") (by simp) (by simp [seqIndex?]) rfl ?_
  walk_at "w"
  refine comp_pure (Rr := fun v y => v = .str y) PairR (fun _ _ _ _ k h => h.le k) (fun x => if (!decide (x ∈ toks) && !decide (x ∈ ruledOf rows)) = true then [(x, ((pre.length + 1 : Nat) : Int))] else []) ["x"] (hasFree_of ["k", "ruled", "tokens"] (by kernel_rfl) ⟨⟨_, by walk_at "sg"⟩, ⟨_, by walk_at "sg"⟩, ⟨_, by walk_at "sg"⟩, trivial⟩) (by walk_at "mu") (LR.strs r.sy) (by have := hro.len; omega) ?_ ?_
  ·rintro y v st2 acc K2 hy rfl q1 q2 q3 q4 q5
   have hyok := alpha_ok _ (hro.sy y hy)
   have q6 : Le st1.μ st2.μ := q1
   walk_at "w"
   refine wk_splitC (fun hb => ?_) (fun hb => ?_)
   ·walk_at "w"
    refine wk_addI ?_
    walk_at "w"
    refine wk_tup (by simp) fun t ht => ?_
    have ef : (if (!decide (y ∈ toks) && !decide (y ∈ ruledOf rows)) = true then [(y, ((pre.length + 1 : Nat) : Int))] else []) = [(y, ((pre.length + 1 : Nat) : Int))] := by rw [if_pos (by simpa using hb)]
    refine ⟨q3, q4 _ _ _ ef (Le.put_new ht Le.refl) (SameBut.put (SameBut.set (by walk_at "nm") q2)) ⟨t, rfl, ?_⟩⟩
    rw [put_same]; simp
   ·have ef : (if (!decide (y ∈ toks) && !decide (y ∈ ruledOf rows)) = true then [(y, ((pre.length + 1 : Nat) : Int))] else []) = [] := by rw [if_neg (by simpa using hb)]
    exact q5 _ ef Le.refl (SameBut.set (by walk_at "nm") q2)
  ·intro D μ2 vs2 q1 q0 q2 q3
   have q1' : Le st1.μ μ2 := q1
   have hl2 : vs2.length ≤ 3 := by
    have e := q3.length
    have h4 := hro.len
    have : (r.sy.flatMap fun x => if (!decide (x ∈ toks) && !decide (x ∈ ruledOf rows)) = true then [(x, ((pre.length + 1 : Nat) : Int))] else []).length ≤ r.sy.length := by
     generalize r.sy = sy
     induction sy with
     | nil => simp
     | cons z zs ih =>
      rw [List.flatMap_cons, List.length_append, List.length_cons]
      split
      ·simp at ih ⊢; omega
      ·simp at ih ⊢; omega
    omega
   walk_at "w"
   refine wk_addL (xs := dvs') (ys := vs2) (q1' _ _ d2) q2 (by omega) (by omega) fun D2 hD2 => ?_
   walk_at "w"
   refine hK _ ⟨?_, (k1.trans q1').trans (Le.put_new hD2 Le.refl), ⟨D2, dvs' ++ vs2, by walk_at "sg", set_mu put_same, ?_⟩, D2, dvs' ++ vs2, by walk_at "sg", set_mu put_same, by simp; omega⟩
   ·exact SameBut.set (by walk_at "nm") (SameBut.put (show SameBut _ st.σ ((st1.set "k" _).set "row" _).σ from SameBut.set (by walk_at "nm") (SameBut.set (by walk_at "nm") b1)))
   ·have hle : Le μ2 (upd μ2 D2 (.list (dvs' ++ vs2))) := Le.refl.new hD2
    rw [List.map_append, List.map_cons, List.map_nil, dueP_app]
    refine LR.app (d3.mono fun _ _ q => q.le (q1'.trans hle)) ?_
    have e : (r.sy.filter fun x => !decide (x ∈ toks) && !decide (x ∈ ruledOf rows)).map (fun x => (x, (((pre.map (·.1)).length + 1 : Nat) : Int))) = r.sy.flatMap fun x => if (!decide (x ∈ toks) && !decide (x ∈ ruledOf rows)) = true then [(x, ((pre.length + 1 : Nat) : Int))] else [] := by
     rw [List.length_map]; exact filt_flat _ _ _
    rw [e]
    exact q3.mono fun _ _ q => q.le hle
 ·intro st1 q0q
  refine exG0_4 q0q fun b1 k1 k2 _ => ?_
  walk_at "w"
  have hm : rows.zipIdx.map (·.1) = rows := by simp
  rw [hm] at k2
  exact h _ b1 k1 k2
end Kk
end
section
set_option maxHeartbeats 1000000
namespace Kk
variable {α β γ δ : Type}
theorem fm_le {f : α → List β} {c : Nat} : ∀ {l : List α}, (∀ x ∈ l, (f x).length ≤ c) → (l.flatMap f).length ≤ c * l.length
 | [], _ => by simp
 | x :: r, h => by
  have h1 := h x (.head _)
  have h2 := fm_le (f := f) (c := c) (l := r) fun y hy => h y (.tail _ hy)
  rw [List.flatMap_cons, List.length_append, List.length_cons, Nat.mul_succ]; omega
theorem fm_congr {f g : α → List β} : ∀ {l : List α}, (∀ x ∈ l, f x = g x) → l.flatMap f = l.flatMap g
 | [], _ => rfl
 | x :: r, h => by rw [List.flatMap_cons, List.flatMap_cons, h x (.head _), fm_congr fun y hy => h y (.tail _ hy)]
theorem numb_mem {rows : List R} {p : PR} (h : p ∈ numb rows) : ∃ r ∈ rows, p.nm = r.nm ∧ p.sy = r.sy := by
 refine exG1_2 (List.mem_map.mp h) fun r1 hr1 r2 => ?_
 obtain ⟨r, i⟩ := r1
 obtain rfl := r2
 exact ⟨r, (List.mem_zipIdx hr1).2.2 ▸ List.getElem_mem _, rfl, rfl⟩
theorem numb_of {rows : List R} {r : R} (h : r ∈ rows) : ∃ p ∈ numb rows, p.nm = r.nm ∧ p.sy = r.sy := by
 refine exG1_1 (List.getElem?_of_mem h) fun i hi => ?_
 refine ⟨prOf (r, i + 1), List.mem_map.mpr ⟨(r, i + 1), ?_, rfl⟩, rfl, rfl⟩
 refine List.mem_of_getElem? (i := i) ?_
 rw [List.getElem?_zipIdx, hi]
 simp [Nat.add_comm]
theorem kb_in {rows : List R} {r : R} (h : r ∈ rows) : r.nm ∈ kbOf rows := by
 have key : ∀ (rs : List R) (acc : List Str), (r ∈ rs ∨ r.nm ∈ acc) → r.nm ∈ rs.foldl (fun acc r => if r.nm ∈ acc then acc else acc ++ [r.nm]) acc := by
  intro rs
  induction rs with
  | nil => intro acc h; rcases h with h | h; k_call_by "c" h; exact h
  | cons z zs ih =>
   intro acc hm
   rw [List.foldl_cons]
   apply ih
   rcases hm with hm | hm
   ·rcases List.mem_cons.mp hm with rfl | hm
    ·right; split
     ·assumption
     ·simp
    ·exact .inl hm
   ·right; split
    ·exact hm
    ·simp [hm]
 exact key rows [] (.inl h)
theorem kb_iff {rows : List R} {k : Str} : k ∈ kbOf rows ↔ k ∈ ruledOf rows := by
 constructor
 ·intro h
  refine exG1_2 (kbOf_mem h) fun r hr e => ?_
  exact List.mem_map.mpr ⟨r, hr, e⟩
 ·intro h
  refine exG1_2 (List.mem_map.mp h) fun r hr e => ?_
  exact e ▸ kb_in hr
theorem alpha_err : ∀ s ∈ alpha, s ≠ ("error" : Str) := by decide +kernel
theorem undef_eq {rows : List R} {start : Str} (hR : ∀ r ∈ rows, RowOk r) (hs : start ∈ ruledOf rows) : (undOf (kbOf rows) (ktOf rows) (p0Of start :: numb rows)).map (fun q => (q.1, q.2.num)) = dueP (ruledOf rows) rows := by
 unfold undOf dueP
 rw [List.flatMap_cons, List.map_append]
 have h0 : ((p0Of start).sy.filter fun s => !decide (s ∈ kbOf rows) && (!decide (s ∈ ktOf rows) && !(s == ("error" : Str)))) = [] := by
  simp [p0Of, kb_iff.mpr hs]
 rw [h0, List.map_nil, List.map_nil, List.nil_append, List.map_flatMap]
 apply fm_congr
 intro p hp
 refine exG1_3 (numb_mem hp) fun r hr e1 e2 => ?_
 rw [List.map_map]
 congr 1
 apply List.filter_congr
 intro s hsy
 rw [e2] at hsy
 have hal := (hR r hr).sy s hsy
 have h1 := ktOf_toks hR hr hsy
 have h2 : (s == ("error" : Str)) = false := by simpa using alpha_err s hal
 have h3 := kb_iff (rows := rows) (k := s)
 simp only [h1, h2, h3]
 cases decide (s ∈ ruledOf rows) <;> cases decide (s ∈ toks) <;> rfl
noncomputable def pairD (q : Str × Int) : PyData := .tuple [.str q.1, .int q.2]
theorem rd_pairs {μ : Addr → Option O} : ∀ {vs : List V} {qs : List (Str × Int)}, LR (PairR μ) vs qs → RdAll μ vs (qs.map pairD)
 | [], [], _ => .nil
 | v :: vs, q :: qs, h => by
  obtain ⟨t, rfl, e⟩ := h.1
  exact .cons (.tup e (.cons (.str _) (.cons (.int _) .nil))) (rd_pairs h.2)
theorem ok_pairs : ∀ {qs : List (Str × Int)}, (∀ q ∈ qs, PyData.strOk q.1 = true) → PyData.canLayAll0 (qs.map pairD) = true ∧ PyData.depthAll (qs.map pairD) ≤ 1
 | [], _ => ⟨rfl, by rw [List.map_nil, PyData.depthAll]; omega⟩
 | q :: qs, h => by
  refine exG0_2 (ok_pairs fun z hz => h z (.tail _ hz)) fun h1 h2 => ?_
  constructor
  ·rw [List.map_cons, PyData.canLayAll0, h1]
   unfold pairD
   rw [PyData.canLay0, PyData.canLayAll0, PyData.canLayAll0, PyData.canLayAll0, PyData.canLay0, PyData.canLay0, h q (.head _)]; rfl
  ·rw [List.map_cons, PyData.depthAll]
   have : (pairD q).depth = 1 := by
    unfold pairD
    rw [PyData.depth, PyData.depthAll, PyData.depthAll, PyData.depthAll, PyData.depth, PyData.depth]; rfl
   omega
theorem okD_pairs {qs : List (Str × Int)} (h : ∀ q ∈ qs, PyData.strOk q.1 = true) : okD (.list (qs.map pairD)) := by
 refine exG0_2 (ok_pairs h) fun h1 h2 => ?_
 exact ⟨h1, by rw [PyData.depth]; omega⟩
variable {g : Gx} {X : Ex → St → Prop} {Q : Fl → St → Prop} {st : St} {gr : Addr} {rows : List R} {start : Str}
theorem law_c14 {n : Nat} {m : Mine g} (hW : LW st gr rows start) (hR : RowsOk rows) (hst : start ∈ ruledOf rows) (hD : DV st "due" (dueP (ruledOf rows) rows))
  (h : ∀ st', SameBut [] st.σ st'.σ → Le st.μ st'.μ → (r_law_c15 (n := n) m).1 Q X st') : (r_law_c14 (n := n) m).1 Q X st := by
 unfold r_law_c14; dsimp only
 have s2 := hW.gm
 obtain ⟨da, dvs, d1, d2, d3⟩ := hD
 refine exG3_3 hW.fin.meth fun md mes mep m1 m2 m3 => ?_
 have hno := m3 "undefined_symbols" (by simp [methNames])
 have hsl : ∀ p ∈ p0Of start :: numb rows, p.sy.length ≤ 3 := by
  intro p hp
  rcases List.mem_cons.mp hp with rfl | hp
  ·simp [p0Of]
  ·refine exG1_3 (numb_mem hp) fun r hr _ e => ?_
   rw [e]; exact (hR.ok r hr).len
 have hpl : (p0Of start :: numb rows).length ≤ 9 := by simp [numb_len]; exact hR.len
 have hul : (undOf (kbOf rows) (ktOf rows) (p0Of start :: numb rows)).length ≤ 3 * (p0Of start :: numb rows).length := fm_le fun p hp => by
  rw [List.length_map]; exact Nat.le_trans (List.length_filter_le ..) (hsl p hp)
 walk_at "w"
 refine wk_comp (hasFree_of [] (by kernel_rfl) trivial) ?_
 walk_at "w"
 refine sp_undefined hW.fin.fg (fun p hp => Nat.le_trans (hsl p hp) (by omega)) (by omega) fun r μ1 vs1 k1 k2 k3 => ?_
 walk_at "w"
 refine comp_pure (Rr := UndR μ1) PairR (fun _ _ _ _ k h => h.le k) (fun q : Str × PR => [(q.1, q.2.num)]) ["x", "rule"] (hasFree_of [] (by kernel_rfl) trivial) (by walk_at "mu") k3 (by omega) ?_ ?_
 ·rintro q v st2 acc K2 hq hv q1 q2 q3 q4 q5
  obtain ⟨t, u, rfl, e1, hu⟩ := hv.le q1
  obtain ⟨pa, pd, pes, pep, pt, rfl, e2, e3, e4, e5, e6, e7⟩ := id hu
  walk_at "w"
  refine wk_splitC (fun _ => ?_) (fun hb => by k_call_by "c" hb)
  walk_at "w"
  refine wk_tup (by simp) fun t2 ht2 => ?_
  exact ⟨q3, q4 _ _ _ rfl (Le.put_new ht2 Le.refl) (SameBut.put (SameBut.set (by walk_at "nm") (SameBut.set (by walk_at "nm") q2))) ⟨t2, rfl, put_same⟩⟩
 ·intro D μ2 vs2 q1 q0 q2 q3
  have q1' : Le μ1 μ2 := q1
  have hle := k1.trans q1'
  rw [← List.map_eq_flatMap, undef_eq hR.ok hst] at q3
  have hstr : ∀ q ∈ dueP (ruledOf rows) rows, PyData.strOk q.1 = true := by
   intro q hq
   refine exG1_2 (List.mem_flatMap.mp hq) fun p hp hq => ?_
   refine exG1_2 (List.mem_map.mp hq) fun s hs r3 => ?_
   obtain rfl := r3
   refine exG1_3 (numb_mem hp) fun r hr _ e => ?_
   have := (List.mem_filter.mp hs).1
   rw [e] at this
   exact alpha_ok _ ((hR.ok r hr).sy s this)
  walk_at "w"
  refine wk_neR (d := .list ((dueP (ruledOf rows) rows).map pairD)) (e := .list ((dueP (ruledOf rows) rows).map pairD)) (.list q2 (rd_pairs q3)) (.list (hle _ _ d2) (rd_pairs (d3.mono fun _ _ z => z.le hle))) (okD_pairs hstr) (okD_pairs hstr) ?_
  rw [SeqAt.eqv_refl _ (okD_pairs hstr).1]
  refine wk_neg rfl ?_
  walk_at "w"
  exact h _ SameBut.refl hle
end Kk
end
section
set_option maxHeartbeats 1000000
namespace Kk
variable {α β γ δ : Type}
noncomputable def cntOf (rows : List R) (x : Str) : Nat := (rows.filter fun r => decide (x ∈ r.sy)).length
theorem cnt_zero {rows : List R} {x : Str} : cntOf rows x = 0 ↔ ∀ r ∈ rows, x ∉ r.sy := by
 unfold cntOf
 rw [List.length_eq_zero_iff, List.filter_eq_nil_iff]
 simp
theorem occ_zero {rows : List R} {x : Str} : occ rows x = [] ↔ ∀ r ∈ rows, x ∉ r.sy := by
 constructor
 ·intro h r hr hx
  refine exG1_3 (numb_of hr) fun p hp _ e => ?_
  unfold occ at h
  rw [List.flatMap_eq_nil_iff] at h
  have h2 := h p hp
  rw [List.map_eq_nil_iff, List.filter_eq_nil_iff] at h2
  exact h2 x (e ▸ hx) (by simp)
 ·exact occ_nil
theorem fm_unit {rows : List R} {x : Str} : (rows.flatMap fun r => if decide (x ∈ r.sy) = true then [()] else []).length = cntOf rows x := by
 rw [← filt_flat rows (fun r => decide (x ∈ r.sy)) (fun _ => ()), List.length_map]; rfl
variable {g : Gx} {X : Ex → St → Prop} {st : St} {gr : Addr} {rows : List R} {start : Str}
theorem cnt_comp {Q : V → St → Prop} {x : Str} {ra : Addr} {vs : List V} {μ0 : Addr → Option O} (s1 : st.σ "rows" = some (.ref ra)) (s2 : st.σ "x" = some (.str x)) (h2 : μ0 ra = some (.list vs)) (h3 : LR (RowR μ0) vs rows) (hle : Le μ0 st.μ) (hR : RowsOk rows) (hx : PyData.strOk x = true)
  (h : ∀ D μ' vs', Le st.μ μ' → μ' D = some (.list vs') → vs'.length = cntOf rows x → Q (.ref D) ⟨st.σ, μ'⟩) :
  compM { kind := ScopeKind.function, names := [(Str.ofString ".0", NameKind.local), (Str.ofString "row", NameKind.local), (Str.ofString "x", NameKind.free)], isGenerator := false, isCoroutine := false } (mbind (locM (Str.ofString "rows")) seqM) (asg1 (Str.ofString "row"))
   (mbind (locM (Str.ofString "x")) fun a => mbind (mbind (locM (Str.ofString "row")) fun a => mbind (mret (V.int 1)) fun b => idxM a b) fun b => cmpM CmpOp.In a b) (locM (Str.ofString "row")) Q X st := by
 refine wk_comp (hasFree_of ["x"] (by kernel_rfl) ⟨⟨_, by walk_at "sg"⟩, trivial⟩) ?_
 have h2' := hle _ _ h2
 have hrl := hR.len
 walk_at "w"
 refine comp_pure (Rr := RowR μ0) (fun _ _ (_ : Unit) => True) (fun _ _ _ _ _ h => h) (fun r : R => if decide (x ∈ r.sy) = true then [()] else []) ["row"] (hasFree_of ["x"] (by kernel_rfl) ⟨⟨_, by walk_at "sg"⟩, trivial⟩) h2' h3 (by omega) ?_ ?_
 ·rintro r v st2 acc K2 hr hv q1 q2 q3 q4 q5
  obtain ⟨w, sl, rfl, w1, w2⟩ := hv.le (hle.trans q1)
  have syok : ∀ s ∈ r.sy, PyData.strOk s = true := fun s hs => alpha_ok _ ((hR.ok r hr).sy s hs)
  walk_at "w"
  refine wk_idxT (j := 1) (u := .ref sl) (by walk_at "mu") (by simp) (by simp [seqIndex?]) rfl ?_
  walk_at "w"
  refine wk_splitC (fun hb => ?_) (fun hb => ?_)
  ·walk_at "w"
   exact ⟨q3, q4 _ _ () (by rw [if_pos hb]) Le.refl (SameBut.set (by walk_at "nm") q2) trivial⟩
  ·exact q5 _ (by rw [if_neg (by rw [hb]; simp)]) Le.refl (SameBut.set (by walk_at "nm") q2)
 ·intro D μ2 vs2 q1 q0 q2 q3
  exact h D μ2 vs2 q1 q2 (q3.length.trans fm_unit)
theorem rd_lstrs {μ : Addr → Option O} {a : Addr} {ys : List Str} (h : μ a = some (.list (ys.map .str))) : Rd μ (.ref a) (.list (ys.map .str)) := .list h (rdAll_strs ys)
noncomputable def abc : List Str := ["A", "B", "C"]
theorem unT_eq {rows : List R} {start : Str} (hR : ∀ r ∈ rows, RowOk r) (hs : start ∈ names4) : unT (ktOf rows) (occS rows start) = abc.filter fun x => cntOf rows x == 0 := by
 have hoc : ∀ s ∈ ktOf rows, occS rows start s = occ rows s := fun s hk => by
  have : s ≠ start := by rintro rfl; exact names_kt _ hs (ktOf_sub hk)
  simp [occS, this]
 unfold unT
 have e1 : (ktOf rows).filter (fun s => !(s == ("error" : Str)) && (occS rows start s).isEmpty) = (ktOf rows).filter fun s => !(s == ("error" : Str)) && (cntOf rows s == 0) := by
  apply List.filter_congr
  intro s hk
  rw [hoc s hk]
  congr 1
  have h1 := occ_zero (rows := rows) (x := s)
  have h2 := cnt_zero (rows := rows) (x := s)
  by_cases h : occ rows s = []
  ·have q : cntOf rows s = 0 := h2.mpr (h1.mp h)
   rw [h, q]; rfl
  ·have q : ¬ cntOf rows s = 0 := fun q => h (h1.mpr (h2.mp q))
   have q1 : (occ rows s).isEmpty = false := by simpa using h
   have q2 : (cntOf rows s == 0) = false := by simpa using q
   rw [q1, q2]
 rw [e1]
 unfold ktOf ktP
 have h0 : ("+" : Str) ∉ ((["A", "B", "C", "error"] : List Str)) := by decide +kernel
 rw [if_neg h0]
 have hbase : ((["A", "B", "C", "error"] : List Str)).filter (fun s => !(s == ("error" : Str)) && (cntOf rows s == 0)) = abc.filter fun x => cntOf rows x == 0 := by
  have a1 : (("A" : Str) == ("error" : Str)) = false := by kernel_rfl
  have a2 : (("B" : Str) == ("error" : Str)) = false := by kernel_rfl
  have a3 : (("C" : Str) == ("error" : Str)) = false := by kernel_rfl
  simp only [abc, List.filter_cons, a1, a2, a3, Bool.not_false, Bool.true_and, beq_self_eq_true, Bool.not_true, Bool.false_and, Bool.false_eq_true, if_false, List.filter_nil]
 split
 ·rename_i hp
  rw [List.filter_append, hbase]
  refine exG1_2 (List.mem_flatMap.mp hp) fun r hr hx => ?_
  have : ¬ cntOf rows ("+" : Str) = 0 := fun q => cnt_zero.mp q r hr hx
  simp [this]
 ·exact hbase
theorem occS_len {rows : List R} {start : Str} (hR : RowsOk rows) (k : Str) : (occS rows start k).length ≤ 500 := by
 have h1 := occ_len rows k fun r hr => (hR.ok r hr).len
 have h2 := hR.len
 unfold occS
 rw [List.length_append]
 split <;> simp <;> omega
theorem law_c15 {Q : Fl → St → Prop} {n : Nat} {m : Mine g} (hW : LW st gr rows start) (hR : RowsOk rows) (hst : start ∈ ruledOf rows)
  (h : ∀ st', SameBut [] st.σ st'.σ → Le st.μ st'.μ → (r_law_c16 (n := n) m).1 Q X st') : (r_law_c15 (n := n) m).1 Q X st := by
 unfold r_law_c15; dsimp only
 have s2 := hW.gm
 refine exG2_3 hW.rs fun ra vs h1 h2 h3 => ?_
 refine exG3_3 hW.fin.meth fun md mes mep m1 m2 m3 => ?_
 have hno := m3 "unused_terminals" (by simp [methNames])
 have hsn : start ∈ names4 := by obtain ⟨r, hr, e⟩ := List.mem_map.mp hst; exact e ▸ (hR.ok r hr).nm
 have abcok : ∀ s ∈ abc, PyData.strOk s = true := by decide +kernel
 walk_at "w"
 refine sp_unused_terminals hW.fin.fg (occS_len hR) (by have := ktOf_len rows; omega) fun r1 μ1 k1 k2 => ?_
 walk_at "w"
 refine wk_comp (hasFree_of ["rows"] (by kernel_rfl) ⟨⟨_, by walk_at "sg"⟩, trivial⟩) ?_
 walk_at "w"
 refine wk_list (by simp) fun l hl => ?_
 walk_at "w"
 refine comp_pure (Rr := fun v y => v = .str y) (ys := abc) (fun _ v s => v = .str s) (fun _ _ _ _ _ h => h) (fun s => if (cntOf rows s == 0) = true then [s] else []) ["x"] (hasFree_of ["rows"] (by kernel_rfl) ⟨⟨_, by walk_at "sg"⟩, trivial⟩) (by exact put_same) (LR.strs abc) (by decide) ?_ ?_
 ·rintro y v st2 acc K2 hy rfl q1 q2 q3 q4 q5
  have hyok := abcok y hy
  have hle2 : Le st.μ st2.μ := (k1.trans (Le.refl.new hl)).trans q1
  walk_at "w"
  refine cnt_comp (x := y) (by walk_at "sg") (by walk_at "sg") h2 h3 hle2 hR hyok fun D μ2 vs2 e1 e2 e3 => ?_
  have hvl : vs2.length ≤ 100000 := by rw [e3]; have := hR.len; have h4 : cntOf rows y ≤ rows.length := List.length_filter_le ..; omega
  walk_at "w"
  rw [e3]
  refine wk_splitC (fun hb => ?_) (fun hb => ?_)
  ·have hz : (cntOf rows y == 0) = true := by simpa using hb
   walk_at "w"
   exact ⟨q3, q4 _ _ y (by rw [if_pos hz]) e1 (show SameBut _ _ (st2.set "x" _).σ from SameBut.set (by walk_at "nm") q2) rfl⟩
  ·have hz : ¬ (cntOf rows y == 0) = true := by
    intro q; have : cntOf rows y = 0 := by simpa using q
    rw [this] at hb; simp at hb
   exact q5 _ (by rw [if_neg hz]) e1 (show SameBut _ _ (st2.set "x" _).σ from SameBut.set (by walk_at "nm") q2)
 ·intro D μ2 vs2 q1 q0 q2 q3
  have hle : Le μ1 μ2 := (Le.refl.new hl : Le μ1 (upd μ1 l _)).trans q1
  have e : vs2 = (abc.filter fun x => cntOf rows x == 0).map V.str := by
   rw [LR.eq_map (f := V.str) q3]
   congr 1
   have := filt_flat abc (fun x => cntOf rows x == 0) (fun x => x)
   rw [List.map_id'] at this
   exact this.symm
  subst e
  rw [unT_eq hR.ok hsn] at k2
  have hok : ∀ s ∈ abc.filter fun x => cntOf rows x == 0, PyData.strOk s = true := fun s hs => abcok s (List.mem_filter.mp hs).1
  walk_at "w"
  refine wk_neR (rd_lstrs (hle _ _ k2)) (rd_lstrs q2) (okD_strs hok) (okD_strs hok) ?_
  rw [SeqAt.eqv_refl _ (okD_strs hok).1]
  refine wk_neg rfl ?_
  walk_at "w"
  exact h _ SameBut.refl (k1.trans hle)
end Kk
end
section
set_option maxHeartbeats 1000000
namespace Kk
variable {α β γ δ : Type}
noncomputable def idleOf (rows : List R) (start : Str) : List Str := (knOf rows).filter fun x => !(x == start) && (cntOf rows x == 0)
theorem knAdd_from {kt : List Str} {k : Str} : ∀ {sy kn : List Str}, k ∈ knAdd kt kn sy → k ∈ kn ∨ k ∈ sy
 | [], _, h => .inl h
 | y :: r, kn, h => by
  unfold knAdd at h
  rw [List.foldl_cons] at h
  rcases knAdd_from (kt := kt) (sy := r) h with h | h
  ·unfold knStep at h
   split at h
   ·exact .inl h
   ·rcases List.mem_append.mp h with h | h
    ·exact .inl h
    ·exact .inr (by rw [List.mem_singleton.mp h]; simp)
  ·exact .inr (.tail _ h)
theorem knOf_from {rows : List R} {k : Str} (h : k ∈ knOf rows) : k ∈ ruledOf rows ∨ ∃ r ∈ rows, k ∈ r.sy := by
 suffices hh : ∀ (rs : List R) (acc : List Str), (∀ r ∈ rs, r ∈ rows) → (∀ y ∈ acc, y ∈ ruledOf rows ∨ ∃ r ∈ rows, y ∈ r.sy) → k ∈ rs.foldl (fun acc r => knAdd toks (knStep toks acc r.nm) r.sy) acc → k ∈ ruledOf rows ∨ ∃ r ∈ rows, k ∈ r.sy by
  exact hh rows [] (fun r hr => hr) (by simp) h
 intro rs
 induction rs with
 | nil => intro acc _ h1 h2; exact h1 k h2
 | cons r rs ih =>
  intro acc h1 h2 h3
  rw [List.foldl_cons] at h3
  have hr := h1 r (.head _)
  refine ih _ (fun q hq => h1 q (.tail _ hq)) ?_ h3
  intro y hy
  rcases knAdd_from hy with hy | hy
  ·unfold knStep at hy
   split at hy
   ·exact h2 y hy
   ·rcases List.mem_append.mp hy with hy | hy
    ·exact h2 y hy
    ·rw [List.mem_singleton.mp hy]; exact .inl (List.mem_map.mpr ⟨r, hr, rfl⟩)
  ·exact .inr ⟨r, hr, hy⟩
theorem first_rule (s : Str) : ∀ (rows : List R) (n : Nat), s ∈ rows.map R.nm → ((((rows.zipIdx n).map prOf).filter fun p => p.nm = s).take 1).map (fun p => (p.nm, p.num)) = [(s, (((rows.map R.nm).idxOf s + n : Nat) : Int))]
 | [], _, h => by k_call_by "c" h
 | r :: rs, n, h => by
  rw [List.zipIdx_cons, List.map_cons]
  by_cases e : r.nm = s
  ·rw [List.filter_cons_of_pos (by simp [prOf, e])]
   simp [prOf, e, List.idxOf_cons]
  ·rw [List.filter_cons_of_neg (by simp [prOf, e]), first_rule s rs (n + 1) (by
    rcases List.mem_cons.mp h with h | h
    ·exact absurd h.symm e
    ·exact h)]
   have : (r.nm == s) = false := by simpa using e
   simp [List.idxOf_cons, this]; omega
theorem unR_eq {rows : List R} {start : Str} (hR : ∀ r ∈ rows, RowOk r) (hs : start ∈ ruledOf rows) :
  (unR (p0Of start :: numb rows) (knOf rows) (occS rows start)).map (fun p => (p.nm, p.num)) = (idleOf rows start).map fun x => (x, (((ruledOf rows).idxOf x + 1 : Nat) : Int)) := by
 unfold unR idleOf
 have e1 : (knOf rows).filter (fun s => (occS rows start s).isEmpty) = (knOf rows).filter fun x => !(x == start) && (cntOf rows x == 0) := by
  apply List.filter_congr
  intro s hk
  have h1 := occ_zero (rows := rows) (x := s)
  have h2 := cnt_zero (rows := rows) (x := s)
  unfold occS
  by_cases e : s = start
  ·subst e; simp
  ·have e' : (s == start) = false := by simpa using e
   rw [if_neg e, List.append_nil, e']
   by_cases h : occ rows s = []
   ·have q : cntOf rows s = 0 := h2.mpr (h1.mp h)
    rw [h, q]; rfl
   ·have q : ¬ cntOf rows s = 0 := fun q => h (h1.mpr (h2.mp q))
    have q1 : (occ rows s).isEmpty = false := by simpa using h
    have q2 : (cntOf rows s == 0) = false := by simpa using q
    rw [q1, q2]; rfl
 rw [e1, List.map_flatMap, List.map_eq_flatMap]
 apply fm_congr
 intro s hs2
 refine exG0_2 (List.mem_filter.mp hs2) fun hk hc => ?_
 have hsn := knOf_names hR s hk
 have h0 : ¬ (p0Of start).nm = s := fun e => names_S s hsn e.symm
 rw [List.filter_cons_of_neg (by simpa using h0)]
 have hz : cntOf rows s = 0 := by simp at hc; exact hc.2
 have hru : s ∈ ruledOf rows := by
  rcases knOf_from hk with h | ⟨r, hr, hx⟩
  ·exact h
  ·exact absurd hx (cnt_zero.mp hz r hr)
 exact first_rule s rows 1 hru
section
variable {X : Ex → St → Prop} {st : St} {Q : V → St → Prop}
theorem wk_index {a : Addr} {k : Str} {ys : List Str} (h1 : st.μ a = some (.list (ys.map .str))) (h2 : ys.length ≤ 1000) (h3 : k ∈ ys) (h : Q (.int (ys.idxOf k : Nat)) st) : indexM [.ref a, .str k] Q X st := .mk h1 h2 h3 h
end
variable {g : Gx} {X : Ex → St → Prop} {st : St} {gr : Addr} {rows : List R} {start : Str}
theorem knOf_len8 (hR : RowsOk rows) : (knOf rows).length ≤ 40 := by
 have h1 := knOf_len rows fun r hr => (hR.ok r hr).len
 have h2 := hR.len
 omega
theorem law_c16 {Q : Fl → St → Prop} {n : Nat} {m : Mine g} (hW : LW st gr rows start) (hR : RowsOk rows) (hst : start ∈ ruledOf rows) (hN : SV st "names" (knOf rows)) (hRu : SV st "ruled" (ruledOf rows))
  (h : ∀ st', SameBut ["idle"] st.σ st'.σ → Le st.μ st'.μ → (r_law_c18 (n := n) m).1 Q X st') : (r_law_c16 (n := n) m).1 Q X st := by
 unfold r_law_c16; dsimp only
 have s2 := hW.gm
 have s3 := hW.sta
 refine exG2_3 hW.rs fun ra vs h1 h2 h3 => ?_
 obtain ⟨na, n1, n2⟩ := hN
 obtain ⟨ua, u1, u2⟩ := hRu
 have hkl := knOf_len8 hR
 have hsn : start ∈ names4 := by obtain ⟨r, hr, e⟩ := List.mem_map.mp hst; exact e ▸ (hR.ok r hr).nm
 have kok : ∀ s ∈ knOf rows, PyData.strOk s = true := fun s hs => names_ok _ (knOf_names hR.ok s hs)
 walk_at "w"
 refine wk_comp (hasFree_of ["rows", "start"] (by kernel_rfl) ⟨⟨_, by walk_at "sg"⟩, ⟨_, by walk_at "sg"⟩, trivial⟩) ?_
 walk_at "w"
 refine comp_pure (Rr := fun v y => v = .str y) (fun _ v s => v = .str s) (fun _ _ _ _ _ h => h) (fun x => if (!(x == start) && (cntOf rows x == 0)) = true then [x] else []) ["x"] (hasFree_of ["rows", "start"] (by kernel_rfl) ⟨⟨_, by walk_at "sg"⟩, ⟨_, by walk_at "sg"⟩, trivial⟩) (by walk_at "mu") (LR.strs (knOf rows)) (by omega) ?_ ?_
 ·rintro y v st2 acc K2 hy rfl q1 q2 q3 q4 q5
  have hyok := kok y hy
  have q2' : SameBut ["x"] (compSt _ st).σ (st2.set "x" (.str y)).σ := SameBut.set (by walk_at "nm") q2
  walk_at "w"
  refine wk_split (fun hb => ?_) (fun hb => ?_)
  ·walk_at "w"
   refine cnt_comp (x := y) (by walk_at "sg") (by walk_at "sg") h2 h3 q1 hR hyok fun D μ2 vs2 e1 e2 e3 => ?_
   have hvl : vs2.length ≤ 100000 := by rw [e3]; have := hR.len; have h4 : cntOf rows y ≤ rows.length := List.length_filter_le ..; omega
   walk_at "w"
   rw [e3]
   refine wk_splitC (fun hc => ?_) (fun hc => ?_)
   ·walk_at "w"
    have hz : (!(y == start) && (cntOf rows y == 0)) = true := by rw [hb]; simpa using hc
    exact ⟨q3, q4 _ _ y (by rw [if_pos hz]) e1 q2' rfl⟩
   ·have hz : ¬ (!(y == start) && (cntOf rows y == 0)) = true := by rw [hb]; simpa using hc
    exact q5 _ (by rw [if_neg hz]) e1 q2'
  ·walk_at "w"
   refine wk_splitC (fun hb => by k_call_by "c" hb) (fun _ => ?_)
   exact q5 _ (by rw [hb]; rfl) Le.refl q2'
 ·intro D μ1 vs1 q1 q0 q2 q3
  have e : vs1 = (idleOf rows start).map V.str := by
   rw [LR.eq_map (f := V.str) q3]
   congr 1
   have := filt_flat (knOf rows) (fun x => !(x == start) && (cntOf rows x == 0)) (fun x => x)
   rw [List.map_id'] at this
   exact this.symm
  subst e
  have hidm : ∀ s ∈ idleOf rows start, s ∈ ruledOf rows := by
   intro s hs
   refine exG0_2 (List.mem_filter.mp hs) fun hk hc => ?_
   have hz : cntOf rows s = 0 := by simp at hc; exact hc.2
   rcases knOf_from hk with h | ⟨r, hr, hx⟩
   ·exact h
   ·exact absurd hx (cnt_zero.mp hz r hr)
  have hidl : (idleOf rows start).length ≤ 40 := Nat.le_trans (List.length_filter_le ..) hkl
  have hW1 : LW ((⟨st.σ, μ1⟩ : St).set "idle" (.ref D)) gr rows start := hW.next (L := ["idle"]) (SameBut.set (by walk_at "nm") (show SameBut _ st.σ (St.mk st.σ μ1).σ from SameBut.refl)) (by decide +kernel) (Le.nt q1)
  refine exG3_3 hW1.fin.meth fun md mes mep m1 m2 m3 => ?_
  have hno := m3 "unused_rules" (by simp [methNames])
  have m1' : μ1 gr = some (.inst 227 md) := m1
  have m2' : μ1 md = some (.dict mes mep) := m2
  walk_at "w"
  refine wk_comp (hasFree_of [] (by kernel_rfl) trivial) ?_
  walk_at "w"
  refine sp_unused_rules (st := (⟨st.σ, μ1⟩ : St).set "idle" (.ref D)) hW1.fin.fg (occS_len hR) (by omega) (by simp [numb_len]; have := hR.len; omega) ?_ ?_ fun r2 μ2 vs2 k1 k2 k3 => ?_
  ·intro s hk ho
   rw [kb_iff]
   rcases knOf_from hk with h | ⟨r, hr, hx⟩
   ·exact h
   ·exfalso
    unfold occS at ho
    refine exG0_2 (List.append_eq_nil_iff.mp ho) fun ho1 _ => ?_
    exact occ_zero.mp ho1 r hr hx
  ·intro s hs he
   refine exG1_2 (kbOf_mem hs) fun r hr e => ?_
   refine exG1_3 (numb_of hr) fun p hp e1 e2 => ?_
   rw [List.filter_eq_nil_iff] at he
   exact he p (.tail _ hp) (by simp [e1, e])
  have k1' : Le μ1 μ2 := k1
  walk_at "w"
  refine comp_pure (Rr := ProdAt μ2) PairR (fun _ _ _ _ k h => h.le k) (fun p : PR => [(p.nm, p.num)]) ["rule"] (hasFree_of [] (by kernel_rfl) trivial) (by walk_at "mu") k3 ?_ ?_ ?_
  ·have e := congrArg List.length (unR_eq hR.ok hst)
   rw [List.length_map, List.length_map] at e
   omega
  ·rintro p v st2 acc K2 hp hv q1 q2 q3 q4 q5
   obtain ⟨pa, pd, pes, pep, pt, rfl, e2, e3, e4, e5, e6, e7⟩ := hv.le q1
   walk_at "w"
   refine wk_splitC (fun _ => ?_) (fun hb => by k_call_by "c" hb)
   walk_at "w"
   refine wk_tup (by simp) fun t2 ht2 => ?_
   exact ⟨q3, q4 _ _ _ rfl (Le.put_new ht2 Le.refl) (SameBut.put (SameBut.set (by walk_at "nm") q2)) ⟨t2, rfl, put_same⟩⟩
  ·intro D3 μ3 vs3 a1 a0 a2 a3
   have a1' : Le μ2 μ3 := a1
   rw [← List.map_eq_flatMap, unR_eq hR.ok hst] at a3
   have hle3 : Le μ1 μ3 := k1'.trans a1'
   have hle03 : Le st.μ μ3 := q1.trans hle3
   have hid3 := hle3 _ _ q2
   have hu3 := hle03 _ _ u2
   walk_at "w"
   refine wk_comp (hasFree_of ["ruled"] (by kernel_rfl) ⟨⟨_, by walk_at "sg"⟩, trivial⟩) ?_
   walk_at "w"
   refine comp_pure (Rr := fun v y => v = .str y) PairR (fun _ _ _ _ k h => h.le k) (fun x => [(x, (((ruledOf rows).idxOf x + 1 : Nat) : Int))]) ["x"] (hasFree_of ["ruled"] (by kernel_rfl) ⟨⟨_, by walk_at "sg"⟩, trivial⟩) (by walk_at "mu") (LR.strs (idleOf rows start)) (by omega) ?_ ?_
   ·rintro y v st2 acc K2 hy rfl q1 q2 q3 q4 q5
    have hu4 := q1 _ _ hu3
    walk_at "w"
    refine wk_splitC (fun _ => ?_) (fun hb => by k_call_by "c" hb)
    walk_at "w"
    refine wk_index (ys := ruledOf rows) (by walk_at "mu") (by simp [ruledOf]; have := hR.len; omega) (hidm y hy) ?_
    walk_at "w"
    refine wk_addI ?_
    walk_at "w"
    refine wk_tup (by simp) fun t2 ht2 => ?_
    refine ⟨q3, q4 _ _ _ rfl (Le.put_new ht2 Le.refl) (SameBut.put (SameBut.set (by walk_at "nm") q2)) ⟨t2, rfl, ?_⟩⟩
    rw [put_same]; simp
   ·intro D4 μ4 vs4 b1 b0 b2 b3
    have b1' : Le μ3 μ4 := b1
    rw [← List.map_eq_flatMap] at b3
    have hstr : ∀ q ∈ (idleOf rows start).map fun x => (x, (((ruledOf rows).idxOf x + 1 : Nat) : Int)), PyData.strOk q.1 = true := by
     intro q hq
     refine exG1_2 (List.mem_map.mp hq) fun s hs r1 => ?_
     obtain rfl := r1
     exact kok s (List.mem_filter.mp hs).1
    walk_at "w"
    refine wk_neR (.list (b1' _ _ a2) (rd_pairs (a3.mono fun _ _ z => z.le b1'))) (.list b2 (rd_pairs b3)) (okD_pairs hstr) (okD_pairs hstr) ?_
    rw [SeqAt.eqv_refl _ (okD_pairs hstr).1]
    refine wk_neg rfl ?_
    walk_at "w"
    exact h _ (show SameBut ["idle"] st.σ ((St.mk st.σ μ1).set "idle" (.ref D)).σ from SameBut.set (by walk_at "nm") (show SameBut _ st.σ (St.mk st.σ μ1).σ from SameBut.refl)) (hle03.trans b1')
end Kk
end
section
set_option maxHeartbeats 1000000
namespace Kk
variable {α β γ δ : Type}
noncomputable def metStep (M : List Str) (r : R) : List Str := if r.nm ∈ M then M ++ r.sy.filter fun x => !decide (x ∈ M) else M
noncomputable def metRound (rows : List R) (M : List Str) : List Str := rows.foldl metStep M
noncomputable def metN (rows : List R) (start : Str) : Nat → List Str
 | 0 => [start]
 | k + 1 => metRound rows (metN rows start k)
theorem metStep_sub {M : List Str} {r : R} : ∀ x ∈ M, x ∈ metStep M r := by
 intro x hx; unfold metStep; split
 ·simp [hx]
 ·exact hx
theorem metFold_sub : ∀ {rs : List R} {M : List Str}, ∀ x ∈ M, x ∈ rs.foldl metStep M
 | [], _, x, hx => hx
 | r :: rs, M, x, hx => metFold_sub (rs := rs) x (metStep_sub x hx)
theorem metFold_row : ∀ {rs : List R} {M : List Str} {r : R}, r ∈ rs → r.nm ∈ M → ∀ x ∈ r.sy, x ∈ rs.foldl metStep M
 | q :: rs, M, r, hr, hm, x, hx => by
  rw [List.foldl_cons]
  rcases List.mem_cons.mp hr with rfl | hr
  ·refine metFold_sub (rs := rs) x ?_
   unfold metStep
   rw [if_pos hm]
   by_cases h : x ∈ M
   ·simp [h]
   ·simp [h, hx]
  ·exact metFold_row hr (metStep_sub _ hm) x hx
noncomputable def Closed (rows : List R) (M : List Str) : Prop := ∀ r ∈ rows, r.nm ∈ M → ∀ x ∈ r.sy, x ∈ M
theorem metRound_closed {rows : List R} {M : List Str} (hR : ∀ r ∈ rows, RowOk r) (h : ∀ x ∈ names4, x ∈ metRound rows M → x ∈ M) : Closed rows (metRound rows M) := fun r hr hn x hx =>
 metFold_row hr (h _ (hR r hr).nm hn) x hx
theorem metStep_closed {M : List Str} {r : R} (h : r.nm ∈ M → ∀ x ∈ r.sy, x ∈ M) : metStep M r = M := by
 unfold metStep
 split
 ·rename_i hm
  have : (r.sy.filter fun x => !decide (x ∈ M)) = [] := by
   rw [List.filter_eq_nil_iff]
   intro x hx; simp [h hm x hx]
  rw [this, List.append_nil]
 ·rfl
theorem metRound_same {rows : List R} {M : List Str} (h : Closed rows M) : metRound rows M = M := by
 unfold metRound
 induction rows with
 | nil => rfl
 | cons r rs ih =>
  rw [List.foldl_cons, metStep_closed (h r (.head _))]
  exact ih fun q hq => h q (.tail _ hq)
noncomputable def cnt4 (M : List Str) : Nat := (names4.filter fun x => decide (x ∈ M)).length
theorem cnt4_le (M : List Str) : cnt4 M ≤ 4 := List.length_filter_le ..
theorem cnt4_lt {M M' : List Str} (h : ∀ x ∈ M, x ∈ M') (k : ¬ ∀ x ∈ names4, x ∈ M' → x ∈ M) : cnt4 M < cnt4 M' := by
 have : ∃ x, x ∈ names4 ∧ x ∈ M' ∧ x ∉ M := by
  apply Classical.byContradiction
  intro hn
  apply k
  intro x h1 h2
  apply Classical.byContradiction
  intro h3
  exact hn ⟨x, h1, h2, h3⟩
 refine exG1_3 this fun x h1 h2 h3 => ?_
 exact flen_lt (n := x) (by simpa using h3) (by simpa using h2) h1 fun y _ hy => by simpa using h y (by simpa using hy)
theorem met_closed {rows : List R} {start : Str} (hR : ∀ r ∈ rows, RowOk r) (hs : start ∈ names4) : Closed rows (metN rows start 4) := by
 have key : ∀ k, Closed rows (metN rows start k) ∨ k + 1 ≤ cnt4 (metN rows start k) := by
  intro k
  induction k with
  | zero =>
   right
   have : 0 < cnt4 [start] := by
    unfold cnt4
    rw [List.length_pos_iff_exists_mem]
    exact ⟨start, List.mem_filter.mpr ⟨hs, by simp⟩⟩
   exact this
  | succ k ih =>
   rcases ih with h | h
   ·left
    show Closed rows (metRound rows (metN rows start k))
    rw [metRound_same h]; exact h
   ·by_cases q : ∀ x ∈ names4, x ∈ metRound rows (metN rows start k) → x ∈ metN rows start k
    ·left; exact metRound_closed hR q
    ·right
     have := cnt4_lt (M := metN rows start k) (M' := metRound rows (metN rows start k)) (fun x hx => metFold_sub x hx) q
     show k + 1 + 1 ≤ cnt4 (metRound rows (metN rows start k))
     omega
 rcases key 4 with h | h
 ·exact h
 ·have := cnt4_le (metN rows start 4); omega
theorem nx_iff {rows : List R} {start s z : Str} (hR : ∀ r ∈ rows, RowOk r) (hs : start ∈ names4) : z ∈ nx (p0Of start :: numb rows) (kbOf rows) s ↔ ∃ r ∈ rows, r.nm = s ∧ z ∈ r.sy := by
 unfold nx
 constructor
 ·intro h
  split at h
  ·rename_i hk
   refine exG1_2 (List.mem_flatMap.mp h) fun p hp hz => ?_
   refine exG0_2 (List.mem_filter.mp hp) fun hp1 hp2 => ?_
   have hp2 : p.nm = s := by simpa using hp2
   rcases List.mem_cons.mp hp1 with rfl | hp1
   ·refine exG1_2 (kbOf_mem hk) fun r hr e => ?_
    exact absurd (hp2.trans e.symm).symm (names_S _ (hR r hr).nm)
   ·refine exG1_3 (numb_mem hp1) fun r hr e1 e2 => ?_
    exact ⟨r, hr, e1 ▸ hp2, e2 ▸ hz⟩
  ·k_call_by "c" h
 ·intro q0q
  refine exG1_3 q0q fun r hr r1 hz => ?_
  obtain rfl := r1
  rw [if_pos (kb_in hr)]
  refine exG1_3 (numb_of hr) fun p hp e1 e2 => ?_
  exact List.mem_flatMap.mpr ⟨p, List.mem_filter.mpr ⟨.tail _ hp, by simp [e1]⟩, e2 ▸ hz⟩
theorem met_reach {rows : List R} {start x : Str} (hR : ∀ r ∈ rows, RowOk r) (hs : start ∈ names4) : x ∈ metN rows start 4 ↔ Reach (p0Of start :: numb rows) (kbOf rows) start x := by
 constructor
 ·have hfold : ∀ (rs : List R) (M : List Str), (∀ r ∈ rs, r ∈ rows) → (∀ y ∈ M, Reach (p0Of start :: numb rows) (kbOf rows) start y) → ∀ y ∈ rs.foldl metStep M, Reach (p0Of start :: numb rows) (kbOf rows) start y := by
   intro rs
   induction rs with
   | nil => intro M _ h; exact h
   | cons r rs ih =>
    intro M h1 h2
    rw [List.foldl_cons]
    refine ih _ (fun q hq => h1 q (.tail _ hq)) ?_
    intro y hy
    unfold metStep at hy
    split at hy
    ·rename_i hm
     rcases List.mem_append.mp hy with hy | hy
     ·exact h2 y hy
     ·exact .step (h2 _ hm) ((nx_iff hR hs).mpr ⟨r, h1 r (.head _), rfl, (List.mem_filter.mp hy).1⟩)
    ·exact h2 y hy
  have key : ∀ k, ∀ y ∈ metN rows start k, Reach (p0Of start :: numb rows) (kbOf rows) start y := by
   intro k
   induction k with
   | zero => intro y hy; rw [List.mem_singleton.mp hy]; exact .self
   | succ k ih => exact hfold rows _ (fun r hr => hr) ih
  exact key 4 x
 ·intro h
  have hc := met_closed (rows := rows) hR hs
  induction h with
  | self =>
   have : ∀ k, start ∈ metN rows start k := by
    intro k
    induction k with
    | zero => simp [metN]
    | succ k ih => exact metFold_sub _ ih
   exact this 4
  | step _ hz ih =>
   refine exG1_3 ((nx_iff hR hs).mp hz) fun r hr e hz => ?_
   exact hc r hr (e ▸ ih) _ hz
theorem metFold_alpha : ∀ {rs : List R} {M : List Str}, (∀ r ∈ rs, RowOk r) → (∀ y ∈ M, y ∈ alpha) → ∀ y ∈ rs.foldl metStep M, y ∈ alpha
 | [], _, _, h => h
 | r :: rs, M, h1, h2 => by
  rw [List.foldl_cons]
  refine metFold_alpha (fun q hq => h1 q (.tail _ hq)) ?_
  intro y hy
  unfold metStep at hy
  split at hy
  ·rcases List.mem_append.mp hy with hy | hy
   ·exact h2 y hy
   ·exact (h1 r (.head _)).sy y (List.mem_filter.mp hy).1
  ·exact h2 y hy
theorem metN_alpha {rows : List R} {start : Str} (hR : ∀ r ∈ rows, RowOk r) (hs : start ∈ names4) : ∀ k, ∀ y ∈ metN rows start k, y ∈ alpha
 | 0 => by intro y hy; rw [List.mem_singleton.mp hy]; exact names_alpha _ hs
 | k + 1 => metFold_alpha hR (metN_alpha hR hs k)
theorem metFold_len : ∀ {rs : List R} {M : List Str}, (∀ r ∈ rs, r.sy.length ≤ 3) → (rs.foldl metStep M).length ≤ M.length + 3 * rs.length
 | [], _, _ => by simp
 | r :: rs, M, h => by
  rw [List.foldl_cons]
  have h1 := metFold_len (rs := rs) (M := metStep M r) fun q hq => h q (.tail _ hq)
  have h2 : (metStep M r).length ≤ M.length + 3 := by
   unfold metStep; split
   ·rw [List.length_append]; have := h r (.head _); have h3 : (r.sy.filter fun x => !decide (x ∈ M)).length ≤ r.sy.length := List.length_filter_le ..; omega
   ·omega
  simp; omega
variable {g : Gx} {X : Ex → St → Prop} {st : St} {gr : Addr} {rows : List R} {start : Str}
theorem law_c18 {Q : Fl → St → Prop} {n : Nat} {m : Mine g} (hW : LW st gr rows start) (hR : RowsOk rows) (hst : start ∈ names4)
  (h : ∀ st', SameBut ["met", "turn", "row"] st.σ st'.σ → Le st.μ st'.μ → SV st' "met" (metN rows start 4) → (r_law_c20 (n := n) m).1 Q X st') : (r_law_c18 (n := n) m).1 Q X st := by
 unfold r_law_c18; dsimp only
 have s3 := hW.sta
 refine exG2_3 hW.rs fun ra vs h1 h2 h3 => ?_
 have hrl := hR.len
 have hr3 : ∀ r ∈ rows, r.sy.length ≤ 3 := fun r hr => (hR.ok r hr).len
 walk_at "w"
 refine wk_list (by simp) fun m0 hm0 => ?_
 walk_at "w"
 refine wk_rng (by decide) (by decide) ?_
 have hlenN : ∀ k, (metN rows start k).length ≤ 1 + 24 * k := by
  intro k
  induction k with
  | zero => simp [metN]
  | succ k ih => have := metFold_len (rs := rows) (M := metN rows start k) hr3; show (metRound rows (metN rows start k)).length ≤ _; unfold metRound; omega
 refine loop_gen (its := (List.range 4).map fun i : Nat => [V.int (i : Int)]) rfl (ys := List.range 4) (G := fun l i => l = [V.int ((i : Nat) : Int)]) (LR.of_map (R := fun (l : List V) i => l = [V.int ((i : Nat) : Int)]) (f := fun i : Nat => [V.int (i : Int)]) (fun _ => rfl) _) (fun pre st' => SameBut ["met", "turn", "row"] st.σ st'.σ ∧ Le st.μ st'.μ ∧ SV st' "met" (metN rows start pre.length)) ?_ ?_ ?_ ?_
 ·exact ⟨SameBut.set (by walk_at "nm") (SameBut.put SameBut.refl), Le.put_new hm0 Le.refl, m0, by walk_at "sg", set_mu put_same⟩
 ·rintro i st' hi _
  exact cur_rng
 ·intro pre i post l st1 K hps q0q q1q hK
  obtain rfl := q0q
  obtain ⟨b1, k1, ma, e1, e2⟩ := q1q
  have hpre : pre.length ≤ 3 := preLe hps (by first | omega | (simp; done) | (simp; omega))
  have hN := hlenN pre.length
  walk_at "w"
  refine loop_gen (its_list (xs := vs) (by walk_at "mu")) h3.ones (fun pre2 st' => SameBut ["met", "turn", "row"] st.σ st'.σ ∧ Le st.μ st'.μ ∧ SV st' "met" (pre2.foldl metStep (metN rows start pre.length))) ?_ ?_ ?_ ?_
  ·exact ⟨SameBut.set (by walk_at "nm") b1, k1, ma, by walk_at "sg", set_mu e2⟩
  ·intro i st' hi q0q
   refine exG0_3 q0q fun _ k _ => ?_
   exact cur_list (k _ _ h2)
  ·intro pre2 r post2 l st2 K2 hps2 q0q q1q hK2
   refine exG1_2 q0q fun v r2 hv => ?_
   obtain rfl := r2
   obtain ⟨c1, k2, mb, f1, f2⟩ := q1q
   obtain ⟨w, sl, rfl, w1, w2⟩ := hv
   have hrm : r ∈ rows := by rw [hps2]; simp
   have hro := hR.ok r hrm
   have hp2 : ∀ q ∈ pre2, RowOk q := fun q hq => hR.ok q (by rw [hps2]; simp [hq])
   have hpl2 : pre2.length ≤ 8 := preLe hps2 (by first | omega | (simp; done) | (simp; omega))
   have hml := metFold_len (rs := pre2) (M := metN rows start pre.length) fun q hq => (hp2 q hq).len
   have hmal := metFold_alpha (rs := pre2) (M := metN rows start pre.length) hp2 (metN_alpha hR.ok hst _)
   have hfold : (pre2 ++ [r]).foldl metStep (metN rows start pre.length) = metStep (pre2.foldl metStep (metN rows start pre.length)) r := by rw [List.foldl_append]; rfl
   rw [hfold] at hK2
   generalize pre2.foldl metStep (metN rows start pre.length) = M at f2 hml hmal hK2
   have mok : ∀ s ∈ M, PyData.strOk s = true := fun s hs => alpha_ok _ (hmal s hs)
   have nok := names_ok _ hro.nm
   have c1' : SameBut ["met", "turn", "row"] st.σ (st2.set "row" (.ref w)).σ := SameBut.set (by walk_at "nm") c1
   walk_at "w"
   refine wk_idxT (j := 0) (u := .str r.nm) (by walk_at "mu") (by simp) (by simp [seqIndex?]) rfl ?_
   walk_at "w"
   refine wk_split (fun hb => ?_) (fun hb => ?_)
   ·have hm : r.nm ∈ M := by simpa using hb
    walk_at "w"
    refine wk_comp (hasFree_of ["met"] (by kernel_rfl) ⟨⟨_, by walk_at "sg"⟩, trivial⟩) ?_
    walk_at "w"
    refine wk_idxT (j := 1) (u := .ref sl) (by walk_at "mu") (by simp) (by simp [seqIndex?]) rfl ?_
    walk_at "w"
    refine comp_pure (Rr := fun v y => v = .str y) (fun _ v s => v = .str s) (fun _ _ _ _ _ h => h) (fun x => if (!decide (x ∈ M)) = true then [x] else []) ["x"] (hasFree_of ["met"] (by kernel_rfl) ⟨⟨_, by walk_at "sg"⟩, trivial⟩) (by walk_at "mu") (LR.strs r.sy) (by have := hro.len; omega) ?_ ?_
    ·rintro y v st3 acc K3 hy rfl q1 q2 q3 q4 q5
     have hyok := alpha_ok _ (hro.sy y hy)
     have f3 := q1 _ _ (set_mu f2)
     walk_at "w"
     refine wk_splitC (fun hb => ?_) (fun hb => ?_)
     ·walk_at "w"
      exact ⟨q3, q4 _ _ y (by rw [if_pos hb]) Le.refl (SameBut.set (by walk_at "nm") q2) rfl⟩
     ·exact q5 _ (by rw [if_neg (by rw [hb]; simp)]) Le.refl (SameBut.set (by walk_at "nm") q2)
    ·intro D μ2 vs2 q1 q0 q2 q3
     have q1' : Le st2.μ μ2 := q1
     have e : vs2 = (r.sy.filter fun x => !decide (x ∈ M)).map V.str := by
      rw [LR.eq_map (f := V.str) q3]
      congr 1
      have := filt_flat r.sy (fun x => !decide (x ∈ M)) (fun x => x)
      rw [List.map_id'] at this
      exact this.symm
     subst e
     walk_at "w"
     refine wk_addL (xs := M.map .str) (q1' _ _ f2) q2 (by walk_at "ln") (by have := hro.len; have h5 : (r.sy.filter fun x => !decide (x ∈ M)).length ≤ r.sy.length := List.length_filter_le ..; simp only [List.length_map]; omega) fun D2 hD2 => ?_
     walk_at "w"
     refine hK2 _ ⟨SameBut.set (by walk_at "nm") (SameBut.put (show SameBut _ st.σ (st2.set "row" _).σ from c1')), (k2.trans q1').trans (Le.put_new hD2 Le.refl), D2, by walk_at "sg", ?_⟩
     unfold metStep
     rw [if_pos hm, List.map_append]
     exact set_mu put_same
   ·have hm : r.nm ∉ M := by simpa using hb
    walk_at "w"
    refine hK2 _ ⟨c1', k2, mb, by walk_at "sg", ?_⟩
    unfold metStep
    rw [if_neg hm]
    exact set_mu f2
  ·intro st2 q0q
   refine exG0_3 q0q fun c1 k2 hm => ?_
   walk_at "w"
   refine hK _ ⟨c1, k2, ?_⟩
   rw [List.length_append]; exact hm
 ·intro st1 q0q
  refine exG0_3 q0q fun b1 k1 hm => ?_
  walk_at "w"
  exact h _ b1 k1 hm
end Kk
end
section
set_option maxHeartbeats 1000000
namespace Kk
variable {α β γ δ : Type}
noncomputable def cut7 (μ : Addr → Option O) : Addr → Option O := fun a => if a = 157 then none else μ a
theorem cut7_none {μ : Addr → Option O} : cut7 μ 157 = none := if_pos rfl
theorem cut7_le {μ : Addr → Option O} : Le (cut7 μ) μ := fun a o e => by
 unfold cut7 at e
 split at e
 ·k_call_by "c" e
 ·exact e
theorem cut7_get {μ : Addr → Option O} {a : Addr} {o : O} (h : a ≠ 157) (e : μ a = some o) : cut7 μ a = some o := (if_neg h).trans e
variable {g : Gx} {X : Ex → St → Prop} {st : St} {gr : Addr} {rows : List R} {start : Str}
theorem law_c20 {Q : Fl → St → Prop} {n : Nat} {m : Mine g} (hW : LW st gr rows start) (hR : RowsOk rows) (hst : start ∈ names4) (h157 : st.μ 157 = some (.tab true)) (hN : SV st "names" (knOf rows)) (hM : SV st "met" (metN rows start 4))
  (h45 : ∃ b, st.μ 45 = some (.tab b)) (h : ∀ st', SameBut [] st.σ st'.σ → Le (nt st.μ) st'.μ → (∃ b, st'.μ 45 = some (.tab b)) → (∃ b, st'.μ 157 = some (.tab b)) → (r_law_c21 (n := n) m).1 Q X st') : (r_law_c20 (n := n) m).1 Q X st := by
 unfold r_law_c20; dsimp only
 have s2 := hW.gm
 obtain ⟨na, n1, n2⟩ := hN
 obtain ⟨ma, m1, m2⟩ := hM
 refine exG3_3 hW.fin.meth fun md mes mep i1 i2 i3 => ?_
 have hno := i3 "find_unreachable" (by simp [methNames])
 have hkl := knOf_len8 hR
 have kok : ∀ s ∈ knOf rows, PyData.strOk s = true := fun s hs => names_ok _ (knOf_names hR.ok s hs)
 have mok : ∀ s ∈ metN rows start 4, PyData.strOk s = true := fun s hs => alpha_ok _ (metN_alpha hR.ok hst 4 s hs)
 walk_at "w"
 have hc1 : Le (nt st.μ) (cut7 st.μ) := fun a o e => by
  have hne : a ≠ 157 := by rintro rfl; rw [nt_tab h157] at e; k_call_by "c" e
  exact cut7_get hne (nt_le _ _ e)
 refine sp_find_unreachable (F := cut7 st.μ) (p0 := p0Of start) (ps := numb rows) (Sg := alpha) (start := start) (hW.fin.nt.fg.le hc1) cut7_le cut7_none h157 ?_ (by decide) rfl (names_alpha _ hst) (by omega) (by rw [numb_len]; have := hR.len; omega) fun r1 μ1 xs k0 k2 k3 => ?_
 ·intro s hs y hy
  refine exG1_3 ((nx_iff hR.ok hst).mp hy) fun r hr _ hz => ?_
  exact (hR.ok r hr).sy y hz
 have k9 : Le (cut7 st.μ) μ1 := (Le.refl.new cut7_none).trans k0
 have k1 : Le (nt st.μ) μ1 := hc1.trans k9
 revert h45; refine fun oO => exG1_1 oO fun b45 h45 => ?_
 have k45 := k9 _ _ (cut7_get (by decide) h45)
 have k157 := k0 _ _ u_same
 have n2' := k1 _ _ (nt_get n2 nofun)
 have m2' := k1 _ _ (nt_get m2 nofun)
 walk_at "w"
 refine wk_comp (hasFree_of ["met"] (by kernel_rfl) ⟨⟨_, by walk_at "sg"⟩, trivial⟩) ?_
 walk_at "w"
 refine comp_pure (Rr := fun v y => v = .str y) (fun _ v s => v = .str s) (fun _ _ _ _ _ h => h) (fun x => if (!decide (x ∈ metN rows start 4)) = true then [x] else []) ["x"] (hasFree_of ["met"] (by kernel_rfl) ⟨⟨_, by walk_at "sg"⟩, trivial⟩) (by walk_at "mu") (LR.strs (knOf rows)) (by omega) ?_ ?_
 ·rintro y v st3 acc K3 hy rfl q1 q2 q3 q4 q5
  have hyok := kok y hy
  have f3 := q1 _ _ m2'
  walk_at "w"
  refine wk_splitC (fun hb => ?_) (fun hb => ?_)
  ·walk_at "w"
   exact ⟨q3, q4 _ _ y (by rw [if_pos hb]) Le.refl (SameBut.set (by walk_at "nm") q2) rfl⟩
  ·exact q5 _ (by rw [if_neg (by rw [hb]; simp)]) Le.refl (SameBut.set (by walk_at "nm") q2)
 ·intro D μ2 vs2 q1 q0 q2 q3
  have q1' : Le μ1 μ2 := q1
  have e : vs2 = (unre (knOf rows) xs).map V.str := by
   rw [LR.eq_map (f := V.str) q3]
   congr 1
   have := filt_flat (knOf rows) (fun x => !decide (x ∈ metN rows start 4)) (fun x => x)
   rw [List.map_id'] at this
   rw [← this]
   unfold unre
   apply List.filter_congr
   intro s _
   have h1 := met_reach (rows := rows) (start := start) (x := s) hR.ok hst
   have h2 := k3 s
   congr 1
   exact decide_eq_decide.mpr (h1.trans h2.symm)
  subst e
  have hok : ∀ s ∈ unre (knOf rows) xs, PyData.strOk s = true := fun s hs => kok s (List.mem_filter.mp hs).1
  walk_at "w"
  refine wk_neR (rd_lstrs (q1' _ _ k2)) (rd_lstrs q2) (okD_strs hok) (okD_strs hok) ?_
  rw [SeqAt.eqv_refl _ (okD_strs hok).1]
  refine wk_neg rfl ?_
  walk_at "w"
  exact h _ SameBut.refl (k1.trans q1') ⟨b45, q1' _ _ k45⟩ ⟨_, q1' _ _ k157⟩
end Kk
end
section
set_option maxHeartbeats 1000000
namespace Kk
variable {α β γ δ : Type}
noncomputable def badOf (G : List Str) (r : R) : List Str := r.sy.filter fun x => !decide (x ∈ toks) && !decide (x ∈ G)
noncomputable def goodStep (rows : List R) (G : List Str) : List Str := (rows.filter fun r => (badOf G r).length == 0).map R.nm
noncomputable def goodN (rows : List R) : Nat → List Str
 | 0 => []
 | k + 1 => goodStep rows (goodN rows k)
theorem bad_zero {G : List Str} {r : R} : ((badOf G r).length == 0) = true ↔ ∀ x ∈ r.sy, x ∈ toks ∨ x ∈ G := by
 unfold badOf
 rw [beq_iff_eq, List.length_eq_zero_iff, List.filter_eq_nil_iff]
 constructor
 ·intro h x hx
  have := h x hx
  by_cases q : x ∈ toks
  ·exact .inl q
  ·right; simpa [q] using this
 ·intro h x hx
  rcases h x hx with h | h <;> simp [h]
theorem good_mem {rows : List R} {G : List Str} {k : Str} : k ∈ goodStep rows G ↔ ∃ r ∈ rows, r.nm = k ∧ ∀ x ∈ r.sy, x ∈ toks ∨ x ∈ G := by
 unfold goodStep
 constructor
 ·intro h
  refine exG1_2 (List.mem_map.mp h) fun r hr e => ?_
  refine exG0_2 (List.mem_filter.mp hr) fun h1 h2 => ?_
  exact ⟨r, h1, e, bad_zero.mp h2⟩
 ·intro q0q
  refine exG1_3 q0q fun r hr e h => ?_
  exact List.mem_map.mpr ⟨r, List.mem_filter.mpr ⟨hr, bad_zero.mpr h⟩, e⟩
theorem good_mono {rows : List R} {G G' : List Str} (h : ∀ x ∈ G, x ∈ G') : ∀ x ∈ goodStep rows G, x ∈ goodStep rows G' := by
 intro x hx
 refine exG1_3 (good_mem.mp hx) fun r hr e k => ?_
 exact good_mem.mpr ⟨r, hr, e, fun y hy => (k y hy).imp id (h y)⟩
theorem goodN_mono (rows : List R) : ∀ k, ∀ x ∈ goodN rows k, x ∈ goodN rows (k + 1)
 | 0 => by intro x hx; k_call_by "c" hx
 | k + 1 => good_mono (goodN_mono rows k)
theorem goodN_names {rows : List R} (hR : ∀ r ∈ rows, RowOk r) (k : Nat) : ∀ x ∈ goodN rows k, x ∈ names4 := by
 intro x hx
 induction k with
 | zero => k_call_by "c" hx
 | succ k =>
  refine exG1_3 (good_mem.mp hx) fun r hr e _ => ?_
  exact e ▸ (hR r hr).nm
theorem good_fix {rows : List R} (hR : ∀ r ∈ rows, RowOk r) : ∀ x ∈ goodStep rows (goodN rows 4), x ∈ goodN rows 4 := by
 have key : ∀ k, (∀ x ∈ goodN rows (k + 1), x ∈ goodN rows k) ∨ k + 1 ≤ cnt4 (goodN rows (k + 1)) := by
  intro k
  induction k with
  | zero =>
   by_cases q : ∀ x ∈ names4, x ∈ goodN rows 1 → x ∈ goodN rows 0
   ·left; intro x hx; exact q x (goodN_names hR 1 x hx) hx
   ·right; have := cnt4_lt (M := goodN rows 0) (M' := goodN rows 1) (goodN_mono rows 0) q; show 1 ≤ cnt4 (goodN rows 1); omega
  | succ k ih =>
   rcases ih with h | h
   ·left; exact good_mono h
   ·by_cases q : ∀ x ∈ names4, x ∈ goodN rows (k + 1 + 1) → x ∈ goodN rows (k + 1)
    ·left; intro x hx; exact q x (goodN_names hR _ x hx) hx
    ·right; have := cnt4_lt (M := goodN rows (k + 1)) (M' := goodN rows (k + 1 + 1)) (goodN_mono rows (k + 1)) q; omega
 rcases key 4 with h | h
 ·exact h
 ·have := cnt4_le (goodN rows (4 + 1)); omega
theorem good_tm {rows : List R} {start : Str} (hR : ∀ r ∈ rows, RowOk r) {x : Str} (hx : x ∈ names4) : x ∈ goodN rows 4 ↔ Tm (p0Of start :: numb rows) (kbOf rows) (ktOf rows) x := by
 constructor
 ·have key : ∀ k, ∀ y ∈ goodN rows k, Tm (p0Of start :: numb rows) (kbOf rows) (ktOf rows) y := by
   intro k
   induction k with
   | zero => intro y hy; k_call_by "c" hy
   | succ k ih =>
    intro y hy
    refine exG1_3 (good_mem.mp hy) fun r hr e h => ?_
    refine exG1_3 (numb_of hr) fun p hp e1 e2 => ?_
    have : p.nm = y := e1.trans e
    rw [← this]
    refine .rule (.tail _ hp) (by rw [e1]; exact kb_in hr) fun z hz => ?_
    rw [e2] at hz
    rcases h z hz with h | h
    ·exact .tok ((ktOf_toks hR hr hz).mpr h)
    ·exact ih z h
  exact key 4 x
 ·intro h
  have hfix := good_fix (rows := rows) hR
  induction h with
  | tok h => exact absurd (ktOf_sub h) (names_kt _ hx)
  | @rule p h1 h2 h3 ih =>
   rcases List.mem_cons.mp h1 with rfl | h1
   ·exact absurd rfl (names_S _ hx)
   ·refine exG1_3 (numb_mem h1) fun r hr e1 e2 => ?_
    refine hfix _ (good_mem.mpr ⟨r, hr, e1.symm, fun y hy => ?_⟩)
    have hal := (hR r hr).sy y hy
    rcases alpha_split y hal with h | h
    ·exact .inl h
    ·exact .inr (ih y (e2 ▸ hy) h)
variable {g : Gx} {X : Ex → St → Prop} {st : St} {gr : Addr} {rows : List R} {start : Str}
theorem law_c21 {Q : Fl → St → Prop} {n : Nat} {m : Mine g} (hW : LW st gr rows start) (hR : RowsOk rows) (hT : SV st "tokens" toks)
  (h : ∀ st', SameBut ["good", "turn"] st.σ st'.σ → Le st.μ st'.μ → SV st' "good" (goodN rows 4) → (r_law_c23 (n := n) m).1 Q X st') : (r_law_c21 (n := n) m).1 Q X st := by
 unfold r_law_c21; dsimp only
 refine exG2_3 hW.rs fun ra vs h1 h2 h3 => ?_
 obtain ⟨ta, t1, t2⟩ := hT
 have tok_ := toks_ok
 have hrl := hR.len
 walk_at "w"
 refine wk_list (by simp) fun g0 hg0 => ?_
 walk_at "w"
 refine wk_rng (by decide) (by decide) ?_
 refine loop_gen (its := (List.range 4).map fun i : Nat => [V.int (i : Int)]) rfl (ys := List.range 4) (G := fun l i => l = [V.int ((i : Nat) : Int)]) (LR.of_map (R := fun (l : List V) i => l = [V.int ((i : Nat) : Int)]) (f := fun i : Nat => [V.int (i : Int)]) (fun _ => rfl) _) (fun pre st' => SameBut ["good", "turn"] st.σ st'.σ ∧ Le st.μ st'.μ ∧ SV st' "good" (goodN rows pre.length)) ?_ ?_ ?_ ?_
 ·exact ⟨SameBut.set (by walk_at "nm") (SameBut.put SameBut.refl), Le.put_new hg0 Le.refl, g0, by walk_at "sg", set_mu put_same⟩
 ·rintro i st' hi _
  exact cur_rng
 ·intro pre i post l st1 K hps q0q q1q hK
  obtain rfl := q0q
  obtain ⟨b1, k1, ma, e1, e2⟩ := q1q
  have good_ok : ∀ s ∈ goodN rows pre.length, PyData.strOk s = true := fun s hs => names_ok _ (goodN_names hR.ok _ s hs)
  have hgN : goodN rows (pre ++ [i]).length = goodStep rows (goodN rows pre.length) := by rw [List.length_append]; rfl
  rw [hgN] at hK
  generalize goodN rows pre.length = G at e2 good_ok hK
  have b1' : SameBut ["good", "turn"] st.σ (st1.set "turn" (.int ((i : Nat) : Int))).σ := SameBut.set (by walk_at "nm") b1
  walk_at "w"
  refine wk_comp (hasFree_of ["good", "tokens"] (by kernel_rfl) ⟨⟨_, by walk_at "sg"⟩, ⟨_, by walk_at "sg"⟩, trivial⟩) ?_
  walk_at "w"
  refine comp_pure (Rr := RowR st.μ) (fun _ v s => v = .str s) (fun _ _ _ _ _ h => h) (fun r : R => if ((badOf G r).length == 0) = true then [r.nm] else []) ["row"] (hasFree_of ["good", "tokens"] (by kernel_rfl) ⟨⟨_, by walk_at "sg"⟩, ⟨_, by walk_at "sg"⟩, trivial⟩) (by walk_at "mu") h3 (by omega) ?_ ?_
  ·rintro r v st2 acc K2 hr hv q1 q2 q3 q4 q5
   have hro := hR.ok r hr
   obtain ⟨w, sl, rfl, w1, w2⟩ := hv.le (k1.trans q1)
   have f2 := q1 _ _ (set_mu e2)
   have f3 := (k1.trans q1) _ _ t2
   have q2' : SameBut ["row"] (compSt _ (st1.set "turn" (.int ((i : Nat) : Int)))).σ (st2.set "row" (.ref w)).σ := SameBut.set (by walk_at "nm") q2
   walk_at "w"
   refine wk_comp (hasFree_of ["good", "tokens"] (by kernel_rfl) ⟨⟨_, by walk_at "sg"⟩, ⟨_, by walk_at "sg"⟩, trivial⟩) ?_
   walk_at "w"
   refine wk_idxT (j := 1) (u := .ref sl) (by walk_at "mu") (by simp) (by simp [seqIndex?]) rfl ?_
   walk_at "w"
   refine comp_pure (Rr := fun v y => v = .str y) (fun _ v s => v = .str s) (fun _ _ _ _ _ h => h) (fun x => if (!decide (x ∈ toks) && !decide (x ∈ G)) = true then [x] else []) ["x"] (hasFree_of ["good", "tokens"] (by kernel_rfl) ⟨⟨_, by walk_at "sg"⟩, ⟨_, by walk_at "sg"⟩, trivial⟩) (by walk_at "mu") (LR.strs r.sy) (by have := hro.len; omega) ?_ ?_
   ·rintro y v st3 acc3 K3 hy rfl p1 p2 p3 p4 p5
    have hyok := alpha_ok _ (hro.sy y hy)
    have f4 := p1 _ _ (set_mu f2)
    have f5 := p1 _ _ (set_mu f3)
    walk_at "w"
    refine wk_splitC (fun hb => ?_) (fun hb => ?_)
    ·walk_at "w"
     exact ⟨p3, p4 _ _ y (by rw [if_pos (by simpa using hb)]) Le.refl (SameBut.set (by walk_at "nm") p2) rfl⟩
    ·exact p5 _ (by rw [if_neg (by simpa using hb)]) Le.refl (SameBut.set (by walk_at "nm") p2)
   ·intro D μ2 vs2 p1 p0 p2 p3
    have p1' : Le st2.μ μ2 := p1
    have hlen : vs2.length = (badOf G r).length := by
     rw [p3.length]
     have := congrArg List.length (filt_flat r.sy (fun x => !decide (x ∈ toks) && !decide (x ∈ G)) (fun x => x))
     rw [List.length_map] at this
     exact this.symm
    have hbl : (badOf G r).length ≤ 3 := Nat.le_trans (List.length_filter_le ..) hro.len
    have hvl : vs2.length ≤ 100000 := by omega
    have w1' := p1' _ _ w1
    walk_at "w"
    rw [hlen]
    refine wk_splitC (fun hb => ?_) (fun hb => ?_)
    ·walk_at "w"
     refine wk_idxT (j := 0) (u := .str r.nm) (by walk_at "mu") (by simp) (by simp [seqIndex?]) rfl ?_
     refine ⟨q3, q4 _ _ r.nm (by rw [if_pos (by simpa using hb)]) p1' (show SameBut _ _ (st2.set "row" _).σ from q2') rfl⟩
    ·exact q5 _ (by rw [if_neg (by simpa using hb)]) p1' (show SameBut _ _ (st2.set "row" _).σ from q2')
  ·intro D μ2 vs2 q1 q0 q2 q3
   have q1' : Le st1.μ μ2 := q1
   have e : vs2 = (goodStep rows G).map V.str := by
    rw [LR.eq_map (f := V.str) q3]
    congr 1
    exact (filt_flat rows (fun r => (badOf G r).length == 0) R.nm).symm
   subst e
   walk_at "w"
   exact hK _ ⟨SameBut.set (by walk_at "nm") (show SameBut _ st.σ (st1.set "turn" _).σ from b1'), k1.trans q1', D, by walk_at "sg", q2⟩
 ·intro st1 q0q
  refine exG0_3 q0q fun b1 k1 hm => ?_
  walk_at "w"
  exact h _ b1 k1 hm
end Kk
end
section
set_option maxHeartbeats 1000000
namespace Kk
variable {α β γ δ : Type}
theorem knStep_nd {kt acc : List Str} {t : Str} (h : acc.Nodup) : (knStep kt acc t).Nodup := by
 unfold knStep; split
 ·exact h
 ·rename_i hn
  rw [List.nodup_append]
  refine ⟨h, by simp, ?_⟩
  intro a ha b hb e
  rw [List.mem_singleton.mp hb] at e
  subst e; exact hn (.inr ha)
theorem knAdd_nd {kt : List Str} : ∀ {sy acc : List Str}, acc.Nodup → (knAdd kt acc sy).Nodup
 | [], _, h => h
 | y :: r, acc, h => by
  unfold knAdd
  rw [List.foldl_cons]
  exact knAdd_nd (kt := kt) (sy := r) (knStep_nd h)
theorem knOf_nd (rows : List R) : (knOf rows).Nodup := by
 suffices hh : ∀ (rs : List R) (acc : List Str), acc.Nodup → (rs.foldl (fun acc r => knAdd toks (knStep toks acc r.nm) r.sy) acc).Nodup by
  exact hh rows [] (by simp)
 intro rs
 induction rs with
 | nil => intro acc h; exact h
 | cons r rs ih => intro acc h; rw [List.foldl_cons]; exact ih _ (knAdd_nd (knStep_nd h))
theorem knAdd_has {kt : List Str} {k : Str} (hk : k ∉ kt) : ∀ {sy acc : List Str}, k ∈ sy → k ∈ knAdd kt acc sy
 | y :: r, acc, h => by
  unfold knAdd
  rw [List.foldl_cons]
  rcases List.mem_cons.mp h with rfl | h
  ·refine knAdd_mem (kt := kt) (sy := r) ?_
   unfold knStep; split
   ·rename_i h; exact h.resolve_left hk
   ·simp
  ·exact knAdd_has hk h
theorem knOf_keep {k : Str} : ∀ {rs : List R} {acc : List Str}, k ∈ acc → k ∈ rs.foldl (fun acc r => knAdd toks (knStep toks acc r.nm) r.sy) acc
 | [], _, h => h
 | r :: rs, acc, h => by
  rw [List.foldl_cons]
  refine knOf_keep (knAdd_mem ?_)
  unfold knStep; split
  ·exact h
  ·simp [h]
theorem knOf_sy {k : Str} (hk : k ∈ names4) : ∀ {rs : List R} {acc : List Str} {r : R}, r ∈ rs → k ∈ r.sy → k ∈ rs.foldl (fun acc r => knAdd toks (knStep toks acc r.nm) r.sy) acc
 | q :: rs, acc, r, hr, h => by
  rw [List.foldl_cons]
  rcases List.mem_cons.mp hr with rfl | hr
  ·exact knOf_keep (knAdd_has (names_toks k hk) h)
  ·exact knOf_sy hk hr h
theorem ktOf_nd (rows : List R) : (ktOf rows).Nodup := by
 unfold ktOf ktP
 have h1 : ((["A", "B", "C", "error"] : List Str)).Nodup := by decide +kernel
 have h2 : ((["A", "B", "C", "error"] : List Str) ++ [("+" : Str)]).Nodup := by decide +kernel
 split
 ·split
  ·exact h1
  ·exact h2
 ·exact h1
theorem end_kt {rows : List R} : endS ∉ ktOf rows := fun h => absurd (ktOf_sub h) (by decide +kernel)
theorem end_names : endS ∉ names4 := by decide +kernel
theorem inf_eq {rows : List R} {start : Str} {b : Str → Bool} (hR : ∀ r ∈ rows, RowOk r) (h1 : ∀ s ∈ ktOf rows, b s = true) (h2 : b endS = true) (h3 : ∀ s ∈ knOf rows, b s = true ↔ Tm (p0Of start :: numb rows) (kbOf rows) (ktOf rows) s) :
  ((ksOf (ktOf rows) (knOf rows)).filter fun s => !b s && !(!decide (s ∈ kbOf rows) && (!decide (s ∈ ktOf rows) && !(s == ("error" : Str))))) = (knOf rows).filter fun x => decide (x ∈ ruledOf rows) && !decide (x ∈ goodN rows 4) := by
 unfold ksOf
 rw [List.filter_append]
 have e1 : (ktOf rows).filter (fun s => !b s && !(!decide (s ∈ kbOf rows) && (!decide (s ∈ ktOf rows) && !(s == ("error" : Str))))) = [] := by
  rw [List.filter_eq_nil_iff]
  intro s hs; simp [h1 s hs]
 rw [e1, List.nil_append, List.filter_cons_of_neg (by simp [h2])]
 apply List.filter_congr
 intro s hs
 have hn := knOf_names hR s hs
 have hk : s ∉ ktOf rows := fun hm => names_kt s hn (ktOf_sub hm)
 have he : (s == ("error" : Str)) = false := by simpa using alpha_err s (names_alpha s hn)
 have hg := good_tm (start := start) hR hn
 have hb := h3 s hs
 have hkb := kb_iff (rows := rows) (k := s)
 have e2 : (!b s) = !decide (s ∈ goodN rows 4) := by
  congr 1
  by_cases q : s ∈ goodN rows 4
  ·rw [hb.mpr (hg.mp q)]; simp [q]
  ·have : ¬ b s = true := fun z => q (hg.mpr (hb.mp z))
   simp [q, this]
 rw [e2, he]
 by_cases q : s ∈ ruledOf rows
 ·have q2 := hkb.mpr q
  simp [q, q2]
 ·have q2 : s ∉ kbOf rows := fun z => q (hkb.mp z)
  simp [q, q2, hk]
variable {g : Gx} {X : Ex → St → Prop} {st : St} {gr : Addr} {rows : List R} {start : Str}
theorem law_c23 {Q : Fl → St → Prop} {n : Nat} {m : Mine g} (hW : LW st gr rows start) (hR : RowsOk rows) (hst : start ∈ names4) (hst2 : start ∈ ruledOf rows) (hN : SV st "names" (knOf rows)) (hRu : SV st "ruled" (ruledOf rows)) (hG : SV st "good" (goodN rows 4))
  (h : ∀ st', SameBut [] st.σ st'.σ → Le st.μ st'.μ → (r_law_c24 (n := n) m).1 Q X st') : (r_law_c23 (n := n) m).1 Q X st := by
 unfold r_law_c23; dsimp only
 have s2 := hW.gm
 obtain ⟨na, n1, n2⟩ := hN
 obtain ⟨ua, u1, u2⟩ := hRu
 obtain ⟨ga, g1, g2⟩ := hG
 refine exG3_3 hW.fin.meth fun md mes mep i1 i2 i3 => ?_
 have hno := i3 "infinite_cycles" (by simp [methNames])
 have hkl := knOf_len8 hR
 have kok : ∀ s ∈ knOf rows, PyData.strOk s = true := fun s hs => names_ok _ (knOf_names hR.ok s hs)
 have rok := ruled_ok hR.ok
 have gok : ∀ s ∈ goodN rows 4, PyData.strOk s = true := fun s hs => names_ok _ (goodN_names hR.ok _ s hs)
 walk_at "w"
 refine sp_infinite (F := st.μ) hW.fin.fg Le.refl (ktOf_nd rows) (knOf_nd rows) ?_ end_kt ?_ ?_ ?_ (by have := ktOf_len rows; omega) fun r1 μ1 b k1 k2 k3 k4 k5 => ?_
 ·intro s hs hk; exact names_kt s (knOf_names hR.ok s hs) (ktOf_sub hk)
 ·intro hm; exact end_names (knOf_names hR.ok _ hm)
 ·intro s hs
  refine exG1_2 (kbOf_mem hs) fun r hr e => ?_
  exact e ▸ knOf_nm hR.ok hr
 ·intro p hp y hy
  rcases List.mem_cons.mp hp with rfl | hp
  ·right
   have : y = start := by simpa [p0Of] using hy
   rw [this]
   refine exG1_2 (List.mem_map.mp hst2) fun r hr e => ?_
   exact e ▸ knOf_nm hR.ok hr
  ·refine exG1_3 (numb_mem hp) fun r hr _ e => ?_
   rw [e] at hy
   rcases alpha_split y ((hR.ok r hr).sy y hy) with h | h
   ·exact .inl ((ktOf_toks hR.ok hr hy).mpr h)
   ·exact .inr (knOf_sy h hr hy)
 have n2' := k1 _ _ n2
 have u2' := k1 _ _ u2
 have g2' := k1 _ _ g2
 rw [inf_eq (start := start) hR.ok k3 k4 k5] at k2
 walk_at "w"
 refine wk_comp (hasFree_of ["good", "ruled"] (by kernel_rfl) ⟨⟨_, by walk_at "sg"⟩, ⟨_, by walk_at "sg"⟩, trivial⟩) ?_
 walk_at "w"
 refine comp_pure (Rr := fun v y => v = .str y) (fun _ v s => v = .str s) (fun _ _ _ _ _ h => h) (fun x => if (decide (x ∈ ruledOf rows) && !decide (x ∈ goodN rows 4)) = true then [x] else []) ["x"] (hasFree_of ["good", "ruled"] (by kernel_rfl) ⟨⟨_, by walk_at "sg"⟩, ⟨_, by walk_at "sg"⟩, trivial⟩) (by walk_at "mu") (LR.strs (knOf rows)) (by omega) ?_ ?_
 ·rintro y v st3 acc K3 hy rfl q1 q2 q3 q4 q5
  have hyok := kok y hy
  have f3 := q1 _ _ u2'
  have f4 := q1 _ _ g2'
  walk_at "w"
  refine wk_splitC (fun hb => ?_) (fun hb => ?_)
  ·walk_at "w"
   exact ⟨q3, q4 _ _ y (by rw [if_pos (by simpa using hb)]) Le.refl (SameBut.set (by walk_at "nm") q2) rfl⟩
  ·exact q5 _ (by rw [if_neg (by simpa using hb)]) Le.refl (SameBut.set (by walk_at "nm") q2)
 ·intro D μ2 vs2 q1 q0 q2 q3
  have q1' : Le μ1 μ2 := q1
  have e : vs2 = ((knOf rows).filter fun x => decide (x ∈ ruledOf rows) && !decide (x ∈ goodN rows 4)).map V.str := by
   rw [LR.eq_map (f := V.str) q3]
   congr 1
   have := filt_flat (knOf rows) (fun x => decide (x ∈ ruledOf rows) && !decide (x ∈ goodN rows 4)) (fun x => x)
   rw [List.map_id'] at this
   exact this.symm
  subst e
  have hok : ∀ s ∈ (knOf rows).filter fun x => decide (x ∈ ruledOf rows) && !decide (x ∈ goodN rows 4), PyData.strOk s = true := fun s hs => kok s (List.mem_filter.mp hs).1
  walk_at "w"
  refine wk_neR (rd_lstrs (q1' _ _ k2)) (rd_lstrs q2) (okD_strs hok) (okD_strs hok) ?_
  rw [SeqAt.eqv_refl _ (okD_strs hok).1]
  refine wk_neg rfl ?_
  walk_at "w"
  exact h _ SameBut.refl (k1.trans q1')
noncomputable def precD (s : Str) : PyData := .tuple [.str s, .str (ascOf s)]
theorem rd_prec {μ : Addr → Option O} : ∀ {vs : List V} {qs : List Str}, LR (PrR μ) vs qs → RdAll μ vs (qs.map precD)
 | [], [], _ => .nil
 | v :: vs, q :: qs, h => by
  obtain ⟨t, rfl, e⟩ := h.1
  exact .cons (.tup e (.cons (.str _) (.cons (.str _) .nil))) (rd_prec h.2)
theorem unP_eq (rows : List R) : unP (ktOf rows) (usOf rows) = if rows.any (·.fl) then ([("Y" : Str)] : List Str) else [("Y" : Str), ("Z" : Str)] := by
 unfold unP precNames
 have hA : ("A" : Str) ∈ ktOf rows := by
  unfold ktOf ktP; split
  ·split <;> simp
  ·simp
 have hY : ("Y" : Str) ∉ ktOf rows := fun h => absurd (ktOf_sub h) (by decide +kernel)
 have hZ : ("Z" : Str) ∉ ktOf rows := fun h => absurd (ktOf_sub h) (by decide +kernel)
 have hYZ : ¬ (("Y" : Str) = ("Z" : Str)) := by decide +kernel
 unfold usOf
 cases rows.any (·.fl)
 ·simp [hA, hY, hZ]
 ·simp [hA, hY, hZ, hYZ]
theorem law_c24 {Q : Fl → St → Prop} {n : Nat} {m : Mine g} (hW : LW st gr rows start) (hR : RowsOk rows) (h : ∀ st', Le st.μ st'.μ → Q (.ret (.bool true)) st') : (r_law_c24 (n := n) m).1 Q X st := by
 unfold r_law_c24; dsimp only
 have s2 := hW.gm
 refine exG2_3 hW.rs fun ra vs h1 h2 h3 => ?_
 have hrl := hR.len
 walk_at "w"
 refine wk_comp (hasFree_of [] (by kernel_rfl) trivial) ?_
 walk_at "w"
 refine comp_pure (Rr := RowR st.μ) (fun _ _ (_ : Unit) => True) (fun _ _ _ _ _ h => h) (fun r : R => if r.fl = true then [()] else []) ["row"] (hasFree_of [] (by kernel_rfl) trivial) (by walk_at "mu") h3 (by omega) ?_ ?_
 ·rintro r v st2 acc K2 hr hv q1 q2 q3 q4 q5
  obtain ⟨w, sl, rfl, w1, w2⟩ := hv.le q1
  walk_at "w"
  refine wk_idxT (j := 2) (u := .bool r.fl) (by walk_at "mu") (by simp) (by simp [seqIndex?]) rfl ?_
  walk_at "w"
  refine wk_splitC (fun hb => ?_) (fun hb => ?_)
  ·walk_at "w"
   exact ⟨q3, q4 _ _ () (by rw [if_pos hb]) Le.refl (SameBut.set (by walk_at "nm") q2) trivial⟩
  ·exact q5 _ (by rw [if_neg (by rw [hb]; simp)]) Le.refl (SameBut.set (by walk_at "nm") q2)
 ·intro D μ1 vs1 q1 q0 q2 q3
  have hlen : (decide ((vs1.length : Int) > 0)) = rows.any (·.fl) := by
   rw [q3.length]
   have e := filt_flat rows (fun r => r.fl) (fun _ => ())
   rw [← e, List.length_map]
   cases hc : rows.any (·.fl)
   ·have : rows.filter (fun r => r.fl) = [] := by
     rw [List.filter_eq_nil_iff]
     intro r hr hf
     rw [List.any_eq_false] at hc
     exact hc r hr hf
    rw [this]; rfl
   ·refine exG1_2 (List.any_eq_true.mp hc) fun r hr hf => ?_
    have : 0 < (rows.filter fun r => r.fl).length := List.length_pos_iff_exists_mem.mpr ⟨r, List.mem_filter.mpr ⟨hr, hf⟩⟩
    simp; exact ⟨r, hr, hf⟩
  have hvl : vs1.length ≤ 100000 := by
   rw [q3.length]
   have e := filt_flat rows (fun r => r.fl) (fun _ => ())
   rw [← e, List.length_map]
   have : (rows.filter fun r => r.fl).length ≤ rows.length := List.length_filter_le ..
   omega
  have hF1 : Fin μ1 gr rows start := hW.fin.le q1
  refine exG3_3 hF1.meth fun md mes mep i1 i2 i3 => ?_
  have hno := i3 "unused_precedence" (by simp [methNames])
  walk_at "w"
  rw [hlen]
  walk_at "w"
  refine sp_unused_precedence (st := (⟨st.σ, μ1⟩ : St).set "taken" _) hF1.fg fun r2 μ2 vs2 k1 k2 k3 => ?_
  rw [unP_eq] at k3
  walk_at "w"
  have k1' : Le μ1 μ2 := k1
  refine wk_tup (by simp) fun ty hty => ?_
  walk_at "w"
  refine wk_list (by simp) fun ly hly => ?_
  walk_at "w"
  have k2' : ((((⟨st.σ, μ2⟩ : St).put ty (.tup [.str "Y", .str "right"])).put ly (.list [.ref ty]))).μ r2 = some (.list vs2) := put_old hly (put_old hty k2)
  have kl' : ((((⟨st.σ, μ2⟩ : St).put ty (.tup [.str "Y", .str "right"])).put ly (.list [.ref ty]))).μ ly = some (.list [.ref ty]) := put_same
  have kt' : ((((⟨st.σ, μ2⟩ : St).put ty (.tup [.str "Y", .str "right"])).put ly (.list [.ref ty]))).μ ty = some (.tup [.str "Y", .str "right"]) := put_old hly put_same
  have hok : ∀ qs : List Str, (∀ s ∈ qs, s = ("Y" : Str) ∨ s = ("Z" : Str)) → okD (.list (qs.map precD)) := by
   intro qs hq
   have h1 : ∀ s : Str, (s = ("Y" : Str) ∨ s = ("Z" : Str)) → (precD s).canLay0 = true ∧ (precD s).depth = 1 := by
    rintro s (rfl | rfl) <;> exact ⟨by kernel_rfl, by kernel_rfl⟩
   constructor
   ·show PyData.canLayAll0 (qs.map precD) = true
    induction qs with
    | nil => rfl
    | cons q qs ih => rw [List.map_cons, PyData.canLayAll0, (h1 q (hq q (.head _))).1, ih fun s hs => hq s (.tail _ hs)]; rfl
   ·rw [PyData.depth]
    suffices PyData.depthAll (qs.map precD) ≤ 1 by omega
    induction qs with
    | nil => rw [List.map_nil, PyData.depthAll]; omega
    | cons q qs ih => rw [List.map_cons, PyData.depthAll, (h1 q (hq q (.head _))).2]; have := ih fun s hs => hq s (.tail _ hs); omega
  have aY : ascOf ("Y" : Str) = "right" := by kernel_rfl
  have aZ : ascOf ("Z" : Str) = "nonassoc" := by kernel_rfl
  cases hc : rows.any (·.fl) with
  | true =>
   rw [hc] at k3
   refine wk_pos rfl ?_
   walk_at "w"
   refine wk_list (by simp) fun l0 hl0 => ?_
   refine wk_addL (xs := [.ref ty]) (ys := []) (by exact put_old hl0 kl') (by exact put_same) (by simp) (by simp) fun lz hlz => ?_
   walk_at "w"
   have hle : Le μ2 _ := Le.put_new (o := .list ([.ref ty] ++ [])) hlz (Le.put_new hl0 (Le.put_new hly (Le.put_new hty (Le.refl : Le μ2 (⟨st.σ, μ2⟩ : St).μ))))
   refine wk_eqR (d := .list ((["Y"] : List Str).map precD)) (e := .list ((["Y"] : List Str).map precD)) (.list (hle _ _ k2) (rd_prec (k3.mono fun _ _ z => z.le hle))) (.list put_same (.cons (.tup (put_old hlz (put_old hl0 kt')) (.cons (.str _) (.cons (by rw [← aY]; exact .str _) .nil))) .nil)) (hok _ (by simp)) (hok _ (by simp)) ?_
   rw [SeqAt.eqv_refl _ (hok _ (by simp)).1]
   exact h _ (q1.trans (k1'.trans hle))
  | false =>
   rw [hc] at k3
   refine wk_neg rfl ?_
   walk_at "w"
   refine wk_tup (by simp) fun tz htz => ?_
   walk_at "w"
   refine wk_list (by simp) fun l0 hl0 => ?_
   refine wk_addL (xs := [.ref ty]) (ys := [.ref tz]) (by exact put_old hl0 (put_old htz kl')) (by exact put_same) (by simp) (by simp) fun lz hlz => ?_
   walk_at "w"
   have hle : Le μ2 _ := Le.put_new (o := .list ([.ref ty] ++ [.ref tz])) hlz (Le.put_new hl0 (Le.put_new htz (Le.put_new hly (Le.put_new hty (Le.refl : Le μ2 (⟨st.σ, μ2⟩ : St).μ)))))
   refine wk_eqR (d := .list ((["Y", "Z"] : List Str).map precD)) (e := .list ((["Y", "Z"] : List Str).map precD)) (.list (hle _ _ k2) (rd_prec (k3.mono fun _ _ z => z.le hle))) (.list put_same (.cons (.tup (put_old hlz (put_old hl0 (put_old htz kt'))) (.cons (.str _) (.cons (by rw [← aY]; exact .str _) .nil))) (.cons (.tup (put_old hlz (put_old hl0 put_same)) (.cons (.str _) (.cons (by rw [← aZ]; exact .str _) .nil))) .nil))) (hok _ (by simp)) (hok _ (by simp)) ?_
   rw [SeqAt.eqv_refl _ (hok _ (by simp)).1]
   exact h _ (q1.trans (k1'.trans hle))
end Kk
end
section
set_option maxHeartbeats 1000000
namespace Kk
variable {α β γ δ : Type}
theorem wk_truthP {a : Addr} {vs : Array Value} {Q : Bool → St → Prop} {X : Ex → St → Prop} {st : St} (h1 : st.μ a = some (.pin vs)) (h2 : vs.size ≤ 100000) (h : Q (!vs.isEmpty) st) : truthM (.ref a) Q X st := .pin h1 h2 h
theorem wk_idxP {a : Addr} {k : Int} {vs : Array Value} {j : Nat} {u : V} {Q : V → St → Prop} {X : Ex → St → Prop} {st : St} (h1 : st.μ a = some (.pin vs)) (h2 : (vs.toList.map er).length ≤ 1000) (h3 : seqIndex? k (vs.toList.map er).length = some j) (h4 : (vs.toList.map er)[j]? = some u) (h : Q u st) : idxM (.ref a) (.int k) Q X st := .pin h1 h2 h3 h4 h
variable {g : Gx} {X : Ex → St → Prop} {st : St} {gr : Addr} {rows : List R} {start : Str}
theorem sp_law {Q : Fl → St → Prop} {n : Nat} {m : Mine g} {sc : Addr} {ns : List Int} (hs : st.σ "script" = some (.ref sc)) {pv : Array Value} (hsc : st.μ sc = some (.pin pv)) (hpv : pv.toList.map er = ns.map .int) (hl : ns.length ≤ 63) (h45 : ∃ b, st.μ 45 = some (.tab b)) (h157 : st.μ 157 = some (.tab true))
  (h : ∀ st', st'.μ sc = some (.pin pv) → (∃ b, st'.μ 45 = some (.tab b)) → (∃ b, st'.μ 157 = some (.tab b)) → Q (.ret (.bool true)) st') : (r_law (n := n) m).1 Q X st := by
 unfold r_law; dsimp only
 revert h45; refine fun oO => exG1_1 oO fun b h45 => ?_
 walk_at "w"
 refine sp_law_rows hsc hpv (by omega) fun ra μ1 vs rows k1 k2 k3 hR hne => ?_
 have hsc' := k1 _ _ hsc
 have hvl2 : (pv.toList.map er).length ≤ 1000 := by rw [hpv]; simp; omega
 have hvl : pv.size ≤ 100000 := by rw [List.length_map, Array.length_toList] at hvl2; omega
 have hrest : ∀ (hd : Int) (st2 : St), st2.σ "rows" = some (.ref ra) → st2.σ "head" = some (.int hd) → st2.μ = μ1 → (r_law_c2 (n := n) m).1 Q X st2 := by
  intro hd st2 a1 a2 a3
  refine law_c2 (xa := sc) (xo := .pin pv) (by rw [a3]; exact hsc') nofun (ra := ra) (vs := vs) (rows := rows) (hd := hd) ⟨b, by rw [a3]; exact k1 _ _ h45⟩ (by rw [a3]; exact k1 _ _ h157) a1 a2 (by rw [a3]; exact k2) (by rw [a3]; exact k3) ?_
  intro st3 F gr ad S bx b1 b2 b3 b4 b5 b6 b7 b8 b9 b10 b11
  refine law_c5 bx b1 b2 b3 b4 b5 hR b6 b7 b8 b9 b10 b11 ?_
  intro st4 F2 gr2 ad2 S2 cx c1 c2 c3 c4 c5 c6 c7 c8 c9 c10
  refine law_c6 cx c1 c2 c3 c4 c5 hR hne c6 c7 c8 c9 c10 ?_
  intro st5 start dx q0q d1 d2 d3 q1q d4 d5 d6 d7
  refine exG1_1 q0q fun b5 dy => ?_
  refine exG1_2 q1q fun r hr hn => ?_
  have hst2 : start ∈ ruledOf rows := List.mem_map.mpr ⟨r, hr, hn⟩
  have hst : start ∈ names4 := hn ▸ (hR.ok r hr).nm
  have W5 : LW st5 gr2 rows start := ⟨⟨ra, vs, d1, d4, d5⟩, d2, d7, d3⟩
  refine law_c8 W5 hR ?_
  intro st6 e1 e2 e3 e4
  have W6 := W5.next e1 (by decide +kernel) (Le.nt e2)
  refine law_c10 W6 hR e3 ?_
  intro st7 f1 f2 f3
  have W7 := W6.next f1 (by decide +kernel) (Le.nt f2)
  have T7 := e3.next f1 (by decide +kernel) (Le.nt f2)
  have U7 := e4.next f1 (by decide +kernel) (Le.nt f2)
  refine law_c12 W7 hR hst2 T7 U7 ?_
  intro st8 g1 g2 g3
  have W8 := W7.next g1 (by decide +kernel) (Le.nt g2)
  have T8 := T7.next g1 (by decide +kernel) (Le.nt g2)
  have U8 := U7.next g1 (by decide +kernel) (Le.nt g2)
  have N8 := f3.next g1 (by decide +kernel) (Le.nt g2)
  refine law_c14 W8 hR hst2 g3 ?_
  intro st9 i1 i2
  have W9 := W8.next i1 (by decide +kernel) (Le.nt i2)
  have T9 := T8.next i1 (by decide +kernel) (Le.nt i2)
  have U9 := U8.next i1 (by decide +kernel) (Le.nt i2)
  have N9 := N8.next i1 (by decide +kernel) (Le.nt i2)
  refine law_c15 W9 hR hst2 ?_
  intro st10 j1 j2
  have W10 := W9.next j1 (by decide +kernel) (Le.nt j2)
  have T10 := T9.next j1 (by decide +kernel) (Le.nt j2)
  have U10 := U9.next j1 (by decide +kernel) (Le.nt j2)
  have N10 := N9.next j1 (by decide +kernel) (Le.nt j2)
  refine law_c16 W10 hR hst2 N10 U10 ?_
  intro st11 l1 l2
  have W11 := W10.next l1 (by decide +kernel) (Le.nt l2)
  have T11 := T10.next l1 (by decide +kernel) (Le.nt l2)
  have U11 := U10.next l1 (by decide +kernel) (Le.nt l2)
  have N11 := N10.next l1 (by decide +kernel) (Le.nt l2)
  refine law_c18 W11 hR hst ?_
  intro st12 o1 o2 o3
  have W12 := W11.next o1 (by decide +kernel) (Le.nt o2)
  have T12 := T11.next o1 (by decide +kernel) (Le.nt o2)
  have U12 := U11.next o1 (by decide +kernel) (Le.nt o2)
  have N12 := N11.next o1 (by decide +kernel) (Le.nt o2)
  have h157' : st12.μ 157 = some (.tab true) := o2 _ _ (l2 _ _ (j2 _ _ (i2 _ _ (g2 _ _ (f2 _ _ (e2 _ _ d6))))))
  have hle512 := (((((e2.trans f2).trans g2).trans i2).trans j2).trans l2).trans o2
  refine law_c20 W12 hR hst h157' N12 o3 ⟨b5, hle512 _ _ dy⟩ ?_
  intro st13 p1 p2 q0q q1q
  refine exG1_1 q0q fun b6 p3 => ?_
  refine exG1_1 q1q fun b7 p4 => ?_
  have px := p2 _ _ (nt_get (hle512 _ _ dx) nofun)
  have W13 := W12.next p1 (by decide +kernel) p2
  have T13 := T12.next p1 (by decide +kernel) p2
  have U13 := U12.next p1 (by decide +kernel) p2
  have N13 := N12.next p1 (by decide +kernel) p2
  refine law_c21 W13 hR T13 ?_
  intro st14 q1 q2 q3
  have W14 := W13.next q1 (by decide +kernel) (Le.nt q2)
  have U14 := U13.next q1 (by decide +kernel) (Le.nt q2)
  have N14 := N13.next q1 (by decide +kernel) (Le.nt q2)
  refine law_c23 W14 hR hst hst2 N14 U14 q3 ?_
  intro st15 r1 r2
  have W15 := W14.next r1 (by decide +kernel) (Le.nt r2)
  exact law_c24 W15 hR fun st16 s1 => h st16 (s1 _ _ (r2 _ _ (q2 _ _ px))) ⟨b6, s1 _ _ (r2 _ _ (q2 _ _ p3))⟩ ⟨b7, s1 _ _ (r2 _ _ (q2 _ _ p4))⟩
 walk_at "w"
 refine wk_truthP (vs := pv) (by walk_at "mu") hvl ?_
 refine wk_split (fun hb => ?_) (fun hb => ?_)
 ·walk_at "w"
  obtain ⟨i, ns', rfl⟩ : ∃ i ns', ns = i :: ns' := by
   induction ns with
   | nil =>
    have : pv.toList.map er = [] := hpv
    rw [List.map_eq_nil_iff, Array.toList_eq_nil_iff] at this
    rw [this] at hb; k_call_by "c" hb
   | cons i ns' => exact ⟨i, ns', rfl⟩
  refine wk_idxP (vs := pv) (j := 0) (u := .int i) (by walk_at "mu") hvl2 (seqIndex_nat (i := 0) (by rw [hpv]; simp)) (by rw [hpv]; rfl) ?_
  walk_at "w"
  exact hrest i _ (by walk_at "sg") (by walk_at "sg") rfl
 ·walk_at "w"
  exact hrest 1 _ (by walk_at "sg") (by walk_at "sg") rfl
end Kk
end
end
section
set_option maxHeartbeats 2000000
namespace Kk
theorem cells_of {cm : Str → Option Value} {cs : List (Str × Addr)} {cells : List (Addr × Obj)} (h : CellsAre cm cs cells) : ∀ p ∈ cs, ∃ o, (p.2, o) ∈ cells ∧ ∃ v, o.data = .cell v := by
 induction h with
 | nil => intro p hp; k_call_by "c" hp
 | @cons n c o cs cells h1 h2 ih =>
  intro p hp
  rcases List.mem_cons.mp hp with rfl | hp
  ·exact ⟨o, .head _, _, h1⟩
  ·refine exG1_2 (ih p hp) fun o' a b => ?_
   exact ⟨o', .tail _ a, b⟩
theorem ns_ne {h : Heap} {a sc : Addr} {m : Str → Option Value} {o : Obj} {xs : Array Value} {n : Nat} (x : h.Ns a m) (e : h.get? sc = some o) (hd : o.data = .seq xs n) : a ≠ sc := by
 rintro rfl
 refine exG3_3 x fun o' es ep h1 h2 _ => ?_
 rw [e] at h1; k_call_by "c" h1
 rw [hd] at h2; k_call_by "c" h2
theorem ns_to {h h' : Heap} {a : Addr} {m : Str → Option Value} (x : h.Ns a m) (k : ∀ o, h.get? a = some o → h'.get? a = some o) : h'.Ns a m :=
 by obtain ⟨o, es, ep, h1, r⟩ := x; exact ⟨o, es, ep, k _ h1, r⟩
theorem top_but {loose : List Str} {mean : ExcName → Option Value} {mg mb : Str → Option Value} {h h' : Heap} {sc : Addr} {o : Obj} {xs : Array Value} {n : Nat} (T : Top topProg loose mean mg mb h) (e : h.get? sc = some o) (hd : o.data = .seq xs n) (k : ∀ b o, b ≠ sc → h.get? b = some o → h'.get? b = some o) : Top topProg loose mean mg mb h' where
 g := ns_to T.g fun o => k _ o (ns_ne T.g e hd)
 b := ns_to T.b fun o => k _ o (ns_ne T.b e hd)
 nolimit := by obtain ⟨mc, a, r⟩ := T.nolimit; exact ⟨mc, ns_to a fun o => k _ o (ns_ne a e hd), r⟩
 nodigits := by obtain ⟨mc, a, r⟩ := T.nodigits; exact ⟨mc, ns_to a fun o => k _ o (ns_ne a e hd), r⟩
 fn := fun d hd => absurd (show d ∈ ([] : List DefRec) from hd) List.not_mem_nil
 own := fun o ho => absurd (show o ∈ ([] : List OwnSpec) from ho) List.not_mem_nil
 const := fun x d e => by cases (show (none : Option PyData) = some d from e)
 free := T.free
 builtins := T.builtins
 tab := fun d hd => absurd (show d ∈ ([] : List DefRec) from hd) List.not_mem_nil
 bmain := by obtain ⟨bm, ob, a1, a2, a3, a4, a5, a6⟩ := T.bmain; exact ⟨bm, ob, a1, a2, k _ _ (by rintro rfl; rw [e] at a3; k_call_by "c" a3; rw [hd] at a6; k_call_by "c" a6) a3, a4, a5, a6⟩
 seer := fun e => absurd (show false = true from e) Bool.false_ne_true
noncomputable def gxOf (prog : Program) (w : World) (loose : List Str) (mean : ExcName → Option Value) (mg mb : Str → Option Value) : Gx := ⟨prog, w, HK w.params, topProg, loose, mean, mg, mb, 0, [(159, 157), (49, 45)]⟩
noncomputable abbrev lawFn (w : World) : FuncData := fnOf (HK w.params) 242
noncomputable def lawCells (w : World) (L : Addr) : List (Str × Addr) := cellsFrom (L + 1) (lawFn w).scope.names []
theorem lawCells_eq (w : World) (L : Addr) : lawCells w L = [(("good" : Str), L + 7), ("met", L + 6), ("ruled", L + 5), ("tokens", L + 4), ("start", L + 3), ("k", L + 2), ("rows", L + 1)] := by kernel_rfl
theorem gt_add {L : Nat} (k : Nat) : L < L + (k + 1) := Nat.lt_add_of_pos_right (Nat.succ_pos k)
theorem lawCells_gt {w : World} {L : Addr} : ∀ p ∈ lawCells w L, L < p.2 := by
 intro p hp
 rw [lawCells_eq] at hp
 simp only [List.mem_cons, List.not_mem_nil, or_false] at hp
 rcases hp with rfl | rfl | rfl | rfl | rfl | rfl | rfl
 ·exact gt_add 6
 ·exact gt_add 5
 ·exact gt_add 4
 ·exact gt_add 3
 ·exact gt_add 2
 ·exact gt_add 1
 ·exact gt_add 0
noncomputable def cellN (k : Nat) : Str := (["", "rows", "k", "start", "tokens", "ruled", "met", "good"] : List Str).getD k ""
theorem cellN_at {L k : Nat} : cellN k = cellN (L + k - L) := (congrArg cellN (Nat.add_sub_cancel_left ..)).symm
theorem lawCells_f {w : World} {L : Addr} : ∀ p ∈ lawCells w L, p.1 = cellN (p.2 - L) := by
 rw [lawCells_eq]
 exact List.forall_mem_cons.mpr ⟨cellN_at (k := 7), List.forall_mem_cons.mpr ⟨cellN_at (k := 6), List.forall_mem_cons.mpr ⟨cellN_at (k := 5), List.forall_mem_cons.mpr ⟨cellN_at (k := 4), List.forall_mem_cons.mpr ⟨cellN_at (k := 3), List.forall_mem_cons.mpr ⟨cellN_at (k := 2), List.forall_mem_cons.mpr ⟨cellN_at (k := 1), fun p hp => absurd hp List.not_mem_nil⟩⟩⟩⟩⟩⟩⟩
theorem lawCells_inj {w : World} {L c : Addr} {x y : Str} (a1 : (x, c) ∈ lawCells w L) (a2 : (y, c) ∈ lawCells w L) : x = y := (lawCells_f _ a1).trans (lawCells_f _ a2).symm
theorem noLists (w : World) : ((HK w.params).all fun p => match p.2.data with | .seq _ _ => !(p.2.cls == .type "list") | _ => true) = true := by kernel_rfl
theorem look_mem {K : Frag} {a : Addr} {o : Obj} (h : K.lookup a = some o) : (a, o) ∈ K := by
 induction K with
 | nil => k_call_by "c" h
 | cons p r ih =>
  obtain ⟨b, q⟩ := p
  rw [List.lookup_cons] at h
  split at h
  ·rename_i e; k_call_by "c" h; have : a = b := by simpa using e
   subst this; exact .head _
  ·exact .tail _ (ih h)
theorem look_mem' {β : Type} {l : List (Str × β)} {x : Str} {c : β} (h : l.lookup x = some c) : (x, c) ∈ l := by
 induction l with
 | nil => k_call_by "c" h
 | cons p r ih =>
  obtain ⟨b, q⟩ := p
  rw [List.lookup_cons] at h
  split at h
  ·rename_i e; k_call_by "c" h; have : x = b := by simpa using e
   subst this; exact .head _
  ·exact .tail _ (ih h)
theorem ints_er {vs : List Value} {ns : List Int} (h : IntsAre vs ns) : vs.map er = ns.map V.int := by
 induction h with
 | nil => rfl
 | cons n t _ ih => rw [List.map_cons, List.map_cons, ih]; rfl
noncomputable def sig0 (sc : Addr) : Str → Option V := fun x => if x = ("script" : Str) then some (.ref sc) else none
noncomputable def mem0 (sc : Addr) (pv : Array Value) : Addr → Option O := upd (upd (upd (fun _ => none) sc (.pin pv)) 45 (.tab true)) 157 (.tab true)
theorem sig0_script {sc : Addr} : sig0 sc "script" = some (.ref sc) := if_pos rfl
theorem mem0_157 {sc : Addr} {pv : Array Value} : mem0 sc pv 157 = some (.tab true) := u_same
theorem mem0_45 {sc : Addr} {pv : Array Value} : mem0 sc pv 45 = some (.tab true) := u_ne (by decide : (45 : Nat) ≠ 157) u_same
theorem mem0_sc {sc : Addr} {pv : Array Value} (h : sc ≠ 157) (h' : sc ≠ 45) : mem0 sc pv sc = some (.pin pv) := u_ne h (u_ne h' u_same)
theorem join {prog : Program} {w : World} {loose : List Str} {mean : ExcName → Option Value} {mg mb : Str → Option Value} {s1 : Shared} {sc fa : Addr} {vs : List Value} {ns : List Int} {h1 : Heap} {tk1 : Nat} {cd : Value} {name : Str} {L : Addr} {m cm : Str → Option Value} {cells : List (Addr × Obj)} {H : Heap}
  (hH : CodeAll [(159, 157), (49, 45)] H) (X' : (HK w.params).In H) (T' : Top topProg loose mean mg mb H) (F' : Fr H L h1 m) (hm : m "script" = some (.ref sc)) (hW : H.get? sc = some { cls := .type "list", data := .seq vs.toArray }) (hI : IntsAre vs ns) (hl : ns.length ≤ 63) (hL : 157 < L)
  (N' : News H L h1 (cells ++ [(157, tabObj #[]), (45, tabObj #[])])) (hc : CellsAre cm (lawCells w L) cells) :
  wpAny (model prog w) (callerA.deeper (envOfC name (lawFn w).scope L fa cd)) (execs (bodyOf (lawFn w)) (envOfC name (lawFn w).scope L fa cd))
   (fun f s' => f = .ret (.bool true) ∧ s'.gens = s1.gens ∧ s'.os = s1.os ∧ (∃ m', s'.heap.Ns L m') ∧ (∀ b o, H.get? b = some o → s'.heap.get? b = some o) ∧ (∃ q, s'.heap.get? 157 = some (tabObj q)) ∧ ∃ q, s'.heap.get? 45 = some (tabObj q)) (fun _ _ => False)
   { heap := h1, gens := s1.gens, drawn := s1.drawn, toks := tk1, os := s1.os } := by
 have m0 : Mine (gxOf prog w loose mean mg mb) := ⟨rfl, rfl⟩
 have hscL : sc < L := Nat.lt_of_lt_of_le (Heap.lt_size hW) F'.above
 have hown : ∀ c ∈ (lawCells w L).map (·.2), L < c ∧ H.get? c = none ∧ ∃ v, h1.IsCell c v := by
  intro c hcm
  refine exG1_2 (List.mem_map.mp hcm) fun p hp r1 => ?_
  obtain rfl := r1
  refine exG1_2 (cells_of hc p hp) fun o ho r2 => ?_
  refine exG1_1 r2 fun v hv => ?_
  refine exG0_3 (N' _ (List.mem_append_left _ ho)) fun n1 n2 n3 => ?_
  refine ⟨?_, n3, v, o, n1, hv⟩
  exact lawCells_gt p hp
 have n157 := N' (157, tabObj #[]) (List.mem_append_right _ (.head _))
 have n45 := N' (45, tabObj #[]) (List.mem_append_right _ (.tail _ (.head _)))
 have s157 : sc ≠ 157 := by rintro rfl; rw [n157.2.2] at hW; k_call_by "c" hW
 have s45 : sc ≠ 45 := by rintro rfl; rw [n45.2.2] at hW; k_call_by "c" hW
 have Y : Ok (gxOf prog w loose mean mg mb) (lawS (gxOf prog w loose mean mg mb)) .fn (0 + 40) { A := callerA.deeper (envOfC name (lawFn w).scope L fa cd), env := envOfC name (lawFn w).scope L fa cd, base := fun b => if b = sc then none else H.get? b, own := (lawCells w L).map (·.2), fr := fun _ => none, s0 := { heap := h1, gens := s1.gens, drawn := s1.drawn, toks := tk1, os := s1.os }, outer := [] } := {
  stat := fun h hB => by
   have keep : ∀ b o, b ≠ sc → H.get? b = some o → h.get? b = some o := fun b o hb e => hB b o (by show (if b = sc then none else H.get? b) = some o; rw [if_neg hb]; exact e)
   have code : ∀ {c P : Addr}, CodeHd H c P → CodeHd h c P := by
    intro c P q0q
    refine exG9_3 q0q fun o vs' file tf flags tg inF text tt e1 e2 r => ?_
    exact ⟨o, vs', file, tf, flags, tg, inF, text, tt, keep _ _ (by rintro rfl; rw [hW] at e1; k_call_by "c" e1; injection e2 with e2; exact absurd e2 (by decide)) e1, e2, r⟩
   refine ⟨fun a o e => keep _ _ ?_ (X' a o e), top_but T' hW rfl keep, code hH.1, code hH.2.1, trivial⟩
   rintro rfl
   have h1' := X' a o e
   rw [hW] at h1'; cases h1'
   have h2' := List.all_eq_true.mp (noLists w) _ (look_mem e)
   cases h2'
  scope := rfl
  kind := by kernel_rfl
  glob := rfl
  blt := rfl
  cells := fun x c h => .inl (List.mem_map.mpr ⟨(x, c), look_mem' h, rfl⟩)
  ownL := fun c hcm => ⟨Nat.ne_of_gt (hown c hcm).1, by show (if c = sc then none else H.get? c) = none; rw [(hown c hcm).2.1]; split <;> rfl, rfl⟩
  baseL := by show (if L = sc then none else H.get? L) = none; rw [Heap.get?_none_of_le F'.above]; split <;> rfl
  frL := rfl
  frB := fun a d e => by k_call_by "c" e
  ownN := fun x hx => by
   have hall : ((lawS (gxOf prog w loose mean mg mb)).own.all fun x => decide (x ∈ ((["good", "met", "ruled", "tokens", "start", "k", "rows"] : List Str)))) = true := by kernel_rfl
   have hx2 := of_decide_eq_true (List.all_eq_true.mp hall x hx)
   have hk : ∃ c, (lawCells w L).lookup x = some c := by
    simp only [List.mem_cons, List.not_mem_nil, or_false] at hx2
    rcases hx2 with rfl | rfl | rfl | rfl | rfl | rfl | rfl
    ·exact Option.isSome_iff_exists.mp (by kernel_rfl)
    ·exact Option.isSome_iff_exists.mp (by kernel_rfl)
    ·exact Option.isSome_iff_exists.mp (by kernel_rfl)
    ·exact Option.isSome_iff_exists.mp (by kernel_rfl)
    ·exact Option.isSome_iff_exists.mp (by kernel_rfl)
    ·exact Option.isSome_iff_exists.mp (by kernel_rfl)
    ·exact Option.isSome_iff_exists.mp (by kernel_rfl)
   refine exG1_1 hk fun c hc' => ?_
   exact ⟨c, hc', List.mem_map.mpr ⟨(x, c), look_mem' hc', rfl⟩⟩
  inj := fun x y c h1' h2' _ => by
   exact lawCells_inj (w := w) (L := L) (look_mem' h1') (look_mem' h2')
  code := fun c e => by k_call_by "c" e
  clo := fun cl e => by k_call_by "c" e
  hnd := .inr rfl
  guards := rfl
  frames := .inr ⟨rfl, rfl⟩
  outs := fun e he => by k_call_by "c" he
  depth := by show 1 + claimMargin + 1 + 10 * (0 + 40) ≤ 900; decide
  units := by show 4 + 3 + 10 * (0 + 40) ≤ 9000; decide }
 have x : Sim (gxOf prog w loose mean mg mb) { A := callerA.deeper (envOfC name (lawFn w).scope L fa cd), env := envOfC name (lawFn w).scope L fa cd, base := fun b => if b = sc then none else H.get? b, own := (lawCells w L).map (·.2), fr := fun _ => none, s0 := { heap := h1, gens := s1.gens, drawn := s1.drawn, toks := tk1, os := s1.os }, outer := [] }
   ⟨sig0 sc, mem0 sc vs.toArray⟩ { heap := h1, gens := s1.gens, drawn := s1.drawn, toks := tk1, os := s1.os } := {
  gens := rfl
  drawn := rfl
  os := rfl
  base := fun b o e => by
   have e' : (if b = sc then none else H.get? b) = some o := e
   split at e'
   ·cases e'
   ·exact F'.keep b o e'
  vars := ⟨m, F'.ns, fun y u e => by
   have e' : (if y = ("script" : Str) then some (V.ref sc) else none) = some u := e
   split at e'
   ·rename_i hy
    cases e'; subst hy
    unfold VarAt
    rw [show (envOfC name (lawFn w).scope L fa cd).kindOf "script" = some .local from by kernel_rfl]
    exact ⟨_, hm, rfl⟩
   ·cases e'⟩
  cells := fun c hcm => (hown c hcm).2.2
  frs := fun a d e => by k_call_by "c" e
  objs := fun a o e => by
   have offL : ∀ a : Addr, a < L → a ∉ (lawCells w L).map (·.2) := fun a ha hcm => Nat.lt_asymm ha (hown a hcm).1
   have e' : upd (upd (upd (fun _ => none) sc (.pin vs.toArray)) 45 (.tab true)) 157 (.tab true) a = some o := e
   unfold upd at e'
   split at e'
   ·cases e'; subst_vars
    exact ⟨⟨#[], n157.1, by simp [TriplesOk], fun _ => rfl⟩, n157.2.1, offL _ hL, by show (if (157 : Addr) = sc then none else H.get? 157) = none; rw [n157.2.2]; split <;> rfl, rfl⟩
   ·split at e'
    ·cases e'; subst_vars
     exact ⟨⟨#[], n45.1, by simp [TriplesOk], fun _ => rfl⟩, n45.2.1, offL _ (Nat.lt_trans (by decide) hL), by show (if (45 : Addr) = sc then none else H.get? 45) = none; rw [n45.2.2]; split <;> rfl, rfl⟩
    ·split at e'
     ·cases e'; subst_vars
      exact ⟨F'.keep _ _ hW, Nat.ne_of_lt hscL, offL _ hscL, if_pos rfl, rfl⟩
     ·cases e' }
 have hp := sp_law (n := 0) (m := m0) (X := fun _ _ => False) (Q := fun f st' => f = .ret (.bool true) ∧ st'.μ sc = some (.pin vs.toArray) ∧ (∃ b, st'.μ 45 = some (.tab b)) ∧ ∃ b, st'.μ 157 = some (.tab b)) (st := ⟨sig0 sc, mem0 sc vs.toArray⟩) (sc := sc) (ns := ns) (pv := vs.toArray)
  sig0_script (mem0_sc s157 s45) (ints_er hI) hl ⟨true, mem0_45 (sc := sc) (pv := vs.toArray)⟩ (mem0_157 (sc := sc) (pv := vs.toArray)) fun st' a b c => ⟨rfl, a, b, c⟩
 have run := (r_law (n := 0) m0).2 _ Y _ _ _ _ x hp
 refine wpAny_mono run ?_ ?_
 ·intro f s' q0q
  refine exG2_6 q0q fun a st' hf x' r3 p1 r4 r5 => ?_
  obtain rfl := r3
  obtain ⟨b1, p2⟩ := r4
  refine exG1_1 r5 fun b2 p3 => ?_
  refine ⟨?_, x'.gens, x'.os, ?_, ?_, ?_, ?_⟩
  ·induction f <;> first | exact hf.elim | skip
   rename_i u
   have : er u = .bool true := hf
   rw [er_bool this]
  ·obtain ⟨m', h', _⟩ := x'.vars; exact ⟨m', h'⟩
  ·intro b o e
   by_cases hb : b = sc
   ·subst hb
    rw [hW] at e; k_call_by "c" e
    exact (x'.objs _ _ p1).1
   ·exact x'.base b o (by show (if b = sc then none else H.get? b) = some o; rw [if_neg hb]; exact e)
  ·obtain ⟨ps, h', _⟩ := (x'.objs _ _ p3).1; exact ⟨ps, h'⟩
  ·obtain ⟨ps, h', _⟩ := (x'.objs _ _ p2).1; exact ⟨ps, h'⟩
 ·intro e s' q0q
  refine exG3_3 q0q fun k st' fl _ hX _ => ?_
  exact hX
theorem join2 {prog : Program} {w : World} {loose : List Str} {mean : ExcName → Option Value} {mg mb : Str → Option Value} {s1 : Shared} {sc fa : Addr} {vs : List Value} {ns : List Int} {h1 : Heap} {tk1 : Nat} {cd : Value} {name : Str} {L : Addr} {m cm : Str → Option Value} {cells : List (Addr × Obj)} {H : Heap} {body : List Stmt} {scope : Scope}
  (hb : bodyOf (lawFn w) = body) (hs : (lawFn w).scope = scope) (hH : CodeAll [(159, 157), (49, 45)] H) (X' : (HK w.params).In H) (T' : Top topProg loose mean mg mb H) (F' : Fr H L h1 m) (hm : m "script" = some (.ref sc)) (hW : H.get? sc = some { cls := .type "list", data := .seq vs.toArray }) (hI : IntsAre vs ns) (hl : ns.length ≤ 63) (hL : 157 < L)
  (N' : News H L h1 (cells ++ [(157, tabObj #[]), (45, tabObj #[])])) (hc : CellsAre cm (cellsFrom (L + 1) scope.names []) cells) :
  wpAny (model prog w) (callerA.deeper (envOfC name scope L fa cd)) (execs body (envOfC name scope L fa cd))
   (fun f s' => f = .ret (.bool true) ∧ s'.gens = s1.gens ∧ s'.os = s1.os ∧ (∃ m', s'.heap.Ns L m') ∧ (∀ b o, H.get? b = some o → s'.heap.get? b = some o) ∧ (∃ q, s'.heap.get? 157 = some (tabObj q)) ∧ ∃ q, s'.heap.get? 45 = some (tabObj q)) (fun _ _ => False)
   { heap := h1, gens := s1.gens, drawn := s1.drawn, toks := tk1, os := s1.os } := by
 subst hb; subst hs
 exact join hH X' T' F' hm hW hI hl hL N' hc
theorem plain_of {P : Params} {h : Heap} {a : Addr} {vs : List Value} {ds : List WData} (w1 : Well P h (.ref a) (.list ds)) (hL : h.IsList a vs.toArray) : h.get? a = some { cls := .type "list", data := .seq vs.toArray } := by
 cases (w1) with
 | list e _ =>
  refine exG1_3 hL fun o h1 h2 r6 => ?_
  refine exG1_1 r6 fun n h3 => ?_
  rw [e] at h1; k_call_by "c" h1
  k_call_by "c" h3
  exact e
end Kk
end
section
set_option maxHeartbeats 8000000
open Kk in
theorem PySem.Challenge.cw_kk0045_02_holds : PySem.Challenge.rw_kk0045_02.Holds := by
 w_on
 refine holds_law said0 fun _ => ?_
 refine holds_open (q := QQ) (loose := loose0) (Xt := Xt0) (XP := XL QQ []) (Yf := Hook.obs (kmHook HK asL hkE [157, 45])) (Ya := Hook.val (kmHook HK asL hkE [157, 45])) (YP := Hook.says (kmHook HK asL hkE [157, 45])) (N := 3508) left0 (Hook.of (kmHook HK asL hkE [157, 45])) (Hook.keeps (kmHook HK asL hkE [157, 45])) (fun s e => xl_of s (Bool.and_eq_true_iff.mp e).1) XL.keeps (by rfl) (by rfl) (by rfl) (fun s e => recFacts_of (Bool.and_eq_true_iff.mp e).2) (by rfl) (by first | assumption | decide +kernel) (by decide +kernel) ⟨rfl, rfl, rfl, rfl, rfl, by decide +kernel⟩ ?hw ?hc
 case hw => w_witness2
 k_go0
 rename_i w s0 s1 mg mb G Y fa o pm cd doc ho hcd hg X V T B TE TW w12 hs hlay hL1 hr1 hl2 w11 w10 w9 w8 w7 hL ra w1 r0 hI hr hc1 hc2 hD h1 tk1 z6 z5 z4 z3 z2 z1 z0 L5 L4 L3 L2 L1 L0 R0 X0 X' T' K' F' cH N' l0
 clear G Y hcd X V T B TE TW hs hlay hL1 hr1 hl2 hr hD L5 L4 L3 L2 L1 L0 R0 K'
 have hW := ghost_get hT9 (Kk.plain_of w1 hL) (fun q => by k_call_by "c" q)
 refine wpAny_mono (Kk.join2 (sc := w9) (vs := w8) (ns := w12) (cells := [_, _, _, _, _, _, _]) (by kernel_rfl) (by kernel_rfl) ⟨cH, codeHd, trivial⟩ X' T' F' (by kernel_rfl) hW hI (by omega) l0.1 N' X0) ?_ ?_
 ·intro f s' q0q
  refine exG0_7 q0q fun r1 e1 e2 r2 e4 e5 e6 => ?_
  obtain rfl := r1
  obtain ⟨m', e3⟩ := r2
  refine ⟨goodW_bool (L := s1.heap.objs.size) (m := m') ⟨e3, e4, F'.above⟩ (e1.trans hg) (fun cls => rfl) ?_ e2, e5, e6, trivial⟩
  wrow_post
 ·intro e s' h; exact h.elim
end
