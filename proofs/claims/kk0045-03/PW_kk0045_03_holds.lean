import PyProof.Rows.All
import Wide.All
import OpenK.AllK
import Wide.FinOn
import PyProof.P3Eq
import PySem.Challenge.RW_kk0045_03
open PySem PySem.W PyProof.Rows PySem.Spec PySem.Calls
set_option Elab.async false
set_option linter.all false
set_option maxRecDepth 100000
set_option genSizeOf false
theorem Kk.nos {α : Type _} {a : α} {P : Prop} (h : none = some a) : P := nomatch h
theorem Kk.sno {α : Type _} {a : α} {P : Prop} (h : some a = none) : P := nomatch h
local macro_rules | `(tactic| k_call_by "c" $t) => `(tactic| first | exact Kk.nos $t | exact Kk.sno $t | induction ($t) | cases ($t))
section
namespace Kk
theorem exG0_2 {p0 p1 G : Prop} (h : p0 ∧ p1) (k : p0 → p1 → G) : G := k h.1 h.2
theorem exG0_3 {p0 p1 p2 G : Prop} (h : p0 ∧ p1 ∧ p2) (k : p0 → p1 → p2 → G) : G := k h.1 h.2.1 h.2.2
theorem exG0_4 {p0 p1 p2 p3 G : Prop} (h : p0 ∧ p1 ∧ p2 ∧ p3) (k : p0 → p1 → p2 → p3 → G) : G := k h.1 h.2.1 h.2.2.1 h.2.2.2
theorem exG0_5 {p0 p1 p2 p3 p4 G : Prop} (h : p0 ∧ p1 ∧ p2 ∧ p3 ∧ p4) (k : p0 → p1 → p2 → p3 → p4 → G) : G := k h.1 h.2.1 h.2.2.1 h.2.2.2.1 h.2.2.2.2
theorem exG0_6 {p0 p1 p2 p3 p4 p5 G : Prop} (h : p0 ∧ p1 ∧ p2 ∧ p3 ∧ p4 ∧ p5) (k : p0 → p1 → p2 → p3 → p4 → p5 → G) : G := k h.1 h.2.1 h.2.2.1 h.2.2.2.1 h.2.2.2.2.1 h.2.2.2.2.2
theorem exG0_7 {p0 p1 p2 p3 p4 p5 p6 G : Prop} (h : p0 ∧ p1 ∧ p2 ∧ p3 ∧ p4 ∧ p5 ∧ p6) (k : p0 → p1 → p2 → p3 → p4 → p5 → p6 → G) : G := k h.1 h.2.1 h.2.2.1 h.2.2.2.1 h.2.2.2.2.1 h.2.2.2.2.2.1 h.2.2.2.2.2.2
theorem exG1_1 {α0 : Sort _} {p0 : α0 → Prop} {G : Prop} (h : ∃ x0, p0 x0) (k : ∀ x0, p0 x0 → G) : G := h.elim fun x0 h => k x0 h
theorem exG1_2 {α0 : Sort _} {p0 p1 : α0 → Prop} {G : Prop} (h : ∃ x0, p0 x0 ∧ p1 x0) (k : ∀ x0, p0 x0 → p1 x0 → G) : G := h.elim fun x0 h => k x0 h.1 h.2
theorem exG1_3 {α0 : Sort _} {p0 p1 p2 : α0 → Prop} {G : Prop} (h : ∃ x0, p0 x0 ∧ p1 x0 ∧ p2 x0) (k : ∀ x0, p0 x0 → p1 x0 → p2 x0 → G) : G := h.elim fun x0 h => k x0 h.1 h.2.1 h.2.2
theorem exG1_4 {α0 : Sort _} {p0 p1 p2 p3 : α0 → Prop} {G : Prop} (h : ∃ x0, p0 x0 ∧ p1 x0 ∧ p2 x0 ∧ p3 x0) (k : ∀ x0, p0 x0 → p1 x0 → p2 x0 → p3 x0 → G) : G := h.elim fun x0 h => k x0 h.1 h.2.1 h.2.2.1 h.2.2.2
theorem exG1_5 {α0 : Sort _} {p0 p1 p2 p3 p4 : α0 → Prop} {G : Prop} (h : ∃ x0, p0 x0 ∧ p1 x0 ∧ p2 x0 ∧ p3 x0 ∧ p4 x0) (k : ∀ x0, p0 x0 → p1 x0 → p2 x0 → p3 x0 → p4 x0 → G) : G := h.elim fun x0 h => k x0 h.1 h.2.1 h.2.2.1 h.2.2.2.1 h.2.2.2.2
theorem exG2_1 {α0 α1 : Sort _} {p0 : α0 → α1 → Prop} {G : Prop} (h : ∃ x0 x1, p0 x0 x1) (k : ∀ x0 x1, p0 x0 x1 → G) : G := h.elim fun x0 h => h.elim fun x1 h => k x0 x1 h
theorem exG2_2 {α0 α1 : Sort _} {p0 p1 : α0 → α1 → Prop} {G : Prop} (h : ∃ x0 x1, p0 x0 x1 ∧ p1 x0 x1) (k : ∀ x0 x1, p0 x0 x1 → p1 x0 x1 → G) : G := h.elim fun x0 h => h.elim fun x1 h => k x0 x1 h.1 h.2
theorem exG2_3 {α0 α1 : Sort _} {p0 p1 p2 : α0 → α1 → Prop} {G : Prop} (h : ∃ x0 x1, p0 x0 x1 ∧ p1 x0 x1 ∧ p2 x0 x1) (k : ∀ x0 x1, p0 x0 x1 → p1 x0 x1 → p2 x0 x1 → G) : G := h.elim fun x0 h => h.elim fun x1 h => k x0 x1 h.1 h.2.1 h.2.2
theorem exG2_4 {α0 α1 : Sort _} {p0 p1 p2 p3 : α0 → α1 → Prop} {G : Prop} (h : ∃ x0 x1, p0 x0 x1 ∧ p1 x0 x1 ∧ p2 x0 x1 ∧ p3 x0 x1) (k : ∀ x0 x1, p0 x0 x1 → p1 x0 x1 → p2 x0 x1 → p3 x0 x1 → G) : G := h.elim fun x0 h => h.elim fun x1 h => k x0 x1 h.1 h.2.1 h.2.2.1 h.2.2.2
theorem exG2_5 {α0 α1 : Sort _} {p0 p1 p2 p3 p4 : α0 → α1 → Prop} {G : Prop} (h : ∃ x0 x1, p0 x0 x1 ∧ p1 x0 x1 ∧ p2 x0 x1 ∧ p3 x0 x1 ∧ p4 x0 x1) (k : ∀ x0 x1, p0 x0 x1 → p1 x0 x1 → p2 x0 x1 → p3 x0 x1 → p4 x0 x1 → G) : G := h.elim fun x0 h => h.elim fun x1 h => k x0 x1 h.1 h.2.1 h.2.2.1 h.2.2.2.1 h.2.2.2.2
theorem exG2_6 {α0 α1 : Sort _} {p0 p1 p2 p3 p4 p5 : α0 → α1 → Prop} {G : Prop} (h : ∃ x0 x1, p0 x0 x1 ∧ p1 x0 x1 ∧ p2 x0 x1 ∧ p3 x0 x1 ∧ p4 x0 x1 ∧ p5 x0 x1) (k : ∀ x0 x1, p0 x0 x1 → p1 x0 x1 → p2 x0 x1 → p3 x0 x1 → p4 x0 x1 → p5 x0 x1 → G) : G := h.elim fun x0 h => h.elim fun x1 h => k x0 x1 h.1 h.2.1 h.2.2.1 h.2.2.2.1 h.2.2.2.2.1 h.2.2.2.2.2
theorem exG2_7 {α0 α1 : Sort _} {p0 p1 p2 p3 p4 p5 p6 : α0 → α1 → Prop} {G : Prop} (h : ∃ x0 x1, p0 x0 x1 ∧ p1 x0 x1 ∧ p2 x0 x1 ∧ p3 x0 x1 ∧ p4 x0 x1 ∧ p5 x0 x1 ∧ p6 x0 x1) (k : ∀ x0 x1, p0 x0 x1 → p1 x0 x1 → p2 x0 x1 → p3 x0 x1 → p4 x0 x1 → p5 x0 x1 → p6 x0 x1 → G) : G := h.elim fun x0 h => h.elim fun x1 h => k x0 x1 h.1 h.2.1 h.2.2.1 h.2.2.2.1 h.2.2.2.2.1 h.2.2.2.2.2.1 h.2.2.2.2.2.2
theorem exG2_8 {α0 α1 : Sort _} {p0 p1 p2 p3 p4 p5 p6 p7 : α0 → α1 → Prop} {G : Prop} (h : ∃ x0 x1, p0 x0 x1 ∧ p1 x0 x1 ∧ p2 x0 x1 ∧ p3 x0 x1 ∧ p4 x0 x1 ∧ p5 x0 x1 ∧ p6 x0 x1 ∧ p7 x0 x1) (k : ∀ x0 x1, p0 x0 x1 → p1 x0 x1 → p2 x0 x1 → p3 x0 x1 → p4 x0 x1 → p5 x0 x1 → p6 x0 x1 → p7 x0 x1 → G) : G := h.elim fun x0 h => h.elim fun x1 h => k x0 x1 h.1 h.2.1 h.2.2.1 h.2.2.2.1 h.2.2.2.2.1 h.2.2.2.2.2.1 h.2.2.2.2.2.2.1 h.2.2.2.2.2.2.2
theorem exG3_2 {α0 α1 α2 : Sort _} {p0 p1 : α0 → α1 → α2 → Prop} {G : Prop} (h : ∃ x0 x1 x2, p0 x0 x1 x2 ∧ p1 x0 x1 x2) (k : ∀ x0 x1 x2, p0 x0 x1 x2 → p1 x0 x1 x2 → G) : G := h.elim fun x0 h => h.elim fun x1 h => h.elim fun x2 h => k x0 x1 x2 h.1 h.2
theorem exG3_3 {α0 α1 α2 : Sort _} {p0 p1 p2 : α0 → α1 → α2 → Prop} {G : Prop} (h : ∃ x0 x1 x2, p0 x0 x1 x2 ∧ p1 x0 x1 x2 ∧ p2 x0 x1 x2) (k : ∀ x0 x1 x2, p0 x0 x1 x2 → p1 x0 x1 x2 → p2 x0 x1 x2 → G) : G := h.elim fun x0 h => h.elim fun x1 h => h.elim fun x2 h => k x0 x1 x2 h.1 h.2.1 h.2.2
theorem exG3_4 {α0 α1 α2 : Sort _} {p0 p1 p2 p3 : α0 → α1 → α2 → Prop} {G : Prop} (h : ∃ x0 x1 x2, p0 x0 x1 x2 ∧ p1 x0 x1 x2 ∧ p2 x0 x1 x2 ∧ p3 x0 x1 x2) (k : ∀ x0 x1 x2, p0 x0 x1 x2 → p1 x0 x1 x2 → p2 x0 x1 x2 → p3 x0 x1 x2 → G) : G := h.elim fun x0 h => h.elim fun x1 h => h.elim fun x2 h => k x0 x1 x2 h.1 h.2.1 h.2.2.1 h.2.2.2
theorem exG3_5 {α0 α1 α2 : Sort _} {p0 p1 p2 p3 p4 : α0 → α1 → α2 → Prop} {G : Prop} (h : ∃ x0 x1 x2, p0 x0 x1 x2 ∧ p1 x0 x1 x2 ∧ p2 x0 x1 x2 ∧ p3 x0 x1 x2 ∧ p4 x0 x1 x2) (k : ∀ x0 x1 x2, p0 x0 x1 x2 → p1 x0 x1 x2 → p2 x0 x1 x2 → p3 x0 x1 x2 → p4 x0 x1 x2 → G) : G := h.elim fun x0 h => h.elim fun x1 h => h.elim fun x2 h => k x0 x1 x2 h.1 h.2.1 h.2.2.1 h.2.2.2.1 h.2.2.2.2
theorem exG3_6 {α0 α1 α2 : Sort _} {p0 p1 p2 p3 p4 p5 : α0 → α1 → α2 → Prop} {G : Prop} (h : ∃ x0 x1 x2, p0 x0 x1 x2 ∧ p1 x0 x1 x2 ∧ p2 x0 x1 x2 ∧ p3 x0 x1 x2 ∧ p4 x0 x1 x2 ∧ p5 x0 x1 x2) (k : ∀ x0 x1 x2, p0 x0 x1 x2 → p1 x0 x1 x2 → p2 x0 x1 x2 → p3 x0 x1 x2 → p4 x0 x1 x2 → p5 x0 x1 x2 → G) : G := h.elim fun x0 h => h.elim fun x1 h => h.elim fun x2 h => k x0 x1 x2 h.1 h.2.1 h.2.2.1 h.2.2.2.1 h.2.2.2.2.1 h.2.2.2.2.2
theorem exG3_7 {α0 α1 α2 : Sort _} {p0 p1 p2 p3 p4 p5 p6 : α0 → α1 → α2 → Prop} {G : Prop} (h : ∃ x0 x1 x2, p0 x0 x1 x2 ∧ p1 x0 x1 x2 ∧ p2 x0 x1 x2 ∧ p3 x0 x1 x2 ∧ p4 x0 x1 x2 ∧ p5 x0 x1 x2 ∧ p6 x0 x1 x2) (k : ∀ x0 x1 x2, p0 x0 x1 x2 → p1 x0 x1 x2 → p2 x0 x1 x2 → p3 x0 x1 x2 → p4 x0 x1 x2 → p5 x0 x1 x2 → p6 x0 x1 x2 → G) : G := h.elim fun x0 h => h.elim fun x1 h => h.elim fun x2 h => k x0 x1 x2 h.1 h.2.1 h.2.2.1 h.2.2.2.1 h.2.2.2.2.1 h.2.2.2.2.2.1 h.2.2.2.2.2.2
theorem exG3_8 {α0 α1 α2 : Sort _} {p0 p1 p2 p3 p4 p5 p6 p7 : α0 → α1 → α2 → Prop} {G : Prop} (h : ∃ x0 x1 x2, p0 x0 x1 x2 ∧ p1 x0 x1 x2 ∧ p2 x0 x1 x2 ∧ p3 x0 x1 x2 ∧ p4 x0 x1 x2 ∧ p5 x0 x1 x2 ∧ p6 x0 x1 x2 ∧ p7 x0 x1 x2) (k : ∀ x0 x1 x2, p0 x0 x1 x2 → p1 x0 x1 x2 → p2 x0 x1 x2 → p3 x0 x1 x2 → p4 x0 x1 x2 → p5 x0 x1 x2 → p6 x0 x1 x2 → p7 x0 x1 x2 → G) : G := h.elim fun x0 h => h.elim fun x1 h => h.elim fun x2 h => k x0 x1 x2 h.1 h.2.1 h.2.2.1 h.2.2.2.1 h.2.2.2.2.1 h.2.2.2.2.2.1 h.2.2.2.2.2.2.1 h.2.2.2.2.2.2.2
theorem exG4_4 {α0 α1 α2 α3 : Sort _} {p0 p1 p2 p3 : α0 → α1 → α2 → α3 → Prop} {G : Prop} (h : ∃ x0 x1 x2 x3, p0 x0 x1 x2 x3 ∧ p1 x0 x1 x2 x3 ∧ p2 x0 x1 x2 x3 ∧ p3 x0 x1 x2 x3) (k : ∀ x0 x1 x2 x3, p0 x0 x1 x2 x3 → p1 x0 x1 x2 x3 → p2 x0 x1 x2 x3 → p3 x0 x1 x2 x3 → G) : G := h.elim fun x0 h => h.elim fun x1 h => h.elim fun x2 h => h.elim fun x3 h => k x0 x1 x2 x3 h.1 h.2.1 h.2.2.1 h.2.2.2
theorem exG5_4 {α0 α1 α2 α3 α4 : Sort _} {p0 p1 p2 p3 : α0 → α1 → α2 → α3 → α4 → Prop} {G : Prop} (h : ∃ x0 x1 x2 x3 x4, p0 x0 x1 x2 x3 x4 ∧ p1 x0 x1 x2 x3 x4 ∧ p2 x0 x1 x2 x3 x4 ∧ p3 x0 x1 x2 x3 x4) (k : ∀ x0 x1 x2 x3 x4, p0 x0 x1 x2 x3 x4 → p1 x0 x1 x2 x3 x4 → p2 x0 x1 x2 x3 x4 → p3 x0 x1 x2 x3 x4 → G) : G := h.elim fun x0 h => h.elim fun x1 h => h.elim fun x2 h => h.elim fun x3 h => h.elim fun x4 h => k x0 x1 x2 x3 x4 h.1 h.2.1 h.2.2.1 h.2.2.2
theorem exG5_6 {α0 α1 α2 α3 α4 : Sort _} {p0 p1 p2 p3 p4 p5 : α0 → α1 → α2 → α3 → α4 → Prop} {G : Prop} (h : ∃ x0 x1 x2 x3 x4, p0 x0 x1 x2 x3 x4 ∧ p1 x0 x1 x2 x3 x4 ∧ p2 x0 x1 x2 x3 x4 ∧ p3 x0 x1 x2 x3 x4 ∧ p4 x0 x1 x2 x3 x4 ∧ p5 x0 x1 x2 x3 x4) (k : ∀ x0 x1 x2 x3 x4, p0 x0 x1 x2 x3 x4 → p1 x0 x1 x2 x3 x4 → p2 x0 x1 x2 x3 x4 → p3 x0 x1 x2 x3 x4 → p4 x0 x1 x2 x3 x4 → p5 x0 x1 x2 x3 x4 → G) : G := h.elim fun x0 h => h.elim fun x1 h => h.elim fun x2 h => h.elim fun x3 h => h.elim fun x4 h => k x0 x1 x2 x3 x4 h.1 h.2.1 h.2.2.1 h.2.2.2.1 h.2.2.2.2.1 h.2.2.2.2.2
theorem exG5_7 {α0 α1 α2 α3 α4 : Sort _} {p0 p1 p2 p3 p4 p5 p6 : α0 → α1 → α2 → α3 → α4 → Prop} {G : Prop} (h : ∃ x0 x1 x2 x3 x4, p0 x0 x1 x2 x3 x4 ∧ p1 x0 x1 x2 x3 x4 ∧ p2 x0 x1 x2 x3 x4 ∧ p3 x0 x1 x2 x3 x4 ∧ p4 x0 x1 x2 x3 x4 ∧ p5 x0 x1 x2 x3 x4 ∧ p6 x0 x1 x2 x3 x4) (k : ∀ x0 x1 x2 x3 x4, p0 x0 x1 x2 x3 x4 → p1 x0 x1 x2 x3 x4 → p2 x0 x1 x2 x3 x4 → p3 x0 x1 x2 x3 x4 → p4 x0 x1 x2 x3 x4 → p5 x0 x1 x2 x3 x4 → p6 x0 x1 x2 x3 x4 → G) : G := h.elim fun x0 h => h.elim fun x1 h => h.elim fun x2 h => h.elim fun x3 h => h.elim fun x4 h => k x0 x1 x2 x3 x4 h.1 h.2.1 h.2.2.1 h.2.2.2.1 h.2.2.2.2.1 h.2.2.2.2.2.1 h.2.2.2.2.2.2
theorem exG5_8 {α0 α1 α2 α3 α4 : Sort _} {p0 p1 p2 p3 p4 p5 p6 p7 : α0 → α1 → α2 → α3 → α4 → Prop} {G : Prop} (h : ∃ x0 x1 x2 x3 x4, p0 x0 x1 x2 x3 x4 ∧ p1 x0 x1 x2 x3 x4 ∧ p2 x0 x1 x2 x3 x4 ∧ p3 x0 x1 x2 x3 x4 ∧ p4 x0 x1 x2 x3 x4 ∧ p5 x0 x1 x2 x3 x4 ∧ p6 x0 x1 x2 x3 x4 ∧ p7 x0 x1 x2 x3 x4) (k : ∀ x0 x1 x2 x3 x4, p0 x0 x1 x2 x3 x4 → p1 x0 x1 x2 x3 x4 → p2 x0 x1 x2 x3 x4 → p3 x0 x1 x2 x3 x4 → p4 x0 x1 x2 x3 x4 → p5 x0 x1 x2 x3 x4 → p6 x0 x1 x2 x3 x4 → p7 x0 x1 x2 x3 x4 → G) : G := h.elim fun x0 h => h.elim fun x1 h => h.elim fun x2 h => h.elim fun x3 h => h.elim fun x4 h => k x0 x1 x2 x3 x4 h.1 h.2.1 h.2.2.1 h.2.2.2.1 h.2.2.2.2.1 h.2.2.2.2.2.1 h.2.2.2.2.2.2.1 h.2.2.2.2.2.2.2
theorem exG5_10 {α0 α1 α2 α3 α4 : Sort _} {p0 p1 p2 p3 p4 p5 p6 p7 p8 p9 : α0 → α1 → α2 → α3 → α4 → Prop} {G : Prop} (h : ∃ x0 x1 x2 x3 x4, p0 x0 x1 x2 x3 x4 ∧ p1 x0 x1 x2 x3 x4 ∧ p2 x0 x1 x2 x3 x4 ∧ p3 x0 x1 x2 x3 x4 ∧ p4 x0 x1 x2 x3 x4 ∧ p5 x0 x1 x2 x3 x4 ∧ p6 x0 x1 x2 x3 x4 ∧ p7 x0 x1 x2 x3 x4 ∧ p8 x0 x1 x2 x3 x4 ∧ p9 x0 x1 x2 x3 x4) (k : ∀ x0 x1 x2 x3 x4, p0 x0 x1 x2 x3 x4 → p1 x0 x1 x2 x3 x4 → p2 x0 x1 x2 x3 x4 → p3 x0 x1 x2 x3 x4 → p4 x0 x1 x2 x3 x4 → p5 x0 x1 x2 x3 x4 → p6 x0 x1 x2 x3 x4 → p7 x0 x1 x2 x3 x4 → p8 x0 x1 x2 x3 x4 → p9 x0 x1 x2 x3 x4 → G) : G := h.elim fun x0 h => h.elim fun x1 h => h.elim fun x2 h => h.elim fun x3 h => h.elim fun x4 h => k x0 x1 x2 x3 x4 h.1 h.2.1 h.2.2.1 h.2.2.2.1 h.2.2.2.2.1 h.2.2.2.2.2.1 h.2.2.2.2.2.2.1 h.2.2.2.2.2.2.2.1 h.2.2.2.2.2.2.2.2.1 h.2.2.2.2.2.2.2.2.2
theorem exG9_3 {α0 α1 α2 α3 α4 α5 α6 α7 α8 : Sort _} {p0 p1 p2 : α0 → α1 → α2 → α3 → α4 → α5 → α6 → α7 → α8 → Prop} {G : Prop} (h : ∃ x0 x1 x2 x3 x4 x5 x6 x7 x8, p0 x0 x1 x2 x3 x4 x5 x6 x7 x8 ∧ p1 x0 x1 x2 x3 x4 x5 x6 x7 x8 ∧ p2 x0 x1 x2 x3 x4 x5 x6 x7 x8) (k : ∀ x0 x1 x2 x3 x4 x5 x6 x7 x8, p0 x0 x1 x2 x3 x4 x5 x6 x7 x8 → p1 x0 x1 x2 x3 x4 x5 x6 x7 x8 → p2 x0 x1 x2 x3 x4 x5 x6 x7 x8 → G) : G := h.elim fun x0 h => h.elim fun x1 h => h.elim fun x2 h => h.elim fun x3 h => h.elim fun x4 h => h.elim fun x5 h => h.elim fun x6 h => h.elim fun x7 h => h.elim fun x8 h => k x0 x1 x2 x3 x4 x5 x6 x7 x8 h.1 h.2.1 h.2.2
theorem exG17_2 {α0 α1 α2 α3 α4 α5 α6 α7 α8 α9 α10 α11 α12 α13 α14 α15 α16 : Sort _} {p0 p1 : α0 → α1 → α2 → α3 → α4 → α5 → α6 → α7 → α8 → α9 → α10 → α11 → α12 → α13 → α14 → α15 → α16 → Prop} {G : Prop} (h : ∃ x0 x1 x2 x3 x4 x5 x6 x7 x8 x9 x10 x11 x12 x13 x14 x15 x16, p0 x0 x1 x2 x3 x4 x5 x6 x7 x8 x9 x10 x11 x12 x13 x14 x15 x16 ∧ p1 x0 x1 x2 x3 x4 x5 x6 x7 x8 x9 x10 x11 x12 x13 x14 x15 x16) (k : ∀ x0 x1 x2 x3 x4 x5 x6 x7 x8 x9 x10 x11 x12 x13 x14 x15 x16, p0 x0 x1 x2 x3 x4 x5 x6 x7 x8 x9 x10 x11 x12 x13 x14 x15 x16 → p1 x0 x1 x2 x3 x4 x5 x6 x7 x8 x9 x10 x11 x12 x13 x14 x15 x16 → G) : G := h.elim fun x0 h => h.elim fun x1 h => h.elim fun x2 h => h.elim fun x3 h => h.elim fun x4 h => h.elim fun x5 h => h.elim fun x6 h => h.elim fun x7 h => h.elim fun x8 h => h.elim fun x9 h => h.elim fun x10 h => h.elim fun x11 h => h.elim fun x12 h => h.elim fun x13 h => h.elim fun x14 h => h.elim fun x15 h => h.elim fun x16 h => k x0 x1 x2 x3 x4 x5 x6 x7 x8 x9 x10 x11 x12 x13 x14 x15 x16 h.1 h.2
end Kk
end
section
set_option maxHeartbeats 8000000
namespace Kk
noncomputable abbrev PP : Program := PySem.Challenge.rw_kk0045_03.row.toRowW.prog
noncomputable def digS : List Nat → List Stmt → Stmt
 | [], _ => .Pass default
 | i :: r, l => match r with
  | [] => l.getD i (.Pass default)
  | _ :: _ => digS r (match l.getD i (.Pass default) with | .FunctionDef _ _ b _ _ _ _ _ _ _ => b | .ClassDef _ _ _ b _ _ _ _ _ _ _ => b | _ => [])
noncomputable def fs (p : List Nat) : FuncData := match digS p PP.main.body with
 | .FunctionDef n a b _ _ _ s _ _ _ => { name := n, qualname := n, params := a, body := .stmts b, scope := s, globals := 3, closure := [], defaults := .none, kwdefaults := .none }
 | _ => default
noncomputable def kE (P : Params) (s : String) (t : Nat) (v : Value) : DictEntry := { hash := PyData.keyHash P (Str.ofString s), key := .str (Str.ofString s) t, val := v }
noncomputable def vS (s : String) (t : Nat) : Value := .str (Str.ofString s) t
noncomputable def tU (a : Array Value) : Obj := { cls := .type "tuple", data := .seq a }
noncomputable def cO (a : Array Value) : Obj := { cls := .type "code", data := .fields a }
noncomputable def fU (f : FuncData) : Obj := { cls := .type "function", data := .func f }
noncomputable def HK (P : Params) : Frag := (nat_lit 2, { cls := .none, data := .dict #[kE P "type.__subclasses__.Exception.0" 212 (.int 31 0), kE P "type.__subclasses__.Exception.n" 213 (.int 1 0)] 2 }) ::
(nat_lit 3, { cls := .type "dict", data := .dict #[kE P "__name__" 165 (vS "law_kk0045_03" 501), kE P "__doc__" 166 (.none), kE P "__package__" 167 (.none), kE P "__loader__" 168 (.builtin "__main__.__loader__#opaque"), kE P "__spec__" 169 (.none), kE P "__annotations__" 170 (.ref 6), kE P "__builtins__" 171 (.ref 4), kE P "__file__" 173 (vS "/claim/cut.py" 172), kE P "__cached__" 174 (.none), kE P "_wall" 193 (.ref 21), kE P "YaccError" 215 (.ref 31), kE P "Production" 306 (.ref 81), kE P "rightmost_terminal" 315 (.ref 92), kE P "GrammarError" 331 (.ref 102), kE P "Grammar" 499 (.ref 229), kE P "_name_aliases" 500 (.ref 234), kE P "_law_symbols" 508 (.ref 241), kE P "_law_deed" 521 (.ref 248), kE P "_law_refused" 530 (.ref 255), kE P "law" 536 (.ref 260)] 20 }) ::
(nat_lit 15, tU #[]) ::
(nat_lit 17, tU #[vS "k" 190]) ::
(nat_lit 18, tU #[]) ::
(nat_lit 20, cO #[vS "_wall" 187, vS "_wall" 188, vS "/claim/cut.py" 189, .int 1 0, .int 1 0, .int 0 0, .int 0 0, .int 3 0, .ref 15, .bool true, .int 181 0, .ref 16, .none, .ref 17, .ref 18, .ref 19, .int 191 0, .int 1 0, vS "/claim/cut.py" 192]) ::
(nat_lit 21, fU ({ fs [0] with qualname := "_wall", globals := 3, closure := [], defaults := .none, kwdefaults := .none, pyModule := vS "__main__" 164, code := .ref 20 })) ::
(nat_lit 22, tU #[.type "Exception"]) ::
(nat_lit 29, tU #[]) ::
(nat_lit 30, { cls := .type "dict", data := .dict #[kE P "__module__" 203 (vS "sly.yacc" 194), kE P "__firstlineno__" 207 (.int 5 206), kE P "__static_attributes__" 208 (.ref 29), kE P "__weakref__" 210 (.ref 32), kE P "__doc__" 211 (.none)] 3 }) ::
(nat_lit 31, { cls := .type "type", data := .cls { name := Str.ofString "YaccError", bases := [.type "Exception"], mro := [.ref 31, .type "Exception", .type "BaseException", .type "object"], ns := 30, qualname := Str.ofString "YaccError", subclasses := [.ref 102] }, slots := #[some (.ref 22), none, some (vS "YaccError" 196), some (vS "YaccError" 204), some (.builtin "Exception.__new__"), some (.bool true)] }) ::
(nat_lit 32, { cls := .type "getset_descriptor", data := .fields #[vS "__weakref__" 209, .ref 31, .builtin "ExceptionGroup.__weakref__", .none] }) ::
(nat_lit 35, tU #[.type "object"]) ::
(nat_lit 42, tU #[vS "right" 230, .int 0 231]) ::
(nat_lit 43, tU #[.ref 42, .none, vS "" 232, .int 0 233]) ::
(nat_lit 44, tU #[]) ::
(nat_lit 46, tU #[vS "self" 237, vS "number" 238, vS "name" 239, vS "prod" 240, vS "precedence" 241, vS "func" 242, vS "file" 243, vS "line" 244, vS "n" 245, vS "s" 246, vS "namecount" 247, vS "key" 248, vS "nameuse" 249, vS "namemap" 250, vS "index" 251, vS "k" 252, vS "alias" 253]) ::
(nat_lit 47, tU #[]) ::
(nat_lit 49, cO #[vS "__init__" 234, vS "Production.__init__" 235, vS "/claim/cut.py" 236, .int 10 0, .int 8 0, .int 0 0, .int 0 0, .int 3 0, .ref 44, .bool true, .int 181 0, .ref 45, .none, .ref 46, .ref 47, .ref 48, .int 254 0, .int 10 0, vS "/claim/cut.py" 255]) ::
(nat_lit 50, fU ({ fs [3,1] with qualname := "Production.__init__", globals := 3, closure := [], defaults := .ref 43, kwdefaults := .none, pyModule := vS "sly.yacc" 194, code := .ref 49 })) ::
(nat_lit 51, tU #[]) ::
(nat_lit 53, tU #[vS "self" 260, vS "s" 261]) ::
(nat_lit 54, tU #[]) ::
(nat_lit 56, cO #[vS "__str__" 257, vS "Production.__str__" 258, vS "/claim/cut.py" 259, .int 52 0, .int 1 0, .int 0 0, .int 0 0, .int 3 0, .ref 51, .bool true, .int 181 0, .ref 52, .none, .ref 53, .ref 54, .ref 55, .int 262 0, .int 52 0, vS "/claim/cut.py" 263]) ::
(nat_lit 57, fU ({ fs [3,2] with qualname := "Production.__str__", globals := 3, closure := [], defaults := .none, kwdefaults := .none, pyModule := vS "sly.yacc" 194, code := .ref 56 })) ::
(nat_lit 58, tU #[]) ::
(nat_lit 60, tU #[vS "self" 268]) ::
(nat_lit 61, tU #[]) ::
(nat_lit 63, cO #[vS "__repr__" 265, vS "Production.__repr__" 266, vS "/claim/cut.py" 267, .int 61 0, .int 1 0, .int 0 0, .int 0 0, .int 3 0, .ref 58, .bool true, .int 181 0, .ref 59, .none, .ref 60, .ref 61, .ref 62, .int 269 0, .int 61 0, vS "/claim/cut.py" 270]) ::
(nat_lit 64, fU ({ fs [3,3] with qualname := "Production.__repr__", globals := 3, closure := [], defaults := .none, kwdefaults := .none, pyModule := vS "sly.yacc" 194, code := .ref 63 })) ::
(nat_lit 65, tU #[]) ::
(nat_lit 67, tU #[vS "self" 275]) ::
(nat_lit 68, tU #[]) ::
(nat_lit 70, cO #[vS "__len__" 272, vS "Production.__len__" 273, vS "/claim/cut.py" 274, .int 64 0, .int 1 0, .int 0 0, .int 0 0, .int 3 0, .ref 65, .bool true, .int 181 0, .ref 66, .none, .ref 67, .ref 68, .ref 69, .int 276 0, .int 64 0, vS "/claim/cut.py" 277]) ::
(nat_lit 71, fU ({ fs [3,4] with qualname := "Production.__len__", globals := 3, closure := [], defaults := .none, kwdefaults := .none, pyModule := vS "sly.yacc" 194, code := .ref 70 })) ::
(nat_lit 72, tU #[]) ::
(nat_lit 74, tU #[vS "self" 282, vS "index" 283]) ::
(nat_lit 75, tU #[]) ::
(nat_lit 77, cO #[vS "__getitem__" 279, vS "Production.__getitem__" 280, vS "/claim/cut.py" 281, .int 67 0, .int 2 0, .int 0 0, .int 0 0, .int 3 0, .ref 72, .bool true, .int 181 0, .ref 73, .none, .ref 74, .ref 75, .ref 76, .int 284 0, .int 67 0, vS "/claim/cut.py" 285]) ::
(nat_lit 78, fU ({ fs [3,5] with qualname := "Production.__getitem__", globals := 3, closure := [], defaults := .none, kwdefaults := .none, pyModule := vS "sly.yacc" 194, code := .ref 77 })) ::
(nat_lit 79, tU #[vS "file" 287, vS "func" 288, vS "len" 289, vS "line" 290, vS "lr_items" 291, vS "lr_next" 292, vS "name" 293, vS "namemap" 294, vS "number" 295, vS "prec" 296, vS "prod" 297, vS "usyms" 298]) ::
(nat_lit 80, { cls := .type "dict", data := .dict #[kE P "__module__" 223 (vS "sly.yacc" 194), kE P "__firstlineno__" 227 (.int 7 226), kE P "reduced" 229 (.int 0 228), kE P "__init__" 256 (.ref 50), kE P "__str__" 264 (.ref 57), kE P "__repr__" 271 (.ref 64), kE P "__len__" 278 (.ref 71), kE P "__getitem__" 286 (.ref 78), kE P "__static_attributes__" 299 (.ref 79), kE P "__dict__" 301 (.ref 82), kE P "__weakref__" 303 (.ref 83), kE P "__doc__" 304 (.none)] 4 }) ::
(nat_lit 81, { cls := .type "type", data := .cls { name := Str.ofString "Production", bases := [.type "object"], mro := [.ref 81, .type "object"], ns := 80, qualname := Str.ofString "Production" }, slots := #[some (.ref 35), none, some (vS "Production" 216), some (vS "Production" 224), some (.builtin "object.__new__"), some (.bool true)] }) ::
(nat_lit 82, { cls := .type "getset_descriptor", data := .fields #[vS "__dict__" 300, .ref 81, .builtin "function.__dict__", .builtin "function.__dict__#set"] }) ::
(nat_lit 83, { cls := .type "getset_descriptor", data := .fields #[vS "__weakref__" 302, .ref 81, .builtin "ExceptionGroup.__weakref__", .none] }) ::
(nat_lit 86, tU #[]) ::
(nat_lit 88, tU #[vS "symbols" 310, vS "terminals" 311, vS "i" 312]) ::
(nat_lit 89, tU #[]) ::
(nat_lit 91, cO #[vS "rightmost_terminal" 307, vS "rightmost_terminal" 308, vS "/claim/cut.py" 309, .int 69 0, .int 2 0, .int 0 0, .int 0 0, .int 3 0, .ref 86, .bool true, .int 181 0, .ref 87, .none, .ref 88, .ref 89, .ref 90, .int 313 0, .int 69 0, vS "/claim/cut.py" 314]) ::
(nat_lit 92, fU ({ fs [4] with qualname := "rightmost_terminal", globals := 3, closure := [], defaults := .none, kwdefaults := .none, pyModule := vS "sly.yacc" 194, code := .ref 91 })) ::
(nat_lit 93, tU #[.ref 31]) ::
(nat_lit 100, tU #[]) ::
(nat_lit 101, { cls := .type "dict", data := .dict #[kE P "__module__" 323 (vS "sly.yacc" 194), kE P "__firstlineno__" 327 (.int 76 326), kE P "__static_attributes__" 328 (.ref 100), kE P "__doc__" 329 (.none)] 2 }) ::
(nat_lit 102, { cls := .type "type", data := .cls { name := Str.ofString "GrammarError", bases := [.ref 31], mro := [.ref 102, .ref 31, .type "Exception", .type "BaseException", .type "object"], ns := 101, qualname := Str.ofString "GrammarError" }, slots := #[some (.ref 93), none, some (vS "GrammarError" 316), some (vS "GrammarError" 324), some (.builtin "Exception.__new__"), some (.bool true)] }) ::
(nat_lit 105, tU #[.type "object"]) ::
(nat_lit 112, tU #[]) ::
(nat_lit 114, tU #[vS "self" 347, vS "terminals" 348, vS "term" 349]) ::
(nat_lit 115, tU #[]) ::
(nat_lit 117, cO #[vS "__init__" 344, vS "Grammar.__init__" 345, vS "/claim/cut.py" 346, .int 80 0, .int 2 0, .int 0 0, .int 0 0, .int 3 0, .ref 112, .bool true, .int 181 0, .ref 113, .none, .ref 114, .ref 115, .ref 116, .int 350 0, .int 80 0, vS "/claim/cut.py" 351]) ::
(nat_lit 118, fU ({ fs [6,0] with qualname := "Grammar.__init__", globals := 3, closure := [], defaults := .none, kwdefaults := .none, pyModule := vS "sly.yacc" 194, code := .ref 117 })) ::
(nat_lit 119, tU #[]) ::
(nat_lit 121, tU #[vS "self" 356]) ::
(nat_lit 122, tU #[]) ::
(nat_lit 124, cO #[vS "__len__" 353, vS "Grammar.__len__" 354, vS "/claim/cut.py" 355, .int 95 0, .int 1 0, .int 0 0, .int 0 0, .int 3 0, .ref 119, .bool true, .int 181 0, .ref 120, .none, .ref 121, .ref 122, .ref 123, .int 357 0, .int 95 0, vS "/claim/cut.py" 358]) ::
(nat_lit 125, fU ({ fs [6,1] with qualname := "Grammar.__len__", globals := 3, closure := [], defaults := .none, kwdefaults := .none, pyModule := vS "sly.yacc" 194, code := .ref 124 })) ::
(nat_lit 126, tU #[]) ::
(nat_lit 128, tU #[vS "self" 363, vS "index" 364]) ::
(nat_lit 129, tU #[]) ::
(nat_lit 131, cO #[vS "__getitem__" 360, vS "Grammar.__getitem__" 361, vS "/claim/cut.py" 362, .int 98 0, .int 2 0, .int 0 0, .int 0 0, .int 3 0, .ref 126, .bool true, .int 181 0, .ref 127, .none, .ref 128, .ref 129, .ref 130, .int 365 0, .int 98 0, vS "/claim/cut.py" 366]) ::
(nat_lit 132, fU ({ fs [6,2] with qualname := "Grammar.__getitem__", globals := 3, closure := [], defaults := .none, kwdefaults := .none, pyModule := vS "sly.yacc" 194, code := .ref 131 })) ::
(nat_lit 133, tU #[]) ::
(nat_lit 135, tU #[vS "self" 371, vS "term" 372, vS "assoc" 373, vS "level" 374]) ::
(nat_lit 136, tU #[]) ::
(nat_lit 138, cO #[vS "set_precedence" 368, vS "Grammar.set_precedence" 369, vS "/claim/cut.py" 370, .int 101 0, .int 4 0, .int 0 0, .int 0 0, .int 3 0, .ref 133, .bool true, .int 181 0, .ref 134, .none, .ref 135, .ref 136, .ref 137, .int 375 0, .int 101 0, vS "/claim/cut.py" 376]) ::
(nat_lit 139, fU ({ fs [6,3] with qualname := "Grammar.set_precedence", globals := 3, closure := [], defaults := .none, kwdefaults := .none, pyModule := vS "sly.yacc" 194, code := .ref 138 })) ::
(nat_lit 140, tU #[.none, vS "" 378, .int 0 379]) ::
(nat_lit 141, tU #[]) ::
(nat_lit 143, tU #[vS "self" 383, vS "prodname" 384, vS "syms" 385, vS "func" 386, vS "file" 387, vS "line" 388, vS "n" 389, vS "s" 390, vS "c" 391, vS "precname" 392, vS "prodprec" 393, vS "map" 394, vS "m" 395, vS "pnumber" 396, vS "t" 397, vS "p" 398]) ::
(nat_lit 144, tU #[]) ::
(nat_lit 146, cO #[vS "add_production" 380, vS "Grammar.add_production" 381, vS "/claim/cut.py" 382, .int 109 0, .int 6 0, .int 0 0, .int 0 0, .int 3 0, .ref 141, .bool true, .int 181 0, .ref 142, .none, .ref 143, .ref 144, .ref 145, .int 399 0, .int 109 0, vS "/claim/cut.py" 400]) ::
(nat_lit 147, fU ({ fs [6,4] with qualname := "Grammar.add_production", globals := 3, closure := [], defaults := .ref 140, kwdefaults := .none, pyModule := vS "sly.yacc" 194, code := .ref 146 })) ::
(nat_lit 148, tU #[.none]) ::
(nat_lit 149, tU #[]) ::
(nat_lit 151, tU #[vS "self" 405, vS "start" 406]) ::
(nat_lit 152, tU #[]) ::
(nat_lit 154, cO #[vS "set_start" 402, vS "Grammar.set_start" 403, vS "/claim/cut.py" 404, .int 160 0, .int 2 0, .int 0 0, .int 0 0, .int 3 0, .ref 149, .bool true, .int 181 0, .ref 150, .none, .ref 151, .ref 152, .ref 153, .int 407 0, .int 160 0, vS "/claim/cut.py" 408]) ::
(nat_lit 155, fU ({ fs [6,5] with qualname := "Grammar.set_start", globals := 3, closure := [], defaults := .ref 148, kwdefaults := .none, pyModule := vS "sly.yacc" 194, code := .ref 154 })) ::
(nat_lit 156, tU #[]) ::
(nat_lit 158, tU #[vS "self" 413]) ::
(nat_lit 159, tU #[]) ::
(nat_lit 161, cO #[vS "find_unreachable" 410, vS "Grammar.find_unreachable" 411, vS "/claim/cut.py" 412, .int 169 0, .int 1 0, .int 0 0, .int 0 0, .int 3 0, .ref 156, .bool true, .int 181 0, .ref 157, .none, .ref 158, .ref 159, .ref 160, .int 414 0, .int 169 0, vS "/claim/cut.py" 415]) ::
(nat_lit 162, fU ({ fs [6,6] with qualname := "Grammar.find_unreachable", globals := 3, closure := [], defaults := .none, kwdefaults := .none, pyModule := vS "sly.yacc" 194, code := .ref 161 })) ::
(nat_lit 163, tU #[]) ::
(nat_lit 165, tU #[vS "self" 420]) ::
(nat_lit 166, tU #[]) ::
(nat_lit 168, cO #[vS "infinite_cycles" 417, vS "Grammar.infinite_cycles" 418, vS "/claim/cut.py" 419, .int 172 0, .int 1 0, .int 0 0, .int 0 0, .int 3 0, .ref 163, .bool true, .int 181 0, .ref 164, .none, .ref 165, .ref 166, .ref 167, .int 421 0, .int 172 0, vS "/claim/cut.py" 422]) ::
(nat_lit 169, fU ({ fs [6,7] with qualname := "Grammar.infinite_cycles", globals := 3, closure := [], defaults := .none, kwdefaults := .none, pyModule := vS "sly.yacc" 194, code := .ref 168 })) ::
(nat_lit 170, tU #[]) ::
(nat_lit 172, tU #[vS "self" 427]) ::
(nat_lit 173, tU #[]) ::
(nat_lit 175, cO #[vS "undefined_symbols" 424, vS "Grammar.undefined_symbols" 425, vS "/claim/cut.py" 426, .int 175 0, .int 1 0, .int 0 0, .int 0 0, .int 3 0, .ref 170, .bool true, .int 181 0, .ref 171, .none, .ref 172, .ref 173, .ref 174, .int 428 0, .int 175 0, vS "/claim/cut.py" 429]) ::
(nat_lit 176, fU ({ fs [6,8] with qualname := "Grammar.undefined_symbols", globals := 3, closure := [], defaults := .none, kwdefaults := .none, pyModule := vS "sly.yacc" 194, code := .ref 175 })) ::
(nat_lit 177, tU #[]) ::
(nat_lit 179, tU #[vS "self" 434]) ::
(nat_lit 180, tU #[]) ::
(nat_lit 182, cO #[vS "unused_terminals" 431, vS "Grammar.unused_terminals" 432, vS "/claim/cut.py" 433, .int 178 0, .int 1 0, .int 0 0, .int 0 0, .int 3 0, .ref 177, .bool true, .int 181 0, .ref 178, .none, .ref 179, .ref 180, .ref 181, .int 435 0, .int 178 0, vS "/claim/cut.py" 436]) ::
(nat_lit 183, fU ({ fs [6,9] with qualname := "Grammar.unused_terminals", globals := 3, closure := [], defaults := .none, kwdefaults := .none, pyModule := vS "sly.yacc" 194, code := .ref 182 })) ::
(nat_lit 184, tU #[]) ::
(nat_lit 186, tU #[vS "self" 441]) ::
(nat_lit 187, tU #[]) ::
(nat_lit 189, cO #[vS "unused_rules" 438, vS "Grammar.unused_rules" 439, vS "/claim/cut.py" 440, .int 181 0, .int 1 0, .int 0 0, .int 0 0, .int 3 0, .ref 184, .bool true, .int 181 0, .ref 185, .none, .ref 186, .ref 187, .ref 188, .int 442 0, .int 181 0, vS "/claim/cut.py" 443]) ::
(nat_lit 190, fU ({ fs [6,10] with qualname := "Grammar.unused_rules", globals := 3, closure := [], defaults := .none, kwdefaults := .none, pyModule := vS "sly.yacc" 194, code := .ref 189 })) ::
(nat_lit 191, tU #[]) ::
(nat_lit 193, tU #[vS "self" 448]) ::
(nat_lit 194, tU #[]) ::
(nat_lit 196, cO #[vS "unused_precedence" 445, vS "Grammar.unused_precedence" 446, vS "/claim/cut.py" 447, .int 184 0, .int 1 0, .int 0 0, .int 0 0, .int 3 0, .ref 191, .bool true, .int 181 0, .ref 192, .none, .ref 193, .ref 194, .ref 195, .int 449 0, .int 184 0, vS "/claim/cut.py" 450]) ::
(nat_lit 197, fU ({ fs [6,11] with qualname := "Grammar.unused_precedence", globals := 3, closure := [], defaults := .none, kwdefaults := .none, pyModule := vS "sly.yacc" 194, code := .ref 196 })) ::
(nat_lit 198, tU #[]) ::
(nat_lit 200, tU #[vS "self" 455, vS "beta" 456]) ::
(nat_lit 201, tU #[]) ::
(nat_lit 203, cO #[vS "_first" 452, vS "Grammar._first" 453, vS "/claim/cut.py" 454, .int 187 0, .int 2 0, .int 0 0, .int 0 0, .int 3 0, .ref 198, .bool true, .int 181 0, .ref 199, .none, .ref 200, .ref 201, .ref 202, .int 457 0, .int 187 0, vS "/claim/cut.py" 458]) ::
(nat_lit 204, fU ({ fs [6,12] with qualname := "Grammar._first", globals := 3, closure := [], defaults := .none, kwdefaults := .none, pyModule := vS "sly.yacc" 194, code := .ref 203 })) ::
(nat_lit 205, tU #[]) ::
(nat_lit 207, tU #[vS "self" 463]) ::
(nat_lit 208, tU #[]) ::
(nat_lit 210, cO #[vS "compute_first" 460, vS "Grammar.compute_first" 461, vS "/claim/cut.py" 462, .int 190 0, .int 1 0, .int 0 0, .int 0 0, .int 3 0, .ref 205, .bool true, .int 181 0, .ref 206, .none, .ref 207, .ref 208, .ref 209, .int 464 0, .int 190 0, vS "/claim/cut.py" 465]) ::
(nat_lit 211, fU ({ fs [6,13] with qualname := "Grammar.compute_first", globals := 3, closure := [], defaults := .none, kwdefaults := .none, pyModule := vS "sly.yacc" 194, code := .ref 210 })) ::
(nat_lit 212, tU #[.none]) ::
(nat_lit 213, tU #[]) ::
(nat_lit 215, tU #[vS "self" 470, vS "start" 471]) ::
(nat_lit 216, tU #[]) ::
(nat_lit 218, cO #[vS "compute_follow" 467, vS "Grammar.compute_follow" 468, vS "/claim/cut.py" 469, .int 193 0, .int 2 0, .int 0 0, .int 0 0, .int 3 0, .ref 213, .bool true, .int 181 0, .ref 214, .none, .ref 215, .ref 216, .ref 217, .int 472 0, .int 193 0, vS "/claim/cut.py" 473]) ::
(nat_lit 219, fU ({ fs [6,14] with qualname := "Grammar.compute_follow", globals := 3, closure := [], defaults := .ref 212, kwdefaults := .none, pyModule := vS "sly.yacc" 194, code := .ref 218 })) ::
(nat_lit 220, tU #[]) ::
(nat_lit 222, tU #[vS "self" 478]) ::
(nat_lit 223, tU #[]) ::
(nat_lit 225, cO #[vS "build_lritems" 475, vS "Grammar.build_lritems" 476, vS "/claim/cut.py" 477, .int 196 0, .int 1 0, .int 0 0, .int 0 0, .int 3 0, .ref 220, .bool true, .int 181 0, .ref 221, .none, .ref 222, .ref 223, .ref 224, .int 479 0, .int 196 0, vS "/claim/cut.py" 480]) ::
(nat_lit 226, fU ({ fs [6,15] with qualname := "Grammar.build_lritems", globals := 3, closure := [], defaults := .none, kwdefaults := .none, pyModule := vS "sly.yacc" 194, code := .ref 225 })) ::
(nat_lit 227, tU #[vS "First" 482, vS "Follow" 483, vS "Nonterminals" 484, vS "Precedence" 485, vS "Prodmap" 486, vS "Prodnames" 487, vS "Productions" 488, vS "Start" 489, vS "Terminals" 490, vS "UsedPrecedence" 491]) ::
(nat_lit 228, { cls := .type "dict", data := .dict #[kE P "__module__" 339 (vS "sly.yacc" 194), kE P "__firstlineno__" 343 (.int 78 342), kE P "__init__" 352 (.ref 118), kE P "__len__" 359 (.ref 125), kE P "__getitem__" 367 (.ref 132), kE P "set_precedence" 377 (.ref 139), kE P "add_production" 401 (.ref 147), kE P "set_start" 409 (.ref 155), kE P "find_unreachable" 416 (.ref 162), kE P "infinite_cycles" 423 (.ref 169), kE P "undefined_symbols" 430 (.ref 176), kE P "unused_terminals" 437 (.ref 183), kE P "unused_rules" 444 (.ref 190), kE P "unused_precedence" 451 (.ref 197), kE P "_first" 459 (.ref 204), kE P "compute_first" 466 (.ref 211), kE P "compute_follow" 474 (.ref 219), kE P "build_lritems" 481 (.ref 226), kE P "__static_attributes__" 492 (.ref 227), kE P "__dict__" 494 (.ref 230), kE P "__weakref__" 496 (.ref 231), kE P "__doc__" 497 (.none)] 4 }) ::
(nat_lit 229, { cls := .type "type", data := .cls { name := Str.ofString "Grammar", bases := [.type "object"], mro := [.ref 229, .type "object"], ns := 228, qualname := Str.ofString "Grammar" }, slots := #[some (.ref 105), none, some (vS "Grammar" 332), some (vS "Grammar" 340), some (.builtin "object.__new__"), some (.bool true)] }) ::
(nat_lit 230, { cls := .type "getset_descriptor", data := .fields #[vS "__dict__" 493, .ref 229, .builtin "function.__dict__", .builtin "function.__dict__#set"] }) ::
(nat_lit 231, { cls := .type "getset_descriptor", data := .fields #[vS "__weakref__" 495, .ref 229, .builtin "ExceptionGroup.__weakref__", .none] }) ::
(nat_lit 234, { cls := .type "dict", data := .dict #[] }) ::
(nat_lit 235, tU #[]) ::
(nat_lit 237, tU #[]) ::
(nat_lit 238, tU #[]) ::
(nat_lit 240, cO #[vS "_law_symbols" 503, vS "_law_symbols" 504, vS "/claim/cut.py" 505, .int 200 0, .int 0 0, .int 0 0, .int 0 0, .int 3 0, .ref 235, .bool true, .int 181 0, .ref 236, .none, .ref 237, .ref 238, .ref 239, .int 506 0, .int 200 0, vS "/claim/cut.py" 507]) ::
(nat_lit 241, fU ({ fs [9] with qualname := "_law_symbols", globals := 3, closure := [], defaults := .none, kwdefaults := .none, pyModule := vS "law_kk0045_03" 501, code := .ref 240 })) ::
(nat_lit 242, tU #[]) ::
(nat_lit 244, tU #[vS "number" 512, vS "kind" 513, vS "rest" 514, vS "name" 515, vS "symbols" 516, vS "more" 517, vS "k" 518]) ::
(nat_lit 245, tU #[]) ::
(nat_lit 247, cO #[vS "_law_deed" 509, vS "_law_deed" 510, vS "/claim/cut.py" 511, .int 202 0, .int 1 0, .int 0 0, .int 0 0, .int 3 0, .ref 242, .bool true, .int 181 0, .ref 243, .none, .ref 244, .ref 245, .ref 246, .int 519 0, .int 202 0, vS "/claim/cut.py" 520]) ::
(nat_lit 248, fU ({ fs [10] with qualname := "_law_deed", globals := 3, closure := [], defaults := .none, kwdefaults := .none, pyModule := vS "law_kk0045_03" 501, code := .ref 247 })) ::
(nat_lit 249, tU #[]) ::
(nat_lit 251, tU #[vS "grammar" 525, vS "term" 526, vS "side" 527]) ::
(nat_lit 252, tU #[]) ::
(nat_lit 254, cO #[vS "_law_refused" 522, vS "_law_refused" 523, vS "/claim/cut.py" 524, .int 221 0, .int 3 0, .int 0 0, .int 0 0, .int 3 0, .ref 249, .bool true, .int 181 0, .ref 250, .none, .ref 251, .ref 252, .ref 253, .int 528 0, .int 221 0, vS "/claim/cut.py" 529]) ::
(nat_lit 255, fU ({ fs [11] with qualname := "_law_refused", globals := 3, closure := [], defaults := .none, kwdefaults := .none, pyModule := vS "law_kk0045_03" 501, code := .ref 254 })) ::
(nat_lit 256, tU #[]) ::
(nat_lit 259, cO #[vS "law" 531, vS "law" 532, vS "/claim/cut.py" 533, .int 227 0, .int 1 0, .int 0 0, .int 0 0, .int 3 0, .ref 256, .bool true, .int 181 0, .ref 257, .none, .none, .none, .ref 258, .int 534 0, .int 227 0, vS "/claim/cut.py" 535]) ::
(nat_lit 260, fU ({ fs [12] with qualname := "law", globals := 3, closure := [], defaults := .none, kwdefaults := .none, pyModule := vS "law_kk0045_03" 501, code := .ref 259 })) :: []
noncomputable def asL : List Addr := [2, 3, 15, 17, 18, 20, 21, 22, 29, 30, 31, 32, 35, 42, 43, 44, 46, 47, 49, 50, 51, 53, 54, 56, 57, 58, 60, 61, 63, 64, 65, 67, 68, 70, 71, 72, 74, 75, 77, 78, 79, 80, 81, 82, 83, 86, 88, 89, 91, 92, 93, 100, 101, 102, 105, 112, 114, 115, 117, 118, 119, 121, 122, 124, 125, 126, 128, 129, 131, 132, 133, 135, 136, 138, 139, 140, 141, 143, 144, 146, 147, 148, 149, 151, 152, 154, 155, 156, 158, 159, 161, 162, 163, 165, 166, 168, 169, 170, 172, 173, 175, 176, 177, 179, 180, 182, 183, 184, 186, 187, 189, 190, 191, 193, 194, 196, 197, 198, 200, 201, 203, 204, 205, 207, 208, 210, 211, 212, 213, 215, 216, 218, 219, 220, 222, 223, 225, 226, 227, 228, 229, 230, 231, 234, 235, 237, 238, 240, 241, 242, 244, 245, 247, 248, 249, 251, 252, 254, 255, 256, 259, 260]
theorem hkE (P : Params) : asL = (HK P).map (·.1) := by kernel_rfl
noncomputable abbrev HKh : Hook := kmHook HK asL hkE [45]
noncomputable abbrev loose0 : List Str := [Str.ofString "Production", Str.ofString "Grammar", Str.ofString "_name_aliases"]
noncomputable def QQ : Program := { PP with main := { PP.main with body := (PP.main.body.eraseIdx 8).eraseIdx 1 } }
noncomputable def hp46 (P : Params) : Heap := { objs := ⟨[boot_o_0 P, boot_o_1 P, boot_o_2 P, boot_o_3 P, boot_o_4 P, boot_o_5 P, boot_o_6 P, boot_o_7 P, boot_o_8 P, boot_o_9 P, boot_o_10 P, tU #[], { cls := .none, data := .fields #[] },
 cO #[vS "<module>" 182, vS "<module>" 183, vS "/claim/cut.py" 184, .int 1 0, .int 0 0, .int 0 0, .int 0 0, .int 0 0, .ref 11, .bool false, .int 181 0, .ref 12, .none, .none, .none, .none, .int 185 0, .int 1 0, vS "/claim/cut.py" 186],
 { cls := .type "frame", slots := #[some (.ref 13), some (.ref 3), some (.ref 3), none, some (vS "__main__" 164), none, some (.ref 0)] }]⟩ }
noncomputable def ob46 (P : Params) (i : Nat) : Obj := (hp46 P).objs.toList.getD i default
noncomputable def tr47 (P : Params) : BT :=
 .node (boot_o_0 P) (.node (boot_o_1 P) (.node (boot_o_3 P) (.node (boot_o_7 P) .nil .nil) (.node (ob46 P 11) .nil .nil)) (.node (boot_o_5 P) (.node (boot_o_9 P) .nil .nil) (.node (ob46 P 13) .nil .nil)))
  (.node (boot_o_2 P) (.node (boot_o_4 P) (.node (boot_o_8 P) .nil .nil) (.node (ob46 P 12) .nil .nil)) (.node (boot_o_6 P) (.node (boot_o_10 P) .nil .nil) (.node (ob46 P 14) .nil .nil)))
noncomputable abbrev env0 : Env := { scope := PP.main.scope, locals := mainNs, globals := mainNs, cells := [], code := .ref 13, frame := some 14 }
noncomputable abbrev p0 : Pos := ⟨0, 0, 0, 0⟩
noncomputable abbrev pE : Pos := ⟨227, 0, 284, 15⟩
noncomputable abbrev code0 : Code := .body (behindTheImports PP) env0
noncomputable abbrev sb (w : World) (os : OsState) : Shared := ⟨boot_heap w.params, Array.mk [], boot_drawn, boot_toks, os⟩
noncomputable abbrev s46 (w : World) (os : OsState) : Shared := { heap := hp46 w.params, toks := 187, os := os }
noncomputable abbrev s47 (w : World) (os : OsState) : SharedT := { tree := tr47 w.params, n := 15, life := {}, gens := #[], drawn := {}, toks := 187, os := os }
theorem left_gen {p q : Program} {loose : List Str} {Xt : Shared → Bool} {α : Type} {Yf : Shared → α} {Ya : World → α} {N n1 n2 n3 : Nat} {H0 : Params → Heap} {d0 : Drawn} {k0 m0 : Nat} {an : Option Value} {env : Env} {cd : Code} {pa pz : Pos} {l : List Stmt} {s46 : World → OsState → Shared} {s47 : World → OsState → SharedT}
  (lk : World → Shared → Bool × _ × α) (hlk : lk = fun w s => ((staticsOk (importedModules p.main.body) (H0 w.params) s.heap && namesBound p s.heap && gensDone s && laidKept (H0 w.params) s.heap), openSeen q loose (importedModules p.main.body) Xt true s, Yf s))
  (op : ∀ w : World, (fencedOpening treeTable p w N).map (fun s => (s.heap, s.gens, s.drawn, s.toks)) = some (H0 w.params, Array.mk [], d0, k0))
  (z1 : ∀ w : World, ((H0 w.params).isNs mainGlobals && (Array.mk [] : Array GenState).size == 0) = true) (z2 : ∀ w : World, (H0 w.params).objs.size = m0) (z3 : ∀ w : World, (H0 w.params).nsMap mainGlobals (Str.ofString "__annotations__") = an)
  (pre : ∀ (w : World) (os : OsState), topGo treeTable p w m0 an n1 ⟨H0 w.params, Array.mk [], d0, k0, os⟩ (topStub p) = some (s46 w os, ⟨denote treeTable (.body l env), cd, pa, [topFrame pa]⟩))
  (blk : ∀ (w : World) (os : OsState), segRun treeTable p w m0 an 1 n2 (s46 w os) (blockOf l env cd pa [topFrame pa]) = some (.next, (s47 w os).abs, cd, pa))
  (mn : ∀ w : World, (fun os => (segRunT treeTable p w m0 an 1 n3 (s47 w os) (piecesOf l env cd pa [topFrame pa])).map (fun x => (x.1, x.2.2.1, x.2.2.2, (topRun treeTable p w m0 an 2 x.2.1.abs ⟨doneF .next, cd, pz, [topFrame pa]⟩).map (lk w)))) =
   fun os => some (.next, cd, pz, some (true, openGood q loose, Ya w)))
  (hN : Nat.ble (n1 + (n2 + (n3 + 2))) N = true) : LeftO p q loose Xt Yf Ya N true := fun w => by
 refine exG1_2 (Option.map_eq_some_iff.mp (op w)) fun r1 e e' => ?_
 obtain ⟨h, gs, d, k, os⟩ := r1
 obtain ⟨rfl, rfl, rfl, rfl⟩ : h = H0 w.params ∧ gs = Array.mk [] ∧ d = d0 ∧ k = k0 := by simpa using e'
 refine exG1_2 (Option.map_eq_some_iff.mp (congrFun (mn w) os)) fun r2 hx hy => ?_
 obtain ⟨f, S, c, pp⟩ := r2
 injection hy with hy1 hy2
 injection hy2 with hy2 hy3
 injection hy3 with hy3 hy4
 dsimp only at hy1 hy2 hy3 hy4
 subst hy1; subst hy2; subst hy3
 refine exG1_2 (Option.map_eq_some_iff.mp hy4) fun s2 hs2 hl => ?_
 have hk : topRun treeTable p w m0 an (n3 + 2) (s47 w os).abs (restOf (l ++ []) env c pa [topFrame pa]) = some s2 := piece_app (segRun_of hx) hs2
 rw [List.append_nil] at hk
 have r := topRun_mono (N - (n1 + (n2 + (n3 + 2)))) _ _ _ _ (go_top (pre w os) (piece_block (blk w os) hk))
 rw [show n1 + (n2 + (n3 + 2)) + (N - (n1 + (n2 + (n3 + 2)))) = N by have := Nat.le_of_ble_eq_true hN; omega] at r
 subst hlk
 injection hl with l1 l2
 have t : topFrom treeTable p w N ⟨H0 w.params, Array.mk [], d, k, os⟩ = some s2 := by
  unfold topFrom
  dsimp only
  rw [z1, z2, z3, r]
  show (match staticsOk (importedModules p.main.body) (H0 w.params) s2.heap && namesBound p s2.heap && gensDone s2 && laidKept (H0 w.params) s2.heap with | true => _ | false => _) = _
  rw [l1]
 unfold openEnds
 rw [e]
 show (topFrom treeTable p w N _).map _ = _
 rw [t]
 exact congrArg some l2
theorem pre0 (w : World) (os : OsState) : topGo treeTable PP w 11 (some (.ref 6)) 12 (sb w os) (topStub PP) = some (s46 w os, ⟨denote treeTable code0, code0, p0, [topFrame p0]⟩) := by
 rewrite [PySem.W.Fast.te15667345088766844465, PySem.W.Fast.te11892475500146522536, PySem.W.Fast.te14364793385576792824]
 kernel_rfl
theorem blk0 (w : World) (os : OsState) : segRun treeTable PP w 11 (some (.ref 6)) 1 1 (s46 w os) (blockOf (behindTheImports PP) env0 code0 p0 [topFrame p0]) = some (.next, (s47 w os).abs, code0, p0) := by
 rewrite [PySem.W.Fast.te14374325043358763698, PySem.W.Fast.te14364793385576792824]
 kernel_rfl
noncomputable def Xt0 (s : Shared) : Bool := xlAt QQ [] s && recOk PySem.Challenge.rw_kk0045_03.row.records s
noncomputable def looks0 (w : World) (s : Shared) := ((staticsOk (importedModules PP.main.body) (boot_heap w.params) s.heap && namesBound PP s.heap && gensDone s && laidKept (boot_heap w.params) s.heap), openSeen QQ loose0 (importedModules PP.main.body) Xt0 true s, HKh.obs s)
theorem main0 (w : World) : (fun os => (segRunT treeTable PP w 11 (some (.ref 6)) 1 1745 (s47 w os) (piecesOf (behindTheImports PP) env0 code0 p0 [topFrame p0])).map (fun x => (x.1, x.2.2.1, x.2.2.2, (topRun treeTable PP w 11 (some (.ref 6)) 2 x.2.1.abs ⟨doneF .next, code0, pE, [topFrame p0]⟩).map (looks0 w)))) =
  fun os => some (.next, code0, pE, some (true, openGood QQ loose0, HKh.val w)) := by
 unfold looks0
 rewrite [PySem.W.Fast.te10110043849684766642, PySem.W.Fast.te14364793385576792824, PySem.W.Fast.te14082659384304107361, PySem.W.Fast.te4187177175401517315]
 kernel_rfl
theorem fence0 (s : Shared) : fenceModules? PP s = some s := by kernel_rfl
theorem op0 (w : World) : (fencedOpening treeTable PP w 3606).map (fun s => (s.heap, s.gens, s.drawn, s.toks)) = some (boot_heap w.params, Array.mk [], boot_drawn, boot_toks) := boot_open (p := PP) (N := 3606) (by kernel_rfl) (by kernel_rfl) fence0 w
theorem z10 (w : World) : ((boot_heap w.params).isNs mainGlobals && (Array.mk [] : Array GenState).size == 0) = true := by kernel_rfl
theorem z20 (w : World) : (boot_heap w.params).objs.size = 11 := by kernel_rfl
theorem z30 (w : World) : (boot_heap w.params).nsMap mainGlobals (Str.ofString "__annotations__") = some (.ref 6) := by kernel_rfl
theorem left0 : LeftO PP QQ loose0 Xt0 HKh.obs HKh.val 3606 true := @left_gen PP QQ loose0 Xt0 HKh.α HKh.obs HKh.val 3606 12 1 1745 boot_heap boot_drawn boot_toks 11 (some (.ref 6)) env0 code0 p0 pE (behindTheImports PP) s46 s47 looks0 (by kernel_rfl) op0 z10 z20 z30 pre0 blk0 main0 (by kernel_rfl)
theorem said0 : OpenLaw.wellSaid PySem.Challenge.rw_kk0045_03 = true := by
 rewrite [PySem.W.Fast.te9446332074065402090]
 kernel_rfl
end Kk
end
section
namespace Kk
inductive V where
 | none | bool (b : Bool) | int (i : Int) | str (s : Str) | ref (a : Addr) | ty (n : String) | oth
 deriving DecidableEq, Inhabited
noncomputable def er : Value → V
 | .none => .none
 | .bool b => .bool b
 | .int i _ => .int i
 | .str s _ => .str s
 | .ref a => .ref a
 | .type n => .ty n
 | _ => .oth
theorem er_none {v : Value} (h : er v = .none) : v = .none := by induction v <;> first | rfl | k_call_by "c" h
theorem er_bool {v : Value} {b} (h : er v = .bool b) : v = .bool b := by induction v <;> first | (k_call_by "c" h; rfl) | k_call_by "c" h
theorem er_int {v : Value} {i} (h : er v = .int i) : ∃ t, v = .int i t := by induction v <;> first | (k_call_by "c" h; exact ⟨_, rfl⟩) | k_call_by "c" h
theorem er_str {v : Value} {i} (h : er v = .str i) : ∃ t, v = .str i t := by induction v <;> first | (k_call_by "c" h; exact ⟨_, rfl⟩) | k_call_by "c" h
theorem er_ref {v : Value} {a} (h : er v = .ref a) : v = .ref a := by induction v <;> first | (k_call_by "c" h; rfl) | k_call_by "c" h
set_option genInjectivity false in
structure FnPart where
 params : Arguments
 body : List Stmt
 scope : Scope
 cl : List (Str × Addr)
 qual : Str
 code : Addr
inductive O where
 | list (xs : List V) | tup (xs : List V) | dict (es : List (Str × V)) (ep : Nat) | set (xs : List Str)
 | inst (c d : Addr) | fn (fp : FnPart) | code (q : Str) | tab (fresh : Bool) | pin (vs : Array Value)
set_option genInjectivity false in
structure Gx where
 prog : Program
 w : World
 K : Frag
 p : Program
 loose : List Str
 mean : ExcName → Option Value
 mg : Str → Option Value
 mb : Str → Option Value
 gram : Addr
 tabs : List (Addr × Addr)
noncomputable def ORep (g : Gx) (h : Heap) (a : Addr) : O → Prop
 | .list xs => ∃ vs : Array Value, h.PlainList a vs ∧ vs.toList.map er = xs
 | .tup xs => ∃ (vs : Array Value) (n : Nat), h.get? a = some { cls := .type "tuple", data := .seq vs n } ∧ vs.toList.map er = xs
 | .dict es ep => (a == sysModules) = false ∧ ∃ kvs, h.DictAt (PySem.strKind g.prog g.w) a kvs ep ∧ kvs.map (fun p => (p.1, er p.2)) = es
 | .set xs => ∃ S, h.SetOf (PySem.strKind g.prog g.w) a S xs.length ∧ (∀ k, S k = decide (k ∈ xs))
 | .inst c d => h.get? a = some (instObj c d)
 | .fn fp => ∃ o fd, h.get? a = some o ∧ o.data = .func fd ∧ o.cls = .type "function" ∧ fd.code = .ref fp.code ∧ fd.qualname = fp.qual ∧ fd.params = fp.params ∧ fd.body = .stmts fp.body ∧ fd.scope = fp.scope ∧ fd.closure = fp.cl ∧
   fd.globals = mainGlobals ∧ fd.builtins = builtinsNs ∧ fd.defaults = .none ∧ fd.kwdefaults = .none
 | .code q => ∃ o vs t, h.get? a = some o ∧ o.data = .fields vs ∧ vs[1]? = some (.str q t)
 | .tab fresh => ∃ ps, h.get? a = some (tabObj ps) ∧ TriplesOk ps.toList ∧ (fresh = true → ps = #[])
 | .pin vs => h.get? a = some { cls := .type "list", data := .seq vs }
theorem ORep.at {g : Gx} {h h' : Heap} {a : Addr} {o : O} (x : ORep g h a o) (k : ∀ ob, h.get? a = some ob → h'.get? a = some ob) : ORep g h' a o := by
 induction o with
 | list xs => obtain ⟨vs, p, e⟩ := x; exact ⟨vs, p.at k, e⟩
 | tup xs => obtain ⟨vs, n, p, e⟩ := x; exact ⟨vs, n, k _ p, e⟩
 | dict es ep => obtain ⟨hs, kvs, ⟨o, es', ho, r⟩, e⟩ := x; exact ⟨hs, kvs, ⟨o, es', k _ ho, r⟩, e⟩
 | set xs => obtain ⟨S, ⟨o, es, ep, t, ho, r⟩, e⟩ := x; exact ⟨S, ⟨o, es, ep, t, k _ ho, r⟩, e⟩
 | inst c d => exact k _ x
 | fn fp => obtain ⟨o, fd, ho, r⟩ := x; exact ⟨o, fd, k _ ho, r⟩
 | code q => obtain ⟨o, vs, t, ho, r⟩ := x; exact ⟨o, vs, t, k _ ho, r⟩
 | tab fresh => obtain ⟨ps, ho, r⟩ := x; exact ⟨ps, k _ ho, r⟩
 | pin vs => exact k _ x
theorem ORep.there {g : Gx} {h : Heap} {a : Addr} {o : O} (x : ORep g h a o) : ∃ ob, h.get? a = some ob := by
 induction o with
 | list xs => obtain ⟨vs, ⟨n, p⟩, e⟩ := x; exact ⟨_, p⟩
 | tup xs => obtain ⟨vs, n, p, e⟩ := x; exact ⟨_, p⟩
 | dict es ep => obtain ⟨_, kvs, ⟨o, es', ho, r⟩, e⟩ := x; exact ⟨_, ho⟩
 | set xs => obtain ⟨S, ⟨o, es, ep, t, ho, r⟩, e⟩ := x; exact ⟨_, ho⟩
 | inst c d => exact ⟨_, x⟩
 | fn fp => obtain ⟨o, fd, ho, r⟩ := x; exact ⟨_, ho⟩
 | code q => obtain ⟨o, vs, t, ho, r⟩ := x; exact ⟨_, ho⟩
 | tab fresh => obtain ⟨ps, ho, r⟩ := x; exact ⟨_, ho⟩
 | pin vs => exact ⟨_, x⟩
set_option genInjectivity false in
structure St where
 σ : Str → Option V
 μ : Addr → Option O
inductive Ex where | key | gram
noncomputable def M (α : Type) := (α → St → Prop) → (Ex → St → Prop) → St → Prop
inductive Fl where | next | brk | cont | ret (v : V)
noncomputable def FlR : Fl → Flow → Prop
 | .next, .next => True
 | .brk, .brk => True
 | .cont, .cont => True
 | .ret v, .ret u => er u = v
 | _, _ => False
set_option genInjectivity false in
structure Cx where
 A : Around
 env : Env
 base : Addr → Option Obj
 own : List Addr
 fr : Addr → Option Data
 s0 : Shared
 outer : List Env
noncomputable def BaseIn (b : Addr → Option Obj) (h : Heap) : Prop := ∀ a o, b a = some o → h.get? a = some o
set_option genInjectivity false in
structure Sc where
 sc : Scope
 own : List Str
 code : Option Addr := none
 cl : Option (List (Str × Addr)) := none
inductive Md where | fn | hand | comp
structure Static (g : Gx) (h : Heap) : Prop where
 kin : g.K.In h
 top : Top g.p g.loose g.mean g.mg g.mb h
 codes : CodeAll g.tabs h
structure Ok (g : Gx) (S : Sc) (md : Md) (n : Nat) (C : Cx) : Prop where
 stat : ∀ h, BaseIn C.base h → Static g h
 scope : C.env.scope = S.sc
 kind : S.sc.kind = .function
 glob : C.env.globals = mainGlobals
 blt : C.env.builtins = builtinsNs
 cells : ∀ x c, C.env.cells.lookup x = some c → c ∈ C.own ∨ ∃ o, C.base c = some o
 ownL : ∀ c ∈ C.own, c ≠ C.env.locals ∧ C.base c = none ∧ C.fr c = none
 baseL : C.base C.env.locals = none
 frL : C.fr C.env.locals = none
 frB : ∀ a d, C.fr a = some d → C.base a = none
 ownN : ∀ x ∈ S.own, ∃ c, C.env.cells.lookup x = some c ∧ c ∈ C.own
 inj : ∀ x y c, C.env.cells.lookup x = some c → C.env.cells.lookup y = some c → c ∈ C.own → x = y
 code : ∀ c, S.code = some c → C.env.code = .ref c
 clo : ∀ cl, S.cl = some cl → ∀ y c, cl.lookup y = some c → C.env.cells.lookup y = some c
 hnd : md = .hand ∨ C.A.handled = none
 guards : C.A.guards = some []
 frames : md = .comp ∨ (C.A.frames = some (C.env :: C.outer) ∧ C.env.frame = some C.env.locals)
 outs : ∀ e ∈ C.outer, e.scope.kind ≠ .module ∧ ∃ L d, e.frame = some L ∧ C.fr L = some d ∧ ∀ vs, d ≠ .fields vs
 depth : C.A.depth + 10 * n ≤ 900
 units : C.A.units + 10 * n ≤ 9000
noncomputable def Off (C : Cx) (a : Addr) : Prop := a ≠ C.env.locals ∧ a ∉ C.own ∧ C.base a = none ∧ C.fr a = none
noncomputable def VarAt (env : Env) (h : Heap) (m : Str → Option Value) (x : Str) (u : V) : Prop :=
 match env.kindOf x with
 | some .local => ∃ v, m x = some v ∧ er v = u
 | some .cell => ∃ c v, env.cells.lookup x = some c ∧ h.IsCell c (some v) ∧ er v = u
 | some .free => ∃ c v, env.cells.lookup x = some c ∧ h.IsCell c (some v) ∧ er v = u
 | _ => True
structure Sim (g : Gx) (C : Cx) (st : St) (s : Shared) : Prop where
 gens : s.gens = C.s0.gens
 drawn : s.drawn = C.s0.drawn
 os : s.os = C.s0.os
 base : BaseIn C.base s.heap
 vars : ∃ m, s.heap.Ns C.env.locals m ∧ ∀ x u, st.σ x = some u → VarAt C.env s.heap m x u
 cells : ∀ c ∈ C.own, ∃ v, s.heap.IsCell c v
 frs : ∀ a d, C.fr a = some d → ∃ o, s.heap.get? a = some o ∧ o.data = d
 objs : ∀ a o, st.μ a = some o → ORep g s.heap a o ∧ Off C a
noncomputable def Post (g : Gx) (C : Cx) {α β : Type} (R : α → β → Prop) (Q : α → St → Prop) (b : β) (s : Shared) : Prop :=
 ∃ a st, R a b ∧ Sim g C st s ∧ Q a st
noncomputable def exCls (g : Gx) : Ex → Value
 | .key => .type "KeyError"
 | .gram => .ref g.gram
noncomputable def Raised (g : Gx) (C : Cx) (st : St) (x : Ex) (e : Value) (h : Heap) (fl : Option Value) : Prop :=
 ∃ a oe vs, e = .ref a ∧ h.get? a = some oe ∧ oe.cls = exCls g x ∧ oe.data = .fields vs ∧ 1 < vs.size ∧ Off C a ∧ st.μ a = none ∧ (match fl with
  | none => vs[1]? = some .none
  | some f => ∃ T oT ts, vs[1]? = some (.ref T) ∧ T ≠ a ∧ h.get? T = some oT ∧ oT.data = .fields ts ∧ ts[3]? = some f ∧ Off C T ∧ st.μ T = none)
noncomputable def PostX (g : Gx) (C : Cx) (X : Ex → St → Prop) (e : Value) (s : Shared) : Prop :=
 ∃ x st fl, Sim g C st s ∧ X x st ∧ (fl = none ∨ fl = some .none ∨ fl = some (rawInt C.env.locals)) ∧ Raised g C st x e s.heap fl
noncomputable def Ref (g : Gx) (S : Sc) (md : Md) (n : Nat) {α β : Type} (R : α → β → Prop) (p : M α) (t : Env → Sem β) : Prop :=
 ∀ C, Ok g S md n C → ∀ st s Q X, Sim g C st s → p Q X st → wpAny (model g.prog g.w) C.A (t C.env) (Post g C R Q) (PostX g C X) s
noncomputable abbrev VR (v : V) (u : Value) : Prop := er u = v
end Kk
end
section
namespace Kk
noncomputable def upd {β : Type} (f : Addr → Option β) (a : Addr) (b : β) : Addr → Option β := fun x => if x = a then some b else f x
noncomputable def supd {β : Type} (f : Str → Option β) (a : Str) (b : β) : Str → Option β := fun x => if x = a then some b else f x
noncomputable def St.put (st : St) (a : Addr) (o : O) : St := { st with μ := upd st.μ a o }
noncomputable def St.set (st : St) (x : Str) (v : V) : St := { st with σ := supd st.σ x v }
section
variable {g : Gx} {S : Sc} {md : Md} {n : Nat} {C : Cx} {st st' : St} {s : Shared} {h' : Heap} {tk : Nat}
theorem Sim.L_there (x : Sim g C st s) : ∃ o, s.heap.get? C.env.locals = some o := by
 obtain ⟨m, ⟨o, es, ep, ho, _⟩, _⟩ := x.vars; exact ⟨o, ho⟩
theorem Sim.off_new (x : Sim g C st s) {a : Addr} (ha : s.heap.get? a = none) : Off C a := by
 refine ⟨?_, ?_, ?_, ?_⟩
 ·rintro rfl; obtain ⟨o, ho⟩ := x.L_there; rw [ha] at ho; k_call_by "c" ho
 ·intro hm; obtain ⟨v, o, ho, _⟩ := x.cells a hm; rw [ha] at ho; k_call_by "c" ho
 ·cases e : C.base a with
  | none => rfl
  | some o => have := x.base a o e; rw [ha] at this; k_call_by "c" this
 ·cases e : C.fr a with
  | none => rfl
  | some d => obtain ⟨o, ho, _⟩ := x.frs a d e; rw [ha] at ho; k_call_by "c" ho
theorem Sim.mu_none (x : Sim g C st s) {a : Addr} (ha : s.heap.get? a = none) : st.μ a = none := by
 cases e : st.μ a with
 | none => rfl
 | some o => obtain ⟨ob, hob⟩ := (x.objs a o e).1.there; rw [ha] at hob; k_call_by "c" hob
theorem VarAt.keep {env : Env} {h h' : Heap} {m : Str → Option Value} {x : Str} {u : V} (hv : VarAt env h m x u) (k : ∀ c v, env.cells.lookup x = some c → h.IsCell c v → h'.IsCell c v) : VarAt env h' m x u := by
 unfold VarAt at hv ⊢
 split
 ·rename_i e; rw [e] at hv; exact hv
 ·rename_i e; rw [e] at hv; obtain ⟨c, v, a, b, d⟩ := hv; exact ⟨c, v, a, k _ _ a b, d⟩
 ·rename_i e; rw [e] at hv; obtain ⟨c, v, a, b, d⟩ := hv; exact ⟨c, v, a, k _ _ a b, d⟩
 ·trivial
theorem isCell_keep {h h' : Heap} {c : Addr} {v : Option Value} (x : h.IsCell c v) (k : ∀ o, h.get? c = some o → h'.get? c = some o) : h'.IsCell c v :=
 by obtain ⟨o, ho, hd⟩ := x; exact ⟨o, k o ho, hd⟩
theorem ns_keep {h h' : Heap} {a : Addr} {m : Str → Option Value} (x : h.Ns a m) (k : ∀ o, h.get? a = some o → h'.get? a = some o) : h'.Ns a m :=
 by obtain ⟨o, es, ep, ho, r⟩ := x; exact ⟨o, es, ep, k o ho, r⟩
theorem Sim.ext (x : Sim g C st s) (Y : Ok g S md n C) (P : Addr → Prop) (hP : ∀ a, P a → Off C a) (k : ∀ b o, ¬ P b → s.heap.get? b = some o → h'.get? b = some o)
  (objs : ∀ a o, st'.μ a = some o → ORep g h' a o ∧ Off C a) (hσ : st'.σ = st.σ) : Sim g C st' { s with heap := h', toks := tk } := by
 have kL : ∀ o, s.heap.get? C.env.locals = some o → h'.get? C.env.locals = some o := fun o => k _ o fun h => (hP _ h).1 rfl
 have kc : ∀ c ∈ C.own, ∀ o, s.heap.get? c = some o → h'.get? c = some o := fun c hc o => k _ o fun h => (hP _ h).2.1 hc
 have kb : ∀ b o, C.base b = some o → h'.get? b = some o := fun b o e => k b o (fun h => by have := (hP _ h).2.2.1; rw [e] at this; k_call_by "c" this) (x.base b o e)
 refine ⟨x.gens, x.drawn, x.os, kb, ?_, ?_, fun a d e => ?_, objs⟩
 ·refine exG1_2 x.vars fun m hm hv => ?_
  refine ⟨m, ns_keep hm kL, fun y u e => (hv y u (hσ ▸ e)).keep fun c v hl hc => isCell_keep hc ?_⟩
  rcases Y.cells y c hl with h | ⟨o, h⟩
  ·exact kc c h
  ·intro o' ho'
   have := kb c o h
   rw [x.base c o h] at ho'; cases ho'; exact this
 ·intro c hc
  refine exG1_1 (x.cells c hc) fun v hv => ?_
  exact ⟨v, isCell_keep hv (kc c hc)⟩
 ·refine exG1_2 (x.frs a d e) fun o ho hd => ?_
  exact ⟨o, k a o (fun h => by have := (hP _ h).2.2.2; rw [e] at this; k_call_by "c" this) ho, hd⟩
theorem Sim.grow (x : Sim g C st s) (k : ∀ b o, s.heap.get? b = some o → h'.get? b = some o) : Sim g C st { s with heap := h', toks := tk } := by
 refine ⟨x.gens, x.drawn, x.os, fun b o e => k _ _ (x.base b o e), ?_, ?_, fun a d e => (by obtain ⟨o, ho, hd⟩ := x.frs a d e; exact ⟨o, k _ _ ho, hd⟩), fun a o e => ⟨(x.objs a o e).1.at fun ob => k _ ob, (x.objs a o e).2⟩⟩
 ·refine exG1_2 x.vars fun m hm hv => ?_
  exact ⟨m, hm.keeps k, fun y u e => (hv y u e).keep fun c v _ hc => hc.keeps k⟩
 ·intro c hc
  refine exG1_1 (x.cells c hc) fun v hv => ?_
  exact ⟨v, hv.keeps k⟩
theorem Sim.tick (x : Sim g C st s) : Sim g C st { s with toks := tk } := x.grow (h' := s.heap) fun _ _ e => e
theorem Sim.new (x : Sim g C st s) {a : Addr} {o : O} (ha : s.heap.get? a = none) (k : ∀ b o, s.heap.get? b = some o → h'.get? b = some o) (ho : ORep g h' a o) : Sim g C (st.put a o) { s with heap := h', toks := tk } := by
 have y : Sim g C st { s with heap := h', toks := tk } := x.grow k
 refine ⟨y.gens, y.drawn, y.os, y.base, y.vars, y.cells, y.frs, fun b o' e => ?_⟩
 unfold St.put upd at e
 dsimp only at e
 split at e
 ·rename_i q; k_call_by "c" e; subst q; exact ⟨ho, x.off_new ha⟩
 ·exact y.objs b o' e
theorem Sim.push (x : Sim g C st s) {o : O} {ob : Obj} (ho : ORep g (s.heap.push ob) s.heap.objs.size o) : Sim g C (st.put s.heap.objs.size o) { s with heap := s.heap.push ob, toks := tk } :=
 x.new (Heap.get?_none_of_le (Nat.le_refl _)) (fun _ _ e => Heap.get?_push_of_some _ e) ho
theorem Sim.change (x : Sim g C st s) (Y : Ok g S md n C) {a : Addr} {o o' : O} (ha : st.μ a = some o) (k : Heap.ExtBut a s.heap h') (ho : ORep g h' a o') : Sim g C (st.put a o') { s with heap := h', toks := tk } := by
 have ha' := (x.objs a o ha).2
 refine x.ext Y (fun b => b = a) (fun b e => e ▸ ha') (fun b o e => k b o e) (fun b o₁ e => ?_) rfl
 unfold St.put upd at e
 dsimp only at e
 split at e
 ·rename_i q; k_call_by "c" e; subst q; exact ⟨ho, ha'⟩
 ·rename_i q; exact ⟨(x.objs b o₁ e).1.at fun ob => k b ob q, (x.objs b o₁ e).2⟩
theorem Sim.temp (x : Sim g C st s) (Y : Ok g S md n C) {a : Addr} (ha : Off C a) (hm : st.μ a = none) (k : Heap.ExtBut a s.heap h') : Sim g C st { s with heap := h', toks := tk } := by
 refine x.ext Y (fun b => b = a) (fun b e => e ▸ ha) (fun b o e => k b o e) (fun b o₁ e => ?_) rfl
 exact ⟨(x.objs b o₁ e).1.at fun ob => k b ob (fun q => by rw [q, hm] at e; k_call_by "c" e), (x.objs b o₁ e).2⟩
theorem Sim.store (x : Sim g C st s) (Y : Ok g S md n C) {y : Str} {v : Value} (hk : C.env.kindOf y = some .local) {m : Str → Option Value} (hm : s.heap.Ns C.env.locals m)
  (hv : ∀ x u, st.σ x = some u → VarAt C.env s.heap m x u) (hn : h'.Ns C.env.locals (fun z => if z = y then some v else m z)) (k : Heap.SameBut C.env.locals s.heap h') :
  Sim g C (st.set y (er v)) { s with heap := h', toks := tk } := by
 have off : ∀ a o, a ≠ C.env.locals → s.heap.get? a = some o → h'.get? a = some o := fun a o ne e => k.extBut a o ne e
 refine ⟨x.gens, x.drawn, x.os, fun b o e => off _ _ (fun q => by have := Y.baseL; rw [← q, e] at this; k_call_by "c" this) (x.base b o e), ?_, ?_, fun a d e => (by obtain ⟨o, ho, hd⟩ := x.frs a d e; exact ⟨o, off _ _ (fun q => by have := Y.frL; rw [← q, e] at this; k_call_by "c" this) ho, hd⟩), fun a o e => ⟨(x.objs a o e).1.at fun ob => off _ ob (x.objs a o e).2.1, (x.objs a o e).2⟩⟩
 ·refine ⟨_, hn, fun z u e => ?_⟩
  have cellk : ∀ c v, C.env.cells.lookup z = some c → s.heap.IsCell c v → h'.IsCell c v := fun c v hl hc => isCell_keep hc fun o => off c o (by
   rcases Y.cells z c hl with h | ⟨o', h⟩
   ·exact (Y.ownL c h).1
   ·intro q; have := Y.baseL; rw [← q, h] at this; k_call_by "c" this)
  unfold St.set supd at e
  dsimp only at e
  by_cases q : z = y
  ·subst q
   rw [if_pos rfl] at e; k_call_by "c" e
   unfold VarAt; rw [hk]; exact ⟨v, if_pos rfl, rfl⟩
  ·rw [if_neg q] at e
   have := hv z u e
   unfold VarAt at this ⊢
   split
   ·rename_i e'; rw [e'] at this; obtain ⟨v', a, b⟩ := this; exact ⟨v', (if_neg q).trans a, b⟩
   ·rename_i e'; rw [e'] at this; obtain ⟨c, v', a, b, d⟩ := this; exact ⟨c, v', a, cellk _ _ a b, d⟩
   ·rename_i e'; rw [e'] at this; obtain ⟨c, v', a, b, d⟩ := this; exact ⟨c, v', a, cellk _ _ a b, d⟩
   ·trivial
 ·intro c hc
  refine exG1_1 (x.cells c hc) fun v hv => ?_
  exact ⟨v, isCell_keep hv fun o => off c o (Y.ownL c hc).1⟩
theorem Sim.storeCell (x : Sim g C st s) (Y : Ok g S md n C) {y : Str} {v : Value} {c : Addr} (hk : C.env.kindOf y = some .cell) (hl : C.env.cells.lookup y = some c) (hc : c ∈ C.own)
  (hn : h'.IsCell c (some v)) (k : Heap.SameBut c s.heap h') : Sim g C (st.set y (er v)) { s with heap := h', toks := tk } := by
 have off : ∀ a o, a ≠ c → s.heap.get? a = some o → h'.get? a = some o := fun a o ne e => k.extBut a o ne e
 refine ⟨x.gens, x.drawn, x.os, fun b o e => off _ _ (fun q => by have := (Y.ownL c hc).2.1; rw [← q, e] at this; k_call_by "c" this) (x.base b o e), ?_, ?_, fun a d e => (by obtain ⟨o, ho, hd⟩ := x.frs a d e; exact ⟨o, off _ _ (fun q => by have := (Y.ownL c hc).2.2; rw [← q, e] at this; k_call_by "c" this) ho, hd⟩), fun a o e => ⟨(x.objs a o e).1.at fun ob => off _ ob (fun q => (x.objs a o e).2.2.1 (q ▸ hc)), (x.objs a o e).2⟩⟩
 ·refine exG1_2 x.vars fun m hm hv => ?_
  refine ⟨m, ns_keep hm fun o => off _ o (Ne.symm (Y.ownL c hc).1), fun z u e => ?_⟩
  unfold St.set supd at e
  dsimp only at e
  by_cases q : z = y
  ·subst q
   rw [if_pos rfl] at e; k_call_by "c" e
   unfold VarAt; rw [hk]; exact ⟨c, v, hl, hn, rfl⟩
  ·rw [if_neg q] at e
   exact (hv z u e).keep fun c' v' hl' hc' => isCell_keep hc' fun o => off c' o fun q' => q (Y.inj z y c (q' ▸ hl') hl hc)
 ·intro c' hc'
  by_cases q : c' = c
  ·subst q; exact ⟨_, hn⟩
  ·refine exG1_1 (x.cells c' hc') fun v hv => ?_
   exact ⟨v, isCell_keep hv fun o => off c' o q⟩
end
end Kk
end
section
namespace Kk
noncomputable def mret {α : Type} (a : α) : M α := fun Q _ st => Q a st
noncomputable def mbind {α β : Type} (p : M α) (f : α → M β) : M β := fun Q X st => p (fun a st' => f a Q X st') X st
noncomputable def mstuck {α : Type} : M α := fun _ _ _ => False
noncomputable def locM (x : Str) : M V := fun Q _ st => match st.σ x with | some v => Q v st | none => False
noncomputable def setM (x : Str) (v : V) : M Unit := fun Q _ st => Q () (st.set x v)
variable {g : Gx} {S : Sc} {md : Md} {n : Nat} {C : Cx} {st st' : St} {s : Shared} {α β γ δ : Type}
noncomputable abbrev RefE (g : Gx) (S : Sc) (md : Md) (n : Nat) (p : M V) (e : Expr) : Prop := Ref g S md n VR p (eval e)
noncomputable abbrev RefS (g : Gx) (S : Sc) (md : Md) (n : Nat) (p : M Fl) (e : Stmt) : Prop := Ref g S md n FlR p (exec e)
noncomputable abbrev RefB (g : Gx) (S : Sc) (md : Md) (n : Nat) (p : M Fl) (e : List Stmt) : Prop := Ref g S md n FlR p (execs e)
noncomputable abbrev RefT (g : Gx) (S : Sc) (md : Md) (n : Nat) (p : M Bool) (e : Expr) : Prop := Ref g S md n (fun a b => b = a) p (fun env => isTrue e env (eval e env))
theorem Ref.use {R : α → β → Prop} {p : M α} {t : Env → Sem β} {Q : α → St → Prop} {X : Ex → St → Prop} {G : β → Shared → Prop} (r : Ref g S md n R p t) (Y : Ok g S md n C) (x : Sim g C st s) (h : p Q X st)
  (k : ∀ a b st' s', R a b → Sim g C st' s' → Q a st' → G b s') : wpAny (model g.prog g.w) C.A (t C.env) G (PostX g C X) s :=
 wpAny_mono (r C Y st s Q X x h) (fun b s' q0 => by obtain ⟨a, st', hr, hs, hq⟩ := q0; exact k a b st' s' hr hs hq) fun _ _ e => e
theorem Post.mk {R : α → β → Prop} {Q : α → St → Prop} {a : α} {b : β} {s' : Shared} (hr : R a b) (x : Sim g C st s') (q : Q a st) : Post g C R Q b s' := ⟨a, st, hr, x, q⟩
noncomputable def varOk (sc : Scope) (x : Str) : Bool := (match sc.names.lookup x with | some .local | some .cell | some .free => true | _ => false) && !(x == ("__debug__" : Str)) && !(x == ("__classdict__" : Str))
theorem Ok.kindOf (Y : Ok g S md n C) (x : Str) : C.env.kindOf x = S.sc.names.lookup x := by unfold Env.kindOf; rw [Y.scope]
theorem load_var {x : Str} {u : V} {Q : V → St → Prop} {E : Value → Shared → Prop} (hv : varOk S.sc x = true) (Y : Ok g S md n C) (X : Sim g C st s) (e : st.σ x = some u) (q : Q u st) :
  wpAny (model g.prog g.w) C.A (loadName C.env x) (Post g C VR Q) E s := by
 refine exG1_2 X.vars fun m hm hx => ?_
 have h1 := hx x u e
 have hk : C.env.scope.kind = .function := by rw [Y.scope]; exact Y.kind
 simp only [varOk, Bool.and_eq_true, Bool.not_eq_true'] at hv
 refine exG0_2 hv fun r1 h4 => ?_
 obtain ⟨h2, h3⟩ := r1
 unfold VarAt at h1
 rw [Y.kindOf x] at h1
 split at h2
 ·rename_i e2
  rw [e2] at h1
  refine exG1_2 h1 fun v a b => ?_
  exact wpAny_loadName_local hk ((Y.kindOf x).trans e2) hm a ⟨u, st, b, X, q⟩
 ·rename_i e2
  rw [e2] at h1
  refine exG2_3 h1 fun c v a b d => ?_
  exact wpAny_loadName_cell hk ((Y.kindOf x).trans e2) a b ⟨u, st, d, X, q⟩
 ·rename_i e2
  rw [e2] at h1
  refine exG2_3 h1 fun c v a b d => ?_
  exact wpAny_loadName_free hk ((Y.kindOf x).trans e2) a b ⟨u, st, d, X, q⟩ h4
 ·k_call_by "c" h2
theorem ref_Name {x : Str} {pos : Pos} (hv : varOk S.sc x = true) : RefE g S md n (locM x) (.Name x pos) := by
 intro C Y st s Q X x' h
 unfold locM at h
 have hd : (x == ("__debug__" : Str)) = false := by simp only [varOk, Bool.and_eq_true, Bool.not_eq_true'] at hv; exact hv.1.2
 split at h
 ·rename_i v e
  exact wpAny_Name (load_var hv Y x' e h) hd
 ·exact h.elim
theorem ref_Int {i : Int} {k pos} : RefE g S md n (mret (.int i)) (.Constant (.int i) k pos) := fun C Y st s Q X x h =>
 wpAny_Constant_int ⟨_, st, rfl, x.tick, h⟩
theorem ref_Str {i : Str} {k pos} : RefE g S md n (mret (.str i)) (.Constant (.str i) k pos) := fun C Y st s Q X x h =>
 wpAny_Constant_str ⟨_, st, rfl, x.tick, h⟩
theorem ref_None {k pos} : RefE g S md n (mret .none) (.Constant .none k pos) := fun C Y st s Q X x h =>
 wpAny_Constant_none ⟨_, st, rfl, x, h⟩
theorem ref_Bool {b k pos} : RefE g S md n (mret (.bool b)) (.Constant (.bool b) k pos) := fun C Y st s Q X x h =>
 wpAny_Constant_bool ⟨_, st, rfl, x, h⟩
noncomputable def stOk (S : Sc) (x : Str) : Bool := match S.sc.names.lookup x with
 | some .local => true
 | some .cell => S.own.contains x
 | _ => false
theorem store_var {x : Str} {v : Value} {Q : Unit → Shared → Prop} {E : Value → Shared → Prop} (hv : stOk S x = true) (Y : Ok g S md n C) (X : Sim g C st s)
  (q : ∀ s', Sim g C (st.set x (er v)) s' → Q () s') : wpAny (model g.prog g.w) C.A (storeName C.env x v) Q E s := by
 have hk : C.env.scope.kind = .function := by rw [Y.scope]; exact Y.kind
 unfold stOk at hv
 split at hv
 ·rename_i e
  refine exG1_2 X.vars fun m hm hx => ?_
  have hl : C.env.kindOf x = some .local := (Y.kindOf x).trans e
  refine wpAny_storeName_local hl hm (fun h' hn hs => q _ (X.store Y hl hm hx hn hs)) ?_
  rw [hk]; rfl
 ·rename_i e
  have hl : C.env.kindOf x = some .cell := (Y.kindOf x).trans e
  refine exG1_2 (Y.ownN x (by simpa using hv)) fun c hc ho => ?_
  refine exG1_1 (X.cells c ho) fun v₀ hv₀ => ?_
  refine wpAny_storeName_cell hk hl hc hv₀ fun h' hn hs => q _ (X.storeCell Y hl hc ho hn hs)
 ·k_call_by "c" hv
theorem bind_var {x : Str} {v : Value} {Q : Unit → Shared → Prop} {E : Value → Shared → Prop} (hv : stOk S x = true) (Y : Ok g S md n C) (X : Sim g C st s)
  (q : ∀ s', Sim g C (st.set x (er v)) s' → Q () s') : wpAny (model g.prog g.w) C.A (bindName C.env x v) Q E s := wpAny_bindName (store_var hv Y X q)
theorem ref_nil : RefB g S md n (mret .next) [] := fun C Y st s Q X x h => wpAny_execs_nil ⟨.next, st, trivial, x, h⟩
noncomputable def mseq (p q : M Fl) : M Fl := fun Q X st => p (fun f st' => match f with | .next => q Q X st' | f => Q f st') X st
theorem ref_cons {p q : M Fl} {a : Stmt} {r : List Stmt} (ha : RefS g S md n p a) (hr : RefB g S md n q r) : RefB g S md n (mseq p q) (a :: r) := by
 intro C Y st s Q X x h
 refine wpAny_execs_cons (ha.use Y x h fun f b st' s' hf x' hq => ?_)
 induction f <;> induction b <;> first | exact hf.elim | exact hr C Y _ _ _ _ x' hq | exact ⟨_, st', hf, x', hq⟩
theorem ref_one {p : M Fl} {a : Stmt} (ha : RefS g S md n p a) : RefB g S md n p [a] := by
 intro C Y st s Q X x h
 refine wpAny_execs_cons (ha.use Y x h fun f b st' s' hf x' hq => ?_)
 induction f <;> induction b <;> first | exact hf.elim | exact wpAny_execs_nil ⟨_, st', hf, x', hq⟩ | exact ⟨_, st', hf, x', hq⟩
noncomputable def mif {α : Type} (c : M Bool) (p q : M α) : M α := fun Q X st => c (fun b st' => if b = true then p Q X st' else q Q X st') X st
theorem ref_If {c : M Bool} {p q : M Fl} {t : Expr} {b o : List Stmt} {pos : Pos} (hc : RefT g S md n c t) (hb : RefB g S md n p b) (ho : RefB g S md n q o) : RefS g S md n (mif c p q) (.If t b o pos) := by
 intro C Y st s Q X x h
 refine wpAny_If (hc.use Y x h fun f b' st' s' hf x' hq => ?_)
 subst hf
 cases b'
 ·exact ho C Y _ _ _ _ x' hq
 ·exact hb C Y _ _ _ _ x' hq
theorem ref_IfExp {c : M Bool} {p q : M V} {t b o : Expr} {pos : Pos} (hc : RefT g S md n c t) (hb : RefE g S md n p b) (ho : RefE g S md n q o) : RefE g S md n (mif c p q) (.IfExp t b o pos) := by
 intro C Y st s Q X x h
 refine wpAny_IfExp (hc.use Y x h fun f b' st' s' hf x' hq => ?_)
 subst hf
 cases b'
 ·exact ho C Y _ _ _ _ x' hq
 ·exact hb C Y _ _ _ _ x' hq
theorem ref_Return {p : M V} {e : Expr} {pos : Pos} (h : RefE g S md n p e) : RefS g S md n (mbind p fun v => mret (.ret v)) (.Return (some e) pos) := fun C Y st s Q X x hp =>
 wpAny_Return_some (h.use Y x hp fun v b st' s' hv x' hq => ⟨.ret v, st', hv, x', hq⟩)
theorem ref_Continue {pos : Pos} : RefS g S md n (mret .cont) (.Continue pos) := fun C Y st s Q X x hp => wpAny_Continue ⟨.cont, st, trivial, x, hp⟩
theorem Ok.inter (Y : Ok g S md n C) : interactive C.env = false := by
 unfold interactive; rw [Y.scope, Y.kind]; rfl
theorem ref_Expr {p : M V} {e : Expr} {pos : Pos} (h : RefE g S md n p e) (hs : ∀ env, swapsWith e none pos.line env = pure false := by intro _; rfl) :
  RefS g S md n (mbind p fun _ => mret .next) (.Expr e pos) := fun C Y st s Q X x hp =>
 wpAny_Expr_any (h.use Y x hp fun v b st' s' hv x' hq => ⟨.next, st', trivial, x', hq⟩) Y.inter (hs _)
noncomputable def assignM (x : Str) (p : M V) : M Fl := mbind p fun v => mbind (setM x v) fun _ => mret .next
theorem ref_Assign {p : M V} {e : Expr} {x : Str} {px pos : Pos} (hv : stOk S x = true) (h : RefE g S md n p e)
  (hs : ∀ env : Env, env.scope = S.sc → swapsWith e (some (.Name x px)) pos.line env = pure false) :
  RefS g S md n (assignM x p) (.Assign [.Name x px] e pos) := by
 intro C Y st s Q X x' hp
 refine wpAny_Assign_Name (h.use Y x' hp fun v b st' s' hb x'' hq => ?_) (hs _ Y.scope)
 refine store_var hv Y x'' fun s'' x3 => ?_
 refine ⟨.next, _, trivial, x3, ?_⟩
 rw [hb]; exact hq
theorem ref_T_Not {c : M Bool} {t : Expr} {pos : Pos} (hc : RefT g S md n c t) : RefT g S md n (mbind c fun b => mret (!b)) (.UnaryOp .Not t pos) := fun C Y st s Q X x hp =>
 wpAny_isTrue_Not (hc.use Y x hp fun v b st' s' hv x' hq => ⟨_, st', by rw [hv], x', hq⟩)
noncomputable abbrev RefAll (g : Gx) (S : Sc) (md : Md) (n : Nat) (op : BoolOp) (p : M Bool) (es : List Expr) : Prop := Ref g S md n (fun a b => b = a) p (fun env => allTrue op es env)
theorem ref_And_nil : RefAll g S md n .And (mret true) [] := fun C Y st s Q X x hp => wpAny_allTrue_And_nil ⟨_, st, rfl, x, hp⟩
theorem ref_Or_nil : RefAll g S md n .Or (mret false) [] := fun C Y st s Q X x hp => wpAny_allTrue_Or_nil ⟨_, st, rfl, x, hp⟩
theorem ref_And_cons {c d : M Bool} {t : Expr} {r : List Expr} (hc : RefT g S md n c t) (hd : RefAll g S md n .And d r) : RefAll g S md n .And (mif c d (mret false)) (t :: r) := by
 intro C Y st s Q X x hp
 refine wpAny_allTrue_And_cons (hc.use Y x hp fun v b st' s' hv x' hq => ?_)
 subst hv
 k_call_by "c" b
 ·exact ⟨_, st', rfl, x', hq⟩
 ·exact hd C Y _ _ _ _ x' hq
theorem ref_Or_cons {c d : M Bool} {t : Expr} {r : List Expr} (hc : RefT g S md n c t) (hd : RefAll g S md n .Or d r) : RefAll g S md n .Or (mif c (mret true) d) (t :: r) := by
 intro C Y st s Q X x hp
 refine wpAny_allTrue_Or_cons (hc.use Y x hp fun v b st' s' hv x' hq => ?_)
 subst hv
 k_call_by "c" b
 ·exact hd C Y _ _ _ _ x' hq
 ·exact ⟨_, st', rfl, x', hq⟩
theorem ref_T_BoolOp {op : BoolOp} {c : M Bool} {ts : List Expr} {pos : Pos} (hc : RefAll g S md n op c ts) : RefT g S md n c (.BoolOp op ts pos) := fun C Y st s Q X x hp => wpAny_isTrue_BoolOp (hc C Y _ _ _ _ x hp)
end Kk
end
section
namespace Kk
variable {g : Gx} {S : Sc} {md : Md} {n : Nat} {C : Cx} {st st' : St} {s : Shared} {α β γ δ : Type}
mutual
inductive Rd (μ : Addr → Option O) : V → PyData → Prop
 | none : Rd μ .none .none
 | bool (b) : Rd μ (.bool b) (.bool b)
 | int (i) : Rd μ (.int i) (.int i)
 | str (x) : Rd μ (.str x) (.str x)
 | list {a xs ds} : μ a = some (.list xs) → RdAll μ xs ds → Rd μ (.ref a) (.list ds)
 | tup {a xs ds} : μ a = some (.tup xs) → RdAll μ xs ds → Rd μ (.ref a) (.tuple ds)
inductive RdAll (μ : Addr → Option O) : List V → List PyData → Prop
 | nil : RdAll μ [] []
 | cons {v vs d ds} : Rd μ v d → RdAll μ vs ds → RdAll μ (v :: vs) (d :: ds)
end
theorem Rd.reads_aux (x : Sim g C st s) {v : V} {d : PyData} (r : Rd st.μ v d) : ∀ v', er v' = v → ∃ as, Reads s.heap v' d as := by
 refine Rd.rec (motive_1 := fun v d _ => ∀ v', er v' = v → ∃ as, Reads s.heap v' d as) (motive_2 := fun vs ds _ => ∀ us, us.map er = vs → ∃ as, ReadsAll s.heap us ds as) ?_ ?_ ?_ ?_ ?_ ?_ ?_ ?_ r
 ·intro v' e; rw [er_none e]; exact ⟨_, .none⟩
 ·intro b v' e; rw [er_bool e]; exact ⟨_, .bool b⟩
 ·intro i v' e; obtain ⟨t, q⟩ := er_int e; rw [q]; exact ⟨_, .int i t⟩
 ·intro y v' e; obtain ⟨t, q⟩ := er_str e; rw [q]; exact ⟨_, .str y t⟩
 ·intro a xs ds h _ ih v' e
  rw [er_ref e]
  refine exG0_2 (x.objs a _ h) fun r1 _ => ?_
  obtain ⟨vs, ⟨n, p⟩, q⟩ := r1
  refine exG1_1 (ih vs.toList q) fun as z => ?_
  exact ⟨_, .list p rfl rfl z⟩
 ·intro a xs ds h _ ih v' e
  rw [er_ref e]
  refine exG0_2 (x.objs a _ h) fun r2 _ => ?_
  obtain ⟨vs, n, p, q⟩ := r2
  refine exG1_1 (ih vs.toList q) fun as z => ?_
  exact ⟨_, .tuple p rfl rfl z⟩
 ·intro us e; rw [List.map_eq_nil_iff.mp e]; exact ⟨_, .nil⟩
 ·intro v vs d ds _ _ ih1 ih2 us e
  refine exG2_3 (List.map_eq_cons_iff.mp e) fun u us' h1 h2 h3 => ?_
  refine exG1_1 (ih1 u h2) fun as p => ?_
  refine exG1_1 (ih2 us' h3) fun bs q => ?_
  rw [h1]; exact ⟨_, .cons p q⟩
theorem Rd.reads (x : Sim g C st s) {v : V} {d : PyData} (r : Rd st.μ v d) (v' : Value) (e : er v' = v) : ∃ as, Reads s.heap v' d as := Rd.reads_aux x r v' e
theorem RdAll.reads (x : Sim g C st s) {vs : List V} {ds : List PyData} (r : RdAll st.μ vs ds) : ∀ us, us.map er = vs → ∃ as, ReadsAll s.heap us ds as := by
 refine RdAll.rec (motive_1 := fun _ _ _ => True) (motive_2 := fun vs ds _ => ∀ us, us.map er = vs → ∃ as, ReadsAll s.heap us ds as) trivial (fun _ => trivial) (fun _ => trivial) (fun _ => trivial) (fun _ _ _ => trivial) (fun _ _ _ => trivial) ?_ ?_ r
 ·intro us e; rw [List.map_eq_nil_iff.mp e]; exact ⟨_, .nil⟩
 ·intro v vs d ds r1 _ _ ih2 us e
  refine exG2_3 (List.map_eq_cons_iff.mp e) fun u us' h1 h2 h3 => ?_
  refine exG1_1 (Rd.reads x r1 u h2) fun as p => ?_
  refine exG1_1 (ih2 us' h3) fun bs q => ?_
  rw [h1]; exact ⟨_, .cons p q⟩
noncomputable def dget (es : List (Str × V)) (k : Str) : Option V := (es.find? fun p => p.1 = k).map (·.2)
noncomputable def dput (es : List (Str × V)) (k : Str) (v : V) : List (Str × V) := if es.any (fun p => p.1 = k) then es.map (fun p => if p.1 = k then (p.1, v) else p) else es ++ [(k, v)]
theorem dget_map (kvs : List (Str × Value)) (k : Str) : dget (kvs.map fun p => (p.1, er p.2)) k = (valueAt kvs k).map er := by
 unfold dget valueAt
 induction kvs with
 | nil => rfl
 | cons p r ih =>
  simp only [List.map_cons, List.find?_cons]
  by_cases h : p.1 = k
  ·simp [h]
  ·simp only [h, decide_false]; exact ih
theorem dput_map (kvs : List (Str × Value)) (k : Str) (v : Value) : (stored kvs k v).map (fun p => (p.1, er p.2)) = dput (kvs.map fun p => (p.1, er p.2)) k (er v) := by
 unfold dput stored
 have e : ((kvs.map fun p => (p.1, er p.2)).any fun p => decide (p.1 = k)) = kvs.any fun p => decide (p.1 = k) := by rw [List.any_map]; rfl
 rw [e]
 split
 ·simp only [List.map_map]
  apply List.map_congr_left
  intro p _
  simp only [Function.comp]
  split <;> simp_all
 ·simp
noncomputable def strIn (y x : Str) : Bool := !(Builtin.Str.occurrences x y 0 x.length 1).isEmpty
noncomputable def okD (d : PyData) : Prop := d.canLay0 = true ∧ d.depth ≤ 50
inductive EqH (st : St) (k : Bool → Prop) : V → V → Prop
 | int {i j : Int} : k (i == j) → EqH st k (.int i) (.int j)
 | str {x y : Str} : k (x == y) → EqH st k (.str x) (.str y)
 | rd {a b : V} {d e : PyData} : Rd st.μ a d → Rd st.μ b e → okD d → okD e → k (PyData.eqv d e) → EqH st k a b
inductive InH (st : St) (k : Bool → Prop) : V → V → Prop
 | str {y t : Str} : k (strIn y t) → InH st k (.str y) (.str t)
 | dict {a : Addr} {es : List (Str × V)} {ep : Nat} {y : Str} : st.μ a = some (.dict es ep) → k (dget es y).isSome → InH st k (.str y) (.ref a)
 | set {a : Addr} {ys : List Str} {y : Str} : st.μ a = some (.set ys) → k (decide (y ∈ ys)) → InH st k (.str y) (.ref a)
 | list {a : Addr} {xs : List V} {x : V} {ds : List PyData} {d : PyData} : st.μ a = some (.list xs) → RdAll st.μ xs ds → Rd st.μ x d → okD (.list ds) → okD d → k (ds.any fun y => PyData.eqv y d) → InH st k x (.ref a)
 | tup {a : Addr} {xs : List V} {x : V} {ds : List PyData} {d : PyData} : st.μ a = some (.tup xs) → RdAll st.μ xs ds → Rd st.μ x d → okD (.list ds) → okD d → k (ds.any fun y => PyData.eqv y d) → InH st k x (.ref a)
inductive CmpH (st : St) (k : Bool → Prop) : CmpOp → V → V → Prop
 | eq {a b : V} : EqH st k a b → CmpH st k .Eq a b
 | ne {a b : V} : EqH st (fun c => k (!c)) a b → CmpH st k .NotEq a b
 | in_ {a b : V} : InH st k a b → CmpH st k .In a b
 | nin {a b : V} : InH st (fun c => k (!c)) a b → CmpH st k .NotIn a b
 | is_ {a : V} : k (decide (a = .none)) → CmpH st k .Is a .none
 | isn {a : V} : k (!decide (a = .none)) → CmpH st k .IsNot a .none
 | lt {i j : Int} : k (decide (i < j)) → CmpH st k .Lt (.int i) (.int j)
 | gt {i j : Int} : k (decide (i > j)) → CmpH st k .Gt (.int i) (.int j)
 | le {i j : Int} : k (decide (i ≤ j)) → CmpH st k .LtE (.int i) (.int j)
 | ge {i j : Int} : k (decide (i ≥ j)) → CmpH st k .GtE (.int i) (.int j)
noncomputable def cmpM (op : CmpOp) (a b : V) : M Bool := fun Q _ st => CmpH st (fun c => Q c st) op a b
theorem Ok.room (Y : Ok g S md n C) : C.A.units + 60 < cLine := by have := Y.units; unfold cLine; omega
theorem Ok.deep (Y : Ok g S md n C) {m j : Nat} (h : j ≤ 50) (hm : m ≤ j) : C.A.units + m < cLine := by have := Y.room; omega
theorem Ok.deep1 (Y : Ok g S md n C) {m j : Nat} (h : j ≤ 50) (hm : m ≤ j) : C.A.units + 1 + m < cLine := by have := Y.room; omega
noncomputable abbrev CmpEnd (g : Gx) (C : Cx) (st : St) (k : Bool → Prop) (r : Value) (s' : Shared) : Prop := ∃ c, r = .bool c ∧ Sim g C st s' ∧ k c
theorem eq_run {a b : V} {va vb : Value} {k : Bool → Prop} {E : Value → Shared → Prop} (Y : Ok g S md n C) (x : Sim g C st s) (ha : er va = a) (hb : er vb = b) (h : EqH st k a b) :
  wpAny (model g.prog g.w) C.A (compareOp .Eq va vb) (CmpEnd g C st k) E s := by
 induction h with
 | int h =>
  obtain ⟨t, rfl⟩ := er_int ha
  obtain ⟨u, rfl⟩ := er_int hb
  exact PyProof.Rows.eq_int ⟨_, rfl, x, h⟩
 | str h =>
  obtain ⟨t, rfl⟩ := er_str ha
  obtain ⟨u, rfl⟩ := er_str hb
  exact PyProof.Rows.eq_str ⟨_, rfl, x, h⟩
 | @rd _ _ d e rd re od oe q =>
  refine exG1_1 (rd.reads x va ha) fun as r1 => ?_
  refine exG1_1 (re.reads x vb hb) fun bs r2 => ?_
  exact SeqAt.compareEq_reads r1 r2 od.1 oe.1 (Y.deep od.2 (Nat.min_le_left ..)) ⟨_, rfl, x, q⟩
theorem ne_run {a b : V} {va vb : Value} {k : Bool → Prop} {E : Value → Shared → Prop} (Y : Ok g S md n C) (x : Sim g C st s) (ha : er va = a) (hb : er vb = b) (h : EqH st (fun c => k (!c)) a b) :
  wpAny (model g.prog g.w) C.A (compareOp .NotEq va vb) (CmpEnd g C st k) E s := by
 induction h with
 | int h =>
  obtain ⟨t, rfl⟩ := er_int ha
  obtain ⟨u, rfl⟩ := er_int hb
  exact PyProof.Rows.ne_int ⟨_, rfl, x, h⟩
 | str h =>
  obtain ⟨t, rfl⟩ := er_str ha
  obtain ⟨u, rfl⟩ := er_str hb
  exact PyProof.Rows.ne_str ⟨_, rfl, x, h⟩
 | @rd _ _ d e rd re od oe q =>
  refine exG1_1 (rd.reads x va ha) fun as r1 => ?_
  refine exG1_1 (re.reads x vb hb) fun bs r2 => ?_
  exact SeqAt.compareNe_reads r1 r2 od.1 oe.1 (Y.deep od.2 (Nat.min_le_left ..)) ⟨_, rfl, x, q⟩
theorem isStrOf_self (y : Str) (t : Tok) : (PySem.strKind g.prog g.w).is y (.str y t) = true := by simp [PySem.strKind, Value.isStrOf]
theorem dict_in {a : Addr} {es : List (Str × V)} {ep : Nat} (x : Sim g C st s) (h : st.μ a = some (.dict es ep)) : (a == sysModules) = false ∧ ∃ kvs, s.heap.DictAt (PySem.strKind g.prog g.w) a kvs ep ∧ kvs.map (fun p => (p.1, er p.2)) = es := (x.objs a _ h).1
theorem in_run {a b : V} {va vb : Value} {k : Bool → Prop} {E : Value → Shared → Prop} (Y : Ok g S md n C) (x : Sim g C st s) (ha : er va = a) (hb : er vb = b) (h : InH st k a b) :
  wpAny (model g.prog g.w) C.A (compareOp .In va vb) (CmpEnd g C st k) E s := by
 induction h with
 | str h =>
  obtain ⟨t, rfl⟩ := er_str ha
  obtain ⟨u, rfl⟩ := er_str hb
  exact PyProof.Rows.in_str ⟨_, rfl, x, h⟩
 | dict hm h =>
  rw [er_ref hb]
  obtain ⟨t, rfl⟩ := er_str ha
  refine exG0_2 (dict_in x hm) fun hs r3 => ?_
  refine exG1_2 r3 fun kvs hd e => ?_
  refine wpAny_in_of (isStrOf_self _ t) hs hd.dictOf.mapOf ⟨_, rfl, x.tick, ?_⟩
  rw [← e, dget_map, Option.isSome_map] at h
  exact h
 | set hm h =>
  rw [er_ref hb]
  obtain ⟨t, rfl⟩ := er_str ha
  refine exG0_2 (x.objs _ _ hm) fun r4 _ => ?_
  obtain ⟨F, hF, e⟩ := r4
  refine wpAny_inSet_of (isStrOf_self _ t) rfl hF ⟨_, rfl, x.tick, ?_⟩
  rw [e]; exact h
 | @list _ _ _ ds d hm r1 r2 o1 o2 q =>
  rw [er_ref hb]
  refine exG0_2 (x.objs _ _ hm) fun r5 _ => ?_
  obtain ⟨vs, ⟨n, p⟩, q1⟩ := r5
  refine exG1_1 (r1.reads x vs.toList q1) fun as z1 => ?_
  refine exG1_1 (r2.reads x va ha) fun bs z2 => ?_
  exact SeqAt.in_list_reads (.list p rfl rfl z1) z2 o1.1 o2.1 (Y.deep1 o2.2 (Nat.min_le_right ..)) ⟨_, rfl, x, q⟩
 | @tup _ _ _ ds d hm r1 r2 o1 o2 q =>
  rw [er_ref hb]
  refine exG0_2 (x.objs _ _ hm) fun r6 _ => ?_
  obtain ⟨vs, n, p, q1⟩ := r6
  refine exG1_1 (r1.reads x vs.toList q1) fun as z1 => ?_
  refine exG1_1 (r2.reads x va ha) fun bs z2 => ?_
  exact SeqAt.in_tuple_reads (.tuple p rfl rfl z1) z2 o1.1 o2.1 (Y.deep1 o2.2 (Nat.min_le_right ..)) ⟨_, rfl, x, q⟩
theorem notIn_run {a b : V} {va vb : Value} {k : Bool → Prop} {E : Value → Shared → Prop} (Y : Ok g S md n C) (x : Sim g C st s) (ha : er va = a) (hb : er vb = b) (h : InH st (fun c => k (!c)) a b) :
  wpAny (model g.prog g.w) C.A (compareOp .NotIn va vb) (CmpEnd g C st k) E s := by
 induction h with
 | str h =>
  obtain ⟨t, rfl⟩ := er_str ha
  obtain ⟨u, rfl⟩ := er_str hb
  exact PyProof.Rows.notIn_str ⟨_, rfl, x, h⟩
 | dict hm h =>
  rw [er_ref hb]
  obtain ⟨t, rfl⟩ := er_str ha
  refine exG0_2 (dict_in x hm) fun hs r7 => ?_
  refine exG1_2 r7 fun kvs hd e => ?_
  refine wpAny_notIn_of (isStrOf_self _ t) hs hd.dictOf.mapOf ⟨_, rfl, x.tick, ?_⟩
  rw [← e, dget_map, Option.isSome_map] at h
  exact h
 | set hm h =>
  rw [er_ref hb]
  obtain ⟨t, rfl⟩ := er_str ha
  refine exG0_2 (x.objs _ _ hm) fun r8 _ => ?_
  obtain ⟨F, hF, e⟩ := r8
  refine wpAny_notInSet_of (isStrOf_self _ t) rfl hF ⟨_, rfl, x.tick, ?_⟩
  rw [e]; exact h
 | @list _ _ _ ds d hm r1 r2 o1 o2 q =>
  rw [er_ref hb]
  refine exG0_2 (x.objs _ _ hm) fun r9 _ => ?_
  obtain ⟨vs, ⟨n, p⟩, q1⟩ := r9
  refine exG1_1 (r1.reads x vs.toList q1) fun as z1 => ?_
  refine exG1_1 (r2.reads x va ha) fun bs z2 => ?_
  exact SeqAt.notIn_list_reads (.list p rfl rfl z1) z2 o1.1 o2.1 (Y.deep1 o2.2 (Nat.min_le_right ..)) ⟨_, rfl, x, q⟩
 | @tup _ _ _ ds d hm r1 r2 o1 o2 q =>
  rw [er_ref hb]
  refine exG0_2 (x.objs _ _ hm) fun r10 _ => ?_
  obtain ⟨vs, n, p, q1⟩ := r10
  refine exG1_1 (r1.reads x vs.toList q1) fun as z1 => ?_
  refine exG1_1 (r2.reads x va ha) fun bs z2 => ?_
  exact SeqAt.notIn_tuple_reads (.tuple p rfl rfl z1) z2 o1.1 o2.1 (Y.deep1 o2.2 (Nat.min_le_right ..)) ⟨_, rfl, x, q⟩
theorem none_dec (v : Value) : (v == .none) = decide (er v = .none) := by induction v <;> first | rfl | (simp [er])
theorem cmp_run {op : CmpOp} {a b : V} {va vb : Value} {k : Bool → Prop} {E : Value → Shared → Prop} (Y : Ok g S md n C) (x : Sim g C st s) (ha : er va = a) (hb : er vb = b) (h : CmpH st k op a b) :
  wpAny (model g.prog g.w) C.A (compareOp op va vb) (CmpEnd g C st k) E s := by
 induction h with
 | eq h => exact eq_run Y x ha hb h
 | ne h => exact ne_run Y x ha hb h
 | in_ h => exact in_run Y x ha hb h
 | nin h => exact notIn_run Y x ha hb h
 | is_ h => rw [er_none hb]; exact is_none ⟨_, rfl, x, by rw [none_dec, ha]; exact h⟩
 | isn h => rw [er_none hb]; exact isNot_none ⟨_, rfl, x, by rw [none_dec, ha]; exact h⟩
 | lt h => obtain ⟨t, rfl⟩ := er_int ha; obtain ⟨u, rfl⟩ := er_int hb; exact PyProof.Rows.lt_int ⟨_, rfl, x, h⟩
 | gt h => obtain ⟨t, rfl⟩ := er_int ha; obtain ⟨u, rfl⟩ := er_int hb; exact PyProof.Rows.gt_int ⟨_, rfl, x, h⟩
 | le h => obtain ⟨t, rfl⟩ := er_int ha; obtain ⟨u, rfl⟩ := er_int hb; exact PyProof.Rows.le_int ⟨_, rfl, x, h⟩
 | ge h => obtain ⟨t, rfl⟩ := er_int ha; obtain ⟨u, rfl⟩ := er_int hb; exact PyProof.Rows.ge_int ⟨_, rfl, x, h⟩
theorem ref_Compare {op : CmpOp} {p q : M V} {l r : Expr} {pos : Pos} (hl : RefE g S md n p l) (hr : RefE g S md n q r) (hm : behindInMarks op r = false := by with_unfolding_all rfl) :
  RefE g S md n (mbind p fun a => mbind q fun b => mbind (cmpM op a b) fun c => mret (.bool c)) (.Compare l [op] [r] pos) := fun C Y st s Q X x h =>
 wpAny_Compare1 (hl.use Y x h fun a va st1 s1 ha x1 h1 => hr.use Y x1 h1 fun b vb st2 s2 hb x2 h2 =>
  wpAny_mono (cmp_run Y x2 ha hb h2) (fun r s' q0 => by obtain ⟨c, e, x3, q⟩ := q0; exact ⟨_, st2, by rw [e]; rfl, x3, q⟩) fun _ _ e => e) hm
theorem ref_T_Compare {op : CmpOp} {p q : M V} {l r : Expr} {pos : Pos} (hl : RefE g S md n p l) (hr : RefE g S md n q r) (hm : behindInMarks op r = false := by with_unfolding_all rfl) :
  RefT g S md n (mbind p fun a => mbind q fun b => cmpM op a b) (.Compare l [op] [r] pos) := fun C Y st s Q X x h =>
 wpAny_isTrue_Compare1 (hl.use Y x h fun a va st1 s1 ha x1 h1 => hr.use Y x1 h1 fun b vb st2 s2 hb x2 h2 =>
  wpAny_mono (cmp_run Y x2 ha hb h2) (fun r s' q0 => by obtain ⟨c, e, x3, q⟩ := q0; rw [e]; exact wpAny_truthy_bool ⟨_, st2, rfl, x3, q⟩) fun _ _ e => e) hm
inductive TruH (st : St) (k : Bool → Prop) : V → Prop
 | none : k false → TruH st k .none
 | bool {b : Bool} : k b → TruH st k (.bool b)
 | int {i : Int} : k (i != 0) → TruH st k (.int i)
 | str {x : Str} : x.length ≤ 100000 → k ((x.length : Int) != 0) → TruH st k (.str x)
 | list {a : Addr} {xs : List V} : st.μ a = some (.list xs) → xs.length ≤ 100000 → k (!xs.isEmpty) → TruH st k (.ref a)
 | tup {a : Addr} {xs : List V} : st.μ a = some (.tup xs) → xs.length ≤ 100000 → k (!xs.isEmpty) → TruH st k (.ref a)
 | dict {a : Addr} {es : List (Str × V)} {ep : Nat} : st.μ a = some (.dict es ep) → es.length ≤ 100000 → k (!es.isEmpty) → TruH st k (.ref a)
 | pin {a : Addr} {vs : Array Value} : st.μ a = some (.pin vs) → vs.size ≤ 100000 → k (!vs.isEmpty) → TruH st k (.ref a)
noncomputable def truthM (v : V) : M Bool := fun Q _ st => TruH st (fun c => Q c st) v
theorem arr_len {vs : Array Value} {xs : List V} (q : vs.toList.map er = xs) : vs.size = xs.length := by rw [← q, List.length_map, Array.length_toList]
theorem arr_emp {vs : Array Value} {xs : List V} (q : vs.toList.map er = xs) : vs.isEmpty = xs.isEmpty := by rw [← q, List.isEmpty_map, Array.isEmpty_toList]
theorem truth_run {a : V} {va : Value} {k : Bool → Prop} {E : Value → Shared → Prop} (Y : Ok g S md n C) (x : Sim g C st s) (ha : er va = a) (h : TruH st k a) :
  wpAny (model g.prog g.w) C.A (truthy va) (fun c s' => Sim g C st s' ∧ k c) E s := by
 induction h with
 | none h => rw [er_none ha]; exact PyProof.Rows.truthy_none ⟨x, h⟩
 | bool h => rw [er_bool ha]; exact wpAny_truthy_bool ⟨x, h⟩
 | int h => obtain ⟨t, rfl⟩ := er_int ha; exact PyProof.Rows.truthy_int ⟨x, h⟩
 | str z h => obtain ⟨t, rfl⟩ := er_str ha; exact PySem.P.truthy_str (by omega) ⟨x.tick, h⟩
 | list hm z h =>
  rw [er_ref ha]
  refine exG0_2 (x.objs _ _ hm) fun r11 _ => ?_
  obtain ⟨vs, p, q⟩ := r11
  exact wpAny_truthy_list p.isList (by rw [arr_len q]; omega) ⟨x.tick, by rw [arr_emp q]; exact h⟩
 | tup hm z h =>
  rw [er_ref ha]
  refine exG0_2 (x.objs _ _ hm) fun r12 _ => ?_
  obtain ⟨vs, n, p, q⟩ := r12
  exact ktl_truthy p (by rw [arr_len q]; omega) ⟨x.tick, by rw [arr_emp q]; exact h⟩
 | dict hm z h =>
  rw [er_ref ha]
  refine exG0_2 (dict_in x hm) fun hs r13 => ?_
  refine exG1_2 r13 fun kvs hd e => ?_
  have hl := congrArg List.length e
  rw [List.length_map] at hl
  refine wpAny_truthy_dict hs hd.dictOf (by omega) ⟨x.tick, ?_⟩
  rw [← e, List.isEmpty_map] at h
  exact h
 | @pin _ vs hm z h =>
  rw [er_ref ha]
  have p : s.heap.PlainList _ vs := ⟨0, (x.objs _ _ hm).1⟩
  exact wpAny_truthy_list p.isList (by omega) ⟨x.tick, h⟩
theorem ref_T_value {p : M V} {e : Expr} (h : RefE g S md n p e) (he : ∀ env whole, isTrue e env whole = (do let v ← whole; standAt e.pos; holding [v] (truthy v)) := by intro _ _; rfl) :
  RefT g S md n (mbind p truthM) e := fun C Y st s Q X x hp =>
 wpAny_isTrue_value (h.use Y x hp fun a va st1 s1 ha x1 h1 => wpAny_mono (truth_run Y x1 ha h1) (fun c s' q0 => by obtain ⟨x2, q⟩ := q0; exact ⟨c, st1, rfl, x2, q⟩) fun _ _ e => e) (he _ _)
end Kk
end
section
namespace Kk
variable {g : Gx} {S : Sc} {md : Md} {n : Nat} {C : Cx} {st st' : St} {s : Shared} {α β γ δ : Type}
theorem Ok.here (Y : Ok g S md n C) (x : Sim g C st s) : Static g s.heap := Y.stat _ x.base
theorem handed_of {v : Value} {u : V} (e : er v = u) (h : u ≠ .oth) : handedIn v = true := by
 induction v <;> first | rfl | (exact absurd e.symm h)
noncomputable def attrB (K : Frag) (C : Addr) (name : Str) : Bool := plainGet K C name && hasDictIn K C && (match findIn K (.ref C) name with | some a => noGet K a | none => false)
noncomputable def setB (K : Frag) (C : Addr) (name : Str) : Bool := (findIn K (.ref C) "__setattr__" == some (some (.builtin "object.__setattr__"))) && plainOver K C && (takerIn K C name == some none) && hasDictIn K C
inductive AttrH (c : Addr) (nm : Str) (Q : V → St → Prop) (st : St) : V → Prop
 | mk {a d : Addr} {es : List (Str × V)} {ep : Nat} {u : V} : st.μ a = some (.inst c d) → st.μ d = some (.dict es ep) → dget es nm = some u → u ≠ .oth → Q u st → AttrH c nm Q st (.ref a)
noncomputable def attrM (c : Addr) (nm : Str) (v : V) : M V := fun Q _ st => AttrH c nm Q st v
inductive SetAH (c : Addr) (nm : Str) (u : V) (Q : Unit → St → Prop) (st : St) : V → Prop
 | mk {a d : Addr} {es : List (Str × V)} {ep : Nat} : st.μ a = some (.inst c d) → st.μ d = some (.dict es ep) → es.length ≤ 1000 → (∀ ep, Q () (st.put d (.dict (dput es nm u) ep))) → SetAH c nm u Q st (.ref a)
noncomputable def setAttrM (c : Addr) (nm : Str) (v u : V) : M Unit := fun Q _ st => SetAH c nm u Q st v
theorem isStr_of_is {k : Str} {v : Value} (h : (PySem.strKind g.prog g.w).is k v = true) (nm : Str) : v.isStr nm = (PySem.strKind g.prog g.w).is nm v := by
 obtain ⟨t, rfl⟩ := Value.isStrOf_shape h
 rfl
theorem dict_dictOf {h : Heap} {d : Addr} {kvs : List (Str × Value)} {ep : Nat} (hd : h.DictAt (PySem.strKind g.prog g.w) d kvs ep) :
  ∃ es : List DictEntry, h.get? d = some (dictOf es ep) ∧ KeysOf (PySem.strKind g.prog g.w) es.toArray ∧ Pairs (PySem.strKind g.prog g.w) es kvs ∧ (kvs.map (·.1)).Nodup := by
 refine exG2_6 hd fun o es ho r1 hdat hk hp hn => ?_
 obtain ⟨c1, c2, c3⟩ := r1
 refine ⟨es.toList, ?_, by simpa using hk, hp, hn⟩
 rw [ho]
 obtain ⟨oc, od, oda, osl⟩ := o
 dsimp only at c1 c2 c3 hdat
 subst c1 c2 c3 hdat
 simp [dictOf]
theorem pairs_strs {es : List DictEntry} {kvs : List (Str × Value)} (hp : Pairs (PySem.strKind g.prog g.w) es kvs) : ∀ e ∈ es, ∃ k, (PySem.strKind g.prog g.w).is k e.key = true := by
 induction hp with
 | nil => intro e he; k_call_by "c" he
 | cons h1 _ _ ih => intro e he; rcases List.mem_cons.mp he with rfl | he; exact ⟨_, h1⟩; exact ih e he
theorem find_isStr {es : List DictEntry} {kvs : List (Str × Value)} (hp : Pairs (PySem.strKind g.prog g.w) es kvs) (nm : Str) : (es.find? fun e => e.key.isStr nm) = es.find? fun e => (PySem.strKind g.prog g.w).is nm e.key := by
 have := pairs_strs hp
 clear hp
 induction es with
 | nil => rfl
 | cons e r ih =>
  refine exG1_1 (this e (.head _)) fun k hk => ?_
  rw [List.find?_cons, List.find?_cons, isStr_of_is hk nm, ih fun e he => this e (.tail _ he)]
theorem getL_some {es : List DictEntry} {kvs : List (Str × Value)} (hp : Pairs (PySem.strKind g.prog g.w) es kvs) {nm : Str} {v : Value} (h : valueAt kvs nm = some v) : getL nm es = some (some v) := by
 have h2 := hp.find nm
 rw [h, ← find_isStr hp nm] at h2
 refine exG1_2 (Option.map_eq_some_iff.mp h2) fun e h3 h4 => ?_
 unfold getL
 rw [h3]
 simp [h4]
theorem getL_none {es : List DictEntry} {kvs : List (Str × Value)} (hp : Pairs (PySem.strKind g.prog g.w) es kvs) {nm : Str} (h : valueAt kvs nm = none) : getL nm es = some none := by
 have h2 := hp.find nm
 rw [h, ← find_isStr hp nm] at h2
 have h3 := Option.map_eq_none_iff.mp h2
 unfold getL
 rw [h3]
 have h4 : es.any (·.refKey) = false := by
  rw [List.any_eq_false]
  intro e he
  refine exG1_1 (pairs_strs hp e he) fun k hk => ?_
  refine exG1_1 (Value.isStrOf_shape hk) fun t ht => ?_
  simp [DictEntry.refKey, ht]
 simp [h4]
theorem dget_real {es : List (Str × V)} {kvs : List (Str × Value)} (e : kvs.map (fun p => (p.1, er p.2)) = es) {nm : Str} {u : V} (h : dget es nm = some u) : ∃ v, valueAt kvs nm = some v ∧ er v = u := by
 rw [← e, dget_map] at h
 refine exG1_2 (Option.map_eq_some_iff.mp h) fun v a b => ?_
 exact ⟨v, a, b⟩
theorem dget_real_none {es : List (Str × V)} {kvs : List (Str × Value)} (e : kvs.map (fun p => (p.1, er p.2)) = es) {nm : Str} (h : dget es nm = none) : valueAt kvs nm = none := by
 rw [← e, dget_map] at h
 exact Option.map_eq_none_iff.mp h
theorem inst_at {a c d : Addr} {es : List (Str × V)} {ep : Nat} (x : Sim g C st s) (h1 : st.μ a = some (.inst c d)) (h2 : st.μ d = some (.dict es ep)) :
  ∃ kvs es', s.heap.get? a = some (instObj c d) ∧ s.heap.get? d = some (dictOf es' ep) ∧ InstAt s.heap a (instObj c d) c (some (dictOf es' ep)) ∧ Pairs (PySem.strKind g.prog g.w) es' kvs ∧
   KeysOf (PySem.strKind g.prog g.w) es'.toArray ∧ (kvs.map (·.1)).Nodup ∧ kvs.map (fun p => (p.1, er p.2)) = es ∧ (d == sysModules) = false := by
 have q1 := (x.objs _ _ h1).1
 refine exG0_2 (dict_in x h2) fun hs r2 => ?_
 refine exG1_2 r2 fun kvs hd e => ?_
 refine exG1_4 (dict_dictOf hd) fun es' k1 k2 k3 k4 => ?_
 exact ⟨kvs, es', q1, k1, ⟨q1, rfl, rfl, k1⟩, k3, k2, k4, e, hs⟩
theorem attr_run {c : Addr} {nm : Str} {a : V} {va : Value} {b : Bool} {Q : V → St → Prop} {X : Ex → St → Prop} {E : Value → Shared → Prop} (hB : attrB g.K c nm = true) (Y : Ok g S md n C) (x : Sim g C st s) (ha : er va = a) (h : attrM c nm a Q X st) :
  wpAny (model g.prog g.w) C.A (getAttr va nm b) (Post g C VR Q) E s := by
 obtain ⟨h1, h2, hu, ho, h⟩ := h
 rw [er_ref ha]
 refine exG2_8 (inst_at x h1 h2) fun kvs es' i1 i2 I p _ _ e _ => ?_
 refine exG1_2 (dget_real e hu) fun v v1 v2 => ?_
 simp only [attrB, Bool.and_eq_true] at hB
 refine exG0_2 hB fun r3 b3 => ?_
 obtain ⟨b1, b2⟩ := r3
 split at b3
 ·rename_i at' hat
  exact get_value (Y.here x).kin I (plainGet_of b1).1 (findObj_own b2 hat b3 (getL_some p v1)) (handed_of v2 ho) ⟨_, st, v2, x.tick, h⟩
 ·k_call_by "c" b3
theorem ref_Attribute {c : Addr} {nm : Str} {p : M V} {e : Expr} {pos : Pos} (hB : attrB g.K c nm = true) (h : RefE g S md n p e)
  (he : ∀ env, eval (.Attribute e nm pos) env = (do
   let o ← eval e env
   standAt pos.atName
   let r ← holding [o] (getAttr o nm true)
   letTemporaryGo e o r
   pure r) := by intro _; with_unfolding_all rfl) : RefE g S md n (mbind p (attrM c nm)) (.Attribute e nm pos) := fun C Y st s Q X x hp =>
 Attribute_any_ (h.use Y x hp fun a va st1 s1 ha x1 h1 => attr_run hB Y x1 ha h1) (he _)
theorem dict_put_at {h : Heap} {d : Addr} {kvs : List (Str × Value)} {ep : Nat} {nm : Str} {v : Value} {t : Tok} (hd : h.DictAt (PySem.strKind g.prog g.w) d kvs ep) :
  ∃ ep', (h.update d (Obj.putName nm (hashStr g.w nm) (.str nm t) v)).DictAt (PySem.strKind g.prog g.w) d (stored kvs nm v) ep' := by
 refine exG1_4 (dict_dictOf hd) fun es ho hk hp hn => ?_
 have hkey : (PySem.strKind g.prog g.w).is nm (.str nm t) = true := isStrOf_self nm t
 have hidx : (es.findIdx? fun e => (PySem.strKind g.prog g.w).is nm e.key) = kvs.findIdx? fun kv => decide (kv.1 = nm) := hp.findIdx nm
 have hsame : (es.findIdx? fun e => e.key.isStr nm) = es.findIdx? fun e => (PySem.strKind g.prog g.w).is nm e.key := by
  have := pairs_strs hp
  clear hidx hk ho hd hp
  induction es with
  | nil => rfl
  | cons e r ih =>
   refine exG1_1 (this e (.head _)) fun k hk => ?_
   rw [List.findIdx?_cons, List.findIdx?_cons, isStr_of_is hk nm, ih fun e he => this e (.tail _ he)]
 have hput : Obj.putName nm (hashStr g.w nm) (.str nm t) v (dictOf es ep) = (match es.findIdx? (fun e => (PySem.strKind g.prog g.w).is nm e.key) with
   | some i => dictOf (es.modify i fun e => { e with val := v }) ep
   | none => dictOf (es ++ [⟨hashStr g.w nm, .str nm t, v⟩]) (ep + 1)) := by
  rw [Obj.putName_eq]
  unfold Obj.putNameByArray dictOf
  simp only [List.findIdx?_toArray, hsame]
  cases es.findIdx? fun e => (PySem.strKind g.prog g.w).is nm e.key <;> simp
 cases hi : es.findIdx? fun e => (PySem.strKind g.prog g.w).is nm e.key with
 | some i =>
  rw [hi] at hput
  dsimp only at hput
  refine ⟨ep, dictOf (es.modify i fun e => { e with val := v }) ep, (es.modify i fun e => { e with val := v }).toArray, ?_, ⟨rfl, rfl, rfl⟩, rfl, ?_, ?_, ?_⟩
  ·rw [Heap.get?_update_self _ ho (by rw [hput]; rfl), hput]
  ·have := hk.modify i v
   simpa using this
  ·rw [stored, if_pos (any_of_findIdx_some (hidx ▸ hi))]
   simpa using hp.modify hn hi v
  ·rw [stored, if_pos (any_of_findIdx_some (hidx ▸ hi)), keys_map_store]; exact hn
 | none =>
  rw [hi] at hput
  dsimp only at hput
  have hnot : nm ∉ kvs.map (·.1) := not_mem_of_findIdx_none (hidx ▸ hi)
  have hany : ¬ (kvs.any fun kv => decide (kv.1 = nm)) = true := by
   rw [List.any_eq_true]; rintro ⟨kv, hkv, he⟩
   exact hnot (List.mem_map.mpr ⟨kv, hkv, of_decide_eq_true he⟩)
  refine ⟨ep + 1, dictOf (es ++ [⟨hashStr g.w nm, .str nm t, v⟩]) (ep + 1), (es ++ ([⟨hashStr g.w nm, .str nm t, v⟩] : List DictEntry)).toArray, ?_, ⟨rfl, rfl, rfl⟩, rfl, ?_, ?_, ?_⟩
  ·rw [Heap.get?_update_self _ ho (by rw [hput]; rfl), hput]
  ·have : KeysOf (PySem.strKind g.prog g.w) (es.toArray.push ⟨hashStr g.w nm, .str nm t, v⟩) := hk.push hkey v
   simpa using this
  ·rw [stored, if_neg hany]
   simpa using hp.append hkey (hashStr g.w nm) v
  ·rw [stored, if_neg hany, List.map_append, List.nodup_append]
   refine ⟨hn, by simp, ?_⟩
   intro a ha b hb
   simp only [List.map_cons, List.map_nil, List.mem_singleton] at hb
   subst hb
   exact fun e => hnot (e ▸ ha)
theorem setattr_run {c : Addr} {nm : Str} {a u : V} {va vu : Value} {Q : Unit → St → Prop} {X : Ex → St → Prop} {E : Value → Shared → Prop} {G : Unit → Shared → Prop} (hB : setB g.K c nm = true) (Y : Ok g S md n C) (x : Sim g C st s)
  (ha : er va = a) (hu : er vu = u) (h : setAttrM c nm a u Q X st) (k : ∀ st' s', Sim g C st' s' → Q () st' → G () s') :
  wpAny (model g.prog g.w) C.A (setAttr va nm vu) G E s := by
 obtain @⟨a', d, es, ep, h1, h2, hz, h⟩ := h
 rw [er_ref ha]
 refine exG2_8 (inst_at x h1 h2) fun kvs es' i1 i2 I p kk nd e hs => ?_
 simp only [setB, Bool.and_eq_true, beq_iff_eq] at hB
 refine exG0_2 hB fun r4 b4 => ?_
 obtain ⟨⟨b1, b2⟩, b3⟩ := r4
 have X' := (Y.here x).kin
 refine set_plain X' I b1 (osa_open (s := { s with toks := s.toks + 1 }) X' I b2 b3 fun b => ?_)
 refine exG1_2 (any_some b4) fun cd hc hd' => ?_
 refine wpAny_bind (wpAny_pure (wpAny_bind (wpAny_bind (wpAny_loadPart i1 (wpAny_bind (Looks.here (s := { s with toks := s.toks + 1 }) (looks_clsIn X' hc) ?_))))))
 rw [hd']
 refine wpAny_pure (a := some d) (wpAny_bind (wpAny_pure (wpAny_bind ?_)))
 unfold nsSet
 refine wpAny_bind (wpAny_bind (wpAny_askSetting (wpAny_pure (wpAny_bind (wpAny_mkText (wpAny_bind (wpAny_loadPart i2 ?_)))))))
 dsimp only [dictOf]
 have c0 : (es'.toArray.any (·.refKey)) = false := by
  rw [← Array.any_toList, List.any_eq_false]
  intro en he
  refine exG1_1 (pairs_strs p en (by simpa using he)) fun k' hk => ?_
  refine exG1_1 (Value.isStrOf_shape hk) fun t ht => ?_
  simp [DictEntry.refKey, ht]
 rw [aRefKeyMayBeTheName_eq]
 unfold aRefKeyMayBeTheNameByArray
 rw [c0, Bool.and_false]
 refine wpAny_updatePart i2 ?_
 refine exG0_2 (dict_in x h2) fun _ r5 => ?_
 refine exG1_2 r5 fun kvs' hd2 e2 => ?_
 refine exG1_1 (dict_put_at (t := s.toks + 1) (nm := nm) (v := vu) hd2) fun ep' put => ?_
 refine exG1_4 (dict_dictOf put) fun es3 ho3 _ p3 _ => ?_
 have hlen : es3.length ≤ 1001 := by
  rw [p3.length]
  have := stored_length_le kvs' nm vu
  have l2 := congrArg List.length e2
  rw [List.length_map] at l2
  omega
 refine wpAny_bind (wpAny_lookBehind ho3 (pastItsLine_dict (by rw [List.size_toArray, sizeLine_eq]; omega)) (wpAny_pure ?_))
 refine k _ _ (x.change Y (tk := s.toks + 1 + 1) (o' := .dict (dput es nm u) ep') h2 (Heap.SameBut.update ..).extBut ⟨hs, _, put, ?_⟩) (h ep')
 rw [dput_map, e2, hu]
theorem ref_AssignAttr {c : Addr} {nm : Str} {p q : M V} {o e : Expr} {apos pos : Pos} (hB : setB g.K c nm = true) (hv : RefE g S md n p e) (ho : RefE g S md n q o)
  (hs : ∀ env, swapsWith e (some (.Attribute o nm apos)) pos.line env = pure false := by intro _; rfl) :
  RefS g S md n (mbind p fun v => mbind q fun a => mbind (setAttrM c nm a v) fun _ => mret .next) (.Assign [.Attribute o nm apos] e pos) := fun C Y st s Q X x hp =>
 plainObj_wpAny_Assign_Attribute (hv.use Y x hp fun v vv st1 s1 ev x1 h1 => ho.use Y x1 h1 fun a va st2 s2 ea x2 h2 =>
  setattr_run hB Y x2 ea ev h2 fun st3 s3 x3 q3 => ⟨.next, st3, trivial, x3, q3⟩) (hs _)
end Kk
end
section
namespace Kk
variable {g : Gx} {S : Sc} {md : Md} {n : Nat} {C : Cx} {st st' : St} {s : Shared} {α β γ δ : Type}
theorem len_er {vs : List Value} {xs : List V} (e : vs.map er = xs) : vs.length = xs.length := by rw [← e, List.length_map]
theorem size_er {vs : Array Value} {xs : List V} (e : vs.toList.map er = xs) : vs.size = xs.length := by rw [← e, List.length_map, Array.length_toList]
theorem sizeL : (1000 : Nat) ≤ sizeLine := by rw [sizeLine_eq]; omega
noncomputable abbrev RefX (g : Gx) (S : Sc) (md : Md) (n : Nat) (p : M (List V)) (es : List Expr) : Prop := ∀ pos, Ref g S md n (fun a b => b.map er = a) p (fun env => spliced (backTo pos (starEach es env)))
theorem refX_nil : RefX g S md n (mret []) [] := fun pos C Y st s Q X x h => wpAny_items_nil ⟨[], st, rfl, x, h⟩
theorem refX_cons {p : M V} {q : M (List V)} {e : Expr} {r : List Expr} (h : RefE g S md n p e) (hr : RefX g S md n q r) (he : ∀ env, starEach (e :: r) env = (false, eval e env) :: starEach r env := by intro _; rfl) :
  RefX g S md n (mbind p fun v => mbind q fun vs => mret (v :: vs)) (e :: r) := fun pos C Y st s Q X x hp =>
 wpAny_items_cons (h.use Y x hp fun v b st1 s1 hv x1 h1 => (hr pos).use Y x1 h1 fun vs bs st2 s2 hvs x2 h2 => ⟨_, st2, by show List.map er (b :: bs) = _; rw [List.map_cons, hv, hvs], x2, h2⟩) (he _)
noncomputable def tupM (xs : List V) : M V := fun Q _ st => xs.length ≤ 1000 ∧ ∀ a, st.μ a = none → Q (.ref a) (st.put a (.tup xs))
noncomputable def listM (xs : List V) : M V := fun Q _ st => xs.length ≤ 1000 ∧ ∀ a, st.μ a = none → Q (.ref a) (st.put a (.list xs))
theorem Sim.newTup (x : Sim g C st s) {vs : List Value} {xs : List V} (e : vs.map er = xs) : Sim g C (st.put s.heap.objs.size (.tup xs)) { s with heap := s.heap.push { cls := .type "tuple", data := .seq vs.toArray } } :=
 x.push (tk := s.toks) ⟨vs.toArray, 0, Heap.get?_push_size _ rfl, by simpa using e⟩
theorem Sim.newList (x : Sim g C st s) {vs : List Value} {xs : List V} (e : vs.map er = xs) : Sim g C (st.put s.heap.objs.size (.list xs)) { s with heap := s.heap.push { cls := .type "list", data := .seq vs.toArray } } :=
 x.push (tk := s.toks) ⟨vs.toArray, ⟨0, Heap.get?_push_size _ rfl⟩, by simpa using e⟩
theorem Sim.fresh (x : Sim g C st s) : st.μ s.heap.objs.size = none := x.mu_none (Heap.get?_none_of_le (Nat.le_refl _))
theorem ref_Tuple {p : M (List V)} {es : List Expr} {k : Nat} {pos : Pos} (h : RefX g S md n p es) : RefE g S md n (mbind p tupM) (.Tuple es k pos) := fun C Y st s Q X x hp =>
 wpAny_Tuple ((h pos).use Y x hp fun xs vs st1 s1 e x1 q0 => by obtain ⟨hz, q⟩ := q0; exact ⟨by rw [len_er e]; exact Nat.le_trans hz sizeL, _, _, rfl, x1.newTup e, q _ x1.fresh⟩)
theorem ref_List {p : M (List V)} {es : List Expr} {pos : Pos} (h : RefX g S md n p es) : RefE g S md n (mbind p listM) (.List es pos) := fun C Y st s Q X x hp =>
 wpAny_List ((h pos).use Y x hp fun xs vs st1 s1 e x1 q0 => by obtain ⟨hz, q⟩ := q0; exact ⟨by rw [len_er e]; exact Nat.le_trans hz sizeL, _, _, rfl, x1.newList e, q _ x1.fresh⟩)
inductive BinH (Q : V → St → Prop) (st : St) : Operator → V → V → Prop
 | addI {i j : Int} : Q (.int (i + j)) st → BinH Q st .Add (.int i) (.int j)
 | subI {i j : Int} : Q (.int (i - j)) st → BinH Q st .Sub (.int i) (.int j)
 | mulI {i j : Int} : i.natAbs ≤ 1000 → Q (.int (i * j)) st → BinH Q st .Mult (.int i) (.int j)
 | divI {i j : Int} : j ≠ 0 → j.natAbs ≤ 100000 → Q (.int (i.fdiv j)) st → BinH Q st .FloorDiv (.int i) (.int j)
 | modI {i j : Int} : j ≠ 0 → Q (.int (i.fmod j)) st → BinH Q st .Mod (.int i) (.int j)
 | addS {x y : Str} : x.length ≤ 100000 → y.length ≤ 100000 → Q (.str (x ++ y)) st → BinH Q st .Add (.str x) (.str y)
 | addL {a b : Addr} {xs ys : List V} : st.μ a = some (.list xs) → st.μ b = some (.list ys) → xs.length ≤ 1000 → ys.length ≤ 1000 → (∀ a, st.μ a = none → Q (.ref a) (st.put a (.list (xs ++ ys)))) → BinH Q st .Add (.ref a) (.ref b)
 | addT {a b : Addr} {xs ys : List V} : st.μ a = some (.tup xs) → st.μ b = some (.tup ys) → xs.length ≤ 1000 → ys.length ≤ 1000 → xs ≠ [] → ys ≠ [] → (∀ a, st.μ a = none → Q (.ref a) (st.put a (.tup (xs ++ ys)))) → BinH Q st .Add (.ref a) (.ref b)
noncomputable def binM (op : Operator) (a b : V) : M V := fun Q _ st => BinH Q st op a b
theorem bits_small {i : Int} (h : i.natAbs ≤ 1000) : Builtin.Int.intBits i ≤ 64 := by
 unfold Builtin.Int.intBits
 by_cases h0 : i.natAbs = 0
 ·have : i = 0 := by omega
  subst this; decide
 ·have : i.natAbs.log2 < 10 := (Nat.log2_lt h0).mpr (by omega)
  split <;> omega
theorem ne_er {us : Array Value} {zs : List V} (e : us.toList.map er = zs) (h : zs ≠ []) : ¬ us.isEmpty = true := by
 intro he
 have := size_er e
 rw [Array.isEmpty_iff_size_eq_zero.mp he] at this
 exact h (List.eq_nil_of_length_eq_zero this.symm)
theorem bin_run {op : Operator} {a b : V} {va vb : Value} {Q : V → St → Prop} {X : Ex → St → Prop} {E : Value → Shared → Prop} (Y : Ok g S md n C) (x : Sim g C st s) (ha : er va = a) (hb : er vb = b) (h : binM op a b Q X st) :
  wpAny (model g.prog g.w) C.A (binaryOp op va vb) (Post g C VR Q) E s := by
 induction h with
 | addI h => obtain ⟨t, rfl⟩ := er_int ha; obtain ⟨u, rfl⟩ := er_int hb; exact PySem.P.add_int ⟨_, st, rfl, x.tick, h⟩
 | subI h => obtain ⟨t, rfl⟩ := er_int ha; obtain ⟨u, rfl⟩ := er_int hb; exact PySem.P.sub_int ⟨_, st, rfl, x.tick, h⟩
 | mulI z h => obtain ⟨t, rfl⟩ := er_int ha; obtain ⟨u, rfl⟩ := er_int hb; exact PySem.P.mul_int ⟨_, st, rfl, x.tick, h⟩ (.of_left (bits_small z))
 | divI z z2 h => obtain ⟨t, rfl⟩ := er_int ha; obtain ⟨u, rfl⟩ := er_int hb; exact PyProof.Rows.floordiv_int z ⟨_, st, rfl, x.tick, h⟩ (.inl (PyProof.noPylong_small (by omega)))
 | modI z h => obtain ⟨t, rfl⟩ := er_int ha; obtain ⟨u, rfl⟩ := er_int hb; exact PyProof.Rows.mod_int' z ⟨_, st, rfl, x.tick, h⟩
 | addS z1 z2 h => obtain ⟨t, rfl⟩ := er_str ha; obtain ⟨u, rfl⟩ := er_str hb; exact PyProof.Rows.add_str (fun t' tk => ⟨_, st, rfl, x.tick, h⟩) (by rw [sizeLine_eq]; omega)
 | addL h1 h2 z1 z2 q =>
  rw [er_ref ha, er_ref hb]
  refine exG0_2 (x.objs _ _ h1) fun r1 _ => ?_
  obtain ⟨vs, ⟨n1, p1⟩, e1⟩ := r1
  refine exG0_2 (x.objs _ _ h2) fun r2 _ => ?_
  obtain ⟨ws, ⟨n2, p2⟩, e2⟩ := r2
  refine concat_meets ⟨_, p1, rfl⟩ ⟨_, p2, rfl⟩ noFill_list_add seq_list_add PySem.F.slot_list_add PySem.F.entry_list_add (PySem.F.args_list_add_2 _ _) (list_addW _ _ vs ws n1 n2 none none #[] #[] (by rw [size_er e1, size_er e2, sizeLine_eq]; omega)) ⟨p1, p2, ?_⟩
  rw [show (vs ++ ws) = (vs.toList ++ ws.toList).toArray from by simp]
  exact ⟨_, _, rfl, x.newList (by rw [List.map_append, e1, e2]), q _ x.fresh⟩
 | addT h1 h2 z1 z2 n1' n2' q =>
  rw [er_ref ha, er_ref hb]
  refine exG0_2 (x.objs _ _ h1) fun r3 _ => ?_
  obtain ⟨vs, n1, p1, e1⟩ := r3
  refine exG0_2 (x.objs _ _ h2) fun r4 _ => ?_
  obtain ⟨ws, n2, p2, e2⟩ := r4
  refine PySem.P.add_tuple p1 p2 (ne_er e1 n1') (ne_er e2 n2') ?_ (by rw [size_er e1, size_er e2, sizeLine_eq]; omega)
  rw [show (vs ++ ws) = (vs.toList ++ ws.toList).toArray from by simp]
  exact ⟨_, _, rfl, x.newTup (by rw [List.map_append, e1, e2]), q _ x.fresh⟩
theorem ref_BinOp {op : Operator} {p q : M V} {l r : Expr} {pos : Pos} (hl : RefE g S md n p l) (hr : RefE g S md n q r) : RefE g S md n (mbind p fun a => mbind q fun b => binM op a b) (.BinOp l op r pos) := fun C Y st s Q X x h =>
 wpAny_BinOp (hl.use Y x h fun a va st1 s1 ha x1 h1 => hr.use Y x1 h1 fun b vb st2 s2 hb x2 h2 => wpAny_mono (bin_run (E := PostX g C X) Y x2 ha hb h2) (fun _ _ p => p) fun _ _ e => e)
theorem ref_USub {p : M V} {e : Expr} {pos : Pos} (h : RefE g S md n p e) : RefE g S md n (mbind p fun a Q _ st => match a with | .int i => Q (.int (-i)) st | _ => False) (.UnaryOp .USub e pos) := fun C Y st s Q X x hp =>
 wpAny_UnaryOp (h.use Y x hp fun a va st1 s1 ha x1 h1 => by
  dsimp only at h1
  split at h1
  ·obtain ⟨t, rfl⟩ := er_int ha
   exact PySem.P.neg_int ⟨_, st1, rfl, x1.tick, h1⟩
  ·exact h1.elim)
inductive IopH (Q : V → St → Prop) (st : St) : Operator → V → V → Prop
 | addI {i j : Int} : Q (.int (i + j)) st → IopH Q st .Add (.int i) (.int j)
 | subI {i j : Int} : Q (.int (i - j)) st → IopH Q st .Sub (.int i) (.int j)
noncomputable def iopM (op : Operator) (a b : V) : M V := fun Q _ st => IopH Q st op a b
theorem iop_run {op : Operator} {a b : V} {va vb : Value} {Q : V → St → Prop} {X : Ex → St → Prop} {E : Value → Shared → Prop} (Y : Ok g S md n C) (x : Sim g C st s) (ha : er va = a) (hb : er vb = b) (h : iopM op a b Q X st) :
  wpAny (model g.prog g.w) C.A (inplaceOp op va vb) (Post g C VR Q) E s := by
 induction h with
 | addI h => obtain ⟨t, rfl⟩ := er_int ha; obtain ⟨u, rfl⟩ := er_int hb; exact PySem.P.iadd_int ⟨_, st, rfl, x.tick, h⟩
 | subI h => obtain ⟨t, rfl⟩ := er_int ha; obtain ⟨u, rfl⟩ := er_int hb; exact PySem.P.isub_int ⟨_, st, rfl, x.tick, h⟩
theorem ref_AugName {op : Operator} {x : Str} {p : M V} {e : Expr} {px pos : Pos} (hv : varOk S.sc x = true) (hs : stOk S x = true) (h : RefE g S md n p e) :
  RefS g S md n (mbind (locM x) fun a => mbind p fun b => mbind (iopM op a b) fun r => mbind (setM x r) fun _ => mret .next) (.AugAssign (.Name x px) op e pos) := by
 intro C Y st s Q X x' hp
 unfold mbind locM at hp
 split at hp
 ·rename_i v ev
  refine wpAny_AugAssign_Name (wpAny_mono (load_var (Q := fun v' st' => v' = v ∧ st' = st) (E := PostX g C X) hv Y x' ev ⟨rfl, rfl⟩) (fun old s1 h1 => ?_) fun _ _ e => e)
  refine exG2_4 h1 fun v' st1 e1 x1 r5 r6 => ?_
  obtain rfl := r5
  obtain rfl := r6
  refine h.use Y x1 hp fun b vb st2 s2 hb x2 h2 => ?_
  refine wpAny_mono (iop_run (E := PostX g C X) Y x2 e1 hb h2) (fun r s3 h3 => ?_) fun _ _ e => e
  revert h3; refine fun oO => exG2_3 oO fun w' st3 e3 x3 h3 => ?_
  refine store_var hs Y x3 fun s4 x4 => ⟨.next, _, trivial, x4, ?_⟩
  rw [e3]; exact h3
 ·exact hp.elim
theorem seqIndex_small {k : Int} {m j : Nat} (h : (0 ≤ k ∧ k < m ∧ j = k.toNat) ∨ (k < 0 ∧ -(m : Int) ≤ k ∧ j = (k + m).toNat)) (hm : m ≤ 1000) : -1000 ≤ k ∧ k ≤ 1000 := by omega
inductive IdxH (Q : V → St → Prop) (Xc : Ex → St → Prop) (st : St) : V → V → Prop
 | str {x : Str} {k : Int} {c : Nat} : (decide (-1000 ≤ k) && decide (k ≤ 1000)) = true → (seqIndex? k x.length).bind (x.cps[·]?) = some c → Q (.str ⟨#[c]⟩) st → IdxH Q Xc st (.str x) (.int k)
 | list {a : Addr} {k : Int} {xs : List V} {j : Nat} {u : V} : st.μ a = some (.list xs) → xs.length ≤ 1000 → seqIndex? k xs.length = some j → xs[j]? = some u → Q u st → IdxH Q Xc st (.ref a) (.int k)
 | tup {a : Addr} {k : Int} {xs : List V} {j : Nat} {u : V} : st.μ a = some (.tup xs) → xs.length ≤ 1000 → seqIndex? k xs.length = some j → xs[j]? = some u → Q u st → IdxH Q Xc st (.ref a) (.int k)
 | pin {a : Addr} {k : Int} {vs : Array Value} {j : Nat} {u : V} : st.μ a = some (.pin vs) → (vs.toList.map er).length ≤ 1000 → seqIndex? k (vs.toList.map er).length = some j → (vs.toList.map er)[j]? = some u → Q u st → IdxH Q Xc st (.ref a) (.int k)
 | dict {a : Addr} {k : Str} {es : List (Str × V)} {ep : Nat} {u : V} : st.μ a = some (.dict es ep) → dget es k = some u → Q u st → IdxH Q Xc st (.ref a) (.str k)
 | key {a : Addr} {k : Str} {es : List (Str × V)} {ep : Nat} : st.μ a = some (.dict es ep) → dget es k = none → Xc .key st → IdxH Q Xc st (.ref a) (.str k)
noncomputable def idxM (o i : V) : M V := fun Q Xc st => IdxH Q Xc st o i
theorem seqIndex_lt {k : Int} {m j : Nat} (h : seqIndex? k m = some j) : (0 ≤ k ∧ k < m ∧ j = k.toNat) ∨ (k < 0 ∧ -(m : Int) ≤ k ∧ j = (k + m).toNat) := by
 unfold seqIndex? at h
 by_cases h0 : k < 0
 ·rw [if_pos h0] at h
  dsimp only at h
  split at h
  ·rename_i h2; k_call_by "c" h; refine .inr ⟨h0, ?_, rfl⟩; simp at h2; omega
  ·k_call_by "c" h
 ·rw [if_neg h0] at h
  dsimp only at h
  split at h
  ·rename_i h2; k_call_by "c" h; simp at h2; exact .inl ⟨h2.1, h2.2, rfl⟩
  ·k_call_by "c" h
theorem er_at {vs : Array Value} {xs : List V} (e : vs.toList.map er = xs) {j : Nat} {u : V} (h : xs[j]? = some u) : ∃ v, vs[j]? = some v ∧ er v = u := by
 rw [← e, List.getElem?_map] at h
 refine exG1_2 (Option.map_eq_some_iff.mp h) fun v a b => ?_
 exact ⟨v, by rw [← Array.getElem?_toList]; exact a, b⟩
theorem list_item {a : Addr} {vs : Array Value} {xs : List V} {k : Int} {t : Tok} {j : Nat} {u : V} {Q : V → St → Prop} {E : Value → Shared → Prop} (x : Sim g C st s) (p : s.heap.IsList a vs) (e : vs.toList.map er = xs) (hz : xs.length ≤ 1000) (hj : seqIndex? k xs.length = some j) (hv : xs[j]? = some u) (q : Q u st) :
  wpAny (model g.prog g.w) C.A (getItem (.ref a) (.int k t)) (Post g C VR Q) E s := by
 refine exG1_2 (er_at e hv) fun v hv' hv2 => ?_
 have hsz := size_er e
 rcases seqIndex_lt hj with ⟨h1, h2, h3⟩ | ⟨h1, h2, h3⟩
 ·rw [h3] at hv'; exact wpAny_getItem_list p h1 (by omega) hv' ⟨_, st, hv2, x, q⟩
 ·rw [h3] at hv'; exact wpAny_getItem_list_neg p h1 (by omega) (by omega) (by rw [hsz]; exact hv') ⟨_, st, hv2, x, q⟩
theorem idx_run {a b : V} {va vb : Value} {Q : V → St → Prop} {X : Ex → St → Prop} {E : Value → Shared → Prop} (Y : Ok g S md n C) (x : Sim g C st s) (ha : er va = a) (hb : er vb = b) (h : IdxH Q X st a b)
  (hk : ∀ d k t es ep, va = .ref d → vb = .str k t → st.μ d = some (.dict es ep) → dget es k = none → X .key st → wpAny (model g.prog g.w) C.A (getItem va vb) (Post g C VR Q) E s) :
  wpAny (model g.prog g.w) C.A (getItem va vb) (Post g C VR Q) E s := by
 induction h with
 | str hz hc h =>
  obtain ⟨t, rfl⟩ := er_str ha
  obtain ⟨u, rfl⟩ := er_int hb
  refine PySem.P.getItem_str ?_ hc ⟨_, st, rfl, x.tick, h⟩
  simp only [Bool.and_eq_true, decide_eq_true_eq] at hz
  simp only [Bool.or_eq_false_iff, decide_eq_false_iff_not]
  omega
 | list hm hz hj hv h =>
  obtain ⟨u, rfl⟩ := er_int hb
  rw [er_ref ha]
  refine exG0_2 (x.objs _ _ hm) fun r7 _ => ?_
  obtain ⟨vs, p, e⟩ := r7
  exact list_item x p.isList e hz hj hv h
 | tup hm hz hj hv h =>
  obtain ⟨u, rfl⟩ := er_int hb
  rw [er_ref ha]
  refine exG0_2 (x.objs _ _ hm) fun r8 _ => ?_
  obtain ⟨vs, n', p, e⟩ := r8
  refine exG1_2 (er_at e hv) fun v hv' hv2 => ?_
  have hk := seqIndex_small (seqIndex_lt hj) hz
  exact PySem.P.getItem_tuple p (by omega) (by omega) (by rw [size_er e]; exact hj) hv' ⟨_, st, hv2, x, h⟩
 | pin hm hz hj hv h =>
  obtain ⟨u, rfl⟩ := er_int hb
  rw [er_ref ha]
  exact list_item x ⟨_, (x.objs _ _ hm).1, rfl, 0, rfl⟩ rfl hz hj hv h
 | dict hm hv h =>
  obtain ⟨u, rfl⟩ := er_str hb
  rw [er_ref ha]
  refine exG0_2 (dict_in x hm) fun hs r9 => ?_
  refine exG1_2 r9 fun kvs hd e => ?_
  refine exG1_2 (dget_real e hv) fun v' a1 a2 => ?_
  exact wpAny_getItem_of (isStrOf_self _ u) hd.dictOf.mapOf a1 ⟨_, st, a2, x.tick, h⟩
 | key hm hv h =>
  refine exG1_1 (er_str hb) fun u e => ?_
  exact hk _ _ _ _ _ (er_ref ha) e hm hv h
end Kk
end
section
namespace Kk
variable {g : Gx} {S : Sc} {md : Md} {n : Nat} {C : Cx} {st st' : St} {s : Shared} {h' : Heap} {tk : Nat} {α β γ δ : Type}
theorem Off.ne {C : Cx} {a b : Addr} {o : Obj} (h : C.base b = some o) (ha : Off C a) : b ≠ a := by
 rintro rfl; have := ha.2.2.1; rw [h] at this; k_call_by "c" this
theorem Sim.slots (x : Sim g C st s) (Y : Ok g S md n C) {F : List Addr} (hF : ∀ a ∈ F, a = C.env.locals ∨ ∃ d, C.fr a = some d) (k : Heap.SlotsOnly F s.heap h') : Sim g C st { s with heap := h' } := by
 have off : ∀ a, a ≠ C.env.locals → C.fr a = none → h'.get? a = s.heap.get? a := fun a h1 h2 => k.2.1 a fun hm => by
  rcases hF a hm with e | ⟨d, e⟩
  ·exact h1 e
  ·rw [h2] at e; k_call_by "c" e
 have kb : ∀ b o, C.base b = some o → h'.get? b = some o := fun b o e => (off b (fun q => by have := Y.baseL; rw [← q, e] at this; k_call_by "c" this) (by
  cases q : C.fr b with
  | none => rfl
  | some d => have := Y.frB b d q; rw [e] at this; k_call_by "c" this)).trans (x.base b o e)
 have kc : ∀ c ∈ C.own, h'.get? c = s.heap.get? c := fun c hc => off c (Y.ownL c hc).1 (Y.ownL c hc).2.2
 refine ⟨x.gens, x.drawn, x.os, kb, ?_, ?_, ?_, fun a o e => ⟨(x.objs a o e).1.at fun ob hb => (off a (x.objs a o e).2.1 (x.objs a o e).2.2.2.2).trans hb, (x.objs a o e).2⟩⟩
 ·refine exG1_2 x.vars fun m r1 hv => ?_
  obtain ⟨o, es, ep, ho, hd, r⟩ := r1
  refine exG1_1 (k.2.2 _ _ ho) fun sl hs => ?_
  refine ⟨m, ⟨_, es, ep, hs, hd, r⟩, fun y u e => (hv y u e).keep fun c v hl hc => isCell_keep hc fun ob hb => ?_⟩
  rcases Y.cells y c hl with h | ⟨o', h⟩
  ·exact (kc c h).trans hb
  ·have := kb c o' h
   rw [x.base c o' h] at hb; k_call_by "c" hb; exact this
 ·intro c hc
  refine exG1_1 (x.cells c hc) fun v hv => ?_
  exact ⟨v, isCell_keep hv fun ob hb => (kc c hc).trans hb⟩
 ·intro a d e
  refine exG1_2 (x.frs a d e) fun o ho hd => ?_
  refine exG1_1 (k.2.2 _ _ ho) fun sl hs => ?_
  exact ⟨_, hs, hd⟩
theorem Sim.funFrames (x : Sim g C st s) (Y : Ok g S md n C) (hf : C.env.frame = some C.env.locals) : s.heap.FunFrames {} (C.env :: C.outer) := by
 have hk : C.env.scope.kind ≠ .module := by rw [Y.scope, Y.kind]; decide
 have none : ∀ a, (({} : Heap)).get? a = Option.none := fun a => by unfold Heap.get?; simp
 refine ⟨hk, ?_, ?_⟩
 ·refine exG1_2 x.vars fun m r2 hv => ?_
  obtain ⟨o, es, ep, ho, hd, r⟩ := r2
  exact ⟨_, o, hf, none _, ho, fun vs q => by rw [hd] at q; k_call_by "c" q⟩
 ·have := Y.outs
  generalize C.outer = l at this ⊢
  induction l with
  | nil => trivial
  | cons e r ih =>
   refine exG0_2 (this e (.head _)) fun h1 r3 => ?_
   refine exG2_3 r3 fun L d h2 h3 h4 => ?_
   refine exG1_2 (x.frs L d h3) fun o ho hd => ?_
   exact ⟨h1, ⟨L, o, h2, none _, ho, fun vs => hd ▸ h4 vs⟩, ih fun e' he => this e' (.tail _ he)⟩
theorem frames_in (Y : Ok g S md n C) (hf : C.env.frame = some C.env.locals) : ∀ a ∈ (C.env :: C.outer).filterMap (·.frame), a = C.env.locals ∨ ∃ d, C.fr a = some d := by
 intro a ha
 refine exG1_2 (List.mem_filterMap.mp ha) fun e he hfe => ?_
 rcases List.mem_cons.mp he with rfl | he
 ·rw [hf] at hfe; k_call_by "c" hfe; exact .inl rfl
 ·refine exG0_2 (Y.outs e he) fun _ r4 => ?_
  refine exG2_3 r4 fun L d h2 h3 _ => ?_
  rw [h2] at hfe; k_call_by "c" hfe
  exact .inr ⟨d, h3⟩
theorem entry_run {x : Ex} {a : Addr} {oe : Obj} {vs : Array Value} {head : Value} {b : Bool} {E : Value → Shared → Prop} {Q : Unit → Shared → Prop} (Y : Ok g S md n C) (hfr : C.A.frames = some (C.env :: C.outer)) (hf : C.env.frame = some C.env.locals)
  (sx : Sim g C st s) (ho : s.heap.get? a = some oe) (hc : oe.cls = exCls g x) (hd : oe.data = .fields vs) (hz : 1 < vs.size) (oa : Off C a) (ma : st.μ a = none)
  (h : ∀ s', Sim g C st s' → Raised g C st x (.ref a) s'.heap (some (rawInt C.env.locals)) → Q () s') :
  wpAny (model g.prog g.w) C.A (do let f ← frameOf C.env; let pl ← entryPlaceOf C.env.locals b; let t ← EntryCells.newEntry head f .none (rawInt C.env.locals) .none pl; setField (.ref a) 1 t) Q E s := by
 refine wpAny_bind (wpAny_frameOf_fun hfr (sx.funFrames Y hf) hf fun h₁ hs₁ => ?_)
 have x1 := sx.slots Y (frames_in Y hf) hs₁
 have aF : a ∉ (C.env :: C.outer).filterMap (·.frame) := fun hm => by
  rcases frames_in Y hf a hm with e | ⟨d, e⟩
  ·exact oa.1 e
  ·have := oa.2.2.2; rw [e] at this; k_call_by "c" this
 have ho₁ : h₁.get? a = some oe := (hs₁.2.1 a aF).trans ho
 refine wpAny_bind (wpAny_entryPlaceOf fun pl hpl => ?_)
 unfold EntryCells.newEntry newFields
 refine wpAny_bind (wpAny_newObj_type ?_ (hpl.sizeOk5 _ _ _ _ _))
 generalize hob : ({ cls := .type "traceback", dict := none, data := .fields ([head, .ref C.env.locals, .none, rawInt C.env.locals, .none] ++ (if pl.isEmpty then List.replicate 6 Value.none else pl)).toArray } : Obj) = ob
 have hne : h₁.objs.size ≠ a := Nat.ne_of_gt (Heap.lt_size ho₁)
 have x2 : Sim g C st { s with heap := h₁.push ob } := x1.grow (tk := s.toks) fun _ _ e => Heap.get?_push_of_some _ e
 have ho₂ : (h₁.push ob).get? a = some oe := Heap.get?_push_of_some _ ho₁
 have nT : ({ s with heap := h₁ } : Shared).heap.get? h₁.objs.size = none := Heap.get?_none_of_le (Nat.le_refl _)
 refine wpAny_setField ho₂ hd hz ?_
 have x3 : Sim g C st { s with heap := (h₁.push ob).update a (Obj.mapFields (·.setIfInBounds 1 (Value.ref h₁.objs.size))) } := x2.temp (tk := s.toks) Y oa ma (Heap.SameBut.update ..).extBut
 refine h _ x3 ⟨a, _, _, rfl, Heap.get?_update_self _ ho₂ (Obj.isFreed_of_fields (Obj.data_mapFields hd _)), (Obj.cls_mapFields ..).trans hc, Obj.data_mapFields hd _, by simpa using hz, oa, ma, ?_⟩
 refine ⟨h₁.objs.size, ob, _, by simp [hz], hne, ?_, by rw [← hob], ?_, x1.off_new nT, x1.mu_none nT⟩
 ·show ((h₁.push ob).update a _).get? _ = _
  rw [Heap.get?_update_other _ _ (Ne.symm hne)]
  exact Heap.get?_push_size _ (by rw [← hob]; rfl)
 ·rcases hpl with rfl | ⟨_, _, _, _, _, _, _, rfl⟩ <;> simp
theorem note_run {x : Ex} {e : Value} {fl : Option Value} {E : Value → Shared → Prop} {Q : Unit → Shared → Prop} (Y : Ok g S md n C) (hm : md ≠ .comp) (sx : Sim g C st s) (hfl : fl = none ∨ fl = some .none ∨ fl = some (rawInt C.env.locals))
  (R : Raised g C st x e s.heap fl) (h : ∀ s', Sim g C st s' → Raised g C st x e s'.heap (some (rawInt C.env.locals)) → Q () s') :
  wpAny (model g.prog g.w) C.A (noteFrame e C.env) Q E s := by
 refine exG0_2 (Y.frames.resolve_left hm) fun hfr hf => ?_
 refine exG3_8 R fun a oe vs r5 ho hc hd hz oa ma hT => ?_
 obtain rfl := r5
 unfold noteFrame
 simp only [hf]
 rcases hfl with rfl | rfl | rfl
 ·dsimp only at hT
  refine wpAny_bind (wpAny_field ho hd hT ?_)
  rw [if_neg (by decide)]
  exact entry_run Y hfr hf sx ho hc hd hz oa ma h
 ·dsimp only at hT
  refine exG3_7 hT fun T oT ts h1 h2 h3 h4 h5 h6 h7 => ?_
  refine wpAny_bind (wpAny_field ho hd h1 ?_)
  rw [if_pos (show (Value.ref T != Value.none) = true from by simp)]
  refine wpAny_bind (wpAny_field h3 h4 h5 ?_)
  rw [if_neg (show ¬ ((Value.none == rawInt C.env.locals) = true) from by simp [rawInt])]
  refine wpAny_bind (wpAny_setField h3 h4 (Array.getElem?_eq_some_iff.mp h5).1 ?_)
  have x2 : Sim g C st { s with heap := s.heap.update T (Obj.mapFields (·.setIfInBounds 3 Value.none)) } := sx.temp (tk := s.toks) Y h6 h7 (Heap.SameBut.update ..).extBut
  exact entry_run Y hfr hf x2 ((Heap.get?_update_other _ _ h2).trans ho) hc hd hz oa ma h
 ·dsimp only at hT
  refine exG3_7 hT fun T oT ts h1 h2 h3 h4 h5 h6 h7 => ?_
  refine wpAny_bind (wpAny_field ho hd h1 ?_)
  rw [if_pos (show (Value.ref T != Value.none) = true from by simp)]
  refine wpAny_bind (wpAny_field h3 h4 h5 ?_)
  rw [if_pos (show (rawInt C.env.locals == rawInt C.env.locals) = true from by simp)]
  exact wpAny_pure (h _ sx ⟨a, oe, vs, rfl, ho, hc, hd, hz, oa, ma, T, oT, ts, h1, h2, h3, h4, h5, h6, h7⟩)
theorem flight_run {x : Ex} {e : Value} {f : Value} {fr : Option Addr} {E : Value → Shared → Prop} {Q : Unit → Shared → Prop} (Y : Ok g S md n C) (sx : Sim g C st s)
  (R : Raised g C st x e s.heap (some f)) (h : ∀ s', Sim g C st s' → Raised g C st x e s'.heap (some (fr.elim .none fun f => rawInt f)) → Q () s') :
  wpAny (model g.prog g.w) C.A (setFlight e fr) Q E s := by
 refine exG3_8 R fun a oe vs r6 ho hc hd hz oa ma hT => ?_
 obtain rfl := r6
 dsimp only at hT
 refine exG3_7 hT fun T oT ts h1 h2 h3 h4 h5 h6 h7 => ?_
 unfold setFlight
 refine wpAny_bind (wpAny_field ho hd h1 ?_)
 rw [if_pos (show (Value.ref T != Value.none) = true from by simp)]
 have hz3 := (Array.getElem?_eq_some_iff.mp h5).1
 refine wpAny_setField h3 h4 hz3 ?_
 have x2 : Sim g C st { s with heap := s.heap.update T (Obj.mapFields (·.setIfInBounds 3 (fr.elim Value.none fun f => rawInt f))) } := sx.temp (tk := s.toks) Y h6 h7 (Heap.SameBut.update ..).extBut
 refine h _ x2 ⟨a, oe, vs, rfl, (Heap.get?_update_other _ _ h2).trans ho, hc, hd, hz, oa, ma, T, _, _, h1, h2, Heap.get?_update_self _ h3 (Obj.isFreed_of_fields (Obj.data_mapFields h4 _)), Obj.data_mapFields h4 _, by simp [hz3], h6, h7⟩
theorem noted_of {X : Ex → St → Prop} {E : Value → Shared → Prop} {e : Value} (Y : Ok g S md n C) (hm : md ≠ .comp)
  (h : ∀ x st s', Sim g C st s' → X x st → Raised g C st x e s'.heap (some (rawInt C.env.locals)) → E e s') (p : PostX g C X e s) : notedBy (model g.prog g.w) C.A C.env E e s := by
 refine exG3_4 p fun x st fl sx hX hfl R => ?_
 unfold notedBy
 exact note_run Y hm sx hfl R fun s' x' R' => h x st s' x' hX R'
theorem came_back {X : Ex → St → Prop} {e : Value} {x : Ex} (Y : Ok g S md n C) (hm : md ≠ .comp) (sx : Sim g C st s) (hX : X x st) (R : Raised g C st x e s.heap (some (rawInt C.env.locals))) :
  cameBackBy (model g.prog g.w) C.A C.env (PostX g C X) e s := by
 refine exG0_2 (Y.frames.resolve_left hm) fun hfr hf => ?_
 unfold cameBackBy
 refine exG3_8 (id R) fun a oe vs r7 ho hc hd hz oa ma r8 => ?_
 obtain rfl := r7
 refine exG3_7 r8 fun T oT ts h1 h2 h3 h4 h5 h6 h7 => ?_
 refine wpAny_bind (wpAny_field ho hd h1 ?_)
 rw [if_neg (show ¬ ((Value.ref T == Value.none) = true) from by simp)]
 refine flight_run Y sx R fun s' x' R' => ?_
 refine ⟨x, st, _, x', hX, .inr (.inr rfl), ?_⟩
 rw [hf] at R'
 exact R'
end Kk
end
section
namespace Kk
variable {g : Gx} {S : Sc} {md : Md} {n : Nat} {C : Cx} {st st' : St} {s : Shared} {h' : Heap} {tk : Nat} {α β γ δ : Type}
noncomputable def rebase (C : Cx) (st : St) (h : Heap) : Cx := { C with base := fun b => if (st.μ b).isSome || decide (b = C.env.locals) || decide (b ∈ C.own) || (C.fr b).isSome then none else h.get? b }
theorem base_sub (Y : Ok g S md n C) (x : Sim g C st s) {b : Addr} {o : Obj} (h : C.base b = some o) : (rebase C st s.heap).base b = some o := by
 unfold rebase
 dsimp only
 have h1 : (st.μ b).isSome = false := by
  cases e : st.μ b with
  | none => rfl
  | some q => have := (x.objs b q e).2.2.2.1; rw [h] at this; k_call_by "c" this
 have h2 : b ≠ C.env.locals := by rintro rfl; have := Y.baseL; rw [h] at this; k_call_by "c" this
 have h3 : b ∉ C.own := fun hm => by have := (Y.ownL b hm).2.1; rw [h] at this; k_call_by "c" this
 have h4 : (C.fr b).isSome = false := by
  cases e : C.fr b with
  | none => rfl
  | some d => have := Y.frB b d e; rw [h] at this; k_call_by "c" this
 rw [h1, h4, decide_eq_false h2, decide_eq_false h3]
 exact x.base b o h
theorem rebase_none {b : Addr} {h : Heap} (e : (st.μ b).isSome = true ∨ b = C.env.locals ∨ b ∈ C.own ∨ (C.fr b).isSome = true) : (rebase C st h).base b = none := by
 unfold rebase
 dsimp only
 rw [if_pos]
 simp only [Bool.or_eq_true, decide_eq_true_eq]
 rcases e with e | e | e | e
 ·exact .inl (.inl (.inl e))
 ·exact .inl (.inl (.inr e))
 ·exact .inl (.inr e)
 ·exact .inr e
theorem rebase_some {b : Addr} {o : Obj} {h : Heap} (e : (rebase C st h).base b = some o) : h.get? b = some o := by
 unfold rebase at e
 dsimp only at e
 split at e
 ·k_call_by "c" e
 ·exact e
theorem rebase_has {b : Addr} {o : Obj} {h : Heap} (e : h.get? b = some o) (hb : Off C b) (hm : st.μ b = none) : (rebase C st h).base b = some o := by
 unfold rebase
 dsimp only
 rw [hm, hb.2.2.2, decide_eq_false hb.1, decide_eq_false hb.2.1]
 exact e
theorem rebase_ok (Y : Ok g S md n C) (x : Sim g C st s) : Ok g S md n (rebase C st s.heap) where
 stat := fun h hb => Y.stat h fun b o e => hb b o (base_sub Y x e)
 scope := Y.scope
 kind := Y.kind
 glob := Y.glob
 blt := Y.blt
 cells := fun y c h => (Y.cells y c h).imp id fun q0 => by obtain ⟨o, e⟩ := q0; exact ⟨o, base_sub Y x e⟩
 ownL := fun c hc => ⟨(Y.ownL c hc).1, rebase_none (.inr (.inr (.inl hc))), (Y.ownL c hc).2.2⟩
 baseL := rebase_none (.inr (.inl rfl))
 frL := Y.frL
 frB := fun a d e => rebase_none (.inr (.inr (.inr (by
  have : C.fr a = some d := e
  rw [this]; rfl))))
 ownN := Y.ownN
 inj := Y.inj
 code := Y.code
 clo := Y.clo
 hnd := Y.hnd
 guards := Y.guards
 frames := Y.frames
 outs := Y.outs
 depth := Y.depth
 units := Y.units
theorem rebase_sim (x : Sim g C st s) : Sim g (rebase C st s.heap) st s :=
 ⟨x.gens, x.drawn, x.os, fun b o e => rebase_some e, x.vars, x.cells, x.frs, fun a o e => ⟨(x.objs a o e).1, (x.objs a o e).2.1, (x.objs a o e).2.2.1, rebase_none (.inl (by rw [e]; rfl)), (x.objs a o e).2.2.2.2⟩⟩
theorem off_of_rebase (Y : Ok g S md n C) (x : Sim g C st s) {a : Addr} (h : Off (rebase C st s.heap) a) : Off C a :=
 ⟨h.1, h.2.1, (by
  cases e : C.base a with
  | none => rfl
  | some o => have := base_sub Y x e; rw [h.2.2.1] at this; k_call_by "c" this), h.2.2.2⟩
theorem unbase {s' : Shared} (Y : Ok g S md n C) (x : Sim g C st s) (x' : Sim g (rebase C st s.heap) st' s') : Sim g C st' s' :=
 ⟨x'.gens, x'.drawn, x'.os, fun b o e => x'.base b o (base_sub Y x e), x'.vars, x'.cells, x'.frs, fun a o e => ⟨(x'.objs a o e).1, off_of_rebase Y x (x'.objs a o e).2⟩⟩
theorem unbaseX {s' : Shared} {X : Ex → St → Prop} {e : Value} (Y : Ok g S md n C) (x : Sim g C st s) (h : PostX g (rebase C st s.heap) X e s') : PostX g C X e s' := by
 refine exG3_4 h fun k st1 fl x1 hX hfl r1 => ?_
 refine exG3_8 r1 fun a oe vs e1 e2 e3 e4 e5 e6 e7 e8 => ?_
 refine ⟨k, st1, fl, unbase Y x x1, hX, hfl, a, oe, vs, e1, e2, e3, e4, e5, off_of_rebase Y x e6, e7, ?_⟩
 induction fl with
 | none => exact e8
 | some f =>
  refine exG3_7 e8 fun T oT ts h1 h2 h3 h4 h5 h6 h7 => ?_
  exact ⟨T, oT, ts, h1, h2, h3, h4, h5, off_of_rebase Y x h6, h7⟩
theorem keep_run {P : Addr → Prop} {R : α → β → Prop} {p : M α} {t : Env → Sem β} {Q : α → St → Prop} {X : Ex → St → Prop} (r : Ref g S md n R p t) (Y : Ok g S md n C) (x : Sim g C st s) (hP : ∀ b, P b → Off C b ∧ st.μ b = none) (h : p Q X st) :
  wpAny (model g.prog g.w) C.A (t C.env) (fun b s' => ∃ a st', R a b ∧ Sim g C st' s' ∧ Q a st' ∧ (∀ b, P b → (s.heap.get? b).isSome = true → st'.μ b = none) ∧ ∀ b o, P b → s.heap.get? b = some o → s'.heap.get? b = some o) (PostX g C X) s := by
 refine wpAny_mono (r (rebase C st s.heap) (rebase_ok Y x) st s Q X (rebase_sim x) h) (fun b s' ⟨a, st', hr, x', q⟩ => ⟨a, st', hr, unbase Y x x', q, ?_, ?_⟩) fun e s' he => unbaseX Y x he
 ·intro b hb hs
  refine exG1_1 (Option.isSome_iff_exists.mp hs) fun o ho => ?_
  cases e : st'.μ b with
  | none => rfl
  | some ob =>
   have h1 := (x'.objs b ob e).2.2.2.1
   rw [rebase_has ho (hP b hb).1 (hP b hb).2] at h1; k_call_by "c" h1
 ·intro b o hb ho
  exact x'.base b o (rebase_has ho (hP b hb).1 (hP b hb).2)
noncomputable def forM {ι : Type} (cur : Nat → St → Option ι → Prop) (asg : ι → M Unit) (body els : M Fl) : Nat → List ι → M Fl
 | i, [] => fun Q X st => cur i st none ∧ els Q X st
 | i, x :: r => fun Q X st => cur i st (some x) ∧ asg x (fun _ st1 => body (fun f st2 => match f with
   | .brk => Q .next st2
   | .ret v => Q (.ret v) st2
   | _ => forM cur asg body els (i + 1) r Q X st2) X st1) X st
structure Proto (g : Gx) (C : Cx) {ι : Type} (I : Addr) (P : Addr → Prop) (It : Nat → Heap → Prop) (cur : Nat → St → Option ι → Prop) (target : Expr) (asg : ι → M Unit) : Prop where
 off : ∀ b, P b → Off C b
 stable : ∀ i h h', It i h → (∀ b o, P b → h.get? b = some o → h'.get? b = some o) → It i h'
 there : ∀ i h, It i h → ∀ b, P b → (h.get? b).isSome = true
 item : ∀ i x st s (Q : Unit → St → Prop) (X : Ex → St → Prop), (∀ b, P b → st.μ b = none) → cur i st (some x) → It i s.heap → Sim g C st s → asg x Q X st →
  wpAny (model g.prog g.w) C.A (pyNext (.ref I)) (fun r s1 => ∃ v, r = some v ∧ wpAny (model g.prog g.w) C.A (letOwnedTupleGo target (.ref I) v) (fun _ s2 =>
   wpAny (model g.prog g.w) C.A (assign target C.env v) (fun _ s3 => ∃ st', Sim g C st' s3 ∧ It (i + 1) s3.heap ∧ (∀ b, P b → st'.μ b = none) ∧ (∀ b o, ¬ P b → Off C b → st.μ b = none → s.heap.get? b = some o → st'.μ b = none ∧ s3.heap.get? b = some o) ∧ Q () st') (PostX g C X) s2) (PostX g C X) s1) (PostX g C X) s
 done : ∀ i st s (E : Value → Shared → Prop), (∀ b, P b → st.μ b = none) → cur i st none → It i s.heap → Sim g C st s → wpAny (model g.prog g.w) C.A (pyNext (.ref I)) (fun r s1 => r = none ∧ Sim g C st s1 ∧ ∀ b o, ¬ P b → s.heap.get? b = some o → s1.heap.get? b = some o) E s
theorem for_run {ι : Type} {I : Addr} {P : Addr → Prop} {It : Nat → Heap → Prop} {cur : Nat → St → Option ι → Prop} {target : Expr} {asg : ι → M Unit} {pb pe : M Fl} {body orelse : List Stmt} {Q : Fl → St → Prop} {X : Ex → St → Prop}
  (Pr : Proto g C I P It cur target asg) (Y : Ok g S md n C) (hm : md ≠ .comp) (hb : RefB g S md n pb body) (he : RefB g S md n pe orelse) {i : Nat} {rest : List ι}
  (h : forM cur asg pb pe i rest Q X st) (hI : It i s.heap) (x : Sim g C st s) (hP : ∀ b, P b → st.μ b = none) :
  codeAny (model g.prog g.w) C.A (.forLoop target (.ref I) body orelse C.env) (fun r s' => match r with | .ok f => Post g C FlR Q f s' | .error e => cameBackBy (model g.prog g.w) C.A C.env (PostX g C X) e s') s := by
 have noted : ∀ e s', PostX g C X e s' → notedBy (model g.prog g.w) C.A C.env (fun e s' => cameBackBy (model g.prog g.w) C.A C.env (PostX g C X) e s') e s' := fun e s' p =>
  noted_of Y hm (fun k st2 s2 x2 hX R => came_back Y hm x2 hX R) p
 refine codeAny_forLoop_any (fun k s => ∃ i rest st, k = rest.length ∧ forM cur asg pb pe i rest Q X st ∧ It i s.heap ∧ Sim g C st s ∧ ∀ b, P b → st.μ b = none) ?_ rest.length ⟨i, rest, st, rfl, h, hI, x, hP⟩
 intro k s q0q
 refine exG3_5 q0q fun i rest st r2 h hI x hP => ?_
 obtain rfl := r2
 induction rest with
 | nil =>
  unfold forM at h
  refine wpAny_mono (Pr.done i st s _ hP h.1 hI x) (fun r s1 h1 => ?_) fun _ _ e => e
  refine exG0_3 h1 fun r3 x1 _ => ?_
  obtain rfl := r3
  refine wpAny_mono (he C Y st s1 Q X x1 h.2) (fun f s2 p => p) noted
 | cons y rest =>
  unfold forM at h
  refine wpAny_mono (Pr.item i y st s _ X hP h.1 hI x h.2) (fun r s1 h1 => ?_) noted
  revert h1; refine fun oO => exG1_2 oO fun v r4 h1 => ?_
  obtain rfl := r4
  refine wpAny_mono h1 (fun _ s2 h2 => ?_) noted
  refine wpAny_mono h2 (fun _ s3 h3 => ?_) noted
  revert h3; refine fun oO => exG1_5 oO fun st3 x3 hI3 hP3 _ h3 => ?_
  refine wpAny_mono (keep_run (P := P) hb Y x3 (fun b hb => ⟨Pr.off b hb, hP3 b hb⟩) h3) (fun f s4 h4 => ?_) noted
  revert h4; refine fun oO => exG2_5 oO fun f' st4 hf x4 h4 hP4 k4 => ?_
  have hI4 : It (i + 1) s4.heap := Pr.stable _ _ _ hI3 k4
  have hP4' : ∀ b, P b → st4.μ b = none := fun b hb => hP4 b hb (Pr.there _ _ hI3 b hb)
  induction f' <;> induction f <;> first | exact hf.elim | skip
  ·exact ⟨rest.length, by simp, i + 1, rest, st4, rfl, h4, hI4, x4, hP4'⟩
  ·exact ⟨.next, st4, trivial, x4, h4⟩
  ·exact ⟨rest.length, by simp, i + 1, rest, st4, rfl, h4, hI4, x4, hP4'⟩
  ·exact ⟨_, st4, hf, x4, h4⟩
end Kk
end
section
namespace Kk
variable {g : Gx} {S : Sc} {md : Md} {n : Nat} {C : Cx} {st st' : St} {s : Shared} {h' : Heap} {tk : Nat} {α β γ δ : Type}
theorem Sim.temps (x : Sim g C st s) (Y : Ok g S md n C) (P : Addr → Prop) (hP : ∀ a, P a → Off C a ∧ st.μ a = none) (k : ∀ b o, ¬ P b → s.heap.get? b = some o → h'.get? b = some o) :
  Sim g C st { s with heap := h', toks := tk } :=
 x.ext Y P (fun a h => (hP a h).1) k (fun a o e => ⟨(x.objs a o e).1.at fun ob => k a ob (fun h => by rw [(hP a h).2] at e; k_call_by "c" e), (x.objs a o e).2⟩) rfl
noncomputable abbrev RefA (g : Gx) (S : Sc) (md : Md) (n : Nat) (asg : V → M Unit) (target : Expr) : Prop := ∀ v, Ref g S md n (fun (_ _ : Unit) => True) (asg (er v)) (fun env => assign target env v)
theorem refA_Name {x : Str} {px : Pos} (hv : stOk S x = true) : RefA g S md n (setM x) (.Name x px) := fun v C Y st s Q X sx h =>
 wpAny_assign_Name (store_var hv Y sx fun s' x' => ⟨(), _, trivial, x', h⟩)
noncomputable def setsM : List Str → List V → M Unit
 | x :: xs, v :: vs => mbind (setM x v) fun _ => setsM xs vs
 | [], [] => mret ()
 | _, _ => mstuck
inductive NamesAre : List Expr → List Str → Prop
 | nil : NamesAre [] []
 | cons {x : Str} {p : Pos} {r : List Expr} {xs : List Str} : NamesAre r xs → NamesAre (.Name x p :: r) (x :: xs)
noncomputable def unpackM (xs : List Str) (v : V) : M Unit := fun Q X st => match v with
 | .ref a => (match st.μ a with
  | some (.tup vs) => setsM xs vs Q X st
  | _ => False)
 | _ => False
theorem each_name {env : Env} {x : Str} {p : Pos} {r : List Expr} : assignEach (.Name x p :: r) env = (false, assign (.Name x p) env) :: assignEach r env := by kernel_rfl
theorem assignEach_names {env : Env} {elts : List Expr} {xs : List Str} (h : NamesAre elts xs) : (assignEach elts env).length = xs.length ∧ (assignEach elts env).findIdx? (·.1) = none := by
 induction h with
 | nil => exact ⟨rfl, rfl⟩
 | cons _ ih => rw [each_name]; exact ⟨congrArg (· + 1) ih.1, by rw [List.findIdx?_cons, ih.2]; rfl⟩
theorem setsM_length {Q : Unit → St → Prop} {X : Ex → St → Prop} : ∀ {xs : List Str} {vs : List V} {st : St}, setsM xs vs Q X st → xs.length = vs.length
 | [], [], _, _ => rfl
 | x :: xs, v :: vs, st, h => congrArg (· + 1) (setsM_length (st := st.set x v) h)
 | [], _ :: _, _, h => h.elim
 | _ :: _, [], _, h => h.elim
theorem sets_run {Q : Unit → St → Prop} {X : Ex → St → Prop} {E : Value → Shared → Prop} (Y : Ok g S md n C) {elts : List Expr} {xs : List Str} (h : NamesAre elts xs) : ∀ (vs : List Value) (st : St) (s : Shared), (xs.all (stOk S)) = true → Sim g C st s → setsM xs (vs.map er) Q X st →
  wpAny (model g.prog g.w) C.A (assignInOrder ((assignEach elts C.env).map (·.2)) vs) (Post g C (fun (_ _ : Unit) => True) Q) E s := by
 induction h with
 | nil =>
  intro vs st s ho sx hq
  induction vs with
  | nil => exact wpAny_pure ⟨(), st, trivial, sx, hq⟩
  | cons => exact hq.elim
 | cons _ ih =>
  intro vs st s ho sx hq
  simp only [List.all_cons, Bool.and_eq_true] at ho
  rw [each_name]
  induction vs with
  | nil => exact hq.elim
  | cons v vs => exact wpAny_bind (wpAny_holding (wpAny_assign_Name (store_var ho.1 Y sx fun s' x' => ih vs _ _ ho.2 x' hq)))
theorem Ok.handled (Y : Ok g S md n C) (h : md ≠ .hand) : C.A.handled = none := Y.hnd.resolve_left h
theorem tup_in {a : Addr} {xs : List V} (x : Sim g C st s) (h : st.μ a = some (.tup xs)) : ∃ vs : Array Value, s.heap.IsTuple a vs ∧ vs.toList.map er = xs := by
 refine exG0_2 (x.objs a _ h) fun r1 _ => ?_
 obtain ⟨vs, n, p, q⟩ := r1
 exact ⟨vs, ⟨_, p, rfl, n, rfl⟩, q⟩
theorem list_in {a : Addr} {xs : List V} (x : Sim g C st s) (h : st.μ a = some (.list xs)) : ∃ vs : Array Value, s.heap.IsList a vs ∧ vs.toList.map er = xs := by
 refine exG0_2 (x.objs a _ h) fun r2 _ => ?_
 obtain ⟨vs, p, q⟩ := r2
 exact ⟨vs, p.isList, q⟩
theorem refA_Tuple {elts : List Expr} {xs : List Str} {x1} {pos : Pos} (hm : md ≠ .hand) (h1 : NamesAre elts xs) (ho : (xs.all (stOk S)) = true) : RefA g S md n (unpackM xs) (.Tuple elts x1 pos) := by
 intro v C Y st s Q X sx h
 unfold unpackM at h
 split at h
 ·rename_i a ea
  rw [er_ref ea]
  split at h
  ·rename_i vs hm'
   refine exG1_2 (tup_in sx hm') fun us ht e => ?_
   refine exG0_2 (assignEach_names (env := C.env) h1) fun l1 l2 => ?_
   have l3 := setsM_length h
   have l4 := congrArg List.length e
   simp only [List.length_map, Array.length_toList] at l4
   refine wpAny_assign_Tuple (Y.handled hm) ht (by omega) l2 fun h₁ hx₁ => ?_
   refine sets_run (X := X) Y h1 _ _ _ ho (sx.grow fun b o eb => hx₁ b o (Nat.ne_of_lt (Heap.lt_size eb)) eb) ?_
   rw [e]; exact h
  ·exact h.elim
 ·exact h.elim
theorem arr_er {vs : Array Value} {xs : List V} (e : vs.toList.map er = xs) {i : Nat} {u : V} (h : xs[i]? = some u) : ∃ v, vs[i]? = some v ∧ er v = u := by
 rw [← e, List.getElem?_map] at h
 refine exG1_2 (Option.map_eq_some_iff.mp h) fun v a b => ?_
 exact ⟨v, by simpa using a, b⟩
theorem arr_er_none {vs : Array Value} {xs : List V} (e : vs.toList.map er = xs) {i : Nat} (h : xs[i]? = none) : vs[i]? = none := by
 rw [← e, List.getElem?_map, Option.map_eq_none_iff] at h
 simpa using h
theorem asg_keep {P : Addr → Prop} {target : Expr} {asg : V → M Unit} {v : Value} {Q : Unit → St → Prop} {X : Ex → St → Prop} {It : Heap → Prop} {h0 : Heap} (ha : RefA g S md n asg target) (Y : Ok g S md n C) (x : Sim g C st s)
  (hP : ∀ b, P b → Off C b ∧ st.μ b = none ∧ (s.heap.get? b).isSome = true) (hI : ∀ h', (∀ b o, P b → s.heap.get? b = some o → h'.get? b = some o) → It h') (k0 : ∀ b o, ¬ P b → h0.get? b = some o → s.heap.get? b = some o) (h : asg (er v) Q X st) :
  wpAny (model g.prog g.w) C.A (assign target C.env v) (fun _ s3 => ∃ st', Sim g C st' s3 ∧ It s3.heap ∧ (∀ b, P b → st'.μ b = none) ∧ (∀ b o, ¬ P b → Off C b → st.μ b = none → h0.get? b = some o → st'.μ b = none ∧ s3.heap.get? b = some o) ∧ Q () st') (PostX g C X) s :=
 wpAny_mono (keep_run (P := fun b => Off C b ∧ st.μ b = none) (ha v) Y x (fun b hb => hb) h) (fun _ s3 ⟨_, st3, _, x3, q3, n3, k3⟩ => ⟨st3, x3, hI _ (fun b o hb ho => k3 b o ⟨(hP b hb).1, (hP b hb).2.1⟩ ho),
  fun b hb => n3 b ⟨(hP b hb).1, (hP b hb).2.1⟩ (hP b hb).2.2, fun b o hb ho hm e => ⟨n3 b ⟨ho, hm⟩ (by rw [k0 b o hb e]; rfl), k3 b o ⟨ho, hm⟩ (k0 b o hb e)⟩, q3⟩) fun _ _ e => e
noncomputable def curL (a : Addr) (i : Nat) (st : St) (o : Option V) : Prop := ∃ xs, st.μ a = some (.list xs) ∧ xs[i]? = o
noncomputable def curT (a : Addr) (i : Nat) (st : St) (o : Option V) : Prop := ∃ xs, st.μ a = some (.tup xs) ∧ xs[i]? = o
theorem letGo_other {target : Expr} {I : Addr} {o : Obj} {T : String} {v : Value} {Q : Unit → Shared → Prop} {E : Value → Shared → Prop} (ho : s.heap.get? I = some o) (hc : o.cls = .type T) {fs : Array Value} (hd : o.data = .fields fs)
  (hT : (["enumerate", "zip", "dict_itemiterator", "dict_reverseitemiterator", "odict_iterator", "itertools.zip_longest", "itertools.pairwise"].contains T) = false)
  (hQ : Q () s) : wpAny (model g.prog g.w) C.A (letOwnedTupleGo target (.ref I) v) Q E s := by
 have key : ∀ a : Addr, wpAny (model g.prog g.w) C.A (letOwnedTupleGo (.Tuple [] 0 default) (.ref I) (.ref a)) Q E s := fun a => by
  unfold letOwnedTupleGo
  refine wpAny_bind (wpAny_load ho ?_)
  rw [hc, hd]
  simp only [hT, Bool.false_and, Bool.false_eq_true, if_false]
  exact wpAny_pure hQ
 cases (target) <;> first
  | exact wpAny_pure hQ
  | (induction v <;> first | exact wpAny_pure hQ | exact key _)
theorem proto_list {a I : Addr} {target : Expr} {asg : V → M Unit} (Y : Ok g S md n C) (hm : md ≠ .hand) (ha : RefA g S md n asg target) (hI : Off C I) :
  Proto g C I (· = I) (fun i h => h.IsListIter I a i) (curL a) target asg where
 off := fun b hb => hb ▸ hI
 stable := fun i h h' x k => x.at fun o e => k I o rfl e
 there := fun i h q0 b hb => by obtain ⟨o, ho, _⟩ := q0; rw [hb, ho]; rfl
 item := by
  intro i x st s Q X hP ⟨xs, hx, hi⟩ hit sx h
  refine exG1_2 (list_in sx hx) fun vs hl e => ?_
  refine exG1_2 (arr_er e hi) fun v hv ev => ?_
  refine wpAny_pyNext_list_item hit hl hv fun h₁ hit₁ hs₁ => ?_
  have x1 : Sim g C st { s with heap := h₁ } := sx.temps (tk := s.toks) Y (· = I) (fun b hb => ⟨hb ▸ hI, hP b hb⟩) fun b o hb => hs₁.extBut b o hb
  refine exG1_3 (id hit₁) fun o₁ ho₁ hc₁ hd₁ => ?_
  refine ⟨v, rfl, letGo_other ho₁ hc₁ hd₁ (by decide) ?_⟩
  refine asg_keep (P := (· = I)) ha Y x1 (fun b hb => ⟨hb ▸ hI, hP b hb, by rw [hb]; show (h₁.get? I).isSome = true; rw [ho₁]; rfl⟩) (It := fun h => h.IsListIter I a (i + 1)) (fun h' k => hit₁.at fun o e => k I o rfl e) (fun b o hb => hs₁.extBut b o hb) ?_
  rw [ev]; exact h
 done := by
  intro i st s E hP ⟨xs, hx, hi⟩ hit sx
  refine exG1_2 (list_in sx hx) fun vs hl e => ?_
  refine wpAny_pyNext_list_end (Y.handled hm) hit hl (arr_er_none e hi) fun h₁ hs₁ => ⟨rfl, ?_, fun b o hb => hs₁ b o hb⟩
  exact sx.temps (tk := s.toks) Y (· = I) (fun b hb => ⟨hb ▸ hI, hP b hb⟩) fun b o hb => hs₁ b o hb
theorem proto_tup {a I : Addr} {target : Expr} {asg : V → M Unit} (Y : Ok g S md n C) (hm : md ≠ .hand) (ha : RefA g S md n asg target) (hI : Off C I) :
  Proto g C I (· = I) (fun i h => h.IsTupleIter I a i) (curT a) target asg where
 off := fun b hb => hb ▸ hI
 stable := fun i h h' q0 k => by obtain ⟨o, ho, r⟩ := q0; exact ⟨o, k I o rfl ho, r⟩
 there := fun i h q0 b hb => by obtain ⟨o, ho, _⟩ := q0; rw [hb, ho]; rfl
 item := by
  intro i x st s Q X hP ⟨xs, hx, hi⟩ hit sx h
  refine exG1_2 (tup_in sx hx) fun vs hl e => ?_
  refine exG1_2 (arr_er e hi) fun v hv ev => ?_
  refine wpAny_pyNext_tuple_item hit hl hv fun h₁ hit₁ hs₁ => ?_
  have x1 : Sim g C st { s with heap := h₁ } := sx.temps (tk := s.toks) Y (· = I) (fun b hb => ⟨hb ▸ hI, hP b hb⟩) fun b o hb => hs₁.extBut b o hb
  refine exG1_3 (id hit₁) fun o₁ ho₁ hc₁ hd₁ => ?_
  refine ⟨v, rfl, letGo_other ho₁ hc₁ hd₁ (by decide) ?_⟩
  refine asg_keep (P := (· = I)) ha Y x1 (fun b hb => ⟨hb ▸ hI, hP b hb, by rw [hb]; show (h₁.get? I).isSome = true; rw [ho₁]; rfl⟩) (It := fun h => h.IsTupleIter I a (i + 1)) (fun h' k => ⟨o₁, k I o₁ rfl ho₁, hc₁, hd₁⟩) (fun b o hb => hs₁.extBut b o hb) ?_
  rw [ev]; exact h
 done := by
  intro i st s E hP ⟨xs, hx, hi⟩ hit sx
  refine exG1_2 (tup_in sx hx) fun vs hl e => ?_
  refine wpAny_pyNext_tuple_end (Y.handled hm) hit hl (arr_er_none e hi) fun h₁ hs₁ => ⟨rfl, ?_, fun b o hb => hs₁ b o hb⟩
  exact sx.temps (tk := s.toks) Y (· = I) (fun b hb => ⟨hb ▸ hI, hP b hb⟩) fun b o hb => hs₁ b o hb
noncomputable def curR (k : Nat) (i : Nat) (_ : St) (o : Option V) : Prop := o = if i < k then some (.int i) else none
theorem proto_range {k : Nat} {I : Addr} {target : Expr} {asg : V → M Unit} (Y : Ok g S md n C) (hm : md ≠ .hand) (ha : RefA g S md n asg target) (hI : Off C I) :
  Proto g C I (· = I) (fun i h => IsRangeIter h I (i : Int) ((k : Int) - i) 1) (curR k) target asg where
 off := fun b hb => hb ▸ hI
 stable := fun i h h' x k => k I _ rfl x
 there := fun i h ho b hb => by rw [hb, show h.get? I = _ from ho]; rfl
 item := by
  intro i x st s Q X hP hi hit sx h
  unfold curR at hi
  split at hi
  ·rename_i hlt
   k_call_by "c" hi
   refine wpAny_pyNext_range_item hit (by omega) fun h₁ hit₁ hs₁ => ?_
   have x1 : Sim g C st { s with heap := h₁, toks := s.toks + 1 } := sx.temps Y (· = I) (fun b hb => ⟨hb ▸ hI, hP b hb⟩) fun b o hb => hs₁.extBut b o hb
   refine ⟨_, rfl, letGo_other hit₁ rfl rfl (by decide) ?_⟩
   have hit₂ : IsRangeIter h₁ I ((i + 1 : Nat) : Int) ((k : Int) - (i + 1 : Nat)) 1 := by
    have e : ((i + 1 : Nat) : Int) = (i : Int) + 1 := by omega
    rw [e, show (k : Int) - ((i : Int) + 1) = (k : Int) - i - 1 by omega]; exact hit₁
   exact asg_keep (P := (· = I)) ha Y x1 (fun b hb => ⟨hb ▸ hI, hP b hb, by rw [hb]; show (h₁.get? I).isSome = true; rw [show h₁.get? I = _ from hit₁]; rfl⟩) (It := fun h => IsRangeIter h I ((i + 1 : Nat) : Int) ((k : Int) - (i + 1 : Nat)) 1) (fun h' k => k I _ rfl hit₂) (fun b o hb => hs₁.extBut b o hb) h
  ·k_call_by "c" hi
 done := by
  intro i st s E hP hi hit sx
  unfold curR at hi
  split at hi
  ·k_call_by "c" hi
  ·refine wpAny_pyNext_range_end (Y.handled hm) hit (by omega) fun h₁ hs₁ => ⟨rfl, ?_, fun b o hb => hs₁ b o hb⟩
   exact sx.temps (tk := s.toks) Y (· = I) (fun b hb => ⟨hb ▸ hI, hP b hb⟩) fun b o hb => hs₁ b o hb
noncomputable def curK (d : Addr) (m ep : Nat) (i : Nat) (st : St) (o : Option Str) : Prop := ∃ es, st.μ d = some (.dict es ep) ∧ es.length = m ∧ es[i]?.map (·.1) = o
theorem proto_keys {d I : Addr} {m ep : Nat} {target : Expr} {asg : V → M Unit} (Y : Ok g S md n C) (hm : md ≠ .hand) (ha : RefA g S md n asg target) (hI : Off C I) :
  Proto g C I (· = I) (fun i h => h.IsKeyIter I d i m ep) (curK d m ep) target (fun k => asg (.str k)) where
 off := fun b hb => hb ▸ hI
 stable := fun i h h' q0 k => by obtain ⟨o, ho, r⟩ := q0; exact ⟨o, k I o rfl ho, r⟩
 there := fun i h q0 b hb => by obtain ⟨o, ho, _⟩ := q0; rw [hb, ho]; rfl
 item := by
  intro i x st s Q X hP ⟨es, hx, hl, hi⟩ hit sx h
  refine exG0_2 (dict_in sx hx) fun _ r3 => ?_
  refine exG1_2 r3 fun kvs hd e => ?_
  refine exG1_2 (Option.map_eq_some_iff.mp hi) fun p hp r4 => ?_
  obtain rfl := r4
  rw [← e, List.getElem?_map] at hp
  refine exG1_2 (Option.map_eq_some_iff.mp hp) fun kv hkv r5 => ?_
  obtain rfl := r5
  have hlen : m = kvs.length := by rw [← hl, ← e]; simp
  subst hlen
  refine wpAny_pyNext_dict_item hit hd hkv fun key h₁ hkey hit₁ hs₁ => ?_
  have x1 : Sim g C st { s with heap := h₁ } := sx.temps (tk := s.toks) Y (· = I) (fun b hb => ⟨hb ▸ hI, hP b hb⟩) fun b o hb => hs₁.extBut b o hb
  refine exG1_3 (id hit₁) fun o₁ ho₁ hc₁ hd₁ => ?_
  refine ⟨key, rfl, letGo_other ho₁ hc₁ hd₁ (by decide) ?_⟩
  refine asg_keep (P := (· = I)) ha Y x1 (fun b hb => ⟨hb ▸ hI, hP b hb, by rw [hb]; show (h₁.get? I).isSome = true; rw [ho₁]; rfl⟩) (It := fun h => h.IsKeyIter I d (i + 1) kvs.length ep) (fun h' k => ⟨o₁, k I o₁ rfl ho₁, hc₁, hd₁⟩) (fun b o hb => hs₁.extBut b o hb) ?_
  obtain ⟨t, rfl⟩ := Value.isStrOf_shape hkey
  exact h
 done := by
  intro i st s E hP ⟨es, hx, hl, hi⟩ hit sx
  refine exG0_2 (dict_in sx hx) fun _ r6 => ?_
  refine exG1_2 r6 fun kvs hd e => ?_
  have hlen : m = kvs.length := by rw [← hl, ← e]; simp
  subst hlen
  have hi2 := Option.map_eq_none_iff.mp hi
  rw [← e, List.getElem?_map] at hi2
  refine wpAny_pyNext_dict_end (Y.handled hm) hit hd (Option.map_eq_none_iff.mp hi2) fun h₁ hs₁ => ⟨rfl, ?_, fun b o hb => hs₁ b o hb⟩
  exact sx.temps (tk := s.toks) Y (· = I) (fun b hb => ⟨hb ▸ hI, hP b hb⟩) fun b o hb => hs₁ b o hb
end Kk
end
section
namespace Kk
variable {g : Gx} {S : Sc} {md : Md} {n : Nat} {C : Cx} {st st' : St} {s : Shared} {h' : Heap} {tk : Nat} {α β γ δ : Type}
theorem ref_sets {elts : List Expr} {xs : List Str} {vs : List Value} (h1 : NamesAre elts xs) (ho : (xs.all (stOk S)) = true) :
  Ref g S md n (fun (_ _ : Unit) => True) (setsM xs (vs.map er)) (fun env => assignInOrder ((assignEach elts env).map (·.2)) vs) :=
 fun C Y st s Q X sx h => sets_run (X := X) Y h1 _ _ _ ho sx h
theorem unpack_keep {P : Addr → Prop} {elts : List Expr} {xs : List Str} {x1} {pos : Pos} {t : Addr} {items : Array Value} {Q : Unit → St → Prop} {X : Ex → St → Prop} {It : Heap → Prop} {h0 : Heap}
  (Y : Ok g S md n C) (hm : md ≠ .hand) (h1 : NamesAre elts xs) (ho : (xs.all (stOk S)) = true) (x : Sim g C st s) (ht : s.heap.IsTuple t items)
  (hP : ∀ b, P b → Off C b ∧ st.μ b = none ∧ (s.heap.get? b).isSome = true) (hI : ∀ h', (∀ b o, P b → s.heap.get? b = some o → h'.get? b = some o) → It h') (k0 : ∀ b o, ¬ P b → h0.get? b = some o → s.heap.get? b = some o) (h : setsM xs (items.toList.map er) Q X st) :
  wpAny (model g.prog g.w) C.A (assign (.Tuple elts x1 pos) C.env (.ref t)) (fun _ s3 => ∃ st', Sim g C st' s3 ∧ It s3.heap ∧ (∀ b, P b → st'.μ b = none) ∧ (∀ b o, ¬ P b → Off C b → st.μ b = none → h0.get? b = some o → st'.μ b = none ∧ s3.heap.get? b = some o) ∧ Q () st') (PostX g C X) s := by
 refine exG0_2 (assignEach_names (env := C.env) h1) fun l1 l2 => ?_
 have l3 := setsM_length h
 simp only [List.length_map, Array.length_toList] at l3
 refine wpAny_assign_Tuple (Y.handled hm) ht (by omega) l2 fun h₁ hx₁ => ?_
 have k1 : ∀ b o, s.heap.get? b = some o → h₁.get? b = some o := fun b o eb => hx₁ b o (Nat.ne_of_lt (Heap.lt_size eb)) eb
 have x1 : Sim g C st { s with heap := h₁ } := x.grow k1
 have there : ∀ b, P b → ∃ o, s.heap.get? b = some o := fun b hb => Option.isSome_iff_exists.mp (hP b hb).2.2
 have some₁ : ∀ b o, s.heap.get? b = some o → (h₁.get? b).isSome = true := fun b o e => by rw [k1 b o e]; rfl
 refine wpAny_mono (keep_run (P := fun b => Off C b ∧ st.μ b = none) (ref_sets (vs := items.toList) h1 ho) Y x1 (fun b hb => hb) h) (fun _ s3 ⟨_, st3, _, x3, q3, n3, k3⟩ =>
  ⟨st3, x3, hI _ (fun b o hb ho => k3 b o ⟨(hP b hb).1, (hP b hb).2.1⟩ (k1 b o ho)), fun b hb => ?_, fun b o hb hof hm e => ⟨n3 b ⟨hof, hm⟩ (some₁ b o (k0 b o hb e)), k3 b o ⟨hof, hm⟩ (k1 b o (k0 b o hb e))⟩, q3⟩) fun _ _ e => e
 refine exG1_1 (there b hb) fun o ho => ?_
 exact n3 b ⟨(hP b hb).1, (hP b hb).2.1⟩ (some₁ b o ho)
noncomputable def curE (cur : Nat → St → Option V → Prop) (i : Nat) (st : St) (o : Option (Nat × V)) : Prop := match o with
 | none => cur i st none
 | some (j, v) => j = i ∧ cur i st (some v)
theorem proto_enumL {a I J : Addr} {elts : List Expr} {xs : List Str} {x1} {pos : Pos} (Y : Ok g S md n C) (hm : md ≠ .hand) (h1 : NamesAre elts xs) (ho : (xs.all (stOk S)) = true) (hI : Off C I) (hJ : Off C J) (hne : I ≠ J) :
  Proto g C I (fun b => b = I ∨ b = J) (fun i h => (∃ old, IsEnum h I J i old) ∧ h.IsListIter J a i) (curE (curL a)) (.Tuple elts x1 pos) (fun p => setsM xs [.int p.1, p.2]) where
 off := fun b hb => by rcases hb with rfl | rfl <;> assumption
 stable := fun i h h' q0 k => by obtain ⟨⟨old, x⟩, y⟩ := q0; exact ⟨⟨old, k I _ (.inl rfl) x⟩, y.at fun o e => k J o (.inr rfl) e⟩
 there := fun i h ⟨⟨old, x⟩, ⟨o, ho, _⟩⟩ b hb => by
  rcases hb with rfl | rfl
  ·rw [show h.get? b = _ from x]; rfl
  ·rw [ho]; rfl
 item := by
  intro i q0q st s Q X hP q1q q2q sx h
  obtain ⟨j, u⟩ := q0q
  refine exG0_2 q1q fun r1 r2 => ?_
  obtain rfl := r1
  refine exG1_2 r2 fun xs' hx hi => ?_
  refine exG0_2 q2q fun r3 hit2 => ?_
  obtain ⟨old, hit⟩ := r3
  refine exG1_2 (list_in sx hx) fun vs hl e => ?_
  refine exG1_2 (arr_er e hi) fun v hv ev => ?_
  refine wpAny_pyNext_enum_item hit hit2 hl hv hne fun h₁ he₁ hit₁ ht₁ hz₁ hk₁ => ?_
  refine ⟨_, rfl, wpAny_letOwnedTupleGo_enum he₁ fun h₂ he₂ hs₂ => ?_⟩
  replace hs₂ : Heap.SameBut I h₁ h₂ := hs₂
  have hIlt : I < s.heap.objs.size := Heap.lt_size hit
  have ht₂ : h₂.IsTuple s.heap.objs.size #[.int j s.toks, v] := ⟨_, (hs₂.2 _ (Nat.ne_of_gt hIlt)).trans ht₁, rfl, _, rfl⟩
  have k0 : ∀ b o, ¬ (b = I ∨ b = J) → s.heap.get? b = some o → h₂.get? b = some o := fun b o hb eb => hs₂.extBut b o (fun q => hb (.inl q)) (hk₁ b o (fun q => hb (.inl q)) (fun q => hb (.inr q)) eb)
  have x2 : Sim g C st { s with heap := h₂, toks := s.toks + 1 } := sx.temps Y (fun b => b = I ∨ b = J) (fun b hb => ⟨by rcases hb with rfl | rfl <;> assumption, hP b hb⟩) k0
  have hit₂ : h₂.IsListIter J a (j + 1) := hit₁.extBut hs₂.extBut (Ne.symm hne)
  have he₃ : IsEnum h₂ I J ((j + 1 : Nat) : Int) v := by
   have e : ((j + 1 : Nat) : Int) = (j : Int) + 1 := by omega
   rw [e]; exact he₂
  refine unpack_keep (P := fun b => b = I ∨ b = J) (It := fun h => (∃ old, IsEnum h I J ((j + 1 : Nat) : Int) old) ∧ h.IsListIter J a (j + 1)) Y hm h1 ho x2 ht₂ (fun b hb => ⟨by rcases hb with rfl | rfl <;> assumption, hP b hb, ?_⟩)
   (fun h' k => ⟨⟨v, k I _ (.inl rfl) he₃⟩, hit₂.at fun o e => k J o (.inr rfl) e⟩) k0 ?_
  ·rcases hb with rfl | rfl
   ·show (h₂.get? b).isSome = true; rw [show h₂.get? b = _ from he₂]; rfl
   ·obtain ⟨o, ho, _⟩ := hit₂; show (h₂.get? b).isSome = true; rw [ho]; rfl
  ·show setsM xs [V.int j, er v] Q X st
   rw [ev]; exact h
 done := by
  intro i st s E hP q0q q1q sx
  refine exG1_2 q0q fun xs' hx hi => ?_
  refine exG0_2 q1q fun r4 hit2 => ?_
  obtain ⟨old, hit⟩ := r4
  refine exG1_2 (list_in sx hx) fun vs hl e => ?_
  refine wpAny_pyNext_enum_end (Y.handled hm) hit hit2 hl (arr_er_none e hi) fun h₁ hs₁ => ⟨rfl, ?_, fun b o hb => hs₁ b o fun q => hb (.inr q)⟩
  exact sx.temps (tk := s.toks) Y (· = J) (fun b hb => ⟨hb ▸ hJ, hP b (.inr hb)⟩) fun b o hb => hs₁ b o hb
theorem nextOf_tuple_item {prog : Program} {w : World} {A : Around} {E : Value → Shared → Prop} {it l : Addr} {i : Nat} {items : Array Value} {x : Value} {Q : Value → Shared → Prop} (hit : s.heap.IsTupleIter it l i)
  (hl : s.heap.IsTuple l items) (hx : items[i]? = some x)
  (hQ : ∀ h', h'.IsTupleIter it l (i + 1) → Heap.SameBut it s.heap h' → Q x { s with heap := h' }) :
  wpAny (model prog w) A (Builtin.SmallTypes.nextOf (.ref it)) Q E s := by
 refine exG1_3 (id hit) fun o ho hc hd => ?_
 refine exG1_3 hl fun ol hol _ r5 => ?_
 refine exG1_1 r5 fun nl hdl => ?_
 unfold Builtin.SmallTypes.nextOf
 refine wpAny_bind (wpAny_callSpecial?_slot (name := Str.ofString "__next__") hit.typeIs F.slot_tuple_iterator_next
  (wpAny_call_entry F.slot_tuple_iterator_next hit.typeIs F.entry_tuple_iterator_next ?_ (F.args_tuple_iterator_next_1 _)))
 show wpAny _ _ (field (.ref it) 0 >>= _) _ _ s
 refine wpAny_bind (wpAny_field ho hd (x := .ref l) rfl ?_)
 show wpAny _ _ (if (Value.ref l == Value.none) = true then _ else _) _ _ s
 rw [if_neg (show ¬ ((Value.ref l == Value.none) = true) from Bool.false_ne_true)]
 show wpAny _ _ (field (.ref it) 1 >>= _) _ _ s
 refine wpAny_bind (wpAny_field ho hd (x := .int i 0) rfl ?_)
 show wpAny _ _ (seqItems? (.ref l) >>= _) _ _ s
 refine wpAny_bind (wpAny_seqItems hol hdl ?_)
 simp only [Int.toNat_natCast, hx]
 refine wpAny_bind (wpAny_setField ho hd (by simp) (wpAny_pure ⟨x, rfl, wpAny_pure (hQ _ ?_ (Heap.SameBut.update ..))⟩))
 exact ⟨_, Heap.get?_update_self _ ho (Obj.isFreed_of_fields (Obj.data_mapFields hd _)), (Obj.cls_mapFields ..).trans hc, by
  rw [Obj.data_mapFields hd]; simp [rawInt]⟩
theorem nextOf_tuple_end {prog : Program} {w : World} {A : Around} {E : Value → Shared → Prop} {it l : Addr} {i : Nat} {items : Array Value} {Q : Value → Shared → Prop} (hh : A.handled = none)
  (hit : s.heap.IsTupleIter it l i) (hl : s.heap.IsTuple l items) (hx : items[i]? = none)
  (hE : ∀ h' e, Heap.ExtBut it s.heap h' → (∃ o, h'.get? e = some o ∧ o.cls = .type "StopIteration") → E (.ref e) { s with heap := h' }) :
  wpAny (model prog w) A (Builtin.SmallTypes.nextOf (.ref it)) Q E s := by
 refine exG1_3 (id hit) fun o ho hc hd => ?_
 refine exG1_3 hl fun ol hol _ r6 => ?_
 refine exG1_1 r6 fun nl hdl => ?_
 unfold Builtin.SmallTypes.nextOf
 refine wpAny_bind (wpAny_callSpecial?_slot (name := Str.ofString "__next__") hit.typeIs F.slot_tuple_iterator_next
  (wpAny_call_entry F.slot_tuple_iterator_next hit.typeIs F.entry_tuple_iterator_next ?_ (F.args_tuple_iterator_next_1 _)))
 show wpAny _ _ (field (.ref it) 0 >>= _) _ _ s
 refine wpAny_bind (wpAny_field ho hd (x := .ref l) rfl ?_)
 show wpAny _ _ (if (Value.ref l == Value.none) = true then _ else _) _ _ s
 rw [if_neg (show ¬ ((Value.ref l == Value.none) = true) from Bool.false_ne_true)]
 show wpAny _ _ (field (.ref it) 1 >>= _) _ _ s
 refine wpAny_bind (wpAny_field ho hd (x := .int i 0) rfl ?_)
 show wpAny _ _ (seqItems? (.ref l) >>= _) _ _ s
 refine wpAny_bind (wpAny_seqItems hol hdl ?_)
 simp only [Int.toNat_natCast, hx]
 refine wpAny_bind (wpAny_rule (wpAny_bind (wpAny_setField ho hd (by simp) ?_)))
 show wpAny _ _ (newExc (.type "StopIteration") [] >>= _) _ _ _
 refine wpAny_bind ?_
 simp only [newExc, newTuple]
 refine wpAny_bind (wpAny_newObj_type ?_ (by size_fits))
 refine wpAny_bind (m := firstArgMember _ _) (wpAny_of_eq (a := Value.none) (by first | rfl | (simp only [firstArgMember]; rfl)) ?_)
 refine wpAny_newObj_type ?_ (by size_fits)
 simp only [raiseNew]
 refine wpAny_bind (wpAny_handled ?_)
 first | rw [show A.in1.handled = none from hh] | rw [hh]
 refine wpAny_bind (wpAny_pure (wpAny_throw ?_))
 exact hE _ _ (((Heap.SameBut.update ..).extBut.push _).push _) ⟨_, Heap.get?_push_size _ rfl, rfl⟩
theorem draws_tup {prog : Program} {w : World} {A : Around} (hh : A.handled = none) (it l : Addr) (hne : l ≠ it) (items : Array Value) :
  Draws prog w A it [it, l] items.size (fun i v => items[i]? = some v) (fun i h => h.IsTupleIter it l i ∧ h.IsTuple l items) where
 live := fun _ _ st => by obtain ⟨o, ho, _⟩ := st.1; exact ⟨o, ho⟩
 frame := fun _ _ _ st hk => ⟨(by obtain ⟨o, ho, r⟩ := st.1; exact ⟨o, hk it (by simp) o ho, r⟩), (by obtain ⟨o, ho, r⟩ := st.2; exact ⟨o, hk l (by simp) o ho, r⟩)⟩
 item := fun i s Q E hi st hQ => by
  refine nextOf_tuple_item st.1 st.2 (x := items[i]) (by simp [hi]) fun h' hit' hs' => ?_
  exact hQ _ h' s.toks (by simp [hi]) ⟨hit', st.2.extBut hs'.extBut hne⟩ hs'
 done := fun s Q E st hE => nextOf_tuple_end hh st.1 st.2 (by simp) hE
theorem draws_dead {prog : Program} {w : World} {A : Around} (hh : A.handled = none) (it l : Addr) (items : Array Value) (n : Nat) (hx : items[n]? = none) :
  Draws prog w A it [it, l] n (fun i v => False) (fun i h => i = n ∧ h.IsTupleIter it l n ∧ h.IsTuple l items) where
 live := fun _ _ st => by obtain ⟨o, ho, _⟩ := st.2.1; exact ⟨o, ho⟩
 frame := fun _ _ _ st hk => ⟨st.1, (by obtain ⟨o, ho, r⟩ := st.2.1; exact ⟨o, hk it (by simp) o ho, r⟩), (by obtain ⟨o, ho, r⟩ := st.2.2; exact ⟨o, hk l (by simp) o ho, r⟩)⟩
 item := fun i s Q E hi st hQ => absurd hi (by rw [st.1]; exact Nat.lt_irrefl _)
 done := fun s Q E st hE => nextOf_tuple_end hh st.2.1 st.2.2 hx hE
theorem proto_enumT {a I J : Addr} {elts : List Expr} {xs : List Str} {x1} {pos : Pos} (Y : Ok g S md n C) (hm : md ≠ .hand) (h1 : NamesAre elts xs) (ho : (xs.all (stOk S)) = true) (hI : Off C I) (hJ : Off C J) (hne : I ≠ J) :
  Proto g C I (fun b => b = I ∨ b = J) (fun i h => (∃ old, IsEnum h I J i old) ∧ h.IsTupleIter J a i) (curE (curT a)) (.Tuple elts x1 pos) (fun p => setsM xs [.int p.1, p.2]) where
 off := fun b hb => by rcases hb with rfl | rfl <;> assumption
 stable := fun i h h' q0 k => by obtain ⟨⟨old, x⟩, ⟨o, ho, r⟩⟩ := q0; exact ⟨⟨old, k I _ (.inl rfl) x⟩, ⟨o, k J o (.inr rfl) ho, r⟩⟩
 there := fun i h ⟨⟨old, x⟩, ⟨o, ho, _⟩⟩ b hb => by
  rcases hb with rfl | rfl
  ·rw [show h.get? b = _ from x]; rfl
  ·rw [ho]; rfl
 item := by
  intro i q0q st s Q X hP q1q q2q sx h
  obtain ⟨j, u⟩ := q0q
  refine exG0_2 q1q fun r7 r8 => ?_
  obtain rfl := r7
  refine exG1_2 r8 fun xs' hx hi => ?_
  refine exG0_2 q2q fun r9 hit2 => ?_
  obtain ⟨old, hit⟩ := r9
  refine exG1_2 (tup_in sx hx) fun vs hl e => ?_
  refine exG1_2 (arr_er e hi) fun v hv ev => ?_
  have haJ : a ≠ J := by rintro rfl; have := hP a (.inr rfl); rw [hx] at this; k_call_by "c" this
  have haI : a ≠ I := by rintro rfl; have := hP a (.inl rfl); rw [hx] at this; k_call_by "c" this
  have hlt : j < vs.size := (Array.getElem?_eq_some_iff.mp hv).1
  refine wpAny_pyNext_enum_itemD (draws_tup (A := C.A.in1) (Y.handled hm) J a haJ vs) hit ⟨hit2, hl⟩ hlt hne (by simp [hne, Ne.symm haI]) fun y h₁ tk hy he₁ hit₁ ht₁ hz₁ hk₁ => ?_
  cases hv.symm.trans hy
  refine ⟨_, rfl, wpAny_letOwnedTupleGo_enum he₁ fun h₂ he₂ hs₂ => ?_⟩
  replace hs₂ : Heap.SameBut I h₁ h₂ := hs₂
  have hIlt : I < s.heap.objs.size := Heap.lt_size hit
  have ht₂ : h₂.IsTuple s.heap.objs.size #[.int j tk, v] := ⟨_, (hs₂.2 _ (Nat.ne_of_gt hIlt)).trans ht₁, rfl, _, rfl⟩
  have k0 : ∀ b o, ¬ (b = I ∨ b = J) → s.heap.get? b = some o → h₂.get? b = some o := fun b o hb eb => hs₂.extBut b o (fun q => hb (.inl q)) (hk₁ b o (fun q => hb (.inl q)) (fun q => hb (.inr q)) eb)
  have x2 : Sim g C st { s with heap := h₂, toks := tk + 1 } := sx.temps Y (fun b => b = I ∨ b = J) (fun b hb => ⟨by rcases hb with rfl | rfl <;> assumption, hP b hb⟩) k0
  have hit₂ : h₂.IsTupleIter J a (j + 1) := hit₁.1.extBut hs₂.extBut (Ne.symm hne)
  have he₃ : IsEnum h₂ I J ((j + 1 : Nat) : Int) v := by
   have e : ((j + 1 : Nat) : Int) = (j : Int) + 1 := by omega
   rw [e]; exact he₂
  refine exG1_2 (id hit₂) fun o2 ho2 r2 => ?_
  refine unpack_keep (P := fun b => b = I ∨ b = J) (It := fun h => (∃ old, IsEnum h I J ((j + 1 : Nat) : Int) old) ∧ h.IsTupleIter J a (j + 1)) Y hm h1 ho x2 ht₂ (fun b hb => ⟨by rcases hb with rfl | rfl <;> assumption, hP b hb, ?_⟩)
   (fun h' k => ⟨⟨v, k I _ (.inl rfl) he₃⟩, ⟨o2, k J o2 (.inr rfl) ho2, r2⟩⟩) k0 ?_
  ·rcases hb with rfl | rfl
   ·show (h₂.get? b).isSome = true; rw [show h₂.get? b = _ from he₂]; rfl
   ·show (h₂.get? b).isSome = true; rw [ho2]; rfl
  ·show setsM xs [V.int j, er v] Q X st
   rw [ev]; exact h
 done := by
  intro i st s E hP q0q q1q sx
  refine exG1_2 q0q fun xs' hx hi => ?_
  refine exG0_2 q1q fun r10 hit2 => ?_
  obtain ⟨old, hit⟩ := r10
  refine exG1_2 (tup_in sx hx) fun vs hl e => ?_
  have haJ : a ≠ J := by rintro rfl; have := hP a (.inr rfl); rw [hx] at this; k_call_by "c" this
  refine wpAny_pyNext_enum_endD (draws_dead (A := C.A.in1) (Y.handled hm) J a vs i (arr_er_none e hi)) hit ⟨rfl, hit2, hl⟩ fun h₁ hs₁ => ⟨rfl, ?_, fun b o hb => hs₁ b o fun q => hb (.inr q)⟩
  exact sx.temps (tk := s.toks) Y (· = J) (fun b hb => ⟨hb ▸ hJ, hP b (.inr hb)⟩) fun b o hb => hs₁ b o hb
noncomputable def curI (d : Addr) (m ep : Nat) (i : Nat) (st : St) (o : Option (Str × V)) : Prop := ∃ es, st.μ d = some (.dict es ep) ∧ es.length = m ∧ es[i]? = o
end Kk
end
section
namespace Kk
variable {g : Gx} {S : Sc} {md : Md} {n : Nat} {C : Cx} {st st' : St} {s : Shared} {h' : Heap} {tk : Nat} {α β γ δ : Type}
theorem gl_run {x : Str} {v : Value} {pos : Pos} {Q : Value → Shared → Prop} {E : Value → Shared → Prop} (hx : S.sc.names.lookup x = some .globalImplicit) (hd : (x == ("__debug__" : Str)) = false) (e : nsIn g.K mainGlobals x = some (some v))
  (Y : Ok g S md n C) (sx : Sim g C st s) (q : Q v s) : wpAny (model g.prog g.w) C.A (eval (.Name x pos) C.env) Q E s :=
 Name_function_global ((congrArg Scope.kind Y.scope).trans Y.kind) ((Y.kindOf x).trans hx) (loadGlobal_global (env := C.env) (show s.heap.Ns C.env.globals g.mg from Y.glob ▸ (Y.here sx).top.g) (mg_of (Y.here sx).kin (Y.here sx).top.g e) q) hd
theorem bl_run {x : Str} {v : Value} {pos : Pos} {Q : Value → Shared → Prop} {E : Value → Shared → Prop} (hx : S.sc.names.lookup x = some .globalImplicit) (hd : (x == ("__debug__" : Str)) = false) (hn : x ≠ "__name__") (e : nsIn g.K mainGlobals x = some none) (hv : bootBuiltins x = some v)
  (Y : Ok g S md n C) (sx : Sim g C st s) (q : Q v s) : wpAny (model g.prog g.w) C.A (eval (.Name x pos) C.env) Q E s :=
 Name_function_global ((congrArg Scope.kind Y.scope).trans Y.kind) ((Y.kindOf x).trans hx) (loadGlobal_builtin (env := C.env) (show s.heap.Ns C.env.globals g.mg from Y.glob ▸ (Y.here sx).top.g) (mg_none_of (Y.here sx).kin (Y.here sx).top.g e)
  (show s.heap.Ns C.env.builtins g.mb from Y.blt ▸ (Y.here sx).top.b) (((Y.here sx).top.builtins x hn).trans hv) q) hd
structure Blt (g : Gx) (S : Sc) (x : Str) (v : Value) : Prop where
 glob : S.sc.names.lookup x = some .globalImplicit
 dbg : (x == ("__debug__" : Str)) = false
 nm : x ≠ "__name__"
 none : nsIn g.K mainGlobals x = some none
 boot : bootBuiltins x = some v
theorem Blt.run {x : Str} {v : Value} {pos : Pos} {Q : Value → Shared → Prop} {E : Value → Shared → Prop} (b : Blt g S x v) (Y : Ok g S md n C) (sx : Sim g C st s) (q : Q v s) : wpAny (model g.prog g.w) C.A (eval (.Name x pos) C.env) Q E s :=
 bl_run b.glob b.dbg b.nm b.none b.boot Y sx q
set_option genInjectivity false in
inductive Src where
 | list (a : Addr) | tup (a : Addr) | rng (k : Nat) | enL (a : Addr) | enT (a : Addr) | keys (d : Addr) (m ep : Nat) | items (d : Addr) (m ep : Nat)
noncomputable def curMap {ι κ : Type} (f : ι → κ) (cur : Nat → St → Option ι → Prop) (i : Nat) (st : St) (o : Option κ) : Prop := ∃ o', o = o'.map f ∧ cur i st o'
noncomputable def Src.cur : Src → Nat → St → Option (List V) → Prop
 | .list a => curMap (fun v => [v]) (curL a)
 | .tup a => curMap (fun v => [v]) (curT a)
 | .rng k => curMap (fun v => [v]) (curR k)
 | .enL a => curMap (fun p : Nat × V => [V.int p.1, p.2]) (curE (curL a))
 | .enT a => curMap (fun p : Nat × V => [V.int p.1, p.2]) (curE (curT a))
 | .keys d m ep => curMap (fun k => [V.str k]) (curK d m ep)
 | .items d m ep => curMap (fun p : Str × V => [V.str p.1, p.2]) (curI d m ep)
noncomputable def listAt (st : St) (a : Addr) : List V := match st.μ a with | some (.list xs) => xs | some (.tup xs) => xs | _ => []
noncomputable def dictAt (st : St) (a : Addr) : List (Str × V) := match st.μ a with | some (.dict es _) => es | _ => []
noncomputable def enumFrom (i : Nat) : List V → List (List V)
 | [] => []
 | v :: r => [.int i, v] :: enumFrom (i + 1) r
noncomputable def Src.its (st : St) : Src → List (List V)
 | .list a => (listAt st a).map fun v => [v]
 | .tup a => (listAt st a).map fun v => [v]
 | .rng k => (List.range k).map fun i : Nat => [V.int (i : Int)]
 | .enL a => enumFrom 0 (listAt st a)
 | .enT a => enumFrom 0 (listAt st a)
 | .keys d _ _ => (dictAt st d).map fun p => [.str p.1]
 | .items d _ _ => (dictAt st d).map fun p => [.str p.1, p.2]
theorem Proto.map {ι κ : Type} {I : Addr} {P : Addr → Prop} {It : Nat → Heap → Prop} {cur : Nat → St → Option ι → Prop} {target : Expr} {asg : ι → M Unit} (Pr : Proto g C I P It cur target asg) (f : ι → κ) {asg' : κ → M Unit} (h : ∀ y, asg' (f y) = asg y) :
  Proto g C I P It (curMap f cur) target asg' where
 off := Pr.off
 stable := Pr.stable
 there := Pr.there
 item := by
  intro i x st s Q X hP q0q hI sx hq
  refine exG1_2 q0q fun o' e hc => ?_
  cases o' with
  | none => k_call_by "c" e
  | some y => k_call_by "c" e; rw [h] at hq; exact Pr.item i y st s Q X hP hc hI sx hq
 done := by
  intro i st s E hP q0q hI sx
  refine exG1_2 q0q fun o' e hc => ?_
  cases o' with
  | none => exact Pr.done i st s E hP hc hI sx
  | some y => k_call_by "c" e
structure TgOk (g : Gx) (S : Sc) (md : Md) (n : Nat) (target : Expr) (asg : List V → M Unit) : Prop where
 one : RefA g S md n (fun v => asg [v]) target
 two : (∃ elts xs x1 pos, target = .Tuple elts x1 pos ∧ NamesAre elts xs ∧ (xs.all (stOk S)) = true ∧ ∀ a b, asg [a, b] = setsM xs [a, b]) ∨ ∀ a b, asg [a, b] = mstuck
noncomputable def asg1 (x : Str) : List V → M Unit | [v] => setM x v | _ => mstuck
noncomputable def asgT (xs : List Str) : List V → M Unit | [v] => unpackM xs v | l => setsM xs l
theorem tg_Name {x : Str} {px : Pos} (hv : stOk S x = true) : TgOk g S md n (.Name x px) (asg1 x) := ⟨refA_Name hv, .inr fun _ _ => rfl⟩
theorem tg_Tuple {elts : List Expr} {xs : List Str} {x1} {pos : Pos} (hm : md ≠ .hand) (h1 : NamesAre elts xs) (ho : (xs.all (stOk S)) = true) : TgOk g S md n (.Tuple elts x1 pos) (asgT xs) :=
 ⟨refA_Tuple hm h1 ho, .inl ⟨elts, xs, x1, pos, rfl, h1, ho, fun _ _ => rfl⟩⟩
noncomputable def Stands (g : Gx) (C : Cx) (sr : Src) (I : Addr) (P : Addr → Prop) (It : Nat → Heap → Prop) (st : St) (h : Heap) : Prop :=
 It 0 h ∧ (∀ b, P b → Off C b ∧ st.μ b = none ∧ (h.get? b).isSome = true) ∧ (∀ S' md' n' C', Ok g S' md' n' C' → md' ≠ .hand → (∀ b, P b → Off C' b) → ∀ target asg, TgOk g S' md' n' target asg → Proto g C' I P It sr.cur target asg) ∧
  ∀ i (A : Around) (s : Shared) (Q : Value → Shared → Prop) (E : Value → Shared → Prop), It i s.heap → Q (.ref I) s → wpAny (model g.prog g.w) A (pyIter (.ref I)) Q E s
noncomputable abbrev RefIt (g : Gx) (S : Sc) (md : Md) (n : Nat) (p : M Src) (iter : Expr) : Prop := ∀ C, Ok g S md n C → ∀ st s Q X, Sim g C st s → p Q X st →
 wpAny (model g.prog g.w) C.A (eval iter C.env) (fun x s1 => wpAny (model g.prog g.w) C.A (pyIter x) (fun it s2 => ∃ sr st' I P It, it = .ref I ∧ Sim g C st' s2 ∧ Q sr st' ∧ Stands g C sr I P It st' s2.heap) (PostX g C X) s1) (PostX g C X) s
inductive SeqH (Q : Src → St → Prop) (st : St) : V → Prop
 | list {a : Addr} {xs : List V} : st.μ a = some (.list xs) → Q (.list a) st → SeqH Q st (.ref a)
 | tup {a : Addr} {xs : List V} : st.μ a = some (.tup xs) → Q (.tup a) st → SeqH Q st (.ref a)
 | dict {a : Addr} {es : List (Str × V)} {ep : Nat} : st.μ a = some (.dict es ep) → Q (.keys a es.length ep) st → SeqH Q st (.ref a)
noncomputable def seqM (v : V) : M Src := fun Q _ st => SeqH Q st v
theorem stuck_item {ι : Type} {asg : List V → M Unit} (h : ∀ a b, asg [a, b] = mstuck) {I : Addr} {P : Addr → Prop} {It : Nat → Heap → Prop} {cur : Nat → St → Option ι → Prop} {target : Expr} {f : ι → V × V} {xs : List Str} {elts : List Expr} {x1 : Nat} {pos : Pos}
  (Pr : Proto g C I P It cur (.Tuple elts x1 pos) (fun p => setsM xs [(f p).1, (f p).2])) : Proto g C I P It (curMap (fun p => [(f p).1, (f p).2]) cur) target asg where
 off := Pr.off
 stable := Pr.stable
 there := Pr.there
 item := by
  intro i x st s Q X hP q0q hI sx hq
  refine exG1_2 q0q fun o' e hc => ?_
  cases o' with
  | none => k_call_by "c" e
  | some y => k_call_by "c" e; rw [h] at hq; exact hq.elim
 done := by
  intro i st s E hP q0q hI sx
  refine exG1_2 q0q fun o' e hc => ?_
  cases o' with
  | none => exact Pr.done i st s E hP hc hI sx
  | some y => k_call_by "c" e
theorem ref_seq {p : M V} {iter : Expr} (hm : md ≠ .hand) (h : RefE g S md n p iter) : RefIt g S md n (mbind p seqM) iter := by
 intro C Y st s Q X x hp
 refine h.use Y x hp fun v va st1 s1 hv x1 h1 => ?_
 have nN : s1.heap.get? s1.heap.objs.size = none := Heap.get?_none_of_le (Nat.le_refl _)
 induction h1 with
 | @list a xs hx h1 =>
   rw [er_ref hv]
   refine exG1_2 (list_in x1 hx) fun vs hl e => ?_
   refine wpAny_pyIter_list hl ⟨_, st1, s1.heap.objs.size, (· = s1.heap.objs.size), fun i h => h.IsListIter s1.heap.objs.size a i, rfl, x1.grow (tk := s1.toks) fun _ _ e => Heap.get?_push_of_some _ e, h1, ?_⟩
   refine ⟨⟨_, Heap.get?_push_size _ rfl, rfl, rfl⟩, fun b hb => by subst hb; exact ⟨x1.off_new nN, x1.mu_none nN, by first | (rw [Heap.get?_push_size _ rfl]; rfl)⟩, fun S' md' n' C' Y' hm' hO target asg T => ?_, fun i A s Q E hI hQ => wpAny_pyIter_listiter hI hQ⟩
   exact (proto_list Y' hm' T.one (hO _ rfl)).map _ fun _ => rfl
 | @tup a xs hx h1 =>
   rw [er_ref hv]
   refine exG1_2 (tup_in x1 hx) fun vs hl e => ?_
   refine wpAny_pyIter_tuple hl ⟨_, st1, s1.heap.objs.size, (· = s1.heap.objs.size), fun i h => h.IsTupleIter s1.heap.objs.size a i, rfl, x1.grow (tk := s1.toks) fun _ _ e => Heap.get?_push_of_some _ e, h1, ?_⟩
   refine ⟨⟨_, Heap.get?_push_size _ rfl, rfl, rfl⟩, fun b hb => by subst hb; exact ⟨x1.off_new nN, x1.mu_none nN, by first | (rw [Heap.get?_push_size _ rfl]; rfl)⟩, fun S' md' n' C' Y' hm' hO target asg T => ?_, fun i A s Q E hI hQ => wpAny_pyIter_tupleiter hI hQ⟩
   exact (proto_tup Y' hm' T.one (hO _ rfl)).map _ fun _ => rfl
 | @dict a es ep hx h1 =>
   rw [er_ref hv]
   refine exG0_2 (dict_in x1 hx) fun hs r1 => ?_
   refine exG1_2 r1 fun kvs hd e => ?_
   have hl : es.length = kvs.length := by rw [← e]; simp
   refine wpAny_pyIter_dict hs hd ⟨_, st1, s1.heap.objs.size, (· = s1.heap.objs.size), fun i h => h.IsKeyIter s1.heap.objs.size a i es.length ep, rfl, x1.grow (tk := s1.toks) fun _ _ e => Heap.get?_push_of_some _ e, h1, ?_⟩
   refine ⟨⟨_, Heap.get?_push_size _ rfl, rfl, by rw [hl]; rfl⟩, fun b hb => by subst hb; exact ⟨x1.off_new nN, x1.mu_none nN, by first | (rw [Heap.get?_push_size _ rfl]; rfl)⟩, fun S' md' n' C' Y' hm' hO target asg T => ?_, fun i A s Q E hI hQ => wpAny_pyIter_keyiter hI hQ⟩
   exact (proto_keys Y' hm' T.one (hO _ rfl)).map _ fun _ => rfl
inductive RngH (Q : Src → St → Prop) (st : St) : V → Prop
 | mk {i : Int} : i ≤ 100000 → -100000 ≤ i → Q (.rng i.toNat) st → RngH Q st (.int i)
noncomputable def rngM (v : V) : M Src := fun Q _ st => RngH Q st v
theorem ref_range {p : M V} {e : Expr} {px pos : Pos} (hm : md ≠ .hand) (b : Blt g S "range" (.type "range")) (h : RefE g S md n p e) (he : ∀ env, starEach [e] env = (false, eval e env) :: starEach [] env := by intro _; rfl) :
  RefIt g S md n (mbind p rngM) (.Call (.Name "range" px) [e] [] pos) := by
 intro C Y st s Q X x hp
 refine wpAny_Call_NameR (b.run Y x ?_)
 refine PyProof.Rows.callWith_type1 (wpAny_items_cons (h.use Y x hp fun v va st1 s1 hv x1 h1 => wpAny_items_nil ?_) (he _)) (he _)
 induction h1 with
 | @mk i h2 h3 h1 =>
  obtain ⟨t, rfl⟩ := er_int hv
  refine call_range_1 ?_
  refine wpAny_pyIter_range (IsRange.new ..) (small_one (by decide) (by decide) (by omega) (by omega)) ?_
  have x2 : Sim g C st1 { s1 with heap := s1.heap.push { cls := .type "range", data := .fields #[.int 0 s1.toks, .int i t, .int 1 (s1.toks + 1)] }, toks := s1.toks + 1 + 1 } := x1.grow fun _ _ e => Heap.get?_push_of_some _ e
  generalize hH : s1.heap.push { cls := .type "range", data := .fields #[.int 0 s1.toks, .int i t, .int 1 (s1.toks + 1)] } = H at x2 ⊢
  have nN : ({ s1 with heap := H, toks := s1.toks + 1 + 1 } : Shared).heap.get? H.objs.size = none := Heap.get?_none_of_le (Nat.le_refl _)
  refine ⟨_, st1, H.objs.size, (· = H.objs.size), fun j h => IsRangeIter h H.objs.size (j : Int) ((i.toNat : Int) - j) 1, rfl, x2.grow (tk := s1.toks + 1 + 1) fun _ _ e => Heap.get?_push_of_some _ e, h1, ?_⟩
  refine ⟨?_, fun b hb => by subst hb; exact ⟨x2.off_new nN, x2.mu_none nN, by first | (rw [Heap.get?_push_size _ rfl]; rfl)⟩, fun S' md' n' C' Y' hm' hO target asg T => ?_, fun i A s Q E hI hQ => wpAny_pyIter_rangeiter hI hQ⟩
  ·have hsz : Builtin.Range.rangeSize 0 i 1 = (i.toNat : Int) - ((0 : Nat) : Int) := by rw [rangeSize_one]; split <;> omega
   rw [hsz]
   exact Heap.get?_push_size _ rfl
  ·exact (proto_range Y' hm' T.one (hO _ rfl)).map _ fun _ => rfl
inductive EnH (Q : Src → St → Prop) (st : St) : V → Prop
 | list {a : Addr} {xs : List V} : st.μ a = some (.list xs) → Q (.enL a) st → EnH Q st (.ref a)
 | tup {a : Addr} {xs : List V} : st.μ a = some (.tup xs) → Q (.enT a) st → EnH Q st (.ref a)
noncomputable def enM (v : V) : M Src := fun Q _ st => EnH Q st v
theorem meets_enumT (l : Addr) (items : Array Value) (n : Nat) :
  Meets (Builtin.«enumerate.__new__» ⟨[.type "enumerate", .ref l], []⟩) (fun _ R s => s.heap.get? l = some { cls := .type "tuple", data := .seq items n } ∧
   R (.ok (.ret (.ref (s.heap.push { cls := .type "tuple_iterator", data := .fields #[.ref l, .int 0 0] }).objs.size)))
    { s with heap := (s.heap.push { cls := .type "tuple_iterator", data := .fields #[.ref l, .int 0 0] }).push { cls := .type "enumerate", data := .fields #[.none, .bool false, .ref s.heap.objs.size, rawInt 0, .none, .none] } }) :=
 .of_wp fun prog w A R s h => by
  obtain ⟨hp, g, d, tk, os⟩ := s; obtain ⟨hl, h⟩ := h
  have hsub := sub_enumerate
  have hL : Heap.IsTuple (Shared.heap ⟨hp, g, d, tk, os⟩) l items := ⟨_, hl, rfl, n, rfl⟩
  wp_walk using AutoSeq1.wpAny_loadPart' hl
  refine wpAny_stack_any fun st => wpAny_pure ?_
  split
  ·rename_i c _ _ _ _ _
   cases (c == Value.type "enumerate")
   ·wp_walk using AutoSeq1.wpAny_loadPart' hl, wpAny_pyIter_tuple hL
    exact ⟨_, rfl, h⟩
   ·wp_walk using AutoSeq1.wpAny_loadPart' hl, wpAny_pyIter_tuple hL
    exact ⟨_, rfl, h⟩
  ·wp_walk using AutoSeq1.wpAny_loadPart' hl, wpAny_pyIter_tuple hL
   exact ⟨_, rfl, h⟩
theorem call_enumT {prog : Program} {w : World} {A : Around} {E : Value → Shared → Prop} {l : Addr} {items : Array Value} {n : Nat} {Q : Value → Shared → Prop} (hl : s.heap.get? l = some { cls := .type "tuple", data := .seq items n })
  (h : ∀ h', IsEnum h' (s.heap.objs.size + 1) s.heap.objs.size 0 .none → h'.IsTupleIter s.heap.objs.size l 0 → h'.objs.size = s.heap.objs.size + 2 →
   (∀ b o, s.heap.get? b = some o → h'.get? b = some o) → Q (.ref (s.heap.objs.size + 1)) { s with heap := h' }) :
  wpAny (model prog w) A (call (.type "enumerate") [.ref l]) Q E s := by
 refine callType_new PySem.F.called_enumerate (by decide) (PySem.F.typeCall_enumerate_1 _) (PySem.F.newCall_enumerate_1 _) (fun obj => PySem.F.args_object_init_2 obj _) PySem.F.entry_enumerate_new
  (meets_enumT l items n) ⟨hl, ?_⟩
 have hz : (s.heap.push { cls := .type "tuple_iterator", data := .fields #[.ref l, .int 0 0] }).objs.size = s.heap.objs.size + 1 := Heap.size_push ..
 show _ ∧ _
 rw [hz]
 have he : IsEnum ((s.heap.push { cls := .type "tuple_iterator", data := .fields #[.ref l, .int 0 0] }).push
   { cls := .type "enumerate", data := .fields #[.none, .bool false, .ref s.heap.objs.size, rawInt 0, .none, .none] }) (s.heap.objs.size + 1) s.heap.objs.size 0 .none := by
  have := Heap.get?_push_size (s.heap.push { cls := .type "tuple_iterator", data := .fields #[.ref l, .int 0 0] })
   (o := { cls := .type "enumerate", data := .fields #[.none, .bool false, .ref s.heap.objs.size, rawInt 0, .none, .none] }) rfl
  rw [hz] at this; exact this
 refine ⟨⟨_, he, rfl⟩, h _ he ⟨_, Heap.get?_push_of_some _ (Heap.get?_push_size _ rfl), rfl, rfl⟩ (by rw [Heap.size_push, hz]) fun b o x => Heap.get?_push_of_some _ (Heap.get?_push_of_some _ x)⟩
theorem ref_enum {p : M V} {e : Expr} {px pos : Pos} (hm : md ≠ .hand) (b : Blt g S "enumerate" (.type "enumerate")) (h : RefE g S md n p e) (he : ∀ env, starEach [e] env = (false, eval e env) :: starEach [] env := by intro _; rfl) :
  RefIt g S md n (mbind p enM) (.Call (.Name "enumerate" px) [e] [] pos) := by
 intro C Y st s Q X x hp
 refine wpAny_Call_NameR (b.run Y x ?_)
 refine PyProof.Rows.callWith_type1 (wpAny_items_cons (h.use Y x hp fun v va st1 s1 hv x1 h1 => wpAny_items_nil ?_) (he _)) (he _)
 have nN : s1.heap.get? s1.heap.objs.size = none := Heap.get?_none_of_le (Nat.le_refl _)
 have nN1 : s1.heap.get? (s1.heap.objs.size + 1) = none := Heap.get?_none_of_le (Nat.le_succ _)
 have hne : s1.heap.objs.size + 1 ≠ s1.heap.objs.size := Nat.succ_ne_self _
 induction h1 with
 | @list a xs hx h1 =>
   rw [er_ref hv]
   refine exG1_2 (list_in x1 hx) fun vs hl e => ?_
   refine call_enumerate_list hl fun h₁ he₁ hit₁ hz₁ hk₁ => ?_
   have x2 : Sim g C st1 { s1 with heap := h₁ } := x1.grow (tk := s1.toks) hk₁
   refine wpAny_pyIter_enum he₁ ⟨_, st1, s1.heap.objs.size + 1, fun b => b = s1.heap.objs.size + 1 ∨ b = s1.heap.objs.size, fun i h => (∃ old, IsEnum h (s1.heap.objs.size + 1) s1.heap.objs.size i old) ∧ h.IsListIter s1.heap.objs.size a i, rfl, x2, h1, ?_⟩
   refine ⟨⟨⟨_, he₁⟩, hit₁⟩, fun b hb => ?_, fun S' md' n' C' Y' hm' hO target asg T => ?_, fun i A s Q E hI hQ => ?_⟩
   ·rcases hb with rfl | rfl
    ·exact ⟨x1.off_new nN1, x1.mu_none nN1, by show (h₁.get? _).isSome = true; rw [show h₁.get? _ = _ from he₁]; rfl⟩
    ·obtain ⟨oo, hoo, _⟩ := hit₁; exact ⟨x1.off_new nN, x1.mu_none nN, by show (h₁.get? _).isSome = true; rw [hoo]; rfl⟩
   ·rcases T.two with ⟨elts, ys, z1, pos, rfl, q1, q2, q3⟩ | q
    ·exact (proto_enumL Y' hm' q1 q2 (hO _ (.inl rfl)) (hO _ (.inr rfl)) hne).map _ fun p => q3 _ _
    ·exact stuck_item (f := fun p : Nat × V => (V.int p.1, p.2)) q (proto_enumL (elts := []) (xs := []) (x1 := 0) (pos := default) Y' hm' .nil rfl (hO _ (.inl rfl)) (hO _ (.inr rfl)) hne)
   ·refine exG1_1 hI.1 fun old hI => ?_
    exact wpAny_pyIter_enum hI hQ
 | @tup a xs hx h1 =>
   rw [er_ref hv]
   refine exG0_2 (x1.objs _ _ hx) fun r2 _ => ?_
   obtain ⟨vs, n', hl, e⟩ := r2
   refine call_enumT hl fun h₁ he₁ hit₁ hz₁ hk₁ => ?_
   have x2 : Sim g C st1 { s1 with heap := h₁ } := x1.grow (tk := s1.toks) hk₁
   refine wpAny_pyIter_enum he₁ ⟨_, st1, s1.heap.objs.size + 1, fun b => b = s1.heap.objs.size + 1 ∨ b = s1.heap.objs.size, fun i h => (∃ old, IsEnum h (s1.heap.objs.size + 1) s1.heap.objs.size i old) ∧ h.IsTupleIter s1.heap.objs.size a i, rfl, x2, h1, ?_⟩
   refine ⟨⟨⟨_, he₁⟩, hit₁⟩, fun b hb => ?_, fun S' md' n' C' Y' hm' hO target asg T => ?_, fun i A s Q E hI hQ => ?_⟩
   ·rcases hb with rfl | rfl
    ·exact ⟨x1.off_new nN1, x1.mu_none nN1, by show (h₁.get? _).isSome = true; rw [show h₁.get? _ = _ from he₁]; rfl⟩
    ·obtain ⟨oo, hoo, _⟩ := hit₁; exact ⟨x1.off_new nN, x1.mu_none nN, by show (h₁.get? _).isSome = true; rw [hoo]; rfl⟩
   ·rcases T.two with ⟨elts, ys, z1, pos, rfl, q1, q2, q3⟩ | q
    ·exact (proto_enumT Y' hm' q1 q2 (hO _ (.inl rfl)) (hO _ (.inr rfl)) hne).map _ fun p => q3 _ _
    ·exact stuck_item (f := fun p : Nat × V => (V.int p.1, p.2)) q (proto_enumT (elts := []) (xs := []) (x1 := 0) (pos := default) Y' hm' .nil rfl (hO _ (.inl rfl)) (hO _ (.inr rfl)) hne)
   ·refine exG1_1 hI.1 fun old hI => ?_
    exact wpAny_pyIter_enum hI hQ
noncomputable def loopM (asg : List V → M Unit) (body els : M Fl) (sr : Src) : M Fl := fun Q X st => forM sr.cur asg body els 0 (sr.its st) Q X st
theorem ref_For {p : M Src} {target iter : Expr} {asg : List V → M Unit} {pb pe : M Fl} {body orelse : List Stmt} {pos : Pos} (h : RefIt g S .fn n p iter) (T : TgOk g S .fn n target asg) (hb : RefB g S .fn n pb body) (he : RefB g S .fn n pe orelse)
  (hs : ∀ env x, foldedSetIterable iter env x = pure x := by intro _ _; rfl) :
  RefS g S .fn n (mbind p (loopM asg pb pe)) (.For target iter body orelse pos) := by
 intro C Y st s Q X x hp
 refine wpAny_For (wpAny_mono (h C Y st s _ X x hp) (fun xv s1 h1 => wpAny_mono h1 (fun it s2 h2 => ?_) fun _ _ e => e) fun _ _ e => e) (hs _)
 revert h2; refine fun oO => exG5_7 oO fun sr st' I P It r5 x2 h2 I0 hP hpr _ => ?_
 obtain rfl := r5
 refine codeAny_mono (for_run (hpr S .fn n C Y (by intro h; k_call_by "c" h) (fun b hb => (hP b hb).1) target asg T) Y (by intro h; k_call_by "c" h) hb he h2 I0 x2 fun b hb => (hP b hb).2.1) fun r s' hr => ?_
 exact hr
end Kk
end
section
namespace Kk
variable {g : Gx} {S : Sc} {md : Md} {n : Nat} {C : Cx} {st st' : St} {s : Shared} {h' : Heap} {tk : Nat} {α β γ δ : Type}
theorem raised_key {h' : Heap} {e : Addr} {X : Ex → St → Prop} (x : Sim g C st s) (hX : X .key st) (N : Heap.NewExc s.heap h' e "KeyError") : PostX g C X (.ref e) { s with heap := h', toks := tk } := by
 refine exG2_3 N.there fun ob t ho hc hd => ?_
 exact ⟨.key, st, none, x.grow N.keeps, hX, .inl rfl, e, ob, _, rfl, ho, hc, hd, by simp, x.off_new N.new, x.mu_none N.new, rfl⟩
theorem idx_runX {a b : V} {va vb : Value} {Q : V → St → Prop} {X : Ex → St → Prop} (Y : Ok g S md n C) (hm : md ≠ .hand) (x : Sim g C st s) (ha : er va = a) (hb : er vb = b) (h : idxM a b Q X st) :
  wpAny (model g.prog g.w) C.A (getItem va vb) (Post g C VR Q) (PostX g C X) s :=
 idx_run Y x ha hb h fun d k t es ep e1 e2 h1 h2 hX => by
  rw [e1, e2]
  refine exG0_2 (dict_in x h1) fun hs r1 => ?_
  refine exG1_2 r1 fun kvs hd e => ?_
  exact wpAny_getItem_missing_of (isStrOf_self _ t) hs (Y.handled hm) hd.dictOf.mapOf (dget_real_none e h2) fun h' e N => raised_key x hX N
theorem idx_type {a b : V} {va vb : Value} {Q : V → St → Prop} {X : Ex → St → Prop} (x : Sim g C st s) (ha : er va = a) (hb : er vb = b) (h : idxM a b Q X st) :
  ∃ T id, s.TypeIs va T ∧ typeLookup (.type T) "__getitem__" = pure (some (.builtin id)) := by
 have dct : ∀ {d : Addr} {es : List (Str × V)} {ep : Nat}, st.μ d = some (.dict es ep) → ∃ T id, s.TypeIs (.ref d) T ∧ typeLookup (.type T) "__getitem__" = pure (some (.builtin id)) := fun hm => by
  refine exG0_2 (dict_in x hm) fun hs r2 => ?_
  refine exG1_2 r2 fun kvs hd e => ?_
  exact ⟨"dict", _, hd.dictOf.typeIs, slot_dict_getitem.lookup⟩
 induction h with
 | str _ _ _ => obtain ⟨t, e⟩ := er_str ha; rw [e]; exact ⟨"str", _, typeIs_str _ _ _, PySem.F.slot_str_getitem.lookup⟩
 | list hm _ _ _ _ => rw [er_ref ha]; obtain ⟨vs, hl, e⟩ := list_in x hm; exact ⟨"list", _, hl.typeIs, slot_list_getitem.lookup⟩
 | tup hm _ _ _ _ => rw [er_ref ha]; obtain ⟨vs, hl, e⟩ := tup_in x hm; exact ⟨"tuple", _, hl.typeIs, slot_tuple_getitem.lookup⟩
 | pin hm _ _ _ _ => rw [er_ref ha]; exact ⟨"list", _, Heap.IsList.typeIs ⟨_, (x.objs _ _ hm).1, rfl, 0, rfl⟩, slot_list_getitem.lookup⟩
 | dict hm _ _ => rw [er_ref ha]; exact dct hm
 | key hm _ _ => rw [er_ref ha]; exact dct hm
theorem subTail_run {value slice : Expr} {o i : Value} {T id : String} {Q : Value → Shared → Prop} {E : Value → Shared → Prop} (hT : s.TypeIs o T)
  (hl : typeLookup (.type T) "__getitem__" = pure (some (.builtin id))) (h : wpAny (model g.prog g.w) C.A (getItem o i) Q E s)
  (hs : subscripted slice false o i = operate [o, i] (getItem o i) ∨ subscripted slice false o i = operate [i, o] (getItem o i)) :
  wpAny (model g.prog g.w) C.A (subscriptTail value slice o i) Q E s := by
 unfold subscriptTail
 refine wpAny_bind ?_
 rw [getitemInPython_of_ne hT.not_modules]
 refine wpAny_bind (wpAny_specialOf hT hl ?_)
 have fin : wpAny (model g.prog g.w) C.A (subscripted slice false o i) (fun r s₃ => wpAny (model g.prog g.w) C.A (letTemporaryGo value o r >>= fun _ => pure r) Q E s₃) E s := by
  rcases hs with hs | hs <;>
  ·rw [hs]
   exact wpAny_operating (wpAny_mono h (fun r s₃ h₃ => wpAny_bind (wpAny_letTemporaryGo (wpAny_pure h₃))) fun _ _ x => x)
 first
  | exact wpAny_pure (wpAny_bind fin)
  | exact wpAny_bind (wpAny_pure (wpAny_bind fin))
  | exact wpAny_bind fin
theorem ref_Subscript {p q : M V} {v i : Expr} {pos : Pos} (hm : md ≠ .hand) (hv : RefE g S md n p v) (hi : RefE g S md n q i) (hs : ∀ o k, subscripted i false o k = operate [o, k] (getItem o k) := by intro _ _; rfl) :
  RefE g S md n (mbind p fun a => mbind q fun b => idxM a b) (.Subscript v i pos) := fun C Y st s Q X x hp =>
 Subscript_ (hv.use Y x hp fun a va st1 s1 ha x1 h1 => hi.use Y x1 h1 fun b vb st2 s2 hb x2 h2 => by
  refine exG2_2 (idx_type x2 ha hb h2) fun T id hT hl => ?_
  exact subTail_run hT hl (idx_runX Y hm x2 ha hb h2) (.inl (hs _ _)))
noncomputable abbrev RefP (g : Gx) (S : Sc) (md : Md) (n : Nat) (p : M (Option Int)) (e : Option Expr) : Prop := Ref g S md n (fun a b => IsPart b a) p (evalPart e)
theorem refP_none : RefP g S md n (mret none) none := fun C Y st s Q X x h => evalPart_none_step ⟨none, st, .none, x, h⟩
theorem refP_some {p : M V} {e : Expr} (h : RefE g S md n p e) : RefP g S md n (mbind p fun v Q _ st => match v with | .int i => Q (some i) st | _ => False) (some e) := fun C Y st s Q X x hp =>
 evalPart_some_step (h.use Y x hp fun a va st1 s1 ha x1 h1 => by
  dsimp only at h1
  split at h1
  ·obtain ⟨t, rfl⟩ := er_int ha
   exact ⟨_, st1, .int _ _, x1, h1⟩
  ·exact h1.elim)
inductive SliH (Q : V → St → Prop) (st : St) : V → Option Int → Option Int → Prop
 | list {a : Addr} {i j : Int} {xs : List V} : st.μ a = some (.list xs) → 0 ≤ i → i ≤ j → xs.length ≤ 1000 → (∀ b, st.μ b = none → Q (.ref b) (st.put b (.list ((xs.drop i.toNat).take (j - i).toNat)))) → SliH Q st (.ref a) (some i) (some j)
 | pin {a : Addr} {i j : Int} {vs : Array Value} : st.μ a = some (.pin vs) → 0 ≤ i → i ≤ j → (vs.toList.map er).length ≤ 1000 → (∀ b, st.μ b = none → Q (.ref b) (st.put b (.list (((vs.toList.map er).drop i.toNat).take (j - i).toNat)))) → SliH Q st (.ref a) (some i) (some j)
 | tup {a : Addr} {j : Int} {xs : List V} : st.μ a = some (.tup xs) → 1 ≤ j → j < xs.length → xs.length ≤ 1000 → (∀ b, st.μ b = none → Q (.ref b) (st.put b (.tup (xs.take j.toNat)))) → SliH Q st (.ref a) none (some j)
 | str {x : Str} {lo hi : Option Int} : x.length ≤ 1000 → Q (.str (Txt.slice x lo hi)) st → SliH Q st (.str x) lo hi
noncomputable def sliceM (o : V) (lo hi : Option Int) : M V := fun Q _ st => SliH Q st o lo hi
theorem filterMap_range_take {α : Type} (xs : List α) (a m : Nat) : (List.range m).filterMap (fun k => xs[a + k]?) = (xs.drop a).take m := by
 induction m generalizing a with
 | zero => simp
 | succ m ih =>
  rw [List.range_succ_eq_map, List.filterMap_cons, List.filterMap_map]
  have e : ((fun k => xs[a + k]?) ∘ Nat.succ) = fun k => xs[(a + 1) + k]? := by funext k; simp only [Function.comp]; congr 1; omega
  rw [e, ih (a + 1)]
  simp only [Nat.add_zero]
  cases h : xs[a]? with
  | none =>
   have hl : xs.length ≤ a := by simpa using h
   simp [List.drop_of_length_le hl, List.drop_of_length_le (Nat.le_succ_of_le hl)]
  | some v =>
   obtain ⟨hlt, rfl⟩ := List.getElem?_eq_some_iff.mp h
   rw [List.drop_eq_getElem_cons hlt, List.take_succ_cons]
theorem slicePick_ab (items : Array Value) (i j : Int) (h0 : 0 ≤ i) (h1 : i ≤ j) : slicePick items (some i) (some j) none = ((items.toList.drop i.toNat).take (j - i).toNat).toArray := by
 obtain ⟨a, rfl⟩ := Int.eq_ofNat_of_zero_le h0
 obtain ⟨b, rfl⟩ := Int.eq_ofNat_of_zero_le (Int.le_trans h0 h1)
 have e : sliceBounds (some (a : Int)) (some (b : Int)) none items.size = (((min a items.size : Nat) : Int), ((min b items.size : Nat) : Int), 1) := by
  simp only [sliceBounds, Option.getD_none]
  have h2 : ¬ ((a : Int) < 0) := by omega
  have h3 : ¬ ((b : Int) < 0) := by omega
  simp only [h2, h3, if_false, show (1 : Int) > 0 by omega, if_true]
  refine Prod.ext ?_ (Prod.ext ?_ rfl) <;> (dsimp only; omega)
 rw [kmk_pick_nat items e]
 congr 1
 have h3 : ((b : Int) - (a : Int)).toNat = b - a := by omega
 rw [h3]
 simp only [Int.toNat_natCast]
 by_cases hb : b ≤ items.size
 ·rw [Nat.min_eq_left hb, Nat.min_eq_left (by omega)]
 ·by_cases ha : a ≤ items.size
  ·rw [Nat.min_eq_right (by omega : items.size ≤ b), Nat.min_eq_left ha, List.take_of_length_le (by simp), List.take_of_length_le (by simp; omega)]
  ·rw [Nat.min_eq_right (by omega : items.size ≤ b), Nat.min_eq_right (by omega : items.size ≤ a), List.drop_of_length_le (by simp), List.drop_of_length_le (by simp; omega)]
   simp
theorem adjust_to (b n : Nat) (hb : b ≤ n) : Builtin.Slice.sliceAdjust none (some (b : Int)) 1 (n : Int) = (0, (b : Int)) := by
 unfold Builtin.Slice.sliceAdjust
 have h1 : ¬ ((1 : Int) < 0) := by omega
 have h2 : ¬ ((b : Int) < 0) := by omega
 simp only [h1, h2, if_false]
 congr 1
 omega
theorem places_to (b : Nat) : Builtin.Slice.slicePlaces 0 (b : Int) 1 = b := by
 unfold Builtin.Slice.slicePlaces
 have h1 : (1 : Int) > 0 := by omega
 simp only [h1, if_true, Int.ediv_one]
 split <;> omega
theorem sliceApplied_to {prog : Program} {w : World} {A : Around} {E : Value → Shared → Prop} {sl : Addr} {b n : Nat} {u : Tok} {Q : Int × Int × Nat → Shared → Prop} (hs : s.heap.IsSliceOf sl .none (.int b u) .none) (hb : b ≤ n) (h : Q (0, 1, b) s) :
  wpAny (model prog w) A (Builtin.Slice.sliceApplied (.ref sl) (pure (n : Int))) Q E s := by
 refine exG1_3 (id hs) fun os hos hcs hds => ?_
 unfold Builtin.Slice.sliceApplied Builtin.Slice.sliceFields
 refine wpAny_bind (wpAny_bind (wpAny_field hos hds (x := .none) rfl (wpAny_bind (wpAny_field hos hds (x := .int b u) rfl (wpAny_bind (wpAny_field hos hds (x := .none) rfl (wpAny_pure ?_)))))))
 refine wpAny_bind (slicePart_none ?_)
 show wpAny _ _ (if ((1 : Int) == 0) = true then _ else _) _ _ s
 rw [if_neg (by decide)]
 refine wpAny_bind (slicePart_none (wpAny_bind (slicePart_int (wpAny_bind (wpAny_pure ?_)))))
 show wpAny _ _ (match Builtin.Slice.sliceAdjust none (some (b : Int)) 1 (n : Int) with | (lo, hi) => pure (lo, (1 : Int), Builtin.Slice.slicePlaces lo hi 1)) _ _ s
 rw [adjust_to b n hb]
 show wpAny _ _ (pure ((0 : Int), (1 : Int), Builtin.Slice.slicePlaces (0 : Int) (b : Int) 1)) _ _ s
 rw [places_to b]
 exact wpAny_pure h
theorem getItem_tuple_to {prog : Program} {w : World} {A : Around} {E : Value → Shared → Prop} {t sl : Addr} {items : Array Value} {b : Nat} {u : Tok} {Q : Value → Shared → Prop} (ht : s.heap.IsTuple t items) (hs : s.heap.IsSliceOf sl .none (.int b u) .none) (hb : b < items.size)
  (h : Q (.ref s.heap.objs.size) { s with heap := s.heap.push { cls := .type "tuple", data := .seq (items.toList.take b).toArray } })
  (hsz : items.size ≤ sizeLine) : wpAny (model prog w) A (getItem (.ref t) (.ref sl)) Q E s := by
 have hok : sizeOk (.seq (items.toList.take b).toArray) := by
  show (items.toList.take b).toArray.size ≤ sizeLine
  rw [List.size_toArray, List.length_take, Array.length_toList]
  omega
 refine exG1_3 (id hs) fun os hos hcs hds => ?_
 have hTs : s.TypeIs (.ref sl) "slice" := ⟨os, hos, hcs⟩
 unfold getItem
 try with_reducible refine wpAny_holding ?_
 first | refine wpAny_bind (wpAny_pure ?_) | skip
 refine wpAny_bind (wpAny_sequenceKey ht.typeIs (by decide) ?_)
 refine wpAny_bind (wpAny_callSpecial?_slot (name := Str.ofString "__getitem__") ht.typeIs slot_tuple_getitem
  (wpAny_call_entry slot_tuple_getitem ht.typeIs entry_tuple_getitem ?_ (args_tuple_getitem _ _)))
 show wpAny _ _ (Builtin.Tuple.tupleItemsOf (.ref t) >>= _) _ _ s
 refine wpAny_bind (tupleItemsOf_ ht ?_)
 refine wpAny_bind (wpAny_typeOf hTs ?_)
 rw [if_pos (by decide)]
 refine wpAny_bind (sliceApplied_to hs (Nat.le_of_lt hb) ?_)
 have hno : ¬ (((0 : Int) == 0 && (1 : Int) == 1 && b == items.size) = true) := by
  have : (b == items.size) = false := by rw [beq_eq_false_iff_ne]; omega
  rw [this]; simp
 show wpAny _ _ (if ((0 : Int) == 0 && (1 : Int) == 1 && b == items.size) = true then _ else _) _ _ s
 rw [if_neg hno]
 have hp : ((List.range b).filterMap fun (k : Nat) => items[((0 : Int) + (k : Int) * 1).toNat]?).toArray = (items.toList.take b).toArray := by
  have e : (fun (k : Nat) => items[((0 : Int) + (k : Int) * 1).toNat]?) = fun k => items.toList[0 + k]? := by
   funext k
   have : ((0 : Int) + (k : Int) * 1).toNat = 0 + k := by omega
   rw [this]; simp
  rw [e, filterMap_range_take]; simp
 rw [hp]
 unfold Builtin.Tuple.tupleExact
 first
  | exact wpAny_bind (wpAny_newObj_type (wpAny_pure ⟨_, rfl, wpAny_pure h⟩) hok)
  | exact wpAny_bind (wpAny_pure (wpAny_bind (wpAny_newObj_type (wpAny_pure ⟨_, rfl, wpAny_pure h⟩) hok)))
theorem slice_run {o : V} {lo hi : Option Int} {vo vl vu : Value} {Q : V → St → Prop} {X : Ex → St → Prop} {E : Value → Shared → Prop} (x : Sim g C st s) (ho : er vo = o) (hl : IsPart vl lo) (hu : IsPart vu hi) (h : sliceM o lo hi Q X st) :
  ∃ T id, ({ s with heap := s.heap.push { cls := .type "slice", data := .fields #[vl, vu, .none] } } : Shared).TypeIs vo T ∧ typeLookup (.type T) "__getitem__" = pure (some (.builtin id)) ∧
   wpAny (model g.prog g.w) C.A (getItem vo (.ref s.heap.objs.size)) (Post g C VR Q) E { s with heap := s.heap.push { cls := .type "slice", data := .fields #[vl, vu, .none] } } := by
 have x1 : Sim g C st { s with heap := s.heap.push { cls := .type "slice", data := .fields #[vl, vu, .none] } } := x.grow (tk := s.toks) fun _ _ e => Heap.get?_push_of_some _ e
 have hsl : (s.heap.push { cls := .type "slice", data := .fields #[vl, vu, .none] }).IsSliceOf s.heap.objs.size vl vu .none := Heap.IsSliceOf.new ..
 generalize s.heap.push { cls := .type "slice", data := .fields #[vl, vu, .none] } = H at x1 hsl ⊢
 induction h with
 | @list a i j xs hm h0 h1 hz h =>
   rw [er_ref ho]
   refine exG1_2 (list_in x1 hm) fun vs hv e => ?_
   refine ⟨"list", _, hv.typeIs, slot_list_getitem.lookup, wpAny_getItem_list_slice hv hsl hl hu .none (by simp) ?_ (by rw [size_er e]; exact Nat.le_trans hz sizeL)⟩
   rw [slicePick_ab vs i j h0 h1]
   exact ⟨_, _, rfl, x1.newList (by rw [List.map_take, List.map_drop, e]), h _ x1.fresh⟩
 | @pin a i j vs hm h0 h1 hz h =>
   rw [er_ref ho]
   have hv : Heap.IsList H a vs := ⟨_, (x1.objs _ _ hm).1, rfl, 0, rfl⟩
   have e : vs.toList.map er = vs.toList.map er := rfl
   refine ⟨"list", _, hv.typeIs, slot_list_getitem.lookup, wpAny_getItem_list_slice hv hsl hl hu .none (by simp) ?_ (by rw [size_er e]; exact Nat.le_trans hz sizeL)⟩
   rw [slicePick_ab vs i j h0 h1]
   exact ⟨_, _, rfl, x1.newList (by rw [List.map_take, List.map_drop]), h _ x1.fresh⟩
 | @tup a j xs hm h0 h1 hz h =>
   rw [er_ref ho]
   refine exG1_2 (tup_in x1 hm) fun vs hv e => ?_
   k_call_by "c" hl
   cases (hu) with
   | int j t =>
   obtain ⟨b, rfl⟩ := Int.eq_ofNat_of_zero_le (show 0 ≤ j by omega)
   refine ⟨"tuple", _, hv.typeIs, slot_tuple_getitem.lookup, getItem_tuple_to hv hsl (by rw [size_er e]; omega) ?_ (by rw [size_er e]; exact Nat.le_trans hz sizeL)⟩
   exact ⟨_, _, rfl, x1.newTup (by rw [List.map_take, e]; rfl), h _ x1.fresh⟩
 | @str y lo hi hz h =>
  obtain ⟨t, rfl⟩ := er_str ho
  have part : ∀ {v : Value} {k : Option Int}, IsPart v k → ∃ p : Option (Int × Tok), v = partValue p ∧ p.map (·.1) = k := by
   intro v k hp
   induction hp with
   | none => exact ⟨none, rfl, rfl⟩
   | int i t => exact ⟨some (i, t), rfl, rfl⟩
  refine exG1_2 (part hl) fun l r3 r4 => ?_
  obtain rfl := r3
  obtain rfl := r4
  refine exG1_2 (part hu) fun u r5 r6 => ?_
  obtain rfl := r5
  obtain rfl := r6
  refine exG1_3 hsl fun os hos hcs hds => ?_
  refine ⟨"str", _, typeIs_str _ _ _, PySem.F.slot_str_getitem.lookup, wpAny_getItem_str_slice (l := l) (u := u) (st := none) ⟨os, hos, hcs, hds⟩ rfl ?_⟩
  have e : Txt.slice y (l.map (·.1)) (u.map (·.1)) = if ((1 : Int) == 1 && (slicePicked y l u none).length == y.length) = true then y else ⟨((slicePicked y l u none).filterMap (y.cps[·]?)).toArray⟩ := rfl
  unfold sliceMade
  dsimp only [Option.map_none, Option.getD_none]
  rw [e] at h
  split
  ·rename_i hc
   rw [if_pos hc] at h
   exact ⟨_, st, rfl, x1, h⟩
  ·rename_i hc
   rw [if_neg hc] at h
   refine ⟨?_, _, st, rfl, x1.tick, h⟩
   show (List.filterMap (fun x => y.cps[x]?) (slicePicked y l u none)).toArray.size ≤ sizeLine
   rw [List.size_toArray]
   exact Nat.le_trans (List.length_filterMap_le _ _) (Nat.le_trans (sliceIndices_le _ _ _) (Nat.le_trans hz sizeL))
theorem ref_Slice {p : M V} {pl pu : M (Option Int)} {v : Expr} {lo hi : Option Expr} {p1 pos : Pos} (hv : RefE g S md n p v) (hl : RefP g S md n pl lo) (hu : RefP g S md n pu hi) :
  RefE g S md n (mbind p fun o => mbind pl fun a => mbind pu fun b => sliceM o a b) (.Subscript v (.Slice lo hi none p1) pos) := fun C Y st s Q X x hp =>
 Subscript_ (hv.use Y x hp fun a va st1 s1 ha x1 h1 => wpAny_Slice (hl.use Y x1 h1 fun l vl st2 s2 hl' x2 h2 => hu.use Y x2 h2 fun u vu st3 s3 hu' x3 h3 => by
  rw [evalPart_none]
  obtain ⟨T, id, hT, hlk, hr⟩ := slice_run x3 ha hl' hu' h3
  exact wpAny_pure (subTail_run hT hlk hr (.inr rfl))))
end Kk
end
section
namespace Kk
variable {g : Gx} {S : Sc} {md : Md} {n : Nat} {C : Cx} {st st' : St} {s : Shared} {h' : Heap} {tk : Nat} {α β γ δ : Type}
inductive SetIH (v : V) (Q : Unit → St → Prop) (st : St) : V → V → Prop
 | list {a : Addr} {k : Int} {xs : List V} : st.μ a = some (.list xs) → 0 ≤ k → k < xs.length → xs.length ≤ 1000 → Q () (st.put a (.list (xs.set k.toNat v))) → SetIH v Q st (.ref a) (.int k)
 | dict {a : Addr} {k : Str} {es : List (Str × V)} {ep : Nat} : st.μ a = some (.dict es ep) → es.length ≤ 1000 → (∀ ep, Q () (st.put a (.dict (dput es k v) ep))) → SetIH v Q st (.ref a) (.str k)
noncomputable def setItemM (o i v : V) : M Unit := fun Q _ st => SetIH v Q st o i
theorem setItem_plain {prog : Program} {w : World} {A : Around} {E : Value → Shared → Prop} {l : Addr} {items : Array Value} {k : Int} {t : Tok} {v : Value} {Q : Unit → Shared → Prop} (hl : s.heap.PlainList l items) (h0 : 0 ≤ k) (hfit : k < 2 ^ 63) (hn : k < items.size)
  (hQ : ∀ h', h'.PlainList l (items.setIfInBounds k.toNat v) → Heap.SameBut l s.heap h' → Q () { s with heap := h' }) :
  wpAny (model prog w) A (setItem (.ref l) (.int k t) v) Q E s := by
 refine exG1_1 (id hl) fun m ho => ?_
 have hT := hl.isList.typeIs
 unfold setItem
 try with_reducible refine wpAny_holding ?_
 first | refine wpAny_bind (wpAny_pure ?_) | skip
 refine wpAny_bind (wpAny_sequenceKey hT (by decide) ?_)
 refine wpAny_bind (wpAny_callSpecial?_slot (name := Str.ofString "__setitem__") hT slot_list_setitem
  (wpAny_call_entry slot_list_setitem hT entry_list_setitem ?_ (args_list_setitem _ _ _)))
 show wpAny _ _ (Builtin.List.listSubscript? (.int k t) >>= _) _ _ s
 refine wpAny_bind (wpAny_listSubscript_int (fitsIndex_of h0 hfit) ?_)
 clear hfit
 obtain ⟨j, rfl⟩ := Int.eq_ofNat_of_zero_le h0
 have hj : j < items.size := by omega
 have hx' : items[j]? = some items[j] := Array.getElem?_eq_getElem hj
 show wpAny _ _ ((seqItemAt l j >>= fun r => pure (r.map (j, ·))) >>= _) _ _ s
 refine wpAny_bind (wpAny_bind (wpAny_seqItemAt ho rfl (wpAny_pure ?_)))
 rw [hx']
 show wpAny _ _ (setSeqItemAt l j v >>= _) _ _ s
 have hfin : (s.heap.update l (Obj.mapSeq (·.setIfInBounds j v))).PlainList l (items.setIfInBounds j v) := ⟨_, IsL.update (n := m) ho _⟩
 refine wpAny_bind (wpAny_setSeqItemAt ho rfl ?_)
 first
  | exact wpAny_bind (wpAny_pure (wpAny_pure ⟨.none, rfl, wpAny_pure (hQ _ hfin (Heap.SameBut.update ..))⟩))
  | exact wpAny_pure ⟨.none, rfl, wpAny_pure (hQ _ hfin (Heap.SameBut.update ..))⟩
theorem len_pairs {kvs : List (Str × Value)} {es : List (Str × V)} (e : kvs.map (fun p => (p.1, er p.2)) = es) : es.length = kvs.length := by rw [← e, List.length_map]
theorem setItem_run {o i v : V} {vo vi vv : Value} {Q : Unit → St → Prop} {X : Ex → St → Prop} {E : Value → Shared → Prop} (Y : Ok g S md n C) (x : Sim g C st s) (ho : er vo = o) (hi : er vi = i) (hv : er vv = v) (h : setItemM o i v Q X st) :
  wpAny (model g.prog g.w) C.A (setItem vo vi vv) (fun _ s' => ∃ st', Sim g C st' s' ∧ Q () st') E s := by
 induction h with
 | @list a k xs hm h0 h1 hz h =>
  obtain ⟨t, rfl⟩ := er_int hi
  rw [er_ref ho]
  refine exG0_2 (x.objs _ _ hm) fun r1 _ => ?_
  obtain ⟨vs, hp, e⟩ := r1
  have hsz := size_er e
  refine setItem_plain hp h0 (by omega) (by omega) fun h' hp' hs' => ⟨_, x.change Y (tk := s.toks) (o' := .list (xs.set k.toNat v)) hm hs'.extBut ⟨_, hp', ?_⟩, h⟩
  simp only [Array.toList_setIfInBounds, List.map_set, e, hv]
 | @dict a k es ep hm hz h =>
  obtain ⟨t, rfl⟩ := er_str hi
  rw [er_ref ho]
  refine exG0_2 (dict_in x hm) fun hs r2 => ?_
  refine exG1_2 r2 fun kvs hd e => ?_
  refine wpAny_setItem_pairs (isStrOf_self _ t) hd.dictOf (fun h' hd' hs' => ?_) (by rw [sizeLine_eq]; have := len_pairs e; omega)
  refine exG3_4 hd' fun ob es' ep' q1 q2 q3 q4 => ?_
  refine ⟨_, x.change Y (tk := s.toks + 1) (o' := .dict (dput es k v) ep') hm hs'.extBut ⟨hs, _, ⟨ob, es', q1, q2, q3, q4⟩, ?_⟩, h ep'⟩
  rw [dput_map, e, hv]
theorem ref_AssignSub {p q r : M V} {o i e : Expr} {p1 pos : Pos} (hv : RefE g S md n p e) (ho : RefE g S md n q o) (hi : RefE g S md n r i)
  (hs : ∀ env, swapsWith e (some (.Subscript o i p1)) pos.line env = pure false := by intro _; rfl) :
  RefS g S md n (mbind p fun v => mbind q fun a => mbind r fun k => mbind (setItemM a k v) fun _ => mret .next) (.Assign [.Subscript o i p1] e pos) := fun C Y st s Q X x hp =>
 wpAny_Assign_Subscript (hv.use Y x hp fun v vv st1 s1 ev x1 h1 => ho.use Y x1 h1 fun a va st2 s2 ea x2 h2 => hi.use Y x2 h2 fun k vk st3 s3 ek x3 h3 =>
  wpAny_mono (setItem_run (E := PostX g C X) Y x3 ea ek ev h3) (fun _ s4 q0 => by obtain ⟨st4, x4, q4⟩ := q0; exact ⟨.next, st4, trivial, x4, q4⟩) fun _ _ e => e) (hs _)
theorem ref_AugSub {op : Operator} {p q r : M V} {o i e : Expr} {p1 pos : Pos} (hm : md ≠ .hand) (ho : RefE g S md n q o) (hi : RefE g S md n r i) (hv : RefE g S md n p e)
  (ha : ∀ ov iv new, augStore i ov iv new = (do holding [new, ov, iv] (setItem ov iv new); release [new, ov, iv] []; pure .next) := by intro _ _ _; rfl) :
  RefS g S md n (mbind q fun a => mbind r fun k => mbind (idxM a k) fun old => mbind p fun v => mbind (iopM op old v) fun new => mbind (setItemM a k new) fun _ => mret .next) (.AugAssign (.Subscript o i p1) op e pos) := fun C Y st s Q X x hp =>
 wpAny_AugAssign_Subscript_any (ho.use Y x hp fun a va st1 s1 ea x1 h1 => hi.use Y x1 h1 fun k vk st2 s2 ek x2 h2 =>
  wpAny_mono (idx_runX Y hm x2 ea ek h2) (fun old s3 ⟨uold, st3, eo, x3, h3⟩ => hv.use Y x3 h3 fun v vv st4 s4 ev x4 h4 =>
   wpAny_mono (iop_run (E := PostX g C X) Y x4 eo ev h4) (fun nw s5 ⟨unew, st5, en, x5, h5⟩ =>
    wpAny_mono (setItem_run (E := PostX g C X) Y x5 ea ek en h5) (fun _ s6 q0 => by obtain ⟨st6, x6, q6⟩ := q0; exact ⟨.next, st6, trivial, x6, q6⟩) fun _ _ e => e) fun _ _ e => e) fun _ _ e => e) ha
inductive DelH (Q : Unit → St → Prop) (st : St) : V → Prop
 | mk {a : Addr} {xs : List V} : st.μ a = some (.list xs) → 2 ≤ xs.length → xs.length ≤ 1000 → Q () (st.put a (.list (xs.take (xs.length - 2)))) → DelH Q st (.ref a)
noncomputable def delLastM (o : V) : M Unit := fun Q _ st => DelH Q st o
theorem zipIdx_none {α : Type} (p : Nat → Bool) (l : List α) (k : Nat) (hp : ∀ j, k ≤ j → j < k + l.length → p j = true) :
  ((l.zipIdx k).filterMap fun x => if p x.2 = true then none else some x.1) = [] := by
 induction l generalizing k with
 | nil => simp
 | cons x r ih =>
  rw [List.zipIdx_cons, List.filterMap_cons]
  have h0 := hp k (Nat.le_refl _) (by simp)
  simp only [h0, if_true]
  exact ih (k + 1) fun j h1 h2 => hp j (by omega) (by simp only [List.length_cons]; omega)
theorem zipIdx_keep {α : Type} (p : Nat → Bool) (l : List α) (m k : Nat) (hp : ∀ j, k ≤ j → j < k + l.length → p j = decide (m + k ≤ j)) :
  ((l.zipIdx k).filterMap fun x => if p x.2 = true then none else some x.1) = l.take m := by
 induction l generalizing m k with
 | nil => simp
 | cons x r ih =>
  induction m with
  | zero => exact zipIdx_none p _ k fun j h1 h2 => by rw [hp j h1 h2]; simp; omega
  | succ m =>
   rw [List.zipIdx_cons, List.filterMap_cons]
   have h0 := hp k (Nat.le_refl _) (by simp)
   have : p k = false := by rw [h0]; simp
   simp only [this, Bool.false_eq_true, if_false, List.take_succ_cons]
   rw [ih m (k + 1) fun j h1 h2 => by rw [hp j (by omega) (by simp only [List.length_cons]; omega)]; congr 1; simp; omega]
set_option maxRecDepth 100000 in
theorem delItem_last2 {prog : Program} {w : World} {A : Around} {E : Value → Shared → Prop} {l sl : Addr} {items : Array Value} {vl : Value} {Q : Unit → Shared → Prop} (hl : s.heap.PlainList l items) (hs : s.heap.IsSliceOf sl vl .none .none) (pl : IsPart vl (some (-2))) (h2 : 2 ≤ items.size) (hz : items.size ≤ 1000)
  (hQ : ∀ h', h'.PlainList l (items.toList.take (items.size - 2)).toArray → Heap.SameBut l s.heap h' → Q () { s with heap := h' }) :
  wpAny (model prog w) A (delItem (.ref l) (.ref sl)) Q E s := by
 refine exG1_1 (id hl) fun m ho => ?_
 refine exG1_3 (id hs) fun os hos hcs hds => ?_
 have hTs : s.TypeIs (.ref sl) "slice" := ⟨os, hos, hcs⟩
 have hT := hl.isList.typeIs
 refine wpAny_delItem_slot hT (by decide) PySem.F.slot_list_delitem (wpAny_call_entry PySem.F.slot_list_delitem hT PySem.F.entry_list_delitem ?_ (PySem.F.args_list_delitem_2 _ _))
 show wpAny _ _ (Builtin.List.listSubscript? (.ref sl) >>= _) _ _ s
 refine wpAny_bind ?_
 unfold Builtin.List.listSubscript?
 refine wpAny_bind (wpAny_specialOf hTs slice_no_index ?_)
 simp only [Option.isNone_none, if_true]
 refine wpAny_pure ?_
 show wpAny _ _ (typeOf (.ref sl) >>= _) _ _ s
 refine wpAny_bind (wpAny_typeOf hTs ?_)
 rw [if_neg (by decide)]
 rw [listSliceParts_eq]
 refine wpAny_bind (wpAny_bind (wpAny_field hos hds (x := .none) rfl (wpAny_bind (wpAny_listPart .none ?_))))
 rw [if_neg (by decide)]
 refine wpAny_bind (wpAny_field hos hds (x := vl) rfl (wpAny_bind (wpAny_listPart pl ?_)))
 refine wpAny_bind (wpAny_field hos hds (x := .none) rfl (wpAny_bind (wpAny_listPart .none (wpAny_pure ?_))))
 refine wpAny_bind (m := Builtin.List.listItems (.ref l)) ?_
 unfold Builtin.List.listItems
 refine wpAny_bind (wpAny_seqItems ho rfl (wpAny_pure ?_))
 refine wpAny_bind (wpAny_of_eq (sliceIndices_raw (some (-2)) none none items.size (by simp)) ?_)
 refine wpAny_bind (wpAny_rule ?_)
 have eb : sliceBounds (some (-2)) none none items.size = (((items.size - 2 : Nat) : Int), (items.size : Int), 1) := by
  simp only [sliceBounds, Option.getD_none]
  simp only [show (-2 : Int) < 0 by omega, show (1 : Int) > 0 by omega, if_true]
  refine Prod.ext ?_ (Prod.ext rfl rfl)
  dsimp only
  omega
 rw [eb]
 dsimp only
 refine wpAny_bind (m := updateSeq l _) (wpAny_updateSeq (hz := Nat.le_trans hz sizeL) (_hz' := (by rw [List.size_toArray]; refine Nat.le_trans (List.length_filterMap_le _ _) ?_; rw [List.length_zipIdx, Array.length_toList]; exact Nat.le_succ_of_le (Nat.le_trans hz sizeL))) ho rfl (wpAny_bind (wpAny_letGo (wpAny_pure ⟨.none, rfl, hQ _ ⟨if (items.toList.take (items.size - 2)).toArray.size = items.size then m else m + 1, ?_⟩ (Heap.SameBut.update ..)⟩))))
 have key : ∀ f : Array Value → Array Value, f items = (items.toList.take (items.size - 2)).toArray →
   (s.heap.update l (Obj.mapSeq f)).get? l = some { cls := .type "list", data := .seq (items.toList.take (items.size - 2)).toArray (if (items.toList.take (items.size - 2)).toArray.size = items.size then m else m + 1) } := by
  intro f e
  have := IsL.update (n := m) ho f
  unfold IsL at this
  rw [this, e]
  congr 3
  simp [beq_iff_eq]
 apply key
 congr 1
 refine zipIdx_keep _ items.toList (items.size - 2) 0 fun j _ hj => ?_
 show (if (1 : Int) > 0 then (decide (((items.size - 2 : Nat) : Int) ≤ (j : Int)) && decide ((j : Int) < (items.size : Int)) && (((j : Int) - ((items.size - 2 : Nat) : Int)) % 1 == 0)) else _) = _
 rw [if_pos (by omega), Int.emod_one]
 simp only [Array.length_toList] at hj
 have h1 : (j : Int) < (items.size : Int) := by omega
 rw [decide_eq_true h1]
 simp only [Bool.and_true, beq_self_eq_true]
 congr 1
 simp
end Kk
end
section
namespace Kk
variable {g : Gx} {S : Sc} {md : Md} {n : Nat} {C : Cx} {st st' : St} {s : Shared} {h' : Heap} {tk : Nat} {α β γ δ : Type}
theorem delLast_run {o : V} {vo vl : Value} {sl : Addr} {Q : Unit → St → Prop} {X : Ex → St → Prop} {E : Value → Shared → Prop} (Y : Ok g S md n C) (x : Sim g C st s) (ho : er vo = o) (hs : s.heap.IsSliceOf sl vl .none .none) (pl : IsPart vl (some (-2))) (h : delLastM o Q X st) :
  wpAny (model g.prog g.w) C.A (delItem vo (.ref sl)) (fun _ s' => ∃ st', Sim g C st' s' ∧ Q () st') E s := by
 obtain @⟨a, xs, hm, h2, hz, h⟩ := h
 rw [er_ref ho]
 refine exG0_2 (x.objs _ _ hm) fun r1 _ => ?_
 obtain ⟨vs, hp, e⟩ := r1
 have hsz := size_er e
 refine delItem_last2 hp hs pl (by omega) (by omega) fun h' hp' hs' => ⟨_, x.change Y (tk := s.toks) (o' := .list (xs.take (xs.length - 2))) hm hs'.extBut ⟨_, hp', ?_⟩, h⟩
 show List.map er (List.take (vs.size - 2) vs.toList) = _
 rw [List.map_take, e, hsz]
theorem ref_DelLast {p : M V} {pl : M (Option Int)} {o : Expr} {lo : Expr} {p1 p2 pos : Pos} (ho : RefE g S md n p o) (hl : RefP g S md n pl (some lo)) :
  RefS g S md n (mbind p fun a => mbind pl fun l => fun Q X st => l = some (-2) ∧ delLastM a (fun _ st' => Q .next st') X st) (.Delete [.Subscript o (.Slice (some lo) none none p1) p2] pos) := fun C Y st s Q X x hp =>
 wpAny_Delete (wpAny_deleteEach_cons (wpAny_delete_Subscript (ho.use Y x hp fun a va st1 s1 ea x1 h1 => wpAny_Slice (hl.use Y x1 h1 fun l vl st2 s2 el x2 h2 => wpAny_evalPart_none (by
  obtain ⟨rfl, h2⟩ := h2
  rw [evalPart_none]
  have x3 : Sim g C st2 { s2 with heap := s2.heap.push { cls := .type "slice", data := .fields #[vl, .none, .none] } } := x2.grow (tk := s2.toks) fun _ _ e => Heap.get?_push_of_some _ e
  exact wpAny_pure (wpAny_mono (delLast_run (E := PostX g C X) Y x3 ea (Heap.IsSliceOf.new ..) el h2) (fun _ s4 q0 => by obtain ⟨st4, x4, q4⟩ := q0; exact wpAny_deleteEach_nil ⟨.next, st4, trivial, x4, q4⟩) fun _ _ e => e))))))
noncomputable def whileStep (t : M Bool) (body els : M Fl) (Q : Fl → St → Prop) (X : Ex → St → Prop) (K : St → Prop) : St → Prop :=
 t (fun b st1 => if b = true then body (fun f st2 => match f with | .brk => Q .next st2 | .ret v => Q (.ret v) st2 | _ => K st2) X st1 else els Q X st1) X
noncomputable def whileM (t : M Bool) (body els : M Fl) : M Fl := fun Q X st => ∃ I : Nat → St → Prop, (∀ k st, I k st → whileStep t body els Q X (fun st' => ∃ j, j < k ∧ I j st') st) ∧ ∃ k, I k st
theorem ref_While {t : M Bool} {pb pe : M Fl} {test : Expr} {body orelse : List Stmt} {pos : Pos} (ht : RefT g S .fn n t test) (hb : RefB g S .fn n pb body) (he : RefB g S .fn n pe orelse) :
  RefS g S .fn n (whileM t pb pe) (.While test body orelse pos) := by
 intro C Y st s Q X x ⟨I, hI, k, hk⟩
 have hm : Md.fn ≠ Md.comp := by intro h; k_call_by "c" h
 have noted : ∀ e s', PostX g C X e s' → notedBy (model g.prog g.w) C.A C.env (fun e s' => cameBackBy (model g.prog g.w) C.A C.env (PostX g C X) e s') e s' := fun e s' p =>
  noted_of Y hm (fun k st2 s2 x2 hX R => came_back Y hm x2 hX R) p
 refine wpAny_While (codeAny_mono (codeAny_whileLoop (R := fun r s' => match r with | .ok f => Post g C FlR Q f s' | .error e => cameBackBy (model g.prog g.w) C.A C.env (PostX g C X) e s') (fun k s => ∃ st, Sim g C st s ∧ I k st) ?_ k ⟨st, x, hk⟩) fun r s' h => h)
 intro k s q0q
 refine exG1_2 q0q fun st x hk => ?_
 refine wpAny_mono (ht C Y st s _ X x (hI k st hk)) (fun b s1 z0 => ?_) noted
 refine exG2_3 z0 fun b' st1 eb x1 h1 => ?_
 subst eb
 k_call_by "c" b
 ·simp only [Bool.false_eq_true, if_false] at h1 ⊢
  exact wpAny_mono (he C Y st1 s1 Q X x1 h1) (fun f s2 p => p) noted
 ·simp only [if_true] at h1 ⊢
  refine wpAny_mono (hb C Y st1 s1 _ X x1 h1) (fun f s2 z0 => ?_) noted
  refine exG2_3 z0 fun f' st2 ef x2 h2 => ?_
  induction f' <;> induction f <;> first | exact ef.elim | skip
  ·obtain ⟨j, hj, h2⟩ := h2; exact ⟨j, hj, st2, x2, h2⟩
  ·exact ⟨.next, st2, trivial, x2, h2⟩
  ·obtain ⟨j, hj, h2⟩ := h2; exact ⟨j, hj, st2, x2, h2⟩
  ·exact ⟨_, st2, ef, x2, h2⟩
theorem ref_AssertHolds {t : M Bool} {test : Expr} {msg : Option Expr} {pos : Pos} (ht : RefT g S md n t test) : RefS g S md n (mbind t fun b Q _ st => b = true ∧ Q .next st) (.Assert test msg pos) := fun C Y st s Q X x hp =>
 wpAny_Assert_holds (ht.use Y x hp fun b b' st1 s1 eb x1 h1 => ⟨by rw [eb]; exact h1.1, .next, st1, trivial, x1, h1.2⟩)
theorem hand_ok {e : Addr} (Y : Ok g S .fn n C) : Ok g S .hand n { C with A := C.A.mark (some (.ref e)) } where
 stat := Y.stat
 scope := Y.scope
 kind := Y.kind
 glob := Y.glob
 blt := Y.blt
 cells := Y.cells
 ownL := Y.ownL
 baseL := Y.baseL
 frL := Y.frL
 frB := Y.frB
 ownN := Y.ownN
 inj := Y.inj
 code := Y.code
 clo := Y.clo
 hnd := .inl rfl
 guards := Y.guards
 frames := .inr (Y.frames.resolve_left (by intro h; k_call_by "c" h))
 outs := Y.outs
 depth := Y.depth
 units := Y.units
theorem hand_sim {e : Addr} (x : Sim g C st s) : Sim g { C with A := C.A.mark (some (.ref e)) } st s := ⟨x.gens, x.drawn, x.os, x.base, x.vars, x.cells, x.frs, x.objs⟩
theorem hand_back {e : Addr} (x : Sim g { C with A := C.A.mark (some (.ref e)) } st s) : Sim g C st s := ⟨x.gens, x.drawn, x.os, x.base, x.vars, x.cells, x.frs, x.objs⟩
theorem isExc_KeyError : isSubtype (.type "KeyError") (.type "BaseException") = pure true := by rw [isSubtype_type]; kernel_rfl
theorem notTuple_KeyError : isSubtype (.type ((Manifest.find? "KeyError").elim "type" fun x => x.metatype)) (.type "tuple") = pure false := by
 rw [show ((Manifest.find? "KeyError").elim "type" fun x => x.metatype) = "type" from by kernel_rfl, isSubtype_type]; kernel_rfl
theorem isKey_KeyError : isSubtype (.type "KeyError") (.type "KeyError") = pure true := by rw [isSubtype_type]; kernel_rfl
noncomputable def tryKeyM (body hand : M Fl) : M Fl := fun Q X st => body Q (fun k st' => match k with | .key => hand Q (fun _ _ => False) st' | k => False) st
theorem ref_TryKey {pb ph : M Fl} {body : List Stmt} {b₀ : Stmt} {suite : List Stmt} {tp hp pos : Pos} (hb : RefB g S .fn n pb body) (hh : RefB g S .hand n ph (b₀ :: suite)) (bl : Blt g S "KeyError" (.type "KeyError")) :
  RefS g S .fn n (tryKeyM pb ph) (.Try body [.ExceptHandler (some (.Name "KeyError" tp)) none (b₀ :: suite) hp] [] [] pos) := by
 intro C Y st s Q X x h
 have hm : Md.fn ≠ Md.comp := by intro h; k_call_by "c" h
 unfold tryKeyM at h
 refine wpAny_Try_except (wpAny_mono (hb C Y st s Q _ x h) (fun f s1 ⟨f', st1, ef, x1, h1⟩ => ?_) fun e s1 hx => ?_)
 ·induction f' <;> induction f <;> first | exact ef.elim | exact wpAny_execs_nil ⟨_, st1, ef, x1, h1⟩ | exact ⟨_, st1, ef, x1, h1⟩
 ·refine exG3_4 hx fun k st1 fl x1 h1 hfl R => ?_
  induction k with
  | gram => exact h1.elim
  | key =>
   refine note_run Y hm x1 hfl R fun s2 x2 R2 => flight_run (fr := none) Y x2 R2 fun s3 x3 R3 => ?_
   refine exG3_8 (id R3) fun a oe vs r2 ho hc hd hz oa ma hT => ?_
   obtain rfl := r2
   refine wpAny_handleBy_builtin (X := "KeyError") (T := "KeyError") (b := true) isExc_KeyError notTuple_KeyError isKey_KeyError ?_
   refine bl.run (C := { C with A := C.A.mark (some (.ref a)) }) (hand_ok Y) (hand_sim x3) ⟨rfl, ⟨oe, ho, hc⟩, ?_⟩
   rw [if_pos rfl]
   refine flight_run (C := { C with A := C.A.mark (some (.ref a)) }) (fr := none) (hand_ok Y) (hand_sim x3) (show Raised g { C with A := C.A.mark (some (.ref a)) } st1 .key (.ref a) s3.heap (some .none) from R3) fun s4 x4 R4 => ?_
   refine wpAny_mono (hh _ (hand_ok Y) st1 s4 Q _ x4 h1) (fun f s5 q0 => by obtain ⟨f', st5, ef, x5, h5⟩ := q0; exact ⟨f', st5, ef, hand_back x5, h5⟩) fun e s5 q0 => by obtain ⟨k, st5, fl5, x5, h5, r5⟩ := q0; exact h5.elim
noncomputable abbrev CallV (g : Gx) (md : Md) (n : Nat) (fv : Value) (f : List V → M V) : Prop := ∀ S C, Ok g S md n C → ∀ st s Q X vs, Sim g C st s → f (vs.map er) Q X st →
 wpAny (model g.prog g.w) C.A (call fv vs) (Post g C VR Q) (PostX g C X) s
theorem ref_CallB {x : Str} {id : String} {p : M (List V)} {f : List V → M V} {e : Expr} {r : List Expr} {px pos : Pos} (b : Blt g S x (.builtin id)) (hp : RefX g S md n p (e :: r)) (hc : CallV g md n (.builtin id) f)
  (he : ∀ env, starEach (e :: r) env = (false, eval e env) :: starEach r env := by intro _; rfl) (hpl : ∀ env, (backTo pos (starEach r env)).any (·.1) = false := by intro _; rfl) :
  RefE g S md n (mbind p f) (.Call (.Name x px) (e :: r) [] pos) := fun C Y st s Q X sx h =>
 wpAny_Call_NameR (b.run Y sx (PyProof.Rows.callWith_builtin1 ((hp pos).use Y sx h fun us vs st1 s1 ev x1 h1 => hc S C Y st1 s1 Q X vs x1 (by rw [ev]; exact h1)) (he _) (hpl _)))
theorem ref_CallT {x : Str} {T : String} {p : M (List V)} {f : List V → M V} {e : Expr} {r : List Expr} {px pos : Pos} (b : Blt g S x (.type T)) (hp : RefX g S md n p (e :: r)) (hc : CallV g md n (.type T) f)
  (he : ∀ env, starEach (e :: r) env = (false, eval e env) :: starEach r env := by intro _; rfl) (hpl : ∀ env, (backTo pos (starEach r env)).any (·.1) = false := by intro _; rfl) :
  RefE g S md n (mbind p f) (.Call (.Name x px) (e :: r) [] pos) := fun C Y st s Q X sx h =>
 wpAny_Call_NameR (b.run Y sx (PyProof.Rows.callWith_type1 ((hp pos).use Y sx h fun us vs st1 s1 ev x1 h1 => hc S C Y st1 s1 Q X vs x1 (by rw [ev]; exact h1)) (he _) (hpl _)))
theorem ref_CallT0 {x : Str} {T : String} {f : List V → M V} {px pos : Pos} (b : Blt g S x (.type T)) (hc : CallV g md n (.type T) f) :
  RefE g S md n (f []) (.Call (.Name x px) [] [] pos) := fun C Y st s Q X sx h =>
 wpAny_Call_NameR (b.run Y sx (PyProof.Rows.callWith_type0 (hc S C Y st s Q X [] sx h)))
inductive Kd where | list | dict | set
noncomputable def Kd.ty : Kd → String | .list => "list" | .dict => "dict" | .set => "set"
noncomputable def Kd.of : O → Option Kd | .list _ => some .list | .dict _ _ => some .dict | .set _ => some .set | _ => none
inductive KindH (k : Kd) (Q : Unit → St → Prop) (st : St) : V → Prop
 | mk {a : Addr} {o : O} : st.μ a = some o → Kd.of o = some k → Q () st → KindH k Q st (.ref a)
noncomputable def kindM (k : Kd) (a : V) : M Unit := fun Q _ st => KindH k Q st a
theorem kind_attrs (k : Kd) : PlainAttrs k.ty := by
 k_call_by "c" k
 ·exact PySem.F.plainAttrs_list
 ·exact PySem.F.plainAttrs_dict
 ·exact PySem.F.plainAttrs_set
theorem getM_run {k : Kd} {a : V} {va : Value} {name : Str} {id : String} {pl : Sem Bool} {Q : Value × List Value → Shared → Prop} {E : Value → Shared → Prop} {Qm : Unit → St → Prop} {X : Ex → St → Prop} (slot : Slot k.ty name id) (hty : typeOf (.builtin id) = pure (.type "method_descriptor"))
  (x : Sim g C st s) (ha : er va = a) (h : kindM k a Qm X st) (hq : Qm () st → Q (.builtin id, [va]) s) : wpAny (model g.prog g.w) C.A (getMethod va name pl) Q E s := by
 induction h with
 | @mk b o hm hk h =>
   rw [er_ref ha] at hq ⊢
   have key : s.TypeIs (.ref b) k.ty ∧ ∀ c, Value.ref b = .ref c → ∃ ob, s.heap.get? c = some ob ∧ ob.dict = none := by
    induction o with
    | list xs =>
     k_call_by "c" hk
     refine exG0_2 (x.objs _ _ hm) fun r3 _ => ?_
     obtain ⟨vs, ⟨m, hp⟩, e⟩ := r3
     exact ⟨⟨_, hp, rfl⟩, fun c e => by k_call_by "c" e; exact ⟨_, hp, rfl⟩⟩
    | dict es ep =>
     k_call_by "c" hk
     refine exG0_2 (dict_in x hm) fun hs r4 => ?_
     refine exG1_2 r4 fun kvs hd e => ?_
     exact ⟨hd.dictOf.typeIs, hd.dictOf.mapOf.noDict⟩
    | set xs =>
     k_call_by "c" hk
     refine exG0_2 (x.objs _ _ hm) fun r5 _ => ?_
     obtain ⟨F, hF, e⟩ := r5
     exact ⟨hF.typeIs, hF.noDict⟩
    | _ => k_call_by "c" hk
   exact getMethod_builtin key.1 (kind_attrs k) slot hty key.2 (hq h)
theorem ref_Meth1 {k : Kd} {name : Str} {id : String} {p : M V} {q : M (List V)} {f : List V → M V} {o e : Expr} {r : List Expr} {apos pos : Pos} {pl : Env → Sem Bool} (slot : Slot k.ty name id) (hty : typeOf (.builtin id) = pure (.type "method_descriptor"))
  (hc : CallV g md n (.builtin id) f) (ho : RefE g S md n p o) (hq : RefX g S md n q (e :: r))
  (he : ∀ env, eval (.Call (.Attribute o name apos) (e :: r) [] pos) env = (do
   let ov ← eval o env
   standAt apos.atName
   let (f, first) ← holding [ov] (getMethod ov name (pl env))
   callWith pos f first (backTo pos (starEach (e :: r) env)) []) := by intro _; rfl)
  (he2 : ∀ env, starEach (e :: r) env = (false, eval e env) :: starEach r env := by intro _; rfl) (hpl : ∀ env, (backTo pos (starEach r env)).any (·.1) = false := by intro _; rfl) :
  RefE g S md n (mbind p fun a => mbind (kindM k a) fun _ => mbind q fun vs => f (a :: vs)) (.Call (.Attribute o name apos) (e :: r) [] pos) := fun C Y st s Q X sx hp =>
 MethodCall_ (pl := pl C.env) (ho.use Y sx hp fun a va st1 s1 ea x1 h1 => getM_run slot hty x1 ea h1 fun h2 =>
  callWith_method1 ((hq pos).use Y x1 h2 fun us vs st2 s2 ev x2 h3 => hc S C Y st2 s2 Q X (va :: vs) x2 (by rw [List.map_cons, ea, ev]; exact h3)) (he2 _) (hpl _)) (he _)
theorem mapC {vs : List Value} {a : V} {r : List V} (h : vs.map er = a :: r) : ∃ va ws, vs = va :: ws ∧ er va = a ∧ ws.map er = r := by
 refine exG2_3 (List.map_eq_cons_iff.mp h) fun va ws h1 h2 h3 => ?_
 exact ⟨va, ws, h1, h2, h3⟩
theorem map1 {vs : List Value} {a : V} (h : vs.map er = [a]) : ∃ va, vs = [va] ∧ er va = a := by
 refine exG2_3 (mapC h) fun va ws h1 h2 h3 => ?_
 exact ⟨va, h1.trans (congrArg (va :: ·) (List.map_eq_nil_iff.mp h3)), h2⟩
theorem map2 {vs : List Value} {a b : V} (h : vs.map er = [a, b]) : ∃ va vb, vs = [va, vb] ∧ er va = a ∧ er vb = b := by
 refine exG2_3 (mapC h) fun va ws h1 h2 h3 => ?_
 refine exG1_2 (map1 h3) fun vb h4 h5 => ?_
 exact ⟨va, vb, h1.trans (congrArg (va :: ·) h4), h2, h5⟩
theorem map3 {vs : List Value} {a b c : V} (h : vs.map er = [a, b, c]) : ∃ va vb vc, vs = [va, vb, vc] ∧ er va = a ∧ er vb = b ∧ er vc = c := by
 refine exG2_3 (mapC h) fun va ws h1 h2 h3 => ?_
 refine exG2_2 (map2 h3) fun vb vc h4 h5 => ?_
 exact ⟨va, vb, vc, h1.trans (congrArg (va :: ·) h4), h2, h5⟩
inductive AppH (Q : V → St → Prop) (st : St) : List V → Prop
 | mk {a : Addr} {v : V} {xs : List V} : st.μ a = some (.list xs) → xs.length ≤ 1000 → Q .none (st.put a (.list (xs ++ [v]))) → AppH Q st [.ref a, v]
noncomputable def appendM (vs : List V) : M V := fun Q _ st => AppH Q st vs
theorem call_append : CallV g md n (.builtin "list.append") appendM := by
 intro S C Y st s Q X vs x h
 replace h : AppH Q st (vs.map er) := h
 generalize e0 : vs.map er = us at h
 induction h with
 | @mk a v xs hm hz h =>
  refine exG2_3 (map2 e0) fun va vv r6 e1 e2 => ?_
  obtain rfl := r6
  rw [er_ref e1]
  refine exG0_2 (x.objs _ _ hm) fun r7 _ => ?_
  obtain ⟨ws, hp, e⟩ := r7
  refine wpAny_list_append_plain hp (fun h' hp' hs' => ⟨.none, _, rfl, x.change Y (tk := s.toks) (o' := .list (xs ++ [v])) hm hs'.extBut ⟨_, hp', ?_⟩, h⟩) (by rw [size_er e]; exact Nat.le_trans hz sizeL)
  rw [Array.toList_push, List.map_append, e, List.map_cons, List.map_nil, e2]
inductive GetH (Q : V → St → Prop) (st : St) : List V → Prop
 | one {a : Addr} {k : Str} {es : List (Str × V)} {ep : Nat} : st.μ a = some (.dict es ep) → Q ((dget es k).getD .none) st → GetH Q st [.ref a, .str k]
 | two {a : Addr} {k : Str} {d : V} {es : List (Str × V)} {ep : Nat} : st.μ a = some (.dict es ep) → Q ((dget es k).getD d) st → GetH Q st [.ref a, .str k, d]
 | no {a : Addr} {d : V} {es : List (Str × V)} {ep : Nat} : st.μ a = some (.dict es ep) → Q d st → GetH Q st [.ref a, .none, d]
theorem dget_getD {es : List (Str × V)} {kvs : List (Str × Value)} (e : kvs.map (fun p => (p.1, er p.2)) = es) (k : Str) (d : Value) : er ((valueAt kvs k).getD d) = (dget es k).getD (er d) := by
 rw [← e, dget_map]
 cases valueAt kvs k <;> rfl
inductive AddH (Q : V → St → Prop) (st : St) : List V → Prop
 | mk {a : Addr} {k : Str} {xs : List Str} : st.μ a = some (.set xs) → xs.length ≤ 1000 → Q .none (st.put a (.set (if k ∈ xs then xs else xs ++ [k]))) → AddH Q st [.ref a, .str k]
noncomputable def addM (vs : List V) : M V := fun Q _ st => AddH Q st vs
theorem call_add : CallV g md n (.builtin "set.add") addM := by
 intro S C Y st s Q X vs x h
 replace h : AddH Q st (vs.map er) := h
 generalize e0 : vs.map er = us at h
 induction h with
 | @mk a k xs hm hz h =>
  refine exG2_3 (map2 e0) fun va vv r8 e1 e2 => ?_
  obtain rfl := r8
  rw [er_ref e1]
  obtain ⟨t, rfl⟩ := er_str e2
  refine exG0_2 (x.objs _ _ hm) fun r9 _ => ?_
  obtain ⟨F, hF, e⟩ := r9
  refine call_set_add (isStrOf_self k t) rfl hF (by unfold scanBound; omega) fun h' hs' hF' => ⟨.none, _, rfl, x.change Y (tk := s.toks + 1) (o' := .set (if k ∈ xs then xs else xs ++ [k])) hm hs'.extBut ⟨fun k' => F k' || decide (k' = k), ?_, ?_⟩, h⟩
  ·have hlen : (if k ∈ xs then xs else xs ++ [k]).length = if F k then xs.length else xs.length + 1 := by
    rw [e k]; by_cases hk : k ∈ xs <;> simp [hk]
   rw [hlen]; exact hF'
  ·intro k'
   dsimp only
   rw [e k']
   by_cases hk : k ∈ xs
   ·rw [if_pos hk]
    by_cases hk' : k' = k
    ·subst hk'; simp [hk]
    ·simp [hk']
   ·rw [if_neg hk]; simp
theorem dictSetDefault_pairs {prog : Program} {w : World} {K : Type} [DecidableEq K] {knd : KeyKind prog w K} {A : Around} {E : Value → Shared → Prop} {d : Addr} {kvs : List (K × Value)} {k : K} {key dflt : Value} {Q : Value → Shared → Prop} (hkey : knd.is k key = true) (hm : s.heap.DictOf knd d kvs)
  (hthere : ∀ v, valueAt kvs k = some v → Q v { s with toks := s.toks + 1 })
  (hnew : valueAt kvs k = none → ∀ h', h'.DictOf knd d (stored kvs k dflt) → Heap.SameBut d s.heap h' → Q dflt { s with heap := h', toks := s.toks + 1 })
  (hsz : kvs.length ≤ sizeLine) :
  wpAny (model prog w) A (dictSetDefault d key dflt) Q E s := by
 refine exG3_6 (id hm) fun o es ep ho hc hd hk hp hn => ?_
 have hes : es.size ≤ sizeLine := by have e1 := hp.length; have e2 : es.toList.length = es.size := (by simp); omega
 have hf : ∀ x, findBy knd.is es x = valueAt kvs x := fun x => by
  refine exG3_5 hm.mapOf fun o2 es2 ep2 ho2 _ hd2 _ hf2 => ?_
  rw [ho] at ho2; k_call_by "c" ho2
  rw [hd] at hd2; k_call_by "c" hd2
  exact hf2 x
 unfold dictSetDefault
 try with_reducible refine wpAny_holding ?_
 refine wpAny_bind (knd.pyHash hkey ?_)
 refine wpAny_bind (wpAny_dictFind_of (s := { s with toks := s.toks + 1 }) hkey ho hd hk ?_)
 have hidx : (es.findIdx? fun e => knd.is k e.key) = kvs.findIdx? fun kv => decide (kv.1 = k) := by
  rw [← hp.findIdx k]; obtain ⟨l⟩ := es; simp
 cases hi : es.findIdx? fun e => knd.is k e.key with
 | some i =>
  have hfk : valueAt kvs k = (es[i]?).map (·.val) := by rw [← hf k, findBy_of_findIdx?, hi]
  refine wpAny_bind (wpAny_dictEntries (s := { s with toks := s.toks + 1 }) ho hd ?_)
  cases he : es[i]? with
  | none =>
   exfalso
   have := Array.findIdx?_eq_some_iff_findIdx_eq.mp hi
   have hlt : i < es.size := this.1
   rw [Array.getElem?_eq_getElem hlt] at he
   exact nomatch he
  | some e =>
   rw [he] at hfk
   exact wpAny_bind (wpAny_rule (wpAny_pure (hthere e.val hfk)))
 | none =>
  have hfk : valueAt kvs k = none := by rw [← hf k, findBy_of_findIdx?, hi]
  have hnot : k ∉ kvs.map (·.1) := not_mem_of_findIdx_none (hidx ▸ hi)
  have hany : ¬ (kvs.any fun kv => decide (kv.1 = k)) = true := by
   rw [List.any_eq_true]; rintro ⟨kv, hkv, he⟩
   exact hnot (List.mem_map.mpr ⟨kv, hkv, of_decide_eq_true he⟩)
  refine wpAny_bind (wpAny_rule (wpAny_bind (wpAny_updateDictKeys (hz := hes) (s := { s with toks := s.toks + 1 }) ho hd (wpAny_pure (hnew hfk _ ⟨_, _, ep + 1, Heap.get?_update_self _ ho (Obj.isFreed_of_dict (Obj.data_mapDictKeys hd _)),
   hc.mapDictKeys _, Obj.data_mapDictKeys hd _, hk.push hkey _, ?_, ?_⟩ (Heap.SameBut.update ..))))))
  ·rw [stored, if_neg hany]
   have := hp.append hkey (knd.hash k) dflt
   obtain ⟨l⟩ := es
   simpa using this
  ·rw [stored, if_neg hany, List.map_append, List.nodup_append]
   refine ⟨hn, by simp, ?_⟩
   intro a ha b hb
   simp only [List.map_cons, List.map_nil, List.mem_singleton] at hb
   subst hb
   exact fun e => hnot (e ▸ ha)
inductive SdfH (Q : V → St → Prop) (st : St) : List V → Prop
 | old {a : Addr} {k : Str} {d u : V} {es : List (Str × V)} {ep : Nat} : st.μ a = some (.dict es ep) → es.length ≤ 1000 → dget es k = some u → Q u st → SdfH Q st [.ref a, .str k, d]
 | new {a : Addr} {k : Str} {d : V} {es : List (Str × V)} {ep : Nat} : st.μ a = some (.dict es ep) → es.length ≤ 1000 → dget es k = none → (∀ ep, Q d (st.put a (.dict (dput es k d) ep))) → SdfH Q st [.ref a, .str k, d]
noncomputable def setdefaultM (vs : List V) : M V := fun Q _ st => SdfH Q st vs
theorem sdf_run {a : Addr} {k : Str} {t : Tok} {vd : Value} {d : V} {es : List (Str × V)} {ep : Nat} {Q : V → St → Prop} {E : Value → Shared → Prop} (Y : Ok g S md n C) (x : Sim g C st s) (e3 : er vd = d) (hm : st.μ a = some (.dict es ep)) (hz : es.length ≤ 1000)
  (h1 : ∀ u, dget es k = some u → Q u st) (h2 : dget es k = none → ∀ ep, Q d (st.put a (.dict (dput es k d) ep))) :
  wpAny (model g.prog g.w) C.A (call (.builtin "dict.setdefault") [.ref a, .str k t, vd]) (Post g C VR Q) E s := by
 refine exG0_2 (dict_in x hm) fun hs r10 => ?_
 refine exG1_2 r10 fun kvs hd e => ?_
 have hl := len_pairs e
 refine wpAny_call_entry PySem.F.slot_dict_setdefault hd.dictOf.typeIs PySem.F.entry_dict_setdefault ?_ (PySem.F.args_dict_setdefault_3 _ _ _)
 unfold Builtin.«dict.setdefault»
 refine wpAny_bind ?_
 unfold Builtin.Dict.keyAndDefault
 refine wpAny_bind (wpAny_notOrdered_dict hd.dictOf.typeIs ?_)
 show wpAny _ _ (pure (a, Value.str k t, some vd)) _ _ s
 refine wpAny_pure ?_
 show wpAny _ _ (if (a == sysModules) = true then _ else (dictSetDefault a (Value.str k t) vd >>= _)) _ _ s
 rw [if_neg (by rw [hs]; exact Bool.false_ne_true)]
 refine wpAny_bind (dictSetDefault_pairs (isStrOf_self k t) hd.dictOf (fun v hv => wpAny_pure ⟨v, rfl, ?_⟩) (fun hv h' hd' hs' => wpAny_pure ⟨vd, rfl, ?_⟩) (by rw [sizeLine_eq]; omega))
 ·exact ⟨_, st, rfl, x.tick, h1 _ (by rw [← e, dget_map, hv]; rfl)⟩
 ·refine exG3_4 hd' fun ob es' ep' q1 q2 q3 q4 => ?_
  refine ⟨d, _, e3, x.change Y (tk := s.toks + 1) (o' := .dict (dput es k d) ep') hm hs'.extBut ⟨hs, _, ⟨ob, es', q1, q2, q3, q4⟩, ?_⟩, h2 (by rw [← e, dget_map, hv]; rfl) ep'⟩
  rw [dput_map, e, e3]
theorem call_setdefault : CallV g md n (.builtin "dict.setdefault") setdefaultM := by
 intro S C Y st s Q X vs x h
 replace h : SdfH Q st (vs.map er) := h
 generalize e0 : vs.map er = us at h
 induction h with
 | old hm hz hk h =>
  refine exG3_4 (map3 e0) fun va vv vd r11 e1 e2 e3 => ?_
  obtain rfl := r11
  obtain ⟨t, rfl⟩ := er_str e2
  rw [er_ref e1]
  exact sdf_run Y x e3 hm hz (fun u hu => by rw [hk] at hu; k_call_by "c" hu; exact h) fun hn => by rw [hk] at hn; k_call_by "c" hn
 | new hm hz hk h =>
  refine exG3_4 (map3 e0) fun va vv vd r12 e1 e2 e3 => ?_
  obtain rfl := r12
  obtain ⟨t, rfl⟩ := er_str e2
  rw [er_ref e1]
  exact sdf_run Y x e3 hm hz (fun u hu => by rw [hk] at hu; k_call_by "c" hu) fun _ => h
inductive LenH (Q : V → St → Prop) (st : St) : List V → Prop
 | str {x : Str} : x.length ≤ 100000 → Q (.int x.length) st → LenH Q st [.str x]
 | list {a : Addr} {xs : List V} : st.μ a = some (.list xs) → xs.length ≤ 100000 → Q (.int xs.length) st → LenH Q st [.ref a]
 | tup {a : Addr} {xs : List V} : st.μ a = some (.tup xs) → xs.length ≤ 100000 → Q (.int xs.length) st → LenH Q st [.ref a]
 | dict {a : Addr} {es : List (Str × V)} {ep : Nat} : st.μ a = some (.dict es ep) → es.length ≤ 100000 → Q (.int es.length) st → LenH Q st [.ref a]
noncomputable def lenM (vs : List V) : M V := fun Q _ st => LenH Q st vs
theorem call_len : CallV g md n (.builtin "len") lenM := by
 intro S C Y st s Q X vs x h
 replace h : LenH Q st (vs.map er) := h
 generalize e0 : vs.map er = us at h
 induction h with
 | str hz h =>
  refine exG1_2 (map1 e0) fun va r13 e1 => ?_
  obtain rfl := r13
  obtain ⟨t, rfl⟩ := er_str e1
  exact PyProof.Rows.len_str (by omega) ⟨_, st, rfl, x.tick, h⟩
 | list hm hz h =>
  refine exG1_2 (map1 e0) fun va r14 e1 => ?_
  obtain rfl := r14
  rw [er_ref e1]
  refine exG1_2 (list_in x hm) fun ws hl e => ?_
  have hsz := size_er e
  exact call_len_list hl (by omega) ⟨_, st, by rw [hsz]; rfl, x.tick, h⟩
 | tup hm hz h =>
  refine exG1_2 (map1 e0) fun va r15 e1 => ?_
  obtain rfl := r15
  rw [er_ref e1]
  refine exG1_2 (tup_in x hm) fun ws hl e => ?_
  have hsz := size_er e
  exact PyProof.Rows.len_tuple hl (by omega) ⟨_, st, by rw [hsz]; rfl, x.tick, h⟩
 | dict hm hz h =>
  refine exG1_2 (map1 e0) fun va r16 e1 => ?_
  obtain rfl := r16
  rw [er_ref e1]
  refine exG0_2 (dict_in x hm) fun hs r17 => ?_
  refine exG1_2 r17 fun kvs hd e => ?_
  have hl := len_pairs e
  exact call_len_dict hs hd.dictOf (by omega) ⟨_, st, by rw [hl]; rfl, x.tick, h⟩
inductive TupH (Q : V → St → Prop) (st : St) : List V → Prop
 | mk {a : Addr} {xs : List V} : st.μ a = some (.list xs) → xs.length ≤ 1000 → (∀ b, st.μ b = none → Q (.ref b) (st.put b (.tup xs))) → TupH Q st [.ref a]
noncomputable def tupleM (vs : List V) : M V := fun Q _ st => TupH Q st vs
theorem call_tuple : CallV g md n (.type "tuple") tupleM := by
 intro S C Y st s Q X vs x h
 replace h : TupH Q st (vs.map er) := h
 generalize e0 : vs.map er = us at h
 induction h with
 | mk hm hz h =>
  refine exG1_2 (map1 e0) fun va r18 e1 => ?_
  obtain rfl := r18
  rw [er_ref e1]
  refine exG1_2 (list_in x hm) fun ws hl e => ?_
  refine call_tuple_list hl (fun h' hk => ?_) (by rw [size_er e]; exact Nat.le_trans hz sizeL)
  have x1 : Sim g C st { s with heap := h' } := x.grow (tk := s.toks) hk
  have x2 := x1.newTup (vs := ws.toList) e
  exact ⟨_, _, rfl, by simpa using x2, h _ x1.fresh⟩
noncomputable def setM0 (vs : List V) : M V := fun Q _ st => vs = [] ∧ ∀ b, st.μ b = none → Q (.ref b) (st.put b (.set []))
theorem call_set : CallV g md n (.type "set") setM0 := by
 intro S C Y st s Q X vs x ⟨e0, h⟩
 have : vs = [] := by simpa using e0
 subst this
 refine call_set_0 fun led => ⟨_, _, rfl, x.push (tk := s.toks) (o := .set []) ⟨fun _ => false, ⟨_, #[], 0, _, Heap.get?_push_size _ rfl, ⟨rfl, rfl, rfl⟩, rfl, fun e he => by simp at he, fun k => by simp, by decide, by rfl, rfl⟩, fun k => by simp⟩, h _ x.fresh⟩
theorem strs_of {us : List Value} : ∀ {ys : List Str}, us.map er = ys.map V.str → StrsAre us ys := by
 induction us with
 | nil => intro ys h; induction ys with | nil => exact .nil | cons => k_call_by "c" h
 | cons u r ih =>
  intro ys h
  induction ys with
  | nil => k_call_by "c" h
  | cons y ys =>
   simp only [List.map_cons, List.cons.injEq] at h
   obtain ⟨t, rfl⟩ := er_str h.1
   exact .cons y t (ih h.2)
end Kk
end
section
namespace Kk
variable {g : Gx} {S : Sc} {md : Md} {n : Nat} {C : Cx} {st st' : St} {s : Shared} {h' : Heap} {tk : Nat} {α β γ δ : Type}
noncomputable def closL (cells : List (Str × Addr)) : List (Str × NameKind) → List (Str × Addr) → List (Str × Addr)
 | [], acc => acc
 | (nm, k) :: r, acc => closL cells r (if k == .free then (match cells.lookup nm with | some c => (nm, c) :: acc | none => acc) else acc)
theorem closure_run {env : Env} (names : List (Str × NameKind)) (h : ∀ x ∈ names, x.2 = .free → ∃ c, env.cells.lookup x.1 = some c) : ∀ acc : List (Str × Addr),
  (forIn names acc fun (x : Str × NameKind) (cs : List (Str × Addr)) => if (x.2 == .free) = true then (do let c ← cellOf env x.1; pure (ForInStep.yield ((x.1, c) :: cs))) else pure (ForInStep.yield cs) : Sem (List (Str × Addr))) = pure (closL env.cells names acc) := by
 induction names with
 | nil => intro acc; rfl
 | cons x r ih =>
  obtain ⟨nm, k⟩ := x
  intro acc
  have ih' := ih fun y hy => h y (.tail _ hy)
  rw [List.forIn_cons]
  unfold closL
  by_cases hk : (k == NameKind.free) = true
  ·refine exG1_1 (h (nm, k) (.head _) (by simpa using hk)) fun c hc => ?_
   have e : cellOf env nm = pure c := by unfold cellOf; rw [show env.cells.lookup nm = some c from hc]
   simp only [hk, if_true, e, pure_bind, hc]
   exact ih' _
  ·simp only [hk, if_false, pure_bind, Bool.false_eq_true]
   exact ih' _
theorem closure_eq {scope : Scope} {env : Env} (h : ∀ x ∈ scope.names, x.2 = .free → ∃ c, env.cells.lookup x.1 = some c) : closureFor scope env = pure (closL env.cells scope.names []) := by
 have := closure_run scope.names h []
 unfold closureFor
 simp only [bind_pure]
 rw [← this]
theorem closL_sub (cells : List (Str × Addr)) : ∀ (names : List (Str × NameKind)) (acc : List (Str × Addr)) (y : Str) (c : Addr), (∀ z d, acc.lookup z = some d → cells.lookup z = some d) → (closL cells names acc).lookup y = some c → cells.lookup y = some c
 | [], acc, y, c, h, e => h y c e
 | (nm, k) :: r, acc, y, c, h, e => by
  unfold closL at e
  refine closL_sub cells r _ y c ?_ e
  split
  ·split
   ·rename_i c' hc'
    intro z d hz
    rw [List.lookup_cons] at hz
    split at hz
    ·rename_i hb
     k_call_by "c" hz
     rw [beq_iff_eq.mp hb]; exact hc'
    ·exact h z d hz
   ·exact h
  ·exact h
theorem closL_has (cells : List (Str × Addr)) : ∀ (names : List (Str × NameKind)) (acc : List (Str × Addr)) (y : Str), (y, NameKind.free) ∈ names ∨ (acc.lookup y).isSome = true → (cells.lookup y).isSome = true → ((closL cells names acc).lookup y).isSome = true
 | [], acc, y, h, hc => by
  rcases h with h | h
  ·k_call_by "c" h
  ·exact h
 | (nm, k) :: r, acc, y, h, hc => by
  unfold closL
  refine closL_has cells r _ y ?_ hc
  rcases h with h | h
  ·rcases List.mem_cons.mp h with e | h
   ·k_call_by "c" e
    right
    refine exG1_1 (Option.isSome_iff_exists.mp hc) fun c hc => ?_
    simp [hc]
   ·exact .inl h
  ·right
   split
   ·split
    ·rw [List.lookup_cons]; split
     ·rfl
     ·exact h
    ·exact h
   ·exact h
theorem cellsFrom_append : ∀ (names : List (Str × NameKind)) (n : Nat) (acc : List (Str × Addr)), cellsFrom n names acc = cellsFrom n names [] ++ acc
 | [], n, acc => rfl
 | (nm, k) :: r, n, acc => by
  unfold cellsFrom
  split
  ·rw [cellsFrom_append r (n + 1) ((nm, n) :: acc), cellsFrom_append r (n + 1) [(nm, n)], List.append_assoc]; rfl
  ·exact cellsFrom_append r n acc
theorem cellsFrom_mem : ∀ (names : List (Str × NameKind)) (n : Nat) (acc : List (Str × Addr)) (x : Str) (c : Addr), (x, c) ∈ cellsFrom n names acc → (x, c) ∈ acc ∨ (x, NameKind.cell) ∈ names
 | [], n, acc, x, c, h => .inl h
 | (nm, k) :: r, n, acc, x, c, h => by
  unfold cellsFrom at h
  split at h
  ·rename_i hk
   rcases cellsFrom_mem r _ _ x c h with h | h
   ·rcases List.mem_cons.mp h with e | h
    ·k_call_by "c" e; right; rw [show k = .cell from by simpa using hk]; exact .head _
    ·exact .inl h
   ·exact .inr (.tail _ h)
  ·rcases cellsFrom_mem r _ _ x c h with h | h
   ·exact .inl h
   ·exact .inr (.tail _ h)
theorem cellsFrom_has : ∀ (names : List (Str × NameKind)) (n : Nat) (acc : List (Str × Addr)) (x : Str), (x, NameKind.cell) ∈ names ∨ (∃ c, (x, c) ∈ acc) → ∃ c, (x, c) ∈ cellsFrom n names acc
 | [], n, acc, x, h => by
  rcases h with h | h
  ·k_call_by "c" h
  ·exact h
 | (nm, k) :: r, n, acc, x, h => by
  unfold cellsFrom
  split
  ·refine cellsFrom_has r _ _ x ?_
   rcases h with h | ⟨c, h⟩
   ·rcases List.mem_cons.mp h with e | h
    ·k_call_by "c" e; exact .inr ⟨n, .head _⟩
    ·exact .inl h
   ·exact .inr ⟨c, .tail _ h⟩
  ·rename_i hk
   refine cellsFrom_has r _ _ x ?_
   rcases h with h | h
   ·rcases List.mem_cons.mp h with e | h
    ·k_call_by "c" e; exact absurd (by simp) hk
    ·exact .inl h
   ·exact .inr h
theorem lookup_of_mem {α : Type} : ∀ {l : List (Str × α)} {x : Str} {c : α}, (x, c) ∈ l → ∃ d, l.lookup x = some d
 | (y, d) :: r, x, c, h => by
  rw [List.lookup_cons]
  cases hb : x == y with
  | true => exact ⟨d, rfl⟩
  | false =>
   rcases List.mem_cons.mp h with e | h
   ·k_call_by "c" e; simp at hb
   ·exact lookup_of_mem h
theorem lookup_append {α : Type} (l r : List (Str × α)) (x : Str) : (l ++ r).lookup x = (l.lookup x).or (r.lookup x) := by
 induction l with
 | nil => rfl
 | cons p l ih =>
  obtain ⟨y, d⟩ := p
  rw [List.cons_append, List.lookup_cons, List.lookup_cons]
  cases x == y <;> simp [ih]
theorem newEnv_comp {scope : Scope} {cl : List (Str × Addr)} {env : Env} {Q : Env → Shared → Prop} {E : Value → Shared → Prop}
  (h : Q { scope, locals := s.heap.objs.size, globals := env.globals, cells := cellsFrom (s.heap.objs.size + 1) scope.names cl, qual := env.qual, func := none, code := env.code, frame := env.frame, builtins := env.builtins }
   { s with heap := pushCells (s.heap.push { cls := .type "dict", data := .dict #[] }) scope.names }) :
  wpAny (model g.prog g.w) C.A (newFunctionEnv scope env.globals cl [] env.qual none .none (some env)) Q E s := by
 simp only [newFunctionEnv, Option.isSome_some, if_true]
 refine wpAny_bind (wpAny_alloc ?_)
 refine wpAny_bind (wpAny_layCells _ (fun name kind cells => by cases hkc : kind == NameKind.cell <;> simp [hkc]) _ _ _ _ ?_)
 rw [show ({ s with heap := s.heap.push { cls := .type "dict", data := .dict #[] } } : Shared).heap.objs.size = s.heap.objs.size + 1 from Heap.size_push ..]
 refine wpAny_bind ?_
 rw [List.forIn_nil]
 exact wpAny_pure (wpAny_pure h)
noncomputable def relS (scope : Scope) (S : Sc) : Scope := { scope with names := scope.names.map fun (n, k) => if (k == .free && S.sc.kind == .function && S.sc.names.lookup n == some .cell) then (n, .cell) else (n, k) }
noncomputable def freeOf (scope : Scope) : List Str := (scope.names.filter fun x => x.2 == .free).map (·.1)
noncomputable def cellOfs (scope : Scope) : List Str := (scope.names.filter fun x => x.2 == .cell).map (·.1)
noncomputable def compS (scope : Scope) (S : Sc) : Sc := { sc := relS scope S, own := cellOfs scope, code := S.code }
noncomputable def compOk (scope : Scope) (S : Sc) : Bool := (scope.kind == .function) && (scope.names.all fun x => scope.names.lookup x.1 == some x.2) &&
 ((freeOf scope).all fun y => S.sc.names.lookup y == some .cell || S.sc.names.lookup y == some .free)
theorem relabel_eq (Y : Ok g S md n C) (scope : Scope) : relabel scope C.env = relS scope S := by
 unfold relabel relS
 congr 1
 apply List.map_congr_left
 intro q0q _
 obtain ⟨nm, k⟩ := q0q
 dsimp only
 rw [Y.kindOf nm, Y.scope]
theorem relS_lookup (scope : Scope) (S : Sc) (y : Str) : (relS scope S).names.lookup y = (scope.names.lookup y).map fun k => if (k == .free && S.sc.kind == .function && S.sc.names.lookup y == some .cell) = true then .cell else k := by
 unfold relS
 dsimp only
 induction scope.names with
 | nil => rfl
 | cons p r ih =>
  obtain ⟨nm, k⟩ := p
  rw [List.map_cons, List.lookup_cons]
  cases hb : y == nm with
  | true =>
   have := beq_iff_eq.mp hb
   subst this
   by_cases hc : (k == .free && S.sc.kind == .function && S.sc.names.lookup y == some .cell) = true
   ·simp only [hc, if_true, List.lookup_cons, beq_self_eq_true, Option.map_some]
   ·simp only [hc, if_false, List.lookup_cons, beq_self_eq_true, Bool.false_eq_true, Option.map_some]
  | false =>
   by_cases hc : (k == .free && S.sc.kind == .function && S.sc.names.lookup nm == some .cell) = true
   ·simp only [hc, if_true, List.lookup_cons, hb]; exact ih
   ·simp only [hc, if_false, List.lookup_cons, hb, Bool.false_eq_true]; exact ih
open Classical in
noncomputable def cbase (st : St) (fr : Addr → Option Data) (P : Addr → Prop) (h : Heap) : Addr → Option Obj := fun b => if (st.μ b).isSome = true ∨ (fr b).isSome = true ∨ P b then none else h.get? b
theorem cbase_some {st : St} {fr : Addr → Option Data} {P : Addr → Prop} {h : Heap} {b : Addr} {o : Obj} (e : cbase st fr P h b = some o) : h.get? b = some o ∧ st.μ b = none ∧ fr b = none ∧ ¬ P b := by
 unfold cbase at e
 split at e
 ·k_call_by "c" e
 ·rename_i hn
  refine ⟨e, ?_, ?_, fun h => hn (.inr (.inr h))⟩
  ·cases hm : st.μ b with
   | none => rfl
   | some o => exact absurd (.inl (by rw [hm]; rfl)) hn
  ·cases hm : fr b with
   | none => rfl
   | some o => exact absurd (.inr (.inl (by rw [hm]; rfl))) hn
theorem cbase_has {st : St} {fr : Addr → Option Data} {P : Addr → Prop} {h : Heap} {b : Addr} {o : Obj} (e : h.get? b = some o) (h1 : st.μ b = none) (h2 : fr b = none) (h3 : ¬ P b) : cbase st fr P h b = some o := by
 unfold cbase
 rw [if_neg]
 ·exact e
 ·rw [h1, h2]; rintro (h | h | h)
  ·k_call_by "c" h
  ·k_call_by "c" h
  ·exact h3 h
theorem cbase_none {st : St} {fr : Addr → Option Data} {P : Addr → Prop} {h : Heap} {b : Addr} (e : (st.μ b).isSome = true ∨ (fr b).isSome = true ∨ P b) : cbase st fr P h b = none := by
 unfold cbase; rw [if_pos e]
noncomputable def compC (C : Cx) (st : St) (P : Addr → Prop) (h : Heap) (env' : Env) (own : List Addr) : Cx := ⟨C.A, env', cbase st C.fr P h, own, C.fr, C.s0, []⟩
noncomputable def compSt (scope : Scope) (st : St) : St := ⟨fun y => if y ∈ freeOf scope then st.σ y else none, st.μ⟩
theorem lookup_mem {α : Type} [DecidableEq α] {l : List (Str × α)} (h : (l.all fun x => l.lookup x.1 == some x.2) = true) {x : Str} {k : α} (hm : (x, k) ∈ l) : l.lookup x = some k := by
 have := List.all_eq_true.mp h _ hm
 simpa using this
theorem mem_freeOf {scope : Scope} {y : Str} : y ∈ freeOf scope ↔ (y, NameKind.free) ∈ scope.names := by
 unfold freeOf
 simp only [List.mem_map, List.mem_filter, beq_iff_eq]
 constructor
 ·rintro ⟨⟨a, b⟩, ⟨h1, h2⟩, h3⟩; dsimp only at h2 h3; subst h2 h3; exact h1
 ·intro h; exact ⟨_, ⟨h, rfl⟩, rfl⟩
theorem mem_cellOfs {scope : Scope} {y : Str} : y ∈ cellOfs scope ↔ (y, NameKind.cell) ∈ scope.names := by
 unfold cellOfs
 simp only [List.mem_map, List.mem_filter, beq_iff_eq]
 constructor
 ·rintro ⟨⟨a, b⟩, ⟨h1, h2⟩, h3⟩; dsimp only at h2 h3; subst h2 h3; exact h1
 ·intro h; exact ⟨_, ⟨h, rfl⟩, rfl⟩
section
variable {scope : Scope} {P : Addr → Prop} {H : Heap}
theorem free_cell (Y : Ok g S md n C) (x : Sim g C st s) (hc : compOk scope S = true) {y : Str} (hy : y ∈ freeOf scope) {u : V} (hu : st.σ y = some u) : ∃ c v, C.env.cells.lookup y = some c ∧ s.heap.IsCell c (some v) ∧ er v = u := by
 refine exG1_2 x.vars fun m hm hv => ?_
 have h1 := hv y u hu
 unfold VarAt at h1
 rw [Y.kindOf y] at h1
 simp only [compOk, Bool.and_eq_true] at hc
 have := List.all_eq_true.mp hc.2 y hy
 simp only [Bool.or_eq_true, beq_iff_eq] at this
 rcases this with e | e <;> (rw [e] at h1; exact h1)
theorem comp_setup (Y : Ok g S md n C) (hm : md ≠ .hand) (x : Sim g C st s) (hc : compOk scope S = true) (hfree : ((freeOf scope).all fun y => (st.σ y).isSome) = true) (hP : ∀ b, P b → Off C b ∧ st.μ b = none ∧ (s.heap.get? b).isSome = true)
  {h0 : Heap} (hsz : s.heap.objs.size ≤ h0.objs.size) (k0 : ∀ b o, s.heap.get? b = some o → h0.get? b = some o) {env' : Env} {own : List Addr}
  (he : env' = { scope := relS scope S, locals := h0.objs.size, globals := C.env.globals, cells := cellsFrom (h0.objs.size + 1) scope.names (closL C.env.cells scope.names []), qual := C.env.qual, func := none, code := C.env.code, frame := C.env.frame, builtins := C.env.builtins })
  (ho : own = (cellsFrom (h0.objs.size + 1) scope.names []).map (·.2)) {H : Heap} (hH : H = pushCells (h0.push { cls := .type "dict", data := .dict #[] }) scope.names) :
  Ok g (compS scope S) .comp n (compC C st P s.heap env' own) ∧ Sim g (compC C st P s.heap env' own) (compSt scope st) { s with heap := H } ∧ (∀ b, P b → Off (compC C st P s.heap env' own) b) ∧ H.Ns env'.locals (fun _ => none) ∧ (∀ b o, h0.get? b = some o → H.get? b = some o) := by
 have ok := cellsFrom_ok scope.names (h0.push { cls := .type "dict", data := .dict #[] }) (h0.objs.size + 1) [] ⟨fun _ _ hm => (nomatch hm), List.Pairwise.nil⟩ (by rw [Heap.size_push]; exact Nat.le_refl _)
 rw [Heap.size_push, ← hH] at ok
 have kH : ∀ b o, h0.get? b = some o → H.get? b = some o := fun b o e => by rw [hH]; exact pushCells_keeps _ _ b o (Heap.get?_push_of_some _ e)
 have old : ∀ {b : Addr} {o : Obj}, s.heap.get? b = some o → b < h0.objs.size := fun e => Nat.lt_of_lt_of_le (Heap.lt_size e) hsz
 have newN : ∀ {b : Addr}, h0.objs.size ≤ b → s.heap.get? b = none := fun {b} hb => by
  cases e : s.heap.get? b with
  | none => rfl
  | some o => exact absurd (old e) (Nat.not_lt.mpr hb)
 have base_in : ∀ b o, C.base b = some o → cbase st C.fr P s.heap b = some o := fun b o e => by
  refine cbase_has (x.base b o e) ?_ ?_ ?_
  ·cases hq : st.μ b with
   | none => rfl
   | some q => have := (x.objs b q hq).2.2.2.1; rw [e] at this; k_call_by "c" this
  ·cases hq : C.fr b with
   | none => rfl
   | some q => have := Y.frB b q hq; rw [e] at this; k_call_by "c" this
  ·intro hp; have := (hP b hp).1.2.2.1; rw [e] at this; k_call_by "c" this
 have own_in : ∀ c ∈ C.own, ∃ o, cbase st C.fr P s.heap c = some o := fun c hc => by
  refine exG2_2 (x.cells c hc) fun v o ho _ => ?_
  refine ⟨o, cbase_has ho ?_ (Y.ownL c hc).2.2 fun hp => (hP c hp).1.2.1 hc⟩
  cases hq : st.μ c with
  | none => rfl
  | some q => exact absurd hc (x.objs c q hq).2.2.1
 have fr_new : ∀ b, h0.objs.size ≤ b → C.fr b = none := fun b hb => by
  cases hq : C.fr b with
  | none => rfl
  | some d => obtain ⟨o, ho, _⟩ := x.frs b d hq; rw [newN hb] at ho; k_call_by "c" ho
 have base_new : ∀ b, h0.objs.size ≤ b → cbase st C.fr P s.heap b = none := fun b hb => by
  cases e : cbase st C.fr P s.heap b with
  | none => rfl
  | some o => have := (cbase_some e).1; rw [newN hb] at this; k_call_by "c" this
 have own_ge : ∀ c ∈ own, h0.objs.size + 1 ≤ c := fun c hc => by
  rw [ho] at hc
  refine exG1_2 (List.mem_map.mp hc) fun r1 hm e => ?_
  obtain ⟨nm, c'⟩ := r1
  k_call_by "c" e
  exact (ok.empty nm c' hm).2
 have hcells : ∀ y, env'.cells.lookup y = ((cellsFrom (h0.objs.size + 1) scope.names []).lookup y).or ((closL C.env.cells scope.names []).lookup y) := fun y => by
  rw [he]; dsimp only; rw [cellsFrom_append, lookup_append]
 have new_own : ∀ y c, (cellsFrom (h0.objs.size + 1) scope.names []).lookup y = some c → c ∈ own := fun y c e => by
  rw [ho]; exact List.mem_map.mpr ⟨(y, c), mem_of_lookup e, rfl⟩
 have clos_old : ∀ y c, (closL C.env.cells scope.names []).lookup y = some c → C.env.cells.lookup y = some c ∧ ∃ o, cbase st C.fr P s.heap c = some o := fun y c e => by
  have e1 := closL_sub C.env.cells scope.names [] y c (fun z d h => by k_call_by "c" h) e
  refine ⟨e1, ?_⟩
  rcases Y.cells y c e1 with h | ⟨o, h⟩
  ·exact own_in c h
  ·exact ⟨o, base_in c o h⟩
 have hloc : env'.locals = h0.objs.size := by rw [he]
 simp only [compOk, Bool.and_eq_true] at hc
 have hc0 : compOk scope S = true := by simp only [compOk, Bool.and_eq_true]; exact hc
 have Hns : H.Ns env'.locals (fun _ => none) := by rw [hloc, hH]; exact (Heap.Ns.new h0 (.type "dict")).keeps (pushCells_keeps _ _)
 refine ⟨?_, ?_, ?_, Hns, kH⟩
 ·exact {
   stat := fun h hb => Y.stat h fun b o e => hb b o (base_in b o e)
   scope := by rw [show (compC C st P s.heap env' own).env = env' from rfl, he]; rfl
   kind := by have := hc.1.1; exact beq_iff_eq.mp this
   glob := by rw [show (compC C st P s.heap env' own).env = env' from rfl, he]; exact Y.glob
   blt := by rw [show (compC C st P s.heap env' own).env = env' from rfl, he]; exact Y.blt
   cells := fun y c e => by
    have e1 : ((cellsFrom (h0.objs.size + 1) scope.names []).lookup y).or ((closL C.env.cells scope.names []).lookup y) = some c := (hcells y).symm.trans e
    cases e2 : (cellsFrom (h0.objs.size + 1) scope.names []).lookup y with
    | some d => rw [e2] at e1; injection e1 with e1; subst e1; exact .inl (new_own y _ e2)
    | none => rw [e2, Option.none_or] at e1; exact .inr (clos_old y c e1).2
   ownL := fun c hcm => ⟨fun q => absurd (own_ge c hcm) (by rw [show c = h0.objs.size from q.trans hloc]; exact Nat.not_succ_le_self _),
     base_new c (Nat.le_of_succ_le (own_ge c hcm)), fr_new c (Nat.le_of_succ_le (own_ge c hcm))⟩
   baseL := by show cbase st C.fr P s.heap env'.locals = none; rw [hloc]; exact base_new _ (Nat.le_refl _)
   frL := by show C.fr env'.locals = none; rw [hloc]; exact fr_new _ (Nat.le_refl _)
   frB := fun a d e => cbase_none (.inr (.inl (by rw [show C.fr a = some d from e]; rfl)))
   ownN := fun y hy => by
    refine exG1_1 (cellsFrom_has scope.names (h0.objs.size + 1) [] y (.inl (mem_cellOfs.mp hy))) fun c hcm => ?_
    refine exG1_1 (lookup_of_mem hcm) fun d hd => ?_
    exact ⟨d, by rw [show (compC C st P s.heap env' own).env = env' from rfl, hcells, hd]; rfl, new_own y d hd⟩
   inj := fun a b c ha hb hcm => by
    have new : ∀ y, env'.cells.lookup y = some c → (cellsFrom (h0.objs.size + 1) scope.names []).lookup y = some c := fun y e => by
     rw [hcells] at e
     cases e2 : (cellsFrom (h0.objs.size + 1) scope.names []).lookup y with
     | some d => rw [e2] at e; k_call_by "c" e; rfl
     | none =>
      rw [e2, Option.none_or] at e
      refine exG0_2 (clos_old y c e) fun _ r2 => ?_
      refine exG1_1 r2 fun o h1 => ?_
      exact absurd (own_ge c hcm) (Nat.not_le.mpr (Nat.lt_succ_of_lt (old (cbase_some h1).1)))
    exact name_of_addr ok.apart (mem_of_lookup (new a ha)) (mem_of_lookup (new b hb))
   code := fun c e => by rw [show (compC C st P s.heap env' own).env = env' from rfl, he]; exact Y.code c e
   clo := fun cl e => nomatch e
   hnd := .inr (Y.handled hm)
   guards := Y.guards
   frames := .inl rfl
   outs := fun e he => nomatch he
   depth := Y.depth
   units := Y.units }
 ·refine ⟨x.gens, x.drawn, x.os, fun b o e => kH b o (k0 b o (cbase_some e).1), ⟨fun _ => none, Hns, fun y u hu => ?_⟩, fun c hcm => ?_, fun a d e => ?_, fun a o e => ?_⟩
  ·have hu' : (if y ∈ freeOf scope then st.σ y else none) = some u := hu
   by_cases hy : y ∈ freeOf scope
   ·rw [if_pos hy] at hu'
    refine exG2_3 (free_cell Y x hc0 hy hu') fun c v h1 h2 h3 => ?_
    have hmem := mem_freeOf.mp hy
    have hlk := lookup_mem hc.1.2 hmem
    have none1 : (cellsFrom (h0.objs.size + 1) scope.names []).lookup y = none := by
     cases e2 : (cellsFrom (h0.objs.size + 1) scope.names []).lookup y with
     | none => rfl
     | some d =>
      rcases cellsFrom_mem _ _ _ _ _ (mem_of_lookup e2) with h | h
      ·k_call_by "c" h
      ·have := lookup_mem hc.1.2 h; rw [hlk] at this; k_call_by "c" this
    have hl2 : env'.cells.lookup y = some c := by
     rw [hcells, none1, Option.none_or]
     obtain ⟨d, hd⟩ := Option.isSome_iff_exists.mp (closL_has C.env.cells scope.names [] y (.inl hmem) (by rw [h1]; rfl))
     rw [hd, ← h1, (clos_old y d hd).1]
    have cellH : H.IsCell c (some v) := isCell_keep h2 fun o e => kH c o (k0 c o e)
    have hk : env'.kindOf y = some .cell ∨ env'.kindOf y = some .free := by
     unfold Env.kindOf
     rw [he]
     dsimp only
     rw [relS_lookup, hlk, Option.map_some]
     split
     ·exact .inl rfl
     ·exact .inr rfl
    show VarAt env' H _ y u
    unfold VarAt
    rcases hk with hk | hk <;> (rw [hk]; exact ⟨c, v, hl2, cellH, h3⟩)
   ·rw [if_neg hy] at hu'; cases hu'
  ·have hcm' : c ∈ own := hcm
   rw [ho] at hcm'
   refine exG1_2 (List.mem_map.mp hcm') fun r3 hmm e => ?_
   obtain ⟨nm, c'⟩ := r3
   k_call_by "c" e
   exact ⟨none, (ok.empty nm c' hmm).1⟩
  ·refine exG1_2 (x.frs a d e) fun o h1 h2 => ?_
   exact ⟨o, kH a o (k0 a o h1), h2⟩
  ·have e' : st.μ a = some o := e
   refine exG0_2 (x.objs a o e') fun r hoff => ?_
   refine exG1_1 r.there fun ob hob => ?_
   refine ⟨r.at fun ob h => kH a ob (k0 a ob h), ?_, fun hcm => ?_, cbase_none (.inl (by rw [e']; rfl)), hoff.2.2.2⟩
   ·intro q
    exact absurd (old hob) (by rw [show a = h0.objs.size from q.trans hloc]; exact Nat.lt_irrefl _)
   ·exact absurd (own_ge a hcm) (Nat.not_le.mpr (Nat.lt_succ_of_lt (old hob)))
 ·intro b hb
  refine exG0_3 (hP b hb) fun hoff _ hsome => ?_
  refine exG1_1 (Option.isSome_iff_exists.mp hsome) fun ob hob => ?_
  refine ⟨?_, fun hcm => ?_, cbase_none (.inr (.inr hb)), hoff.2.2.2⟩
  ·intro q
   exact absurd (old hob) (by rw [show b = h0.objs.size from q.trans hloc]; exact Nat.lt_irrefl _)
  ·exact absurd (own_ge b hcm) (Nat.not_le.mpr (Nat.lt_succ_of_lt (old hob)))
theorem comp_back (Y : Ok g S md n C) (x : Sim g C st s) (hP : ∀ b, P b → Off C b ∧ st.μ b = none ∧ (s.heap.get? b).isSome = true) {env' : Env} {own : List Addr} {s' : Shared} (x' : Sim g (compC C st P s.heap env' own) st' s') :
  Sim g C ⟨st.σ, st'.μ⟩ s' := by
 have base_in : ∀ b o, C.base b = some o → cbase st C.fr P s.heap b = some o := fun b o e => by
  refine cbase_has (x.base b o e) ?_ ?_ ?_
  ·cases hq : st.μ b with
   | none => rfl
   | some q => have := (x.objs b q hq).2.2.2.1; rw [e] at this; k_call_by "c" this
  ·cases hq : C.fr b with
   | none => rfl
   | some q => have := Y.frB b q hq; rw [e] at this; k_call_by "c" this
  ·intro hp; have := (hP b hp).1.2.2.1; rw [e] at this; k_call_by "c" this
 have own_in : ∀ c ∈ C.own, ∀ o, s.heap.get? c = some o → cbase st C.fr P s.heap c = some o := fun c hc o ho => by
  refine cbase_has ho ?_ (Y.ownL c hc).2.2 fun hp => (hP c hp).1.2.1 hc
  cases hq : st.μ c with
  | none => rfl
  | some q => exact absurd hc (x.objs c q hq).2.2.1
 have loc_in : ∀ o, s.heap.get? C.env.locals = some o → cbase st C.fr P s.heap C.env.locals = some o := fun o ho => by
  refine cbase_has ho ?_ Y.frL fun hp => (hP _ hp).1.1 rfl
  cases hq : st.μ C.env.locals with
  | none => rfl
  | some q => exact absurd rfl (x.objs _ q hq).2.1
 refine ⟨x'.gens, x'.drawn, x'.os, fun b o e => x'.base b o (base_in b o e), ?_, fun c hc => ?_, x'.frs, fun a o e => ?_⟩
 ·refine exG1_2 x.vars fun m hm hv => ?_
  refine ⟨m, ns_keep hm fun o ho => x'.base _ o (loc_in o ho), fun y u hu => (hv y u hu).keep fun c v hl hcell => isCell_keep hcell fun o ho => ?_⟩
  rcases Y.cells y c hl with h | ⟨o', h⟩
  ·exact x'.base c o (own_in c h o ho)
  ·have := x.base c o' h
   rw [ho] at this; k_call_by "c" this
   exact x'.base c _ (base_in c _ h)
 ·refine exG1_1 (x.cells c hc) fun v hv => ?_
  exact ⟨v, isCell_keep hv fun o ho => x'.base c o (own_in c hc o ho)⟩
 ·refine exG0_2 (x'.objs a o e) fun r hoff => ?_
  refine ⟨r, ?_, fun hc => ?_, ?_, hoff.2.2.2⟩
  ·rintro rfl
   refine exG1_1 x.L_there fun ob hob => ?_
   have := hoff.2.2.1
   rw [show (compC C st P s.heap env' own).base C.env.locals = _ from loc_in ob hob] at this; k_call_by "c" this
  ·refine exG2_2 (x.cells a hc) fun v ob hob _ => ?_
   have := hoff.2.2.1
   rw [show (compC C st P s.heap env' own).base a = _ from own_in a hc ob hob] at this; k_call_by "c" this
  ·cases hb : C.base a with
   | none => rfl
   | some ob => have := hoff.2.2.1; rw [show (compC C st P s.heap env' own).base a = _ from base_in a ob hb] at this; k_call_by "c" this
end
end Kk
end
section
namespace Kk
variable {g : Gx} {S : Sc} {md : Md} {n : Nat} {C : Cx} {st st' : St} {s : Shared} {h' : Heap} {tk : Nat} {α β γ δ : Type}
noncomputable def compGo {ι : Type} (cur : Nat → St → Option ι → Prop) (asg : ι → M Unit) (tests : M Bool) (elt : M V) (fin : List V → St → Prop) : Nat → List ι → List V → St → Prop
 | i, [], acc, st => cur i st none ∧ fin acc st
 | i, x :: r, acc, st => cur i st (some x) ∧ asg x (fun _ st1 => tests (fun b st2 => if b = true then elt (fun v st3 => acc.length ≤ 1000 ∧ compGo cur asg tests elt fin (i + 1) r (acc ++ [v]) st3) (fun _ _ => False) st2
   else compGo cur asg tests elt fin (i + 1) r acc st2) (fun _ _ => False) st1) (fun _ _ => False) st
noncomputable abbrev RefTs (g : Gx) (S : Sc) (md : Md) (n : Nat) (p : M Bool) (ifs : List Expr) : Prop := Ref g S md n (fun a b => b = a) p (fun env => forIn ifs true fun c r => if r = true then do let ok ← isTrue c env (eval c env); pure (ForInStep.yield ok) else pure (ForInStep.yield r))
theorem refTs_nil : RefTs g S md n (mret true) [] := fun C Y st s Q X x h => wpAny_tests_nil ⟨true, st, rfl, x, h⟩
theorem refTs_one {p : M Bool} {t : Expr} (h : RefT g S md n p t) : RefTs g S md n p [t] := fun C Y st s Q X x hp => wpAny_tests_one (h C Y st s Q X x hp)
theorem postX_false {e : Value} (h : PostX g C (fun _ _ => False) e s) : False := by obtain ⟨_, _, _, _, h, _⟩ := h; exact h
theorem compLoop_run {ι : Type} {I D : Addr} {P : Addr → Prop} {It : Nat → Heap → Prop} {cur : Nat → St → Option ι → Prop} {target elt iter : Expr} {ifs : List Expr} {scope : Scope} {pos : Pos} {asg : ι → M Unit} {pt : M Bool} {pe : M V} {fin : List V → St → Prop} {R : Result → Shared → Prop}
  (Pr : Proto g C I P It cur target asg) (Y : Ok g S md n C) (ht : RefTs g S md n pt ifs) (hel : RefE g S md n pe elt) (hD : Off C D) (hDP : ¬ P D)
  (hfin : ∀ acc st' s' (vs : Array Value), Sim g C st' s' → st'.μ D = none → s'.heap.PlainList D vs → vs.toList.map er = acc → fin acc st' → R (.ok .next) s')
  {i : Nat} {rest : List ι} {acc : List V} (h : compGo cur asg pt pe fin i rest acc st) (hI : It i s.heap) (x : Sim g C st s) (hP : ∀ b, P b → st.μ b = none) (hDm : st.μ D = none) {vs : Array Value} (hl : s.heap.PlainList D vs) (ea : vs.toList.map er = acc) :
  codeAny (model g.prog g.w) C.A (.compLoop (.ListComp elt [⟨target, iter, ifs, 0⟩] scope pos) 0 (.ref I) (.ref D) C.env) R s := by
 have no : ∀ e s', PostX g C (fun _ _ => False) e s' → notedBy (model g.prog g.w) C.A C.env (fun e s' => R (.error e) s') e s' := fun e s' p => (postX_false p).elim
 refine codeAny_loop rfl (fun k s => ∃ i rest acc st vs, k = rest.length ∧ compGo cur asg pt pe fin i rest acc st ∧ It i s.heap ∧ Sim g C st s ∧ (∀ b, P b → st.μ b = none) ∧ st.μ D = none ∧ s.heap.PlainList D vs ∧ vs.toList.map er = acc) ?_ rest.length
  ⟨i, rest, acc, st, vs, rfl, h, hI, x, hP, hDm, hl, ea⟩
 intro k s q0q
 refine exG5_8 q0q fun i rest acc st vs r1 h hI x hP hDm hl ea => ?_
 obtain rfl := r1
 show wpAny _ _ ((compTurn (.ListComp elt [⟨target, iter, ifs, 0⟩] scope pos) 0 (.ref I) (.ref D) C.env).onRaise (fun x => do noteFrame x C.env; theTreesLotGoes x)) _ _ s
 refine wpAny_noted ?_
 rw [compTurn_list]
 refine wpAny_bind (wpAny_standAt (wpAny_bind ?_))
 induction rest with
 | nil =>
  unfold compGo at h
  refine wpAny_mono (Pr.done i st s _ hP h.1 hI x) (fun r s1 h1 => ?_) fun _ _ e => e
  refine exG0_3 h1 fun r2 x1 k1 => ?_
  obtain rfl := r2
  refine exG1_1 (id hl) fun m hm => ?_
  exact wpAny_pure (hfin acc st s1 vs x1 hDm ⟨m, k1 _ _ hDP hm⟩ ea h.2)
 | cons y rest =>
  unfold compGo at h
  refine wpAny_mono (Pr.item i y st s _ _ hP h.1 hI x h.2) (fun r s1 h1 => ?_) no
  revert h1; refine fun oO => exG1_2 oO fun v r3 h1 => ?_
  obtain rfl := r3
  refine wpAny_bind (wpAny_mono h1 (fun _ s2 h2 => ?_) no)
  refine wpAny_bind (wpAny_mono h2 (fun _ s3 h3 => ?_) no)
  revert h3; refine fun oO => exG1_5 oO fun st3 x3 hI3 hP3 k3 h3 => ?_
  refine exG1_1 (id hl) fun m hm => ?_
  refine exG0_2 (k3 D _ hDP hD hDm hm) fun hD3 hm3 => ?_
  refine wpAny_bind (wpAny_mono (keep_run (P := fun b => P b ∨ b = D) ht Y x3 (fun b hb => by rcases hb with hb | rfl; exact ⟨Pr.off b hb, hP3 b hb⟩; exact ⟨hD, hD3⟩) h3) (fun ok s4 h4 => ?_) no)
  revert h4; refine fun oO => exG2_5 oO fun ok' st4 r4 x4 h4 n4 k4 => ?_
  obtain rfl := r4
  have hI4 : It (i + 1) s4.heap := Pr.stable _ _ _ hI3 fun b o hb => k4 b o (.inl hb)
  have hP4 : ∀ b, P b → st4.μ b = none := fun b hb => n4 b (.inl hb) (Pr.there _ _ hI3 b hb)
  have hm4 := k4 D _ (.inr rfl) hm3
  have hD4 : st4.μ D = none := n4 D (.inr rfl) (by rw [hm3]; rfl)
  induction ok with
  | false =>
   simp only [Bool.false_eq_true, if_false] at h4
   refine wpAny_pure ⟨rfl, rest.length, by simp, i + 1, rest, acc, st4, vs, rfl, h4, hI4, x4, hP4, hD4, ⟨m, hm4⟩, ea⟩
  | true =>
   simp only [if_true] at h4
   refine wpAny_bind (wpAny_bind (wpAny_mono (keep_run (P := fun b => P b ∨ b = D) hel Y x4 (fun b hb => by rcases hb with hb | rfl; exact ⟨Pr.off b hb, hP4 b hb⟩; exact ⟨hD, hD4⟩) h4) (fun u s5 h5 => ?_) no))
   revert h5; refine fun oO => exG2_5 oO fun u' st5 eu x5 r5 n5 k5 => ?_
   obtain ⟨hz, h5⟩ := r5
   have hI5 : It (i + 1) s5.heap := Pr.stable _ _ _ hI4 fun b o hb => k5 b o (.inl hb)
   have hP5 : ∀ b, P b → st5.μ b = none := fun b hb => n5 b (.inl hb) (Pr.there _ _ hI4 b hb)
   have hm5 := k5 D _ (.inr rfl) hm4
   have hD5 : st5.μ D = none := n5 D (.inr rfl) (by rw [hm4]; rfl)
   refine wpAny_bind (wpAny_list_append_plain (l := D) (items := vs) ⟨m, hm5⟩ (fun h6 hl6 hs6 => ?_) (by rw [size_er ea]; exact Nat.le_trans hz sizeL))
   refine wpAny_pure (wpAny_pure ⟨rfl, rest.length, by simp, i + 1, rest, acc ++ [u'], st5, vs.push u, rfl, h5, Pr.stable _ _ _ hI5 fun b o hb e => hs6.extBut b o (fun q => hDP (q ▸ hb)) e, ?_, hP5, hD5, hl6, ?_⟩)
   ·exact x5.temps (tk := s5.toks) Y (· = D) (fun b hb => hb ▸ ⟨hD, hD5⟩) fun b o hb e => hs6.extBut b o hb e
   ·rw [Array.toList_push, List.map_append, ea, List.map_cons, List.map_nil, eu]
theorem Sim.adopt (x : Sim g C st s) {a : Addr} {o : O} (ha : Off C a) (ho : ORep g s.heap a o) : Sim g C (st.put a o) s := by
 refine ⟨x.gens, x.drawn, x.os, x.base, x.vars, x.cells, x.frs, fun b o' e => ?_⟩
 unfold St.put upd at e
 dsimp only at e
 split at e
 ·rename_i q; k_call_by "c" e; subst q; exact ⟨ho, ha⟩
 ·exact x.objs b o' e
theorem comp_core {target elt iter : Expr} {ifs : List Expr} {more : List Comprehension} {scope : Scope} {pos : Pos} {asg : List V → M Unit} {fin : List V → St → Prop} {sr : Src} {I : Addr} {P : Addr → Prop} {It : Nat → Heap → Prop} {RR : Value → Addr → Result → Shared → Prop} {E : Value → Shared → Prop}
  (Y : Ok g S md n C) (hm : md ≠ .hand) (x : Sim g C st s) (hc : compOk scope S = true) (hfree : ((freeOf scope).all fun y => (st.σ y).isSome) = true) (Sd : Stands g C sr I P It st s.heap)
  (T : TgOk g (compS scope S) .comp n target asg)
  (run : ∀ (C' : Cx) (s₁ : Shared) (D : Addr) (R : Result → Shared → Prop), Ok g (compS scope S) .comp n C' → Proto g C' I P It sr.cur target asg → Off C' D → ¬ P D →
   (∀ acc st' s' (vs : Array Value), Sim g C' st' s' → st'.μ D = none → s'.heap.PlainList D vs → vs.toList.map er = acc → fin acc st' → R (.ok .next) s') →
   It 0 s₁.heap → Sim g C' (compSt scope st) s₁ → (∀ b, P b → st.μ b = none) → st.μ D = none → s₁.heap.PlainList D #[] → codeAny (model g.prog g.w) C'.A (.compLoop (.ListComp elt (⟨target, iter, ifs, 0⟩ :: more) scope pos) 0 (.ref I) (.ref D) C'.env) R s₁)
  (hR : ∀ acc st' s' D L m, Sim g C ⟨st.σ, upd st'.μ D (.list acc)⟩ s' → st'.μ D = none → fin acc st' → s'.heap.Ns L m → Off C L → (upd st'.μ D (.list acc)) L = none → RR (.ref D) L (.ok .next) s') :
  wpAny (model g.prog g.w) C.A (newList []) (fun acc s3 => wpAny (model g.prog g.w) C.A (newFunctionEnv scope C.env.globals (closL C.env.cells scope.names []) [] C.env.qual none .none (some C.env)) (fun cenv s4 =>
   codeAny (model g.prog g.w) C.A (.compStart (.ListComp elt (⟨target, iter, ifs, 0⟩ :: more) scope pos) 0 (.ref I) acc { cenv with scope := relabel scope C.env }) (RR acc cenv.locals) s4) E s3) E s := by
 refine exG0_4 Sd fun I0 hP hpr hself => ?_
 refine wpAny_newObj_type (newEnv_comp ?_) (by size_fits)
 dsimp only
 rw [relabel_eq Y]
 generalize h0e : s.heap.push { cls := .type "list", dict := none, data := .seq ([] : List Value).toArray } = h0
 have hsz : s.heap.objs.size ≤ h0.objs.size := by rw [← h0e, Heap.size_push]; exact Nat.le_succ _
 have k0 : ∀ b o, s.heap.get? b = some o → h0.get? b = some o := fun b o e => by rw [← h0e]; exact Heap.get?_push_of_some _ e
 have hDl : h0.PlainList s.heap.objs.size #[] := by rw [← h0e]; exact ⟨0, Heap.get?_push_size _ rfl⟩
 have hDn : s.heap.get? s.heap.objs.size = none := Heap.get?_none_of_le (Nat.le_refl _)
 generalize hDe : s.heap.objs.size = D at hDl hDn
 have hDlt : D < h0.objs.size := by obtain ⟨m, hm⟩ := hDl; exact Heap.lt_size hm
 refine exG0_5 (comp_setup Y hm x hc hfree hP hsz k0 rfl rfl rfl) fun Y' x' hO hN kH => ?_
 generalize hce : ({ scope := relS scope S, locals := h0.objs.size, globals := C.env.globals, cells := cellsFrom (h0.objs.size + 1) scope.names (closL C.env.cells scope.names []), qual := C.env.qual, func := none, code := C.env.code, frame := C.env.frame, builtins := C.env.builtins } : Env) = env' at Y' x' hO hN ⊢
 have hloc : env'.locals = h0.objs.size := by rw [← hce]
 rw [show h0.objs.size = env'.locals from hloc.symm]
 generalize hHe : pushCells (h0.push { cls := .type "dict", data := .dict #[] }) scope.names = H at Y' x' hO hN kH ⊢
 have kall : ∀ b o, s.heap.get? b = some o → H.get? b = some o := fun b o e => kH b o (k0 b o e)
 have hDoff : Off (compC C st P s.heap env' ((cellsFrom (h0.objs.size + 1) scope.names []).map (·.2))) D := by
  refine ⟨?_, fun hcm => ?_, ?_, ?_⟩
  ·show D ≠ env'.locals
   rw [hloc]; exact Nat.ne_of_lt hDlt
  ·have := (Y'.ownL D hcm).1
   refine exG1_2 (List.mem_map.mp hcm) fun r6 hmm e => ?_
   obtain ⟨nm, c'⟩ := r6
   have ok := cellsFrom_ok scope.names (h0.push { cls := .type "dict", data := .dict #[] }) (h0.objs.size + 1) [] ⟨fun _ _ hm => (nomatch hm), List.Pairwise.nil⟩ (by rw [Heap.size_push]; exact Nat.le_refl _)
   rw [Heap.size_push] at ok
   have hge := (ok.empty nm c' hmm).2
   dsimp only at e
   rw [e] at hge
   exact absurd hge (Nat.not_le.mpr (Nat.lt_succ_of_lt hDlt))
  ·show cbase st C.fr P s.heap D = none
   cases e : cbase st C.fr P s.heap D with
   | none => rfl
   | some o => have := (cbase_some e).1; rw [hDn] at this; k_call_by "c" this
  ·show C.fr D = none
   cases e : C.fr D with
   | none => rfl
   | some d => obtain ⟨o, ho, _⟩ := x.frs D d e; rw [hDn] at ho; k_call_by "c" ho
 have hDP : ¬ P D := fun hp => by have := (hP D hp).2.2; rw [hDn] at this; k_call_by "c" this
 have hDm : st.μ D = none := x.mu_none hDn
 have itH : It 0 H := (hpr _ _ _ _ Y' (by intro h; k_call_by "c" h) hO target asg T).stable _ _ _ I0 fun b o _ e => kall b o e
 have loop : ∀ s₁ : Shared, s₁ = { s with heap := H } → codeAny (model g.prog g.w) C.A (.compLoop (.ListComp elt (⟨target, iter, ifs, 0⟩ :: more) scope pos) 0 (.ref I) (.ref D) env') (RR (.ref D) env'.locals) s₁ := by
  rintro s₁ rfl
  refine run (compC C st P s.heap env' ((cellsFrom (h0.objs.size + 1) scope.names []).map (·.2))) _ D _ Y' (hpr _ _ _ _ Y' (by intro h; k_call_by "c" h) hO target asg T) hDoff hDP ?_ itH x' (fun b hb => (hP b hb).2.1) hDm (by obtain ⟨m, hm⟩ := hDl; exact ⟨m, kH _ _ hm⟩)
  intro acc st' s' vs xs' hDs hpl ev hf
  have xb := comp_back Y x hP xs'
  refine exG1_2 xs'.vars fun m hm _ => ?_
  have hLoff : Off C env'.locals := by rw [hloc]; exact x.off_new (Heap.get?_none_of_le hsz)
  have hDoff2 : Off C D := x.off_new hDn
  refine hR acc st' s' D env'.locals m (xb.adopt (a := D) (o := .list acc) hDoff2 ⟨vs, hpl, ev⟩) hDs hf hm hLoff ?_
  unfold upd
  split
  ·rename_i q; exact absurd (q.symm.trans hloc) (Nat.ne_of_lt hDlt)
  ·cases e : st'.μ env'.locals with
   | none => rfl
   | some o => exact absurd rfl (xs'.objs _ o e).2.1
 refine codeAny_compStart_list (loop _ rfl) (hself 0 _ _ _ _ itH (loop _ rfl))
end Kk
end
section
namespace Kk
variable {g : Gx} {S : Sc} {md : Md} {n : Nat} {C : Cx} {st st' : St} {s : Shared} {h' : Heap} {tk : Nat} {α β γ δ : Type}
noncomputable def hasFree (scope : Scope) (st : St) : Prop := ((freeOf scope).all fun y => (st.σ y).isSome) = true
noncomputable def compM (scope : Scope) (psrc : M Src) (asg : List V → M Unit) (tests : M Bool) (elt : M V) : M V := fun Q X st => hasFree scope st ∧ psrc (fun sr st1 => hasFree scope st1 ∧
 compGo sr.cur asg tests elt (fun acc st' => ∀ D, st'.μ D = none → Q (.ref D) ⟨st1.σ, upd st'.μ D (.list acc)⟩) 0 (sr.its st1) [] (compSt scope st1)) X st
theorem closure_ok {scope : Scope} (Y : Ok g S md n C) (x : Sim g C st s) (hc : compOk scope S = true) (hf : hasFree scope st) : closureFor scope C.env = pure (closL C.env.cells scope.names []) := by
 refine closure_eq fun p hp hk => ?_
 obtain ⟨y, k⟩ := p
 dsimp only at hk
 subst hk
 have hy := mem_freeOf.mpr hp
 refine exG1_1 (Option.isSome_iff_exists.mp (List.all_eq_true.mp hf y hy)) fun u hu => ?_
 refine exG2_2 (free_cell Y x hc hy hu) fun c v h1 _ => ?_
 exact ⟨c, h1⟩
theorem compOk_kind {scope : Scope} (hc : compOk scope S = true) : scope.kind = .function := by
 simp only [compOk, Bool.and_eq_true] at hc; exact beq_iff_eq.mp hc.1.1
theorem compOk_names {scope : Scope} (hc : compOk scope S = true) : ∀ x ∈ scope.names, x.2 = .local → scope.names.lookup x.1 = some .local := by
 simp only [compOk, Bool.and_eq_true] at hc
 intro x hx h
 have := lookup_mem hc.1.2 (x := x.1) (k := x.2) hx
 rw [this, h]
section
variable {target elt iter : Expr} {ifs : List Expr} {scope : Scope} {pos : Pos} {psrc : M Src} {asg : List V → M Unit} {pt : M Bool} {pe : M V}
noncomputable def compGM (scope : Scope) (psrc : M Src) (go : Src → (List V → St → Prop) → St → Prop) : M V := fun Q X st => hasFree scope st ∧ psrc (fun sr st1 => hasFree scope st1 ∧ go sr (fun acc st' => ∀ D, st'.μ D = none → Q (.ref D) ⟨st1.σ, upd st'.μ D (.list acc)⟩) st1) X st
noncomputable def RunOk (g : Gx) (S : Sc) (n : Nat) (target : Expr) (asg : List V → M Unit) (scope : Scope) (e : Expr) (go : Src → (List V → St → Prop) → St → Prop) : Prop := ∀ (sr : Src) (I : Addr) (P : Addr → Prop) (It : Nat → Heap → Prop) (fin : List V → St → Prop) (st : St), go sr fin st →
 ∀ (C' : Cx) (s₁ : Shared) (D : Addr) (R : Result → Shared → Prop), Ok g (compS scope S) .comp n C' → Proto g C' I P It sr.cur target asg → Off C' D → ¬ P D →
   (∀ acc st' s' (vs : Array Value), Sim g C' st' s' → st'.μ D = none → s'.heap.PlainList D vs → vs.toList.map er = acc → fin acc st' → R (.ok .next) s') →
   It 0 s₁.heap → Sim g C' (compSt scope st) s₁ → (∀ b, P b → st.μ b = none) → st.μ D = none → s₁.heap.PlainList D #[] → codeAny (model g.prog g.w) C'.A (.compLoop e 0 (.ref I) (.ref D) C'.env) R s₁
theorem ref_CompG {more : List Comprehension} {go : Src → (List V → St → Prop) → St → Prop} (hm : md ≠ .hand) (hc : compOk scope S = true) (hi : RefIt g S md n psrc iter) (T : TgOk g (compS scope S) .comp n target asg) (run : RunOk g S n target asg scope (.ListComp elt (⟨target, iter, ifs, 0⟩ :: more) scope pos) go)
  (hs : ∀ env x, foldedSetIterable iter env x = pure x) :
  RefE g S md n (compGM scope psrc go) (.ListComp elt (⟨target, iter, ifs, 0⟩ :: more) scope pos) := by
 intro C Y st s Q X x ⟨hf, h⟩
 rw [eval_ListComp]
 refine wpAny_comprehension_free (use := none) rfl (hs _) (closure_ok Y x hc hf) (compOk_kind hc) (compOk_names hc) (wpAny_mono (hi C Y st s _ X x h) (fun xv s1 h1 => wpAny_mono h1 (fun it s2 h2 => ?_) fun _ _ e => e) fun _ _ e => e)
 revert h2; refine fun oO => exG5_4 oO fun sr st2 I P It r1 x2 r2 Sd => ?_
 obtain rfl := r1
 obtain ⟨hf2, h2⟩ := r2
 refine comp_core (RR := fun acc L => compPost (model g.prog g.w) C.A (PostX g C X) none (Post g C VR Q) acc L) Y hm x2 hc hf2 Sd T (run sr I P It _ st2 h2) ?_
 intro acc st3 s3 D L m x3 hD hq hN hL hLm
 refine ⟨m, hN, fun h' hs' => ⟨.ref D, _, rfl, x3.temps (tk := s3.toks) Y (· = L) (fun b hb => hb ▸ ⟨hL, hLm⟩) fun b o hb e => hs'.extBut b o hb e, hq D hD⟩⟩
theorem ref_AssignCompG {more : List Comprehension} {go : Src → (List V → St → Prop) → St → Prop} {y : Str} {py spos : Pos} (hm : md ≠ .hand) (hv : stOk S y = true) (hc : compOk scope S = true) (hi : RefIt g S md n psrc iter) (T : TgOk g (compS scope S) .comp n target asg) (run : RunOk g S n target asg scope (.ListComp elt (⟨target, iter, ifs, 0⟩ :: more) scope pos) go)
  (hsw : ∀ env : Env, env.scope = S.sc → swapsWith (.ListComp elt (⟨target, iter, ifs, 0⟩ :: more) scope pos) (some (.Name y py)) spos.line env = pure true)
  (hs : ∀ env x, foldedSetIterable iter env x = pure x) :
  RefS g S md n (assignM y (compGM scope psrc go)) (.Assign [.Name y py] (.ListComp elt (⟨target, iter, ifs, 0⟩ :: more) scope pos) spos) := by
 intro C Y st s Q X x ⟨hf, h⟩
 rw [exec_Assign_Name_used _ _ _ _ (hsw _ Y.scope)]
 refine wpAny_bind (wpAny_standAt (wpAny_bind ?_))
 show wpAny _ _ (do let _ ← comprehension (.ListComp elt (⟨target, iter, ifs, 0⟩ :: more) scope pos) scope C.env _ (newList []) false (eval iter C.env) (some (assign (.Name y py) C.env))) _ _ s
 refine wpAny_bind (wpAny_mono (wpAny_comprehension_free (use := some (assign (.Name y py) C.env)) (Q := fun _ s' => Post g C FlR Q .next s') rfl (hs _) (closure_ok Y x hc hf) (compOk_kind hc) (compOk_names hc)
  (wpAny_mono (hi C Y st s _ X x h) (fun xv s1 h1 => wpAny_mono h1 (fun it s2 h2 => ?_) fun _ _ e => e) fun _ _ e => e)) (fun _ s' hq => wpAny_pure (wpAny_pure hq)) fun _ _ e => e)
 revert h2; refine fun oO => exG5_4 oO fun sr st2 I P It r3 x2 r4 Sd => ?_
 obtain rfl := r3
 obtain ⟨hf2, h2⟩ := r4
 refine comp_core (RR := fun acc L => compPost (model g.prog g.w) C.A (PostX g C X) (some (assign (.Name y py) C.env)) (fun _ s' => Post g C FlR Q .next s') acc L) Y hm x2 hc hf2 Sd T (run sr I P It _ st2 h2) ?_
 intro acc st3 s3 D L m x3 hD hq hN hL hLm
 show wpAny _ _ (assign (.Name y py) C.env (.ref D)) _ _ s3
 have hLs : (s3.heap.get? L).isSome = true := by obtain ⟨o, _, _, ho, _⟩ := hN; rw [ho]; rfl
 refine wpAny_mono (keep_run (P := (· = L)) (refA_Name hv (.ref D)) Y x3 (fun b hb => hb ▸ ⟨hL, hLm⟩) (Q := fun _ st' => Q .next st') (X := X) (hq D hD)) (fun _ s4 z0 => ?_) fun _ _ e => e
 refine exG2_5 z0 fun _ st4 _ x4 q4 n4 k4 => ?_
 refine ⟨m, hN.at' (fun o e => k4 L o rfl e), fun h' hs' => ⟨.next, st4, trivial, x4.temps (tk := s4.toks) Y (· = L) (fun b hb => hb ▸ ⟨hL, n4 L rfl hLs⟩) fun b o hb e => hs'.extBut b o hb e, q4⟩⟩
noncomputable def go1 (scope : Scope) (asg : List V → M Unit) (pt : M Bool) (pe : M V) (sr : Src) (fin : List V → St → Prop) (st : St) : Prop := compGo sr.cur asg pt pe fin 0 (sr.its st) [] (compSt scope st)
theorem run1 (ht : RefTs g (compS scope S) .comp n pt ifs) (hel : RefE g (compS scope S) .comp n pe elt) : RunOk g S n target asg scope (.ListComp elt [⟨target, iter, ifs, 0⟩] scope pos) (go1 scope asg pt pe) := fun sr I P It fin st h C' s₁ D R Y' Pr hD hDP hfin hI x hP hDm hl =>
 compLoop_run Pr Y' ht hel hD hDP hfin h hI x hP hDm hl rfl
theorem ref_ListComp (hm : md ≠ .hand) (hc : compOk scope S = true) (hi : RefIt g S md n psrc iter) (T : TgOk g (compS scope S) .comp n target asg) (ht : RefTs g (compS scope S) .comp n pt ifs) (hel : RefE g (compS scope S) .comp n pe elt)
  (hs : ∀ env x, foldedSetIterable iter env x = pure x := by intro _ _; rfl) :
  RefE g S md n (compM scope psrc asg pt pe) (.ListComp elt [⟨target, iter, ifs, 0⟩] scope pos) := ref_CompG hm hc hi T (run1 ht hel) hs
theorem ref_AssignComp {y : Str} {py spos : Pos} (hm : md ≠ .hand) (hv : stOk S y = true) (hc : compOk scope S = true) (hi : RefIt g S md n psrc iter) (T : TgOk g (compS scope S) .comp n target asg) (ht : RefTs g (compS scope S) .comp n pt ifs) (hel : RefE g (compS scope S) .comp n pe elt)
  (hsw : ∀ env : Env, env.scope = S.sc → swapsWith (.ListComp elt [⟨target, iter, ifs, 0⟩] scope pos) (some (.Name y py)) spos.line env = pure true)
  (hs : ∀ env x, foldedSetIterable iter env x = pure x := by intro _ _; rfl) :
  RefS g S md n (assignM y (compM scope psrc asg pt pe)) (.Assign [.Name y py] (.ListComp elt [⟨target, iter, ifs, 0⟩] scope pos) spos) := ref_AssignCompG hm hv hc hi T (run1 ht hel) hsw hs
end
end Kk
end
section
namespace Kk
variable {g : Gx} {S : Sc} {md : Md} {n : Nat} {C : Cx} {st st' : St} {s : Shared} {h' : Heap} {tk : Nat} {α β γ δ : Type}
noncomputable def frUp (C : Cx) (h : Heap) : Addr → Option Data := fun b => if b = C.env.locals then (h.get? b).map (·.data) else C.fr b
noncomputable def callC (C : Cx) (st : St) (h : Heap) (A' : Around) (env' : Env) (own : List Addr) : Cx := ⟨A', env', cbase st (frUp C h) (fun _ => False) h, own, frUp C h, C.s0, C.env :: C.outer⟩
theorem cbase_base (Y : Ok g S md n C) (x : Sim g C st s) {b : Addr} {o : Obj} (e : C.base b = some o) : cbase st (frUp C s.heap) (fun _ => False) s.heap b = some o := by
 refine cbase_has (x.base b o e) ?_ ?_ id
 ·cases hq : st.μ b with
  | none => rfl
  | some q => have := (x.objs b q hq).2.2.2.1; rw [e] at this; k_call_by "c" this
 ·unfold frUp
  rw [if_neg (fun q => by have := Y.baseL; rw [← q, e] at this; k_call_by "c" this)]
  cases hq : C.fr b with
  | none => rfl
  | some q => have := Y.frB b q hq; rw [e] at this; k_call_by "c" this
theorem cbase_own (Y : Ok g S md n C) (x : Sim g C st s) {c : Addr} (hc : c ∈ C.own) {o : Obj} (ho : s.heap.get? c = some o) : cbase st (frUp C s.heap) (fun _ => False) s.heap c = some o := by
 refine cbase_has ho ?_ ?_ id
 ·cases hq : st.μ c with
  | none => rfl
  | some q => exact absurd hc (x.objs c q hq).2.2.1
 ·unfold frUp
  rw [if_neg (Y.ownL c hc).1]; exact (Y.ownL c hc).2.2
theorem cbase_cell (Y : Ok g S md n C) (x : Sim g C st s) {y : Str} {c : Addr} (hl : C.env.cells.lookup y = some c) : ∃ o, cbase st (frUp C s.heap) (fun _ => False) s.heap c = some o := by
 rcases Y.cells y c hl with h | ⟨o, h⟩
 ·refine exG2_2 (x.cells c h) fun v o ho _ => ?_
  exact ⟨o, cbase_own Y x h ho⟩
 ·exact ⟨o, cbase_base Y x h⟩
theorem frUp_there (x : Sim g C st s) {a : Addr} {d : Data} (e : frUp C s.heap a = some d) : ∃ o, s.heap.get? a = some o ∧ o.data = d := by
 unfold frUp at e
 split at e
 ·rename_i q
  refine exG1_2 (Option.map_eq_some_iff.mp e) fun o ho hd => ?_
  exact ⟨o, ho, hd⟩
 ·exact x.frs a d e
theorem frUp_new (x : Sim g C st s) {a : Addr} (ha : s.heap.get? a = none) : frUp C s.heap a = none := by
 cases e : frUp C s.heap a with
 | none => rfl
 | some d => obtain ⟨o, ho, _⟩ := frUp_there x e; rw [ha] at ho; k_call_by "c" ho
theorem cbase_new {fr : Addr → Option Data} {P : Addr → Prop} {a : Addr} (ha : s.heap.get? a = none) : cbase st fr P s.heap a = none := by
 cases e : cbase st fr P s.heap a with
 | none => rfl
 | some o => have := (cbase_some e).1; rw [ha] at this; k_call_by "c" this
structure Around' (A A' : Around) (k : Nat) : Prop where
 hnd : A'.handled = A.handled
 guards : A'.guards = A.guards
 frames : A'.frames = A.frames
 depth : A'.depth ≤ A.depth + k
 units : A'.units ≤ A.units + k
structure Enters (C : Cx) (st : St) (s : Shared) (Sb : Sc) (env' : Env) (own : List Addr) (σ' : Str → Option V) (s₁ : Shared) : Prop where
 sc : env'.scope = Sb.sc
 kind : Sb.sc.kind = .function
 glob : env'.globals = mainGlobals
 blt : env'.builtins = builtinsNs
 frame : env'.frame = some env'.locals
 loc : s.heap.objs.size ≤ env'.locals
 cells : ∀ y c, env'.cells.lookup y = some c → c ∈ own ∨ ∃ o, cbase st (frUp C s.heap) (fun _ => False) s.heap c = some o
 ownC : ∀ c ∈ own, env'.locals < c ∧ ∃ v, s₁.heap.IsCell c v
 ownN : ∀ x ∈ Sb.own, ∃ c, env'.cells.lookup x = some c ∧ c ∈ own
 inj : ∀ x y c, env'.cells.lookup x = some c → env'.cells.lookup y = some c → c ∈ own → x = y
 code : ∀ c, Sb.code = some c → env'.code = .ref c
 clo : ∀ cl, Sb.cl = some cl → ∀ y c, cl.lookup y = some c → env'.cells.lookup y = some c
 same : ∃ h tk, s₁ = { s with heap := h, toks := tk }
 keep : ∀ b o, s.heap.get? b = some o → s₁.heap.get? b = some o
 vars : ∃ m, s₁.heap.Ns env'.locals m ∧ ∀ x u, σ' x = some u → VarAt env' s₁.heap m x u
theorem call_setup {Sb : Sc} {env' : Env} {own : List Addr} {σ' : Str → Option V} {s₁ : Shared} {A' : Around} {k : Nat} (Y : Ok g S md (n + 1) C) (x : Sim g C st s) (hA : Around' C.A A' k) (hk : k ≤ 4) (En : Enters C st s Sb env' own σ' s₁) (hm : md ≠ .comp) :
  Ok g Sb md n (callC C st s.heap (A'.deeper env') env' own) ∧ Sim g (callC C st s.heap (A'.deeper env') env' own) ⟨σ', st.μ⟩ s₁ := by
 refine exG0_2 (Y.frames.resolve_left hm) fun hfr hf => ?_
 have nL : s.heap.get? env'.locals = none := Heap.get?_none_of_le En.loc
 have nO : ∀ c ∈ own, s.heap.get? c = none := fun c hc => Heap.get?_none_of_le (Nat.le_trans En.loc (Nat.le_of_lt (En.ownC c hc).1))
 have hd := Y.depth
 have hu := Y.units
 have hd' := hA.depth
 have hu' := hA.units
 refine exG2_1 En.same fun h₁ tk₁ r1 => ?_
 obtain rfl := r1
 constructor
 ·exact {
   stat := fun h hb => Y.stat h fun b o e => hb b o (cbase_base Y x e)
   scope := En.sc
   kind := En.kind
   glob := En.glob
   blt := En.blt
   cells := En.cells
   ownL := fun c hc => ⟨Nat.ne_of_gt (En.ownC c hc).1, show cbase st (frUp C s.heap) (fun _ => False) s.heap c = none from cbase_new (nO c hc), frUp_new x (nO c hc)⟩
   baseL := show cbase st (frUp C s.heap) (fun _ => False) s.heap env'.locals = none from cbase_new nL
   frL := frUp_new x nL
   frB := fun a d e => show cbase st (frUp C s.heap) (fun _ => False) s.heap a = none from cbase_none (.inr (.inl (by rw [show frUp C s.heap a = some d from e]; rfl)))
   ownN := En.ownN
   inj := En.inj
   code := En.code
   clo := En.clo
   hnd := Y.hnd.imp id fun h => by
    show A'.handled = none
    rw [hA.hnd]; exact h
   guards := hA.guards.trans Y.guards
   frames := .inr ⟨by
    show A'.frames.map (env' :: ·) = some (env' :: C.env :: C.outer)
    rw [hA.frames, hfr]; rfl, En.frame⟩
   outs := fun e he => by
    rcases List.mem_cons.mp he with rfl | he
    ·refine exG1_2 x.vars fun m r2 hv => ?_
     obtain ⟨o, es, ep, ho, hdat, r⟩ := r2
     refine ⟨by rw [Y.scope, Y.kind]; decide, _, o.data, hf, ?_, fun vs q => by rw [hdat] at q; k_call_by "c" q⟩
     show frUp C s.heap C.env.locals = _
     unfold frUp; rw [if_pos rfl, ho]; rfl
    ·refine exG0_2 (Y.outs e he) fun h1 r3 => ?_
     refine exG2_3 r3 fun L d h2 h3 h4 => ?_
     refine ⟨h1, L, d, h2, ?_, h4⟩
     show frUp C s.heap L = _
     unfold frUp
     rw [if_neg (fun q => by have := Y.frL; rw [← q, h3] at this; k_call_by "c" this)]; exact h3
   depth := by show A'.depth + 1 + 10 * n ≤ 900; omega
   units := by show A'.units + 3 + 10 * n ≤ 9000; omega }
 ·refine ⟨x.gens, x.drawn, x.os, fun b o e => En.keep b o (cbase_some (show cbase st (frUp C s.heap) (fun _ => False) s.heap b = some o from e)).1, En.vars, fun c hc => (En.ownC c hc).2, fun a d e => ?_, fun a o e => ?_⟩
  ·refine exG1_2 (frUp_there x e) fun o ho hdat => ?_
   exact ⟨o, En.keep a o ho, hdat⟩
  ·have e' : st.μ a = some o := e
   refine exG0_2 (x.objs a o e') fun r hoff => ?_
   refine exG1_1 r.there fun ob hob => ?_
   refine ⟨r.at fun ob h => En.keep a ob h, ?_, fun hc => ?_, show cbase st (frUp C s.heap) (fun _ => False) s.heap a = none from cbase_none (.inl (by rw [e']; rfl)), ?_⟩
   ·intro q
    rw [show a = env'.locals from q, nL] at hob; k_call_by "c" hob
   ·rw [nO a hc] at hob; k_call_by "c" hob
   ·show frUp C s.heap a = none
    unfold frUp; rw [if_neg hoff.1]; exact hoff.2.2.2
theorem off_back {A' : Around} {env' : Env} {own : List Addr} (Y : Ok g S md n C) (x : Sim g C st s) {a : Addr} (h : Off (callC C st s.heap A' env' own) a) : Off C a := by
 refine ⟨?_, fun hc => ?_, ?_, ?_⟩
 ·rintro rfl
  refine exG1_1 x.L_there fun o ho => ?_
  have := h.2.2.2
  rw [show (callC C st s.heap A' env' own).fr C.env.locals = frUp C s.heap C.env.locals from rfl] at this
  unfold frUp at this
  rw [if_pos rfl, ho] at this; k_call_by "c" this
 ·refine exG2_2 (x.cells a hc) fun v o ho _ => ?_
  have := h.2.2.1
  rw [show (callC C st s.heap A' env' own).base a = _ from cbase_own Y x hc ho] at this; k_call_by "c" this
 ·cases e : C.base a with
  | none => rfl
  | some o => have := h.2.2.1; rw [show (callC C st s.heap A' env' own).base a = _ from cbase_base Y x e] at this; k_call_by "c" this
 ·cases e : C.fr a with
  | none => rfl
  | some d =>
   have := h.2.2.2
   rw [show (callC C st s.heap A' env' own).fr a = frUp C s.heap a from rfl] at this
   unfold frUp at this
   split at this
   ·rename_i q; have h2 := Y.frL; rw [← q, e] at h2; k_call_by "c" h2
   ·rw [e] at this; k_call_by "c" this
theorem call_back {A' : Around} {env' : Env} {own : List Addr} {s' : Shared} (Y : Ok g S md n C) (x : Sim g C st s) (x' : Sim g (callC C st s.heap A' env' own) st' s') : Sim g C ⟨st.σ, st'.μ⟩ s' := by
 refine ⟨x'.gens, x'.drawn, x'.os, fun b o e => x'.base b o (cbase_base Y x e), ?_, fun c hc => ?_, fun a d e => ?_, fun a o e => ⟨(x'.objs a o e).1, off_back Y x (x'.objs a o e).2⟩⟩
 ·refine exG1_2 x.vars fun m r4 hv => ?_
  obtain ⟨o, es, ep, ho, hdat, r⟩ := r4
  obtain ⟨o', ho', hd'⟩ := x'.frs C.env.locals o.data (by
   show frUp C s.heap C.env.locals = _
   unfold frUp; rw [if_pos rfl, ho]; rfl)
  refine ⟨m, ⟨o', es, ep, ho', hd'.trans hdat, r⟩, fun y u hu => (hv y u hu).keep fun c v hl hcell => isCell_keep hcell fun ob hob => ?_⟩
  refine exG1_1 (cbase_cell Y x hl) fun o2 h2 => ?_
  have := (cbase_some h2).1
  rw [hob] at this; k_call_by "c" this
  exact x'.base c _ h2
 ·refine exG2_2 (x.cells c hc) fun v o ho hdat => ?_
  exact ⟨v, o, x'.base c o (cbase_own Y x hc ho), hdat⟩
 ·refine x'.frs a d ?_
  show frUp C s.heap a = some d
  unfold frUp
  rw [if_neg (fun q => by have := Y.frL; rw [← q, e] at this; k_call_by "c" this)]; exact e
theorem raised_back {A' : Around} {env' : Env} {own : List Addr} {h : Heap} {k : Ex} {e : Value} {fl : Option Value} {σ' : Str → Option V} (Y : Ok g S md n C) (x : Sim g C st s) (R : Raised g (callC C st s.heap A' env' own) st' k e h fl) : Raised g C ⟨σ', st'.μ⟩ k e h fl := by
 refine exG3_8 R fun a oe vs e1 e2 e3 e4 e5 e6 e7 e8 => ?_
 refine ⟨a, oe, vs, e1, e2, e3, e4, e5, off_back Y x e6, e7, ?_⟩
 induction fl with
 | none => exact e8
 | some f =>
  refine exG3_7 e8 fun T oT ts h1 h2 h3 h4 h5 h6 h7 => ?_
  exact ⟨T, oT, ts, h1, h2, h3, h4, h5, off_back Y x h6, h7⟩
noncomputable def retV : Fl → V | .ret v => v | _ => .none
noncomputable def callM (pb : M Fl) (σ' : Str → Option V) : M V := fun Q X st => pb (fun f st' => Q (retV f) ⟨st.σ, st'.μ⟩) (fun k st' => X k ⟨st.σ, st'.μ⟩) ⟨σ', st.μ⟩
theorem call_body {Sb : Sc} {env' : Env} {own : List Addr} {σ' : Str → Option V} {s₁ : Shared} {A' : Around} {k : Nat} {pb : M Fl} {body : List Stmt} {Q : V → St → Prop} {X : Ex → St → Prop} {R : Result → Shared → Prop}
  (Y : Ok g S md (n + 1) C) (x : Sim g C st s) (hA : Around' C.A A' k) (hk : k ≤ 4) (En : Enters C st s Sb env' own σ' s₁) (hb : RefB g Sb md n pb body) (h : callM pb σ' Q X st)
  (hR : ∀ v s', Post g C VR Q v s' → R (.ok (.ret v)) s') (hE : ∀ e s', PostX g C X e s' → R (.error e) s') (hm : md ≠ .comp := by intro h; k_call_by "c" h) :
  wpAny (model g.prog g.w) (A'.deeper env') (execs body env') (fun f s' => R (.ok (.ret (match f with | .ret v => v | _ => .none))) s')
   (fun e s' => wpAny (model g.prog g.w) (A'.deeper env') (leaving env' e) (fun _ s'' => R (.error e) s'') (fun e' s'' => R (.error e') s'') s') s₁ := by
 refine exG0_2 (call_setup Y x hA hk En hm) fun Y' x' => ?_
 refine wpAny_mono (hb _ Y' _ _ _ _ x' h) (fun f s' ⟨f', st2, ef, x2, q⟩ => hR _ _ ?_) fun e s' ⟨ke, st2, fl, x2, hX, hfl, Rs⟩ => ?_
 ·refine ⟨retV f', _, ?_, call_back Y x x2, q⟩
  induction f' <;> induction f <;> first | exact ef.elim | rfl | exact ef
 ·unfold leaving
  refine wpAny_bind (note_run (C := callC C st s.heap (A'.deeper env') env' own) Y' hm x2 hfl Rs fun s3 x3 R3 => ?_)
  refine flight_run (C := callC C st s.heap (A'.deeper env') env' own) (fr := none) Y' x3 R3 fun s4 x4 R4 => hE e s4 ?_
  exact ⟨ke, _, some .none, call_back Y x x4, hX, .inr (.inl rfl), raised_back Y x R4⟩
theorem bindL_eq (k : Str → Option NameKind) : ∀ (binds : List (Str × Value)) (m : Str → Option Value) (x : Str), k x = some .local → bindL k binds m x = (binds.reverse.lookup x).or (m x)
 | [], m, x, h => by simp [bindL]
 | (nm, v) :: r, m, x, h => by
  rw [bindL, bindL_eq k r _ x h, List.reverse_cons, lookup_append]
  by_cases hx : x = nm
  ·subst hx
   simp only [h, if_true, List.lookup_cons, beq_self_eq_true, List.lookup_nil, Option.or_assoc, Option.some_or]
  ·have hb : (x == nm) = false := beq_eq_false_iff_ne.mpr hx
   simp only [List.lookup_cons, hb, List.lookup_nil, Option.or_none]
   congr 1
   split <;> simp [hx]
theorem bindC_eq (k : Str → Option NameKind) : ∀ (binds : List (Str × Value)) (m : Str → Option Value) (x : Str), k x ≠ some .local → bindC k binds m x = (binds.reverse.lookup x).or (m x)
 | [], m, x, h => by simp [bindC]
 | (nm, v) :: r, m, x, h => by
  rw [bindC, bindC_eq k r _ x h, List.reverse_cons, lookup_append]
  by_cases hx : x = nm
  ·subst hx
   simp only [h, if_false, List.lookup_cons, beq_self_eq_true, List.lookup_nil, Option.or_assoc, if_true, Option.some_or]
  ·have hb : (x == nm) = false := beq_eq_false_iff_ne.mpr hx
   simp only [List.lookup_cons, hb, List.lookup_nil, Option.or_none]
   congr 1
   split <;> simp [hx]
noncomputable def argσ (binds : List (Str × V)) : Str → Option V := fun x => binds.reverse.lookup x
theorem lookup_er (l : List (Str × Value)) (x : Str) : (l.map fun p => (p.1, er p.2)).lookup x = (l.lookup x).map er := by
 induction l with
 | nil => rfl
 | cons p r ih =>
  rw [List.map_cons, List.lookup_cons, List.lookup_cons]
  cases x == p.1 <;> simp [ih]
structure IsFn (g : Gx) (fa : Addr) (fd : FuncData) (body : List Stmt) : Prop where
 look : ∃ o, g.K.lookup fa = some o ∧ o.data = .func fd
 code : codeIn g.K fd.code fd.qualname = true
 body : fd.body = .stmts body
 clo : fd.closure = []
 glob : fd.globals = mainGlobals
 blt : fd.builtins = builtinsNs
 kind : fd.scope.kind = .function
 co : fd.scope.isCoroutine = false
 gen : fd.scope.isGenerator = false
noncomputable def fnS (fd : FuncData) : Sc := { sc := fd.scope, own := cellOfs fd.scope, code := (match fd.code with | .ref c => some c | _ => none) }
theorem call_fun {fa : Addr} {fd : FuncData} {body : List Stmt} {vals : List Value} {binds : List (Str × Value)} {A' : Around} {k : Nat} {pb : M Fl} {Q : V → St → Prop} {X : Ex → St → Prop} {R : Result → Shared → Prop}
  (Y : Ok g S md (n + 1) C) (x : Sim g C st s) (hA : Around' C.A A' k) (hk : k ≤ 4) (F : IsFn g fa fd body) (hbind : ∀ s : Shared, g.K.In s.heap → BindsTo s fd ⟨vals, []⟩ binds)
  (hkind : ∀ y ∈ binds, fd.scope.names.lookup y.1 = some .local ∨ (fd.scope.names.lookup y.1 = some .cell ∧ (y.1, NameKind.cell) ∈ fd.scope.names))
  (hb : RefB g (fnS fd) md n pb body) (h : callM pb (argσ (binds.map fun p => (p.1, er p.2))) Q X st)
  (hR : ∀ v s', Post g C VR Q v s' → R (.ok (.ret v)) s') (hE : ∀ e s', PostX g C X e s' → R (.error e) s') (hm : md ≠ .comp := by intro h; k_call_by "c" h) :
  codeAny (model g.prog g.w) A' (.call (.ref fa) ⟨vals, []⟩) R s := by
 refine exG1_2 F.look fun o hlk hdat => ?_
 have hst := Y.here x
 have hd := Y.depth
 have hd' := hA.depth
 have ok := cellsFrom_ok fd.scope.names (s.heap.push { cls := .type "frame", data := .dict #[] }) (s.heap.objs.size + 1) [] ⟨fun _ _ hm => (nomatch hm), List.Pairwise.nil⟩ (by rw [Heap.size_push]; exact Nat.le_refl _)
 rw [Heap.size_push] at ok
 refine codeAny_call_function (by unfold recursionLimit; omega) (hst.kin _ _ hlk) hdat F.co F.gen F.body (codeRec_of hst.kin F.code) (hbind s hst.kin _ _ _ _ ?_)
 rw [F.clo]
 refine wpAny_newFunctionEnv_cells F.kind (fun y hy => ?_) fun env' he s₁ I => ?_
 ·rcases hkind y hy with h | ⟨h1, h2⟩
  ·exact .inl h
  ·refine exG1_1 (cellsFrom_has fd.scope.names (s.heap.objs.size + 1) [] y.1 (.inl h2)) fun c hc => ?_
   refine exG1_1 (lookup_of_mem hc) fun d hd => ?_
   exact .inr ⟨h1, by rw [hd]; rfl⟩
 ·have eloc : env'.locals = s.heap.objs.size := by rw [he]; rfl
  have ecells : env'.cells = cellsFrom (s.heap.objs.size + 1) fd.scope.names [] := by rw [he]; rfl
  have En : Enters C st s (fnS fd) env' ((cellOfs fd.scope).filterMap fun y => env'.cells.lookup y) (argσ (binds.map fun p => (p.1, er p.2))) s₁ := {
   sc := by rw [he]; rfl
   kind := F.kind
   glob := by rw [he]; exact F.glob
   blt := by rw [he]; exact F.blt
   frame := by rw [he]; rfl
   loc := Nat.le_of_eq eloc.symm
   cells := fun y c e => by
    have e2 : (cellsFrom (s.heap.objs.size + 1) fd.scope.names []).lookup y = some c := by rw [← ecells]; exact e
    rcases cellsFrom_mem _ _ _ _ _ (mem_of_lookup e2) with h | h
    ·k_call_by "c" h
    ·exact .inl (List.mem_filterMap.mpr ⟨y, mem_cellOfs.mpr h, e⟩)
   ownC := fun c hc => by
    refine exG1_2 (List.mem_filterMap.mp hc) fun y _ e => ?_
    exact ⟨I.above y c (mem_of_lookup e), _, I.cell y c e⟩
   ownN := fun y hy => by
    refine exG1_1 (cellsFrom_has fd.scope.names (s.heap.objs.size + 1) [] y (.inl (mem_cellOfs.mp hy))) fun c hc => ?_
    refine exG1_1 (lookup_of_mem hc) fun d hd => ?_
    rw [← ecells] at hd
    exact ⟨d, hd, List.mem_filterMap.mpr ⟨y, hy, hd⟩⟩
   inj := fun a b c ha hb _ => name_of_addr I.apart (mem_of_lookup ha) (mem_of_lookup hb)
   code := fun c e => by
    rw [he]
    show fd.code = .ref c
    unfold fnS at e
    dsimp only at e
    split at e
    ·rename_i q; k_call_by "c" e; exact q
    ·k_call_by "c" e
   clo := fun cl e => nomatch e
   same := I.toInCall.same
   keep := I.toInCall.keep
   vars := by
    refine ⟨_, I.toInCall.ns, fun y u hu => ?_⟩
    unfold argσ at hu
    rw [← List.map_reverse, lookup_er] at hu
    refine exG1_2 (Option.map_eq_some_iff.mp hu) fun v hv ev => ?_
    have hmem : y ∈ binds.map (·.1) := by
     have := mem_of_lookup hv
     exact List.mem_map.mpr ⟨(y, v), List.mem_reverse.mp this, rfl⟩
    refine exG1_2 (List.mem_map.mp hmem) fun r5 hy' e' => ?_
    obtain ⟨y', v'⟩ := r5
    dsimp only at e'
    subst e'
    have hko : env'.kindOf y' = fd.scope.names.lookup y' := by rw [he]; rfl
    unfold VarAt
    rcases hkind _ hy' with h | ⟨h1, h2⟩
    ·rw [hko, h]
     refine ⟨v, ?_, ev⟩
     rw [bindL_eq _ _ _ _ (hko.trans h), hv]; rfl
    ·rw [hko, h1]
     refine exG1_1 (cellsFrom_has fd.scope.names (s.heap.objs.size + 1) [] y' (.inl h2)) fun c hc => ?_
     refine exG1_1 (lookup_of_mem hc) fun d hd => ?_
     refine ⟨d, v, by rw [ecells]; exact hd, ?_, ev⟩
     have := I.cell y' d (by rw [ecells]; exact hd)
     rw [bindC_eq _ _ _ _ (by rw [hko, h1]; intro q; k_call_by "c" q), hv] at this
     exact this }
  exact ⟨hst.top.nolimit.keeps I.toInCall.keep, codeAny_func (call_body Y x hA hk En hb h hR hE hm)⟩
end Kk
end
section
namespace Kk
variable {g : Gx} {S : Sc} {md : Md} {n : Nat} {C : Cx} {st st' : St} {s : Shared} {h' : Heap} {tk : Nat} {α β γ δ : Type}
theorem Ok.low (Y : Ok g S md n C) (x : Sim g C st s) : (s.heap.objs.size == sysModules) = false := by
 have := modules_low (Y.here x).top.nolimit
 exact beq_eq_false_iff_ne.mpr (Nat.ne_of_gt this)
theorem ref_Dict0 {pos : Pos} : RefE g S md n (fun Q _ st => ∀ a, st.μ a = none → ∀ ep, Q (.ref a) (st.put a (.dict [] ep))) (.Dict [] [] pos) := fun C Y st s Q X x h =>
 wpAny_Dict_empty ⟨_, _, rfl, x.push (tk := s.toks) (o := .dict [] 0) ⟨Y.low x, [], ⟨_, #[], Heap.get?_push_size _ rfl, ⟨rfl, rfl, rfl⟩, rfl, fun e he => by simp at he, .nil, by simp⟩, rfl⟩, h _ x.fresh 0⟩
noncomputable def fnM (names : List Str) (tail : List (Str × V)) (k : Nat) (pb : M Fl) (us : List V) : M V := fun Q X st => us.length = k ∧ callM pb (argσ (names.zip us ++ tail)) Q X st
theorem zip_er (names : List Str) (vs : List Value) : (names.zip vs).map (fun p => (p.1, er p.2)) = names.zip (vs.map er) := by
 induction names generalizing vs with
 | nil => simp
 | cons a r ih => induction vs with
  | nil => simp
  | cons v vs => simp [ih]
structure Binds (g : Gx) (fd : FuncData) (names : List Str) (tail : List (Str × Value)) (k : Nat) : Prop where
 binds : ∀ vs : List Value, vs.length = k → ∀ s : Shared, g.K.In s.heap → BindsTo s fd ⟨vs, []⟩ (names.zip vs ++ tail)
 kind : ∀ y ∈ names ++ tail.map (·.1), fd.scope.names.lookup y = some .local ∨ (fd.scope.names.lookup y = some .cell ∧ (y, NameKind.cell) ∈ fd.scope.names)
theorem run_fn {fa : Addr} {fd : FuncData} {body : List Stmt} {names : List Str} {tail : List (Str × Value)} {k : Nat} {pb : M Fl} {A' : Around} {j : Nat} {vs : List Value} {Q : V → St → Prop} {X : Ex → St → Prop} {R : Result → Shared → Prop}
  (F : IsFn g fa fd body) (B : Binds g fd names tail k) (hb : RefB g (fnS fd) md n pb body) (Y : Ok g S md (n + 1) C) (x : Sim g C st s) (hA : Around' C.A A' j) (hj : j ≤ 4)
  (h : fnM names (tail.map fun p => (p.1, er p.2)) k pb (vs.map er) Q X st)
  (hR : ∀ v s', Post g C VR Q v s' → R (.ok (.ret v)) s') (hE : ∀ e s', PostX g C X e s' → R (.error e) s') (hm : md ≠ .comp := by intro h; k_call_by "c" h) :
  codeAny (model g.prog g.w) A' (.call (.ref fa) ⟨vs, []⟩) R s := by
 revert h; refine fun oO => exG0_2 oO fun hl h => ?_
 rw [List.length_map] at hl
 refine call_fun Y x hA hj F (fun s X => B.binds vs hl s X) (fun y hy => ?_) hb ?_ hR hE hm
 ·refine B.kind y.1 ?_
  rcases List.mem_append.mp hy with h | h
  ·exact List.mem_append_left _ ((List.of_mem_zip h).1)
  ·exact List.mem_append_right _ (List.mem_map.mpr ⟨y, h, rfl⟩)
 ·rw [List.map_append, zip_er]; exact h
theorem Around'.refl (A : Around) : Around' A A 0 := ⟨rfl, rfl, rfl, Nat.le_refl _, Nat.le_refl _⟩
theorem callV_fn {fa : Addr} {fd : FuncData} {body : List Stmt} {names : List Str} {tail : List (Str × Value)} {k : Nat} {pb : M Fl} (F : IsFn g fa fd body) (B : Binds g fd names tail k) (hb : RefB g (fnS fd) md n pb body) (hm : md ≠ .comp := by intro h; k_call_by "c" h) :
  CallV g md (n + 1) (.ref fa) (fnM names (tail.map fun p => (p.1, er p.2)) k pb) := fun S C Y st s Q X vs x h =>
 wpAny_call (run_fn F B hb Y x (Around'.refl _) (by omega) h (fun v s' p => p) (fun e s' p => p) hm)
structure Glb (g : Gx) (S : Sc) (x : Str) (v : Value) : Prop where
 glob : S.sc.names.lookup x = some .globalImplicit
 dbg : (x == ("__debug__" : Str)) = false
 is : nsIn g.K mainGlobals x = some (some v)
theorem Glb.run {x : Str} {v : Value} {pos : Pos} {Q : Value → Shared → Prop} {E : Value → Shared → Prop} (b : Glb g S x v) (Y : Ok g S md n C) (sx : Sim g C st s) (q : Q v s) : wpAny (model g.prog g.w) C.A (eval (.Name x pos) C.env) Q E s :=
 gl_run b.glob b.dbg b.is Y sx q
theorem ref_CallG {x : Str} {a : Addr} {p : M (List V)} {f : List V → M V} {e : Expr} {r : List Expr} {px pos : Pos} (b : Glb g S x (.ref a)) (hk : keepIn g.K (.ref a) = true) (hp : RefX g S md n p (e :: r)) (hc : CallV g md n (.ref a) f)
  (he : ∀ env, starEach (e :: r) env = (false, eval e env) :: starEach r env := by intro _; rfl) (hpl : ∀ env, (backTo pos (starEach r env)).any (·.1) = false := by intro _; rfl) :
  RefE g S md n (mbind p f) (.Call (.Name x px) (e :: r) [] pos) := fun C Y st s Q X sx h =>
 wpAny_Call_NameR (b.run Y sx (callWith_K (first := []) (Y.here sx).kin hk ((hp pos).use Y sx h fun us vs st1 s1 ev x1 h1 => ⟨(Y.here x1).kin, hc S C Y st1 s1 Q X vs x1 (by rw [ev]; exact h1)⟩) (he _) (hpl _)))
inductive InsH (c : Addr) (nm : Str) (Q : Unit → St → Prop) (st : St) : V → Prop
 | mk {a d : Addr} {es : List (Str × V)} {ep : Nat} : st.μ a = some (.inst c d) → st.μ d = some (.dict es ep) → dget es nm = none → Q () st → InsH c nm Q st (.ref a)
noncomputable def instM (c : Addr) (nm : Str) (a : V) : M Unit := fun Q _ st => InsH c nm Q st a
noncomputable def methB (K : Frag) (c : Addr) (nm : Str) (f : Addr) : Bool := plainGet K c nm && (findIn K (.ref c) nm == some (some (.ref f))) && isFn K (.ref f) && keepIn K (.ref f)
theorem own_meth {c f : Addr} {nm : Str} {a : V} {va : Value} {pl : Sem Bool} {Q : Value × List Value → Shared → Prop} {E : Value → Shared → Prop} {Qm : Unit → St → Prop} {X : Ex → St → Prop} (hB : methB g.K c nm f = true) (Y : Ok g S md n C) (x : Sim g C st s) (ha : er va = a) (h : instM c nm a Qm X st)
  (hq : Qm () st → Q (.ref f, [va]) s) : wpAny (model g.prog g.w) C.A (getMethod va nm pl) Q E s := by
 obtain ⟨h1, h2, hn, h⟩ := h
 rw [er_ref ha] at hq ⊢
 refine exG2_8 (inst_at x h1 h2) fun kvs es' i1 i2 I p kk nd e hs => ?_
 simp only [methB, Bool.and_eq_true, beq_iff_eq] at hB
 refine exG0_2 hB fun r1 b4 => ?_
 obtain ⟨⟨b1, b2⟩, b3⟩ := r1
 refine method_fn (Y.here x).kin I (plainGet_of b1).1 (plainGet_of b1).2 b2 (beq_iff_eq.mp b3) ?_ (hq h)
 show (lookIn nm (dictOf es' _)).map _ = _
 rw [lookIn_dict, getL_none p (dget_real_none e hn)]; rfl
theorem ref_MethOwn {c fa : Addr} {nm : Str} {p : M V} {q : M (List V)} {f : List V → M V} {o e : Expr} {r : List Expr} {apos pos : Pos} {pl : Env → Sem Bool} (hB : methB g.K c nm fa = true)
  (hc : CallV g md n (.ref fa) f) (ho : RefE g S md n p o) (hq : RefX g S md n q (e :: r))
  (he : ∀ env, eval (.Call (.Attribute o nm apos) (e :: r) [] pos) env = (do
   let ov ← eval o env
   standAt apos.atName
   let (f, first) ← holding [ov] (getMethod ov nm (pl env))
   callWith pos f first (backTo pos (starEach (e :: r) env)) []) := by intro _; rfl)
  (he2 : ∀ env, starEach (e :: r) env = (false, eval e env) :: starEach r env := by intro _; rfl) (hpl : ∀ env, (backTo pos (starEach r env)).any (·.1) = false := by intro _; rfl) :
  RefE g S md n (mbind p fun a => mbind (instM c nm a) fun _ => mbind q fun vs => f (a :: vs)) (.Call (.Attribute o nm apos) (e :: r) [] pos) := fun C Y st s Q X sx hp =>
 MethodCall_ (pl := pl C.env) (ho.use Y sx hp fun a va st1 s1 ea x1 h1 => own_meth hB Y x1 ea h1 fun h2 =>
  callWith_K (first := [va]) (Y.here x1).kin (by simp only [methB, Bool.and_eq_true] at hB; exact hB.2) ((hq pos).use Y x1 h2 fun us vs st2 s2 ev x2 h3 => ⟨(Y.here x2).kin, hc S C Y st2 s2 Q X (va :: vs) x2 (by rw [List.map_cons, ea, ev]; exact h3)⟩) (he2 _) (hpl _)) (he _)
noncomputable def makeM (c : Addr) (f : List V → M V) (us : List V) : M V := fun Q X st => ∀ d x, st.μ d = none → st.μ x = none → d ≠ x → f (.ref x :: us) (fun v st' => v = .none ∧ Q (.ref x) st') X ((st.put d (.dict [] 0)).put x (.inst c d))
noncomputable def makeB (K : Frag) (c fi : Addr) : Bool := makesIn K c && (findIn K (.ref c) "__init__" == some (some (.ref fi))) && (typeIn K (.ref fi) == some (.type "function"))
theorem callV_cls {c fi : Addr} {fd : FuncData} {body : List Stmt} {names : List Str} {tail : List (Str × Value)} {k : Nat} {pb : M Fl} (hB : makeB g.K c fi = true) (F : IsFn g fi fd body) (B : Binds g fd names tail k) (hb : RefB g (fnS fd) md n pb body) (hm : md ≠ .comp := by intro h; k_call_by "c" h) :
  CallV g md (n + 1) (.ref c) (makeM c (fnM names (tail.map fun p => (p.1, er p.2)) k pb)) := by
 intro S C Y st s Q X vs x h
 simp only [makeB, Bool.and_eq_true, beq_iff_eq] at hB
 refine exG0_2 hB fun r2 b3 => ?_
 obtain ⟨b1, b2⟩ := r2
 have X' := (Y.here x).kin
 obtain ⟨hp, gn, dr, tk, os⟩ := s
 refine wpAny_call (make_core (makes_of X' b1) (looks_findIn X' b2) (fun self => bind_fn X' self b3) (.inl rfl) ?_)
 have x1 : Sim g C (st.put hp.objs.size (.dict [] 0)) ⟨hp.push emptyDict, gn, dr, tk, os⟩ := x.push (tk := tk) (o := .dict [] 0) (ob := emptyDict) ⟨Y.low x, [], ⟨_, #[], Heap.get?_push_size _ rfl, ⟨rfl, rfl, rfl⟩, rfl, fun e he => by simp at he, .nil, by simp⟩, rfl⟩
 have x2 : Sim g C ((st.put hp.objs.size (.dict [] 0)).put (hp.push emptyDict).objs.size (.inst c hp.objs.size)) ⟨(hp.push emptyDict).push (instObj c hp.objs.size), gn, dr, tk, os⟩ :=
  x1.push (tk := tk) (o := .inst c hp.objs.size) (ob := instObj c hp.objs.size) (Heap.get?_push_size _ rfl)
 rw [Heap.size_push] at x2
 refine run_fn (A' := C.A.under (.builtin "type.__call__" ⟨.ref c :: vs, []⟩)) (j := 1) (vs := .ref (hp.objs.size + 1) :: vs) F B hb Y x2 ⟨rfl, ?_, rfl, Nat.le_refl _, ?_⟩ (by omega)
  (h hp.objs.size (hp.objs.size + 1) x.fresh (x.mu_none (Heap.get?_none_of_le (Nat.le_succ _))) (Nat.ne_of_lt (Nat.lt_succ_self _))) (fun v s' p => ?_) (fun e s' p => p) hm
 ·show pushGuards (Code.guards (.builtin "type.__call__" ⟨.ref c :: vs, []⟩)) C.A.guards = _
  rw [show Code.guards (.builtin "type.__call__" ⟨.ref c :: vs, []⟩) = [] from by
   unfold Code.guards
   rw [if_neg]
   show ¬ guardIds.contains "type.__call__" = true
   decide]
  rfl
 ·show C.A.units + _ ≤ _
  exact Nat.le_refl _
 ·refine exG2_4 p fun u st' eu x' r3 q => ?_
  obtain rfl := r3
  exact ⟨er_none eu, _, _, rfl, x', q⟩
end Kk
end
section
namespace Kk
variable {g : Gx} {S : Sc} {md : Md} {n : Nat} {C : Cx} {st st' : St} {s : Shared} {h' : Heap} {tk : Nat} {α β γ δ : Type}
noncomputable def Cx.in1 (C : Cx) : Cx := { C with A := C.A.in1 }
theorem in1_ok (Y : Ok g S md (n + 1) C) : Ok g S md n C.in1 where
 stat := Y.stat
 scope := Y.scope
 kind := Y.kind
 glob := Y.glob
 blt := Y.blt
 cells := Y.cells
 ownL := Y.ownL
 baseL := Y.baseL
 frL := Y.frL
 frB := Y.frB
 ownN := Y.ownN
 inj := Y.inj
 code := Y.code
 clo := Y.clo
 hnd := Y.hnd
 guards := Y.guards
 frames := Y.frames
 outs := Y.outs
 depth := by have := Y.depth; show C.A.depth + 10 * n ≤ 900; omega
 units := by have := Y.units; show C.A.units + 1 + 10 * n ≤ 9000; omega
theorem in1_sim (x : Sim g C st s) : Sim g C.in1 st s := ⟨x.gens, x.drawn, x.os, x.base, x.vars, x.cells, x.frs, x.objs⟩
theorem in1_back (x : Sim g C.in1 st s) : Sim g C st s := ⟨x.gens, x.drawn, x.os, x.base, x.vars, x.cells, x.frs, x.objs⟩
theorem in1_postX {X : Ex → St → Prop} {e : Value} (h : PostX g C.in1 X e s) : PostX g C X e s := by
 refine exG3_4 h fun k st1 fl x1 hX hfl R => ?_
 exact ⟨k, st1, fl, in1_back x1, hX, hfl, R⟩
theorem Ok.less {m : Nat} (Y : Ok g S md n C) (h : m ≤ n) : Ok g S md m C where
 stat := Y.stat
 scope := Y.scope
 kind := Y.kind
 glob := Y.glob
 blt := Y.blt
 cells := Y.cells
 ownL := Y.ownL
 baseL := Y.baseL
 frL := Y.frL
 frB := Y.frB
 ownN := Y.ownN
 inj := Y.inj
 code := Y.code
 clo := Y.clo
 hnd := Y.hnd
 guards := Y.guards
 frames := Y.frames
 outs := Y.outs
 depth := by have := Y.depth; omega
 units := by have := Y.units; omega
theorem CallV.more {m : Nat} {fv : Value} {f : List V → M V} (h : CallV g md m fv f) (hm : m ≤ n) : CallV g md n fv f := fun S C Y st s Q X vs x q => h S C (Y.less hm) st s Q X vs x q
inductive LowH (c : Addr) (f : List V → M V) (Q : Int → St → Prop) (X : Ex → St → Prop) (st : St) : V → Prop
 | mk {a d : Addr} {es : List (Str × V)} {ep : Nat} : st.μ a = some (.inst c d) → st.μ d = some (.dict es ep) → f [.ref a] (fun r st' => ∃ i, r = .int i ∧ (0 ≤ i ∧ i < 2 ^ 62) ∧ Q i st') X st → LowH c f Q X st (.ref a)
noncomputable def lenOwnM (c : Addr) (f : List V → M V) (v : V) : M Int := fun Q X st => LowH c f Q X st v
noncomputable def lenB (K : Frag) (c f : Addr) : Bool := (findIn K (.ref c) "__len__" == some (some (.ref f))) && (typeIn K (.ref f) == some (.type "function"))
theorem len_body {c fa : Addr} {f : List V → M V} {v : V} {va : Value} {Q : Int → St → Prop} {X : Ex → St → Prop} (hB : lenB g.K c fa = true) (hc : CallV g .fn n (.ref fa) f) (Y : Ok g S .fn (n + 1) C) (x : Sim g C st s) (ha : er va = v) (h : lenOwnM c f v Q X st) :
  wpAny (model g.prog g.w) C.A.in1 (Builtin.«len» ⟨[va], []⟩) (fun fin s' => ∃ i t st', fin = .done (.ret (.int i t)) ∧ Sim g C st' s' ∧ Q i st') (PostX g C X) s := by
 induction h with
 | @mk a d es ep h1 h2 h =>
  rw [er_ref ha]
  refine exG2_8 (inst_at x h1 h2) fun kvs es' i1 i2 I p kk nd e hs => ?_
  simp only [lenB, Bool.and_eq_true, beq_iff_eq] at hB
  unfold Builtin.«len»
  refine wpAny_bind (m := oneArg "len" _) (wpAny_pure ?_)
  refine wpAny_bind (m := callSpecial? (.ref a) (Str.ofString "__len__")) (special_fn (Y.here x).kin I hB.1 hB.2 ?_)
  refine wpAny_mono (hc S C.in1 (in1_ok Y) st s _ X [.ref a] (in1_sim x) h) (fun r s' hr => ?_) fun e s' he => in1_postX he
  refine exG2_3 hr fun u st' eu x' r1 => ?_
  refine exG1_3 r1 fun i r2 r3 q => ?_
  obtain rfl := r2
  obtain ⟨h0, h1⟩ := r3
  obtain ⟨t, rfl⟩ := er_int eu
  refine wpAny_bind (wpAny_holding (wpAny_pure ?_))
  refine wpAny_bind (wpAny_letGo ?_)
  show wpAny _ _ (if i < 0 then _ else _) _ _ _
  rw [if_neg (by omega)]
  show wpAny _ _ (if i ≥ 2 ^ 63 then _ else _) _ _ _
  rw [if_neg (by omega)]
  exact wpAny_bind (wpAny_mkInt (wpAny_pure ⟨i, _, st', rfl, (in1_back x').tick, q⟩))
theorem ref_LenOwn {c fa : Addr} {f : List V → M V} {p : M V} {e : Expr} {px pos : Pos} (b : Blt g S "len" (.builtin "len")) (hB : lenB g.K c fa = true) (hc : CallV g .fn n (.ref fa) f) (h : RefE g S .fn (n + 1) p e)
  (he : ∀ env, starEach [e] env = (false, eval e env) :: starEach [] env := by intro _; rfl) :
  RefE g S .fn (n + 1) (mbind p fun v Q X st => lenOwnM c f v (fun i st' => Q (.int i) st') X st) (.Call (.Name "len" px) [e] [] pos) := fun C Y st s Q X x hp =>
 wpAny_Call_NameR (b.run Y x (PyProof.Rows.callWith_builtin1 (wpAny_items_cons (h.use Y x hp fun a va st1 s1 ha x1 h1 => wpAny_items_nil (by
  refine Calls.call_function_entry kind_len plain_len entry_len (args_len1 _) (wpAny_mono (len_body hB hc Y x1 ha h1) (fun fin s' q0 => by obtain ⟨i, t, st', e, x', q⟩ := q0; exact ⟨_, e, _, st', rfl, x', q⟩) fun _ _ e => e))) (he _)) (he _) (by rfl)))
theorem ref_stuckB {e : List Stmt} : RefB g S md n mstuck e := fun C Y st s Q X x h => h.elim
end Kk
end
section
namespace Kk
variable {g : Gx} {S : Sc} {md : Md} {n : Nat} {C : Cx} {st st' : St} {s : Shared} {h' : Heap} {tk : Nat} {α β γ δ : Type}
section
variable {prog : Program} {w : World} {A : Around} {E : Value → Shared → Prop}
theorem pyHash_none {Q : Int → Shared → Prop} (h : Q 0xFCA86420 { s with toks := s.toks + 1 }) : wpAny (model prog w) A (pyHash .none) Q E s := by
 unfold pyHash
 refine wpAny_bind ?_
 rw [cRoomFor, if_neg (by decide)]; refine wpAny_pure ?_
 refine wpAny_bind (wpAny_specialOf (typeIs_none s) PySem.F.slot_NoneType_hash.lookup ?_)
 show wpAny _ _ (if (some (Value.builtin "NoneType.__hash__") == some Value.none) = true then _ else _) Q E s
 rw [if_neg (by decide)]
 refine wpAny_bind (wpAny_specialOf (typeIs_none s) PySem.F.slot_NoneType_hash.lookup ?_)
 show wpAny _ _ (callSpecialIfBoundUnlessNone? .none "__hash__" _ >>= _) Q E s
 refine wpAny_bind (wpAny_callSpecialIfBoundUnlessNone?_slot (typeIs_none s) PySem.F.slot_NoneType_hash
  (wpAny_call_entry PySem.F.slot_NoneType_hash (typeIs_none s) PySem.F.entry_NoneType_hash
   (show wpAny _ _ (do ret (← mkInt 0xFCA86420)) _ _ s from wpAny_ret_mkInt ?_) (PySem.F.args_NoneType_hash_1 _)))
 show wpAny _ _ (if (decide (-(2 : Int) ^ 63 ≤ 0xFCA86420) && decide ((0xFCA86420 : Int) < 2 ^ 63)) = true then _ else _) Q E _
 rw [if_pos (by decide)]
 exact wpAny_pure h
theorem truthDropped_bool {b : Bool} {Q : Bool → Shared → Prop} (h : Q b s) : wpAny (model prog w) A (truthOfDropped (.bool b)) Q E s := by
 unfold truthOfDropped; exact wpAny_truthy_bool h
theorem eqBool_none_str {x : Str} {t : Tok} {Q : Bool → Shared → Prop} (h : Q false s) : wpAny (model prog w) A (PySem.eqBool .none (.str x t)) Q E s := by
 unfold PySem.eqBool
 refine wpAny_holding ?_
 rw [if_neg (by simp)]
 refine wpAny_bind ?_
 have := EqNone.eq_none_str (prog := prog) (w := w) (A := A) (E := E) (s := s) (a := x) (t := t) (Q := fun v s' => wpAny (model prog w) A (truthOfDropped v) Q E s') (truthDropped_bool h)
 exact this
theorem eqBool_str_none {x : Str} {t : Tok} {Q : Bool → Shared → Prop} (h : Q false s) : wpAny (model prog w) A (PySem.eqBool (.str x t) .none) Q E s := by
 unfold PySem.eqBool
 refine wpAny_holding ?_
 rw [if_neg (by simp)]
 refine wpAny_bind ?_
 have := EqNone.eq_str_none (prog := prog) (w := w) (A := A) (E := E) (s := s) (a := x) (t := t) (Q := fun v s' => wpAny (model prog w) A (truthOfDropped v) Q E s') (truthDropped_bool h)
 exact this
theorem eqBool_none_none {Q : Bool → Shared → Prop} (h : Q true s) : wpAny (model prog w) A (PySem.eqBool .none .none) Q E s := by
 unfold PySem.eqBool
 refine wpAny_holding ?_
 rw [if_pos (by simp)]
 exact wpAny_bind (wpAny_rule (wpAny_pure h))
end
noncomputable def isOpt : Option Str → Value → Bool
 | none, .none => true
 | some x, v => Value.isStrOf x v
 | _, _ => false
theorem isOpt_shape {k : Option Str} {v : Value} (h : isOpt k v = true) : (k = none ∧ v = .none) ∨ ∃ x t, k = some x ∧ v = .str x t := by
 induction k with
 | none => induction v <;> first | exact .inl ⟨rfl, rfl⟩ | k_call_by "c" h
 | some x => obtain ⟨t, rfl⟩ := Value.isStrOf_shape h; exact .inr ⟨x, t, rfl, rfl⟩
noncomputable def optKind (prog : Program) (w : World) : KeyKind prog w (Option Str) where
 is := isOpt
 hash := fun k => match k with | none => 0xFCA86420 | some x => hashStr w x
 inj := fun v a b ha hb => by
  rcases isOpt_shape ha with ⟨rfl, rfl⟩ | ⟨x, t, rfl, rfl⟩ <;> rcases isOpt_shape hb with ⟨rfl, e⟩ | ⟨y, u, rfl, e⟩
  ·rfl
  ·k_call_by "c" e
  ·k_call_by "c" e
  ·injection e with e; rw [e]
 byValue := fun k v h => by rcases isOpt_shape h with ⟨rfl, rfl⟩ | ⟨x, t, rfl, rfl⟩ <;> rfl
 pyHash := fun hv h => by
  rcases isOpt_shape hv with ⟨rfl, rfl⟩ | ⟨x, t, rfl, rfl⟩
  ·exact pyHash_none h
  ·exact wpAny_pyHash_str h
 eqBool := fun hu hv h => by
  rcases isOpt_shape hu with ⟨rfl, rfl⟩ | ⟨x, t, rfl, rfl⟩ <;> rcases isOpt_shape hv with ⟨rfl, rfl⟩ | ⟨y, u, rfl, rfl⟩
  ·exact eqBool_none_none (by simpa using h)
  ·exact eqBool_none_str (by simpa using h)
  ·exact eqBool_str_none (by simpa using h)
  ·exact wpAny_eqBool_str (by simpa using h)
 «strs» := fun k x t v h => by
  rcases isOpt_shape h with ⟨rfl, e⟩ | ⟨y, u, rfl, e⟩
  ·k_call_by "c" e
  ·injection e with e
   subst e
   induction v <;> rfl
theorem opt_mapOf {h : Heap} {d : Addr} {kvs : List (Str × Value)} (hm : h.DictOf (PySem.strKind g.prog g.w) d kvs) : h.MapOf (optKind g.prog g.w) d (fun k => k.bind fun x => valueAt kvs x) := by
 refine exG3_5 hm.mapOf fun o es ep ho hc hd hk hf => ?_
 refine ⟨o, es, ep, ho, hc, hd, fun e he => ?_, fun k => ?_⟩
 ·refine exG1_2 (hk e he) fun x h1 h2 => ?_
  exact ⟨some x, h1, h2⟩
 ·induction k with
  | some x => exact hf x
  | none =>
   show findBy isOpt es none = none
   unfold findBy
   rw [Option.map_eq_none_iff, Array.find?_eq_none]
   intro e he
   refine exG1_2 (hk e he) fun x h1 h2 => ?_
   refine exG1_1 (Value.isStrOf_shape h1) fun t ht => ?_
   rw [ht]
   simp [isOpt]
noncomputable def getM2 (vs : List V) : M V := fun Q _ st => GetH Q st vs
theorem call_get2 : CallV g md n (.builtin "dict.get") getM2 := by
 intro S C Y st s Q X vs x h
 replace h : GetH Q st (vs.map er) := h
 generalize e0 : vs.map er = us at h
 induction h with
 | one hm h =>
  refine exG2_3 (map2 e0) fun va vv r1 e1 e2 => ?_
  obtain rfl := r1
  rw [er_ref e1]
  obtain ⟨t, rfl⟩ := er_str e2
  refine exG0_2 (dict_in x hm) fun hs r2 => ?_
  refine exG1_2 r2 fun kvs hd e => ?_
  exact call_meetsIn PySem.F.slot_dict_get hd.dictOf.typeIs PySem.F.entry_dict_get (PySem.F.args_dict_get_2 _ _) (meets_dict_get (PySem.strKind g.prog g.w) _ (isStrOf_self _ t) hs) ⟨_, hd.dictOf.mapOf, ⟨_, st, dget_getD e _ .none, x.tick, h⟩⟩
 | two hm h =>
  refine exG3_4 (map3 e0) fun va vv vd r3 e1 e2 e3 => ?_
  obtain rfl := r3
  rw [er_ref e1]
  obtain ⟨t, rfl⟩ := er_str e2
  refine exG0_2 (dict_in x hm) fun hs r4 => ?_
  refine exG1_2 r4 fun kvs hd e => ?_
  exact call_meetsIn PySem.F.slot_dict_get hd.dictOf.typeIs PySem.F.entry_dict_get (PySem.F.args_dict_get_3 _ _ _) (meets_dict_get_default (PySem.strKind g.prog g.w) _ (isStrOf_self _ t) hs vd) ⟨_, hd.dictOf.mapOf, ⟨_, st, (dget_getD e _ vd).trans (by rw [e3]), x.tick, h⟩⟩
 | no hm h =>
  refine exG3_4 (map3 e0) fun va vv vd r5 e1 e2 e3 => ?_
  obtain rfl := r5
  rw [er_ref e1, er_none e2]
  refine exG0_2 (dict_in x hm) fun hs r6 => ?_
  refine exG1_2 r6 fun kvs hd e => ?_
  exact call_meetsIn PySem.F.slot_dict_get hd.dictOf.typeIs PySem.F.entry_dict_get (PySem.F.args_dict_get_3 _ _ _) (meets_dict_get_default (optKind g.prog g.w) _ (k := none) rfl hs vd) ⟨_, opt_mapOf hd.dictOf, ⟨_, st, e3, x.tick, h⟩⟩
theorem ref_T_InEmpty {x : Str} {a : Addr} {ep : Nat} {p : M V} {l : Expr} {px pos : Pos} (b : Glb g S x (.ref a)) (hl : g.K.lookup a = some ⟨.type "dict", none, .dict #[] ep, #[]⟩) (ha : (a == sysModules) = false) (h : RefE g S md n p l) :
  RefT g S md n (mbind p fun v Q _ st => (∃ k, v = .str k) ∧ Q false st) (.Compare l [.In] [.Name x px] pos) := fun C Y st s Q X sx hp =>
 wpAny_isTrue_Compare1 (h.use Y sx hp fun v va st1 s1 ev x1 h1 => b.run Y x1 (by
  obtain ⟨⟨k, rfl⟩, h1⟩ := h1
  obtain ⟨t, rfl⟩ := er_str ev
  have hd : s1.heap.DictOf (PySem.strKind g.prog g.w) a [] := ⟨_, #[], ep, (Y.here x1).kin _ _ hl, ⟨rfl, rfl, rfl⟩, rfl, fun e he => by simp at he, .nil, by simp⟩
  exact wpAny_in_of (isStrOf_self k t) ha hd.mapOf (wpAny_truthy_bool ⟨_, st1, rfl, x1.tick, h1⟩))) rfl
inductive FmtH (Q : Str → St → Prop) (st : St) : V → Prop
 | str {x : Str} : x.length ≤ 1000 → Q x st → FmtH Q st (.str x)
 | int {i : Int} : i.natAbs ≤ 1000 → (Str.ofString (toString i)).length ≤ 1000 → Q (Str.ofString (toString i)) st → FmtH Q st (.int i)
noncomputable def fmtM (v : V) : M Str := fun Q _ st => FmtH Q st v
theorem log_small {i : Int} (h : i.natAbs ≤ 1000) : i.natAbs.log2 < 1920 := by
 by_cases h0 : i.natAbs = 0
 ·rw [h0]; decide
 ·have : i.natAbs.log2 < 10 := (Nat.log2_lt h0).mpr (by omega)
  omega
theorem fmt_run {v : V} {va : Value} {Q : Str → St → Prop} {X : Ex → St → Prop} {E : Value → Shared → Prop} (x : Sim g C st s) (ha : er va = v) (h : fmtM v Q X st) :
  wpAny (model g.prog g.w) C.A (formatField va Str.empty) (fun r s' => ∃ y t, r = .str y t ∧ y.length ≤ 1000 ∧ Sim g C st s' ∧ Q y st) E s := by
 induction h with
 | str z h => obtain ⟨t, rfl⟩ := er_str ha; exact wpAny_formatField_str ⟨_, _, rfl, z, x, h⟩ ⟨_, _, rfl, z, x.tick, h⟩
 | int z z2 h => obtain ⟨t, rfl⟩ := er_int ha; exact wpAny_formatField_int (log_small z) ⟨_, _, rfl, z2, x.tick, h⟩
theorem cat_len (a b : Str) : (a ++ b).length = a.length + b.length := PyProof.Rows.len_cat a b
theorem ref_F2 {p q : M V} {e1 e2 : Expr} {p1 p2 pos : Pos} (h1 : RefE g S md n p e1) (h2 : RefE g S md n q e2) :
  RefE g S md n (mbind p fun a => mbind (fmtM a) fun x => mbind q fun b => mbind (fmtM b) fun y => mret (.str (x ++ y))) (.JoinedStr [.FormattedValue e1 (-1) none p1, .FormattedValue e2 (-1) none p2] pos) := fun C Y st s Q X sx hp =>
 wpAny_JoinedStr (wpAny_FormattedValue_plain (h1.use Y sx hp fun a va st1 s1 ea x1 q1 => wpAny_mono (fmt_run (E := PostX g C X) x1 ea q1) (fun r s2 ⟨x, t, er', zx, x2, q2⟩ => ⟨x, t, er', by
   rw [cat_len]; exact Nat.le_trans (by show 0 + x.length ≤ 1000; omega) sizeL, wpAny_FormattedValue_plain (h2.use Y x2 q2 fun b vb st3 s3 eb x3 q3 => wpAny_mono (fmt_run (E := PostX g C X) x3 eb q3) (fun r s4 ⟨y, u, er4, zy, x4, q4⟩ => by
   have hlen : (Str.empty ++ x ++ y).length ≤ sizeLine := by
    rw [cat_len, cat_len, sizeLine_eq]; show 0 + x.length + y.length ≤ _; omega
   refine ⟨y, u, er4, hlen, hlen, ?_⟩
   rw [KPc.empty_app]
   exact ⟨_, _, rfl, x4.tick, q4⟩) fun _ _ e => e)⟩) fun _ _ e => e))
end Kk
end
section
open PySem PySem.W PyProof.Rows PySem.Spec PySem.Calls PySem.Builtin
namespace Kk
variable {g : Gx} {S : Sc} {md : Md} {n : Nat} {C : Cx} {st st' : St} {s : Shared} {h' : Heap} {tk : Nat} {α β γ δ : Type}
set_option maxHeartbeats 1000000 in
set_option maxRecDepth 100000 in
theorem strs_show (ys : List Str) : PyData.showableAll (ys.map .str) = true ∧ PyData.hasDictAll (ys.map .str) = false ∧ PyData.depthAll (ys.map .str) = 0 := by
 induction ys with
 | nil => exact ⟨rfl, rfl, rfl⟩
 | cons y r ih =>
  refine exG0_3 ih fun a b c => ?_
  refine ⟨?_, ?_, ?_⟩
  ·simp only [List.map_cons, PyData.showableAll, PyData.showable, a, Bool.and_true]
  ·simp only [List.map_cons, PyData.hasDictAll, PyData.hasDict, b, Bool.or_false]
  ·simp only [List.map_cons, PyData.depthAll, PyData.depth, c]; rfl
theorem rd_strs {μ : Addr → Option O} : ∀ ys : List Str, RdAll μ (ys.map V.str) (ys.map .str)
 | [] => .nil
 | y :: r => .cons (.str y) (rd_strs r)
noncomputable def arrowText (y : Str) (ys : List Str) : Str := y ++ (" -> " : Str) ++ (PyData.list (ys.map .str)).shown
end Kk
end
section
open PySem PySem.W PyProof.Rows PySem.Spec PySem.Calls PySem.Builtin
namespace Kk
namespace Fk
noncomputable def bound : Obj := { cls := .type "builtin_function_or_method", data := .fields #[.builtin "dict.fromkeys", .type "dict"] }
theorem type_fk : typeOf (.builtin "dict.fromkeys") = pure (.type "classmethod_descriptor") := by show builtinType _ = _; rw [builtinType_eq_fast]; kernel_rfl
theorem entry_fk : entryFor table "dict.fromkeys" = some Builtin.«dict.fromkeys» := entryFor_of_tree (by kernel_rfl)
theorem quiet_fk {as : Args} : (Code.builtin "dict.fromkeys" as).quiet = true := Code.quiet_builtin _ (by decide +kernel)
theorem type_dict : isType (.type "dict") = pure true := by first | rfl | kernel_rfl | (unfold isType; rw [isSubtype_type]; kernel_rfl)
theorem sub_dict : isSubtype (.type "dict") (.type "dict") = pure true := PySem.F.kt_sub_dict
theorem owner_fk : (kfb_private% "ownerAndName") "dict.fromkeys" = ("dict", "fromkeys") := by first | decide +kernel | kernel_rfl
theorem typeCall_dict_0 : checkTypeCall "dict" ⟨[], []⟩ = pure () := by kernel_rfl
theorem newCall_dict_0 : checkBuiltinCall "dict.__new__" ⟨[.type "dict"], []⟩ = pure () := by kernel_rfl
section
variable {prog : Program} {w : World} {M : Model} {A : Around} {E : Value → Shared → Prop} {s : Shared}
theorem run_get {P : PySem.Fin → Shared → Prop} (h : P (.done (.ret (.ref s.heap.objs.size))) { s with heap := s.heap.push bound }) :
  wpAny M A (Builtin.«classmethod_descriptor.__get__» ⟨[.builtin "dict.fromkeys", .none, .type "dict"], []⟩) P E s := by
 unfold Builtin.«classmethod_descriptor.__get__»
 refine wpAny_bind (wpAny_of_eq (a := (.builtin "dict.fromkeys", none, some (.type "dict"))) (by first | rfl | kernel_rfl) ?_)
 simp only [owner_fk]
 refine wpAny_bind (wpAny_of_eq (a := .type "dict") rfl ?_)
 refine wpAny_bind (wpAny_of_eq (a := true) type_dict ?_)
 refine KFB.if_not rfl ?_
 refine wpAny_bind (wpAny_of_eq (a := true) sub_dict ?_)
 refine KFB.if_not rfl ?_
 exact wpAny_bind (wpAny_newObj_type (wpAny_pure h))
theorem getm {K : Frag} {pl : Sem Bool} {Q : Value × List Value → Shared → Prop} (X : K.In s.heap)
  (e : findCls K (.type "dict") (.type "type") (PySem.Str.ofString "fromkeys") = some (.get (.builtin "classmethod_descriptor.__get__") (.builtin "dict.fromkeys") .none (.type "dict")))
  (h : Q (.ref s.heap.objs.size, []) { s with heap := s.heap.push bound, toks := s.toks + 1 }) :
  wpAny (model prog w) A (getMethod (.type "dict") (PySem.Str.ofString "fromkeys") pl) Q E s := by
 have hstub : opaqueClassAbove (.type "dict") = pure none := by unfold opaqueClassAbove; dsimp only; rw [show Manifest.isStub "dict" = false by decide +kernel]; rfl
 have ht : typeOf (.type "dict") = pure (.type "type") := by first | rfl | kernel_rfl
 have L0 : Looks (model prog w) s.heap (typeOf (.type "dict")) (.type "type") := Looks.of_pure ht
 have hg : findIn K (.type "type") "__getattribute__" = some (some (.builtin "type.__getattribute__")) := type_tga
 unfold getMethod specialOf
 refine wpAny_bind (wpAny_bind (L0.here ((looks_findIn X hg).here ?_)))
 dsimp only
 rw [if_pos canon_tga]
 refine wpAny_bind (wpAny_mono (Q := fun v => Q (v, [])) (E := E) ?_ (fun _ _ z => wpAny_pure z) fun _ _ z => z)
 have LO : Looks (model prog w) s.heap (opaqueClassAbove (.type "dict")) none := Looks.of_pure hstub
 refine cls_open X LO L0 hg (looks_hook X (r := none) (by rfl)) (by show subIn K _ _ = _; rfl) e ?_
 show wpAny _ _ (holding [.builtin "dict.fromkeys"] (call (.builtin "classmethod_descriptor.__get__") [.builtin "dict.fromkeys", .none, .type "dict"]) >>= fun v => ret v) _ _ _
 refine wpAny_bind (wpAny_holding (wpAny_call_entry KFB.slot_get type_fk KFB.entry_get (run_get ⟨_, rfl, wpAny_pure (wpAny_pure h)⟩) (KFB.args_get _ _ _)))
noncomputable def StandsAt (x : Addr) (h : Heap) : Prop := h.get? x = some bound
theorem callWith_fields {pos : Pos} {u : Addr} {first : List Value} {args : List (Bool × Sem Value)} {Q : Value → Shared → Prop} (hplain : args.any (·.1) = false)
  (h : wpAny M A (evalArgs (.ref u) true args []) (fun x s₁ => StandsAt u s₁.heap ∧ wpAny M A (call (.ref u) (first ++ x.pos) x.kw) Q E s₁) E s) : wpAny M A (callWith pos (.ref u) first args []) Q E s := by
 unfold callWith
 refine wpAny_bind (wpAny_holding (wpAny_mono h (fun x s₁ h₁ => wpAny_bind (wpAny_standAt ?_)) fun _ _ x => x))
 refine exG0_2 h₁ fun ho hcall => ?_
 rw [hplain]
 refine wpAny_bind (m := keeperOf (.ref u)) ?_
 unfold keeperOf
 refine wpAny_bind (wpAny_load ho ?_)
 simp only [bound, show (Value.type "builtin_function_or_method" != Value.type "method") = true by decide, show (Value.type "builtin_function_or_method" == Value.type "builtin_function_or_method" || Value.type "builtin_function_or_method" == Value.type "method-wrapper") = true by decide, if_true]
 refine wpAny_pure ?_
 exact wpAny_bind (wpAny_mono hcall (fun r s₂ hr => wpAny_bind (wpAny_holding (wpAny_point (wpAny_pure hr)))) fun _ _ x => x)
theorem code_dict_new {Q₁ : Value → Shared → Prop} (h : Q₁ (.ref s.heap.objs.size) { s with heap := s.heap.push { cls := .type "dict", data := .dict #[] } }) :
  codeAny (model prog w) A (.call (.builtin "dict.__new__") ⟨[.type "dict"], []⟩) (wants Q₁ E) s := by
 refine codeAny_call_builtin PySem.F.kt_plain_dict_new PySem.F.kt_entry_dict_new (wpAny_of_eq newCall_dict_0 ?_)
 have hsub := PySem.F.kt_sub_dict
 have hmro := PySem.F.kt_mro_dict
 obtain ⟨hp, g, d, tk, os⟩ := s
 unfold Builtin.«dict.__new__»
 wp_walk
 exact h
variable {K : Type} [DecidableEq K] {knd : KeyKind prog w K}
theorem call_dict0 {Q : Value → Shared → Prop} (h : Q (.ref s.heap.objs.size) { s with heap := s.heap.push { cls := .type "dict", data := .dict #[] } }) :
  wpAny (model prog w) A (call (.type "dict") []) Q E s := by
 refine callType_codes (Q₁ := fun obj s₁ => obj = .ref s.heap.objs.size ∧ s₁ = { s with heap := s.heap.push { cls := .type "dict", data := .dict #[] } }) PySem.F.kt_called_dict typeCall_dict_0 PySem.F.entry_dict_init (code_dict_new ⟨rfl, rfl⟩) ?_
 intro obj s₁ q0q
 obtain ⟨rfl, rfl⟩ := q0q
 have hT : ({ s with heap := s.heap.push { cls := .type "dict", data := .dict #[] } } : Shared).TypeIs (.ref s.heap.objs.size) "dict" := ⟨_, Heap.get?_push_size _ rfl, rfl⟩
 refine ⟨hT, PySem.F.args_dict_init_1 _, ?_⟩
 unfold Builtin.«dict.__init__»
 refine wpAny_bind ?_
 unfold Builtin.Dict.selfAndRest
 refine wpAny_bind (wpAny_notOrdered_dict hT ?_)
 show wpAny _ _ (pure (s.heap.objs.size, [])) _ _ _
 refine wpAny_pure ?_
 exact wpAny_pure ⟨rfl, h⟩
theorem setHashed_pairs {d : Addr} {kvs : List (K × Value)} {k : K} {key v : Value} {Q : Unit → Shared → Prop} (hkey : knd.is k key = true) (hm : s.heap.DictOf knd d kvs)
  (hQ : ∀ h', h'.DictOf knd d (stored kvs k v) → Heap.SameBut d s.heap h' → Q () { s with heap := h' })
  (hsz : kvs.length ≤ sizeLine) :
  wpAny (model prog w) A (dictSetHashed d key (knd.hash k) v) Q E s := by
 refine exG3_6 hm fun o es ep ho hc hd hk hp hn => ?_
 have hes : es.size ≤ sizeLine := by have e1 := hp.length; have e2 : es.toList.length = es.size := (by simp); omega
 unfold dictSetHashed
 try with_reducible refine wpAny_holding ?_
 refine wpAny_bind (wpAny_dictFind_of hkey ho hd hk ?_)
 have hidx : (es.findIdx? fun e => knd.is k e.key) = kvs.findIdx? fun kv => decide (kv.1 = k) := by
  rw [← hp.findIdx k]; obtain ⟨l⟩ := es; simp
 cases hi : es.findIdx? fun e => knd.is k e.key with
 | some i =>
  refine wpAny_bind (wpAny_rule (wpAny_bind (wpAny_updateDict ho hd (wpAny_point (hQ _ ⟨_, _, ep, Heap.get?_update_self _ ho (Obj.isFreed_of_dict (Obj.data_mapDict hd _)),
   hc.mapDict _, Obj.data_mapDict hd _, hk.modify _ _, ?_, ?_⟩ (Heap.SameBut.update ..))))))
  ·rw [stored, if_pos (any_of_findIdx_some (hidx ▸ hi))]
   have hl : (es.toList.findIdx? fun e => knd.is k e.key) = some i := by rw [← hi]; obtain ⟨l⟩ := es; simp
   have := hp.modify hn hl v
   obtain ⟨l⟩ := es
   simpa using this
  ·rw [stored, if_pos (any_of_findIdx_some (hidx ▸ hi)), keys_map_store]; exact hn
 | none =>
  have hnot : k ∉ kvs.map (·.1) := not_mem_of_findIdx_none (hidx ▸ hi)
  have hany : ¬ (kvs.any fun kv => decide (kv.1 = k)) = true := by
   rw [List.any_eq_true]; rintro ⟨kv, hkv, he⟩
   exact hnot (List.mem_map.mpr ⟨kv, hkv, of_decide_eq_true he⟩)
  refine wpAny_bind (wpAny_rule (wpAny_updateDictKeys (hz := hes) ho hd (hQ _ ⟨_, _, ep + 1, Heap.get?_update_self _ ho (Obj.isFreed_of_dict (Obj.data_mapDictKeys hd _)),
   hc.mapDictKeys _, Obj.data_mapDictKeys hd _, hk.push hkey _, ?_, ?_⟩ (Heap.SameBut.update ..))))
  ·rw [stored, if_neg hany]
   have := hp.append hkey (knd.hash k) v
   obtain ⟨l⟩ := es
   simpa using this
  ·rw [stored, if_neg hany, List.map_append, List.nodup_append]
   refine ⟨hn, by simp, ?_⟩
   intro a ha b hb
   simp only [List.map_cons, List.map_nil, List.mem_singleton] at hb
   subst hb
   exact fun e => hnot (e ▸ ha)
theorem run_fk {o : Addr} {kvs : List (K × Value)} {v : Value} {P : PySem.Fin → Shared → Prop} (hoS : (o == sysModules) = false) (ho : s.heap.DictOf knd o kvs) (hsz : kvs.length ≤ 1000)
  (h : ∀ h', h'.DictOf knd s.heap.objs.size (kvs.map fun p => (p.1, v)) → (∀ b ob, s.heap.get? b = some ob → h'.get? b = some ob) → P (.done (.ret (.ref s.heap.objs.size))) { s with heap := h' }) :
  wpAny (model prog w) A (Builtin.«dict.fromkeys» ⟨[.type "dict", .ref o, v], []⟩) P E s := by
 unfold Builtin.«dict.fromkeys»
 refine wpAny_bind (wpAny_of_eq (a := true) type_dict ?_)
 refine KFB.if_not rfl ?_
 refine wpAny_bind (wpAny_of_eq (a := true) sub_dict ?_)
 refine KFB.if_not rfl ?_
 refine KFB.if_not rfl ?_
 refine wpAny_bind (wpAny_pure ?_)
 refine wpAny_bind (call_dict0 ?_)
 have hnew : (s.heap.push { cls := .type "dict", data := .dict #[] }).DictOf knd s.heap.objs.size [] := Heap.DictOf.new s.heap
 have ho' : (s.heap.push { cls := .type "dict", data := .dict #[] }).DictOf knd o kvs := ho.push _
 have hold : ∀ b ob, s.heap.get? b = some ob → (s.heap.push { cls := .type "dict", data := .dict #[] }).get? b = some ob := fun b ob e => Heap.get?_push_of_some _ e
 have hdo : s.heap.objs.size ≠ o := by
  refine exG3_2 ho fun _ _ _ hg _ => ?_
  exact fun e => absurd (Heap.lt_size hg) (by rw [e]; exact Nat.lt_irrefl _)
 have hsz0 : s.heap.get? s.heap.objs.size = none := Heap.get?_none_of_le (Nat.le_refl _)
 generalize s.heap.push { cls := .type "dict", data := .dict #[] } = H at hnew ho' hold ⊢
 generalize s.heap.objs.size = d at hnew hdo hsz0 h ⊢
 refine wpAny_holding ?_
 refine wpAny_bind (wpAny_typeOf ho'.typeIs ?_)
 refine wpAny_bind (wpAny_typeOf hnew.typeIs ?_)
 refine KFB.if_so (by decide) ?_
 refine wpAny_bind (wpAny_rule ?_)
 refine wpAny_bind (m := Dict.addrOf (.ref o)) (wpAny_pure ?_)
 unfold Dict.showsAll
 rw [if_neg (by rw [hoS]; exact Bool.false_ne_true)]
 refine wpAny_bind (wpAny_pure ?_)
 refine exG3_6 ho' fun oo es ep hoo hc hdat hk hp hn => ?_
 refine wpAny_bind (wpAny_dictEpoch hoo hdat ?_)
 refine wpAny_bind (wpAny_dictEntries hoo hdat ?_)
 have hes : es.size = kvs.length := by rw [← hp.length]; simp
 rw [KPc.range_list]
 refine wpAny_bind ?_
 have loop : ∀ (m i : Nat) (s₁ : Shared) , i + m = kvs.length → s₁.gens = s.gens → s₁.drawn = s.drawn → s₁.toks = s.toks → s₁.os = s.os → s₁.heap.DictOf knd d ((kvs.take i).map fun p => (p.1, v)) → s₁.heap.get? o = some oo → (∀ b ob, s.heap.get? b = some ob → s₁.heap.get? b = some ob) →
   wpAny (model prog w) A (forIn (List.range' i m 1) PUnit.unit fun i __s => do
       let __do_lift ← dictEntries o
       match __do_lift[i]? with
        | some e => do
         let __do_lift ← Dict.addrOf (Value.ref d)
         holding [e.key] (dictSetHashed __do_lift e.key e.hash v)
         let __do_lift ← dictEpoch o
         if (__do_lift != ep) = true then do
           unsupported "dict.fromkeys:source-changed-during-callback"
           pure (ForInStep.yield PUnit.unit)
          else pure (ForInStep.yield PUnit.unit)
        | x => do
         unsupported "internal:dict.fromkeys"
         pure (ForInStep.yield PUnit.unit)) (fun _ s' => wpAny (model prog w) A (ret (Value.ref d)) P E s') E s₁ := by
  intro m
  induction m with
  | zero =>
   intro i s₁ hi e1 e2 e3 e4 hd ho1 hk1
   obtain ⟨H1, g1, d1, t1, o1⟩ := s₁
   dsimp only at e1 e2 e3 e4
   subst e1 e2 e3 e4
   refine wpAny_pure (wpAny_pure (h H1 ?_ hk1))
   rw [List.take_of_length_le (by omega)] at hd
   exact hd
  | succ m ih =>
   intro i s₁ hi e1 e2 e3 e4 hd ho1 hk1
   rw [List.range'_succ]
   refine KPc.turn ?_
   refine wpAny_bind (wpAny_dictEntries ho1 hdat ?_)
   have hlt : i < es.size := by omega
   have hlt2 : i < kvs.length := by omega
   rw [Array.getElem?_eq_getElem hlt]
   dsimp only
   refine wpAny_bind (m := Dict.addrOf (.ref d)) (wpAny_pure ?_)
   refine exG0_2 (hp.get? (e := es[i]) (k := kvs[i].1) (v := kvs[i].2) (i := i) (by simp [hlt]) (by simp [hlt2])) fun q1 q2 => ?_
   refine exG1_2 (hk es[i] (Array.getElem_mem hlt)) fun k' hk' hh => ?_
   have : k' = kvs[i].1 := knd.inj _ _ _ hk' q1
   subst this
   rw [hh]
   refine wpAny_bind (wpAny_holding (setHashed_pairs q1 hd (fun h2 hd2 hs2 => ?_) (by rw [List.length_map, List.length_take, sizeLine_eq]; omega)))
   refine wpAny_bind (wpAny_dictEpoch (s := { s₁ with heap := h2 }) (hs2.extBut o oo (Ne.symm hdo) ho1) hdat ?_)
   refine KFB.if_not (by simp) ?_
   refine wpAny_pure ?_
   refine ih (i + 1) { s₁ with heap := h2 } (by omega) e1 e2 e3 e4 ?_ (hs2.extBut o oo (Ne.symm hdo) ho1) fun b ob e => hs2.extBut b ob (fun q => by rw [q, hsz0] at e; k_call_by "c" e) (hk1 b ob e)
   have hnot : ¬ (((kvs.take i).map fun p => (p.1, v)).any fun kv => decide (kv.1 = kvs[i].1)) = true := by
    rw [List.any_eq_true]
    intro q0q
    refine exG1_2 q0q fun kv hkv he => ?_
    refine exG1_2 (List.mem_map.mp hkv) fun p hp2 e => ?_
    subst e
    have he := of_decide_eq_true he
    obtain ⟨j, hj, e⟩ := List.mem_iff_getElem.mp hp2
    rw [List.getElem_take] at e
    rw [List.length_take] at hj
    have hnd := List.pairwise_iff_getElem.mp hn j i (by rw [List.length_map]; omega) (by rw [List.length_map]; omega) (by omega)
    apply hnd
    rw [List.getElem_map, List.getElem_map, e, he]
   rw [stored, if_neg hnot] at hd2
   rw [List.take_succ_eq_append_getElem hlt2, List.map_append]
   exact hd2
 have e0 : List.range' 0 es.size 1 = List.range' 0 kvs.length 1 := by rw [hes]
 rw [e0]
 exact loop kvs.length 0 { s with heap := H } (by omega) rfl rfl rfl rfl (by simpa using hnew) hoo hold
end
end Fk
section
variable {g : Gx} {S : Sc} {md : Md} {n : Nat} {C : Cx} {st st' : St} {s : Shared}
theorem check_fk {a b : Value} : checkBoundCall "dict.fromkeys" ⟨[.type "dict", a, b], []⟩ = pure () := by first | kernel_rfl | rfl
noncomputable def fromkeysM (vs : List V) : M V := fun Q _ st => match vs with
 | [.ref a, v] => (match st.μ a with
  | some (.dict es _) => es.length ≤ 1000 ∧ ∀ b, st.μ b = none → ∀ ep, Q (.ref b) (st.put b (.dict (es.map fun p => (p.1, v)) ep))
  | _ => False)
 | _ => False
theorem ref_FromKeys {p : M (List V)} {e1 e2 : Expr} {p0 p1 pos : Pos} {pl : Env → Sem Bool} (b : Blt g S "dict" (.type "dict")) (hp : RefX g S md n p [e1, e2])
  (hf : findCls g.K (.type "dict") (.type "type") (PySem.Str.ofString "fromkeys") = some (.get (.builtin "classmethod_descriptor.__get__") (.builtin "dict.fromkeys") .none (.type "dict")))
  (he : ∀ env, eval (.Call (.Attribute (.Name "dict" p0) "fromkeys" p1) [e1, e2] [] pos) env = (do
   let ov ← eval (.Name "dict" p0) env
   standAt p1.atName
   let (f, first) ← holding [ov] (getMethod ov "fromkeys" (pl env))
   callWith pos f first (backTo pos (starEach [e1, e2] env)) []) := by intro _; rfl)
  (he2 : ∀ env, starEach [e1, e2] env = (false, eval e1 env) :: starEach [e2] env := by intro _; rfl) (hpl : ∀ env, (backTo pos (starEach [e2] env)).any (·.1) = false := by intro _; rfl) :
  RefE g S md n (mbind p fromkeysM) (.Call (.Attribute (.Name "dict" p0) "fromkeys" p1) [e1, e2] [] pos) := by
 intro C Y st s Q X sx h
 refine MethodCall_ (pl := pl C.env) (b.run Y sx ?_) (he _)
 refine Fk.getm (Y.here sx).kin hf ?_
 have x1 : Sim g C st { s with heap := s.heap.push Fk.bound, toks := s.toks + 1 } := sx.grow fun _ _ e => Heap.get?_push_of_some _ e
 have hb1 : (s.heap.push Fk.bound).get? s.heap.objs.size = some Fk.bound := Heap.get?_push_size _ rfl
 have hoff : Off C s.heap.objs.size := sx.off_new (Heap.get?_none_of_le (Nat.le_refl _))
 have hmu := sx.fresh
 generalize s.heap.push Fk.bound = H at x1 hb1 ⊢
 generalize s.heap.objs.size = u at hb1 hoff hmu ⊢
 rw [he2]
 refine Fk.callWith_fields (by show (false || (backTo pos (starEach [e2] C.env)).any (·.1)) = false; rw [hpl]; rfl) (evalArgs_plain ?_)
 have hspl := keep_run (P := (· = u)) (hp pos) Y x1 (fun c hc => hc ▸ ⟨hoff, hmu⟩) h
 dsimp only at hspl
 rw [he2] at hspl
 refine wpAny_mono hspl (fun vs s2 z0 => ?_) fun _ _ e => e
 refine exG2_5 z0 fun us st2 ev x2 h2 _ k2 => ?_
 have hb2 : s2.heap.get? u = some Fk.bound := k2 u _ rfl hb1
 refine ⟨hb2, ?_⟩
 unfold fromkeysM at h2
 split at h2
 ·rename_i a v
  refine exG2_3 (map2 ev) fun va vv r1 q1 q2 => ?_
  obtain rfl := r1
  rw [er_ref q1]
  split at h2
  ·rename_i es ep hm
   refine exG0_2 (dict_in x2 hm) fun hs r2 => ?_
   refine exG1_2 r2 fun kvs hd e => ?_
   have hl : es.length = kvs.length := by rw [← e]; simp
   refine wpAny_call (codeAny_of_tree ?_)
   show wpAny _ C.A.in1 (callAny (.ref u) ⟨[.ref a, vv], []⟩) _ _ s2
   simp only [callAny]
   refine wpAny_bind (wpAny_load hb2 ?_)
   simp only [Fk.bound, show (Value.type "builtin_function_or_method" == Value.type "method" || Value.type "builtin_function_or_method" == Value.type "builtin_function_or_method" || Value.type "builtin_function_or_method" == Value.type "method-wrapper") = true by decide, if_true]
   refine KFB.if_so (by decide) ?_
   refine wpAny_bind (wpAny_of_eq (a := ()) check_fk ?_)
   refine wpAny_bind (wpAny_pure (wpAny_pure ?_))
   refine ⟨Fk.quiet_fk, codeAny_builtin Fk.entry_fk (Fk.run_fk (knd := PySem.strKind g.prog g.w) hs hd.dictOf (by omega) fun h' hd' hk' => ?_)⟩
   refine exG3_4 hd' fun ob es' ep' z1 z2 z3 z4 => ?_
   refine ⟨.ref s2.heap.objs.size, st2.put s2.heap.objs.size (.dict (es.map fun p => (p.1, v)) ep'), rfl, x2.new (tk := s2.toks) (o := .dict (es.map fun p => (p.1, v)) ep') (Heap.get?_none_of_le (Nat.le_refl _)) hk' ⟨Y.low x2, _, ⟨ob, es', z1, z2, z3, z4⟩, ?_⟩, h2.2 _ x2.fresh ep'⟩
   rw [List.map_map, ← e, List.map_map]
   apply List.map_congr_left
   intro p _
   simp only [Function.comp, q2]
  ·exact h2.elim
 ·exact h2.elim
end
end Kk
end
section
namespace Kk
variable {g : Gx} {S : Sc} {md : Md} {n : Nat} {C : Cx} {st st' : St} {s : Shared} {h' : Heap} {tk : Nat} {α β γ δ : Type}
theorem codeAll_mem {h : Heap} : ∀ {tabs : List (Addr × Addr)}, CodeAll tabs h → ∀ q ∈ tabs, CodeHd h q.1 q.2
 | [], _, q, hq => nomatch hq
 | t :: r, x, q, hq => by
  rcases List.mem_cons.mp hq with rfl | hq
  ·exact x.1
  ·exact codeAll_mem x.2 q hq
theorem built_at (Y : Ok g S md n C) (x : Sim g C st s) {P : Addr} {ps : Array Value} (hP : s.heap.get? P = some (tabObj ps)) : mainGlobals ≠ P ∧ s.heap.BuiltinsAt g.mg P := by
 have T := (Y.here x).top
 refine exG2_6 T.bmain fun bm ob b1 b2 b3 b4 b5 b6 => ?_
 refine ⟨fun q => ?_, bm, ob, b1, b2, fun q => ?_, fun q => ?_, b3, b4, b5, b6⟩
 ·refine exG3_3 T.g fun o es ep e hd _ => ?_
  rw [q, hP] at e; k_call_by "c" e; k_call_by "c" hd
 ·refine exG3_3 T.g fun o es ep e hd _ => ?_
  rw [q, e] at b3; k_call_by "c" b3; rw [hd] at b6; k_call_by "c" b6
 ·rw [q, hP] at b3; k_call_by "c" b3; k_call_by "c" b4
theorem Sim.tabGrow (x : Sim g C st s) (Y : Ok g S md n C) {P : Addr} {b : Bool} {ps : Array Value} (hm : st.μ P = some (.tab b)) (hx : Heap.ExtBut P s.heap h') (hp : h'.get? P = some (tabObj ps)) (ht : TriplesOk ps.toList) :
  Sim g C (st.put P (.tab false)) { s with heap := h', toks := tk } :=
 x.change Y hm hx ⟨ps, hp, ht, fun e => nomatch e⟩
noncomputable def lamM (P : Addr) (v : V) : M V := fun Q _ st => (∃ b, st.μ P = some (.tab b)) ∧ ∀ f, st.μ f = none → Q (.ref f) (st.put P (.tab false))
theorem ref_Lambda {p : M V} {params : Arguments} {d0 body : Expr} {scope : Scope} {pos : Pos} {c P : Addr} (hcode : S.code = some c) (hP : (c, P) ∈ g.tabs) (hfree : ∀ x ∈ scope.names, x.2 ≠ .free) (h : RefE g S md n p d0)
  (hdef : ∀ env, defaultsOf params env = (evalEach [d0] env, []) := by intro _; rfl) (hee : ∀ env, evalEach [d0] env = [eval d0 env] := by intro _; rfl) :
  RefE g S md n (mbind p (lamM P)) (.Lambda params body scope pos) := by
 intro C Y st s Q X x hp
 rw [arm_eval_Lambda, hdef, hee]
 refine wpAny_bind (PySem.wpAny_evalAll_cons (h.use Y x hp fun v va st1 s1 ev x1 h1 => PySem.wpAny_evalAll_nil ?_))
 refine wpAny_bind (wpAny_holding (wpAny_pure ?_))
 refine exG0_2 h1 fun r1 hq => ?_
 obtain ⟨b, hm⟩ := r1
 rw [makeFunction_eq]
 simp only [List.isEmpty_cons, Bool.false_eq_true, if_false, List.zip_nil_right, List.filterMap_nil, List.isEmpty_nil, if_true, pure_bind]
 refine wpAny_bind (wpAny_newTextTuple ?_)
 have x2 : Sim g C st1 { s1 with heap := s1.heap.push { cls := .type "tuple", data := .seq ([va] : List Value).toArray } } := x1.grow (tk := s1.toks) fun _ _ e => Heap.get?_push_of_some _ e
 generalize s1.heap.push { cls := .type "tuple", data := .seq ([va] : List Value).toArray } = H at x2 ⊢
 generalize s1.heap.objs.size = dV at *
 refine exG1_3 ((x2.objs P _ hm).1) fun ps hps ht _ => ?_
 refine exG0_2 (built_at Y x2 hps) fun hgP hb => ?_
 have hC : CodeHd H c P := codeAll_mem (Y.here x2).codes (c, P) hP
 have hn : (st1.put P (.tab false)).μ = upd st1.μ P (.tab false) := rfl
 have fin : ∀ (h2 : Heap) (tk : Tok), Sim g C (st1.put P (.tab false)) { s1 with heap := h2, toks := tk } → ∀ ob, Post g C VR Q (.ref h2.objs.size) { s1 with heap := h2.push ob, toks := tk } := fun h2 tk x3 ob => by
  refine ⟨.ref h2.objs.size, st1.put P (.tab false), rfl, x3.grow (tk := tk) (fun _ _ e => Heap.get?_push_of_some _ e), hq _ ?_⟩
  have := x3.fresh
  rw [hn] at this
  unfold upd at this
  dsimp only at this
  split at this
  ·k_call_by "c" this
  ·exact this
 cases hca : codeAmong pos ps.toList with
 | none =>
  refine kdv_makeTail (dV := .ref dV) (closureFor_none hfree) Y.glob (Y.here x2).top.g (Y.code c hcode) hC hps ht hca hgP hb fun c' ctv doc h2 tk hx hge hlt hrec htb => ?_
  refine fin h2 tk (x2.tabGrow (tk := tk) Y hm hx htb ?_) _
  have : (ps ++ #[rawInt pos.line, rawInt pos.col, .ref c']).toList = ps.toList ++ [rawInt pos.line, rawInt pos.col, .ref c'] := by simp
  rw [this]
  exact TriplesOk_snoc _ _ _ _ ht
 | some cv =>
  refine kdv_makeTailHit (dV := .ref dV) (closureFor_none hfree) Y.glob (Y.here x2).top.g (Y.code c hcode) hC hps ht hca hb fun ctv doc h2 tk hk hge => ?_
  have x3 : Sim g C st1 { s1 with heap := h2, toks := tk } := x2.grow hk
  refine fin h2 tk ?_ _
  exact x3.adopt (x2.objs P _ hm).2 ⟨ps, hk _ _ hps, ht, fun e => nomatch e⟩
end Kk
end
section
namespace Kk
variable {g : Gx} {S : Sc} {md : Md} {n : Nat} {C : Cx} {st st' : St} {s : Shared} {h' : Heap} {tk : Nat} {α β γ δ : Type}
noncomputable def arrowM (a b : V) : M V := fun Q _ st => match a, b with
 | .str y, .ref l => (match st.μ l with
   | some (.list xs) => ∃ ys : List Str, xs = ys.map .str ∧ y.length ≤ 1000 ∧ (PyData.list (ys.map .str)).shown.length ≤ 1000 ∧ Q (.str (arrowText y ys)) st
   | _ => False)
 | _, _ => False
noncomputable def strM (a : V) : M Unit := fun Q _ st => match a with | .str y => y.length ≤ 1000 ∧ Q () st | _ => False
theorem field_str {y : Str} {t : Tok} {K : Value → Shared → Prop} {E : Value → Shared → Prop} (x : Sim g C st s) (hy : y.length ≤ 1000) (h : ∀ u s', Sim g C st s' → K (.str y u) s') : wpAny (model g.prog g.w) C.A (formatField (.str y t) Str.empty) K E s :=
 wpAny_formatField_str (h _ _ x) (h _ _ x.tick) (Nat.le_trans hy sizeL)
theorem conv_str {y : Str} {t : Tok} {K : Value → Shared → Prop} {E : Value → Shared → Prop} (x : Sim g C st s) (hy : y.length ≤ 1000) (h : ∀ u s', Sim g C st s' → K (.str y u) s') : wpAny (model g.prog g.w) C.A (convS (.str y t)) (fun r s2 => wpAny (model g.prog g.w) C.A (formatField r Str.empty) K E s2) E s := by
 show wpAny _ _ (habitSame "fstring-hands-on-the-str" (.str y t)) _ _ s
 exact wpAny_habitSame_str (field_str x hy h) (field_str x.tick hy h) (Nat.le_trans hy sizeL)
theorem ref_Arrow {p q : M V} {e1 e2 : Expr} {k : Nat} {p1 p2 p3 pos : Pos} (h1 : RefE g S md n p e1) (h2 : RefE g S md n q e2) :
  RefE g S md n (mbind p fun a => mbind (strM a) fun _ => mbind q fun b => arrowM a b) (.JoinedStr [.FormattedValue e1 115 none p1, .Constant (.str " -> ") k p2, .FormattedValue e2 115 none p3] pos) := by
 intro C Y st s Q X sx hp
 refine wpAny_JoinedStr (wpAny_FormattedValue_s (h1.use Y sx hp fun a va st1 s1 ea x1 q1 => ?_))
 induction a with
 | str y =>
  obtain ⟨zy, q1⟩ : y.length ≤ 1000 ∧ q (fun b => arrowM (.str y) b Q X) X st1 := q1
  obtain ⟨t, rfl⟩ := er_str ea
  refine conv_str x1 zy fun u s2 x2 => ?_
  refine ⟨y, u, rfl, ?_, ?_⟩
  ·rw [cat_len]; exact Nat.le_trans (by show 0 + y.length ≤ 1000; omega) sizeL
  refine wpAny_Constant_str ⟨_, _, rfl, ?_, ?_⟩
  ·rw [cat_len, cat_len]; exact Nat.le_trans (by show 0 + y.length + 4 ≤ 1004; omega) (by rw [sizeLine_eq]; omega)
  refine wpAny_FormattedValue_s (h2.use Y x2.tick q1 fun b vb st3 s3 eb x3 q3 => ?_)
  induction b with
  | ref l =>
   rw [er_ref eb]
   have q3 : (match st3.μ l with
    | some (.list xs) => ∃ ys : List Str, xs = ys.map .str ∧ y.length ≤ 1000 ∧ (PyData.list (ys.map .str)).shown.length ≤ 1000 ∧ Q (.str (arrowText y ys)) st3
    | _ => False) := q3
   split at q3
   ·rename_i xs hl
    revert q3; refine fun oO => exG1_4 oO fun ys r1 _ hd q3 => ?_
    obtain rfl := r1
    refine exG1_1 ((Rd.list hl (rd_strs ys)).reads x3 (.ref l) rfl) fun as rr => ?_
    refine exG0_3 (strs_show ys) fun s1' s2' s3' => ?_
    refine convS_of_reads rr (by simp only [PyData.showable]; exact s1') (by simp only [PyData.hasDict, s2']; intro q; k_call_by "c" q) Y.guards (by
     have := Y.units
     simp only [PyData.depth, s3']
     unfold cLine; omega) (fun _ _ e => e) (fun h' u' tk hk => ?_) (Nat.le_trans hd sizeL)
    refine field_str (x3.grow (tk := tk) hk) hd fun u2 s4 x4 => ?_
    have hlen : (Str.empty ++ y ++ (" -> " : Str) ++ (PyData.list (ys.map .str)).shown).length ≤ sizeLine := by
     rw [cat_len, cat_len, cat_len, sizeLine_eq]
     have : (Str.empty).length = 0 := rfl
     have : ((" -> " : Str)).length = 4 := by decide +kernel
     omega
    refine ⟨_, _, rfl, hlen, hlen, ?_⟩
    rw [KPc.empty_app]
    exact ⟨_, _, rfl, x4.tick, q3⟩
   ·exact q3.elim
  | _ => exact False.elim q3
 | _ => exact False.elim q1
end Kk
end
section
namespace Kk
variable {g : Gx} {S : Sc} {md : Md} {n : Nat}
noncomputable def plainE : Expr → Bool | .Starred .. => false | _ => true
theorem star_of {e : Expr} {r : List Expr} {env : Env} (h : plainE e = true) : starEach (e :: r) env = (false, eval e env) :: starEach r env := by
 cases (e) <;> first | rfl | k_call_by "c" h
theorem refX_c {p : M V} {q : M (List V)} {e : Expr} {r : List Expr} (h : RefE g S md n p e) (hr : RefX g S md n q r) (he : plainE e = true := by rfl) :
  RefX g S md n (mbind p fun v => mbind q fun vs => mret (v :: vs)) (e :: r) := refX_cons h hr fun _ => star_of he
end Kk
end
section
namespace Kk
variable {g : Gx} {S : Sc} {md : Md} {n : Nat}
variable {target elt iter : Expr} {ifs : List Expr} {scope : Scope} {pos : Pos} {psrc : M Src} {asg : List V → M Unit} {pt : M Bool} {pe : M V}
structure RE (g : Gx) (S : Sc) (md : Md) (n : Nat) (p : M V) (e : Expr) : Prop where ok : RefE g S md n p e
structure RX (g : Gx) (S : Sc) (md : Md) (n : Nat) (p : M (List V)) (e : List Expr) : Prop where ok : RefX g S md n p e
structure RT (g : Gx) (S : Sc) (md : Md) (n : Nat) (p : M Bool) (e : Expr) : Prop where ok : RefT g S md n p e
structure RS (g : Gx) (S : Sc) (md : Md) (n : Nat) (p : M Fl) (e : Stmt) : Prop where ok : RefS g S md n p e
structure RB (g : Gx) (S : Sc) (md : Md) (n : Nat) (p : M Fl) (e : List Stmt) : Prop where ok : RefB g S md n p e
structure RIt (g : Gx) (S : Sc) (md : Md) (n : Nat) (p : M Src) (e : Expr) : Prop where ok : RefIt g S md n p e
structure RTs (g : Gx) (S : Sc) (md : Md) (n : Nat) (p : M Bool) (e : List Expr) : Prop where ok : RefTs g S md n p e
structure RP (g : Gx) (S : Sc) (md : Md) (n : Nat) (p : M (Option Int)) (e : Option Expr) : Prop where ok : RefP g S md n p e
structure RA (g : Gx) (S : Sc) (md : Md) (n : Nat) (op : BoolOp) (p : M Bool) (e : List Expr) : Prop where ok : RefAll g S md n op p e
theorem w_Name {x : Str} {pos : Pos} (hv : varOk S.sc x = true) : RE g S md n (locM x) (.Name x pos) := ⟨ref_Name hv⟩
theorem w_Int {i : Int} {k pos} : RE g S md n (mret (.int i)) (.Constant (.int i) k pos) := ⟨ref_Int ⟩
theorem w_Str {i : Str} {k pos} : RE g S md n (mret (.str i)) (.Constant (.str i) k pos) := ⟨ref_Str ⟩
theorem w_None {k pos} : RE g S md n (mret .none) (.Constant .none k pos) := ⟨ref_None ⟩
theorem w_Bool {b k pos} : RE g S md n (mret (.bool b)) (.Constant (.bool b) k pos) := ⟨ref_Bool ⟩
theorem w_nil  : RB g S md n (mret .next) [] := ⟨ref_nil ⟩
theorem w_cons {p q : M Fl} {a : Stmt} {r : List Stmt} (ha : RS g S md n p a) (hr : RB g S md n q r) : RB g S md n (mseq p q) (a :: r) := ⟨ref_cons ha.ok hr.ok⟩
theorem w_one {p : M Fl} {a : Stmt} (ha : RS g S md n p a) : RB g S md n p [a] := ⟨ref_one ha.ok⟩
theorem w_If {c : M Bool} {p q : M Fl} {t : Expr} {b o : List Stmt} {pos : Pos} (hc : RT g S md n c t) (hb : RB g S md n p b) (ho : RB g S md n q o) : RS g S md n (mif c p q) (.If t b o pos) := ⟨ref_If hc.ok hb.ok ho.ok⟩
theorem w_IfExp {c : M Bool} {p q : M V} {t b o : Expr} {pos : Pos} (hc : RT g S md n c t) (hb : RE g S md n p b) (ho : RE g S md n q o) : RE g S md n (mif c p q) (.IfExp t b o pos) := ⟨ref_IfExp hc.ok hb.ok ho.ok⟩
theorem w_Return {p : M V} {e : Expr} {pos : Pos} (h : RE g S md n p e) : RS g S md n (mbind p fun v => mret (.ret v)) (.Return (some e) pos) := ⟨ref_Return h.ok⟩
theorem w_Continue {pos : Pos} : RS g S md n (mret .cont) (.Continue pos) := ⟨ref_Continue ⟩
theorem w_Expr {p : M V} {e : Expr} {pos : Pos} (h : RE g S md n p e) (hs : ∀ env, swapsWith e none pos.line env = pure false := by intro _; rfl) : RS g S md n (mbind p fun _ => mret .next) (.Expr e pos) := ⟨ref_Expr h.ok hs⟩
theorem w_Assign {p : M V} {e : Expr} {x : Str} {px pos : Pos} (hv : stOk S x = true) (h : RE g S md n p e) (hs : ∀ env : Env, env.scope = S.sc → swapsWith e (some (.Name x px)) pos.line env = pure false) : RS g S md n (assignM x p) (.Assign [.Name x px] e pos) := ⟨ref_Assign hv h.ok hs⟩
theorem w_T_Not {c : M Bool} {t : Expr} {pos : Pos} (hc : RT g S md n c t) : RT g S md n (mbind c fun b => mret (!b)) (.UnaryOp .Not t pos) := ⟨ref_T_Not hc.ok⟩
theorem w_And_nil  : RA g S md n .And (mret true) [] := ⟨ref_And_nil ⟩
theorem w_Or_nil  : RA g S md n .Or (mret false) [] := ⟨ref_Or_nil ⟩
theorem w_And_cons {c d : M Bool} {t : Expr} {r : List Expr} (hc : RT g S md n c t) (hd : RA g S md n .And d r) : RA g S md n .And (mif c d (mret false)) (t :: r) := ⟨ref_And_cons hc.ok hd.ok⟩
theorem w_Or_cons {c d : M Bool} {t : Expr} {r : List Expr} (hc : RT g S md n c t) (hd : RA g S md n .Or d r) : RA g S md n .Or (mif c (mret true) d) (t :: r) := ⟨ref_Or_cons hc.ok hd.ok⟩
theorem w_T_BoolOp {op : BoolOp} {c : M Bool} {ts : List Expr} {pos : Pos} (hc : RA g S md n op c ts) : RT g S md n c (.BoolOp op ts pos) := ⟨ref_T_BoolOp hc.ok⟩
theorem w_Compare {op : CmpOp} {p q : M V} {l r : Expr} {pos : Pos} (hl : RE g S md n p l) (hr : RE g S md n q r) (hm : behindInMarks op r = false := by with_unfolding_all rfl) : RE g S md n (mbind p fun a => mbind q fun b => mbind (cmpM op a b) fun c => mret (.bool c)) (.Compare l [op] [r] pos) := ⟨ref_Compare hl.ok hr.ok hm⟩
theorem w_T_Compare {op : CmpOp} {p q : M V} {l r : Expr} {pos : Pos} (hl : RE g S md n p l) (hr : RE g S md n q r) (hm : behindInMarks op r = false := by with_unfolding_all rfl) : RT g S md n (mbind p fun a => mbind q fun b => cmpM op a b) (.Compare l [op] [r] pos) := ⟨ref_T_Compare hl.ok hr.ok hm⟩
theorem w_T_value {p : M V} {e : Expr} (h : RE g S md n p e) (he : ∀ env whole, isTrue e env whole = (do let v ← whole; standAt e.pos; holding [v] (truthy v)) := by intro _ _; rfl) : RT g S md n (mbind p truthM) e := ⟨ref_T_value h.ok he⟩
theorem w_Attribute {c : Addr} {nm : Str} {p : M V} {e : Expr} {pos : Pos} (hB : attrB g.K c nm = true) (h : RE g S md n p e) (he : ∀ env, eval (.Attribute e nm pos) env = (do
   let o ← eval e env
   standAt pos.atName
   let r ← holding [o] (getAttr o nm true)
   letTemporaryGo e o r
   pure r) := by intro _; with_unfolding_all rfl) : RE g S md n (mbind p (attrM c nm)) (.Attribute e nm pos) := ⟨ref_Attribute hB h.ok he⟩
theorem w_AssignAttr {c : Addr} {nm : Str} {p q : M V} {o e : Expr} {apos pos : Pos} (hB : setB g.K c nm = true) (hv : RE g S md n p e) (ho : RE g S md n q o) (hs : ∀ env, swapsWith e (some (.Attribute o nm apos)) pos.line env = pure false := by intro _; rfl) : RS g S md n (mbind p fun v => mbind q fun a => mbind (setAttrM c nm a v) fun _ => mret .next) (.Assign [.Attribute o nm apos] e pos) := ⟨ref_AssignAttr hB hv.ok ho.ok hs⟩
theorem wX_nil  : RX g S md n (mret []) [] := ⟨refX_nil ⟩
theorem wX_c {p : M V} {q : M (List V)} {e : Expr} {r : List Expr} (h : RE g S md n p e) (hr : RX g S md n q r) (he : plainE e = true := by rfl) : RX g S md n (mbind p fun v => mbind q fun vs => mret (v :: vs)) (e :: r) := ⟨refX_c h.ok hr.ok he⟩
theorem w_Tuple {p : M (List V)} {es : List Expr} {k : Nat} {pos : Pos} (h : RX g S md n p es) : RE g S md n (mbind p tupM) (.Tuple es k pos) := ⟨ref_Tuple h.ok⟩
theorem w_List {p : M (List V)} {es : List Expr} {pos : Pos} (h : RX g S md n p es) : RE g S md n (mbind p listM) (.List es pos) := ⟨ref_List h.ok⟩
theorem w_BinOp {op : Operator} {p q : M V} {l r : Expr} {pos : Pos} (hl : RE g S md n p l) (hr : RE g S md n q r) : RE g S md n (mbind p fun a => mbind q fun b => binM op a b) (.BinOp l op r pos) := ⟨ref_BinOp hl.ok hr.ok⟩
theorem w_USub {p : M V} {e : Expr} {pos : Pos} (h : RE g S md n p e) : RE g S md n (mbind p fun a Q _ st => match a with | .int i => Q (.int (-i)) st | _ => False) (.UnaryOp .USub e pos) := ⟨ref_USub h.ok⟩
theorem w_AugName {op : Operator} {x : Str} {p : M V} {e : Expr} {px pos : Pos} (hv : varOk S.sc x = true) (hs : stOk S x = true) (h : RE g S md n p e) : RS g S md n (mbind (locM x) fun a => mbind p fun b => mbind (iopM op a b) fun r => mbind (setM x r) fun _ => mret .next) (.AugAssign (.Name x px) op e pos) := ⟨ref_AugName hv hs h.ok⟩
theorem w_seq {p : M V} {iter : Expr} (hm : md ≠ .hand) (h : RE g S md n p iter) : RIt g S md n (mbind p seqM) iter := ⟨ref_seq hm h.ok⟩
theorem w_range {p : M V} {e : Expr} {px pos : Pos} (hm : md ≠ .hand) (b : Blt g S "range" (.type "range")) (h : RE g S md n p e) (he : ∀ env, starEach [e] env = (false, eval e env) :: starEach [] env := by intro _; rfl) : RIt g S md n (mbind p rngM) (.Call (.Name "range" px) [e] [] pos) := ⟨ref_range hm b h.ok he⟩
theorem w_enum {p : M V} {e : Expr} {px pos : Pos} (hm : md ≠ .hand) (b : Blt g S "enumerate" (.type "enumerate")) (h : RE g S md n p e) (he : ∀ env, starEach [e] env = (false, eval e env) :: starEach [] env := by intro _; rfl) : RIt g S md n (mbind p enM) (.Call (.Name "enumerate" px) [e] [] pos) := ⟨ref_enum hm b h.ok he⟩
theorem w_For {p : M Src} {target iter : Expr} {asg : List V → M Unit} {pb pe : M Fl} {body orelse : List Stmt} {pos : Pos} (h : RIt g S .fn n p iter) (T : TgOk g S .fn n target asg) (hb : RB g S .fn n pb body) (he : RB g S .fn n pe orelse) (hs : ∀ env x, foldedSetIterable iter env x = pure x := by intro _ _; rfl) : RS g S .fn n (mbind p (loopM asg pb pe)) (.For target iter body orelse pos) := ⟨ref_For h.ok T hb.ok he.ok hs⟩
theorem w_Subscript {p q : M V} {v i : Expr} {pos : Pos} (hm : md ≠ .hand) (hv : RE g S md n p v) (hi : RE g S md n q i) (hs : ∀ o k, subscripted i false o k = operate [o, k] (getItem o k) := by intro _ _; rfl) : RE g S md n (mbind p fun a => mbind q fun b => idxM a b) (.Subscript v i pos) := ⟨ref_Subscript hm hv.ok hi.ok hs⟩
theorem wP_none  : RP g S md n (mret none) none := ⟨refP_none ⟩
theorem wP_some {p : M V} {e : Expr} (h : RE g S md n p e) : RP g S md n (mbind p fun v Q _ st => match v with | .int i => Q (some i) st | _ => False) (some e) := ⟨refP_some h.ok⟩
theorem w_Slice {p : M V} {pl pu : M (Option Int)} {v : Expr} {lo hi : Option Expr} {p1 pos : Pos} (hv : RE g S md n p v) (hl : RP g S md n pl lo) (hu : RP g S md n pu hi) : RE g S md n (mbind p fun o => mbind pl fun a => mbind pu fun b => sliceM o a b) (.Subscript v (.Slice lo hi none p1) pos) := ⟨ref_Slice hv.ok hl.ok hu.ok⟩
theorem w_AssignSub {p q r : M V} {o i e : Expr} {p1 pos : Pos} (hv : RE g S md n p e) (ho : RE g S md n q o) (hi : RE g S md n r i) (hs : ∀ env, swapsWith e (some (.Subscript o i p1)) pos.line env = pure false := by intro _; rfl) : RS g S md n (mbind p fun v => mbind q fun a => mbind r fun k => mbind (setItemM a k v) fun _ => mret .next) (.Assign [.Subscript o i p1] e pos) := ⟨ref_AssignSub hv.ok ho.ok hi.ok hs⟩
theorem w_AugSub {op : Operator} {p q r : M V} {o i e : Expr} {p1 pos : Pos} (hm : md ≠ .hand) (ho : RE g S md n q o) (hi : RE g S md n r i) (hv : RE g S md n p e) (ha : ∀ ov iv new, augStore i ov iv new = (do holding [new, ov, iv] (setItem ov iv new); release [new, ov, iv] []; pure .next) := by intro _ _ _; rfl) : RS g S md n (mbind q fun a => mbind r fun k => mbind (idxM a k) fun old => mbind p fun v => mbind (iopM op old v) fun new => mbind (setItemM a k new) fun _ => mret .next) (.AugAssign (.Subscript o i p1) op e pos) := ⟨ref_AugSub hm ho.ok hi.ok hv.ok ha⟩
theorem w_DelLast {p : M V} {pl : M (Option Int)} {o : Expr} {lo : Expr} {p1 p2 pos : Pos} (ho : RE g S md n p o) (hl : RP g S md n pl (some lo)) : RS g S md n (mbind p fun a => mbind pl fun l => fun Q X st => l = some (-2) ∧ delLastM a (fun _ st' => Q .next st') X st) (.Delete [.Subscript o (.Slice (some lo) none none p1) p2] pos) := ⟨ref_DelLast ho.ok hl.ok⟩
theorem w_While {t : M Bool} {pb pe : M Fl} {test : Expr} {body orelse : List Stmt} {pos : Pos} (ht : RT g S .fn n t test) (hb : RB g S .fn n pb body) (he : RB g S .fn n pe orelse) : RS g S .fn n (whileM t pb pe) (.While test body orelse pos) := ⟨ref_While ht.ok hb.ok he.ok⟩
theorem w_AssertHolds {t : M Bool} {test : Expr} {msg : Option Expr} {pos : Pos} (ht : RT g S md n t test) : RS g S md n (mbind t fun b Q _ st => b = true ∧ Q .next st) (.Assert test msg pos) := ⟨ref_AssertHolds ht.ok⟩
theorem w_TryKey {pb ph : M Fl} {body : List Stmt} {b₀ : Stmt} {suite : List Stmt} {tp hp pos : Pos} (hb : RB g S .fn n pb body) (hh : RB g S .hand n ph (b₀ :: suite)) (bl : Blt g S "KeyError" (.type "KeyError")) : RS g S .fn n (tryKeyM pb ph) (.Try body [.ExceptHandler (some (.Name "KeyError" tp)) none (b₀ :: suite) hp] [] [] pos) := ⟨ref_TryKey hb.ok hh.ok bl⟩
theorem w_CallB {x : Str} {id : String} {p : M (List V)} {f : List V → M V} {e : Expr} {r : List Expr} {px pos : Pos} (b : Blt g S x (.builtin id)) (hp : RX g S md n p (e :: r)) (hc : CallV g md n (.builtin id) f) (he : ∀ env, starEach (e :: r) env = (false, eval e env) :: starEach r env := by intro _; rfl) (hpl : ∀ env, (backTo pos (starEach r env)).any (·.1) = false := by intro _; rfl) : RE g S md n (mbind p f) (.Call (.Name x px) (e :: r) [] pos) := ⟨ref_CallB b hp.ok hc he hpl⟩
theorem w_CallT {x : Str} {T : String} {p : M (List V)} {f : List V → M V} {e : Expr} {r : List Expr} {px pos : Pos} (b : Blt g S x (.type T)) (hp : RX g S md n p (e :: r)) (hc : CallV g md n (.type T) f) (he : ∀ env, starEach (e :: r) env = (false, eval e env) :: starEach r env := by intro _; rfl) (hpl : ∀ env, (backTo pos (starEach r env)).any (·.1) = false := by intro _; rfl) : RE g S md n (mbind p f) (.Call (.Name x px) (e :: r) [] pos) := ⟨ref_CallT b hp.ok hc he hpl⟩
theorem w_CallT0 {x : Str} {T : String} {f : List V → M V} {px pos : Pos} (b : Blt g S x (.type T)) (hc : CallV g md n (.type T) f) : RE g S md n (f []) (.Call (.Name x px) [] [] pos) := ⟨ref_CallT0 b hc⟩
theorem w_Meth1 {k : Kd} {name : Str} {id : String} {p : M V} {q : M (List V)} {f : List V → M V} {o e : Expr} {r : List Expr} {apos pos : Pos} {pl : Env → Sem Bool} (slot : Slot k.ty name id) (hty : typeOf (.builtin id) = pure (.type "method_descriptor")) (hc : CallV g md n (.builtin id) f) (ho : RE g S md n p o) (hq : RX g S md n q (e :: r)) (he : ∀ env, eval (.Call (.Attribute o name apos) (e :: r) [] pos) env = (do
   let ov ← eval o env
   standAt apos.atName
   let (f, first) ← holding [ov] (getMethod ov name (pl env))
   callWith pos f first (backTo pos (starEach (e :: r) env)) []) := by intro _; rfl) (he2 : ∀ env, starEach (e :: r) env = (false, eval e env) :: starEach r env := by intro _; rfl) (hpl : ∀ env, (backTo pos (starEach r env)).any (·.1) = false := by intro _; rfl) : RE g S md n (mbind p fun a => mbind (kindM k a) fun _ => mbind q fun vs => f (a :: vs)) (.Call (.Attribute o name apos) (e :: r) [] pos) := ⟨ref_Meth1 slot hty hc ho.ok hq.ok he he2 hpl⟩
theorem wTs_nil  : RTs g S md n (mret true) [] := ⟨refTs_nil ⟩
theorem wTs_one {p : M Bool} {t : Expr} (h : RT g S md n p t) : RTs g S md n p [t] := ⟨refTs_one h.ok⟩
theorem w_ListComp (hm : md ≠ .hand) (hc : compOk scope S = true) (hi : RIt g S md n psrc iter) (T : TgOk g (compS scope S) .comp n target asg) (ht : RTs g (compS scope S) .comp n pt ifs) (hel : RE g (compS scope S) .comp n pe elt) (hs : ∀ env x, foldedSetIterable iter env x = pure x := by intro _ _; rfl) : RE g S md n (compM scope psrc asg pt pe) (.ListComp elt [⟨target, iter, ifs, 0⟩] scope pos) := ⟨ref_ListComp hm hc hi.ok T ht.ok hel.ok hs⟩
theorem w_AssignComp {y : Str} {py spos : Pos} (hm : md ≠ .hand) (hv : stOk S y = true) (hc : compOk scope S = true) (hi : RIt g S md n psrc iter) (T : TgOk g (compS scope S) .comp n target asg) (ht : RTs g (compS scope S) .comp n pt ifs) (hel : RE g (compS scope S) .comp n pe elt) (hsw : ∀ env : Env, env.scope = S.sc → swapsWith (.ListComp elt [⟨target, iter, ifs, 0⟩] scope pos) (some (.Name y py)) spos.line env = pure true) (hs : ∀ env x, foldedSetIterable iter env x = pure x := by intro _ _; rfl) : RS g S md n (assignM y (compM scope psrc asg pt pe)) (.Assign [.Name y py] (.ListComp elt [⟨target, iter, ifs, 0⟩] scope pos) spos) := ⟨ref_AssignComp hm hv hc hi.ok T ht.ok hel.ok hsw hs⟩
theorem w_Dict0 {pos : Pos} : RE g S md n (fun Q _ st => ∀ a, st.μ a = none → ∀ ep, Q (.ref a) (st.put a (.dict [] ep))) (.Dict [] [] pos) := ⟨ref_Dict0 ⟩
theorem w_CallG {x : Str} {a : Addr} {p : M (List V)} {f : List V → M V} {e : Expr} {r : List Expr} {px pos : Pos} (b : Glb g S x (.ref a)) (hk : keepIn g.K (.ref a) = true) (hp : RX g S md n p (e :: r)) (hc : CallV g md n (.ref a) f) (he : ∀ env, starEach (e :: r) env = (false, eval e env) :: starEach r env := by intro _; rfl) (hpl : ∀ env, (backTo pos (starEach r env)).any (·.1) = false := by intro _; rfl) : RE g S md n (mbind p f) (.Call (.Name x px) (e :: r) [] pos) := ⟨ref_CallG b hk hp.ok hc he hpl⟩
theorem w_MethOwn {c fa : Addr} {nm : Str} {p : M V} {q : M (List V)} {f : List V → M V} {o e : Expr} {r : List Expr} {apos pos : Pos} {pl : Env → Sem Bool} (hB : methB g.K c nm fa = true) (hc : CallV g md n (.ref fa) f) (ho : RE g S md n p o) (hq : RX g S md n q (e :: r)) (he : ∀ env, eval (.Call (.Attribute o nm apos) (e :: r) [] pos) env = (do
   let ov ← eval o env
   standAt apos.atName
   let (f, first) ← holding [ov] (getMethod ov nm (pl env))
   callWith pos f first (backTo pos (starEach (e :: r) env)) []) := by intro _; rfl) (he2 : ∀ env, starEach (e :: r) env = (false, eval e env) :: starEach r env := by intro _; rfl) (hpl : ∀ env, (backTo pos (starEach r env)).any (·.1) = false := by intro _; rfl) : RE g S md n (mbind p fun a => mbind (instM c nm a) fun _ => mbind q fun vs => f (a :: vs)) (.Call (.Attribute o nm apos) (e :: r) [] pos) := ⟨ref_MethOwn hB hc ho.ok hq.ok he he2 hpl⟩
theorem w_LenOwn {c fa : Addr} {f : List V → M V} {p : M V} {e : Expr} {px pos : Pos} (b : Blt g S "len" (.builtin "len")) (hB : lenB g.K c fa = true) (hc : CallV g .fn n (.ref fa) f) (h : RE g S .fn (n + 1) p e) (he : ∀ env, starEach [e] env = (false, eval e env) :: starEach [] env := by intro _; rfl) : RE g S .fn (n + 1) (mbind p fun v Q X st => lenOwnM c f v (fun i st' => Q (.int i) st') X st) (.Call (.Name "len" px) [e] [] pos) := ⟨ref_LenOwn b hB hc h.ok he⟩
theorem w_stuckB {e : List Stmt} : RB g S md n mstuck e := ⟨ref_stuckB ⟩
theorem w_T_InEmpty {x : Str} {a : Addr} {ep : Nat} {p : M V} {l : Expr} {px pos : Pos} (b : Glb g S x (.ref a)) (hl : g.K.lookup a = some ⟨.type "dict", none, .dict #[] ep, #[]⟩) (ha : (a == sysModules) = false) (h : RE g S md n p l) : RT g S md n (mbind p fun v Q _ st => (∃ k, v = .str k) ∧ Q false st) (.Compare l [.In] [.Name x px] pos) := ⟨ref_T_InEmpty b hl ha h.ok⟩
theorem w_F2 {p q : M V} {e1 e2 : Expr} {p1 p2 pos : Pos} (h1 : RE g S md n p e1) (h2 : RE g S md n q e2) : RE g S md n (mbind p fun a => mbind (fmtM a) fun x => mbind q fun b => mbind (fmtM b) fun y => mret (.str (x ++ y))) (.JoinedStr [.FormattedValue e1 (-1) none p1, .FormattedValue e2 (-1) none p2] pos) := ⟨ref_F2 h1.ok h2.ok⟩
theorem w_FromKeys {p : M (List V)} {e1 e2 : Expr} {p0 p1 pos : Pos} {pl : Env → Sem Bool} (b : Blt g S "dict" (.type "dict")) (hp : RX g S md n p [e1, e2]) (hf : findCls g.K (.type "dict") (.type "type") (PySem.Str.ofString "fromkeys") = some (.get (.builtin "classmethod_descriptor.__get__") (.builtin "dict.fromkeys") .none (.type "dict"))) (he : ∀ env, eval (.Call (.Attribute (.Name "dict" p0) "fromkeys" p1) [e1, e2] [] pos) env = (do
   let ov ← eval (.Name "dict" p0) env
   standAt p1.atName
   let (f, first) ← holding [ov] (getMethod ov "fromkeys" (pl env))
   callWith pos f first (backTo pos (starEach [e1, e2] env)) []) := by intro _; rfl) (he2 : ∀ env, starEach [e1, e2] env = (false, eval e1 env) :: starEach [e2] env := by intro _; rfl) (hpl : ∀ env, (backTo pos (starEach [e2] env)).any (·.1) = false := by intro _; rfl) : RE g S md n (mbind p fromkeysM) (.Call (.Attribute (.Name "dict" p0) "fromkeys" p1) [e1, e2] [] pos) := ⟨ref_FromKeys b hp.ok hf he he2 hpl⟩
theorem w_Lambda {p : M V} {params : Arguments} {d0 body : Expr} {scope : Scope} {pos : Pos} {c P : Addr} (hcode : S.code = some c) (hP : (c, P) ∈ g.tabs) (hfree : ∀ x ∈ scope.names, x.2 ≠ .free) (h : RE g S md n p d0) (hdef : ∀ env, defaultsOf params env = (evalEach [d0] env, []) := by intro _; rfl) (hee : ∀ env, evalEach [d0] env = [eval d0 env] := by intro _; rfl) : RE g S md n (mbind p (lamM P)) (.Lambda params body scope pos) := ⟨ref_Lambda hcode hP hfree h.ok hdef hee⟩
theorem w_Arrow {p q : M V} {e1 e2 : Expr} {k : Nat} {p1 p2 p3 pos : Pos} (h1 : RE g S md n p e1) (h2 : RE g S md n q e2) : RE g S md n (mbind p fun a => mbind (strM a) fun _ => mbind q fun b => arrowM a b) (.JoinedStr [.FormattedValue e1 115 none p1, .Constant (.str " -> ") k p2, .FormattedValue e2 115 none p3] pos) := ⟨ref_Arrow h1.ok h2.ok⟩
end Kk
end
section
namespace Kk
variable {g : Gx} {S : Sc} {md : Md} {n : Nat} {C : Cx} {st st' : St} {s : Shared} {h' : Heap} {tk : Nat}
noncomputable def GramCls (g : Gx) (bmB : List Value) (newId : String) : Prop := ∃ bm N nm q bs hdct sn sub ab col dd k0 k1 k2 k3 k5 mN,
 (∀ h : Heap, g.K.In h → h.get? g.gram = some (excClassObj nm q g.gram N bs bm hdct sn sub ab col dd k0 k1 k2 k3 k5 newId) ∧ h.Ns N mN ∧ OwnTailQ h bmB bm) ∧ (∀ n ∈ quietNames, mN n = none)
noncomputable abbrev bmE : List Value := [.type "Exception", .type "BaseException", .type "object"]
noncomputable def raiseM (v : List V) : M Fl := fun _ X st => v.length ≤ 1000 ∧ X .gram st
theorem ref_Raise {x : Str} {p : M (List V)} {e : Expr} {r : List Expr} {np cpos pos : Pos} (hm : md ≠ .hand) (G : GramCls g bmE "Exception.__new__") (b : Glb g S x (.ref g.gram)) (hp : RefX g S md n p (e :: r))
  (he : ∀ env, starEach (e :: r) env = (false, eval e env) :: starEach r env := by intro _; rfl) (hpl : ∀ env, (backTo cpos (starEach r env)).any (·.1) = false := by intro _; rfl) :
  RefS g S md n (mbind p raiseM) (.Raise (some (.Call (.Name x np) (e :: r) [] cpos)) none pos) := by
 intro C Y st s Q X sx h
 refine exG17_2 G fun bm N nm q bs hdct sn sub ab col dd k0 k1 k2 k3 k5 mN hK hq => ?_
 have hK0 := hK _ (Y.here sx).kin
 have hw := (hp cpos).use Y sx h fun us vs st2 s2 ev x2 h2 => (show vs.length ≤ sizeLine ∧ g.K.In s2.heap ∧ ∀ h' e, Heap.MadeExcOf s2.heap h' e (.ref g.gram) vs → PostX g C X (.ref e) { s2 with heap := h' } from
  ⟨by rw [len_er ev]; exact Nat.le_trans h2.1 sizeL, (Y.here x2).kin, fun h' e mk => by
   refine exG1_3 mk.there fun t h3 h4 h5 => ?_
   exact ⟨.gram, st2, none, x2.grow (tk := s2.toks) mk.keeps, h2.2, .inl rfl, e, _, _, rfl, h3, rfl, rfl, by simp, x2.off_new mk.new, x2.mu_none mk.new, rfl⟩⟩)
 refine wpAny_Raise_call_subU (C := g.gram) (nm := nm) (q := q) (N := N) (bs := bs) (bm := bm) (hdct := hdct) (sn := sn) (sub := sub) (ab := ab) (col := col) (dd := dd) (k0 := k0) (k1 := k1) (k2 := k2) (k3 := k3) (k5 := k5)
  PySem.F.excBase_Exception (by decide +kernel) PySem.F.excBase_Exception (mN := mN) (hK0.2.2.tail.hasType (by decide +kernel)) (Y.handled hm) (by rw [he]; exact hpl C.env) (hq _ (.head _)) (b.run Y sx ⟨rfl, ?_⟩)
 rw [he] at hw ⊢
 exact Calls.evalArgs_plain (wpAny_mono hw (fun vs s₂ h₂ => ⟨rfl, h₂.1, (hK _ h₂.2.1).1, (hK _ h₂.2.1).2.1, (hK _ h₂.2.1).2.2.tail, h₂.2.2⟩) fun _ _ y => y)
end Kk
end
section
namespace Kk
variable {g : Gx} {S : Sc} {md : Md} {n : Nat} {C : Cx} {st st' : St} {s : Shared} {h' : Heap} {tk : Nat}
noncomputable def tryGramM (body hand : M Fl) : M Fl := fun Q X st => body Q (fun k st' => match k with | .gram => hand Q (fun _ _ => False) st' | k => False) st
theorem ref_TryGram {x : Str} {pb ph : M Fl} {body : List Stmt} {b₀ : Stmt} {suite : List Stmt} {tp hp pos : Pos} (G : GramCls g bmE "Exception.__new__") (hgm : ∀ h : Heap, Static g h → g.mg x = some (.ref g.gram)) (hb : RefB g S .fn n pb body) (hh : RefB g S .hand n ph (b₀ :: suite)) (bl : Glb g S x (.ref g.gram)) :
  RefS g S .fn n (tryGramM pb ph) (.Try body [.ExceptHandler (some (.Name x tp)) none (b₀ :: suite) hp] [] [] pos) := by
 intro C Y st s Q X sx h
 have hm : Md.fn ≠ Md.comp := by intro h; k_call_by "c" h
 unfold tryGramM at h
 refine wpAny_Try_except (wpAny_mono (hb C Y st s Q _ sx h) (fun f s1 ⟨f', st1, ef, x1, h1⟩ => ?_) fun e s1 hx => ?_)
 ·induction f' <;> induction f <;> first | exact ef.elim | exact wpAny_execs_nil ⟨_, st1, ef, x1, h1⟩ | exact ⟨_, st1, ef, x1, h1⟩
 ·refine exG3_4 hx fun k st1 fl x1 h1 hfl R => ?_
  induction k with
  | key => exact h1.elim
  | gram =>
   refine note_run Y hm x1 hfl R fun s2 x2 R2 => flight_run (fr := none) Y x2 R2 fun s3 x3 R3 => ?_
   refine exG3_8 (id R3) fun a oe vs r1 ho hc hd hz oa ma hT => ?_
   obtain rfl := r1
   refine handleBy_own (C := g.gram) (x := x) (bmB := bmE) (newId := "Exception.__new__") (mg := g.mg) (by decide +kernel) ?_
   refine exG17_2 G fun bm N nm q bs hdct sn sub ab col dd k0 k1 k2 k3 k5 mN hK hq => ?_
   refine exG0_3 (hK _ (Y.here x3).kin) fun g1 g2 g3 => ?_
   refine bl.run (C := { C with A := C.A.mark (some (.ref a)) }) (hand_ok Y) (hand_sim x3) ⟨rfl, ⟨hgm _ (Y.here x3), bm, N, nm, q, bs, hdct, sn, sub, ab, col, dd, k0, k1, k2, k3, k5, mN, g1, g2, hq, g3⟩, ⟨oe, ho, hc⟩, ?_⟩
   refine flight_run (C := { C with A := C.A.mark (some (.ref a)) }) (fr := none) (hand_ok Y) (hand_sim x3) (show Raised g { C with A := C.A.mark (some (.ref a)) } st1 .gram (.ref a) s3.heap (some .none) from R3) fun s4 x4 R4 => ?_
   refine wpAny_mono (hh _ (hand_ok Y) st1 s4 Q _ x4 h1) (fun f s5 ⟨f', st5, ef, x5, h5⟩ => ⟨f', st5, ef, hand_back x5, h5⟩) fun e s5 ⟨k, st5, fl5, x5, h5, r5⟩ => h5.elim
end Kk
end
section
namespace Kk
variable {g : Gx} {S : Sc} {md : Md} {n : Nat} {C : Cx} {st st' : St} {s : Shared} {h' : Heap} {tk : Nat}
noncomputable abbrev RefF (g : Gx) (S : Sc) (md : Md) (n B : Nat) (p : M Unit) (e : Expr) : Prop := Ref g S md n (fun (_ : Unit) (b : Value) => ∃ y t, b = .str y t ∧ y.length ≤ B) p (eval e)
theorem joins_mono {M : Model} {A : Around} {E : Value → Shared → Prop} {K K' : Str → Shared → Prop} (k : ∀ x s, K x s → K' x s) : ∀ (xs : List (Sem Value)) (acc : Str) (s : Shared), Joins M A E xs acc K s → Joins M A E xs acc K' s
 | [], acc, s, h => k _ _ h
 | x :: r, acc, s, h => wpAny_mono (show wpAny M A x (fun v s₁ => ∃ y t, v = .str y t ∧ (acc ++ y).length ≤ sizeLine ∧ Joins M A E r (acc ++ y) K s₁) E s from h) (fun v s1 h1 => by
   refine exG2_3 h1 fun y t e z j => ?_
   exact ⟨y, t, e, z, joins_mono k r _ _ j⟩) fun _ _ e => e
noncomputable def FEnd (g : Gx) (C : Cx) (k : Nat) (Q : Unit → St → Prop) (out : Str) (s' : Shared) : Prop := ∃ st', out.length ≤ k ∧ Sim g C st' s' ∧ Q () st'
noncomputable def RefFs (g : Gx) (S : Sc) (md : Md) (n B : Nat) (p : M Unit) (es : List Expr) : Prop := ∀ C, Ok g S md n C → ∀ st s Q X acc, Sim g C st s → acc.length + B ≤ 100000 →
 p Q X st → Joins (model g.prog g.w) C.A (PostX g C X) (evalEach es C.env) acc (FEnd g C (acc.length + B) Q) s
structure RF (g : Gx) (S : Sc) (md : Md) (n B : Nat) (p : M Unit) (e : Expr) : Prop where ok : RefF g S md n B p e
structure RFs (g : Gx) (S : Sc) (md : Md) (n B : Nat) (p : M Unit) (es : List Expr) : Prop where ok : RefFs g S md n B p es
theorem wFs_nil : RFs g S md n 0 (mret ()) [] := ⟨fun C Y st s Q X acc x hz h => ⟨st, Nat.le_refl _, x, h⟩⟩
theorem wFs_c {p q : M Unit} {A B : Nat} {e : Expr} {r : List Expr} (hp : RF g S md n A p e) (hr : RFs g S md n B q r) : RFs g S md n (A + B) (mbind p fun _ => q) (e :: r) := ⟨fun C Y st s Q X acc x hz h => by
 show wpAny _ _ (eval e C.env) _ _ s
 refine hp.ok.use Y x h fun a va st1 s1 hr1 x1 h1 => ?_
 refine exG2_2 hr1 fun y t r1 ha => ?_
 obtain rfl := r1
 have e1 : (acc ++ y).length = acc.length + y.length := cat_len _ _
 refine ⟨y, t, rfl, by rw [e1, sizeLine_eq]; omega, joins_mono (fun out s2 h2 => ?_) _ _ _ (hr.ok C Y st1 s1 _ X (acc ++ y) x1 (by omega) h1)⟩
 refine exG1_3 h2 fun st2 z2 x2 q2 => ?_
 exact ⟨st2, by omega, x2, q2⟩⟩
noncomputable def textM (B : Nat) : M V := fun Q _ st => ∀ x : Str, x.length ≤ B → Q (.str x) st
theorem w_JoinedStr {p : M Unit} {B : Nat} {e1 e2 : Expr} {r : List Expr} {pos : Pos} (h : RFs g S md n B p (e1 :: e2 :: r)) (hz : B ≤ 100000) : RE g S md n (mbind p fun _ => textM B) (.JoinedStr (e1 :: e2 :: r) pos) := ⟨fun C Y st s Q X x hp =>
 wpAny_JoinedStr (joins_mono (fun out s2 h2 => by
  refine exG1_3 h2 fun st2 z2 x2 q2 => ?_
  have z3 : out.length ≤ B := by
   have : (Str.empty).length = 0 := rfl
   omega
  exact ⟨by rw [sizeLine_eq]; omega, .str out, st2, rfl, x2.tick, q2 out z3⟩) _ _ _ (h.ok C Y st s _ X Str.empty x (by show 0 + B ≤ 100000; omega) hp))⟩
theorem wF_Str {x : Str} {k pos} (hx : x.length ≤ 1000) : RF g S md n 1000 (mret ()) (.Constant (.str x) k pos) := ⟨fun C Y st s Q X sx h => wpAny_Constant_str ⟨(), st, ⟨_, _, rfl, hx⟩, sx.tick, h⟩⟩
inductive SayH (Q : Unit → St → Prop) (st : St) : V → Prop
 | str {x : Str} : x.length ≤ 1000 → Q () st → SayH Q st (.str x)
 | int {i : Int} : 0 ≤ i → i ≤ 1000 → Q () st → SayH Q st (.int i)
noncomputable def sayM (v : V) : M Unit := fun Q _ st => SayH Q st v
theorem wF_plain {p : M V} {e : Expr} {pos : Pos} (h : RE g S md n p e) : RF g S md n 1000 (mbind p sayM) (.FormattedValue e (-1) none pos) := ⟨fun C Y st s Q X sx hp =>
 wpAny_FormattedValue_plain (h.ok.use Y sx hp fun a va st1 s1 ea x1 h1 => by
  induction h1 with
  | str z h1 => obtain ⟨t, rfl⟩ := er_str ea; exact field_str x1 z fun u s2 x2 => ⟨(), st1, ⟨_, _, rfl, z⟩, x2, h1⟩
  | int z0 z1 h1 =>
   obtain ⟨t, rfl⟩ := er_int ea
   exact wpAny_formatField_int (log_small (by omega)) ⟨(), st1, ⟨_, _, rfl, Nat.le_trans (toString_length_le (k := 10) z0 (by decide) (by omega)) (by decide)⟩, x1.tick, h1⟩)⟩
inductive ShowH (Q : Unit → St → Prop) (st : St) : V → Prop
 | mk {x : Str} : (reprText x).length ≤ 1000 → Q () st → ShowH Q st (.str x)
noncomputable def showM (v : V) : M Unit := fun Q _ st => ShowH Q st v
theorem wF_r {p : M V} {e : Expr} {pos : Pos} (h : RE g S md n p e) : RF g S md n 1000 (mbind p showM) (.FormattedValue e 114 none pos) := ⟨fun C Y st s Q X sx hp =>
 wpAny_FormattedValue_repr (h.ok.use Y sx hp fun a va st1 s1 ea x1 h1 => by
  induction h1 with
  | mk z h1 => obtain ⟨t, rfl⟩ := er_str ea; exact wpAny_pyReprObj_str (field_str (x1.tick (tk := s1.toks + 1)) z fun u s2 x2 => ⟨(), st1, ⟨_, _, rfl, z⟩, x2, h1⟩) (Nat.le_trans z sizeL))⟩
inductive StrH (Q : Unit → St → Prop) (st : St) : V → Prop
 | mk {x : Str} : x.length ≤ 1000 → Q () st → StrH Q st (.str x)
noncomputable def strsM (v : V) : M Unit := fun Q _ st => StrH Q st v
theorem wF_s {p : M V} {e : Expr} {pos : Pos} (h : RE g S md n p e) : RF g S md n 1000 (mbind p strsM) (.FormattedValue e 115 none pos) := ⟨fun C Y st s Q X sx hp =>
 wpAny_FormattedValue_s (h.ok.use Y sx hp fun a va st1 s1 ea x1 h1 => by
  induction h1 with
  | mk z h1 => obtain ⟨t, rfl⟩ := er_str ea; exact conv_str x1 z fun u s2 x2 => ⟨(), st1, ⟨_, _, rfl, z⟩, x2, h1⟩)⟩
noncomputable def strB (K : Frag) (c f : Addr) : Bool := (findIn K (.ref c) "__format__" == some (some (.builtin "object.__format__"))) && (mroIn K c (.type "object") == some true) && (findIn K (.ref c) "__str__" == some (some (.ref f))) && isFn K (.ref f)
inductive OwnH (c : Addr) (f : List V → M V) (Q : Unit → St → Prop) (X : Ex → St → Prop) (st : St) : V → Prop
 | mk {a d : Addr} {es : List (Str × V)} {ep : Nat} : st.μ a = some (.inst c d) → st.μ d = some (.dict es ep) → f [.ref a] (fun r st' => ∃ y : Str, r = .str y ∧ y.length ≤ 10000 ∧ Q () st') X st → OwnH c f Q X st (.ref a)
noncomputable def strOwnM (c : Addr) (f : List V → M V) (v : V) : M Unit := fun Q X st => OwnH c f Q X st v
theorem wF_own {c fa : Addr} {f : List V → M V} {p : M V} {e : Expr} {pos : Pos} (hB : strB g.K c fa = true) (hc : CallV g .fn n (.ref fa) f) (h : RE g S .fn (n + 1) p e) : RF g S .fn (n + 1) 10000 (mbind p fun v => strOwnM c f v) (.FormattedValue e (-1) none pos) := ⟨fun C Y st s Q X sx hp =>
 wpAny_FormattedValue_plain (h.ok.use Y sx hp fun a va st1 s1 ea x1 h1 => by
  induction h1 with
  | @mk a d es ep h1 h2 h =>
   rw [er_ref ea]
   refine exG2_8 (inst_at x1 h1 h2) fun kvs es' i1 i2 I p kk nd e hs => ?_
   simp only [strB, Bool.and_eq_true, beq_iff_eq] at hB
   refine kfo_fieldS (by have := Y.units; show C.A.units + 1 < cLine; unfold cLine; omega) (Y.here x1).kin I hB.1.1.1 hB.1.1.2 hB.1.2 hB.2 ?_
   refine wpAny_mono (hc S C.in1 (in1_ok Y) st1 _ _ X [.ref a] (in1_sim (x1.tick (tk := s1.toks + 1))) h) (fun r s' hr => ?_) fun e s' he => in1_postX he
   refine exG2_3 hr fun u st' eu x' r2 => ?_
   refine exG1_3 r2 fun y r3 z q => ?_
   obtain rfl := r3
   obtain ⟨t, rfl⟩ := er_str eu
   exact ⟨(), st', ⟨_, _, rfl, z⟩, in1_back x', q⟩)⟩
end Kk
end
section
open PySem PySem.W PyProof.Rows PySem.Spec PySem.Calls PySem.Builtin
namespace Kk
variable {g : Gx} {S : Sc} {md : Md} {n : Nat} {C : Cx} {st st' : St} {s : Shared} {h' : Heap} {tk : Nat}
inductive JoinH (k : Nat) (Q : V → St → Prop) (st : St) : V → Prop
 | mk {a : Addr} {ys : List Str} : st.μ a = some (.tup (ys.map .str)) → (ys.map (·.length)).sum + ys.length * k ≤ 1000 → (∀ x : Str, x.length ≤ 1000 → Q (.str x) st) → JoinH k Q st (.ref a)
noncomputable def joinM (k : Nat) (v : V) : M V := fun Q _ st => JoinH k Q st v
theorem join_le (x : Str) (ys : List Str) : (Txt.join x ys).length ≤ (ys.map (·.length)).sum + ys.length * x.length := by
 rw [show Txt.join x ys = Str.join x ys from StrLaws.glued_eq_join x ys]
 induction ys with
 | nil => exact Nat.zero_le _
 | cons y r ih =>
  induction r with
  | nil => simp only [Str.join, List.map_cons, List.map_nil, List.sum_cons, List.sum_nil, List.length_cons, List.length_nil]; omega
  | cons z r =>
   rw [show Str.join x (y :: z :: r) = y ++ x ++ Str.join x (z :: r) from rfl, cat_len, cat_len, List.map_cons, List.sum_cons, List.length_cons, Nat.succ_mul]
   omega
set_option maxRecDepth 100000 in
theorem w_Join {x : Str} {p : M V} {e : Expr} {k} {cp apos pos : Pos} {pl : Env → Sem Bool} (hx : x.length ≤ 10) (h : RE g S md n p e)
  (he : ∀ env, eval (.Call (.Attribute (.Constant (.str x) k cp) "join" apos) [e] [] pos) env = (do
   let ov ← eval (.Constant (.str x) k cp) env
   standAt apos.atName
   let (f, first) ← holding [ov] (getMethod ov "join" (pl env))
   callWith pos f first (backTo pos (starEach [e] env)) []) := by intro _; rfl)
  (he2 : ∀ env, starEach [e] env = (false, eval e env) :: starEach [] env := by intro _; rfl) :
  RE g S md n (mbind p (joinM x.length)) (.Call (.Attribute (.Constant (.str x) k cp) "join" apos) [e] [] pos) := ⟨fun C Y st s Q X sx hp =>
 MethodCall_ (pl := pl C.env) (wpAny_Constant_str (getMethod_builtin (typeIs_str _ _ _) PySem.F.plainAttrs_str PySem.F.slot_str_join PySem.F.type_str_join (fun _ e => nomatch e)
  (callWith_method1 (wpAny_items_cons (h.ok.use Y sx.tick hp fun a va st1 s1 ea x1 h1 => wpAny_items_nil (by
   induction h1 with
   | @mk a ys hm hz h1 =>
    rw [er_ref ea]
    refine exG1_2 (tup_in x1 hm) fun vs ht e => ?_
    refine exG1_3 ht fun o ho hc r1 => ?_
    refine exG1_1 r1 fun j hd => ?_
    have := Nat.mul_le_mul_left ys.length hx
    exact join_tuple ⟨o, ho, hc, j, hd⟩ (strs_of e) (by omega) fun t' k' => ⟨_, st1, rfl, x1.grow (tk := k') fun _ _ e => e, h1 _ (Nat.le_trans (join_le x ys) hz)⟩)) (he2 _)) (he2 _) rfl))) (he _)⟩
set_option maxHeartbeats 1000000 in
set_option maxRecDepth 100000 in
theorem prec_run {prog : Program} {w : World} {A : Around} {E : Value → Shared → Prop} {b : Addr} {nb : Nat} {y : Str} {i : Int} {t u v : Tok} {Q : Fin → Shared → Prop}
  (hb : s.heap.get? b = some { cls := .type "tuple", data := .seq #[.str y u, .int i v] nb }) (hy : y.length ≤ 1000) (h0 : 0 ≤ i) (h1 : i < 10 ^ 10)
  (h : ∀ t' k, Q (.done (.ret (.str ((("  [precedence=" : Str) ++ y ++ (", level=" : Str) ++ Str.ofString (toString i)) ++ ("]" : Str)) t'))) { s with toks := k }) :
  wpAny (model prog w) A («str.__mod__» ⟨[.str ⟨#[32, 32, 91, 112, 114, 101, 99, 101, 100, 101, 110, 99, 101, 61, 37, 115, 44, 32, 108, 101, 118, 101, 108, 61, 37, 100, 93]⟩ t, .ref b], []⟩) Q E s := by
 have hd : i.natAbs.log2 < 1920 := shown (N := 2 ^ 1920) (by omega) (by omega) (Int.le_refl _)
 rw [KPt.entry_is_r]
 unfold Builtin.Str.percentFormat
 refine wpAny_bind (wpAny_isInstance (T := "tuple") ⟨_, hb, rfl⟩ KPt.sub_tt ?_)
 refine wpAny_bind (KPt.asStr_ref hb rfl ?_)
 refine wpAny_bind (KPt.fills_ref ⟨_, hb, rfl⟩ ?_)
 intro _
 kpc_if
 refine wpAny_bind (wpAny_seqItems hb rfl ?_)
 refine wpAny_bind (wpAny_pure ?_)
 refine wpAny_bind ?_
 rw [KPc.range_list]
 refine KPc.start ?_
 intro _ _
 kpt_turns
inductive PrecH (Q : V → St → Prop) (st : St) : V → Prop
 | mk {a : Addr} {y : Str} {i : Int} : st.μ a = some (.tup [.str y, .int i]) → y.length ≤ 1000 → 0 ≤ i → i ≤ 1000 → (∀ x : Str, x.length ≤ 2000 → Q (.str x) st) → PrecH Q st (.ref a)
noncomputable def precM (v : V) : M V := fun Q _ st => PrecH Q st v
theorem w_PrecText {q : M V} {r : Expr} {k : Nat} {p1 pos : Pos} (h : RE g S md n q r) : RE g S md n (mbind q precM) (.BinOp (.Constant (.str "  [precedence=%s, level=%d]") k p1) .Mod r pos) := ⟨fun C Y st s Q X x hp =>
 wpAny_BinOp (wpAny_Constant_str (h.ok.use Y x.tick hp fun v va st1 s1 ev x1 h1 => by
  induction h1 with
  | @mk b y i hm hy h0 h1 hq =>
   rw [er_ref ev]
   refine exG0_2 (x1.objs _ _ hm) fun r2 _ => ?_
   obtain ⟨vs, m, hb, eb⟩ := r2
   refine exG2_3 (map2 eb) fun va vb e0 e1 e2 => ?_
   obtain ⟨u, rfl⟩ := er_str e1
   obtain ⟨u2, rfl⟩ := er_int e2
   have evs : vs = #[.str y u, .int i u2] := by rw [← Array.toList_inj, e0]
   subst evs
   refine KPt.bin_left (T := "str") (U := "tuple") (op := .Mod) (by decide) (typeIs_str _ _ _) ⟨_, hb, rfl⟩ PySem.F.fills_str_mod KPt.fills_tuple PySem.F.slot_str_mod
    (wpAny_call_entry PySem.F.slot_str_mod (typeIs_str _ _ _) PySem.F.entry_str_mod ?_ (PySem.F.args_str_mod_2 _ _))
   rw [show ("  [precedence=%s, level=%d]" : Str) = ⟨#[32, 32, 91, 112, 114, 101, 99, 101, 100, 101, 110, 99, 101, 61, 37, 115, 44, 32, 108, 101, 118, 101, 108, 61, 37, 100, 93]⟩ from by decide +kernel]
   refine prec_run hb hy h0 (by omega) fun t' k' => ⟨_, rfl, ⟨(fun e => nomatch e), ⟨_, st1, rfl, x1.tick (tk := k'), hq _ ?_⟩⟩⟩
   have l1 : (("  [precedence=" : Str)).length = 14 := by decide +kernel
   have l2 : ((", level=" : Str)).length = 8 := by decide +kernel
   have l3 : (("]" : Str)).length = 1 := by decide +kernel
   have l4 := toString_length_le (v := i) (k := 10) h0 (by decide) (by omega)
   rw [cat_len, cat_len, cat_len, cat_len]
   omega))⟩
inductive CatH (Q : V → St → Prop) (st : St) : V → V → Prop
 | mk {x y : Str} : x.length ≤ 100000 → y.length ≤ 100000 → Q (.str (x ++ y)) st → CatH Q st (.str x) (.str y)
noncomputable def catM (a b : V) : M V := fun Q _ st => CatH Q st a b
theorem w_AugCat {x : Str} {p : M V} {e : Expr} {px pos : Pos} (hv : varOk S.sc x = true) (hs : stOk S x = true) (h : RE g S md n p e) :
  RS g S md n (mbind (locM x) fun a => mbind p fun b => mbind (catM a b) fun r => mbind (setM x r) fun _ => mret .next) (.AugAssign (.Name x px) .Add e pos) := ⟨by
 intro C Y st s Q X x' hp
 unfold mbind locM at hp
 split at hp
 ·rename_i v ev
  refine wpAny_AugAssign_Name (wpAny_mono (load_var (Q := fun v' st' => v' = v ∧ st' = st) (E := PostX g C X) hv Y x' ev ⟨rfl, rfl⟩) (fun old s1 h1 => ?_) fun _ _ e => e)
  refine exG2_4 h1 fun v' st1 e1 x1 r3 r4 => ?_
  obtain rfl := r3
  obtain rfl := r4
  refine h.ok.use Y x1 hp fun b vb st2 s2 hb x2 h2 => ?_
  induction h2 with
  | mk z1 z2 h2 =>
   obtain ⟨t, rfl⟩ := er_str e1
   obtain ⟨u, rfl⟩ := er_str hb
   exact PyProof.Rows.iadd_str (fun t' tk => store_var hs Y x2.tick fun s4 x4 => ⟨.next, _, trivial, x4, h2⟩) (by rw [sizeLine_eq]; omega)
 ·exact hp.elim⟩
end Kk
end
section
namespace Kk
variable {g : Gx} {S : Sc} {md : Md} {n : Nat} {C : Cx} {st st' : St} {s : Shared} {h' : Heap} {tk : Nat}
inductive IdxLH (Q : V → St → Prop) (st : St) : V → V → Prop
 | mk {a : Addr} {k : Int} {xs : List V} {j : Nat} {u : V} : st.μ a = some (.list xs) → xs.length ≤ 1000 → seqIndex? k xs.length = some j → xs[j]? = some u → Q u st → IdxLH Q st (.ref a) (.int k)
noncomputable def idxLM (a b : V) : M V := fun Q _ st => IdxLH Q st a b
theorem w_SubL {p q : M V} {v i : Expr} {pos : Pos} (hv : RE g S md n p v) (hi : RE g S md n q i) (hs : ∀ o k, subscripted i false o k = operate [o, k] (getItem o k) := by intro _ _; rfl) :
  RE g S md n (mbind p fun a => mbind q fun b => idxLM a b) (.Subscript v i pos) := ⟨fun C Y st s Q X x hp =>
 Subscript_ (hv.ok.use Y x hp fun a va st1 s1 ha x1 h1 => hi.ok.use Y x1 h1 fun b vb st2 s2 hb x2 h2 => by
  have h3 : idxM a b Q (fun _ _ => False) st2 := by induction h2 with | mk z1 z2 z3 z4 z5 => exact .list z1 z2 z3 z4 z5
  refine exG2_2 (idx_type x2 ha hb h3) fun T id hT hl => ?_
  exact subTail_run hT hl (idx_run Y x2 ha hb h3 fun d k t es ep e1 e2 h1 h2 hX => hX.elim) (.inl (hs _ _)))⟩
noncomputable def getB (K : Frag) (c f : Addr) : Bool := (findIn K (.ref c) "__getitem__" == some (some (.ref f))) && fnIn K f && isFn K (.ref f)
inductive GetOH (c : Addr) (f : List V → M V) (i : V) (Q : V → St → Prop) (X : Ex → St → Prop) (st : St) : V → Prop
 | mk {a d : Addr} {es : List (Str × V)} {ep : Nat} : st.μ a = some (.inst c d) → st.μ d = some (.dict es ep) → f [.ref a, i] Q X st → GetOH c f i Q X st (.ref a)
noncomputable def getOwnM (c : Addr) (f : List V → M V) (a i : V) : M V := fun Q X st => GetOH c f i Q X st a
theorem subOwn_run {value slice : Expr} {c fa a : Addr} {ox : Obj} {od : Option Obj} {i : Value} {A : Around} {Q : Value → Shared → Prop} {E : Value → Shared → Prop} (X : g.K.In s.heap) (I : InstAt s.heap a ox c od) (hB : getB g.K c fa = true)
  (hsl : subscripted slice true (.ref a) i = runValue (.builtin "lifetime.subscript" ⟨[.ref a, i], []⟩)) (h : wpAny (model g.prog g.w) A.in1 (call (.ref fa) [.ref a, i]) Q E s) : wpAny (model g.prog g.w) A (subscriptTail value slice (.ref a) i) Q E s := by
 simp only [getB, Bool.and_eq_true, beq_iff_eq] at hB
 refine exG0_2 hB fun r1 b3 => ?_
 obtain ⟨b1, b2⟩ := r1
 have key : wpAny (model g.prog g.w) A.in1 (callSpecial? (.ref a) "__getitem__" [i]) (fun v s' => ∃ r, v = some r ∧ Q r s') E s := special_fn X I b1 (beq_iff_eq.mp b3) (wpAny_mono h (fun v s' q => ⟨v, rfl, q⟩) fun _ _ e => e)
 have inPy : wpAny (model g.prog g.w) A (getitemInPython (.ref a)) (fun b s' => b = true ∧ s' = s) E s := by
  unfold getitemInPython
  unfold fnIn at b2
  split at b2
  ·rename_i e
   refine wpAny_bind (wpAny_bind (I.type.here ((looks_findIn X b1).here ?_)))
   exact wpAny_bind (wpAny_load (X _ _ e) (wpAny_pure ⟨rfl, rfl⟩))
  ·k_call_by "c" b2
 unfold subscriptTail
 refine wpAny_bind (wpAny_mono inPy (fun b s' hb => ?_) fun _ _ e => e)
 obtain ⟨rfl, rfl⟩ := hb
 rw [hsl]
 refine wpAny_bind (wpAny_runValue (codeAny_builtin entry_sub (wpAny_bind (wpAny_mono key (fun v s' hv => ?_) fun _ _ e => e))))
 refine exG1_2 hv fun r r2 q => ?_
 obtain rfl := r2
 exact wpAny_pure (show wpAny (model g.prog g.w) A (letTemporaryGo value (.ref a) r >>= fun _ => pure r) Q E s' from wpAny_bind (wpAny_letTemporaryGo (wpAny_pure q)))
theorem w_SubOwn {c fa : Addr} {f : List V → M V} {p q : M V} {v i : Expr} {pos : Pos} (hB : getB g.K c fa = true) (hc : CallV g md n (.ref fa) f) (hv : RE g S md (n + 1) p v) (hi : RE g S md (n + 1) q i)
  (hsl : ∀ o k, subscripted i true o k = runValue (.builtin "lifetime.subscript" ⟨[o, k], []⟩) := by intro _ _; rfl) :
  RE g S md (n + 1) (mbind p fun a => mbind q fun b => getOwnM c f a b) (.Subscript v i pos) := ⟨fun C Y st s Q X x hp =>
 Subscript_ (hv.ok.use Y x hp fun a va st1 s1 ha x1 h1 => hi.ok.use Y x1 h1 fun b vb st2 s2 hb x2 h2 => by
  induction h2 with
  | @mk a d es ep z1 z2 h =>
   rw [er_ref ha]
   refine exG2_8 (inst_at x2 z1 z2) fun kvs es' i1 i2 I p kk nd e hs => ?_
   refine subOwn_run (Y.here x2).kin I hB (hsl _ _) ?_
   refine wpAny_mono (hc S C.in1 (in1_ok Y) st2 _ _ X [.ref a, vb] (in1_sim x2) (by rw [List.map_cons, List.map_cons, hb]; exact h)) (fun r s' hr => ?_) fun e s' he => in1_postX he
   refine exG2_3 hr fun u st' eu x' q => ?_
   exact ⟨u, st', eu, in1_back x', q⟩)⟩
theorem w_CallG0 {x : Str} {a : Addr} {f : List V → M V} {px pos : Pos} (b : Glb g S x (.ref a)) (hk : keepIn g.K (.ref a) = true) (hc : CallV g md n (.ref a) f) : RE g S md n (f []) (.Call (.Name x px) [] [] pos) := ⟨fun C Y st s Q X sx h =>
 wpAny_Call_NameR (b.run Y sx (callWith_K0 (first := []) (Y.here sx).kin hk (hc S C Y st s Q X [] sx h)))⟩
theorem w_AssignTuple {elts : List Expr} {xs : List Str} {x1} {p : M V} {e : Expr} {tp pos : Pos} (hm : md ≠ .hand) (h1 : NamesAre elts xs) (ho : (xs.all (stOk S)) = true) (h : RE g S md n p e)
  (hs : ∀ env, swapsWithSole [.Tuple elts x1 tp] e pos.line env = pure false := by intro _; rfl) (hw : ∀ env, swappedStores [.Tuple elts x1 tp] e env = pure none := by intro _; rfl) :
  RS g S md n (mbind p fun v => mbind (unpackM xs v) fun _ => mret .next) (.Assign [.Tuple elts x1 tp] e pos) := ⟨fun C Y st s Q X x hp =>
 PyProof.Rows.Assign_Tuple (h.ok.use Y x hp fun v vv st1 s1 ev x1' q1 => by
  subst ev
  exact (refA_Tuple (x1 := x1) (pos := tp) hm h1 ho vv).use Y x1' q1 fun _ _ st2 s2 _ x2 q2 => ⟨.next, st2, trivial, x2, q2⟩) (hs _) (hw _)⟩
noncomputable def unpack2M (x y : Str) (v : V) : M Unit := fun Q X st => match v with
 | .ref a => (match st.μ a with
  | some (.tup [u, w]) => mbind (setM y w) (fun _ => setM x u) Q X st
  | _ => False)
 | _ => False
theorem w_AssignSwap {elts : List Expr} {x y : Str} {x1} {p : M V} {e : Expr} {tp pos : Pos} (hm : md ≠ .hand) (hx : stOk S x = true) (hy : stOk S y = true) (h : RE g S md n p e)
  (hw : ∀ env : Env, env.scope = S.sc → swappedStores [.Tuple elts x1 tp] e env = pure (some [x, y]))
  (hs : ∀ env, swapsWithSole [.Tuple elts x1 tp] e pos.line env = pure false := by intro _; rfl) :
  RS g S md n (mbind p fun v => mbind (unpack2M x y v) fun _ => mret .next) (.Assign [.Tuple elts x1 tp] e pos) := ⟨fun C Y st s Q X sx hp =>
 PyProof.Rows.Assign_Tuple_swapped (names := [x, y]) (h.ok.use Y sx hp fun v vv st1 s1 ev x1' q1 => by
  unfold mbind unpack2M at q1
  dsimp only at q1
  split at q1
  ·rename_i a
   rw [er_ref ev]
   split at q1
   ·rename_i u w hm'
    refine exG1_2 (tup_in x1' hm') fun us ht e => ?_
    refine exG2_3 (map2 e) fun va vb e0 e1 e2 => ?_
    have hz : us.size = 2 := by rw [size_er e]; rfl
    show wpAny _ _ (unpackItems (.ref a) 2 none) _ _ s1
    rw [← hz]
    refine unpackItems_tuple (Y.handled hm) ht fun h' hx' => ?_
    have x2 : Sim g C st1 { s1 with heap := h' } := x1'.grow (tk := s1.toks) fun b o eb => hx' b o (Nat.ne_of_lt (Heap.lt_size eb)) eb
    rw [e0]
    show wpAny _ _ (assignInOrder [bindName C.env y, bindName C.env x] [vb, va]) _ _ _
    refine wpAny_bind (wpAny_holding (bind_var hy Y x2 fun s3 x3 => ?_))
    refine wpAny_bind (wpAny_holding (bind_var hx Y x3 fun s4 x4 => wpAny_pure ⟨.next, _, trivial, x4, ?_⟩))
    rw [e1, e2]; exact q1
   ·exact q1.elim
  ·exact q1.elim) (hs _) (hw _ Y.scope)⟩
noncomputable def orM (q : M V) (v : V) : M V := fun Q X st => truthM v (fun c st' => if c = true then Q v st' else q Q X st') X st
theorem w_Or {p q : M V} {a b : Expr} {pos : Pos} (ha : RE g S md n p a) (hb : RE g S md n q b) : RE g S md n (mbind p (orM q)) (.BoolOp .Or [a, b] pos) := ⟨fun C Y st s Q X x hp =>
 BoolOp_or (ha.ok.use Y x hp fun v vv st1 s1 ev x1 h1 => wpAny_mono (truth_run (k := fun c => if c = true then Q v st1 else q Q X st1) (E := PostX g C X) Y x1 ev h1) (fun c s2 hc => by
  revert hc; refine fun oO => exG0_2 oO fun x2 hc => ?_
  k_call_by "c" c
  ·exact BoolOp_one (hb.ok C Y st1 s2 Q X x2 hc)
  ·exact ⟨v, st1, ev, x2, hc⟩) fun _ _ e => e)⟩
structure RKV (g : Gx) (S : Sc) (md : Md) (n : Nat) (ks : List Str) (p : M (List V)) (keys : List (Option Expr)) (es : List Expr) : Prop where
 ok : ∀ pos, Ref g S md n (fun (a : List V) (b : List (Value × Value)) => ∃ kvs, Carries (PySem.strKind g.prog g.w) b kvs ∧ kvs.map (·.1) = ks ∧ kvs.map (fun p => er p.2) = a) p (fun env => evalPairs (pairTrees keys es env pos))
 all : keys.all (·.isSome) = true
 len : keys.length = es.length
theorem wKV_nil : RKV g S md n [] (mret []) [] [] := ⟨fun pos C Y st s Q X x h => pairTrees_nil_walk ⟨[], st, ⟨[], trivial, rfl, rfl⟩, x, h⟩, rfl, rfl⟩
theorem wKV_c {k : Str} {ks : List Str} {p : M V} {q : M (List V)} {e : Expr} {keys : List (Option Expr)} {es : List Expr} {kt} {kp : Pos} (h : RE g S md n p e) (hr : RKV g S md n ks q keys es) :
  RKV g S md n (k :: ks) (mbind p fun v => mbind q fun vs => mret (v :: vs)) (some (.Constant (.str k) kt kp) :: keys) (e :: es) := ⟨fun pos C Y st s Q X x hp =>
 pairTrees_cons_walk (wpAny_Constant_str (h.ok.use Y x.tick hp fun v vv st1 s1 ev x1 h1 => (hr.ok pos).use Y x1 h1 fun vs bs st2 s2 hb x2 h2 => by
  refine exG1_3 hb fun kvs c1 c2 c3 => ?_
  exact ⟨_, st2, ⟨(k, vv) :: kvs, ⟨isStrOf_self k _, rfl, c1⟩, by rw [List.map_cons, c2], by rw [List.map_cons, ev, c3]⟩, x2, h2⟩)), hr.all, congrArg (· + 1) hr.len⟩
theorem kvs_zip : ∀ (kvs : List (Str × Value)), kvs.map (fun p => (p.1, er p.2)) = (kvs.map fun x => x.1).zip (kvs.map fun p => er p.2)
 | [] => rfl
 | a :: r => by rw [List.map_cons, List.map_cons, List.map_cons, List.zip_cons_cons, ← kvs_zip r]
theorem w_Dict {ks : List Str} {p : M (List V)} {keys : List (Option Expr)} {es : List Expr} {pos : Pos} (h : RKV g S md n ks p keys es) (hn : ks.Nodup) (h0 : keys ≠ []) (hl : keys.length ≤ 15) :
  RE g S md n (mbind p fun vs Q _ st => ∀ a, st.μ a = none → ∀ ep, Q (.ref a) (st.put a (.dict (ks.zip vs) ep))) (.Dict keys es pos) := ⟨fun C Y st s Q X x hp => by
 refine wpAny_Dict_walk (knd := PySem.strKind g.prog g.w) h.all h.len h0 hl ?_
 have hD : s.heap.get? s.heap.objs.size = none := Heap.get?_none_of_le (Nat.le_refl _)
 have hoff : Off C s.heap.objs.size := x.off_new hD
 have hlow := Y.low x
 have hget : (s.heap.push { cls := .type "dict", data := .dict #[] }).get? s.heap.objs.size = some { cls := .type "dict", data := .dict #[] } := Heap.get?_push_size _ rfl
 have x1 : Sim g C st { s with heap := s.heap.push { cls := .type "dict", data := .dict #[] } } := x.grow (tk := s.toks) fun _ _ e => Heap.get?_push_of_some _ e
 have hmu : st.μ s.heap.objs.size = none := x.mu_none hD
 generalize s.heap.objs.size = D at hD hoff hlow hget hmu
 generalize s.heap.push { cls := .type "dict", data := .dict #[] } = H at hget x1
 refine wpAny_mono (keep_run (P := (· = D)) (h.ok pos) Y x1 (fun b hb => hb ▸ ⟨hoff, hmu⟩) hp) (fun b s2 hb => ?_) fun _ _ e => e
 refine exG2_5 hb fun vs st2 r3 x2 hq n2 k2 => ?_
 obtain ⟨kvs, c1, c2, c3⟩ := r3
 have hm2 : st2.μ D = none := n2 D rfl (by show (H.get? D).isSome = true; rw [hget]; rfl)
 refine ⟨kvs, c1, ⟨_, #[], 0, k2 D _ rfl hget, ⟨rfl, rfl, rfl⟩, rfl, fun e he => by simp at he, .nil, by simp⟩, fun h' hd hs => ?_⟩
 rw [merged_nil_of_nodup kvs (by rw [c2]; exact hn)] at hd
 refine exG3_4 hd fun ob es' ep' q1 q2 q3 q4 => ?_
 have x3 : Sim g C st2 { s2 with heap := h', toks := s2.toks + b.length } := x2.temps Y (· = D) (fun b hb => hb ▸ ⟨hoff, hm2⟩) fun b o hb e => hs.extBut b o hb e
 refine ⟨.ref D, _, rfl, x3.adopt (o := .dict (ks.zip vs) ep') hoff ⟨hlow, kvs, ⟨ob, es', q1, q2, q3, q4⟩, ?_⟩, hq D hm2 ep'⟩
 rw [← c2, ← c3]
 exact kvs_zip kvs⟩
end Kk
end
section
namespace Kk
variable {g : Gx} {S : Sc} {md : Md} {n : Nat} {C : Cx} {st st' : St} {s : Shared} {h' : Heap} {tk : Nat}
noncomputable def compGo2 {ι : Type} (cur : Nat → St → Option ι → Prop) (asg : ι → M Unit) (src2 : M Src) (asg2 : List V → M Unit) (tests : M Bool) (elt : M V) (fin : List V → St → Prop) : Nat → List ι → List V → St → Prop
 | i, [], acc, st => cur i st none ∧ fin acc st
 | i, x :: r, acc, st => cur i st (some x) ∧ asg x (fun _ st1 => src2 (fun sr st2 => compGo sr.cur asg2 tests elt (fun acc' st3 => compGo2 cur asg src2 asg2 tests elt fin (i + 1) r acc' st3) 0 (sr.its st2) acc st2) (fun _ _ => False) st1) (fun _ _ => False) st
theorem it_keep {P0 : Addr → Prop} {psrc : M Src} {iter : Expr} {Q : Src → St → Prop} {X : Ex → St → Prop} (hi : RefIt g S md n psrc iter) (Y : Ok g S md n C) (x : Sim g C st s) (hP : ∀ b, P0 b → Off C b ∧ st.μ b = none ∧ (s.heap.get? b).isSome = true) (h : psrc Q X st) :
  wpAny (model g.prog g.w) C.A (eval iter C.env) (fun xv s1 => wpAny (model g.prog g.w) C.A (pyIter xv) (fun it s2 => ∃ sr st' I P It, it = .ref I ∧ Sim g C st' s2 ∧ Q sr st' ∧ Stands g C sr I P It st' s2.heap ∧ (∀ b, P0 b → ¬ P b ∧ st'.μ b = none) ∧ ∀ b o, P0 b → s.heap.get? b = some o → s2.heap.get? b = some o) (PostX g C X) s1) (PostX g C X) s := by
 have has : ∀ b, P0 b → ∃ o, s.heap.get? b = some o ∧ (rebase C st s.heap).base b = some o := fun b hb => by
  refine exG0_3 (hP b hb) fun h1 h2 h3 => ?_
  refine exG1_1 (Option.isSome_iff_exists.mp h3) fun o ho => ?_
  exact ⟨o, ho, rebase_has ho h1 h2⟩
 refine wpAny_mono (hi (rebase C st s.heap) (rebase_ok Y x) st s Q X (rebase_sim x) h) (fun xv s1 h1 => wpAny_mono h1 (fun it s2 h2 => ?_) fun e s' he => unbaseX Y x he) fun e s' he => unbaseX Y x he
 refine exG5_7 h2 fun sr st2 I P It e1 x2 q I0 hPP hpr hself => ?_
 refine ⟨sr, st2, I, P, It, e1, unbase Y x x2, q, ⟨I0, fun b hb => ⟨off_of_rebase Y x (hPP b hb).1, (hPP b hb).2⟩, hpr, hself⟩, fun b hb => ?_, fun b o hb ho => ?_⟩
 ·refine exG1_2 (has b hb) fun o ho hb2 => ?_
  refine ⟨fun hp => ?_, ?_⟩
  ·have := (hPP b hp).1.2.2.1; rw [hb2] at this; k_call_by "c" this
  ·cases e : st2.μ b with
   | none => rfl
   | some ob => have := (x2.objs b ob e).2.2.2.1; rw [hb2] at this; k_call_by "c" this
 ·refine exG1_2 (has b hb) fun o' ho' hb2 => ?_
  rw [ho] at ho'; cases ho'
  exact x2.base b o hb2
noncomputable abbrev twoE (t1 i1 t2 i2 elt : Expr) (ifs : List Expr) (scope : Scope) (pos : Pos) : Expr := .ListComp elt [⟨t1, i1, [], 0⟩, ⟨t2, i2, ifs, 0⟩] scope pos
theorem compTurn_in {t1 i1 t2 i2 elt : Expr} {ifs : List Expr} {scope : Scope} {pos : Pos} {it acc : Value} {env : Env} : compTurn (twoE t1 i1 t2 i2 elt ifs scope pos) 1 it acc env = (do
   standAt i2.pos
   match ← pyNext it with
   | none => pure (.done .next)
   | some v =>
    letOwnedTupleGo t2 it v
    assign t2 env v
    let mut ok := true
    for c in ifs do
     if ok then ok ← isTrue c env (eval c env)
    if ok then
     (do let _ ← call (.builtin "list.append") [acc, ← eval elt env])
    again (.compLoop (twoE t1 i1 t2 i2 elt ifs scope pos) 1 it acc env)) := by rfl
theorem compTurn_out {t1 i1 t2 i2 elt : Expr} {ifs : List Expr} {scope : Scope} {pos : Pos} {it acc : Value} {env : Env} : compTurn (twoE t1 i1 t2 i2 elt ifs scope pos) 0 it acc env = (do
   standAt i1.pos
   match ← pyNext it with
   | none => pure (.done .next)
   | some v =>
    letOwnedTupleGo t1 it v
    assign t1 env v
    let mut ok := true
    for c in ([] : List Expr) do
     if ok then ok ← isTrue c env (eval c env)
    if ok then
     let x ← eval i2 env
     standAt i2.pos
     let x ← foldedSetIterable i2 env x
     let _ ← runOwn (.compStart (twoE t1 i1 t2 i2 elt ifs scope pos) 1 (← holding [x] (pyIter x)) acc env) env
    again (.compLoop (twoE t1 i1 t2 i2 elt ifs scope pos) 0 it acc env)) := by rfl
theorem compStart_in {M : Model} {A : Around} {R : Result → Shared → Prop} {t1 i1 t2 i2 elt : Expr} {ifs : List Expr} {scope : Scope} {pos : Pos} {it acc : Value} {env : Env}
  (h0 : codeAny M A (.compLoop (twoE t1 i1 t2 i2 elt ifs scope pos) 1 it acc env) R s)
  (h : wpAny (model g.prog g.w) A (pyIter it) (fun it' s' => codeAny (model g.prog g.w) A (.compLoop (twoE t1 i1 t2 i2 elt ifs scope pos) 1 it' acc env) R s') (notedBy (model g.prog g.w) A env fun x s' => R (.error x) s') s) (hM : M = model g.prog g.w) :
  codeAny M A (.compStart (twoE t1 i1 t2 i2 elt ifs scope pos) 1 it acc env) R s := by
 subst hM
 refine codeAny_of_tree ?_
 show wpAny _ _ ((compStart (twoE t1 i1 t2 i2 elt ifs scope pos) 1 it acc env).onRaise (fun x => do noteFrame x env; standAt theWindowsPlace)) _ _ s
 refine wpAny_notedAt ?_
 unfold compStart
 show wpAny _ _ (ask >>= _) _ _ s
 refine wpAny_bind (wpAny_askSetting (wpAny_ite ?_))
 split
 ·first
   | exact wpAny_bind (wpAny_pure (wpAny_pure (And.intro rfl h0)))
   | exact wpAny_pure (And.intro rfl h0)
 ·first
   | exact wpAny_bind (wpAny_rule (wpAny_bind (wpAny_standAt (wpAny_bind (wpAny_mono h (fun it' s' h' => wpAny_pure (And.intro rfl h')) fun _ _ x => x)))))
   | (refine wpAny_bind (wpAny_rule ?_); show wpAny _ _ (standAt i2.pos >>= _) _ _ s; exact wpAny_bind (wpAny_standAt (wpAny_bind (wpAny_mono h (fun it' s' h' => wpAny_pure (And.intro rfl h')) fun _ _ x => x))))
theorem inner_run {ι : Type} {I D : Addr} {P P0 : Addr → Prop} {It : Nat → Heap → Prop} {cur : Nat → St → Option ι → Prop} {t1 i1 t2 i2 elt : Expr} {ifs : List Expr} {scope : Scope} {pos : Pos} {asg : ι → M Unit} {pt : M Bool} {pe : M V} {fin : List V → St → Prop} {R : Result → Shared → Prop} {h0 : Heap}
  (Pr : Proto g C I P It cur t2 asg) (Y : Ok g S md n C) (ht : RefTs g S md n pt ifs) (hel : RefE g S md n pe elt) (hD : Off C D) (hDP : ¬ P D) (hN : ∀ b, P0 b → Off C b ∧ ¬ P b ∧ b ≠ D ∧ (h0.get? b).isSome = true)
  (hfin : ∀ acc st' s' (vs : Array Value), Sim g C st' s' → st'.μ D = none → s'.heap.PlainList D vs → vs.toList.map er = acc → (∀ b, P0 b → st'.μ b = none) → (∀ b o, P0 b → h0.get? b = some o → s'.heap.get? b = some o) → fin acc st' → R (.ok .next) s')
  {i : Nat} {rest : List ι} {acc : List V} (h : compGo cur asg pt pe fin i rest acc st) (hI : It i s.heap) (x : Sim g C st s) (hP : ∀ b, P b → st.μ b = none) (hDm : st.μ D = none) {vs : Array Value} (hl : s.heap.PlainList D vs) (ea : vs.toList.map er = acc)
  (hNm : ∀ b, P0 b → st.μ b = none) (hNk : ∀ b o, P0 b → h0.get? b = some o → s.heap.get? b = some o) :
  codeAny (model g.prog g.w) C.A (.compLoop (twoE t1 i1 t2 i2 elt ifs scope pos) 1 (.ref I) (.ref D) C.env) R s := by
 have no : ∀ e s', PostX g C (fun _ _ => False) e s' → notedBy (model g.prog g.w) C.A C.env (fun e s' => R (.error e) s') e s' := fun e s' p => (postX_false p).elim
 refine codeAny_loop rfl (fun k s => ∃ i rest acc st vs, k = rest.length ∧ compGo cur asg pt pe fin i rest acc st ∧ It i s.heap ∧ Sim g C st s ∧ (∀ b, P b → st.μ b = none) ∧ st.μ D = none ∧ s.heap.PlainList D vs ∧ vs.toList.map er = acc ∧ (∀ b, P0 b → st.μ b = none) ∧ ∀ b o, P0 b → h0.get? b = some o → s.heap.get? b = some o) ?_ rest.length
  ⟨i, rest, acc, st, vs, rfl, h, hI, x, hP, hDm, hl, ea, hNm, hNk⟩
 intro k s q0q
 refine exG5_10 q0q fun i rest acc st vs r1 h hI x hP hDm hl ea hNm hNk => ?_
 obtain rfl := r1
 show wpAny _ _ ((compTurn (twoE t1 i1 t2 i2 elt ifs scope pos) 1 (.ref I) (.ref D) C.env).onRaise (fun x => do noteFrame x C.env; theTreesLotGoes x)) _ _ s
 refine wpAny_noted ?_
 rw [compTurn_in]
 refine wpAny_bind (wpAny_standAt (wpAny_bind ?_))
 have is0 : ∀ (H : Heap), (∀ b o, P0 b → h0.get? b = some o → H.get? b = some o) → ∀ b, P0 b → (H.get? b).isSome = true := fun H k b hb => by
  refine exG1_1 (Option.isSome_iff_exists.mp (hN b hb).2.2.2) fun o ho => ?_
  rw [k b o hb ho]; rfl
 induction rest with
 | nil =>
  unfold compGo at h
  refine wpAny_mono (Pr.done i st s _ hP h.1 hI x) (fun r s1 h1 => ?_) fun _ _ e => e
  refine exG0_3 h1 fun r2 x1 k1 => ?_
  obtain rfl := r2
  refine exG1_1 (id hl) fun m hm => ?_
  exact wpAny_pure (hfin acc st s1 vs x1 hDm ⟨m, k1 _ _ hDP hm⟩ ea hNm (fun b o hb ho => k1 b o (hN b hb).2.1 (hNk b o hb ho)) h.2)
 | cons y rest =>
  unfold compGo at h
  refine wpAny_mono (Pr.item i y st s _ _ hP h.1 hI x h.2) (fun r s1 h1 => ?_) no
  revert h1; refine fun oO => exG1_2 oO fun v r3 h1 => ?_
  obtain rfl := r3
  refine wpAny_bind (wpAny_mono h1 (fun _ s2 h2 => ?_) no)
  refine wpAny_bind (wpAny_mono h2 (fun _ s3 h3 => ?_) no)
  revert h3; refine fun oO => exG1_5 oO fun st3 x3 hI3 hP3 k3 h3 => ?_
  refine exG1_1 (id hl) fun m hm => ?_
  refine exG0_2 (k3 D _ hDP hD hDm hm) fun hD3 hm3 => ?_
  have N3 : ∀ b o, P0 b → h0.get? b = some o → st3.μ b = none ∧ s3.heap.get? b = some o := fun b o hb ho => k3 b o (hN b hb).2.1 (hN b hb).1 (hNm b hb) (hNk b o hb ho)
  have M3 : ∀ b, P0 b → st3.μ b = none := fun b hb => by
   refine exG1_1 (Option.isSome_iff_exists.mp (hN b hb).2.2.2) fun o ho => ?_
   exact (N3 b o hb ho).1
  refine wpAny_bind (wpAny_mono (keep_run (P := fun b => P b ∨ b = D ∨ P0 b) ht Y x3 (fun b hb => by rcases hb with hb | rfl | hb; exact ⟨Pr.off b hb, hP3 b hb⟩; exact ⟨hD, hD3⟩; exact ⟨(hN b hb).1, M3 b hb⟩) h3) (fun ok s4 h4 => ?_) no)
  revert h4; refine fun oO => exG2_5 oO fun ok' st4 r4 x4 h4 n4 k4 => ?_
  obtain rfl := r4
  have hI4 : It (i + 1) s4.heap := Pr.stable _ _ _ hI3 fun b o hb => k4 b o (.inl hb)
  have hP4 : ∀ b, P b → st4.μ b = none := fun b hb => n4 b (.inl hb) (Pr.there _ _ hI3 b hb)
  have hm4 := k4 D _ (.inr (.inl rfl)) hm3
  have hD4 : st4.μ D = none := n4 D (.inr (.inl rfl)) (by rw [hm3]; rfl)
  have N4 : ∀ b o, P0 b → h0.get? b = some o → s4.heap.get? b = some o := fun b o hb ho => k4 b o (.inr (.inr hb)) (N3 b o hb ho).2
  have M4 : ∀ b, P0 b → st4.μ b = none := fun b hb => n4 b (.inr (.inr hb)) (is0 _ (fun b o hb ho => (N3 b o hb ho).2) b hb)
  induction ok with
  | false =>
   simp only [Bool.false_eq_true, if_false] at h4
   refine wpAny_pure ⟨rfl, rest.length, by simp, i + 1, rest, acc, st4, vs, rfl, h4, hI4, x4, hP4, hD4, ⟨m, hm4⟩, ea, M4, N4⟩
  | true =>
   simp only [if_true] at h4
   refine wpAny_bind (wpAny_bind (wpAny_mono (keep_run (P := fun b => P b ∨ b = D ∨ P0 b) hel Y x4 (fun b hb => by rcases hb with hb | rfl | hb; exact ⟨Pr.off b hb, hP4 b hb⟩; exact ⟨hD, hD4⟩; exact ⟨(hN b hb).1, M4 b hb⟩) h4) (fun u s5 h5 => ?_) no))
   revert h5; refine fun oO => exG2_5 oO fun u' st5 eu x5 r5 n5 k5 => ?_
   obtain ⟨hz, h5⟩ := r5
   have hI5 : It (i + 1) s5.heap := Pr.stable _ _ _ hI4 fun b o hb => k5 b o (.inl hb)
   have hP5 : ∀ b, P b → st5.μ b = none := fun b hb => n5 b (.inl hb) (Pr.there _ _ hI4 b hb)
   have hm5 := k5 D _ (.inr (.inl rfl)) hm4
   have hD5 : st5.μ D = none := n5 D (.inr (.inl rfl)) (by rw [hm4]; rfl)
   have N5 : ∀ b o, P0 b → h0.get? b = some o → s5.heap.get? b = some o := fun b o hb ho => k5 b o (.inr (.inr hb)) (N4 b o hb ho)
   have M5 : ∀ b, P0 b → st5.μ b = none := fun b hb => n5 b (.inr (.inr hb)) (is0 _ N4 b hb)
   refine wpAny_bind (wpAny_list_append_plain (l := D) (items := vs) ⟨m, hm5⟩ (fun h6 hl6 hs6 => ?_) (by rw [size_er ea]; exact Nat.le_trans hz sizeL))
   refine wpAny_pure (wpAny_pure ⟨rfl, rest.length, by simp, i + 1, rest, acc ++ [u'], st5, vs.push u, rfl, h5, Pr.stable _ _ _ hI5 fun b o hb e => hs6.extBut b o (fun q => hDP (q ▸ hb)) e, ?_, hP5, hD5, hl6, ?_, M5, fun b o hb ho => hs6.extBut b o (hN b hb).2.2.1 (N5 b o hb ho)⟩)
   ·exact x5.temps (tk := s5.toks) Y (· = D) (fun b hb => hb ▸ ⟨hD, hD5⟩) fun b o hb e => hs6.extBut b o hb e
   ·rw [Array.toList_push, List.map_append, ea, List.map_cons, List.map_nil, eu]
theorem outer_run {ι : Type} {I D : Addr} {P : Addr → Prop} {It : Nat → Heap → Prop} {cur : Nat → St → Option ι → Prop} {t1 i1 t2 i2 elt : Expr} {ifs : List Expr} {scope : Scope} {pos : Pos} {asg : ι → M Unit} {src2 : M Src} {asg2 : List V → M Unit} {pt : M Bool} {pe : M V} {fin : List V → St → Prop} {R : Result → Shared → Prop}
  (Pr : Proto g C I P It cur t1 asg) (Y : Ok g S md n C) (hmd : md ≠ .hand) (hi2 : RefIt g S md n src2 i2) (T2 : TgOk g S md n t2 asg2) (ht : RefTs g S md n pt ifs) (hel : RefE g S md n pe elt) (hD : Off C D) (hDP : ¬ P D) (hs : ∀ env x, foldedSetIterable i2 env x = pure x)
  (hfin : ∀ acc st' s' (vs : Array Value), Sim g C st' s' → st'.μ D = none → s'.heap.PlainList D vs → vs.toList.map er = acc → fin acc st' → R (.ok .next) s')
  {i : Nat} {rest : List ι} {acc : List V} (h : compGo2 cur asg src2 asg2 pt pe fin i rest acc st) (hI : It i s.heap) (x : Sim g C st s) (hP : ∀ b, P b → st.μ b = none) (hDm : st.μ D = none) {vs : Array Value} (hl : s.heap.PlainList D vs) (ea : vs.toList.map er = acc) :
  codeAny (model g.prog g.w) C.A (.compLoop (twoE t1 i1 t2 i2 elt ifs scope pos) 0 (.ref I) (.ref D) C.env) R s := by
 have no : ∀ e s', PostX g C (fun _ _ => False) e s' → notedBy (model g.prog g.w) C.A C.env (fun e s' => R (.error e) s') e s' := fun e s' p => (postX_false p).elim
 refine codeAny_loop rfl (fun k s => ∃ i rest acc st vs, k = rest.length ∧ compGo2 cur asg src2 asg2 pt pe fin i rest acc st ∧ It i s.heap ∧ Sim g C st s ∧ (∀ b, P b → st.μ b = none) ∧ st.μ D = none ∧ s.heap.PlainList D vs ∧ vs.toList.map er = acc) ?_ rest.length
  ⟨i, rest, acc, st, vs, rfl, h, hI, x, hP, hDm, hl, ea⟩
 intro k s q0q
 refine exG5_8 q0q fun i rest acc st vs r6 h hI x hP hDm hl ea => ?_
 obtain rfl := r6
 show wpAny _ _ ((compTurn (twoE t1 i1 t2 i2 elt ifs scope pos) 0 (.ref I) (.ref D) C.env).onRaise (fun x => do noteFrame x C.env; theTreesLotGoes x)) _ _ s
 refine wpAny_noted ?_
 rw [compTurn_out]
 refine wpAny_bind (wpAny_standAt (wpAny_bind ?_))
 induction rest with
 | nil =>
  unfold compGo2 at h
  refine wpAny_mono (Pr.done i st s _ hP h.1 hI x) (fun r s1 h1 => ?_) fun _ _ e => e
  refine exG0_3 h1 fun r7 x1 k1 => ?_
  obtain rfl := r7
  refine exG1_1 (id hl) fun m hm => ?_
  exact wpAny_pure (hfin acc st s1 vs x1 hDm ⟨m, k1 _ _ hDP hm⟩ ea h.2)
 | cons y rest =>
  unfold compGo2 at h
  refine wpAny_mono (Pr.item i y st s _ _ hP h.1 hI x h.2) (fun r s1 h1 => ?_) no
  revert h1; refine fun oO => exG1_2 oO fun v r8 h1 => ?_
  obtain rfl := r8
  refine wpAny_bind (wpAny_mono h1 (fun _ s2 h2 => ?_) no)
  refine wpAny_bind (wpAny_mono h2 (fun _ s3 h3 => ?_) no)
  revert h3; refine fun oO => exG1_5 oO fun st3 x3 hI3 hP3 k3 h3 => ?_
  refine exG1_1 (id hl) fun m hm => ?_
  refine exG0_2 (k3 D _ hDP hD hDm hm) fun hD3 hm3 => ?_
  refine wpAny_bind (wpAny_tests_nil ?_)
  refine wpAny_bind (wpAny_mono (it_keep (P0 := fun b => P b ∨ b = D) hi2 Y x3 (fun b hb => by
   rcases hb with hb | rfl
   ·exact ⟨Pr.off b hb, hP3 b hb, Pr.there _ _ hI3 b hb⟩
   ·exact ⟨hD, hD3, by rw [hm3]; rfl⟩) h3) (fun xv s4 h4 => wpAny_bind (wpAny_standAt (wpAny_bind (wpAny_of_eq (hs _ _) ?_)))) no)
  refine wpAny_bind (wpAny_holding (wpAny_mono h4 (fun it s5 h5 => ?_) no))
  revert h5; refine fun oO => exG5_6 oO fun sr st5 J PJ ItJ r9 x5 h5 r10 n5 k5 => ?_
  obtain rfl := r9
  obtain ⟨J0, hPJ, hpr, hself⟩ := r10
  have hD5 := (n5 D (.inr rfl)).2
  have hm5 := k5 D _ (.inr rfl) hm3
  have loop : codeAny (model g.prog g.w) C.A (.compLoop (twoE t1 i1 t2 i2 elt ifs scope pos) 1 (.ref J) (.ref D) C.env) (fun r s' => r = .ok .next ∧ ∃ acc' st' vs', compGo2 cur asg src2 asg2 pt pe fin (i + 1) rest acc' st' ∧ It (i + 1) s'.heap ∧ Sim g C st' s' ∧ (∀ b, P b → st'.μ b = none) ∧ st'.μ D = none ∧ s'.heap.PlainList D vs' ∧ vs'.toList.map er = acc') s5 := by
   refine inner_run (P0 := P) (h0 := s5.heap) (hpr _ _ _ _ Y hmd (fun b hb => (hPJ b hb).1) t2 asg2 T2) Y ht hel hD (n5 D (.inr rfl)).1 (fun b hb => ⟨Pr.off b hb, (n5 b (.inl hb)).1, fun q => hDP (q ▸ hb), ?_⟩) ?_ h5 J0 x5 (fun b hb => (hPJ b hb).2.1) hD5 ⟨m, hm5⟩ ea (fun b hb => (n5 b (.inl hb)).2) (fun b o _ e => e)
   ·refine exG1_1 (Option.isSome_iff_exists.mp (Pr.there _ _ hI3 b hb)) fun o ho => ?_
    rw [k5 b o (.inl hb) ho]; rfl
   ·intro acc' st' s' vs' xs' hDs hpl ev hNm hNk hf
    refine ⟨rfl, acc', st', vs', hf, Pr.stable _ _ _ hI3 fun b o hb ho => hNk b o hb (k5 b o (.inl hb) ho), xs', hNm, hDs, hpl, ev⟩
  refine wpAny_bind (wpAny_runOwn (codeAny_mono (compStart_in (g := g) (M := model g.prog g.w) (A := C.A.mark none) loop (hself 0 _ _ _ _ J0 loop) rfl) fun r s6 h6 => ?_))
  refine exG0_2 h6 fun r11 r12 => ?_
  obtain rfl := r11
  refine exG3_7 r12 fun acc' st' vs' q1 q2 q3 q4 q5 q6 q7 => ?_
  exact wpAny_pure ⟨rfl, rest.length, by simp, i + 1, rest, acc', st', vs', rfl, q1, q2, q3, q4, q5, q6, q7⟩
end Kk
end
section
namespace Kk
variable {g : Gx} {S : Sc} {md : Md} {n : Nat}
section
variable {t1 i1 t2 i2 elt : Expr} {ifs : List Expr} {scope : Scope} {pos : Pos} {psrc src2 : M Src} {asg asg2 : List V → M Unit} {pt : M Bool} {pe : M V}
noncomputable def go2 (scope : Scope) (asg : List V → M Unit) (src2 : M Src) (asg2 : List V → M Unit) (pt : M Bool) (pe : M V) (sr : Src) (fin : List V → St → Prop) (st : St) : Prop := compGo2 sr.cur asg src2 asg2 pt pe fin 0 (sr.its st) [] (compSt scope st)
theorem w_AssignComp2 {y : Str} {py spos : Pos} (hm : md ≠ .hand) (hv : stOk S y = true) (hc : compOk scope S = true) (hi : RIt g S md n psrc i1) (T : TgOk g (compS scope S) .comp n t1 asg) (hi2 : RIt g (compS scope S) .comp n src2 i2) (T2 : TgOk g (compS scope S) .comp n t2 asg2)
  (ht : RTs g (compS scope S) .comp n pt ifs) (hel : RE g (compS scope S) .comp n pe elt)
  (hsw : ∀ env : Env, env.scope = S.sc → swapsWith (.ListComp elt [⟨t1, i1, [], 0⟩, ⟨t2, i2, ifs, 0⟩] scope pos) (some (.Name y py)) spos.line env = pure true)
  (hs : ∀ env x, foldedSetIterable i1 env x = pure x := by intro _ _; rfl) (hs2 : ∀ env x, foldedSetIterable i2 env x = pure x := by intro _ _; rfl) :
  RS g S md n (assignM y (compGM scope psrc (go2 scope asg src2 asg2 pt pe))) (.Assign [.Name y py] (.ListComp elt [⟨t1, i1, [], 0⟩, ⟨t2, i2, ifs, 0⟩] scope pos) spos) :=
 ⟨ref_AssignCompG hm hv hc hi.ok T (fun sr I P It fin st h C' s₁ D R Y' Pr hD hDP hfin hI x hP hDm hl => outer_run Pr Y' (by intro h; k_call_by "c" h) hi2.ok T2 ht.ok hel.ok hD hDP hs2 hfin h hI x hP hDm hl rfl) hsw hs⟩
end
theorem w_Raise {x : Str} {p : M (List V)} {e : Expr} {r : List Expr} {np cpos pos : Pos} (hm : md ≠ .hand) (G : GramCls g bmE "Exception.__new__") (b : Glb g S x (.ref g.gram)) (hp : RX g S md n p (e :: r))
  (he : ∀ env, starEach (e :: r) env = (false, eval e env) :: starEach r env := by intro _; rfl) (hpl : ∀ env, (backTo cpos (starEach r env)).any (·.1) = false := by intro _; rfl) :
  RS g S md n (mbind p raiseM) (.Raise (some (.Call (.Name x np) (e :: r) [] cpos)) none pos) := ⟨ref_Raise hm G b hp.ok he hpl⟩
theorem w_TryGram {x : Str} {pb ph : M Fl} {body : List Stmt} {b₀ : Stmt} {suite : List Stmt} {tp hp pos : Pos} (G : GramCls g bmE "Exception.__new__") (hb : RB g S .fn n pb body) (hh : RB g S .hand n ph (b₀ :: suite)) (bl : Glb g S x (.ref g.gram)) :
  RS g S .fn n (tryGramM pb ph) (.Try body [.ExceptHandler (some (.Name x tp)) none (b₀ :: suite) hp] [] [] pos) := ⟨ref_TryGram G (fun h hs => mg_of hs.kin hs.top.g bl.is) hb.ok hh.ok bl⟩
inductive LenPH (Q : V → St → Prop) (st : St) : List V → Prop
 | mk {a : Addr} {vs : Array Value} : st.μ a = some (.pin vs) → vs.size ≤ 100000 → Q (.int vs.size) st → LenPH Q st [.ref a]
noncomputable def lenPM (vs : List V) : M V := fun Q _ st => LenPH Q st vs
theorem call_lenP : CallV g md n (.builtin "len") lenPM := by
 intro S C Y st s Q X vs x h
 replace h : LenPH Q st (vs.map er) := h
 generalize e0 : vs.map er = us at h
 induction h with
 | @mk a ws hm hz h =>
  refine exG1_2 (map1 e0) fun va r1 e1 => ?_
  obtain rfl := r1
  rw [er_ref e1]
  have p : s.heap.PlainList a ws := ⟨0, (x.objs _ _ hm).1⟩
  exact call_len_list p.isList (by omega) ⟨_, st, rfl, x.tick, h⟩
end Kk
end
section
namespace Kk
variable {g : Gx} {S : Sc} {md : Md} {n : Nat}
structure Mine (g : Gx) : Prop where
 K : g.K = HK g.w.params
 tabs : g.tabs = [(49, 45)]
 gram : g.gram = 102
theorem Mine.In (m : Mine g) {h : Heap} (X : g.K.In h) : (HK g.w.params).In h := by rw [← m.K]; exact X
noncomputable def fnOf (K : Frag) (a : Addr) : FuncData := match K.lookup a with
 | some ⟨_, _, .func fd, _⟩ => fd
 | _ => default
noncomputable def bodyOf (fd : FuncData) : List Stmt := match fd.body with | .stmts b => b | _ => []
noncomputable def kindB (fd : FuncData) (l : List Str) : Bool := l.all fun y => fd.scope.names.lookup y == some .local || (fd.scope.names.lookup y == some .cell && fd.scope.names.any fun p => p.1 == y && p.2 == .cell)
theorem binds_mk {fd : FuncData} {names : List Str} {tail : List (Str × Value)} {k : Nat} (hk : kindB fd (names ++ tail.map (·.1)) = true) (hb : ∀ vs : List Value, vs.length = k → ∀ s : Shared, g.K.In s.heap → BindsTo s fd ⟨vs, []⟩ (names.zip vs ++ tail)) : Binds g fd names tail k := ⟨hb, fun y hy => by
 have h2 := List.all_eq_true.mp hk y hy
 simp only [Bool.or_eq_true, beq_iff_eq, Bool.and_eq_true, List.any_eq_true] at h2
 rcases h2 with h2 | ⟨h2, p, hp, e1, e2⟩
 ·exact .inl h2
 ·exact .inr ⟨h2, by obtain ⟨a, b⟩ := p; dsimp only at e1 e2; subst e1; subst e2; exact hp⟩⟩
theorem lenS {P : List Value → Prop} {n : Nat} (h : ∀ a r, r.length = n → P (a :: r)) : ∀ vs : List Value, vs.length = n + 1 → P vs := fun vs => match vs with
 | [] => fun e => (nomatch e)
 | a :: r => fun e => h a r (Nat.succ.inj e)
theorem lenZ {P : List Value → Prop} (h : P []) : ∀ vs : List Value, vs.length = 0 → P vs := fun vs => match vs with
 | [] => fun _ => h
 | a :: r => fun e => (nomatch e)
theorem bdN1 {fd : FuncData} {names : List Str} {tail : List (Str × Value)} (hk : kindB fd (names ++ tail.map (·.1)) = true) (hb : ∀ a0 S, peek g.K S (bindArgs fd ⟨[a0], []⟩) = some (names.zip [a0] ++ tail)) : Binds g fd names tail 1 :=
 binds_mk hk (lenS (P := fun vs => ∀ s : Shared, g.K.In s.heap → BindsTo s fd ⟨vs, []⟩ (names.zip (vs) ++ tail)) fun a0 => lenZ (P := fun vs => ∀ s : Shared, g.K.In s.heap → BindsTo s fd ⟨a0 :: vs, []⟩ (names.zip (a0 :: vs) ++ tail)) fun s X => kp_binds X (hb a0))
theorem bdN2 {fd : FuncData} {names : List Str} {tail : List (Str × Value)} (hk : kindB fd (names ++ tail.map (·.1)) = true) (hb : ∀ a0 a1 S, peek g.K S (bindArgs fd ⟨[a0, a1], []⟩) = some (names.zip [a0, a1] ++ tail)) : Binds g fd names tail 2 :=
 binds_mk hk (lenS (P := fun vs => ∀ s : Shared, g.K.In s.heap → BindsTo s fd ⟨vs, []⟩ (names.zip (vs) ++ tail)) fun a0 => lenS (P := fun vs => ∀ s : Shared, g.K.In s.heap → BindsTo s fd ⟨a0 :: vs, []⟩ (names.zip (a0 :: vs) ++ tail)) fun a1 => lenZ (P := fun vs => ∀ s : Shared, g.K.In s.heap → BindsTo s fd ⟨a0 :: a1 :: vs, []⟩ (names.zip (a0 :: a1 :: vs) ++ tail)) fun s X => kp_binds X (hb a0 a1))
theorem bdN4 {fd : FuncData} {names : List Str} {tail : List (Str × Value)} (hk : kindB fd (names ++ tail.map (·.1)) = true) (hb : ∀ a0 a1 a2 a3 S, peek g.K S (bindArgs fd ⟨[a0, a1, a2, a3], []⟩) = some (names.zip [a0, a1, a2, a3] ++ tail)) : Binds g fd names tail 4 :=
 binds_mk hk (lenS (P := fun vs => ∀ s : Shared, g.K.In s.heap → BindsTo s fd ⟨vs, []⟩ (names.zip (vs) ++ tail)) fun a0 => lenS (P := fun vs => ∀ s : Shared, g.K.In s.heap → BindsTo s fd ⟨a0 :: vs, []⟩ (names.zip (a0 :: vs) ++ tail)) fun a1 => lenS (P := fun vs => ∀ s : Shared, g.K.In s.heap → BindsTo s fd ⟨a0 :: a1 :: vs, []⟩ (names.zip (a0 :: a1 :: vs) ++ tail)) fun a2 => lenS (P := fun vs => ∀ s : Shared, g.K.In s.heap → BindsTo s fd ⟨a0 :: a1 :: a2 :: vs, []⟩ (names.zip (a0 :: a1 :: a2 :: vs) ++ tail)) fun a3 => lenZ (P := fun vs => ∀ s : Shared, g.K.In s.heap → BindsTo s fd ⟨a0 :: a1 :: a2 :: a3 :: vs, []⟩ (names.zip (a0 :: a1 :: a2 :: a3 :: vs) ++ tail)) fun s X => kp_binds X (hb a0 a1 a2 a3))
theorem bdN6 {fd : FuncData} {names : List Str} {tail : List (Str × Value)} (hk : kindB fd (names ++ tail.map (·.1)) = true) (hb : ∀ a0 a1 a2 a3 a4 a5 S, peek g.K S (bindArgs fd ⟨[a0, a1, a2, a3, a4, a5], []⟩) = some (names.zip [a0, a1, a2, a3, a4, a5] ++ tail)) : Binds g fd names tail 6 :=
 binds_mk hk (lenS (P := fun vs => ∀ s : Shared, g.K.In s.heap → BindsTo s fd ⟨vs, []⟩ (names.zip (vs) ++ tail)) fun a0 => lenS (P := fun vs => ∀ s : Shared, g.K.In s.heap → BindsTo s fd ⟨a0 :: vs, []⟩ (names.zip (a0 :: vs) ++ tail)) fun a1 => lenS (P := fun vs => ∀ s : Shared, g.K.In s.heap → BindsTo s fd ⟨a0 :: a1 :: vs, []⟩ (names.zip (a0 :: a1 :: vs) ++ tail)) fun a2 => lenS (P := fun vs => ∀ s : Shared, g.K.In s.heap → BindsTo s fd ⟨a0 :: a1 :: a2 :: vs, []⟩ (names.zip (a0 :: a1 :: a2 :: vs) ++ tail)) fun a3 => lenS (P := fun vs => ∀ s : Shared, g.K.In s.heap → BindsTo s fd ⟨a0 :: a1 :: a2 :: a3 :: vs, []⟩ (names.zip (a0 :: a1 :: a2 :: a3 :: vs) ++ tail)) fun a4 => lenS (P := fun vs => ∀ s : Shared, g.K.In s.heap → BindsTo s fd ⟨a0 :: a1 :: a2 :: a3 :: a4 :: vs, []⟩ (names.zip (a0 :: a1 :: a2 :: a3 :: a4 :: vs) ++ tail)) fun a5 => lenZ (P := fun vs => ∀ s : Shared, g.K.In s.heap → BindsTo s fd ⟨a0 :: a1 :: a2 :: a3 :: a4 :: a5 :: vs, []⟩ (names.zip (a0 :: a1 :: a2 :: a3 :: a4 :: a5 :: vs) ++ tail)) fun s X => kp_binds X (hb a0 a1 a2 a3 a4 a5))
theorem bdN8 {fd : FuncData} {names : List Str} {tail : List (Str × Value)} (hk : kindB fd (names ++ tail.map (·.1)) = true) (hb : ∀ a0 a1 a2 a3 a4 a5 a6 a7 S, peek g.K S (bindArgs fd ⟨[a0, a1, a2, a3, a4, a5, a6, a7], []⟩) = some (names.zip [a0, a1, a2, a3, a4, a5, a6, a7] ++ tail)) : Binds g fd names tail 8 :=
 binds_mk hk (lenS (P := fun vs => ∀ s : Shared, g.K.In s.heap → BindsTo s fd ⟨vs, []⟩ (names.zip (vs) ++ tail)) fun a0 => lenS (P := fun vs => ∀ s : Shared, g.K.In s.heap → BindsTo s fd ⟨a0 :: vs, []⟩ (names.zip (a0 :: vs) ++ tail)) fun a1 => lenS (P := fun vs => ∀ s : Shared, g.K.In s.heap → BindsTo s fd ⟨a0 :: a1 :: vs, []⟩ (names.zip (a0 :: a1 :: vs) ++ tail)) fun a2 => lenS (P := fun vs => ∀ s : Shared, g.K.In s.heap → BindsTo s fd ⟨a0 :: a1 :: a2 :: vs, []⟩ (names.zip (a0 :: a1 :: a2 :: vs) ++ tail)) fun a3 => lenS (P := fun vs => ∀ s : Shared, g.K.In s.heap → BindsTo s fd ⟨a0 :: a1 :: a2 :: a3 :: vs, []⟩ (names.zip (a0 :: a1 :: a2 :: a3 :: vs) ++ tail)) fun a4 => lenS (P := fun vs => ∀ s : Shared, g.K.In s.heap → BindsTo s fd ⟨a0 :: a1 :: a2 :: a3 :: a4 :: vs, []⟩ (names.zip (a0 :: a1 :: a2 :: a3 :: a4 :: vs) ++ tail)) fun a5 => lenS (P := fun vs => ∀ s : Shared, g.K.In s.heap → BindsTo s fd ⟨a0 :: a1 :: a2 :: a3 :: a4 :: a5 :: vs, []⟩ (names.zip (a0 :: a1 :: a2 :: a3 :: a4 :: a5 :: vs) ++ tail)) fun a6 => lenS (P := fun vs => ∀ s : Shared, g.K.In s.heap → BindsTo s fd ⟨a0 :: a1 :: a2 :: a3 :: a4 :: a5 :: a6 :: vs, []⟩ (names.zip (a0 :: a1 :: a2 :: a3 :: a4 :: a5 :: a6 :: vs) ++ tail)) fun a7 => lenZ (P := fun vs => ∀ s : Shared, g.K.In s.heap → BindsTo s fd ⟨a0 :: a1 :: a2 :: a3 :: a4 :: a5 :: a6 :: a7 :: vs, []⟩ (names.zip (a0 :: a1 :: a2 :: a3 :: a4 :: a5 :: a6 :: a7 :: vs) ++ tail)) fun s X => kp_binds X (hb a0 a1 a2 a3 a4 a5 a6 a7))
noncomputable def fn (g : Gx) (a : Addr) : FuncData := fnOf (HK g.w.params) a
theorem ty_append : typeOf (.builtin "list.append") = pure (.type "method_descriptor") := by show builtinType _ = _; rw [builtinType_eq_fast]; kernel_rfl
theorem ty_get : typeOf (.builtin "dict.get") = pure (.type "method_descriptor") := by show builtinType _ = _; rw [builtinType_eq_fast]; kernel_rfl
theorem ty_setdefault : typeOf (.builtin "dict.setdefault") = pure (.type "method_descriptor") := by show builtinType _ = _; rw [builtinType_eq_fast]; kernel_rfl
theorem ty_add : typeOf (.builtin "set.add") = pure (.type "method_descriptor") := by show builtinType _ = _; rw [builtinType_eq_fast]; kernel_rfl
theorem at_Productions (m : Mine g) : attrB g.K 229 "Productions" = true := by rw [m.K]; kernel_rfl
theorem st_Productions (m : Mine g) : setB g.K 229 "Productions" = true := by rw [m.K]; kernel_rfl
theorem at_Prodnames (m : Mine g) : attrB g.K 229 "Prodnames" = true := by rw [m.K]; kernel_rfl
theorem st_Prodnames (m : Mine g) : setB g.K 229 "Prodnames" = true := by rw [m.K]; kernel_rfl
theorem at_Prodmap (m : Mine g) : attrB g.K 229 "Prodmap" = true := by rw [m.K]; kernel_rfl
theorem st_Prodmap (m : Mine g) : setB g.K 229 "Prodmap" = true := by rw [m.K]; kernel_rfl
theorem at_Terminals (m : Mine g) : attrB g.K 229 "Terminals" = true := by rw [m.K]; kernel_rfl
theorem st_Terminals (m : Mine g) : setB g.K 229 "Terminals" = true := by rw [m.K]; kernel_rfl
theorem at_Nonterminals (m : Mine g) : attrB g.K 229 "Nonterminals" = true := by rw [m.K]; kernel_rfl
theorem st_Nonterminals (m : Mine g) : setB g.K 229 "Nonterminals" = true := by rw [m.K]; kernel_rfl
theorem st_First (m : Mine g) : setB g.K 229 "First" = true := by rw [m.K]; kernel_rfl
theorem st_Follow (m : Mine g) : setB g.K 229 "Follow" = true := by rw [m.K]; kernel_rfl
theorem at_Precedence (m : Mine g) : attrB g.K 229 "Precedence" = true := by rw [m.K]; kernel_rfl
theorem st_Precedence (m : Mine g) : setB g.K 229 "Precedence" = true := by rw [m.K]; kernel_rfl
theorem at_UsedPrecedence (m : Mine g) : attrB g.K 229 "UsedPrecedence" = true := by rw [m.K]; kernel_rfl
theorem st_UsedPrecedence (m : Mine g) : setB g.K 229 "UsedPrecedence" = true := by rw [m.K]; kernel_rfl
theorem at_Start (m : Mine g) : attrB g.K 229 "Start" = true := by rw [m.K]; kernel_rfl
theorem st_Start (m : Mine g) : setB g.K 229 "Start" = true := by rw [m.K]; kernel_rfl
theorem at_name (m : Mine g) : attrB g.K 81 "name" = true := by rw [m.K]; kernel_rfl
theorem st_name (m : Mine g) : setB g.K 81 "name" = true := by rw [m.K]; kernel_rfl
theorem at_prod (m : Mine g) : attrB g.K 81 "prod" = true := by rw [m.K]; kernel_rfl
theorem st_prod (m : Mine g) : setB g.K 81 "prod" = true := by rw [m.K]; kernel_rfl
theorem at_number (m : Mine g) : attrB g.K 81 "number" = true := by rw [m.K]; kernel_rfl
theorem st_number (m : Mine g) : setB g.K 81 "number" = true := by rw [m.K]; kernel_rfl
theorem st_func (m : Mine g) : setB g.K 81 "func" = true := by rw [m.K]; kernel_rfl
theorem at_file (m : Mine g) : attrB g.K 81 "file" = true := by rw [m.K]; kernel_rfl
theorem st_file (m : Mine g) : setB g.K 81 "file" = true := by rw [m.K]; kernel_rfl
theorem at_line (m : Mine g) : attrB g.K 81 "line" = true := by rw [m.K]; kernel_rfl
theorem st_line (m : Mine g) : setB g.K 81 "line" = true := by rw [m.K]; kernel_rfl
theorem at_prec (m : Mine g) : attrB g.K 81 "prec" = true := by rw [m.K]; kernel_rfl
theorem st_prec (m : Mine g) : setB g.K 81 "prec" = true := by rw [m.K]; kernel_rfl
theorem st_len (m : Mine g) : setB g.K 81 "len" = true := by rw [m.K]; kernel_rfl
theorem at_usyms (m : Mine g) : attrB g.K 81 "usyms" = true := by rw [m.K]; kernel_rfl
theorem st_usyms (m : Mine g) : setB g.K 81 "usyms" = true := by rw [m.K]; kernel_rfl
theorem st_namemap (m : Mine g) : setB g.K 81 "namemap" = true := by rw [m.K]; kernel_rfl
theorem st_lr_items (m : Mine g) : setB g.K 81 "lr_items" = true := by rw [m.K]; kernel_rfl
theorem st_lr_next (m : Mine g) : setB g.K 81 "lr_next" = true := by rw [m.K]; kernel_rfl
theorem b_len (m : Mine g) (h : S.sc.names.lookup ("len" : Str) = some .globalImplicit) : Blt g S "len" (.builtin "len") := ⟨h, by decide +kernel, by decide +kernel, by rw [m.K]; kernel_rfl, by kernel_rfl⟩
theorem b_tuple (m : Mine g) (h : S.sc.names.lookup ("tuple" : Str) = some .globalImplicit) : Blt g S "tuple" (.type "tuple") := ⟨h, by decide +kernel, by decide +kernel, by rw [m.K]; kernel_rfl, by kernel_rfl⟩
theorem b_set (m : Mine g) (h : S.sc.names.lookup ("set" : Str) = some .globalImplicit) : Blt g S "set" (.type "set") := ⟨h, by decide +kernel, by decide +kernel, by rw [m.K]; kernel_rfl, by kernel_rfl⟩
theorem b_range (m : Mine g) (h : S.sc.names.lookup ("range" : Str) = some .globalImplicit) : Blt g S "range" (.type "range") := ⟨h, by decide +kernel, by decide +kernel, by rw [m.K]; kernel_rfl, by kernel_rfl⟩
theorem b_enumerate (m : Mine g) (h : S.sc.names.lookup ("enumerate" : Str) = some .globalImplicit) : Blt g S "enumerate" (.type "enumerate") := ⟨h, by decide +kernel, by decide +kernel, by rw [m.K]; kernel_rfl, by kernel_rfl⟩
theorem b_dict (m : Mine g) (h : S.sc.names.lookup ("dict" : Str) = some .globalImplicit) : Blt g S "dict" (.type "dict") := ⟨h, by decide +kernel, by decide +kernel, by rw [m.K]; kernel_rfl, by kernel_rfl⟩
theorem b_KeyError (m : Mine g) (h : S.sc.names.lookup ("KeyError" : Str) = some .globalImplicit) : Blt g S "KeyError" (.type "KeyError") := ⟨h, by decide +kernel, by decide +kernel, by rw [m.K]; kernel_rfl, by kernel_rfl⟩
theorem gl_Production (m : Mine g) (h : S.sc.names.lookup ("Production" : Str) = some .globalImplicit) : Glb g S "Production" (.ref 81) := ⟨h, by decide +kernel, by rw [m.K]; kernel_rfl⟩
theorem kp_Production (m : Mine g) : keepIn g.K (.ref 81) = true := by rw [m.K]; kernel_rfl
theorem gl_rightmost_terminal (m : Mine g) (h : S.sc.names.lookup ("rightmost_terminal" : Str) = some .globalImplicit) : Glb g S "rightmost_terminal" (.ref 92) := ⟨h, by decide +kernel, by rw [m.K]; kernel_rfl⟩
theorem kp_rightmost_terminal (m : Mine g) : keepIn g.K (.ref 92) = true := by rw [m.K]; kernel_rfl
theorem gl_Grammar (m : Mine g) (h : S.sc.names.lookup ("Grammar" : Str) = some .globalImplicit) : Glb g S "Grammar" (.ref 229) := ⟨h, by decide +kernel, by rw [m.K]; kernel_rfl⟩
theorem kp_Grammar (m : Mine g) : keepIn g.K (.ref 229) = true := by rw [m.K]; kernel_rfl
theorem gl__name_aliases (m : Mine g) (h : S.sc.names.lookup ("_name_aliases" : Str) = some .globalImplicit) : Glb g S "_name_aliases" (.ref 234) := ⟨h, by decide +kernel, by rw [m.K]; kernel_rfl⟩
theorem lk_aliases (m : Mine g) : g.K.lookup 234 = some ⟨.type "dict", none, .dict #[] 0, #[]⟩ := by rw [m.K]; kernel_rfl
theorem mt_set_precedence (m : Mine g) : methB g.K 229 "set_precedence" 139 = true := by rw [m.K]; kernel_rfl
theorem mt_add_production (m : Mine g) : methB g.K 229 "add_production" 147 = true := by rw [m.K]; kernel_rfl
theorem mt_set_start (m : Mine g) : methB g.K 229 "set_start" 155 = true := by rw [m.K]; kernel_rfl
theorem mk_Production (m : Mine g) : makeB g.K 81 50 = true := by rw [m.K]; kernel_rfl
theorem mk_Grammar (m : Mine g) : makeB g.K 229 118 = true := by rw [m.K]; kernel_rfl
theorem fk_find (m : Mine g) : findCls g.K (.type "dict") (.type "type") (PySem.Str.ofString "fromkeys") = some (.get (.builtin "classmethod_descriptor.__get__") (.builtin "dict.fromkeys") .none (.type "dict")) := by rw [m.K]; kernel_rfl
theorem is_init_P (m : Mine g) : IsFn g 50 (fn g 50) (bodyOf (fn g 50)) := ⟨⟨_, by rw [m.K]; rfl, rfl⟩, by rw [m.K]; kernel_rfl, rfl, rfl, rfl, rfl, rfl, rfl, rfl⟩
theorem is_len_P (m : Mine g) : IsFn g 71 (fn g 71) (bodyOf (fn g 71)) := ⟨⟨_, by rw [m.K]; rfl, rfl⟩, by rw [m.K]; kernel_rfl, rfl, rfl, rfl, rfl, rfl, rfl, rfl⟩
theorem is_rightmost (m : Mine g) : IsFn g 92 (fn g 92) (bodyOf (fn g 92)) := ⟨⟨_, by rw [m.K]; rfl, rfl⟩, by rw [m.K]; kernel_rfl, rfl, rfl, rfl, rfl, rfl, rfl, rfl⟩
theorem is_init_G (m : Mine g) : IsFn g 118 (fn g 118) (bodyOf (fn g 118)) := ⟨⟨_, by rw [m.K]; rfl, rfl⟩, by rw [m.K]; kernel_rfl, rfl, rfl, rfl, rfl, rfl, rfl, rfl⟩
theorem is_set_precedence (m : Mine g) : IsFn g 139 (fn g 139) (bodyOf (fn g 139)) := ⟨⟨_, by rw [m.K]; rfl, rfl⟩, by rw [m.K]; kernel_rfl, rfl, rfl, rfl, rfl, rfl, rfl, rfl⟩
theorem is_add_production (m : Mine g) : IsFn g 147 (fn g 147) (bodyOf (fn g 147)) := ⟨⟨_, by rw [m.K]; rfl, rfl⟩, by rw [m.K]; kernel_rfl, rfl, rfl, rfl, rfl, rfl, rfl, rfl⟩
theorem is_set_start (m : Mine g) : IsFn g 155 (fn g 155) (bodyOf (fn g 155)) := ⟨⟨_, by rw [m.K]; rfl, rfl⟩, by rw [m.K]; kernel_rfl, rfl, rfl, rfl, rfl, rfl, rfl, rfl⟩
theorem gl_GrammarError (m : Mine g) (h : S.sc.names.lookup ("GrammarError" : Str) = some .globalImplicit) : Glb g S "GrammarError" (.ref g.gram) := by rw [m.gram]; exact ⟨h, by decide +kernel, by rw [m.K]; kernel_rfl⟩
theorem gl__law_symbols (m : Mine g) (h : S.sc.names.lookup ("_law_symbols" : Str) = some .globalImplicit) : Glb g S "_law_symbols" (.ref 241) := ⟨h, by decide +kernel, by rw [m.K]; kernel_rfl⟩
theorem kp__law_symbols (m : Mine g) : keepIn g.K (.ref 241) = true := by rw [m.K]; kernel_rfl
theorem gl__law_deed (m : Mine g) (h : S.sc.names.lookup ("_law_deed" : Str) = some .globalImplicit) : Glb g S "_law_deed" (.ref 248) := ⟨h, by decide +kernel, by rw [m.K]; kernel_rfl⟩
theorem kp__law_deed (m : Mine g) : keepIn g.K (.ref 248) = true := by rw [m.K]; kernel_rfl
theorem gl__law_refused (m : Mine g) (h : S.sc.names.lookup ("_law_refused" : Str) = some .globalImplicit) : Glb g S "_law_refused" (.ref 255) := ⟨h, by decide +kernel, by rw [m.K]; kernel_rfl⟩
theorem kp__law_refused (m : Mine g) : keepIn g.K (.ref 255) = true := by rw [m.K]; kernel_rfl
theorem is_str_P (m : Mine g) : IsFn g 57 (fn g 57) (bodyOf (fn g 57)) := ⟨⟨_, by rw [m.K]; rfl, rfl⟩, by rw [m.K]; kernel_rfl, rfl, rfl, rfl, rfl, rfl, rfl, rfl⟩
theorem is_getitem_G (m : Mine g) : IsFn g 132 (fn g 132) (bodyOf (fn g 132)) := ⟨⟨_, by rw [m.K]; rfl, rfl⟩, by rw [m.K]; kernel_rfl, rfl, rfl, rfl, rfl, rfl, rfl, rfl⟩
theorem is_len_G (m : Mine g) : IsFn g 125 (fn g 125) (bodyOf (fn g 125)) := ⟨⟨_, by rw [m.K]; rfl, rfl⟩, by rw [m.K]; kernel_rfl, rfl, rfl, rfl, rfl, rfl, rfl, rfl⟩
theorem is_law_symbols (m : Mine g) : IsFn g 241 (fn g 241) (bodyOf (fn g 241)) := ⟨⟨_, by rw [m.K]; rfl, rfl⟩, by rw [m.K]; kernel_rfl, rfl, rfl, rfl, rfl, rfl, rfl, rfl⟩
theorem is_law_deed (m : Mine g) : IsFn g 248 (fn g 248) (bodyOf (fn g 248)) := ⟨⟨_, by rw [m.K]; rfl, rfl⟩, by rw [m.K]; kernel_rfl, rfl, rfl, rfl, rfl, rfl, rfl, rfl⟩
theorem is_law_refused (m : Mine g) : IsFn g 255 (fn g 255) (bodyOf (fn g 255)) := ⟨⟨_, by rw [m.K]; rfl, rfl⟩, by rw [m.K]; kernel_rfl, rfl, rfl, rfl, rfl, rfl, rfl, rfl⟩
theorem ln_Production (m : Mine g) : lenB g.K 81 71 = true := by rw [m.K]; kernel_rfl
theorem ln_Grammar (m : Mine g) : lenB g.K 229 125 = true := by rw [m.K]; kernel_rfl
theorem sg_Production (m : Mine g) : strB g.K 81 57 = true := by rw [m.K]; kernel_rfl
theorem gt_Grammar (m : Mine g) : getB g.K 229 132 = true := by rw [m.K]; kernel_rfl
theorem nsOf {K : Frag} {h : Heap} {a : Addr} {c : Value} {es : Array DictEntry} {ep : Nat} (X : K.In h) (hl : K.lookup a = some ⟨c, none, .dict es ep, #[]⟩) (hk : (es.all fun e => match e.key with | .str _ _ => true | _ => false) = true) : h.Ns a (nsFind es) :=
 ⟨_, es, ep, X _ _ hl, rfl, (fun e he => by
  have := Array.all_eq_true_iff_forall_mem.mp hk e he
  split at this
  ·rename_i n t q; exact ⟨n, t, q⟩
  ·k_call_by "c" this), fun _ => rfl⟩
noncomputable def esG (P : Params) : Array DictEntry := #[kE P "__module__" 323 (vS "sly.yacc" 194), kE P "__firstlineno__" 327 (.int 76 326), kE P "__static_attributes__" 328 (.ref 100), kE P "__doc__" 329 (.none)]
noncomputable def esY (P : Params) : Array DictEntry := #[kE P "__module__" 203 (vS "sly.yacc" 194), kE P "__firstlineno__" 207 (.int 5 206), kE P "__static_attributes__" 208 (.ref 29), kE P "__weakref__" 210 (.ref 32), kE P "__doc__" 211 (.none)]
theorem quietG (P : Params) : ∀ n ∈ quietNames, nsFind (esG P) n = none := by
 intro n hn
 simp only [quietNames, List.mem_cons, List.not_mem_nil, or_false] at hn
 rcases hn with rfl | rfl | rfl | rfl <;> kernel_rfl
theorem quietY (P : Params) : ∀ n ∈ quietNames, nsFind (esY P) n = none := by
 intro n hn
 simp only [quietNames, List.mem_cons, List.not_mem_nil, or_false] at hn
 rcases hn with rfl | rfl | rfl | rfl <;> kernel_rfl
theorem gm_Grammar (m : Mine g) : GramCls g bmE "Exception.__new__" := by
 refine ⟨[.ref 31, .type "Exception", .type "BaseException", .type "object"], 101, Str.ofString "GrammarError", Str.ofString "GrammarError", [.ref 31], true, [], [], false, none, none, some (.ref 93), none, some (vS "GrammarError" 316), some (vS "GrammarError" 324), some (.bool true), nsFind (esG g.w.params), fun h X => ⟨?_, ?_, ?_⟩, quietG _⟩
 ·rw [m.gram]; exact m.In X _ _ (by kernel_rfl)
 ·exact nsOf (c := .type "dict") (ep := 2) (m.In X) (by kernel_rfl) (by kernel_rfl)
 ·exact .own (c0 := .type "type") (dd := none) (sl := #[some (.ref 22), none, some (vS "YaccError" 196), some (vS "YaccError" 204), some (.builtin "Exception.__new__"), some (.bool true)]) (cd := { name := Str.ofString "YaccError", bases := [.type "Exception"], mro := [.ref 31, .type "Exception", .type "BaseException", .type "object"], ns := 30, qualname := Str.ofString "YaccError", subclasses := [.ref 102] }) (m.In X _ _ (by kernel_rfl)) (nsOf (c := .type "dict") (ep := 3) (es := esY g.w.params) (m.In X) (by kernel_rfl) (by kernel_rfl)) (quietY _) .base
theorem bdN0 {fd : FuncData} {names : List Str} {tail : List (Str × Value)} (hk : kindB fd (names ++ tail.map (·.1)) = true) (hb : ∀ S, peek g.K S (bindArgs fd ⟨[], []⟩) = some (names.zip [] ++ tail)) : Binds g fd names tail 0 :=
 binds_mk hk (lenZ (P := fun vs => ∀ s : Shared, g.K.In s.heap → BindsTo s fd ⟨vs, []⟩ (names.zip (vs) ++ tail)) fun s X => kp_binds X hb)
theorem bdN3 {fd : FuncData} {names : List Str} {tail : List (Str × Value)} (hk : kindB fd (names ++ tail.map (·.1)) = true) (hb : ∀ a0 a1 a2 S, peek g.K S (bindArgs fd ⟨[a0, a1, a2], []⟩) = some (names.zip [a0, a1, a2] ++ tail)) : Binds g fd names tail 3 :=
 binds_mk hk (lenS (P := fun vs => ∀ s : Shared, g.K.In s.heap → BindsTo s fd ⟨vs, []⟩ (names.zip (vs) ++ tail)) fun a0 => lenS (P := fun vs => ∀ s : Shared, g.K.In s.heap → BindsTo s fd ⟨a0 :: vs, []⟩ (names.zip (a0 :: vs) ++ tail)) fun a1 => lenS (P := fun vs => ∀ s : Shared, g.K.In s.heap → BindsTo s fd ⟨a0 :: a1 :: vs, []⟩ (names.zip (a0 :: a1 :: vs) ++ tail)) fun a2 => lenZ (P := fun vs => ∀ s : Shared, g.K.In s.heap → BindsTo s fd ⟨a0 :: a1 :: a2 :: vs, []⟩ (names.zip (a0 :: a1 :: a2 :: vs) ++ tail)) fun s X => kp_binds X (hb a0 a1 a2))
end Kk
end
section
set_option maxHeartbeats 4000000
namespace Kk
variable {g : Gx} {S : Sc} {md : Md} {n : Nat}
noncomputable def r_init_P (m : Mine g) : { p : M Fl // RefB g (fnS (fn g 50)) .fn n p (bodyOf (fn g 50)) } := ⟨_, RB.ok
 (w_cons (w_AssignAttr (st_name m) (w_Name (by kernel_rfl)) (w_Name (by kernel_rfl)))
 (w_cons (w_AssignAttr (st_prod m) (w_CallT (b_tuple m (by kernel_rfl)) (wX_c (w_Name (by kernel_rfl)) wX_nil) call_tuple) (w_Name (by kernel_rfl)))
 (w_cons (w_AssignAttr (st_number m) (w_Name (by kernel_rfl)) (w_Name (by kernel_rfl)))
 (w_cons (w_AssignAttr (st_func m) (w_Name (by kernel_rfl)) (w_Name (by kernel_rfl)))
 (w_cons (w_AssignAttr (st_file m) (w_Name (by kernel_rfl)) (w_Name (by kernel_rfl)))
 (w_cons (w_AssignAttr (st_line m) (w_Name (by kernel_rfl)) (w_Name (by kernel_rfl)))
 (w_cons (w_AssignAttr (st_prec m) (w_Name (by kernel_rfl)) (w_Name (by kernel_rfl)))
 (w_cons (w_AssignAttr (st_len m) (w_CallB (b_len m (by kernel_rfl)) (wX_c (w_Attribute (at_prod m) (w_Name (by kernel_rfl))) wX_nil) call_len) (w_Name (by kernel_rfl)))
 (w_cons (w_AssignAttr (st_usyms m) (w_List wX_nil) (w_Name (by kernel_rfl)))
 (w_cons (w_For (w_enum (by intro h; k_call_by "c" h) (b_enumerate m (by kernel_rfl)) (w_Attribute (at_prod m) (w_Name (by kernel_rfl)))) (tg_Tuple (by intro h; k_call_by "c" h) (.cons (.cons .nil)) (by kernel_rfl))
  (w_one (w_If (w_T_Compare (w_Name (by kernel_rfl)) (w_Attribute (at_usyms m) (w_Name (by kernel_rfl))))
   (w_one (w_Expr (w_Meth1 (k := .list) PySem.F.slot_list_append ty_append call_append (w_Attribute (at_usyms m) (w_Name (by kernel_rfl))) (wX_c (w_Name (by kernel_rfl)) wX_nil)))) w_nil)) w_nil)
 (w_cons (w_Assign (hs := by intro env he; first | rfl | (k_call_by "c" env; k_call_by "c" he; kernel_rfl)) (by kernel_rfl) w_Dict0)
 (w_cons (w_For (w_seq (by intro h; k_call_by "c" h) (w_Attribute (at_prod m) (w_Name (by kernel_rfl)))) (tg_Name (by kernel_rfl))
  (w_cons (w_Expr (w_Meth1 (k := .dict) PySem.F.slot_dict_setdefault ty_setdefault call_setdefault (w_Name (by kernel_rfl)) (wX_c (w_Name (by kernel_rfl)) (wX_c w_Int wX_nil))))
  (w_cons (w_AugSub (by intro h; k_call_by "c" h) (w_Name (by kernel_rfl)) (w_Name (by kernel_rfl)) w_Int)
  (w_one (w_If (w_T_InEmpty (gl__name_aliases m (by kernel_rfl)) (lk_aliases m) (by decide) (w_Name (by kernel_rfl))) w_stuckB w_nil)))) w_nil)
 (w_cons (w_Assign (hs := by intro env he; first | rfl | (k_call_by "c" env; k_call_by "c" he; kernel_rfl)) (by kernel_rfl) (w_FromKeys (b_dict m (by kernel_rfl)) (wX_c (w_Name (by kernel_rfl)) (wX_c w_Int wX_nil)) (fk_find m)))
 (w_cons (w_Assign (hs := by intro env he; first | rfl | (k_call_by "c" env; k_call_by "c" he; kernel_rfl)) (by kernel_rfl) w_Dict0)
 (w_cons (w_For (w_enum (by intro h; k_call_by "c" h) (b_enumerate m (by kernel_rfl)) (w_Attribute (at_prod m) (w_Name (by kernel_rfl)))) (tg_Tuple (by intro h; k_call_by "c" h) (.cons (.cons .nil)) (by kernel_rfl))
  (w_cons (w_If (w_T_Compare (w_Subscript (by intro h; k_call_by "c" h) (w_Name (by kernel_rfl)) (w_Name (by kernel_rfl))) w_Int)
   (w_cons (w_Assign (hs := by intro env he; first | rfl | (k_call_by "c" env; k_call_by "c" he; kernel_rfl)) (by kernel_rfl) (w_F2 (w_Name (by kernel_rfl)) (w_Subscript (by intro h; k_call_by "c" h) (w_Name (by kernel_rfl)) (w_Name (by kernel_rfl)))))
   (w_one (w_AugSub (by intro h; k_call_by "c" h) (w_Name (by kernel_rfl)) (w_Name (by kernel_rfl)) w_Int)))
   (w_one (w_Assign (hs := by intro env he; first | rfl | (k_call_by "c" env; k_call_by "c" he; kernel_rfl)) (by kernel_rfl) (w_Name (by kernel_rfl)))))
  (w_cons (w_AssignSub (w_Lambda (c := 49) (P := 45) (by kernel_rfl) (by rw [m.tabs]; decide) (by decide +kernel) (w_Name (by kernel_rfl))) (w_Name (by kernel_rfl)) (w_Name (by kernel_rfl)))
  (w_one (w_If (w_T_InEmpty (gl__name_aliases m (by kernel_rfl)) (lk_aliases m) (by decide) (w_Name (by kernel_rfl))) w_stuckB w_nil)))) w_nil)
 (w_cons (w_AssignAttr (st_namemap m) (w_Name (by kernel_rfl)) (w_Name (by kernel_rfl)))
 (w_cons (w_AssignAttr (st_lr_items m) (w_List wX_nil) (w_Name (by kernel_rfl)))
 (w_one (w_AssignAttr (st_lr_next m) w_None (w_Name (by kernel_rfl)))))))))))))))))))))⟩
noncomputable def r_len_P (m : Mine g) : { p : M Fl // RefB g (fnS (fn g 71)) .fn n p (bodyOf (fn g 71)) } := ⟨_, RB.ok
 (w_one (w_Return (w_CallB (b_len m (by kernel_rfl)) (wX_c (w_Attribute (at_prod m) (w_Name (by kernel_rfl))) wX_nil) call_len)))⟩
noncomputable def r_str_P (m : Mine g) : { p : M Fl // RefB g (fnS (fn g 57)) .fn n p (bodyOf (fn g 57)) } := ⟨_, RB.ok
 (w_cons (w_If (w_T_value (w_Attribute (at_prod m) (w_Name (by kernel_rfl))))
  (w_one (w_Assign (hs := by intro env he; first | rfl | (k_call_by "c" env; k_call_by "c" he; kernel_rfl)) (by kernel_rfl) (w_JoinedStr (wFs_c (wF_s (w_Attribute (at_name m) (w_Name (by kernel_rfl)))) (wFs_c (wF_Str (by decide +kernel)) (wFs_c (wF_s (w_Join (by decide +kernel) (w_Attribute (at_prod m) (w_Name (by kernel_rfl))))) wFs_nil))) (by decide))))
  (w_one (w_Assign (hs := by intro env he; first | rfl | (k_call_by "c" env; k_call_by "c" he; kernel_rfl)) (by kernel_rfl) (w_JoinedStr (wFs_c (wF_plain (w_Attribute (at_name m) (w_Name (by kernel_rfl)))) (wFs_c (wF_Str (by decide +kernel)) wFs_nil)) (by decide)))))
 (w_cons (w_If (w_T_value (w_Subscript (by intro h; k_call_by "c" h) (w_Attribute (at_prec m) (w_Name (by kernel_rfl))) w_Int))
  (w_one (w_AugCat (by kernel_rfl) (by kernel_rfl) (w_PrecText (w_Attribute (at_prec m) (w_Name (by kernel_rfl)))))) w_nil)
 (w_one (w_Return (w_Name (by kernel_rfl))))))⟩
noncomputable def r_rightmost (m : Mine g) : { p : M Fl // RefB g (fnS (fn g 92)) .fn n p (bodyOf (fn g 92)) } := ⟨_, RB.ok
 (w_cons (w_Assign (hs := by intro env he; first | rfl | (k_call_by "c" env; k_call_by "c" he; kernel_rfl)) (by kernel_rfl) (w_BinOp (w_CallB (b_len m (by kernel_rfl)) (wX_c (w_Name (by kernel_rfl)) wX_nil) call_len) w_Int))
 (w_cons (w_While (w_T_Compare (w_Name (by kernel_rfl)) w_Int)
  (w_cons (w_If (w_T_Compare (w_Subscript (by intro h; k_call_by "c" h) (w_Name (by kernel_rfl)) (w_Name (by kernel_rfl))) (w_Name (by kernel_rfl)))
   (w_one (w_Return (w_Subscript (by intro h; k_call_by "c" h) (w_Name (by kernel_rfl)) (w_Name (by kernel_rfl))))) w_nil)
  (w_one (w_AugName (by kernel_rfl) (by kernel_rfl) w_Int))) w_nil)
 (w_one (w_Return w_None))))⟩
noncomputable def r_init_G (m : Mine g) : { p : M Fl // RefB g (fnS (fn g 118)) .fn n p (bodyOf (fn g 118)) } := ⟨_, RB.ok
 (w_cons (w_AssignAttr (st_Productions m) (w_List (wX_c w_None wX_nil)) (w_Name (by kernel_rfl)))
 (w_cons (w_AssignAttr (st_Prodnames m) w_Dict0 (w_Name (by kernel_rfl)))
 (w_cons (w_AssignAttr (st_Prodmap m) w_Dict0 (w_Name (by kernel_rfl)))
 (w_cons (w_AssignAttr (st_Terminals m) w_Dict0 (w_Name (by kernel_rfl)))
 (w_cons (w_For (w_seq (by intro h; k_call_by "c" h) (w_Name (by kernel_rfl))) (tg_Name (by kernel_rfl))
  (w_one (w_AssignSub (w_List wX_nil) (w_Attribute (at_Terminals m) (w_Name (by kernel_rfl))) (w_Name (by kernel_rfl)))) w_nil)
 (w_cons (w_AssignSub (w_List wX_nil) (w_Attribute (at_Terminals m) (w_Name (by kernel_rfl))) w_Str)
 (w_cons (w_AssignAttr (st_Nonterminals m) w_Dict0 (w_Name (by kernel_rfl)))
 (w_cons (w_AssignAttr (st_First m) w_Dict0 (w_Name (by kernel_rfl)))
 (w_cons (w_AssignAttr (st_Follow m) w_Dict0 (w_Name (by kernel_rfl)))
 (w_cons (w_AssignAttr (st_Precedence m) w_Dict0 (w_Name (by kernel_rfl)))
 (w_cons (w_AssignAttr (st_UsedPrecedence m) (w_CallT0 (b_set m (by kernel_rfl)) call_set) (w_Name (by kernel_rfl)))
 (w_one (w_AssignAttr (st_Start m) w_None (w_Name (by kernel_rfl)))))))))))))))⟩
noncomputable def r_len_G (m : Mine g) : { p : M Fl // RefB g (fnS (fn g 125)) .fn n p (bodyOf (fn g 125)) } := ⟨_, RB.ok
 (w_one (w_Return (w_CallB (b_len m (by kernel_rfl)) (wX_c (w_Attribute (at_Productions m) (w_Name (by kernel_rfl))) wX_nil) call_len)))⟩
noncomputable def r_getitem_G (m : Mine g) : { p : M Fl // ∀ md, RefB g (fnS (fn g 132)) md n p (bodyOf (fn g 132)) } := ⟨_, fun md => RB.ok
 (w_one (w_Return (w_SubL (w_Attribute (at_Productions m) (w_Name (by kernel_rfl))) (w_Name (by kernel_rfl)))))⟩
noncomputable def r_set_precedence (m : Mine g) : { p : M Fl // RefB g (fnS (fn g 139)) .fn n p (bodyOf (fn g 139)) } := ⟨_, RB.ok
 (w_cons (w_AssertHolds (w_T_Compare (w_Attribute (at_Productions m) (w_Name (by kernel_rfl))) (w_List (wX_c w_None wX_nil))))
 (w_cons (w_If (w_T_Compare (w_Name (by kernel_rfl)) (w_Attribute (at_Precedence m) (w_Name (by kernel_rfl))))
  (w_one (w_Raise (by intro h; k_call_by "c" h) (gm_Grammar m) (gl_GrammarError m (by kernel_rfl)) (wX_c (w_JoinedStr (wFs_c (wF_Str (by decide +kernel)) (wFs_c (wF_r (w_Name (by kernel_rfl))) wFs_nil)) (by decide)) wX_nil))) w_nil)
 (w_cons (w_If (w_T_Compare (w_Name (by kernel_rfl)) (w_List (wX_c w_Str (wX_c w_Str (wX_c w_Str wX_nil)))))
  (w_one (w_Raise (by intro h; k_call_by "c" h) (gm_Grammar m) (gl_GrammarError m (by kernel_rfl)) (wX_c (w_JoinedStr (wFs_c (wF_Str (by decide +kernel)) (wFs_c (wF_r (w_Name (by kernel_rfl))) (wFs_c (wF_Str (by decide +kernel)) wFs_nil))) (by decide)) wX_nil))) w_nil)
 (w_one (w_AssignSub (w_Tuple (wX_c (w_Name (by kernel_rfl)) (wX_c (w_Name (by kernel_rfl)) wX_nil))) (w_Attribute (at_Precedence m) (w_Name (by kernel_rfl))) (w_Name (by kernel_rfl)))))))⟩
theorem bd_Production (m : Mine g) : Binds g (fn g 50) ["self", "number", "name", "prod", "precedence", "func", "file", "line"] [] 8 := bdN8 (by kernel_rfl) (by rw [m.K]; intros; kernel_rfl)
theorem cv_Production (m : Mine g) : CallV g .fn (n + 1) (.ref 81) (makeM 81 (fnM ["self", "number", "name", "prod", "precedence", "func", "file", "line"] (([] : List (Str × Value)).map fun p => (p.1, er p.2)) 8 (r_init_P (n := n) m).1)) := callV_cls (mk_Production m) (is_init_P m) (bd_Production m) (r_init_P m).2
theorem bd_Production4 (m : Mine g) : Binds g (fn g 50) ["self", "number", "name", "prod"] [("precedence", .ref 42), ("func", .none), ("file", .str "" 232), ("line", .int 0 233)] 4 := bdN4 (by kernel_rfl) (by rw [m.K]; intros; kernel_rfl)
theorem cv_Production4 (m : Mine g) : CallV g .fn (n + 1) (.ref 81) (makeM 81 (fnM ["self", "number", "name", "prod"] (([("precedence", .ref 42), ("func", .none), ("file", .str "" 232), ("line", .int 0 233)] : List (Str × Value)).map fun p => (p.1, er p.2)) 4 (r_init_P (n := n) m).1)) := callV_cls (mk_Production m) (is_init_P m) (bd_Production4 m) (r_init_P m).2
theorem bd_len_P (m : Mine g) : Binds g (fn g 71) ["self"] [] 1 := bdN1 (by kernel_rfl) (by rw [m.K]; intros; kernel_rfl)
theorem cv_len_P (m : Mine g) : CallV g .fn (n + 1) (.ref 71) (fnM ["self"] (([] : List (Str × Value)).map fun p => (p.1, er p.2)) 1 (r_len_P (n := n) m).1) := callV_fn (is_len_P m) (bd_len_P m) (r_len_P m).2
theorem bd_str_P (m : Mine g) : Binds g (fn g 57) ["self"] [] 1 := bdN1 (by kernel_rfl) (by rw [m.K]; intros; kernel_rfl)
theorem cv_str_P (m : Mine g) : CallV g .fn (n + 1) (.ref 57) (fnM ["self"] (([] : List (Str × Value)).map fun p => (p.1, er p.2)) 1 (r_str_P (n := n) m).1) := callV_fn (is_str_P m) (bd_str_P m) (r_str_P m).2
theorem bd_rightmost (m : Mine g) : Binds g (fn g 92) ["symbols", "terminals"] [] 2 := bdN2 (by kernel_rfl) (by rw [m.K]; intros; kernel_rfl)
theorem cv_rightmost (m : Mine g) : CallV g .fn (n + 1) (.ref 92) (fnM ["symbols", "terminals"] (([] : List (Str × Value)).map fun p => (p.1, er p.2)) 2 (r_rightmost (n := n) m).1) := callV_fn (is_rightmost m) (bd_rightmost m) (r_rightmost m).2
theorem bd_Grammar (m : Mine g) : Binds g (fn g 118) ["self", "terminals"] [] 2 := bdN2 (by kernel_rfl) (by rw [m.K]; intros; kernel_rfl)
theorem cv_Grammar (m : Mine g) : CallV g .fn (n + 1) (.ref 229) (makeM 229 (fnM ["self", "terminals"] (([] : List (Str × Value)).map fun p => (p.1, er p.2)) 2 (r_init_G (n := n) m).1)) := callV_cls (mk_Grammar m) (is_init_G m) (bd_Grammar m) (r_init_G m).2
theorem bd_len_G (m : Mine g) : Binds g (fn g 125) ["self"] [] 1 := bdN1 (by kernel_rfl) (by rw [m.K]; intros; kernel_rfl)
theorem cv_len_G (m : Mine g) : CallV g .fn (n + 1) (.ref 125) (fnM ["self"] (([] : List (Str × Value)).map fun p => (p.1, er p.2)) 1 (r_len_G (n := n) m).1) := callV_fn (is_len_G m) (bd_len_G m) (r_len_G m).2
theorem bd_getitem_G (m : Mine g) : Binds g (fn g 132) ["self", "index"] [] 2 := bdN2 (by kernel_rfl) (by rw [m.K]; intros; kernel_rfl)
theorem cv_getitem_G (hm : md ≠ .comp) (m : Mine g) : CallV g md (n + 1) (.ref 132) (fnM ["self", "index"] (([] : List (Str × Value)).map fun p => (p.1, er p.2)) 2 (r_getitem_G (n := n) m).1) := callV_fn (is_getitem_G m) (bd_getitem_G m) ((r_getitem_G m).2 md) hm
theorem bd_set_precedence (m : Mine g) : Binds g (fn g 139) ["self", "term", "assoc", "level"] [] 4 := bdN4 (by kernel_rfl) (by rw [m.K]; intros; kernel_rfl)
theorem cv_set_precedence (m : Mine g) : CallV g .fn (n + 1) (.ref 139) (fnM ["self", "term", "assoc", "level"] (([] : List (Str × Value)).map fun p => (p.1, er p.2)) 4 (r_set_precedence (n := n) m).1) := callV_fn (is_set_precedence m) (bd_set_precedence m) (r_set_precedence m).2
noncomputable def r_law_symbols (m : Mine g) : { p : M Fl // RefB g (fnS (fn g 241)) .fn n p (bodyOf (fn g 241)) } := ⟨_, RB.ok
 (w_one (w_Return (w_List (wX_c w_Str (wX_c w_Str (wX_c w_Str (wX_c w_Str (wX_c w_Str (wX_c w_Str (wX_c w_Str (wX_c w_Str wX_nil)))))))))))⟩
theorem bd_law_symbols (m : Mine g) : Binds g (fn g 241) [] [] 0 := bdN0 (by kernel_rfl) (by rw [m.K]; intros; kernel_rfl)
theorem cv_law_symbols (m : Mine g) : CallV g .fn (n + 1) (.ref 241) (fnM [] (([] : List (Str × Value)).map fun p => (p.1, er p.2)) 0 (r_law_symbols (n := n) m).1) := callV_fn (is_law_symbols m) (bd_law_symbols m) (r_law_symbols m).2
noncomputable def r_law_deed (m : Mine g) : { p : M Fl // RefB g (fnS (fn g 248)) .fn (n + 1) p (bodyOf (fn g 248)) } := ⟨_, RB.ok
 (w_cons (w_AssignSwap (x := "kind") (y := "rest") (by intro h; k_call_by "c" h) (by kernel_rfl) (by kernel_rfl) (w_Tuple (wX_c (w_BinOp (w_Name (by kernel_rfl)) w_Int) (wX_c (w_BinOp (w_Name (by kernel_rfl)) w_Int) wX_nil))) (by intro env he; k_call_by "c" env; k_call_by "c" he; kernel_rfl))
 (w_cons (w_Assign (hs := by intro env he; first | rfl | (k_call_by "c" env; k_call_by "c" he; kernel_rfl)) (by kernel_rfl) (w_Subscript (by intro h; k_call_by "c" h) w_Str (w_BinOp (w_Name (by kernel_rfl)) w_Int)))
 (w_cons (w_Assign (hs := by intro env he; first | rfl | (k_call_by "c" env; k_call_by "c" he; kernel_rfl)) (by kernel_rfl) (w_List wX_nil))
 (w_cons (w_Assign (hs := by intro env he; first | rfl | (k_call_by "c" env; k_call_by "c" he; kernel_rfl)) (by kernel_rfl) (w_BinOp (w_Name (by kernel_rfl)) w_Int))
 (w_cons (w_For (w_range (by intro h; k_call_by "c" h) (b_range m (by kernel_rfl)) (w_BinOp (w_BinOp (w_Name (by kernel_rfl)) w_Int) w_Int)) (tg_Name (by kernel_rfl))
  (w_cons (w_Expr (w_Meth1 (k := .list) PySem.F.slot_list_append ty_append call_append (w_Name (by kernel_rfl)) (wX_c (w_Subscript (by intro h; k_call_by "c" h) (w_CallG0 (gl__law_symbols m (by kernel_rfl)) (kp__law_symbols m) (cv_law_symbols m)) (w_BinOp (w_Name (by kernel_rfl)) w_Int)) wX_nil)))
  (w_one (w_Assign (hs := by intro env he; first | rfl | (k_call_by "c" env; k_call_by "c" he; kernel_rfl)) (by kernel_rfl) (w_BinOp (w_Name (by kernel_rfl)) w_Int)))) w_nil)
 (w_cons (w_If (w_T_Compare (w_Name (by kernel_rfl)) w_Int)
  (w_one (w_Return (w_Tuple (wX_c (w_Name (by kernel_rfl)) (wX_c (w_Name (by kernel_rfl)) (wX_c w_Bool (wX_c w_Str wX_nil))))))) w_nil)
 (w_cons (w_If (w_T_Compare (w_Name (by kernel_rfl)) w_Int)
  (w_one (w_Return (w_Tuple (wX_c (w_Name (by kernel_rfl)) (wX_c (w_Name (by kernel_rfl)) (wX_c (w_Compare (w_BinOp (w_Name (by kernel_rfl)) w_Int) w_Int) (wX_c (w_Subscript (by intro h; k_call_by "c" h) (w_List (wX_c w_Str (wX_c w_Str wX_nil))) (w_BinOp (w_Name (by kernel_rfl)) w_Int)) wX_nil))))))) w_nil)
 (w_cons (w_If (w_T_Compare (w_Name (by kernel_rfl)) w_Int)
  (w_one (w_Return (w_Tuple (wX_c (w_Name (by kernel_rfl)) (wX_c (w_Subscript (by intro h; k_call_by "c" h) (w_List (wX_c (w_BinOp (w_Name (by kernel_rfl)) (w_List (wX_c w_Str wX_nil))) (wX_c (w_BinOp (w_BinOp (w_List (wX_c w_Str (wX_c w_Str wX_nil))) (w_Name (by kernel_rfl))) (w_List (wX_c w_Str wX_nil))) wX_nil))) (w_BinOp (w_BinOp (w_Name (by kernel_rfl)) w_Int) w_Int)) (wX_c w_Bool (wX_c w_None wX_nil))))))) w_nil)
 (w_cons (w_If (w_T_Compare (w_Name (by kernel_rfl)) w_Int)
  (w_one (w_Return (w_Tuple (wX_c (w_Subscript (by intro h; k_call_by "c" h) (w_List (wX_c w_Str (wX_c w_Str wX_nil))) (w_BinOp (w_Name (by kernel_rfl)) w_Int)) (wX_c (w_Name (by kernel_rfl)) (wX_c w_Bool (wX_c w_None wX_nil))))))) w_nil)
 (w_cons (w_If (w_T_Compare (w_Name (by kernel_rfl)) w_Int)
  (w_one (w_Return (w_Tuple (wX_c (w_Name (by kernel_rfl)) (wX_c (w_BinOp (w_Name (by kernel_rfl)) (w_List (wX_c (w_Subscript (by intro h; k_call_by "c" h) (w_List (wX_c w_Str (wX_c w_Str wX_nil))) (w_BinOp (w_Name (by kernel_rfl)) w_Int)) wX_nil))) (wX_c w_Bool (wX_c w_None wX_nil))))))) w_nil)
 (w_one (w_Return (w_Tuple (wX_c (w_Name (by kernel_rfl)) (wX_c (w_Name (by kernel_rfl)) (wX_c w_Bool (wX_c w_None wX_nil)))))))))))))))))⟩
theorem bd_law_deed (m : Mine g) : Binds g (fn g 248) ["number"] [] 1 := bdN1 (by kernel_rfl) (by rw [m.K]; intros; kernel_rfl)
theorem cv_law_deed (m : Mine g) : CallV g .fn (n + 1 + 1) (.ref 248) (fnM ["number"] (([] : List (Str × Value)).map fun p => (p.1, er p.2)) 1 (r_law_deed (n := n) m).1) := callV_fn (is_law_deed m) (bd_law_deed m) (r_law_deed m).2
noncomputable def r_law_refused (m : Mine g) : { p : M Fl // RefB g (fnS (fn g 255)) .fn (n + 1) p (bodyOf (fn g 255)) } := ⟨_, RB.ok
 (w_cons (w_TryGram (gm_Grammar m)
  (w_one (w_Expr (w_MethOwn (mt_set_precedence m) (cv_set_precedence m) (w_Name (by kernel_rfl)) (wX_c (w_Name (by kernel_rfl)) (wX_c (w_Name (by kernel_rfl)) (wX_c w_Int wX_nil))))))
  (w_one (w_Return w_Bool)) (gl_GrammarError m (by kernel_rfl)))
 (w_one (w_Return w_Bool)))⟩
theorem bd_law_refused (m : Mine g) : Binds g (fn g 255) ["grammar", "term", "side"] [] 3 := bdN3 (by kernel_rfl) (by rw [m.K]; intros; kernel_rfl)
theorem cv_law_refused (m : Mine g) : CallV g .fn (n + 1 + 1) (.ref 255) (fnM ["grammar", "term", "side"] (([] : List (Str × Value)).map fun p => (p.1, er p.2)) 3 (r_law_refused (n := n) m).1) := callV_fn (is_law_refused m) (bd_law_refused m) (r_law_refused m).2
noncomputable def r_set_start (m : Mine g) : { p : M Fl // RefB g (fnS (fn g 155)) .fn (n + 1) p (bodyOf (fn g 155)) } := ⟨_, RB.ok
 (w_cons (w_If (w_T_Not (w_T_value (w_Name (by kernel_rfl))))
  (w_one (w_Assign (hs := by intro env he; first | rfl | (k_call_by "c" env; k_call_by "c" he; kernel_rfl)) (by kernel_rfl) (w_Attribute (at_name m) (w_Subscript (by intro h; k_call_by "c" h) (w_Attribute (at_Productions m) (w_Name (by kernel_rfl))) w_Int)))) w_nil)
 (w_cons (w_If (w_T_Compare (w_Name (by kernel_rfl)) (w_Attribute (at_Nonterminals m) (w_Name (by kernel_rfl))))
  (w_one (w_Raise (by intro h; k_call_by "c" h) (gm_Grammar m) (gl_GrammarError m (by kernel_rfl)) (wX_c (w_JoinedStr (wFs_c (wF_Str (by decide +kernel)) (wFs_c (wF_plain (w_Name (by kernel_rfl))) (wFs_c (wF_Str (by decide +kernel)) wFs_nil))) (by decide)) wX_nil))) w_nil)
 (w_cons (w_AssignSub (w_CallG (gl_Production m (by kernel_rfl)) (kp_Production m) (wX_c w_Int (wX_c w_Str (wX_c (w_List (wX_c (w_Name (by kernel_rfl)) wX_nil)) wX_nil))) (cv_Production4 m)) (w_Attribute (at_Productions m) (w_Name (by kernel_rfl))) w_Int)
 (w_cons (w_Expr (w_Meth1 (k := .list) PySem.F.slot_list_append ty_append call_append (w_Subscript (by intro h; k_call_by "c" h) (w_Attribute (at_Nonterminals m) (w_Name (by kernel_rfl))) (w_Name (by kernel_rfl))) (wX_c w_Int wX_nil)))
 (w_one (w_AssignAttr (st_Start m) (w_Name (by kernel_rfl)) (w_Name (by kernel_rfl))))))))⟩
theorem bd_set_start (m : Mine g) : Binds g (fn g 155) ["self", "start"] [] 2 := bdN2 (by kernel_rfl) (by rw [m.K]; intros; kernel_rfl)
theorem cv_set_start (m : Mine g) : CallV g .fn (n + 1 + 1) (.ref 155) (fnM ["self", "start"] (([] : List (Str × Value)).map fun p => (p.1, er p.2)) 2 (r_set_start (n := n) m).1) := callV_fn (is_set_start m) (bd_set_start m) (r_set_start m).2
end Kk
end
section
set_option maxHeartbeats 4000000
namespace Kk
variable {g : Gx} {S : Sc} {md : Md} {n : Nat}
noncomputable def r_add_production_c9 (m : Mine g) : { p : M Fl // RefB g (fnS (fn g 147)) .fn (n + 3) p ((bodyOf (fn g 147)).drop 9) } := ⟨_, RB.ok
 (w_cons (w_Assign (hs := by intro env he; first | rfl | (k_call_by "c" env; k_call_by "c" he; kernel_rfl)) (by kernel_rfl) (w_CallG (gl_Production m (by kernel_rfl)) (kp_Production m) (wX_c (w_Name (by kernel_rfl)) (wX_c (w_Name (by kernel_rfl)) (wX_c (w_Name (by kernel_rfl)) (wX_c (w_Name (by kernel_rfl)) (wX_c (w_Name (by kernel_rfl)) (wX_c (w_Name (by kernel_rfl)) (wX_c (w_Name (by kernel_rfl)) wX_nil))))))) (cv_Production m)))
 (w_cons (w_Expr (w_Meth1 (k := .list) PySem.F.slot_list_append ty_append call_append (w_Attribute (at_Productions m) (w_Name (by kernel_rfl))) (wX_c (w_Name (by kernel_rfl)) wX_nil)))
 (w_cons (w_AssignSub (w_Name (by kernel_rfl)) (w_Attribute (at_Prodmap m) (w_Name (by kernel_rfl))) (w_Name (by kernel_rfl)))
 (w_one (w_TryKey
  (w_one (w_Expr (w_Meth1 (k := .list) PySem.F.slot_list_append ty_append call_append (w_Subscript (by intro h; k_call_by "c" h) (w_Attribute (at_Prodnames m) (w_Name (by kernel_rfl))) (w_Name (by kernel_rfl))) (wX_c (w_Name (by kernel_rfl)) wX_nil))))
  (w_one (w_AssignSub (w_List (wX_c (w_Name (by kernel_rfl)) wX_nil)) (w_Attribute (at_Prodnames m) (w_Name (by kernel_rfl))) (w_Name (by kernel_rfl)))) (b_KeyError m (by kernel_rfl)))))))⟩
noncomputable def r_add_production_c6 (m : Mine g) : { p : M Fl // RefB g (fnS (fn g 147)) .fn (n + 3) p ((bodyOf (fn g 147)).drop 6) } := ⟨_, RB.ok
 (w_cons (w_Assign (hs := by intro env he; first | rfl | (k_call_by "c" env; k_call_by "c" he; kernel_rfl)) (by kernel_rfl) (w_CallB (b_len m (by kernel_rfl)) (wX_c (w_Attribute (at_Productions m) (w_Name (by kernel_rfl))) wX_nil) call_len))
 (w_cons (w_If (w_T_Compare (w_Name (by kernel_rfl)) (w_Attribute (at_Nonterminals m) (w_Name (by kernel_rfl))))
  (w_one (w_AssignSub (w_List wX_nil) (w_Attribute (at_Nonterminals m) (w_Name (by kernel_rfl))) (w_Name (by kernel_rfl)))) w_nil)
 (w_cons (w_For (w_seq (by intro h; k_call_by "c" h) (w_Name (by kernel_rfl))) (tg_Name (by kernel_rfl))
  (w_one (w_If (w_T_Compare (w_Name (by kernel_rfl)) (w_Attribute (at_Terminals m) (w_Name (by kernel_rfl))))
   (w_one (w_Expr (w_Meth1 (k := .list) PySem.F.slot_list_append ty_append call_append (w_Subscript (by intro h; k_call_by "c" h) (w_Attribute (at_Terminals m) (w_Name (by kernel_rfl))) (w_Name (by kernel_rfl))) (wX_c (w_Name (by kernel_rfl)) wX_nil))))
   (w_cons (w_If (w_T_Compare (w_Name (by kernel_rfl)) (w_Attribute (at_Nonterminals m) (w_Name (by kernel_rfl))))
    (w_one (w_AssignSub (w_List wX_nil) (w_Attribute (at_Nonterminals m) (w_Name (by kernel_rfl))) (w_Name (by kernel_rfl)))) w_nil)
   (w_one (w_Expr (w_Meth1 (k := .list) PySem.F.slot_list_append ty_append call_append (w_Subscript (by intro h; k_call_by "c" h) (w_Attribute (at_Nonterminals m) (w_Name (by kernel_rfl))) (w_Name (by kernel_rfl))) (wX_c (w_Name (by kernel_rfl)) wX_nil))))))) w_nil) ⟨(r_add_production_c9 (n := n) m).2⟩)))⟩
noncomputable def r_add_production_c4 (m : Mine g) : { p : M Fl // RefB g (fnS (fn g 147)) .fn (n + 3) p ((bodyOf (fn g 147)).drop 4) } := ⟨_, RB.ok
 (w_cons (w_Assign (hs := by intro env he; first | rfl | (k_call_by "c" env; k_call_by "c" he; kernel_rfl)) (by kernel_rfl) (w_Arrow (w_Name (by kernel_rfl)) (w_Name (by kernel_rfl))))
 (w_cons (w_If (w_T_Compare (w_Name (by kernel_rfl)) (w_Attribute (at_Prodmap m) (w_Name (by kernel_rfl))))
  (w_cons (w_Assign (hs := by intro env he; first | rfl | (k_call_by "c" env; k_call_by "c" he; kernel_rfl)) (by kernel_rfl) (w_Subscript (by intro h; k_call_by "c" h) (w_Attribute (at_Prodmap m) (w_Name (by kernel_rfl))) (w_Name (by kernel_rfl))))
  (w_one (w_Raise (by intro h; k_call_by "c" h) (gm_Grammar m) (gl_GrammarError m (by kernel_rfl)) (wX_c (w_BinOp (w_JoinedStr (wFs_c (wF_plain (w_Name (by kernel_rfl))) (wFs_c (wF_Str (by decide +kernel)) (wFs_c (wF_plain (w_Name (by kernel_rfl))) (wFs_c (wF_Str (by decide +kernel)) (wFs_c (wF_own (sg_Production m) (cv_str_P m) (w_Name (by kernel_rfl))) (wFs_c (wF_Str (by decide +kernel)) wFs_nil)))))) (by decide)) (w_JoinedStr (wFs_c (wF_Str (by decide +kernel)) (wFs_c (wF_plain (w_Attribute (at_file m) (w_Name (by kernel_rfl)))) (wFs_c (wF_Str (by decide +kernel)) (wFs_c (wF_plain (w_Attribute (at_line m) (w_Name (by kernel_rfl)))) wFs_nil)))) (by decide))) wX_nil)))) w_nil) ⟨(r_add_production_c6 (n := n) m).2⟩))⟩
noncomputable def r_add_production_c3 (m : Mine g) : { p : M Fl // RefB g (fnS (fn g 147)) .fn (n + 3) p ((bodyOf (fn g 147)).drop 3) } := ⟨_, RB.ok
 (w_cons (w_If (w_T_Compare w_Str (w_Name (by kernel_rfl)))
  (w_cons (w_If (w_T_Compare (w_Subscript (by intro h; k_call_by "c" h) (w_Name (by kernel_rfl)) (w_USub w_Int)) w_Str)
   (w_one (w_Raise (by intro h; k_call_by "c" h) (gm_Grammar m) (gl_GrammarError m (by kernel_rfl)) (wX_c (w_JoinedStr (wFs_c (wF_plain (w_Name (by kernel_rfl))) (wFs_c (wF_Str (by decide +kernel)) (wFs_c (wF_plain (w_Name (by kernel_rfl))) (wFs_c (wF_Str (by decide +kernel)) wFs_nil)))) (by decide)) wX_nil))) w_nil)
  (w_cons (w_If (w_T_Compare (w_Subscript (by intro h; k_call_by "c" h) (w_Name (by kernel_rfl)) (w_USub w_Int)) w_Str)
   (w_one (w_Raise (by intro h; k_call_by "c" h) (gm_Grammar m) (gl_GrammarError m (by kernel_rfl)) (wX_c (w_JoinedStr (wFs_c (wF_plain (w_Name (by kernel_rfl))) (wFs_c (wF_Str (by decide +kernel)) (wFs_c (wF_plain (w_Name (by kernel_rfl))) (wFs_c (wF_Str (by decide +kernel)) wFs_nil)))) (by decide)) wX_nil))) w_nil)
  (w_cons (w_Assign (hs := by intro env he; first | rfl | (k_call_by "c" env; k_call_by "c" he; kernel_rfl)) (by kernel_rfl) (w_Subscript (by intro h; k_call_by "c" h) (w_Name (by kernel_rfl)) (w_USub w_Int)))
  (w_cons (w_Assign (hs := by intro env he; first | rfl | (k_call_by "c" env; k_call_by "c" he; kernel_rfl)) (by kernel_rfl) (w_Meth1 (k := .dict) PySem.F.slot_dict_get ty_get call_get2 (w_Attribute (at_Precedence m) (w_Name (by kernel_rfl))) (wX_c (w_Name (by kernel_rfl)) wX_nil)))
  (w_cons (w_If (w_T_Not (w_T_value (w_Name (by kernel_rfl))))
   (w_one (w_Raise (by intro h; k_call_by "c" h) (gm_Grammar m) (gl_GrammarError m (by kernel_rfl)) (wX_c (w_JoinedStr (wFs_c (wF_plain (w_Name (by kernel_rfl))) (wFs_c (wF_Str (by decide +kernel)) (wFs_c (wF_plain (w_Name (by kernel_rfl))) (wFs_c (wF_Str (by decide +kernel)) (wFs_c (wF_r (w_Name (by kernel_rfl))) wFs_nil))))) (by decide)) wX_nil)))
   (w_one (w_Expr (w_Meth1 (k := .set) PySem.F.slot_set_add ty_add call_add (w_Attribute (at_UsedPrecedence m) (w_Name (by kernel_rfl))) (wX_c (w_Name (by kernel_rfl)) wX_nil)))))
  (w_one (w_DelLast (w_Name (by kernel_rfl)) (wP_some (w_USub w_Int)))))))))
  (w_cons (w_Assign (hs := by intro env he; first | rfl | (k_call_by "c" env; k_call_by "c" he; kernel_rfl)) (by kernel_rfl) (w_CallG (gl_rightmost_terminal m (by kernel_rfl)) (kp_rightmost_terminal m) (wX_c (w_Name (by kernel_rfl)) (wX_c (w_Attribute (at_Terminals m) (w_Name (by kernel_rfl))) wX_nil)) (cv_rightmost m)))
  (w_one (w_Assign (hs := by intro env he; first | rfl | (k_call_by "c" env; k_call_by "c" he; kernel_rfl)) (by kernel_rfl) (w_Meth1 (k := .dict) PySem.F.slot_dict_get ty_get call_get2 (w_Attribute (at_Precedence m) (w_Name (by kernel_rfl))) (wX_c (w_Name (by kernel_rfl)) (wX_c (w_Tuple (wX_c w_Str (wX_c w_Int wX_nil))) wX_nil))))))) ⟨(r_add_production_c4 (n := n) m).2⟩)⟩
noncomputable def r_add_production (m : Mine g) : { p : M Fl // RefB g (fnS (fn g 147)) .fn (n + 3) p (bodyOf (fn g 147)) } := ⟨_, RB.ok
 (w_cons (w_If (w_T_Compare (w_Name (by kernel_rfl)) (w_Attribute (at_Terminals m) (w_Name (by kernel_rfl))))
  (w_one (w_Raise (by intro h; k_call_by "c" h) (gm_Grammar m) (gl_GrammarError m (by kernel_rfl)) (wX_c (w_JoinedStr (wFs_c (wF_plain (w_Name (by kernel_rfl))) (wFs_c (wF_Str (by decide +kernel)) (wFs_c (wF_plain (w_Name (by kernel_rfl))) (wFs_c (wF_Str (by decide +kernel)) (wFs_c (wF_r (w_Name (by kernel_rfl))) (wFs_c (wF_Str (by decide +kernel)) wFs_nil)))))) (by decide)) wX_nil))) w_nil)
 (w_cons (w_If (w_T_Compare (w_Name (by kernel_rfl)) w_Str)
  (w_one (w_Raise (by intro h; k_call_by "c" h) (gm_Grammar m) (gl_GrammarError m (by kernel_rfl)) (wX_c (w_JoinedStr (wFs_c (wF_plain (w_Name (by kernel_rfl))) (wFs_c (wF_Str (by decide +kernel)) (wFs_c (wF_plain (w_Name (by kernel_rfl))) (wFs_c (wF_Str (by decide +kernel)) (wFs_c (wF_r (w_Name (by kernel_rfl))) (wFs_c (wF_Str (by decide +kernel)) wFs_nil)))))) (by decide)) wX_nil))) w_nil)
 (w_cons (w_For (w_enum (by intro h; k_call_by "c" h) (b_enumerate m (by kernel_rfl)) (w_Name (by kernel_rfl))) (tg_Tuple (by intro h; k_call_by "c" h) (.cons (.cons .nil)) (by kernel_rfl))
  (w_one (w_If (w_T_BoolOp (w_And_cons (w_T_Compare (w_Subscript (by intro h; k_call_by "c" h) (w_Name (by kernel_rfl)) w_Int) w_Str) (w_And_cons (w_T_Compare (w_Subscript (by intro h; k_call_by "c" h) (w_Name (by kernel_rfl)) w_Int) (w_Subscript (by intro h; k_call_by "c" h) (w_Name (by kernel_rfl)) (w_USub w_Int))) w_And_nil)))
   (w_cons (w_Assign (hs := by intro env he; first | rfl | (k_call_by "c" env; k_call_by "c" he; kernel_rfl)) (by kernel_rfl) (w_Slice (w_Name (by kernel_rfl)) (wP_some w_Int) (wP_some (w_USub w_Int))))
   (w_cons (w_If (w_T_Compare (w_CallB (b_len m (by kernel_rfl)) (wX_c (w_Name (by kernel_rfl)) wX_nil) call_len) w_Int)
    (w_one (w_Raise (by intro h; k_call_by "c" h) (gm_Grammar m) (gl_GrammarError m (by kernel_rfl)) (wX_c (w_JoinedStr (wFs_c (wF_plain (w_Name (by kernel_rfl))) (wFs_c (wF_Str (by decide +kernel)) (wFs_c (wF_plain (w_Name (by kernel_rfl))) (wFs_c (wF_Str (by decide +kernel)) (wFs_c (wF_plain (w_Name (by kernel_rfl))) (wFs_c (wF_Str (by decide +kernel)) (wFs_c (wF_r (w_Name (by kernel_rfl))) (wFs_c (wF_Str (by decide +kernel)) wFs_nil)))))))) (by decide)) wX_nil))) w_nil)
   (w_cons (w_If (w_T_Compare (w_Name (by kernel_rfl)) (w_Attribute (at_Terminals m) (w_Name (by kernel_rfl))))
    (w_one (w_AssignSub (w_List wX_nil) (w_Attribute (at_Terminals m) (w_Name (by kernel_rfl))) (w_Name (by kernel_rfl)))) w_nil)
   (w_cons (w_AssignSub (w_Name (by kernel_rfl)) (w_Name (by kernel_rfl)) (w_Name (by kernel_rfl)))
   (w_one w_Continue))))) w_nil)) w_nil) ⟨(r_add_production_c3 (n := n) m).2⟩)))⟩
theorem bd_add_production (m : Mine g) : Binds g (fn g 147) ["self", "prodname", "syms", "func", "file", "line"] [] 6 := bdN6 (by kernel_rfl) (by rw [m.K]; intros; kernel_rfl)
theorem cv_add_production (m : Mine g) : CallV g .fn (n + 3 + 1) (.ref 147) (fnM ["self", "prodname", "syms", "func", "file", "line"] (([] : List (Str × Value)).map fun p => (p.1, er p.2)) 6 (r_add_production (n := n) m).1) := callV_fn (is_add_production m) (bd_add_production m) (r_add_production m).2
end Kk
end
section
set_option maxHeartbeats 4000000
namespace Kk
variable {g : Gx} {S : Sc} {md : Md} {n : Nat}
noncomputable abbrev lawS (g : Gx) : Sc := { fnS (fn g 260) with code := none }
noncomputable def forB : Stmt → List Stmt | .For _ _ b _ _ => b | _ => []
noncomputable def r_lawb_c7 (m : Mine g) : { p : M Fl // RefB g (lawS g) .fn (n + 40) p ((forB ((bodyOf (fn g 260)).getD 7 (.Pass default))).drop 7) } := ⟨_, RB.ok
 (w_one (w_For (w_enum (by intro h; k_call_by "c" h) (b_enumerate m (by kernel_rfl)) (w_Name (by kernel_rfl))) (tg_Tuple (by intro h; k_call_by "c" h) (.cons (.cons .nil)) (by kernel_rfl))
  (w_cons (w_Assign (hs := by intro env he; first | rfl | (k_call_by "c" env; k_call_by "c" he; kernel_rfl)) (by kernel_rfl) (w_SubOwn (gt_Grammar m) (cv_getitem_G (by intro h; k_call_by "c" h) m) (w_Name (by kernel_rfl)) (w_BinOp (w_Name (by kernel_rfl)) w_Int)))
  (w_one (w_If (w_T_Compare (w_Tuple (wX_c (w_Attribute (at_number m) (w_Name (by kernel_rfl))) (wX_c (w_Attribute (at_name m) (w_Name (by kernel_rfl))) (wX_c (w_Attribute (at_prod m) (w_Name (by kernel_rfl))) (wX_c (w_Attribute (at_line m) (w_Name (by kernel_rfl))) (wX_c (w_Attribute (at_prec m) (w_Name (by kernel_rfl))) (wX_c (w_LenOwn (b_len m (by kernel_rfl)) (ln_Production m) (cv_len_P m) (w_Name (by kernel_rfl))) wX_nil))))))) (w_Tuple (wX_c (w_BinOp (w_Name (by kernel_rfl)) w_Int) (wX_c (w_Subscript (by intro h; k_call_by "c" h) (w_Name (by kernel_rfl)) w_Int) (wX_c (w_CallT (b_tuple m (by kernel_rfl)) (wX_c (w_Subscript (by intro h; k_call_by "c" h) (w_Name (by kernel_rfl)) w_Int) wX_nil) call_tuple) (wX_c (w_Subscript (by intro h; k_call_by "c" h) (w_Name (by kernel_rfl)) w_Int) (wX_c (w_Subscript (by intro h; k_call_by "c" h) (w_Name (by kernel_rfl)) w_Int) (wX_c (w_CallB (b_len m (by kernel_rfl)) (wX_c (w_Subscript (by intro h; k_call_by "c" h) (w_Name (by kernel_rfl)) w_Int) wX_nil) call_len) wX_nil))))))))
   (w_one (w_Return w_Bool)) w_nil))) w_nil))⟩
noncomputable def r_lawb_c6 (m : Mine g) : { p : M Fl // RefB g (lawS g) .fn (n + 40) p ((forB ((bodyOf (fn g 260)).getD 7 (.Pass default))).drop 6) } := ⟨_, RB.ok
 (w_cons (w_If (w_T_Compare (w_LenOwn (b_len m (by kernel_rfl)) (ln_Grammar m) (cv_len_G m) (w_Name (by kernel_rfl))) (w_BinOp w_Int (w_CallB (b_len m (by kernel_rfl)) (wX_c (w_Name (by kernel_rfl)) wX_nil) call_len)))
  (w_one (w_Return w_Bool)) w_nil) ⟨(r_lawb_c7 (n := n) m).2⟩)⟩
noncomputable def r_lawb_c5 (m : Mine g) : { p : M Fl // RefB g (lawS g) .fn (n + 40) p ((forB ((bodyOf (fn g 260)).getD 7 (.Pass default))).drop 5) } := ⟨_, RB.ok
 (w_cons (w_If (w_T_Not (w_T_value (w_Name (by kernel_rfl))))
  (w_cons (w_Assign (hs := by intro env he; first | rfl | (k_call_by "c" env; k_call_by "c" he; kernel_rfl)) (by kernel_rfl) (w_Tuple (wX_c w_Str (wX_c w_Int wX_nil))))
  (w_cons (w_For (w_seq (by intro h; k_call_by "c" h) (w_Name (by kernel_rfl))) (tg_Name (by kernel_rfl))
   (w_one (w_If (w_T_Compare (w_Name (by kernel_rfl)) (w_List (wX_c w_Str (wX_c w_Str (wX_c w_Str (wX_c w_Str (wX_c w_Str wX_nil)))))))
    (w_one (w_Assign (hs := by intro env he; first | rfl | (k_call_by "c" env; k_call_by "c" he; kernel_rfl)) (by kernel_rfl) (w_IfExp (w_T_Compare (w_Name (by kernel_rfl)) (w_Name (by kernel_rfl))) (w_Subscript (by intro h; k_call_by "c" h) (w_Name (by kernel_rfl)) (w_Name (by kernel_rfl))) (w_Tuple (wX_c w_Str (wX_c w_Int wX_nil)))))) w_nil)) w_nil)
  (w_one (w_Expr (w_Meth1 (k := .list) PySem.F.slot_list_append ty_append call_append (w_Name (by kernel_rfl)) (wX_c (w_Tuple (wX_c (w_Name (by kernel_rfl)) (wX_c (w_Name (by kernel_rfl)) (wX_c (w_BinOp w_Int (w_Name (by kernel_rfl))) (wX_c (w_IfExp (w_T_Compare (w_Name (by kernel_rfl)) w_None) (w_Name (by kernel_rfl)) (w_Subscript (by intro h; k_call_by "c" h) (w_Name (by kernel_rfl)) (w_Name (by kernel_rfl)))) wX_nil))))) wX_nil)))))) w_nil) ⟨(r_lawb_c6 (n := n) m).2⟩)⟩
noncomputable def r_lawb_c4 (m : Mine g) : { p : M Fl // RefB g (lawS g) .fn (n + 40) p ((forB ((bodyOf (fn g 260)).getD 7 (.Pass default))).drop 4) } := ⟨_, RB.ok
 (w_cons (w_TryGram (gm_Grammar m)
  (w_cons (w_Expr (w_MethOwn (mt_add_production m) (cv_add_production m) (w_Name (by kernel_rfl)) (wX_c (w_Name (by kernel_rfl)) (wX_c (w_Name (by kernel_rfl)) (wX_c w_None (wX_c w_Str (wX_c (w_BinOp w_Int (w_Name (by kernel_rfl))) wX_nil)))))))
  (w_one (w_If (w_T_value (w_Name (by kernel_rfl)))
   (w_one (w_Return w_Bool)) w_nil)))
  (w_one (w_If (w_T_Not (w_T_value (w_Name (by kernel_rfl))))
   (w_one (w_Return w_Bool)) w_nil)) (gl_GrammarError m (by kernel_rfl))) ⟨(r_lawb_c5 (n := n) m).2⟩)⟩
noncomputable def r_lawb_c3 (m : Mine g) : { p : M Fl // RefB g (lawS g) .fn (n + 40) p ((forB ((bodyOf (fn g 260)).getD 7 (.Pass default))).drop 3) } := ⟨_, RB.ok
 (w_cons (w_Assign (hs := by intro env he; first | rfl | (k_call_by "c" env; k_call_by "c" he; kernel_rfl)) (by kernel_rfl) (w_BinOp (w_Name (by kernel_rfl)) (w_IfExp (w_T_Compare (w_Name (by kernel_rfl)) w_None) (w_List wX_nil) (w_List (wX_c w_Str (wX_c (w_Name (by kernel_rfl)) wX_nil)))))) ⟨(r_lawb_c4 (n := n) m).2⟩)⟩
noncomputable def r_lawb_c2 (m : Mine g) : { p : M Fl // RefB g (lawS g) .fn (n + 40) p ((forB ((bodyOf (fn g 260)).getD 7 (.Pass default))).drop 2) } := ⟨_, RB.ok
 (w_cons (w_Assign (hs := by intro env he; first | rfl | (k_call_by "c" env; k_call_by "c" he; kernel_rfl)) (by kernel_rfl) (w_Or (w_Name (by kernel_rfl)) (w_Compare (w_Tuple (wX_c (w_Name (by kernel_rfl)) (wX_c (w_Name (by kernel_rfl)) wX_nil))) (w_ListComp (by intro h; k_call_by "c" h) (by kernel_rfl) (w_seq (by intro h; k_call_by "c" h) (w_Name (by kernel_rfl))) (tg_Name (by kernel_rfl)) wTs_nil (w_Slice (w_Name (by kernel_rfl)) wP_none (wP_some w_Int)))))) ⟨(r_lawb_c3 (n := n) m).2⟩)⟩
noncomputable def r_lawb_c1 (m : Mine g) : { p : M Fl // RefB g (lawS g) .fn (n + 40) p ((forB ((bodyOf (fn g 260)).getD 7 (.Pass default))).drop 1) } := ⟨_, RB.ok
 (w_cons (w_AssignComp (by intro h; k_call_by "c" h) (by kernel_rfl) (by kernel_rfl) (w_seq (by intro h; k_call_by "c" h) (w_Name (by kernel_rfl))) (tg_Name (by kernel_rfl)) wTs_nil (w_IfExp (w_T_BoolOp (w_And_cons (w_T_Compare (w_Subscript (by intro h; k_call_by "c" h) (w_Name (by kernel_rfl)) w_Int) w_Str) (w_And_cons (w_T_Compare (w_CallB (b_len m (by kernel_rfl)) (wX_c (w_Name (by kernel_rfl)) wX_nil) call_len) w_Int) w_And_nil))) (w_Subscript (by intro h; k_call_by "c" h) (w_Name (by kernel_rfl)) w_Int) (w_Name (by kernel_rfl))) (by intro env he; k_call_by "c" env; k_call_by "c" he; kernel_rfl)) ⟨(r_lawb_c2 (n := n) m).2⟩)⟩
noncomputable def r_lawb (m : Mine g) : { p : M Fl // RefB g (lawS g) .fn (n + 40) p (forB ((bodyOf (fn g 260)).getD 7 (.Pass default))) } := ⟨_, RB.ok
 (w_cons (w_AssignTuple (by intro h; k_call_by "c" h) (.cons (.cons (.cons (.cons .nil)))) (by kernel_rfl) (w_CallG (gl__law_deed m (by kernel_rfl)) (kp__law_deed m) (wX_c (w_Name (by kernel_rfl)) wX_nil) (cv_law_deed m))) ⟨(r_lawb_c1 (n := n) m).2⟩)⟩
noncomputable def r_law_c14 (m : Mine g) : { p : M Fl // RefB g (lawS g) .fn (n + 40) p ((bodyOf (fn g 260)).drop 14) } := ⟨_, RB.ok
 (w_one (w_Return w_Bool))⟩
noncomputable def r_law_c13 (m : Mine g) : { p : M Fl // RefB g (lawS g) .fn (n + 40) p ((bodyOf (fn g 260)).drop 13) } := ⟨_, RB.ok
 (w_cons (w_For (w_seq (by intro h; k_call_by "c" h) (w_BinOp (w_Name (by kernel_rfl)) (w_List (wX_c w_Str (wX_c w_Str (wX_c w_Str wX_nil)))))) (tg_Name (by kernel_rfl))
  (w_cons (w_AssignComp2 (by intro h; k_call_by "c" h) (by kernel_rfl) (by kernel_rfl) (w_enum (by intro h; k_call_by "c" h) (b_enumerate m (by kernel_rfl)) (w_Name (by kernel_rfl))) (tg_Tuple (by intro h; k_call_by "c" h) (.cons (.cons .nil)) (by kernel_rfl)) (w_seq (by intro h; k_call_by "c" h) (w_Subscript (by intro h; k_call_by "c" h) (w_Name (by kernel_rfl)) w_Int)) (tg_Name (by kernel_rfl)) (wTs_one (w_T_Compare (w_Name (by kernel_rfl)) (w_Name (by kernel_rfl)))) (w_BinOp (w_Name (by kernel_rfl)) w_Int) (by intro env he; k_call_by "c" env; k_call_by "c" he; kernel_rfl))
  (w_cons (w_If (w_T_BoolOp (w_And_cons (w_T_Compare (w_Name (by kernel_rfl)) (w_Name (by kernel_rfl))) (w_And_cons (w_T_Compare (w_Name (by kernel_rfl)) (w_Subscript (by intro h; k_call_by "c" h) (w_Subscript (by intro h; k_call_by "c" h) (w_Name (by kernel_rfl)) w_Int) w_Int)) w_And_nil)))
   (w_one (w_Expr (w_Meth1 (k := .list) PySem.F.slot_list_append ty_append call_append (w_Name (by kernel_rfl)) (wX_c w_Int wX_nil)))) w_nil)
  (w_one (w_If (w_T_Compare (w_IfExp (w_T_Compare (w_Name (by kernel_rfl)) (w_Name (by kernel_rfl))) (w_Subscript (by intro h; k_call_by "c" h) (w_Attribute (at_Nonterminals m) (w_Name (by kernel_rfl))) (w_Name (by kernel_rfl))) (w_Subscript (by intro h; k_call_by "c" h) (w_Attribute (at_Terminals m) (w_Name (by kernel_rfl))) (w_Name (by kernel_rfl)))) (w_Name (by kernel_rfl)))
   (w_one (w_Return w_Bool)) w_nil)))) w_nil) ⟨(r_law_c14 (n := n) m).2⟩)⟩
noncomputable def r_law_c12 (m : Mine g) : { p : M Fl // RefB g (lawS g) .fn (n + 40) p ((bodyOf (fn g 260)).drop 12) } := ⟨_, RB.ok
 (w_cons (w_If (w_T_Compare (w_ListComp (by intro h; k_call_by "c" h) (by kernel_rfl) (w_seq (by intro h; k_call_by "c" h) (w_Attribute (at_Nonterminals m) (w_Name (by kernel_rfl)))) (tg_Name (by kernel_rfl)) wTs_nil (w_Name (by kernel_rfl))) (w_Name (by kernel_rfl)))
  (w_one (w_Return w_Bool)) w_nil) ⟨(r_law_c13 (n := n) m).2⟩)⟩
noncomputable def r_law_c11 (m : Mine g) : { p : M Fl // RefB g (lawS g) .fn (n + 40) p ((bodyOf (fn g 260)).drop 11) } := ⟨_, RB.ok
 (w_cons (w_For (w_seq (by intro h; k_call_by "c" h) (w_Name (by kernel_rfl))) (tg_Name (by kernel_rfl))
  (w_one (w_For (w_seq (by intro h; k_call_by "c" h) (w_BinOp (w_List (wX_c (w_Subscript (by intro h; k_call_by "c" h) (w_Name (by kernel_rfl)) w_Int) wX_nil)) (w_Subscript (by intro h; k_call_by "c" h) (w_Name (by kernel_rfl)) w_Int))) (tg_Name (by kernel_rfl))
   (w_one (w_If (w_T_BoolOp (w_And_cons (w_T_Compare (w_Name (by kernel_rfl)) (w_List (wX_c w_Str (wX_c w_Str (wX_c w_Str wX_nil))))) (w_And_cons (w_T_Compare (w_Name (by kernel_rfl)) (w_Name (by kernel_rfl))) w_And_nil)))
    (w_one (w_Expr (w_Meth1 (k := .list) PySem.F.slot_list_append ty_append call_append (w_Name (by kernel_rfl)) (wX_c (w_Name (by kernel_rfl)) wX_nil)))) w_nil)) w_nil)) w_nil) ⟨(r_law_c12 (n := n) m).2⟩)⟩
noncomputable def r_law_c10 (m : Mine g) : { p : M Fl // RefB g (lawS g) .fn (n + 40) p ((bodyOf (fn g 260)).drop 10) } := ⟨_, RB.ok
 (w_cons (w_Assign (hs := by intro env he; first | rfl | (k_call_by "c" env; k_call_by "c" he; kernel_rfl)) (by kernel_rfl) (w_List wX_nil)) ⟨(r_law_c11 (n := n) m).2⟩)⟩
noncomputable def r_law_c9 (m : Mine g) : { p : M Fl // RefB g (lawS g) .fn (n + 40) p ((bodyOf (fn g 260)).drop 9) } := ⟨_, RB.ok
 (w_cons (w_If (w_T_Compare (w_CallB (b_len m (by kernel_rfl)) (wX_c (w_Name (by kernel_rfl)) wX_nil) call_len) w_Int)
  (w_cons (w_Expr (w_MethOwn (mt_set_start m) (cv_set_start m) (w_Name (by kernel_rfl)) (wX_c (w_Subscript (by intro h; k_call_by "c" h) (w_Subscript (by intro h; k_call_by "c" h) (w_Name (by kernel_rfl)) w_Int) w_Int) wX_nil)))
  (w_one (w_If (w_T_Compare (w_Tuple (wX_c (w_Attribute (at_number m) (w_SubOwn (gt_Grammar m) (cv_getitem_G (by intro h; k_call_by "c" h) m) (w_Name (by kernel_rfl)) w_Int)) (wX_c (w_Attribute (at_name m) (w_SubOwn (gt_Grammar m) (cv_getitem_G (by intro h; k_call_by "c" h) m) (w_Name (by kernel_rfl)) w_Int)) (wX_c (w_Attribute (at_prod m) (w_SubOwn (gt_Grammar m) (cv_getitem_G (by intro h; k_call_by "c" h) m) (w_Name (by kernel_rfl)) w_Int)) (wX_c (w_Attribute (at_Start m) (w_Name (by kernel_rfl))) wX_nil))))) (w_Tuple (wX_c w_Int (wX_c w_Str (wX_c (w_Tuple (wX_c (w_Subscript (by intro h; k_call_by "c" h) (w_Subscript (by intro h; k_call_by "c" h) (w_Name (by kernel_rfl)) w_Int) w_Int) wX_nil)) (wX_c (w_Subscript (by intro h; k_call_by "c" h) (w_Subscript (by intro h; k_call_by "c" h) (w_Name (by kernel_rfl)) w_Int) w_Int) wX_nil))))))
   (w_one (w_Return w_Bool)) w_nil))) w_nil) ⟨(r_law_c10 (n := n) m).2⟩)⟩
noncomputable def r_law_c8 (m : Mine g) : { p : M Fl // RefB g (lawS g) .fn (n + 40) p ((bodyOf (fn g 260)).drop 8) } := ⟨_, RB.ok
 (w_cons (w_TryGram (gm_Grammar m)
  (w_cons (w_Expr (w_MethOwn (mt_set_start m) (cv_set_start m) (w_Name (by kernel_rfl)) (wX_c w_Str wX_nil)))
  (w_one (w_Return w_Bool)))
  (w_one (w_If (w_T_Compare (w_SubOwn (gt_Grammar m) (cv_getitem_G (by intro h; k_call_by "c" h) m) (w_Name (by kernel_rfl)) w_Int) w_None)
   (w_one (w_Return w_Bool)) w_nil)) (gl_GrammarError m (by kernel_rfl))) ⟨(r_law_c9 (n := n) m).2⟩)⟩
noncomputable def r_law_c7 (m : Mine g) : { p : M Fl // RefB g (lawS g) .fn (n + 40) p ((bodyOf (fn g 260)).drop 7) } := ⟨_, RB.ok
 (w_cons (w_For (w_enum (by intro h; k_call_by "c" h) (b_enumerate m (by kernel_rfl)) (w_IfExp (w_T_Compare (w_CallB (b_len m (by kernel_rfl)) (wX_c (w_Name (by kernel_rfl)) wX_nil) call_lenP) w_Int) (w_Slice (w_Name (by kernel_rfl)) (wP_some w_Int) (wP_some w_Int)) (w_List (wX_c (w_BinOp w_Int w_Int) (wX_c (w_BinOp w_Int w_Int) (wX_c (w_BinOp w_Int (w_BinOp w_Int w_Int)) (wX_c w_Int (wX_c w_Int (wX_c w_Int (wX_c w_Int wX_nil)))))))))) (tg_Tuple (by intro h; k_call_by "c" h) (.cons (.cons .nil)) (by kernel_rfl)) ⟨(r_lawb (n := n) m).2⟩ w_nil) ⟨(r_law_c8 (n := n) m).2⟩)⟩
noncomputable def r_law_c6 (m : Mine g) : { p : M Fl // RefB g (lawS g) .fn (n + 40) p ((bodyOf (fn g 260)).drop 6) } := ⟨_, RB.ok
 (w_cons (w_Assign (hs := by intro env he; first | rfl | (k_call_by "c" env; k_call_by "c" he; kernel_rfl)) (by kernel_rfl) (w_List wX_nil)) ⟨(r_law_c7 (n := n) m).2⟩)⟩
noncomputable def r_law_c5 (m : Mine g) : { p : M Fl // RefB g (lawS g) .fn (n + 40) p ((bodyOf (fn g 260)).drop 5) } := ⟨_, RB.ok
 (w_cons (w_If (w_T_BoolOp (w_Or_cons (w_T_Not (w_T_value (w_CallG (gl__law_refused m (by kernel_rfl)) (kp__law_refused m) (wX_c (w_Name (by kernel_rfl)) (wX_c w_Str (wX_c w_Str wX_nil))) (cv_law_refused m)))) (w_Or_cons (w_T_Not (w_T_value (w_CallG (gl__law_refused m (by kernel_rfl)) (kp__law_refused m) (wX_c (w_Name (by kernel_rfl)) (wX_c w_Str (wX_c w_Str wX_nil))) (cv_law_refused m)))) w_Or_nil)))
  (w_one (w_Return w_Bool)) w_nil) ⟨(r_law_c6 (n := n) m).2⟩)⟩
noncomputable def r_law_c4 (m : Mine g) : { p : M Fl // RefB g (lawS g) .fn (n + 40) p ((bodyOf (fn g 260)).drop 4) } := ⟨_, RB.ok
 (w_cons (w_For (w_seq (by intro h; k_call_by "c" h) (w_Name (by kernel_rfl))) (tg_Name (by kernel_rfl))
  (w_one (w_Expr (w_MethOwn (mt_set_precedence m) (cv_set_precedence m) (w_Name (by kernel_rfl)) (wX_c (w_Name (by kernel_rfl)) (wX_c (w_Subscript (by intro h; k_call_by "c" h) (w_Subscript (by intro h; k_call_by "c" h) (w_Name (by kernel_rfl)) (w_Name (by kernel_rfl))) w_Int) (wX_c (w_Subscript (by intro h; k_call_by "c" h) (w_Subscript (by intro h; k_call_by "c" h) (w_Name (by kernel_rfl)) (w_Name (by kernel_rfl))) w_Int) wX_nil)))))) w_nil) ⟨(r_law_c5 (n := n) m).2⟩)⟩
noncomputable def r_law_c3 (m : Mine g) : { p : M Fl // RefB g (lawS g) .fn (n + 40) p ((bodyOf (fn g 260)).drop 3) } := ⟨_, RB.ok
 (w_cons (w_Assign (hs := by intro env he; first | rfl | (k_call_by "c" env; k_call_by "c" he; kernel_rfl)) (by kernel_rfl) (w_CallG (gl_Grammar m (by kernel_rfl)) (kp_Grammar m) (wX_c (w_List (wX_c w_Str (wX_c w_Str (wX_c w_Str wX_nil)))) wX_nil) (cv_Grammar m))) ⟨(r_law_c4 (n := n) m).2⟩)⟩
noncomputable def r_law_c2 (m : Mine g) : { p : M Fl // RefB g (lawS g) .fn (n + 40) p ((bodyOf (fn g 260)).drop 2) } := ⟨_, RB.ok
 (w_cons (w_Assign (hs := by intro env he; first | rfl | (k_call_by "c" env; k_call_by "c" he; kernel_rfl)) (by kernel_rfl) (w_Dict (wKV_c (w_Tuple (wX_c (w_Subscript (by intro h; k_call_by "c" h) (w_Name (by kernel_rfl)) w_Int) (wX_c w_Int wX_nil))) (wKV_c (w_Tuple (wX_c (w_Subscript (by intro h; k_call_by "c" h) (w_Name (by kernel_rfl)) w_Int) (wX_c w_Int wX_nil))) (wKV_c (w_Tuple (wX_c (w_Subscript (by intro h; k_call_by "c" h) (w_Name (by kernel_rfl)) w_Int) (wX_c w_Int wX_nil))) wKV_nil))) (by decide +kernel) (by intro h; k_call_by "c" h) (by decide))) ⟨(r_law_c3 (n := n) m).2⟩)⟩
noncomputable def r_law_c1 (m : Mine g) : { p : M Fl // RefB g (lawS g) .fn (n + 40) p ((bodyOf (fn g 260)).drop 1) } := ⟨_, RB.ok
 (w_cons (w_AssignComp (by intro h; k_call_by "c" h) (by kernel_rfl) (by kernel_rfl) (w_range (by intro h; k_call_by "c" h) (b_range m (by kernel_rfl)) w_Int) (tg_Name (by kernel_rfl)) wTs_nil (w_Subscript (by intro h; k_call_by "c" h) (w_List (wX_c w_Str (wX_c w_Str (wX_c w_Str wX_nil)))) (w_BinOp (w_BinOp (w_Name (by kernel_rfl)) (w_Name (by kernel_rfl))) w_Int)) (by intro env he; k_call_by "c" env; k_call_by "c" he; kernel_rfl)) ⟨(r_law_c2 (n := n) m).2⟩)⟩
noncomputable def r_law (m : Mine g) : { p : M Fl // RefB g (lawS g) .fn (n + 40) p (bodyOf (fn g 260)) } := ⟨_, RB.ok
 (w_cons (w_Assign (hs := by intro env he; first | rfl | (k_call_by "c" env; k_call_by "c" he; kernel_rfl)) (by kernel_rfl) (w_IfExp (w_T_value (w_Name (by kernel_rfl))) (w_Subscript (by intro h; k_call_by "c" h) (w_Name (by kernel_rfl)) w_Int) w_Int)) ⟨(r_law_c1 (n := n) m).2⟩)⟩
end Kk
end
section
set_option maxHeartbeats 1000000
namespace Kk
variable {α β γ δ : Type}
theorem ofString_inj {a b : String} : (Str.ofString a = Str.ofString b) = (a = b) := by
 apply propext
 constructor
 ·intro h
  rw [Str.ofString_eq_toList, Str.ofString_eq_toList] at h
  injection h with h
  have h2 : a.toList.map Char.toNat = b.toList.map Char.toNat := by simpa using h
  have h3 : a.toList = b.toList := by
   have key : ∀ l1 l2 : List Char, l1.map Char.toNat = l2.map Char.toNat → l1 = l2 := by
    intro l1
    induction l1 with
    | nil => intro l2 h; induction l2 with | nil => rfl | cons => k_call_by "c" h
    | cons c r ih =>
     intro l2 h
     induction l2 with
     | nil => k_call_by "c" h
     | cons d s =>
      simp only [List.map_cons, List.cons.injEq] at h
      rw [Char.toNat_inj.mp h.1, ih s h.2]
   exact key _ _ h2
  exact String.toList_inj.mp h3
 ·rintro rfl; rfl
theorem preLe {ys pre post : List α} {y : α} {n : Nat} (h : ys = pre ++ y :: post) (hl : ys.length ≤ n + 1) : pre.length ≤ n := by
 rw [h, List.length_append, List.length_cons] at hl; omega
noncomputable def Le (μ μ' : Addr → Option O) : Prop := ∀ a o, μ a = some o → μ' a = some o
variable {μ μ' μ1 μ2 μ3 F F' : Addr → Option O} {st st' st1 st2 : St} {a b c d : Addr} {o o' o1 o2 : O} {Q : α → St → Prop} {X : Ex → St → Prop}
theorem Le.refl : Le μ μ := fun _ _ h => h
theorem Le.trans (h : Le μ1 μ2) (k : Le μ2 μ3) : Le μ1 μ3 := fun a o e => k a o (h a o e)
theorem Le.get (h : Le μ μ') (e : μ a = some o) : μ' a = some o := h a o e
theorem Le.noneOf (h : Le μ μ') (e : μ' a = none) : μ a = none := by
 cases q : μ a with
 | none => rfl
 | some o => rw [h a o q] at e; k_call_by "c" e
theorem u_same : upd μ a o a = some o := if_pos rfl
theorem u_ne (h : b ≠ a) (e : μ b = some o') : upd μ a o b = some o' := (if_neg h).trans e
theorem u_old (h : μ a = none) (e : μ b = some o') : upd μ a o b = some o' := u_ne (by rintro rfl; rw [h] at e; k_call_by "c" e) e
theorem u_none (h : b ≠ a) (e : μ b = none) : upd μ a o b = none := (if_neg h).trans e
theorem Le.new (h : Le F μ) (e : μ a = none) : Le F (upd μ a o) := fun b p q => u_old e (h b p q)
theorem Le.mut (h : Le F μ) (e : F a = none) : Le F (upd μ a o) := fun b p q => u_ne (by rintro rfl; rw [e] at q; k_call_by "c" q) (h b p q)
theorem Le.ext (h : Le F μ) (e : μ a = none) : Le (upd F a o) (upd μ a o) := fun b p q => by
 by_cases hb : b = a
 ·subst hb; rw [u_same] at q ⊢; exact q
 ·exact u_ne hb (h b p ((if_neg hb).symm.trans q))
theorem put_same : (st.put a o).μ a = some o := u_same
theorem put_ne (h : b ≠ a) (e : st.μ b = some o') : (st.put a o).μ b = some o' := u_ne h e
theorem put_old (h : st.μ a = none) (e : st.μ b = some o') : (st.put a o).μ b = some o' := u_old h e
theorem set_mu {x : Str} {v : V} (e : st.μ b = some o') : (st.set x v).μ b = some o' := e
theorem Le.new2 (e : μ a = none) (h : Le F μ) : Le F (upd μ a o) := h.new e
theorem Le.trans2 (k : Le μ2 μ3) (h : Le μ1 μ2) : Le μ1 μ3 := h.trans k
theorem Le.put_new (e : st.μ a = none) (h : Le F st.μ) : Le F (st.put a o).μ := h.new e
theorem Le.put_mut (e : F a = none) (h : Le F st.μ) : Le F (st.put a o).μ := h.mut e
theorem Le.st_set {x : Str} {v : V} (h : Le F st.μ) : Le F (st.set x v).μ := h
theorem ne_none2 (e : μ b = none) (h : μ a = some o) : a ≠ b := by rintro rfl; rw [h] at e; k_call_by "c" e
theorem ne_none (h : μ a = some o) (e : μ b = none) : a ≠ b := by rintro rfl; rw [h] at e; k_call_by "c" e
noncomputable def SameBut (L : List Str) (f f' : Str → Option V) : Prop := ∀ x, x ∉ L → f' x = f x
theorem SameBut.get {L : List Str} {f f' : Str → Option V} {x : Str} {v : V} (h : SameBut L f f') (hx : x ∉ L) (e : f x = some v) : f' x = some v := (h x hx).trans e
theorem SameBut.refl {L : List Str} {f : Str → Option V} : SameBut L f f := fun _ _ => rfl
theorem SameBut.trans {L : List Str} {f f' f'' : Str → Option V} (h : SameBut L f f') (k : SameBut L f' f'') : SameBut L f f'' := fun x hx => (k x hx).trans (h x hx)
theorem SameBut.sub {L L' : List Str} {f f' : Str → Option V} (h : SameBut L f f') (k : ∀ x ∈ L, x ∈ L') : SameBut L' f f' := fun x hx => h x fun h => hx (k x h)
theorem SameBut.set {L : List Str} {f : Str → Option V} {x : Str} {v : V} (hx : x ∈ L) (h : SameBut L f st.σ) : SameBut L f (st.set x v).σ := fun y hy =>
 (if_neg (by rintro rfl; exact hy hx)).trans (h y hy)
theorem SameBut.put {L : List Str} {f : Str → Option V} (h : SameBut L f st.σ) : SameBut L f (st.put a o).σ := h
theorem sig_same {x : Str} {v : V} : (st.set x v).σ x = some v := if_pos rfl
theorem sig_ne {x y : Str} {v w : V} (h : y ≠ x) (e : st.σ y = some w) : (st.set x v).σ y = some w := (if_neg h).trans e
theorem sig_put {y : Str} {w : V} (e : st.σ y = some w) : (st.put a o).σ y = some w := e
theorem sig_comp {y : Str} {w : V} {scope : Scope} (h : decide (y ∈ freeOf scope) = true) (e : st.σ y = some w) : (compSt scope st).σ y = some w := (if_pos (of_decide_eq_true h)).trans e
theorem wk_bind {p : M α} {f : α → M β} {Q : β → St → Prop} (h : p (fun a st' => f a Q X st') X st) : mbind p f Q X st := h
theorem wk_ret {a : α} (h : Q a st) : mret a Q X st := h
theorem wk_loc {x : Str} {v : V} {Q : V → St → Prop} (e : st.σ x = some v) (h : Q v st) : locM x Q X st := by unfold locM; rw [e]; exact h
theorem wk_bloc {x : Str} {v : V} {f : V → M β} {Q : β → St → Prop} (e : st.σ x = some v) (h : f v Q X st) : mbind (locM x) f Q X st := by unfold mbind locM; rw [e]; exact h
theorem wk_bret {a : α} {f : α → M β} {Q : β → St → Prop} (h : f a Q X st) : mbind (mret a) f Q X st := h
theorem wk_sasg {x : Str} {p : M V} {q : M Fl} {Q : Fl → St → Prop} (h : p (fun v st' => q Q X (st'.set x v)) X st) : mseq (assignM x p) q Q X st := h
theorem wk_set {x : Str} {v : V} {Q : Unit → St → Prop} (h : Q () (st.set x v)) : setM x v Q X st := h
theorem wk_asg {x : Str} {p : M V} {Q : Fl → St → Prop} (h : p (fun v st' => Q .next (st'.set x v)) X st) : assignM x p Q X st := h
noncomputable def seqK (q : M Fl) (Q : Fl → St → Prop) (X : Ex → St → Prop) (f : Fl) (st : St) : Prop := match f with | .next => q Q X st | f => Q f st
theorem wk_seq {p q : M Fl} {Q : Fl → St → Prop} (h : p (seqK q Q X) X st) : mseq p q Q X st := h
theorem wk_next {q : M Fl} {Q : Fl → St → Prop} (h : q Q X st) : seqK q Q X .next st := h
theorem wk_retS {q : M Fl} {Q : Fl → St → Prop} {v : V} (h : Q (.ret v) st) : seqK q Q X (.ret v) st := h
noncomputable def ifK (p q : M α) (Q : α → St → Prop) (X : Ex → St → Prop) (b : Bool) (st : St) : Prop := if b = true then p Q X st else q Q X st
theorem wk_if {c : M Bool} {p q : M α} (h : c (ifK p q Q X) X st) : mif c p q Q X st := h
theorem wk_true {p q : M α} (h : p Q X st) : ifK p q Q X true st := h
theorem wk_false {p q : M α} (h : q Q X st) : ifK p q Q X false st := h
theorem wk_pos {p q : M α} {b : Bool} (e : b = true) (h : p Q X st) : ifK p q Q X b st := (if_pos e).mpr h
theorem wk_neg {p q : M α} {b : Bool} (e : b = false) (h : q Q X st) : ifK p q Q X b st := (if_neg (by rw [e]; decide)).mpr h
theorem wk_split {p q : M α} {b : Bool} (h1 : b = true → p Q X st) (h2 : b = false → q Q X st) : ifK p q Q X b st := by
 cases hb : b
 ·exact h2 hb
 ·exact h1 hb
theorem wk_attr {c a d : Addr} {nm : Str} {es : List (Str × V)} {ep : Nat} {u : V} {Q : V → St → Prop} (h1 : st.μ a = some (.inst c d)) (h2 : st.μ d = some (.dict es ep)) (h3 : dget es nm = some u) (h4 : u ≠ .oth) (h : Q u st) : attrM c nm (.ref a) Q X st := .mk h1 h2 h3 h4 h
theorem wk_battr {x : Str} {c a d : Addr} {nm : Str} {es : List (Str × V)} {ep : Nat} {u : V} {f : V → M β} {Q : β → St → Prop} (e : st.σ x = some (.ref a)) (h1 : st.μ a = some (.inst c d)) (h2 : st.μ d = some (.dict es ep)) (h3 : dget es nm = some u) (h4 : u ≠ .oth) (h : f u Q X st) : mbind (mbind (locM x) (attrM c nm)) f Q X st := wk_bind (wk_bloc e (wk_attr h1 h2 h3 h4 h))
theorem wk_setAttr {c a d : Addr} {nm : Str} {es : List (Str × V)} {ep : Nat} {u : V} {Q : Unit → St → Prop} (h1 : st.μ a = some (.inst c d)) (h2 : st.μ d = some (.dict es ep)) (h3 : es.length ≤ 1000) (h : ∀ ep, Q () (st.put d (.dict (dput es nm u) ep))) : setAttrM c nm (.ref a) u Q X st := .mk h1 h2 h3 h
theorem wk_inst {c a d : Addr} {nm : Str} {es : List (Str × V)} {ep : Nat} {Q : Unit → St → Prop} (h1 : st.μ a = some (.inst c d)) (h2 : st.μ d = some (.dict es ep)) (h3 : dget es nm = none) (h : Q () st) : instM c nm (.ref a) Q X st := .mk h1 h2 h3 h
theorem wk_tup {xs : List V} {Q : V → St → Prop} (hl : xs.length ≤ 1000) (h : ∀ a, st.μ a = none → Q (.ref a) (st.put a (.tup xs))) : tupM xs Q X st := ⟨hl, h⟩
theorem wk_list {xs : List V} {Q : V → St → Prop} (hl : xs.length ≤ 1000) (h : ∀ a, st.μ a = none → Q (.ref a) (st.put a (.list xs))) : listM xs Q X st := ⟨hl, h⟩
theorem wk_kind {k : Kd} {a : Addr} {o : O} {Q : Unit → St → Prop} (h1 : st.μ a = some o) (h2 : Kd.of o = some k) (h : Q () st) : kindM k (.ref a) Q X st := .mk h1 h2 h
theorem wk_append {a : Addr} {v : V} {xs : List V} {Q : V → St → Prop} (h1 : st.μ a = some (.list xs)) (h2 : xs.length ≤ 1000) (h : Q .none (st.put a (.list (xs ++ [v])))) : appendM [.ref a, v] Q X st := .mk h1 h2 h
theorem wk_seqL {a : Addr} {xs : List V} {Q : Src → St → Prop} (h1 : st.μ a = some (.list xs)) (h : Q (.list a) st) : seqM (.ref a) Q X st := .list h1 h
theorem wk_seqT {a : Addr} {xs : List V} {Q : Src → St → Prop} (h1 : st.μ a = some (.tup xs)) (h : Q (.tup a) st) : seqM (.ref a) Q X st := .tup h1 h
theorem wk_seqD {a : Addr} {es : List (Str × V)} {ep : Nat} {Q : Src → St → Prop} (h1 : st.μ a = some (.dict es ep)) (h : Q (.keys a es.length ep) st) : seqM (.ref a) Q X st := .dict h1 h
theorem wk_enL {a : Addr} {xs : List V} {Q : Src → St → Prop} (h1 : st.μ a = some (.list xs)) (h : Q (.enL a) st) : enM (.ref a) Q X st := .list h1 h
theorem wk_enT {a : Addr} {xs : List V} {Q : Src → St → Prop} (h1 : st.μ a = some (.tup xs)) (h : Q (.enT a) st) : enM (.ref a) Q X st := .tup h1 h
theorem wk_rng {i : Int} {Q : Src → St → Prop} (h1 : i ≤ 100000) (h2 : -100000 ≤ i) (h : Q (.rng i.toNat) st) : rngM (.int i) Q X st := .mk h1 h2 h
theorem wk_lenL {a : Addr} {xs : List V} {Q : V → St → Prop} (h1 : st.μ a = some (.list xs)) (h2 : xs.length ≤ 100000) (h : Q (.int xs.length) st) : lenM [.ref a] Q X st := .list h1 h2 h
theorem wk_lenT {a : Addr} {xs : List V} {Q : V → St → Prop} (h1 : st.μ a = some (.tup xs)) (h2 : xs.length ≤ 100000) (h : Q (.int xs.length) st) : lenM [.ref a] Q X st := .tup h1 h2 h
theorem wk_idxL {a : Addr} {k : Int} {xs : List V} {j : Nat} {u : V} {Q : V → St → Prop} (h1 : st.μ a = some (.list xs)) (h2 : xs.length ≤ 1000) (h3 : seqIndex? k xs.length = some j) (h4 : xs[j]? = some u) (h : Q u st) : idxM (.ref a) (.int k) Q X st := .list h1 h2 h3 h4 h
theorem wk_idxT {a : Addr} {k : Int} {xs : List V} {j : Nat} {u : V} {Q : V → St → Prop} (h1 : st.μ a = some (.tup xs)) (h2 : xs.length ≤ 1000) (h3 : seqIndex? k xs.length = some j) (h4 : xs[j]? = some u) (h : Q u st) : idxM (.ref a) (.int k) Q X st := .tup h1 h2 h3 h4 h
theorem wk_idxD {a : Addr} {k : Str} {es : List (Str × V)} {ep : Nat} {u : V} {Q : V → St → Prop} (h1 : st.μ a = some (.dict es ep)) (h2 : dget es k = some u) (h : Q u st) : idxM (.ref a) (.str k) Q X st := .dict h1 h2 h
theorem wk_itemD {a : Addr} {k : Str} {v : V} {es : List (Str × V)} {ep : Nat} {Q : Unit → St → Prop} (h1 : st.μ a = some (.dict es ep)) (h2 : es.length ≤ 1000) (h : ∀ ep, Q () (st.put a (.dict (dput es k v) ep))) : setItemM (.ref a) (.str k) v Q X st := .dict h1 h2 h
theorem wk_itemL {a : Addr} {k : Int} {v : V} {xs : List V} {Q : Unit → St → Prop} (h1 : st.μ a = some (.list xs)) (h2 : 0 ≤ k) (h3 : k < xs.length) (h4 : xs.length ≤ 1000) (h : Q () (st.put a (.list (xs.set k.toNat v)))) : setItemM (.ref a) (.int k) v Q X st := .list h1 h2 h3 h4 h
theorem wk_inD {a : Addr} {y : Str} {es : List (Str × V)} {ep : Nat} {Q : Bool → St → Prop} (h1 : st.μ a = some (.dict es ep)) (h : Q (dget es y).isSome st) : cmpM .In (.str y) (.ref a) Q X st := .in_ (.dict h1 h)
theorem wk_ninD {a : Addr} {y : Str} {es : List (Str × V)} {ep : Nat} {Q : Bool → St → Prop} (h1 : st.μ a = some (.dict es ep)) (h : Q (!(dget es y).isSome) st) : cmpM .NotIn (.str y) (.ref a) Q X st := .nin (.dict h1 h)
theorem wk_eqS {x y : Str} {Q : Bool → St → Prop} (h : Q (x == y) st) : cmpM .Eq (.str x) (.str y) Q X st := .eq (.str h)
theorem wk_neS {x y : Str} {Q : Bool → St → Prop} (h : Q (!(x == y)) st) : cmpM .NotEq (.str x) (.str y) Q X st := .ne (.str h)
theorem wk_eqI {x y : Int} {Q : Bool → St → Prop} (h : Q (x == y) st) : cmpM .Eq (.int x) (.int y) Q X st := .eq (.int h)
theorem wk_gtI {x y : Int} {Q : Bool → St → Prop} (h : Q (decide (x > y)) st) : cmpM .Gt (.int x) (.int y) Q X st := .gt h
theorem wk_geI {x y : Int} {Q : Bool → St → Prop} (h : Q (decide (x ≥ y)) st) : cmpM .GtE (.int x) (.int y) Q X st := .ge h
theorem wk_neR {a b : Addr} {d e : PyData} {Q : Bool → St → Prop} (h1 : Rd st.μ (.ref a) d) (h2 : Rd st.μ (.ref b) e) (h3 : okD d) (h4 : okD e) (h : Q (!PyData.eqv d e) st) : cmpM .NotEq (.ref a) (.ref b) Q X st := .ne (.rd h1 h2 h3 h4 h)
theorem wk_eqR {a b : Addr} {d e : PyData} {Q : Bool → St → Prop} (h1 : Rd st.μ (.ref a) d) (h2 : Rd st.μ (.ref b) e) (h3 : okD d) (h4 : okD e) (h : Q (PyData.eqv d e) st) : cmpM .Eq (.ref a) (.ref b) Q X st := .eq (.rd h1 h2 h3 h4 h)
noncomputable def LR {ι α : Type} (R : ι → α → Prop) : List ι → List α → Prop
 | [], [] => True
 | v :: vs, y :: ys => R v y ∧ LR R vs ys
 | _, _ => False
section
variable {ι : Type}
theorem LR.length {R : ι → α → Prop} : ∀ {vs : List ι} {ys : List α}, LR R vs ys → vs.length = ys.length
 | [], [], _ => rfl
 | v :: vs, y :: ys, h => congrArg (· + 1) (LR.length h.2)
theorem LR.mono {R R' : ι → α → Prop} (k : ∀ v y, R v y → R' v y) : ∀ {vs : List ι} {ys : List α}, LR R vs ys → LR R' vs ys
 | [], [], _ => trivial
 | v :: vs, y :: ys, h => ⟨k _ _ h.1, LR.mono k h.2⟩
theorem LR.app {R : ι → α → Prop} : ∀ {vs : List ι} {ys : List α} {ws : List ι} {zs : List α}, LR R vs ys → LR R ws zs → LR R (vs ++ ws) (ys ++ zs)
 | [], [], _, _, _, k => k
 | v :: vs, y :: ys, _, _, h, k => ⟨h.1, LR.app h.2 k⟩
theorem LR.one {R : ι → α → Prop} {v : ι} {y : α} (h : R v y) : LR R [v] [y] := ⟨h, trivial⟩
theorem LR.get {R : ι → α → Prop} : ∀ {vs : List ι} {ys : List α} {i : Nat} {y : α}, LR R vs ys → ys[i]? = some y → ∃ v, vs[i]? = some v ∧ R v y
 | [], [], _, _, _, e => by k_call_by "c" e
 | v :: vs, y :: ys, 0, _, h, e => by k_call_by "c" e; exact ⟨v, rfl, h.1⟩
 | v :: vs, y :: ys, i + 1, _, h, e => LR.get (i := i) h.2 e
theorem LR.map {κ : Type} {R : ι → α → Prop} {R' : κ → α → Prop} {f : ι → κ} (k : ∀ v y, R v y → R' (f v) y) : ∀ {vs : List ι} {ys : List α}, LR R vs ys → LR R' (vs.map f) ys
 | [], [], _ => trivial
 | v :: vs, y :: ys, h => ⟨k _ _ h.1, LR.map k h.2⟩
theorem LR.of_map {R : ι → α → Prop} {f : α → ι} (k : ∀ y, R (f y) y) : ∀ (ys : List α), LR R (ys.map f) ys
 | [] => trivial
 | y :: ys => ⟨k y, LR.of_map k ys⟩
theorem LR.eq_map {f : α → ι} : ∀ {vs : List ι} {ys : List α}, LR (fun v y => v = f y) vs ys → vs = ys.map f
 | [], [], _ => rfl
 | v :: vs, y :: ys, h => by rw [h.1, LR.eq_map h.2]; rfl
theorem LR.self : ∀ (vs : List ι), LR (fun v y => v = y) vs vs
 | [] => trivial
 | y :: ys => ⟨rfl, LR.self ys⟩
end
theorem LR.strs (ys : List Str) : LR (fun v y => v = .str y) (ys.map V.str) ys := LR.of_map (f := V.str) (R := fun v y => v = .str y) (fun _ => rfl) ys
noncomputable def bodyK (Q : Fl → St → Prop) (K : St → Prop) (f : Fl) (st : St) : Prop := match f with | .brk => Q .next st | .ret v => Q (.ret v) st | _ => K st
theorem wk_nextB {Q : Fl → St → Prop} {K : St → Prop} (h : K st) : bodyK Q K .next st := h
theorem wk_contB {Q : Fl → St → Prop} {K : St → Prop} (h : K st) : bodyK Q K .cont st := h
theorem wk_brkB {Q : Fl → St → Prop} {K : St → Prop} (h : Q .next st) : bodyK Q K .brk st := h
theorem wk_retB {Q : Fl → St → Prop} {K : St → Prop} {v : V} (h : Q (.ret v) st) : bodyK Q K (.ret v) st := h
theorem forM_rule {ι : Type} {cur : Nat → St → Option ι → Prop} {asg : ι → M Unit} {body els : M Fl} {Q : Fl → St → Prop} {xs : List ι} (I : Nat → St → Prop)
  (hs : ∀ i st' x (K : St → Prop), xs[i]? = some x → I i st' → (∀ st2, I (i + 1) st2 → K st2) → cur i st' (some x) ∧ asg x (fun _ st1 => body (bodyK Q K) X st1) X st')
  (he : ∀ st', I xs.length st' → cur xs.length st' none ∧ els Q X st') : ∀ (r : List ι) (i : Nat) (st : St), xs.drop i = r → i ≤ xs.length → I i st → forM cur asg body els i r Q X st := by
 intro r
 induction r with
 | nil =>
  intro i st hd hi h
  have : i = xs.length := Nat.le_antisymm hi (by simpa using hd)
  subst this
  exact he st h
 | cons x r ih =>
  intro i st hd hi h
  have hx : xs[i]? = some x := by
   have := congrArg (·[0]?) hd
   simpa using this
  have hlt : i < xs.length := (List.getElem?_eq_some_iff.mp hx).1
  have hd2 : xs.drop (i + 1) = r := by
   rw [← List.drop_drop, hd]; rfl
  exact hs i st x (fun st2 => forM cur asg body els (i + 1) r Q X st2) hx h fun st2 h2 => ih (i + 1) st2 hd2 hlt h2
theorem loop_gen {sr : Src} {asg : List V → M Unit} {body els : M Fl} {Q : Fl → St → Prop} {its : List (List V)} {ys : List α} {G : List V → α → Prop} (hi : sr.its st = its) (hr : LR G its ys) (I : List α → St → Prop) (h0 : I [] st)
  (hc : ∀ i st', i ≤ ys.length → I (ys.take i) st' → sr.cur i st' its[i]?)
  (hs : ∀ pre y post l st' (K : St → Prop), ys = pre ++ y :: post → G l y → I pre st' → (∀ st2, I (pre ++ [y]) st2 → K st2) → asg l (fun _ st1 => body (bodyK Q K) X st1) X st')
  (he : ∀ st', I ys st' → els Q X st') : loopM asg body els sr Q X st := by
 unfold loopM
 rw [hi]
 have hlen := hr.length
 refine forM_rule (xs := its) (fun i st' => I (ys.take i) st') ?_ ?_ _ 0 st rfl (Nat.zero_le _) (by simpa using h0)
 ·intro i st' x K hx hI hK
  have hlt : i < ys.length := hlen ▸ (List.getElem?_eq_some_iff.mp hx).1
  refine exG1_2 (hr.get (List.getElem?_eq_getElem hlt)) fun v' hv' hR => ?_
  rw [hx] at hv'; cases hv'
  refine ⟨hx ▸ hc i st' (Nat.le_of_lt hlt) hI, ?_⟩
  refine hs (ys.take i) ys[i] (ys.drop (i + 1)) x st' K (by rw [← List.drop_eq_getElem_cons hlt, List.take_append_drop]) hR hI fun st2 h2 => hK st2 ?_
  rw [List.take_succ_eq_append_getElem hlt]; exact h2
 ·intro st' hI
  have := hc _ st' (Nat.le_of_eq hlen) hI
  rw [hlen, List.take_length] at hI
  refine ⟨by simpa using this, he st' hI⟩
noncomputable def compB (elt : M V) (acc : List V) (K : List V → St → Prop) (b : Bool) (st : St) : Prop := if b = true then elt (fun v st3 => acc.length ≤ 1000 ∧ K (acc ++ [v]) st3) (fun _ _ => False) st else K acc st
theorem compGo_rule {ι : Type} {cur : Nat → St → Option ι → Prop} {asg : ι → M Unit} {tests : M Bool} {elt : M V} {fin : List V → St → Prop} {xs : List ι} (I : Nat → List V → St → Prop)
  (hs : ∀ i acc st' x (K : List V → St → Prop), xs[i]? = some x → I i acc st' → (∀ acc' st2, I (i + 1) acc' st2 → K acc' st2) → cur i st' (some x) ∧ asg x (fun _ st1 => tests (compB elt acc K) (fun _ _ => False) st1) (fun _ _ => False) st')
  (he : ∀ acc st', I xs.length acc st' → cur xs.length st' none ∧ fin acc st') : ∀ (r : List ι) (i : Nat) (acc : List V) (st : St), xs.drop i = r → i ≤ xs.length → I i acc st → compGo cur asg tests elt fin i r acc st := by
 intro r
 induction r with
 | nil =>
  intro i acc st hd hi h
  have : i = xs.length := Nat.le_antisymm hi (by simpa using hd)
  subst this
  exact he acc st h
 | cons x r ih =>
  intro i acc st hd hi h
  have hx : xs[i]? = some x := by
   have := congrArg (·[0]?) hd
   simpa using this
  have hlt : i < xs.length := (List.getElem?_eq_some_iff.mp hx).1
  have hd2 : xs.drop (i + 1) = r := by
   rw [← List.drop_drop, hd]; rfl
  exact hs i acc st x (fun acc' st2 => compGo cur asg tests elt fin (i + 1) r acc' st2) hx h fun acc' st2 h2 => ih (i + 1) acc' st2 hd2 hlt h2
noncomputable def compK (scope : Scope) (asg : List V → M Unit) (tests : M Bool) (elt : M V) (Q : V → St → Prop) (sr : Src) (st1 : St) : Prop := hasFree scope st1 ∧
 compGo sr.cur asg tests elt (fun acc st' => ∀ D, st'.μ D = none → Q (.ref D) ⟨st1.σ, upd st'.μ D (.list acc)⟩) 0 (sr.its st1) [] (compSt scope st1)
theorem wk_comp {scope : Scope} {psrc : M Src} {asg : List V → M Unit} {tests : M Bool} {elt : M V} {Q : V → St → Prop} (hf : hasFree scope st) (h : psrc (compK scope asg tests elt Q) X st) : compM scope psrc asg tests elt Q X st := ⟨hf, h⟩
theorem comp_gen {sr : Src} {scope : Scope} {asg : List V → M Unit} {tests : M Bool} {elt : M V} {Q : V → St → Prop} {its : List (List V)} {ys : List α} {G : List V → α → Prop} (hf : hasFree scope st) (hi : sr.its st = its) (hr : LR G its ys) (I : List α → List V → St → Prop) (h0 : I [] [] (compSt scope st))
  (hc : ∀ i acc st', i ≤ ys.length → I (ys.take i) acc st' → sr.cur i st' its[i]?)
  (hs : ∀ pre y post l acc st' (K : List V → St → Prop), ys = pre ++ y :: post → G l y → I pre acc st' → (∀ acc' st2, I (pre ++ [y]) acc' st2 → K acc' st2) → asg l (fun _ st1 => tests (compB elt acc K) (fun _ _ => False) st1) (fun _ _ => False) st')
  (he : ∀ acc st' D, I ys acc st' → st'.μ D = none → Q (.ref D) ⟨st.σ, upd st'.μ D (.list acc)⟩) : compK scope asg tests elt Q sr st := by
 refine ⟨hf, ?_⟩
 rw [hi]
 have hlen := hr.length
 refine compGo_rule (xs := its) (fun i acc st' => I (ys.take i) acc st') ?_ ?_ _ 0 [] _ rfl (Nat.zero_le _) (by simpa using h0)
 ·intro i acc st' x K hx hI hK
  have hlt : i < ys.length := hlen ▸ (List.getElem?_eq_some_iff.mp hx).1
  refine exG1_2 (hr.get (List.getElem?_eq_getElem hlt)) fun v' hv' hR => ?_
  rw [hx] at hv'; cases hv'
  refine ⟨hx ▸ hc i acc st' (Nat.le_of_lt hlt) hI, ?_⟩
  refine hs (ys.take i) ys[i] (ys.drop (i + 1)) x acc st' K (by rw [← List.drop_eq_getElem_cons hlt, List.take_append_drop]) hR hI fun acc' st2 h2 => hK acc' st2 ?_
  rw [List.take_succ_eq_append_getElem hlt]; exact h2
 ·intro acc st' hI
  have := hc _ acc st' (Nat.le_of_eq hlen) hI
  rw [hlen, List.take_length] at hI
  refine ⟨by simpa using this, fun D hD => he acc st' D hI hD⟩
theorem cur_list {xs : List V} {i : Nat} (h : st.μ a = some (.list xs)) : (Src.list a).cur i st (xs.map fun v => [v])[i]? := ⟨xs[i]?, by rw [List.getElem?_map], xs, h, rfl⟩
theorem cur_tup {xs : List V} {i : Nat} (h : st.μ a = some (.tup xs)) : (Src.tup a).cur i st (xs.map fun v => [v])[i]? := ⟨xs[i]?, by rw [List.getElem?_map], xs, h, rfl⟩
theorem its_list {xs : List V} (h : st.μ a = some (.list xs)) : (Src.list a).its st = xs.map fun v => [v] := by simp only [Src.its, listAt, h]
theorem its_tup {xs : List V} (h : st.μ a = some (.tup xs)) : (Src.tup a).its st = xs.map fun v => [v] := by simp only [Src.its, listAt, h]
theorem enumFrom_get (xs : List V) : ∀ (k i : Nat), (enumFrom k xs)[i]? = xs[i]?.map fun v => [V.int ((k + i : Nat) : Int), v] := by
 induction xs with
 | nil => intro k i; simp [enumFrom]
 | cons v r ih =>
  intro k i
  induction i with
  | zero => simp [enumFrom]
  | succ i => simp only [enumFrom, List.getElem?_cons_succ, ih]; rw [show k + 1 + i = k + (i + 1) by omega]
theorem cur_enL {xs xs' : List V} {i : Nat} (h : st.μ a = some (.list xs')) (e : xs'[i]? = xs[i]?) : (Src.enL a).cur i st (enumFrom 0 xs)[i]? := by
 rw [enumFrom_get, Nat.zero_add]
 cases q : xs[i]? with
 | none => exact ⟨none, rfl, xs', h, e.trans q⟩
 | some v => exact ⟨some (i, v), rfl, rfl, xs', h, e.trans q⟩
theorem cur_enT {xs : List V} {i : Nat} (h : st.μ a = some (.tup xs)) : (Src.enT a).cur i st (enumFrom 0 xs)[i]? := by
 rw [enumFrom_get, Nat.zero_add]
 cases q : xs[i]? with
 | none => exact ⟨none, rfl, xs, h, q⟩
 | some v => exact ⟨some (i, v), rfl, rfl, xs, h, q⟩
theorem its_enL {xs : List V} (h : st.μ a = some (.list xs)) : (Src.enL a).its st = enumFrom 0 xs := by simp only [Src.its, listAt, h]
theorem its_enT {xs : List V} (h : st.μ a = some (.tup xs)) : (Src.enT a).its st = enumFrom 0 xs := by simp only [Src.its, listAt, h]
theorem cur_keys {es : List (Str × V)} {i ep : Nat} (h : st.μ d = some (.dict es ep)) : (Src.keys d es.length ep).cur i st (es.map fun p => [V.str p.1])[i]? :=
 ⟨es[i]?.map (·.1), by rw [List.getElem?_map, Option.map_map]; rfl, es, h, rfl, rfl⟩
theorem its_keys {es : List (Str × V)} {k ep ep' : Nat} (h : st.μ d = some (.dict es ep)) : (Src.keys d k ep').its st = es.map fun p => [V.str p.1] := by simp only [Src.its, dictAt, h]
theorem cur_rng {k i : Nat} : (Src.rng k).cur i st ((List.range k).map fun i : Nat => [V.int (i : Int)])[i]? := by
 rw [List.getElem?_map]
 refine ⟨((List.range k)[i]?).map fun i : Nat => V.int (i : Int), by rw [Option.map_map]; rfl, ?_⟩
 unfold curR
 by_cases h : i < k
 ·rw [List.getElem?_range h, if_pos h]; rfl
 ·rw [List.getElem?_eq_none (by simpa using Nat.le_of_not_lt h), if_neg h]; rfl
theorem LR.enum {R : V → α → Prop} : ∀ {xs : List V} {ys : List α} (k : Nat), LR R xs ys → LR (fun l (p : α × Nat) => ∃ v, l = [V.int (p.2 : Int), v] ∧ R v p.1) (enumFrom k xs) (ys.zipIdx k)
 | [], [], _, _ => trivial
 | v :: vs, y :: ys, k, h => ⟨⟨v, rfl, h.1⟩, LR.enum (k + 1) h.2⟩
theorem LR.ones {R : V → α → Prop} {xs : List V} {ys : List α} (h : LR R xs ys) : LR (fun l y => ∃ v, l = [v] ∧ R v y) (xs.map fun v => [v]) ys := h.map fun v y h => ⟨v, rfl, h⟩
end Kk
end
section
set_option maxHeartbeats 1000000
namespace Kk
variable {α β γ δ : Type}
theorem dget_same {es : List (Str × V)} {k : Str} {v : V} : dget (dput es k v) k = some v := by
 unfold dput
 split
 ·rename_i h
  unfold dget
  induction es with
  | nil => simp at h
  | cons p r ih =>
   simp only [List.map_cons, List.find?_cons]
   by_cases e : p.1 = k
   ·simp [e]
   ·simp only [e, if_false, decide_false]
    exact ih (by simpa [e] using h)
 ·rename_i h
  unfold dget
  rw [List.find?_append]
  have : es.find? (fun p => decide (p.1 = k)) = none := by
   rw [List.find?_eq_none]
   intro p hp hk
   exact h (List.any_eq_true.mpr ⟨p, hp, hk⟩)
  rw [this]
  simp
theorem dget_put_ne {es : List (Str × V)} {k y : Str} {v : V} (h : y ≠ k) : dget (dput es k v) y = dget es y := by
 unfold dput
 split
 ·unfold dget
  rename_i h0; clear h0
  induction es with
  | nil => rfl
  | cons p r ih =>
   simp only [List.map_cons, List.find?_cons]
   by_cases e : p.1 = k
   ·have : ¬ k = y := fun e2 => h e2.symm
    simp only [e, if_true, this, decide_false]
    simpa using ih
   ·simp only [e, if_false]
    by_cases e2 : p.1 = y
    ·simp [e2]
    ·simp only [e2, decide_false]; exact ih
 ·unfold dget
  rw [List.find?_append]
  have : ([(k, v)] : List (Str × V)).find? (fun p => decide (p.1 = y)) = none := by simp [Ne.symm h]
  rw [this, Option.or_none]
theorem dget_ne {es : List (Str × V)} {k y : Str} {v : V} {r : Option V} (h : y ≠ k) (e : dget es y = r) : dget (dput es k v) y = r := (dget_put_ne h).trans e
theorem dput_len {es : List (Str × V)} {k : Str} {v : V} {n : Nat} (h : es.length ≤ n) : (dput es k v).length ≤ n + 1 := by
 unfold dput
 split
 ·simpa using Nat.le_succ_of_le h
 ·simpa using h
theorem wk_own {c a d : Addr} {f : List V → M V} {es : List (Str × V)} {ep : Nat} {Q : Int → St → Prop} {X : Ex → St → Prop} {st : St} (h1 : st.μ a = some (.inst c d)) (h2 : st.μ d = some (.dict es ep))
  (h : f [.ref a] (fun r st' => ∃ i, r = .int i ∧ (0 ≤ i ∧ i < 2 ^ 62) ∧ Q i st') X st) : lenOwnM c f (.ref a) Q X st := .mk h1 h2 h
theorem wk_fn {names : List Str} {tail : List (Str × V)} {k : Nat} {pb : M Fl} {us : List V} {Q : V → St → Prop} {X : Ex → St → Prop} {st : St} (hk : us.length = k)
  (h : pb (fun f st' => Q (retV f) ⟨st.σ, st'.μ⟩) (fun k st' => X k ⟨st.σ, st'.μ⟩) ⟨argσ (names.zip us ++ tail), st.μ⟩) : fnM names tail k pb us Q X st := ⟨hk, h⟩
theorem wk_en1 {names : List Str} {tail : List (Str × V)} {k : Nat} {pb : M Fl} {us : List V} {Q : V → St → Prop} {X : Ex → St → Prop} {st : St} {a1 : Str} {v1 : V} (hk : us.length = k) (h1 : argσ (names.zip us ++ tail) a1 = some v1)
  (h : ∀ σ, σ a1 = some v1 → pb (fun f st' => Q (retV f) ⟨st.σ, st'.μ⟩) (fun k st' => X k ⟨st.σ, st'.μ⟩) ⟨σ, st.μ⟩) : fnM names tail k pb us Q X st := wk_fn hk (h _ h1)
theorem wk_en2 {names : List Str} {tail : List (Str × V)} {k : Nat} {pb : M Fl} {us : List V} {Q : V → St → Prop} {X : Ex → St → Prop} {st : St} {a1 a2 : Str} {v1 v2 : V} (hk : us.length = k) (h1 : argσ (names.zip us ++ tail) a1 = some v1) (h2 : argσ (names.zip us ++ tail) a2 = some v2)
  (h : ∀ σ, σ a1 = some v1 → σ a2 = some v2 → pb (fun f st' => Q (retV f) ⟨st.σ, st'.μ⟩) (fun k st' => X k ⟨st.σ, st'.μ⟩) ⟨σ, st.μ⟩) : fnM names tail k pb us Q X st := wk_fn hk (h _ h1 h2)
theorem wk_en4 {names : List Str} {tail : List (Str × V)} {k : Nat} {pb : M Fl} {us : List V} {Q : V → St → Prop} {X : Ex → St → Prop} {st : St} {a1 a2 a3 a4 : Str} {v1 v2 v3 v4 : V} (hk : us.length = k) (h1 : argσ (names.zip us ++ tail) a1 = some v1) (h2 : argσ (names.zip us ++ tail) a2 = some v2) (h3 : argσ (names.zip us ++ tail) a3 = some v3) (h4 : argσ (names.zip us ++ tail) a4 = some v4)
  (h : ∀ σ, σ a1 = some v1 → σ a2 = some v2 → σ a3 = some v3 → σ a4 = some v4 → pb (fun f st' => Q (retV f) ⟨st.σ, st'.μ⟩) (fun k st' => X k ⟨st.σ, st'.μ⟩) ⟨σ, st.μ⟩) : fnM names tail k pb us Q X st := wk_fn hk (h _ h1 h2 h3 h4)
theorem wk_en6 {names : List Str} {tail : List (Str × V)} {k : Nat} {pb : M Fl} {us : List V} {Q : V → St → Prop} {X : Ex → St → Prop} {st : St} {a1 a2 a3 a4 a5 a6 : Str} {v1 v2 v3 v4 v5 v6 : V} (hk : us.length = k) (h1 : argσ (names.zip us ++ tail) a1 = some v1) (h2 : argσ (names.zip us ++ tail) a2 = some v2) (h3 : argσ (names.zip us ++ tail) a3 = some v3) (h4 : argσ (names.zip us ++ tail) a4 = some v4) (h5 : argσ (names.zip us ++ tail) a5 = some v5) (h6 : argσ (names.zip us ++ tail) a6 = some v6)
  (h : ∀ σ, σ a1 = some v1 → σ a2 = some v2 → σ a3 = some v3 → σ a4 = some v4 → σ a5 = some v5 → σ a6 = some v6 → pb (fun f st' => Q (retV f) ⟨st.σ, st'.μ⟩) (fun k st' => X k ⟨st.σ, st'.μ⟩) ⟨σ, st.μ⟩) : fnM names tail k pb us Q X st := wk_fn hk (h _ h1 h2 h3 h4 h5 h6)
theorem wk_en8 {names : List Str} {tail : List (Str × V)} {k : Nat} {pb : M Fl} {us : List V} {Q : V → St → Prop} {X : Ex → St → Prop} {st : St} {a1 a2 a3 a4 a5 a6 a7 a8 : Str} {v1 v2 v3 v4 v5 v6 v7 v8 : V} (hk : us.length = k) (h1 : argσ (names.zip us ++ tail) a1 = some v1) (h2 : argσ (names.zip us ++ tail) a2 = some v2) (h3 : argσ (names.zip us ++ tail) a3 = some v3) (h4 : argσ (names.zip us ++ tail) a4 = some v4) (h5 : argσ (names.zip us ++ tail) a5 = some v5) (h6 : argσ (names.zip us ++ tail) a6 = some v6) (h7 : argσ (names.zip us ++ tail) a7 = some v7) (h8 : argσ (names.zip us ++ tail) a8 = some v8)
  (h : ∀ σ, σ a1 = some v1 → σ a2 = some v2 → σ a3 = some v3 → σ a4 = some v4 → σ a5 = some v5 → σ a6 = some v6 → σ a7 = some v7 → σ a8 = some v8 → pb (fun f st' => Q (retV f) ⟨st.σ, st'.μ⟩) (fun k st' => X k ⟨st.σ, st'.μ⟩) ⟨σ, st.μ⟩) : fnM names tail k pb us Q X st := wk_fn hk (h _ h1 h2 h3 h4 h5 h6 h7 h8)
theorem wk_asg1 {x : Str} {v : V} {Q : Unit → St → Prop} {X : Ex → St → Prop} {st : St} (h : Q () (st.set x v)) : asg1 x [v] Q X st := h
theorem wk_asgT2 {x y : Str} {v w : V} {Q : Unit → St → Prop} {X : Ex → St → Prop} {st : St} (h : Q () ((st.set x v).set y w)) : asgT [x, y] [v, w] Q X st := h
theorem wk_asgT1 {x y : Str} {v w : V} {t : Addr} {Q : Unit → St → Prop} {X : Ex → St → Prop} {st : St} (h1 : st.μ t = some (.tup [v, w])) (h : Q () ((st.set x v).set y w)) : asgT [x, y] [.ref t] Q X st := by
 unfold asgT unpackM; simp only [h1]; exact h
theorem wk_and {d : M Bool} {b b2 : Bool} {Q : Bool → St → Prop} {X : Ex → St → Prop} {st : St} (hd : ∀ (Q : Bool → St → Prop) X, Q b2 st → d Q X st) (h : Q (b && b2) st) : ifK d (mret false) Q X b st := by
 k_call_by "c" b
 ·exact h
 ·exact hd _ _ (by simpa using h)
theorem wk_or {d : M Bool} {b b2 : Bool} {Q : Bool → St → Prop} {X : Ex → St → Prop} {st : St} (hd : ∀ (Q : Bool → St → Prop) X, Q b2 st → d Q X st) (h : Q (b || b2) st) : ifK (mret true) d Q X b st := by
 k_call_by "c" b
 ·exact hd _ _ (by simpa using h)
 ·exact h
theorem dget_keys {ks : List Str} {f : Str → V} {y : Str} : dget (ks.map fun k => (k, f k)) y = if y ∈ ks then some (f y) else none := by
 unfold dget
 induction ks with
 | nil => rfl
 | cons k r ih =>
  simp only [List.map_cons, List.find?_cons]
  by_cases e : k = y
  ·subst e; simp
  ·simp only [e, decide_false, List.mem_cons, Ne.symm e, false_or]
   rw [← ih]
theorem dget_keys_some {ks : List Str} {f : Str → V} {y : Str} : (dget (ks.map fun k => (k, f k)) y).isSome = decide (y ∈ ks) := by
 rw [dget_keys]; by_cases h : y ∈ ks <;> simp [h]
section
variable {Q : Bool → St → Prop} {X : Ex → St → Prop} {st : St}
theorem wk_truthL {a : Addr} {xs : List V} (h1 : st.μ a = some (.list xs)) (h2 : xs.length ≤ 100000) (h : Q (!xs.isEmpty) st) : truthM (.ref a) Q X st := .list h1 h2 h
theorem wk_truthT {a : Addr} {xs : List V} (h1 : st.μ a = some (.tup xs)) (h2 : xs.length ≤ 100000) (h : Q (!xs.isEmpty) st) : truthM (.ref a) Q X st := .tup h1 h2 h
theorem wk_truthB {b : Bool} (h : Q b st) : truthM (.bool b) Q X st := .bool h
theorem wk_truthN (h : Q false st) : truthM .none Q X st := .none h
end
section
variable {X : Ex → St → Prop} {st : St}
theorem wk_splitC {elt : M V} {acc : List V} {K : List V → St → Prop} {b : Bool} (h1 : b = true → elt (fun v st3 => acc.length ≤ 1000 ∧ K (acc ++ [v]) st3) (fun _ _ => False) st) (h2 : b = false → K acc st) : compB elt acc K b st := by
 unfold compB
 cases hb : b
 ·exact h2 hb
 ·exact h1 hb
theorem wk_add {a : Addr} {k : Str} {xs : List Str} {Q : V → St → Prop} (h1 : st.μ a = some (.set xs)) (h2 : xs.length ≤ 1000) (h : Q .none (st.put a (.set (if k ∈ xs then xs else xs ++ [k])))) : addM [.ref a, .str k] Q X st := .mk h1 h2 h
theorem wk_get2 {a : Addr} {k : Str} {d : V} {es : List (Str × V)} {ep : Nat} {Q : V → St → Prop} (h1 : st.μ a = some (.dict es ep)) (h : Q ((dget es k).getD d) st) : getM2 [.ref a, .str k, d] Q X st := .two h1 h
end
noncomputable def Bound (st : St) : List Str → Prop
 | [] => True
 | x :: r => (∃ v, st.σ x = some v) ∧ Bound st r
theorem Bound.of_mem {st : St} : ∀ {L : List Str}, Bound st L → ∀ x ∈ L, ∃ v, st.σ x = some v
 | y :: r, h, x, hx => by
  rcases List.mem_cons.mp hx with rfl | hx
  ·exact h.1
  ·exact Bound.of_mem h.2 x hx
theorem hasFree_of {st : St} {scope : Scope} (L : List Str) (h : freeOf scope = L) (k : Bound st L) : hasFree scope st := by
 unfold hasFree
 rw [h, List.all_eq_true]
 intro y hy
 refine exG1_1 (k.of_mem y hy) fun v e => ?_
 rw [e]; rfl
theorem dput_old {ks : List Str} {f : Str → V} {n : Str} {v : V} (h : n ∈ ks) : dput (ks.map fun k => (k, f k)) n v = ks.map fun k => (k, if k = n then v else f k) := by
 unfold dput
 rw [if_pos (List.any_eq_true.mpr ⟨(n, f n), List.mem_map.mpr ⟨n, h, rfl⟩, by simp⟩), List.map_map]
 apply List.map_congr_left
 intro k _
 simp only [Function.comp]
 split <;> simp_all
theorem dput_new {ks : List Str} {f : Str → V} {n : Str} {v : V} (h : n ∉ ks) : dput (ks.map fun k => (k, f k)) n v = (ks ++ [n]).map fun k => (k, if k = n then v else f k) := by
 unfold dput
 rw [if_neg, List.map_append]
 ·congr 1
  ·apply List.map_congr_left
   intro k hk
   rw [if_neg (by rintro rfl; exact h hk)]
  ·simp
 ·rw [List.any_eq_true]
  intro q0q
  refine exG1_2 q0q fun p hp hn => ?_
  refine exG1_2 (List.mem_map.mp hp) fun k hk r1 => ?_
  obtain rfl := r1
  exact h ((of_decide_eq_true hn : k = n) ▸ hk)
section
variable {X : Ex → St → Prop} {st : St} {Q : Fl → St → Prop}
noncomputable def whileK (body els : M Fl) (Q : Fl → St → Prop) (X : Ex → St → Prop) (K : St → Prop) (b : Bool) (st : St) : Prop := if b = true then body (bodyK Q K) X st else els Q X st
theorem wk_while {t : M Bool} {body els : M Fl} (I : Nat → St → Prop) (hs : ∀ k st (K : St → Prop), I k st → (∀ j st', j < k → I j st' → K st') → t (whileK body els Q X K) X st) (h0 : ∃ k, I k st) : whileM t body els Q X st :=
 ⟨I, fun k st h => hs k st (fun st' => ∃ j, j < k ∧ I j st') h fun j st' a b => ⟨j, a, b⟩, h0⟩
theorem wk_whT {body els : M Fl} {K : St → Prop} (h : body (bodyK Q K) X st) : whileK body els Q X K true st := h
theorem wk_whF {body els : M Fl} {K : St → Prop} (h : els Q X st) : whileK body els Q X K false st := h
theorem wk_whS {body els : M Fl} {K : St → Prop} {b : Bool} (h : b = true → body (bodyK Q K) X st) (k : b = false → els Q X st) : whileK body els Q X K b st := by
 cases hb : b
 ·exact k hb
 ·exact h hb
end
theorem wk_bindR {p : M α} {f : α → (β → St → Prop) → (Ex → St → Prop) → St → Prop} {Q : β → St → Prop} {X : Ex → St → Prop} {st : St} (h : p (fun a st' => f a Q X st') X st) : mbind p f Q X st := h
theorem wk_bindL {p : (α → St → Prop) → (Ex → St → Prop) → St → Prop} {f : α → M β} {Q : β → St → Prop} {X : Ex → St → Prop} {st : St} (h : p (fun a st' => f a Q X st') X st) : mbind p f Q X st := h
theorem wk_bindB {p : (α → St → Prop) → (Ex → St → Prop) → St → Prop} {f : α → (β → St → Prop) → (Ex → St → Prop) → St → Prop} {Q : β → St → Prop} {X : Ex → St → Prop} {st : St} (h : p (fun a st' => f a Q X st') X st) : mbind p f Q X st := h
section
variable {X : Ex → St → Prop} {st : St}
theorem canLay_strs : ∀ {ys : List Str}, (∀ y ∈ ys, PyData.strOk y = true) → PyData.canLayAll0 (ys.map .str) = true
 | [], _ => rfl
 | y :: r, h => by
  rw [List.map_cons, PyData.canLayAll0, PyData.canLay0, h y (.head _), canLay_strs fun z hz => h z (.tail _ hz)]; rfl
theorem depth_strs : ∀ (ys : List Str), PyData.depthAll (ys.map .str) = 0
 | [] => rfl
 | y :: r => by rw [List.map_cons, PyData.depthAll, PyData.depth, depth_strs r]; rfl
theorem okD_strs {ys : List Str} (h : ∀ y ∈ ys, PyData.strOk y = true) : okD (.list (ys.map .str)) := ⟨canLay_strs h, by rw [PyData.depth, depth_strs]; omega⟩
theorem okD_str {y : Str} (h : PyData.strOk y = true) : okD (.str y) := ⟨h, by rw [PyData.depth]; omega⟩
theorem rdAll_strs {μ : Addr → Option O} : ∀ (ys : List Str), RdAll μ (ys.map .str) (ys.map .str)
 | [] => .nil
 | y :: r => .cons (.str y) (rdAll_strs r)
theorem any_strs (ys : List Str) (x : Str) : ((ys.map PyData.str).any fun y => PyData.eqv y (.str x)) = decide (x ∈ ys) := by
 induction ys with
 | nil => rfl
 | cons y r ih =>
  rw [List.map_cons, List.any_cons, ih, PyData.eqv]
  by_cases e : x = y
  ·subst e; simp
  ·have : (y == x) = false := by simpa using Ne.symm e
   simp [this, e]
theorem wk_inL {a : Addr} {x : Str} {ys : List Str} {Q : Bool → St → Prop} (h1 : st.μ a = some (.list (ys.map .str))) (h2 : ∀ y ∈ ys, PyData.strOk y = true) (h3 : PyData.strOk x = true) (h : Q (decide (x ∈ ys)) st) : cmpM .In (.str x) (.ref a) Q X st := .in_ (.list h1 (rdAll_strs ys) (.str x) (okD_strs h2) (okD_str h3) (by rw [any_strs]; exact h))
theorem wk_ninL {a : Addr} {x : Str} {ys : List Str} {Q : Bool → St → Prop} (h1 : st.μ a = some (.list (ys.map .str))) (h2 : ∀ y ∈ ys, PyData.strOk y = true) (h3 : PyData.strOk x = true) (h : Q (!decide (x ∈ ys)) st) : cmpM .NotIn (.str x) (.ref a) Q X st := .nin (.list h1 (rdAll_strs ys) (.str x) (okD_strs h2) (okD_str h3) (by rw [any_strs]; exact h))
end
set_option genInjectivity false in
structure PR where
 num : Int
 nm : Str
 sy : List Str
inductive ProdAt (μ : Addr → Option O) (v : V) (p : PR) (pv fi lv : V) : Prop
 | mk (a d : Addr) (es : List (Str × V)) (ep : Nat) (t : Addr) : v = .ref a → μ a = some (.inst 81 d) → μ d = some (.dict es ep) → dget es "name" = some (.str p.nm) → dget es "number" = some (.int p.num) → dget es "prod" = some (.ref t) → μ t = some (.tup (p.sy.map .str)) →
  dget es "prec" = some pv → dget es "file" = some fi → dget es "line" = some lv → ProdAt μ v p pv fi lv
theorem ProdAt.le {μ μ' : Addr → Option O} (k : Le μ μ') {v : V} {p : PR} {pv fi lv : V} (h : ProdAt μ v p pv fi lv) : ProdAt μ' v p pv fi lv :=
 by obtain ⟨a, d, es, ep, t, e1, e2, e3, e4, e5, e6, e7, e8, e9, e10⟩ := h; exact ⟨a, d, es, ep, t, e1, k _ _ e2, k _ _ e3, e4, e5, e6, k _ _ e7, e8, e9, e10⟩
section
variable {X : Ex → St → Prop} {st : St}
theorem wk_raise {vs : List V} {Q : Fl → St → Prop} (hl : vs.length ≤ 1000) (h : X .gram st) : raiseM vs Q X st := ⟨hl, h⟩
noncomputable def tryK (h : M Fl) (Q : Fl → St → Prop) (k : Ex) (st : St) : Prop := match k with | .gram => h Q (fun _ _ => False) st | _ => False
theorem wk_tryG {b h : M Fl} {Q : Fl → St → Prop} (k : b Q (tryK h Q) st) : tryGramM b h Q X st := k
theorem wk_tryX {h : M Fl} {Q : Fl → St → Prop} (k : h Q (fun _ _ => False) st) : tryK h Q .gram st := k
theorem wk_text {B : Nat} {Q : V → St → Prop} (h : ∀ x : Str, x.length ≤ B → Q (.str x) st) : textM B Q X st := h
theorem wk_sayS {x : Str} {Q : Unit → St → Prop} (h1 : x.length ≤ 1000) (h : Q () st) : sayM (.str x) Q X st := .str h1 h
theorem wk_sayI {i : Int} {Q : Unit → St → Prop} (h1 : 0 ≤ i) (h2 : i ≤ 1000) (h : Q () st) : sayM (.int i) Q X st := .int h1 h2 h
theorem wk_showS {x : Str} {Q : Unit → St → Prop} (h1 : (reprText x).length ≤ 1000) (h : Q () st) : showM (.str x) Q X st := .mk h1 h
theorem wk_strS {x : Str} {Q : Unit → St → Prop} (h1 : x.length ≤ 1000) (h : Q () st) : strsM (.str x) Q X st := .mk h1 h
theorem wk_ownS {c a d : Addr} {f : List V → M V} {es : List (Str × V)} {ep : Nat} {Q : Unit → St → Prop} (h1 : st.μ a = some (.inst c d)) (h2 : st.μ d = some (.dict es ep)) (h : f [.ref a] (fun r st' => ∃ y : Str, r = .str y ∧ y.length ≤ 10000 ∧ Q () st') X st) : strOwnM c f (.ref a) Q X st := .mk h1 h2 h
theorem wk_joinT {k : Nat} {a : Addr} {ys : List Str} {Q : V → St → Prop} (h1 : st.μ a = some (.tup (ys.map .str))) (h2 : (ys.map (·.length)).sum + ys.length * k ≤ 1000) (h : ∀ x : Str, x.length ≤ 1000 → Q (.str x) st) : joinM k (.ref a) Q X st := .mk h1 h2 h
theorem wk_precT {a : Addr} {y : Str} {i : Int} {Q : V → St → Prop} (h1 : st.μ a = some (.tup [.str y, .int i])) (h2 : y.length ≤ 1000) (h3 : 0 ≤ i) (h4 : i ≤ 1000) (h : ∀ x : Str, x.length ≤ 2000 → Q (.str x) st) : precM (.ref a) Q X st := .mk h1 h2 h3 h4 h
theorem wk_cat {x y : Str} {Q : V → St → Prop} (h1 : x.length ≤ 100000) (h2 : y.length ≤ 100000) (h : Q (.str (x ++ y)) st) : catM (.str x) (.str y) Q X st := .mk h1 h2 h
theorem wk_addS {x y : Str} {Q : V → St → Prop} (h1 : x.length ≤ 100000) (h2 : y.length ≤ 100000) (h : Q (.str (x ++ y)) st) : binM .Add (.str x) (.str y) Q X st := .addS h1 h2 h
theorem wk_idxLL {a : Addr} {k : Int} {xs : List V} {j : Nat} {u : V} {Q : V → St → Prop} (h1 : st.μ a = some (.list xs)) (h2 : xs.length ≤ 1000) (h3 : seqIndex? k xs.length = some j) (h4 : xs[j]? = some u) (h : Q u st) : idxLM (.ref a) (.int k) Q X st := .mk h1 h2 h3 h4 h
theorem wk_getO {c a d : Addr} {f : List V → M V} {i : V} {es : List (Str × V)} {ep : Nat} {Q : V → St → Prop} (h1 : st.μ a = some (.inst c d)) (h2 : st.μ d = some (.dict es ep)) (h : f [.ref a, i] Q X st) : getOwnM c f (.ref a) i Q X st := .mk h1 h2 h
theorem wk_unp2 {x y : Str} {v w : V} {t : Addr} {Q : Unit → St → Prop} (h1 : st.μ t = some (.tup [v, w])) (h : Q () ((st.set y w).set x v)) : unpack2M x y (.ref t) Q X st := by
 unfold unpack2M; simp only [h1]; exact h
theorem wk_unp4 {x y z w : Str} {a b c d : V} {t : Addr} {Q : Unit → St → Prop} (h1 : st.μ t = some (.tup [a, b, c, d])) (h : Q () ((((st.set x a).set y b).set z c).set w d)) : unpackM [x, y, z, w] (.ref t) Q X st := by
 unfold unpackM; simp only [h1]; exact h
theorem wk_orB {q : M V} {b : Bool} {Q : V → St → Prop} (h1 : b = true → Q (.bool true) st) (h2 : b = false → q Q X st) : orM q (.bool b) Q X st := by
 refine TruH.bool ?_
 k_call_by "c" b
 ·exact h2 rfl
 ·exact h1 rfl
end
end Kk
end
section
open Kk
set_option hygiene false
local macro_rules | `(tactic| k_call_by "e" $t) => `(tactic| with_reducible exact $t)
local macro_rules | `(tactic| k_call_by "a" $t) => `(tactic| with_reducible apply $t)
local macro_rules | `(tactic| k_call_by "m" $t) => `(tactic| ((with_reducible apply $t); walk_at "mu"))
local macro_rules | `(tactic| k_call_by "mm" $t) => `(tactic| (k_call_by "m" $t; walk_at "mu"))
local macro_rules | `(tactic| k_call_by "md" $t) => `(tactic| (k_call_by "mm" $t; walk_at "dg"))
local macro_rules | `(tactic| k_call_by "ml" $t) => `(tactic| (k_call_by "m" $t; walk_at "ln"))
local macro_rules | `(tactic| k_call_by "r" $t) => `(tactic| ((with_reducible apply $t); with_reducible assumption))
local macro_rules | `(tactic| walk_at "nm") => `(tactic| (first | decide | focus (simp only [ofString_inj, ne_eq, String.reduceEq, not_false_eq_true, List.mem_cons, List.not_mem_nil, or_false, false_or, or_self, not_or, and_self, or_true, true_or, not_false_iff]; done)))
local macro_rules | `(tactic| walk_at "sg") => `(tactic| first | assumption | k_call_by "e" sig_same | (k_call_by "a" sig_ne; walk_at "nm"; walk_at "sg") | (k_call_by "a" sig_put; walk_at "sg") | (k_call_by "a" sig_comp; kernel_rfl; walk_at "sg") | (k_call_by "a" SameBut.get; assumption; walk_at "nm"; walk_at "sg"))
local macro_rules | `(tactic| walk_at "mu") => `(tactic| first | with_reducible assumption | k_call_by "e" put_same | k_call_by "e" u_same | (k_call_by "r" put_old; walk_at "mu") | (k_call_by "r" u_old; walk_at "mu") | (k_call_by "a" put_ne; walk_at "ne"; walk_at "mu") | (k_call_by "a" u_ne; walk_at "ne"; walk_at "mu") | k_call_by "m" set_mu | (k_call_by "r" Le.get; walk_at "mu") | (k_call_by "a" Le.get; k_call_by "r" Le.put_mut; with_reducible assumption; walk_at "mu"))
local macro_rules | `(tactic| walk_at "ne") => `(tactic| first | with_reducible assumption | exact Ne.symm (by with_reducible assumption) | focus (k_call_by "r" ne_none2; walk_at "mu"; done))
local macro_rules | `(tactic| walk_at "le") => `(tactic| first | with_reducible assumption | k_call_by "e" Le.refl | (k_call_by "r" Le.put_new; walk_at "le") | (k_call_by "r" Le.new2; walk_at "le") | (k_call_by "r" Le.put_mut; walk_at "le") | (k_call_by "a" Le.st_set; walk_at "le") | (k_call_by "r" Le.trans2; walk_at "le"))
local macro_rules | `(tactic| walk_at "dg") => `(tactic| first | with_reducible assumption | k_call_by "e" dget_same | (k_call_by "a" dget_ne; walk_at "nm"; walk_at "dg") | rfl)
local macro_rules | `(tactic| walk_at "ln") => `(tactic| first | with_reducible assumption | exact Nat.zero_le _ | (k_call_by "a" dput_len; walk_at "ln") | focus (simp only [List.length_cons, List.length_nil, List.length_map, List.length_append, List.length_singleton]; first | exact Nat.le_trans (by with_reducible assumption) (by decide) | omega) | exact Nat.le_trans (by with_reducible assumption) (by decide) | omega)
local macro_rules | `(tactic| walk_at "w1") => `(tactic| first | (k_call_by "a" wk_battr; walk_at "sg"; walk_at "mu"; walk_at "mu"; walk_at "dg"; focus (first | assumption | (intro e; k_call_by "c" e; done))) | (k_call_by "a" wk_bloc; walk_at "sg") | (with_reducible first | apply wk_sasg | apply wk_bret | apply wk_seq | apply wk_bind | apply wk_bindR | apply wk_bindL | apply wk_bindB | apply wk_ret | apply wk_set | apply wk_asg | apply wk_next | apply wk_if | apply wk_retS | apply wk_true | apply wk_false | apply wk_nextB | apply wk_contB | apply wk_brkB | apply wk_retB) | (k_call_by "a" wk_loc; walk_at "sg") | (k_call_by "md" wk_attr; first | assumption | focus (intro e; k_call_by "c" e; done)) | k_call_by "md" wk_inst | k_call_by "m" wk_seqL | k_call_by "m" wk_seqT | k_call_by "m" wk_seqD | k_call_by "m" wk_enL | k_call_by "m" wk_enT | (k_call_by "m" wk_kind; rfl) | k_call_by "m" wk_inD | k_call_by "m" wk_ninD | k_call_by "a" wk_asg1 | k_call_by "a" wk_asgT2 | k_call_by "m" wk_asgT1 | (k_call_by "m" wk_inL; with_reducible assumption; with_reducible assumption) | (k_call_by "m" wk_ninL; with_reducible assumption; with_reducible assumption) | (k_call_by "a" wk_and; focus (intro Q X h; walk_at "w"; with_reducible exact h)) | (k_call_by "a" wk_or; focus (intro Q X h; walk_at "w"; with_reducible exact h)) | k_call_by "ml" wk_truthL | k_call_by "ml" wk_truthT | k_call_by "a" wk_truthB | k_call_by "a" wk_truthN | (k_call_by "mm" wk_setAttr; walk_at "ln"; intro _) | k_call_by "a" wk_eqS | k_call_by "a" wk_neS | k_call_by "a" wk_eqI | k_call_by "a" wk_gtI | k_call_by "a" wk_geI | k_call_by "ml" wk_append | k_call_by "ml" wk_lenL | k_call_by "ml" wk_lenT)
local macro_rules | `(tactic| walk_at "w") => `(tactic| repeat walk_at "w1")
local macro_rules | `(tactic| walk_at "sz") => `(tactic| first | with_reducible assumption | omega | decide +kernel | exact Nat.le_trans (by with_reducible assumption) (by decide))
local macro_rules | `(tactic| walk_at "say") => `(tactic| repeat first | walk_at "w1" | (k_call_by "a" wk_sayS; walk_at "sz") | (k_call_by "a" wk_sayI; walk_at "sz"; walk_at "sz") | (k_call_by "a" wk_showS; walk_at "sz") | (k_call_by "a" wk_strS; walk_at "sz") | (k_call_by "a" wk_text; intro _ _) | (k_call_by "a" wk_addS; walk_at "sz"; walk_at "sz") | (k_call_by "a" wk_raise; focus (first | decide | simp)))
set_option hygiene true
section
set_option maxHeartbeats 1000000
namespace Kk
variable {α β γ δ : Type}
section
variable {X : Ex → St → Prop} {st : St}
theorem wk_tuple {l : Addr} {xs : List V} {Q : V → St → Prop} (h1 : st.μ l = some (.list xs)) (h2 : xs.length ≤ 1000) (h : ∀ b, st.μ b = none → Q (.ref b) (st.put b (.tup xs))) : tupleM [.ref l] Q X st := .mk h1 h2 h
theorem wk_setdef {a : Addr} {k : Str} {d : V} {es : List (Str × V)} {ep : Nat} {Q : V → St → Prop} (h1 : st.μ a = some (.dict es ep)) (h2 : es.length ≤ 1000) (h : ∀ u, dget es k = some u → Q u st) (h' : dget es k = none → ∀ ep, Q d (st.put a (.dict (dput es k d) ep))) : setdefaultM [.ref a, .str k, d] Q X st := by
 cases e : dget es k with
 | some u => exact .old h1 h2 e (h u e)
 | none => exact .new h1 h2 e (h' e)
theorem wk_fromkeys {a : Addr} {v : V} {es : List (Str × V)} {ep : Nat} {Q : V → St → Prop} (h1 : st.μ a = some (.dict es ep)) (h2 : es.length ≤ 1000) (h : ∀ b, st.μ b = none → ∀ ep, Q (.ref b) (st.put b (.dict (es.map fun p => (p.1, v)) ep))) : fromkeysM [.ref a, v] Q X st := by
 unfold fromkeysM; simp only [h1]; exact ⟨h2, h⟩
theorem wk_lam {P : Addr} {v : V} {Q : V → St → Prop} (h1 : ∃ b, st.μ P = some (.tab b)) (h : ∀ f, st.μ f = none → Q (.ref f) (st.put P (.tab false))) : lamM P v Q X st := ⟨h1, h⟩
theorem wk_iadd {i j : Int} {Q : V → St → Prop} (h : Q (.int (i + j)) st) : iopM .Add (.int i) (.int j) Q X st := .addI h
theorem wk_isub {i j : Int} {Q : V → St → Prop} (h : Q (.int (i - j)) st) : iopM .Sub (.int i) (.int j) Q X st := .subI h
theorem wk_fmtS {x : Str} {Q : Str → St → Prop} (h1 : x.length ≤ 1000) (h : Q x st) : fmtM (.str x) Q X st := .str h1 h
theorem wk_fmtI {i : Int} {Q : Str → St → Prop} (h1 : i.natAbs ≤ 1000) (h2 : (Str.ofString (toString i)).length ≤ 1000) (h : Q (Str.ofString (toString i)) st) : fmtM (.int i) Q X st := .int h1 h2 h
end
structure PI (F0 : Addr → Option O) (x d t u : Addr) (num : Int) (nm : Str) (sy : List Str) (pv fi lv : V) (μ : Addr → Option O) : Prop where
 le : Le F0 μ
 tab : ∃ b, μ 45 = some (.tab b)
 ix : μ x = some (.inst 81 d)
 it : μ t = some (.tup (sy.map .str))
 iu : ∃ acc : List Str, μ u = some (.list (acc.map .str)) ∧ acc.length ≤ 10 ∧ ∀ y ∈ acc, y ∈ sy
 dc : ∃ es ep, μ d = some (.dict es ep) ∧ es.length ≤ 12 ∧ dget es "name" = some (.str nm) ∧ dget es "number" = some (.int num) ∧ dget es "prod" = some (.ref t) ∧ dget es "usyms" = some (.ref u) ∧ dget es "prec" = some pv ∧ dget es "file" = some fi ∧ dget es "line" = some lv
noncomputable def Loc (F0 : Addr → Option O) (x d t u a : Addr) : Prop := F0 a = none ∧ a ≠ 45 ∧ a ≠ x ∧ a ≠ d ∧ a ≠ t ∧ a ≠ u
section
variable {F0 : Addr → Option O} {x d t u a : Addr} {num : Int} {nm : Str} {sy : List Str} {pv fi lv : V} {μ : Addr → Option O} {o : O}
theorem PI.fresh (h : PI F0 x d t u num nm sy pv fi lv μ) (ha : μ a = none) : Loc F0 x d t u a := by
 obtain ⟨le, ⟨b, tb⟩, ix, it, ⟨acc, iu, i2, i3⟩, es, ep, dc, j⟩ := h
 exact ⟨le.noneOf ha, Ne.symm (ne_none tb ha), Ne.symm (ne_none ix ha), Ne.symm (ne_none dc ha), Ne.symm (ne_none it ha), Ne.symm (ne_none iu ha)⟩
theorem PI.loc (h : PI F0 x d t u num nm sy pv fi lv μ) (k : Loc F0 x d t u a) : PI F0 x d t u num nm sy pv fi lv (upd μ a o) := by
 obtain ⟨le, ⟨b, tb⟩, ix, it, ⟨acc, iu, i2, i3⟩, es, ep, dc, j⟩ := h
 refine exG0_6 k fun k1 k2 k3 k4 k5 k6 => ?_
 exact ⟨le.mut k1, ⟨b, u_ne (Ne.symm k2) tb⟩, u_ne (Ne.symm k3) ix, u_ne (Ne.symm k5) it, ⟨acc, u_ne (Ne.symm k6) iu, i2, i3⟩, es, ep, u_ne (Ne.symm k4) dc, j⟩
theorem PI.tabs (h : PI F0 x d t u num nm sy pv fi lv μ) (h45 : F0 45 = none) {b : Bool} : PI F0 x d t u num nm sy pv fi lv (upd μ 45 (.tab b)) := by
 obtain ⟨le, ⟨b', tb⟩, ix, it, ⟨acc, iu, i2, i3⟩, es, ep, dc, j⟩ := h
 have ne : ∀ {a : Addr} {o : O}, μ a = some o → (∀ b, o ≠ .tab b) → a ≠ 45 := by rintro a o h k rfl; rw [tb] at h; k_call_by "c" h; exact k _ rfl
 exact ⟨le.mut h45, ⟨b, u_same⟩, u_ne (ne ix nofun) ix, u_ne (ne it nofun) it, ⟨acc, u_ne (ne iu nofun) iu, i2, i3⟩, es, ep, u_ne (ne dc nofun) dc, j⟩
theorem PI.usy (h : PI F0 x d t u num nm sy pv fi lv μ) (hu : F0 u = none) {acc : List Str} (h1 : acc.length ≤ 10) (h2 : ∀ y ∈ acc, y ∈ sy) : PI F0 x d t u num nm sy pv fi lv (upd μ u (.list (acc.map .str))) := by
 obtain ⟨le, ⟨b', tb⟩, ix, it, ⟨acc', iu, i2, i3⟩, es, ep, dc, j⟩ := h
 have ne : ∀ {a : Addr} {o : O}, μ a = some o → (∀ b, o ≠ .list b) → a ≠ u := by rintro a o h k rfl; rw [iu] at h; k_call_by "c" h; exact k _ rfl
 exact ⟨le.mut hu, ⟨b', u_ne (ne tb nofun) tb⟩, u_ne (ne ix nofun) ix, u_ne (ne it nofun) it, ⟨acc, u_same, h1, h2⟩, es, ep, u_ne (ne dc nofun) dc, j⟩
end
theorem small_shown : ∀ i : Nat, i ≤ 10 → (Str.ofString (toString (i : Int))).length ≤ 1000 := by
 intro i hi
 have : ∀ i : Fin 11, (Str.ofString (toString ((i.val : Nat) : Int))).length ≤ 1000 := by decide +kernel
 exact this ⟨i, by omega⟩
variable {g : Gx} {X : Ex → St → Prop} {Q : Fl → St → Prop} {st : St}
theorem sp_init_P {n : Nat} {m : Mine g} {F0 : Addr → Option O} {x d l : Addr} {num : Int} {nm : Str} {sy : List Str} {pv fv fi lv : V} (hF : Le F0 st.μ) (h45 : F0 45 = none) (hx0 : F0 x = none) (hd0 : F0 d = none) (hdx : d ≠ x) (hx : st.μ x = some (.inst 81 d)) (hd : st.μ d = some (.dict [] 0)) (hl : st.μ l = some (.list (sy.map .str))) (hT : ∃ b, st.μ 45 = some (.tab b))
  (hsl : sy.length ≤ 4) (hok : ∀ y ∈ sy, PyData.strOk y = true) (hyl : ∀ y ∈ sy, y.length ≤ 1000) (s1 : st.σ "self" = some (.ref x)) (s2 : st.σ "number" = some (.int num)) (s3 : st.σ "name" = some (.str nm)) (s4 : st.σ "prod" = some (.ref l)) (s5 : st.σ "precedence" = some pv) (s6 : st.σ "func" = some fv) (s7 : st.σ "file" = some fi) (s8 : st.σ "line" = some lv)
  (h : ∀ st' t, Le F0 st'.μ → (∃ b, st'.μ 45 = some (.tab b)) → st'.μ x = some (.inst 81 d) → st'.μ t = some (.tup (sy.map .str)) → (∃ es ep, st'.μ d = some (.dict es ep) ∧ dget es "name" = some (.str nm) ∧ dget es "number" = some (.int num) ∧ dget es "prod" = some (.ref t) ∧ dget es "prec" = some pv ∧ dget es "file" = some fi ∧ dget es "line" = some lv) → st.μ t = none → Q .next st') : (r_init_P (n := n) m).1 Q X st := by
 unfold r_init_P; dsimp only
 have hxd := Ne.symm hdx
 revert hT; refine fun oO => exG1_1 oO fun b45 hT => ?_
 have hld : l ≠ d := by rintro rfl; rw [hd] at hl; k_call_by "c" hl
 have hlx : l ≠ x := by rintro rfl; rw [hx] at hl; k_call_by "c" hl
 have h45d : (45 : Addr) ≠ d := by rintro e; rw [← e, hT] at hd; k_call_by "c" hd
 have h45x : (45 : Addr) ≠ x := by rintro e; rw [← e, hT] at hx; k_call_by "c" hx
 walk_at "w"
 refine wk_tuple (xs := sy.map .str) (by walk_at "mu") (by walk_at "ln") fun t ht => ?_
 have htx : x ≠ t := ne_none (o := .inst 81 d) (by walk_at "mu") ht
 have htd : d ≠ t := ne_none put_same ht
 have htd' := Ne.symm htd
 have ht0 : st.μ t = none := by
  cases e : st.μ t with
  | none => rfl
  | some o => exact absurd ht (by rw [put_ne htd' e]; nofun)
 have ht45 : (45 : Addr) ≠ t := by rintro e; rw [← e, hT] at ht0; k_call_by "c" ht0
 walk_at "w"
 have hul : (sy.map V.str).length ≤ 100000 := by simp; omega
 walk_at "w"
 refine wk_list (by simp) fun u hu => ?_
 walk_at "w"
 have hxu : x ≠ u := ne_none (o := .inst 81 d) (by walk_at "mu") hu
 have hdu : d ≠ u := ne_none put_same hu
 have htu : t ≠ u := ne_none (o := .tup (sy.map .str)) (by walk_at "mu") hu
 have h45u : (45 : Addr) ≠ u := ne_none (o := .tab b45) (by walk_at "mu") hu
 have hu0 : st.μ u = none := by
  cases e : st.μ u with
  | none => rfl
  | some o => exact absurd (hu.symm.trans (put_ne (Ne.symm hdu) (put_ne (Ne.symm hdu) (put_ne (Ne.symm hdu) (put_ne (Ne.symm hdu) (put_ne (Ne.symm hdu) (put_ne (Ne.symm hdu) (put_ne (Ne.symm hdu) (put_ne (Ne.symm htu) (put_ne (Ne.symm hdu) e)))))))))) nofun
 have hFu : F0 u = none := hF.noneOf hu0
 have hFt : F0 t = none := hF.noneOf ht0
 refine loop_gen (its_enT (by walk_at "mu")) (LR.enum 0 (LR.strs sy)) (fun pre st' => st'.σ "self" = some (.ref x) ∧ st'.σ "prod" = some (.ref l) ∧ PI F0 x d t u num nm sy pv fi lv st'.μ ∧ ∃ acc : List Str, st'.μ u = some (.list (acc.map .str)) ∧ acc.length ≤ pre.length ∧ ∀ y ∈ acc, y ∈ sy) ?_ ?_ ?_ ?_
 ·exact ⟨by walk_at "sg", by walk_at "sg", ⟨by walk_at "le", ⟨b45, by walk_at "mu"⟩, by walk_at "mu", by walk_at "mu", ⟨[], put_ne (Ne.symm hdu) put_same, by simp, by simp⟩, _, _, by walk_at "mu", by walk_at "ln", by walk_at "dg", by walk_at "dg", by walk_at "dg", by walk_at "dg", by walk_at "dg", by walk_at "dg", by walk_at "dg"⟩, [], put_ne (Ne.symm hdu) put_same, by simp, by simp⟩
 ·intro i st' hi q0q
  refine exG0_4 q0q fun _ _ k1 _ => ?_
  exact cur_enT k1.it
 ·intro pre q0q post l' st2 K hps q1q q2q hK
  obtain ⟨y, j⟩ := q0q
  refine exG1_2 q1q fun v r1 r2 => ?_
  obtain rfl := r1
  obtain rfl := r2
  refine exG0_4 q2q fun v1 v2 k1 r3 => ?_
  refine exG1_3 r3 fun acc k2 k3 k4 => ?_
  obtain ⟨le, ⟨b, tb⟩, ix, it, -, es, ep, dc, c1, c2, c3, c4, c5, c6, c7, c8⟩ := id k1
  have hy : y ∈ sy := by
   have : (y, j) ∈ sy.zipIdx 0 := by rw [hps]; simp
   exact (List.mem_zipIdx this).2.2 ▸ List.getElem_mem _
  have hpl : pre.length ≤ 3 := preLe hps (by first | omega | (simp; done) | (simp; omega))
  walk_at "w"
  refine wk_ninL (ys := acc) (by walk_at "mu") (fun z hz => hok z (k4 z hz)) (hok y hy) ?_
  refine wk_split (fun hb => ?_) (fun hb => ?_)
  ·have hal : (acc.map V.str).length ≤ 1000 := by simp; omega
   walk_at "w"
   refine hK _ ⟨by walk_at "sg", by walk_at "sg", ?_, acc ++ [y], ?_, by simp; omega, ?_⟩
   ·have := k1.usy hFu (acc := acc ++ [y]) (by walk_at "ln") (by simpa [or_imp, forall_and] using ⟨k4, hy⟩)
    rw [List.map_append] at this; exact this
   ·rw [List.map_append]; exact put_same
   ·simpa [or_imp, forall_and] using ⟨k4, hy⟩
  ·walk_at "w"
   exact hK _ ⟨by walk_at "sg", by walk_at "sg", k1, acc, k2, by simp; omega, k4⟩
 intro st2 q0q
 refine exG0_4 q0q fun v1 v2 k1 _ => ?_
 walk_at "w"
 intro nc hnc ep0
 have lnc := k1.fresh hnc
 have k2 : PI F0 x d t u num nm sy pv fi lv (st2.put nc (.dict [] ep0)).μ := k1.loc lnc
 obtain ⟨le, ⟨b, tb⟩, ix, it, -, es, ep, dc, c1, c2, c3, c4, c5, c6, c7, c8⟩ := id k2
 walk_at "w"
 refine loop_gen (its_tup (by walk_at "mu")) (LR.strs sy).ones (fun pre st' => st'.σ "self" = some (.ref x) ∧ st'.σ "namecount" = some (.ref nc) ∧ PI F0 x d t u num nm sy pv fi lv st'.μ ∧ ∃ (ks : List Str) (c : Str → Int) (ep : Nat), st'.μ nc = some (.dict (ks.map fun k => (k, .int (c k))) ep) ∧ ks.length ≤ pre.length ∧ ∀ y ∈ pre, y ∈ ks) ?_ ?_ ?_ ?_
 ·exact ⟨by walk_at "sg", by walk_at "sg", k2, [], fun _ => 0, ep0, put_same, by simp, by simp⟩
 ·intro i st' hi q0q
  refine exG0_4 q0q fun _ _ k1 _ => ?_
  exact cur_tup k1.it
 ·intro pre y post l' st3 K hps q0q q1q hK
  refine exG1_2 q0q fun v r4 r5 => ?_
  obtain rfl := r4
  obtain rfl := r5
  refine exG0_4 q1q fun v1 v2 k1 r6 => ?_
  refine exG3_3 r6 fun ks c ep1 k3 k4 k5 => ?_
  have hpl : pre.length ≤ 3 := preLe hps (by first | omega | (simp; done) | (simp; omega))
  walk_at "w"
  refine wk_setdef (by walk_at "mu") (by walk_at "ln") (fun w hw => ?_) (fun hw ep2 => ?_)
  ·have hyk : y ∈ ks := by
    rw [dget_keys] at hw
    by_cases h : y ∈ ks
    ·exact h
    ·rw [if_neg h] at hw; k_call_by "c" hw
   walk_at "w"
   refine wk_idxD (u := .int (c y)) (by walk_at "mu") (by rw [dget_keys, if_pos hyk]) ?_
   walk_at "w"
   refine wk_iadd ?_
   walk_at "w"
   refine wk_itemD (by walk_at "mu") (by walk_at "ln") fun ep3 => ?_
   walk_at "w"
   refine ⟨⟨y, rfl⟩, ?_⟩
   walk_at "w"
   refine hK _ ⟨by walk_at "sg", by walk_at "sg", k1.loc lnc, ks, fun k => if k = y then c y + 1 else c k, ep3, ?_, by simp; omega, ?_⟩
   ·rw [put_same, dput_old hyk]
    congr 3
    funext k; by_cases e : k = y <;> simp [e]
   ·simpa [or_imp, forall_and] using ⟨k5, hyk⟩
  ·have hyk : y ∉ ks := by
    intro h
    rw [dget_keys, if_pos h] at hw; k_call_by "c" hw
   rw [dput_new hyk]
   have hyk' : y ∈ ks ++ [y] := by simp
   walk_at "w"
   refine wk_idxD (u := .int 0) (by walk_at "mu") (by rw [dget_keys (ks := ks ++ [y]) (f := fun k => if k = y then V.int 0 else V.int (c k)), if_pos hyk']; simp) ?_
   walk_at "w"
   refine wk_iadd ?_
   walk_at "w"
   refine wk_itemD (by walk_at "mu") (by walk_at "ln") fun ep3 => ?_
   walk_at "w"
   refine ⟨⟨y, rfl⟩, ?_⟩
   walk_at "w"
   refine hK _ ⟨by walk_at "sg", by walk_at "sg", PI.loc (PI.loc k1 lnc) lnc, ks ++ [y], fun k => if k = y then 1 else c k, ep3, ?_, by simp; omega, ?_⟩
   ·rw [put_same, dput_old (ks := ks ++ [y]) (f := fun k => if k = y then V.int 0 else V.int (c k)) hyk']
    congr 3
    funext k; by_cases e : k = y <;> simp [e]
   ·simp only [List.mem_append, List.mem_singleton, or_imp, forall_and]
    exact ⟨fun z hz => .inl (k5 z hz), fun z hz => .inr hz⟩
 intro st3 q0q
 refine exG0_4 q0q fun v1 v2 k1 r7 => ?_
 refine exG3_3 r7 fun ks c ep1 k3 k4 k5 => ?_
 walk_at "w"
 refine wk_fromkeys (by walk_at "mu") (by walk_at "ln") fun nu hnu ep2 => ?_
 have lnu := k1.fresh hnu
 have hncu : nc ≠ nu := ne_none k3 hnu
 have k6 : PI F0 x d t u num nm sy pv fi lv (st3.put nu (.dict ((ks.map fun k => (k, V.int (c k))).map fun p => (p.1, V.int 0)) ep2)).μ := k1.loc lnu
 have k7 : (st3.put nu (.dict ((ks.map fun k => (k, V.int (c k))).map fun p => (p.1, V.int 0)) ep2)).μ nu = some (.dict (ks.map fun k => (k, V.int ((0 : Nat) : Int))) ep2) := by rw [put_same, List.map_map]; rfl
 have k8 : (st3.put nu (.dict ((ks.map fun k => (k, V.int (c k))).map fun p => (p.1, V.int 0)) ep2)).μ nc = some (.dict (ks.map fun k => (k, .int (c k))) ep1) := put_ne hncu k3
 walk_at "w"
 intro nm' hnm ep3
 have hnu1 : (st3.put nu (.dict ((ks.map fun k => (k, V.int (c k))).map fun p => (p.1, V.int 0)) ep2)).μ nm' = none := hnm
 have lnm := k6.fresh hnm
 have hncm : nc ≠ nm' := ne_none k8 hnm
 have hnum : nu ≠ nm' := ne_none k7 hnm
 have k9 : PI F0 x d t u num nm sy pv fi lv (((st3.put nu (.dict ((ks.map fun k => (k, V.int (c k))).map fun p => (p.1, V.int 0)) ep2)).set "nameuse" (.ref nu)).put nm' (.dict [] ep3)).μ := k6.loc lnm
 obtain ⟨le, ⟨b, tb⟩, ix, it, -, es, ep, dc, c1, c2, c3, c4, c5, c6, c7, c8⟩ := id k9
 walk_at "w"
 refine loop_gen (its_enT (by walk_at "mu")) (LR.enum 0 (LR.strs sy)) (fun pre st' => st'.σ "self" = some (.ref x) ∧ st'.σ "namecount" = some (.ref nc) ∧ st'.σ "nameuse" = some (.ref nu) ∧ st'.σ "namemap" = some (.ref nm') ∧ PI F0 x d t u num nm sy pv fi lv st'.μ ∧ st'.μ nc = some (.dict (ks.map fun k => (k, .int (c k))) ep1) ∧
  ∃ (uu : Str → Nat) (ep : Nat) (es' : List (Str × V)) (ep' : Nat), st'.μ nu = some (.dict (ks.map fun k => (k, .int ((uu k : Nat) : Int))) ep) ∧ (∀ k, uu k ≤ pre.length) ∧ st'.μ nm' = some (.dict es' ep') ∧ es'.length ≤ pre.length) ?_ ?_ ?_ ?_
 ·exact ⟨by walk_at "sg", by walk_at "sg", by walk_at "sg", by walk_at "sg", k9, by walk_at "mu", fun _ => 0, ep2, [], ep3, set_mu (put_ne hnum k7), by simp, set_mu put_same, by simp⟩
 ·intro i st' hi q0q
  refine exG0_6 q0q fun _ _ _ _ k1 _ => ?_
  exact cur_enT k1.it
 ·intro pre q0q post l' st5 K hps q1q q2q hK
  obtain ⟨y, j⟩ := q0q
  refine exG1_2 q1q fun v r8 r9 => ?_
  obtain rfl := r8
  obtain rfl := r9
  refine exG0_7 q2q fun v1 v2 v3 v4 k1 k2 r10 => ?_
  refine exG4_4 r10 fun uu ep4 es5 ep5 k3 k4' k5' k6' => ?_
  have hy : y ∈ sy := by
   have : (y, j) ∈ sy.zipIdx 0 := by rw [hps]; simp
   exact (List.mem_zipIdx this).2.2 ▸ List.getElem_mem _
  have hpl : pre.length ≤ 3 := preLe hps (by first | omega | (simp; done) | (simp; omega))
  have hyk := k5 y hy
  have hksl : (ks.map fun k => (k, V.int ((uu k : Nat) : Int))).length ≤ 1000 := by simp; omega
  have hal5 : es5.length ≤ 1000 := by omega
  have hpost : ∀ kk : Str, ∀ st6 : St, st6.σ "self" = some (.ref x) → st6.σ "namecount" = some (.ref nc) → st6.σ "nameuse" = some (.ref nu) → st6.σ "namemap" = some (.ref nm') → PI F0 x d t u num nm sy pv fi lv st6.μ → st6.μ nc = some (.dict (ks.map fun k => (k, .int (c k))) ep1) →
   (∃ (uu : Str → Nat) (ep : Nat), st6.μ nu = some (.dict (ks.map fun k => (k, .int ((uu k : Nat) : Int))) ep) ∧ ∀ k, uu k ≤ pre.length + 1) → st6.μ nm' = some (.dict es5 ep5) → ∀ f ep6, K ((st6.put 45 (.tab false)).put nm' (.dict (dput es5 kk (.ref f)) ep6)) := by
   intro kk st6 w1 w2 w3 w4 w5 w6 q0q w9 f ep6
   refine exG2_2 q0q fun uu' ep7 w7 w8 => ?_
   refine hK _ ⟨w1, w2, w3, w4, (w5.tabs h45).loc lnm, put_ne hncm (put_ne lnc.2.1 w6), uu', ep7, _, ep6, put_ne hnum (put_ne lnu.2.1 w7), by simpa using w8, put_same, ?_⟩
   have := dput_len (k := kk) (v := .ref f) k6'
   simpa using this
  walk_at "w"
  refine wk_idxD (u := .int (c y)) (by walk_at "mu") (by rw [dget_keys, if_pos hyk]) ?_
  walk_at "w"
  refine wk_split (fun hb => ?_) (fun hb => ?_)
  ·walk_at "w"
   refine wk_fmtS (hyl y hy) ?_
   walk_at "w"
   refine wk_idxD (u := .int ((uu y : Nat) : Int)) (by walk_at "mu") (by rw [dget_keys, if_pos hyk]) ?_
   walk_at "w"
   have hu3 : uu y ≤ 3 := Nat.le_trans (k4' y) hpl
   refine wk_fmtI (by walk_at "ln") (small_shown _ (by omega)) ?_
   walk_at "w"
   refine wk_idxD (u := .int ((uu y : Nat) : Int)) (by walk_at "mu") (by rw [dget_keys, if_pos hyk]) ?_
   walk_at "w"
   refine wk_iadd ?_
   walk_at "w"
   refine wk_itemD (by walk_at "mu") hksl fun ep6 => ?_
   walk_at "w"
   refine exG1_1 k1.tab fun b tb => ?_
   refine wk_lam ⟨b, put_ne (Ne.symm lnu.2.1) tb⟩ fun f hf => ?_
   walk_at "w"
   refine wk_itemD (es := es5) (ep := ep5) (put_ne (Ne.symm lnm.2.1 |>.symm) (put_ne (Ne.symm hnum) k5')) hal5 fun ep7 => ?_
   walk_at "w"
   refine ⟨⟨y, rfl⟩, ?_⟩
   walk_at "w"
   refine hpost _ ((((St.set st5 _ _).set _ _).set _ _).put nu _) ?_ ?_ ?_ ?_ ?_ ?_ ?_ ?_ f ep7
   ·walk_at "sg"
   ·walk_at "sg"
   ·walk_at "sg"
   ·walk_at "sg"
   ·exact k1.loc lnu
   ·exact put_ne hncu k2
   ·refine ⟨fun k => if k = y then uu y + 1 else uu k, ep6, ?_, ?_⟩
    ·rw [put_same, dput_old hyk]
     congr 3
     funext k; by_cases e : k = y <;> simp [e]
    ·intro k; dsimp only; have := k4' k; have := k4' y; split <;> omega
   ·exact put_ne (Ne.symm hnum) k5'
  ·walk_at "w"
   refine exG1_1 k1.tab fun b tb => ?_
   refine wk_lam ⟨b, tb⟩ fun f hf => ?_
   walk_at "w"
   refine wk_itemD (es := es5) (ep := ep5) (put_ne lnm.2.1 k5') hal5 fun ep7 => ?_
   walk_at "w"
   refine ⟨⟨y, rfl⟩, ?_⟩
   walk_at "w"
   refine hpost y (((St.set st5 _ _).set _ _).set _ _) ?_ ?_ ?_ ?_ ?_ ?_ ?_ ?_ f ep7
   ·walk_at "sg"
   ·walk_at "sg"
   ·walk_at "sg"
   ·walk_at "sg"
   ·exact k1
   ·exact k2
   ·exact ⟨uu, ep4, k3, fun k => by have := k4' k; omega⟩
   ·exact k5'
 intro st5 q0q
 refine exG0_6 q0q fun v1 v2 v3 v4 k1 _ => ?_
 obtain ⟨le, ⟨b, tb⟩, ix, it, -, es, ep, dc, c1, c2, c3, c4, c5, c6, c7, c8⟩ := id k1
 walk_at "w"
 have hes : es.length ≤ 997 := by omega
 refine wk_list (by simp) fun u2 hu2 => ?_
 have hxu2 : x ≠ u2 := ne_none (o := .inst 81 d) (put_ne hxd ix) hu2
 have hdu2 : d ≠ u2 := ne_none put_same hu2
 have htu2 : t ≠ u2 := ne_none (o := .tup (sy.map .str)) (put_ne htd' it) hu2
 have h45u2 : (45 : Addr) ≠ u2 := ne_none (o := .tab b) (put_ne h45d tb) hu2
 have hFu2 : F0 u2 = none := (Le.mut le hd0).noneOf hu2
 walk_at "w"
 refine h _ t (by walk_at "le") ⟨b, put_ne h45d (put_ne h45d (put_ne h45u2 (put_ne h45d tb)))⟩ (put_ne hxd (put_ne hxd (put_ne hxu2 (put_ne hxd ix)))) (put_ne htd' (put_ne htd' (put_ne htu2 (put_ne htd' it)))) ⟨_, _, put_same, by walk_at "dg", by walk_at "dg", by walk_at "dg", by walk_at "dg", by walk_at "dg", by walk_at "dg"⟩ ht0
end Kk
end
section
set_option maxHeartbeats 1000000
namespace Kk
variable {α β γ δ : Type}
set_option genInjectivity false in
inductive C where
 | list (xs : List V) | dict (es : List (Str × V)) | set (xs : List Str) | tab
noncomputable def OIs (o : O) : C → Prop
 | .list xs => o = .list xs
 | .dict es => ∃ ep, o = .dict es ep
 | .set xs => o = .set xs
 | .tab => ∃ b, o = .tab b
noncomputable def Is (μ : Addr → Option O) (a : Addr) (c : C) : Prop := ∃ o, μ a = some o ∧ OIs o c
inductive Lb where
 | tab | d | P | pn | pm | t | nt | pr | up | sy | tk | B (k : Str) | T (k : Str) | N (k : Str)
 deriving DecidableEq
structure Mem (μ F : Addr → Option O) (ad : Lb → Addr) (M : Lb → Option C) : Prop where
 le : Le F μ
 is : ∀ l c, M l = some c → Is μ (ad l) c
 inj : ∀ l l' c c', M l = some c → M l' = some c' → ad l = ad l' → l = l'
 off : ∀ l c, M l = some c → F (ad l) = none
section
variable {μ μ' F F' : Addr → Option O} {ad : Lb → Addr} {M M' : Lb → Option C} {l : Lb} {c c' : C} {o : O} {a : Addr}
theorem Mem.grow (h : Mem μ F ad M) (k : Le μ μ') : Mem μ' F ad M := ⟨h.le.trans k, fun l c e => by obtain ⟨o, a, b⟩ := h.is l c e; exact ⟨o, k _ _ a, b⟩, h.inj, h.off⟩
theorem Mem.drop (h : Mem μ F ad M) (k : ∀ l c, M' l = some c → M l = some c) : Mem μ F ad M' := ⟨h.le, fun l c e => h.is l c (k l c e), fun l l' c c' e e' => h.inj l l' c c' (k l c e) (k l' c' e'), fun l c e => h.off l c (k l c e)⟩
theorem Mem.put (h : Mem μ F ad M) (hl : M l = some c) (ho : OIs o c') : Mem (upd μ (ad l) o) F ad (fun l' => if l' = l then some c' else M l') := by
 have key : ∀ l' d, (if l' = l then some c' else M l') = some d → ∃ d', M l' = some d' := fun l' d e => by
  by_cases q : l' = l
  ·subst q; exact ⟨_, hl⟩
  ·rw [if_neg q] at e; exact ⟨_, e⟩
 refine ⟨h.le.mut (h.off l c hl), fun l' d e => ?_, fun l1 l2 d d' e e' => ?_, fun l' d e => ?_⟩
 ·by_cases q : l' = l
  ·subst q; rw [if_pos rfl] at e; k_call_by "c" e; exact ⟨o, u_same, ho⟩
  ·rw [if_neg q] at e
   refine exG1_2 (h.is l' d e) fun o' h1 h2 => ?_
   exact ⟨o', u_ne (fun z => q (h.inj l' l d c e hl z)) h1, h2⟩
 ·obtain ⟨_, q1⟩ := key l1 d e; obtain ⟨_, q2⟩ := key l2 d' e'; exact h.inj l1 l2 _ _ q1 q2
 ·obtain ⟨_, q1⟩ := key l' d e; exact h.off l' _ q1
theorem Mem.new (h : Mem μ F ad M) (hl : M l = none) (ha : μ a = none) (ho : OIs o c) : Mem (upd μ a o) F (fun l' => if l' = l then a else ad l') (fun l' => if l' = l then some c else M l') := by
 have ne : ∀ l' d, M l' = some d → ad l' ≠ a := fun l' d e z => by
  refine exG1_2 (h.is l' d e) fun o' h1 _ => ?_
  rw [z, ha] at h1; k_call_by "c" h1
 refine ⟨h.le.new ha, fun l' d e => ?_, fun l1 l2 d d' e e' z => ?_, fun l' d e => ?_⟩
 ·by_cases q : l' = l
  ·subst q; rw [if_pos rfl] at e ⊢; k_call_by "c" e; exact ⟨o, u_same, ho⟩
  ·rw [if_neg q] at e ⊢
   refine exG1_2 (h.is l' d e) fun o' h1 h2 => ?_
   exact ⟨o', u_old ha h1, h2⟩
 ·by_cases q1 : l1 = l
  ·by_cases q2 : l2 = l
   ·rw [q1, q2]
   ·rw [if_neg q2] at e'; rw [if_pos q1, if_neg q2] at z
    exact absurd z.symm (ne l2 _ e')
  ·rw [if_neg q1] at e
   by_cases q2 : l2 = l
   ·rw [if_neg q1, if_pos q2] at z; exact absurd z (ne l1 _ e)
   ·rw [if_neg q2] at e'; rw [if_neg q1, if_neg q2] at z; exact h.inj l1 l2 _ _ e e' z
 ·by_cases q : l' = l
  ·rw [if_pos q]; exact h.le.noneOf ha
  ·rw [if_neg q] at e ⊢; exact h.off l' d e
theorem Mem.set (h : Mem μ F ad M) (hl : M l = some c) (ho : OIs o c') (hM : ∀ l' d, M' l' = some d → (l' = l ∧ d = c') ∨ (l' ≠ l ∧ M l' = some d)) : Mem (upd μ (ad l) o) F ad M' :=
 (h.put hl ho).drop fun l' d e => by
  rcases hM l' d e with ⟨q, z⟩ | ⟨q, z⟩
  ·rw [z]; exact if_pos q
  ·exact (if_neg q).trans z
theorem Mem.newSet {l2 : Lb} {c2 c3 : C} {o2 : O} (h : Mem μ F ad M) (hl : M l = none) (ha : μ a = none) (ho : OIs o c) (hl2 : M l2 = some c3) (ho2 : OIs o2 c2) (hM : ∀ l' d, M' l' = some d → (l' = l ∧ d = c) ∨ (l' = l2 ∧ d = c2) ∨ (l' ≠ l ∧ l' ≠ l2 ∧ M l' = some d)) :
  Mem (upd (upd μ a o) (ad l2) o2) F (fun l' => if l' = l then a else ad l') M' := by
 have hne : l2 ≠ l := fun q => by rw [← q, hl2] at hl; k_call_by "c" hl
 have m2 := (h.new hl ha ho).put (l := l2) (c := c3) ((if_neg hne).trans hl2) ho2
 rw [if_neg hne] at m2
 refine m2.drop fun l' d e => ?_
 rcases hM l' d e with ⟨q, z⟩ | ⟨q, z⟩ | ⟨q, q2, z⟩
 ·rw [z, q, if_neg (Ne.symm hne)]; exact if_pos rfl
 ·rw [z]; exact if_pos q
 ·rw [if_neg q2, if_neg q]; exact z
theorem Mem.frz (h : Mem μ F ad M) (k : Le F' μ) (n : ∀ a o, F' a = some o → F a = some o ∨ ∀ l c, M l = some c → ad l ≠ a) : Mem μ F' ad M :=
 ⟨k, h.is, h.inj, fun l c e => by
  cases q : F' (ad l) with
  | none => rfl
  | some o =>
   rcases n _ o q with h1 | h1
   ·rw [h.off l c e] at h1; k_call_by "c" h1
   ·exact absurd rfl (h1 l c e)⟩
end
set_option genInjectivity false in
structure GS where
 es : List (Str × V)
 vs : List V
 kb : List Str
 cb : Str → List V
 pm : List (Str × V)
 kt : List Str
 ct : Str → List V
 kn : List Str
 cn : Str → List V
 us : List Str
 pr : List (Str × V)
 sy : Option (List V)
 tk : Option (Addr × List V)
noncomputable def tabOf (ks : List Str) (f : Str → Addr) : List (Str × V) := ks.map fun k => (k, .ref (f k))
noncomputable def gmem (ad : Lb → Addr) (S : GS) : Lb → Option C
 | .tab => some .tab
 | .d => some (.dict S.es)
 | .P => some (.list S.vs)
 | .pn => some (.dict (tabOf S.kb fun k => ad (.B k)))
 | .pm => some (.dict S.pm)
 | .t => some (.dict (tabOf S.kt fun k => ad (.T k)))
 | .nt => some (.dict (tabOf S.kn fun k => ad (.N k)))
 | .pr => some (.dict S.pr)
 | .up => some (.set S.us)
 | .sy => S.sy.map .list
 | .tk => S.tk.map fun p => .list p.2
 | .B k => if k ∈ S.kb then some (.list (S.cb k)) else none
 | .T k => if k ∈ S.kt then some (.list (S.ct k)) else none
 | .N k => if k ∈ S.kn then some (.list (S.cn k)) else none
structure Attrs (ad : Lb → Addr) (es : List (Str × V)) : Prop where
 P : dget es "Productions" = some (.ref (ad .P))
 pn : dget es "Prodnames" = some (.ref (ad .pn))
 pm : dget es "Prodmap" = some (.ref (ad .pm))
 t : dget es "Terminals" = some (.ref (ad .t))
 nt : dget es "Nonterminals" = some (.ref (ad .nt))
 pr : dget es "Precedence" = some (.ref (ad .pr))
 up : dget es "UsedPrecedence" = some (.ref (ad .up))
 len : es.length ≤ 20
 no : ∀ x ∈ (["set_precedence", "add_production", "set_start"] : List Str), dget es x = none
structure Gm (μ F : Addr → Option O) (gr : Addr) (ad : Lb → Addr) (S : GS) : Prop where
 mem : Mem μ F ad (gmem ad S)
 tab : ad .tab = 45
 gri : F gr = some (.inst 229 (ad .d))
 at_ : Attrs ad S.es
 tka : ∀ p, S.tk = some p → ad .tk = p.1
section
variable {μ μ' F F' : Addr → Option O} {gr : Addr} {ad : Lb → Addr} {S : GS} {k : Str} {o : O} {a : Addr} {v : V}
theorem Gm.gr_ (h : Gm μ F gr ad S) : μ gr = some (.inst 229 (ad .d)) := h.mem.le _ _ h.gri
theorem Gm.d (h : Gm μ F gr ad S) : ∃ ep, μ (ad .d) = some (.dict S.es ep) := by obtain ⟨o, a, ep, rfl⟩ := h.mem.is .d _ rfl; exact ⟨ep, a⟩
theorem Gm.P (h : Gm μ F gr ad S) : μ (ad .P) = some (.list S.vs) := by obtain ⟨o, a, rfl⟩ := h.mem.is .P _ rfl; exact a
theorem Gm.pn (h : Gm μ F gr ad S) : ∃ ep, μ (ad .pn) = some (.dict (tabOf S.kb fun k => ad (.B k)) ep) := by obtain ⟨o, a, ep, rfl⟩ := h.mem.is .pn _ rfl; exact ⟨ep, a⟩
theorem Gm.pm (h : Gm μ F gr ad S) : ∃ ep, μ (ad .pm) = some (.dict S.pm ep) := by obtain ⟨o, a, ep, rfl⟩ := h.mem.is .pm _ rfl; exact ⟨ep, a⟩
theorem Gm.t (h : Gm μ F gr ad S) : ∃ ep, μ (ad .t) = some (.dict (tabOf S.kt fun k => ad (.T k)) ep) := by obtain ⟨o, a, ep, rfl⟩ := h.mem.is .t _ rfl; exact ⟨ep, a⟩
theorem Gm.nt (h : Gm μ F gr ad S) : ∃ ep, μ (ad .nt) = some (.dict (tabOf S.kn fun k => ad (.N k)) ep) := by obtain ⟨o, a, ep, rfl⟩ := h.mem.is .nt _ rfl; exact ⟨ep, a⟩
theorem Gm.pr (h : Gm μ F gr ad S) : ∃ ep, μ (ad .pr) = some (.dict S.pr ep) := by obtain ⟨o, a, ep, rfl⟩ := h.mem.is .pr _ rfl; exact ⟨ep, a⟩
theorem Gm.up (h : Gm μ F gr ad S) : μ (ad .up) = some (.set S.us) := by obtain ⟨o, a, rfl⟩ := h.mem.is .up _ rfl; exact a
theorem Gm.tb (h : Gm μ F gr ad S) : ∃ b, μ 45 = some (.tab b) := by obtain ⟨o, a, b, rfl⟩ := h.mem.is .tab _ rfl; rw [h.tab] at a; exact ⟨b, a⟩
theorem Gm.sy (h : Gm μ F gr ad S) {xs : List V} (e : S.sy = some xs) : μ (ad .sy) = some (.list xs) := by obtain ⟨o, a, rfl⟩ := h.mem.is .sy (.list xs) (by simp [gmem, e]); exact a
theorem Gm.B (h : Gm μ F gr ad S) (hk : k ∈ S.kb) : μ (ad (.B k)) = some (.list (S.cb k)) := by obtain ⟨o, a, rfl⟩ := h.mem.is (.B k) _ (if_pos hk); exact a
theorem Gm.T (h : Gm μ F gr ad S) (hk : k ∈ S.kt) : μ (ad (.T k)) = some (.list (S.ct k)) := by obtain ⟨o, a, rfl⟩ := h.mem.is (.T k) _ (if_pos hk); exact a
theorem Gm.N (h : Gm μ F gr ad S) (hk : k ∈ S.kn) : μ (ad (.N k)) = some (.list (S.cn k)) := by obtain ⟨o, a, rfl⟩ := h.mem.is (.N k) _ (if_pos hk); exact a
theorem Gm.grow (h : Gm μ F gr ad S) (k : Le μ μ') : Gm μ' F gr ad S := ⟨h.mem.grow k, h.tab, h.gri, h.at_, h.tka⟩
theorem Gm.appP (h : Gm μ F gr ad S) : Gm (upd μ (ad .P) (.list (S.vs ++ [v]))) F gr ad { S with vs := S.vs ++ [v] } :=
 ⟨h.mem.set (l := .P) (c' := .list (S.vs ++ [v])) rfl rfl fun l c e => by induction l <;> first | exact .inr ⟨fun q => Lb.noConfusion q, e⟩ | (k_call_by "c" e; exact .inl ⟨rfl, rfl⟩), h.tab, h.gri, h.at_, h.tka⟩
theorem Gm.setP (h : Gm μ F gr ad S) {xs : List V} : Gm (upd μ (ad .P) (.list xs)) F gr ad { S with vs := xs } :=
 ⟨h.mem.set (l := .P) (c' := .list xs) rfl rfl fun l c e => by induction l <;> first | exact .inr ⟨fun q => Lb.noConfusion q, e⟩ | (k_call_by "c" e; exact .inl ⟨rfl, rfl⟩), h.tab, h.gri, h.at_, h.tka⟩
theorem Gm.setPM (h : Gm μ F gr ad S) {es : List (Str × V)} {ep : Nat} : Gm (upd μ (ad .pm) (.dict es ep)) F gr ad { S with pm := es } :=
 ⟨h.mem.set (l := .pm) (c' := .dict es) rfl ⟨ep, rfl⟩ fun l c e => by induction l <;> first | exact .inr ⟨fun q => Lb.noConfusion q, e⟩ | (k_call_by "c" e; exact .inl ⟨rfl, rfl⟩), h.tab, h.gri, h.at_, h.tka⟩
theorem Gm.setPr (h : Gm μ F gr ad S) {es : List (Str × V)} {ep : Nat} : Gm (upd μ (ad .pr) (.dict es ep)) F gr ad { S with pr := es } :=
 ⟨h.mem.set (l := .pr) (c' := .dict es) rfl ⟨ep, rfl⟩ fun l c e => by induction l <;> first | exact .inr ⟨fun q => Lb.noConfusion q, e⟩ | (k_call_by "c" e; exact .inl ⟨rfl, rfl⟩), h.tab, h.gri, h.at_, h.tka⟩
theorem Gm.setU (h : Gm μ F gr ad S) {xs : List Str} : Gm (upd μ (ad .up) (.set xs)) F gr ad { S with us := xs } :=
 ⟨h.mem.set (l := .up) (c' := .set xs) rfl rfl fun l c e => by induction l <;> first | exact .inr ⟨fun q => Lb.noConfusion q, e⟩ | (k_call_by "c" e; exact .inl ⟨rfl, rfl⟩), h.tab, h.gri, h.at_, h.tka⟩
theorem Gm.setD (h : Gm μ F gr ad S) {es : List (Str × V)} {ep : Nat} (hA : Attrs ad es) : Gm (upd μ (ad .d) (.dict es ep)) F gr ad { S with es := es } :=
 ⟨h.mem.set (l := .d) (c' := .dict es) rfl ⟨ep, rfl⟩ fun l c e => by induction l <;> first | exact .inr ⟨fun q => Lb.noConfusion q, e⟩ | (k_call_by "c" e; exact .inl ⟨rfl, rfl⟩), h.tab, h.gri, hA, h.tka⟩
theorem Gm.setSy (h : Gm μ F gr ad S) {xs ys : List V} (e : S.sy = some xs) : Gm (upd μ (ad .sy) (.list ys)) F gr ad { S with sy := some ys } :=
 ⟨h.mem.set (l := .sy) (c := .list xs) (c' := .list ys) (by simp [gmem, e]) rfl fun l c e => by induction l <;> first | exact .inr ⟨fun q => Lb.noConfusion q, e⟩ | (k_call_by "c" e; exact .inl ⟨rfl, rfl⟩), h.tab, h.gri, h.at_, h.tka⟩
theorem Gm.noSy (h : Gm μ F gr ad S) : Gm μ F gr ad { S with sy := none } :=
 ⟨h.mem.drop fun l c e => by induction l <;> first | exact e | (simp [gmem] at e), h.tab, h.gri, h.at_, h.tka⟩
theorem Gm.newSy (h : Gm μ F gr ad S) {ys : List V} (e : S.sy = none) (ha : μ a = none) : Gm (upd μ a (.list ys)) F gr (fun l => if l = .sy then a else ad l) { S with sy := some ys } :=
 ⟨(h.mem.new (l := .sy) (c := .list ys) (by simp [gmem, e]) ha rfl).drop fun l c e => by induction l <;> simpa [gmem] using e, by simpa using h.tab, by simpa using h.gri, by
  have := h.at_; exact ⟨this.P, this.pn, this.pm, this.t, this.nt, this.pr, this.up, this.len, this.no⟩, h.tka⟩
theorem Gm.tk (h : Gm μ F gr ad S) {b : Addr} {xs : List V} (e : S.tk = some (b, xs)) : μ b = some (.list xs) := by
 refine exG1_2 (h.mem.is .tk (.list xs) (by simp [gmem, e])) fun o q r1 => ?_
 obtain rfl := r1
 rw [h.tka _ e] at q; exact q
theorem Gm.setTk (h : Gm μ F gr ad S) {b : Addr} {xs ys : List V} (e : S.tk = some (b, xs)) : Gm (upd μ b (.list ys)) F gr ad { S with tk := some (b, ys) } := by
 have hm : Mem (upd μ (ad .tk) (.list ys)) F ad (gmem ad { S with tk := some (b, ys) }) := h.mem.set (l := .tk) (c := .list xs) (c' := .list ys) (by simp [gmem, e]) rfl fun l c e => by induction l <;> first | exact .inr ⟨fun q => Lb.noConfusion q, e⟩ | (k_call_by "c" e; exact .inl ⟨rfl, rfl⟩)
 rw [h.tka _ e] at hm
 exact ⟨hm, h.tab, h.gri, h.at_, fun p q => by k_call_by "c" q; exact h.tka (b, xs) e⟩
theorem Gm.newTk (h : Gm μ F gr ad S) {ys : List V} (e : S.tk = none) (ha : μ a = none) : Gm (upd μ a (.list ys)) F gr (fun l => if l = .tk then a else ad l) { S with tk := some (a, ys) } :=
 ⟨(h.mem.new (l := .tk) (c := .list ys) (by simp [gmem, e]) ha rfl).drop fun l c e => by induction l <;> simpa [gmem] using e, by simpa using h.tab, by simpa using h.gri, by
  have := h.at_; exact ⟨this.P, this.pn, this.pm, this.t, this.nt, this.pr, this.up, this.len, this.no⟩, fun p q => by k_call_by "c" q; rfl⟩
theorem Gm.appT (h : Gm μ F gr ad S) (hk : k ∈ S.kt) : Gm (upd μ (ad (.T k)) (.list (S.ct k ++ [v]))) F gr ad { S with ct := fun k' => if k' = k then S.ct k ++ [v] else S.ct k' } :=
 ⟨h.mem.set (l := .T k) (c := .list (S.ct k)) (c' := .list (S.ct k ++ [v])) (if_pos hk) rfl fun l c e => by
  induction l <;> first | exact .inr ⟨fun q => Lb.noConfusion q, e⟩ | skip
  rename_i k'
  by_cases q : k' = k
  ·rw [q] at e ⊢; exact .inl ⟨rfl, (Option.some.inj (((if_pos hk).trans (congrArg (fun x => some (C.list x)) (if_pos rfl))).symm.trans e)).symm⟩
  ·exact .inr ⟨fun z => q (Lb.T.inj z), by simpa only [gmem, if_neg q] using e⟩, h.tab, h.gri, h.at_, h.tka⟩
theorem Gm.appN (h : Gm μ F gr ad S) (hk : k ∈ S.kn) : Gm (upd μ (ad (.N k)) (.list (S.cn k ++ [v]))) F gr ad { S with cn := fun k' => if k' = k then S.cn k ++ [v] else S.cn k' } :=
 ⟨h.mem.set (l := .N k) (c := .list (S.cn k)) (c' := .list (S.cn k ++ [v])) (if_pos hk) rfl fun l c e => by
  induction l <;> first | exact .inr ⟨fun q => Lb.noConfusion q, e⟩ | skip
  rename_i k'
  by_cases q : k' = k
  ·rw [q] at e ⊢; exact .inl ⟨rfl, (Option.some.inj (((if_pos hk).trans (congrArg (fun x => some (C.list x)) (if_pos rfl))).symm.trans e)).symm⟩
  ·exact .inr ⟨fun z => q (Lb.N.inj z), by simpa only [gmem, if_neg q] using e⟩, h.tab, h.gri, h.at_, h.tka⟩
theorem Gm.appB (h : Gm μ F gr ad S) (hk : k ∈ S.kb) : Gm (upd μ (ad (.B k)) (.list (S.cb k ++ [v]))) F gr ad { S with cb := fun k' => if k' = k then S.cb k ++ [v] else S.cb k' } :=
 ⟨h.mem.set (l := .B k) (c := .list (S.cb k)) (c' := .list (S.cb k ++ [v])) (if_pos hk) rfl fun l c e => by
  induction l <;> first | exact .inr ⟨fun q => Lb.noConfusion q, e⟩ | skip
  rename_i k'
  by_cases q : k' = k
  ·rw [q] at e ⊢; exact .inl ⟨rfl, (Option.some.inj (((if_pos hk).trans (congrArg (fun x => some (C.list x)) (if_pos rfl))).symm.trans e)).symm⟩
  ·exact .inr ⟨fun z => q (Lb.B.inj z), by simpa only [gmem, if_neg q] using e⟩, h.tab, h.gri, h.at_, h.tka⟩
theorem tabOf_new {ks : List Str} {f : Str → Addr} (h : k ∉ ks) : dput (tabOf ks f) k (.ref a) = tabOf (ks ++ [k]) fun k' => if k' = k then a else f k' := by
 unfold tabOf
 rw [dput_new h]
 congr 1
 funext k'; by_cases q : k' = k <;> simp [q]
theorem tabT {ks : List Str} {ad : Lb → Addr} {k : Str} {a : Addr} (h : k ∉ ks) : tabOf (ks ++ [k]) (fun k' => if Lb.T k' = Lb.T k then a else ad (.T k')) = dput (tabOf ks fun k => ad (.T k)) k (.ref a) := by
 rw [tabOf_new h]; congr 1; funext k'
 by_cases q : k' = k
 ·rw [q, if_pos rfl, if_pos rfl]
 ·rw [if_neg q, if_neg fun z => q (Lb.T.inj z)]
theorem tabN {ks : List Str} {ad : Lb → Addr} {k : Str} {a : Addr} (h : k ∉ ks) : tabOf (ks ++ [k]) (fun k' => if Lb.N k' = Lb.N k then a else ad (.N k')) = dput (tabOf ks fun k => ad (.N k)) k (.ref a) := by
 rw [tabOf_new h]; congr 1; funext k'
 by_cases q : k' = k
 ·rw [q, if_pos rfl, if_pos rfl]
 ·rw [if_neg q, if_neg fun z => q (Lb.N.inj z)]
theorem tabB {ks : List Str} {ad : Lb → Addr} {k : Str} {a : Addr} (h : k ∉ ks) : tabOf (ks ++ [k]) (fun k' => if Lb.B k' = Lb.B k then a else ad (.B k')) = dput (tabOf ks fun k => ad (.B k)) k (.ref a) := by
 rw [tabOf_new h]; congr 1; funext k'
 by_cases q : k' = k
 ·rw [q, if_pos rfl, if_pos rfl]
 ·rw [if_neg q, if_neg fun z => q (Lb.B.inj z)]
theorem Gm.newT (h : Gm μ F gr ad S) {xs : List V} {ep : Nat} (hk : k ∉ S.kt) (ha : μ a = none) : Gm (upd (upd μ a (.list xs)) (ad .t) (.dict (dput (tabOf S.kt fun k => ad (.T k)) k (.ref a)) ep)) F gr (fun l => if l = .T k then a else ad l) { S with kt := S.kt ++ [k], ct := fun k' => if k' = k then xs else S.ct k' } := by
 refine ⟨h.mem.newSet (l := .T k) (l2 := .t) (c := .list xs) (c3 := .dict (tabOf S.kt fun k => ad (.T k))) (c2 := .dict (dput (tabOf S.kt fun k => ad (.T k)) k (.ref a))) (if_neg hk) ha rfl rfl ⟨ep, rfl⟩ fun l c e => ?_, h.tab, h.gri, ⟨h.at_.P, h.at_.pn, h.at_.pm, h.at_.t, h.at_.nt, h.at_.pr, h.at_.up, h.at_.len, h.at_.no⟩, h.tka⟩
 induction l <;> first | exact .inr (.inr ⟨fun q => Lb.noConfusion q, fun q => Lb.noConfusion q, e⟩) | exact .inr (.inl ⟨rfl, (Option.some.inj e).symm.trans (congrArg C.dict (tabT hk))⟩) | skip
 rename_i k'
 by_cases q : k' = k
 ·rw [q] at e ⊢; exact .inl ⟨rfl, (Option.some.inj (((if_pos (List.mem_append_right _ (.head _))).trans (congrArg (fun x => some (C.list x)) (if_pos rfl))).symm.trans e)).symm⟩
 ·refine .inr (.inr ⟨fun z => q (Lb.T.inj z), fun z => Lb.noConfusion z, ?_⟩)
  simpa only [gmem, List.mem_append, List.mem_singleton, q, or_false, if_false] using e
theorem Gm.newN (h : Gm μ F gr ad S) {xs : List V} {ep : Nat} (hk : k ∉ S.kn) (ha : μ a = none) : Gm (upd (upd μ a (.list xs)) (ad .nt) (.dict (dput (tabOf S.kn fun k => ad (.N k)) k (.ref a)) ep)) F gr (fun l => if l = .N k then a else ad l) { S with kn := S.kn ++ [k], cn := fun k' => if k' = k then xs else S.cn k' } := by
 refine ⟨h.mem.newSet (l := .N k) (l2 := .nt) (c := .list xs) (c3 := .dict (tabOf S.kn fun k => ad (.N k))) (c2 := .dict (dput (tabOf S.kn fun k => ad (.N k)) k (.ref a))) (if_neg hk) ha rfl rfl ⟨ep, rfl⟩ fun l c e => ?_, h.tab, h.gri, ⟨h.at_.P, h.at_.pn, h.at_.pm, h.at_.t, h.at_.nt, h.at_.pr, h.at_.up, h.at_.len, h.at_.no⟩, h.tka⟩
 induction l <;> first | exact .inr (.inr ⟨fun q => Lb.noConfusion q, fun q => Lb.noConfusion q, e⟩) | exact .inr (.inl ⟨rfl, (Option.some.inj e).symm.trans (congrArg C.dict (tabN hk))⟩) | skip
 rename_i k'
 by_cases q : k' = k
 ·rw [q] at e ⊢; exact .inl ⟨rfl, (Option.some.inj (((if_pos (List.mem_append_right _ (.head _))).trans (congrArg (fun x => some (C.list x)) (if_pos rfl))).symm.trans e)).symm⟩
 ·refine .inr (.inr ⟨fun z => q (Lb.N.inj z), fun z => Lb.noConfusion z, ?_⟩)
  simpa only [gmem, List.mem_append, List.mem_singleton, q, or_false, if_false] using e
theorem Gm.newB (h : Gm μ F gr ad S) {xs : List V} {ep : Nat} (hk : k ∉ S.kb) (ha : μ a = none) : Gm (upd (upd μ a (.list xs)) (ad .pn) (.dict (dput (tabOf S.kb fun k => ad (.B k)) k (.ref a)) ep)) F gr (fun l => if l = .B k then a else ad l) { S with kb := S.kb ++ [k], cb := fun k' => if k' = k then xs else S.cb k' } := by
 refine ⟨h.mem.newSet (l := .B k) (l2 := .pn) (c := .list xs) (c3 := .dict (tabOf S.kb fun k => ad (.B k))) (c2 := .dict (dput (tabOf S.kb fun k => ad (.B k)) k (.ref a))) (if_neg hk) ha rfl rfl ⟨ep, rfl⟩ fun l c e => ?_, h.tab, h.gri, ⟨h.at_.P, h.at_.pn, h.at_.pm, h.at_.t, h.at_.nt, h.at_.pr, h.at_.up, h.at_.len, h.at_.no⟩, h.tka⟩
 induction l <;> first | exact .inr (.inr ⟨fun q => Lb.noConfusion q, fun q => Lb.noConfusion q, e⟩) | exact .inr (.inl ⟨rfl, (Option.some.inj e).symm.trans (congrArg C.dict (tabB hk))⟩) | skip
 rename_i k'
 by_cases q : k' = k
 ·rw [q] at e ⊢; exact .inl ⟨rfl, (Option.some.inj (((if_pos (List.mem_append_right _ (.head _))).trans (congrArg (fun x => some (C.list x)) (if_pos rfl))).symm.trans e)).symm⟩
 ·refine .inr (.inr ⟨fun z => q (Lb.B.inj z), fun z => Lb.noConfusion z, ?_⟩)
  simpa only [gmem, List.mem_append, List.mem_singleton, q, or_false, if_false] using e
noncomputable def cut (μ : Addr → Option O) : Addr → Option O := fun a => if a = 45 then none else μ a
theorem cut_none : cut μ 45 = none := if_pos rfl
theorem cut_le : Le (cut μ) μ := fun a o e => by
 unfold cut at e
 split at e
 ·k_call_by "c" e
 ·exact e
theorem cut_get (h : a ≠ 45) (e : μ a = some o) : cut μ a = some o := (if_neg h).trans e
theorem Gm.made (h : Gm μ F gr ad S) (k : Le (cut μ) μ') (ht : ∃ b, μ' 45 = some (.tab b)) : Gm μ' F gr ad S := by
 have h45 : F 45 = none := h.tab ▸ h.mem.off .tab _ rfl
 refine ⟨⟨fun a o e => k a o (cut_get (by rintro rfl; rw [h45] at e; k_call_by "c" e) (h.mem.le a o e)), fun l c e => ?_, h.mem.inj, h.mem.off⟩, h.tab, h.gri, h.at_, h.tka⟩
 refine exG1_2 (h.mem.is l c e) fun o h1 h2 => ?_
 by_cases q : l = .tab
 ·subst q
  refine exG1_1 ht fun b hb => ?_
  rw [h.tab]
  k_call_by "c" e
  exact ⟨_, hb, b, rfl⟩
 ·exact ⟨o, k _ _ (cut_get (fun z => q (h.mem.inj l .tab c _ e rfl (z.trans h.tab.symm))) h1), h2⟩
theorem Gm.frz (h : Gm μ F gr ad S) (k0 : Le F F') (k : Le F' μ) (n : ∀ a o, F' a = some o → F a = some o ∨ ∀ l c, gmem ad S l = some c → ad l ≠ a) : Gm μ F' gr ad S := ⟨h.mem.frz k n, h.tab, k0 _ _ h.gri, h.at_, h.tka⟩
end
end Kk
end
section
set_option maxHeartbeats 1000000
namespace Kk
variable {α β γ δ : Type}
theorem seqIndex_nat {i n : Nat} (h : i < n) : seqIndex? (i : Int) n = some i := by
 unfold seqIndex?
 simp only
 split <;> simp_all <;> omega
theorem dget_tab {ks : List Str} {f : Str → Addr} {y : Str} : dget (tabOf ks f) y = if y ∈ ks then some (.ref (f y)) else none := dget_keys
theorem dget_tab_some {ks : List Str} {f : Str → Addr} {y : Str} : (dget (tabOf ks f) y).isSome = decide (y ∈ ks) := dget_keys_some
theorem tabOf_len {ks : List Str} {f : Str → Addr} : (tabOf ks f).length = ks.length := by simp [tabOf]
section
variable {X : Ex → St → Prop} {st : St} {Q : V → St → Prop}
theorem wk_sub {i j : Int} (h : Q (.int (i - j)) st) : binM .Sub (.int i) (.int j) Q X st := .subI h
theorem wk_addI {i j : Int} (h : Q (.int (i + j)) st) : binM .Add (.int i) (.int j) Q X st := .addI h
theorem wk_addL {a b : Addr} {xs ys : List V} (h1 : st.μ a = some (.list xs)) (h2 : st.μ b = some (.list ys)) (h3 : xs.length ≤ 1000) (h4 : ys.length ≤ 1000) (h : ∀ a, st.μ a = none → Q (.ref a) (st.put a (.list (xs ++ ys)))) : binM .Add (.ref a) (.ref b) Q X st := .addL h1 h2 h3 h4 h
theorem wk_get {a : Addr} {k : Str} {es : List (Str × V)} {ep : Nat} (h1 : st.μ a = some (.dict es ep)) (h : Q ((dget es k).getD .none) st) : getM2 [.ref a, .str k] Q X st := .one h1 h
theorem wk_get2N {a : Addr} {d : V} {es : List (Str × V)} {ep : Nat} (h1 : st.μ a = some (.dict es ep)) (h : Q d st) : getM2 [.ref a, .none, d] Q X st := .no h1 h
end
local macro_rules | `(tactic| walk_at "w1") => `(tactic| with_reducible first | apply wk_whT | apply wk_whF)
variable {g : Gx} {X : Ex → St → Prop} {Q : V → St → Prop} {st : St}
noncomputable def rmost (kt ys : List Str) : V := match ys.reverse.find? fun s => decide (s ∈ kt) with | some s => .str s | none => .none
theorem sp_rightmost {n : Nat} {m : Mine g} {y t : Addr} {ys kt : List Str} {f : Str → Addr} {ep : Nat} (h1 : st.μ y = some (.list (ys.map .str))) (h2 : st.μ t = some (.dict (tabOf kt f) ep)) (hl : ys.length ≤ 100) (h : Q (rmost kt ys) ⟨st.σ, st.μ⟩) :
  fnM ["symbols", "terminals"] (([] : List (Str × Value)).map fun p => (p.1, er p.2)) 2 (r_rightmost (n := n) m).1 [.ref y, .ref t] Q X st := by
 refine wk_en2 (a1 := "symbols") (v1 := (V.ref y : V)) (a2 := "terminals") (v2 := (V.ref t : V)) rfl (by kernel_rfl) (by kernel_rfl) fun σ s_symbols s_terminals => ?_
 unfold r_rightmost; dsimp only
 have hl2 : (ys.map V.str).length ≤ 100000 := by simp; omega
 have hl3 : (ys.map V.str).length ≤ 1000 := by simp; omega
 walk_at "w"
 refine wk_sub ?_
 walk_at "w"
 refine wk_while (fun k st' => st'.σ "symbols" = some (.ref y) ∧ st'.σ "terminals" = some (.ref t) ∧ st'.σ "i" = some (.int ((k : Int) - 1)) ∧ st'.μ = st.μ ∧ k ≤ ys.length ∧ (ys.reverse.find? fun s => decide (s ∈ kt)) = ((ys.take k).reverse.find? fun s => decide (s ∈ kt))) ?_ ?_
 ·intro k st1 K q0q hK
  refine exG0_6 q0q fun v1 v2 v3 v4 v5 v6 => ?_
  have e1 : st1.μ y = some (.list (ys.map .str)) := by rw [v4]; exact h1
  have e2 : st1.μ t = some (.dict (tabOf kt f) ep) := by rw [v4]; exact h2
  walk_at "w"
  refine wk_whS (fun hb => ?_) (fun hb => ?_)
  ·have hk : 1 ≤ k := by simp at hb; omega
   obtain ⟨j, rfl⟩ : ∃ j, k = j + 1 := ⟨k - 1, by omega⟩
   have hj : j < ys.length := v5
   have ej : ((j + 1 : Nat) : Int) - 1 = (j : Int) := by omega
   rw [ej] at v3
   have hgj : (ys.map V.str)[j]? = some (.str ys[j]) := by simp [hj]
   have htk : (ys.take (j + 1)).reverse = ys[j] :: (ys.take j).reverse := by
    rw [List.take_succ_eq_append_getElem hj]; simp
   walk_at "w"
   refine wk_idxL (u := .str ys[j]) (by walk_at "mu") hl3 (seqIndex_nat (by simpa using hj)) hgj ?_
   walk_at "w"
   rw [dget_tab_some]
   refine wk_split (fun hc => ?_) (fun hc => ?_)
   ·walk_at "w"
    refine wk_idxL (u := .str ys[j]) (by walk_at "mu") hl3 (seqIndex_nat (by simpa using hj)) hgj ?_
    walk_at "w"
    rw [v4]
    have : rmost kt ys = .str ys[j] := by
     unfold rmost
     rw [v6, htk, List.find?_cons_of_pos (by simpa using hc)]
    rw [this] at h; exact h
   ·walk_at "w"
    refine wk_isub ?_
    walk_at "w"
    refine hK j _ (Nat.lt_succ_self _) ⟨by walk_at "sg", by walk_at "sg", by walk_at "sg", v4, by omega, ?_⟩
    rw [v6, htk, List.find?_cons_of_neg (by simpa using hc)]
  ·have hk : k = 0 := by simp at hb; omega
   subst hk
   walk_at "w"
   rw [v4]
   have : rmost kt ys = .none := by
    unfold rmost
    rw [v6]; simp
   rw [this] at h; exact h
 ·refine ⟨ys.length, by walk_at "sg", by walk_at "sg", ?_, rfl, Nat.le_refl _, by rw [List.take_length]⟩
  rw [sig_same]; simp
theorem sp_Prod {n : Nat} {m : Mine g} {l : Addr} {num : Int} {nm : Str} {sy : List Str} {pv fv fi lv : V} (hl : st.μ l = some (.list (sy.map .str))) (hT : ∃ b, st.μ 45 = some (.tab b)) (hsl : sy.length ≤ 4) (hok : ∀ y ∈ sy, PyData.strOk y = true) (hyl : ∀ y ∈ sy, y.length ≤ 1000)
  (h : ∀ x μ' F', Le (cut st.μ) μ' → (∃ b, μ' 45 = some (.tab b)) → Le F' μ' → (∀ a o, F' a = some o → st.μ a = none) → ProdAt F' (.ref x) ⟨num, nm, sy⟩ pv fi lv → Q (.ref x) ⟨st.σ, μ'⟩) :
  makeM 81 (fnM ["self", "number", "name", "prod", "precedence", "func", "file", "line"] (([] : List (Str × Value)).map fun p => (p.1, er p.2)) 8 (r_init_P (n := n) m).1) [.int num, .str nm, .ref l, pv, fv, fi, lv] Q X st := by
 intro d x hd hx hdx
 revert hT; refine fun oO => exG1_1 oO fun b hT => ?_
 have hx45 : x ≠ 45 := by rintro rfl; rw [hT] at hx; k_call_by "c" hx
 have hd45 : d ≠ 45 := by rintro rfl; rw [hT] at hd; k_call_by "c" hd
 have hx' : (st.put d (.dict [] 0)).μ x = none := u_none (Ne.symm hdx) hx
 refine wk_en8 (a1 := "self") (v1 := (V.ref x : V)) (a2 := "number") (v2 := (V.int num : V)) (a3 := "name") (v3 := (V.str nm : V)) (a4 := "prod") (v4 := (V.ref l : V)) (a5 := "precedence") (v5 := (pv : V)) (a6 := "func") (v6 := (fv : V)) (a7 := "file") (v7 := (fi : V)) (a8 := "line") (v8 := (lv : V)) rfl (by kernel_rfl) (by kernel_rfl) (by kernel_rfl) (by kernel_rfl) (by kernel_rfl) (by kernel_rfl) (by kernel_rfl) (by kernel_rfl) fun σ s_self s_number s_name s_prod s_precedence s_func s_file s_line => ?_
 refine sp_init_P (F0 := cut st.μ) (x := x) (d := d) (l := l) (num := num) (nm := nm) (sy := sy) (cut_le.trans (Le.put_new hx' (Le.put_new hd Le.refl))) cut_none (cut_le.noneOf hx) (cut_le.noneOf hd) hdx put_same (put_ne hdx put_same) (put_old hx' (put_old hd hl)) ⟨b, put_old hx' (put_old hd hT)⟩ hsl hok hyl s_self s_number s_name s_prod s_precedence s_func s_file s_line ?_
 intro st' t k1 k2 k3 k4 q0q ht
 refine exG2_7 q0q fun es ep k5 k6 k7 k8 k9 k10 k11 => ?_
 have ht0 : st.μ t = none := (Le.put_new hx' (Le.put_new hd Le.refl) : Le st.μ _).noneOf ht
 have htx : x ≠ t := ne_none (μ := ((st.put d (.dict [] 0)).put x (.inst 81 d)).μ) put_same ht
 have htd : d ≠ t := ne_none (μ := ((st.put d (.dict [] 0)).put x (.inst 81 d)).μ) (put_ne hdx put_same) ht
 refine ⟨rfl, h x _ (upd (upd (upd (fun _ => none) t (.tup (sy.map .str))) d (.dict es ep)) x (.inst 81 d)) k1 k2 ?_ ?_ ?_⟩
 ·intro a o e
  unfold upd at e
  split at e
  ·k_call_by "c" e; subst_vars; exact k3
  ·split at e
   ·k_call_by "c" e; subst_vars; exact k5
   ·split at e
    ·k_call_by "c" e; subst_vars; exact k4
    ·k_call_by "c" e
 ·intro a o e
  unfold upd at e
  split at e
  ·subst_vars; exact hx
  ·split at e
   ·subst_vars; exact hd
   ·split at e
    ·subst_vars; exact ht0
    ·k_call_by "c" e
 ·exact ⟨x, d, es, ep, t, rfl, u_same, u_ne hdx u_same, k6, k7, k8, u_ne (Ne.symm htx) (u_ne (Ne.symm htd) u_same), k9, k10, k11⟩
end Kk
end
section
set_option maxHeartbeats 1000000
namespace Kk
variable {α β γ δ : Type}
section
variable {g : Gx} {X : Ex → St → Prop} {st : St} {Q : Fl → St → Prop} {F0 : Addr → Option O} {x d l : Addr} {es : List (Str × V)} {M : Lb → Option C} {ad : Lb → Addr}
structure IG (F0 : Addr → Option O) (x d l : Addr) (st : St) (es : List (Str × V)) (M : Lb → Option C) (ad : Lb → Addr) : Prop where
 s1 : st.σ "self" = some (.ref x)
 s2 : st.σ "terminals" = some (.ref l)
 ix : st.μ x = some (.inst 229 d)
 ad_ : ad .d = d
 mem : Mem st.μ F0 ad M
 md : M .d = some (.dict es)
theorem IG.dict (h : IG F0 x d l st es M ad) : ∃ ep, st.μ d = some (.dict es ep) := by
 obtain ⟨o, a, ep, rfl⟩ := h.mem.is .d _ h.md; rw [h.ad_] at a; exact ⟨ep, a⟩
theorem IG.put {a : Addr} {o : O} {c : C} {lab : Lb} {nm : Str} {ep : Nat} (h : IG F0 x d l st es M ad) (ha : st.μ a = none) (hl : M lab = none) (ho : OIs o c) :
  IG F0 x d l ((st.put a o).put d (.dict (dput es nm (.ref a)) ep)) (dput es nm (.ref a)) (fun l' => if l' = .d then some (.dict (dput es nm (.ref a))) else if l' = lab then some c else M l') (fun l' => if l' = lab then a else ad l') := by
 have hld : Lb.d ≠ lab := by rintro rfl; rw [h.md] at hl; k_call_by "c" hl
 have e : (if Lb.d = lab then a else ad .d) = d := by rw [if_neg hld, h.ad_]
 have m := (h.mem.new hl ha ho).put (l := .d) (c := .dict es) (c' := .dict (dput es nm (.ref a))) (o := .dict (dput es nm (.ref a)) ep) (by rw [if_neg hld, h.md]) ⟨ep, rfl⟩
 rw [e] at m
 refine ⟨h.s1, h.s2, ?_, e, m, if_pos rfl⟩
 refine exG1_1 h.dict fun ep' hd => ?_
 have hxd : x ≠ d := by rintro rfl; rw [h.ix] at hd; k_call_by "c" hd
 exact put_ne hxd (put_old ha h.ix)
theorem IG.put0 {a : Addr} {o : O} {nm : Str} {ep : Nat} (h : IG F0 x d l st es M ad) (ha : st.μ a = none) :
  IG F0 x d l ((st.put a o).put d (.dict (dput es nm (.ref a)) ep)) (dput es nm (.ref a)) (fun l' => if l' = .d then some (.dict (dput es nm (.ref a))) else M l') ad := by
 have m := (h.mem.grow (Le.refl.new ha : Le st.μ (upd st.μ a o))).put (l := .d) (c := .dict es) (c' := .dict (dput es nm (.ref a))) (o := .dict (dput es nm (.ref a)) ep) h.md ⟨ep, rfl⟩
 rw [h.ad_] at m
 refine ⟨h.s1, h.s2, ?_, h.ad_, m, if_pos rfl⟩
 refine exG1_1 h.dict fun ep' hd => ?_
 have hxd : x ≠ d := by rintro rfl; rw [h.ix] at hd; k_call_by "c" hd
 exact put_ne hxd (put_old ha h.ix)
theorem IG.dictP {nm : Str} {lab : Lb} (h : IG F0 x d l st es M ad) (hl : M lab = none) (he : es.length ≤ 1000)
  (k : ∀ st' a, IG F0 x d l st' (dput es nm (.ref a)) (fun l' => if l' = .d then some (.dict (dput es nm (.ref a))) else if l' = lab then some (.dict []) else M l') (fun l' => if l' = lab then a else ad l') → Q .next st') :
  mbind (fun Q x st => ∀ (a : Addr), st.μ a = none → ∀ (ep : Nat), Q (V.ref a) (st.put a (O.dict [] ep))) (fun v => mbind (locM "self") fun a => mbind (setAttrM 229 nm a v) fun x => mret Fl.next) Q X st := by
 refine wk_bind ?_
 intro a ha ep
 refine exG1_1 h.dict fun ep' hd => ?_
 refine wk_bind (wk_loc (v := .ref x) h.s1 (wk_bind (wk_setAttr (es := es) (ep := ep') (put_old ha h.ix) (put_old ha hd) he fun ep2 => ?_)))
 exact k _ a (h.put ha hl ⟨ep, rfl⟩)
theorem IG.dict0 {nm : Str} (h : IG F0 x d l st es M ad) (he : es.length ≤ 1000)
  (k : ∀ st' a, IG F0 x d l st' (dput es nm (.ref a)) (fun l' => if l' = .d then some (.dict (dput es nm (.ref a))) else M l') ad → Q .next st') :
  mbind (fun Q x st => ∀ (a : Addr), st.μ a = none → ∀ (ep : Nat), Q (V.ref a) (st.put a (O.dict [] ep))) (fun v => mbind (locM "self") fun a => mbind (setAttrM 229 nm a v) fun x => mret Fl.next) Q X st := by
 refine wk_bind ?_
 intro a ha ep
 refine exG1_1 h.dict fun ep' hd => ?_
 refine wk_bind (wk_loc (v := .ref x) h.s1 (wk_bind (wk_setAttr (es := es) (ep := ep') (put_old ha h.ix) (put_old ha hd) he fun ep2 => ?_)))
 exact k _ a (h.put0 ha)
theorem Le.upd_of {F μ : Addr → Option O} {a : Addr} {o : O} (h : Le F μ) (e : μ a = some o) : Le (upd F a o) μ := fun b p q => by
 unfold upd at q
 split at q
 ·k_call_by "c" q; subst_vars; exact e
 ·exact h b p q
theorem IG.fr (h : IG F0 x d l st es M ad) : Mem st.μ (upd F0 x (.inst 229 d)) ad M := by
 refine h.mem.frz (h.mem.le.upd_of h.ix) fun a o e => ?_
 unfold upd at e
 split at e
 ·subst_vars
  right
  intro l c hc hx
  refine exG1_2 (h.mem.is l c hc) fun o a1 a2 => ?_
  rw [hx, h.ix] at a1
  k_call_by "c" a1
  induction c <;> simp [OIs] at a2
 ·exact .inl e
noncomputable def rmem (ad : Lb → Addr) (es : List (Str × V)) (kt : List Str) : Lb → Option C
 | .tab => some .tab
 | .d => some (.dict es)
 | .P => some (.list [.none])
 | .pn => some (.dict [])
 | .pm => some (.dict [])
 | .t => some (.dict (tabOf kt fun k => ad (.T k)))
 | .T k => if k ∈ kt then some (.list []) else none
 | .nt => none
 | .pr => none
 | .up => none
 | .sy => none
 | .tk => none
 | .B _ => none
 | .N _ => none
theorem IG.newT {kt : List Str} {k : Str} {a : Addr} {ep : Nat} (h : IG F0 x d l st es (rmem ad es kt) ad) (hk : k ∉ kt) (ha : st.μ a = none) :
  IG F0 x d l ((st.put a (.list [])).put (ad .t) (.dict (dput (tabOf kt fun k => ad (.T k)) k (.ref a)) ep)) es (rmem (fun l => if l = .T k then a else ad l) es (kt ++ [k])) (fun l => if l = .T k then a else ad l) := by
 refine ⟨h.s1, h.s2, ?_, h.ad_, h.mem.newSet (l := .T k) (l2 := .t) (c := .list []) (c3 := .dict (tabOf kt fun k => ad (.T k))) (c2 := .dict (dput (tabOf kt fun k => ad (.T k)) k (.ref a))) (if_neg hk) ha rfl rfl ⟨ep, rfl⟩ fun l c e => ?_, rfl⟩
 ·refine exG1_2 (h.mem.is .t _ rfl) fun o q r1 => ?_
  refine exG1_1 r1 fun ep' r2 => ?_
  obtain rfl := r2
  have hxt : x ≠ ad .t := by intro e; rw [← e, h.ix] at q; k_call_by "c" q
  exact put_ne hxt (put_old ha h.ix)
 ·induction l <;> first | exact .inr (.inr ⟨fun q => Lb.noConfusion q, fun q => Lb.noConfusion q, e⟩) | skip
  ·exact .inr (.inl ⟨rfl, (Option.some.inj e).symm.trans (congrArg C.dict (tabT hk))⟩)
  ·rename_i k'
   by_cases q : k' = k
   ·rw [q] at e ⊢; exact .inl ⟨rfl, (Option.some.inj ((if_pos (List.mem_append_right _ (.head _))).symm.trans e)).symm⟩
   ·refine .inr (.inr ⟨fun z => q (Lb.T.inj z), fun z => Lb.noConfusion z, ?_⟩)
    simpa only [rmem, List.mem_append, List.mem_singleton, q, or_false] using e
theorem IG.drop {M' : Lb → Option C} (h : IG F0 x d l st es M ad) (k : ∀ l c, M' l = some c → M l = some c) (hd : M' .d = some (.dict es)) : IG F0 x d l st es M' ad := ⟨h.s1, h.s2, h.ix, h.ad_, h.mem.drop k, hd⟩
theorem IG.putV {v : V} {nm : Str} {ep : Nat} (h : IG F0 x d l st es M ad) : IG F0 x d l (st.put d (.dict (dput es nm v) ep)) (dput es nm v) (fun l' => if l' = .d then some (.dict (dput es nm v)) else M l') ad := by
 have m := h.mem.put (l := .d) (c := .dict es) (c' := .dict (dput es nm v)) (o := .dict (dput es nm v) ep) h.md ⟨ep, rfl⟩
 rw [h.ad_] at m
 refine ⟨h.s1, h.s2, ?_, h.ad_, m, if_pos rfl⟩
 refine exG1_1 h.dict fun ep' hd => ?_
 have hxd : x ≠ d := by rintro rfl; rw [h.ix] at hd; k_call_by "c" hd
 exact put_ne hxd h.ix
theorem IG.set {y : Str} {v : V} (h : IG F0 x d l st es M ad) (h1 : ("self" : Str) ≠ y) (h2 : ("terminals" : Str) ≠ y) : IG F0 x d l (st.set y v) es M ad := ⟨sig_ne h1 h.s1, sig_ne h2 h.s2, h.ix, h.ad_, h.mem, h.md⟩
noncomputable def S0 (es : List (Str × V)) : GS := ⟨es, [.none], [], fun _ => [], [], ["A", "B", "C", "error"], fun _ => [], [], fun _ => [], [], [], none, none⟩
noncomputable def xmem (ex : Lb → Bool) (ad : Lb → Addr) (es : List (Str × V)) : Lb → Option C := fun l => if ex l = true then gmem ad (S0 es) l else none
theorem IG.x0 {kt : List Str} (h : IG F0 x d l st es (rmem ad es kt) ad) (hk : kt = (["A", "B", "C", "error"] : List Str)) (hP : ad .P = ad .P) : IG F0 x d l st es (xmem (fun l => match l with | .nt | .pr | .up => false | _ => true) ad es) ad :=
 h.drop (fun l c e => by subst hk; induction l <;> simp [xmem, gmem, S0] at e <;> first | exact e | (simp [rmem, tabOf]; exact e) | skip
             ) rfl
theorem xmem_pos {ex : Lb → Bool} {l : Lb} (h : ex l = true) : xmem ex ad es l = gmem ad (S0 es) l := if_pos h
theorem xmem_get {ex : Lb → Bool} {l : Lb} {c : C} (e : xmem ex ad es l = some c) : ex l = true ∧ gmem ad (S0 es) l = some c := by
 unfold xmem at e
 split at e
 ·exact ⟨‹_›, e⟩
 ·k_call_by "c" e
theorem gS0 {ad ad' : Lb → Addr} {es es' : List (Str × V)} (hT : ∀ k, ad' (.T k) = ad (.T k)) {l : Lb} (hl : l ≠ .d) : gmem ad' (S0 es') l = gmem ad (S0 es) l := by
 induction l <;> first | rfl | exact absurd rfl hl | exact congrArg (fun f => some (C.dict (tabOf _ f))) (funext hT)
theorem IG.xg {lab : Lb} {c : C} {ex : Lb → Bool} {es' : List (Str × V)} {a : Addr} (h : IG F0 x d l st es' (fun l' => if l' = .d then some (.dict es') else if l' = lab then some c else xmem ex ad es l') (fun l' => if l' = lab then a else ad l')) (hd : ex .d = true)
  (hT : ∀ k, lab ≠ .T k) (hc : gmem (fun l' => if l' = lab then a else ad l') (S0 es') lab = some c) :
  IG F0 x d l st es' (xmem (fun l => decide (l = lab) || ex l) (fun l' => if l' = lab then a else ad l') es') (fun l' => if l' = lab then a else ad l') := by
 refine h.drop (fun l c' e => ?_) ((xmem_pos (by simp only [hd, Bool.or_true])).trans rfl)
 refine exG0_2 (xmem_get e) fun p e => ?_
 by_cases q : l = .d
 ·rw [q] at e ⊢; exact (if_pos rfl).trans e
 ·rw [if_neg q]
  by_cases q2 : l = lab
  ·rw [if_pos q2]; rw [q2, hc] at e; exact e
  ·rw [if_neg q2]
   rw [gS0 (ad := ad) (es := es) (fun k => if_neg fun z => hT k z.symm) q] at e
   exact (xmem_pos (by simpa only [q2, decide_false, Bool.false_or] using p)).trans e
theorem IG.xnt {ex : Lb → Bool} {es' : List (Str × V)} {a : Addr} (h : IG F0 x d l st es' (fun l' => if l' = .d then some (.dict es') else if l' = .nt then some (.dict []) else xmem ex ad es l') (fun l' => if l' = .nt then a else ad l')) (hd : ex .d = true) :
  IG F0 x d l st es' (xmem (fun l => decide (l = .nt) || ex l) (fun l' => if l' = .nt then a else ad l') es') (fun l' => if l' = .nt then a else ad l') := h.xg hd (fun k q => Lb.noConfusion q) rfl
theorem IG.xpr {ex : Lb → Bool} {es' : List (Str × V)} {a : Addr} (h : IG F0 x d l st es' (fun l' => if l' = .d then some (.dict es') else if l' = .pr then some (.dict []) else xmem ex ad es l') (fun l' => if l' = .pr then a else ad l')) (hd : ex .d = true) :
  IG F0 x d l st es' (xmem (fun l => decide (l = .pr) || ex l) (fun l' => if l' = .pr then a else ad l') es') (fun l' => if l' = .pr then a else ad l') := h.xg hd (fun k q => Lb.noConfusion q) rfl
theorem IG.xup {ex : Lb → Bool} {es' : List (Str × V)} {a : Addr} (h : IG F0 x d l st es' (fun l' => if l' = .d then some (.dict es') else if l' = .up then some (.set []) else xmem ex ad es l') (fun l' => if l' = .up then a else ad l')) (hd : ex .d = true) :
  IG F0 x d l st es' (xmem (fun l => decide (l = .up) || ex l) (fun l' => if l' = .up then a else ad l') es') (fun l' => if l' = .up then a else ad l') := h.xg hd (fun k q => Lb.noConfusion q) rfl
theorem IG.xv {ex : Lb → Bool} {es' : List (Str × V)} (h : IG F0 x d l st es' (fun l' => if l' = .d then some (.dict es') else xmem ex ad es l') ad) (hd : ex .d = true) :
  IG F0 x d l st es' (xmem ex ad es') ad := by
 refine h.drop (fun l c' e => ?_) ((xmem_pos hd).trans rfl)
 refine exG0_2 (xmem_get e) fun p e => ?_
 by_cases q : l = .d
 ·rw [q] at e ⊢; exact (if_pos rfl).trans e
 ·rw [if_neg q]
  rw [gS0 (ad := ad) (es := es) (fun k => rfl) q] at e
  exact (xmem_pos p).trans e
theorem IG.toGm (h : IG F0 x d l st es M ad) (hd : ∀ l c, gmem ad (S0 es) l = some c → M l = some c) (ht : ad .tab = 45) (hA : Attrs ad es) : Gm st.μ (upd F0 x (.inst 229 d)) x ad (S0 es) :=
 ⟨h.fr.drop hd, ht, by rw [u_same, h.ad_], hA, fun p q => nomatch q⟩
end
variable {g : Gx} {X : Ex → St → Prop} {Q : V → St → Prop} {st : St}
theorem sp_Grammar {n : Nat} {m : Mine g} {l : Addr} (hl : st.μ l = some (.list [.str "A", .str "B", .str "C"])) (hT : ∃ b, st.μ 45 = some (.tab b))
  (h : ∀ gr μ' F ad es, es.length ≤ 15 → Le (cut st.μ) F → Gm μ' F gr ad (S0 es) → Q (.ref gr) ⟨st.σ, μ'⟩) :
  makeM 229 (fnM ["self", "terminals"] (([] : List (Str × Value)).map fun p => (p.1, er p.2)) 2 (r_init_G (n := n) m).1) [.ref l] Q X st := by
 intro d x hd hx hdx
 revert hT; refine fun oO => exG1_1 oO fun b hT => ?_
 have hx' : (st.put d (.dict [] 0)).μ x = none := u_none (Ne.symm hdx) hx
 refine wk_en2 (a1 := "self") (v1 := (V.ref x : V)) (a2 := "terminals") (v2 := (V.ref l : V)) rfl (by kernel_rfl) (by kernel_rfl) fun σ s_self s_terminals => ?_
 have m0 : Mem st.μ (cut st.μ) (fun _ => 45) (fun l => if l = .tab then some .tab else none) := by
  refine ⟨cut_le, ?_, ?_, fun _ _ _ => cut_none⟩
  ·intro l c e
   split at e
   ·k_call_by "c" e; exact ⟨_, hT, b, rfl⟩
   ·k_call_by "c" e
  ·intro l l' c c' e e' _
   split at e
   ·split at e'
    ·subst_vars; rfl
    ·cases e'
   ·k_call_by "c" e
 have m1 := m0.new (l := .d) (c := .dict []) (o := .dict [] 0) rfl hd ⟨0, rfl⟩
 have m2 := m1.grow (Le.refl.new hx' : Le (upd st.μ d (.dict [] 0)) (upd (upd st.μ d (.dict [] 0)) x (.inst 229 d)))
 have hl2 : (upd (upd st.μ d (.dict [] 0)) x (.inst 229 d)) l = some (.list [.str "A", .str "B", .str "C"]) := u_old hx' (u_old hd hl)
 have G0 : IG (cut st.μ) x d l ⟨σ, upd (upd st.μ d (.dict [] 0)) x (.inst 229 d)⟩ [] _ _ := ⟨s_self, s_terminals, u_same, rfl, m2, rfl⟩
 have hF0x : cut st.μ x = none := cut_le.noneOf hx
 clear m0 m1 m2
 unfold r_init_G; dsimp only
 walk_at "w"
 refine wk_list (by simp) fun P hP => ?_
 refine exG1_1 G0.dict fun ep0 hd0 => ?_
 walk_at "w"
 rename_i ep1
 have hal : cut st.μ l = some (.list [.str "A", .str "B", .str "C"]) := cut_get (by rintro rfl; rw [hT] at hl; k_call_by "c" hl) hl
 have G1 : IG (cut st.μ) x d l _ _ _ _ := G0.put (a := P) (o := .list [.none]) (c := .list [.none]) (lab := .P) (nm := "Productions") (ep := ep1) hP rfl rfl
 refine IG.dictP (lab := .pn) G1 rfl (by walk_at "ln") fun st2 pn G2 => ?_
 walk_at "w"
 refine IG.dictP (lab := .pm) G2 rfl (by walk_at "ln") fun st3 pm G3 => ?_
 walk_at "w"
 refine IG.dictP (lab := .t) G3 rfl (by walk_at "ln") fun st4 t G4 => ?_
 have G5 := G4.drop (M' := rmem (fun l' => if l' = .t then t else if l' = .pm then pm else if l' = .pn then pn else if l' = .P then P else if l' = .d then d else 45) (dput (dput (dput (dput [] "Productions" (.ref P)) "Prodnames" (.ref pn)) "Prodmap" (.ref pm)) "Terminals" (.ref t)) []) (by
  intro l c e
  induction l <;> simp [rmem, tabOf] at e ⊢ <;> exact e) rfl
 have s_t := G5.s2
 have hl4 := G5.mem.le _ _ hal
 walk_at "w"
 refine loop_gen (its_list (xs := [.str "A", .str "B", .str "C"]) (by walk_at "mu")) (ys := (["A", "B", "C"] : List Str)) (G := fun l y => ∃ v, l = [v] ∧ v = .str y) (by exact ⟨⟨_, rfl, rfl⟩, ⟨_, rfl, rfl⟩, ⟨_, rfl, rfl⟩, trivial⟩) (fun pre st' => ∃ ad, IG (cut st.μ) x d l st' _ (rmem ad _ pre) ad ∧ (∀ lab, (∀ k, lab ≠ .T k) → ad lab = (fun l' => if l' = .t then t else if l' = .pm then pm else if l' = .pn then pn else if l' = .P then P else if l' = .d then d else 45) lab)) ⟨_, G5, fun _ _ => rfl⟩ ?_ ?_ ?_
 ·intro i st' hi q0q
  refine exG1_2 q0q fun ad k1 k2 => ?_
  exact cur_list (k1.mem.le _ _ hal)
 ·intro pre y post l' st' K hps q0q q1q hK
  refine exG1_2 q0q fun v r3 r4 => ?_
  obtain rfl := r3
  obtain rfl := r4
  refine exG1_2 q1q fun ad k1 k2 => ?_
  have hy : y ∉ pre := by
   have hn : (["A", "B", "C"] : List Str).Nodup := by decide +kernel
   rw [hps, List.nodup_append] at hn
   intro hm; exact hn.2.2 y hm y (by simp) rfl
  have hpl : pre.length ≤ 3 := preLe hps (by first | omega | (simp; done) | (simp; omega))
  have s_self := k1.s1
  refine exG1_1 k1.dict fun ep5 hd5 => ?_
  have ix := k1.ix
  have et : ad .t = t := k2 .t (by nofun)
  walk_at "w"
  refine wk_list (by simp) fun a ha => ?_
  walk_at "w"
  refine exG1_2 (k1.mem.is .t _ rfl) fun _ q r5 => ?_
  refine exG1_1 r5 fun ep6 r6 => ?_
  obtain rfl := r6
  rw [et] at q
  refine wk_itemD (by walk_at "mu") (by rw [tabOf_len]; omega) fun ep7 => ?_
  walk_at "w"
  have k3 := (k1.set (y := "term") (v := .str y) (by walk_at "nm") (by walk_at "nm")).newT (ep := ep7) hy ha
  rw [et] at k3
  refine hK _ ⟨_, k3, fun lab hlab => ?_⟩
  rw [if_neg (hlab y)]; exact k2 lab hlab
 intro st5 q0q
 refine exG1_2 q0q fun ad k1 k2 => ?_
 have s_self := k1.s1
 refine exG1_1 k1.dict fun ep5 hd5 => ?_
 have ix := k1.ix
 have et : ad .t = t := k2 .t (by nofun)
 walk_at "w"
 refine wk_list (by simp) fun a ha => ?_
 walk_at "w"
 refine exG1_2 (k1.mem.is .t _ rfl) fun _ q r7 => ?_
 refine exG1_1 r7 fun ep6 r8 => ?_
 obtain rfl := r8
 rw [et] at q
 refine wk_itemD (by walk_at "mu") (by rw [tabOf_len]; simp) fun ep7 => ?_
 walk_at "w"
 have k3 := k1.newT (k := "error") (ep := ep7) (by decide +kernel) ha
 rw [et] at k3
 have k4 : ∀ lab, (∀ k, lab ≠ .T k) → (fun l => if l = Lb.T "error" then a else ad l) lab = (fun l' => if l' = .t then t else if l' = .pm then pm else if l' = .pn then pn else if l' = .P then P else if l' = .d then d else 45) lab := fun lab hlab => by
  dsimp only; rw [if_neg (hlab _)]; exact k2 lab hlab
 generalize (fun l => if l = Lb.T "error" then a else ad l) = ad' at k3 k4
 have q1 : ad' .P = P := k4 .P nofun
 have q2 : ad' .pn = pn := k4 .pn nofun
 have q3 : ad' .pm = pm := k4 .pm nofun
 have q4 : ad' .t = t := k4 .t nofun
 have q5 : ad' .tab = 45 := k4 .tab nofun
 have f0 := k3.x0 rfl rfl
 have f1 : dget (dput (dput (dput (dput [] ("Productions" : Str) (V.ref P)) "Prodnames" (.ref pn)) "Prodmap" (.ref pm)) "Terminals" (.ref t)) "Productions" = some (.ref P) := by walk_at "dg"
 have f2 : dget (dput (dput (dput (dput [] ("Productions" : Str) (V.ref P)) "Prodnames" (.ref pn)) "Prodmap" (.ref pm)) "Terminals" (.ref t)) "Prodnames" = some (.ref pn) := by walk_at "dg"
 have f3 : dget (dput (dput (dput (dput [] ("Productions" : Str) (V.ref P)) "Prodnames" (.ref pn)) "Prodmap" (.ref pm)) "Terminals" (.ref t)) "Prodmap" = some (.ref pm) := by walk_at "dg"
 have f4 : dget (dput (dput (dput (dput [] ("Productions" : Str) (V.ref P)) "Prodnames" (.ref pn)) "Prodmap" (.ref pm)) "Terminals" (.ref t)) "Terminals" = some (.ref t) := by walk_at "dg"
 have f5 : (dput (dput (dput (dput [] ("Productions" : Str) (V.ref P)) "Prodnames" (.ref pn)) "Prodmap" (.ref pm)) "Terminals" (.ref t)).length ≤ 4 := by walk_at "ln"
 have f6 : ∀ x ∈ (["set_precedence", "add_production", "set_start"] : List Str), dget (dput (dput (dput (dput [] ("Productions" : Str) (V.ref P)) "Prodnames" (.ref pn)) "Prodmap" (.ref pm)) "Terminals" (.ref t)) x = none := by
  intro y hy
  simp only [List.mem_cons, List.not_mem_nil, or_false] at hy
  rcases hy with rfl | rfl | rfl <;> walk_at "dg"
 clear k3 k1 G0 G1 G2 G3 G4 G5
 generalize (dput (dput (dput (dput [] ("Productions" : Str) (V.ref P)) "Prodnames" (.ref pn)) "Prodmap" (.ref pm)) "Terminals" (.ref t)) = es4 at f0 f1 f2 f3 f4 f5 f6
 refine IG.dictP (lab := .nt) f0 rfl (by omega) fun st6 nt G6 => ?_
 have G6' := G6.xnt rfl
 clear G6 f0
 walk_at "w"
 refine IG.dict0 G6' (by walk_at "ln") fun st7 fi G7 => ?_
 have G7' := G7.xv rfl
 clear G7 G6'
 walk_at "w"
 refine IG.dict0 G7' (by walk_at "ln") fun st8 fo G8 => ?_
 have G8' := G8.xv rfl
 clear G8 G7'
 walk_at "w"
 refine IG.dictP (lab := .pr) G8' rfl (by walk_at "ln") fun st9 pr G9 => ?_
 have G9' := G9.xpr rfl
 clear G9 G8'
 walk_at "w"
 refine ⟨rfl, fun up hup => ?_⟩
 have s_self := G9'.s1
 refine exG1_1 G9'.dict fun ep9 hd9 => ?_
 have ix9 := G9'.ix
 walk_at "w"
 rename_i ep10 ep11
 have G10 := (G9'.put (a := up) (o := .set []) (c := .set []) (lab := .up) (nm := "UsedPrecedence") (ep := ep10) hup rfl rfl).xup rfl
 have G11 := (G10.putV (nm := "Start") (v := .none) (ep := ep11)).xv rfl
 clear G9' G10
 refine ⟨rfl, h x _ _ _ _ ?_ (Le.refl.new hF0x) (G11.toGm ?_ ?_ ?_)⟩
 ·walk_at "ln"
 ·intro l' c e
  cases l' <;> first | exact e | (simp [gmem, S0] at e; done)
 ·simpa using q5
 ·refine ⟨?_, ?_, ?_, ?_, ?_, ?_, ?_, by walk_at "ln", ?_⟩
  ·simp only [reduceCtorEq, if_false, q1]; walk_at "dg"
  ·simp only [reduceCtorEq, if_false, q2]; walk_at "dg"
  ·simp only [reduceCtorEq, if_false, q3]; walk_at "dg"
  ·simp only [reduceCtorEq, if_false, q4]; walk_at "dg"
  ·simp only [reduceCtorEq, if_false, if_true]; walk_at "dg"
  ·simp only [reduceCtorEq, if_false, if_true]; walk_at "dg"
  ·simp only [reduceCtorEq, if_false, if_true]; walk_at "dg"
  ·intro y hy
   have hy0 := f6 y hy
   simp only [List.mem_cons, List.not_mem_nil, or_false] at hy
   rcases hy with rfl | rfl | rfl <;> walk_at "dg"
end Kk
end
section
set_option maxHeartbeats 1000000
namespace Kk
variable {α β γ δ : Type}
section
variable {μ μ' F F' : Addr → Option O} {gr : Addr} {ad : Lb → Addr} {S : GS} {k : Str} {o : O} {a : Addr} {v : V}
theorem Gm.apart (h : Gm μ F gr ad S) (ha : μ a = none) : ∀ l c, gmem ad S l = some c → ad l ≠ a := fun l c e z => by
 refine exG1_2 (h.mem.is l c e) fun o' h1 _ => ?_
 rw [z, ha] at h1; k_call_by "c" h1
theorem Gm.alloc (h : Gm μ F gr ad S) (ha : μ a = none) : Gm (upd μ a o) (upd F a o) gr ad S := by
 have hF := h.mem.le.noneOf ha
 refine (h.grow (Le.refl.new ha)).frz (Le.refl.new hF) (Le.ext h.mem.le ha) fun b p e => ?_
 unfold upd at e
 split at e
 ·subst_vars; exact .inr (h.apart ha)
 ·exact .inl e
noncomputable def un (F F' : Addr → Option O) : Addr → Option O := fun a => match F a with | some o => some o | none => F' a
theorem un_l : Le F (un F F') := fun a o e => by unfold un; rw [e]
theorem un_r (h : ∀ a o, F' a = some o → F a = none) : Le F' (un F F') := fun a o e => by unfold un; rw [h a o e]; exact e
theorem un_le (h : Le F μ) (k : Le F' μ) : Le (un F F') μ := fun a o e => by
 unfold un at e
 split at e
 ·rename_i q; k_call_by "c" e; exact h _ _ q
 ·exact k _ _ e
theorem un_or {b : Addr} {p : O} (e : un F F' b = some p) : F b = some p ∨ F' b = some p := by
 unfold un at e
 split at e
 ·rename_i q; k_call_by "c" e; exact .inl q
 ·exact .inr e
theorem Gm.prod (h : Gm μ F gr ad S) (k : Le (cut μ) μ') (ht : ∃ b, μ' 45 = some (.tab b)) (hF : Le F' μ') (hn : ∀ a o, F' a = some o → μ a = none) : Gm μ' (un F F') gr ad S ∧ Le F' (un F F') := by
 have h1 := h.made k ht
 refine ⟨h1.frz un_l (un_le h1.mem.le hF) fun a o e => ?_, un_r fun a o e => h.mem.le.noneOf (hn a o e)⟩
 rcases un_or e with e | e
 ·exact .inl e
 ·exact .inr (h.apart (hn a o e))
inductive GmAll (μ : Addr → Option O) (gr : Addr) (ad : Lb → Addr) (S : GS) : Prop
 | mk (i0 : μ gr = some (.inst 229 (ad .d))) (e0 : Nat) (i1 : μ (ad .d) = some (.dict S.es e0)) (i2 : μ (ad .P) = some (.list S.vs)) (e1 : Nat) (i3 : μ (ad .pn) = some (.dict (tabOf S.kb fun k => ad (.B k)) e1)) (e2 : Nat) (i4 : μ (ad .pm) = some (.dict S.pm e2))
  (e3 : Nat) (i5 : μ (ad .t) = some (.dict (tabOf S.kt fun k => ad (.T k)) e3)) (e4 : Nat) (i6 : μ (ad .nt) = some (.dict (tabOf S.kn fun k => ad (.N k)) e4)) (e5 : Nat) (i7 : μ (ad .pr) = some (.dict S.pr e5)) (i8 : μ (ad .up) = some (.set S.us))
theorem Gm.all (h : Gm μ F gr ad S) : GmAll μ gr ad S := by
 refine exG1_1 h.d fun e0 h0 => ?_
 refine exG1_1 h.pn fun e1 h1 => ?_
 refine exG1_1 h.pm fun e2 h2 => ?_
 refine exG1_1 h.t fun e3 h3 => ?_
 refine exG1_1 h.nt fun e4 h4 => ?_
 refine exG1_1 h.pr fun e5 h5 => ?_
 exact ⟨h.gr_, e0, h0, h.P, e1, h1, e2, h2, e3, h3, e4, h4, e5, h5, h.up⟩
end
section
variable {X : Ex → St → Prop} {st : St} {Q : Fl → St → Prop}
theorem wk_try {b h : M Fl} (k : b Q (fun k st' => match k with | .key => h Q (fun _ _ => False) st' | k => False) st) : tryKeyM b h Q X st := k
theorem wk_idxKey {a : Addr} {k : Str} {es : List (Str × V)} {ep : Nat} {Q : V → St → Prop} (h1 : st.μ a = some (.dict es ep)) (h2 : dget es k = none) (h : X .key st) : idxM (.ref a) (.str k) Q X st := .key h1 h2 h
end
variable {g : Gx} {X : Ex → St → Prop} {st : St}
theorem sp_set_precedence {Q : V → St → Prop} {n : Nat} {m : Mine g} {F : Addr → Option O} {gr : Addr} {ad : Lb → Addr} {S : GS} {term assoc : Str} {lv : Int} (hG : Gm st.μ F gr ad S) (hv : S.vs = [.none]) (ht : dget S.pr term = none) (hp : S.pr.length ≤ 10) (ha : assoc ∈ (["left", "right", "nonassoc"] : List Str))
  (h : ∀ μ' F' tp, Le F F' → F' tp = some (.tup [.str assoc, .int lv]) → Gm μ' F' gr ad { S with pr := dput S.pr term (.ref tp) } → Q .none ⟨st.σ, μ'⟩) :
  fnM ["self", "term", "assoc", "level"] (([] : List (Str × Value)).map fun p => (p.1, er p.2)) 4 (r_set_precedence (n := n) m).1 [.ref gr, .str term, .str assoc, .int lv] Q X st := by
 refine wk_en4 (a1 := "self") (v1 := (V.ref gr : V)) (a2 := "term") (v2 := (V.str term : V)) (a3 := "assoc") (v3 := (V.str assoc : V)) (a4 := "level") (v4 := (V.int lv : V)) rfl (by kernel_rfl) (by kernel_rfl) (by kernel_rfl) (by kernel_rfl) fun σ s_self s_term s_assoc s_level => ?_
 obtain ⟨A1, A2, A3, A4, A5, A6, A7, A8, A9⟩ := hG.at_
 obtain ⟨i0, e0, i1, i2, e1, i3, e2, i4, e3, i5, e4, i6, e5, i7, i8⟩ := hG.all
 unfold r_set_precedence; dsimp only
 walk_at "w"
 refine wk_list (by simp) fun l1 hl1 => ?_
 walk_at "w"
 refine wk_eqR (d := .list [.none]) (e := .list [.none]) (.list (xs := [.none]) (by rw [hv] at i2; walk_at "mu") (.cons .none .nil)) (.list (xs := [.none]) (by walk_at "mu") (.cons .none .nil)) ⟨rfl, by decide⟩ ⟨rfl, by decide⟩ ?_
 refine ⟨rfl, ?_⟩
 walk_at "w"
 rw [ht]
 refine wk_neg rfl ?_
 walk_at "w"
 refine wk_list (by simp) fun l2 hl2 => ?_
 walk_at "w"
 refine wk_ninL (ys := ["left", "right", "nonassoc"]) (by exact put_same) (by decide +kernel) ?_ ?_
 ·simp only [List.mem_cons, List.not_mem_nil, or_false] at ha
  rcases ha with rfl | rfl | rfl <;> decide +kernel
 refine wk_neg (by simp [ha]) ?_
 walk_at "w"
 refine wk_tup (by simp) fun tp htp => ?_
 have hG1 : Gm _ _ gr ad S := (((hG.grow (Le.refl.new hl1)).grow (Le.refl.new hl2)).alloc htp (o := .tup [.str assoc, .int lv]))
 walk_at "w"
 refine wk_itemD (es := S.pr) (ep := e5) (by walk_at "mu") (by omega) fun ep => ?_
 walk_at "w"
 exact h _ _ tp (Le.refl.new ((hG.grow (Le.refl.new hl1)).grow (Le.refl.new hl2) |>.mem.le.noneOf htp)) u_same hG1.setPr
theorem hdl_prec {Q : V → St → Prop} {n : Nat} {m : Mine g} {F : Addr → Option O} {gr : Addr} {ad : Lb → Addr} {S : GS} {term assoc : Str} {lv : Int} (hG : Gm st.μ F gr ad S) (hv : S.vs = [.none]) (ht : (dget S.pr term).isSome = true ∨ (dget S.pr term = none ∧ assoc ∉ (["left", "right", "nonassoc"] : List Str))) (hr : (reprText term).length ≤ 1000) (ha : PyData.strOk assoc = true)
  (h : ∀ μ', Le st.μ μ' → X .gram ⟨st.σ, μ'⟩) :
  fnM ["self", "term", "assoc", "level"] (([] : List (Str × Value)).map fun p => (p.1, er p.2)) 4 (r_set_precedence (n := n) m).1 [.ref gr, .str term, .str assoc, .int lv] Q X st := by
 refine wk_en4 (a1 := "self") (v1 := (V.ref gr : V)) (a2 := "term") (v2 := (V.str term : V)) (a3 := "assoc") (v3 := (V.str assoc : V)) (a4 := "level") (v4 := (V.int lv : V)) rfl (by kernel_rfl) (by kernel_rfl) (by kernel_rfl) (by kernel_rfl) fun σ s_self s_term s_assoc s_level => ?_
 obtain ⟨A1, A2, A3, A4, A5, A6, A7, A8, A9⟩ := hG.at_
 obtain ⟨i0, e0, i1, i2, e1, i3, e2, i4, e3, i5, e4, i6, e5, i7, i8⟩ := hG.all
 unfold r_set_precedence; dsimp only
 walk_at "w"
 refine wk_list (by simp) fun l1 hl1 => ?_
 walk_at "w"
 refine wk_eqR (d := .list [.none]) (e := .list [.none]) (.list (xs := [.none]) (by rw [hv] at i2; walk_at "mu") (.cons .none .nil)) (.list (xs := [.none]) (by walk_at "mu") (.cons .none .nil)) ⟨rfl, by decide⟩ ⟨rfl, by decide⟩ ?_
 refine ⟨rfl, ?_⟩
 walk_at "w"
 have key : ∀ μ', Le st.μ μ' → Le st.μ μ' := fun _ h => h
 rcases ht with ht | ⟨ht, hb⟩
 ·refine wk_pos ht ?_
  walk_at "say"
  exact h _ (Le.put_new hl1 Le.refl)
 ·rw [ht]
  refine wk_neg rfl ?_
  walk_at "w"
  refine wk_list (by simp) fun l2 hl2 => ?_
  walk_at "w"
  refine wk_ninL (ys := ["left", "right", "nonassoc"]) (by exact put_same) (by decide +kernel) ha ?_
  refine wk_pos (by simp [hb]) ?_
  walk_at "say"
  exact h _ (Le.put_new hl2 (Le.put_new hl1 Le.refl))
end Kk
end
section
set_option maxHeartbeats 1000000
namespace Kk
variable {α β γ δ : Type}
theorem wk_join {p q rest : M Fl} {b : Bool} {Q : Fl → St → Prop} {X : Ex → St → Prop} {st : St} (J : St → Prop) (h : ∀ st', J st' → rest Q X st') (h1 : b = true → ∀ Q' : Fl → St → Prop, (∀ st', J st' → Q' .next st') → p Q' X st) (h2 : b = false → ∀ Q' : Fl → St → Prop, (∀ st', J st' → Q' .next st') → q Q' X st) :
  ifK p q (seqK rest Q X) X b st := by
 k_call_by "c" b
 ·exact h2 rfl _ h
 ·exact h1 rfl _ h
variable {g : Gx} {X : Ex → St → Prop} {st : St} {Q : Fl → St → Prop}
theorem sp_add_c9 {n : Nat} {m : Mine g} {F : Addr → Option O} {gr : Addr} {ad : Lb → Addr} {S : GS} {num : Int} {nm mp : Str} {sy : List Str} {pv fv fi lv : V} (hG : Gm st.μ F gr ad S) (hsy : S.sy = some (sy.map .str)) (hvl : S.vs.length ≤ 100) (hpl : S.pm.length ≤ 100) (hkl : S.kb.length ≤ 100) (hcl : ∀ k ∈ S.kb, (S.cb k).length ≤ 100)
  (hsl : sy.length ≤ 4) (hok : ∀ y ∈ sy, PyData.strOk y = true) (hyl : ∀ y ∈ sy, y.length ≤ 1000)
  (v1 : st.σ "self" = some (.ref gr)) (v2 : st.σ "prodname" = some (.str nm)) (v3 : st.σ "syms" = some (.ref (ad .sy))) (v4 : st.σ "prodprec" = some pv) (v5 : st.σ "func" = some fv) (v6 : st.σ "file" = some fi) (v7 : st.σ "line" = some lv) (v8 : st.σ "pnumber" = some (.int num)) (v9 : st.σ "map" = some (.str mp))
  (h : ∀ st' F' v ad' kb' cb', Le F F' → ProdAt F' v ⟨num, nm, sy⟩ pv fi lv → (nm ∈ S.kb → kb' = S.kb ∧ cb' = fun k => if k = nm then S.cb nm ++ [v] else S.cb k) → (nm ∉ S.kb → kb' = S.kb ++ [nm] ∧ cb' = fun k => if k = nm then [v] else S.cb k) →
   Gm st'.μ F' gr ad' { S with vs := S.vs ++ [v], pm := dput S.pm mp v, kb := kb', cb := cb' } → Q .next st') : (r_add_production_c9 (n := n) m).1 Q X st := by
 unfold r_add_production_c9; dsimp only
 obtain ⟨A1, A2, A3, A4, A5, A6, A7, A8, A9⟩ := hG.at_
 walk_at "w"
 refine sp_Prod (num := num) (nm := nm) (sy := sy) (hG.sy hsy) hG.tb hsl hok hyl fun x μ1 F1 k1 k2 k3 k4 k5 => ?_
 refine exG0_2 (hG.prod k1 k2 k3 k4) fun hG1 hF1 => ?_
 have hP := k5.le hF1
 have hFF : Le F (un F F1) := un_l
 generalize un F F1 = F2 at hG1 hF1 hP hFF
 obtain ⟨i0, e0, i1, i2, e1, i3, e2, i4, e3, i5, e4, i6, e5, i7, i8⟩ := hG1.all
 have hG2 : Gm (((⟨st.σ, μ1⟩ : St).set "p" (.ref x)).put (ad .P) (.list (S.vs ++ [.ref x]))).μ F2 gr ad { S with vs := S.vs ++ [.ref x] } := hG1.appP
 obtain ⟨j0, o0, j1, j2, o1, j3, o2, j4, o3, j5, o4, j6, o5, j7, j8⟩ := hG2.all
 walk_at "w"
 refine wk_itemD (by walk_at "mu") (by dsimp only; omega) fun ep => ?_
 have hG3 : Gm ((((⟨st.σ, μ1⟩ : St).set "p" (.ref x)).put (ad .P) (.list (S.vs ++ [.ref x]))).put (ad .pm) (.dict (dput S.pm mp (.ref x)) ep)).μ F2 gr ad { S with vs := S.vs ++ [.ref x], pm := dput S.pm mp (.ref x) } := hG2.setPM
 obtain ⟨l0, u0, l1, l2, u1, l3, u2, l4, u3, l5, u4, l6, u5, l7, l8⟩ := hG3.all
 walk_at "w"
 refine wk_try ?_
 walk_at "w"
 by_cases hk : nm ∈ S.kb
 ·have l9 := hG3.B hk
  have hcl' := hcl nm hk
  refine wk_idxD (u := .ref (ad (.B nm))) (by walk_at "mu") (by rw [dget_tab, if_pos hk]) ?_
  walk_at "w"
  exact h _ F2 (.ref x) ad _ _ hFF hP (fun _ => ⟨rfl, rfl⟩) (fun h => absurd hk h) (hG3.appB hk)
 ·refine wk_idxKey (by walk_at "mu") (by rw [dget_tab, if_neg hk]) ?_
  dsimp only
  walk_at "w"
  refine wk_list (by simp) fun a ha => ?_
  walk_at "w"
  refine wk_itemD (by walk_at "mu") (by rw [tabOf_len]; dsimp only; omega) fun ep2 => ?_
  walk_at "w"
  exact h _ F2 (.ref x) _ _ _ hFF hP (fun h => absurd h hk) (fun _ => ⟨rfl, rfl⟩) (hG3.newB hk ha)
noncomputable def ctAdd (kt : List Str) (ct : Str → List V) (v : V) (sy : List Str) : Str → List V := fun k => ct k ++ (sy.filter fun t => decide (t = k) && decide (t ∈ kt)).map fun _ => v
noncomputable def cnAdd (kt : List Str) (cn : Str → List V) (v : V) (sy : List Str) : Str → List V := fun k => cn k ++ (sy.filter fun t => decide (t = k) && !decide (t ∈ kt)).map fun _ => v
noncomputable def knStep (kt : List Str) (acc : List Str) (t : Str) : List Str := if t ∈ kt ∨ t ∈ acc then acc else acc ++ [t]
noncomputable def knAdd (kt kn sy : List Str) : List Str := sy.foldl (knStep kt) kn
theorem knAdd_app {kt kn pre : List Str} {y : Str} : knAdd kt kn (pre ++ [y]) = knStep kt (knAdd kt kn pre) y := by simp [knAdd]
theorem knAdd_len (kt sy kn : List Str) : (knAdd kt kn sy).length ≤ kn.length + sy.length := by
 unfold knAdd
 induction sy generalizing kn with
 | nil => simp
 | cons y r ih =>
  have := ih (knStep kt kn y)
  simp only [List.foldl_cons, List.length_cons]
  have h2 : (knStep kt kn y).length ≤ kn.length + 1 := by unfold knStep; split <;> simp
  omega
theorem knAdd_mem {kt sy kn : List Str} {k : Str} (h : k ∈ kn) : k ∈ knAdd kt kn sy := by
 unfold knAdd
 induction sy generalizing kn with
 | nil => exact h
 | cons y r ih =>
  rw [List.foldl_cons]
  refine ih ?_
  unfold knStep; split
  ·exact h
  ·simp [h]
theorem ctAdd_in {kt : List Str} {ct : Str → List V} {v : V} {pre : List Str} {y : Str} (h : y ∈ kt) : (fun k' => if k' = y then ctAdd kt ct v pre y ++ [v] else ctAdd kt ct v pre k') = ctAdd kt ct v (pre ++ [y]) := by
 funext k
 unfold ctAdd
 rw [List.filter_append, List.map_append]
 by_cases e : k = y
 ·subst e; simp [h]
 ·have e' : ¬ y = k := fun z => e z.symm
  simp [e, e']
theorem ctAdd_out {kt : List Str} {ct : Str → List V} {v : V} {pre : List Str} {y : Str} (h : y ∉ kt) : ctAdd kt ct v pre = ctAdd kt ct v (pre ++ [y]) := by
 funext k
 unfold ctAdd
 rw [List.filter_append, List.map_append]
 simp [h]
theorem cnAdd_out {kt : List Str} {cn : Str → List V} {v : V} {pre : List Str} {y : Str} (h : y ∉ kt) : (fun k' => if k' = y then cnAdd kt cn v pre y ++ [v] else cnAdd kt cn v pre k') = cnAdd kt cn v (pre ++ [y]) := by
 funext k
 unfold cnAdd
 rw [List.filter_append, List.map_append]
 by_cases e : k = y
 ·subst e; simp [h]
 ·have e' : ¬ y = k := fun z => e z.symm
  simp [e, e']
theorem cnAdd_in {kt : List Str} {cn : Str → List V} {v : V} {pre : List Str} {y : Str} (h : y ∈ kt) : cnAdd kt cn v pre = cnAdd kt cn v (pre ++ [y]) := by
 funext k
 unfold cnAdd
 rw [List.filter_append, List.map_append]
 simp [h]
theorem cnAdd_new {kt kn : List Str} {cn : Str → List V} {v : V} {pre : List Str} {y : Str} (h0 : ∀ k, k ∉ kn → cn k = []) (hy : y ∉ kt) (h : y ∉ knAdd kt kn pre) : cnAdd kt cn v pre y = [] := by
 unfold cnAdd
 have h1 : y ∉ kn := fun hm => h (knAdd_mem hm)
 have h2 : y ∉ pre := by
  intro hm
  apply h
  clear h h0
  unfold knAdd
  induction pre generalizing kn with
  | nil => k_call_by "c" hm
  | cons z r ih =>
   rw [List.foldl_cons]
   rcases List.mem_cons.mp hm with rfl | hm
   ·refine knAdd_mem ?_
    unfold knStep; split
    ·rename_i h; exact h.resolve_left hy
    ·simp
   ·by_cases hz : y ∈ knStep kt kn z
    ·exact knAdd_mem hz
    ·exact ih (kn := knStep kt kn z) hz hm
 rw [h0 y h1]
 simp only [List.nil_append, List.map_eq_nil_iff, List.filter_eq_nil_iff]
 intro z hz
 have : ¬ z = y := by rintro rfl; exact h2 hz
 simp [this]
theorem sp_add_c6 {n : Nat} {m : Mine g} {F : Addr → Option O} {gr : Addr} {ad : Lb → Addr} {S : GS} {nm mp : Str} {sy : List Str} {pv fv fi lv : V} (hG : Gm st.μ F gr ad S) (hsy : S.sy = some (sy.map .str)) (hvl : S.vs.length ≤ 100) (hpl : S.pm.length ≤ 100) (hkl : S.kb.length ≤ 100) (hcl : ∀ k ∈ S.kb, (S.cb k).length ≤ 100)
  (hknl : S.kn.length ≤ 100) (hcn0 : ∀ k, k ∉ S.kn → S.cn k = []) (hctl : ∀ k, (S.ct k).length ≤ 100) (hcnl : ∀ k, (S.cn k).length ≤ 100)
  (hsl : sy.length ≤ 4) (hok : ∀ y ∈ sy, PyData.strOk y = true) (hyl : ∀ y ∈ sy, y.length ≤ 1000)
  (v1 : st.σ "self" = some (.ref gr)) (v2 : st.σ "prodname" = some (.str nm)) (v3 : st.σ "syms" = some (.ref (ad .sy))) (v4 : st.σ "prodprec" = some pv) (v5 : st.σ "func" = some fv) (v6 : st.σ "file" = some fi) (v7 : st.σ "line" = some lv) (v9 : st.σ "map" = some (.str mp))
  (h : ∀ st' F' v ad' kb' cb', Le F F' → ProdAt F' v ⟨S.vs.length, nm, sy⟩ pv fi lv → (nm ∈ S.kb → kb' = S.kb ∧ cb' = fun k => if k = nm then S.cb nm ++ [v] else S.cb k) → (nm ∉ S.kb → kb' = S.kb ++ [nm] ∧ cb' = fun k => if k = nm then [v] else S.cb k) →
   Gm st'.μ F' gr ad' { S with vs := S.vs ++ [v], pm := dput S.pm mp v, kb := kb', cb := cb', ct := ctAdd S.kt S.ct (.int S.vs.length) sy, kn := knAdd S.kt (if nm ∈ S.kn then S.kn else S.kn ++ [nm]) sy, cn := cnAdd S.kt S.cn (.int S.vs.length) sy } → Q .next st') : (r_add_production_c6 (n := n) m).1 Q X st := by
 unfold r_add_production_c6; dsimp only
 obtain ⟨A1, A2, A3, A4, A5, A6, A7, A8, A9⟩ := hG.at_
 obtain ⟨i0, e0, i1, i2, e1, i3, e2, i4, e3, i5, e4, i6, e5, i7, i8⟩ := hG.all
 walk_at "w"
 rw [dget_tab_some]
 have b0 : SameBut ["pnumber"] st.σ (st.set "pnumber" (.int S.vs.length)).σ := SameBut.refl.set (by walk_at "nm")
 refine wk_join (fun st1 => SameBut ["pnumber"] st.σ st1.σ ∧ st1.σ "pnumber" = some (.int S.vs.length) ∧ ∃ ad1, ad1 .sy = ad .sy ∧ Gm st1.μ F gr ad1 { S with kn := if nm ∈ S.kn then S.kn else S.kn ++ [nm] }) ?_ (fun hb Q' hQ' => ?_) (fun hb Q' hQ' => ?_)
 rotate_left
 ·have hk : nm ∉ S.kn := by simpa using hb
  walk_at "w"
  refine wk_list (by simp) fun a ha => ?_
  walk_at "w"
  refine wk_itemD (by walk_at "mu") (by rw [tabOf_len]; omega) fun ep2 => ?_
  walk_at "w"
  refine hQ' _ ⟨b0, by walk_at "sg", fun l => if l = .N nm then a else ad l, ?_, ?_⟩
  rotate_left
  ·have := hG.newN (xs := []) (ep := ep2) hk ha
   rw [if_neg hk]
   have e : (fun k' => if k' = nm then [] else S.cn k') = S.cn := by
    funext k'; split
    ·subst_vars; exact (hcn0 _ hk).symm
    ·rfl
   rw [e] at this
   exact this
  ·simp
 ·have hk : nm ∈ S.kn := by simpa using hb
  walk_at "w"
  refine hQ' _ ⟨b0, by walk_at "sg", ad, rfl, ?_⟩
  rw [if_pos hk]; exact hG
 have hkn1 : (if nm ∈ S.kn then S.kn else S.kn ++ [nm]).length ≤ 101 := by
  split
  ·omega
  ·simp; omega
 have hcn1 : ∀ k, k ∉ (if nm ∈ S.kn then S.kn else S.kn ++ [nm]) → S.cn k = [] := fun k hk => hcn0 k fun hm => hk (by
  split
  ·exact hm
  ·exact List.mem_append.mpr (.inl hm))
 generalize (if nm ∈ S.kn then S.kn else S.kn ++ [nm]) = kn1 at h hkn1 hcn1
 intro st1 q0q
 refine exG0_3 q0q fun b1 p1 r1 => ?_
 refine exG1_2 r1 fun ad1 hadsy hG1 => ?_
 rw [← hadsy] at v3
 obtain ⟨i0, e0, i1, i2, e1, i3, e2, i4, e3, i5, e4, i6, e5, i7, i8⟩ := hG1.all
 have i9 := hG1.sy hsy
 walk_at "w"
 refine loop_gen (its_list (by walk_at "mu")) (LR.strs sy).ones (fun pre st' => SameBut ["pnumber", "t"] st.σ st'.σ ∧ st'.σ "pnumber" = some (.int S.vs.length) ∧ ∃ ad2, ad2 .sy = ad1 .sy ∧ Gm st'.μ F gr ad2 { S with ct := ctAdd S.kt S.ct (.int S.vs.length) pre, kn := knAdd S.kt kn1 pre, cn := cnAdd S.kt S.cn (.int S.vs.length) pre }) ?_ ?_ ?_ ?_
 ·refine ⟨b1.sub (by simp), p1, ad1, rfl, ?_⟩
  have e1 : ctAdd S.kt S.ct (.int S.vs.length) [] = S.ct := by funext k; simp [ctAdd]
  have e2 : cnAdd S.kt S.cn (.int S.vs.length) [] = S.cn := by funext k; simp [cnAdd]
  rw [e1, e2]; exact hG1
 ·intro i st' hi q0q
  refine exG0_3 q0q fun _ _ r2 => ?_
  refine exG1_2 r2 fun ad2 hs2 hG2 => ?_
  refine cur_list ?_
  rw [← hs2]; exact hG2.sy hsy
 ·intro pre y post l st2 K hps q0q q1q hK
  refine exG1_2 q0q fun v r3 r4 => ?_
  obtain rfl := r3
  obtain rfl := r4
  refine exG0_3 q1q fun b2 p2 r5 => ?_
  refine exG1_2 r5 fun ad2 hs2 hG2 => ?_
  have hpl4 : pre.length ≤ 4 := preLe hps (by first | omega | (simp; done) | (simp; omega))
  have hctl2 : (ctAdd S.kt S.ct (.int S.vs.length) pre y).length ≤ 1000 := by
   unfold ctAdd
   have := hctl y
   have h2 : (pre.filter fun t => decide (t = y) && decide (t ∈ S.kt)).length ≤ pre.length := List.length_filter_le ..
   rw [List.length_append, List.length_map]; omega
  have hcnl2 : (cnAdd S.kt S.cn (.int S.vs.length) pre y).length ≤ 1000 := by
   unfold cnAdd
   have := hcnl y
   have h2 : (pre.filter fun t => decide (t = y) && !decide (t ∈ S.kt)).length ≤ pre.length := List.length_filter_le ..
   rw [List.length_append, List.length_map]; omega
  have hknl2 := knAdd_len S.kt pre kn1
  obtain ⟨A1, A2, A3, A4, A5, A6, A7, A8, A9⟩ := hG2.at_
  obtain ⟨i0, e0, i1, i2, e1, i3, e2, i4, e3, i5, e4, i6, e5, i7, i8⟩ := hG2.all
  dsimp only at i5 i6 A1 A4 A5
  have b3 : SameBut ["pnumber", "t"] st.σ (st2.set "t" (.str y)).σ := SameBut.set (by walk_at "nm") b2
  walk_at "w"
  rw [dget_tab_some]
  refine wk_split (fun hb => ?_) (fun hb => ?_)
  ·have hyt : y ∈ S.kt := by simpa using hb
   have i10 := hG2.T (k := y) hyt
   dsimp only at i10
   walk_at "w"
   refine wk_idxD (u := .ref (ad2 (.T y))) (by walk_at "mu") (by rw [dget_tab, if_pos hyt]) ?_
   walk_at "w"
   refine hK _ ⟨b3, by walk_at "sg", ad2, hs2, ?_⟩
   have := hG2.appT (k := y) (v := .int S.vs.length) hyt
   dsimp only at this
   rw [ctAdd_in hyt] at this
   rw [knAdd_app, ← cnAdd_in hyt, knStep, if_pos (.inl hyt)]
   exact this
  ·have hyt : y ∉ S.kt := by simpa using hb
   walk_at "w"
   rw [dget_tab_some]
   refine wk_join (fun st3 => SameBut ["pnumber", "t"] st.σ st3.σ ∧ st3.σ "pnumber" = some (.int S.vs.length) ∧ st3.σ "t" = some (.str y) ∧ ∃ ad3, ad3 .sy = ad1 .sy ∧ Gm st3.μ F gr ad3 { S with ct := ctAdd S.kt S.ct (.int S.vs.length) pre, kn := knAdd S.kt kn1 (pre ++ [y]), cn := cnAdd S.kt S.cn (.int S.vs.length) pre }) ?_ (fun hb Q' hQ' => ?_) (fun hb Q' hQ' => ?_)
   rotate_left
   ·have hk : y ∉ knAdd S.kt kn1 pre := by simpa using hb
    walk_at "w"
    refine wk_list (by simp) fun a ha => ?_
    walk_at "w"
    refine wk_itemD (by walk_at "mu") (by rw [tabOf_len]; omega) fun ep2 => ?_
    walk_at "w"
    refine hQ' _ ⟨b3, by walk_at "sg", by walk_at "sg", fun l => if l = .N y then a else ad2 l, ?_, ?_⟩
    rotate_left
    ·have := hG2.newN (k := y) (xs := []) (ep := ep2) hk ha
     dsimp only at this
     have e : (fun k' => if k' = y then [] else cnAdd S.kt S.cn (.int S.vs.length) pre k') = cnAdd S.kt S.cn (.int S.vs.length) pre := by
      funext k'; split
      ·subst_vars; exact (cnAdd_new hcn1 hyt hk).symm
      ·rfl
     rw [e] at this
     rw [knAdd_app, knStep, if_neg (by simp [hyt, hk])]
     exact this
    ·simpa using hs2
   ·have hk : y ∈ knAdd S.kt kn1 pre := by simpa using hb
    walk_at "w"
    refine hQ' _ ⟨b3, by walk_at "sg", by walk_at "sg", ad2, hs2, ?_⟩
    rw [knAdd_app, knStep, if_pos (.inr hk)]; exact hG2
   intro st3 q0q
   refine exG0_4 q0q fun b4 p4 t4 r6 => ?_
   refine exG1_2 r6 fun ad3 hs3 hG3 => ?_
   have hk : y ∈ knAdd S.kt kn1 (pre ++ [y]) := by
    rw [knAdd_app, knStep]; split
    ·rename_i h; exact h.resolve_left hyt
    ·simp
   obtain ⟨A1, A2, A3, A4, A5, A6, A7, A8, A9⟩ := hG3.at_
   obtain ⟨i0, e0, i1, i2, e1, i3, e2, i4, e3, i5, e4, i6, e5, i7, i8⟩ := hG3.all
   have i10 := hG3.N (k := y) hk
   dsimp only at i6 A1 A4 A5 i10
   walk_at "w"
   refine wk_idxD (u := .ref (ad3 (.N y))) (by walk_at "mu") (by rw [dget_tab, if_pos hk]) ?_
   walk_at "w"
   refine hK _ ⟨b4, by walk_at "sg", ad3, hs3, ?_⟩
   have := hG3.appN (k := y) (v := .int S.vs.length) hk
   dsimp only at this
   rw [cnAdd_out hyt] at this
   rw [← ctAdd_out hyt]
   exact this
 ·intro st2 q0q
  refine exG0_3 q0q fun b2 p2 r7 => ?_
  refine exG1_2 r7 fun ad2 hs2 hG2 => ?_
  walk_at "w"
  rw [← hs2] at v3
  refine sp_add_c9 (num := S.vs.length) (nm := nm) (mp := mp) (sy := sy) (pv := pv) (fv := fv) (fi := fi) (lv := lv) hG2 hsy hvl hpl hkl hcl hsl hok hyl (by walk_at "sg") (by walk_at "sg") (by walk_at "sg") (by walk_at "sg") (by walk_at "sg") (by walk_at "sg") (by walk_at "sg") p2 (by walk_at "sg") ?_
  intro st' F' v ad' kb' cb' q1 q2 q3 q4 q5
  exact h st' F' v ad' kb' cb' q1 q2 q3 q4 q5
end Kk
end
section
set_option maxHeartbeats 1000000
namespace Kk
variable {α β γ δ : Type}
section
variable {X : Ex → St → Prop} {st : St}
theorem wk_str {y : Str} {Q : Unit → St → Prop} (h1 : y.length ≤ 1000) (h : Q () st) : strM (.str y) Q X st := ⟨h1, h⟩
theorem wk_arrow {y : Str} {l : Addr} {ys : List Str} {Q : V → St → Prop} (h1 : st.μ l = some (.list (ys.map .str))) (h2 : y.length ≤ 1000) (h3 : (PyData.list (ys.map .str)).shown.length ≤ 1000) (h : Q (.str (arrowText y ys)) st) : arrowM (.str y) (.ref l) Q X st := by
 unfold arrowM; simp only [h1]; exact ⟨ys, rfl, h2, h3, h⟩
theorem seqIndex_neg {i n : Nat} (h0 : 0 < i) (h : i ≤ n) : seqIndex? (-(i : Int)) n = some (n - i) := by
 unfold seqIndex?
 have h1 : (-(i : Int)) < 0 := by omega
 simp only [h1, if_true]
 have h2 : -(i : Int) + n = ((n - i : Nat) : Int) := by omega
 rw [h2]
 have h3 : n - i < n := by omega
 simp [h3]
theorem wk_del {a : Addr} {xs : List V} {Q : Unit → St → Prop} (h1 : st.μ a = some (.list xs)) (h2 : 2 ≤ xs.length) (h3 : xs.length ≤ 1000) (h : Q () (st.put a (.list (xs.take (xs.length - 2))))) : delLastM (.ref a) Q X st := .mk h1 h2 h3 h
theorem wk_idxS {x : Str} {k : Int} {c : Nat} {Q : V → St → Prop} (h1 : (decide (-1000 ≤ k) && decide (k ≤ 1000)) = true) (h2 : (seqIndex? k x.length).bind (x.cps[·]?) = some c) (h : Q (.str ⟨#[c]⟩) st) : idxM (.str x) (.int k) Q X st := .str h1 h2 h
theorem wk_inS {x y : Str} {Q : Bool → St → Prop} (h : Q (strIn x y) st) : cmpM .In (.str x) (.str y) Q X st := .in_ (.str h)
theorem wk_sliceS {x : Str} {lo hi : Option Int} {Q : V → St → Prop} (h1 : x.length ≤ 1000) (h : Q (.str (Txt.slice x lo hi)) st) : sliceM (.str x) lo hi Q X st := .str h1 h
theorem wk_lenS {x : Str} {Q : V → St → Prop} (h2 : x.length ≤ 100000) (h : Q (.int x.length) st) : lenM [.str x] Q X st := .str h2 h
theorem wk_neI {x y : Int} {Q : Bool → St → Prop} (h : Q (!(x == y)) st) : cmpM .NotEq (.int x) (.int y) Q X st := .ne (.int h)
theorem wk_truthI {i : Int} {Q : Bool → St → Prop} (h : Q (i != 0) st) : truthM (.int i) Q X st := .int h
end
variable {g : Gx} {X : Ex → St → Prop} {st : St}
inductive Shown (F : Addr → Option O) (v : V) : Prop
 | mk (num : Int) (nm : Str) (sy : List Str) (tp : Addr) (side fi : Str) (k ln : Int) : ProdAt F v ⟨num, nm, sy⟩ (.ref tp) (.str fi) (.int ln) → F tp = some (.tup [.str side, .int k]) → nm.length ≤ 1000 → sy.length ≤ 10 → (sy.map (·.length)).sum + sy.length * 1 ≤ 1000 → side.length ≤ 1000 →
  0 ≤ k → k ≤ 1000 → fi.length ≤ 1000 → 0 ≤ ln → ln ≤ 1000 → Shown F v
theorem Shown.le {F F' : Addr → Option O} {v : V} (h : Shown F v) (k : Le F F') : Shown F' v := by
 obtain ⟨num, nm, sy, tp, side, fi, kk, ln, h1, h2, h3⟩ := h
 exact ⟨num, nm, sy, tp, side, fi, kk, ln, h1.le k, k _ _ h2, by assumption, by assumption, by assumption, by assumption, by assumption, by assumption, by assumption, by assumption, by assumption⟩
theorem sp_str_P {Q : V → St → Prop} {n : Nat} {m : Mine g} {v : V} (hv : Shown st.μ v) (h : ∀ y : Str, y.length ≤ 10000 → Q (.str y) st) :
  fnM ["self"] (([] : List (Str × Value)).map fun p => (p.1, er p.2)) 1 (r_str_P (n := n) m).1 [v] Q X st := by
 obtain ⟨num, nm, sy, tp, side, fi, kk, ln, ⟨a, d, es, ep, t, rfl, q2, q3, q4, q5, q6, q7, q8, q9, q10⟩, htp, hnl, hyl, hjl, hsl, hk0, hk1, hfl, hl0, hl1⟩ := hv
 refine wk_en1 (a1 := "self") (v1 := (V.ref a : V)) rfl (by kernel_rfl) fun σ s_self => ?_
 unfold r_str_P; dsimp only
 have hul : (sy.map V.str).length ≤ 100000 := by simp; omega
 walk_at "w"
 refine wk_join (fun st1 => st1.σ "self" = some (.ref a) ∧ (∃ x : Str, x.length ≤ 3000 ∧ st1.σ "s" = some (.str x)) ∧ st1.μ = st.μ) ?_ (fun hb Q' hQ' => ?_) (fun hb Q' hQ' => ?_)
 ·intro q0q q1q
  obtain ⟨σ1, μ1⟩ := q0q
  refine exG0_3 q1q fun v1 r1 e => ?_
  obtain ⟨x, hx, v2⟩ := r1
  dsimp only at v1 v2 e
  subst e
  walk_at "w"
  refine wk_idxT (xs := [.str side, .int kk]) (j := 1) (u := .int kk) (by walk_at "mu") (by simp) (by simp [seqIndex?]) rfl ?_
  walk_at "w"
  refine wk_truthI ?_
  refine wk_split (fun hb => ?_) (fun hb => ?_)
  ·walk_at "w"
   refine wk_precT (by walk_at "mu") hsl hk0 hk1 fun z hz => ?_
   walk_at "w"
   refine wk_cat (by omega) (by omega) ?_
   walk_at "w"
   exact h _ (by rw [cat_len]; omega)
  ·walk_at "w"
   exact h _ (by omega)
 ·walk_at "say"
  refine wk_joinT (ys := sy) (by walk_at "mu") (by rw [show ((" " : Str)).length = 1 from by decide +kernel]; exact hjl) fun z hz => ?_
  walk_at "say"
  rename_i y hy
  exact hQ' _ ⟨by walk_at "sg", ⟨y, by omega, by walk_at "sg"⟩, rfl⟩
 ·walk_at "say"
  rename_i y hy
  exact hQ' _ ⟨by walk_at "sg", ⟨y, by omega, by walk_at "sg"⟩, rfl⟩
end Kk
end
section
set_option maxHeartbeats 1000000
namespace Kk
variable {α β γ δ : Type}
variable {g : Gx} {X : Ex → St → Prop} {st : St} {Q : Fl → St → Prop}
structure Small (S : GS) : Prop where
 vs : S.vs.length ≤ 100
 pm : S.pm.length ≤ 100
 kb : S.kb.length ≤ 100
 cb : ∀ k ∈ S.kb, (S.cb k).length ≤ 100
 kn : S.kn.length ≤ 100
 cn0 : ∀ k, k ∉ S.kn → S.cn k = []
 ct : ∀ k, (S.ct k).length ≤ 100
 cn : ∀ k, (S.cn k).length ≤ 100
 kt : S.kt.length ≤ 100
 ct0 : ∀ k, k ∉ S.kt → S.ct k = []
 us : S.us.length ≤ 100
structure Took (S S' : GS) (nm : Str) (sy : List Str) (v : V) : Prop where
 vs : S'.vs = S.vs ++ [v]
 pm : S'.pm = dput S.pm (arrowText nm sy) v
 kb : S'.kb = if nm ∈ S.kb then S.kb else S.kb ++ [nm]
 cb : S'.cb = fun k => if k = nm then (if nm ∈ S.kb then S.cb nm else []) ++ [v] else S.cb k
 kt : S'.kt = S.kt
 ct : S'.ct = ctAdd S.kt S.ct (.int S.vs.length) sy
 kn : S'.kn = knAdd S.kt (if nm ∈ S.kn then S.kn else S.kn ++ [nm]) sy
 cn : S'.cn = cnAdd S.kt S.cn (.int S.vs.length) sy
 us : S'.us = S.us
 pr : S'.pr = S.pr
 es : S'.es = S.es
 tk : S'.tk = S.tk
noncomputable def PrD (F : Addr → Option O) (pr : List (Str × V)) (pd : Str → Option (Str × Int)) : Prop := ∀ k, (pd k = none → dget pr k = none) ∧ (∀ l, pd k = some l → ∃ tp, dget pr k = some (.ref tp) ∧ F tp = some (.tup [.str l.1, .int l.2]))
theorem PrD.le {F F' : Addr → Option O} {pr : List (Str × V)} {pd : Str → Option (Str × Int)} (h : PrD F pr pd) (k : Le F F') : PrD F' pr pd := fun x => ⟨(h x).1, fun l e => by obtain ⟨tp, h1, h2⟩ := (h x).2 l e; exact ⟨tp, h1, k _ _ h2⟩⟩
noncomputable def alpha : List Str := ["A", "B", "C", "+", "-", "s", "t", "u"]
noncomputable abbrev PRC : Str := "%prec"
structure Shape (q : List Str) : Prop where
 len : q.length ≤ 6
 a : ∀ sy z, q = sy ++ [PRC, z] → ∀ y ∈ sy, y ∈ alpha
 b : PRC ∉ q → q.length ≤ 4 ∧ ∀ y ∈ q, y ∈ alpha
 ok : ∀ y ∈ q, PyData.strOk y = true
 rp : ∀ y ∈ q, (reprText y).length ≤ 1000
noncomputable def lvlOf (pd : Str → Option (Str × Int)) (kt q : List Str) : Str × Int := match rmost kt q with | .str s => (pd s).getD ("right", 0) | _ => ("right", 0)
inductive Takes (pd : Str → Option (Str × Int)) (kt q sy : List Str) (l : Str × Int) : Prop
 | prec (z : Str) : q = sy ++ [PRC, z] → pd z = some l → Takes pd kt q sy l
 | plain : PRC ∉ q → sy = q → l = lvlOf pd kt q → Takes pd kt q sy l
inductive Refd (pd : Str → Option (Str × Int)) (pm : List (Str × V)) (kt : List Str) (nm : Str) (q : List Str) : Prop
 | last (q' : List Str) : q = q' ++ [PRC] → Refd pd pm kt nm q
 | place (q' : List Str) (y z : Str) : q = q' ++ [y, z] → PRC ∈ q → y ≠ PRC → z ≠ PRC → Refd pd pm kt nm q
 | unk (q' : List Str) (z : Str) : q = q' ++ [PRC, z] → pd z = none → z ≠ PRC → Refd pd pm kt nm q
 | dup (sy : List Str) (l : Str × Int) : Takes pd kt q sy l → dget pm (arrowText nm sy) ≠ none → Refd pd pm kt nm q
structure Left (S S' : GS) : Prop where
 vs : S'.vs = S.vs
 pm : S'.pm = S.pm
 kb : S'.kb = S.kb
 cb : S'.cb = S.cb
 kn : S'.kn = S.kn
 cn : S'.cn = S.cn
 ct : S'.ct = S.ct
 pr : S'.pr = S.pr
 es : S'.es = S.es
 tk : S'.tk = S.tk
 us : S'.us.length ≤ S.us.length + 1
theorem Left.same {S : GS} {sy : Option (List V)} : Left S { S with sy := sy } := ⟨rfl, rfl, rfl, rfl, rfl, rfl, rfl, rfl, rfl, rfl, Nat.le_succ _⟩
structure Comes (F : Addr → Option O) (S : GS) (nm fi : Str) (ln : Int) : Prop where
 pm : ∀ k v, dget S.pm k = some v → Shown F v
 nl : nm.length ≤ 1000
 nr : (reprText nm).length ≤ 1000
 fl : fi.length ≤ 1000
 l0 : 0 ≤ ln
 l1 : ln ≤ 1000
theorem alpha_len : ∀ y ∈ alpha, y.length ≤ 1000 := by decide +kernel
theorem alpha_ok : ∀ y ∈ alpha, PyData.strOk y = true := by decide +kernel
theorem sp_add_c4 {n : Nat} {m : Mine g} {F : Addr → Option O} {gr : Addr} {ad : Lb → Addr} {S : GS} {nm fi : Str} {ln : Int} {sy : List Str} {pv fv : V} (hG : Gm st.μ F gr ad S) (hsy : S.sy = some (sy.map .str)) (hS : Small S)
  (hsl : sy.length ≤ 4) (hal : ∀ y ∈ sy, y ∈ alpha) (hsh : (PyData.list (sy.map .str)).shown.length ≤ 1000) (hc : Comes F S nm fi ln)
  (v1 : st.σ "self" = some (.ref gr)) (v2 : st.σ "prodname" = some (.str nm)) (v3 : st.σ "syms" = some (.ref (ad .sy))) (v4 : st.σ "prodprec" = some pv) (v5 : st.σ "func" = some fv) (v6 : st.σ "file" = some (.str fi)) (v7 : st.σ "line" = some (.int ln))
  (hx : dget S.pm (arrowText nm sy) ≠ none → ∀ st', st'.μ = st.μ → X .gram st')
  (h : dget S.pm (arrowText nm sy) = none → ∀ st' F' v ad' S', Le F F' → ProdAt F' v ⟨S.vs.length, nm, sy⟩ pv (.str fi) (.int ln) → Took S S' nm sy v → Gm st'.μ F' gr ad' S' → Q .next st') : (r_add_production_c4 (n := n) m).1 Q X st := by
 unfold r_add_production_c4; dsimp only
 obtain ⟨A1, A2, A3, A4, A5, A6, A7, A8, A9⟩ := hG.at_
 obtain ⟨i0, e0, i1, i2, e1, i3, e2, i4, e3, i5, e4, i6, e5, i7, i8⟩ := hG.all
 have i9 := hG.sy hsy
 obtain ⟨hpm, hnl, hnr, hfl, hl0, hl1⟩ := hc
 walk_at "w"
 refine wk_str hnl ?_
 walk_at "w"
 refine wk_arrow (ys := sy) (by walk_at "mu") hnl hsh ?_
 walk_at "w"
 cases hd : dget S.pm (arrowText nm sy) with
 | some v =>
  refine wk_pos rfl ?_
  walk_at "w"
  refine wk_idxD (u := v) (by walk_at "mu") hd ?_
  have hsv := hpm _ v hd
  obtain ⟨num, nm', sy', tp, side, fi', kk, ln', hP, htp, h1, h2, h3, h4, h5, h6, h7, h8, h9⟩ := id hsv
  obtain ⟨a, d, es, ep, t, rfl, q2, q3, q4, q5, q6, q7, q8, q9, q10⟩ := hP.le hG.mem.le
  walk_at "say"
  refine wk_ownS (by walk_at "mu") (by walk_at "mu") ?_
  refine sp_str_P (hsv.le hG.mem.le) fun y hy => ⟨y, rfl, hy, ?_⟩
  walk_at "say"
  exact hx (by rw [hd]; nofun) _ rfl
 | none =>
  refine wk_neg rfl ?_
  walk_at "w"
  refine sp_add_c6 (st := st.set "map" (.str (arrowText nm sy))) (nm := nm) (mp := arrowText nm sy) (sy := sy) (pv := pv) (fv := fv) (fi := .str fi) (lv := .int ln) hG hsy hS.vs hS.pm hS.kb hS.cb hS.kn hS.cn0 hS.ct hS.cn hsl (fun y hy => alpha_ok y (hal y hy)) (fun y hy => alpha_len y (hal y hy)) (by walk_at "sg") (by walk_at "sg") (by walk_at "sg") (by walk_at "sg") (by walk_at "sg") (by walk_at "sg") (by walk_at "sg") (by walk_at "sg") ?_
  intro st' F' v ad' kb' cb' q1 q2 q3 q4 q5
  have e1 : kb' = if nm ∈ S.kb then S.kb else S.kb ++ [nm] := by
   by_cases hk : nm ∈ S.kb
   ·rw [if_pos hk]; exact (q3 hk).1
   ·rw [if_neg hk]; exact (q4 hk).1
  have e2 : cb' = fun k => if k = nm then (if nm ∈ S.kb then S.cb nm else []) ++ [v] else S.cb k := by
   by_cases hk : nm ∈ S.kb
   ·simp only [if_pos hk]; exact (q3 hk).2
   ·simp only [if_neg hk]; exact (q4 hk).2
  exact h hd st' F' v ad' { S with vs := S.vs ++ [v], pm := dput S.pm (arrowText nm sy) v, kb := kb', cb := cb', ct := ctAdd S.kt S.ct (.int S.vs.length) sy, kn := knAdd S.kt (if nm ∈ S.kn then S.kn else S.kn ++ [nm]) sy, cn := cnAdd S.kt S.cn (.int S.vs.length) sy } q1 q2 ⟨rfl, rfl, e1, e2, rfl, rfl, rfl, rfl, rfl, rfl, rfl, rfl⟩ q5
theorem sp_add_c3 {n : Nat} {m : Mine g} {F : Addr → Option O} {gr : Addr} {ad : Lb → Addr} {S : GS} {nm fi : Str} {ln : Int} {q : List Str} {pd : Str → Option (Str × Int)} {fv : V} (hG : Gm st.μ F gr ad S) (hsy : S.sy = some (q.map .str)) (hS : Small S) (hus : S.us.length ≤ 50)
  (hpd : PrD F S.pr pd) (hq : Shape q) (hc : Comes F S nm fi ln) (hsh : ∀ sy : List Str, sy.length ≤ 4 → (∀ y ∈ sy, y ∈ alpha) → (PyData.list (sy.map .str)).shown.length ≤ 1000)
  (v1 : st.σ "self" = some (.ref gr)) (v2 : st.σ "prodname" = some (.str nm)) (v3 : st.σ "syms" = some (.ref (ad .sy))) (v5 : st.σ "func" = some fv) (v6 : st.σ "file" = some (.str fi)) (v7 : st.σ "line" = some (.int ln))
  (hx : Refd pd S.pm S.kt nm q → ∀ st' F' S' ad', Le F F' → Gm st'.μ F' gr ad' S' → Left S S' → S'.kt = S.kt → X .gram st')
  (h : ∀ st' F' v ad' S' sy l us' tp, Le F F' → Takes pd S.kt q sy l → dget S.pm (arrowText nm sy) = none → F' tp = some (.tup [.str l.1, .int l.2]) → ProdAt F' v ⟨S.vs.length, nm, sy⟩ (.ref tp) (.str fi) (.int ln) → us'.length ≤ S.us.length + 1 → Took { S with us := us' } S' nm sy v → Gm st'.μ F' gr ad' S' → Q .next st') : (r_add_production_c3 (n := n) m).1 Q X st := by
 unfold r_add_production_c3; dsimp only
 obtain ⟨A1, A2, A3, A4, A5, A6, A7, A8, A9⟩ := hG.at_
 obtain ⟨i0, e0, i1, i2, e1, i3, e2, i4, e3, i5, e4, i6, e5, i7, i8⟩ := hG.all
 have i9 := hG.sy hsy
 obtain ⟨hpm, hnl, hnr, hfl, hl0, hl1⟩ := id hc
 walk_at "w"
 refine wk_inL (ys := q) (by walk_at "mu") hq.ok (by decide +kernel) ?_
 have hql := hq.len
 by_cases hp : PRC ∈ q
 ·refine wk_pos (by simpa using hp) ?_
  have hne : q ≠ [] := by rintro rfl; k_call_by "c" hp
  obtain ⟨q', z, rfl⟩ : ∃ q' z, q = q' ++ [z] := ⟨q.dropLast, q.getLast hne, (List.dropLast_concat_getLast hne).symm⟩
  have hml : ((q' ++ [z]).map V.str).length = q'.length + 1 := by simp
  have hl7 : q'.length ≤ 5 := by simp at hql; omega
  have hneg1 : seqIndex? (-1) ((q' ++ [z]).map V.str).length = some q'.length := by
   rw [hml, show (-1 : Int) = -((1 : Nat) : Int) from rfl, seqIndex_neg (by omega) (by omega)]; rfl
  have hgz : ((q' ++ [z]).map V.str)[q'.length]? = some (.str z) := by
   rw [List.getElem?_map, List.getElem?_append_right (by omega)]; simp
  walk_at "w"
  dsimp only
  refine wk_idxL (by walk_at "mu") (by omega) hneg1 hgz ?_
  walk_at "w"
  refine wk_split (fun hb => ?_) (fun hb => ?_)
  ·have hz : z = PRC := by simpa using hb
   walk_at "say"
   exact hx (.last q' (by rw [hz])) _ F S ad Le.refl hG (by exact Left.same (S := S) (sy := S.sy)) rfl
  ·have hz : z ≠ PRC := by simpa using hb
   have hp' : PRC ∈ q' := by
    rcases List.mem_append.mp hp with h | h
    ·exact h
    ·exact absurd (List.mem_singleton.mp h).symm hz
   have hne' : q' ≠ [] := by rintro rfl; cases hp'
   obtain ⟨q2, y, rfl⟩ : ∃ q2 y, q' = q2 ++ [y] := ⟨q'.dropLast, q'.getLast hne', (List.dropLast_concat_getLast hne').symm⟩
   have hml2 : (((q2 ++ [y]) ++ [z]).map V.str).length = q2.length + 2 := by simp
   have hneg2 : seqIndex? (-2) (((q2 ++ [y]) ++ [z]).map V.str).length = some q2.length := by
    rw [hml2, show (-2 : Int) = -((2 : Nat) : Int) from rfl, seqIndex_neg (by omega) (by omega)]; rfl
   have hgy : (((q2 ++ [y]) ++ [z]).map V.str)[q2.length]? = some (.str y) := by
    rw [List.getElem?_map, List.append_assoc, List.getElem?_append_right (by omega)]; simp
   have e2' : (q2 ++ [y]) ++ [z] = q2 ++ [y, z] := by simp
   walk_at "w"
   dsimp only
   refine wk_idxL (by walk_at "mu") (by omega) hneg2 hgy ?_
   walk_at "w"
   refine wk_split (fun hb => ?_) (fun hb => ?_)
   ·have hy : y ≠ PRC := by simpa using hb
    walk_at "say"
    exact hx (.place q2 y z e2' hp hy hz) _ F S ad Le.refl hG (by exact Left.same (S := S) (sy := S.sy)) rfl
   ·have hy : y = PRC := by simpa using hb
    subst hy
    walk_at "w"
    dsimp only
    refine wk_idxL (by walk_at "mu") (by omega) hneg1 hgz ?_
    walk_at "w"
    refine wk_get (by walk_at "mu") ?_
    cases hpz : pd z with
    | none =>
     rw [(hpd z).1 hpz]
     walk_at "w"
     refine wk_truthN ?_
     walk_at "w"
     refine wk_pos rfl ?_
     have hrz := hq.rp z (by simp)
     walk_at "say"
     exact hx (.unk q2 z e2' hpz hz) _ F S ad Le.refl hG (by exact Left.same (S := S) (sy := S.sy)) rfl
    | some l =>
     refine exG1_2 ((hpd z).2 l hpz) fun tp h1 h2 => ?_
     rw [h1]
     have h3 := hG.mem.le _ _ h2
     have hal := hq.a q2 z e2'
     have hl2 : q2.length ≤ 4 := by simp at hql; omega
     walk_at "w"
     refine wk_truthT (xs := [.str l.1, .int l.2]) (by walk_at "mu") (by simp) ?_
     walk_at "w"
     refine wk_neg rfl ?_
     walk_at "w"
     refine wk_add (by walk_at "mu") (by omega) ?_
     have hG1 := hG.setU (xs := if z ∈ S.us then S.us else S.us ++ [z])
     have i10 := hG1.sy hsy
     walk_at "w"
     dsimp only
     refine ⟨rfl, ?_⟩
     refine wk_del (xs := ((q2 ++ [PRC]) ++ [z]).map V.str) (by exact i10) (by omega) (by omega) ?_
     walk_at "w"
     have hG2 := hG1.setSy (ys := q2.map .str) hsy
     have ht : (((q2 ++ [PRC]) ++ [z]).map V.str).take ((((q2 ++ [PRC]) ++ [z]).map V.str).length - 2) = q2.map .str := by
      rw [hml2]; simp
     rw [ht]
     have hul : (if z ∈ S.us then S.us else S.us ++ [z]).length ≤ S.us.length + 1 := by
      split
      ·omega
      ·simp
     have hL : ∀ sy' : Option (List V), Left S { S with us := if z ∈ S.us then S.us else S.us ++ [z], sy := sy' } := fun sy' => ⟨rfl, rfl, rfl, rfl, rfl, rfl, rfl, rfl, rfl, rfl, hul⟩
     refine sp_add_c4 (nm := nm) (sy := q2) (pv := .ref tp) (fv := fv) (fi := fi) (ln := ln) (F := F) (ad := ad) (S := { S with us := if z ∈ S.us then S.us else S.us ++ [z], sy := some (q2.map .str) }) hG2 rfl ⟨hS.vs, hS.pm, hS.kb, hS.cb, hS.kn, hS.cn0, hS.ct, hS.cn, hS.kt, hS.ct0, by dsimp only; omega⟩ hl2 hal (hsh q2 hl2 hal) ⟨hpm, hnl, hnr, hfl, hl0, hl1⟩ ?_ ?_ ?_ ?_ ?_ ?_ ?_ ?_ ?_
     ·walk_at "sg"
     ·walk_at "sg"
     ·walk_at "sg"
     ·exact sig_put (sig_put sig_same)
     ·walk_at "sg"
     ·walk_at "sg"
     ·walk_at "sg"
     ·intro hd st' e
      refine hx (.dup q2 l (.prec z e2' hpz) hd) st' F { S with us := if z ∈ S.us then S.us else S.us ++ [z], sy := some (q2.map .str) } ad Le.refl ?_ (hL _) rfl
      rw [e]; exact hG2
     ·intro hd st' F' v ad' S' q1 q3 q4 q5
      exact h st' F' v ad' S' q2 l _ tp q1 (.prec z e2' hpz) hd (q1 _ _ h2) q3 hul ⟨q4.vs, q4.pm, q4.kb, q4.cb, q4.kt, q4.ct, q4.kn, q4.cn, q4.us, q4.pr, q4.es, q4.tk⟩ q5
 ·refine wk_neg (by simpa using hp) ?_
  refine exG0_2 (hq.b hp) fun hl4 hal => ?_
  walk_at "w"
  refine sp_rightmost (ys := q) (kt := S.kt) (by walk_at "mu") (by walk_at "mu") (by omega) ?_
  have key : ∀ (st1 : St) (tp tq : Addr) (l : Str × Int), st1.μ = upd st.μ tq (.tup [.str "right", .int 0]) → st.μ tq = none → upd F tq (.tup [.str "right", .int 0]) tp = some (.tup [.str l.1, .int l.2]) → l = lvlOf pd S.kt q → SameBut ["precname", "prodprec"] st.σ st1.σ → st1.σ "prodprec" = some (.ref tp) → (r_add_production_c4 (n := n) m).1 Q X st1 := by
   intro st1 tp tq l hle htq hF hl hsb hp1
   have hG1 : Gm st1.μ (upd F tq (.tup [.str "right", .int 0])) gr ad S := by rw [hle]; exact hG.alloc htq
   have hFn : F tq = none := hG.mem.le.noneOf htq
   have hLe : Le F (upd F tq (.tup [.str "right", .int 0])) := Le.refl.new hFn
   refine sp_add_c4 (nm := nm) (sy := q) (pv := .ref tp) (fv := fv) (fi := fi) (ln := ln) (S := S) hG1 hsy hS hl4 hal (hsh q hl4 hal) ⟨fun k v e => (hpm k v e).le hLe, hnl, hnr, hfl, hl0, hl1⟩ (by walk_at "sg") (by walk_at "sg") (by walk_at "sg") hp1 (by walk_at "sg") (by walk_at "sg") (by walk_at "sg") ?_ ?_
   ·intro hd st' e
    refine hx (.dup q l (.plain hp rfl hl) hd) st' _ _ ad hLe ?_ (by exact Left.same (S := S) (sy := S.sy)) rfl
    rw [e]; exact hG1
   ·intro hd st' F' v ad' S' q1 q3 q4 q5
    exact h st' F' v ad' S' q l S.us tp (hLe.trans q1) (.plain hp rfl hl) hd (q1 _ _ hF) q3 (Nat.le_succ _) ⟨q4.vs, q4.pm, q4.kb, q4.cb, q4.kt, q4.ct, q4.kn, q4.cn, q4.us, q4.pr, q4.es, q4.tk⟩ q5
  have hr : (∃ s, rmost S.kt q = .str s) ∨ rmost S.kt q = .none := by
   unfold rmost; split
   ·exact .inl ⟨_, rfl⟩
   ·exact .inr rfl
  rcases hr with ⟨s, hr⟩ | hr <;> rw [hr]
  ·walk_at "w"
   refine wk_tup (by simp) fun tq htq => ?_
   walk_at "w"
   refine wk_get2 (by walk_at "mu") ?_
   walk_at "w"
   have hsb : SameBut ["precname", "prodprec"] st.σ ((((st.set "precname" (.str s)).put tq (.tup [.str "right", .int 0])).set "prodprec" ((dget S.pr s).getD (V.ref tq)))).σ := SameBut.set (by walk_at "nm") (SameBut.put (SameBut.set (by walk_at "nm") SameBut.refl))
   cases hps : pd s with
   | none =>
    rw [(hpd s).1 hps] at hsb ⊢
    exact key _ tq tq ("right", 0) rfl htq u_same (by unfold lvlOf; rw [hr]; simp [hps]) hsb sig_same
   | some l =>
    refine exG1_2 ((hpd s).2 l hps) fun tp h1 h2 => ?_
    rw [h1] at hsb ⊢
    exact key _ tp tq l rfl htq (Le.refl.new (hG.mem.le.noneOf htq) _ _ h2) (by unfold lvlOf; rw [hr]; simp [hps]) hsb sig_same
  ·walk_at "w"
   refine wk_tup (by simp) fun tq htq => ?_
   walk_at "w"
   refine wk_get2N (by walk_at "mu") ?_
   walk_at "w"
   refine key _ tq tq ("right", 0) rfl htq u_same (by unfold lvlOf; rw [hr]) ?_ sig_same
   exact SameBut.set (by walk_at "nm") (SameBut.put (SameBut.set (by walk_at "nm") SameBut.refl))
end Kk
end
section
set_option maxHeartbeats 1000000
namespace Kk
variable {α β γ δ : Type}
noncomputable def names3 : List Str := ["s", "t", "u"]
noncomputable def ch (s : Str) : Nat := s.cps[0]!
noncomputable def enc1 : List Nat → List Nat
 | [] => []
 | c :: r => 44 :: 32 :: 39 :: c :: 39 :: enc1 r
noncomputable def enc0 : List Nat → List Nat
 | [] => []
 | c :: r => 39 :: c :: 39 :: enc1 r
theorem enc1_inj : ∀ {r r' : List Nat}, enc1 r ++ [93] = enc1 r' ++ [93] → r = r'
 | [], [], _ => rfl
 | [], c :: r', h => by simp [enc1] at h
 | c :: r, [], h => by simp [enc1] at h
 | c :: r, c' :: r', h => by
  simp only [enc1, List.cons_append, List.cons.injEq, true_and] at h
  rw [h.1, enc1_inj h.2]
theorem enc0_inj {r r' : List Nat} (h : enc0 r ++ [93] = enc0 r' ++ [93]) : r = r' := by
 induction r with
 | nil => cases r' with
  | nil => rfl
  | cons c r' => simp [enc0] at h
 | cons c r => cases r' with
  | nil => simp [enc0] at h
  | cons c' r' =>
   simp only [enc0, List.cons_append, List.cons.injEq, true_and] at h
   rw [h.1, enc1_inj h.2]
theorem enc1_len : ∀ r : List Nat, (enc1 r).length = 5 * r.length
 | [] => rfl
 | c :: r => by simp [enc1, enc1_len r]; omega
theorem alpha_repr : ∀ s ∈ alpha, (reprText s).cps.toList = [39, ch s, 39] := by
 intro s hs
 simp only [alpha, List.mem_cons, List.not_mem_nil, or_false] at hs
 rcases hs with rfl | rfl | rfl | rfl | rfl | rfl | rfl | rfl <;> kernel_rfl
theorem alpha_ch : ∀ s ∈ alpha, s = ⟨#[ch s]⟩ := by decide +kernel
theorem names_ch : ∀ s ∈ names3, s = ⟨#[ch s]⟩ := by decide +kernel
theorem cps_app (a b : Str) : (a ++ b).cps.toList = a.cps.toList ++ b.cps.toList := by
 show (a.cps ++ b.cps).toList = _
 simp
theorem from_txt : ∀ (sy : List Str) (k : Nat) (acc : Str), (∀ s ∈ sy, s ∈ alpha) → (textFrom k acc (PyData.shownAll (sy.map .str))).cps.toList = acc.cps.toList ++ (if k = 0 then enc0 (sy.map ch) else enc1 (sy.map ch))
 | [], k, acc, _ => by
  show acc.cps.toList = _
  split <;> simp [enc0, enc1]
 | s :: r, k, acc, h => by
  rw [List.map_cons, PyData.shownAll, PyData.shown, textFrom, from_txt r (k + 1) _ fun t ht => h t (.tail _ ht), cps_app, cps_app, alpha_repr s (h s (.head _)), show (if k + 1 = 0 then enc0 (r.map ch) else enc1 (r.map ch)) = enc1 (r.map ch) from if_neg (by omega)]
  by_cases hk : k = 0
  ·subst hk
   have e : ((if 0 > 0 then ", " else "" : String) : Str).cps.toList = [] := by kernel_rfl
   rw [e]; simp [enc0]
  ·have hk' : k > 0 := by omega
   have e : ((if k > 0 then ", " else "" : String) : Str).cps.toList = [44, 32] := by rw [if_pos hk']; kernel_rfl
   rw [e]; simp [hk, enc1]
theorem shown_txt {sy : List Str} (h : ∀ s ∈ sy, s ∈ alpha) : (PyData.list (sy.map .str)).shown.cps.toList = 91 :: (enc0 (sy.map ch) ++ [93]) := by
 rw [PyData.shown]
 unfold listText
 rw [cps_app, from_txt sy 0 _ h, if_pos rfl]
 have e1 : ("[" : Str).cps.toList = [91] := by kernel_rfl
 have e2 : ("]" : Str).cps.toList = [93] := by kernel_rfl
 rw [e1, e2]; simp
theorem shown_len {sy : List Str} (h : ∀ s ∈ sy, s ∈ alpha) (hl : sy.length ≤ 4) : (PyData.list (sy.map .str)).shown.length ≤ 1000 := by
 have h1 := congrArg List.length (shown_txt h)
 rw [Array.length_toList] at h1
 show (PyData.list (sy.map .str)).shown.cps.size ≤ 1000
 rw [h1]
 induction sy with
 | nil => simp [enc0]
 | cons s r =>
  simp only [List.map_cons, enc0, List.length_cons, List.length_append, enc1_len, List.length_map, List.length_nil]
  simp at hl; omega
theorem chs_inj : ∀ {sy sy' : List Str}, (∀ s ∈ sy, s ∈ alpha) → (∀ s ∈ sy', s ∈ alpha) → sy.map ch = sy'.map ch → sy = sy'
 | [], [], _, _, _ => rfl
 | [], _ :: _, _, _, h => by k_call_by "c" h
 | _ :: _, [], _, _, h => by k_call_by "c" h
 | s :: r, s' :: r', h1, h2, h => by
  simp only [List.map_cons, List.cons.injEq] at h
  rw [alpha_ch s (h1 s (.head _)), alpha_ch s' (h2 s' (.head _)), h.1, chs_inj (fun t ht => h1 t (.tail _ ht)) (fun t ht => h2 t (.tail _ ht)) h.2]
theorem arrow_inj {n1 n2 : Str} {s1 s2 : List Str} (h1 : n1 ∈ names3) (h2 : n2 ∈ names3) (k1 : ∀ s ∈ s1, s ∈ alpha) (k2 : ∀ s ∈ s2, s ∈ alpha) (h : arrowText n1 s1 = arrowText n2 s2) : n1 = n2 ∧ s1 = s2 := by
 have e := congrArg (fun t : Str => t.cps.toList) h
 unfold arrowText at e
 rw [cps_app, cps_app, cps_app, cps_app, shown_txt k1, shown_txt k2, names_ch n1 h1, names_ch n2 h2] at e
 simp only [List.cons_append, List.nil_append, List.cons.injEq] at e
 have e3 := List.append_cancel_left e.2
 simp only [List.cons.injEq, true_and] at e3
 have e4 := enc0_inj e3
 refine ⟨?_, chs_inj k1 k2 e4⟩
 rw [names_ch n1 h1, names_ch n2 h2, e.1]
end Kk
end
section
set_option maxHeartbeats 1000000
namespace Kk
variable {α β γ δ : Type}
theorem zip_split {xs : List Str} {pre post : List (Str × Nat)} {y : Str} {j : Nat} (h : xs.zipIdx = pre ++ (y, j) :: post) : j = pre.length ∧ xs = pre.map (·.1) ++ y :: post.map (·.1) := by
 constructor
 ·have h1 := congrArg (·[pre.length]?) h
  simp only [List.getElem?_zipIdx, Nat.zero_add, List.getElem?_append_right (Nat.le_refl _), Nat.sub_self, List.getElem?_cons_zero] at h1
  refine exG1_2 (Option.map_eq_some_iff.mp h1) fun x _ e => ?_
  k_call_by "c" e; rfl
 ·have h1 := congrArg (List.map (·.1)) h
  simpa using h1
theorem set_mid {P R : List Str} {y c : Str} : ((P ++ y :: R).map V.str).set P.length (.str c) = ((P ++ [c]) ++ R).map V.str := by
 simp
variable {g : Gx} {X : Ex → St → Prop} {st : St}
noncomputable def rawAl : List Str := ["A", "B", "C", "s", "t", "u", "'+'", "\"-\"", "%prec", "Z", "Q", "'ab'", "''"]
noncomputable def litL (s : Str) : Bool := decide (s = ("'+'" : Str)) || decide (s = ("\"-\"" : Str))
noncomputable def badL (s : Str) : Bool := decide (s = ("'ab'" : Str)) || decide (s = ("''" : Str))
noncomputable def uq (s : Str) : Str := if s = ("'+'" : Str) then "+" else if s = ("\"-\"" : Str) then "-" else s
noncomputable def ktStep (kt : List Str) (s : Str) : List Str := if litL s = true then (if uq s ∈ kt then kt else kt ++ [uq s]) else kt
noncomputable def ktRun (kt raw : List Str) : List Str := raw.foldl ktStep kt
noncomputable def symB (s : Str) : Bool := match (seqIndex? 0 s.length).bind (s.cps[·]?) with
 | none => false
 | some c => if strIn ⟨#[c]⟩ "'\"" = true then decide ((seqIndex? (-1) s.length).bind (s.cps[·]?) = some c) && (if badL s = true then decide ((Txt.slice s (some 1) (some (-1))).length ≠ 1) && decide ((Txt.slice s (some 1) (some (-1))).length ≤ 1000) else
   litL s && decide (Txt.slice s (some 1) (some (-1)) = uq s) && decide ((uq s).length = 1)) else !litL s && !badL s && decide (uq s = s)
inductive SymK (s : Str) : Prop
 | lit (c : Nat) : (seqIndex? 0 s.length).bind (s.cps[·]?) = some c → strIn ⟨#[c]⟩ "'\"" = true → (seqIndex? (-1) s.length).bind (s.cps[·]?) = some c → Txt.slice s (some 1) (some (-1)) = uq s → (uq s).length = 1 → litL s = true → badL s = false → SymK s
 | bad (c : Nat) (w : Str) : (seqIndex? 0 s.length).bind (s.cps[·]?) = some c → strIn ⟨#[c]⟩ "'\"" = true → (seqIndex? (-1) s.length).bind (s.cps[·]?) = some c → Txt.slice s (some 1) (some (-1)) = w → w.length ≠ 1 → w.length ≤ 1000 → badL s = true → SymK s
 | pl (c : Nat) : (seqIndex? 0 s.length).bind (s.cps[·]?) = some c → strIn ⟨#[c]⟩ "'\"" = false → uq s = s → litL s = false → badL s = false → SymK s
theorem sym_of {s : Str} (h : symB s = true) : SymK s := by
 unfold symB at h
 split at h
 ·k_call_by "c" h
 ·rename_i c e0
  split at h
  ·rename_i hin
   simp only [Bool.and_eq_true, decide_eq_true_eq] at h
   revert h; refine fun oO => exG0_2 oO fun e1 h => ?_
   split at h
   ·rename_i hb
    simp only [Bool.and_eq_true, decide_eq_true_eq] at h
    exact .bad c _ e0 hin e1 rfl h.1 h.2 hb
   ·rename_i hb
    simp only [Bool.and_eq_true, decide_eq_true_eq] at h
    exact .lit c e0 hin e1 h.1.2 h.2 h.1.1 (by simpa using hb)
  ·rename_i hin
   simp only [Bool.and_eq_true, Bool.not_eq_true', decide_eq_true_eq] at h
   exact .pl c e0 (by simpa using hin) h.2 h.1.1 h.1.2
theorem sym_all : ∀ s ∈ rawAl, symB s = true := by decide +kernel
theorem raw_len : ∀ s ∈ rawAl, s.length ≤ 1000 := by decide +kernel
theorem uq_ok : ∀ s ∈ rawAl, PyData.strOk (uq s) = true ∧ (reprText (uq s)).length ≤ 1000 := by decide +kernel
theorem uq_al : ∀ s ∈ rawAl, litL s = true → uq s = ("+" : Str) ∨ uq s = ("-" : Str) := by decide +kernel
theorem ktRun_app (kt pre : List Str) (y : Str) : ktRun kt (pre ++ [y]) = ktStep (ktRun kt pre) y := by simp [ktRun]
structure KtOk (kt : List Str) : Prop where
 base : ∀ k ∈ (["A", "B", "C", "error"] : List Str), k ∈ kt
 sub : ∀ k ∈ kt, k ∈ (["A", "B", "C", "error", "+", "-"] : List Str)
 nd : kt.Nodup
theorem nodup_le {α : Type} [DecidableEq α] : ∀ {l m : List α}, l.Nodup → (∀ a ∈ l, a ∈ m) → l.length ≤ m.length
 | [], _, _, _ => Nat.zero_le _
 | a :: r, m, hn, h => by
  rw [List.nodup_cons] at hn
  have h1 := nodup_le (m := m.erase a) hn.2 fun b hb => (List.mem_erase_of_ne (by rintro rfl; exact hn.1 hb)).mpr (h b (.tail _ hb))
  rw [List.length_erase_of_mem (h a (.head _))] at h1
  have : 0 < m.length := List.length_pos_of_mem (h a (.head _))
  simp; omega
theorem KtOk.len {kt : List Str} (h : KtOk kt) : kt.length ≤ 6 := nodup_le h.nd h.sub
theorem KtOk.step {kt : List Str} (h : KtOk kt) {s : Str} (hs : s ∈ rawAl) : KtOk (ktStep kt s) := by
 unfold ktStep
 split
 ·rename_i hl
  split
  ·exact h
  ·rename_i hn
   refine ⟨fun k hk => List.mem_append_left _ (h.base k hk), fun k hk => ?_, ?_⟩
   ·rcases List.mem_append.mp hk with hk | hk
    ·exact h.sub k hk
    ·rw [List.mem_singleton.mp hk]
     rcases uq_al s hs hl with e | e <;> rw [e] <;> decide +kernel
   ·rw [List.nodup_append]
    exact ⟨h.nd, by simp, fun a ha b hb e => hn (by rw [← List.mem_singleton.mp hb, ← e]; exact ha)⟩
 ·exact h
theorem KtOk.run {kt : List Str} (h : KtOk kt) : ∀ {raw : List Str}, (∀ s ∈ raw, s ∈ rawAl) → KtOk (ktRun kt raw) := by
 intro raw
 induction raw generalizing kt with
 | nil => intro _; exact h
 | cons s r ih => intro hs; exact ih (h.step (hs s (.head _))) fun t ht => hs t (.tail _ ht)
theorem ktStep_mono {kt : List Str} {s k : Str} (h : k ∈ kt) : k ∈ ktStep kt s := by
 unfold ktStep
 split
 ·split
  ·exact h
  ·exact List.mem_append_left _ h
 ·exact h
theorem ktRun_mono {k : Str} : ∀ {raw kt : List Str}, k ∈ kt → k ∈ ktRun kt raw
 | [], _, h => h
 | s :: r, _, h => ktRun_mono (raw := r) (ktStep_mono h)
theorem ktRun_lit {s : Str} (hl : litL s = true) : ∀ {raw kt : List Str}, s ∈ raw → uq s ∈ ktRun kt raw
 | t :: r, kt, h => by
  rcases List.mem_cons.mp h with rfl | h
  ·refine ktRun_mono (raw := r) ?_
   unfold ktStep
   rw [if_pos hl]
   split
   ·assumption
   ·simp
  ·exact ktRun_lit hl (raw := r) h
inductive Refuse (pd : Str → Option (Str × Int)) (S : GS) (nm : Str) (raw : List Str) : Prop
 | tok : nm ∈ S.kt → Refuse pd S nm raw
 | err : nm = ("error" : Str) → Refuse pd S nm raw
 | lit (s : Str) : s ∈ raw → badL s = true → Refuse pd S nm raw
 | late : (∀ s ∈ raw, badL s = false) → Refd pd S.pm (ktRun S.kt raw) nm (raw.map uq) → Refuse pd S nm raw
theorem sp_add_production {Q : V → St → Prop} {n : Nat} {m : Mine g} {F : Addr → Option O} {gr : Addr} {ad : Lb → Addr} {S : GS} {nm fi : Str} {ln : Int} {raw : List Str} {pd : Str → Option (Str × Int)} {y : Addr} {fv : V} (hG : Gm st.μ F gr ad S) (hsy : S.sy = some (raw.map .str)) (hy : ad .sy = y) (hS : Small S) (hus : S.us.length ≤ 50) (hkt : KtOk S.kt)
  (hpd : PrD F S.pr pd) (hraw : ∀ s ∈ raw, s ∈ rawAl) (hrl : raw.length ≤ 6) (hq : (∀ s ∈ raw, badL s = false) → Shape (raw.map uq)) (hc : Comes F S nm fi ln)
  (hx : Refuse pd S nm raw → ∀ μ' F' S' ad', Le F F' → Gm μ' F' gr ad' S' → Left S S' → KtOk S'.kt → (∀ k, k ∈ S.kt → k ∈ S'.kt) → X .gram ⟨st.σ, μ'⟩)
  (h : ∀ μ' F' v ad' S' sy l us' tp, Le F F' → nm ∉ S.kt → (∀ s ∈ raw, badL s = false) → Takes pd (ktRun S.kt raw) (raw.map uq) sy l → dget S.pm (arrowText nm sy) = none → F' tp = some (.tup [.str l.1, .int l.2]) → ProdAt F' v ⟨S.vs.length, nm, sy⟩ (.ref tp) (.str fi) (.int ln) → us'.length ≤ S.us.length + 1 → Took { S with us := us', kt := ktRun S.kt raw } S' nm sy v → Gm μ' F' gr ad' S' → Q .none ⟨st.σ, μ'⟩) :
  fnM ["self", "prodname", "syms", "func", "file", "line"] (([] : List (Str × Value)).map fun p => (p.1, er p.2)) 6 (r_add_production (n := n) m).1 [.ref gr, .str nm, .ref y, fv, .str fi, .int ln] Q X st := by
 subst hy
 refine wk_en6 (a1 := "self") (v1 := (V.ref gr : V)) (a2 := "prodname") (v2 := (V.str nm : V)) (a3 := "syms") (v3 := (V.ref (ad .sy) : V)) (a4 := "func") (v4 := (fv : V)) (a5 := "file") (v5 := (V.str fi : V)) (a6 := "line") (v6 := (V.int ln : V)) rfl (by kernel_rfl) (by kernel_rfl) (by kernel_rfl) (by kernel_rfl) (by kernel_rfl) (by kernel_rfl) fun σ s_self s_prodname s_syms s_func s_file s_line => ?_
 obtain ⟨A1, A2, A3, A4, A5, A6, A7, A8, A9⟩ := hG.at_
 obtain ⟨i0, e0, i1, i2, e1, i3, e2, i4, e3, i5, e4, i6, e5, i7, i8⟩ := hG.all
 have i9 := hG.sy hsy
 obtain ⟨hpm, hnl, hnr, hfl, hl0, hl1⟩ := id hc
 have hL0 : ∀ (kt : List Str) (sy : Option (List V)), Left S { S with kt := kt, sy := sy } := fun _ _ => ⟨rfl, rfl, rfl, rfl, rfl, rfl, rfl, rfl, rfl, rfl, Nat.le_succ _⟩
 unfold r_add_production; dsimp only
 walk_at "w"
 rw [dget_tab_some]
 refine wk_split (fun hb => ?_) (fun hb => ?_)
 ·walk_at "say"
  exact hx (.tok (by simpa using hb)) _ F S ad Le.refl hG (hL0 S.kt S.sy) hkt fun _ h => h
 have hn1 : nm ∉ S.kt := by simpa using hb
 clear hb
 walk_at "w"
 refine wk_split (fun hb => ?_) (fun hb => ?_)
 ·walk_at "say"
  exact hx (.err (by simpa using hb)) _ F S ad Le.refl hG (hL0 S.kt S.sy) hkt fun _ h => h
 clear hb
 walk_at "w"
 refine loop_gen (its_enL (by walk_at "mu")) (LR.enum 0 (LR.strs raw)) (fun pre st' => SameBut ["n", "s", "c"] σ st'.σ ∧ (∀ s ∈ pre.map (·.1), badL s = false) ∧ ∃ ad', ad' .sy = ad .sy ∧ Gm st'.μ F gr ad' { S with sy := some (((pre.map (·.1)).map uq ++ raw.drop pre.length).map .str), kt := ktRun S.kt (pre.map (·.1)) }) ?_ ?_ ?_ ?_
 ·refine ⟨SameBut.refl, by simp, ad, rfl, ?_⟩
  have hG' := hG
  k_call_by "c" S; k_call_by "c" hsy; exact hG'
 ·intro i st' hi q0q
  refine exG0_3 q0q fun _ _ r1 => ?_
  refine exG1_2 r1 fun ad' hs' hG' => ?_
  have hi' : i ≤ raw.length := by simpa using hi
  refine cur_enL (xs' := ((((raw.zipIdx.take i).map (·.1)).map uq) ++ raw.drop (raw.zipIdx.take i).length).map .str) ?_ ?_
  ·rw [← hs']; exact hG'.sy rfl
  ·have hl : (raw.zipIdx.take i).length = i := by simp; omega
   have hl1 : (((raw.zipIdx.take i).map (·.1)).map uq).length = i := by simp; omega
   rw [hl, List.getElem?_map, List.getElem?_map, List.getElem?_append_right (by omega), hl1, Nat.sub_self, List.getElem?_drop, Nat.add_zero]
 ·intro pre q0q post l st2 K hps q1q q2q hK
  obtain ⟨x, j⟩ := q0q
  refine exG1_2 q1q fun v r2 r3 => ?_
  obtain rfl := r2
  obtain rfl := r3
  refine exG0_3 q2q fun b2 hbad r4 => ?_
  refine exG1_2 r4 fun ad2 hs2 hG2 => ?_
  obtain ⟨rfl, hsplit⟩ := zip_split hps
  have hdrop : raw.drop pre.length = x :: post.map (·.1) := by rw [hsplit, List.drop_left' (by simp)]
  have hdrop2 : raw.drop (pre ++ [(x, pre.length)]).length = post.map (·.1) := by
   rw [hsplit, List.length_append, ← List.drop_drop, List.drop_left' (by simp)]; rfl
  rw [hdrop] at hG2
  have hxr : x ∈ raw := by rw [hsplit]; simp
  have hxa := hraw x hxr
  have hprr : ∀ s ∈ pre.map (·.1), s ∈ rawAl := fun s hs => hraw s (by rw [hsplit]; exact List.mem_append_left _ hs)
  have hkt2 : KtOk (ktRun S.kt (pre.map (·.1))) := hkt.run hprr
  have hktl := hkt2.len
  have hpl6 : pre.length + 1 + post.length ≤ 6 := by
   have := congrArg List.length hsplit; simp at this; omega
  have b3 : SameBut ["n", "s", "c"] σ ((st2.set "n" (.int ((pre.length : Nat) : Int))).set "s" (.str x)).σ := SameBut.set (by walk_at "nm") (SameBut.set (by walk_at "nm") b2)
  obtain ⟨A1, A2, A3, A4, A5, A6, A7, A8, A9⟩ := hG2.at_
  obtain ⟨i0, e0, i1, i2, e1, i3, e2, i4, e3, i5, e4, i6, e5, i7, i8⟩ := hG2.all
  dsimp only at i5 A4
  have hxl := raw_len x hxa
  rcases sym_of (sym_all x hxa) with ⟨c, hc0, hin, hc1, hsl, hu1, hlit, hnb⟩ | ⟨c, w, hc0, hin, hc1, hsl, hu1, hwl, hb⟩ | ⟨c, hc0, hin, huq, hnl', hnb⟩
  ·walk_at "w"
   refine wk_idxS (by decide) hc0 ?_
   walk_at "w"
   refine wk_inS ?_
   rw [hin]
   walk_at "w"
   refine wk_idxS (by decide) hc0 ?_
   walk_at "w"
   dsimp only
   refine wk_idxS (by decide) hc1 ?_
   walk_at "w"
   refine wk_pos (by simp) ?_
   walk_at "w"
   dsimp only
   refine wk_sliceS hxl ?_
   rw [hsl]
   walk_at "w"
   refine wk_lenS (by omega) ?_
   walk_at "w"
   refine wk_neI ?_
   refine wk_neg (by rw [hu1]; rfl) ?_
   walk_at "w"
   rw [dget_tab_some]
   have b4 : SameBut ["n", "s", "c"] σ (((st2.set "n" (.int ((pre.length : Nat) : Int))).set "s" (.str x)).set "c" (.str (uq x))).σ := SameBut.set (by walk_at "nm") b3
   have hks : ktRun S.kt ((pre ++ [(x, pre.length)]).map (·.1)) = ktStep (ktRun S.kt (pre.map (·.1))) x := by rw [List.map_append]; exact ktRun_app _ _ _
   have hjoin : ∀ (st3 : St) (ad3 : Lb → Addr), SameBut ["n", "s", "c"] σ st3.σ → ad3 .sy = ad .sy → Gm st3.μ F gr ad3 { S with sy := some (((pre.map (·.1)).map uq ++ x :: post.map (·.1)).map .str), kt := ktStep (ktRun S.kt (pre.map (·.1))) x } →
     K (st3.put (ad .sy) (.list (((((pre.map (·.1)).map uq ++ x :: post.map (·.1)).map V.str)).set pre.length (.str (uq x))))) := by
    intro st3 ad3 c1 c4 c5
    refine hK _ ⟨c1, ?_, ad3, c4, ?_⟩
    ·rw [List.map_append]
     intro s hs
     rcases List.mem_append.mp hs with hs | hs
     ·exact hbad s hs
     ·rw [List.mem_singleton.mp hs]; exact hnb
    rw [hdrop2, hks]
    have hsm : (((pre.map (·.1)).map uq ++ x :: post.map (·.1)).map V.str).set pre.length (.str (uq x)) = (((pre.map (·.1)).map uq ++ [uq x]) ++ post.map (·.1)).map V.str := by
     have := set_mid (P := (pre.map (·.1)).map uq) (R := post.map (·.1)) (y := x) (c := uq x)
     rwa [show ((pre.map (·.1)).map uq).length = pre.length by simp] at this
    rw [hsm, ← c4]
    have h1 := c5.setSy (ys := (((pre.map (·.1)).map uq ++ [uq x]) ++ post.map (·.1)).map V.str) rfl
    simp only [List.map_append, List.map_cons, List.map_nil] at h1 ⊢
    exact h1
   refine wk_join (fun st3 => SameBut ["n", "s", "c"] σ st3.σ ∧ st3.σ "n" = some (.int ((pre.length : Nat) : Int)) ∧ st3.σ "c" = some (.str (uq x)) ∧ ∃ ad3 : Lb → Addr, ad3 .sy = ad .sy ∧ Gm st3.μ F gr ad3 { S with sy := some (((pre.map (·.1)).map uq ++ x :: post.map (·.1)).map .str), kt := ktStep (ktRun S.kt (pre.map (·.1))) x }) ?_ (fun hb Q' hQ' => ?_) (fun hb Q' hQ' => ?_)
   ·intro st3 q0q
    refine exG0_4 q0q fun c1 c2 c3 r5 => ?_
    refine exG1_2 r5 fun ad3 c4 c5 => ?_
    have i10 := c5.sy rfl
    rw [c4] at i10
    walk_at "w"
    refine wk_itemL (by walk_at "mu") (by omega) (by simp; omega) (by simp; omega) ?_
    walk_at "w"
    exact hjoin st3 ad3 c1 c4 c5
   ·have hk : uq x ∉ ktRun S.kt (pre.map (·.1)) := by simpa using hb
    walk_at "w"
    refine wk_list (by simp) fun a ha => ?_
    walk_at "w"
    refine wk_itemD (by walk_at "mu") (by rw [tabOf_len]; omega) fun ep2 => ?_
    walk_at "w"
    refine hQ' _ ⟨b4, by walk_at "sg", by walk_at "sg", fun l => if l = .T (uq x) then a else ad2 l, ?_, ?_⟩
    ·simpa using hs2
    ·have := hG2.newT (k := uq x) (xs := []) (ep := ep2) hk ha
     dsimp only at this
     have hk0 : uq x ∉ S.kt := fun hm => hk (ktRun_mono hm)
     have e : (fun k' => if k' = uq x then [] else S.ct k') = S.ct := by
      funext k'; split
      ·subst_vars; exact (hS.ct0 _ hk0).symm
      ·rfl
     rw [e] at this
     rw [ktStep, if_pos hlit, if_neg hk]
     exact this
   ·have hk : uq x ∈ ktRun S.kt (pre.map (·.1)) := by simpa using hb
    walk_at "w"
    refine hQ' _ ⟨b4, by walk_at "sg", by walk_at "sg", ad2, hs2, ?_⟩
    rw [ktStep, if_pos hlit, if_pos hk]; exact hG2
  ·walk_at "w"
   refine wk_idxS (by decide) hc0 ?_
   walk_at "w"
   refine wk_inS ?_
   rw [hin]
   walk_at "w"
   refine wk_idxS (by decide) hc0 ?_
   walk_at "w"
   dsimp only
   refine wk_idxS (by decide) hc1 ?_
   walk_at "w"
   refine wk_pos (by simp) ?_
   walk_at "w"
   dsimp only
   refine wk_sliceS hxl ?_
   rw [hsl]
   walk_at "w"
   refine wk_lenS (by omega) ?_
   walk_at "w"
   refine wk_neI ?_
   refine wk_pos (by simp; omega) ?_
   walk_at "say"
   exact hx (.lit x hxr hb) _ F _ ad2 Le.refl hG2 (hL0 _ _) hkt2 fun k hk => ktRun_mono hk
  ·walk_at "w"
   refine wk_idxS (by decide) hc0 ?_
   walk_at "w"
   refine wk_inS ?_
   rw [hin]
   walk_at "w"
   refine hK _ ⟨b3, ?_, ad2, hs2, ?_⟩
   ·rw [List.map_append]
    intro s hs
    rcases List.mem_append.mp hs with hs | hs
    ·exact hbad s hs
    ·rw [List.mem_singleton.mp hs]; exact hnb
   rw [hdrop2]
   have hks : ktRun S.kt ((pre ++ [(x, pre.length)]).map (·.1)) = ktRun S.kt (pre.map (·.1)) := by
    rw [List.map_append, List.map_cons, List.map_nil, ktRun_app, ktStep, if_neg (by rw [hnl']; decide)]
   rw [hks]
   simp only [List.map_append, List.map_cons, List.map_nil, huq]
   show Gm st2.μ F gr ad2 _
   simpa using hG2
 ·intro st2 q0q
  refine exG0_3 q0q fun b2 hbad r6 => ?_
  refine exG1_2 r6 fun ad2 hs2 hG2 => ?_
  walk_at "w"
  have hm : raw.zipIdx.map (·.1) = raw := by simp
  have hl : raw.zipIdx.length = raw.length := by simp
  rw [hm, hl, List.drop_length, List.append_nil] at hG2
  rw [hm] at hbad
  have hkt2 : KtOk (ktRun S.kt raw) := hkt.run hraw
  have hktl := hkt2.len
  rw [← hs2] at s_syms
  refine sp_add_c3 (nm := nm) (q := raw.map uq) (pd := pd) (fv := fv) (fi := fi) (ln := ln) hG2 rfl ⟨hS.vs, hS.pm, hS.kb, hS.cb, hS.kn, hS.cn0, hS.ct, hS.cn, by dsimp only; omega, fun k hk => hS.ct0 k fun hm => hk (ktRun_mono hm), hS.us⟩ hus hpd (hq hbad) ⟨hpm, hnl, hnr, hfl, hl0, hl1⟩ (fun sy h1 h2 => shown_len h2 h1) (by walk_at "sg") (by walk_at "sg") (by walk_at "sg") (by walk_at "sg") (by walk_at "sg") (by walk_at "sg") ?_ ?_
  ·intro hr st' F' S' ad' q1 q2 q3 q4
   exact hx (.late hbad hr) _ F' S' ad' q1 q2 ⟨q3.vs, q3.pm, q3.kb, q3.cb, q3.kn, q3.cn, q3.ct, q3.pr, q3.es, q3.tk, q3.us⟩ (by rw [q4]; exact hkt2) fun k hk => by rw [q4]; exact ktRun_mono hk
  ·intro st' F' v ad' S' sy l us' tp q1 q2 q3 q4 q5 q6 q7 q8
   exact h _ F' v ad' S' sy l us' tp q1 hn1 hbad q2 q3 q4 q5 q6 ⟨q7.vs, q7.pm, q7.kb, q7.cb, q7.kt, q7.ct, q7.kn, q7.cn, q7.us, q7.pr, q7.es, q7.tk⟩ q8
end Kk
end
section
set_option maxHeartbeats 1000000
namespace Kk
variable {α β γ δ : Type}
theorem wk_cut {p rest : M Fl} {Q : Fl → St → Prop} {X : Ex → St → Prop} {st : St} (J : St → Prop) (h : ∀ st', J st' → rest Q X st') (h1 : ∀ Q' : Fl → St → Prop, (∀ st', J st' → Q' .next st') → p Q' X st) : mseq p rest Q X st := h1 (seqK rest Q X) h
theorem wk_truthS {x : Str} {Q : Bool → St → Prop} {X : Ex → St → Prop} {st : St} (h1 : x.length ≤ 100000) (h : Q ((x.length : Int) != 0) st) : truthM (.str x) Q X st := .str h1 h
variable {g : Gx} {X : Ex → St → Prop} {Q : V → St → Prop} {st : St}
theorem sp_Prod4 {n : Nat} {m : Mine g} {l : Addr} {num : Int} {nm : Str} {sy : List Str} (hl : st.μ l = some (.list (sy.map .str))) (hT : ∃ b, st.μ 45 = some (.tab b)) (hsl : sy.length ≤ 4) (hok : ∀ y ∈ sy, PyData.strOk y = true) (hyl : ∀ y ∈ sy, y.length ≤ 1000)
  (h : ∀ x μ' F', Le (cut st.μ) μ' → (∃ b, μ' 45 = some (.tab b)) → Le F' μ' → (∀ a o, F' a = some o → st.μ a = none) → ProdAt F' (.ref x) ⟨num, nm, sy⟩ (.ref 42) (.str "") (.int 0) → Q (.ref x) ⟨st.σ, μ'⟩) :
  makeM 81 (fnM ["self", "number", "name", "prod"] (([("precedence", .ref 42), ("func", .none), ("file", .str "" 232), ("line", .int 0 233)] : List (Str × Value)).map fun p => (p.1, er p.2)) 4 (r_init_P (n := n) m).1) [.int num, .str nm, .ref l] Q X st := by
 intro d x hd hx hdx
 revert hT; refine fun oO => exG1_1 oO fun b hT => ?_
 have hx45 : x ≠ 45 := by rintro rfl; rw [hT] at hx; k_call_by "c" hx
 have hd45 : d ≠ 45 := by rintro rfl; rw [hT] at hd; k_call_by "c" hd
 have hx' : (st.put d (.dict [] 0)).μ x = none := u_none (Ne.symm hdx) hx
 refine wk_en8 (a1 := "self") (v1 := (V.ref x : V)) (a2 := "number") (v2 := (V.int num : V)) (a3 := "name") (v3 := (V.str nm : V)) (a4 := "prod") (v4 := (V.ref l : V)) (a5 := "precedence") (v5 := (er (.ref 42))) (a6 := "func") (v6 := (er (.none))) (a7 := "file") (v7 := (er (.str "" 232))) (a8 := "line") (v8 := (er (.int 0 233))) rfl (by kernel_rfl) (by kernel_rfl) (by kernel_rfl) (by kernel_rfl) (by kernel_rfl) (by kernel_rfl) (by kernel_rfl) (by kernel_rfl) fun σ s_self s_number s_name s_prod s_precedence s_func s_file s_line => ?_
 refine sp_init_P (F0 := cut st.μ) (x := x) (d := d) (l := l) (num := num) (nm := nm) (sy := sy) (cut_le.trans (Le.put_new hx' (Le.put_new hd Le.refl))) cut_none (cut_le.noneOf hx) (cut_le.noneOf hd) hdx put_same (put_ne hdx put_same) (put_old hx' (put_old hd hl)) ⟨b, put_old hx' (put_old hd hT)⟩ hsl hok hyl s_self s_number s_name s_prod s_precedence s_func s_file s_line ?_
 intro st' t k1 k2 k3 k4 q0q ht
 refine exG2_7 q0q fun es ep k5 k6 k7 k8 k9 k10 k11 => ?_
 have ht0 : st.μ t = none := (Le.put_new hx' (Le.put_new hd Le.refl) : Le st.μ _).noneOf ht
 have htx : x ≠ t := ne_none (μ := ((st.put d (.dict [] 0)).put x (.inst 81 d)).μ) put_same ht
 have htd : d ≠ t := ne_none (μ := ((st.put d (.dict [] 0)).put x (.inst 81 d)).μ) (put_ne hdx put_same) ht
 refine ⟨rfl, h x _ (upd (upd (upd (fun _ => none) t (.tup (sy.map .str))) d (.dict es ep)) x (.inst 81 d)) k1 k2 ?_ ?_ ?_⟩
 ·intro a o e
  unfold upd at e
  split at e
  ·k_call_by "c" e; subst_vars; exact k3
  ·split at e
   ·k_call_by "c" e; subst_vars; exact k5
   ·split at e
    ·k_call_by "c" e; subst_vars; exact k4
    ·k_call_by "c" e
 ·intro a o e
  unfold upd at e
  split at e
  ·subst_vars; exact hx
  ·split at e
   ·subst_vars; exact hd
   ·split at e
    ·subst_vars; exact ht0
    ·k_call_by "c" e
 ·exact ⟨x, d, es, ep, t, rfl, u_same, u_ne hdx u_same, k6, k7, k8, u_ne (Ne.symm htx) (u_ne (Ne.symm htd) u_same), k9, k10, k11⟩
theorem Attrs.start {ad : Lb → Addr} {es : List (Str × V)} {v : V} (h : Attrs ad es) (hl : es.length ≤ 15) : Attrs ad (dput es "Start" v) := by
 obtain ⟨A1, A2, A3, A4, A5, A6, A7, A8, A9⟩ := h
 refine ⟨by walk_at "dg", by walk_at "dg", by walk_at "dg", by walk_at "dg", by walk_at "dg", by walk_at "dg", by walk_at "dg", Nat.le_trans (dput_len hl) (by omega), ?_⟩
 intro y hy
 have hy0 := A9 y hy
 simp only [List.mem_cons, List.not_mem_nil, or_false] at hy
 rcases hy with rfl | rfl | rfl <;> walk_at "dg"
theorem sp_set_start {n : Nat} {m : Mine g} {F : Addr → Option O} {gr : Addr} {ad : Lb → Addr} {S : GS} {v1 : V} {rest : List V} {start : Str} (hG : Gm st.μ F gr ad S) (hvs : S.vs = .none :: v1 :: rest) (hvl : S.vs.length ≤ 100) (hne : start.length ≠ 0) (hsl : start.length ≤ 100)
  (hkn : start ∈ S.kn) (hcn : (S.cn start).length ≤ 100) (hes : S.es.length ≤ 15) (hok : PyData.strOk start = true)
  (h : ∀ μ' F' v0 ad', Le F F' → ProdAt F' v0 ⟨0, "S'", [start]⟩ (.ref 42) (.str "") (.int 0) → Gm μ' F' gr ad' { S with vs := v0 :: v1 :: rest, cn := fun k => if k = start then S.cn start ++ [.int 0] else S.cn k, es := dput S.es "Start" (.str start) } → Q .none ⟨st.σ, μ'⟩) :
  fnM ["self", "start"] (([] : List (Str × Value)).map fun p => (p.1, er p.2)) 2 (r_set_start (n := n) m).1 [.ref gr, .str start] Q X st := by
 refine wk_en2 (a1 := "self") (v1 := (V.ref gr : V)) (a2 := "start") (v2 := (V.str start : V)) rfl (by kernel_rfl) (by kernel_rfl) fun σ s_self s_start => ?_
 obtain ⟨A1, A2, A3, A4, A5, A6, A7, A8, A9⟩ := hG.at_
 obtain ⟨i0, e0, i1, i2, e1, i3, e2, i4, e3, i5, e4, i6, e5, i7, i8⟩ := hG.all
 unfold r_set_start; dsimp only
 refine wk_cut (fun st1 => st1.σ "self" = some (.ref gr) ∧ st1.σ "start" = some (.str start) ∧ st1.μ = st.μ) ?_ (fun Q' hQ' => ?_)
 rotate_left
 ·walk_at "w"
  refine wk_truthS (by omega) ?_
  walk_at "w"
  refine wk_neg (by simpa using hne) ?_
  walk_at "w"
  exact hQ' _ ⟨by walk_at "sg", by walk_at "sg", rfl⟩
 intro q0q q1q
 obtain ⟨σ1, μ1⟩ := q0q
 refine exG0_3 q1q fun s1 s2 e => ?_
 dsimp only at s1 s2 e
 subst e
 walk_at "w"
 rw [dget_tab_some]
 refine wk_neg (by simp [hkn]) ?_
 walk_at "w"
 refine wk_list (by simp) fun l hl => ?_
 have hG0 := hG.grow (Le.refl.new hl : Le st.μ (upd st.μ l (.list [.str start])))
 walk_at "w"
 refine sp_Prod4 (num := 0) (nm := "S'") (sy := [start]) (by exact put_same) hG0.tb (by simp) (by simpa using hok) (by simp; omega) fun x μ1 F1 k1 k2 k3 k4 k5 => ?_
 refine exG0_2 (hG0.prod k1 k2 k3 k4) fun hG1 hF1 => ?_
 have hP := k5.le hF1
 have hFF : Le F (un F F1) := un_l
 generalize un F F1 = F2 at hG1 hF1 hP hFF
 rw [show ((St.mk σ1 st.μ).put l (.list [.str start])).σ = σ1 from rfl]
 obtain ⟨i0, e0, i1, i2, e1, i3, e2, i4, e3, i5, e4, i6, e5, i7, i8⟩ := hG1.all
 walk_at "w"
 refine wk_itemL (by walk_at "mu") (by omega) (by rw [hvs]; simp; omega) (by omega) ?_
 have hset : S.vs.set (0 : Int).toNat (.ref x) = .ref x :: v1 :: rest := by rw [hvs]; rfl
 rw [hset]
 have hG2 : Gm ((⟨σ1, μ1⟩ : St).put (ad .P) (.list (.ref x :: v1 :: rest))).μ F2 gr ad { S with vs := .ref x :: v1 :: rest } := hG1.setP
 obtain ⟨j0, o0, j1, j2, o1, j3, o2, j4, o3, j5, o4, j6, o5, j7, j8⟩ := hG2.all
 have j9 := hG2.N (k := start) hkn
 dsimp only at j1 j6 j9
 have hcn' : (S.cn start).length ≤ 1000 := by omega
 walk_at "w"
 refine wk_idxD (u := .ref (ad (.N start))) (by walk_at "mu") (by rw [dget_tab, if_pos hkn]) ?_
 have hG3 : Gm (((⟨σ1, μ1⟩ : St).put (ad .P) (.list (.ref x :: v1 :: rest))).put (ad (.N start)) (.list (S.cn start ++ [.int 0]))).μ F2 gr ad { S with vs := .ref x :: v1 :: rest, cn := fun k => if k = start then S.cn start ++ [.int 0] else S.cn k } := hG2.appN hkn
 obtain ⟨l0, u0, l1, -, -, -, -, -, -, -, -, -, -, -, -⟩ := hG3.all
 dsimp only at l1
 have hes' : S.es.length ≤ 1000 := by omega
 walk_at "w"
 exact h _ F2 (.ref x) ad hFF hP (hG3.setD (hG.at_.start hes))
theorem hdl_start {n : Nat} {m : Mine g} {F : Addr → Option O} {gr : Addr} {ad : Lb → Addr} {S : GS} {start : Str} (hG : Gm st.μ F gr ad S) (hne : start.length ≠ 0) (hsl : start.length ≤ 100) (hkn : start ∉ S.kn) (h : X .gram ⟨st.σ, st.μ⟩) :
  fnM ["self", "start"] (([] : List (Str × Value)).map fun p => (p.1, er p.2)) 2 (r_set_start (n := n) m).1 [.ref gr, .str start] Q X st := by
 refine wk_en2 (a1 := "self") (v1 := (V.ref gr : V)) (a2 := "start") (v2 := (V.str start : V)) rfl (by kernel_rfl) (by kernel_rfl) fun σ s_self s_start => ?_
 obtain ⟨A1, A2, A3, A4, A5, A6, A7, A8, A9⟩ := hG.at_
 obtain ⟨i0, e0, i1, i2, e1, i3, e2, i4, e3, i5, e4, i6, e5, i7, i8⟩ := hG.all
 unfold r_set_start; dsimp only
 walk_at "w"
 refine wk_truthS (by omega) ?_
 walk_at "w"
 refine wk_neg (by simpa using hne) ?_
 walk_at "w"
 rw [dget_tab_some]
 refine wk_pos (by simp [hkn]) ?_
 have hl : start.length ≤ 1000 := by omega
 walk_at "say"
 exact h
theorem sp_len_G {n : Nat} {m : Mine g} {F : Addr → Option O} {gr : Addr} {ad : Lb → Addr} {S : GS} (hG : Gm st.μ F gr ad S) (hl : S.vs.length ≤ 100) (h : Q (.int S.vs.length) ⟨st.σ, st.μ⟩) :
  fnM ["self"] (([] : List (Str × Value)).map fun p => (p.1, er p.2)) 1 (r_len_G (n := n) m).1 [.ref gr] Q X st := by
 refine wk_en1 (a1 := "self") (v1 := (V.ref gr : V)) rfl (by kernel_rfl) fun σ s_self => ?_
 obtain ⟨A1, A2, A3, A4, A5, A6, A7, A8, A9⟩ := hG.at_
 obtain ⟨i0, e0, i1, i2, e1, i3, e2, i4, e3, i5, e4, i6, e5, i7, i8⟩ := hG.all
 unfold r_len_G; dsimp only
 walk_at "w"
 exact h
theorem sp_getitem_G {n : Nat} {m : Mine g} {F : Addr → Option O} {gr : Addr} {ad : Lb → Addr} {S : GS} {i : Nat} {u : V} (hG : Gm st.μ F gr ad S) (hl : S.vs.length ≤ 100) (hu : S.vs[i]? = some u) (h : Q u ⟨st.σ, st.μ⟩) :
  fnM ["self", "index"] (([] : List (Str × Value)).map fun p => (p.1, er p.2)) 2 (r_getitem_G (n := n) m).1 [.ref gr, .int (i : Int)] Q X st := by
 refine wk_en2 (a1 := "self") (v1 := (V.ref gr : V)) (a2 := "index") (v2 := (V.int (i : Int) : V)) rfl (by kernel_rfl) (by kernel_rfl) fun σ s_self s_index => ?_
 obtain ⟨A1, A2, A3, A4, A5, A6, A7, A8, A9⟩ := hG.at_
 obtain ⟨i0, e0, i1, i2, e1, i3, e2, i4, e3, i5, e4, i6, e5, i7, i8⟩ := hG.all
 unfold r_getitem_G; dsimp only
 walk_at "w"
 have hi : i < S.vs.length := (List.getElem?_eq_some_iff.mp hu).1
 refine wk_idxLL (u := u) (by walk_at "mu") (by omega) (seqIndex_nat hi) hu ?_
 walk_at "w"
 exact h
theorem sp_len_P {n : Nat} {m : Mine g} {a : Addr} {p : PR} {pv fi lv : V} (hP : ProdAt st.μ (.ref a) p pv fi lv) (hl : p.sy.length ≤ 100) (h : Q (.int p.sy.length) ⟨st.σ, st.μ⟩) :
  fnM ["self"] (([] : List (Str × Value)).map fun p => (p.1, er p.2)) 1 (r_len_P (n := n) m).1 [.ref a] Q X st := by
 refine wk_en1 (a1 := "self") (v1 := (V.ref a : V)) rfl (by kernel_rfl) fun σ s_self => ?_
 obtain ⟨a', d, es, ep, t, e, q2, q3, q4, q5, q6, q7, q8⟩ := hP
 k_call_by "c" e
 have hl2 : (p.sy.map V.str).length ≤ 100000 := by simp; omega
 unfold r_len_P; dsimp only
 walk_at "w"
 rw [List.length_map]
 exact h
end Kk
end
section
set_option maxHeartbeats 1000000
namespace Kk
variable {α β γ δ : Type}
theorem Rd.le {μ μ' : Addr → Option O} (k : Le μ μ') {v : V} {d : PyData} (r : Rd μ v d) : Rd μ' v d :=
 Rd.rec (motive_1 := fun v d _ => Rd μ' v d) (motive_2 := fun vs ds _ => RdAll μ' vs ds) .none .bool .int .str (fun h _ ih => .list (k _ _ h) ih) (fun h _ ih => .tup (k _ _ h) ih) .nil (fun _ _ a b => .cons a b) r
theorem RdAll.le {μ μ' : Addr → Option O} (k : Le μ μ') {vs : List V} {ds : List PyData} (r : RdAll μ vs ds) : RdAll μ' vs ds :=
 RdAll.rec (motive_1 := fun v d _ => Rd μ' v d) (motive_2 := fun vs ds _ => RdAll μ' vs ds) .none .bool .int .str (fun h _ ih => .list (k _ _ h) ih) (fun h _ ih => .tup (k _ _ h) ih) .nil (fun _ _ a b => .cons a b) r
theorem RdAll.app {μ : Addr → Option O} {vs ws : List V} {ds es : List PyData} (r : RdAll μ vs ds) (k : RdAll μ ws es) : RdAll μ (vs ++ ws) (ds ++ es) :=
 RdAll.rec (motive_1 := fun _ _ _ => True) (motive_2 := fun vs ds _ => RdAll μ (vs ++ ws) (ds ++ es)) trivial (fun _ => trivial) (fun _ => trivial) (fun _ => trivial) (fun _ _ _ => trivial) (fun _ _ _ => trivial) k (fun h _ _ ih => .cons h ih) r
noncomputable def rowD (nm : Str) (sy : List Str) : PyData := .tuple [.str nm, .list (sy.map .str)]
theorem eqvAll_strs : ∀ (xs ys : List Str), PyData.eqvAll (xs.map .str) (ys.map .str) = decide (xs = ys)
 | [], [] => rfl
 | [], _ :: _ => rfl
 | _ :: _, [] => rfl
 | x :: xs, y :: ys => by
  rw [List.map_cons, List.map_cons, PyData.eqvAll, PyData.eqv, eqvAll_strs xs ys]
  by_cases h : x = y
  ·subst h; simp
  ·simp [h]
theorem eqv_row {n1 n2 : Str} {s1 s2 : List Str} : PyData.eqv (rowD n1 s1) (rowD n2 s2) = decide (n1 = n2 ∧ s1 = s2) := by
 unfold rowD
 rw [PyData.eqv, PyData.eqvAll, PyData.eqvAll, PyData.eqvAll, PyData.eqv, PyData.eqv, eqvAll_strs, Bool.and_true]
 by_cases h : n1 = n2
 ·subst h; simp
 ·simp [h]
theorem row_lay {nm : Str} {sy : List Str} (h1 : PyData.strOk nm = true) (h2 : ∀ s ∈ sy, PyData.strOk s = true) : (rowD nm sy).canLay0 = true := by
 unfold rowD
 rw [PyData.canLay0, PyData.canLayAll0, PyData.canLayAll0, PyData.canLayAll0, PyData.canLay0, PyData.canLay0, h1, canLay_strs h2]; rfl
theorem row_depth {nm : Str} {sy : List Str} : (rowD nm sy).depth = 2 := by
 unfold rowD
 rw [PyData.depth, PyData.depthAll, PyData.depthAll, PyData.depthAll, PyData.depth, PyData.depth, depth_strs]; rfl
section
variable {X : Ex → St → Prop} {st : St} {Q : V → St → Prop}
theorem wk_sliceP {a : Addr} {i j : Int} {vs : Array Value} (h1 : st.μ a = some (.pin vs)) (h2 : 0 ≤ i) (h3 : i ≤ j) (h4 : (vs.toList.map er).length ≤ 1000) (h : ∀ b, st.μ b = none → Q (.ref b) (st.put b (.list (((vs.toList.map er).drop i.toNat).take (j - i).toNat)))) : sliceM (.ref a) (some i) (some j) Q X st := .pin h1 h2 h3 h4 h
theorem wk_sliceT {a : Addr} {j : Int} {xs : List V} (h1 : st.μ a = some (.tup xs)) (h2 : 1 ≤ j) (h3 : j < xs.length) (h4 : xs.length ≤ 1000) (h : ∀ b, st.μ b = none → Q (.ref b) (st.put b (.tup (xs.take j.toNat)))) : sliceM (.ref a) none (some j) Q X st := .tup h1 h2 h3 h4 h
theorem wk_div {i j : Int} (h1 : j ≠ 0) (h2 : j.natAbs ≤ 100000) (h : Q (.int (i.fdiv j)) st) : binM .FloorDiv (.int i) (.int j) Q X st := .divI h1 h2 h
theorem wk_mod {i j : Int} (h1 : j ≠ 0) (h : Q (.int (i.fmod j)) st) : binM .Mod (.int i) (.int j) Q X st := .modI h1 h
end
noncomputable def pickB (t : Str) (al : List Str) (i : Int) : Bool := (decide (-1000 ≤ i) && decide (i ≤ 1000)) && (match (seqIndex? i t.length).bind (t.cps[·]?) with | some c => decide ((⟨#[c]⟩ : Str) ∈ al) | none => false)
theorem pick_of {t : Str} {al : List Str} {i : Int} (h : pickB t al i = true) : ∃ c, (decide (-1000 ≤ i) && decide (i ≤ 1000)) = true ∧ (seqIndex? i t.length).bind (t.cps[·]?) = some c ∧ (⟨#[c]⟩ : Str) ∈ al := by
 unfold pickB at h
 rw [Bool.and_eq_true] at h
 have h2 := h.2
 cases hc : (seqIndex? i t.length).bind (t.cps[·]?) with
 | none => rw [hc] at h2; k_call_by "c" h2
 | some c => rw [hc] at h2; exact ⟨c, h.1, rfl, of_decide_eq_true h2⟩
theorem names_ok : ∀ s ∈ names3, PyData.strOk s = true := by decide +kernel
theorem pick3 {i : Int} (h0 : 0 ≤ i) (h1 : i < 3) : ∃ c, (decide (-1000 ≤ i) && decide (i ≤ 1000)) = true ∧ (seqIndex? i ("stu" : Str).length).bind (("stu" : Str).cps[·]?) = some c ∧ (⟨#[c]⟩ : Str) ∈ names3 := by
 obtain ⟨k, rfl⟩ := Int.eq_ofNat_of_zero_le h0
 exact pick_of ((by decide +kernel : ∀ k : _root_.Fin 3, pickB "stu" names3 ((k : Nat) : Int) = true) ⟨k, by omega⟩)
variable {g : Gx} {X : Ex → St → Prop} {Q : V → St → Prop} {st : St}
noncomputable def lawSy : List Str := ["A", "B", "C", "'+'", "s", "t", "u", "\"-\""]
noncomputable def SyOk (sy : List Str) : Prop := sy.length ≤ 3 ∧ ∀ s ∈ sy, s ∈ lawSy
inductive Deed (nm : Str) (raw : List Str) : Bool → V → Prop
 | z : nm ∈ names3 → SyOk raw → Deed nm raw false (.str "Z")
 | a : nm ∈ names3 → SyOk raw → Deed nm raw false (.str "A")
 | q : nm ∈ names3 → SyOk raw → Deed nm raw true (.str "Q")
 | p (sy : List Str) : nm ∈ names3 → SyOk sy → raw = sy ++ [PRC] → Deed nm raw true .none
 | p2 (sy : List Str) : nm ∈ names3 → SyOk sy → raw = PRC :: ("Z" : Str) :: (sy ++ [("A" : Str)]) → Deed nm raw true .none
 | tok : nm ∈ (["A", "error"] : List Str) → SyOk raw → Deed nm raw true .none
 | lit (sy : List Str) (b : Str) : nm ∈ names3 → SyOk sy → b ∈ (["'ab'", "''"] : List Str) → raw = sy ++ [b] → Deed nm raw true .none
 | ok : nm ∈ names3 → SyOk raw → Deed nm raw false .none
theorem sp_law_symbols {n : Nat} {m : Mine g} (h : ∀ l, st.μ l = none → Q (.ref l) ⟨st.σ, upd st.μ l (.list (lawSy.map .str))⟩) :
  fnM [] (([] : List (Str × Value)).map fun p => (p.1, er p.2)) 0 (r_law_symbols (n := n) m).1 [] Q X st := by
 refine wk_fn rfl ?_
 unfold r_law_symbols; dsimp only
 walk_at "w"
 refine wk_list (by simp) fun l hl => ?_
 walk_at "w"
 exact h l hl
theorem idx2 {a : Addr} {u w : V} {k : Int} {Q : V → St → Prop} (h1 : st.μ a = some (.list [u, w])) (h0 : 0 ≤ k) (h2 : k < 2) (hu : k = 0 → Q u st) (hw : k = 1 → Q w st) : idxM (.ref a) (.int k) Q X st := by
 have : k = 0 ∨ k = 1 := by omega
 rcases this with rfl | rfl
 ·exact wk_idxL (xs := [u, w]) (j := 0) h1 (by simp) (by simp [seqIndex?]) rfl (hu rfl)
 ·exact wk_idxL (xs := [u, w]) (j := 1) h1 (by simp) (by simp [seqIndex?]) rfl (hw rfl)
theorem sp_law_deed {n : Nat} {m : Mine g} {num : Int}
  (h : ∀ μ' t l nm raw w ch, Deed nm raw w ch → Le st.μ μ' → st.μ t = none → st.μ l = none → μ' t = some (.tup [.str nm, .ref l, .bool w, ch]) → μ' l = some (.list (raw.map .str)) → Q (.ref t) ⟨st.σ, μ'⟩) :
  fnM ["number"] (([] : List (Str × Value)).map fun p => (p.1, er p.2)) 1 (r_law_deed (n := n) m).1 [.int num] Q X st := by
 refine wk_en1 (a1 := "number") (v1 := (V.int num : V)) rfl (by kernel_rfl) fun σ s_number => ?_
 unfold r_law_deed; dsimp only
 walk_at "w"
 refine wk_mod (by decide) ?_
 walk_at "w"
 refine wk_div (by decide) (by decide) ?_
 walk_at "w"
 refine wk_tup (by simp) fun t0 ht0 => ?_
 refine wk_unp2 put_same ?_
 generalize num.fdiv 8 = rest
 generalize num.fmod 8 = kind
 walk_at "w"
 refine wk_mod (by decide) ?_
 walk_at "w"
 refine exG1_3 (pick3 (i := rest.fmod 3) (Int.fmod_nonneg_of_pos _ (by decide)) (Int.fmod_lt_of_pos _ (by decide))) fun c c1 c2 c3 => ?_
 refine wk_idxS c1 c2 ?_
 generalize (⟨#[c]⟩ : Str) = nm at c3
 walk_at "w"
 refine wk_list (by simp) fun l hl => ?_
 have hl0 : st.μ l = none := (Le.put_new ht0 Le.refl : Le st.μ (St.put ⟨σ, st.μ⟩ t0 _).μ).noneOf hl
 walk_at "w"
 refine wk_div (by decide) (by decide) ?_
 walk_at "w"
 refine wk_div (by decide) (by decide) ?_
 walk_at "w"
 refine wk_mod (by decide) ?_
 walk_at "w"
 have hm0 : 0 ≤ (rest.fdiv 3).fmod 4 := Int.fmod_nonneg_of_pos _ (by decide)
 have hm1 : (rest.fdiv 3).fmod 4 < 4 := Int.fmod_lt_of_pos _ (by decide)
 refine wk_rng (by omega) (by omega) ?_
 have hkk : ((rest.fdiv 3).fmod 4).toNat ≤ 3 := by omega
 generalize ((rest.fdiv 3).fmod 4).toNat = kk at hkk
 refine loop_gen (its := (List.range kk).map fun i : Nat => [V.int (i : Int)]) rfl (ys := List.range kk) (G := fun l i => l = [V.int ((i : Nat) : Int)]) (LR.of_map (R := fun (l : List V) i => l = [V.int ((i : Nat) : Int)]) (f := fun i : Nat => [V.int (i : Int)]) (fun _ => rfl) _) (fun pre st' => st'.σ "kind" = some (.int kind) ∧ st'.σ "rest" = some (.int rest) ∧ st'.σ "name" = some (.str nm) ∧ st'.σ "symbols" = some (.ref l) ∧ Le st.μ st'.μ ∧
   ∃ (more : Int) (sy : List Str), st'.σ "more" = some (.int more) ∧ st'.μ l = some (.list (sy.map .str)) ∧ sy.length = pre.length ∧ ∀ x ∈ sy, x ∈ lawSy) ?_ ?_ ?_ ?_
 ·exact ⟨by walk_at "sg", by walk_at "sg", by walk_at "sg", by walk_at "sg", by walk_at "le", _, [], by walk_at "sg", set_mu (set_mu put_same), rfl, by simp⟩
 ·rintro i st' hi _
  exact cur_rng
 ·intro pre i post l' st2 K hrg q0q q1q hK
  obtain rfl := q0q
  refine exG0_6 q1q fun t1 t2 t3 t4 t5 r1 => ?_
  refine exG2_4 r1 fun more sy t6 t7 t8 t9 => ?_
  have hp2 : pre.length ≤ 3 := preLe hrg (by first | omega | (simp; done) | (simp; omega))
  have hsyl : (sy.map V.str).length ≤ 1000 := by simp; omega
  walk_at "w"
  refine sp_law_symbols fun l2 hl2 => ?_
  have hll : l ≠ l2 := ne_none (μ := (st2.set "k" (.int (i : Int))).μ) t7 hl2
  walk_at "w"
  refine wk_mod (by decide) ?_
  walk_at "w"
  have hi0 : 0 ≤ more.fmod 8 := Int.fmod_nonneg_of_pos _ (by decide)
  have hi1 : more.fmod 8 < 8 := Int.fmod_lt_of_pos _ (by decide)
  refine exG1_1 (Int.eq_ofNat_of_zero_le hi0) fun k hk => ?_
  rw [hk] at hi1 ⊢
  have hk8 : k < lawSy.length := by show k < 8; omega
  refine wk_idxL (xs := lawSy.map .str) (j := k) (u := .str lawSy[k]) (by exact u_same) (by decide) (seqIndex_nat (by simpa using hk8)) (by simp [hk8]) ?_
  have t7' : upd (st2.set "k" (.int (i : Int))).μ l2 (.list (lawSy.map .str)) l = some (.list (sy.map .str)) := u_ne hll t7
  walk_at "w"
  refine wk_div (by decide) (by decide) ?_
  walk_at "w"
  refine hK _ ⟨by walk_at "sg", by walk_at "sg", by walk_at "sg", by walk_at "sg", Le.mut (Le.new t5 hl2) hl0, _, sy ++ [lawSy[k]], by walk_at "sg", ?_, by simp [t8], ?_⟩
  ·rw [List.map_append]; exact set_mu put_same
  ·intro x hx
   rcases List.mem_append.mp hx with hx | hx
   ·exact t9 x hx
   ·rw [List.mem_singleton.mp hx]; exact List.getElem_mem _
 intro st2 q0q
 refine exG0_6 q0q fun t1 t2 t3 t4 t5 r2 => ?_
 refine exG2_4 r2 fun more sy t6 t7 t8 t9 => ?_
 have hsy : SyOk sy := ⟨by rw [t8]; simpa using hkk, t9⟩
 have hsyl : (sy.map V.str).length ≤ 100 := by have := hsy.1; simp; omega
 clear t6 t8 t9 hm0 hm1 hl
 have fin : ∀ (st3 : St) (t : Addr) (w : Bool) (ch : V), Le st2.μ st3.μ → st3.μ t = none → Deed nm sy w ch → Q (.ref t) ⟨st.σ, (st3.put t (.tup [.str nm, .ref l, .bool w, ch])).μ⟩ := fun st3 t w ch hle ht hd =>
  h _ t l nm sy w ch hd (Le.put_new ht (t5.trans hle)) ((t5.trans hle).noneOf ht) hl0 put_same (put_old ht (hle _ _ t7))
 have r20 : 0 ≤ rest.fmod 2 := Int.fmod_nonneg_of_pos _ (by decide)
 have r21 : rest.fmod 2 < 2 := Int.fmod_lt_of_pos _ (by decide)
 walk_at "w"
 refine wk_split (fun hb => ?_) (fun hb => ?_)
 ·walk_at "w"
  refine wk_tup (by simp) fun t ht => ?_
  walk_at "w"
  exact fin _ t _ _ Le.refl ht (.z c3 hsy)
 clear hb
 walk_at "w"
 refine wk_split (fun hb => ?_) (fun hb => ?_)
 ·walk_at "w"
  refine wk_mod (by decide) ?_
  walk_at "w"
  refine wk_list (by simp) fun l2 hl2 => ?_
  walk_at "w"
  refine wk_mod (by decide) ?_
  refine idx2 put_same r20 r21 (fun e => ?_) (fun e => ?_)
  ·rw [e]
   walk_at "w"
   refine wk_tup (by simp) fun t ht => ?_
   walk_at "w"
   exact fin _ t _ _ (Le.put_new hl2 Le.refl) ht (.a c3 hsy)
  ·rw [e]
   walk_at "w"
   refine wk_tup (by simp) fun t ht => ?_
   walk_at "w"
   exact fin _ t _ _ (Le.put_new hl2 Le.refl) ht (.q c3 hsy)
 clear hb
 walk_at "w"
 refine wk_split (fun hb => ?_) (fun hb => ?_)
 ·walk_at "w"
  refine wk_list (by simp) fun l2 hl2 => ?_
  walk_at "w"
  refine wk_addL (by walk_at "mu") put_same (by omega) (by simp) fun l3 hl3 => ?_
  walk_at "w"
  refine wk_list (by simp) fun l4 hl4 => ?_
  walk_at "w"
  refine wk_addL put_same (by walk_at "mu") (by simp) (by omega) fun l5 hl5 => ?_
  walk_at "w"
  refine wk_list (by simp) fun l6 hl6 => ?_
  walk_at "w"
  refine wk_addL (by walk_at "mu") put_same (by have := hsy.1; simp; omega) (by simp) fun l7 hl7 => ?_
  walk_at "w"
  refine wk_list (by simp) fun l8 hl8 => ?_
  walk_at "w"
  refine wk_addI ?_
  walk_at "w"
  refine wk_mod (by decide) ?_
  refine idx2 put_same (Int.fmod_nonneg_of_pos _ (by decide)) (Int.fmod_lt_of_pos _ (by decide)) (fun e => ?_) (fun e => ?_)
  ·walk_at "w"
   refine wk_tup (by simp) fun t ht => ?_
   walk_at "w"
   refine h _ t l3 nm (sy ++ [PRC]) true .none (.p sy c3 hsy rfl) (by walk_at "le") (Le.noneOf (by walk_at "le") ht) (Le.noneOf (by walk_at "le") hl3) put_same ?_
   rw [List.map_append]; show _ = some (O.list (sy.map V.str ++ [V.str "%prec"])); walk_at "mu"
  ·walk_at "w"
   refine wk_tup (by simp) fun t ht => ?_
   walk_at "w"
   refine h _ t l7 nm (PRC :: ("Z" : Str) :: (sy ++ [("A" : Str)])) true .none (.p2 sy c3 hsy rfl) (by walk_at "le") (Le.noneOf (by walk_at "le") ht) (Le.noneOf (by walk_at "le") hl7) put_same ?_
   rw [List.map_cons, List.map_cons, List.map_append]; show _ = some (O.list (([V.str "%prec", V.str "Z"] ++ sy.map V.str) ++ [V.str "A"])); walk_at "mu"
 clear hb
 walk_at "w"
 refine wk_split (fun hb => ?_) (fun hb => ?_)
 ·walk_at "w"
  refine wk_list (by simp) fun l2 hl2 => ?_
  walk_at "w"
  refine wk_mod (by decide) ?_
  have fin2 : ∀ (st3 : St) (t : Addr) (k : Str), k ∈ (["A", "error"] : List Str) → Le st2.μ st3.μ → st3.μ t = none → Q (.ref t) ⟨st.σ, (st3.put t (.tup [.str k, .ref l, .bool true, .none])).μ⟩ := fun st3 t k hk hle ht =>
   h _ t l k sy true .none (.tok hk hsy) (Le.put_new ht (t5.trans hle)) ((t5.trans hle).noneOf ht) hl0 put_same (put_old ht (hle _ _ t7))
  refine idx2 put_same r20 r21 (fun e => ?_) (fun e => ?_)
  ·walk_at "w"
   refine wk_tup (by simp) fun t ht => ?_
   walk_at "w"
   exact fin2 _ t _ (by simp) (Le.put_new hl2 Le.refl) ht
  ·walk_at "w"
   refine wk_tup (by simp) fun t ht => ?_
   walk_at "w"
   exact fin2 _ t _ (by simp) (Le.put_new hl2 Le.refl) ht
 clear hb
 walk_at "w"
 refine wk_split (fun hb => ?_) (fun hb => ?_)
 ·walk_at "w"
  refine wk_list (by simp) fun l2 hl2 => ?_
  walk_at "w"
  refine wk_mod (by decide) ?_
  refine idx2 put_same r20 r21 (fun e => ?_) (fun e => ?_)
  ·walk_at "w"
   refine wk_list (by simp) fun l3 hl3 => ?_
   walk_at "w"
   refine wk_addL (by walk_at "mu") put_same (by omega) (by simp) fun l4 hl4 => ?_
   walk_at "w"
   refine wk_tup (by simp) fun t ht => ?_
   walk_at "w"
   refine h _ t l4 nm (sy ++ [("'ab'" : Str)]) true .none (.lit sy "'ab'" c3 hsy (by simp) rfl) (by walk_at "le") (Le.noneOf (by walk_at "le") ht) (Le.noneOf (by walk_at "le") hl4) put_same ?_
   rw [List.map_append]; show _ = some (O.list (sy.map V.str ++ [V.str "'ab'"])); walk_at "mu"
  ·walk_at "w"
   refine wk_list (by simp) fun l3 hl3 => ?_
   walk_at "w"
   refine wk_addL (by walk_at "mu") put_same (by omega) (by simp) fun l4 hl4 => ?_
   walk_at "w"
   refine wk_tup (by simp) fun t ht => ?_
   walk_at "w"
   refine h _ t l4 nm (sy ++ [("''" : Str)]) true .none (.lit sy "''" c3 hsy (by simp) rfl) (by walk_at "le") (Le.noneOf (by walk_at "le") ht) (Le.noneOf (by walk_at "le") hl4) put_same ?_
   rw [List.map_append]; show _ = some (O.list (sy.map V.str ++ [V.str "''"])); walk_at "mu"
 ·walk_at "w"
  refine wk_tup (by simp) fun t ht => ?_
  walk_at "w"
  exact fin _ t _ _ Le.refl ht (.ok c3 hsy)
end Kk
end
section
set_option maxHeartbeats 1000000
namespace Kk
variable {α β γ δ : Type}
theorem wk_en3 {names : List Str} {tail : List (Str × V)} {k : Nat} {pb : M Fl} {us : List V} {Q : V → St → Prop} {X : Ex → St → Prop} {st : St} {a1 a2 a3 : Str} {v1 v2 v3 : V} (hk : us.length = k) (h1 : argσ (names.zip us ++ tail) a1 = some v1) (h2 : argσ (names.zip us ++ tail) a2 = some v2) (h3 : argσ (names.zip us ++ tail) a3 = some v3)
  (h : ∀ σ, σ a1 = some v1 → σ a2 = some v2 → σ a3 = some v3 → pb (fun f st' => Q (retV f) ⟨st.σ, st'.μ⟩) (fun k st' => X k ⟨st.σ, st'.μ⟩) ⟨σ, st.μ⟩) : fnM names tail k pb us Q X st := wk_fn hk (h _ h1 h2 h3)
set_option genInjectivity false in
structure R where
 nm : Str
 sy : List Str
 ln : Int
 lv : Str × Int
inductive RowR (μ : Addr → Option O) (v : V) (r : R) : Prop
 | mk (a l tp : Addr) : v = .ref a → μ a = some (.tup [.str r.nm, .ref l, .int r.ln, .ref tp]) → μ l = some (.list (r.sy.map .str)) → μ tp = some (.tup [.str r.lv.1, .int r.lv.2]) → RowR μ v r
theorem RowR.le {μ μ' : Addr → Option O} (k : Le μ μ') {v : V} {r : R} (h : RowR μ v r) : RowR μ' v r := by obtain ⟨a, l, tp, e, h1, h2, h3⟩ := h; exact ⟨a, l, tp, e, k _ _ h1, k _ _ h2, k _ _ h3⟩
noncomputable def sideN : List Str := ["left", "right", "nonassoc"]
noncomputable def pdOf (s0 s1 s2 : Str) (k : Str) : Option (Str × Int) := if k = ("A" : Str) then some (s0, 1) else if k = ("+" : Str) then some (s1, 2) else if k = ("Z" : Str) then some (s2, 3) else none
noncomputable def lvKeys : List Str := ["A", "+", "Z"]
inductive LvAt (μ : Addr → Option O) (lv : Addr) (pd : Str → Option (Str × Int)) : Prop
 | mk (a1 a2 a3 : Addr) (ep : Nat) (s0 s1 s2 : Str) : μ lv = some (.dict [(("A" : Str), .ref a1), ("+", .ref a2), ("Z", .ref a3)] ep) → μ a1 = some (.tup [.str s0, .int 1]) → μ a2 = some (.tup [.str s1, .int 2]) → μ a3 = some (.tup [.str s2, .int 3]) →
  s0 ∈ sideN → s1 ∈ sideN → s2 ∈ sideN → pd = pdOf s0 s1 s2 → LvAt μ lv pd
theorem LvAt.le {μ μ' : Addr → Option O} (k : Le μ μ') {lv : Addr} {pd : Str → Option (Str × Int)} (h : LvAt μ lv pd) : LvAt μ' lv pd := by obtain ⟨a1, a2, a3, ep, s0, s1, s2, h1, h2, h3, h4, h5⟩ := h; exact ⟨a1, a2, a3, ep, s0, s1, s2, k _ _ h1, k _ _ h2, k _ _ h3, k _ _ h4, h5, by assumption, by assumption, by assumption⟩
theorem LvAt.get {μ : Addr → Option O} {lv : Addr} {pd : Str → Option (Str × Int)} (h : LvAt μ lv pd) : ∃ es ep, μ lv = some (.dict es ep) ∧ es.map (·.1) = lvKeys ∧ ∀ k, (pd k = none → dget es k = none) ∧ (∀ l, pd k = some l → ∃ tp, dget es k = some (.ref tp) ∧ μ tp = some (.tup [.str l.1, .int l.2]) ∧ l.1 ∈ sideN ∧ 1 ≤ l.2 ∧ l.2 ≤ 3) := by
 obtain ⟨a1, a2, a3, ep, s0, s1, s2, h1, h2, h3, h4, h5, h6, h7, rfl⟩ := h
 refine ⟨_, ep, h1, rfl, fun k => ?_⟩
 unfold pdOf
 have e : dget [(("A" : Str), V.ref a1), ("+", .ref a2), ("Z", .ref a3)] k = if k = ("A" : Str) then some (.ref a1) else if k = ("+" : Str) then some (.ref a2) else if k = ("Z" : Str) then some (.ref a3) else none := by
  unfold dget
  simp only [List.find?_cons, List.find?_nil]
  by_cases q1 : k = ("A" : Str)
  ·subst q1; rfl
  ·have q1' : ¬ (("A" : Str) = k) := fun z => q1 z.symm
   simp only [q1', q1, decide_false, if_false]
   by_cases q2 : k = ("+" : Str)
   ·subst q2; rfl
   ·have q2' : ¬ (("+" : Str) = k) := fun z => q2 z.symm
    simp only [q2', q2, decide_false, if_false]
    by_cases q3 : k = ("Z" : Str)
    ·subst q3; rfl
    ·have q3' : ¬ (("Z" : Str) = k) := fun z => q3 z.symm
     simp only [q3', q3, decide_false, if_false]
     rfl
 rw [e]
 by_cases q1 : k = ("A" : Str)
 ·rw [if_pos q1, if_pos q1]; exact ⟨nofun, fun l z => by k_call_by "c" z; exact ⟨a1, rfl, h2, h5, show (1 : Int) ≤ 1 by decide, show (1 : Int) ≤ 3 by decide⟩⟩
 ·rw [if_neg q1, if_neg q1]
  by_cases q2 : k = ("+" : Str)
  ·rw [if_pos q2, if_pos q2]; exact ⟨nofun, fun l z => by k_call_by "c" z; exact ⟨a2, rfl, h3, h6, show (1 : Int) ≤ 2 by decide, show (2 : Int) ≤ 3 by decide⟩⟩
  ·rw [if_neg q2, if_neg q2]
   by_cases q3 : k = ("Z" : Str)
   ·rw [if_pos q3, if_pos q3]; exact ⟨nofun, fun l z => by k_call_by "c" z; exact ⟨a3, rfl, h4, h7, show (1 : Int) ≤ 3 by decide, show (3 : Int) ≤ 3 by decide⟩⟩
   ·rw [if_neg q3, if_neg q3]; exact ⟨fun _ => rfl, nofun⟩
variable {g : Gx} {X : Ex → St → Prop} {st : St}
theorem sp_law_refused {Q : V → St → Prop} {n : Nat} {m : Mine g} {F : Addr → Option O} {gr : Addr} {ad : Lb → Addr} {S : GS} {term assoc : Str} (hG : Gm st.μ F gr ad S) (hv : S.vs = [.none]) (ht : (dget S.pr term).isSome = true ∨ (dget S.pr term = none ∧ assoc ∉ (["left", "right", "nonassoc"] : List Str))) (hr : (reprText term).length ≤ 1000) (ha : PyData.strOk assoc = true)
  (h : ∀ μ', Le st.μ μ' → Q (.bool true) ⟨st.σ, μ'⟩) :
  fnM ["grammar", "term", "side"] (([] : List (Str × Value)).map fun p => (p.1, er p.2)) 3 (r_law_refused (n := n) m).1 [.ref gr, .str term, .str assoc] Q X st := by
 refine wk_en3 (a1 := "grammar") (v1 := (V.ref gr : V)) (a2 := "term") (v2 := (V.str term : V)) (a3 := "side") (v3 := (V.str assoc : V)) rfl (by kernel_rfl) (by kernel_rfl) (by kernel_rfl) fun σ s_grammar s_term s_side => ?_
 unfold r_law_refused; dsimp only
 obtain ⟨A1, A2, A3, A4, A5, A6, A7, A8, A9⟩ := hG.at_
 obtain ⟨i0, e0, i1, -, -, -, -, -, -, -, -, -, -, -, -⟩ := hG.all
 have hno := A9 "set_precedence" (by simp)
 walk_at "w"
 refine wk_tryG ?_
 walk_at "w"
 refine hdl_prec (F := F) (ad := ad) (S := S) hG hv ht hr ha fun μ' hle => ?_
 refine wk_tryX ?_
 walk_at "w"
 exact h _ hle
end Kk
end
section
set_option maxHeartbeats 1000000
namespace Kk
variable {α β γ δ : Type}
variable {g : Gx} {X : Ex → St → Prop} {Q : Fl → St → Prop} {st : St}
theorem pdOf_none {s0 s1 s2 k : Str} (h : k ∉ lvKeys) : pdOf s0 s1 s2 k = none := by
 simp only [lvKeys, List.mem_cons, List.not_mem_nil, or_false, not_or] at h
 unfold pdOf
 rw [if_neg h.1, if_neg h.2.1, if_neg h.2.2]
theorem pdOf_some {s0 s1 s2 k : Str} {l : Str × Int} (h : pdOf s0 s1 s2 k = some l) : k ∈ lvKeys := by
 by_cases hk : k ∈ lvKeys
 ·exact hk
 ·rw [pdOf_none hk] at h; k_call_by "c" h
structure LI (sc gr lv ta : Addr) (pv : Array Value) (pd : Str → Option (Str × Int)) (F : Addr → Option O) (ad : Lb → Addr) (S : GS) (vs : List V) (st : St) : Prop where
 s1 : st.σ "script" = some (.ref sc)
 s2 : st.σ "grammar" = some (.ref gr)
 s3 : st.σ "levels" = some (.ref lv)
 s4 : st.σ "taken" = some (.ref ta)
 sc : F sc = some (.pin pv)
 lv : LvAt F lv pd
 G : Gm st.μ F gr ad S
 pr : PrD F S.pr pd
 tk : S.tk = some (ta, vs)
theorem law_c3 {n : Nat} {m : Mine g} {sc lv : Addr} {pv : Array Value} {pd : Str → Option (Str × Int)} (hT : ∃ b, st.μ 45 = some (.tab b)) (v1 : st.σ "script" = some (.ref sc)) (v2 : st.σ "levels" = some (.ref lv)) (hsc : st.μ sc = some (.pin pv)) (hlv : LvAt st.μ lv pd)
  (h : ∀ st' F gr ad ta es pr, es.length ≤ 15 → pr.length ≤ 3 → LI sc gr lv ta pv pd F ad { S0 es with pr := pr, tk := some (ta, []) } [] st' → (r_law_c7 (n := n) m).1 Q X st') : (r_law_c3 (n := n) m).1 Q X st := by
 unfold r_law_c3; dsimp only
 walk_at "w"
 refine wk_list (by simp) fun l hl => ?_
 revert hT; refine fun oO => exG1_1 oO fun b hT => ?_
 walk_at "w"
 refine sp_Grammar (by exact put_same) ⟨b, put_old hl hT⟩ fun gr μ1 F0 ad es hes hF0 hG0 => ?_
 rw [show (st.put l (.list [.str "A", .str "B", .str "C"])).σ = st.σ from rfl]
 have hc : ∀ {a : Addr} {o : O}, st.μ a = some o → (∀ b, o ≠ .tab b) → F0 a = some o := fun {a o} e ne => by
  have h45 : a ≠ 45 := by rintro rfl; rw [hT] at e; k_call_by "c" e; exact ne _ rfl
  exact hF0 _ _ (cut_get h45 (put_old hl e))
 have hlv0 : LvAt F0 lv pd := by
  obtain ⟨a1, a2, a3, ep, s0, s1, s2, h1, h2, h3, h4, h5⟩ := hlv
  exact ⟨a1, a2, a3, ep, s0, s1, s2, hc h1 nofun, hc h2 nofun, hc h3 nofun, hc h4 nofun, h5, by assumption, by assumption, by assumption⟩
 have hsc0 := hc hsc nofun
 clear hF0 hc hlv hsc hT
 walk_at "w"
 unfold r_law_c4; dsimp only
 refine exG2_3 hlv0.get fun es1 ep hd hkeys hget => ?_
 have hd' := hG0.mem.le _ _ hd
 walk_at "w"
 have hits : (es1.map fun p => [V.str p.1]) = lvKeys.map fun k => [V.str k] := by rw [← hkeys, List.map_map]; rfl
 refine loop_gen (its_keys (by walk_at "mu")) (ys := lvKeys) (G := fun l y => l = [V.str y]) (by rw [hits]; exact LR.of_map (R := fun (l : List V) y => l = [V.str y]) (f := fun k => [V.str k]) (fun _ => rfl) lvKeys) (fun pre st' => SameBut ["grammar", "term"] st.σ st'.σ ∧ st'.σ "grammar" = some (.ref gr) ∧ ∃ F' pr, Le F0 F' ∧ Gm st'.μ F' gr ad { S0 es with pr := pr } ∧ pr.length ≤ pre.length ∧ (∀ k ∈ pre, ∃ l tp, pd k = some l ∧ dget pr k = some (.ref tp) ∧ F' tp = some (.tup [.str l.1, .int l.2])) ∧ ∀ k, k ∉ pre → dget pr k = none) ?_ ?_ ?_ ?_
 ·exact ⟨SameBut.set (by walk_at "nm") SameBut.refl, by walk_at "sg", F0, [], Le.refl, hG0, by simp, by simp, fun _ _ => rfl⟩
 ·intro i st' hi q0q
  refine exG0_3 q0q fun _ _ r1 => ?_
  refine exG2_3 r1 fun F' pr k1 k2 _ => ?_
  exact cur_keys (k2.mem.le _ _ (k1 _ _ hd))
 ·intro pre y post l' st1 K hps q0q q1q hK
  obtain rfl := q0q
  refine exG0_3 q1q fun b1 b2 r2 => ?_
  refine exG2_5 r2 fun F' pr k1 k2 k3 k4 k5 => ?_
  have hy : y ∈ lvKeys := by rw [hps]; simp
  have hyp : y ∉ pre := by
   have hn : lvKeys.Nodup := by decide +kernel
   rw [hps, List.nodup_append] at hn
   intro hm; exact hn.2.2 y hm y (by simp) rfl
  have hpl : pre.length ≤ 3 := preLe hps (by first | omega | (simp; done) | (simp; omega) | decide)
  obtain ⟨l, hl2⟩ : ∃ l, pd y = some l := by
   cases hp : pd y with
   | some l => exact ⟨l, rfl⟩
   | none =>
    have := (hget y).1 hp
    exfalso
    have hm : y ∈ es1.map (·.1) := by rw [hkeys]; exact hy
    refine exG1_2 (List.mem_map.mp hm) fun p hp1 hp2 => ?_
    unfold dget at this
    rw [Option.map_eq_none_iff, List.find?_eq_none] at this
    exact this p hp1 (by simpa using hp2)
  refine exG1_5 ((hget y).2 l hl2) fun tp t1 t2 t3 t4 t5 => ?_
  have t2' := k2.mem.le _ _ (k1 _ _ t2)
  have hd2 := k2.mem.le _ _ (k1 _ _ hd)
  have hno : dget es "set_precedence" = none := k2.at_.no _ (by simp)
  obtain ⟨i0, e0, i1, -, -, -, -, -, -, -, -, -, -, -, -⟩ := k2.all
  dsimp only [S0] at i1
  have s_lv : st1.σ "levels" = some (.ref lv) := SameBut.get b1 (by walk_at "nm") v2
  walk_at "w"
  refine wk_idxD (u := .ref tp) (by walk_at "mu") t1 ?_
  walk_at "w"
  refine wk_idxT (j := 0) (u := .str l.1) (by walk_at "mu") (by simp) (by simp [seqIndex?]) rfl ?_
  walk_at "w"
  refine wk_idxD (u := .ref tp) (by walk_at "mu") t1 ?_
  walk_at "w"
  refine wk_idxT (j := 1) (u := .int l.2) (by walk_at "mu") (by simp) (by simp [seqIndex?]) rfl ?_
  walk_at "w"
  refine sp_set_precedence (F := F') (ad := ad) (S := { S0 es with pr := pr }) k2 rfl (k5 y hyp) (by dsimp only; omega) t3 fun μ5 F5 p1 a1 b3 c1 => ?_
  walk_at "w"
  refine hK _ ⟨SameBut.set (by walk_at "nm") b1, by walk_at "sg", F5, _, k1.trans a1, c1, ?_, ?_, ?_⟩
  ·rw [List.length_append]; exact dput_len k3
  ·intro k hk
   by_cases hky : k = y
   ·subst hky; exact ⟨l, p1, hl2, dget_same, b3⟩
   ·rcases List.mem_append.mp hk with hk | hk
    ·refine exG2_3 (k4 k hk) fun l' tp' e1 e2 e3 => ?_
     exact ⟨l', tp', e1, dget_ne hky e2, a1 _ _ e3⟩
    ·exact absurd (List.mem_singleton.mp hk) hky
  ·intro k hk
   have hk1 : k ∉ pre := fun h => hk (List.mem_append_left _ h)
   have hk2 : k ≠ y := fun h => hk (by rw [h]; simp)
   exact dget_ne hk2 (k5 k hk1)
 intro st1 q0q
 refine exG0_3 q0q fun b1 b2 r3 => ?_
 refine exG2_5 r3 fun F1 pr k1 k2 k3 k4 k5 => ?_
 have hlv1 := hlv0.le k1
 have hsc1 := k1 _ _ hsc0
 have hPr : PrD F1 pr pd := by
  obtain ⟨a1, a2, a3, ep', s0, s1, s2, -, -, -, -, -, -, -, rfl⟩ := hlv1
  intro k
  refine ⟨fun e => k5 k fun hm => ?_, fun l e => ?_⟩
  ·refine exG2_2 (k4 k hm) fun l tp e1 _ => ?_
   rw [e] at e1; k_call_by "c" e1
  ·refine exG2_3 (k4 k (pdOf_some e)) fun l' tp e1 e2 e3 => ?_
   rw [e] at e1; k_call_by "c" e1
   exact ⟨tp, e2, e3⟩
 have s_sc := SameBut.get b1 (by walk_at "nm") v1
 have s_lv := SameBut.get b1 (by walk_at "nm") v2
 have hA : (dget pr "A").isSome = true := by
  refine exG2_3 (k4 "A" (by decide +kernel)) fun l tp e1 e2 e3 => ?_
  rw [e2]; rfl
 have hQ : dget pr "Q" = none := k5 "Q" (by decide +kernel)
 walk_at "w"
 unfold r_law_c5; dsimp only
 walk_at "w"
 refine sp_law_refused (F := F1) (ad := ad) (S := { S0 es with pr := pr }) k2 rfl (.inl hA) (by decide +kernel) (by decide +kernel) fun μ2 hμ2 => ?_
 have k2' := k2.grow hμ2
 walk_at "w"
 refine wk_neg rfl ?_
 walk_at "w"
 refine sp_law_refused (F := F1) (ad := ad) (S := { S0 es with pr := pr }) k2' rfl (.inr ⟨hQ, by decide +kernel⟩) (by decide +kernel) (by decide +kernel) fun μ3 hμ3 => ?_
 have k2'' := k2'.grow hμ3
 walk_at "w"
 refine wk_neg rfl ?_
 walk_at "w"
 unfold r_law_c6; dsimp only
 walk_at "w"
 refine wk_list (by simp) fun ta hta => ?_
 walk_at "w"
 have k3' := k2''.newTk (ys := []) rfl hta
 refine h _ F1 gr _ ta es pr hes (by have : lvKeys.length = 3 := rfl; omega) ⟨by walk_at "sg", by walk_at "sg", by walk_at "sg", by walk_at "sg", hsc1, hlv1, k3', hPr, rfl⟩
end Kk
end
section
set_option maxHeartbeats 1000000
namespace Kk
variable {α β γ δ : Type}
theorem wk_truthP {a : Addr} {vs : Array Value} {Q : Bool → St → Prop} {X : Ex → St → Prop} {st : St} (h1 : st.μ a = some (.pin vs)) (h2 : vs.size ≤ 100000) (h : Q (!vs.isEmpty) st) : truthM (.ref a) Q X st := .pin h1 h2 h
theorem wk_idxP {a : Addr} {k : Int} {vs : Array Value} {j : Nat} {u : V} {Q : V → St → Prop} {X : Ex → St → Prop} {st : St} (h1 : st.μ a = some (.pin vs)) (h2 : (vs.toList.map er).length ≤ 1000) (h3 : seqIndex? k (vs.toList.map er).length = some j) (h4 : (vs.toList.map er)[j]? = some u) (h : Q u st) : idxM (.ref a) (.int k) Q X st := .pin h1 h2 h3 h4 h
theorem len3 {l : List α} (h : l.length = 3) : ∃ a b c, l = [a, b, c] := by
 induction l with
 | nil => k_call_by "c" h
 | cons a l =>
  induction l with
  | nil => k_call_by "c" h
  | cons b l =>
   induction l with
   | nil => k_call_by "c" h
   | cons c l => exact ⟨a, b, c, by rw [List.length_eq_zero_iff.mp (Nat.succ.inj (Nat.succ.inj (Nat.succ.inj h)))]⟩
variable {g : Gx} {X : Ex → St → Prop} {Q : Fl → St → Prop} {st : St}
theorem law_c1 {n : Nat} {m : Mine g} {sc : Addr} {pv : Array Value} {hd : Int} (hT : ∃ b, st.μ 45 = some (.tab b)) (v1 : st.σ "script" = some (.ref sc)) (v2 : st.σ "head" = some (.int hd)) (hsc : st.μ sc = some (.pin pv))
  (h : ∀ st' F gr lv ad ta es pr pd, es.length ≤ 15 → pr.length ≤ 3 → LI sc gr lv ta pv pd F ad { S0 es with pr := pr, tk := some (ta, []) } [] st' → (r_law_c7 (n := n) m).1 Q X st') : (r_law_c1 (n := n) m).1 Q X st := by
 unfold r_law_c1; dsimp only
 walk_at "w"
 refine wk_comp (hasFree_of ["head"] (by kernel_rfl) ⟨⟨_, v2⟩, trivial⟩) ?_
 walk_at "w"
 refine wk_rng (by decide) (by decide) ?_
 refine comp_gen (its := (List.range 3).map fun i : Nat => [V.int (i : Int)]) (hasFree_of ["head"] (by kernel_rfl) ⟨⟨_, v2⟩, trivial⟩) rfl (ys := List.range 3) (G := fun l i => l = [V.int ((i : Nat) : Int)]) (LR.of_map (R := fun (l : List V) i => l = [V.int ((i : Nat) : Int)]) (f := fun i : Nat => [V.int (i : Int)]) (fun _ => rfl) _)
  (fun pre acc st' => st'.σ "head" = some (.int hd) ∧ Le st.μ st'.μ ∧ acc.length = pre.length ∧ ∀ v ∈ acc, ∃ s ∈ sideN, v = .str s) ?_ ?_ ?_ ?_
 ·exact ⟨by walk_at "sg", Le.refl, rfl, by simp⟩
 ·rintro i acc st' hi _
  exact cur_rng
 ·intro pre i post l acc st' K hrg q0q q1q hK
  obtain rfl := q0q
  refine exG0_4 q1q fun a1 a2 a3 a4 => ?_
  have hp2 : pre.length ≤ 3 := preLe hrg (by first | omega | (simp; done) | (simp; omega))
  walk_at "w"
  refine wk_splitC (fun _ => ?_) (fun hb => by k_call_by "c" hb)
  walk_at "w"
  refine wk_list (by simp) fun l2 hl2 => ?_
  walk_at "w"
  refine wk_addI ?_
  walk_at "w"
  refine wk_mod (by decide) ?_
  walk_at "w"
  have hi0 : 0 ≤ (hd + ((i : Nat) : Int)).fmod 3 := Int.fmod_nonneg_of_pos _ (by decide)
  have hi1 : (hd + ((i : Nat) : Int)).fmod 3 < 3 := Int.fmod_lt_of_pos _ (by decide)
  refine exG1_1 (Int.eq_ofNat_of_zero_le hi0) fun k hk => ?_
  rw [hk] at hi1 ⊢
  have hk8 : k < sideN.length := by show k < 3; omega
  refine wk_idxL (xs := sideN.map .str) (j := k) (u := .str sideN[k]) (by exact put_same) (by decide) (seqIndex_nat (by simpa using hk8)) (by simp [hk8]) ?_
  refine ⟨by omega, hK _ _ ⟨by walk_at "sg", by walk_at "le", by simp [a3], ?_⟩⟩
  intro v hv
  rcases List.mem_append.mp hv with hv | hv
  ·exact a4 v hv
  ·rw [List.mem_singleton.mp hv]; exact ⟨_, List.getElem_mem _, rfl⟩
 ·intro acc st' D q0q hD
  refine exG0_4 q0q fun _ a2 a3 a4 => ?_
  obtain ⟨u0, u1, u2, rfl⟩ : ∃ u0 u1 u2, acc = [u0, u1, u2] := by
   exact len3 a3
  refine exG1_2 (a4 u0 (by simp)) fun s0 hs0 r1 => ?_
  obtain rfl := r1
  refine exG1_2 (a4 u1 (by simp)) fun s1 hs1 r2 => ?_
  obtain rfl := r2
  refine exG1_2 (a4 u2 (by simp)) fun s2 hs2 r3 => ?_
  obtain rfl := r3
  have hle : Le st.μ (upd st'.μ D (.list [.str s0, .str s1, .str s2])) := a2.new hD
  have hDD : upd st'.μ D (.list [.str s0, .str s1, .str s2]) D = some (.list [.str s0, .str s1, .str s2]) := u_same
  generalize upd st'.μ D (.list [.str s0, .str s1, .str s2]) = μ1 at hle hDD
  revert hT; refine fun oO => exG1_1 oO fun b hT => ?_
  have hT1 := hle _ _ hT
  have hsc1 := hle _ _ hsc
  walk_at "w"
  unfold r_law_c2; dsimp only
  walk_at "w"
  refine wk_idxL (j := 0) (u := .str s0) (by walk_at "mu") (by simp) (by simp [seqIndex?]) rfl ?_
  walk_at "w"
  refine wk_tup (by simp) fun t1 ht1 => ?_
  walk_at "w"
  refine wk_idxL (j := 1) (u := .str s1) (by walk_at "mu") (by simp) (by simp [seqIndex?]) rfl ?_
  walk_at "w"
  refine wk_tup (by simp) fun t2 ht2 => ?_
  walk_at "w"
  refine wk_idxL (j := 2) (u := .str s2) (by walk_at "mu") (by simp) (by simp [seqIndex?]) rfl ?_
  walk_at "w"
  refine wk_tup (by simp) fun t3 ht3 => ?_
  walk_at "w"
  intro lv hlv ep
  walk_at "w"
  refine law_c3 (sc := sc) (lv := lv) (pv := pv) (pd := pdOf s0 s1 s2) ⟨b, by walk_at "mu"⟩ (by walk_at "sg") (by walk_at "sg") (by walk_at "mu") ⟨t1, t2, t3, ep, s0, s1, s2, put_same, by walk_at "mu", by walk_at "mu", by walk_at "mu", hs0, hs1, hs2, rfl⟩ ?_
  intro st2 F gr ad ta es pr k1 k2 k3
  exact h st2 F gr lv ad ta es pr _ k1 k2 k3
theorem law_c0 {n : Nat} {m : Mine g} {sc : Addr} {pv : Array Value} {ns : List Int} (hs : st.σ "script" = some (.ref sc)) (hsc : st.μ sc = some (.pin pv)) (hpv : pv.toList.map er = ns.map .int) (hl : ns.length ≤ 63) (hT : ∃ b, st.μ 45 = some (.tab b))
  (h : ∀ st' F gr lv ad ta es pr pd, es.length ≤ 15 → pr.length ≤ 3 → LI sc gr lv ta pv pd F ad { S0 es with pr := pr, tk := some (ta, []) } [] st' → (r_law_c7 (n := n) m).1 Q X st') : (r_law (n := n) m).1 Q X st := by
 unfold r_law; dsimp only
 have hvl2 : (pv.toList.map er).length ≤ 1000 := by rw [hpv]; simp; omega
 have hvl : pv.size ≤ 100000 := by rw [List.length_map, Array.length_toList] at hvl2; omega
 have hrest : ∀ (hd : Int) (st2 : St), st2.σ "script" = some (.ref sc) → st2.σ "head" = some (.int hd) → st2.μ = st.μ → (r_law_c1 (n := n) m).1 Q X st2 := fun hd st2 a1 a2 a3 => law_c1 (by rw [a3]; exact hT) a1 a2 (by rw [a3]; exact hsc) h
 walk_at "w"
 refine wk_truthP (vs := pv) (by walk_at "mu") hvl ?_
 refine wk_split (fun hb => ?_) (fun hb => ?_)
 ·walk_at "w"
  induction ns with
  | nil =>
   exfalso
   have : pv.toList.map er = [] := hpv
   rw [List.map_eq_nil_iff, Array.toList_eq_nil_iff] at this
   rw [this] at hb; k_call_by "c" hb
  | cons i r =>
   refine wk_idxP (vs := pv) (j := 0) (u := .int i) (by walk_at "mu") hvl2 (seqIndex_nat (i := 0) (by rw [hpv]; simp)) (by rw [hpv]; rfl) ?_
   walk_at "w"
   exact hrest i _ (by walk_at "sg") (by walk_at "sg") rfl
 ·walk_at "w"
  exact hrest 4 _ (by walk_at "sg") (by walk_at "sg") rfl
end Kk
end
section
set_option maxHeartbeats 1000000
namespace Kk
variable {α β γ δ : Type}
noncomputable def toks : List Str := ["A", "B", "C", "+", "-"]
structure RowOk (r : R) : Prop where
 nm : r.nm ∈ names3
 sy : ∀ s ∈ r.sy, s ∈ alpha
 len : r.sy.length ≤ 3
 l0 : 0 ≤ r.ln
 l1 : r.ln ≤ 100
 sd : r.lv.1 ∈ sideN
 v0 : 0 ≤ r.lv.2
 v1 : r.lv.2 ≤ 3
noncomputable def occ (rows : List R) (k : Str) : List Int := (rows.zipIdx 1).flatMap fun p => (p.1.sy.filter fun t => decide (t = k)).map fun _ => (p.2 : Int)
theorem occ_app (rows : List R) (r : R) (k : Str) : occ (rows ++ [r]) k = occ rows k ++ (r.sy.filter fun t => decide (t = k)).map fun _ => ((rows.length + 1 : Nat) : Int) := by
 unfold occ
 rw [List.zipIdx_append, List.flatMap_append]
 simp [Nat.add_comm]
theorem occ_nil {rows : List R} {k : Str} (h : ∀ r ∈ rows, k ∉ r.sy) : occ rows k = [] := by
 unfold occ
 rw [List.flatMap_eq_nil_iff]
 intro q0q hp
 obtain ⟨r, i⟩ := q0q
 rw [List.map_eq_nil_iff, List.filter_eq_nil_iff]
 intro t ht he
 have : t = k := of_decide_eq_true he
 subst this
 exact h r ((List.mem_zipIdx hp).2.2 ▸ List.getElem_mem _) ht
theorem occ_len (rows : List R) (k : Str) (h : ∀ r ∈ rows, r.sy.length ≤ 3) : (occ rows k).length ≤ 3 * rows.length := by
 unfold occ
 suffices hh : ∀ (rows : List R) (n : Nat), (∀ r ∈ rows, r.sy.length ≤ 3) → ((rows.zipIdx n).flatMap fun p => (p.1.sy.filter fun t => decide (t = k)).map fun _ => (p.2 : Int)).length ≤ 3 * rows.length by
  exact hh rows 1 h
 intro rows
 induction rows with
 | nil => intro n _; simp
 | cons r rs ih =>
  intro n h
  rw [List.zipIdx_cons, List.flatMap_cons, List.length_append]
  have h1 := ih (n + 1) fun q hq => h q (.tail _ hq)
  have h2 : ((r.sy.filter fun t => decide (t = k)).map fun _ => (n : Int)).length ≤ 3 := by
   rw [List.length_map]; exact Nat.le_trans (List.length_filter_le ..) (h r (.head _))
  simp at h1 h2 ⊢; omega
theorem alpha_split : ∀ s ∈ alpha, s ∈ toks ∨ s ∈ names3 := by decide +kernel
theorem names_toks : ∀ s ∈ names3, s ∉ toks := by decide +kernel
theorem names_kt : ∀ s ∈ names3, s ∉ ((["A", "B", "C", "error", "+", "-"] : List Str)) := by decide +kernel
theorem names_small : ∀ s ∈ names3, s.length ≤ 1000 ∧ (reprText s).length ≤ 1000 ∧ s.length = 1 := by decide +kernel
theorem alpha_one : ∀ s ∈ alpha, s.length = 1 := by decide +kernel
theorem side_ok : ∀ s ∈ sideN, PyData.strOk s = true ∧ s.length ≤ 1000 := by decide +kernel
noncomputable def knOf (rows : List R) : List Str := rows.foldl (fun acc r => knAdd toks (knStep toks acc r.nm) r.sy) []
theorem knAdd_congr {kt kt' : List Str} : ∀ {sy kn : List Str}, (∀ s ∈ sy, (s ∈ kt ↔ s ∈ kt')) → knAdd kt kn sy = knAdd kt' kn sy
 | [], _, _ => rfl
 | y :: r, kn, h => by
  unfold knAdd
  rw [List.foldl_cons, List.foldl_cons]
  have e : knStep kt kn y = knStep kt' kn y := by unfold knStep; simp only [h y (.head _)]
  rw [e]
  exact knAdd_congr fun s hs => h s (.tail _ hs)
theorem knOf_app (rows : List R) (r : R) : knOf (rows ++ [r]) = knAdd toks (knStep toks (knOf rows) r.nm) r.sy := by simp [knOf]
theorem knOf_len : ∀ (rows : List R), (∀ r ∈ rows, r.sy.length ≤ 3) → (knOf rows).length ≤ 4 * rows.length := by
 intro rows
 suffices h : ∀ (rows : List R) (acc : List Str), (∀ r ∈ rows, r.sy.length ≤ 3) → (rows.foldl (fun acc r => knAdd toks (knStep toks acc r.nm) r.sy) acc).length ≤ acc.length + 4 * rows.length by
  intro h2; simpa [knOf] using h rows [] h2
 intro rows
 induction rows with
 | nil => intro acc _; simp
 | cons r rs ih =>
  intro acc h
  rw [List.foldl_cons]
  refine Nat.le_trans (ih _ fun q hq => h q (.tail _ hq)) ?_
  have h1 := knAdd_len toks r.sy (knStep toks acc r.nm)
  have h2 := h r (.head _)
  have h3 : (knStep toks acc r.nm).length ≤ acc.length + 1 := by
   unfold knStep; split
   ·omega
   ·simp
  simp; omega
theorem dget_put_some {es : List (Str × V)} {k y : Str} {v : V} (h : (dget (dput es k v) y).isSome = true) : y = k ∨ (dget es y).isSome = true := by
 by_cases e : y = k
 ·exact .inl e
 ·rw [dget_put_ne e] at h; exact .inr h
theorem knAdd_names {kn sy : List Str} (h : ∀ k ∈ kn, k ∈ names3) (hs : ∀ s ∈ sy, s ∈ alpha) : ∀ k ∈ knAdd toks kn sy, k ∈ names3 := by
 unfold knAdd
 induction sy generalizing kn with
 | nil => exact h
 | cons y r ih =>
  rw [List.foldl_cons]
  refine ih ?_ fun s hs' => hs s (.tail _ hs')
  intro k hk
  unfold knStep at hk
  split at hk
  ·exact h k hk
  ·rename_i hn
   rcases List.mem_append.mp hk with hk | hk
   ·exact h k hk
   ·rw [List.mem_singleton.mp hk]
    exact (alpha_split y (hs y (.head _))).resolve_left fun hm => hn (.inl hm)
theorem knOf_names {rows : List R} (h : ∀ r ∈ rows, RowOk r) : ∀ k ∈ knOf rows, k ∈ names3 := by
 suffices hh : ∀ (rows : List R) (acc : List Str), (∀ r ∈ rows, RowOk r) → (∀ k ∈ acc, k ∈ names3) → ∀ k ∈ rows.foldl (fun acc r => knAdd toks (knStep toks acc r.nm) r.sy) acc, k ∈ names3 by
  exact hh rows [] h (by simp)
 intro rows
 induction rows with
 | nil => intro acc _ h; exact h
 | cons r rs ih =>
  intro acc h1 h2
  rw [List.foldl_cons]
  refine ih _ (fun q hq => h1 q (.tail _ hq)) (knAdd_names ?_ (h1 r (.head _)).sy)
  intro k hk
  unfold knStep at hk
  split at hk
  ·exact h2 k hk
  ·rcases List.mem_append.mp hk with hk | hk
   ·exact h2 k hk
   ·rw [List.mem_singleton.mp hk]; exact (h1 r (.head _)).nm
theorem knOf_nm {rows : List R} (h : ∀ r ∈ rows, RowOk r) {r : R} (hr : r ∈ rows) : r.nm ∈ knOf rows := by
 suffices hh : ∀ (rows : List R) (acc : List Str), (∀ r ∈ rows, RowOk r) → (r ∈ rows ∨ r.nm ∈ acc) → r.nm ∈ rows.foldl (fun acc r => knAdd toks (knStep toks acc r.nm) r.sy) acc by
  exact hh rows [] h (.inl hr)
 intro rows
 induction rows with
 | nil => intro acc _ h; rcases h with h | h; k_call_by "c" h; exact h
 | cons q qs ih =>
  intro acc h1 h2
  rw [List.foldl_cons]
  refine ih _ (fun z hz => h1 z (.tail _ hz)) ?_
  rcases h2 with h2 | h2
  ·rcases List.mem_cons.mp h2 with rfl | h2
   ·right
    refine knAdd_mem ?_
    unfold knStep; split
    ·rename_i h; exact h.resolve_left (names_toks _ (h1 r (.head _)).nm)
    ·simp
   ·exact .inl h2
  ·right
   refine knAdd_mem ?_
   unfold knStep; split
   ·exact h2
   ·simp [h2]
theorem rows_lay : ∀ {rs : List R}, (∀ r ∈ rs, RowOk r) → PyData.canLayAll0 (rs.map fun r => rowD r.nm r.sy) = true
 | [], _ => rfl
 | r :: rs, h => by
  have hr := h r (.head _)
  rw [List.map_cons, PyData.canLayAll0, row_lay (names_ok _ hr.nm) fun s hs => alpha_ok _ (hr.sy s hs), rows_lay fun q hq => h q (.tail _ hq)]; rfl
theorem rows_depth : ∀ (rs : List R), PyData.depthAll (rs.map fun r => rowD r.nm r.sy) ≤ 2
 | [] => by rw [List.map_nil, PyData.depthAll]; omega
 | r :: rs => by rw [List.map_cons, PyData.depthAll, row_depth]; have := rows_depth rs; omega
theorem rows_any (rs : List R) (nm : Str) (sy : List Str) : ((rs.map fun r => rowD r.nm r.sy).any fun y => PyData.eqv y (rowD nm sy)) = decide ((nm, sy) ∈ rs.map fun r => (r.nm, r.sy)) := by
 induction rs with
 | nil => rfl
 | cons r rs ih =>
  rw [List.map_cons, List.any_cons, ih, eqv_row, List.map_cons]
  by_cases h : r.nm = nm ∧ r.sy = sy
  ·obtain ⟨rfl, rfl⟩ := h; simp
  ·have : ¬ ((nm, sy) = (r.nm, r.sy)) := by rintro e; k_call_by "c" e; exact h ⟨rfl, rfl⟩
   simp [h, this]
noncomputable def PrAt (F : Addr → Option O) (v : V) (p : R × Nat) : Prop := ∃ tp, ProdAt F v ⟨(p.2 : Int), p.1.nm, p.1.sy⟩ (.ref tp) (.str "") (.int p.1.ln) ∧ F tp = some (.tup [.str p.1.lv.1, .int p.1.lv.2])
theorem PrAt.le {F F' : Addr → Option O} (k : Le F F') {v : V} {p : R × Nat} (h : PrAt F v p) : PrAt F' v p := by obtain ⟨tp, h1, h2⟩ := h; exact ⟨tp, h1.le k, k _ _ h2⟩
structure GR (F : Addr → Option O) (S : GS) (rows : List R) (n : Nat) : Prop where
 vs : ∃ rs, S.vs = .none :: rs ∧ LR (PrAt F) rs (rows.zipIdx 1)
 pm : ∀ k, (dget S.pm k).isSome = true → ∃ r ∈ rows, k = arrowText r.nm r.sy
 pm2 : ∀ r ∈ rows, (dget S.pm (arrowText r.nm r.sy)).isSome = true
 pmv : ∀ k v, dget S.pm k = some v → Shown F v
 pml : S.pm.length ≤ rows.length
 kbl : S.kb.length ≤ rows.length
 cbl : ∀ k ∈ S.kb, (S.cb k).length ≤ rows.length
 kt : KtOk S.kt
 ktm : ∀ r ∈ rows, ∀ s ∈ r.sy, s ∈ toks → s ∈ S.kt
 ct : ∀ k, S.ct k = if k ∈ toks then (occ rows k).map .int else []
 kn : S.kn = knOf rows
 cn : ∀ k, S.cn k = if k ∈ names3 then (occ rows k).map .int else []
 us : S.us.length ≤ n
 rl : rows.length ≤ n
theorem knOf_sym {rows : List R} {r : R} {t : Str} (hrm : r ∈ rows) (ht : t ∈ r.sy) (ht0 : t ∉ toks) : t ∈ knOf rows := by
 suffices key : ∀ (rs : List R) (acc : List Str), (r ∈ rs ∨ t ∈ acc) → t ∈ rs.foldl (fun acc r => knAdd toks (knStep toks acc r.nm) r.sy) acc by exact key rows [] (.inl hrm)
 intro rs
 induction rs with
 | nil => intro acc h; rcases h with h | h; k_call_by "c" h; exact h
 | cons q qs ih =>
  intro acc hm
  rw [List.foldl_cons]
  refine ih _ ?_
  rcases hm with hm | hm
  ·rcases List.mem_cons.mp hm with rfl | hm
   ·right
    generalize knStep toks acc r.nm = kn0
    generalize r.sy = sy at ht
    unfold knAdd
    clear ih
    induction sy generalizing kn0 with
    | nil => k_call_by "c" ht
    | cons z zs ih2 =>
     rw [List.foldl_cons]
     rcases List.mem_cons.mp ht with rfl | hz
     ·refine knAdd_mem (kt := toks) (sy := zs) ?_
      unfold knStep; split
      ·rename_i h; exact h.resolve_left ht0
      ·simp
     ·exact ih2 _ hz
   ·exact .inl hm
  ·right
   refine knAdd_mem ?_
   unfold knStep; split
   ·exact hm
   ·simp [hm]
theorem GR.cn0 {F : Addr → Option O} {S : GS} {rows : List R} {n : Nat} (h : GR F S rows n) : ∀ k, k ∉ S.kn → S.cn k = [] := by
 intro k hk
 rw [h.cn]
 split
 ·rename_i hn
  rw [occ_nil]; · rfl
  intro r hr hs
  exact hk (h.kn ▸ knOf_sym hr hs (names_toks k hn))
 ·rfl
theorem GR.ct0 {F : Addr → Option O} {S : GS} {rows : List R} {n : Nat} (h : GR F S rows n) : ∀ k, k ∉ S.kt → S.ct k = [] := by
 intro k hk
 rw [h.ct]
 split
 ·rename_i hn
  rw [occ_nil]; · rfl
  intro r hr hs
  exact hk (h.ktm r hr k hs hn)
 ·rfl
theorem GR.small {F : Addr → Option O} {S : GS} {rows : List R} {n : Nat} (h : GR F S rows n) (hr : ∀ r ∈ rows, RowOk r) (hl : n ≤ 10) : Small S := by
 have h3 : ∀ r ∈ rows, r.sy.length ≤ 3 := fun r hm => (hr r hm).len
 have hocc := fun k => occ_len rows k h3
 refine exG1_2 h.vs fun rs h1 h2 => ?_
 have h4 := h2.length
 have h5 := h.rl
 rw [List.length_zipIdx] at h4
 have h6 := h.pml; have h7 := h.kbl; have h8 := h.us; have h9 := h.kt.len
 refine ⟨by rw [h1]; simp; omega, by omega, by omega, fun k hk => by have := h.cbl k hk; omega, by rw [h.kn]; have := knOf_len rows h3; omega, h.cn0, ?_, ?_, by omega, h.ct0, by omega⟩
 ·intro k; rw [h.ct]; have := hocc k; split
  ·rw [List.length_map]; omega
  ·simp
 ·intro k; rw [h.cn]; have := hocc k; split
  ·rw [List.length_map]; omega
  ·simp
theorem GR.left {F F' : Addr → Option O} {S S' : GS} {rows : List R} {n : Nat} (h : GR F S rows n) (hF : Le F F') (hL : Left S S') (hk : KtOk S'.kt) (hm : ∀ k, k ∈ S.kt → k ∈ S'.kt) : GR F' S' rows (n + 1) := by
 refine exG1_2 h.vs fun rs h1 h2 => ?_
 refine ⟨⟨rs, by rw [hL.vs, h1], h2.mono fun _ _ q => q.le hF⟩, fun k hk => h.pm k (by rw [← hL.pm]; exact hk), fun r hr => by rw [hL.pm]; exact h.pm2 r hr, fun k v e => (h.pmv k v (by rw [← hL.pm]; exact e)).le hF, by rw [hL.pm]; exact h.pml, by rw [hL.kb]; exact h.kbl,
  fun k hk => by rw [hL.cb]; exact h.cbl k (by rw [← hL.kb]; exact hk), hk, fun r hr s hs ht => hm s (h.ktm r hr s hs ht), fun k => by rw [hL.ct]; exact h.ct k, by rw [hL.kn]; exact h.kn, fun k => by rw [hL.cn]; exact h.cn k, ?_, Nat.le_succ_of_le h.rl⟩
 have := hL.us; have := h.us; omega
theorem sum_len {ys : List Str} (h : ∀ y ∈ ys, y.length = 1) : (ys.map (·.length)).sum = ys.length := by
 induction ys with
 | nil => rfl
 | cons y r ih => rw [List.map_cons, List.sum_cons, h y (.head _), ih fun z hz => h z (.tail _ hz), List.length_cons]; omega
theorem GR.step {F F' : Addr → Option O} {S S' : GS} {rows : List R} {n : Nat} {r : R} {v : V} {us' kt' : List Str} {tp : Addr} (h : GR F S rows n) (hF : Le F F') (hr : ∀ q ∈ rows ++ [r], RowOk q) (htp : F' tp = some (.tup [.str r.lv.1, .int r.lv.2])) (hv : ProdAt F' v ⟨S.vs.length, r.nm, r.sy⟩ (.ref tp) (.str "") (.int r.ln))
  (hus : us'.length ≤ S.us.length + 1) (hkt : KtOk kt') (hmono : ∀ k, k ∈ S.kt → k ∈ kt') (hin0 : ∀ s ∈ r.sy, s ∈ toks → s ∈ kt') (T : Took { S with us := us', kt := kt' } S' r.nm r.sy v) : GR F' S' (rows ++ [r]) (n + 1) := by
 refine exG1_2 h.vs fun rs h1 h2 => ?_
 have hlen : S.vs.length = rows.length + 1 := by rw [h1]; have := h2.length; rw [List.length_zipIdx] at this; simp [this]
 have hrow : RowOk r := hr r (by simp)
 have hin : ∀ s ∈ r.sy, (s ∈ kt' ↔ s ∈ toks) := fun s hs => ⟨fun hm => by
  rcases alpha_split s (hrow.sy s hs) with h1 | h1
  ·exact h1
  ·exact absurd (hkt.sub s hm) (names_kt s h1), hin0 s hs⟩
 have hnum : (((S.vs.length : Nat)) : Int) = ((rows.length + 1 : Nat) : Int) := by rw [hlen]
 constructor
 ·refine ⟨rs ++ [v], by rw [T.vs]; dsimp only; rw [h1]; rfl, ?_⟩
  rw [List.zipIdx_append]
  refine LR.app (h2.mono fun _ _ q => q.le hF) (LR.one ⟨tp, ?_, htp⟩)
  rw [hlen] at hv
  have e : 1 + rows.length = rows.length + 1 := Nat.add_comm ..
  dsimp only
  rw [e]; exact hv
 ·intro k hk
  rw [T.pm] at hk
  rcases dget_put_some hk with rfl | hk
  ·exact ⟨r, by simp, rfl⟩
  ·refine exG1_2 (h.pm k hk) fun q hq e => ?_
   exact ⟨q, by simp [hq], e⟩
 ·intro q hq
  rw [T.pm]
  by_cases e : arrowText q.nm q.sy = arrowText r.nm r.sy
  ·rw [e, dget_same]; rfl
  ·rw [dget_put_ne e]
   rcases List.mem_append.mp hq with hq | hq
   ·exact h.pm2 q hq
   ·rw [List.mem_singleton.mp hq] at e; exact absurd rfl e
 ·intro k w e
  rw [T.pm] at e
  by_cases q : k = arrowText r.nm r.sy
  ·subst q
   rw [dget_same] at e
   k_call_by "c" e
   have a1 := (names_small r.nm hrow.nm).1
   have a2 := hrow.len
   have a3 := sum_len (ys := r.sy) fun y hy => alpha_one y (hrow.sy y hy)
   have a4 := (side_ok _ hrow.sd).2
   have a5 := hrow.v0; have a6 := hrow.v1; have a7 := hrow.l0; have a8 := hrow.l1
   exact ⟨_, r.nm, r.sy, tp, r.lv.1, "", r.lv.2, r.ln, hv, htp, a1, by omega, by omega, a4, a5, by omega, by decide +kernel, a7, by omega⟩
  ·rw [dget_put_ne q] at e
   exact (h.pmv k w e).le hF
 ·rw [T.pm]
  have := dput_len (k := arrowText r.nm r.sy) (v := v) h.pml
  simpa using this
 ·rw [T.kb]
  have := h.kbl
  dsimp only
  split <;> simp <;> omega
 ·intro k hk
  rw [T.cb]
  dsimp only
  by_cases e : k = r.nm
  ·rw [if_pos e]
   split
   ·rename_i hm
    have := h.cbl _ hm
    simp; omega
   ·simp
  ·rw [if_neg e]
   have hk' : k ∈ S.kb := by
    rw [T.kb] at hk
    dsimp only at hk
    split at hk
    ·exact hk
    ·rcases List.mem_append.mp hk with hk | hk
     ·exact hk
     ·exact absurd (List.mem_singleton.mp hk) e
   have := h.cbl k hk'
   simp; omega
 ·rw [T.kt]; exact hkt
 ·intro q hq s hs ht
  rw [T.kt]
  rcases List.mem_append.mp hq with hq | hq
  ·exact hmono s (h.ktm q hq s hs ht)
  ·rw [List.mem_singleton.mp hq] at hs; exact hin0 s hs ht
 ·intro k
  rw [T.ct]
  dsimp only
  unfold ctAdd
  rw [h.ct, occ_app, hnum]
  have e1 : (r.sy.filter fun t => decide (t = k) && decide (t ∈ kt')) = if k ∈ toks then r.sy.filter (fun t => decide (t = k)) else [] := by
   split
   ·rename_i hk
    apply List.filter_congr
    intro t ht
    by_cases e : t = k
    ·subst e; simp [(hin t ht).mpr hk]
    ·simp [e]
   ·rename_i hk
    rw [List.filter_eq_nil_iff]
    intro t ht
    by_cases e : t = k
    ·subst e
     have : t ∉ kt' := fun hm => hk ((hin t ht).mp hm)
     simp [this]
    ·simp [e]
  rw [e1]
  split
  ·rw [List.map_append, List.map_map]; rfl
  ·rfl
 ·rw [T.kn]; dsimp only
  rw [knOf_app, knAdd_congr hin, h.kn]
  congr 1
  unfold knStep
  have : r.nm ∉ toks := names_toks _ hrow.nm
  simp [this]
 ·intro k
  rw [T.cn]
  dsimp only
  unfold cnAdd
  rw [h.cn, occ_app, hnum]
  have e1 : (r.sy.filter fun t => decide (t = k) && !decide (t ∈ kt')) = if k ∈ names3 then r.sy.filter (fun t => decide (t = k)) else [] := by
   split
   ·rename_i hk
    apply List.filter_congr
    intro t ht
    by_cases e : t = k
    ·subst e
     have : t ∉ kt' := fun hm => names_toks t hk ((hin t ht).mp hm)
     simp [this]
    ·simp [e]
   ·rename_i hk
    rw [List.filter_eq_nil_iff]
    intro t ht
    by_cases e : t = k
    ·subst e
     have h1 : t ∈ toks := (alpha_split t (hrow.sy t ht)).resolve_right hk
     simp [hin0 t ht h1]
    ·simp [e]
  rw [e1]
  split
  ·rw [List.map_append, List.map_map]; rfl
  ·rfl
 ·rw [T.us]; dsimp only; have := h.us; omega
 ·have := h.rl; simp; omega
end Kk
end
section
set_option maxHeartbeats 1000000
namespace Kk
noncomputable def hand (raw : List Str) (ch : V) : List Str := raw ++ (match ch with | .str c => [PRC, c] | _ => [])
noncomputable def dupB (rows : List R) (nm : Str) (sy : List Str) : Bool := decide ((nm, sy) ∈ rows.map fun r => (r.nm, r.sy))
theorem ls_all : ∀ s ∈ lawSy, badL s = false ∧ uq s ∈ alpha ∧ s ∈ rawAl ∧ s ≠ PRC := by decide +kernel
theorem al_prc : PRC ∉ alpha := by decide +kernel
theorem n3_err : ("error" : Str) ∉ names3 := by decide +kernel
theorem uq_tl : uq PRC = PRC ∧ uq "Z" = "Z" ∧ uq "A" = "A" ∧ uq "Q" = "Q" := by decide +kernel
theorem bad_tl : badL PRC = false ∧ badL "Z" = false ∧ badL "A" = false ∧ badL "Q" = false := by decide +kernel
theorem SyOk.al {sy : List Str} (h : SyOk sy) : ∀ s ∈ sy.map uq, s ∈ alpha := by
 intro s hs
 refine exG1_2 (List.mem_map.mp hs) fun t ht r1 => ?_
 obtain rfl := r1
 exact (ls_all t (h.2 t ht)).2.1
theorem SyOk.prc {sy : List Str} (h : SyOk sy) : PRC ∉ sy.map uq := fun hm => al_prc (h.al _ hm)
theorem SyOk.bad {sy : List Str} (h : SyOk sy) : ∀ s ∈ sy, badL s = false := fun s hs => (ls_all s (h.2 s hs)).1
theorem two_inj {a b : List Str} {x y z w : Str} (h : a ++ [x, y] = b ++ [z, w]) : a = b ∧ x = z ∧ y = w := by
 refine exG0_2 (List.append_inj' h rfl) fun h1 h2 => ?_
 simp at h2
 exact ⟨h1, h2.1, h2.2⟩
theorem dup_of {F : Addr → Option O} {S : GS} {rows : List R} {n : Nat} {nm : Str} {sy : List Str} (hG : GR F S rows n) (hr : ∀ r ∈ rows, RowOk r) (hn : nm ∈ names3) (hs : ∀ s ∈ sy, s ∈ alpha) (h : dget S.pm (arrowText nm sy) ≠ none) : dupB rows nm sy = true := by
 have h1 : (dget S.pm (arrowText nm sy)).isSome = true := by
  cases e : dget S.pm (arrowText nm sy) with
  | none => exact absurd e h
  | some v => rfl
 refine exG1_2 (hG.pm _ h1) fun r hr1 e => ?_
 refine exG0_2 (arrow_inj hn (hr r hr1).nm hs (hr r hr1).sy e) fun e1 e2 => ?_
 unfold dupB
 exact decide_eq_true (List.mem_map.mpr ⟨r, hr1, by rw [e1, e2]⟩)
theorem not_dup {F : Addr → Option O} {S : GS} {rows : List R} {n : Nat} {nm : Str} {sy : List Str} (hG : GR F S rows n) (h : dget S.pm (arrowText nm sy) = none) : dupB rows nm sy = false := by
 unfold dupB
 refine decide_eq_false fun hm => ?_
 refine exG1_2 (List.mem_map.mp hm) fun r hr1 e => ?_
 have e1 : r.nm = nm := congrArg Prod.fst e
 have e2 : r.sy = sy := congrArg Prod.snd e
 have := hG.pm2 r hr1
 rw [e1, e2, h] at this
 k_call_by "c" this
theorem refuse_prec {F : Addr → Option O} {S : GS} {rows : List R} {n : Nat} {nm c : Str} {raw : List Str} {pd : Str → Option (Str × Int)} (hG : GR F S rows n) (hr : ∀ r ∈ rows, RowOk r) (hn : nm ∈ names3) (hs : SyOk raw) (hc : uq c = c) (hb : badL c = false) (hp : pd c ≠ none) (hcp : c ≠ PRC) (h : Refuse pd S nm (raw ++ [PRC, c])) : dupB rows nm (raw.map uq) = true := by
 have hq : (raw ++ [PRC, c]).map uq = raw.map uq ++ [PRC, c] := by rw [List.map_append, List.map_cons, List.map_cons, uq_tl.1, hc]; rfl
 induction h with
 | tok h => exact absurd (hG.kt.sub _ h) (names_kt nm hn)
 | err h => rw [h] at hn; exact absurd hn n3_err
 | lit s h1 h2 =>
  exfalso
  rcases List.mem_append.mp h1 with h1 | h1
  ·rw [hs.bad s h1] at h2; k_call_by "c" h2
  ·simp only [List.mem_cons, List.not_mem_nil, or_false] at h1
   rcases h1 with rfl | rfl
   ·rw [bad_tl.1] at h2; k_call_by "c" h2
   ·rw [hb] at h2; k_call_by "c" h2
 | late h1 h2 =>
  rw [hq] at h2
  induction h2 with
  | last q' e =>
   have e' : (raw.map uq ++ [PRC]) ++ [c] = q' ++ [PRC] := by rw [← e]; simp
   have := (List.append_inj' e' rfl).2
   simp at this
   exact absurd this hcp
  | place q' y z e h3 h4 h5 => exact absurd (two_inj e).2.1.symm h4
  | unk q' z e h3 h4 => rw [← (two_inj e).2.2] at h3; exact absurd h3 hp
  | dup sy l h3 h4 =>
   induction h3 with
   | prec z e _ => rw [← (two_inj e).1] at h4; exact dup_of hG hr hn hs.al h4
   | plain h5 _ _ => exact absurd (by simp) h5
theorem refuse_plain {F : Addr → Option O} {S : GS} {rows : List R} {n : Nat} {nm : Str} {raw : List Str} {pd : Str → Option (Str × Int)} (hG : GR F S rows n) (hr : ∀ r ∈ rows, RowOk r) (hn : nm ∈ names3) (hs : SyOk raw) (h : Refuse pd S nm raw) : dupB rows nm (raw.map uq) = true := by
 have hp := hs.prc
 induction h with
 | tok h => exact absurd (hG.kt.sub _ h) (names_kt nm hn)
 | err h => rw [h] at hn; exact absurd hn n3_err
 | lit s h1 h2 => rw [hs.bad s h1] at h2; k_call_by "c" h2
 | late h1 h2 =>
  induction h2 with
  | last q' e => exact absurd (by rw [e]; simp) hp
  | place q' y z e h3 h4 h5 => exact absurd h3 hp
  | unk q' z e h3 h4 => exact absurd (by rw [e]; simp) hp
  | dup sy l h3 h4 =>
   induction h3 with
   | prec z e _ => exact absurd (by rw [e]; simp) hp
   | plain h5 e _ => rw [e] at h4; exact dup_of hG hr hn hs.al h4
theorem deed_ref {F : Addr → Option O} {S : GS} {rows : List R} {n : Nat} {nm : Str} {raw : List Str} {w : Bool} {ch : V} {pd : Str → Option (Str × Int)} (hd : Deed nm raw w ch) (hG : GR F S rows n) (hr : ∀ r ∈ rows, RowOk r) (hZ : pd "Z" ≠ none) (hA : pd "A" ≠ none) (h : Refuse pd S nm (hand raw ch)) : (w || dupB rows nm (raw.map uq)) = true := by
 induction hd with
 | z h1 h2 => exact refuse_prec hG hr h1 h2 uq_tl.2.1 bad_tl.2.1 hZ (by decide) h
 | a h1 h2 => exact refuse_prec hG hr h1 h2 uq_tl.2.2.1 bad_tl.2.2.1 hA (by decide) h
 | ok h1 h2 =>
  unfold hand at h; dsimp only at h
  rw [List.append_nil] at h
  exact refuse_plain hG hr h1 h2 h
 | q _ _ => rfl
 | p _ _ _ _ => rfl
 | p2 _ _ _ _ => rfl
 | tok _ _ => rfl
 | lit _ _ _ _ _ _ => rfl
inductive Good (pd : Str → Option (Str × Int)) (kt raw : List Str) (l : Str × Int) : V → Prop
 | c (c : Str) : pd c = some l → Good pd kt raw l (.str c)
 | n : l = lvlOf pd kt (raw.map uq) → Good pd kt raw l .none
theorem Good.or {pd : Str → Option (Str × Int)} {kt raw : List Str} {l : Str × Int} {ch : V} (h : Good pd kt raw l ch) : (ch = .none ∧ l = lvlOf pd kt (raw.map uq)) ∨ ∃ cc, ch = .str cc ∧ pd cc = some l := by
 induction h with
 | c cc hcc => exact .inr ⟨cc, rfl, hcc⟩
 | n e => exact .inl ⟨rfl, e⟩
structure TakenD (pd : Str → Option (Str × Int)) (rows : List R) (kt : List Str) (nm : Str) (raw : List Str) (w : Bool) (ch : V) (sy : List Str) (l : Str × Int) : Prop where
 w : w = false
 sy : sy = raw.map uq
 dup : dupB rows nm (raw.map uq) = false
 nm : nm ∈ names3
 ok : SyOk raw
 good : Good pd kt raw l ch
theorem take_prec {pd : Str → Option (Str × Int)} {kt q sy : List Str} {c : Str} {l : Str × Int} (h : Takes pd kt (q ++ [PRC, c]) sy l) : sy = q ∧ pd c = some l := by
 induction h with
 | prec z e hp => obtain ⟨e1, -, e2⟩ := two_inj e; rw [e2]; exact ⟨e1.symm, hp⟩
 | plain h5 _ _ => exact absurd (by simp) h5
theorem map_prc (raw : List Str) {c : Str} (hc : uq c = c) : (raw ++ [PRC, c]).map uq = raw.map uq ++ [PRC, c] := by rw [List.map_append, List.map_cons, List.map_cons, uq_tl.1, hc]; rfl
theorem deed_take {F : Addr → Option O} {S : GS} {rows : List R} {n : Nat} {nm : Str} {raw sy kt : List Str} {w : Bool} {ch : V} {l : Str × Int} {pd : Str → Option (Str × Int)} (hd : Deed nm raw w ch) (hG : GR F S rows n) (hQ : pd "Q" = none) (hP : pd PRC = none)
  (h1 : nm ∉ S.kt) (h2 : ∀ s ∈ hand raw ch, badL s = false) (h3 : Takes pd kt ((hand raw ch).map uq) sy l) (h4 : dget S.pm (arrowText nm sy) = none) : TakenD pd rows kt nm raw w ch sy l := by
 induction hd with
 | z k1 k2 =>
  unfold hand at h3; dsimp only at h3
  rw [map_prc raw uq_tl.2.1] at h3
  refine exG0_2 (take_prec h3) fun e1 e2 => ?_
  exact ⟨rfl, e1, by rw [← e1]; exact not_dup hG h4, k1, k2, .c _ e2⟩
 | a k1 k2 =>
  unfold hand at h3; dsimp only at h3
  rw [map_prc raw uq_tl.2.2.1] at h3
  refine exG0_2 (take_prec h3) fun e1 e2 => ?_
  exact ⟨rfl, e1, by rw [← e1]; exact not_dup hG h4, k1, k2, .c _ e2⟩
 | ok k1 k2 =>
  unfold hand at h3; dsimp only at h3
  rw [List.append_nil] at h3
  induction h3 with
  | prec z e _ => exact absurd (by rw [e]; simp) k2.prc
  | plain h5 e1 e2 => exact ⟨rfl, e1, by rw [← e1]; exact not_dup hG h4, k1, k2, .n e2⟩
 | q k1 k2 =>
  exfalso
  unfold hand at h3; dsimp only at h3
  rw [map_prc raw uq_tl.2.2.2] at h3
  refine exG0_2 (take_prec h3) fun e1 e2 => ?_
  rw [hQ] at e2; k_call_by "c" e2
 | p sy0 k1 k2 e =>
  exfalso
  unfold hand at h3; dsimp only at h3
  rw [List.append_nil, e, List.map_append, List.map_cons, List.map_nil, uq_tl.1] at h3
  induction h3 with
  | prec z e hp =>
   have e' : sy0.map uq ++ [PRC] = (sy ++ [PRC]) ++ [z] := by rw [e]; simp
   have := (List.append_inj' e' rfl).2
   simp at this
   rw [← this, hP] at hp; k_call_by "c" hp
  | plain h5 _ _ => exact absurd (by simp) h5
 | p2 sy0 k1 k2 e =>
  exfalso
  unfold hand at h3; dsimp only at h3
  rw [List.append_nil, e, List.map_cons, List.map_cons, List.map_append, List.map_cons, List.map_nil, uq_tl.1, uq_tl.2.1, uq_tl.2.2.1] at h3
  induction h3 with
  | prec z e hp =>
   have e' : (PRC :: ("Z" : Str) :: sy0.map uq) ++ [("A" : Str)] = (sy ++ [PRC]) ++ [z] := by
    rw [List.append_assoc]; exact e
   have e2 := (List.append_inj' e' rfl).1
   induction sy with
   | nil => simp at e2
   | cons a r =>
    rw [List.cons_append, List.cons.injEq] at e2
    have hm : PRC ∈ ("Z" : Str) :: sy0.map uq := by rw [e2.2]; simp
    rcases List.mem_cons.mp hm with hm | hm
    ·exact absurd hm (by decide)
    ·exact k2.prc hm
  | plain h5 _ _ => exact absurd (by simp) h5
 | tok k1 k2 => exact absurd (hG.kt.base nm (by revert k1; simp only [List.mem_cons, List.not_mem_nil, or_false]; rintro (rfl | rfl) <;> simp)) h1
 | lit sy0 b k1 k2 k3 e =>
  have := h2 b (by unfold hand; rw [e]; simp)
  have hb : ∀ b ∈ (["'ab'", "''"] : List Str), badL b = true := by decide +kernel
  rw [hb b k3] at this; k_call_by "c" this
theorem raw_al {nm : Str} {raw : List Str} {w : Bool} {ch : V} (hd : Deed nm raw w ch) : (∀ s ∈ raw, s ∈ rawAl) ∧ raw.length ≤ 6 ∧ (ch = .none ∨ (raw.length ≤ 3 ∧ ∃ c : Str, ch = .str c ∧ c ∈ rawAl)) := by
 have hl : ∀ sy, SyOk sy → ∀ s ∈ sy, s ∈ rawAl := fun sy h s hs => (ls_all s (h.2 s hs)).2.2.1
 induction hd with
 | z _ h => exact ⟨hl _ h, by have := h.1; omega, .inr ⟨h.1, _, rfl, by decide⟩⟩
 | a _ h => exact ⟨hl _ h, by have := h.1; omega, .inr ⟨h.1, _, rfl, by decide⟩⟩
 | q _ h => exact ⟨hl _ h, by have := h.1; omega, .inr ⟨h.1, _, rfl, by decide⟩⟩
 | tok _ h => exact ⟨hl _ h, by have := h.1; omega, .inl rfl⟩
 | ok _ h => exact ⟨hl _ h, by have := h.1; omega, .inl rfl⟩
 | p sy _ h e =>
  refine ⟨?_, by rw [e]; have := h.1; simp; omega, .inl rfl⟩
  rw [e]; intro s hs
  rcases List.mem_append.mp hs with hs | hs
  ·exact hl _ h s hs
  ·rw [List.mem_singleton.mp hs]; decide
 | p2 sy _ h e =>
  refine ⟨?_, by rw [e]; have := h.1; simp; omega, .inl rfl⟩
  rw [e]; intro s hs
  simp only [List.mem_cons, List.mem_append, List.not_mem_nil, or_false] at hs
  rcases hs with rfl | rfl | hs | rfl
  ·decide
  ·decide
  ·exact hl _ h s hs
  ·decide
 | lit sy b _ h hb e =>
  refine ⟨?_, by rw [e]; have := h.1; simp; omega, .inl rfl⟩
  rw [e]; intro s hs
  rcases List.mem_append.mp hs with hs | hs
  ·exact hl _ h s hs
  ·rw [List.mem_singleton.mp hs]
   have : ∀ b ∈ (["'ab'", "''"] : List Str), b ∈ rawAl := by decide +kernel
   exact this b hb
theorem hand_al {nm : Str} {raw : List Str} {w : Bool} {ch : V} (hd : Deed nm raw w ch) : (∀ s ∈ hand raw ch, s ∈ rawAl) ∧ (hand raw ch).length ≤ 6 := by
 refine exG0_3 (raw_al hd) fun h1 h2 h3 => ?_
 rcases h3 with rfl | ⟨h3, c, rfl, h4⟩
 ·unfold hand; simp only [List.append_nil]; exact ⟨h1, h2⟩
 ·unfold hand; dsimp only
  refine ⟨fun s hs => ?_, by simp; omega⟩
  simp only [List.mem_cons, List.mem_append, List.not_mem_nil, or_false] at hs
  rcases hs with hs | rfl | rfl
  ·exact h1 s hs
  ·decide
  ·exact h4
theorem shape_of {q : List Str} {raw : List Str} (hr : ∀ s ∈ raw, s ∈ rawAl) (e : q = raw.map uq) (hl : q.length ≤ 6) (a : ∀ sy z, q = sy ++ [PRC, z] → ∀ y ∈ sy, y ∈ alpha) (b : PRC ∉ q → q.length ≤ 4 ∧ ∀ y ∈ q, y ∈ alpha) : Shape q := by
 refine ⟨hl, a, b, ?_, ?_⟩
 ·intro y hy; rw [e] at hy
  refine exG1_2 (List.mem_map.mp hy) fun t ht r2 => ?_
  obtain rfl := r2
  exact (uq_ok t (hr t ht)).1
 ·intro y hy; rw [e] at hy
  refine exG1_2 (List.mem_map.mp hy) fun t ht r3 => ?_
  obtain rfl := r3
  exact (uq_ok t (hr t ht)).2
theorem deed_shape {nm : Str} {raw : List Str} {w : Bool} {ch : V} (hd : Deed nm raw w ch) (hbad : ∀ s ∈ hand raw ch, badL s = false) : Shape ((hand raw ch).map uq) := by
 refine exG0_2 (hand_al hd) fun h1 h2 => ?_
 have pr : ∀ (c : Str), uq c = c → SyOk raw → (∀ s ∈ raw ++ [PRC, c], s ∈ rawAl) → Shape ((raw ++ [PRC, c]).map uq) := fun c hc h hr => by
  refine shape_of hr rfl (by have := h.1; simp; omega) ?_ ?_
  ·intro sy z e; rw [map_prc raw hc] at e; rw [← (two_inj e).1]; exact h.al
  ·intro hp; rw [map_prc raw hc] at hp; exact absurd (by simp) hp
 have pl : SyOk raw → ch = .none → (∀ s ∈ raw ++ [], s ∈ rawAl) → Shape ((raw ++ []).map uq) := fun h hc hr => by
  refine shape_of hr rfl (by have := h.1; simp; omega) ?_ ?_
  ·intro sy z e; rw [List.append_nil] at e; exact absurd (by rw [e]; simp) h.prc
  ·intro hp; rw [List.append_nil]; exact ⟨by have := h.1; simp; omega, h.al⟩
 induction hd with
 | z _ h => exact pr _ uq_tl.2.1 h h1
 | a _ h => exact pr _ uq_tl.2.2.1 h h1
 | q _ h => exact pr _ uq_tl.2.2.2 h h1
 | tok _ h => exact pl h rfl h1
 | ok _ h => exact pl h rfl h1
 | p sy0 _ h e =>
  refine shape_of h1 rfl (by rw [List.length_map]; exact h2) ?_ ?_
  ·intro sy z e2
   unfold hand at e2; dsimp only at e2
   rw [List.append_nil, e, List.map_append, List.map_cons, List.map_nil, uq_tl.1] at e2
   have e' : sy0.map uq ++ [PRC] = (sy ++ [PRC]) ++ [z] := by rw [e2]; simp
   have := (List.append_inj' e' rfl).1
   exact absurd (by rw [this]; simp) h.prc
  ·intro hp; exact absurd (by unfold hand; dsimp only; rw [e]; simp [uq_tl.1]) hp
 | p2 sy0 _ h e =>
  have he : (hand raw .none).map uq = (PRC :: ("Z" : Str) :: sy0.map uq) ++ [("A" : Str)] := by
   unfold hand; dsimp only
   rw [List.append_nil, e, List.map_cons, List.map_cons, List.map_append, List.map_cons, List.map_nil, uq_tl.1, uq_tl.2.1, uq_tl.2.2.1]; rfl
  refine shape_of h1 rfl (by rw [List.length_map]; exact h2) ?_ ?_
  ·intro sy z e2
   rw [he] at e2
   have e' : (PRC :: ("Z" : Str) :: sy0.map uq) ++ [("A" : Str)] = (sy ++ [PRC]) ++ [z] := by rw [e2]; simp
   have e2 := (List.append_inj' e' rfl).1
   exfalso
   induction sy with
   | nil => simp at e2
   | cons a r =>
    rw [List.cons_append, List.cons.injEq] at e2
    have hm : PRC ∈ ("Z" : Str) :: sy0.map uq := by rw [e2.2]; simp
    rcases List.mem_cons.mp hm with hm | hm
    ·exact absurd hm (by decide)
    ·exact h.prc hm
  ·intro hp; exact absurd (by rw [he]; simp) hp
 | lit sy0 b _ h hb e =>
  have := hbad b (by unfold hand; rw [e]; simp)
  have hbb : ∀ b ∈ (["'ab'", "''"] : List Str), badL b = true := by decide +kernel
  rw [hbb b hb] at this; k_call_by "c" this
noncomputable def lvStep (pd : Str → Option (Str × Int)) (l : Str × Int) (x : Str) : Str × Int := if x ∈ toks then (pd x).getD ("right", 0) else l
noncomputable def lvRun (pd : Str → Option (Str × Int)) (sy : List Str) : Str × Int := sy.foldl (lvStep pd) ("right", 0)
theorem lvRun_app (pd : Str → Option (Str × Int)) (sy : List Str) (x : Str) : lvRun pd (sy ++ [x]) = lvStep pd (lvRun pd sy) x := by simp [lvRun]
theorem lvl_run {pd : Str → Option (Str × Int)} {kt : List Str} : ∀ {sy : List Str}, (∀ s ∈ sy, (s ∈ kt ↔ s ∈ toks)) → lvlOf pd kt sy = lvRun pd sy := by
 intro sy
 suffices hh : ∀ (r : List Str), (∀ s ∈ r, (s ∈ kt ↔ s ∈ toks)) → lvlOf pd kt r.reverse = lvRun pd r.reverse by
  intro h
  have := hh sy.reverse (fun s hs => h s (by simpa using hs))
  rwa [List.reverse_reverse] at this
 intro r
 induction r with
 | nil => intro _; rfl
 | cons x r ih =>
  intro h
  rw [List.reverse_cons, lvRun_app, ← ih fun s hs => h s (.tail _ hs)]
  unfold lvlOf rmost lvStep
  rw [List.reverse_append]
  have hx := h x (.head _)
  by_cases hm : x ∈ toks
  ·have : x ∈ kt := hx.mpr hm
   simp [hm, this]
  ·have : x ∉ kt := fun h => hm (hx.mp h)
   simp [hm, this]
theorem kt_in {S : GS} {raw hd : List Str} (hS : KtOk S.kt) (h : SyOk raw) (hh : ∀ s ∈ raw, s ∈ hd) : ∀ s ∈ raw.map uq, s ∈ toks → s ∈ ktRun S.kt hd := by
 intro s hs ht
 refine exG1_2 (List.mem_map.mp hs) fun t ht1 r4 => ?_
 obtain rfl := r4
 have key : ∀ t ∈ lawSy, uq t ∈ toks → litL t = true ∨ uq t ∈ (["A", "B", "C", "error"] : List Str) := by decide +kernel
 rcases key t (h.2 t ht1) ht with k | k
 ·exact ktRun_lit k (hh t ht1)
 ·exact ktRun_mono (hS.base _ k)
theorem kt_iff {kt : List Str} {raw : List Str} (hk : KtOk kt) (h : SyOk raw) (hin : ∀ s ∈ raw.map uq, s ∈ toks → s ∈ kt) : ∀ s ∈ raw.map uq, (s ∈ kt ↔ s ∈ toks) := fun s hs => ⟨fun hm => by
  rcases alpha_split s (h.al s hs) with h1 | h1
  ·exact h1
  ·exact absurd (hk.sub s hm) (names_kt s h1), hin s hs⟩
end Kk
end
section
set_option maxHeartbeats 1000000
namespace Kk
variable {α β γ δ : Type}
theorem comp_pure {scope : Scope} {asg : List V → M Unit} {tests : M Bool} {elt : M V} {Q : V → St → Prop} {st : St} {a : Addr} {xs : List V} {ys : List α} {Rr : V → α → Prop} (RO : (Addr → Option O) → V → β → Prop) (hm : ∀ μ μ' v b, Le μ μ' → RO μ v b → RO μ' v b) (f : α → List β) (L : List Str)
  (hf : hasFree scope st) (hx : st.μ a = some (.list xs)) (hr : LR Rr xs ys) (hlen : ys.length ≤ 900)
  (hs : ∀ y v st' acc (K : List V → St → Prop), y ∈ ys → Rr v y → Le st.μ st'.μ → SameBut L (compSt scope st).σ st'.σ → acc.length ≤ 1000 → (∀ st2 v b, f y = [b] → Le st'.μ st2.μ → SameBut L (compSt scope st).σ st2.σ → RO st2.μ v b → K (acc ++ [v]) st2) → (∀ st2, f y = [] → Le st'.μ st2.μ → SameBut L (compSt scope st).σ st2.σ → K acc st2) →
   asg [v] (fun _ st1 => tests (compB elt acc K) (fun _ _ => False) st1) (fun _ _ => False) st')
  (he : ∀ D μ' vs, Le st.μ μ' → st.μ D = none → μ' D = some (.list vs) → LR (RO μ') vs (ys.flatMap f) → Q (.ref D) ⟨st.σ, μ'⟩) : compK scope asg tests elt Q (.list a) st := by
 refine comp_gen hf (its_list hx) hr.ones (fun pre acc st' => Le st.μ st'.μ ∧ SameBut L (compSt scope st).σ st'.σ ∧ acc.length ≤ pre.length ∧ LR (RO st'.μ) acc (pre.flatMap f)) ⟨Le.refl, SameBut.refl, Nat.le_refl _, trivial⟩ ?_ ?_ ?_
 ·intro i acc st' hi q0q
  refine exG0_2 q0q fun k _ => ?_
  exact cur_list (k _ _ hx)
 ·intro pre y post l acc st' K hps q0q q1q hK
  refine exG1_2 q0q fun v r1 hR => ?_
  obtain rfl := r1
  refine exG0_4 q1q fun k1 k2 k3 k4 => ?_
  have hpl : pre.length ≤ 900 := preLe hps (by first | omega | (simp; done) | (simp; omega))
  refine hs y v st' acc K (by rw [hps]; simp) hR k1 k2 (by omega) (fun st2 w b e q1 q2 q3 => ?_) (fun st2 e q1 q2 => ?_)
  ·refine hK _ _ ⟨k1.trans q1, q2, by simp; omega, ?_⟩
   rw [List.flatMap_append]
   refine LR.app (k4.mono fun _ _ => hm _ _ _ _ q1) ?_
   simp only [List.flatMap_cons, List.flatMap_nil, List.append_nil, e]
   exact LR.one q3
  ·refine hK _ _ ⟨k1.trans q1, q2, by simp; omega, ?_⟩
   rw [List.flatMap_append]
   simp only [List.flatMap_cons, List.flatMap_nil, List.append_nil, e]
   exact k4.mono fun _ _ => hm _ _ _ _ q1
 ·intro acc st' D q0q hD
  refine exG0_4 q0q fun k1 k2 k3 k4 => ?_
  exact he D _ acc (k1.new hD) (k1.noneOf hD) u_same (k4.mono fun _ _ => hm _ _ _ _ (Le.refl.new hD))
theorem wk_lenP {a : Addr} {vs : Array Value} {Q : V → St → Prop} {X : Ex → St → Prop} {st : St} (h1 : st.μ a = some (.pin vs)) (h2 : vs.size ≤ 100000) (h : Q (.int vs.size) st) : lenPM [.ref a] Q X st := .mk h1 h2 h
theorem wk_mul {i j : Int} {Q : V → St → Prop} {X : Ex → St → Prop} {st : St} (h1 : i.natAbs ≤ 1000) (h : Q (.int (i * j)) st) : binM .Mult (.int i) (.int j) Q X st := .mulI h1 h
theorem sideN_ok : ∀ s ∈ sideN, PyData.strOk s = true := fun s hs => (side_ok s hs).1
theorem names3_ok : ∀ s ∈ names3, PyData.strOk s = true := by decide +kernel
noncomputable def chkD (num : Int) (r : R) : PyData := .tuple [.int num, .str r.nm, .tuple (r.sy.map .str), .int r.ln, .tuple [.str r.lv.1, .int r.lv.2], .int (r.sy.length : Int)]
theorem chk_ok {num : Int} {r : R} (h : RowOk r) : okD (chkD num r) := by
 constructor
 ·unfold chkD
  simp only [PyData.canLay0, PyData.canLayAll0, names3_ok _ h.nm, sideN_ok _ h.sd, canLay_strs fun y hy => alpha_ok y (h.sy y hy), Bool.and_self]
 ·unfold chkD
  simp only [PyData.depth, PyData.depthAll, depth_strs]
  omega
structure Lc where
 sc : Addr
 gr : Addr
 lv : Addr
 ta : Addr
 sl : Addr
 pv : Array Value
 pd : Str → Option (Str × Int)
 ns : List Int
inductive LJ (c : Lc) (n : Nat) (rows : List R) (st : St) : Prop
 | mk (F : Addr → Option O) (ad : Lb → Addr) (S : GS) (vs : List V) (I : LI c.sc c.gr c.lv c.ta c.pv c.pd F ad S vs st) (G : GR F S rows n) (hv : LR (RowR F) vs rows) (sy : S.sy = none) (es : S.es.length ≤ 15) (ok : ∀ r ∈ rows, RowOk r) (sl : F c.sl = some (.list (c.ns.map .int))) : LJ c n rows st
variable {g : Gx} {X : Ex → St → Prop} {Q : Fl → St → Prop} {st : St}
theorem LI.step {sc gr lv ta : Addr} {pv : Array Value} {pd : Str → Option (Str × Int)} {F : Addr → Option O} {ad : Lb → Addr} {S : GS} {vs : List V} {st st' : St} (h : LI sc gr lv ta pv pd F ad S vs st) {L : List Str} (k : SameBut L st.σ st'.σ) (hL : ∀ x ∈ (["script", "grammar", "levels", "taken"] : List Str), x ∉ L) (hm : Le st.μ st'.μ) : LI sc gr lv ta pv pd F ad S vs st' :=
 ⟨k.get (hL _ (by simp)) h.s1, k.get (hL _ (by simp)) h.s2, k.get (hL _ (by simp)) h.s3, k.get (hL _ (by simp)) h.s4, h.sc, h.lv, h.G.grow hm, h.pr, h.tk⟩
theorem LJ.step {c : Lc} {n : Nat} {rows : List R} {st st' : St} (h : LJ c n rows st) {L : List Str} (k : SameBut L st.σ st'.σ) (hL : ∀ x ∈ (["script", "grammar", "levels", "taken"] : List Str), x ∉ L) (hm : Le st.μ st'.μ) : LJ c n rows st' := by
 obtain ⟨F, ad, S, vs, I, G, hv, sy, es, ok, sl⟩ := h
 exact ⟨F, ad, S, vs, I.step k hL hm, G, hv, sy, es, ok, sl⟩
theorem law_b7 {n : Nat} {m : Mine g} {c : Lc} {k : Nat} {rows : List R} (J : LJ c k rows st) (hk : k ≤ 10) (h : ∀ st', LJ c k rows st' → Q .next st') : (r_lawb_c7 (n := n) m).1 Q X st := by
 have J0 := J
 obtain ⟨F, ad, S, vs, ⟨s1, s2, s3, s4, i1, i2, hG, i3, i4⟩, G, hv, _, _, ok, _⟩ := J
 unfold r_lawb_c7; dsimp only
 have hta := hG.tk i4
 have hSm := G.small ok hk
 have hvl := hSm.vs
 refine exG1_2 G.vs fun rs e1 e2 => ?_
 have hrl := G.rl
 walk_at "w"
 refine loop_gen (its_enL (by walk_at "mu")) (LR.enum 0 hv) (fun pre st' => SameBut ["k", "row", "rule"] st.σ st'.σ ∧ Le st.μ st'.μ) ?_ ?_ ?_ ?_
 ·exact ⟨SameBut.refl, Le.refl⟩
 ·intro i st' hi q0q
  refine exG0_2 q0q fun _ k2 => ?_
  exact cur_enL (k2 _ _ hta) rfl
 ·intro pre q0q post l st1 K hps q1q q2q hK
  obtain ⟨r, j⟩ := q0q
  refine exG1_2 q1q fun v r2 hv1 => ?_
  obtain rfl := r2
  refine exG0_2 q2q fun b1 b2 => ?_
  have hsplit : rows = pre.map (·.1) ++ r :: post.map (·.1) := by
   have := congrArg (List.map (·.1)) hps
   simpa using this
  have hrm : r ∈ rows := by rw [hsplit]; simp
  have hro := ok r hrm
  have hj : j = pre.length := by
   have h1 : (pre ++ (r, j) :: post)[pre.length]? = some (r, j) := by simp
   rw [← hps, List.getElem?_zipIdx] at h1
   cases hh : rows[pre.length]? with
   | none => rw [hh] at h1; k_call_by "c" h1
   | some q => rw [hh] at h1; simp at h1; omega
  have hz : (rows.zipIdx 1)[j]? = some (r, j + 1) := by
   have h1 : (pre ++ (r, j) :: post)[pre.length]? = some (r, j) := by simp
   rw [← hps, List.getElem?_zipIdx] at h1
   rw [List.getElem?_zipIdx, hj]
   cases hh : rows[pre.length]? with
   | none => rw [hh] at h1; k_call_by "c" h1
   | some q =>
    rw [hh] at h1; simp at h1
    simp [h1.1]; omega
  refine exG1_2 (e2.get hz) fun u u1 r3 => ?_
  refine exG1_2 r3 fun tp u2 u3 => ?_
  have hu : S.vs[j + 1]? = some u := by rw [e1]; exact u1
  have hGs := hG.grow b2
  have hFm := hGs.mem.le
  obtain ⟨i0, e0, j1, -, -, -, -, -, -, -, -, -, -, -, -⟩ := hGs.all
  obtain ⟨ra, rl, rtp, rfl, w1, w2, w3⟩ := hv1.le hFm
  have u2' := u2.le hFm
  have u3' := hFm _ _ u3
  obtain ⟨pa, pdd, pes, pep, pt, rfl, p1, p2, p3, p4, p5, p6, p7, p8, p9⟩ := u2'
  have hsl : (r.sy.map V.str).length ≤ 1000 := by have := hro.len; simp; omega
  have hsl5 : (r.sy.map V.str).length ≤ 100000 := by omega
  have hal := hro.len
  walk_at "w"
  refine wk_addI ?_
  refine wk_getO (by walk_at "mu") (by walk_at "mu") ?_
  refine sp_getitem_G (i := j + 1) (hGs.grow Le.refl) hvl hu ?_
  walk_at "w"
  refine wk_own (by walk_at "mu") (by walk_at "mu") ?_
  refine sp_len_P (p := ⟨((j + 1 : Nat) : Int), r.nm, r.sy⟩) (pv := .ref tp) (fi := .str "") (lv := .int r.ln) ?_ (by dsimp only; omega) ?_
  ·exact .mk pa pdd pes pep pt rfl (by walk_at "mu") (by walk_at "mu") p3 p4 p5 (by walk_at "mu") p7 p8 p9
  refine ⟨_, rfl, ⟨by omega, by dsimp only; omega⟩, ?_⟩
  walk_at "w"
  refine wk_tup (by simp) fun t1 ht1 => ?_
  walk_at "w"
  refine wk_addI ?_
  walk_at "w"
  refine wk_idxT (j := 0) (u := .str r.nm) (by walk_at "mu") (by simp) (by simp [seqIndex?]) rfl ?_
  walk_at "w"
  refine wk_idxT (j := 1) (u := .ref rl) (by walk_at "mu") (by simp) (by simp [seqIndex?]) rfl ?_
  walk_at "w"
  refine wk_tuple (xs := r.sy.map .str) (by walk_at "mu") hsl fun t2 ht2 => ?_
  walk_at "w"
  refine wk_idxT (j := 2) (u := .int r.ln) (by walk_at "mu") (by simp) (by simp [seqIndex?]) rfl ?_
  walk_at "w"
  refine wk_idxT (j := 3) (u := .ref rtp) (by walk_at "mu") (by simp) (by simp [seqIndex?]) rfl ?_
  walk_at "w"
  refine wk_idxT (j := 1) (u := .ref rl) (by walk_at "mu") (by simp) (by simp [seqIndex?]) rfl ?_
  walk_at "w"
  refine wk_tup (by simp) fun t3 ht3 => ?_
  walk_at "w"
  have hlay := chk_ok (num := ((j + 1 : Nat) : Int)) hro
  refine wk_neR (d := chkD ((j + 1 : Nat) : Int) r) (e := chkD ((j + 1 : Nat) : Int) r) ?_ ?_ hlay hlay ?_
  ·refine .tup (by walk_at "mu") (.cons (.int _) (.cons (.str _) (.cons (.tup (by walk_at "mu") (rdAll_strs r.sy)) (.cons (.int _) (.cons (.tup (by walk_at "mu") (.cons (.str _) (.cons (.int _) .nil))) (.cons ?_ .nil))))))
   exact .int _
  ·have e5 : ∀ μ, Rd μ (.int (((j : Nat) : Int) + 1)) (.int ((j + 1 : Nat) : Int)) := fun _ => .int _
   have e6 : ∀ μ, Rd μ (.int ((r.sy.map V.str).length : Int)) (.int (r.sy.length : Int)) := fun _ => by rw [List.length_map]; exact .int _
   exact .tup (by walk_at "mu") (.cons (e5 _) (.cons (.str _) (.cons (.tup (by walk_at "mu") (rdAll_strs r.sy)) (.cons (.int _) (.cons (.tup (by walk_at "mu") (.cons (.str _) (.cons (.int _) .nil))) (.cons (e6 _) .nil))))))
  rw [PySem.SeqAt.eqv_refl _ hlay.1]
  walk_at "w"
  refine hK _ ⟨?_, by walk_at "le"⟩
  exact SameBut.put (SameBut.put (SameBut.put (SameBut.set (by walk_at "nm") (SameBut.set (by walk_at "nm") (SameBut.set (by walk_at "nm") b1)))))
 ·intro st1 q0q
  refine exG0_2 q0q fun b1 b2 => ?_
  walk_at "w"
  exact h _ (J0.step b1 (by decide) b2)
theorem law_b6 {n : Nat} {m : Mine g} {c : Lc} {k : Nat} {rows : List R} (J : LJ c k rows st) (hk : k ≤ 10) (h : ∀ st', LJ c k rows st' → Q .next st') : (r_lawb_c6 (n := n) m).1 Q X st := by
 have J0 := J
 obtain ⟨F, ad, S, vs, ⟨s1, s2, s3, s4, i1, i2, hG, i3, i4⟩, G, hv, _, _, ok, _⟩ := J
 unfold r_lawb_c6; dsimp only
 have hta := hG.tk i4
 have hSm := G.small ok hk
 have hvl := hSm.vs
 obtain ⟨i0, e0, j1, -, -, -, -, -, -, -, -, -, -, -, -⟩ := hG.all
 have hrl := G.rl
 have hvs := hv.length
 have hS : S.vs.length = rows.length + 1 := by
  refine exG1_2 G.vs fun rs e1 e2 => ?_
  have := e2.length
  rw [List.length_zipIdx] at this
  rw [e1, List.length_cons, this]
 have hvs5 : vs.length ≤ 100000 := by omega
 walk_at "w"
 refine wk_own (by walk_at "mu") (by walk_at "mu") ?_
 refine sp_len_G hG hvl ?_
 refine ⟨_, rfl, ⟨by omega, by omega⟩, ?_⟩
 walk_at "w"
 refine wk_addI ?_
 walk_at "w"
 refine wk_neI ?_
 refine wk_neg ?_ ?_
 ·rw [hS, hvs]; simp; omega
 walk_at "w"
 exact law_b7 J0 hk h
end Kk
end
section
set_option maxHeartbeats 1000000
namespace Kk
variable {α β γ δ : Type}
theorem wk_isN {v : V} {Q : Bool → St → Prop} {X : Ex → St → Prop} {st : St} (h : Q (decide (v = .none)) st) : cmpM .Is v .none Q X st := .is_ h
theorem wk_inR {a : Addr} {x : V} {xs : List V} {ds : List PyData} {d : PyData} {Q : Bool → St → Prop} {X : Ex → St → Prop} {st : St} (h1 : st.μ a = some (.list xs)) (h2 : RdAll st.μ xs ds) (h3 : Rd st.μ x d) (h4 : okD (.list ds)) (h5 : okD d) (h : Q (ds.any fun y => PyData.eqv y d) st) : cmpM .In x (.ref a) Q X st := .in_ (.list h1 h2 h3 h4 h5 h)
theorem Gm.fresh {μ μ' F : Addr → Option O} {gr : Addr} {ad : Lb → Addr} {S : GS} {a : Addr} {o : O} (h : Gm μ F gr ad S) (k : Le μ μ') (ha : μ a = none) (e : μ' a = some o) : Gm μ' (upd F a o) gr ad S ∧ Le F (upd F a o) := by
 have hF : F a = none := h.mem.le.noneOf ha
 have h1 : Le F (upd F a o) := Le.refl.new hF
 refine ⟨(h.grow k).frz h1 ((h.mem.le.trans k).upd_of e) fun b p hb => ?_, h1⟩
 by_cases q : b = a
 ·right; intro l c hl; rw [q]; exact h.apart ha l c hl
 ·left; unfold upd at hb; rwa [if_neg q] at hb
theorem GR.to {F F' : Addr → Option O} {S : GS} {rows : List R} {n : Nat} (h : GR F S rows n) (k : Le F F') (a : Option (List V)) (b : Option (Addr × List V)) : GR F' { S with sy := a, tk := b } rows n := by
 refine exG1_2 h.vs fun rs h1 h2 => ?_
 exact ⟨⟨rs, h1, h2.mono fun _ _ q => q.le k⟩, h.pm, h.pm2, fun k' v e => (h.pmv k' v e).le k, h.pml, h.kbl, h.cbl, h.kt, h.ktm, h.ct, h.kn, h.cn, h.us, h.rl⟩
theorem LI.to {sc gr lv ta : Addr} {pv : Array Value} {pd : Str → Option (Str × Int)} {F F' : Addr → Option O} {ad ad' : Lb → Addr} {S S' : GS} {vs vs' : List V} {st st' : St} (h : LI sc gr lv ta pv pd F ad S vs st) (kF : Le F F') {L : List Str} (k : SameBut L st.σ st'.σ) (hL : ∀ x ∈ (["script", "grammar", "levels", "taken"] : List Str), x ∉ L) (hG : Gm st'.μ F' gr ad' S') (hp : S'.pr = S.pr) (ht : S'.tk = some (ta, vs')) : LI sc gr lv ta pv pd F' ad' S' vs' st' :=
 ⟨k.get (hL _ (by simp)) h.s1, k.get (hL _ (by simp)) h.s2, k.get (hL _ (by simp)) h.s3, k.get (hL _ (by simp)) h.s4, kF _ _ h.sc, h.lv.le kF, hG, by rw [hp]; exact h.pr.le kF, ht⟩
theorem toks_ok : ∀ y ∈ toks, PyData.strOk y = true := by decide +kernel
variable {g : Gx} {X : Ex → St → Prop} {Q : Fl → St → Prop} {st : St}
theorem law_b5t {n : Nat} {m : Mine g} {c : Lc} {k : Nat} {rows : List R} (J : LJ c k rows st) (hk : k ≤ 10) (v1 : st.σ "wrong" = some (.bool true)) (h : ∀ st', LJ c k rows st' → Q .next st') : (r_lawb_c5 (n := n) m).1 Q X st := by
 unfold r_lawb_c5; dsimp only
 walk_at "w"
 refine wk_neg rfl ?_
 walk_at "w"
 exact law_b6 J hk h
theorem law_b5f {n : Nat} {m : Mine g} {c : Lc} {k : Nat} {rows : List R} {r : R} {F : Addr → Option O} {ad : Lb → Addr} {S : GS} {vs : List V} {lp : Addr} {at_ : Int} {ch : V} (I : LI c.sc c.gr c.lv c.ta c.pv c.pd F ad S vs st) (G : GR F S (rows ++ [r]) k) (hv : LR (RowR F) vs rows) (hsy : S.sy = none) (hes : S.es.length ≤ 15) (ok : ∀ q ∈ rows ++ [r], RowOk q)
  (hsl : F c.sl = some (.list (c.ns.map .int))) (hk : k ≤ 10) (v1 : st.σ "wrong" = some (.bool false)) (v2 : st.σ "name" = some (.str r.nm)) (v3 : st.σ "plain" = some (.ref lp)) (hlp : F lp = some (.list (r.sy.map .str))) (v4 : st.σ "at" = some (.int at_)) (hat : r.ln = 20 + at_) (v5 : st.σ "chosen" = some ch)
  (hlv : (ch = .none ∧ r.lv = lvRun c.pd r.sy) ∨ ∃ cc, ch = .str cc ∧ c.pd cc = some r.lv) (h : ∀ st', LJ c k (rows ++ [r]) st' → Q .next st') : (r_lawb_c5 (n := n) m).1 Q X st := by
 have I0 := I
 obtain ⟨s1, s2, s3, s4, i1, i2, hG, i3, i4⟩ := I
 have hro : RowOk r := ok r (by simp)
 have hsl1 : (r.sy.map V.str).length ≤ 1000 := by have := hro.len; simp; omega
 refine exG2_3 i2.get fun es ep d1 d2 d3 => ?_
 have hFm := hG.mem.le
 have hvl : vs.length ≤ 1000 := by have := hv.length; have := G.rl; simp at this; omega
 unfold r_lawb_c5; dsimp only
 have hlp' := hFm _ _ hlp
 have fin : ∀ (st2 : St) (F1 : Addr → Option O) (tl tr : Addr), SameBut ["x", "level"] st.σ st2.σ → Le F F1 → Gm st2.μ F1 c.gr ad S → F1 tl = some (.tup [.str r.lv.1, .int r.lv.2]) → st2.μ tr = none → (r_lawb_c6 (n := n) m).1 Q X ((st2.put tr (.tup [.str r.nm, .ref lp, .int (20 + at_), .ref tl])).put c.ta (.list (vs ++ [.ref tr]))) := by
  intro st2 F1 tl tr b1 b2 b3 b4 b5
  have g1 := b3.alloc (o := .tup [.str r.nm, .ref lp, .int (20 + at_), .ref tl]) b5
  have hF1 : Le F1 (upd F1 tr (.tup [.str r.nm, .ref lp, .int (20 + at_), .ref tl])) := Le.refl.new (b3.mem.le.noneOf b5)
  have g2 := g1.setTk (ys := vs ++ [.ref tr]) i4
  have hFF := b2.trans hF1
  refine law_b6 (rows := rows ++ [r]) ⟨_, ad, { S with tk := some (c.ta, vs ++ [.ref tr]) }, vs ++ [.ref tr], I0.to hFF (SameBut.put (SameBut.put b1)) (by decide) g2 rfl rfl, G.to hFF S.sy _, ?_, hsy, hes, ok, hFF _ _ hsl⟩ hk h
  refine LR.app (hv.mono fun _ _ q => q.le hFF) (LR.one ⟨tr, lp, tl, rfl, ?_, hFF _ _ hlp, hF1 _ _ b4⟩)
  rw [hat]; exact u_same
 walk_at "w"
 refine wk_pos rfl ?_
 walk_at "w"
 refine wk_tup (by simp) fun t0 ht0 => ?_
 walk_at "w"
 refine loop_gen (its_list (xs := r.sy.map .str) (by walk_at "mu")) (LR.strs r.sy).ones (fun pre st' => SameBut ["x", "level"] st.σ st'.σ ∧ ∃ F' tl, Le F F' ∧ Gm st'.μ F' c.gr ad S ∧ st'.σ "level" = some (.ref tl) ∧ F' tl = some (.tup [.str (lvRun c.pd pre).1, .int (lvRun c.pd pre).2])) ?_ ?_ ?_ ?_
 ·exact ⟨SameBut.set (by walk_at "nm") (SameBut.put SameBut.refl), upd F t0 _, t0, Le.refl.new (hFm.noneOf ht0), hG.alloc ht0, by walk_at "sg", u_same⟩
 ·intro i st' hi q0q
  refine exG0_2 q0q fun _ r1 => ?_
  refine exG2_3 r1 fun F' tl k1 k2 _ => ?_
  exact cur_list (k2.mem.le _ _ (k1 _ _ hlp))
 ·intro pre y post l st1 K hps q0q q1q hK
  refine exG1_2 q0q fun v r2 r3 => ?_
  obtain rfl := r2
  obtain rfl := r3
  refine exG0_2 q1q fun b1 r4 => ?_
  refine exG2_4 r4 fun F1 tl b2 b3 b4 b5 => ?_
  have hy : y ∈ alpha := hro.sy y (by rw [hps]; simp)
  have hd1 := b3.mem.le _ _ (b2 _ _ d1)
  walk_at "w"
  refine wk_list (by simp) fun l hl => ?_
  refine wk_inL (ys := toks) (by exact put_same) toks_ok (alpha_ok y hy) ?_
  refine wk_split (fun hb => ?_) (fun hb => ?_)
  ·have hyt : y ∈ toks := of_decide_eq_true hb
   walk_at "w"
   cases hp : c.pd y with
   | none =>
    rw [(d3 y).1 hp]
    refine wk_neg rfl ?_
    walk_at "w"
    refine wk_tup (by simp) fun t1 ht1 => ?_
    walk_at "w"
    have g0 := b3.grow (Le.refl.new (o := .list [.str "A", .str "B", .str "C", .str "+", .str "-"]) hl)
    have g1 := g0.alloc (o := .tup [.str "right", .int 0]) ht1
    refine hK _ ⟨SameBut.set (by walk_at "nm") (SameBut.put (SameBut.put (SameBut.set (by walk_at "nm") b1))), _, t1, b2.trans (Le.refl.new (g0.mem.le.noneOf ht1)), g1, by walk_at "sg", ?_⟩
    rw [lvRun_app, lvStep, if_pos hyt, hp]
    exact u_same
   | some l0 =>
    refine exG1_5 ((d3 y).2 l0 hp) fun tp t1 t2 t3 t4 t5 => ?_
    rw [t1]
    refine wk_pos rfl ?_
    walk_at "w"
    refine wk_idxD (u := .ref tp) (by walk_at "mu") t1 ?_
    walk_at "w"
    have g0 := b3.grow (Le.refl.new (o := .list [.str "A", .str "B", .str "C", .str "+", .str "-"]) hl)
    refine hK _ ⟨SameBut.set (by walk_at "nm") (SameBut.put (SameBut.set (by walk_at "nm") b1)), F1, tp, b2, g0, by walk_at "sg", ?_⟩
    rw [lvRun_app, lvStep, if_pos hyt, hp]
    exact b2 _ _ t2
  ·have hyt : y ∉ toks := of_decide_eq_false hb
   walk_at "w"
   have g0 := b3.grow (Le.refl.new (o := .list [.str "A", .str "B", .str "C", .str "+", .str "-"]) hl)
   refine hK _ ⟨SameBut.put (SameBut.set (by walk_at "nm") b1), F1, tl, b2, g0, by walk_at "sg", ?_⟩
   rw [lvRun_app, lvStep, if_neg hyt]
   exact b5
 ·intro st1 q0q
  refine exG0_2 q0q fun b1 r5 => ?_
  refine exG2_4 r5 fun F1 tl b2 b3 b4 b5 => ?_
  have htk := b3.tk i4
  have hd1 := b3.mem.le _ _ (b2 _ _ d1)
  walk_at "w"
  refine wk_addI ?_
  walk_at "w"
  refine wk_isN ?_
  rcases hlv with ⟨rfl, hl⟩ | ⟨cc, rfl, hc⟩
  ·refine wk_pos (by simp) ?_
   walk_at "w"
   refine wk_tup (by simp) fun tr htr => ?_
   walk_at "w"
   exact fin st1 F1 tl tr b1 b2 b3 (by rw [hl]; exact b5) htr
  ·refine wk_neg (by simp) ?_
   refine exG1_5 ((d3 cc).2 _ hc) fun tp t1 t2 t3 t4 t5 => ?_
   walk_at "w"
   refine wk_idxD (u := .ref tp) (by walk_at "mu") t1 ?_
   walk_at "w"
   refine wk_tup (by simp) fun tr htr => ?_
   walk_at "w"
   exact fin st1 F1 tp tr b1 b2 b3 (b2 _ _ t2) htr
end Kk
end
section
set_option maxHeartbeats 1000000
namespace Kk
variable {α β γ δ : Type}
structure PdOk (pd : Str → Option (Str × Int)) : Prop where
 Z : pd "Z" ≠ none
 A : pd "A" ≠ none
 Q : pd "Q" = none
 P : pd PRC = none
 lv : ∀ k l, pd k = some l → l.1 ∈ sideN ∧ 0 ≤ l.2 ∧ l.2 ≤ 3
theorem LvAt.ok {μ : Addr → Option O} {lv : Addr} {pd : Str → Option (Str × Int)} (h : LvAt μ lv pd) : PdOk pd := by
 refine exG2_3 h.get fun es ep _ _ d3 => ?_
 obtain ⟨a1, a2, a3, ep', s0, s1, s2, -, -, -, -, -, -, -, rfl⟩ := h
 refine ⟨?_, ?_, pdOf_none (by decide +kernel), pdOf_none (by decide +kernel), fun k l e => ?_⟩
 ·unfold pdOf; rw [if_neg (by decide), if_neg (by decide), if_pos (by decide)]; simp
 ·unfold pdOf; rw [if_pos (by decide)]; simp
 ·refine exG1_5 ((d3 k).2 l e) fun tp _ _ h3 h4 h5 => ?_
  exact ⟨h3, by omega, h5⟩
theorem lvRun_ok {pd : Str → Option (Str × Int)} (h : PdOk pd) : ∀ sy : List Str, (lvRun pd sy).1 ∈ sideN ∧ 0 ≤ (lvRun pd sy).2 ∧ (lvRun pd sy).2 ≤ 3 := by
 have h0 : (("right", 0) : Str × Int).1 ∈ sideN ∧ 0 ≤ (("right", 0) : Str × Int).2 ∧ (("right", 0) : Str × Int).2 ≤ 3 := by decide +kernel
 suffices hh : ∀ (sy : List Str) (l : Str × Int), (l.1 ∈ sideN ∧ 0 ≤ l.2 ∧ l.2 ≤ 3) → ((sy.foldl (lvStep pd) l).1 ∈ sideN ∧ 0 ≤ (sy.foldl (lvStep pd) l).2 ∧ (sy.foldl (lvStep pd) l).2 ≤ 3) from fun sy => hh sy _ h0
 intro sy
 induction sy with
 | nil => intro l hl; exact hl
 | cons x r ih =>
  intro l hl
  rw [List.foldl_cons]
  refine ih _ ?_
  unfold lvStep
  split
  ·cases hp : pd x with
   | none => exact h0
   | some l' => exact h.lv _ _ hp
  ·exact hl
theorem deed_nm {nm : Str} {raw : List Str} {w : Bool} {ch : V} (hd : Deed nm raw w ch) : nm.length ≤ 1000 ∧ (reprText nm).length ≤ 1000 ∧ PyData.strOk nm = true := by
 have k1 : ∀ s ∈ names3, s.length ≤ 1000 ∧ (reprText s).length ≤ 1000 ∧ PyData.strOk s = true := by decide +kernel
 have k2 : ∀ s ∈ (["A", "error"] : List Str), s.length ≤ 1000 ∧ (reprText s).length ≤ 1000 ∧ PyData.strOk s = true := by decide +kernel
 induction hd with
 | z h _ => exact k1 _ h
 | a h _ => exact k1 _ h
 | q h _ => exact k1 _ h
 | p _ h _ _ => exact k1 _ h
 | p2 _ h _ _ => exact k1 _ h
 | tok h _ => exact k2 _ h
 | lit _ _ h _ _ _ => exact k1 _ h
 | ok h _ => exact k1 _ h
inductive LH (c : Lc) (n : Nat) (rows : List R) (sy : Option (List V)) (la lp : Addr) (raw : List Str) (y : Addr) (st : St) : Prop
 | mk (F : Addr → Option O) (ad : Lb → Addr) (S : GS) (vs : List V) (I : LI c.sc c.gr c.lv c.ta c.pv c.pd F ad S vs st) (G : GR F S rows n) (hv : LR (RowR F) vs rows) (hsy : S.sy = sy) (hy : sy ≠ none → ad .sy = y) (es : S.es.length ≤ 15) (ok : ∀ r ∈ rows, RowOk r) (sl : F c.sl = some (.list (c.ns.map .int))) (hla : F la = some (.list (raw.map .str))) (hlp : F lp = some (.list ((raw.map uq).map .str))) : LH c n rows sy la lp raw y st
variable {g : Gx} {X : Ex → St → Prop} {Q : Fl → St → Prop} {st : St}
theorem law_b4 {n : Nat} {m : Mine g} {c : Lc} {k : Nat} {rows : List R} {nm : Str} {raw : List Str} {w : Bool} {ch : V} {la lp ha : Addr} (hd : Deed nm raw w ch) (J : LH c k rows (some ((hand raw ch).map .str)) la lp raw ha st) (hk : k + 1 ≤ 10)
  (v1 : st.σ "wrong" = some (.bool (w || dupB rows nm (raw.map uq)))) (v2 : st.σ "name" = some (.str nm)) (v3 : st.σ "plain" = some (.ref lp)) (v4 : st.σ "at" = some (.int (k : Int))) (v5 : st.σ "chosen" = some ch) (v6 : st.σ "handed" = some (.ref ha))
  (h : ∀ st' rows', LJ c (k + 1) rows' st' → Q .next st') : (r_lawb_c4 (n := n) m).1 Q X st := by
 obtain ⟨F, ad, S, vs, I, G, hv, hsy, hy, hes, ok, hsl, hla, hlp⟩ := J
 have I0 := I
 obtain ⟨s1, s2, s3, s4, i1, i2, hG, i3, i4⟩ := I
 have hpd := i2.ok
 obtain ⟨i0, e0, j1, -, -, -, -, -, -, -, -, -, -, -, -⟩ := hG.all
 have hno : dget S.es "add_production" = none := hG.at_.no _ (by simp)
 refine exG0_3 (deed_nm hd) fun n1 n2 n3 => ?_
 refine exG0_2 (hand_al hd) fun r1 r2 => ?_
 unfold r_lawb_c4; dsimp only
 walk_at "w"
 refine wk_tryG ?_
 walk_at "w"
 refine wk_addI ?_
 walk_at "w"
 have hus := G.us
 refine sp_add_production (F := F) (ad := ad) (S := S) (nm := nm) (fi := "") (ln := 20 + (k : Int)) (raw := hand raw ch) (pd := c.pd) (y := ha) hG hsy (hy (by simp)) (G.small ok (by omega)) (by omega) G.kt i3 r1 r2 (deed_shape hd) ⟨G.pmv, n1, n2, by decide +kernel, by omega, by omega⟩ ?_ ?_
 ·intro hr μ' F' S' ad' e1 e2 e3 e4 e5
  refine wk_tryX ?_
  have hw := deed_ref hd G ok hpd.Z hpd.A hr
  walk_at "w"
  refine wk_neg (by rw [hw]; rfl) ?_
  walk_at "w"
  rw [hw] at v1
  refine law_b5t (k := k + 1) (rows := rows) ⟨F', ad', { S' with sy := none }, vs, I0.to e1 (L := []) SameBut.refl (by decide) e2.noSy e3.pr (by rw [show ({ S' with sy := none } : GS).tk = S'.tk from rfl, e3.tk]; exact i4), (G.left e1 e3 e4 e5).to Le.refl none S'.tk, hv.mono fun _ _ q => q.le e1, rfl, by rw [show ({ S' with sy := none } : GS).es = S'.es from rfl, e3.es]; exact hes, ok, e1 _ _ hsl⟩ hk v1 fun st' J => h st' rows J
 ·intro μ' F' v ad' S' sy l us' tp e1 q1 q2 q3 q4 q5 q6 q7 T hG'
  obtain ⟨D1, rfl, D3, D4, D5, D6⟩ := deed_take hd G hpd.Q hpd.P q1 q2 q3 q4
  rw [D1, D3] at v1
  walk_at "w"
  refine wk_neg rfl ?_
  walk_at "w"
  have hkt := G.kt.run r1
  have hin := kt_in (hd := hand raw ch) G.kt D5 fun s hs => List.mem_append_left _ hs
  have hiff := kt_iff hkt D5 hin
  have hlv : (ch = .none ∧ l = lvRun c.pd (raw.map uq)) ∨ ∃ cc, ch = .str cc ∧ c.pd cc = some l := by
   rcases D6.or with ⟨e1, e⟩ | e
   ·exact .inl ⟨e1, by rw [e]; exact lvl_run hiff⟩
   ·exact .inr e
  have hl : l.1 ∈ sideN ∧ 0 ≤ l.2 ∧ l.2 ≤ 3 := by
   rcases hlv with ⟨_, e⟩ | ⟨cc, _, e⟩
   ·rw [e]; exact lvRun_ok hpd _
   ·exact hpd.lv _ _ e
  have hr : ∀ q ∈ rows ++ [(⟨nm, raw.map uq, 20 + (k : Int), l⟩ : R)], RowOk q := by
   intro q hq
   rcases List.mem_append.mp hq with hq | hq
   ·exact ok q hq
   ·rw [List.mem_singleton.mp hq]
    exact ⟨D4, D5.al, by have := D5.1; simp; omega, by dsimp only; omega, by dsimp only; omega, hl.1, hl.2.1, hl.2.2⟩
  have hst := GR.step (r := ⟨nm, raw.map uq, 20 + (k : Int), l⟩) G e1 hr q5 q6 q7 hkt (fun k' hk' => ktRun_mono hk') hin T
  refine law_b5f (k := k + 1) (r := ⟨nm, raw.map uq, 20 + (k : Int), l⟩) (rows := rows) (lp := lp) (at_ := (k : Int)) (ch := ch) (F := F') (ad := ad') (S := { S' with sy := none }) (vs := vs) (I0.to e1 (L := []) SameBut.refl (by decide) hG'.noSy (T.pr.trans rfl) (T.tk.trans i4)) (hst.to Le.refl none S'.tk) (hv.mono fun _ _ q => q.le e1) rfl (by rw [show ({ S' with sy := none } : GS).es = S.es from T.es]; exact hes) hr (e1 _ _ hsl) hk v1 v2 v3 (e1 _ _ hlp) v4 rfl v5 hlv fun st' J => h st' _ J
theorem law_b3 {n : Nat} {m : Mine g} {c : Lc} {k : Nat} {rows : List R} {nm : Str} {raw : List Str} {w : Bool} {ch : V} {la lp : Addr} (hd : Deed nm raw w ch) (J : LH c k rows none la lp raw la st) (hk : k + 1 ≤ 10)
  (v1 : st.σ "wrong" = some (.bool (w || dupB rows nm (raw.map uq)))) (v2 : st.σ "name" = some (.str nm)) (v3 : st.σ "plain" = some (.ref lp)) (v4 : st.σ "at" = some (.int (k : Int))) (v5 : st.σ "chosen" = some ch) (v6 : st.σ "symbols" = some (.ref la))
  (h : ∀ st' rows', LJ c (k + 1) rows' st' → Q .next st') : (r_lawb_c3 (n := n) m).1 Q X st := by
 obtain ⟨F, ad, S, vs, I, G, hv, hsy, hy, hes, ok, hsl, hla, hlp⟩ := J
 refine exG0_3 (raw_al hd) fun a1 a2 a3 => ?_
 have hG := I.G
 have hla' := hG.mem.le _ _ hla
 have hrl : (raw.map V.str).length ≤ 1000 := by simp; omega
 unfold r_lawb_c3; dsimp only
 have fin : ∀ (st2 : St) (hd0 : Addr), SameBut [] st.σ st2.σ → Le st.μ st2.μ → st2.μ hd0 = none → (r_lawb_c4 (n := n) m).1 Q X ((st2.put hd0 (.list ((hand raw ch).map .str))).set "handed" (.ref hd0)) := by
  intro st2 ha b1 b2 b3
  have g1 := (hG.grow b2).newSy (ys := (hand raw ch).map .str) hsy b3
  have b4 : SameBut ["handed"] st.σ ((st2.put ha (.list ((hand raw ch).map .str))).set "handed" (.ref ha)).σ := SameBut.set (by walk_at "nm") (SameBut.put (b1.sub (by simp)))
  refine law_b4 (ha := ha) hd ⟨F, _, { S with sy := some ((hand raw ch).map .str) }, vs, I.to Le.refl b4 (by decide) g1 rfl I.tk, G.to Le.refl _ S.tk, hv, rfl, fun _ => if_pos rfl, hes, ok, hsl, hla, hlp⟩ hk (b4.get (by walk_at "nm") v1) (b4.get (by walk_at "nm") v2) (b4.get (by walk_at "nm") v3) (b4.get (by walk_at "nm") v4) (b4.get (by walk_at "nm") v5) (by walk_at "sg") h
 walk_at "w"
 refine wk_isN ?_
 rcases a3 with rfl | ⟨a3, cc, rfl, a4⟩
 ·refine wk_pos (by simp) ?_
  walk_at "w"
  refine wk_list (by simp) fun l1 hl1 => ?_
  refine wk_addL (xs := raw.map .str) (ys := []) (by walk_at "mu") (by walk_at "mu") hrl (by simp) fun l2 hl2 => ?_
  walk_at "w"
  have e : raw.map V.str ++ [] = (hand raw .none).map V.str := by unfold hand; simp
  rw [e]
  exact fin (st.put l1 _) l2 (SameBut.put SameBut.refl) (by walk_at "le") hl2
 ·refine wk_neg (by simp) ?_
  walk_at "w"
  refine wk_list (by simp) fun l1 hl1 => ?_
  refine wk_addL (xs := raw.map .str) (ys := [.str "%prec", .str cc]) (by walk_at "mu") (by walk_at "mu") hrl (by simp) fun l2 hl2 => ?_
  walk_at "w"
  have e : raw.map V.str ++ [V.str "%prec", V.str cc] = (hand raw (.str cc)).map V.str := by unfold hand; simp
  rw [e]
  exact fin (st.put l1 _) l2 (SameBut.put SameBut.refl) (by walk_at "le") hl2
theorem rdAll_of {μ : Addr → Option O} : ∀ {vs : List V} {ds : List PyData}, LR (Rd μ) vs ds → RdAll μ vs ds
 | [], [], _ => .nil
 | v :: vs, d :: ds, h => .cons h.1 (rdAll_of h.2)
theorem law_b2 {n : Nat} {m : Mine g} {c : Lc} {k : Nat} {rows : List R} {nm : Str} {raw : List Str} {w : Bool} {ch : V} {la lp : Addr} (hd : Deed nm raw w ch) (J : LH c k rows none la lp raw la st) (hk : k + 1 ≤ 10)
  (v1 : st.σ "wrong" = some (.bool w)) (v2 : st.σ "name" = some (.str nm)) (v3 : st.σ "plain" = some (.ref lp)) (v4 : st.σ "at" = some (.int (k : Int))) (v5 : st.σ "chosen" = some ch) (v6 : st.σ "symbols" = some (.ref la))
  (h : ∀ st' rows', LJ c (k + 1) rows' st' → Q .next st') : (r_lawb_c2 (n := n) m).1 Q X st := by
 have fin : ∀ (st2 : St), SameBut [] st.σ st2.σ → Le st.μ st2.μ → (r_lawb_c3 (n := n) m).1 Q X (st2.set "wrong" (.bool (w || dupB rows nm (raw.map uq)))) := by
  intro st2 b1 b2
  obtain ⟨F, ad, S, vs, I, G, hv, hsy, hy, hes, ok, hsl, hla, hlp⟩ := J
  have b4 : SameBut ["wrong"] st.σ (st2.set "wrong" (.bool (w || dupB rows nm (raw.map uq)))).σ := SameBut.set (by walk_at "nm") (b1.sub (by simp))
  exact law_b3 hd ⟨F, ad, S, vs, I.to Le.refl b4 (by decide) (I.G.grow b2) rfl I.tk, G, hv, hsy, hy, hes, ok, hsl, hla, hlp⟩ hk (by walk_at "sg") (b4.get (by walk_at "nm") v2) (b4.get (by walk_at "nm") v3) (b4.get (by walk_at "nm") v4) (b4.get (by walk_at "nm") v5) (b4.get (by walk_at "nm") v6) h
 obtain ⟨F, ad, S, vs, I, G, hv, hsy, hy, hes, ok, hsl, hla, hlp⟩ := J
 obtain ⟨s1, s2, s3, s4, i1, i2, hG, i3, i4⟩ := I
 have hta := hG.tk i4
 have hFm := hG.mem.le
 have hlp' := hFm _ _ hlp
 have hrl := G.rl
 unfold r_lawb_c2; dsimp only
 walk_at "w"
 refine wk_orB (fun hw => ?_) (fun hw => ?_)
 ·have := fin st SameBut.refl Le.refl
  rw [hw, Bool.true_or] at this
  exact this
 walk_at "w"
 refine wk_tup (by simp) fun t0 ht0 => ?_
 walk_at "w"
 refine wk_comp (hasFree_of [] (by kernel_rfl) trivial) ?_
 walk_at "w"
 have hF2 : Le F (st.put t0 (.tup [.str nm, .ref lp])).μ := by walk_at "le"
 refine comp_pure (Rr := RowR F) Rd (fun _ _ _ _ k r => r.le k) (fun r : R => [rowD r.nm r.sy]) ["row"] (hasFree_of [] (by kernel_rfl) trivial) (by walk_at "mu") hv (by omega) ?_ ?_
 ·rintro y v st2 acc K2 hy1 hR q1 q2 q3 q4 q5
  obtain ⟨ra, rl, rtp, rfl, w1, w2, w3⟩ := hR.le (hF2.trans q1)
  walk_at "w"
  refine wk_splitC (fun _ => ?_) (fun hb => by k_call_by "c" hb)
  walk_at "w"
  refine wk_sliceT (xs := [.str y.nm, .ref rl, .int y.ln, .ref rtp]) (by walk_at "mu") (by omega) (by simp) (by simp) fun b3 hb3 => ?_
  exact ⟨q3, q4 _ _ (rowD y.nm y.sy) rfl (by walk_at "le") (SameBut.put (SameBut.set (by walk_at "nm") q2)) (.tup put_same (.cons (.str _) (.cons (.list (put_old hb3 (set_mu w2)) (rdAll_strs y.sy)) .nil)))⟩
 ·intro D μ2 vs2 q1 q2 q3 q4
  walk_at "w"
  have hq : vs2.length ≤ 1000 → True := fun _ => trivial
  rw [← List.map_eq_flatMap (f := fun r : R => rowD r.nm r.sy)] at q4
  have n3 := (deed_nm hd).2.2
  have hsy : ∀ s ∈ raw.map uq, PyData.strOk s = true := fun s hs => by
   refine exG1_2 (List.mem_map.mp hs) fun t ht r1 => ?_
   obtain rfl := r1
   exact (uq_ok t ((raw_al hd).1 t ht)).1
  have hdep := rows_depth rows
  refine wk_inR (xs := vs2) (ds := rows.map fun q : R => rowD q.nm q.sy) (d := rowD nm (raw.map uq)) (by exact q3) (rdAll_of q4) (.tup (q1 _ _ (put_same)) (.cons (.str _) (.cons (.list (q1 _ _ (put_old ht0 hlp')) (rdAll_strs _)) .nil))) ⟨rows_lay ok, by rw [PyData.depth]; omega⟩ ⟨row_lay n3 hsy, by rw [row_depth]; omega⟩ ?_
  rw [rows_any]
  walk_at "w"
  have := fin ⟨st.σ, μ2⟩ SameBut.refl (Le.trans (by walk_at "le") q1)
  rw [hw, Bool.false_or] at this
  exact this
end Kk
end
section
set_option maxHeartbeats 1000000
namespace Kk
variable {α β γ δ : Type}
noncomputable def plB (s : Str) : Bool := match (seqIndex? 0 s.length).bind (s.cps[·]?) with
 | none => false
 | some c => if (strIn ⟨#[c]⟩ "'\"" && ((s.length : Int) == 3)) = true then (match (seqIndex? 1 s.length).bind (s.cps[·]?) with | none => false | some d => decide ((⟨#[d]⟩ : Str) = uq s)) else decide (s = uq s)
inductive PlK (s : Str) : Prop
 | lit (c d : Nat) : (seqIndex? 0 s.length).bind (s.cps[·]?) = some c → (strIn ⟨#[c]⟩ "'\"" && ((s.length : Int) == 3)) = true → (seqIndex? 1 s.length).bind (s.cps[·]?) = some d → (⟨#[d]⟩ : Str) = uq s → PlK s
 | pl (c : Nat) : (seqIndex? 0 s.length).bind (s.cps[·]?) = some c → (strIn ⟨#[c]⟩ "'\"" && ((s.length : Int) == 3)) = false → s = uq s → PlK s
theorem pl_of {s : Str} (h : plB s = true) : PlK s := by
 unfold plB at h
 cases h0 : (seqIndex? 0 s.length).bind (s.cps[·]?) with
 | none => rw [h0] at h; k_call_by "c" h
 | some c =>
  rw [h0] at h; dsimp only at h
  by_cases hb : (strIn ⟨#[c]⟩ "'\"" && ((s.length : Int) == 3)) = true
  ·rw [if_pos hb] at h
   cases h1 : (seqIndex? 1 s.length).bind (s.cps[·]?) with
   | none => rw [h1] at h; k_call_by "c" h
   | some d => rw [h1] at h; exact .lit c d h0 hb h1 (of_decide_eq_true h)
  ·rw [if_neg hb] at h
   exact .pl c h0 (by simpa using hb) (of_decide_eq_true h)
theorem pl_all : ∀ s ∈ rawAl, plB s = true := by decide +kernel
variable {g : Gx} {X : Ex → St → Prop} {Q : Fl → St → Prop} {st : St}
theorem law_b1 {n : Nat} {m : Mine g} {c : Lc} {k : Nat} {rows : List R} {nm : Str} {raw : List Str} {w : Bool} {ch : V} {la : Addr} {F : Addr → Option O} {ad : Lb → Addr} {S : GS} {vs : List V} (hd : Deed nm raw w ch)
  (I : LI c.sc c.gr c.lv c.ta c.pv c.pd F ad S vs st) (G : GR F S rows k) (hv : LR (RowR F) vs rows) (hsy : S.sy = none) (hes : S.es.length ≤ 15) (ok : ∀ r ∈ rows, RowOk r) (hsl : F c.sl = some (.list (c.ns.map .int))) (hla : F la = some (.list (raw.map .str))) (hk : k + 1 ≤ 10)
  (v1 : st.σ "wrong" = some (.bool w)) (v2 : st.σ "name" = some (.str nm)) (v4 : st.σ "at" = some (.int (k : Int))) (v5 : st.σ "chosen" = some ch) (v6 : st.σ "symbols" = some (.ref la))
  (h : ∀ st' rows', LJ c (k + 1) rows' st' → Q .next st') : (r_lawb_c1 (n := n) m).1 Q X st := by
 have hG := I.G
 have hla' := hG.mem.le _ _ hla
 refine exG0_3 (raw_al hd) fun r1 r2 _ => ?_
 unfold r_lawb_c1; dsimp only
 walk_at "w"
 refine wk_comp (hasFree_of [] (by kernel_rfl) trivial) ?_
 walk_at "w"
 refine comp_pure (Rr := fun v y => v = .str y) (fun _ v s => v = .str s) (fun _ _ _ _ _ h => h) (fun s => [uq s]) ["x"] (hasFree_of [] (by kernel_rfl) trivial) (by walk_at "mu") (LR.strs raw) (by omega) ?_ ?_
 ·rintro y v st2 acc K2 hy rfl q1 q2 q3 q4 q5
  have hyl : y.length ≤ 100000 := by have := raw_len y (r1 y hy); omega
  have q6 : ∀ st3, SameBut ["x"] (compSt _ st).σ st3.σ → Le st2.μ st3.μ → acc.length ≤ 1000 ∧ K2 (acc ++ [V.str (uq y)]) st3 := fun st3 b1 b2 => ⟨q3, q4 _ _ _ rfl b2 b1 rfl⟩
  cases pl_of (pl_all y (r1 y hy)) with
  | lit c0 d p1 p2 p3 p4 =>
   walk_at "w"
   refine wk_splitC (fun _ => ?_) (fun hb => by k_call_by "c" hb)
   walk_at "w"
   refine wk_idxS (by decide) p1 ?_
   walk_at "w"
   refine wk_inS ?_
   refine wk_and (b2 := ((y.length : Int) == 3)) (fun Q X h => ?_) ?_
   ·walk_at "w"
    refine wk_lenS hyl ?_
    walk_at "w"
    rw [Bool.and_true]; exact h
   refine wk_pos p2 ?_
   walk_at "w"
   refine wk_idxS (by decide) p3 ?_
   rw [p4]
   exact q6 _ (SameBut.set (by walk_at "nm") q2) Le.refl
  | pl c0 p1 p2 p3 =>
   walk_at "w"
   refine wk_splitC (fun _ => ?_) (fun hb => by k_call_by "c" hb)
   walk_at "w"
   refine wk_idxS (by decide) p1 ?_
   walk_at "w"
   refine wk_inS ?_
   refine wk_and (b2 := ((y.length : Int) == 3)) (fun Q X h => ?_) ?_
   ·walk_at "w"
    refine wk_lenS hyl ?_
    walk_at "w"
    rw [Bool.and_true]; exact h
   refine wk_neg p2 ?_
   walk_at "w"
   have := q6 (st2.set "x" (.str y)) (SameBut.set (by walk_at "nm") q2) Le.refl
   rw [← p3] at this
   exact this
 ·intro D μ2 vs2 q1 q2 q3 q4
  have q5 : vs2 = (raw.map uq).map V.str := by
   have := LR.eq_map (f := V.str) q4
   rw [this, ← List.map_eq_flatMap]
  subst q5
  walk_at "w"
  refine exG0_2 (hG.fresh q1 q2 q3) fun g1 g2 => ?_
  have b4 : SameBut ["plain"] st.σ ((⟨st.σ, μ2⟩ : St).set "plain" (.ref D)).σ := SameBut.set (by walk_at "nm") SameBut.refl
  exact law_b2 hd ⟨_, ad, S, vs, I.to g2 b4 (by decide) g1 rfl I.tk, G.to g2 S.sy S.tk, hv.mono fun _ _ q => q.le g2, hsy, by simp, hes, ok, g2 _ _ hsl, g2 _ _ hla, u_same⟩ hk (b4.get (by walk_at "nm") v1) (b4.get (by walk_at "nm") v2) (by walk_at "sg") (b4.get (by walk_at "nm") v4) (b4.get (by walk_at "nm") v5) (b4.get (by walk_at "nm") v6) h
theorem law_b0 {n : Nat} {m : Mine g} {c : Lc} {k : Nat} {rows : List R} {num : Int} (J : LJ c k rows st) (hk : k + 1 ≤ 10) (v4 : st.σ "at" = some (.int (k : Int))) (v5 : st.σ "number" = some (.int num))
  (h : ∀ st' rows', LJ c (k + 1) rows' st' → Q .next st') : (r_lawb (n := n) m).1 Q X st := by
 obtain ⟨F, ad, S, vs, I, G, hv, hsy, hes, ok, hsl⟩ := J
 have hG := I.G
 unfold r_lawb; dsimp only
 walk_at "w"
 refine sp_law_deed fun μ' t l nm raw w ch hd e1 e2 e3 e4 e5 => ?_
 refine wk_unp4 (by exact e4) ?_
 walk_at "w"
 refine exG0_2 (hG.fresh e1 e3 e5) fun g1 g2 => ?_
 have b4 : SameBut ["name", "symbols", "wrong", "chosen"] st.σ (((((⟨st.σ, μ'⟩ : St).set "name" (.str nm)).set "symbols" (.ref l)).set "wrong" (.bool w)).set "chosen" ch).σ := SameBut.set (by walk_at "nm") (SameBut.set (by walk_at "nm") (SameBut.set (by walk_at "nm") (SameBut.set (by walk_at "nm") SameBut.refl)))
 exact law_b1 (la := l) hd (I.to g2 b4 (by decide) g1 rfl I.tk) (G.to g2 S.sy S.tk) (hv.mono fun _ _ q => q.le g2) hsy hes ok (g2 _ _ hsl) u_same hk (by walk_at "sg") (by walk_at "sg") (b4.get (by walk_at "nm") v4) (by walk_at "sg") (by walk_at "sg") h
theorem kt0_ok : KtOk ["A", "B", "C", "error"] := ⟨by decide, by decide, by decide⟩
theorem gr_init {F : Addr → Option O} {es pr : List (Str × V)} {a : Option (List V)} {b : Option (Addr × List V)} : GR F { S0 es with pr := pr, sy := a, tk := b } [] 0 := by
 refine ⟨⟨[], rfl, trivial⟩, fun k hk => ?_, by simp, fun k v e => ?_, Nat.le_refl _, Nat.le_refl _, by simp [S0], kt0_ok, by simp, fun k => ?_, rfl, fun k => ?_, Nat.le_refl _, Nat.le_refl _⟩
 ·k_call_by "c" hk
 ·k_call_by "c" e
 ·show ([] : List V) = _
  split <;> rfl
 ·show ([] : List V) = _
  split <;> rfl
theorem law_lp {n : Nat} {m : Mine g} {els : M Fl} {c : Lc} (J : LJ c 0 [] st) (hn : c.ns.length ≤ 10) (h : ∀ st' rows k, k ≤ 10 → LJ c k rows st' → els Q X st') : loopM (asgT ["at", "number"]) (r_lawb (n := n) m).1 els (.enL c.sl) Q X st := by
 have hsl : st.μ c.sl = some (.list (c.ns.map .int)) := by
  obtain ⟨F, ad, S, vs, I, G, hv, hsy, hes, ok, hsl⟩ := J
  exact I.G.mem.le _ _ hsl
 refine loop_gen (its_enL hsl) (LR.enum 0 (R := fun v (y : Int) => v = .int y) (LR.of_map (R := fun v (y : Int) => v = V.int y) (f := V.int) (fun _ => rfl) c.ns)) (fun pre st' => ∃ rows, LJ c pre.length rows st') ⟨[], J⟩ ?_ ?_ ?_
 ·intro i st' hi q0q
  obtain ⟨rows, F, ad, S, vs, I, G, hv, hsy, hes, ok, hsl'⟩ := q0q
  exact cur_enL (I.G.mem.le _ _ hsl') rfl
 ·intro pre q0q post l st1 K hps q1q q2q hK
  obtain ⟨y, j⟩ := q0q
  refine exG1_2 q1q fun v r1 r2 => ?_
  obtain rfl := r1
  obtain rfl := r2
  refine exG1_1 q2q fun rows J1 => ?_
  have hlen : pre.length + 1 ≤ c.ns.length := by
   have := congrArg List.length hps
   simp at this; omega
  have hj : j = pre.length := by
   have h1 : (pre ++ (y, j) :: post)[pre.length]? = some (y, j) := by simp
   rw [← hps, List.getElem?_zipIdx] at h1
   cases hh : c.ns[pre.length]? with
   | none => rw [hh] at h1; k_call_by "c" h1
   | some q => rw [hh] at h1; simp at h1; omega
  subst hj
  walk_at "w"
  refine law_b0 (k := pre.length) (rows := rows) (num := y) (J1.step (L := ["at", "number"]) (SameBut.set (by walk_at "nm") (SameBut.set (by walk_at "nm") SameBut.refl)) (by decide) Le.refl) (by omega) (by walk_at "sg") (by walk_at "sg") fun st' rows' J2 => ?_
  walk_at "w"
  refine hK _ ⟨rows', ?_⟩
  rw [List.length_append]; exact J2
 ·intro st1 q0q
  refine exG1_1 q0q fun rows J1 => ?_
  rw [List.length_zipIdx] at J1
  exact h st1 rows _ hn J1
theorem law_c7 {n : Nat} {m : Mine g} {F : Addr → Option O} {sc gr lv ta : Addr} {ad : Lb → Addr} {es pr : List (Str × V)} {pv : Array Value} {pd : Str → Option (Str × Int)} {ns : List Int} (hes : es.length ≤ 15) (I : LI sc gr lv ta pv pd F ad { S0 es with pr := pr, tk := some (ta, []) } [] st) (hpv : pv.toList.map er = ns.map .int) (hl : ns.length ≤ 63)
  (h : ∀ st' c rows k, c.sc = sc → c.pv = pv → k ≤ 10 → LJ c k rows st' → (r_law_c8 (n := n) m).1 Q X st') : (r_law_c7 (n := n) m).1 Q X st := by
 have I0 := I
 obtain ⟨s1, s2, s3, s4, i1, i2, hG, i3, i4⟩ := I
 have hFm := hG.mem.le
 have hsc := hFm _ _ i1
 have hz : pv.size = ns.length := by
  have := congrArg List.length hpv
  simpa using this
 have hpl : (pv.toList.map er).length ≤ 1000 := by rw [hpv]; simp; omega
 have key : ∀ (st2 : St) (b : Addr) (nums : List Int), SameBut [] st.σ st2.σ → Le st.μ st2.μ → st2.μ b = none → LJ ⟨sc, gr, lv, ta, b, pv, pd, nums⟩ 0 [] (st2.put b (.list (nums.map .int))) := by
  intro st2 b nums b1 b2 b3
  have g1 := (hG.grow b2).alloc (o := .list (nums.map .int)) b3
  have hF : Le F (upd F b (.list (nums.map .int))) := Le.refl.new ((hG.grow b2).mem.le.noneOf b3)
  exact ⟨_, ad, _, [], I0.to hF (SameBut.put b1) (by decide) g1 rfl rfl, gr_init, trivial, rfl, hes, by simp, u_same⟩
 unfold r_law_c7; dsimp only
 walk_at "w"
 refine wk_lenP (by walk_at "mu") (by omega) ?_
 walk_at "w"
 refine wk_split (fun hb => ?_) (fun hb => ?_)
 ·walk_at "w"
  refine wk_sliceP (vs := pv) (by walk_at "mu") (by omega) (by omega) hpl fun b hb => ?_
  rw [hpv]
  have hsl : ((ns.map V.int).drop (1 : Int).toNat).take (11 - 1 : Int).toNat = ((ns.drop 1).take 10).map V.int := by
   rw [List.map_take, List.map_drop]; rfl
  rw [hsl]
  have hnl : ((ns.drop 1).take 10).length ≤ 10 := by simp; omega
  generalize (ns.drop 1).take 10 = nums at hnl
  walk_at "w"
  refine law_lp (c := ⟨sc, gr, lv, ta, b, pv, pd, nums⟩) (key st b nums SameBut.refl Le.refl hb) hnl fun st' rows k hk J => ?_
  walk_at "w"
  exact h st' _ rows k rfl rfl hk J
 ·walk_at "w"
  refine wk_mul (by decide) ?_
  walk_at "w"
  refine wk_mul (by decide) ?_
  walk_at "w"
  refine wk_mul (by decide) ?_
  walk_at "w"
  refine wk_addI ?_
  walk_at "w"
  refine wk_list (by simp) fun b hb => ?_
  walk_at "w"
  refine law_lp (c := ⟨sc, gr, lv, ta, b, pv, pd, [8 * 60, 8 * 60, 3 + 8 * 61, 5, 6, 7, 26952]⟩) (key st b [8 * 60, 8 * 60, 3 + 8 * 61, 5, 6, 7, 26952] SameBut.refl Le.refl hb) (by simp) fun st' rows k hk J => ?_
  walk_at "w"
  exact h st' _ rows k rfl rfl hk J
end Kk
end
section
set_option maxHeartbeats 1000000
namespace Kk
variable {α β γ δ : Type}
theorem wk_isnN {v : V} {Q : Bool → St → Prop} {X : Ex → St → Prop} {st : St} (h : Q (!decide (v = .none)) st) : cmpM .IsNot v .none Q X st := .isn h
noncomputable def plc (rows : List R) (x : Str) : List Int := occ rows x ++ (if rows.head?.map (·.nm) = some x then [0] else [])
inductive LE (μ : Addr → Option O) (gr ta : Addr) (rows : List R) : Prop
 | mk (vs : List V) (d : Addr) (es : List (Str × V)) (ep : Nat) (nt : Addr) (e1 : Nat) (t : Addr) (e2 : Nat) (fN fT : Str → Addr) (kt : List Str) (h1 : μ ta = some (.list vs)) (hv : LR (RowR μ) vs rows) (g1 : μ gr = some (.inst 229 d)) (g2 : μ d = some (.dict es ep)) (g3 : dget es "Nonterminals" = some (.ref nt)) (g4 : μ nt = some (.dict (tabOf (knOf rows) fN) e1))
  (g5 : dget es "Terminals" = some (.ref t)) (g6 : μ t = some (.dict (tabOf kt fT) e2)) (hn : ∀ x ∈ knOf rows, μ (fN x) = some (.list ((plc rows x).map .int))) (ht : ∀ x ∈ (["A", "B", "C"] : List Str), x ∈ kt ∧ μ (fT x) = some (.list ((occ rows x).map .int))) : LE μ gr ta rows
theorem wl_no : ("w" : Str) ∉ names3 := by decide +kernel
theorem abc_toks : ∀ x ∈ (["A", "B", "C"] : List Str), x ∈ toks ∧ x ∈ (["A", "B", "C", "error"] : List Str) := by decide +kernel
noncomputable def sD (s : Str) : PyData := .tuple [.int 0, .str "S'", .tuple [.str s], .str s]
theorem sD_ok {s : Str} (h : PyData.strOk s = true) : okD (sD s) := by
 have h2 : PyData.strOk ("S'" : Str) = true := by decide +kernel
 constructor
 ·unfold sD
  simp only [PyData.canLay0, PyData.canLayAll0, h, h2, Bool.and_self]
 ·unfold sD
  simp only [PyData.depth, PyData.depthAll]
  omega
theorem LR.head {R : V → α → Prop} {vs : List V} {ys : List α} (h : LR R vs ys) (hn : vs.length ≠ 0) : ∃ v y, vs[0]? = some v ∧ ys.head? = some y ∧ y ∈ ys ∧ R v y := by
 induction ys with
 | nil => induction vs with
  | nil => exact absurd rfl hn
  | cons v vs => k_call_by "c" h
 | cons y ys => induction vs with
  | nil => exact absurd rfl hn
  | cons v vs => exact ⟨v, y, rfl, rfl, .head _, h.1⟩
theorem cons_of {l : List α} (h : l.length ≠ 0) : ∃ a r, l = a :: r := by
 induction l with
 | nil => exact absurd rfl h
 | cons a r => exact ⟨a, r, rfl⟩
variable {g : Gx} {X : Ex → St → Prop} {Q : Fl → St → Prop} {st : St}
theorem law_c9 {n : Nat} {m : Mine g} {c : Lc} {k : Nat} {rows : List R} (J : LJ c k rows st) (hk : k ≤ 10)
  (h : ∀ st', st'.σ "grammar" = some (.ref c.gr) → st'.σ "taken" = some (.ref c.ta) → LE st'.μ c.gr c.ta rows → (∀ r ∈ rows, RowOk r) → rows.length ≤ 10 → st'.μ c.sc = some (.pin c.pv) → (∃ b, st'.μ 45 = some (.tab b)) → (r_law_c10 (n := n) m).1 Q X st') : (r_law_c9 (n := n) m).1 Q X st := by
 obtain ⟨F, ad, S, vs, ⟨s1, s2, s3, s4, i1, i2, hG, i3, i4⟩, G, hv, hsy, hes, ok, _⟩ := J
 have hSm := G.small ok hk
 have hvl := hSm.vs
 have hrl := G.rl
 have hvs := hv.length
 have hta := hG.tk i4
 have hvs5 : vs.length ≤ 100000 := by omega
 refine exG1_2 G.vs fun rs e1 e2 => ?_
 unfold r_law_c9; dsimp only
 walk_at "w"
 refine wk_split (fun hb => ?_) (fun hb => ?_)
 ·have hvn : vs.length ≠ 0 := by
   intro e; rw [e] at hb; simp at hb
  refine exG2_4 (hv.head hvn) fun v r f1 f2 f3 f4 => ?_
  obtain ⟨v1, rest, f5⟩ : ∃ v1 rest, rs = v1 :: rest := cons_of (by
   have := e2.length
   rw [List.length_zipIdx] at this; omega)
  rw [f5] at e1
  have hro := ok r f3
  obtain ⟨ra, rl, rtp, rfl, w1, w2, w3⟩ := f4
  have w1' := hG.mem.le _ _ w1
  have hkn : r.nm ∈ S.kn := by rw [G.kn]; exact knOf_nm ok f3
  obtain ⟨i0, e0, j1, -, -, -, -, -, -, -, -, -, -, -, -⟩ := hG.all
  have hno : dget S.es "set_start" = none := hG.at_.no _ (by simp)
  have hv1000 : vs.length ≤ 1000 := by rw [hvs]; omega
  have hs0 : seqIndex? 0 vs.length = some 0 := seqIndex_nat (i := 0) (by omega)
  refine exG0_3 (names_small _ hro.nm) fun _ _ h1n => ?_
  have hnok := names3_ok _ hro.nm
  walk_at "w"
  refine wk_idxL (j := 0) (u := .ref ra) (by walk_at "mu") hv1000 hs0 f1 ?_
  walk_at "w"
  refine wk_idxT (j := 0) (u := .str r.nm) (by walk_at "mu") (by simp) (by simp [seqIndex?]) rfl ?_
  walk_at "w"
  refine sp_set_start (F := F) (ad := ad) (S := S) (v1 := v1) (rest := rest) hG e1 hvl (by omega) (by omega) hkn (hSm.cn _) hes hnok fun μ' F' v0 ad' kF hP hG' => ?_
  walk_at "w"
  have hta' := hG'.tk i4
  have hF' := hG'.mem.le
  have w1'' := hF' _ _ (kF _ _ w1)
  obtain ⟨i0', e0', j1', -, -, -, -, -, -, -, -, -, -, -, -⟩ := hG'.all
  have hvl' : ({ S with vs := v0 :: v1 :: rest, cn := fun k => if k = r.nm then S.cn r.nm ++ [.int 0] else S.cn k, es := dput S.es "Start" (.str r.nm) } : GS).vs.length ≤ 100 := by
   show (v0 :: v1 :: rest).length ≤ 100
   rw [e1] at hvl; simpa using hvl
  obtain ⟨pa, pdd, pes, pep, pt, rfl, p1, p2, p3, p4, p5, p6, p7, p8, p9⟩ := hP.le hF'
  refine wk_getO (by walk_at "mu") (by walk_at "mu") ?_
  refine sp_getitem_G (i := 0) hG' hvl' rfl ?_
  walk_at "w"
  refine wk_getO (by walk_at "mu") (by walk_at "mu") ?_
  refine sp_getitem_G (i := 0) hG' hvl' rfl ?_
  walk_at "w"
  refine wk_getO (by walk_at "mu") (by walk_at "mu") ?_
  refine sp_getitem_G (i := 0) hG' hvl' rfl ?_
  walk_at "w"
  refine wk_tup (by simp) fun t1 ht1 => ?_
  walk_at "w"
  refine wk_idxL (j := 0) (u := .ref ra) (by walk_at "mu") hv1000 hs0 f1 ?_
  walk_at "w"
  refine wk_idxT (j := 0) (u := .str r.nm) (by walk_at "mu") (by simp) (by simp [seqIndex?]) rfl ?_
  walk_at "w"
  refine wk_tup (by simp) fun t2 ht2 => ?_
  walk_at "w"
  refine wk_idxL (j := 0) (u := .ref ra) (by walk_at "mu") hv1000 hs0 f1 ?_
  walk_at "w"
  refine wk_idxT (j := 0) (u := .str r.nm) (by walk_at "mu") (by simp) (by simp [seqIndex?]) rfl ?_
  walk_at "w"
  refine wk_tup (by simp) fun t3 ht3 => ?_
  walk_at "w"
  have hlay := sD_ok hnok
  refine wk_neR (d := sD r.nm) (e := sD r.nm) ?_ ?_ hlay hlay ?_
  ·exact .tup (by walk_at "mu") (.cons (.int _) (.cons (.str _) (.cons (.tup (by walk_at "mu") (rdAll_strs [r.nm])) (.cons (.str _) .nil))))
  ·exact .tup (by walk_at "mu") (.cons (.int _) (.cons (.str _) (.cons (.tup (by walk_at "mu") (.cons (.str _) .nil)) (.cons (.str _) .nil))))
  rw [PySem.SeqAt.eqv_refl _ hlay.1]
  walk_at "w"
  obtain ⟨i0, e0, k1, k2, ea, k3, eb, k4, ec, k5, ed, k6, ee, k7, k8⟩ := hG'.all
  have hkN : ∀ x ∈ S.kn, μ' (ad' (.N x)) = some (.list (if x = r.nm then S.cn r.nm ++ [.int 0] else S.cn x)) := fun x hx => hG'.N (k := x) hx
  have hkT : ∀ x ∈ S.kt, μ' (ad' (.T x)) = some (.list (S.ct x)) := fun x hx => hG'.T (k := x) hx
  have key : ∀ μ2, Le μ' μ2 → LE μ2 c.gr c.ta rows := by
   intro μ2 hLe
   refine ⟨vs, _, _, _, _, ed, _, ec, fun k => ad' (.N k), fun k => ad' (.T k), S.kt, hLe _ _ hta', hv.mono fun _ _ q => (q.le kF).le (hF'.trans hLe), hLe _ _ i0, hLe _ _ k1, hG'.at_.nt, ?_, hG'.at_.t, hLe _ _ k5, ?_, ?_⟩
   ·rw [← G.kn]; exact hLe _ _ k6
   ·intro x hx
    have hx' : x ∈ S.kn := by rw [G.kn]; exact hx
    have hxn : x ∈ names3 := knOf_names ok x hx
    have := hLe _ _ (hkN x hx')
    rw [G.cn, G.cn, if_pos hro.nm, if_pos hxn] at this
    rw [this]
    unfold plc
    rw [f2]
    by_cases e : x = r.nm
    ·subst e; simp
    ·have e' : ¬ (some r.nm = some x) := fun hh => e (Option.some.inj hh).symm
     simp [e, e']
   ·intro x hx
    refine exG0_2 (abc_toks x hx) fun x1 x2 => ?_
    have hx' := G.kt.base x x2
    refine ⟨hx', ?_⟩
    have := hLe _ _ (hkT x hx')
    rw [G.ct, if_pos x1] at this
    exact this
  have hsc := hF' _ _ (kF _ _ i1)
  refine exG1_1 hG'.tb fun bb htb => ?_
  exact h _ (by walk_at "sg") (by walk_at "sg") (key _ (by walk_at "le")) ok (by omega) (by walk_at "mu") ⟨bb, by walk_at "mu"⟩
 ·have hr0 : rows = [] := by
   induction rows with
   | nil => rfl
   | cons r rows => rw [hvs] at hb; simp at hb
  subst hr0
  walk_at "w"
  obtain ⟨i0, e0, k1, k2, ea, k3, eb, k4, ec, k5, ed, k6, ee, k7, k8⟩ := hG.all
  refine h _ s2 s4 ?_ ok (by simp) (hG.mem.le _ _ i1) hG.tb
  refine ⟨vs, _, _, _, _, ed, _, ec, fun k => ad (.N k), fun k => ad (.T k), S.kt, hta, hv.mono fun _ _ q => q.le hG.mem.le, i0, k1, hG.at_.nt, ?_, hG.at_.t, k5, ?_, ?_⟩
  ·rw [← G.kn]; exact k6
  ·intro x hx; k_call_by "c" hx
  ·intro x hx
   refine exG0_2 (abc_toks x hx) fun x1 x2 => ?_
   have hx' := G.kt.base x x2
   refine ⟨hx', ?_⟩
   have := hG.T hx'
   rw [G.ct, if_pos x1] at this
   exact this
theorem law_c8 {n : Nat} {m : Mine g} {c : Lc} {k : Nat} {rows : List R} (J : LJ c k rows st) (hk : k ≤ 10)
  (h : ∀ st', st'.σ "grammar" = some (.ref c.gr) → st'.σ "taken" = some (.ref c.ta) → LE st'.μ c.gr c.ta rows → (∀ r ∈ rows, RowOk r) → rows.length ≤ 10 → st'.μ c.sc = some (.pin c.pv) → (∃ b, st'.μ 45 = some (.tab b)) → (r_law_c10 (n := n) m).1 Q X st') : (r_law_c8 (n := n) m).1 Q X st := by
 have J0 := J
 obtain ⟨F, ad, S, vs, ⟨s1, s2, s3, s4, i1, i2, hG, i3, i4⟩, G, hv, hsy, hes, ok, _⟩ := J
 have hSm := G.small ok hk
 have hvl := hSm.vs
 refine exG1_2 G.vs fun rs e1 e2 => ?_
 obtain ⟨i0, e0, j1, -, -, -, -, -, -, -, -, -, -, -, -⟩ := hG.all
 have hno : dget S.es "set_start" = none := hG.at_.no _ (by simp)
 unfold r_law_c8; dsimp only
 walk_at "w"
 refine wk_tryG ?_
 walk_at "w"
 refine hdl_start hG (by decide +kernel) (by decide +kernel) (fun hm => wl_no (knOf_names ok _ (G.kn ▸ hm))) ?_
 refine wk_tryX ?_
 walk_at "w"
 refine wk_getO (by walk_at "mu") (by walk_at "mu") ?_
 refine sp_getitem_G (i := 0) (u := .none) hG hvl (by rw [e1]; rfl) ?_
 walk_at "w"
 refine wk_isnN ?_
 refine wk_neg (by simp) ?_
 walk_at "w"
 exact law_c9 J0 hk h
end Kk
end
section
set_option maxHeartbeats 1000000
namespace Kk
variable {α β γ δ : Type}
noncomputable def nmStep (acc : List Str) (x : Str) : List Str := if (decide (x ∈ names3) && !decide (x ∈ acc)) = true then acc ++ [x] else acc
theorem nmStep_kn {acc : List Str} {x : Str} (hx : x ∈ alpha) : nmStep acc x = knStep toks acc x := by
 unfold nmStep knStep
 by_cases h : x ∈ toks
 ·have h3 : x ∉ names3 := fun hn => names_toks x hn h
  simp [h, h3]
 ·have h3 : x ∈ names3 := (alpha_split x hx).resolve_left h
  by_cases ha : x ∈ acc <;> simp [h, h3, ha]
theorem names_alpha : ∀ x ∈ names3, x ∈ alpha := by decide +kernel
theorem nmRun_kn {acc : List Str} : ∀ {xs : List Str}, (∀ x ∈ xs, x ∈ alpha) → xs.foldl nmStep acc = xs.foldl (knStep toks) acc := by
 intro xs
 induction xs generalizing acc with
 | nil => intro _; rfl
 | cons x r ih =>
  intro h
  rw [List.foldl_cons, List.foldl_cons, nmStep_kn (h x (.head _))]
  exact ih fun z hz => h z (.tail _ hz)
theorem nmStep_names {acc : List Str} {x : Str} (h : ∀ k ∈ acc, k ∈ names3) : ∀ k ∈ nmStep acc x, k ∈ names3 := by
 unfold nmStep
 intro k hk
 split at hk
 ·rename_i hb
  rw [Bool.and_eq_true] at hb
  rcases List.mem_append.mp hk with hk | hk
  ·exact h k hk
  ·rw [List.mem_singleton.mp hk]; exact of_decide_eq_true hb.1
 ·exact h k hk
theorem nmStep_len {acc : List Str} {x : Str} : (nmStep acc x).length ≤ acc.length + 1 := by
 unfold nmStep; split <;> simp
theorem knOf_row {pre : List R} {r : R} (hn : r.nm ∈ names3) (hs : ∀ s ∈ r.sy, s ∈ alpha) : (r.nm :: r.sy).foldl nmStep (knOf pre) = knOf (pre ++ [r]) := by
 rw [knOf_app, nmRun_kn (by
  intro x hx
  rcases List.mem_cons.mp hx with rfl | hx
  ·exact names_alpha _ hn
  ·exact hs x hx), List.foldl_cons]
 rfl
variable {g : Gx} {X : Ex → St → Prop} {Q : Fl → St → Prop} {st : St}
theorem law_c11 {n : Nat} {m : Mine g} {μ0 : Addr → Option O} {gr ta na : Addr} {rows : List R} (v1 : st.σ "grammar" = some (.ref gr)) (v2 : st.σ "taken" = some (.ref ta)) (v3 : st.σ "names" = some (.ref na)) (E : LE μ0 gr ta rows) (ok : ∀ r ∈ rows, RowOk r) (hl : rows.length ≤ 10)
  (hna : μ0 na = none) (hle : Le μ0 st.μ) (hn0 : st.μ na = some (.list []))
  (h : ∀ st', st'.σ "grammar" = some (.ref gr) → st'.σ "taken" = some (.ref ta) → st'.σ "names" = some (.ref na) → Le μ0 st'.μ → st'.μ na = some (.list ((knOf rows).map .str)) → (r_law_c12 (n := n) m).1 Q X st') : (r_law_c11 (n := n) m).1 Q X st := by
 obtain ⟨vs, d, es, ep, nt, e1, t, e2, fN, fT, kt, h1, hv, g1, g2, g3, g4, g5, g6, hn, ht⟩ := E
 have hta := hle _ _ h1
 unfold r_law_c11; dsimp only
 walk_at "w"
 refine loop_gen (its_list (xs := vs) (by walk_at "mu")) hv.ones (fun pre st' => SameBut ["row", "x"] st.σ st'.σ ∧ Le μ0 st'.μ ∧ st'.μ na = some (.list ((knOf pre).map .str))) ?_ ?_ ?_ ?_
 ·exact ⟨SameBut.refl, hle, hn0⟩
 ·intro i st' hi q0q
  refine exG0_3 q0q fun _ k1 _ => ?_
  exact cur_list (k1 _ _ h1)
 ·intro pre r post l st1 K hps q0q q1q hK
  refine exG1_2 q0q fun v r1 hR => ?_
  obtain rfl := r1
  refine exG0_3 q1q fun b1 b2 b3 => ?_
  have hrm : r ∈ rows := by rw [hps]; simp
  have hpre : ∀ q ∈ pre, q ∈ rows := fun q hq => by rw [hps]; exact List.mem_append_left _ hq
  have hro := ok r hrm
  have hkn : ∀ k ∈ knOf pre, k ∈ names3 := knOf_names fun q hq => ok q (hpre q hq)
  have hknl : (knOf pre).length ≤ 40 := by
   have h1 := knOf_len pre fun q hq => (ok q (hpre q hq)).len
   have h2 := congrArg List.length hps
   simp at h2; omega
  obtain ⟨ra, rl, rtp, rfl, w1, w2, w3⟩ := hR
  have w1' := b2 _ _ w1
  have w2' := b2 _ _ w2
  have hrl : (r.sy.map V.str).length ≤ 1000 := by have := hro.len; simp; omega
  walk_at "w"
  refine wk_idxT (j := 0) (u := .str r.nm) (by walk_at "mu") (by simp) (by simp [seqIndex?]) rfl ?_
  walk_at "w"
  refine wk_list (by simp) fun l1 hl1 => ?_
  walk_at "w"
  refine wk_idxT (j := 1) (u := .ref rl) (by walk_at "mu") (by simp) (by simp [seqIndex?]) rfl ?_
  refine wk_addL (xs := [.str r.nm]) (ys := r.sy.map .str) (by walk_at "mu") (by walk_at "mu") (by simp) hrl fun b hb => ?_
  have hbn : na ≠ b := by
   intro e; subst e
   have hb' : upd st1.μ l1 (.list [.str r.nm]) na = none := hb
   have : st1.μ na = none := (Le.refl.new hl1 : Le st1.μ (upd st1.μ l1 (.list [.str r.nm]))).noneOf hb'
   rw [b3] at this; k_call_by "c" this
  have hl1n : na ≠ l1 := ne_none b3 hl1
  have hbl : ([.str r.nm] ++ r.sy.map V.str : List V) = (r.nm :: r.sy).map .str := rfl
  rw [hbl]
  have hμ0b : μ0 b = none := Le.noneOf (by walk_at "le") hb
  have hF : Le (upd μ0 b (.list ((r.nm :: r.sy).map .str))) (((st1.set "row" (.ref ra)).put l1 (.list [.str r.nm])).put b (.list ((r.nm :: r.sy).map .str))).μ := by
   refine Le.ext (μ := ((st1.set "row" (.ref ra)).put l1 (.list [.str r.nm])).μ) ?_ hb
   walk_at "le"
  have hFna : upd μ0 b (.list ((r.nm :: r.sy).map .str)) na = none := u_none hbn hna
  have hF0 : Le μ0 (upd μ0 b (.list ((r.nm :: r.sy).map .str))) := Le.refl.new hμ0b
  have hFb : upd μ0 b (.list ((r.nm :: r.sy).map .str)) b = some (.list ((r.nm :: r.sy).map .str)) := u_same
  generalize upd μ0 b (.list ((r.nm :: r.sy).map .str)) = μ1 at hF hFna hF0 hFb
  have hal : ∀ x ∈ r.nm :: r.sy, x ∈ alpha := by
   intro x hx
   rcases List.mem_cons.mp hx with rfl | hx
   ·exact names_alpha _ hro.nm
   ·exact hro.sy x hx
  walk_at "w"
  refine loop_gen (its_list (xs := (r.nm :: r.sy).map .str) (by walk_at "mu")) (LR.strs (r.nm :: r.sy)).ones (fun pre2 st' => SameBut ["row", "x"] st.σ st'.σ ∧ Le μ1 st'.μ ∧ ∃ acc : List Str, acc = pre2.foldl nmStep (knOf pre) ∧ st'.μ na = some (.list (acc.map .str)) ∧ acc.length ≤ 40 + pre2.length ∧ ∀ k ∈ acc, k ∈ names3) ?_ ?_ ?_ ?_
  ·exact ⟨SameBut.put (SameBut.put (SameBut.set (by walk_at "nm") b1)), hF, knOf pre, rfl, put_ne hbn (put_ne hl1n b3), hknl, hkn⟩
  ·intro i st' hi q0q
   refine exG0_3 q0q fun _ k1 _ => ?_
   exact cur_list (k1 _ _ hFb)
  ·intro pre2 y post2 l st2 K2 hps2 q0q q1q hK2
   refine exG1_2 q0q fun v r2 r3 => ?_
   obtain rfl := r2
   obtain rfl := r3
   refine exG0_3 q1q fun c1 c2 r4 => ?_
   refine exG1_4 r4 fun acc r5 c4 c5 c6 => ?_
   obtain rfl := r5
   have hya : y ∈ alpha := hal y (by rw [hps2]; simp)
   have hp2 : pre2.length ≤ 3 := by
    have h5 := congrArg List.length hps2; have h6 := hro.len; simp at h5; omega
   have hyok := alpha_ok y hya
   have haok : ∀ z ∈ pre2.foldl nmStep (knOf pre), PyData.strOk z = true := fun z hz => names3_ok z (c6 z hz)
   have hacl : ((pre2.foldl nmStep (knOf pre)).map V.str).length ≤ 1000 := by rw [List.length_map]; omega
   have hst : (pre2 ++ [y]).foldl nmStep (knOf pre) = nmStep (pre2.foldl nmStep (knOf pre)) y := by rw [List.foldl_append]; rfl
   have c7 := nmStep_names (x := y) c6
   have c8 := nmStep_len (acc := pre2.foldl nmStep (knOf pre)) (x := y)
   generalize pre2.foldl nmStep (knOf pre) = acc at c4 c5 c6 haok hacl hst c7 c8
   walk_at "w"
   refine wk_list (by simp) fun l2 hl2 => ?_
   have hl2n : na ≠ l2 := ne_none (μ := (st2.set "x" (.str y)).μ) c4 hl2
   refine wk_inL (ys := names3) (by exact put_same) names3_ok hyok ?_
   have hmu : ((st2.set "x" (.str y)).put l2 (.list [.str "s", .str "t", .str "u"])).μ na = some (.list (acc.map .str)) := put_ne hl2n c4
   refine wk_and (b2 := !decide (y ∈ acc)) (fun Q X h => ?_) ?_
   ·walk_at "w"
    rw [Bool.and_true]; exact h
   refine wk_split (fun hb1 => ?_) (fun hb1 => ?_)
   ·walk_at "w"
    refine hK2 _ ⟨SameBut.put (SameBut.put (SameBut.set (by walk_at "nm") c1)), Le.put_mut hFna (by walk_at "le"), _, hst.symm, ?_, by simp; omega, c7⟩
    unfold nmStep
    rw [if_pos hb1, List.map_append]
    exact put_same
   ·walk_at "w"
    refine hK2 _ ⟨SameBut.put (SameBut.set (by walk_at "nm") c1), by walk_at "le", _, hst.symm, ?_, by simp; omega, c7⟩
    unfold nmStep
    rw [if_neg (by rw [hb1]; decide)]
    exact hmu
  ·intro st2 q0q
   refine exG0_3 q0q fun c1 c2 r6 => ?_
   refine exG1_4 r6 fun acc r7 c4 c5 c6 => ?_
   obtain rfl := r7
   walk_at "w"
   rw [knOf_row hro.nm hro.sy] at c4
   exact hK _ ⟨c1, hF0.trans c2, c4⟩
 ·intro st1 q0q
  refine exG0_3 q0q fun b1 b2 b3 => ?_
  walk_at "w"
  exact h st1 (by walk_at "sg") (by walk_at "sg") (by walk_at "sg") b2 b3
theorem law_c12 {n : Nat} {m : Mine g} {μ0 : Addr → Option O} {gr ta na : Addr} {rows : List R} (v1 : st.σ "grammar" = some (.ref gr)) (v2 : st.σ "taken" = some (.ref ta)) (v3 : st.σ "names" = some (.ref na)) (E : LE μ0 gr ta rows) (ok : ∀ r ∈ rows, RowOk r) (hl : rows.length ≤ 10)
  (hle : Le μ0 st.μ) (hna : st.μ na = some (.list ((knOf rows).map .str)))
  (h : ∀ st', st'.σ "grammar" = some (.ref gr) → st'.σ "taken" = some (.ref ta) → st'.σ "names" = some (.ref na) → Le μ0 st'.μ → st'.μ na = some (.list ((knOf rows).map .str)) → (r_law_c13 (n := n) m).1 Q X st') : (r_law_c12 (n := n) m).1 Q X st := by
 have E0 := E
 obtain ⟨vs, d, es, ep, nt, e1, t, e2, fN, fT, kt, h1, hv, g1, g2, g3, g4, g5, g6, hn, ht⟩ := E
 have hkn : ∀ k ∈ knOf rows, k ∈ names3 := knOf_names ok
 have hknl : (knOf rows).length ≤ 40 := by
  have h1 := knOf_len rows fun q hq => (ok q hq).len
  omega
 have g1' := hle _ _ g1
 have g2' := hle _ _ g2
 have g4' := hle _ _ g4
 have hits : ((tabOf (knOf rows) fN).map fun p => [V.str p.1]) = (knOf rows).map fun k => [V.str k] := by unfold tabOf; rw [List.map_map]; rfl
 unfold r_law_c12; dsimp only
 walk_at "w"
 refine wk_comp (hasFree_of [] (by kernel_rfl) trivial) ?_
 walk_at "w"
 refine comp_gen (hasFree_of [] (by kernel_rfl) trivial) (its_keys (by walk_at "mu")) (ys := knOf rows) (G := fun l y => l = [V.str y]) (by rw [hits]; exact LR.of_map (R := fun (l : List V) y => l = [V.str y]) (f := fun k => [V.str k]) (fun _ => rfl) _) (fun pre acc st' => Le st.μ st'.μ ∧ acc = pre.map V.str) ⟨Le.refl, rfl⟩ ?_ ?_ ?_
 ·intro i acc st' hi q0q
  refine exG0_2 q0q fun k1 _ => ?_
  exact cur_keys (k1 _ _ g4')
 ·intro pre y post l acc st' K hps q0q q1q hK
  obtain rfl := q0q
  obtain ⟨k1, rfl⟩ := q1q
  have hpl : (pre.map V.str).length ≤ 1000 := by
   have := congrArg List.length hps
   simp at this ⊢; omega
  walk_at "w"
  refine wk_splitC (fun _ => ?_) (fun hb => by k_call_by "c" hb)
  walk_at "w"
  exact ⟨hpl, hK _ _ ⟨by walk_at "le", by simp⟩⟩
 ·intro acc st' D q0q hD
  obtain ⟨k1, rfl⟩ := q0q
  have hna' := k1 _ _ hna
  walk_at "w"
  have hok := okD_strs (ys := knOf rows) fun y hy => names3_ok y (hkn y hy)
  refine wk_neR (d := .list ((knOf rows).map .str)) (e := .list ((knOf rows).map .str)) (.list (by exact u_same) (rdAll_strs _)) (.list (u_old hD hna') (rdAll_strs _)) hok hok ?_
  rw [PySem.SeqAt.eqv_refl _ hok.1]
  walk_at "w"
  exact h _ v1 v2 v3 (hle.trans (k1.new hD)) (u_old hD hna')
end Kk
end
section
set_option maxHeartbeats 1000000
namespace Kk
variable {α β γ δ : Type}
noncomputable def compI (asg2 : List V → M Unit) (tests : M Bool) (elt : M V) (acc : List V) (K : List V → St → Prop) (sr : Src) (st : St) : Prop := compGo sr.cur asg2 tests elt K 0 (sr.its st) acc st
theorem comp_in {sr : Src} {asg : List V → M Unit} {tests : M Bool} {elt : M V} {K : List V → St → Prop} {its : List (List V)} {ys : List α} {G : List V → α → Prop} {acc0 : List V} {st : St} (hi : sr.its st = its) (hr : LR G its ys) (I : List α → List V → St → Prop) (h0 : I [] acc0 st)
  (hc : ∀ i acc st', i ≤ ys.length → I (ys.take i) acc st' → sr.cur i st' its[i]?)
  (hs : ∀ pre y post l acc st' (K : List V → St → Prop), ys = pre ++ y :: post → G l y → I pre acc st' → (∀ acc' st2, I (pre ++ [y]) acc' st2 → K acc' st2) → asg l (fun _ st1 => tests (compB elt acc K) (fun _ _ => False) st1) (fun _ _ => False) st')
  (he : ∀ acc st', I ys acc st' → K acc st') : compI asg tests elt acc0 K sr st := by
 unfold compI
 rw [hi]
 have hlen := hr.length
 refine compGo_rule (xs := its) (fun i acc st' => I (ys.take i) acc st') ?_ ?_ _ 0 acc0 _ rfl (Nat.zero_le _) (by simpa using h0)
 ·intro i acc st' x K hx hI hK
  have hlt : i < ys.length := hlen ▸ (List.getElem?_eq_some_iff.mp hx).1
  refine exG1_2 (hr.get (List.getElem?_eq_getElem hlt)) fun v' hv' hR => ?_
  rw [hx] at hv'; cases hv'
  refine ⟨hx ▸ hc i acc st' (Nat.le_of_lt hlt) hI, ?_⟩
  refine hs (ys.take i) ys[i] (ys.drop (i + 1)) x acc st' K (by rw [← List.drop_eq_getElem_cons hlt, List.take_append_drop]) hR hI fun acc' st2 h2 => hK acc' st2 ?_
  rw [List.take_succ_eq_append_getElem hlt]; exact h2
 ·intro acc st' hI
  have := hc _ acc st' (Nat.le_of_eq hlen) hI
  rw [hlen, List.take_length] at hI
  exact ⟨by simpa using this, he acc st' hI⟩
noncomputable def compK2 (scope : Scope) (asg : List V → M Unit) (src2 : M Src) (asg2 : List V → M Unit) (tests : M Bool) (elt : M V) (Q : V → St → Prop) (sr : Src) (st1 : St) : Prop := hasFree scope st1 ∧
 go2 scope asg src2 asg2 tests elt sr (fun acc st' => ∀ D, st'.μ D = none → Q (.ref D) ⟨st1.σ, upd st'.μ D (.list acc)⟩) st1
theorem wk_comp2 {scope : Scope} {psrc : M Src} {asg : List V → M Unit} {src2 : M Src} {asg2 : List V → M Unit} {tests : M Bool} {elt : M V} {Q : V → St → Prop} {X : Ex → St → Prop} {st : St} (hf : hasFree scope st) (h : psrc (compK2 scope asg src2 asg2 tests elt Q) X st) : compGM scope psrc (go2 scope asg src2 asg2 tests elt) Q X st := ⟨hf, h⟩
theorem compGo2_rule {ι : Type} {cur : Nat → St → Option ι → Prop} {asg : ι → M Unit} {src2 : M Src} {asg2 : List V → M Unit} {tests : M Bool} {elt : M V} {fin : List V → St → Prop} {xs : List ι} (I : Nat → List V → St → Prop)
  (hs : ∀ i acc st' x (K : List V → St → Prop), xs[i]? = some x → I i acc st' → (∀ acc' st2, I (i + 1) acc' st2 → K acc' st2) → cur i st' (some x) ∧ asg x (fun _ st1 => src2 (compI asg2 tests elt acc K) (fun _ _ => False) st1) (fun _ _ => False) st')
  (he : ∀ acc st', I xs.length acc st' → cur xs.length st' none ∧ fin acc st') : ∀ (r : List ι) (i : Nat) (acc : List V) (st : St), xs.drop i = r → i ≤ xs.length → I i acc st → compGo2 cur asg src2 asg2 tests elt fin i r acc st := by
 intro r
 induction r with
 | nil =>
  intro i acc st hd hi h
  have : i = xs.length := Nat.le_antisymm hi (by simpa using hd)
  subst this
  exact he acc st h
 | cons x r ih =>
  intro i acc st hd hi h
  have hx : xs[i]? = some x := by
   have := congrArg (·[0]?) hd
   simpa using this
  have hlt : i < xs.length := (List.getElem?_eq_some_iff.mp hx).1
  have hd2 : xs.drop (i + 1) = r := by
   have := congrArg (List.drop 1) hd
   simpa using this
  exact hs i acc st x _ hx h fun acc' st2 h2 => ih (i + 1) acc' st2 hd2 hlt h2
theorem comp_gen2 {sr : Src} {scope : Scope} {asg : List V → M Unit} {src2 : M Src} {asg2 : List V → M Unit} {tests : M Bool} {elt : M V} {Q : V → St → Prop} {its : List (List V)} {ys : List α} {G : List V → α → Prop} {st : St} (hf : hasFree scope st) (hi : sr.its st = its) (hr : LR G its ys) (I : List α → List V → St → Prop) (h0 : I [] [] (compSt scope st))
  (hc : ∀ i acc st', i ≤ ys.length → I (ys.take i) acc st' → sr.cur i st' its[i]?)
  (hs : ∀ pre y post l acc st' (K : List V → St → Prop), ys = pre ++ y :: post → G l y → I pre acc st' → (∀ acc' st2, I (pre ++ [y]) acc' st2 → K acc' st2) → asg l (fun _ st1 => src2 (compI asg2 tests elt acc K) (fun _ _ => False) st1) (fun _ _ => False) st')
  (he : ∀ acc st' D, I ys acc st' → st'.μ D = none → Q (.ref D) ⟨st.σ, upd st'.μ D (.list acc)⟩) : compK2 scope asg src2 asg2 tests elt Q sr st := by
 refine ⟨hf, ?_⟩
 unfold go2
 rw [hi]
 have hlen := hr.length
 refine compGo2_rule (xs := its) (fun i acc st' => I (ys.take i) acc st') ?_ ?_ _ 0 [] _ rfl (Nat.zero_le _) (by simpa using h0)
 ·intro i acc st' x K hx hI hK
  have hlt : i < ys.length := hlen ▸ (List.getElem?_eq_some_iff.mp hx).1
  refine exG1_2 (hr.get (List.getElem?_eq_getElem hlt)) fun v' hv' hR => ?_
  rw [hx] at hv'; cases hv'
  refine ⟨hx ▸ hc i acc st' (Nat.le_of_lt hlt) hI, ?_⟩
  refine hs (ys.take i) ys[i] (ys.drop (i + 1)) x acc st' K (by rw [← List.drop_eq_getElem_cons hlt, List.take_append_drop]) hR hI fun acc' st2 h2 => hK acc' st2 ?_
  rw [List.take_succ_eq_append_getElem hlt]; exact h2
 ·intro acc st' hI
  have := hc _ acc st' (Nat.le_of_eq hlen) hI
  rw [hlen, List.take_length] at hI
  exact ⟨by simpa using this, fun D hD => he acc st' D hI hD⟩
noncomputable def occZ (ps : List (R × Nat)) (k : Str) : List Int := ps.flatMap fun p => (p.1.sy.filter fun t => decide (t = k)).map fun _ => ((p.2 : Nat) : Int) + 1
theorem occZ_app (ps : List (R × Nat)) (p : R × Nat) (k : Str) : occZ (ps ++ [p]) k = occZ ps k ++ (p.1.sy.filter fun t => decide (t = k)).map fun _ => ((p.2 : Nat) : Int) + 1 := by
 unfold occZ; rw [List.flatMap_append]; simp
theorem zip1 : ∀ (rows : List R) (n : Nat), rows.zipIdx (n + 1) = (rows.zipIdx n).map fun p => (p.1, p.2 + 1)
 | [], _ => rfl
 | r :: rs, n => by rw [List.zipIdx_cons, List.zipIdx_cons, zip1 rs (n + 1)]; rfl
theorem occZ_all (rows : List R) (k : Str) : occZ rows.zipIdx k = occ rows k := by
 unfold occZ occ
 rw [zip1 rows 0, List.flatMap_map]
 rfl
theorem rdAll_ints {μ : Addr → Option O} : ∀ (is : List Int), RdAll μ (is.map .int) (is.map .int)
 | [] => .nil
 | i :: r => .cons (.int i) (rdAll_ints r)
theorem ints_lay : ∀ (is : List Int), PyData.canLayAll0 (is.map .int) = true
 | [] => rfl
 | i :: r => by rw [List.map_cons, PyData.canLayAll0, PyData.canLay0, ints_lay r]; rfl
theorem ints_depth : ∀ (is : List Int), PyData.depthAll (is.map .int) = 0
 | [] => rfl
 | i :: r => by rw [List.map_cons, PyData.depthAll, PyData.depth, ints_depth r]; rfl
theorem okD_ints (is : List Int) : okD (.list (is.map .int)) := ⟨by rw [PyData.canLay0]; exact ints_lay is, by rw [PyData.depth, ints_depth]; omega⟩
theorem tabOf_get {ks : List Str} {f : Str → Addr} {k : Str} (h : k ∈ ks) : dget (tabOf ks f) k = some (.ref (f k)) := by
 unfold tabOf; rw [dget_keys (f := fun k => V.ref (f k)), if_pos h]
noncomputable def abc3 : List Str := ["A", "B", "C"]
theorem abc3_ok : ∀ x ∈ abc3, PyData.strOk x = true ∧ x ∉ names3 := by decide +kernel
variable {g : Gx} {X : Ex → St → Prop} {Q : Fl → St → Prop} {st : St}
theorem law_c13 {n : Nat} {m : Mine g} {μ0 : Addr → Option O} {gr ta na : Addr} {rows : List R} (v1 : st.σ "grammar" = some (.ref gr)) (v2 : st.σ "taken" = some (.ref ta)) (v3 : st.σ "names" = some (.ref na)) (E : LE μ0 gr ta rows) (ok : ∀ r ∈ rows, RowOk r) (hl : rows.length ≤ 10)
  (hle : Le μ0 st.μ) (hna : st.μ na = some (.list ((knOf rows).map .str))) (h : ∀ st', Le μ0 st'.μ → Q (.ret (.bool true)) st') : (r_law_c13 (n := n) m).1 Q X st := by
 obtain ⟨vs, d, es, ep, nt, e1, t, e2, fN, fT, kt, h1, hv, g1, g2, g3, g4, g5, g6, hn, ht⟩ := E
 have hkn : ∀ k ∈ knOf rows, k ∈ names3 := knOf_names ok
 have hknl : (knOf rows).length ≤ 40 := by
  have h1 := knOf_len rows fun q hq => (ok q hq).len
  omega
 have hkml : ((knOf rows).map V.str).length ≤ 1000 := by rw [List.length_map]; omega
 have hvl := hv.length
 unfold r_law_c13; dsimp only
 walk_at "w"
 refine wk_list (by simp) fun l1 hl1 => ?_
 refine wk_addL (xs := (knOf rows).map .str) (ys := [.str "A", .str "B", .str "C"]) (by walk_at "mu") (by walk_at "mu") hkml (by simp) fun b hb => ?_
 have hbl : ((knOf rows).map V.str ++ [.str "A", .str "B", .str "C"] : List V) = (knOf rows ++ abc3).map .str := by rw [List.map_append]; rfl
 rw [hbl]
 have hle1 : Le st.μ (((st.put l1 (.list [.str "A", .str "B", .str "C"])).put b (.list ((knOf rows ++ abc3).map .str)))).μ := by walk_at "le"
 have hb1 : (((st.put l1 (.list [.str "A", .str "B", .str "C"])).put b (.list ((knOf rows ++ abc3).map .str)))).μ b = some (.list ((knOf rows ++ abc3).map .str)) := put_same
 have hsb : SameBut ["x", "places"] st.σ (((st.put l1 (.list [.str "A", .str "B", .str "C"])).put b (.list ((knOf rows ++ abc3).map .str)))).σ := SameBut.put (SameBut.put SameBut.refl)
 generalize ((st.put l1 (.list [.str "A", .str "B", .str "C"])).put b (.list ((knOf rows ++ abc3).map .str))) = st1 at hle1 hb1 hsb
 have hna1 := hle1 _ _ hna
 have hle0 : Le μ0 st1.μ := hle.trans hle1
 walk_at "w"
 refine loop_gen (its_list hb1) (LR.strs (knOf rows ++ abc3)).ones (fun pre st' => SameBut ["x", "places"] st.σ st'.σ ∧ Le st1.μ st'.μ) ?_ ?_ ?_ ?_
 ·exact ⟨hsb, Le.refl⟩
 ·intro i st' hi q0q
  refine exG0_2 q0q fun _ k1 => ?_
  exact cur_list (k1 _ _ hb1)
 ·intro pre y post l st2 K hps q0q q1q hK
  refine exG1_2 q0q fun v r1 r2 => ?_
  obtain rfl := r1
  obtain rfl := r2
  refine exG0_2 q1q fun b1 b2 => ?_
  have hym : y ∈ knOf rows ++ abc3 := by rw [hps]; simp
  have hle2 : Le μ0 st2.μ := hle0.trans b2
  have hta := hle2 _ _ h1
  have s_gr : st2.σ "grammar" = some (.ref gr) := b1.get (by walk_at "nm") v1
  have s_ta : st2.σ "taken" = some (.ref ta) := b1.get (by walk_at "nm") v2
  have s_na : st2.σ "names" = some (.ref na) := b1.get (by walk_at "nm") v3
  walk_at "w"
  refine wk_comp2 (hasFree_of ["x"] (by kernel_rfl) ⟨⟨_, by walk_at "sg"⟩, trivial⟩) ?_
  walk_at "w"
  refine comp_gen2 (hasFree_of ["x"] (by kernel_rfl) ⟨⟨_, by walk_at "sg"⟩, trivial⟩) (its_enL (by walk_at "mu")) (LR.enum 0 hv) (fun pre acc st' => Le st2.μ st'.μ ∧ st'.σ "x" = some (.str y) ∧ acc = (occZ pre y).map .int ∧ acc.length ≤ 3 * pre.length) ?_ ?_ ?_ ?_
  ·exact ⟨Le.refl, by walk_at "sg", rfl, Nat.le_refl _⟩
  ·intro i acc st' hi q0q
   refine exG0_2 q0q fun k1 _ => ?_
   exact cur_enL (k1 _ _ hta) rfl
  ·intro pre2 q0q post2 l acc st3 K3 hps2 q1q q2q hK3
   obtain ⟨r, j⟩ := q0q
   refine exG1_2 q1q fun v r3 hR => ?_
   obtain rfl := r3
   refine exG0_4 q2q fun k1 k2 r4 k4 => ?_
   obtain rfl := r4
   have hrm : r ∈ rows := by
    have h2 : (r, j) ∈ rows.zipIdx := by rw [hps2]; simp
    exact (List.mem_zipIdx h2).2.2 ▸ List.getElem_mem _
   have hro := ok r hrm
   have hp2 : pre2.length ≤ 10 := by
    have h5 := congrArg List.length hps2
    simp at h5; omega
   obtain ⟨ra, rl, rtp, rfl, w1, w2, w3⟩ := hR.le (hle2.trans k1)
   walk_at "w"
   refine wk_idxT (j := 1) (u := .ref rl) (by walk_at "mu") (by simp) (by simp [seqIndex?]) rfl ?_
   walk_at "w"
   refine comp_in (its_list (xs := r.sy.map .str) (by walk_at "mu")) (LR.strs r.sy).ones (fun pre3 acc st' => Le st3.μ st'.μ ∧ st'.σ "x" = some (.str y) ∧ st'.σ "k" = some (.int (j : Int)) ∧ acc = (occZ pre2 y).map .int ++ (pre3.filter fun t => decide (t = y)).map (fun _ => V.int ((j : Int) + 1)) ∧ acc.length ≤ 3 * pre2.length + pre3.length) ?_ ?_ ?_ ?_
   ·exact ⟨Le.refl, by walk_at "sg", by walk_at "sg", by simp, by simpa using k4⟩
   ·intro i acc st' hi q0q
    refine exG0_2 q0q fun q1 _ => ?_
    exact cur_list (q1 _ _ w2)
   ·intro pre3 z post3 l acc st4 K4 hps3 q0q q1q hK4
    refine exG1_2 q0q fun v r5 r6 => ?_
    obtain rfl := r5
    obtain rfl := r6
    refine exG0_5 q1q fun q1 q2 q3 r7 q5 => ?_
    obtain rfl := r7
    have hp3 : pre3.length ≤ 3 := by
     have h5 := congrArg List.length hps3; have h6 := hro.len; simp at h5; omega
    walk_at "w"
    refine wk_splitC (fun hb => ?_) (fun hb => ?_)
    ·have e : z = y := by simpa using hb
     subst e
     walk_at "w"
     refine wk_addI ?_
     refine ⟨by omega, hK4 _ _ ⟨by walk_at "le", by walk_at "sg", by walk_at "sg", ?_, ?_⟩⟩
     ·rw [List.filter_append]; simp
     ·simp only [List.length_append, List.length_cons, List.length_nil] at q5 ⊢; omega
    ·have e : z ≠ y := by simpa using hb
     refine hK4 _ _ ⟨by walk_at "le", by walk_at "sg", by walk_at "sg", ?_, ?_⟩
     ·rw [List.filter_append]; simp [e]
     ·simp only [List.length_append, List.length_cons, List.length_nil] at q5 ⊢; omega
   ·intro acc st4 q0q
    refine exG0_5 q0q fun q1 q2 q3 r8 q5 => ?_
    obtain rfl := r8
    refine hK3 _ _ ⟨k1.trans q1, q2, ?_, ?_⟩
    ·rw [occZ_app, List.map_append, List.map_map]; rfl
    ·have := hro.len
     simp only [List.length_append, List.length_cons, List.length_nil] at q5 ⊢; omega
  ·intro acc st3 D q0q hD
   refine exG0_4 q0q fun k1 _ r9 k4 => ?_
   obtain rfl := r9
   rw [occZ_all] at k4 ⊢
   have hz := k4
   rw [List.length_zipIdx] at hz
   have hple : Le st2.μ (upd st3.μ D (.list ((occ rows y).map .int))) := k1.new hD
   have hDD : upd st3.μ D (.list ((occ rows y).map .int)) D = some (.list ((occ rows y).map .int)) := u_same
   have hDn : st2.μ D = none := k1.noneOf hD
   generalize upd st3.μ D (.list ((occ rows y).map .int)) = μ3 at hple hDD
   have hocl : ((occ rows y).map V.int).length ≤ 1000 := by omega
   have hna3 := hple _ _ (b2 _ _ hna1)
   have haok : ∀ z ∈ knOf rows, PyData.strOk z = true := fun z hz => names3_ok z (hkn z hz)
   have hle3 : Le μ0 μ3 := hle2.trans hple
   have g1' := hle3 _ _ g1
   have g2' := hle3 _ _ g2
   have g4' := hle3 _ _ g4
   have g6' := hle3 _ _ g6
   have hta3 := hle3 _ _ h1
   have ne : ∀ a o, st2.μ a = some o → a ≠ D := fun a o e q => by rw [q, hDn] at e; k_call_by "c" e
   have hnaD := ne _ _ (b2 _ _ hna1)
   have hgrD := ne _ _ (hle2 _ _ g1)
   have hdD := ne _ _ (hle2 _ _ g2)
   have hntD := ne _ _ (hle2 _ _ g4)
   have htD := ne _ _ (hle2 _ _ g6)
   have hD1 : st1.μ D = none := b2.noneOf hDn
   have hle13 : Le st1.μ μ3 := b2.trans hple
   have hyok : PyData.strOk y = true := by
    rcases List.mem_append.mp hym with hy | hy
    ·exact haok y hy
    ·exact (abc3_ok y hy).1
   walk_at "w"
   rcases List.mem_append.mp hym with hy | hy
   ·have hvn : vs.length ≠ 0 := by
     intro e
     rw [hvl] at e
     rw [List.length_eq_zero_iff.mp e] at hy
     k_call_by "c" hy
    refine exG2_4 (hv.head hvn) fun v0 r f1 f2 f3 f4 => ?_
    obtain ⟨ra, rl, rtp, rfl, w1, w2, w3⟩ := f4
    have w1' := hle3 _ _ w1
    have hv1000 : vs.length ≤ 1000 := by rw [hvl]; omega
    have hny := hle3 _ _ (hn y hy)
    have hfD := ne _ _ (hle2 _ _ (hn y hy))
    refine wk_pos (decide_eq_true hy) ?_
    walk_at "w"
    refine wk_idxL (j := 0) (u := .ref ra) (by walk_at "mu") hv1000 (seqIndex_nat (i := 0) (by omega)) f1 ?_
    walk_at "w"
    refine wk_idxT (j := 0) (u := .str r.nm) (by walk_at "mu") (by simp) (by simp [seqIndex?]) rfl ?_
    walk_at "w"
    rw [Bool.and_true]
    have hlay := okD_ints (plc rows y)
    refine wk_split (fun hb => ?_) (fun hb => ?_)
    ·have e : y = r.nm := by simpa using hb
     have hpl : plc rows y = occ rows y ++ [0] := by unfold plc; rw [f2, e]; simp
     walk_at "w"
     refine wk_pos (decide_eq_true hy) ?_
     walk_at "w"
     refine wk_idxD (u := .ref (fN y)) (by walk_at "mu") (tabOf_get hy) ?_
     walk_at "w"
     refine wk_neR (d := .list ((plc rows y).map .int)) (e := .list ((plc rows y).map .int)) (.list (by walk_at "mu") (rdAll_ints _)) ?_ hlay hlay ?_
     ·refine .list (xs := (plc rows y).map .int) ?_ (rdAll_ints _)
      rw [hpl, List.map_append]
      exact put_same
     rw [PySem.SeqAt.eqv_refl _ hlay.1]
     walk_at "w"
     exact hK _ ⟨SameBut.put (SameBut.set (by walk_at "nm") (show SameBut _ st.σ (st2.set "x" (.str y)).σ from SameBut.set (by walk_at "nm") b1)), Le.put_mut hD1 hle13⟩
    ·have e : r.nm ≠ y := by
      intro q; rw [q] at hb; simp at hb
     have hpl : plc rows y = occ rows y := by unfold plc; rw [f2]; simp [e]
     walk_at "w"
     refine wk_pos (decide_eq_true hy) ?_
     walk_at "w"
     refine wk_idxD (u := .ref (fN y)) (by walk_at "mu") (tabOf_get hy) ?_
     walk_at "w"
     rw [hpl] at hlay hny
     refine wk_neR (d := .list ((occ rows y).map .int)) (e := .list ((occ rows y).map .int)) (.list (by walk_at "mu") (rdAll_ints _)) (.list (by walk_at "mu") (rdAll_ints _)) hlay hlay ?_
     rw [PySem.SeqAt.eqv_refl _ hlay.1]
     walk_at "w"
     exact hK _ ⟨SameBut.set (by walk_at "nm") (show SameBut _ st.σ (st2.set "x" (.str y)).σ from SameBut.set (by walk_at "nm") b1), hle13⟩
   ·have hyn := (abc3_ok y hy).2
    refine exG0_2 (ht y hy) fun ht1 ht2 => ?_
    have hny := hle3 _ _ ht2
    have hlay := okD_ints (occ rows y)
    have hyk : y ∉ knOf rows := fun hm => hyn (hkn y hm)
    refine wk_neg (decide_eq_false hyk) ?_
    walk_at "w"
    refine wk_neg (decide_eq_false hyk) ?_
    walk_at "w"
    refine wk_idxD (u := .ref (fT y)) (by walk_at "mu") (tabOf_get ht1) ?_
    walk_at "w"
    refine wk_neR (d := .list ((occ rows y).map .int)) (e := .list ((occ rows y).map .int)) (.list (by walk_at "mu") (rdAll_ints _)) (.list (by walk_at "mu") (rdAll_ints _)) hlay hlay ?_
    rw [PySem.SeqAt.eqv_refl _ hlay.1]
    walk_at "w"
    exact hK _ ⟨SameBut.set (by walk_at "nm") (show SameBut _ st.σ (st2.set "x" (.str y)).σ from SameBut.set (by walk_at "nm") b1), hle13⟩
 ·intro st2 q0q
  refine exG0_2 q0q fun b1 b2 => ?_
  walk_at "w"
  unfold r_law_c14; dsimp only
  walk_at "w"
  exact h _ (hle0.trans b2)
end Kk
end
section
set_option maxHeartbeats 1000000
namespace Kk
variable {α β γ δ : Type}
variable {g : Gx} {X : Ex → St → Prop} {Q : Fl → St → Prop} {st : St}
theorem sp_law {n : Nat} {m : Mine g} {sc : Addr} {pv : Array Value} {ns : List Int} (hs : st.σ "script" = some (.ref sc)) (hsc : st.μ sc = some (.pin pv)) (hpv : pv.toList.map er = ns.map .int) (hl : ns.length ≤ 63) (hT : ∃ b, st.μ 45 = some (.tab b))
  (h : ∀ st', st'.μ sc = some (.pin pv) → (∃ b, st'.μ 45 = some (.tab b)) → Q (.ret (.bool true)) st') : (r_law (n := n) m).1 Q X st := by
 refine law_c0 hs hsc hpv hl hT fun st1 F gr lv ad ta es pr pd he hp I => ?_
 refine law_c7 he I hpv hl fun st2 c rows k ec ep hk J => ?_
 refine law_c8 J hk fun st3 a1 a2 a3 a4 a5 a6 a7 => ?_
 rw [ec, ep] at a6
 unfold r_law_c10; dsimp only
 walk_at "w"
 refine wk_list (by simp) fun na hna => ?_
 walk_at "w"
 have hle : Le st3.μ ((st3.put na (.list [])).set "names" (.ref na)).μ := by walk_at "le"
 refine law_c11 (μ0 := st3.μ) (by walk_at "sg") (by walk_at "sg") (by walk_at "sg") a3 a4 a5 hna hle (set_mu put_same) fun st4 b1 b2 b3 b4 b5 => ?_
 refine law_c12 b1 b2 b3 a3 a4 a5 b4 b5 fun st5 d1 d2 d3 d4 d5 => ?_
 refine law_c13 d1 d2 d3 a3 a4 a5 d4 d5 fun st6 e1 => ?_
 refine exG1_1 a7 fun bb e2 => ?_
 exact h _ (e1 _ _ a6) ⟨bb, e1 _ _ e2⟩
end Kk
end
section
set_option maxHeartbeats 2000000
namespace Kk
theorem cells_of {cm : Str → Option Value} {cs : List (Str × Addr)} {cells : List (Addr × Obj)} (h : CellsAre cm cs cells) : ∀ p ∈ cs, ∃ o, (p.2, o) ∈ cells ∧ ∃ v, o.data = .cell v := by
 induction h with
 | nil => intro p hp; k_call_by "c" hp
 | @cons n c o cs cells h1 h2 ih =>
  intro p hp
  rcases List.mem_cons.mp hp with rfl | hp
  ·exact ⟨o, .head _, _, h1⟩
  ·refine exG1_2 (ih p hp) fun o' a b => ?_
   exact ⟨o', .tail _ a, b⟩
theorem ns_ne {h : Heap} {a sc : Addr} {m : Str → Option Value} {o : Obj} {xs : Array Value} {n : Nat} (x : h.Ns a m) (e : h.get? sc = some o) (hd : o.data = .seq xs n) : a ≠ sc := by
 rintro rfl
 refine exG3_3 x fun o' es ep h1 h2 _ => ?_
 rw [e] at h1; k_call_by "c" h1
 rw [hd] at h2; k_call_by "c" h2
theorem ns_to {h h' : Heap} {a : Addr} {m : Str → Option Value} (x : h.Ns a m) (k : ∀ o, h.get? a = some o → h'.get? a = some o) : h'.Ns a m :=
 by obtain ⟨o, es, ep, h1, r⟩ := x; exact ⟨o, es, ep, k _ h1, r⟩
theorem top_but {loose : List Str} {mean : ExcName → Option Value} {mg mb : Str → Option Value} {h h' : Heap} {sc : Addr} {o : Obj} {xs : Array Value} {n : Nat} (T : Top topProg loose mean mg mb h) (e : h.get? sc = some o) (hd : o.data = .seq xs n) (k : ∀ b o, b ≠ sc → h.get? b = some o → h'.get? b = some o) : Top topProg loose mean mg mb h' where
 g := ns_to T.g fun o => k _ o (ns_ne T.g e hd)
 b := ns_to T.b fun o => k _ o (ns_ne T.b e hd)
 nolimit := by obtain ⟨mc, a, r⟩ := T.nolimit; exact ⟨mc, ns_to a fun o => k _ o (ns_ne a e hd), r⟩
 nodigits := by obtain ⟨mc, a, r⟩ := T.nodigits; exact ⟨mc, ns_to a fun o => k _ o (ns_ne a e hd), r⟩
 fn := fun d hd => absurd (show d ∈ ([] : List DefRec) from hd) List.not_mem_nil
 own := fun o ho => absurd (show o ∈ ([] : List OwnSpec) from ho) List.not_mem_nil
 const := fun x d e => by cases (show (none : Option PyData) = some d from e)
 free := T.free
 builtins := T.builtins
 tab := fun d hd => absurd (show d ∈ ([] : List DefRec) from hd) List.not_mem_nil
 bmain := by obtain ⟨bm, ob, a1, a2, a3, a4, a5, a6⟩ := T.bmain; exact ⟨bm, ob, a1, a2, k _ _ (by rintro rfl; rw [e] at a3; k_call_by "c" a3; rw [hd] at a6; k_call_by "c" a6) a3, a4, a5, a6⟩
 seer := fun e => absurd (show false = true from e) Bool.false_ne_true
noncomputable def gxOf (prog : Program) (w : World) (loose : List Str) (mean : ExcName → Option Value) (mg mb : Str → Option Value) : Gx := ⟨prog, w, HK w.params, topProg, loose, mean, mg, mb, 102, [(49, 45)]⟩
noncomputable abbrev lawFn (w : World) : FuncData := fnOf (HK w.params) 260
noncomputable def lawCells (w : World) (L : Addr) : List (Str × Addr) := cellsFrom (L + 1) (lawFn w).scope.names []
theorem lawCells_eq (w : World) (L : Addr) : lawCells w L = [(("x" : Str), L + 2), ("head", L + 1)] := by kernel_rfl
theorem gt_add {L : Nat} (k : Nat) : L < L + (k + 1) := Nat.lt_add_of_pos_right (Nat.succ_pos k)
theorem lawCells_gt {w : World} {L : Addr} : ∀ p ∈ lawCells w L, L < p.2 := by
 intro p hp
 rw [lawCells_eq] at hp
 simp only [List.mem_cons, List.not_mem_nil, or_false] at hp
 rcases hp with rfl | rfl
 ·exact gt_add 1
 ·exact gt_add 0
noncomputable def cellN (k : Nat) : Str := (["", "head", "x"] : List Str).getD k ""
theorem cellN_at {L k : Nat} : cellN k = cellN (L + k - L) := (congrArg cellN (Nat.add_sub_cancel_left ..)).symm
theorem lawCells_f {w : World} {L : Addr} : ∀ p ∈ lawCells w L, p.1 = cellN (p.2 - L) := by
 rw [lawCells_eq]
 exact List.forall_mem_cons.mpr ⟨cellN_at (k := 2), List.forall_mem_cons.mpr ⟨cellN_at (k := 1), fun p hp => absurd hp List.not_mem_nil⟩⟩
theorem lawCells_inj {w : World} {L c : Addr} {x y : Str} (a1 : (x, c) ∈ lawCells w L) (a2 : (y, c) ∈ lawCells w L) : x = y := (lawCells_f _ a1).trans (lawCells_f _ a2).symm
theorem noLists (w : World) : ((HK w.params).all fun p => match p.2.data with | .seq _ _ => !(p.2.cls == .type "list") | _ => true) = true := by kernel_rfl
theorem look_mem {K : Frag} {a : Addr} {o : Obj} (h : K.lookup a = some o) : (a, o) ∈ K := by
 induction K with
 | nil => k_call_by "c" h
 | cons p r ih =>
  obtain ⟨b, q⟩ := p
  rw [List.lookup_cons] at h
  split at h
  ·rename_i e; k_call_by "c" h; have : a = b := by simpa using e
   subst this; exact .head _
  ·exact .tail _ (ih h)
theorem look_mem' {β : Type} {l : List (Str × β)} {x : Str} {c : β} (h : l.lookup x = some c) : (x, c) ∈ l := by
 induction l with
 | nil => k_call_by "c" h
 | cons p r ih =>
  obtain ⟨b, q⟩ := p
  rw [List.lookup_cons] at h
  split at h
  ·rename_i e; k_call_by "c" h; have : x = b := by simpa using e
   subst this; exact .head _
  ·exact .tail _ (ih h)
theorem ints_er {vs : List Value} {ns : List Int} (h : IntsAre vs ns) : vs.map er = ns.map V.int := by
 induction h with
 | nil => rfl
 | cons n t _ ih => rw [List.map_cons, List.map_cons, ih]; rfl
noncomputable def sig0 (sc : Addr) : Str → Option V := fun x => if x = ("script" : Str) then some (.ref sc) else none
noncomputable def mem0 (sc : Addr) (pv : Array Value) : Addr → Option O := upd (upd (fun _ => none) sc (.pin pv)) 45 (.tab true)
theorem sig0_script {sc : Addr} : sig0 sc "script" = some (.ref sc) := if_pos rfl
theorem mem0_45 {sc : Addr} {pv : Array Value} : mem0 sc pv 45 = some (.tab true) := u_same
theorem mem0_sc {sc : Addr} {pv : Array Value} (h' : sc ≠ 45) : mem0 sc pv sc = some (.pin pv) := u_ne h' u_same
theorem join {prog : Program} {w : World} {loose : List Str} {mean : ExcName → Option Value} {mg mb : Str → Option Value} {s1 : Shared} {sc fa : Addr} {vs : List Value} {ns : List Int} {h1 : Heap} {tk1 : Nat} {cd : Value} {name : Str} {L : Addr} {m cm : Str → Option Value} {cells : List (Addr × Obj)} {H : Heap}
  (hH : CodeAll [(49, 45)] H) (X' : (HK w.params).In H) (T' : Top topProg loose mean mg mb H) (F' : Fr H L h1 m) (hm : m "script" = some (.ref sc)) (hW : H.get? sc = some { cls := .type "list", data := .seq vs.toArray }) (hI : IntsAre vs ns) (hl : ns.length ≤ 63) (hL : 45 < L)
  (N' : News H L h1 (cells ++ [(45, tabObj #[])])) (hc : CellsAre cm (lawCells w L) cells) :
  wpAny (model prog w) (callerA.deeper (envOfC name (lawFn w).scope L fa cd)) (execs (bodyOf (lawFn w)) (envOfC name (lawFn w).scope L fa cd))
   (fun f s' => f = .ret (.bool true) ∧ s'.gens = s1.gens ∧ s'.os = s1.os ∧ (∃ m', s'.heap.Ns L m') ∧ (∀ b o, H.get? b = some o → s'.heap.get? b = some o) ∧ ∃ q, s'.heap.get? 45 = some (tabObj q)) (fun _ _ => False)
   { heap := h1, gens := s1.gens, drawn := s1.drawn, toks := tk1, os := s1.os } := by
 have m0 : Mine (gxOf prog w loose mean mg mb) := ⟨rfl, rfl, rfl⟩
 have hscL : sc < L := Nat.lt_of_lt_of_le (Heap.lt_size hW) F'.above
 have hown : ∀ c ∈ (lawCells w L).map (·.2), L < c ∧ H.get? c = none ∧ ∃ v, h1.IsCell c v := by
  intro c hcm
  refine exG1_2 (List.mem_map.mp hcm) fun p hp r1 => ?_
  obtain rfl := r1
  refine exG1_2 (cells_of hc p hp) fun o ho r2 => ?_
  refine exG1_1 r2 fun v hv => ?_
  refine exG0_3 (N' _ (List.mem_append_left _ ho)) fun n1 n2 n3 => ?_
  refine ⟨?_, n3, v, o, n1, hv⟩
  exact lawCells_gt p hp
 have n45 := N' (45, tabObj #[]) (List.mem_append_right _ (.head _))
 have s45 : sc ≠ 45 := by rintro rfl; rw [n45.2.2] at hW; k_call_by "c" hW
 have Y : Ok (gxOf prog w loose mean mg mb) (lawS (gxOf prog w loose mean mg mb)) .fn (0 + 40) { A := callerA.deeper (envOfC name (lawFn w).scope L fa cd), env := envOfC name (lawFn w).scope L fa cd, base := fun b => if b = sc then none else H.get? b, own := (lawCells w L).map (·.2), fr := fun _ => none, s0 := { heap := h1, gens := s1.gens, drawn := s1.drawn, toks := tk1, os := s1.os }, outer := [] } := {
  stat := fun h hB => by
   have keep : ∀ b o, b ≠ sc → H.get? b = some o → h.get? b = some o := fun b o hb e => hB b o (by show (if b = sc then none else H.get? b) = some o; rw [if_neg hb]; exact e)
   have code : ∀ {c P : Addr}, CodeHd H c P → CodeHd h c P := by
    intro c P q0q
    refine exG9_3 q0q fun o vs' file tf flags tg inF text tt e1 e2 r => ?_
    exact ⟨o, vs', file, tf, flags, tg, inF, text, tt, keep _ _ (by rintro rfl; rw [hW] at e1; k_call_by "c" e1; injection e2 with e2; exact absurd e2 (by decide)) e1, e2, r⟩
   refine ⟨fun a o e => keep _ _ ?_ (X' a o e), top_but T' hW rfl keep, code hH.1, trivial⟩
   rintro rfl
   have h1' := X' a o e
   rw [hW] at h1'; cases h1'
   have h2' := List.all_eq_true.mp (noLists w) _ (look_mem e)
   cases h2'
  scope := rfl
  kind := by kernel_rfl
  glob := rfl
  blt := rfl
  cells := fun x c h => .inl (List.mem_map.mpr ⟨(x, c), look_mem' h, rfl⟩)
  ownL := fun c hcm => ⟨Nat.ne_of_gt (hown c hcm).1, by show (if c = sc then none else H.get? c) = none; rw [(hown c hcm).2.1]; split <;> rfl, rfl⟩
  baseL := by show (if L = sc then none else H.get? L) = none; rw [Heap.get?_none_of_le F'.above]; split <;> rfl
  frL := rfl
  frB := fun a d e => by k_call_by "c" e
  ownN := fun x hx => by
   have hall : ((lawS (gxOf prog w loose mean mg mb)).own.all fun x => decide (x ∈ ((["x", "head"] : List Str)))) = true := by kernel_rfl
   have hx2 := of_decide_eq_true (List.all_eq_true.mp hall x hx)
   have hk : ∃ c, (lawCells w L).lookup x = some c := by
    simp only [List.mem_cons, List.not_mem_nil, or_false] at hx2
    rcases hx2 with rfl | rfl
    ·exact Option.isSome_iff_exists.mp (by kernel_rfl)
    ·exact Option.isSome_iff_exists.mp (by kernel_rfl)
   refine exG1_1 hk fun c hc' => ?_
   exact ⟨c, hc', List.mem_map.mpr ⟨(x, c), look_mem' hc', rfl⟩⟩
  inj := fun x y c h1' h2' _ => by
   exact lawCells_inj (w := w) (L := L) (look_mem' h1') (look_mem' h2')
  code := fun c e => by k_call_by "c" e
  clo := fun cl e => by k_call_by "c" e
  hnd := .inr rfl
  guards := rfl
  frames := .inr ⟨rfl, rfl⟩
  outs := fun e he => by k_call_by "c" he
  depth := by show 1 + claimMargin + 1 + 10 * (0 + 40) ≤ 900; decide
  units := by show 4 + 3 + 10 * (0 + 40) ≤ 9000; decide }
 have x : Sim (gxOf prog w loose mean mg mb) { A := callerA.deeper (envOfC name (lawFn w).scope L fa cd), env := envOfC name (lawFn w).scope L fa cd, base := fun b => if b = sc then none else H.get? b, own := (lawCells w L).map (·.2), fr := fun _ => none, s0 := { heap := h1, gens := s1.gens, drawn := s1.drawn, toks := tk1, os := s1.os }, outer := [] }
   ⟨sig0 sc, mem0 sc vs.toArray⟩ { heap := h1, gens := s1.gens, drawn := s1.drawn, toks := tk1, os := s1.os } := {
  gens := rfl
  drawn := rfl
  os := rfl
  base := fun b o e => by
   have e' : (if b = sc then none else H.get? b) = some o := e
   split at e'
   ·cases e'
   ·exact F'.keep b o e'
  vars := ⟨m, F'.ns, fun y u e => by
   have e' : (if y = ("script" : Str) then some (V.ref sc) else none) = some u := e
   split at e'
   ·rename_i hy
    cases e'; subst hy
    unfold VarAt
    rw [show (envOfC name (lawFn w).scope L fa cd).kindOf "script" = some .local from by kernel_rfl]
    exact ⟨_, hm, rfl⟩
   ·cases e'⟩
  cells := fun c hcm => (hown c hcm).2.2
  frs := fun a d e => by k_call_by "c" e
  objs := fun a o e => by
   have offL : ∀ a : Addr, a < L → a ∉ (lawCells w L).map (·.2) := fun a ha hcm => Nat.lt_asymm ha (hown a hcm).1
   have e' : upd (upd (fun _ => none) sc (.pin vs.toArray)) 45 (.tab true) a = some o := e
   unfold upd at e'
   split at e'
   ·cases e'; subst_vars
    exact ⟨⟨#[], n45.1, by simp [TriplesOk], fun _ => rfl⟩, n45.2.1, offL _ hL, by show (if (45 : Addr) = sc then none else H.get? 45) = none; rw [n45.2.2]; split <;> rfl, rfl⟩
   ·split at e'
    ·cases e'; subst_vars
     exact ⟨F'.keep _ _ hW, Nat.ne_of_lt hscL, offL _ hscL, if_pos rfl, rfl⟩
    ·cases e' }
 have hp := sp_law (n := 0) (m := m0) (X := fun _ _ => False) (Q := fun f st' => f = .ret (.bool true) ∧ st'.μ sc = some (.pin vs.toArray) ∧ ∃ b, st'.μ 45 = some (.tab b)) (st := ⟨sig0 sc, mem0 sc vs.toArray⟩) (sc := sc) (ns := ns) (pv := vs.toArray)
  sig0_script (mem0_sc s45) (ints_er hI) hl ⟨true, mem0_45 (sc := sc) (pv := vs.toArray)⟩ fun st' a b => ⟨rfl, a, b⟩
 have run := (r_law (n := 0) m0).2 _ Y _ _ _ _ x hp
 refine wpAny_mono run ?_ ?_
 ·intro f s' q0q
  refine exG2_5 q0q fun a st' hf x' r3 p1 r4 => ?_
  obtain rfl := r3
  refine exG1_1 r4 fun b1 p2 => ?_
  refine ⟨?_, x'.gens, x'.os, ?_, ?_, ?_⟩
  ·induction f <;> first | exact hf.elim | skip
   rename_i u
   have : er u = .bool true := hf
   rw [er_bool this]
  ·obtain ⟨m', h', _⟩ := x'.vars; exact ⟨m', h'⟩
  ·intro b o e
   by_cases hb : b = sc
   ·subst hb
    rw [hW] at e; k_call_by "c" e
    exact (x'.objs _ _ p1).1
   ·exact x'.base b o (by show (if b = sc then none else H.get? b) = some o; rw [if_neg hb]; exact e)
  ·obtain ⟨ps, h', _⟩ := (x'.objs _ _ p2).1; exact ⟨ps, h'⟩
 ·intro e s' q0q
  refine exG3_3 q0q fun k st' fl _ hX _ => ?_
  exact hX
theorem join2 {prog : Program} {w : World} {loose : List Str} {mean : ExcName → Option Value} {mg mb : Str → Option Value} {s1 : Shared} {sc fa : Addr} {vs : List Value} {ns : List Int} {h1 : Heap} {tk1 : Nat} {cd : Value} {name : Str} {L : Addr} {m cm : Str → Option Value} {cells : List (Addr × Obj)} {H : Heap} {body : List Stmt} {scope : Scope}
  (hb : bodyOf (lawFn w) = body) (hs : (lawFn w).scope = scope) (hH : CodeAll [(49, 45)] H) (X' : (HK w.params).In H) (T' : Top topProg loose mean mg mb H) (F' : Fr H L h1 m) (hm : m "script" = some (.ref sc)) (hW : H.get? sc = some { cls := .type "list", data := .seq vs.toArray }) (hI : IntsAre vs ns) (hl : ns.length ≤ 63) (hL : 45 < L)
  (N' : News H L h1 (cells ++ [(45, tabObj #[])])) (hc : CellsAre cm (cellsFrom (L + 1) scope.names []) cells) :
  wpAny (model prog w) (callerA.deeper (envOfC name scope L fa cd)) (execs body (envOfC name scope L fa cd))
   (fun f s' => f = .ret (.bool true) ∧ s'.gens = s1.gens ∧ s'.os = s1.os ∧ (∃ m', s'.heap.Ns L m') ∧ (∀ b o, H.get? b = some o → s'.heap.get? b = some o) ∧ ∃ q, s'.heap.get? 45 = some (tabObj q)) (fun _ _ => False)
   { heap := h1, gens := s1.gens, drawn := s1.drawn, toks := tk1, os := s1.os } := by
 subst hb; subst hs
 exact join hH X' T' F' hm hW hI hl hL N' hc
theorem plain_of {P : Params} {h : Heap} {a : Addr} {vs : List Value} {ds : List WData} (w1 : Well P h (.ref a) (.list ds)) (hL : h.IsList a vs.toArray) : h.get? a = some { cls := .type "list", data := .seq vs.toArray } := by
 cases (w1) with
 | list e _ =>
  refine exG1_3 hL fun o h1 h2 r5 => ?_
  refine exG1_1 r5 fun n h3 => ?_
  rw [e] at h1; k_call_by "c" h1
  k_call_by "c" h3
  exact e
end Kk
end
section
set_option maxHeartbeats 8000000
open Kk in
theorem PySem.Challenge.cw_kk0045_03_holds : PySem.Challenge.rw_kk0045_03.Holds := by
 w_on
 refine holds_law said0 fun _ => ?_
 refine holds_open (q := QQ) (loose := loose0) (Xt := Xt0) (XP := XL QQ []) (Yf := Hook.obs (kmHook HK asL hkE [45])) (Ya := Hook.val (kmHook HK asL hkE [45])) (YP := Hook.says (kmHook HK asL hkE [45])) (N := 3606) left0 (Hook.of (kmHook HK asL hkE [45])) (Hook.keeps (kmHook HK asL hkE [45])) (fun s e => xl_of s (Bool.and_eq_true_iff.mp e).1) XL.keeps (by rfl) (by rfl) (by rfl) (fun s e => recFacts_of (Bool.and_eq_true_iff.mp e).2) (by rfl) (by first | assumption | decide +kernel) (by decide +kernel) ⟨rfl, rfl, rfl, rfl, rfl, by decide +kernel⟩ ?hw ?hc
 case hw => w_witness2
 k_go0
 rename_i w s0 s1 mg mb G Y fa o pm cd doc ho hcd hg X V T B TE TW w12 hs hlay hL1 hr1 hl2 w11 w10 w9 w8 w7 hL ra w1 r0 hI hr hc1 hc2 hD h1 tk1 z1 z0 L0 R0 X0 X' T' K' F' N' l0
 clear G Y hcd X V T B TE TW hs hlay hL1 hr1 hl2 hr hD L0 R0 K'
 have hW := ghost_get hT9 (Kk.plain_of w1 hL) (fun q => by k_call_by "c" q)
 refine wpAny_mono (Kk.join2 (sc := w9) (vs := w8) (ns := w12) (cells := [_, _]) (by kernel_rfl) (by kernel_rfl) ⟨codeHd, trivial⟩ X' T' F' (by kernel_rfl) hW hI (by omega) l0 N' X0) ?_ ?_
 ·intro f s' q0q
  refine exG0_6 q0q fun r1 e1 e2 r2 e4 e5 => ?_
  obtain rfl := r1
  obtain ⟨m', e3⟩ := r2
  refine ⟨goodW_bool (L := s1.heap.objs.size) (m := m') ⟨e3, e4, F'.above⟩ (e1.trans hg) (fun cls => rfl) ?_ e2, e5, trivial⟩
  wrow_post
 ·intro e s' h; exact h.elim
end
end
