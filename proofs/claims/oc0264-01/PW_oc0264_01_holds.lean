import PyProof.Rows.All
import KE.KBoundM
import KE.KDictSum
import KE.KStar
import Wide.FinOn
import OpenK.AllK
import Wide.All
import Lean
import PySem.Challenge.RW_oc0264_01
set_option Elab.async false
set_option compiler.extract_closed false
set_option genInjectivity false
set_option genSizeOf false
set_option maxRecDepth 100000
set_option maxHeartbeats 0
set_option cleanup.letToHave false
set_option linter.unusedVariables false
set_option linter.unusedSimpArgs false
section
open PySem PySem.W PyProof.Rows PySem.Calls PySem.Spec
namespace Mine.Internal
set_option hygiene false in
local macro_rules | `(tactic| walk_at "go") => `(tactic| ((try (refine (?_ : FT _ _) (by simp only [↓id vcd, id vcu, ↓vG, put, unb, String.reduceBEq, Nat.reduceBEq, hgt]; exact rfl) ?_; first | exact fun _ => Eq.mpr (by kernel_rfl!) | exact Eq.mpr)); repeat first | with_reducible intro _ | refine And.intro (by decide) ?_))
section
theorem e0_2 {p0 p1 : Prop} {P : Prop} (h : p0 ∧ p1) (k : p0 → p1 → P) : P := k h.1 h.2
theorem e0_3 {p0 p1 p2 : Prop} {P : Prop} (h : p0 ∧ p1 ∧ p2) (k : p0 → p1 → p2 → P) : P := k h.1 h.2.1 h.2.2
theorem e0_4 {p0 p1 p2 p3 : Prop} {P : Prop} (h : p0 ∧ p1 ∧ p2 ∧ p3) (k : p0 → p1 → p2 → p3 → P) : P := k h.1 h.2.1 h.2.2.1 h.2.2.2
theorem e0_5 {p0 p1 p2 p3 p4 : Prop} {P : Prop} (h : p0 ∧ p1 ∧ p2 ∧ p3 ∧ p4) (k : p0 → p1 → p2 → p3 → p4 → P) : P := k h.1 h.2.1 h.2.2.1 h.2.2.2.1 h.2.2.2.2
theorem e0_6 {p0 p1 p2 p3 p4 p5 : Prop} {P : Prop} (h : p0 ∧ p1 ∧ p2 ∧ p3 ∧ p4 ∧ p5) (k : p0 → p1 → p2 → p3 → p4 → p5 → P) : P := k h.1 h.2.1 h.2.2.1 h.2.2.2.1 h.2.2.2.2.1 h.2.2.2.2.2
theorem e0_7 {p0 p1 p2 p3 p4 p5 p6 : Prop} {P : Prop} (h : p0 ∧ p1 ∧ p2 ∧ p3 ∧ p4 ∧ p5 ∧ p6) (k : p0 → p1 → p2 → p3 → p4 → p5 → p6 → P) : P := k h.1 h.2.1 h.2.2.1 h.2.2.2.1 h.2.2.2.2.1 h.2.2.2.2.2.1 h.2.2.2.2.2.2
theorem e1_1 {α0 : Type} {p0 : α0 → Prop} {P : Prop} (h : ∃ x0, p0 x0) (k : ∀ x0, p0 x0 → P) : P := h.elim fun x0 h => k x0 h
theorem e1_2 {α0 : Type} {p0 p1 : α0 → Prop} {P : Prop} (h : ∃ x0, p0 x0 ∧ p1 x0) (k : ∀ x0, p0 x0 → p1 x0 → P) : P := h.elim fun x0 h => k x0 h.1 h.2
theorem e1_3 {α0 : Type} {p0 p1 p2 : α0 → Prop} {P : Prop} (h : ∃ x0, p0 x0 ∧ p1 x0 ∧ p2 x0) (k : ∀ x0, p0 x0 → p1 x0 → p2 x0 → P) : P := h.elim fun x0 h => k x0 h.1 h.2.1 h.2.2
theorem e2_1 {α0 α1 : Type} {p0 : α0 → α1 → Prop} {P : Prop} (h : ∃ x0 x1, p0 x0 x1) (k : ∀ x0 x1, p0 x0 x1 → P) : P := h.elim fun x0 h => h.elim fun x1 h => k x0 x1 h
theorem e2_2 {α0 α1 : Type} {p0 p1 : α0 → α1 → Prop} {P : Prop} (h : ∃ x0 x1, p0 x0 x1 ∧ p1 x0 x1) (k : ∀ x0 x1, p0 x0 x1 → p1 x0 x1 → P) : P := h.elim fun x0 h => h.elim fun x1 h => k x0 x1 h.1 h.2
theorem e2_3 {α0 α1 : Type} {p0 p1 p2 : α0 → α1 → Prop} {P : Prop} (h : ∃ x0 x1, p0 x0 x1 ∧ p1 x0 x1 ∧ p2 x0 x1) (k : ∀ x0 x1, p0 x0 x1 → p1 x0 x1 → p2 x0 x1 → P) : P := h.elim fun x0 h => h.elim fun x1 h => k x0 x1 h.1 h.2.1 h.2.2
theorem e2_4 {α0 α1 : Type} {p0 p1 p2 p3 : α0 → α1 → Prop} {P : Prop} (h : ∃ x0 x1, p0 x0 x1 ∧ p1 x0 x1 ∧ p2 x0 x1 ∧ p3 x0 x1) (k : ∀ x0 x1, p0 x0 x1 → p1 x0 x1 → p2 x0 x1 → p3 x0 x1 → P) : P := h.elim fun x0 h => h.elim fun x1 h => k x0 x1 h.1 h.2.1 h.2.2.1 h.2.2.2
theorem e2_5 {α0 α1 : Type} {p0 p1 p2 p3 p4 : α0 → α1 → Prop} {P : Prop} (h : ∃ x0 x1, p0 x0 x1 ∧ p1 x0 x1 ∧ p2 x0 x1 ∧ p3 x0 x1 ∧ p4 x0 x1) (k : ∀ x0 x1, p0 x0 x1 → p1 x0 x1 → p2 x0 x1 → p3 x0 x1 → p4 x0 x1 → P) : P := h.elim fun x0 h => h.elim fun x1 h => k x0 x1 h.1 h.2.1 h.2.2.1 h.2.2.2.1 h.2.2.2.2
theorem e2_7 {α0 α1 : Type} {p0 p1 p2 p3 p4 p5 p6 : α0 → α1 → Prop} {P : Prop} (h : ∃ x0 x1, p0 x0 x1 ∧ p1 x0 x1 ∧ p2 x0 x1 ∧ p3 x0 x1 ∧ p4 x0 x1 ∧ p5 x0 x1 ∧ p6 x0 x1) (k : ∀ x0 x1, p0 x0 x1 → p1 x0 x1 → p2 x0 x1 → p3 x0 x1 → p4 x0 x1 → p5 x0 x1 → p6 x0 x1 → P) : P := h.elim fun x0 h => h.elim fun x1 h => k x0 x1 h.1 h.2.1 h.2.2.1 h.2.2.2.1 h.2.2.2.2.1 h.2.2.2.2.2.1 h.2.2.2.2.2.2
theorem e3_2 {α0 α1 α2 : Type} {p0 p1 : α0 → α1 → α2 → Prop} {P : Prop} (h : ∃ x0 x1 x2, p0 x0 x1 x2 ∧ p1 x0 x1 x2) (k : ∀ x0 x1 x2, p0 x0 x1 x2 → p1 x0 x1 x2 → P) : P := h.elim fun x0 h => h.elim fun x1 h => h.elim fun x2 h => k x0 x1 x2 h.1 h.2
theorem e3_3 {α0 α1 α2 : Type} {p0 p1 p2 : α0 → α1 → α2 → Prop} {P : Prop} (h : ∃ x0 x1 x2, p0 x0 x1 x2 ∧ p1 x0 x1 x2 ∧ p2 x0 x1 x2) (k : ∀ x0 x1 x2, p0 x0 x1 x2 → p1 x0 x1 x2 → p2 x0 x1 x2 → P) : P := h.elim fun x0 h => h.elim fun x1 h => h.elim fun x2 h => k x0 x1 x2 h.1 h.2.1 h.2.2
theorem e3_5 {α0 α1 α2 : Type} {p0 p1 p2 p3 p4 : α0 → α1 → α2 → Prop} {P : Prop} (h : ∃ x0 x1 x2, p0 x0 x1 x2 ∧ p1 x0 x1 x2 ∧ p2 x0 x1 x2 ∧ p3 x0 x1 x2 ∧ p4 x0 x1 x2) (k : ∀ x0 x1 x2, p0 x0 x1 x2 → p1 x0 x1 x2 → p2 x0 x1 x2 → p3 x0 x1 x2 → p4 x0 x1 x2 → P) : P := h.elim fun x0 h => h.elim fun x1 h => h.elim fun x2 h => k x0 x1 x2 h.1 h.2.1 h.2.2.1 h.2.2.2.1 h.2.2.2.2
theorem e3_7 {α0 α1 α2 : Type} {p0 p1 p2 p3 p4 p5 p6 : α0 → α1 → α2 → Prop} {P : Prop} (h : ∃ x0 x1 x2, p0 x0 x1 x2 ∧ p1 x0 x1 x2 ∧ p2 x0 x1 x2 ∧ p3 x0 x1 x2 ∧ p4 x0 x1 x2 ∧ p5 x0 x1 x2 ∧ p6 x0 x1 x2) (k : ∀ x0 x1 x2, p0 x0 x1 x2 → p1 x0 x1 x2 → p2 x0 x1 x2 → p3 x0 x1 x2 → p4 x0 x1 x2 → p5 x0 x1 x2 → p6 x0 x1 x2 → P) : P := h.elim fun x0 h => h.elim fun x1 h => h.elim fun x2 h => k x0 x1 x2 h.1 h.2.1 h.2.2.1 h.2.2.2.1 h.2.2.2.2.1 h.2.2.2.2.2.1 h.2.2.2.2.2.2
theorem e4_3 {α0 α1 α2 α3 : Type} {p0 p1 p2 : α0 → α1 → α2 → α3 → Prop} {P : Prop} (h : ∃ x0 x1 x2 x3, p0 x0 x1 x2 x3 ∧ p1 x0 x1 x2 x3 ∧ p2 x0 x1 x2 x3) (k : ∀ x0 x1 x2 x3, p0 x0 x1 x2 x3 → p1 x0 x1 x2 x3 → p2 x0 x1 x2 x3 → P) : P := h.elim fun x0 h => h.elim fun x1 h => h.elim fun x2 h => h.elim fun x3 h => k x0 x1 x2 x3 h.1 h.2.1 h.2.2
theorem e4_4 {α0 α1 α2 α3 : Type} {p0 p1 p2 p3 : α0 → α1 → α2 → α3 → Prop} {P : Prop} (h : ∃ x0 x1 x2 x3, p0 x0 x1 x2 x3 ∧ p1 x0 x1 x2 x3 ∧ p2 x0 x1 x2 x3 ∧ p3 x0 x1 x2 x3) (k : ∀ x0 x1 x2 x3, p0 x0 x1 x2 x3 → p1 x0 x1 x2 x3 → p2 x0 x1 x2 x3 → p3 x0 x1 x2 x3 → P) : P := h.elim fun x0 h => h.elim fun x1 h => h.elim fun x2 h => h.elim fun x3 h => k x0 x1 x2 x3 h.1 h.2.1 h.2.2.1 h.2.2.2
theorem e4_5 {α0 α1 α2 α3 : Type} {p0 p1 p2 p3 p4 : α0 → α1 → α2 → α3 → Prop} {P : Prop} (h : ∃ x0 x1 x2 x3, p0 x0 x1 x2 x3 ∧ p1 x0 x1 x2 x3 ∧ p2 x0 x1 x2 x3 ∧ p3 x0 x1 x2 x3 ∧ p4 x0 x1 x2 x3) (k : ∀ x0 x1 x2 x3, p0 x0 x1 x2 x3 → p1 x0 x1 x2 x3 → p2 x0 x1 x2 x3 → p3 x0 x1 x2 x3 → p4 x0 x1 x2 x3 → P) : P := h.elim fun x0 h => h.elim fun x1 h => h.elim fun x2 h => h.elim fun x3 h => k x0 x1 x2 x3 h.1 h.2.1 h.2.2.1 h.2.2.2.1 h.2.2.2.2
theorem e5_4 {α0 α1 α2 α3 α4 : Type} {p0 p1 p2 p3 : α0 → α1 → α2 → α3 → α4 → Prop} {P : Prop} (h : ∃ x0 x1 x2 x3 x4, p0 x0 x1 x2 x3 x4 ∧ p1 x0 x1 x2 x3 x4 ∧ p2 x0 x1 x2 x3 x4 ∧ p3 x0 x1 x2 x3 x4) (k : ∀ x0 x1 x2 x3 x4, p0 x0 x1 x2 x3 x4 → p1 x0 x1 x2 x3 x4 → p2 x0 x1 x2 x3 x4 → p3 x0 x1 x2 x3 x4 → P) : P := h.elim fun x0 h => h.elim fun x1 h => h.elim fun x2 h => h.elim fun x3 h => h.elim fun x4 h => k x0 x1 x2 x3 x4 h.1 h.2.1 h.2.2.1 h.2.2.2
theorem e5_5 {α0 α1 α2 α3 α4 : Type} {p0 p1 p2 p3 p4 : α0 → α1 → α2 → α3 → α4 → Prop} {P : Prop} (h : ∃ x0 x1 x2 x3 x4, p0 x0 x1 x2 x3 x4 ∧ p1 x0 x1 x2 x3 x4 ∧ p2 x0 x1 x2 x3 x4 ∧ p3 x0 x1 x2 x3 x4 ∧ p4 x0 x1 x2 x3 x4) (k : ∀ x0 x1 x2 x3 x4, p0 x0 x1 x2 x3 x4 → p1 x0 x1 x2 x3 x4 → p2 x0 x1 x2 x3 x4 → p3 x0 x1 x2 x3 x4 → p4 x0 x1 x2 x3 x4 → P) : P := h.elim fun x0 h => h.elim fun x1 h => h.elim fun x2 h => h.elim fun x3 h => h.elim fun x4 h => k x0 x1 x2 x3 x4 h.1 h.2.1 h.2.2.1 h.2.2.2.1 h.2.2.2.2
theorem e5_9 {α0 α1 α2 α3 α4 : Type} {p0 p1 p2 p3 p4 p5 p6 p7 p8 : α0 → α1 → α2 → α3 → α4 → Prop} {P : Prop} (h : ∃ x0 x1 x2 x3 x4, p0 x0 x1 x2 x3 x4 ∧ p1 x0 x1 x2 x3 x4 ∧ p2 x0 x1 x2 x3 x4 ∧ p3 x0 x1 x2 x3 x4 ∧ p4 x0 x1 x2 x3 x4 ∧ p5 x0 x1 x2 x3 x4 ∧ p6 x0 x1 x2 x3 x4 ∧ p7 x0 x1 x2 x3 x4 ∧ p8 x0 x1 x2 x3 x4) (k : ∀ x0 x1 x2 x3 x4, p0 x0 x1 x2 x3 x4 → p1 x0 x1 x2 x3 x4 → p2 x0 x1 x2 x3 x4 → p3 x0 x1 x2 x3 x4 → p4 x0 x1 x2 x3 x4 → p5 x0 x1 x2 x3 x4 → p6 x0 x1 x2 x3 x4 → p7 x0 x1 x2 x3 x4 → p8 x0 x1 x2 x3 x4 → P) : P := h.elim fun x0 h => h.elim fun x1 h => h.elim fun x2 h => h.elim fun x3 h => h.elim fun x4 h => k x0 x1 x2 x3 x4 h.1 h.2.1 h.2.2.1 h.2.2.2.1 h.2.2.2.2.1 h.2.2.2.2.2.1 h.2.2.2.2.2.2.1 h.2.2.2.2.2.2.2.1 h.2.2.2.2.2.2.2.2
theorem e6_13 {α0 α1 α2 α3 α4 α5 : Type} {p0 p1 p2 p3 p4 p5 p6 p7 p8 p9 p10 p11 p12 : α0 → α1 → α2 → α3 → α4 → α5 → Prop} {P : Prop} (h : ∃ x0 x1 x2 x3 x4 x5, p0 x0 x1 x2 x3 x4 x5 ∧ p1 x0 x1 x2 x3 x4 x5 ∧ p2 x0 x1 x2 x3 x4 x5 ∧ p3 x0 x1 x2 x3 x4 x5 ∧ p4 x0 x1 x2 x3 x4 x5 ∧ p5 x0 x1 x2 x3 x4 x5 ∧ p6 x0 x1 x2 x3 x4 x5 ∧ p7 x0 x1 x2 x3 x4 x5 ∧ p8 x0 x1 x2 x3 x4 x5 ∧ p9 x0 x1 x2 x3 x4 x5 ∧ p10 x0 x1 x2 x3 x4 x5 ∧ p11 x0 x1 x2 x3 x4 x5 ∧ p12 x0 x1 x2 x3 x4 x5) (k : ∀ x0 x1 x2 x3 x4 x5, p0 x0 x1 x2 x3 x4 x5 → p1 x0 x1 x2 x3 x4 x5 → p2 x0 x1 x2 x3 x4 x5 → p3 x0 x1 x2 x3 x4 x5 → p4 x0 x1 x2 x3 x4 x5 → p5 x0 x1 x2 x3 x4 x5 → p6 x0 x1 x2 x3 x4 x5 → p7 x0 x1 x2 x3 x4 x5 → p8 x0 x1 x2 x3 x4 x5 → p9 x0 x1 x2 x3 x4 x5 → p10 x0 x1 x2 x3 x4 x5 → p11 x0 x1 x2 x3 x4 x5 → p12 x0 x1 x2 x3 x4 x5 → P) : P := h.elim fun x0 h => h.elim fun x1 h => h.elim fun x2 h => h.elim fun x3 h => h.elim fun x4 h => h.elim fun x5 h => k x0 x1 x2 x3 x4 x5 h.1 h.2.1 h.2.2.1 h.2.2.2.1 h.2.2.2.2.1 h.2.2.2.2.2.1 h.2.2.2.2.2.2.1 h.2.2.2.2.2.2.2.1 h.2.2.2.2.2.2.2.2.1 h.2.2.2.2.2.2.2.2.2.1 h.2.2.2.2.2.2.2.2.2.2.1 h.2.2.2.2.2.2.2.2.2.2.2.1 h.2.2.2.2.2.2.2.2.2.2.2.2
theorem e7_1 {α0 α1 α2 α3 α4 α5 α6 : Type} {p0 : α0 → α1 → α2 → α3 → α4 → α5 → α6 → Prop} {P : Prop} (h : ∃ x0 x1 x2 x3 x4 x5 x6, p0 x0 x1 x2 x3 x4 x5 x6) (k : ∀ x0 x1 x2 x3 x4 x5 x6, p0 x0 x1 x2 x3 x4 x5 x6 → P) : P := h.elim fun x0 h => h.elim fun x1 h => h.elim fun x2 h => h.elim fun x3 h => h.elim fun x4 h => h.elim fun x5 h => h.elim fun x6 h => k x0 x1 x2 x3 x4 x5 x6 h
theorem e17_1 {α0 α1 α2 α3 α4 α5 α6 α7 α8 α9 α10 α11 α12 α13 α14 α15 α16 : Type} {p0 : α0 → α1 → α2 → α3 → α4 → α5 → α6 → α7 → α8 → α9 → α10 → α11 → α12 → α13 → α14 → α15 → α16 → Prop} {P : Prop} (h : ∃ x0 x1 x2 x3 x4 x5 x6 x7 x8 x9 x10 x11 x12 x13 x14 x15 x16, p0 x0 x1 x2 x3 x4 x5 x6 x7 x8 x9 x10 x11 x12 x13 x14 x15 x16) (k : ∀ x0 x1 x2 x3 x4 x5 x6 x7 x8 x9 x10 x11 x12 x13 x14 x15 x16, p0 x0 x1 x2 x3 x4 x5 x6 x7 x8 x9 x10 x11 x12 x13 x14 x15 x16 → P) : P := h.elim fun x0 h => h.elim fun x1 h => h.elim fun x2 h => h.elim fun x3 h => h.elim fun x4 h => h.elim fun x5 h => h.elim fun x6 h => h.elim fun x7 h => h.elim fun x8 h => h.elim fun x9 h => h.elim fun x10 h => h.elim fun x11 h => h.elim fun x12 h => h.elim fun x13 h => h.elim fun x14 h => h.elim fun x15 h => h.elim fun x16 h => k x0 x1 x2 x3 x4 x5 x6 x7 x8 x9 x10 x11 x12 x13 x14 x15 x16 h
theorem i1_2 {α0 : Type} {p0 p1 : α0 → Prop} (x0 : α0) (h0 : p0 x0) (h1 : p1 x0) : ∃ x0, p0 x0 ∧ p1 x0 := ⟨x0, h0, h1⟩
theorem i1_3 {α0 : Type} {p0 p1 p2 : α0 → Prop} (x0 : α0) (h0 : p0 x0) (h1 : p1 x0) (h2 : p2 x0) : ∃ x0, p0 x0 ∧ p1 x0 ∧ p2 x0 := ⟨x0, h0, h1, h2⟩
theorem i2_1 {α0 α1 : Type} {p0 : α0 → α1 → Prop} (x0 : α0) (x1 : α1) (h0 : p0 x0 x1) : ∃ x0 x1, p0 x0 x1 := ⟨x0, x1, h0⟩
theorem i2_2 {α0 α1 : Type} {p0 p1 : α0 → α1 → Prop} (x0 : α0) (x1 : α1) (h0 : p0 x0 x1) (h1 : p1 x0 x1) : ∃ x0 x1, p0 x0 x1 ∧ p1 x0 x1 := ⟨x0, x1, h0, h1⟩
theorem i2_3 {α0 α1 : Type} {p0 p1 p2 : α0 → α1 → Prop} (x0 : α0) (x1 : α1) (h0 : p0 x0 x1) (h1 : p1 x0 x1) (h2 : p2 x0 x1) : ∃ x0 x1, p0 x0 x1 ∧ p1 x0 x1 ∧ p2 x0 x1 := ⟨x0, x1, h0, h1, h2⟩
theorem i2_4 {α0 α1 : Type} {p0 p1 p2 p3 : α0 → α1 → Prop} (x0 : α0) (x1 : α1) (h0 : p0 x0 x1) (h1 : p1 x0 x1) (h2 : p2 x0 x1) (h3 : p3 x0 x1) : ∃ x0 x1, p0 x0 x1 ∧ p1 x0 x1 ∧ p2 x0 x1 ∧ p3 x0 x1 := ⟨x0, x1, h0, h1, h2, h3⟩
theorem i2_7 {α0 α1 : Type} {p0 p1 p2 p3 p4 p5 p6 : α0 → α1 → Prop} (x0 : α0) (x1 : α1) (h0 : p0 x0 x1) (h1 : p1 x0 x1) (h2 : p2 x0 x1) (h3 : p3 x0 x1) (h4 : p4 x0 x1) (h5 : p5 x0 x1) (h6 : p6 x0 x1) : ∃ x0 x1, p0 x0 x1 ∧ p1 x0 x1 ∧ p2 x0 x1 ∧ p3 x0 x1 ∧ p4 x0 x1 ∧ p5 x0 x1 ∧ p6 x0 x1 := ⟨x0, x1, h0, h1, h2, h3, h4, h5, h6⟩
theorem i2_8 {α0 α1 : Type} {p0 p1 p2 p3 p4 p5 p6 p7 : α0 → α1 → Prop} (x0 : α0) (x1 : α1) (h0 : p0 x0 x1) (h1 : p1 x0 x1) (h2 : p2 x0 x1) (h3 : p3 x0 x1) (h4 : p4 x0 x1) (h5 : p5 x0 x1) (h6 : p6 x0 x1) (h7 : p7 x0 x1) : ∃ x0 x1, p0 x0 x1 ∧ p1 x0 x1 ∧ p2 x0 x1 ∧ p3 x0 x1 ∧ p4 x0 x1 ∧ p5 x0 x1 ∧ p6 x0 x1 ∧ p7 x0 x1 := ⟨x0, x1, h0, h1, h2, h3, h4, h5, h6, h7⟩
theorem i3_3 {α0 α1 α2 : Type} {p0 p1 p2 : α0 → α1 → α2 → Prop} (x0 : α0) (x1 : α1) (x2 : α2) (h0 : p0 x0 x1 x2) (h1 : p1 x0 x1 x2) (h2 : p2 x0 x1 x2) : ∃ x0 x1 x2, p0 x0 x1 x2 ∧ p1 x0 x1 x2 ∧ p2 x0 x1 x2 := ⟨x0, x1, x2, h0, h1, h2⟩
theorem i3_4 {α0 α1 α2 : Type} {p0 p1 p2 p3 : α0 → α1 → α2 → Prop} (x0 : α0) (x1 : α1) (x2 : α2) (h0 : p0 x0 x1 x2) (h1 : p1 x0 x1 x2) (h2 : p2 x0 x1 x2) (h3 : p3 x0 x1 x2) : ∃ x0 x1 x2, p0 x0 x1 x2 ∧ p1 x0 x1 x2 ∧ p2 x0 x1 x2 ∧ p3 x0 x1 x2 := ⟨x0, x1, x2, h0, h1, h2, h3⟩
theorem i4_3 {α0 α1 α2 α3 : Type} {p0 p1 p2 : α0 → α1 → α2 → α3 → Prop} (x0 : α0) (x1 : α1) (x2 : α2) (x3 : α3) (h0 : p0 x0 x1 x2 x3) (h1 : p1 x0 x1 x2 x3) (h2 : p2 x0 x1 x2 x3) : ∃ x0 x1 x2 x3, p0 x0 x1 x2 x3 ∧ p1 x0 x1 x2 x3 ∧ p2 x0 x1 x2 x3 := ⟨x0, x1, x2, x3, h0, h1, h2⟩
theorem i4_5 {α0 α1 α2 α3 : Type} {p0 p1 p2 p3 p4 : α0 → α1 → α2 → α3 → Prop} (x0 : α0) (x1 : α1) (x2 : α2) (x3 : α3) (h0 : p0 x0 x1 x2 x3) (h1 : p1 x0 x1 x2 x3) (h2 : p2 x0 x1 x2 x3) (h3 : p3 x0 x1 x2 x3) (h4 : p4 x0 x1 x2 x3) : ∃ x0 x1 x2 x3, p0 x0 x1 x2 x3 ∧ p1 x0 x1 x2 x3 ∧ p2 x0 x1 x2 x3 ∧ p3 x0 x1 x2 x3 ∧ p4 x0 x1 x2 x3 := ⟨x0, x1, x2, x3, h0, h1, h2, h3, h4⟩
theorem i5_9 {α0 α1 α2 α3 α4 : Type} {p0 p1 p2 p3 p4 p5 p6 p7 p8 : α0 → α1 → α2 → α3 → α4 → Prop} (x0 : α0) (x1 : α1) (x2 : α2) (x3 : α3) (x4 : α4) (h0 : p0 x0 x1 x2 x3 x4) (h1 : p1 x0 x1 x2 x3 x4) (h2 : p2 x0 x1 x2 x3 x4) (h3 : p3 x0 x1 x2 x3 x4) (h4 : p4 x0 x1 x2 x3 x4) (h5 : p5 x0 x1 x2 x3 x4) (h6 : p6 x0 x1 x2 x3 x4) (h7 : p7 x0 x1 x2 x3 x4) (h8 : p8 x0 x1 x2 x3 x4) : ∃ x0 x1 x2 x3 x4, p0 x0 x1 x2 x3 x4 ∧ p1 x0 x1 x2 x3 x4 ∧ p2 x0 x1 x2 x3 x4 ∧ p3 x0 x1 x2 x3 x4 ∧ p4 x0 x1 x2 x3 x4 ∧ p5 x0 x1 x2 x3 x4 ∧ p6 x0 x1 x2 x3 x4 ∧ p7 x0 x1 x2 x3 x4 ∧ p8 x0 x1 x2 x3 x4 := ⟨x0, x1, x2, x3, x4, h0, h1, h2, h3, h4, h5, h6, h7, h8⟩
theorem i6_13 {α0 α1 α2 α3 α4 α5 : Type} {p0 p1 p2 p3 p4 p5 p6 p7 p8 p9 p10 p11 p12 : α0 → α1 → α2 → α3 → α4 → α5 → Prop} (x0 : α0) (x1 : α1) (x2 : α2) (x3 : α3) (x4 : α4) (x5 : α5) (h0 : p0 x0 x1 x2 x3 x4 x5) (h1 : p1 x0 x1 x2 x3 x4 x5) (h2 : p2 x0 x1 x2 x3 x4 x5) (h3 : p3 x0 x1 x2 x3 x4 x5) (h4 : p4 x0 x1 x2 x3 x4 x5) (h5 : p5 x0 x1 x2 x3 x4 x5) (h6 : p6 x0 x1 x2 x3 x4 x5) (h7 : p7 x0 x1 x2 x3 x4 x5) (h8 : p8 x0 x1 x2 x3 x4 x5) (h9 : p9 x0 x1 x2 x3 x4 x5) (h10 : p10 x0 x1 x2 x3 x4 x5) (h11 : p11 x0 x1 x2 x3 x4 x5) (h12 : p12 x0 x1 x2 x3 x4 x5) : ∃ x0 x1 x2 x3 x4 x5, p0 x0 x1 x2 x3 x4 x5 ∧ p1 x0 x1 x2 x3 x4 x5 ∧ p2 x0 x1 x2 x3 x4 x5 ∧ p3 x0 x1 x2 x3 x4 x5 ∧ p4 x0 x1 x2 x3 x4 x5 ∧ p5 x0 x1 x2 x3 x4 x5 ∧ p6 x0 x1 x2 x3 x4 x5 ∧ p7 x0 x1 x2 x3 x4 x5 ∧ p8 x0 x1 x2 x3 x4 x5 ∧ p9 x0 x1 x2 x3 x4 x5 ∧ p10 x0 x1 x2 x3 x4 x5 ∧ p11 x0 x1 x2 x3 x4 x5 ∧ p12 x0 x1 x2 x3 x4 x5 := ⟨x0, x1, x2, x3, x4, x5, h0, h1, h2, h3, h4, h5, h6, h7, h8, h9, h10, h11, h12⟩
end
section
theorem hideG {G : Prop} (h : ∀ P : Prop, (G → P) → P) : G := h G id
theorem le_n {a b k : Nat} (h : a = b) (q : Nat.ble k b = true) : k ≤ a := h ▸ Nat.le_of_ble_eq_true q
noncomputable abbrev pw : Program := PySem.Challenge.pw_oc0264_01
structure FnRec where
 name : Str
 params : Arguments
 body : List Stmt
 scope : Scope
noncomputable def noFn : FnRec := ⟨"", ⟨[], [], none, [], [], none, []⟩, [], { kind := .function, names := [], isGenerator := false, isCoroutine := false, more := [] }⟩
noncomputable def stFn (o : Option Stmt) : FnRec := by
 cases o with
 | none => exact noFn
 | some s => cases s with
  | FunctionDef n ps b _ _ _ sc _ _ _ => exact ⟨n, ps, b, sc⟩
  | _ => exact noFn
noncomputable def stCls (o : Option Stmt) : List Stmt := by
 cases o with
 | none => exact []
 | some s => cases s with
  | ClassDef a1 a2 a3 b a5 a6 a7 a8 a9 a10 => exact b
  | _ => exact []
noncomputable def fnAt (i : Nat) : FnRec := stFn pw.main.body[i]?
noncomputable def meAt (i j : Nat) : FnRec := stFn (stCls pw.main.body[i]?)[j]?
noncomputable abbrev fdX (f : FnRec) (q : Str) (cl : List (Str × Addr)) (dV pm : Value) (c : Addr) (ct : Value) : FuncData := fnX f.name q f.params f.body f.scope cl dV .none .none pm none (.ref c) ct
noncomputable def fnO (f : FnRec) (q : Str) (dV pm : Value) (c : Addr) : Obj := { cls := .type "function", data := .func (fdX f q [] dV pm c .none) }
noncomputable def KF (P : Params) : Frag := [
 (1, { cls := Value.type "dict", data := Data.dict #[{ hash := PyData.keyHash P "builtins", key := Value.str "builtins" 162, val := Value.ref 4 }, { hash := PyData.keyHash P "__main__", key := Value.str "__main__" 163, val := Value.ref 5 }] 2 }),
 (2, { cls := Value.none, data := Data.dict #[] }),
 (3, { cls := Value.type "dict", data := Data.dict #[{ hash := PyData.keyHash P "__name__", key := Value.str "__name__" 165, val := Value.str "law_oc0264_01" 532 }, { hash := PyData.keyHash P "__doc__", key := Value.str "__doc__" 166, val := Value.none }, { hash := PyData.keyHash P "__package__", key := Value.str "__package__" 167, val := Value.none }, { hash := PyData.keyHash P "__loader__", key := Value.str "__loader__" 168, val := Value.builtin "__main__.__loader__#opaque" }, { hash := PyData.keyHash P "__spec__", key := Value.str "__spec__" 169, val := Value.none }, { hash := PyData.keyHash P "__annotations__", key := Value.str "__annotations__" 170, val := Value.ref 6 }, { hash := PyData.keyHash P "__builtins__", key := Value.str "__builtins__" 171, val := Value.ref 4 }, { hash := PyData.keyHash P "__file__", key := Value.str "__file__" 173, val := Value.str "/claim/cut.py" 172 }, { hash := PyData.keyHash P "__cached__", key := Value.str "__cached__" 174, val := Value.none }, { hash := PyData.keyHash P "_wall", key := Value.str "_wall" 193, val := Value.ref 21 }, { hash := PyData.keyHash P "S_IMODE", key := Value.str "S_IMODE" 202, val := Value.ref 28 }, { hash := PyData.keyHash P "S_IFMT", key := Value.str "S_IFMT" 209, val := Value.ref 35 }, { hash := PyData.keyHash P "S_IFDIR", key := Value.str "S_IFDIR" 211, val := Value.int 16384 210 }, { hash := PyData.keyHash P "S_IFCHR", key := Value.str "S_IFCHR" 213, val := Value.int 8192 212 }, { hash := PyData.keyHash P "S_IFBLK", key := Value.str "S_IFBLK" 215, val := Value.int 24576 214 }, { hash := PyData.keyHash P "S_IFREG", key := Value.str "S_IFREG" 217, val := Value.int 32768 216 }, { hash := PyData.keyHash P "S_IFIFO", key := Value.str "S_IFIFO" 219, val := Value.int 4096 218 }, { hash := PyData.keyHash P "S_IFLNK", key := Value.str "S_IFLNK" 221, val := Value.int 40960 220 }, { hash := PyData.keyHash P "S_IFSOCK", key := Value.str "S_IFSOCK" 223, val := Value.int 49152 222 }, { hash := PyData.keyHash P "S_ISDIR", key := Value.str "S_ISDIR" 230, val := Value.ref 42 }, { hash := PyData.keyHash P "S_ISUID", key := Value.str "S_ISUID" 232, val := Value.int 2048 231 }, { hash := PyData.keyHash P "S_ISGID", key := Value.str "S_ISGID" 234, val := Value.int 1024 233 }, { hash := PyData.keyHash P "S_ISVTX", key := Value.str "S_ISVTX" 236, val := Value.int 512 235 }, { hash := PyData.keyHash P "S_IRUSR", key := Value.str "S_IRUSR" 238, val := Value.int 256 237 }, { hash := PyData.keyHash P "S_IWUSR", key := Value.str "S_IWUSR" 240, val := Value.int 128 239 }, { hash := PyData.keyHash P "S_IXUSR", key := Value.str "S_IXUSR" 242, val := Value.int 64 241 }, { hash := PyData.keyHash P "S_IRGRP", key := Value.str "S_IRGRP" 244, val := Value.int 32 243 }, { hash := PyData.keyHash P "S_IWGRP", key := Value.str "S_IWGRP" 246, val := Value.int 16 245 }, { hash := PyData.keyHash P "S_IXGRP", key := Value.str "S_IXGRP" 248, val := Value.int 8 247 }, { hash := PyData.keyHash P "S_IROTH", key := Value.str "S_IROTH" 250, val := Value.int 4 249 }, { hash := PyData.keyHash P "S_IWOTH", key := Value.str "S_IWOTH" 252, val := Value.int 2 251 }, { hash := PyData.keyHash P "S_IXOTH", key := Value.str "S_IXOTH" 254, val := Value.int 1 253 }, { hash := PyData.keyHash P "_filemode_table", key := Value.str "_filemode_table" 280, val := Value.ref 75 }, { hash := PyData.keyHash P "filemode", key := Value.str "filemode" 292, val := Value.ref 82 }, { hash := PyData.keyHash P "read_uint1", key := Value.str "read_uint1" 302, val := Value.ref 89 }, { hash := PyData.keyHash P "read_string1", key := Value.str "read_string1" 311, val := Value.ref 96 }, { hash := PyData.keyHash P "read_bytes1", key := Value.str "read_bytes1" 320, val := Value.ref 103 }, { hash := PyData.keyHash P "_Example", key := Value.str "_Example" 349, val := Value.ref 120 }, { hash := PyData.keyHash P "_NODE_OUT", key := Value.str "_NODE_OUT" 354, val := Value.int (-1) 353 }, { hash := PyData.keyHash P "_NODE_DONE", key := Value.str "_NODE_DONE" 357, val := Value.int (-2) 356 }, { hash := PyData.keyHash P "_NodeInfo", key := Value.str "_NodeInfo" 394, val := Value.ref 143 }, { hash := PyData.keyHash P "CycleError", key := Value.str "CycleError" 412, val := Value.ref 158 }, { hash := PyData.keyHash P "TopologicalSorter", key := Value.str "TopologicalSorter" 531, val := Value.ref 240 }, { hash := PyData.keyHash P "_law_stream", key := Value.str "_law_stream" 545, val := Value.ref 251 }, { hash := PyData.keyHash P "_law_drawn", key := Value.str "_law_drawn" 560, val := Value.ref 258 }, { hash := PyData.keyHash P "_law_tape", key := Value.str "_law_tape" 572, val := Value.ref 265 }, { hash := PyData.keyHash P "_law_things", key := Value.str "_law_things" 585, val := Value.ref 272 }, { hash := PyData.keyHash P "_law_record", key := Value.str "_law_record" 594, val := Value.ref 279 }, { hash := PyData.keyHash P "_law_records", key := Value.str "_law_records" 605, val := Value.ref 286 }, { hash := PyData.keyHash P "_law_sorter", key := Value.str "_law_sorter" 615, val := Value.ref 293 }, { hash := PyData.keyHash P "_law_made", key := Value.str "_law_made" 621, val := Value.ref 298 }, { hash := PyData.keyHash P "_law_row", key := Value.str "_law_row" 633, val := Value.ref 305 }, { hash := PyData.keyHash P "_law_ups", key := Value.str "_law_ups" 642, val := Value.ref 312 }, { hash := PyData.keyHash P "_law_due", key := Value.str "_law_due" 648, val := Value.ref 317 }, { hash := PyData.keyHash P "_law_told_right", key := Value.str "_law_told_right" 654, val := Value.ref 322 }, { hash := PyData.keyHash P "_law_refused", key := Value.str "_law_refused" 664, val := Value.ref 329 }, { hash := PyData.keyHash P "_law_end_right", key := Value.str "_law_end_right" 670, val := Value.ref 334 }, { hash := PyData.keyHash P "law", key := Value.str "law" 676, val := Value.ref 339 }] 58 }),
 (4, { cls := Value.type "module", dict := some 0 }),
 (27, { cls := Value.type "code", data := Data.fields #[Value.str "S_IMODE" 196, Value.str "S_IMODE" 197, Value.str "/claim/cut.py" 198, Value.int 5 0, Value.int 1 0, Value.int 0 0, Value.int 0 0, Value.int 3 0, Value.ref 22, Value.bool true, Value.int 181 0, Value.ref 23, Value.none, Value.ref 24, Value.ref 25, Value.ref 26, Value.int 200 0, Value.int 5 0, Value.str "/claim/cut.py" 201] }),
 (28, fnO (fnAt 2) "S_IMODE" (Value.none) (Value.str "cpy313.stat" 194) 27),
 (34, { cls := Value.type "code", data := Data.fields #[Value.str "S_IFMT" 203, Value.str "S_IFMT" 204, Value.str "/claim/cut.py" 205, Value.int 7 0, Value.int 1 0, Value.int 0 0, Value.int 0 0, Value.int 3 0, Value.ref 29, Value.bool true, Value.int 181 0, Value.ref 30, Value.none, Value.ref 31, Value.ref 32, Value.ref 33, Value.int 207 0, Value.int 7 0, Value.str "/claim/cut.py" 208] }),
 (35, fnO (fnAt 3) "S_IFMT" (Value.none) (Value.str "cpy313.stat" 194) 34),
 (41, { cls := Value.type "code", data := Data.fields #[Value.str "S_ISDIR" 224, Value.str "S_ISDIR" 225, Value.str "/claim/cut.py" 226, Value.int 16 0, Value.int 1 0, Value.int 0 0, Value.int 0 0, Value.int 3 0, Value.ref 36, Value.bool true, Value.int 181 0, Value.ref 37, Value.none, Value.ref 38, Value.ref 39, Value.ref 40, Value.int 228 0, Value.int 16 0, Value.str "/claim/cut.py" 229] }),
 (42, fnO (fnAt 11) "S_ISDIR" (Value.none) (Value.str "cpy313.stat" 194) 41),
 (43, { cls := Value.type "tuple", data := Data.seq #[Value.int 40960 220, Value.str "l" 255] }),
 (44, { cls := Value.type "tuple", data := Data.seq #[Value.int 49152 222, Value.str "s" 256] }),
 (45, { cls := Value.type "tuple", data := Data.seq #[Value.int 32768 216, Value.str "-" 257] }),
 (46, { cls := Value.type "tuple", data := Data.seq #[Value.int 24576 214, Value.str "b" 258] }),
 (47, { cls := Value.type "tuple", data := Data.seq #[Value.int 16384 210, Value.str "d" 259] }),
 (48, { cls := Value.type "tuple", data := Data.seq #[Value.int 8192 212, Value.str "c" 260] }),
 (49, { cls := Value.type "tuple", data := Data.seq #[Value.int 4096 218, Value.str "p" 261] }),
 (50, { cls := Value.type "tuple", data := Data.seq #[Value.ref 43, Value.ref 44, Value.ref 45, Value.ref 46, Value.ref 47, Value.ref 48, Value.ref 49] }),
 (51, { cls := Value.type "tuple", data := Data.seq #[Value.int 256 237, Value.str "r" 262] }),
 (52, { cls := Value.type "tuple", data := Data.seq #[Value.ref 51] }),
 (53, { cls := Value.type "tuple", data := Data.seq #[Value.int 128 239, Value.str "w" 263] }),
 (54, { cls := Value.type "tuple", data := Data.seq #[Value.ref 53] }),
 (55, { cls := Value.type "tuple", data := Data.seq #[Value.int 2112 264, Value.str "s" 265] }),
 (56, { cls := Value.type "tuple", data := Data.seq #[Value.int 2048 231, Value.str "S" 266] }),
 (57, { cls := Value.type "tuple", data := Data.seq #[Value.int 64 241, Value.str "x" 267] }),
 (58, { cls := Value.type "tuple", data := Data.seq #[Value.ref 55, Value.ref 56, Value.ref 57] }),
 (59, { cls := Value.type "tuple", data := Data.seq #[Value.int 32 243, Value.str "r" 268] }),
 (60, { cls := Value.type "tuple", data := Data.seq #[Value.ref 59] }),
 (61, { cls := Value.type "tuple", data := Data.seq #[Value.int 16 245, Value.str "w" 269] }),
 (62, { cls := Value.type "tuple", data := Data.seq #[Value.ref 61] }),
 (63, { cls := Value.type "tuple", data := Data.seq #[Value.int 1032 270, Value.str "s" 271] }),
 (64, { cls := Value.type "tuple", data := Data.seq #[Value.int 1024 233, Value.str "S" 272] }),
 (65, { cls := Value.type "tuple", data := Data.seq #[Value.int 8 247, Value.str "x" 273] }),
 (66, { cls := Value.type "tuple", data := Data.seq #[Value.ref 63, Value.ref 64, Value.ref 65] }),
 (67, { cls := Value.type "tuple", data := Data.seq #[Value.int 4 249, Value.str "r" 274] }),
 (68, { cls := Value.type "tuple", data := Data.seq #[Value.ref 67] }),
 (69, { cls := Value.type "tuple", data := Data.seq #[Value.int 2 251, Value.str "w" 275] }),
 (70, { cls := Value.type "tuple", data := Data.seq #[Value.ref 69] }),
 (71, { cls := Value.type "tuple", data := Data.seq #[Value.int 513 276, Value.str "t" 277] }),
 (72, { cls := Value.type "tuple", data := Data.seq #[Value.int 512 235, Value.str "T" 278] }),
 (73, { cls := Value.type "tuple", data := Data.seq #[Value.int 1 253, Value.str "x" 279] }),
 (74, { cls := Value.type "tuple", data := Data.seq #[Value.ref 71, Value.ref 72, Value.ref 73] }),
 (75, { cls := Value.type "tuple", data := Data.seq #[Value.ref 50, Value.ref 52, Value.ref 54, Value.ref 58, Value.ref 60, Value.ref 62, Value.ref 66, Value.ref 68, Value.ref 70, Value.ref 74] }),
 (81, { cls := Value.type "code", data := Data.fields #[Value.str "filemode" 281, Value.str "filemode" 282, Value.str "/claim/cut.py" 283, Value.int 31 0, Value.int 1 0, Value.int 0 0, Value.int 0 0, Value.int 3 0, Value.ref 76, Value.bool true, Value.int 181 0, Value.ref 77, Value.none, Value.ref 78, Value.ref 79, Value.ref 80, Value.int 290 0, Value.int 31 0, Value.str "/claim/cut.py" 291] }),
 (82, fnO (fnAt 25) "filemode" (Value.none) (Value.str "cpy313.stat" 194) 81),
 (88, { cls := Value.type "code", data := Data.fields #[Value.str "read_uint1" 295, Value.str "read_uint1" 296, Value.str "/claim/cut.py" 297, Value.int 49 0, Value.int 1 0, Value.int 0 0, Value.int 0 0, Value.int 3 0, Value.ref 83, Value.bool true, Value.int 181 0, Value.ref 84, Value.none, Value.ref 85, Value.ref 86, Value.ref 87, Value.int 300 0, Value.int 49 0, Value.str "/claim/cut.py" 301] }),
 (89, fnO (fnAt 27) "read_uint1" (Value.none) (Value.str "cpy313.pickletools" 293) 88),
 (95, { cls := Value.type "code", data := Data.fields #[Value.str "read_string1" 303, Value.str "read_string1" 304, Value.str "/claim/cut.py" 305, Value.int 54 0, Value.int 1 0, Value.int 0 0, Value.int 0 0, Value.int 3 0, Value.ref 90, Value.bool true, Value.int 181 0, Value.ref 91, Value.none, Value.ref 92, Value.ref 93, Value.ref 94, Value.int 309 0, Value.int 54 0, Value.str "/claim/cut.py" 310] }),
 (96, fnO (fnAt 28) "read_string1" (Value.none) (Value.str "cpy313.pickletools" 293) 95),
 (102, { cls := Value.type "code", data := Data.fields #[Value.str "read_bytes1" 312, Value.str "read_bytes1" 313, Value.str "/claim/cut.py" 314, Value.int 61 0, Value.int 1 0, Value.int 0 0, Value.int 0 0, Value.int 3 0, Value.ref 97, Value.bool true, Value.int 181 0, Value.ref 98, Value.none, Value.ref 99, Value.ref 100, Value.ref 101, Value.int 318 0, Value.int 61 0, Value.str "/claim/cut.py" 319] }),
 (103, fnO (fnAt 29) "read_bytes1" (Value.none) (Value.str "cpy313.pickletools" 293) 102),
 (116, { cls := Value.type "code", data := Data.fields #[Value.str "__init__" 333, Value.str "_Example.__init__" 334, Value.str "/claim/cut.py" 335, Value.int 70 0, Value.int 2 0, Value.int 0 0, Value.int 0 0, Value.int 3 0, Value.ref 111, Value.bool true, Value.int 181 0, Value.ref 112, Value.none, Value.ref 113, Value.ref 114, Value.ref 115, Value.int 338 0, Value.int 70 0, Value.str "/claim/cut.py" 339] }),
 (117, fnO (meAt 30 0) "_Example.__init__" (Value.none) (Value.str "cpy313.pickletools" 293) 116),
 (119, { cls := Value.type "dict", data := Data.dict #[{ hash := PyData.keyHash P "__module__", key := Value.str "__module__" 328, val := Value.str "cpy313.pickletools" 293 }, { hash := PyData.keyHash P "__firstlineno__", key := Value.str "__firstlineno__" 332, val := Value.int 68 331 }, { hash := PyData.keyHash P "__init__", key := Value.str "__init__" 340, val := Value.ref 117 }, { hash := PyData.keyHash P "__static_attributes__", key := Value.str "__static_attributes__" 342, val := Value.ref 118 }, { hash := PyData.keyHash P "__dict__", key := Value.str "__dict__" 344, val := Value.ref 121 }, { hash := PyData.keyHash P "__weakref__", key := Value.str "__weakref__" 346, val := Value.ref 122 }, { hash := PyData.keyHash P "__doc__", key := Value.str "__doc__" 347, val := Value.none }] 4 }),
 (120, { cls := Value.type "type", data := Data.cls { name := Str.ofString "_Example", bases := [Value.type "object"], mro := [Value.ref 120, Value.type "object"], ns := 119, qualname := Str.ofString "_Example" }, slots := #[none, none, some (Value.str "_Example" 321), some (Value.str "_Example" 329), some (Value.builtin "object.__new__"), some (Value.bool true)] }),
 (121, { cls := Value.type "getset_descriptor", data := Data.fields #[Value.str "__dict__" 343, Value.ref 120, Value.builtin "function.__dict__", Value.builtin "function.__dict__#set"] }),
 (122, { cls := Value.type "getset_descriptor", data := Data.fields #[Value.str "__weakref__" 345, Value.ref 120, Value.builtin "ExceptionGroup.__weakref__", Value.none] }),
 (138, { cls := Value.type "code", data := Data.fields #[Value.str "__init__" 374, Value.str "_NodeInfo.__init__" 375, Value.str "/claim/cut.py" 376, Value.int 78 0, Value.int 2 0, Value.int 0 0, Value.int 0 0, Value.int 3 0, Value.ref 133, Value.bool true, Value.int 181 0, Value.ref 134, Value.none, Value.ref 135, Value.ref 136, Value.ref 137, Value.int 379 0, Value.int 78 0, Value.str "/claim/cut.py" 380] }),
 (139, fnO (meAt 34 1) "_NodeInfo.__init__" (Value.none) (Value.str "cpy313.graphlib" 350) 138),
 (142, { cls := Value.type "dict", data := Data.dict #[{ hash := PyData.keyHash P "__module__", key := Value.str "__module__" 365, val := Value.str "cpy313.graphlib" 350 }, { hash := PyData.keyHash P "__firstlineno__", key := Value.str "__firstlineno__" 369, val := Value.int 75 368 }, { hash := PyData.keyHash P "__slots__", key := Value.str "__slots__" 373, val := Value.ref 132 }, { hash := PyData.keyHash P "__init__", key := Value.str "__init__" 381, val := Value.ref 139 }, { hash := PyData.keyHash P "__static_attributes__", key := Value.str "__static_attributes__" 385, val := Value.ref 140 }, { hash := PyData.keyHash P "node", key := Value.str "node" 387, val := Value.ref 144 }, { hash := PyData.keyHash P "npredecessors", key := Value.str "npredecessors" 389, val := Value.ref 145 }, { hash := PyData.keyHash P "successors", key := Value.str "successors" 391, val := Value.ref 146 }, { hash := PyData.keyHash P "__doc__", key := Value.str "__doc__" 392, val := Value.none }] 5 }),
 (143, { cls := Value.type "type", data := Data.cls { name := Str.ofString "_NodeInfo", bases := [Value.type "object"], mro := [Value.ref 143, Value.type "object"], ns := 142, qualname := Str.ofString "_NodeInfo", hasDict := false, slotNames := [Str.ofString "node", Str.ofString "npredecessors", Str.ofString "successors"] }, slots := #[none, none, some (Value.str "_NodeInfo" 358), some (Value.str "_NodeInfo" 366), some (Value.builtin "object.__new__"), some (Value.bool false)] }),
 (144, { cls := Value.type "member_descriptor", data := Data.fields #[Value.str "node" 386, Value.ref 143, Value.builtin "proto.slot", Value.builtin "proto.slot#set", Value.int 2 0] }),
 (145, { cls := Value.type "member_descriptor", data := Data.fields #[Value.str "npredecessors" 388, Value.ref 143, Value.builtin "proto.slot", Value.builtin "proto.slot#set", Value.int 1 0] }),
 (146, { cls := Value.type "member_descriptor", data := Data.fields #[Value.str "successors" 390, Value.ref 143, Value.builtin "proto.slot", Value.builtin "proto.slot#set", Value.int 0 0] }),
 (157, { cls := Value.type "dict", data := Data.dict #[{ hash := PyData.keyHash P "__module__", key := Value.str "__module__" 402, val := Value.str "cpy313.graphlib" 350 }, { hash := PyData.keyHash P "__firstlineno__", key := Value.str "__firstlineno__" 406, val := Value.int 82 405 }, { hash := PyData.keyHash P "__static_attributes__", key := Value.str "__static_attributes__" 407, val := Value.ref 156 }, { hash := PyData.keyHash P "__weakref__", key := Value.str "__weakref__" 409, val := Value.ref 159 }, { hash := PyData.keyHash P "__doc__", key := Value.str "__doc__" 410, val := Value.none }] 3 }),
 (158, { cls := Value.type "type", data := Data.cls { name := Str.ofString "CycleError", bases := [Value.type "ValueError"], mro := [Value.ref 158, Value.type "ValueError", Value.type "Exception", Value.type "BaseException", Value.type "object"], ns := 157, qualname := Str.ofString "CycleError" }, slots := #[some (Value.ref 149), none, some (Value.str "CycleError" 395), some (Value.str "CycleError" 403), some (Value.builtin "ValueError.__new__"), some (Value.bool true)] }),
 (159, { cls := Value.type "getset_descriptor", data := Data.fields #[Value.str "__weakref__" 408, Value.ref 158, Value.builtin "ExceptionGroup.__weakref__", Value.none] }),
 (169, { cls := Value.type "tuple", data := Data.seq #[Value.none] }),
 (175, { cls := Value.type "code", data := Data.fields #[Value.str "__init__" 425, Value.str "TopologicalSorter.__init__" 426, Value.str "/claim/cut.py" 427, Value.int 86 0, Value.int 2 0, Value.int 0 0, Value.int 0 0, Value.int 3 0, Value.ref 170, Value.bool true, Value.int 181 0, Value.ref 171, Value.none, Value.ref 172, Value.ref 173, Value.ref 174, Value.int 432 0, Value.int 86 0, Value.str "/claim/cut.py" 433] }),
 (176, fnO (meAt 36 0) "TopologicalSorter.__init__" (Value.ref 169) (Value.str "cpy313.graphlib" 350) 175),
 (182, { cls := Value.type "code", data := Data.fields #[Value.str "_get_nodeinfo" 435, Value.str "TopologicalSorter._get_nodeinfo" 436, Value.str "/claim/cut.py" 437, Value.int 95 0, Value.int 2 0, Value.int 0 0, Value.int 0 0, Value.int 3 0, Value.ref 177, Value.bool true, Value.int 181 0, Value.ref 178, Value.none, Value.ref 179, Value.ref 180, Value.ref 181, Value.int 441 0, Value.int 95 0, Value.str "/claim/cut.py" 442] }),
 (183, fnO (meAt 36 1) "TopologicalSorter._get_nodeinfo" (Value.none) (Value.str "cpy313.graphlib" 350) 182),
 (189, { cls := Value.type "code", data := Data.fields #[Value.str "add" 444, Value.str "TopologicalSorter.add" 445, Value.str "/claim/cut.py" 446, Value.int 100 0, Value.int 2 0, Value.int 0 0, Value.int 0 0, Value.int 7 0, Value.ref 184, Value.bool true, Value.int 181 0, Value.ref 185, Value.none, Value.ref 186, Value.ref 187, Value.ref 188, Value.int 453 0, Value.int 100 0, Value.str "/claim/cut.py" 454] }),
 (190, fnO (meAt 36 2) "TopologicalSorter.add" (Value.none) (Value.str "cpy313.graphlib" 350) 189),
 (194, { cls := Value.type "code", data := Data.fields #[Value.str "prepare" 456, Value.str "TopologicalSorter.prepare" 457, Value.str "/claim/cut.py" 458, Value.int 109 0, Value.int 1 0, Value.int 0 0, Value.int 0 0, Value.int 3 0, Value.ref 191, Value.bool true, Value.int 181 0, Value.ref 192, Value.none, Value.none, Value.none, Value.ref 193, Value.int 459 0, Value.int 109 0, Value.str "/claim/cut.py" 460] }),
 (195, fnO (meAt 36 3) "TopologicalSorter.prepare" (Value.none) (Value.str "cpy313.graphlib" 350) 194),
 (201, { cls := Value.type "code", data := Data.fields #[Value.str "get_ready" 462, Value.str "TopologicalSorter.get_ready" 463, Value.str "/claim/cut.py" 464, Value.int 117 0, Value.int 1 0, Value.int 0 0, Value.int 0 0, Value.int 3 0, Value.ref 196, Value.bool true, Value.int 181 0, Value.ref 197, Value.none, Value.ref 198, Value.ref 199, Value.ref 200, Value.int 469 0, Value.int 117 0, Value.str "/claim/cut.py" 470] }),
 (202, fnO (meAt 36 4) "TopologicalSorter.get_ready" (Value.none) (Value.str "cpy313.graphlib" 350) 201),
 (208, { cls := Value.type "code", data := Data.fields #[Value.str "is_active" 472, Value.str "TopologicalSorter.is_active" 473, Value.str "/claim/cut.py" 474, Value.int 128 0, Value.int 1 0, Value.int 0 0, Value.int 0 0, Value.int 3 0, Value.ref 203, Value.bool true, Value.int 181 0, Value.ref 204, Value.none, Value.ref 205, Value.ref 206, Value.ref 207, Value.int 476 0, Value.int 128 0, Value.str "/claim/cut.py" 477] }),
 (209, fnO (meAt 36 5) "TopologicalSorter.is_active" (Value.none) (Value.str "cpy313.graphlib" 350) 208),
 (222, { cls := Value.type "code", data := Data.fields #[Value.str "done" 486, Value.str "TopologicalSorter.done" 487, Value.str "/claim/cut.py" 488, Value.int 136 0, Value.int 1 0, Value.int 0 0, Value.int 0 0, Value.int 7 0, Value.ref 217, Value.bool true, Value.int 181 0, Value.ref 218, Value.none, Value.ref 219, Value.ref 220, Value.ref 221, Value.int 497 0, Value.int 136 0, Value.str "/claim/cut.py" 498] }),
 (223, fnO (meAt 36 7) "TopologicalSorter.done" (Value.none) (Value.str "cpy313.graphlib" 350) 222),
 (229, { cls := Value.type "code", data := Data.fields #[Value.str "_find_cycle" 500, Value.str "TopologicalSorter._find_cycle" 501, Value.str "/claim/cut.py" 502, Value.int 159 0, Value.int 1 0, Value.int 0 0, Value.int 0 0, Value.int 3 0, Value.ref 224, Value.bool true, Value.int 181 0, Value.ref 225, Value.none, Value.ref 226, Value.ref 227, Value.ref 228, Value.int 510 0, Value.int 159 0, Value.str "/claim/cut.py" 511] }),
 (230, fnO (meAt 36 8) "TopologicalSorter._find_cycle" (Value.none) (Value.str "cpy313.graphlib" 350) 229),
 (239, { cls := Value.type "dict", data := Data.dict #[{ hash := PyData.keyHash P "__module__", key := Value.str "__module__" 420, val := Value.str "cpy313.graphlib" 350 }, { hash := PyData.keyHash P "__firstlineno__", key := Value.str "__firstlineno__" 424, val := Value.int 84 423 }, { hash := PyData.keyHash P "__init__", key := Value.str "__init__" 434, val := Value.ref 176 }, { hash := PyData.keyHash P "_get_nodeinfo", key := Value.str "_get_nodeinfo" 443, val := Value.ref 183 }, { hash := PyData.keyHash P "add", key := Value.str "add" 455, val := Value.ref 190 }, { hash := PyData.keyHash P "prepare", key := Value.str "prepare" 461, val := Value.ref 195 }, { hash := PyData.keyHash P "get_ready", key := Value.str "get_ready" 471, val := Value.ref 202 }, { hash := PyData.keyHash P "is_active", key := Value.str "is_active" 478, val := Value.ref 209 }, { hash := PyData.keyHash P "__bool__", key := Value.str "__bool__" 485, val := Value.ref 216 }, { hash := PyData.keyHash P "done", key := Value.str "done" 499, val := Value.ref 223 }, { hash := PyData.keyHash P "_find_cycle", key := Value.str "_find_cycle" 512, val := Value.ref 230 }, { hash := PyData.keyHash P "static_order", key := Value.str "static_order" 519, val := Value.ref 237 }, { hash := PyData.keyHash P "__static_attributes__", key := Value.str "__static_attributes__" 524, val := Value.ref 238 }, { hash := PyData.keyHash P "__dict__", key := Value.str "__dict__" 526, val := Value.ref 241 }, { hash := PyData.keyHash P "__weakref__", key := Value.str "__weakref__" 528, val := Value.ref 242 }, { hash := PyData.keyHash P "__doc__", key := Value.str "__doc__" 529, val := Value.none }] 4 }),
 (240, { cls := Value.type "type", data := Data.cls { name := Str.ofString "TopologicalSorter", bases := [Value.type "object"], mro := [Value.ref 240, Value.type "object"], ns := 239, qualname := Str.ofString "TopologicalSorter" }, slots := #[none, none, some (Value.str "TopologicalSorter" 413), some (Value.str "TopologicalSorter" 421), some (Value.builtin "object.__new__"), some (Value.bool true)] }),
 (241, { cls := Value.type "getset_descriptor", data := Data.fields #[Value.str "__dict__" 525, Value.ref 240, Value.builtin "function.__dict__", Value.builtin "function.__dict__#set"] }),
 (242, { cls := Value.type "getset_descriptor", data := Data.fields #[Value.str "__weakref__" 527, Value.ref 240, Value.builtin "ExceptionGroup.__weakref__", Value.none] }),
 (250, { cls := Value.type "code", data := Data.fields #[Value.str "_law_stream" 534, Value.str "_law_stream" 535, Value.str "/claim/cut.py" 536, Value.int 191 0, Value.int 2 0, Value.int 0 0, Value.int 0 0, Value.int 3 0, Value.ref 245, Value.bool true, Value.int 181 0, Value.ref 246, Value.none, Value.ref 247, Value.ref 248, Value.ref 249, Value.int 543 0, Value.int 191 0, Value.str "/claim/cut.py" 544] }),
 (251, fnO (fnAt 38) "_law_stream" (Value.none) (Value.str "law_oc0264_01" 532) 250),
 (257, { cls := Value.type "code", data := Data.fields #[Value.str "_law_drawn" 546, Value.str "_law_drawn" 547, Value.str "/claim/cut.py" 548, Value.int 200 0, Value.int 1 0, Value.int 0 0, Value.int 0 0, Value.int 3 0, Value.ref 252, Value.bool true, Value.int 181 0, Value.ref 253, Value.none, Value.ref 254, Value.ref 255, Value.ref 256, Value.int 558 0, Value.int 200 0, Value.str "/claim/cut.py" 559] }),
 (258, fnO (fnAt 39) "_law_drawn" (Value.none) (Value.str "law_oc0264_01" 532) 257),
 (264, { cls := Value.type "code", data := Data.fields #[Value.str "_law_tape" 561, Value.str "_law_tape" 562, Value.str "/claim/cut.py" 563, Value.int 213 0, Value.int 1 0, Value.int 0 0, Value.int 0 0, Value.int 3 0, Value.ref 259, Value.bool true, Value.int 181 0, Value.ref 260, Value.none, Value.ref 261, Value.ref 262, Value.ref 263, Value.int 570 0, Value.int 213 0, Value.str "/claim/cut.py" 571] }),
 (265, fnO (fnAt 40) "_law_tape" (Value.none) (Value.str "law_oc0264_01" 532) 264),
 (271, { cls := Value.type "code", data := Data.fields #[Value.str "_law_things" 573, Value.str "_law_things" 574, Value.str "/claim/cut.py" 575, Value.int 218 0, Value.int 1 0, Value.int 0 0, Value.int 0 0, Value.int 3 0, Value.ref 266, Value.bool true, Value.int 181 0, Value.ref 267, Value.none, Value.ref 268, Value.ref 269, Value.ref 270, Value.int 583 0, Value.int 218 0, Value.str "/claim/cut.py" 584] }),
 (272, fnO (fnAt 41) "_law_things" (Value.none) (Value.str "law_oc0264_01" 532) 271),
 (278, { cls := Value.type "code", data := Data.fields #[Value.str "_law_record" 586, Value.str "_law_record" 587, Value.str "/claim/cut.py" 588, Value.int 229 0, Value.int 1 0, Value.int 0 0, Value.int 0 0, Value.int 3 0, Value.ref 273, Value.bool true, Value.int 181 0, Value.ref 274, Value.none, Value.ref 275, Value.ref 276, Value.ref 277, Value.int 592 0, Value.int 229 0, Value.str "/claim/cut.py" 593] }),
 (279, fnO (fnAt 42) "_law_record" (Value.none) (Value.str "law_oc0264_01" 532) 278),
 (285, { cls := Value.type "code", data := Data.fields #[Value.str "_law_records" 595, Value.str "_law_records" 596, Value.str "/claim/cut.py" 597, Value.int 233 0, Value.int 1 0, Value.int 0 0, Value.int 0 0, Value.int 3 0, Value.ref 280, Value.bool true, Value.int 181 0, Value.ref 281, Value.none, Value.ref 282, Value.ref 283, Value.ref 284, Value.int 603 0, Value.int 233 0, Value.str "/claim/cut.py" 604] }),
 (286, fnO (fnAt 43) "_law_records" (Value.none) (Value.str "law_oc0264_01" 532) 285),
 (292, { cls := Value.type "code", data := Data.fields #[Value.str "_law_sorter" 606, Value.str "_law_sorter" 607, Value.str "/claim/cut.py" 608, Value.int 242 0, Value.int 1 0, Value.int 0 0, Value.int 0 0, Value.int 3 0, Value.ref 287, Value.bool true, Value.int 181 0, Value.ref 288, Value.none, Value.ref 289, Value.ref 290, Value.ref 291, Value.int 613 0, Value.int 242 0, Value.str "/claim/cut.py" 614] }),
 (293, fnO (fnAt 44) "_law_sorter" (Value.none) (Value.str "law_oc0264_01" 532) 292),
 (297, { cls := Value.type "code", data := Data.fields #[Value.str "_law_made" 616, Value.str "_law_made" 617, Value.str "/claim/cut.py" 618, Value.int 251 0, Value.int 4 0, Value.int 0 0, Value.int 0 0, Value.int 3 0, Value.ref 294, Value.bool true, Value.int 181 0, Value.ref 295, Value.none, Value.none, Value.none, Value.ref 296, Value.int 619 0, Value.int 251 0, Value.str "/claim/cut.py" 620] }),
 (298, fnO (fnAt 45) "_law_made" (Value.none) (Value.str "law_oc0264_01" 532) 297),
 (304, { cls := Value.type "code", data := Data.fields #[Value.str "_law_row" 622, Value.str "_law_row" 623, Value.str "/claim/cut.py" 624, Value.int 280 0, Value.int 2 0, Value.int 0 0, Value.int 0 0, Value.int 3 0, Value.ref 299, Value.bool true, Value.int 181 0, Value.ref 300, Value.none, Value.ref 301, Value.ref 302, Value.ref 303, Value.int 631 0, Value.int 280 0, Value.str "/claim/cut.py" 632] }),
 (305, fnO (fnAt 46) "_law_row" (Value.none) (Value.str "law_oc0264_01" 532) 304),
 (311, { cls := Value.type "code", data := Data.fields #[Value.str "_law_ups" 634, Value.str "_law_ups" 635, Value.str "/claim/cut.py" 636, Value.int 288 0, Value.int 2 0, Value.int 0 0, Value.int 0 0, Value.int 3 0, Value.ref 306, Value.bool true, Value.int 181 0, Value.ref 307, Value.none, Value.ref 308, Value.ref 309, Value.ref 310, Value.int 640 0, Value.int 288 0, Value.str "/claim/cut.py" 641] }),
 (312, fnO (fnAt 47) "_law_ups" (Value.none) (Value.str "law_oc0264_01" 532) 311),
 (316, { cls := Value.type "code", data := Data.fields #[Value.str "_law_due" 643, Value.str "_law_due" 644, Value.str "/claim/cut.py" 645, Value.int 293 0, Value.int 2 0, Value.int 0 0, Value.int 0 0, Value.int 3 0, Value.ref 313, Value.bool true, Value.int 181 0, Value.ref 314, Value.none, Value.none, Value.none, Value.ref 315, Value.int 646 0, Value.int 293 0, Value.str "/claim/cut.py" 647] }),
 (317, fnO (fnAt 48) "_law_due" (Value.none) (Value.str "law_oc0264_01" 532) 316),
 (321, { cls := Value.type "code", data := Data.fields #[Value.str "_law_told_right" 649, Value.str "_law_told_right" 650, Value.str "/claim/cut.py" 651, Value.int 308 0, Value.int 2 0, Value.int 0 0, Value.int 0 0, Value.int 3 0, Value.ref 318, Value.bool true, Value.int 181 0, Value.ref 319, Value.none, Value.none, Value.none, Value.ref 320, Value.int 652 0, Value.int 308 0, Value.str "/claim/cut.py" 653] }),
 (322, fnO (fnAt 49) "_law_told_right" (Value.none) (Value.str "law_oc0264_01" 532) 321),
 (328, { cls := Value.type "code", data := Data.fields #[Value.str "_law_refused" 655, Value.str "_law_refused" 656, Value.str "/claim/cut.py" 657, Value.int 317 0, Value.int 3 0, Value.int 0 0, Value.int 0 0, Value.int 3 0, Value.ref 323, Value.bool true, Value.int 181 0, Value.ref 324, Value.none, Value.ref 325, Value.ref 326, Value.ref 327, Value.int 662 0, Value.int 317 0, Value.str "/claim/cut.py" 663] }),
 (329, fnO (fnAt 50) "_law_refused" (Value.none) (Value.str "law_oc0264_01" 532) 328),
 (333, { cls := Value.type "code", data := Data.fields #[Value.str "_law_end_right" 665, Value.str "_law_end_right" 666, Value.str "/claim/cut.py" 667, Value.int 323 0, Value.int 4 0, Value.int 0 0, Value.int 0 0, Value.int 3 0, Value.ref 330, Value.bool true, Value.int 181 0, Value.ref 331, Value.none, Value.none, Value.none, Value.ref 332, Value.int 668 0, Value.int 323 0, Value.str "/claim/cut.py" 669] }),
 (334, fnO (fnAt 51) "_law_end_right" (Value.none) (Value.str "law_oc0264_01" 532) 333),
 (338, { cls := Value.type "code", data := Data.fields #[Value.str "law" 671, Value.str "law" 672, Value.str "/claim/cut.py" 673, Value.int 337 0, Value.int 1 0, Value.int 0 0, Value.int 0 0, Value.int 3 0, Value.ref 335, Value.bool true, Value.int 181 0, Value.ref 336, Value.none, Value.none, Value.none, Value.ref 337, Value.int 674 0, Value.int 337 0, Value.str "/claim/cut.py" 675] }),
 (339, fnO (fnAt 52) "law" (Value.none) (Value.str "law_oc0264_01" 532) 338)]
noncomputable def KA : List Addr := [1, 2, 3, 4, 27, 28, 34, 35, 41, 42, 43, 44, 45, 46, 47, 48, 49, 50, 51, 52, 53, 54, 55, 56, 57, 58, 59, 60, 61, 62, 63, 64, 65, 66, 67, 68, 69, 70, 71, 72, 73, 74, 75, 81, 82, 88, 89, 95, 96, 102, 103, 116, 117, 119, 120, 121, 122, 138, 139, 142, 143, 144, 145, 146, 157, 158, 159, 169, 175, 176, 182, 183, 189, 190, 194, 195, 201, 202, 208, 209, 222, 223, 229, 230, 239, 240, 241, 242, 250, 251, 257, 258, 264, 265, 271, 272, 278, 279, 285, 286, 292, 293, 297, 298, 304, 305, 311, 312, 316, 317, 321, 322, 328, 329, 333, 334, 338, 339]
theorem KA_is (P : Params) : KA = (KF P).map (·.1) := by kernel_rfl
noncomputable def q0 : Program := view pw [52]
noncomputable def loose0 : List Str := (pw.main.scope.names.map (·.1)).filter (fun x => x != "law")
noncomputable def Yf (s : Shared) : List (Option Obj) × Nat × Option Obj := (KA.map s.heap.get?, s.heap.objs.size, s.heap.get? 246)
noncomputable def Ya (w : World) : List (Option Obj) × Nat × Option Obj := ((KF w.params).map fun p => some p.2, 340, some { cls := Value.none, data := Data.fields #[] })
theorem t1 : ∀ (w : World) (os : OsState), (topRun treeTable pw w 11 (some (.ref 6)) 3000 ⟨boot_heap w.params, #[], boot_drawn, boot_toks, os⟩ (topStub pw)).map (fun s => ((staticsOk (importedModules pw.main.body) (boot_heap w.params) s.heap && namesBound pw s.heap && gensDone s && laidKept (boot_heap w.params) s.heap), openSeen q0 loose0 (importedModules pw.main.body) (fun _ => true) true s, Yf s)) = some (true, openGood q0 loose0, Ya w) := by
 intro w os
 rw [PySem.W.Fast.te14082659384304107361, PySem.W.Fast.te14364793385576792824, PySem.W.Fast.te4187177175401517315]
 kernel_rfl
end
section
noncomputable abbrev Led := List (Addr × Obj)
noncomputable abbrev Loc := List (Str × Option Value)
noncomputable abbrev M (w : World) : Model := model pw w
structure Hp (g h : Heap) (l : Led) : Prop where
 keep : ∀ b o, g.get? b = some o → h.get? b = some o
 nw : ∀ p ∈ l, h.get? p.1 = some p.2 ∧ g.get? p.1 = none
 nd : (l.map (·.1)).Nodup
 sz : g.objs.size ≤ h.objs.size
noncomputable def mp (m : Loc) : Str → Option Value := fun x => (m.lookup x).join
noncomputable def fro (l : List Env) : List Addr := l.filterMap (·.frame)
noncomputable def FrK (fr : List Env) (h h' : Heap) : Prop := ∀ b ∈ fro fr, ∀ o, h.get? b = some o → ∃ sl, h'.get? b = some { o with slots := sl }
structure Eo where
 os : OsState
 fr : List Env
 h0 : Heap
theorem FrK.refl (fr : List Env) (h : Heap) : FrK fr h h := fun _ _ o e => ⟨o.slots, e⟩
theorem FrK.keeps {fr : List Env} {h h' h'' : Heap} (x : FrK fr h h') (k : ∀ b ∈ fro fr, ∀ o, h'.get? b = some o → h''.get? b = some o) : FrK fr h h'' := fun b hb o e => by
 (refine e1_1 (x b hb o e) ?_; intro sl q)
 exact ⟨sl, k b hb _ q⟩
theorem FrK.trans {fr : List Env} {h h' h'' : Heap} (x : FrK fr h h') (y : FrK fr h' h'') : FrK fr h h'' := fun b hb o e => by
 (refine e1_1 (x b hb o e) ?_; intro sl q)
 (refine e1_1 (y b hb _ q) ?_; intro sl' q')
 exact ⟨sl', q'⟩
theorem funFrames_at {h h' g g' : Heap} : ∀ {l : List Env}, h.FunFrames g l → FrK l h h' → (∀ b ∈ fro l, g'.get? b = none) → h'.FunFrames g' l
 | [], _, _, _ => trivial
 | env :: l, ⟨hk, ⟨L, o, hf, hn, ho, hd⟩, hr⟩, x, y => by
  have hL : L ∈ fro (env :: l) := List.mem_filterMap.mpr ⟨env, .head _, hf⟩
  have sub : ∀ b ∈ fro l, b ∈ fro (env :: l) := fun b hb => by obtain ⟨e, he, q⟩ := List.mem_filterMap.mp hb; exact List.mem_filterMap.mpr ⟨e, .tail _ he, q⟩
  (refine e1_1 (x L hL o ho) ?_; intro sl q)
  exact ⟨hk, ⟨L, _, hf, y L hL, q, hd⟩, funFrames_at hr (fun b hb o e => x b (sub b hb) o e) fun b hb => y b (sub b hb)⟩
structure St (g : Heap) (base : Eo) (L : Addr) (ks : List Str) (m : Loc) (l : Led) (s : Shared) : Prop where
 F : Fr g L s.heap (mp m)
 N : News g L s.heap l
 D : (l.map (·.1)).Nodup
 K : m.map (·.1) = ks ∧ ks.Nodup
 G : s.gens = #[]
 O : s.os = base.os
 W : FrK base.fr base.h0 s.heap
 Z : ∀ p ∈ l, p.1 ∉ fro base.fr
 Y : L ∉ fro base.fr
 U : ∀ b ∈ fro base.fr, g.get? b = none ∧ ∃ o, base.h0.get? b = some o
structure Cx (w : World) (A : Around) (base : Eo) (outer : List Env) (g : Heap) (n : Nat) : Prop where
 stk : A.frames = some outer
 fr : base.fr = outer
 ff : base.h0.FunFrames g outer
 X : (KF w.params).In g
 T : ∃ mg mb, TopRead q0 loose0 mg mb g
 dep : A.depth + n < recursionLimit
 uni : A.units + 8 * n < cLine
 hh : A.handled = none
theorem Cx.le {w A base outer g n k} (C : Cx w A base outer g n) (h : k ≤ n) : Cx w A base outer g k := ⟨C.stk, C.fr, C.ff, C.X, C.T, by have := C.dep; lia, by have := C.uni; lia, C.hh⟩
noncomputable def Meets (g : Heap) (base : Eo) (Φ : Value → Led → Prop) : Result → Shared → Prop := fun r s' =>
 ∃ v l', r = .ok (.ret v) ∧ Hp g s'.heap l' ∧ s'.gens = #[] ∧ s'.os = base.os ∧ FrK base.fr base.h0 s'.heap ∧ (∀ p ∈ l', p.1 ∉ fro base.fr) ∧ Φ v l'
inductive SetAt (x : Str) (v : Option Value) : Loc → Loc → Prop
 | here {o m} : SetAt x v ((x, o) :: m) ((x, v) :: m)
 | there {p m m'} : SetAt x v m m' → SetAt x v (p :: m) (p :: m')
inductive Up (a : Addr) (o o' : Obj) : Led → Led → Prop
 | here {l} : Up a o o' ((a, o) :: l) ((a, o') :: l)
 | there {p l l'} : Up a o o' l l' → Up a o o' (p :: l) (p :: l')
inductive Rm (p : Addr × Obj) : Led → Led → Prop
 | here {l} : Rm p (p :: l) l
 | there {q l l'} : Rm p l l' → Rm p (q :: l) (q :: l')
inductive Ex : Led → Led → Led → Prop
 | nil {l} : Ex l [] l
 | take {p l l' P R} : Rm p l l' → Ex l' P R → Ex l (p :: P) R
theorem Rm.perm {p} {l l' : Led} (h : Rm p l l') : l.Perm (p :: l') := by
 induction h with
 | here => exact .refl _
 | there _ ih => exact (List.Perm.cons _ ih).trans (List.Perm.swap _ _ _)
theorem Ex.perm {l P R : Led} (h : Ex l P R) : l.Perm (P ++ R) := by
 induction h with
 | nil => exact .refl _
 | take h _ ih => exact h.perm.trans (List.Perm.cons _ ih)
theorem mp_get {m : Loc} {x : Str} {v : Value} (hk : (m.map (·.1)).Nodup) (h : (x, some v) ∈ m) : mp m x = some v := by
 unfold mp
 induction m with
 | nil => cases h
 | cons p m ih =>
  rw [List.map_cons, List.nodup_cons] at hk
  rcases List.mem_cons.mp h with e | h'
  ·subst e; simp [List.lookup]
  ·have ne : (x == p.1) = false := by
    simp only [beq_eq_false_iff_ne]
    rintro rfl
    exact hk.1 (List.mem_map_of_mem (f := (·.1)) h')
   rw [show p :: m = (p.1, p.2) :: m from rfl, List.lookup_cons, ne]
   exact ih hk.2 h'
theorem SetAt.keys {x : Str} {v : Option Value} {m m' : Loc} (h : SetAt x v m m') : m'.map (·.1) = m.map (·.1) := by
 induction h with
 | here => rfl
 | there _ ih => simp [ih]
theorem SetAt.has {x : Str} {v : Option Value} {m m' : Loc} (h : SetAt x v m m') : x ∈ m.map (·.1) := by
 induction h with
 | here => simp
 | there _ ih => simp [ih]
theorem SetAt.mp {x : Str} {v : Option Value} {m m' : Loc} (h : SetAt x v m m') (hk : (m.map (·.1)).Nodup) : mp m' = fun y => if y = x then v else mp m y := by
 funext y
 unfold Mine.Internal.mp
 induction h with
 | @here o m =>
  by_cases e : y = x
  ·subst e; simp [List.lookup]
  ·have : (y == x) = false := by simpa using e
   simp [List.lookup, this, e]
 | @there p m m' h ih =>
  rw [List.map_cons, List.nodup_cons] at hk
  have ih := ih hk.2
  obtain ⟨a, b⟩ := p
  by_cases e : y = a
  ·subst e
   have ne : y ≠ x := by rintro rfl; exact hk.1 h.has
   simp [List.lookup, ne]
  ·have : (y == a) = false := by simpa using e
   simp only [List.lookup, this]
   exact ih
theorem Up.keys {a : Addr} {o o' : Obj} {l l' : Led} (h : Up a o o' l l') : l'.map (·.1) = l.map (·.1) := by
 induction h with
 | here => rfl
 | there _ ih => simp [ih]
theorem Up.mem {a : Addr} {o o' : Obj} {l l' : Led} (h : Up a o o' l l') : (a, o) ∈ l := by
 induction h with
 | here => exact .head _
 | there _ ih => exact .tail _ ih
theorem Up.has {a : Addr} {o o' : Obj} {l l' : Led} (h : Up a o o' l l') : a ∈ l.map (·.1) := List.mem_map_of_mem (f := (·.1)) h.mem
theorem Up.upd {a : Addr} {o o' : Obj} {l l' : Led} (h : Up a o o' l l') (hd : (l.map (·.1)).Nodup) : Upd a o o' l l' := by
 induction h with
 | here =>
  rw [List.map_cons, List.nodup_cons] at hd
  exact .head fun p hp e => hd.1 (e ▸ List.mem_map_of_mem (f := (·.1)) hp)
 | there h ih =>
  rw [List.map_cons, List.nodup_cons] at hd
  exact .tail (fun e => hd.1 (e ▸ h.has)) (ih hd.2)
section
variable {g h h' : Heap} {base : Eo} {L : Addr} {ks : List Str} {m m' : Loc} {l l' P R : Led} {s s' : Shared} {a : Addr} {o o' : Obj}
theorem St.hp (S : St g base L ks m l s) : Hp g s.heap l :=
 ⟨S.F.keep, fun p hp => ⟨(S.N p hp).1, (S.N p hp).2.2⟩, S.D, Nat.le_trans S.F.above (Nat.le_of_lt S.F.ns.lt)⟩
theorem St.perm (S : St g base L ks m l s) (p : l.Perm l') : St g base L ks m l' s :=
 ⟨S.F, fun q hq => S.N q (p.mem_iff.mpr hq), (p.map _).nodup_iff.mp S.D, S.K, S.G, S.O, S.W, fun q hq => S.Z q (p.mem_iff.mpr hq), S.Y, S.U⟩
theorem St.sub (S : St g base L ks m l s) (p : l'.Sublist l) : St g base L ks m l' s :=
 ⟨S.F, fun q hq => S.N q (p.mem hq), S.D.sublist (p.map _), S.K, S.G, S.O, S.W, fun q hq => S.Z q (p.mem hq), S.Y, S.U⟩
theorem St.same (S : St g base L ks m l s) (e : s'.heap = s.heap) (e1 : s'.gens = s.gens) (e2 : s'.os = s.os) : St g base L ks m l s' :=
 ⟨e ▸ S.F, e ▸ S.N, S.D, S.K, e1.trans S.G, e2.trans S.O, e ▸ S.W, S.Z, S.Y, S.U⟩
theorem St.get (S : St g base L ks m l s) (hm : (a, o) ∈ l) : s.heap.get? a = some o := (S.N _ hm).1
theorem St.old (S : St g base L ks m l s) (hm : g.get? a = some o) : s.heap.get? a = some o := S.F.keep _ _ hm
theorem St.chg (S : St g base L ks m l s) (U : Up a o o' l l') (hs : Heap.SameBut a s.heap s'.heap) (ho : s'.heap.get? a = some o') (e1 : s'.gens = s.gens) (e2 : s'.os = s.os) : St g base L ks m l' s' := by
 have z := S.N _ U.mem
 (refine e2_4 ((U.upd S.D).split) ?_; intro pre post hE1 hE2 h1 h2; subst hE1 hE2)
 have zz : ∀ b ∈ fro base.fr, b ≠ a := fun b hb e => S.Z _ U.mem (e ▸ hb)
 exact ⟨S.F.change hs z.2.1 z.2.2, news_set S.N h1 h2 hs ho, by rw [U.keys]; exact S.D, S.K, e1.trans S.G, e2.trans S.O, S.W.keeps fun b hb o e => (hs.2 b (zz b hb)).trans e, fun p hp => by
  have hk : p.1 ∈ (_ ++ (a, o') :: _).map (fun p : Addr × Obj => p.1) := List.mem_map_of_mem (f := (·.1)) hp
  rw [U.keys] at hk
  (refine e1_2 (List.mem_map.mp hk) ?_; intro q hq e)
  exact e ▸ S.Z q hq, S.Y, S.U⟩
theorem St.new (S : St g base L ks m l s) (hk : ∀ b o, s.heap.get? b = some o → s'.heap.get? b = some o) (hn : s.heap.get? a = none) (ho : s'.heap.get? a = some o) (e1 : s'.gens = s.gens) (e2 : s'.os = s.os) : St g base L ks m ((a, o) :: l) s' := by
 (refine e3_2 S.F.ns ?_; intro oL es ep hL r)
 refine ⟨⟨⟨oL, es, ep, hk _ _ hL, r⟩, fun b x e => hk _ _ (S.F.keep b x e), S.F.above⟩, ?_, ?_, S.K, e1.trans S.G, e2.trans S.O, S.W.keeps fun b _ o e => hk b o e, fun p hp => ?_, S.Y, S.U⟩
 ·intro p hp
  rcases List.mem_cons.mp hp with rfl | hp
  ·refine ⟨ho, fun e => ?_, ?_⟩
   ·have q : s.heap.get? L = none := e ▸ hn
    rw [hL] at q; cases q
   ·cases q : g.get? a with
    | none => rfl
    | some x => rw [S.F.keep _ _ q] at hn; cases hn
  ·exact ⟨hk _ _ (S.N p hp).1, (S.N p hp).2⟩
 ·rw [List.map_cons, List.nodup_cons]
  refine ⟨fun hm => ?_, S.D⟩
  (refine e1_2 (List.mem_map.mp hm) ?_; intro p hp e)
  have := (S.N p hp).1
  rw [e, hn] at this; cases this
 ·rcases List.mem_cons.mp hp with rfl | hp
  ·intro hm
   obtain ⟨_, o1, h1⟩ := S.U _ hm
   (refine e1_1 (S.W _ hm _ h1) ?_; intro sl h2)
   rw [hn] at h2; cases h2
  ·exact S.Z p hp
theorem St.keeps (S : St g base L ks m l s) (hk : ∀ b o, s.heap.get? b = some o → s'.heap.get? b = some o) (e1 : s'.gens = s.gens) (e2 : s'.os = s.os) : St g base L ks m l s' := by
 (refine e3_2 S.F.ns ?_; intro oL es ep hL r)
 exact ⟨⟨⟨oL, es, ep, hk _ _ hL, r⟩, fun b x e => hk _ _ (S.F.keep b x e), S.F.above⟩, fun p hp => ⟨hk _ _ (S.N p hp).1, (S.N p hp).2⟩, S.D, S.K, e1.trans S.G, e2.trans S.O, S.W.keeps fun b _ o e => hk b o e, S.Z, S.Y, S.U⟩
theorem size_none (h : Heap) : h.get? h.objs.size = none := by
 cases q : h.get? h.objs.size with
 | none => rfl
 | some o => exact absurd (Heap.lt_size q) (Nat.lt_irrefl _)
theorem St.push (S : St g base L ks m l s) (o : Obj) (hf : o.isFreed = false) (e : s'.heap = s.heap.push o) (e1 : s'.gens = s.gens) (e2 : s'.os = s.os) : St g base L ks m ((s.heap.objs.size, o) :: l) s' :=
 S.new (by rw [e]; exact fun b x q => Heap.get?_push_of_some _ q) (size_none _) (by rw [e]; exact Heap.get?_push_size _ hf) e1 e2
theorem St.setL (S : St g base L ks m l s) {x : Str} {v : Option Value} (U : SetAt x v m m') (hn : s'.heap.Ns L (fun y => if y = x then v else mp m y)) (hs : Heap.SameBut L s.heap s'.heap) (e1 : s'.gens = s.gens) (e2 : s'.os = s.os) : St g base L ks m' l s' := by
 refine ⟨?_, S.N.set hs, S.D, ⟨by rw [U.keys]; exact S.K.1, S.K.2⟩, e1.trans S.G, e2.trans S.O, S.W.keeps fun b hb o e => (hs.2 b fun q => S.Y (q ▸ hb)).trans e, S.Z, S.Y, S.U⟩
 rw [U.mp (by rw [S.K.1]; exact S.K.2)]
 exact S.F.set hn hs
end
theorem St.frs {g : Heap} {base : Eo} {L : Addr} {ks : List Str} {m : Loc} {l : Led} {s : Shared} (S : St g base L ks m l s) : ∃ fs : Led, News g L s.heap fs ∧ (∀ b ∈ fro base.fr, ∃ o, (b, o) ∈ fs) ∧ ∀ p ∈ fs, p.1 ∈ fro base.fr := by
 refine i1_3 ((fro base.fr).map fun b => (b, (s.heap.get? b).getD default)) (fun p hp => ?_) (fun b hb => ⟨_, List.mem_map_of_mem hb⟩) (fun p hp => ?_)
 ·(refine e1_2 (List.mem_map.mp hp) ?_; rintro b hb rfl)
  obtain ⟨hn, o, ho⟩ := S.U b hb
  (refine e1_1 (S.W b hb o ho) ?_; intro sl h2)
  refine ⟨by show s.heap.get? b = some _; rw [h2]; rfl, fun e => S.Y (e ▸ hb), hn⟩
 ·(refine e1_2 (List.mem_map.mp hp) ?_; rintro b hb rfl)
  exact hb
theorem St.back {g : Heap} {base : Eo} {L : Addr} {ks : List Str} {m m' : Loc} {l l' fs : Led} {s s' : Shared} (S : St g base L ks m l s) (f1 : News g L s.heap fs) (f2 : ∀ b ∈ fro base.fr, ∃ o, (b, o) ∈ fs)
  (F' : Fr g L s'.heap (mp m')) (N' : News g L s'.heap (l' ++ fs)) (D' : (l'.map (·.1)).Nodup) (Z' : ∀ p ∈ l', p.1 ∈ l.map (·.1) ∨ s.heap.get? p.1 = none) (K' : m'.map (·.1) = ks) (e1 : s'.gens = s.gens) (e2 : s'.os = s.os) : St g base L ks m' l' s' := by
 refine ⟨F', fun p hp => N' p (List.mem_append_left _ hp), D', ⟨K', S.K.2⟩, e1.trans S.G, e2.trans S.O, S.W.keeps fun b hb o e => ?_, fun p hp hb => ?_, S.Y, S.U⟩
 ·(refine e1_1 (f2 b hb) ?_; intro o' ho')
  have h1 := (f1 _ ho').1
  have h2 := (N' _ (List.mem_append_right _ ho')).1
  rw [e] at h1; cases h1; exact h2
 ·rcases Z' p hp with q | q
  ·(refine e1_2 (List.mem_map.mp q) ?_; intro p' hp' e')
   exact S.Z p' hp' (e' ▸ hb)
  ·obtain ⟨_, o1, h1⟩ := S.U _ hb
   (refine e1_1 (S.W _ hb _ h1) ?_; intro sl h2)
   rw [q] at h2; cases h2
noncomputable def gtab : List (Str × Value × Bool) := [
 (Str.ofString "S_IMODE", Value.ref 28, false),
 (Str.ofString "S_IFMT", Value.ref 35, false),
 (Str.ofString "S_IFDIR", Value.int 16384 210, false),
 (Str.ofString "S_ISDIR", Value.ref 42, false),
 (Str.ofString "_filemode_table", Value.ref 75, false),
 (Str.ofString "filemode", Value.ref 82, false),
 (Str.ofString "read_uint1", Value.ref 89, false),
 (Str.ofString "read_string1", Value.ref 96, false),
 (Str.ofString "read_bytes1", Value.ref 103, false),
 (Str.ofString "_Example", Value.ref 120, false),
 (Str.ofString "_NODE_OUT", Value.int (-1) 353, false),
 (Str.ofString "_NODE_DONE", Value.int (-2) 356, false),
 (Str.ofString "_NodeInfo", Value.ref 143, false),
 (Str.ofString "CycleError", Value.ref 158, false),
 (Str.ofString "TopologicalSorter", Value.ref 240, false),
 (Str.ofString "_law_stream", Value.ref 251, false),
 (Str.ofString "_law_drawn", Value.ref 258, false),
 (Str.ofString "_law_tape", Value.ref 265, false),
 (Str.ofString "_law_things", Value.ref 272, false),
 (Str.ofString "_law_record", Value.ref 279, false),
 (Str.ofString "_law_records", Value.ref 286, false),
 (Str.ofString "_law_sorter", Value.ref 293, false),
 (Str.ofString "_law_made", Value.ref 298, false),
 (Str.ofString "_law_row", Value.ref 305, false),
 (Str.ofString "_law_ups", Value.ref 312, false),
 (Str.ofString "_law_due", Value.ref 317, false),
 (Str.ofString "_law_told_right", Value.ref 322, false),
 (Str.ofString "_law_refused", Value.ref 329, false),
 (Str.ofString "_law_end_right", Value.ref 334, false),
 (Str.ofString "len", Value.builtin "len", true),
 (Str.ofString "sum", Value.builtin "sum", true),
 (Str.ofString "max", Value.builtin "max", true),
 (Str.ofString "range", Value.type "range", true),
 (Str.ofString "bytes", Value.type "bytes", true),
 (Str.ofString "ValueError", Value.type "ValueError", true),
 (Str.ofString "isinstance", Value.builtin "isinstance", true),
 (Str.ofString "StopIteration", Value.type "StopIteration", true),
 (Str.ofString "tuple", Value.type "tuple", true),
 (Str.ofString "bool", Value.type "bool", true),
 (Str.ofString "set", Value.type "set", true),
 (Str.ofString "iter", Value.builtin "iter", true),
 (Str.ofString "enumerate", Value.type "enumerate", true),
 (Str.ofString "sorted", Value.builtin "sorted", true),
 (Str.ofString "ord", Value.builtin "ord", true),
 (Str.ofString "list", Value.type "list", true)]
noncomputable def gOk (P : Params) (p : Str × Value × Bool) : Bool :=
 if p.2.2 then nsIn (KF P) mainGlobals p.1 == some none && (bootBuiltins p.1 == some p.2.1 && p.1 != "__name__") else nsIn (KF P) mainGlobals p.1 == some (some p.2.1)
theorem gtab_ok (P : Params) : (gtab.all (gOk P)) = true := by kernel_rfl
structure Fi where
 f : Addr
 fn : FnRec
 q : Str
 dV : Value
 pm : Value
 c : Addr
 ks : List Str
 gt : List (Str × Value)
noncomputable def fnOk (i : Fi) : Bool :=
 i.fn.scope.kind == .function && (!i.fn.scope.isGenerator && (!i.fn.scope.isCoroutine && (i.ks.all (fun x => i.fn.scope.names.lookup x == some .local && x != "__debug__") && (decide i.ks.Nodup &&
  (i.gt.all (fun p => i.fn.scope.names.lookup p.1 == some .globalImplicit && (p.1 != "__debug__" && gtab.any fun r => r.1 == p.1 && r.2.1 == p.2)))))))
noncomputable def noCell (i : Fi) : Bool := i.fn.scope.names.all fun x => x.2 != .cell
structure FiOk (i : Fi) : Prop where
 at_ : ∀ P, (KF P).lookup i.f = some (fnO i.fn i.q i.dV i.pm i.c)
 cd : ∀ P, codeIn (KF P) (.ref i.c) i.q = true
 ok : fnOk i = true
structure Vw (w : World) (A : Around) (base : Eo) (outer : List Env) (n : Nat) (g : Heap) (L : Addr) (env : Env) (ks : List Str) (gt : List (Str × Value)) (cs : List (Str × Addr)) (B : Around) (hz : Bool) : Prop where
 C : Cx w A base outer g (n + 1)
 md : hz = true → (B = A.deeper env ∧ env.frame = some L) ∨ B = A
 lo : env.locals = L
 gl : env.globals = mainGlobals
 bl : env.builtins = builtinsNs
 kd : env.scope.kind = .function
 lc : ∀ x ∈ ks, env.kindOf x = some .local ∧ (x == ("__debug__" : Str)) = false
 gc : ∀ p ∈ gt, env.kindOf p.1 = some .globalImplicit ∧ (p.1 == ("__debug__" : Str)) = false ∧ ∃ b, gOk w.params (p.1, p.2, b) = true
 cc : ∀ p ∈ cs, (env.kindOf p.1 = some .cell ∨ env.kindOf p.1 = some .free) ∧ env.cells.lookup p.1 = some p.2 ∧ (p.1 == ("__debug__" : Str)) = false ∧ (p.1 == ("__classdict__" : Str)) = false
theorem gt_ok (P : Params) {sc : Scope} {gt : List (Str × Value)} (h : gt.all (fun p => sc.names.lookup p.1 == some .globalImplicit && (p.1 != "__debug__" && gtab.any fun r => r.1 == p.1 && r.2.1 == p.2)) = true) :
  ∀ p ∈ gt, sc.names.lookup p.1 = some .globalImplicit ∧ (p.1 == ("__debug__" : Str)) = false ∧ ∃ b, gOk P (p.1, p.2, b) = true := by
 simp only [Bool.and_eq_true, List.all_eq_true, beq_iff_eq, bne_iff_ne, List.any_eq_true] at h
 intro p hp
 (refine hideG ?_; intro P0 hP0; obtain ⟨a, b, r, hr, e1, e2⟩ := h p hp; refine hP0 ?_; clear hP0 P0)
 refine ⟨a, by simpa using b, r.2.2, ?_⟩
 have := List.all_eq_true.mp (gtab_ok P) r hr
 rw [← e1, ← e2]; exact this
theorem Vw.of {w : World} {A : Around} {base : Eo} {outer : List Env} {n : Nat} {g : Heap} {L : Addr} {i : Fi} {env : Env} {cs : List (Str × Addr)} (C : Cx w A base outer g (n + 1)) (ok : fnOk i = true) (hs : env.scope = i.fn.scope) (fr : env.frame = some L) (lo : env.locals = L) (gl : env.globals = mainGlobals) (bl : env.builtins = builtinsNs)
  (cc : ∀ p ∈ cs, (env.kindOf p.1 = some .cell ∨ env.kindOf p.1 = some .free) ∧ env.cells.lookup p.1 = some p.2 ∧ (p.1 == ("__debug__" : Str)) = false ∧ (p.1 == ("__classdict__" : Str)) = false) :
  Vw w A base outer n g L env i.ks i.gt cs (A.deeper env) true := by
 unfold fnOk at ok
 rw [Bool.and_eq_true, Bool.and_eq_true, Bool.and_eq_true, Bool.and_eq_true, Bool.and_eq_true] at ok
 (refine e0_6 ok ?_; clear ok; intro k1 k2 k3 k4 k5 k6)
 have G := gt_ok w.params k6
 simp only [Bool.and_eq_true, List.all_eq_true, beq_iff_eq, bne_iff_ne] at k1 k4
 refine ⟨C, fun _ => .inl ⟨rfl, fr⟩, lo, gl, bl, by rw [hs]; exact k1, fun x hx => ⟨by unfold Env.kindOf; rw [hs]; exact (k4 x hx).1, by simpa using (k4 x hx).2⟩, fun p hp => ?_, cc⟩
 (refine e0_2 (G p hp) ?_; intro a b)
 exact ⟨by unfold Env.kindOf; rw [hs]; exact a, b⟩
theorem Vw.hz {w : World} {A : Around} {base : Eo} {outer : List Env} {n : Nat} {g : Heap} {L : Addr} {env : Env} {ks : List Str} {gt : List (Str × Value)} {cs : List (Str × Addr)} {B : Around} {hz : Bool} (V : Vw w A base outer n g L env ks gt cs B hz) (h : hz = true) : B.handled = none := by
 rcases V.md h with ⟨rfl, _⟩ | rfl
 ·exact V.C.hh
 ·exact V.C.hh
noncomputable def unb (b : List (Str × Value)) (r : List Str) : Loc := b.map (fun p => (p.1, some p.2)) ++ r.map fun x => (x, none)
theorem mp_unb_none (r : List Str) (y : Str) : mp (r.map fun x => (x, none)) y = none := by
 unfold mp
 induction r with
 | nil => rfl
 | cons a r ih =>
  rw [List.map_cons, List.lookup_cons]
  cases (y == a) with
  | true => rfl
  | false => exact ih
theorem mp_unb {b : List (Str × Value)} {r : List Str} (hn : (b.map (·.1)).Nodup) : mp (unb b r) = fun y => b.reverse.lookup y := by
 funext y
 have q : b.reverse.lookup y = b.lookup y := by
  induction b with
  | nil => rfl
  | cons p b ih =>
   rw [List.map_cons, List.nodup_cons] at hn
   obtain ⟨x, v⟩ := p
   rw [List.reverse_cons, List.lookup_append, ih hn.2, List.lookup_cons]
   by_cases e : y = x
   ·subst e
    have : b.lookup y = none := by
     cases h : b.lookup y with
     | none => rfl
     | some v' =>
      (refine e2_2 (List.lookup_eq_some_iff.mp h) ?_; intro l₁ l₂ e _)
      exact absurd (by rw [e]; simp) hn.1
    simp [this]
   ·have : (y == x) = false := by simpa using e
    cases h : b.lookup y <;> simp [this, List.lookup, h]
 rw [q]
 unfold unb
 clear q hn
 induction b with
 | nil => exact mp_unb_none r y
 | cons p b ih =>
  obtain ⟨x, v⟩ := p
  unfold mp at ih ⊢
  rw [List.map_cons, List.cons_append, List.lookup_cons, List.lookup_cons]
  cases (y == x) with
  | true => rfl
  | false => exact ih
theorem binds_pure {s : Shared} {fd : FuncData} {args : Args} {b : List (Str × Value)} (h : bindArgs fd args = pure b) : BindsTo s fd args b := fun M A E Q q => by rw [h]; exact wpAny_pure q
theorem fro_lt {h g : Heap} {l : List Env} (hf : h.FunFrames g l) {b : Addr} (hb : b ∈ fro l) : b < h.objs.size := by
 (refine hideG ?_; intro P0 hP0; obtain ⟨_, o, ho, _⟩ := hf.mem hb; refine hP0 ?_; clear hP0 P0)
 exact Heap.lt_size ho
theorem enter {w : World} {A : Around} {outer : List Env} {g : Heap} {n : Nat} {s : Shared} {P : Led} {R : Result → Shared → Prop} (i : Fi) {args : Args} (binds : List (Str × Value)) (r : List Str)
  (C : Cx w A ⟨s.os, outer, s.heap⟩ outer g (n + 1)) (H : Hp g s.heap P) (hz : ∀ p ∈ P, p.1 ∉ fro outer) (hg : s.gens = #[]) (I : FiOk i) (hcell : noCell i = true)
  (hbind : bindArgs (fdX i.fn i.q [] i.dV i.pm i.c .none) args = pure binds) (hks : binds.map (·.1) ++ r = i.ks)
  (h : ∀ L env s', env = envX i.q i.fn.scope L i.f (.ref i.c) [] → Vw w A ⟨s.os, outer, s.heap⟩ outer n g L env i.ks i.gt [] (A.deeper env) true → St g ⟨s.os, outer, s.heap⟩ L i.ks (unb binds r) P s' → wpAny (M w) (A.deeper env) (execs i.fn.body env)
    (fun fl s' => R (.ok (.ret (match fl with | .ret v => v | _ => .none))) s')
    (fun e s' => wpAny (M w) (A.deeper env) (leaving env e) (fun _ s'' => R (.error e) s'') (fun e' s'' => R (.error e') s'') s') s') :
  codeAny (M w) A (.call (.ref i.f) args) R s := by
 (refine e2_1 C.T ?_; intro mg mb T)
 have X : (KF w.params).In s.heap := C.X.keeps H.keep
 have ok := I.ok
 unfold fnOk at ok
 simp only [Bool.and_eq_true, List.all_eq_true, beq_iff_eq, bne_iff_ne, Bool.not_eq_true', decide_eq_true_eq] at ok
 (refine e0_6 ok ?_; clear ok; intro k1 k2 k3 k4 k5 _)
 have hn : (binds.map (·.1)).Nodup := by rw [← hks] at k5; exact (List.nodup_append.mp k5).1
 have hc : ∀ x ∈ i.fn.scope.names, x.2 ≠ .cell := by
  unfold noCell at hcell
  simpa only [List.all_eq_true, bne_iff_ne] using hcell
 refine codeAny_call_def (fd := fdX i.fn i.q [] i.dV i.pm i.c .none) (body := i.fn.body) (binds := binds) (by have := C.dep; lia) (X _ _ (I.at_ _)) rfl (T.nolimit.keeps H.keep) (codeRec_of X (I.cd _)) rfl (binds_pure hbind) hc (fun y hy => (k4 y.1 (by rw [← hks]; exact List.mem_append_left _ (List.mem_map_of_mem hy))).1) (fun h₁ hns hk₁ => ?_) k3 k2 k1
 have hkeys : (unb binds r).map (·.1) = i.ks := by
  rw [← hks]
  simp [unb, Function.comp_def]
 exact h _ _ _ rfl (Vw.of C I.ok rfl rfl rfl rfl rfl fun _ h => nomatch h) ⟨⟨mp_unb hn ▸ hns, fun b o e => hk₁ _ _ (H.keep b o e), H.sz⟩, fun p hp => ⟨hk₁ _ _ (H.nw p hp).1, Nat.ne_of_lt (Heap.lt_size (H.nw p hp).1), (H.nw p hp).2⟩, H.nd, ⟨hkeys, k5⟩, hg, rfl,
  fun b _ o e => ⟨o.slots, hk₁ b o e⟩, hz, fun hm => absurd (fro_lt C.ff hm) (Nat.lt_irrefl _), fun b hb => by obtain ⟨hn, o, ho, _⟩ := C.ff.mem hb; exact ⟨hn, o, ho⟩⟩
theorem callsX {w : World} {A : Around} {base : Eo} {outer : List Env} {g : Heap} {n : Nat} {L : Addr} {ks : List Str} {m : Loc} {l P R : Led} {s : Shared} {env : Env} {c : Code} {Φ : Value → Led → Prop} {W : Heap → Value → Shared → Prop} {Q : Value → Shared → Prop} {E : Value → Shared → Prop}
  (C : Cx w A base outer g (n + 1)) (S : St g base L ks m l s) (hf : env.frame = some L) (hke : env.scope.kind = .function) (hE : Ex l P R)
  (spec : ∀ g', Cx w (A.deeper env) ⟨s.os, env :: outer, s.heap⟩ (env :: outer) g' n → Hp g' s.heap P → (∀ p ∈ P, p.1 ∉ fro (env :: outer)) → s.gens = #[] → (∀ p ∈ R, g'.get? p.1 = some p.2) → g.StaysIn g' → codeAny (M w) (A.deeper env) c (fun r s' => Meets g' ⟨s.os, env :: outer, s.heap⟩ Φ r s' ∨ ∃ e, r = .error e ∧ W g' e s') s)
  (x : ∀ g' e s', g.StaysIn g' → (∀ p ∈ R, g'.get? p.1 = some p.2) → W g' e s' → E e s')
  (k : ∀ v l' s', Φ v l' → St g base L ks m (l' ++ R) s' → Q v s') : wpAny (M w) (A.deeper env) (runValue c) Q E s := by
 have S' := S.perm hE.perm
 have hfr := C.fr
 have froe : fro (env :: outer) = L :: fro outer := by unfold fro; rw [List.filterMap_cons, hf]
 have ngf : ∀ b o, g.get? b = some o → b ∉ fro (env :: outer) := fun b o e q => by
  rw [froe] at q
  rcases List.mem_cons.mp q with rfl | q
  ·exact absurd (Nat.lt_of_lt_of_le (Heap.lt_size e) S.F.above) (Nat.lt_irrefl _)
  ·rw [(C.ff.mem q).1] at e; cases e
 have nl : ∀ b o, g.get? b = some o → b ∉ P.map (·.1) ++ fro (env :: outer) := fun b o e q => by
  rcases List.mem_append.mp q with q | q
  ·(refine e1_2 (List.mem_map.mp q) ?_; rintro p hp rfl)
   rw [(S'.N p (List.mem_append_left _ hp)).2.2] at e; cases e
  ·exact ngf b o e q
 have st : g.StaysIn (hideAll s.heap (P.map (·.1) ++ fro (env :: outer))) := fun b o e => hideAll_get _ (S.F.keep b o e) (nl b o e)
 have NP : News g L s.heap P := fun p hp => S'.N p (List.mem_append_left _ hp)
 have zf : ∀ p ∈ P ++ R, p.1 ∉ fro (env :: outer) := fun p hp q => by
  rw [froe] at q
  rcases List.mem_cons.mp q with q | q
  ·exact (S'.N p hp).2.1 q
  ·exact S'.Z p hp (hfr ▸ q)
 have dP : (P.map (·.1)).Nodup ∧ (R.map (·.1)).Nodup ∧ ∀ x ∈ P.map (·.1), ∀ y ∈ R.map (·.1), x ≠ y := by
  have := S'.D
  rw [List.map_append, List.nodup_append] at this
  exact this
 (refine e2_1 C.T ?_; intro mg mb T)
 have nowF : s.heap.FunFrames g outer := funFrames_at C.ff (hfr ▸ S.W) fun b hb => (C.ff.mem hb).1
 have ff2 : s.heap.FunFrames (hideAll s.heap (P.map (·.1) ++ fro (env :: outer))) (env :: outer) := by
  refine ⟨by rw [hke]; decide, ?_, funFrames_at nowF (FrK.refl _ _) fun b hb => hideAll_none _ (List.mem_append_right _ (by rw [froe]; exact .tail _ hb))⟩
  (refine e3_3 S.F.ns ?_; intro oL es ep hL hd _)
  exact i2_4 L oL hf (hideAll_none _ (List.mem_append_right _ (by rw [froe]; exact .head _))) hL (fun vs q => by rw [hd] at q; cases q)
 have RR : ∀ p ∈ R, (hideAll s.heap (P.map (fun p : Addr × Obj => p.1) ++ fro (env :: outer))).get? p.1 = some p.2 := fun p hp => hideAll_get _ (S'.N p (List.mem_append_right _ hp)).1 fun q => by
  rcases List.mem_append.mp q with q | q
  ·exact dP.2.2 _ q _ (List.mem_map_of_mem hp) rfl
  ·exact zf p (List.mem_append_right _ hp) q
 have := spec (hideAll s.heap (P.map (fun p : Addr × Obj => p.1) ++ fro (env :: outer))) ⟨Around.frames_deeper C.stk, rfl, ff2, C.X.keeps st, ⟨mg, mb, T.keeps st⟩, by have := C.dep; show A.depth + 1 + n < _; lia, by have := C.uni; show A.units + 3 + 8 * n < _; lia, C.hh⟩
  ⟨fun b o e => of_hideAll _ e, fun p hp => ⟨(NP p hp).1, hideAll_none _ (List.mem_append_left _ (List.mem_map_of_mem hp))⟩, dP.1, Nat.le_of_eq (hideAll_size _ _)⟩ (fun p hp => zf p (List.mem_append_left _ hp)) S.G
 refine wpAny_runValue (codeAny_mono (this RR st) ?_)
 rintro r s' (⟨v, l', rfl, H', hg', ho', hw', hz', hφ⟩ | ⟨e, rfl, hW⟩)
 case inr => exact x _ e s' st RR hW
 refine k v l' s' hφ ?_
 (refine e3_3 S.F.ns ?_; intro oL es ep hL hd r)
 obtain ⟨sl, hL'⟩ := hw' L (by show L ∈ fro (env :: outer); rw [froe]; exact .head _) oL hL
 have sub : ∀ b ∈ fro outer, b ∈ fro (env :: outer) := fun b hb => by rw [froe]; exact .tail _ hb
 refine ⟨⟨⟨_, es, ep, hL', hd, r⟩, fun b o e => H'.keep _ _ (st b o e), S.F.above⟩, fun p hp => ?_, ?_, S.K, hg', ho'.trans S.O, S.W.trans fun b hb o e => hw' b (sub b (hfr ▸ hb)) o e, fun p hp => ?_, S.Y, S.U⟩
 ·rcases List.mem_append.mp hp with hp | hp
  ·refine ⟨(H'.nw p hp).1, fun e => hz' p hp (by show p.1 ∈ fro (env :: outer); rw [froe, e]; exact .head _), ?_⟩
   cases q : g.get? p.1 with
   | none => rfl
   | some o => have := (H'.nw p hp).2; rw [st _ _ q] at this; cases this
  ·exact ⟨H'.keep _ _ (RR p hp), (S'.N p (List.mem_append_right _ hp)).2⟩
 ·rw [List.map_append, List.nodup_append]
  refine ⟨H'.nd, dP.2.1, fun x hx y hy e => ?_⟩
  (refine e1_2 (List.mem_map.mp hx) ?_; rintro p hp rfl)
  (refine e1_2 (List.mem_map.mp hy) ?_; rintro r' hr rfl)
  have := (H'.nw p hp).2
  rw [e, RR r' hr] at this; cases this
 ·rcases List.mem_append.mp hp with hp | hp
  ·exact fun q => hz' p hp (sub _ (hfr ▸ q))
  ·exact S'.Z p (List.mem_append_right _ hp)
theorem into_cm {w : World} {A : Around} {base : Eo} {outer : List Env} {g : Heap} {n : Nat} {L : Addr} {ks : List Str} {m : Loc} {l P R : Led} {s : Shared} (C : Cx w A base outer g (n + 1)) (S : St g base L ks m l s) (hE : Ex l P R) :
  ∃ g', Cx w A ⟨s.os, outer, s.heap⟩ outer g' n ∧ Hp g' s.heap P ∧ (∀ p ∈ P, p.1 ∉ fro outer) ∧ (∀ p ∈ R, g'.get? p.1 = some p.2) ∧ g.StaysIn g' ∧ (g'.objs.size = s.heap.objs.size) ∧
   ∀ l' s', Hp g' s'.heap l' → s'.gens = #[] → s'.os = s.os → FrK outer s.heap s'.heap → (∀ p ∈ l', p.1 ∉ fro outer) → St g base L ks m (l' ++ R) s' := by
 have S' := S.perm hE.perm
 have hfr := C.fr
 have nl : ∀ b o, g.get? b = some o → b ∉ P.map (·.1) ++ fro outer := fun b o e q => by
  rcases List.mem_append.mp q with q | q
  ·(refine e1_2 (List.mem_map.mp q) ?_; rintro p hp rfl)
   rw [(S'.N p (List.mem_append_left _ hp)).2.2] at e; cases e
  ·rw [(C.ff.mem q).1] at e; cases e
 have st : g.StaysIn (hideAll s.heap (P.map (·.1) ++ fro outer)) := fun b o e => hideAll_get _ (S.F.keep b o e) (nl b o e)
 have NP : News g L s.heap P := fun p hp => S'.N p (List.mem_append_left _ hp)
 have zf : ∀ p ∈ P ++ R, p.1 ∉ fro outer := fun p hp q => S'.Z p hp (hfr ▸ q)
 have dP : (P.map (·.1)).Nodup ∧ (R.map (·.1)).Nodup ∧ ∀ x ∈ P.map (·.1), ∀ y ∈ R.map (·.1), x ≠ y := by
  have := S'.D
  rw [List.map_append, List.nodup_append] at this
  exact this
 (refine e2_1 C.T ?_; intro mg mb T)
 have nowF : s.heap.FunFrames g outer := funFrames_at C.ff (hfr ▸ S.W) fun b hb => (C.ff.mem hb).1
 have RR : ∀ p ∈ R, (hideAll s.heap (P.map (fun p : Addr × Obj => p.1) ++ fro outer)).get? p.1 = some p.2 := fun p hp => hideAll_get _ (S'.N p (List.mem_append_right _ hp)).1 fun q => by
  rcases List.mem_append.mp q with q | q
  ·exact dP.2.2 _ q _ (List.mem_map_of_mem hp) rfl
  ·exact zf p (List.mem_append_right _ hp) q
 have nL : L ∉ P.map (fun p : Addr × Obj => p.1) ++ fro outer := fun q => by
  rcases List.mem_append.mp q with q | q
  ·(refine e1_2 (List.mem_map.mp q) ?_; intro p hp e)
   exact (NP p hp).2.1 e
  ·exact S.Y (hfr ▸ q)
 refine ⟨hideAll s.heap (P.map (fun p : Addr × Obj => p.1) ++ fro outer), ⟨C.stk, rfl, funFrames_at nowF (FrK.refl _ _) fun b hb => hideAll_none _ (List.mem_append_right _ hb), C.X.keeps st, ⟨mg, mb, T.keeps st⟩, by have := C.dep; lia, by have := C.uni; lia, C.hh⟩,
  ⟨fun b o e => of_hideAll _ e, fun p hp => ⟨(NP p hp).1, hideAll_none _ (List.mem_append_left _ (List.mem_map_of_mem hp))⟩, dP.1, Nat.le_of_eq (hideAll_size _ _)⟩, fun p hp => zf p (List.mem_append_left _ hp), RR, st, hideAll_size _ _, ?_⟩
 intro l' s' H' hg' ho' hw' hz'
 (refine e3_3 S.F.ns ?_; intro oL es ep hL hd r)
 refine ⟨⟨⟨_, es, ep, H'.keep _ _ (hideAll_get _ hL nL), hd, r⟩, fun b o e => H'.keep _ _ (st b o e), S.F.above⟩, fun p hp => ?_, ?_, S.K, hg', ho'.trans S.O, S.W.trans fun b hb o e => hw' b (hfr ▸ hb) o e, fun p hp => ?_, S.Y, S.U⟩
 ·rcases List.mem_append.mp hp with hp | hp
  ·refine ⟨(H'.nw p hp).1, fun e => ?_, ?_⟩
   ·have := (H'.nw p hp).2; rw [e, hideAll_get _ hL nL] at this; cases this
   ·cases q : g.get? p.1 with
    | none => rfl
    | some o => have := (H'.nw p hp).2; rw [st _ _ q] at this; cases this
  ·exact ⟨H'.keep _ _ (RR p hp), (S'.N p (List.mem_append_right _ hp)).2⟩
 ·rw [List.map_append, List.nodup_append]
  refine ⟨H'.nd, dP.2.1, fun x hx y hy e => ?_⟩
  (refine e1_2 (List.mem_map.mp hx) ?_; rintro p hp rfl)
  (refine e1_2 (List.mem_map.mp hy) ?_; rintro r' hr rfl)
  have := (H'.nw p hp).2
  rw [e, RR r' hr] at this; cases this
 ·rcases List.mem_append.mp hp with hp | hp
  ·exact fun q => hz' p hp (hfr ▸ q)
  ·exact S'.Z p (List.mem_append_right _ hp)
theorem into_fn {w : World} {A : Around} {base : Eo} {outer : List Env} {g : Heap} {n : Nat} {L : Addr} {ks : List Str} {m : Loc} {l P R : Led} {s : Shared} {env : Env} (C : Cx w A base outer g (n + 1)) (S : St g base L ks m l s) (hf : env.frame = some L) (hke : env.scope.kind = .function) (hE : Ex l P R) :
  ∃ g', Cx w (A.deeper env) ⟨s.os, env :: outer, s.heap⟩ (env :: outer) g' n ∧ Hp g' s.heap P ∧ (∀ p ∈ P, p.1 ∉ fro (env :: outer)) ∧ (∀ p ∈ R, g'.get? p.1 = some p.2) ∧ g.StaysIn g' ∧ (g'.objs.size = s.heap.objs.size) ∧
   ∀ l' s', Hp g' s'.heap l' → s'.gens = #[] → s'.os = s.os → FrK (env :: outer) s.heap s'.heap → (∀ p ∈ l', p.1 ∉ fro (env :: outer)) → St g base L ks m (l' ++ R) s' := by
 have S' := S.perm hE.perm
 have hfr := C.fr
 have froe : fro (env :: outer) = L :: fro outer := by unfold fro; rw [List.filterMap_cons, hf]
 have ngf : ∀ b o, g.get? b = some o → b ∉ fro (env :: outer) := fun b o e q => by
  rw [froe] at q
  rcases List.mem_cons.mp q with rfl | q
  ·exact absurd (Nat.lt_of_lt_of_le (Heap.lt_size e) S.F.above) (Nat.lt_irrefl _)
  ·rw [(C.ff.mem q).1] at e; cases e
 have nl : ∀ b o, g.get? b = some o → b ∉ P.map (·.1) ++ fro (env :: outer) := fun b o e q => by
  rcases List.mem_append.mp q with q | q
  ·(refine e1_2 (List.mem_map.mp q) ?_; rintro p hp rfl)
   rw [(S'.N p (List.mem_append_left _ hp)).2.2] at e; cases e
  ·exact ngf b o e q
 have st : g.StaysIn (hideAll s.heap (P.map (·.1) ++ fro (env :: outer))) := fun b o e => hideAll_get _ (S.F.keep b o e) (nl b o e)
 have NP : News g L s.heap P := fun p hp => S'.N p (List.mem_append_left _ hp)
 have zf : ∀ p ∈ P ++ R, p.1 ∉ fro (env :: outer) := fun p hp q => by
  rw [froe] at q
  rcases List.mem_cons.mp q with q | q
  ·exact (S'.N p hp).2.1 q
  ·exact S'.Z p hp (hfr ▸ q)
 have dP : (P.map (·.1)).Nodup ∧ (R.map (·.1)).Nodup ∧ ∀ x ∈ P.map (·.1), ∀ y ∈ R.map (·.1), x ≠ y := by
  have := S'.D
  rw [List.map_append, List.nodup_append] at this
  exact this
 (refine e2_1 C.T ?_; intro mg mb T)
 have nowF : s.heap.FunFrames g outer := funFrames_at C.ff (hfr ▸ S.W) fun b hb => (C.ff.mem hb).1
 have ff2 : s.heap.FunFrames (hideAll s.heap (P.map (·.1) ++ fro (env :: outer))) (env :: outer) := by
  refine ⟨by rw [hke]; decide, ?_, funFrames_at nowF (FrK.refl _ _) fun b hb => hideAll_none _ (List.mem_append_right _ (by rw [froe]; exact .tail _ hb))⟩
  (refine e3_3 S.F.ns ?_; intro oL es ep hL hd _)
  exact i2_4 L oL hf (hideAll_none _ (List.mem_append_right _ (by rw [froe]; exact .head _))) hL (fun vs q => by rw [hd] at q; cases q)
 have RR : ∀ p ∈ R, (hideAll s.heap (P.map (fun p : Addr × Obj => p.1) ++ fro (env :: outer))).get? p.1 = some p.2 := fun p hp => hideAll_get _ (S'.N p (List.mem_append_right _ hp)).1 fun q => by
  rcases List.mem_append.mp q with q | q
  ·exact dP.2.2 _ q _ (List.mem_map_of_mem hp) rfl
  ·exact zf p (List.mem_append_right _ hp) q
 refine ⟨hideAll s.heap (P.map (fun p : Addr × Obj => p.1) ++ fro (env :: outer)), ⟨Around.frames_deeper C.stk, rfl, ff2, C.X.keeps st, ⟨mg, mb, T.keeps st⟩, by have := C.dep; show A.depth + 1 + n < _; lia, by have := C.uni; show A.units + 3 + 8 * n < _; lia, C.hh⟩,
  ⟨fun b o e => of_hideAll _ e, fun p hp => ⟨(NP p hp).1, hideAll_none _ (List.mem_append_left _ (List.mem_map_of_mem hp))⟩, dP.1, Nat.le_of_eq (hideAll_size _ _)⟩, fun p hp => zf p (List.mem_append_left _ hp), RR, st, hideAll_size _ _, ?_⟩
 intro l' s' H' hg' ho' hw' hz'
 (refine e3_3 S.F.ns ?_; intro oL es ep hL hd r)
 obtain ⟨sl, hL'⟩ := hw' L (by rw [froe]; exact .head _) oL hL
 have sub : ∀ b ∈ fro outer, b ∈ fro (env :: outer) := fun b hb => by rw [froe]; exact .tail _ hb
 refine ⟨⟨⟨_, es, ep, hL', hd, r⟩, fun b o e => H'.keep _ _ (st b o e), S.F.above⟩, fun p hp => ?_, ?_, S.K, hg', ho'.trans S.O, S.W.trans fun b hb o e => hw' b (sub b (hfr ▸ hb)) o e, fun p hp => ?_, S.Y, S.U⟩
 ·rcases List.mem_append.mp hp with hp | hp
  ·refine ⟨(H'.nw p hp).1, fun e => hz' p hp (by rw [froe, e]; exact .head _), ?_⟩
   cases q : g.get? p.1 with
   | none => rfl
   | some o => have := (H'.nw p hp).2; rw [st _ _ q] at this; cases this
  ·exact ⟨H'.keep _ _ (RR p hp), (S'.N p (List.mem_append_right _ hp)).2⟩
 ·rw [List.map_append, List.nodup_append]
  refine ⟨H'.nd, dP.2.1, fun x hx y hy e => ?_⟩
  (refine e1_2 (List.mem_map.mp hx) ?_; rintro p hp rfl)
  (refine e1_2 (List.mem_map.mp hy) ?_; rintro r' hr rfl)
  have := (H'.nw p hp).2
  rw [e, RR r' hr] at this; cases this
 ·rcases List.mem_append.mp hp with hp | hp
  ·exact fun q => hz' p hp (sub _ (hfr ▸ q))
  ·exact S'.Z p (List.mem_append_right _ hp)
section
variable {w : World} {A : Around} {base : Eo} {outer : List Env} {g : Heap} {n : Nat} {L : Addr} {env : Env} {ks : List Str} {gt : List (Str × Value)} {cs : List (Str × Addr)} {B : Around} {hz : Bool} {m : Loc} {l P R : Led} {s : Shared}
theorem Vw.into (V : Vw w A base outer n g L env ks gt cs B hz) (h : hz = true) (S : St g base L ks m l s) (hE : Ex l P R) :
  ∃ frs g', Cx w B ⟨s.os, frs, s.heap⟩ frs g' n ∧ Hp g' s.heap P ∧ (∀ p ∈ P, p.1 ∉ fro frs) ∧ (∀ p ∈ R, g'.get? p.1 = some p.2) ∧ g.StaysIn g' ∧ (g'.objs.size = s.heap.objs.size) ∧
   ∀ l' s', Hp g' s'.heap l' → s'.gens = #[] → s'.os = s.os → FrK frs s.heap s'.heap → (∀ p ∈ l', p.1 ∉ fro frs) → St g base L ks m (l' ++ R) s' := by
 rcases V.md h with ⟨rfl, hf⟩ | rfl
 ·exact ⟨_, into_fn V.C S hf V.kd hE⟩
 ·exact ⟨_, into_cm V.C S hE⟩
theorem Vw.calls (V : Vw w A base outer n g L env ks gt cs B hz) (h : hz = true) (S : St g base L ks m l s) {c : Code} {Φ : Value → Led → Prop} {Q : Value → Shared → Prop} {E : Value → Shared → Prop} (hE : Ex l P R)
  (spec : ∀ frs g', Cx w B ⟨s.os, frs, s.heap⟩ frs g' n → Hp g' s.heap P → (∀ p ∈ P, p.1 ∉ fro frs) → s.gens = #[] → (∀ p ∈ R, g'.get? p.1 = some p.2) → g.StaysIn g' → codeAny (M w) B c (Meets g' ⟨s.os, frs, s.heap⟩ Φ) s)
  (k : ∀ v l' s', Φ v l' → St g base L ks m (l' ++ R) s' → Q v s') : wpAny (M w) B (runValue c) Q E s := by
 (refine e2_7 (V.into h S hE) ?_; intro frs g' C' H hz' RR st _ back)
 refine wpAny_runValue (codeAny_mono (spec frs g' C' H hz' S.G RR st) ?_)
 (rintro r s' hJq; refine hideG ?_; intro P0 hP0; obtain ⟨v, l', rfl, H', hg', ho', hw', hz2, hφ⟩ := hJq; refine hP0 ?_; clear hP0 P0)
 exact k v l' s' hφ (back l' s' H' hg' ho' hw' hz2)
end
end
section
noncomputable def fi_S_IMODE : Fi := ⟨28, fnAt 2, "S_IMODE", Value.none, Value.str "cpy313.stat" 194, 27, ["mode"], []⟩
theorem fi_S_IMODE_ok : FiOk fi_S_IMODE := ⟨fun _ => by kernel_rfl, fun _ => by kernel_rfl, by kernel_rfl⟩
noncomputable def fi_S_IFMT : Fi := ⟨35, fnAt 3, "S_IFMT", Value.none, Value.str "cpy313.stat" 194, 34, ["mode"], []⟩
theorem fi_S_IFMT_ok : FiOk fi_S_IFMT := ⟨fun _ => by kernel_rfl, fun _ => by kernel_rfl, by kernel_rfl⟩
noncomputable def fi_S_ISDIR : Fi := ⟨42, fnAt 11, "S_ISDIR", Value.none, Value.str "cpy313.stat" 194, 41, ["mode"], [("S_IFMT", Value.ref 35), ("S_IFDIR", Value.int 16384 210)]⟩
theorem fi_S_ISDIR_ok : FiOk fi_S_ISDIR := ⟨fun _ => by kernel_rfl, fun _ => by kernel_rfl, by kernel_rfl⟩
noncomputable def fi_filemode : Fi := ⟨82, fnAt 25, "filemode", Value.none, Value.str "cpy313.stat" 194, 81, ["mode", "perm", "index", "table", "bit", "char"], [("enumerate", Value.type "enumerate"), ("_filemode_table", Value.ref 75), ("S_IFMT", Value.ref 35)]⟩
theorem fi_filemode_ok : FiOk fi_filemode := ⟨fun _ => by kernel_rfl, fun _ => by kernel_rfl, by kernel_rfl⟩
noncomputable def fi_read_uint1 : Fi := ⟨89, fnAt 27, "read_uint1", Value.none, Value.str "cpy313.pickletools" 293, 88, ["f", "data"], [("ValueError", Value.type "ValueError")]⟩
theorem fi_read_uint1_ok : FiOk fi_read_uint1 := ⟨fun _ => by kernel_rfl, fun _ => by kernel_rfl, by kernel_rfl⟩
noncomputable def fi_read_string1 : Fi := ⟨96, fnAt 28, "read_string1", Value.none, Value.str "cpy313.pickletools" 293, 95, ["f", "n", "data"], [("read_uint1", Value.ref 89), ("len", Value.builtin "len"), ("ValueError", Value.type "ValueError")]⟩
theorem fi_read_string1_ok : FiOk fi_read_string1 := ⟨fun _ => by kernel_rfl, fun _ => by kernel_rfl, by kernel_rfl⟩
noncomputable def fi_read_bytes1 : Fi := ⟨103, fnAt 29, "read_bytes1", Value.none, Value.str "cpy313.pickletools" 293, 102, ["f", "n", "data"], [("read_uint1", Value.ref 89), ("len", Value.builtin "len"), ("ValueError", Value.type "ValueError")]⟩
theorem fi_read_bytes1_ok : FiOk fi_read_bytes1 := ⟨fun _ => by kernel_rfl, fun _ => by kernel_rfl, by kernel_rfl⟩
noncomputable def fi_Example___init : Fi := ⟨117, meAt 30 0, "_Example.__init__", Value.none, Value.str "cpy313.pickletools" 293, 116, ["self", "value"], []⟩
theorem fi_Example___init_ok : FiOk fi_Example___init := ⟨fun _ => by kernel_rfl, fun _ => by kernel_rfl, by kernel_rfl⟩
noncomputable def fi_NodeInfo___init : Fi := ⟨139, meAt 34 1, "_NodeInfo.__init__", Value.none, Value.str "cpy313.graphlib" 350, 138, ["self", "node"], []⟩
theorem fi_NodeInfo___init_ok : FiOk fi_NodeInfo___init := ⟨fun _ => by kernel_rfl, fun _ => by kernel_rfl, by kernel_rfl⟩
noncomputable def fi_TopologicalSorter___init : Fi := ⟨176, meAt 36 0, "TopologicalSorter.__init__", Value.ref 169, Value.str "cpy313.graphlib" 350, 175, ["self", "graph", "node", "predecessors"], []⟩
theorem fi_TopologicalSorter___init_ok : FiOk fi_TopologicalSorter___init := ⟨fun _ => by kernel_rfl, fun _ => by kernel_rfl, by kernel_rfl⟩
noncomputable def fi_TopologicalSorter__get_nodeinfo : Fi := ⟨183, meAt 36 1, "TopologicalSorter._get_nodeinfo", Value.none, Value.str "cpy313.graphlib" 350, 182, ["self", "node", "result"], [("_NodeInfo", Value.ref 143)]⟩
theorem fi_TopologicalSorter__get_nodeinfo_ok : FiOk fi_TopologicalSorter__get_nodeinfo := ⟨fun _ => by kernel_rfl, fun _ => by kernel_rfl, by kernel_rfl⟩
noncomputable def fi_TopologicalSorter_add : Fi := ⟨190, meAt 36 2, "TopologicalSorter.add", Value.none, Value.str "cpy313.graphlib" 350, 189, ["self", "node", "predecessors", "nodeinfo", "pred", "pred_info"], [("ValueError", Value.type "ValueError"), ("len", Value.builtin "len")]⟩
theorem fi_TopologicalSorter_add_ok : FiOk fi_TopologicalSorter_add := ⟨fun _ => by kernel_rfl, fun _ => by kernel_rfl, by kernel_rfl⟩
noncomputable def fi_TopologicalSorter_prepare : Fi := ⟨195, meAt 36 3, "TopologicalSorter.prepare", Value.none, Value.str "cpy313.graphlib" 350, 194, ["self", "cycle"], [("ValueError", Value.type "ValueError"), ("CycleError", Value.ref 158)]⟩
theorem fi_TopologicalSorter_prepare_ok : FiOk fi_TopologicalSorter_prepare := ⟨fun _ => by kernel_rfl, fun _ => by kernel_rfl, by kernel_rfl⟩
noncomputable def fi_TopologicalSorter_get_ready : Fi := ⟨202, meAt 36 4, "TopologicalSorter.get_ready", Value.none, Value.str "cpy313.graphlib" 350, 201, ["self", "result", "n2i", "node"], [("ValueError", Value.type "ValueError"), ("tuple", Value.type "tuple"), ("_NODE_OUT", Value.int (-1) 353), ("len", Value.builtin "len")]⟩
theorem fi_TopologicalSorter_get_ready_ok : FiOk fi_TopologicalSorter_get_ready := ⟨fun _ => by kernel_rfl, fun _ => by kernel_rfl, by kernel_rfl⟩
noncomputable def fi_TopologicalSorter_is_active : Fi := ⟨209, meAt 36 5, "TopologicalSorter.is_active", Value.none, Value.str "cpy313.graphlib" 350, 208, ["self"], [("ValueError", Value.type "ValueError"), ("bool", Value.type "bool")]⟩
theorem fi_TopologicalSorter_is_active_ok : FiOk fi_TopologicalSorter_is_active := ⟨fun _ => by kernel_rfl, fun _ => by kernel_rfl, by kernel_rfl⟩
noncomputable def fi_TopologicalSorter_done : Fi := ⟨223, meAt 36 7, "TopologicalSorter.done", Value.none, Value.str "cpy313.graphlib" 350, 222, ["self", "nodes", "n2i", "node", "nodeinfo", "stat", "successor", "successor_info"], [("ValueError", Value.type "ValueError"), ("_NODE_OUT", Value.int (-1) 353), ("_NODE_DONE", Value.int (-2) 356)]⟩
theorem fi_TopologicalSorter_done_ok : FiOk fi_TopologicalSorter_done := ⟨fun _ => by kernel_rfl, fun _ => by kernel_rfl, by kernel_rfl⟩
noncomputable def fi_TopologicalSorter__find_cycle : Fi := ⟨230, meAt 36 8, "TopologicalSorter._find_cycle", Value.none, Value.str "cpy313.graphlib" 350, 229, ["self", "n2i", "stack", "itstack", "seen", "node2stacki", "node"], [("set", Value.type "set"), ("iter", Value.builtin "iter"), ("len", Value.builtin "len"), ("StopIteration", Value.type "StopIteration")]⟩
theorem fi_TopologicalSorter__find_cycle_ok : FiOk fi_TopologicalSorter__find_cycle := ⟨fun _ => by kernel_rfl, fun _ => by kernel_rfl, by kernel_rfl⟩
noncomputable def fi_law_stream : Fi := ⟨251, fnAt 38, "_law_stream", Value.none, Value.str "law_oc0264_01" 532, 250, ["tape", "_law_read"], [("_Example", Value.ref 120)]⟩
theorem fi_law_stream_ok : FiOk fi_law_stream := ⟨fun _ => by kernel_rfl, fun _ => by kernel_rfl, by kernel_rfl⟩
noncomputable def fi_law_drawn : Fi := ⟨258, fnAt 39, "_law_drawn", Value.none, Value.str "law_oc0264_01" 532, 257, ["script", "cells", "things", "place", "cell", "lot", "rest", "above", "kind"], [("range", Value.type "range"), ("sum", Value.builtin "sum"), ("max", Value.builtin "max")]⟩
theorem fi_law_drawn_ok : FiOk fi_law_drawn := ⟨fun _ => by kernel_rfl, fun _ => by kernel_rfl, by kernel_rfl⟩
noncomputable def fi_law_tape : Fi := ⟨265, fnAt 40, "_law_tape", Value.none, Value.str "law_oc0264_01" 532, 264, ["things", "octets", "above", "team", "kind", "rights"], [("bytes", Value.type "bytes")]⟩
theorem fi_law_tape_ok : FiOk fi_law_tape := ⟨fun _ => by kernel_rfl, fun _ => by kernel_rfl, by kernel_rfl⟩
noncomputable def fi_law_things : Fi := ⟨272, fnAt 41, "_law_things", Value.none, Value.str "law_oc0264_01" 532, 271, ["octets", "tape", "given", "above", "team", "mode", "err"], [("_law_stream", Value.ref 251), ("read_uint1", Value.ref 89), ("read_bytes1", Value.ref 103), ("ValueError", Value.type "ValueError"), ("isinstance", Value.builtin "isinstance"), ("bytes", Value.type "bytes")]⟩
theorem fi_law_things_ok : FiOk fi_law_things := ⟨fun _ => by kernel_rfl, fun _ => by kernel_rfl, by kernel_rfl⟩
noncomputable def fi_law_record : Fi := ⟨279, fnAt 42, "_law_record", Value.none, Value.str "law_oc0264_01" 532, 278, ["tape", "row", "team"], [("read_string1", Value.ref 96), ("read_uint1", Value.ref 89)]⟩
theorem fi_law_record_ok : FiOk fi_law_record := ⟨fun _ => by kernel_rfl, fun _ => by kernel_rfl, by kernel_rfl⟩
noncomputable def fi_law_records : Fi := ⟨286, fnAt 43, "_law_records", Value.none, Value.str "law_oc0264_01" 532, 285, ["octets", "tape", "records", "record", "err"], [("_law_stream", Value.ref 251), ("_law_record", Value.ref 279), ("ValueError", Value.type "ValueError")]⟩
theorem fi_law_records_ok : FiOk fi_law_records := ⟨fun _ => by kernel_rfl, fun _ => by kernel_rfl, by kernel_rfl⟩
noncomputable def fi_law_sorter : Fi := ⟨293, fnAt 44, "_law_sorter", Value.none, Value.str "law_oc0264_01" 532, 292, ["parents", "sorter", "place", "err"], [("TopologicalSorter", Value.ref 240), ("range", Value.type "range"), ("CycleError", Value.ref 158)]⟩
theorem fi_law_sorter_ok : FiOk fi_law_sorter := ⟨fun _ => by kernel_rfl, fun _ => by kernel_rfl, by kernel_rfl⟩
noncomputable def fi_law_made : Fi := ⟨298, fnAt 45, "_law_made", Value.none, Value.str "law_oc0264_01" 532, 297, ["sorter", "given", "below", "total", "log", "begins", "order", "first", "waiting", "place", "above", "team", "octets", "plain", "mode", "path", "row", "team_above", "path_above", "group"], [("len", Value.builtin "len"), ("_law_record", Value.ref 279), ("_law_stream", Value.ref 251), ("S_ISDIR", Value.ref 42), ("S_IFMT", Value.ref 35), ("S_IMODE", Value.ref 28), ("filemode", Value.ref 82), ("bytes", Value.type "bytes"), ("isinstance", Value.builtin "isinstance"), ("tuple", Value.type "tuple"), ("sorted", Value.builtin "sorted")]⟩
theorem fi_law_made_ok : FiOk fi_law_made := ⟨fun _ => by kernel_rfl, fun _ => by kernel_rfl, by kernel_rfl⟩
noncomputable def fi_law_row : Fi := ⟨305, fnAt 46, "_law_row", Value.none, Value.str "law_oc0264_01" 532, 304, ["kind", "rights", "row", "turn", "digit", "last"], [("range", Value.type "range")]⟩
theorem fi_law_row_ok : FiOk fi_law_row := ⟨fun _ => by kernel_rfl, fun _ => by kernel_rfl, by kernel_rfl⟩
noncomputable def fi_law_ups : Fi := ⟨312, fnAt 47, "_law_ups", Value.none, Value.str "law_oc0264_01" 532, 311, ["place", "parents", "ups"], [("len", Value.builtin "len")]⟩
theorem fi_law_ups_ok : FiOk fi_law_ups := ⟨fun _ => by kernel_rfl, fun _ => by kernel_rfl, by kernel_rfl⟩
noncomputable def fi_law_due : Fi := ⟨317, fnAt 48, "_law_due", Value.none, Value.str "law_oc0264_01" 532, 316, ["parents", "due", "place", "ups", "above", "team", "kind", "rights", "setters", "path"], [("range", Value.type "range"), ("_law_ups", Value.ref 312), ("_law_row", Value.ref 305)]⟩
theorem fi_law_due_ok : FiOk fi_law_due := ⟨fun _ => by kernel_rfl, fun _ => by kernel_rfl, by kernel_rfl⟩
noncomputable def fi_law_told_right : Fi := ⟨322, fnAt 49, "_law_told_right", Value.none, Value.str "law_oc0264_01" 532, 321, ["told"], [("range", Value.type "range"), ("len", Value.builtin "len"), ("isinstance", Value.builtin "isinstance"), ("list", Value.type "list"), ("set", Value.type "set")]⟩
theorem fi_law_told_right_ok : FiOk fi_law_told_right := ⟨fun _ => by kernel_rfl, fun _ => by kernel_rfl, by kernel_rfl⟩
noncomputable def fi_law_refused : Fi := ⟨329, fnAt 50, "_law_refused", Value.none, Value.str "law_oc0264_01" 532, 328, ["sorter", "place", "words", "err"], [("ValueError", Value.type "ValueError"), ("isinstance", Value.builtin "isinstance"), ("CycleError", Value.ref 158)]⟩
theorem fi_law_refused_ok : FiOk fi_law_refused := ⟨fun _ => by kernel_rfl, fun _ => by kernel_rfl, by kernel_rfl⟩
noncomputable def fi_law_end_right : Fi := ⟨334, fnAt 51, "_law_end_right", Value.none, Value.str "law_oc0264_01" 532, 333, ["sorter", "order", "place", "loose", "active", "words", "group"], [("range", Value.type "range"), ("_law_refused", Value.ref 329), ("isinstance", Value.builtin "isinstance"), ("tuple", Value.type "tuple"), ("sorted", Value.builtin "sorted")]⟩
theorem fi_law_end_right_ok : FiOk fi_law_end_right := ⟨fun _ => by kernel_rfl, fun _ => by kernel_rfl, by kernel_rfl⟩
noncomputable def fi_law : Fi := ⟨339, fnAt 52, "law", Value.none, Value.str "law_oc0264_01" 532, 338, ["script", "things", "words", "given", "end", "sorter", "told", "below", "order", "log", "records", "end_of_log"], [("_law_drawn", Value.ref 258), ("_law_things", Value.ref 272), ("_law_tape", Value.ref 265), ("_law_sorter", Value.ref 293), ("_law_told_right", Value.ref 322), ("range", Value.type "range"), ("_law_due", Value.ref 317), ("_law_made", Value.ref 298), ("sum", Value.builtin "sum"), ("_law_records", Value.ref 286), ("sorted", Value.builtin "sorted"), ("_law_end_right", Value.ref 334)]⟩
theorem fi_law_ok : FiOk fi_law := ⟨fun _ => by kernel_rfl, fun _ => by kernel_rfl, by kernel_rfl⟩
end
section
section
variable {w : World} {A A' B : Around} {cs : List (Str × Addr)} {hz : Bool} {base : Eo} {outer : List Env} {g : Heap} {n : Nat} {L : Addr} {env : Env} {ks : List Str} {gt : List (Str × Value)} {m m' : Loc} {l l' : Led} {s : Shared}
 {Q : Value → Shared → Prop} {E : Value → Shared → Prop} {QB : Bool → Shared → Prop} {QU : Unit → Shared → Prop} {QF : Flow → Shared → Prop} {x : Str} {v : Value} {pos : Pos} {a b : Int} {t u : Tok}
theorem St.key (S : St g base L ks m l s) {y : Option Value} (hm : (x, y) ∈ m) : x ∈ ks := S.K.1 ▸ List.mem_map_of_mem (f := (·.1)) hm
theorem n_loc (V : Vw w A base outer n g L env ks gt cs B hz) (S : St g base L ks m l s) (hm : (x, some v) ∈ m) (k : Q v s) : wpAny (M w) A' (eval (.Name x pos) env) Q E s :=
 wpAny_Name (wpAny_loadName_local V.kd (V.lc x (S.key hm)).1 (V.lo ▸ S.F.ns) (mp_get (by rw [S.K.1]; exact S.K.2) hm) k) (V.lc x (S.key hm)).2
theorem l_loc (V : Vw w A base outer n g L env ks gt cs B hz) (S : St g base L ks m l s) (hm : (x, some v) ∈ m) (k : Q v s) : wpAny (M w) A' (loadName env x) Q E s :=
 wpAny_loadName_local V.kd (V.lc x (S.key hm)).1 (V.lo ▸ S.F.ns) (mp_get (by rw [S.K.1]; exact S.K.2) hm) k
theorem n_glo (V : Vw w A base outer n g L env ks gt cs B hz) (S : St g base L ks m l s) (hm : (x, v) ∈ gt) (k : Q v s) : wpAny (M w) A' (eval (.Name x pos) env) Q E s := by
 (refine e2_1 V.C.T ?_; intro mg mb T)
 (refine hideG ?_; intro P0 hP0; obtain ⟨h1, h2, b, hb⟩ := V.gc _ hm; refine hP0 ?_; clear hP0 P0)
 refine Name_function_global V.kd h1 ?_ h2
 unfold gOk at hb
 cases b with
 | true =>
  simp only [if_true, Bool.and_eq_true, beq_iff_eq, bne_iff_ne] at hb
  exact loadGlobal_builtin (env := env) (V.gl ▸ T.g.keeps S.F.keep) (mg_none_of V.C.X T.g hb.1) (V.bl ▸ T.b.keeps S.F.keep) ((T.builtins x hb.2.2).trans hb.2.1) k
 | false =>
  simp only [Bool.false_eq_true, if_false, beq_iff_eq] at hb
  exact loadGlobal_global (env := env) (V.gl ▸ T.g.keeps S.F.keep) (mg_of V.C.X T.g hb) k
theorem s_loc (V : Vw w A base outer n g L env ks gt cs B hz) (S : St g base L ks m l s) (U : SetAt x (some v) m m') (k : ∀ s', St g base L ks m' l s' → QU () s') : wpAny (M w) A' (storeName env x v) QU E s := by
 have hx : x ∈ ks := S.K.1 ▸ U.has
 refine wpAny_storeName_local (V.lc x hx).1 (V.lo ▸ S.F.ns) (fun h' hn hs => k _ (S.setL U (V.lo ▸ hn) (V.lo ▸ hs) rfl rfl)) ?_
 rw [V.kd]; rfl
theorem c_int (S : St g base L ks m l s) {i : Int} {kk : Nat} (k : ∀ t s', St g base L ks m l s' → Q (.int i t) s') : wpAny (M w) A (eval (.Constant (.int i) kk pos) env) Q E s := wpAny_Constant_int (k _ _ (S.same rfl rfl rfl))
theorem c_str (S : St g base L ks m l s) {i : Str} {kk : Nat} (k : ∀ t s', St g base L ks m l s' → Q (.str i t) s') : wpAny (M w) A (eval (.Constant (.str i) kk pos) env) Q E s := wpAny_Constant_str (k _ _ (S.same rfl rfl rfl))
theorem c_none {kk : Nat} (k : Q .none s) : wpAny (M w) A (eval (.Constant .none kk pos) env) Q E s := wpAny_Constant_none k
theorem c_bool {i : Bool} {kk : Nat} (k : Q (.bool i) s) : wpAny (M w) A (eval (.Constant (.bool i) kk pos) env) Q E s := wpAny_Constant_bool k
theorem i_add (S : St g base L ks m l s) (k : ∀ t s', St g base L ks m l s' → Q (.int (a + b) t) s') : wpAny (M w) A (binaryOp .Add (.int a t) (.int b u)) Q E s := add_int (k _ _ (S.same rfl rfl rfl))
theorem i_sub (S : St g base L ks m l s) (k : ∀ t s', St g base L ks m l s' → Q (.int (a - b) t) s') : wpAny (M w) A (binaryOp .Sub (.int a t) (.int b u)) Q E s := sub_int (k _ _ (S.same rfl rfl rfl))
theorem i_and (S : St g base L ks m l s) (k : ∀ t s', St g base L ks m l s' → Q (.int (Builtin.bitAnd a b) t) s') : wpAny (M w) A (binaryOp .BitAnd (.int a t) (.int b u)) Q E s := and_int (k _ _ (S.same rfl rfl rfl))
theorem i_or (S : St g base L ks m l s) (k : ∀ t s', St g base L ks m l s' → Q (.int (Builtin.bitOr a b) t) s') : wpAny (M w) A (binaryOp .BitOr (.int a t) (.int b u)) Q E s := or_int (k _ _ (S.same rfl rfl rfl))
theorem i_mod (S : St g base L ks m l s) (hb : 0 < b) (k : ∀ t s', St g base L ks m l s' → Q (.int (a % b) t) s') : wpAny (M w) A (binaryOp .Mod (.int a t) (.int b u)) Q E s :=
 mod_int' (by lia) (by rw [Int.fmod_eq_emod_of_nonneg _ (by lia)]; exact k _ _ (S.same rfl rfl rfl))
theorem i_div (S : St g base L ks m l s) (hb : 0 < b) (hs : b < 1073741824) (k : ∀ t s', St g base L ks m l s' → Q (.int (a / b) t) s') : wpAny (M w) A (binaryOp .FloorDiv (.int a t) (.int b u)) Q E s :=
 floordiv_int (by lia) (by rw [Int.fdiv_eq_ediv_of_nonneg _ (by lia)]; exact k _ _ (S.same rfl rfl rfl)) (.inl (PyProof.noPylong_small (by lia)))
theorem i_mul (S : St g base L ks m l s) (h1 : -(2 ^ 60) < a) (h2 : a < 2 ^ 60) (k : ∀ t s', St g base L ks m l s' → Q (.int (a * b) t) s') : wpAny (M w) A (binaryOp .Mult (.int a t) (.int b u)) Q E s :=
 mul_int (k _ _ (S.same rfl rfl rfl)) (.of_left (intBits_le_64 (by lia) (by lia)))
theorem i_neg (S : St g base L ks m l s) (k : ∀ t s', St g base L ks m l s' → Q (.int (-a) t) s') : wpAny (M w) A (unaryOp .USub (.int a t)) Q E s := neg_int (k _ _ (S.same rfl rfl rfl))
theorem i_eq (k : Q (.bool (a == b)) s) : wpAny (M w) A (compareOp .Eq (.int a t) (.int b u)) Q E s := eq_int k
theorem i_ne (k : Q (.bool (a != b)) s) : wpAny (M w) A (compareOp .NotEq (.int a t) (.int b u)) Q E s := ne_int k
theorem i_lt (k : Q (.bool (decide (a < b))) s) : wpAny (M w) A (compareOp .Lt (.int a t) (.int b u)) Q E s := lt_int k
theorem i_gt (k : Q (.bool (decide (b < a))) s) : wpAny (M w) A (compareOp .Gt (.int a t) (.int b u)) Q E s := gt_int k
theorem i_ge (k : Q (.bool (decide (b ≤ a))) s) : wpAny (M w) A (compareOp .GtE (.int a t) (.int b u)) Q E s := ge_int k
theorem tr_bool {i : Bool} (k : QB i s) : wpAny (M w) A (truthy (.bool i)) QB E s := wpAny_truthy_bool k
theorem tr_int (k : QB (a != 0) s) : wpAny (M w) A (truthy (.int a t)) QB E s := truthy_int k
theorem cw_fn (V : Vw w A base outer n g L env ks gt cs B hz) {i : Fi} (I : FiOk i) {e : Expr} {rest : List Expr} 
  (h : wpAny (M w) A' (spliced (backTo pos (starEach (e :: rest) env))) (fun vs s₁ => (∃ m' l', St g base L ks m' l' s₁) ∧ wpAny (M w) A' (call (.ref i.f) vs) Q E s₁) E s)
  (he : starEach (e :: rest) env = (false, eval e env) :: starEach rest env := by rfl) :
  wpAny (M w) A' (callWith pos (.ref i.f) [] (backTo pos (starEach (e :: rest) env)) []) Q E s :=
 PyProof.Rows.callWith_def (o := fnO i.fn i.q i.dV i.pm i.c) (fd := fdX i.fn i.q [] i.dV i.pm i.c .none) rfl (wpAny_mono h (fun vs s₁ h₁ => ⟨by obtain ⟨⟨m', l', S⟩, _⟩ := h₁; exact S.old (V.C.X _ _ (I.at_ _)), h₁.2⟩) fun _ _ x => x) he
theorem n_cel (V : Vw w A base outer n g L env ks gt cs B hz) {c : Addr} {o : Obj} (hc : (x, c) ∈ cs) (ho : s.heap.get? c = some o) (hd : o.data = .cell (some v)) (k : Q v s) : wpAny (M w) A' (eval (.Name x pos) env) Q E s := by
 (refine e0_4 (V.cc _ hc) ?_; intro h1 h2 h3 h4)
 rcases h1 with h1 | h1
 ·exact wpAny_Name (wpAny_loadName_cell V.kd h1 h2 ⟨o, ho, hd⟩ k) h3
 ·exact wpAny_Name (wpAny_loadName_free V.kd h1 h2 ⟨o, ho, hd⟩ k h4) h3
theorem s_cel (V : Vw w A base outer n g L env ks gt cs B hz) (S : St g base L ks m l s) {c : Addr} {o : Obj} {v₀ : Option Value} (hc : (x, c) ∈ cs) (hk : env.kindOf x = some .cell) (hm : (c, o) ∈ l) (hd : o.data = .cell v₀)
  (k : ∀ o' s', o'.data = .cell (some v) → Heap.SameBut c s.heap s'.heap → s'.heap.get? c = some o' → s'.gens = s.gens → s'.os = s.os → QU () s') : wpAny (M w) A' (storeName env x v) QU E s := by
 (refine e0_4 (V.cc _ hc) ?_; intro h1 h2 h3 h4)
 refine wpAny_storeName_cell V.kd hk h2 ⟨o, S.get hm, hd⟩ fun h' hv hs => ?_
 (refine e1_2 hv ?_; clear hv; intro o' ho' hd')
 exact k o' _ hd' hs ho' rfl rfl
end
end
section
noncomputable abbrev lst (vs : List Value) (n : Nat) : Obj := { cls := .type "list", data := .seq vs.toArray n }
noncomputable abbrev tup (vs : List Value) : Obj := { cls := .type "tuple", data := .seq vs.toArray }
noncomputable abbrev Rd (g : Heap) (l : Led) (a : Addr) (o : Obj) : Prop := (a, o) ∈ l ∨ g.get? a = some o
section
variable {w : World} {A A' : Around} {base : Eo} {outer : List Env} {g : Heap} {n : Nat} {L : Addr} {env : Env} {ks : List Str} {gt : List (Str × Value)} {m m' : Loc} {l l' : Led} {s : Shared}
 {Q : Value → Shared → Prop} {E : Value → Shared → Prop} {QB : Bool → Shared → Prop} {QU : Unit → Shared → Prop} {QF : Flow → Shared → Prop} {x : Str} {v : Value} {pos : Pos} {a : Addr} {t u : Tok} {o : Obj}
theorem St.rd (S : St g base L ks m l s) (h : Rd g l a o) : s.heap.get? a = some o := h.elim (fun h => S.get h) fun h => S.old h
theorem Rd.cons {p} (h : Rd g l a o) : Rd g (p :: l) a o := h.elim (fun h => .inl (.tail _ h)) .inr
theorem St.ex (S : St g base L ks m l s) {R} (h : Ex l l' R) : St g base L ks m l' s := (S.perm h.perm).sub (List.sublist_append_left _ _)
theorem owned_not {I : Addr} {T : String} {target : Expr} (ho : s.heap.get? I = some o) (hc : o.cls = .type T) (hT : (["enumerate", "zip", "dict_itemiterator", "dict_reverseitemiterator", "odict_iterator", "itertools.zip_longest", "itertools.pairwise"].contains T) = false) (k : QU () s) :
  wpAny (M w) A' (letOwnedTupleGo target (.ref I) v) QU E s := by
 unfold letOwnedTupleGo
 cases target <;> first | exact wpAny_pure k | skip
 all_goals (
  cases v <;> first | exact wpAny_pure k | skip
  refine wpAny_bind (wpAny_load ho ?_)
  rw [hc]
  cases hd : o.data <;> first | exact wpAny_pure k | skip
  simp only [hT, Bool.false_and, Bool.false_eq_true, if_false]
  exact wpAny_pure k)
noncomputable abbrev Turn (w : World) (A' : Around) (g : Heap) (base : Eo) (L : Addr) (ks : List Str) (env : Env) (target : Expr) (body : List Stmt) (E : Value → Shared → Prop) (QF : Flow → Shared → Prop) (I : Addr) (oI : Obj) (v : Value) (J' : Loc → Led → Prop) (s : Shared) : Prop :=
 wpAny (M w) A' (assign target env v) (fun _ s₂ => wpAny (M w) A' (execs body env) (fun f s₃ => match f with
  | .next | .cont => ∃ m' l', J' m' l' ∧ St g base L ks m' ((I, oI) :: l') s₃
  | .brk => QF .next s₃
  | .ret v => QF (.ret v) s₃) E s₂) E s
theorem St.spent {I : Addr} {oI : Obj} {s' : Shared} (S : St g base L ks m ((I, oI) :: l) s) (hx : Heap.ExtBut I s.heap s'.heap) (e1 : s'.gens = s.gens) (e2 : s'.os = s.os) : St g base L ks m l s' := by
 have S' := S.sub (List.sublist_cons_self _ _)
 have nI : ∀ p ∈ l, p.1 ≠ I := fun p hp e => by
  have := S.D
  rw [List.map_cons, List.nodup_cons] at this
  exact this.1 (e ▸ List.mem_map_of_mem (f := (·.1)) hp)
 have z := S.N _ (List.Mem.head _)
 (refine e3_2 S.F.ns ?_; intro oL es ep hL r)
 exact ⟨⟨⟨oL, es, ep, hx _ _ (Ne.symm z.2.1) hL, r⟩, fun b x e => hx _ _ (fun q => by rw [q, z.2.2] at e; cases e) (S.F.keep b x e), S.F.above⟩, fun p hp => ⟨hx _ _ (nI p hp) (S'.N p hp).1, (S'.N p hp).2⟩, S'.D, S.K, e1.trans S.G, e2.trans S.O, S.W.keeps fun b hb o e => hx b o (fun q => S.Z _ (List.Mem.head _) (q ▸ hb)) e, S'.Z, S.Y, S.U⟩
inductive FgI (g : Heap) (base : Eo) (L : Addr) (ks : List Str) (J : Nat → Loc → Led → Prop) (N : Nat) (Ok : Nat → Obj → Prop) (I : Addr) (n : Nat) (s : Shared) : Prop
 | mk (i : Nat) (m : Loc) (l : Led) (oI : Obj) (h1 : n = N - i) (h2 : i ≤ N) (h3 : J i m l) (h4 : Ok i oI) (h5 : St g base L ks m ((I, oI) :: l) s)
theorem for_gen {target : Expr} {body orelse : List Stmt} {T : String} (hT : (["enumerate", "zip", "dict_itemiterator", "dict_reverseitemiterator", "odict_iterator", "itertools.zip_longest", "itertools.pairwise"].contains T) = false)
  (N : Nat) (Pv : Nat → Value → Prop) (Ok : Nat → Obj → Prop) (hOk : ∀ i o, Ok i o → o.cls = .type T) (J : Nat → Loc → Led → Prop) {I : Addr} {oI : Obj} (S : St g base L ks m ((I, oI) :: l) s) (h0 : J 0 m l) (hO : Ok 0 oI)
  (nxt : ∀ i m l oI s (QO : Option Value → Shared → Prop) E, i ≤ N → J i m l → Ok i oI → St g base L ks m ((I, oI) :: l) s → (∀ v s' o', i < N → Pv i v → Ok (i + 1) o' → St g base L ks m ((I, o') :: l) s' → QO (some v) s') → (∀ s', i = N → St g base L ks m l s' → QO none s') → wpAny (M w) A' (pyNext (.ref I)) QO E s)
  (turn : ∀ i v m l s I oI, i < N → Pv i v → J i m l → St g base L ks m ((I, oI) :: l) s → Turn w A' g base L ks env target body (notedBy (M w) A' env (cameBackBy (M w) A' env E)) QF I oI v (J (i + 1)) s)
  (done : ∀ m l s, J N m l → St g base L ks m l s → wpAny (M w) A' (execs orelse env) QF (notedBy (M w) A' env (cameBackBy (M w) A' env E)) s) :
  codeAny (M w) A' (.forLoop target (.ref I) body orelse env) (fun r s' => match r with | .ok f => QF f s' | .error e => cameBackBy (M w) A' env E e s') s := by
 refine codeAny_forLoop_any (I := FgI g base L ks J N Ok I) ?_ N ⟨0, m, l, _, by simp, by simp, h0, hO, S⟩
 (rintro c s hJq; refine hideG ?_; intro P0 hP0; obtain ⟨i, m, l, oI, rfl, hi, hJ, hI, S⟩ := hJq; refine hP0 ?_; clear hP0 P0)
 refine nxt i m l oI s _ _ hi hJ hI S (fun v s' o' hlt hv ho' S' => ?_) fun s' hv S' => ?_
 ·have tt : Turn w A' g base L ks env target body (notedBy (M w) A' env (cameBackBy (M w) A' env E)) QF I o' v (J (i + 1)) s' := turn i v m l s' I o' hlt hv hJ S'
  refine owned_not (S'.get (.head _)) (hOk _ _ ho') hT ?_
  refine wpAny_mono tt (fun _ s₂ h₂ => wpAny_mono h₂ (fun f s₃ h₃ => ?_) fun _ _ e => e) fun _ _ e => e
  cases f with
  | next => obtain ⟨m', l', j', s3⟩ := h₃; exact ⟨N - (i + 1), by lia, i + 1, m', l', o', rfl, hlt, j', ho', s3⟩
  | cont => obtain ⟨m', l', j', s3⟩ := h₃; exact ⟨N - (i + 1), by lia, i + 1, m', l', o', rfl, hlt, j', ho', s3⟩
  | brk => exact h₃
  | ret v => exact h₃
 ·subst hv
  exact done m l s' hJ S'
theorem for_list (hh : A'.handled = none) {target : Expr} {body orelse : List Stmt} (vs : List Value) (J : Nat → Loc → Led → Prop) (S : St g base L ks m l s) (h0 : J 0 m l) (rd : ∀ i m l, J i m l → ∃ k, Rd g l a (lst vs k))
  (turn : ∀ i v m l s I oI, i < vs.length → vs[i]? = some v → J i m l → St g base L ks m ((I, oI) :: l) s → Turn w A' g base L ks env target body (notedBy (M w) A' env (cameBackBy (M w) A' env E)) QF I oI v (J (i + 1)) s)
  (done : ∀ m l s, J vs.length m l → St g base L ks m l s → wpAny (M w) A' (execs orelse env) QF (notedBy (M w) A' env (cameBackBy (M w) A' env E)) s) :
  wpAny (M w) A' (pyIter (.ref a)) (fun it s₂ => codeAny (M w) A' (.forLoop target it body orelse env) (fun r s' => match r with | .ok f => QF f s' | .error e => cameBackBy (M w) A' env E e s') s₂) E s := by
 (refine e1_1 (rd 0 m l h0) ?_; intro k hr)
 refine wpAny_pyIter_list ⟨_, S.rd hr, rfl, k, rfl⟩ ?_
 have S1 : St g base L ks m ((s.heap.objs.size, _) :: l) _ := S.push (s' := { s with heap := s.heap.push { cls := .type "list_iterator", data := .fields #[.ref a, .int 0 0] } }) { cls := .type "list_iterator", data := .fields #[.ref a, .int 0 0] } rfl rfl rfl rfl
 refine for_gen (T := "list_iterator") (by decide) vs.length (fun i v => vs[i]? = some v) (fun i o => o.cls = .type "list_iterator" ∧ o.data = .fields #[.ref a, .int i 0]) (fun _ _ h => h.1) J S1 h0 ⟨rfl, rfl⟩ ?_ turn done
 intro i m l oI s QO E hi hJ hI S item done
 (refine e1_1 (rd i m l hJ) ?_; intro k hr)
 have hit : s.heap.IsListIter _ a i := ⟨oI, S.get (.head _), hI.1, hI.2⟩
 have hl : s.heap.IsList a vs.toArray := ⟨_, S.rd hr.cons, rfl, k, rfl⟩
 cases h : vs[i]? with
 | some v =>
  refine wpAny_pyNext_list_item hit hl (by simpa using h) fun h' hi hs => ?_
  (refine e1_3 hi ?_; clear hi; intro o' ho' hc hd)
  exact item v _ o' (by rcases Nat.lt_or_ge i vs.length with q | q; exact q; rw [List.getElem?_eq_none q] at h; cases h) h ⟨hc, hd⟩ (S.chg .here hs ho' rfl rfl)
 | none =>
  refine wpAny_pyNext_list_end hh hit hl (by simpa using h) fun h' hx => done _ ?_ (S.spent hx rfl rfl)
  rcases Nat.lt_or_ge i vs.length with q | q
  ·rw [List.getElem?_eq_getElem q] at h; cases h
  ·lia
theorem for_tup (hh : A'.handled = none) {target : Expr} {body orelse : List Stmt} (vs : List Value) (J : Nat → Loc → Led → Prop) (S : St g base L ks m l s) (h0 : J 0 m l) (rd : ∀ i m l, J i m l → Rd g l a (tup vs))
  (turn : ∀ i v m l s I oI, i < vs.length → vs[i]? = some v → J i m l → St g base L ks m ((I, oI) :: l) s → Turn w A' g base L ks env target body (notedBy (M w) A' env (cameBackBy (M w) A' env E)) QF I oI v (J (i + 1)) s)
  (done : ∀ m l s, J vs.length m l → St g base L ks m l s → wpAny (M w) A' (execs orelse env) QF (notedBy (M w) A' env (cameBackBy (M w) A' env E)) s) :
  wpAny (M w) A' (pyIter (.ref a)) (fun it s₂ => codeAny (M w) A' (.forLoop target it body orelse env) (fun r s' => match r with | .ok f => QF f s' | .error e => cameBackBy (M w) A' env E e s') s₂) E s := by
 have hr := rd 0 m l h0
 refine wpAny_pyIter_tuple ⟨_, S.rd hr, rfl, 0, rfl⟩ ?_
 have S1 : St g base L ks m ((s.heap.objs.size, _) :: l) _ := S.push (s' := { s with heap := s.heap.push { cls := .type "tuple_iterator", data := .fields #[.ref a, .int 0 0] } }) { cls := .type "tuple_iterator", data := .fields #[.ref a, .int 0 0] } rfl rfl rfl rfl
 refine for_gen (T := "tuple_iterator") (by decide) vs.length (fun i v => vs[i]? = some v) (fun i o => o.cls = .type "tuple_iterator" ∧ o.data = .fields #[.ref a, .int i 0]) (fun _ _ h => h.1) J S1 h0 ⟨rfl, rfl⟩ ?_ turn done
 intro i m l oI s QO E hi hJ hI S item done
 have hr := rd i m l hJ
 have hit : s.heap.IsTupleIter _ a i := ⟨oI, S.get (.head _), hI.1, hI.2⟩
 have hl : s.heap.IsTuple a vs.toArray := ⟨_, S.rd hr.cons, rfl, 0, rfl⟩
 cases h : vs[i]? with
 | some v =>
  refine wpAny_pyNext_tuple_item hit hl (by simpa using h) fun h' hi hs => ?_
  (refine e1_3 hi ?_; clear hi; intro o' ho' hc hd)
  exact item v _ o' (by rcases Nat.lt_or_ge i vs.length with q | q; exact q; rw [List.getElem?_eq_none q] at h; cases h) h ⟨hc, hd⟩ (S.chg .here hs ho' rfl rfl)
 | none =>
  refine wpAny_pyNext_tuple_end hh hit hl (by simpa using h) fun h' hx => done _ ?_ (S.spent hx rfl rfl)
  rcases Nat.lt_or_ge i vs.length with q | q
  ·rw [List.getElem?_eq_getElem q] at h; cases h
  ·lia
noncomputable abbrev rngO (a b c : Int) (t u v : Tok) : Obj := { cls := .type "range", data := .fields #[.int a t, .int b u, .int c v] }
theorem for_range (hh : A'.handled = none) {target : Expr} {body orelse : List Stmt} {x y : Int} {t₁ t₂ t₃ : Tok} (N : Nat) (hN : y = x + N) (hx : -(2 ^ 62) ≤ x) (hy : y < 2 ^ 62) (J : Nat → Loc → Led → Prop) (S : St g base L ks m l s) (h0 : J 0 m l) (hr : s.heap.get? a = some (rngO x y 1 t₁ t₂ t₃))
  (turn : ∀ i t m l s I oI, i < N → J i m l → St g base L ks m ((I, oI) :: l) s → Turn w A' g base L ks env target body (notedBy (M w) A' env (cameBackBy (M w) A' env E)) QF I oI (.int (x + i) t) (J (i + 1)) s)
  (done : ∀ m l s, J N m l → St g base L ks m l s → wpAny (M w) A' (execs orelse env) QF (notedBy (M w) A' env (cameBackBy (M w) A' env E)) s) :
  wpAny (M w) A' (pyIter (.ref a)) (fun it s₂ => codeAny (M w) A' (.forLoop target it body orelse env) (fun r s' => match r with | .ok f => QF f s' | .error e => cameBackBy (M w) A' env E e s') s₂) E s := by
 subst hN
 have hsm : Builtin.Range.small x (x + N) 1 = true := small_one hx (by lia) (by lia) hy
 refine wpAny_pyIter_range hr hsm ?_
 have hz : Builtin.Range.rangeSize x (x + N) 1 = N := by rw [rangeSize_one]; split <;> lia
 rw [hz]
 clear hz
 have S1 : St g base L ks m ((s.heap.objs.size, _) :: l) _ := S.push (s' := { s with heap := s.heap.push { cls := .type "range_iterator", data := .fields #[rawInt x, rawInt N, rawInt 1] } }) { cls := .type "range_iterator", data := .fields #[rawInt x, rawInt N, rawInt 1] } rfl rfl rfl rfl
 refine for_gen (T := "range_iterator") (by decide) N (fun i v => ∃ t, v = .int (x + i) t) (fun i o => o = { cls := .type "range_iterator", data := .fields #[rawInt (x + i), rawInt (N - i), rawInt 1] }) (fun _ _ h => by rw [h]) J S1 h0 (by simp) ?_ (fun i v m l s I oI hi hv hJ S => by obtain ⟨t, rfl⟩ := hv; exact turn i t m l s I oI hi hJ S) done
 intro i m l oI s QO E hi hJ hI S item done
 subst hI
 have hit : IsRangeIter s.heap _ (x + i) (N - i) 1 := S.get (.head _)
 rcases Nat.lt_or_ge i N with q | q
 ·refine wpAny_pyNext_range_item hit (by lia) fun h' hi hs => ?_
  exact item _ _ _ q ⟨_, rfl⟩ rfl (S.chg .here hs (by rw [hi, show x + (i : Int) + 1 = x + ((i + 1 : Nat) : Int) by lia, show (N : Int) - i - 1 = N - ((i + 1 : Nat) : Int) by lia]) rfl rfl)
 ·exact wpAny_pyNext_range_end hh hit (by lia) fun h' hx => done _ (by lia) (S.spent hx rfl rfl)
end
end
section
section
variable {w : World} {A A' B : Around} {cs : List (Str × Addr)} {hz : Bool} {base : Eo} {outer : List Env} {g : Heap} {n : Nat} {L : Addr} {env : Env} {ks : List Str} {gt : List (Str × Value)} {m m' : Loc} {l l' : Led} {s : Shared}
 {Q : Value → Shared → Prop} {E : Value → Shared → Prop} {QB : Bool → Shared → Prop} {QU : Unit → Shared → Prop} {QF : Flow → Shared → Prop} {QL : List Value → Shared → Prop} {x : Str} {v : Value} {pos pos' : Pos} {a : Addr} {t u : Tok} {o : Obj}
 {e e' e'' : Expr} {es : List Expr} {st : Stmt} {sts sts' : List Stmt}
theorem x_cons (h : wpAny (M w) A' (exec st env) (fun f s' => match f with | .next => wpAny (M w) A' (execs sts env) QF E s' | f => QF f s') E s) : wpAny (M w) A' (execs (st :: sts) env) QF E s := wpAny_execs_cons h
theorem x_nil (h : QF .next s) : wpAny (M w) A' (execs [] env) QF E s := wpAny_execs_nil h
theorem x_name (h : wpAny (M w) A' (eval e env) (fun v s₁ => wpAny (M w) A' (storeName env x v) (fun _ => QF .next) E s₁) E s) (hs : swapsWith e (some (.Name x pos')) pos.line env = pure false := by with_unfolding_all rfl) :
  wpAny (M w) A' (exec (.Assign [.Name x pos'] e pos) env) QF E s := wpAny_Assign_Name h hs
theorem x_aname (h : wpAny (M w) A' (storeName env x v) QU E s) : wpAny (M w) A' (assign (.Name x pos) env v) QU E s := wpAny_assign_Name h
theorem x_asub (h : wpAny (M w) A' (eval e env) (fun v s₁ => wpAny (M w) A' (eval e' env) (fun ov s₂ => wpAny (M w) A' (eval e'' env) (fun iv s₃ => wpAny (M w) A' (setItem ov iv v) (fun _ => QF .next) E s₃) E s₂) E s₁) E s)
  (hs : swapsWith e (some (.Subscript e' e'' pos')) pos.line env = pure false := by with_unfolding_all rfl) : wpAny (M w) A' (exec (.Assign [.Subscript e' e'' pos'] e pos) env) QF E s := wpAny_Assign_Subscript h hs
theorem x_aattr (h : wpAny (M w) A' (eval e env) (fun v s₁ => wpAny (M w) A' (eval e' env) (fun ov s₂ => wpAny (M w) A' (setAttr ov x v) (fun _ => QF .next) E s₂) E s₁) E s)
  (hs : swapsWith e (some (.Attribute e' x pos')) pos.line env = pure false := by with_unfolding_all rfl) : wpAny (M w) A' (exec (.Assign [.Attribute e' x pos'] e pos) env) QF E s := plainObj_wpAny_Assign_Attribute h hs
theorem x_ret (h : wpAny (M w) A' (eval e env) (fun v => QF (.ret v)) E s) : wpAny (M w) A' (exec (.Return (some e) pos) env) QF E s := wpAny_Return_some h
theorem x_if (h : wpAny (M w) A' (PySem.isTrue e env (eval e env)) (fun b s₂ => (b = true → wpAny (M w) A' (execs sts env) QF E s₂) ∧ (b = false → wpAny (M w) A' (execs sts' env) QF E s₂)) E s) :
  wpAny (M w) A' (exec (.If e sts sts' pos) env) QF E s :=
 wpAny_If (wpAny_mono h (fun b s₂ h₂ => by cases b; exact h₂.2 rfl; exact h₂.1 rfl) fun _ _ x => x)
theorem x_expr (h : wpAny (M w) A' (eval e env) (fun _ => QF .next) E s) (hi : interactive env = false) (hs : swapsWith e none pos.line env = pure false := by with_unfolding_all rfl) : wpAny (M w) A' (exec (.Expr e pos) env) QF E s := wpAny_Expr_any h hi hs
theorem x_pass (h : QF .next s) : wpAny (M w) A' (exec (.Pass pos) env) QF E s := wpAny_Pass h
theorem x_brk (h : QF .brk s) : wpAny (M w) A' (exec (.Break pos) env) QF E s := wpAny_Break h
theorem x_cont (h : QF .cont s) : wpAny (M w) A' (exec (.Continue pos) env) QF E s := wpAny_Continue h
theorem x_for (h : wpAny (M w) A' (eval e' env) (fun x s₁ => wpAny (M w) A' (pyIter x) (fun it s₂ => codeAny (M w) A' (.forLoop e it sts sts' env) (fun r s' => match r with | .ok f => QF f s' | .error e => cameBackBy (M w) A' env E e s') s₂) E s₁) E s)
  (hf : ∀ x, foldedSetIterable e' env x = pure x := by intro _; with_unfolding_all rfl) : wpAny (M w) A' (exec (.For e e' sts sts' pos) env) QF E s := wpAny_For h hf
theorem x_bin {op : Operator} (h : wpAny (M w) A' (eval e env) (fun a s₁ => wpAny (M w) A' (eval e' env) (fun b s₂ => wpAny (M w) A' (binaryOp op a b) Q E s₂) E s₁) E s) : wpAny (M w) A' (eval (.BinOp e op e' pos) env) Q E s := wpAny_BinOp h
theorem x_un {op : UnaryOp} (h : wpAny (M w) A' (eval e env) (fun a s₁ => wpAny (M w) A' (unaryOp op a) Q E s₁) E s) : wpAny (M w) A' (eval (.UnaryOp op e pos) env) Q E s := wpAny_UnaryOp h
theorem x_cmp {op : CmpOp} (h : wpAny (M w) A' (eval e env) (fun a s₁ => wpAny (M w) A' (eval e' env) (fun b s₂ => wpAny (M w) A' (compareOp op a b) Q E s₂) E s₁) E s) (hb : behindInMarks op e' = false := by with_unfolding_all rfl) : wpAny (M w) A' (eval (.Compare e [op] [e'] pos) env) Q E s := wpAny_Compare1 h hb
theorem x_ife (h : wpAny (M w) A' (PySem.isTrue e env (eval e env)) (fun b s₂ => (b = true → wpAny (M w) A' (eval e' env) Q E s₂) ∧ (b = false → wpAny (M w) A' (eval e'' env) Q E s₂)) E s) : wpAny (M w) A' (eval (.IfExp e e' e'' pos) env) Q E s :=
 wpAny_IfExp (wpAny_mono h (fun b s₂ h₂ => by cases b; exact h₂.2 rfl; exact h₂.1 rfl) fun _ _ x => x)
theorem x_sub (h : wpAny (M w) A' (eval e env) (fun o s₁ => wpAny (M w) A' (eval e' env) (fun i s₂ => wpAny (M w) A' (subscriptTail e e' o i) Q E s₂) E s₁) E s) : wpAny (M w) A' (eval (.Subscript e e' pos) env) Q E s := Subscript_ h
theorem x_attr (h : wpAny (M w) A' (eval e env) (fun o s₁ => wpAny (M w) A' (getAttr o x true) Q E s₁) E s) (hq : eval (.Attribute e x pos) env = (do let o ← eval e env; standAt pos.atName; let r ← holding [o] (getAttr o x true); letTemporaryGo e o r; pure r) := by with_unfolding_all rfl) :
  wpAny (M w) A' (eval (.Attribute e x pos) env) Q E s := Attribute_any_ h hq
theorem x_list (h : wpAny (M w) A' (spliced (backTo pos (starEach es env))) (fun vs s₁ => wpAny (M w) A' (newList vs) Q E s₁) E s) : wpAny (M w) A' (eval (.List es pos) env) Q E s := List_ h
theorem x_tup {k : Nat} (h : wpAny (M w) A' (spliced (backTo pos (starEach es env))) (fun vs s₁ => wpAny (M w) A' (newTuple vs) Q E s₁) E s) : wpAny (M w) A' (eval (.Tuple es k pos) env) Q E s := Tuple_ h
theorem x_more (h : wpAny (M w) A' (eval e env) (fun v s₁ => wpAny (M w) A' (spliced (backTo pos (starEach es env))) (fun vs s₂ => QL (v :: vs) s₂) E s₁) E s) (he : starEach (e :: es) env = (false, eval e env) :: starEach es env := by with_unfolding_all rfl) :
  wpAny (M w) A' (spliced (backTo pos (starEach (e :: es) env))) QL E s := spliced_more h he
theorem x_none (h : QL [] s) : wpAny (M w) A' (spliced (backTo pos (starEach [] env))) QL E s := spliced_none h
theorem x_call {p : Pos} (h : wpAny (M w) A' (eval (.Name x p) env) (fun f s₁ => wpAny (M w) A' (callWith pos f [] (backTo pos (starEach es env)) []) Q E s₁) E s) : wpAny (M w) A' (eval (.Call (.Name x p) es [] pos) env) Q E s := wpAny_Call_NameR h
theorem x_tcmp {op : CmpOp} {wh : Sem Value} (h : wpAny (M w) A' (eval e env) (fun a s₁ => wpAny (M w) A' (eval e' env) (fun b s₂ => wpAny (M w) A' (compareOp op a b) (fun c s₃ => wpAny (M w) A' (truthy c) QB E s₃) E s₂) E s₁) E s) (hb : behindInMarks op e' = false := by with_unfolding_all rfl) :
  wpAny (M w) A' (PySem.isTrue (.Compare e [op] [e'] pos) env wh) QB E s := wpAny_isTrue_Compare1 h hb
theorem x_tnot {wh : Sem Value} (h : wpAny (M w) A' (PySem.isTrue e env (eval e env)) (fun b s₁ => QB (!b) s₁) E s) : wpAny (M w) A' (PySem.isTrue (.UnaryOp .Not e pos) env wh) QB E s := wpAny_isTrue_Not h
theorem x_tbool {op : BoolOp} {wh : Sem Value} (h : wpAny (M w) A' (allTrue op es env) QB E s) : wpAny (M w) A' (PySem.isTrue (.BoolOp op es pos) env wh) QB E s := wpAny_isTrue_BoolOp h
theorem x_and (h : wpAny (M w) A' (PySem.isTrue e env (eval e env)) (fun b s₁ => (b = true → wpAny (M w) A' (allTrue .And es env) QB E s₁) ∧ (b = false → QB false s₁)) E s) : wpAny (M w) A' (allTrue .And (e :: es) env) QB E s :=
 wpAny_allTrue_And_cons (wpAny_mono h (fun b s₂ h₂ => by cases b; exact h₂.2 rfl; exact h₂.1 rfl) fun _ _ x => x)
theorem x_and0 (h : QB true s) : wpAny (M w) A' (allTrue .And [] env) QB E s := wpAny_allTrue_And_nil h
theorem x_or (h : wpAny (M w) A' (PySem.isTrue e env (eval e env)) (fun b s₁ => (b = true → QB true s₁) ∧ (b = false → wpAny (M w) A' (allTrue .Or es env) QB E s₁)) E s) : wpAny (M w) A' (allTrue .Or (e :: es) env) QB E s :=
 wpAny_allTrue_Or_cons (wpAny_mono h (fun b s₂ h₂ => by cases b; exact h₂.2 rfl; exact h₂.1 rfl) fun _ _ x => x)
theorem x_or0 (h : QB false s) : wpAny (M w) A' (allTrue .Or [] env) QB E s := wpAny_allTrue_Or_nil h
theorem x_tval (h : wpAny (M w) A' (eval e env) (fun v s₁ => wpAny (M w) A' (truthy v) QB E s₁) E s) (hq : PySem.isTrue e env (eval e env) = (do let v ← eval e env; standAt e.pos; holding [v] (truthy v)) := by with_unfolding_all rfl) :
  wpAny (M w) A' (PySem.isTrue e env (eval e env)) QB E s := isTrue_plain h hq
theorem cw_b (id : String) {first : List Value} (h : wpAny (M w) A' (spliced (backTo pos (starEach (e :: es) env))) (fun vs s₁ => wpAny (M w) A' (call (.builtin id) (first ++ vs)) Q E s₁) E s)
  (he : starEach (e :: es) env = (false, eval e env) :: starEach es env := by with_unfolding_all rfl) (hp : (backTo pos (starEach es env)).any (·.1) = false := by with_unfolding_all rfl) :
  wpAny (M w) A' (callWith pos (.builtin id) first (backTo pos (starEach (e :: es) env)) []) Q E s := callWith_method1 h he hp
theorem cw_b0 {id : String} {first : List Value} (h : wpAny (M w) A' (call (.builtin id) first) Q E s) : wpAny (M w) A' (callWith pos (.builtin id) first (backTo pos (starEach [] env)) []) Q E s := callWith_method0 h
theorem cw_t {T : String} (h : wpAny (M w) A' (spliced (backTo pos (starEach (e :: es) env))) (fun vs s₁ => wpAny (M w) A' (call (.type T) vs) Q E s₁) E s)
  (he : starEach (e :: es) env = (false, eval e env) :: starEach es env := by with_unfolding_all rfl) (hp : (backTo pos (starEach es env)).any (·.1) = false := by with_unfolding_all rfl) :
  wpAny (M w) A' (callWith pos (.type T) [] (backTo pos (starEach (e :: es) env)) []) Q E s := callWith_type1 h he hp
theorem mk_list (S : St g base L ks m l s) {vs : List Value} (k : ∀ a s', St g base L ks m ((a, lst vs 0) :: l) s' → Q (.ref a) s') (hz : Nat.ble vs.length 16777216 = true := by with_unfolding_all rfl) : wpAny (M w) A' (newList vs) Q E s := wpAny_newList (k _ _ (S.push _ rfl rfl rfl rfl)) (Nat.le_of_ble_eq_true hz)
theorem mk_tup (S : St g base L ks m l s) {vs : List Value} (k : ∀ a s', St g base L ks m ((a, tup vs) :: l) s' → Q (.ref a) s') (hz : Nat.ble vs.length 16777216 = true := by with_unfolding_all rfl) : wpAny (M w) A' (newTuple vs) Q E s := wpAny_newTuple (k _ _ (S.push _ rfl rfl rfl rfl)) (Nat.le_of_ble_eq_true hz)
theorem mk_dict (S : St g base L ks m l s) (k : ∀ a s', St g base L ks m ((a, emptyDict) :: l) s' → Q (.ref a) s') : wpAny (M w) A' (eval (.Dict [] [] pos) env) Q E s := wpAny_Dict_empty (k _ _ (S.push _ rfl rfl rfl rfl))
end
end
section
section
variable {w : World} {A A' : Around} {base : Eo} {outer : List Env} {g : Heap} {n : Nat} {L : Addr} {env : Env} {ks : List Str} {gt : List (Str × Value)} {m m' : Loc} {l l' : Led} {s : Shared}
 {Q : Value → Shared → Prop} {E : Value → Shared → Prop} {QB : Bool → Shared → Prop} {QU : Unit → Shared → Prop} {QF : Flow → Shared → Prop} {QL : List Value → Shared → Prop} {x y : Str} {v : Value} {pos pos' : Pos} {a b : Addr} {t u : Tok} {o : Obj}
 {e e' : Expr} {i j : Int} {vs us : List Value} {k : Nat}
theorem sub_tup (S : St g base L ks m l s) (hr : Rd g l a (tup vs)) (h0 : 0 ≤ i) (h1 : i < 2 ^ 63) (hx : vs[i.toNat]? = some v) (h : Q v s) (hs : subscripted e' false (.ref a) (.int i u) = operate [.ref a, .int i u] (getItem (.ref a) (.int i u)) := by with_unfolding_all rfl) :
  wpAny (M w) A' (subscriptTail e e' (.ref a) (.int i u)) Q E s := by
 have hlt : i.toNat < vs.length := by
  rcases Nat.lt_or_ge i.toNat vs.length with q | q
  ·exact q
  ·rw [List.getElem?_eq_none q] at hx; cases hx
 refine item_tupleT (l := vs) (j := i.toNat) ⟨_, S.rd hr, rfl, 0, rfl⟩ (by lia) h1 ?_ hx h hs
 unfold seqIndex?
 simp only [show ¬ i < 0 by lia, if_false]
 rw [if_pos]
 simp only [Bool.and_eq_true, decide_eq_true_eq]
 lia
theorem sub_list (S : St g base L ks m l s) (hr : Rd g l a (lst vs k)) (h0 : 0 ≤ i) (h1 : i < 2 ^ 63) (hx : vs[i.toNat]? = some v) (h : Q v s) (hs : subscripted e' false (.ref a) (.int i u) = operate [.ref a, .int i u] (getItem (.ref a) (.int i u)) := by with_unfolding_all rfl) :
  wpAny (M w) A' (subscriptTail e e' (.ref a) (.int i u)) Q E s :=
 have hl : s.heap.IsList a vs.toArray := ⟨_, S.rd hr, rfl, k, rfl⟩
 tail_any hl.typeIs slot_list_getitem.lookup (wpAny_getItem_list hl h0 h1 (by simpa using hx) h) hs
theorem sub_last (S : St g base L ks m l s) (hr : Rd g l a (lst (us ++ [v]) k)) (hz : us.length < 2 ^ 62) (h : Q v s) (hs : subscripted e' false (.ref a) (.int (-1) u) = operate [.ref a, .int (-1) u] (getItem (.ref a) (.int (-1) u)) := by with_unfolding_all rfl) :
  wpAny (M w) A' (subscriptTail e e' (.ref a) (.int (-1) u)) Q E s := by
 have hl : s.heap.IsList a (us ++ [v]).toArray := ⟨_, S.rd hr, rfl, k, rfl⟩
 refine tail_any hl.typeIs slot_list_getitem.lookup (wpAny_getItem_list_neg hl (by decide) (by simp; lia) (by decide) ?_ h) hs
 simp only [List.size_toArray, List.length_append, List.length_singleton]
 rw [show ((-1 : Int) + ((us.length + 1 : Nat) : Int)).toNat = us.length by lia]
 simp
theorem sub_str (S : St g base L ks m l s) (hr : fitsSsize i = true) (hin : (Txt.charAt x i).isSome = true) (h : ∀ t s', St g base L ks m l s' → Q (.str (Txt.item x i) t) s') (hs : subscripted e' false (.str x t) (.int i u) = operate [.str x t, .int i u] (getItem (.str x t) (.int i u)) := by with_unfolding_all rfl) :
  wpAny (M w) A' (subscriptTail e e' (.str x t) (.int i u)) Q E s :=
 tail_any (typeIs_str s x t) F.slot_str_getitem.lookup (SB.getItem hr hin (h _ _ (S.same rfl rfl rfl))) hs
theorem a_str (S : St g base L ks m l s) (hz : x.length + y.length ≤ sizeLine) (h : ∀ t s', St g base L ks m l s' → Q (.str (x ++ y) t) s') : wpAny (M w) A' (binaryOp .Add (.str x t) (.str y u)) Q E s := SB.add (fun t' k => h _ _ (S.same rfl rfl rfl)) hz
theorem a_list (S : St g base L ks m l s) {k₁ k₂ : Nat} (h1 : Rd g l a (lst vs k₁)) (h2 : Rd g l b (lst us k₂)) (hz : vs.length + us.length ≤ sizeLine) (h : ∀ c s', St g base L ks m ((c, lst (vs ++ us) 0) :: l) s' → Q (.ref c) s') : wpAny (M w) A' (binaryOp .Add (.ref a) (.ref b)) Q E s := by
 refine concat_meets ⟨_, S.rd h1, rfl⟩ ⟨_, S.rd h2, rfl⟩ noFill_list_add seq_list_add PySem.F.slot_list_add PySem.F.entry_list_add (PySem.F.args_list_add_2 _ _) (list_addW a b vs.toArray us.toArray k₁ k₂ none none #[] #[] (by simpa using hz)) ⟨S.rd h1, S.rd h2, ?_⟩
 rw [show vs.toArray ++ us.toArray = (vs ++ us).toArray by simp]
 exact h _ _ (S.push _ rfl rfl rfl rfl)
theorem ln_list (S : St g base L ks m l s) (hr : Rd g l a (lst vs k)) (hz : vs.length < 2 ^ 62) (h : ∀ t s', St g base L ks m l s' → Q (.int vs.length t) s') : wpAny (M w) A' (call (.builtin "len") [.ref a]) Q E s :=
 call_len_list (items := vs.toArray) ⟨_, S.rd hr, rfl, k, rfl⟩ (by simp; lia) (by rw [List.size_toArray]; exact h _ _ (S.same rfl rfl rfl))
theorem ln_str (S : St g base L ks m l s) (hz : x.length < 2 ^ 62) (h : ∀ t s', St g base L ks m l s' → Q (.int x.length t) s') : wpAny (M w) A' (call (.builtin "len") [.str x t]) Q E s :=
 len_str (by lia) (h _ _ (S.same rfl rfl rfl))
theorem gm_list {nm : Str} {id : String} {pl : Sem Bool} {QM : Value × List Value → Shared → Prop} (S : St g base L ks m l s) (hr : Rd g l a (lst vs k)) (slot : Slot "list" nm id) (hty : typeOf (.builtin id) = pure (.type "method_descriptor")) (h : QM (.builtin id, [.ref a]) s) : wpAny (M w) A' (getMethod (.ref a) nm pl) QM E s :=
 getMethod_builtin ⟨_, S.rd hr, rfl⟩ PySem.F.plainAttrs_list slot hty (fun b e => by cases e; exact ⟨_, S.rd hr, rfl⟩) h
theorem ap_list (S : St g base L ks m l s) (U : Up a (lst vs k) (lst (vs ++ [v]) (k + 1)) l l') (hz : vs.length ≤ sizeLine) (h : ∀ s', St g base L ks m l' s' → Q .none s') : wpAny (M w) A' (call (.builtin "list.append") ([.ref a] ++ [v])) Q E s :=
 append_at (its := vs.toArray) (n := k) (S.get U.mem) (fun h' hs ho => h _ (S.chg U hs (by rw [ho]; simp) rfl rfl)) (by simpa using hz)
theorem x_ifs {e₀ : Expr} {k₁ k₂ : Nat} {p₁ p₂ : Pos} (h : wpAny (M w) A' (PySem.isTrue e₀ env (eval e₀ env)) (fun b s₁ => ∀ t s', s'.heap = s₁.heap → s'.gens = s₁.gens → s'.os = s₁.os → Q (.str (if b = true then x else y) t) s') E s) :
  wpAny (M w) A' (eval (.IfExp e₀ (.Constant (.str x) k₁ p₁) (.Constant (.str y) k₂ p₂) pos) env) Q E s :=
 wpAny_IfExp (wpAny_mono h (fun b s₂ h₂ => by
  cases b
  ·exact wpAny_Constant_str (h₂ _ _ rfl rfl rfl)
  ·exact wpAny_Constant_str (h₂ _ _ rfl rfl rfl)) fun _ _ x => x)
theorem x_ifi {e₀ : Expr} {k₁ k₂ : Nat} {p₁ p₂ : Pos} (h : wpAny (M w) A' (PySem.isTrue e₀ env (eval e₀ env)) (fun b s₁ => ∀ t s', s'.heap = s₁.heap → s'.gens = s₁.gens → s'.os = s₁.os → Q (.int (if b = true then i else j) t) s') E s) :
  wpAny (M w) A' (eval (.IfExp e₀ (.Constant (.int i) k₁ p₁) (.Constant (.int j) k₂ p₂) pos) env) Q E s :=
 wpAny_IfExp (wpAny_mono h (fun b s₂ h₂ => by
  cases b
  ·exact wpAny_Constant_int (h₂ _ _ rfl rfl rfl)
  ·exact wpAny_Constant_int (h₂ _ _ rfl rfl rfl)) fun _ _ x => x)
theorem len_item (x : Str) (i : Int) : (Txt.item x i).length = 1 := rfl
theorem len_if {p : Prop} [Decidable p] {a b : Str} {n : Nat} (ha : a.length = n) (hb : b.length = n) : (if p then a else b).length = n := by split <;> assumption
end
end
section
noncomputable def Spec (w : World) (n : Nat) (f : Addr) (args : List Value) (pre : Heap → Prop) (Φ : Value → Led → Prop) : Prop :=
 ∀ A outer g s, Cx w A ⟨s.os, outer, s.heap⟩ outer g n → Hp g s.heap [] → s.gens = #[] → pre g → codeAny (M w) A (.call (.ref f) ⟨args, []⟩) (Meets g ⟨s.os, outer, s.heap⟩ Φ) s
section
variable {w : World} {A A' B : Around} {cs : List (Str × Addr)} {hz : Bool} {base : Eo} {outer : List Env} {g : Heap} {n : Nat} {L : Addr} {env : Env} {ks : List Str} {gt : List (Str × Value)} {m m' : Loc} {l l' : Led} {s : Shared}
 {Q : Value → Shared → Prop} {E : Value → Shared → Prop} {QB : Bool → Shared → Prop} {QU : Unit → Shared → Prop} {QF : Flow → Shared → Prop} {x : Str} {v : Value} {pos : Pos} {a : Addr} {t u : Tok} {o : Obj} {e : Expr} {es : List Expr} {f : Addr} {vs : List Value}
theorem cw_f (V : Vw w A base outer n g L env ks gt cs B hz) {i : Fi} (I : FiOk i) (S : St g base L ks m l s)
  (h : wpAny (M w) A' (spliced (backTo pos (starEach (e :: es) env))) (fun vs s₁ => (∃ m' l', St g base L ks m' l' s₁) ∧ wpAny (M w) A' (call (.ref f) vs) Q E s₁) E s)
  (hf : i.f = f := by with_unfolding_all rfl) (he : starEach (e :: es) env = (false, eval e env) :: starEach es env := by with_unfolding_all rfl) :
  wpAny (M w) A' (callWith pos (.ref f) [] (backTo pos (starEach (e :: es) env)) []) Q E s := by subst hf; exact cw_fn V I h he
theorem Vw.spec (V : Vw w A base outer n g L env ks gt cs B hz) (hz' : hz = true) (S : St g base L ks m l s) {Φ : Value → Led → Prop} {pre : Heap → Prop} {k : Nat} (sp : Spec w k f vs pre Φ) (hk : k ≤ n) (hp : ∀ g', (∀ p ∈ l, g'.get? p.1 = some p.2) → g.StaysIn g' → pre g')
  (h : ∀ v l' s', Φ v l' → St g base L ks m (l' ++ l) s' → Q v s') : wpAny (M w) B (PySem.call (.ref f) vs) Q E s :=
 V.calls hz' S .nil (fun frs g' C H _ hg hR hG => sp _ _ g' _ (C.le hk) H hg (hp g' hR hG)) h
theorem enter0 {i : Fi} {P : Led} {args : Args} {Φ : Value → Led → Prop} (binds : List (Str × Value)) (r : List Str) (C : Cx w A ⟨s.os, outer, s.heap⟩ outer g (n + 1)) (H : Hp g s.heap P) (hz : ∀ p ∈ P, p.1 ∉ fro outer) (hg : s.gens = #[]) (I : FiOk i) (hcell : noCell i = true)
  (hbind : bindArgs (fdX i.fn i.q [] i.dV i.pm i.c .none) args = pure binds) (hks : binds.map (·.1) ++ r = i.ks)
  (h : ∀ L env s', Vw w A ⟨s.os, outer, s.heap⟩ outer n g L env i.ks i.gt [] (A.deeper env) true → St g ⟨s.os, outer, s.heap⟩ L i.ks (unb binds r) P s' → wpAny (M w) (A.deeper env) (execs i.fn.body env)
    (fun fl s' => Meets g ⟨s.os, outer, s.heap⟩ Φ (.ok (.ret (match fl with | .ret v => v | _ => .none))) s') (fun _ _ => False) s') :
  codeAny (M w) A (.call (.ref i.f) args) (Meets g ⟨s.os, outer, s.heap⟩ Φ) s :=
 enter i binds r C H hz hg I hcell hbind hks fun L env s' _ V S => wpAny_mono (h L env s' V S) (fun _ _ x => x) fun _ _ x => x.elim
end
theorem spec_of {w : World} {n : Nat} {i : Fi} {vals : List Value} {pre : Heap → Prop} {Φ : Value → Led → Prop} {f : Addr} (binds : List (Str × Value)) (r : List Str) (I : FiOk i) (hf : i.f = f) (hcell : noCell i = true)
  (hbind : bindArgs (fdX i.fn i.q [] i.dV i.pm i.c .none) ⟨vals, []⟩ = pure binds) (hks : binds.map (·.1) ++ r = i.ks)
  (h : ∀ A base outer g L env s, pre g → Vw w A base outer n g L env i.ks i.gt [] (A.deeper env) true → St g base L i.ks (unb binds r) [] s → wpAny (M w) (A.deeper env) (execs i.fn.body env)
    (fun fl s' => Meets g base Φ (.ok (.ret (match fl with | .ret v => v | _ => .none))) s') (fun _ _ => False) s) : Spec w (n + 1) f vals pre Φ := by
 subst hf
 intro A outer g s C H hg hp
 exact enter0 binds r C H (fun _ h => nomatch h) hg I hcell hbind hks fun L env s' V S => h A _ outer g L env s' hp V S
end
section
structure Fx where
 w : World
 A : Around
 base : Eo
 outer : List Env
 n : Nat
 g : Heap
 L : Addr
 env : Env
 ks : List Str
 gt : List (Str × Value)
 X : Value → Shared → Prop
 cs : List (Str × Addr)
 A' : Around
 hz : Bool
noncomputable def Fx.wg (c : Fx) (gt : List (Str × Value)) : Fx := { c with gt := gt }
noncomputable def FT (a b : Prop) : Prop := a = b → b → a
noncomputable def Fx.V (c : Fx) : Prop := Vw c.w c.A c.base c.outer c.n c.g c.L c.env c.ks c.gt c.cs c.A' c.hz
structure Fx.Fn (c : Fx) : Prop where
 hz : c.hz = true
 A' : c.A' = c.A.deeper c.env
 fr : c.env.frame = some c.L
noncomputable def Fx.LpX (c : Fx) : Prop := ∀ (E : Value → Shared → Prop) e s, c.X e s → (∀ e s, c.X e s → E e s) → notedBy (M c.w) c.A' c.env (cameBackBy (M c.w) c.A' c.env E) e s
noncomputable abbrev Fx.S (c : Fx) (m : Loc) (l : Led) (s : Shared) : Prop := St c.g c.base c.L c.ks m l s
noncomputable abbrev KV (α : Type) := α → Loc → Led → Prop
noncomputable def Ob {α : Type} (c : Fx) (t : Sem α) (K : KV α) (m : Loc) (l : Led) : Prop :=
 ∀ (Q : α → Shared → Prop) (E : Value → Shared → Prop) (s : Shared), c.S m l s → (∀ v m' l' s', K v m' l' → c.S m' l' s' → Q v s') → (∀ e s', c.X e s' → E e s') → wpAny (M c.w) c.A' t Q E s
theorem Ob.mono {α : Type} {c : Fx} {t : Sem α} {K K' : KV α} {m : Loc} {l : Led} (h : Ob c t K m l) (hk : ∀ v m l, K v m l → K' v m l) : Ob c t K' m l :=
 fun Q E s S k x => h Q E s S (fun v m' l' s' q => k v m' l' s' (hk v m' l' q)) x
noncomputable abbrev slcO (a b d : Value) : Obj := { cls := .type "slice", data := .fields #[a, b, d] }
noncomputable def ek (e : Expr) : Nat := e.ctorIdx
noncomputable def isSet (e : Expr) : Bool := ek e == 7
noncomputable def isSlc (e : Expr) : Bool := ek e == 26
noncomputable def isComp (e : Expr) : Bool := ek e == 8 || (ek e == 9 || ek e == 10)
noncomputable def isCall (e : Expr) : Bool := ek e == 16
noncomputable def isStar (e : Expr) : Bool := ek e == 22
noncomputable def fiTab : List (Addr × Fi) := [(28, fi_S_IMODE), (35, fi_S_IFMT), (42, fi_S_ISDIR), (82, fi_filemode), (89, fi_read_uint1), (96, fi_read_string1), (103, fi_read_bytes1), (251, fi_law_stream), (258, fi_law_drawn), (265, fi_law_tape), (272, fi_law_things), (279, fi_law_record), (286, fi_law_records), (293, fi_law_sorter), (298, fi_law_made), (305, fi_law_row), (312, fi_law_ups), (317, fi_law_due), (322, fi_law_told_right), (329, fi_law_refused), (334, fi_law_end_right)]
noncomputable def fiOf (r : Addr) : Option Fi := fiTab.lookup r
noncomputable def conOf (e : Expr) : Option Const := by
 cases e with
 | Constant f _ _ => exact some f
 | _ => exact none
noncomputable def nameOf (e : Expr) : Option Str := by
 cases e with
 | Name x _ => exact some x
 | _ => exact none
section
variable (c : Fx)
noncomputable def vGet (m : Loc) (x : Str) (pos : Pos) (K : KV Value) (l : Led) : Prop := match m.lookup x with
 | some (some v) => K v m l
 | some none => False
 | none => match c.gt.lookup x with
  | some v => K v m l
  | none => Ob c (eval (.Name x pos) c.env) K m l
noncomputable def put (m : Loc) (x : Str) (v : Value) : Loc := match m with
 | [] => []
 | (y, o) :: m => match x == y with | true => (y, some v) :: m | false => (y, o) :: put m x v
noncomputable def hasK (m : Loc) (x : Str) : Bool := (m.lookup x).isSome
noncomputable def vSto (x : Str) (v : Value) (K : Loc → Led → Prop) (m : Loc) (l : Led) : Prop := match hasK m x with
 | true => K (put m x v) l
 | false => Ob c (storeName c.env x v) (fun _ => K) m l
noncomputable def vBin (op : Operator) (v u : Value) (K : KV Value) (m : Loc) (l : Led) : Prop := match v, u, op with
 | .int a _, .int b _, .Add => ∀ t, K (.int (a + b) t) m l
 | .int a _, .int b _, .Sub => ∀ t, K (.int (a - b) t) m l
 | .int a _, .int b _, .Mult => (-(2 ^ 60) < a ∧ a < 2 ^ 60) ∧ ∀ t, K (.int (a * b) t) m l
 | .int a _, .int b _, .Mod => 0 < b ∧ ∀ t, K (.int (a % b) t) m l
 | .int a _, .int b _, .FloorDiv => (0 < b ∧ b < 1073741824) ∧ ∀ t, K (.int (a / b) t) m l
 | .int a _, .int b _, .BitAnd => ∀ t, K (.int (Builtin.bitAnd a b) t) m l
 | .int a _, .int b _, .BitOr => ∀ t, K (.int (Builtin.bitOr a b) t) m l
 | .str x _, .str y _, .Add => x.length + y.length ≤ 16777216 ∧ ∀ t, K (.str (x ++ y) t) m l
 | _, _, _ => Ob c (binaryOp op v u) K m l
noncomputable def vCmp (op : CmpOp) (v u : Value) (K : KV Value) (m : Loc) (l : Led) : Prop := match v, u, op with
 | .int a _, .int b _, .Eq => K (.bool (a == b)) m l
 | .int a _, .int b _, .NotEq => K (.bool (a != b)) m l
 | .int a _, .int b _, .Lt => K (.bool (decide (a < b))) m l
 | .int a _, .int b _, .Gt => K (.bool (decide (b < a))) m l
 | .int a _, .int b _, .GtE => K (.bool (decide (b ≤ a))) m l
 | _, _, _ => Ob c (compareOp op v u) K m l
noncomputable def vTr (v : Value) (K : KV Bool) (m : Loc) (l : Led) : Prop := match v with
 | .bool b => K b m l
 | .int a _ => K (a != 0) m l
 | v => Ob c (truthy v) K m l
noncomputable def vUn (op : UnaryOp) (v : Value) (K : KV Value) (m : Loc) (l : Led) : Prop := match v, op with
 | .int a _, .USub => ∀ t, K (.int (-a) t) m l
 | _, _ => Ob c (unaryOp op v) K m l
noncomputable def vSub (e e' : Expr) (v u : Value) (K : KV Value) (m : Loc) (l : Led) : Prop := match v, u, isSlc e' with
 | .str x _, .int i _, false => (fitsSsize i = true ∧ (Txt.charAt x i).isSome = true) ∧ ∀ t, K (.str (Txt.item x i) t) m l
 | v, u, _ => Ob c (subscriptTail e e' v u) K m l
noncomputable def vCall (pos : Pos) (f : Value) (args : List Expr) (vargs : (List Value → Loc → Led → Prop) → Loc → Led → Prop) (K : KV Value) (m : Loc) (l : Led) : Prop := match f, args.any isStar, args.isEmpty with
 | .builtin id, false, false => vargs (fun vs => Ob c (call (.builtin id) vs) K) m l
 | .type T, false, false => vargs (fun vs => Ob c (call (.type T) vs) K) m l
 | .ref r, false, false => match (fiOf r).isSome with
  | true => vargs (fun vs => Ob c (call (.ref r) vs) K) m l
  | false => Ob c (callWith pos f [] (backTo pos (starEach args c.env)) []) K m l
 | f, _, _ => Ob c (callWith pos f [] (backTo pos (starEach args c.env)) []) K m l
noncomputable def vMeth (pos : Pos) (ov : Value) (name : Str) (args : List Expr) (K : KV Value) (m : Loc) (l : Led) : Prop :=
 ∀ pl, Ob c (getMethod ov name pl) (fun z m l => Ob c (callWith pos z.1 z.2 (backTo pos (starEach args c.env)) []) K m l) m l
noncomputable def few (es : List Expr) : Bool := Nat.ble es.length 3
noncomputable def okMeth (o : Expr) (args : List Expr) (p pos : Pos) : Bool := !isCall o && (!args.any isStar && (few args && (p.endLine == pos.line)))
end
mutual
noncomputable def vE (c : Fx) : Expr → KV Value → Loc → Led → Prop
 | .Constant (.int i) _ _, K, m, l => ∀ t, K (.int i t) m l
 | .Constant (.str x) _ _, K, m, l => ∀ t, K (.str x t) m l
 | .Constant .none _ _, K, m, l => K .none m l
 | .Constant (.bool b) _ _, K, m, l => K (.bool b) m l
 | .Name x pos, K, m, l => vGet c m x pos K l
 | .BinOp a op b _, K, m, l => vE c a (fun v m l => vE c b (fun u m l => vBin c op v u K m l) m l) m l
 | .UnaryOp op a _, K, m, l => vE c a (fun v m l => vUn c op v K m l) m l
 | .Compare a [op] [b] pos, K, m, l => match isSet b with
  | false => vE c a (fun v m l => vE c b (fun u m l => vCmp c op v u K m l) m l) m l
  | true => Ob c (eval (.Compare a [op] [b] pos) c.env) K m l
 | .IfExp t a b _, K, m, l => match conOf a, conOf b with
  | some (.str x), some (.str y) => vT c t (vE c t) (fun b m l => ∀ tk, K (.str (if b = true then x else y) tk) m l) m l
  | some (.int x), some (.int y) => vT c t (vE c t) (fun b m l => ∀ tk, K (.int (if b = true then x else y) tk) m l) m l
  | _, _ => vT c t (vE c t) (fun z m l => (z = true → vE c a K m l) ∧ (z = false → vE c b K m l)) m l
 | .Subscript a b _, K, m, l => vE c a (fun v m l => vE c b (fun u m l => vSub c a b v u K m l) m l) m l
 | .List es _, K, m, l => match es.any isStar with
  | false => vAs c es (fun vs m l => vs.length ≤ 16777216 ∧ ∀ a, K (.ref a) m ((a, lst vs 0) :: l)) m l
  | true => Ob c (eval (.List es default) c.env) K m l ∧ False
 | .Tuple es _ _, K, m, l => match es.any isStar with
  | false => vAs c es (fun vs m l => vs.length ≤ 16777216 ∧ ∀ a, K (.ref a) m ((a, tup vs) :: l)) m l
  | true => False
 | .Call (.Name x p) args [] pos, K, m, l => vGet c m x p (fun f m l => vCall c pos f args (vAs c args) K m l) l
 | .Call (.Attribute o name p) args [] pos, K, m, l => match okMeth o args p pos with
  | true => vE c o (fun ov m l => vMeth c pos ov name args K m l) m l
  | false => Ob c (eval (.Call (.Attribute o name p) args [] pos) c.env) K m l
 | .Dict [] [] _, K, m, l => ∀ a, K (.ref a) m ((a, emptyDict) :: l)
 | .Attribute o x p, K, m, l => match isCall o with
  | false => vE c o (fun ov m l => Ob c (getAttr ov x true) K m l) m l
  | true => Ob c (eval (.Attribute o x p) c.env) K m l
 | .Slice lo up sp _, K, m, l => vO c lo (fun a m l => vO c up (fun b m l => vO c sp (fun d m l => ∀ r, K (.ref r) m ((r, slcO a b d) :: l)) m l) m l) m l
 | .NamedExpr t e p, K, m, l => match nameOf t with
  | some x => vE c e (fun v m l => vSto c x v (fun m l => K v m l) m l) m l
  | none => Ob c (eval (.NamedExpr t e p) c.env) K m l
 | e, K, m, l => Ob c (eval e c.env) K m l
noncomputable def vO (c : Fx) : Option Expr → KV Value → Loc → Led → Prop
 | none, K, m, l => K .none m l
 | some e, K, m, l => vE c e K m l
noncomputable def vT (c : Fx) : Expr → (KV Value → Loc → Led → Prop) → KV Bool → Loc → Led → Prop
 | .UnaryOp .Not e _, _, K, m, l => vT c e (vE c e) (fun b m l => K (!b) m l) m l
 | .BoolOp .And es _, _, K, m, l => vAnd c es K m l
 | .BoolOp .Or es _, _, K, m, l => vOr c es K m l
 | .Compare a [op] [b] pos, whole, K, m, l => match isSet b with
  | false => vE c a (fun v m l => vE c b (fun u m l => vCmp c op v u (fun v m l => vTr c v K m l) m l) m l) m l
  | true => Ob c (PySem.isTrue (.Compare a [op] [b] pos) c.env (eval (.Compare a [op] [b] pos) c.env)) K m l
 | .Name x pos, whole, K, m, l => whole (fun v m l => vTr c v K m l) m l
 | .Constant f x pos, whole, K, m, l => whole (fun v m l => vTr c v K m l) m l
 | .Call f as ks pos, whole, K, m, l => whole (fun v m l => vTr c v K m l) m l
 | .Attribute a x pos, whole, K, m, l => whole (fun v m l => vTr c v K m l) m l
 | .Subscript a x pos, whole, K, m, l => whole (fun v m l => vTr c v K m l) m l
 | e, _, K, m, l => Ob c (PySem.isTrue e c.env (eval e c.env)) K m l
noncomputable def vAnd (c : Fx) : List Expr → KV Bool → Loc → Led → Prop
 | [], K, m, l => K true m l
 | e :: es, K, m, l => vT c e (vE c e) (fun b m l => (b = true → vAnd c es K m l) ∧ (b = false → K false m l)) m l
noncomputable def vOr (c : Fx) : List Expr → KV Bool → Loc → Led → Prop
 | [], K, m, l => K false m l
 | e :: es, K, m, l => vT c e (vE c e) (fun b m l => (b = true → K true m l) ∧ (b = false → vOr c es K m l)) m l
noncomputable def vAs (c : Fx) : List Expr → KV (List Value) → Loc → Led → Prop
 | [], K, m, l => K [] m l
 | e :: es, K, m, l => vE c e (fun v m l => vAs c es (fun vs m l => K (v :: vs) m l) m l) m l
end
end
section
section
variable {c : Fx} {K : KV Value} {KB : KV Bool} {m : Loc} {l : Led} {e a b o : Expr} {es : List Expr} {pos p : Pos} {x : Str} {α β : Type}
theorem lookup_mem {α β : Type} [BEq α] [LawfulBEq α] {m : List (α × β)} {x : α} {v : β} (h : m.lookup x = some v) : (x, v) ∈ m := by
 (refine e2_2 (List.lookup_eq_some_iff.mp h) ?_; intro a b e _)
 rw [e]; simp
theorem fiTab_ok : ∀ p ∈ fiTab, FiOk p.2 ∧ p.2.f = p.1 := List.forall_mem_cons.2 ⟨⟨fi_S_IMODE_ok, rfl⟩, List.forall_mem_cons.2 ⟨⟨fi_S_IFMT_ok, rfl⟩, List.forall_mem_cons.2 ⟨⟨fi_S_ISDIR_ok, rfl⟩, List.forall_mem_cons.2 ⟨⟨fi_filemode_ok, rfl⟩, List.forall_mem_cons.2 ⟨⟨fi_read_uint1_ok, rfl⟩, List.forall_mem_cons.2 ⟨⟨fi_read_string1_ok, rfl⟩, List.forall_mem_cons.2 ⟨⟨fi_read_bytes1_ok, rfl⟩, List.forall_mem_cons.2 ⟨⟨fi_law_stream_ok, rfl⟩, List.forall_mem_cons.2 ⟨⟨fi_law_drawn_ok, rfl⟩, List.forall_mem_cons.2 ⟨⟨fi_law_tape_ok, rfl⟩, List.forall_mem_cons.2 ⟨⟨fi_law_things_ok, rfl⟩, List.forall_mem_cons.2 ⟨⟨fi_law_record_ok, rfl⟩, List.forall_mem_cons.2 ⟨⟨fi_law_records_ok, rfl⟩, List.forall_mem_cons.2 ⟨⟨fi_law_sorter_ok, rfl⟩, List.forall_mem_cons.2 ⟨⟨fi_law_made_ok, rfl⟩, List.forall_mem_cons.2 ⟨⟨fi_law_row_ok, rfl⟩, List.forall_mem_cons.2 ⟨⟨fi_law_ups_ok, rfl⟩, List.forall_mem_cons.2 ⟨⟨fi_law_due_ok, rfl⟩, List.forall_mem_cons.2 ⟨⟨fi_law_told_right_ok, rfl⟩, List.forall_mem_cons.2 ⟨⟨fi_law_refused_ok, rfl⟩, List.forall_mem_cons.2 ⟨⟨fi_law_end_right_ok, rfl⟩, fun _ h => nomatch h⟩⟩⟩⟩⟩⟩⟩⟩⟩⟩⟩⟩⟩⟩⟩⟩⟩⟩⟩⟩⟩
theorem fiOf_ok {r : Addr} {i : Fi} (h : fiOf r = some i) : FiOk i ∧ i.f = r := fiTab_ok _ (lookup_mem h)
theorem fi_28 : fiOf 28 = some fi_S_IMODE := rfl
theorem fi_35 : fiOf 35 = some fi_S_IFMT := rfl
theorem fi_42 : fiOf 42 = some fi_S_ISDIR := rfl
theorem fi_82 : fiOf 82 = some fi_filemode := rfl
theorem fi_89 : fiOf 89 = some fi_read_uint1 := rfl
theorem fi_96 : fiOf 96 = some fi_read_string1 := rfl
theorem fi_103 : fiOf 103 = some fi_read_bytes1 := rfl
theorem fi_251 : fiOf 251 = some fi_law_stream := rfl
theorem fi_258 : fiOf 258 = some fi_law_drawn := rfl
theorem fi_265 : fiOf 265 = some fi_law_tape := rfl
theorem fi_272 : fiOf 272 = some fi_law_things := rfl
theorem fi_279 : fiOf 279 = some fi_law_record := rfl
theorem fi_286 : fiOf 286 = some fi_law_records := rfl
theorem fi_293 : fiOf 293 = some fi_law_sorter := rfl
theorem fi_298 : fiOf 298 = some fi_law_made := rfl
theorem fi_305 : fiOf 305 = some fi_law_row := rfl
theorem fi_312 : fiOf 312 = some fi_law_ups := rfl
theorem fi_317 : fiOf 317 = some fi_law_due := rfl
theorem fi_322 : fiOf 322 = some fi_law_told_right := rfl
theorem fi_329 : fiOf 329 = some fi_law_refused := rfl
theorem fi_334 : fiOf 334 = some fi_law_end_right := rfl
theorem put_ok {v : Value} : ∀ {m : Loc}, hasK m x = true → SetAt x (some v) m (put m x v)
 | [], h => by simp [hasK] at h
 | (y, o) :: m, h => by
  unfold put
  cases q : (x == y) with
  | true => have := beq_iff_eq.mp q; subst this; exact .here
  | false =>
   refine .there (put_ok ?_)
   unfold hasK at h ⊢
   rw [List.lookup_cons, q] at h
   exact h
theorem vGet_ok (hV : c.V) {pos : Pos} (h : vGet c m x pos K l) : Ob c (eval (.Name x pos) c.env) K m l := by
 unfold vGet at h
 cases q : m.lookup x with
 | some y => cases y with
  | some v => rw [q] at h; exact fun Q E s S k x => n_loc hV S (lookup_mem q) (k _ _ _ _ h S)
  | none => rw [q] at h; exact h.elim
 | none =>
  rw [q] at h
  dsimp only at h
  cases q' : c.gt.lookup x with
  | some v => rw [q'] at h; exact fun Q E s S k x => n_glo hV S (lookup_mem q') (k _ _ _ _ h S)
  | none => rw [q'] at h; exact h
theorem vSto_ok (hV : c.V) {v : Value} {K : Loc → Led → Prop} (h : vSto c x v K m l) : Ob c (storeName c.env x v) (fun _ => K) m l := by
 unfold vSto at h
 cases q : hasK m x with
 | true => rw [q] at h; exact fun Q E s S k x => s_loc hV S (put_ok q) fun s' S' => k _ _ _ _ h S'
 | false => rw [q] at h; exact h
theorem vBin_ok {op : Operator} {v u : Value} (h : vBin c op v u K m l) : Ob c (binaryOp op v u) K m l := by
 cases v with
 | int a t => cases u with
  | int b t2 => cases op with
   | Add => exact fun Q E s S k x => i_add S fun t s' S' => k _ _ _ _ (h t) S'
   | Sub => exact fun Q E s S k x => i_sub S fun t s' S' => k _ _ _ _ (h t) S'
   | Mult => exact fun Q E s S k x => i_mul S h.1.1 h.1.2 fun t s' S' => k _ _ _ _ (h.2 t) S'
   | Mod => exact fun Q E s S k x => i_mod S h.1 fun t s' S' => k _ _ _ _ (h.2 t) S'
   | FloorDiv => exact fun Q E s S k x => i_div S h.1.1 h.1.2 fun t s' S' => k _ _ _ _ (h.2 t) S'
   | BitAnd => exact fun Q E s S k x => i_and S fun t s' S' => k _ _ _ _ (h t) S'
   | BitOr => exact fun Q E s S k x => i_or S fun t s' S' => k _ _ _ _ (h t) S'
   | _ => delta vBin at h; exact h
  | _ => delta vBin at h; exact h
 | str x t => cases u with
  | str y t2 => cases op with
   | Add => exact fun Q E s S k x => a_str S h.1 fun t s' S' => k _ _ _ _ (h.2 t) S'
   | _ => delta vBin at h; exact h
  | _ => delta vBin at h; exact h
 | _ => delta vBin at h; exact h
theorem vCmp_ok {op : CmpOp} {v u : Value} (h : vCmp c op v u K m l) : Ob c (compareOp op v u) K m l := by
 cases v with
 | int a t => cases u with
  | int b t2 => cases op with
   | Eq => exact fun Q E s S k x => i_eq (k _ _ _ _ h S)
   | NotEq => exact fun Q E s S k x => i_ne (k _ _ _ _ h S)
   | Lt => exact fun Q E s S k x => i_lt (k _ _ _ _ h S)
   | Gt => exact fun Q E s S k x => i_gt (k _ _ _ _ h S)
   | GtE => exact fun Q E s S k x => i_ge (k _ _ _ _ h S)
   | _ => delta vCmp at h; exact h
  | _ => delta vCmp at h; exact h
 | _ => delta vCmp at h; exact h
theorem vTr_ok {v : Value} (h : vTr c v KB m l) : Ob c (truthy v) KB m l := by
 cases v with
 | bool b => exact fun Q E s S k x => tr_bool (k _ _ _ _ h S)
 | int a t => exact fun Q E s S k x => tr_int (k _ _ _ _ h S)
 | _ => delta vTr at h; exact h
theorem vUn_ok {op : UnaryOp} {v : Value} (h : vUn c op v K m l) : Ob c (unaryOp op v) K m l := by
 cases v with
 | int a t => cases op with
  | USub => exact fun Q E s S k x => i_neg S fun t s' S' => k _ _ _ _ (h t) S'
  | _ => delta vUn at h; exact h
 | _ => delta vUn at h; exact h
theorem vSub_ok {v u : Value} (h : vSub c a b v u K m l) : Ob c (subscriptTail a b v u) K m l := by
 cases v with
 | str y t => cases u with
  | int i tk =>
   unfold vSub at h
   cases q : isSlc b with
   | true => rw [q] at h; exact h
   | false =>
    rw [q] at h
    refine fun Q E s S k x => sub_str S h.1.1 h.1.2 (fun t s' S' => k _ _ _ _ (h.2 t) S') ?_
    cases b <;> first | rfl | cases q
  | _ => delta vSub at h; exact h
 | _ => delta vSub at h; exact h
theorem ob_bin {op : Operator} (h : Ob c (eval a c.env) (fun v m l => Ob c (eval b c.env) (fun u m l => Ob c (binaryOp op v u) K m l) m l) m l) : Ob c (eval (.BinOp a op b pos) c.env) K m l :=
 fun Q E s S k x => x_bin (h _ E s S (fun v m' l' s' h' S' => h' _ E s' S' (fun u m'' l'' s'' h'' S'' => h'' Q E s'' S'' k x) x) x)
theorem ob_cmp {op : CmpOp} (hb : behindInMarks op b = false) (h : Ob c (eval a c.env) (fun v m l => Ob c (eval b c.env) (fun u m l => Ob c (compareOp op v u) K m l) m l) m l) : Ob c (eval (.Compare a [op] [b] pos) c.env) K m l :=
 fun Q E s S k x => x_cmp (h _ E s S (fun v m' l' s' h' S' => h' _ E s' S' (fun u m'' l'' s'' h'' S'' => h'' Q E s'' S'' k x) x) x) hb
theorem ob_tcmp {op : CmpOp} {wh : Sem Value} (hb : behindInMarks op b = false) (h : Ob c (eval a c.env) (fun v m l => Ob c (eval b c.env) (fun u m l => Ob c (compareOp op v u) (fun z m l => Ob c (truthy z) KB m l) m l) m l) m l) : Ob c (PySem.isTrue (.Compare a [op] [b] pos) c.env wh) KB m l :=
 fun Q E s S k x => x_tcmp (h _ E s S (fun v m' l' s' h' S' => h' _ E s' S' (fun u m'' l'' s'' h'' S'' => h'' _ E s'' S'' (fun z m3 l3 s3 h3 S3 => h3 Q E s3 S3 k x) x) x) x) hb
theorem ob_un {op : UnaryOp} (h : Ob c (eval a c.env) (fun v m l => Ob c (unaryOp op v) K m l) m l) : Ob c (eval (.UnaryOp op a pos) c.env) K m l :=
 fun Q E s S k x => x_un (h _ E s S (fun v m' l' s' h' S' => h' Q E s' S' k x) x)
theorem ob_sub (h : Ob c (eval a c.env) (fun v m l => Ob c (eval b c.env) (fun u m l => Ob c (subscriptTail a b v u) K m l) m l) m l) : Ob c (eval (.Subscript a b pos) c.env) K m l :=
 fun Q E s S k x => x_sub (h _ E s S (fun v m' l' s' h' S' => h' _ E s' S' (fun u m'' l'' s'' h'' S'' => h'' Q E s'' S'' k x) x) x)
theorem ob_ife (h : Ob c (PySem.isTrue e c.env (eval e c.env)) (fun z m l => (z = true → Ob c (eval a c.env) K m l) ∧ (z = false → Ob c (eval b c.env) K m l)) m l) : Ob c (eval (.IfExp e a b pos) c.env) K m l :=
 fun Q E s S k x => x_ife (h _ E s S (fun z m' l' s' h' S' => ⟨fun q => h'.1 q Q E s' S' k x, fun q => h'.2 q Q E s' S' k x⟩) x)
theorem ob_tval (h : Ob c (eval e c.env) (fun v m l => Ob c (truthy v) KB m l) m l) (hq : PySem.isTrue e c.env (eval e c.env) = (do let v ← eval e c.env; standAt e.pos; holding [v] (truthy v))) : Ob c (PySem.isTrue e c.env (eval e c.env)) KB m l :=
 fun Q E s S k x => x_tval (h _ E s S (fun v m' l' s' h' S' => h' Q E s' S' k x) x) hq
theorem any_star {e : Expr} {es : List Expr} (h : (e :: es).any isStar = false) : (starEach (e :: es) c.env = (false, eval e c.env) :: starEach es c.env) ∧ es.any isStar = false := by
 rw [List.any_cons, Bool.or_eq_false_iff] at h
 refine ⟨?_, h.2⟩
 cases e <;> first | rfl | (exfalso; exact Bool.noConfusion (h.1 : true = false))
theorem any_back {es : List Expr} (h : es.any isStar = false) : (backTo pos (starEach es c.env)).any (·.1) = false := by
 induction es with
 | nil => rfl
 | cons e es ih =>
  have := any_star (c := c) h
  rw [this.1]
  exact ih this.2
end
theorem call_ok {c : Fx} (hV : c.V) {x : Str} {p pos : Pos} {args : List Expr} {K : KV Value} {m : Loc} {l : Led}
  (ih : ∀ (K : KV (List Value)) (m : Loc) (l : Led) (pos : Pos), args.any isStar = false → vAs c args K m l → Ob c (spliced (backTo pos (starEach args c.env))) K m l)
  (h : vGet c m x p (fun f m l => vCall c pos f args (vAs c args) K m l) l) : Ob c (eval (.Call (.Name x p) args [] pos) c.env) K m l := by
 have cw : ∀ f m l, vCall c pos f args (vAs c args) K m l → Ob c (callWith pos f [] (backTo pos (starEach args c.env)) []) K m l := by
  intro f m l h
  cases args with
  | nil => cases f <;> exact h
  | cons e es =>
  unfold vCall at h
  cases q1 : (e :: es).any isStar with
  | true => rw [q1] at h; cases f <;> exact h
  | false =>
  rw [q1] at h
  have st := any_star (c := c) q1
  cases f with
  | builtin id => exact fun Q E s S k x => cw_b _ (ih _ _ _ pos q1 h _ E s S (fun vs m' l' s' h' S' => by rw [List.nil_append]; exact h' Q E s' S' k x) x) st.1 (any_back st.2)
  | type T => exact fun Q E s S k x => cw_t (ih _ _ _ pos q1 h _ E s S (fun vs m' l' s' h' S' => h' Q E s' S' k x) x) st.1 (any_back st.2)
  | ref r =>
   cases q3 : fiOf r with
   | none => dsimp only [List.isEmpty] at h; rw [q3] at h; exact h
   | some i =>
    dsimp only [List.isEmpty] at h
    rw [q3] at h
    (refine e0_2 (fiOf_ok q3) ?_; intro I hf)
    exact fun Q E s S k x => cw_f hV I S (ih _ _ _ pos q1 h _ E s S (fun vs m' l' s' h' S' => ⟨⟨_, _, S'⟩, h' Q E s' S' k x⟩) x) hf st.1
  | _ => exact h
 exact fun Q E s S k x => x_call (vGet_ok hV h _ E s S (fun f m' l' s' h' S' => cw f m' l' h' Q E s' S' k x) x)
theorem back_all {c : Fx} {pos : Pos} {es : List Expr} (h : es.any isStar = false) : (backTo pos (starEach es c.env)).all (fun x => !x.1) = true := by
 have := any_back (c := c) (pos := pos) h
 rw [List.any_eq_false] at this
 rw [List.all_eq_true]
 intro x hx
 simpa using this x hx
theorem few_lt {args : List Expr} (h : few args = true) : args.length < 30 := Nat.lt_of_le_of_lt (Nat.le_of_ble_eq_true h) (by decide)
theorem meth_ok {c : Fx} {o : Expr} {name : Str} {p pos : Pos} {args : List Expr} {K : KV Value} {m : Loc} {l : Led} (q : okMeth o args p pos = true)
  (h : Ob c (eval o c.env) (fun ov m l => vMeth c pos ov name args K m l) m l) : Ob c (eval (.Call (.Attribute o name p) args [] pos) c.env) K m l := by
 unfold okMeth at q
 simp only [Bool.and_eq_true, Bool.not_eq_true'] at q
 (refine e0_4 q ?_; clear q; intro q1 q2 q3 q4)
 have hbase : attributeBase o name c.env (eval o c.env) = eval o c.env := by cases o <;> first | rfl | cases q1
 have hform : methodCallForm (args.length + ([] : List Keyword).length) (backTo pos (starEach args c.env)) (backToKw pos (keywordEach [] c.env)) = true := by
  unfold methodCallForm
  rw [back_all q2]
  have hk : (backToKw pos (keywordEach [] c.env)) = [] := rfl
  rw [hk]
  simp only [List.all_nil, Bool.true_and, List.isEmpty_nil, if_true, List.length_nil, Nat.add_zero, decide_eq_true_eq]
  exact few_lt q3
 have hpos : methodCallPos true o c.env p pos = pure pos := by unfold methodCallPos; simp [q4]
 intro Q E s S k x
 rw [arm_eval_Call, hbase]
 refine wpAny_bind (h _ E s S (fun ov m' l' s' h' S' => ?_) x)
 refine wpAny_bind (wpAny_standAt ?_)
 unfold methodCall
 rw [hform, hpos]
 refine wpAny_bind (wpAny_holding ?_)
 unfold calleeOf
 simp only [if_true]
 exact h' (do return (← importBound o c.env).getD true) _ E s' S' (fun fx m'' l'' s₁ h₁ S'' => wpAny_bind (wpAny_pure (h₁ Q E s₁ S'' k x))) x
section
variable {c : Fx} {K : KV Value} {KB : KV Bool} {KF : KV Flow} {KL : KV (List Value)} {m : Loc} {l : Led} {e a b d o t : Expr} {es as : List Expr} {ks : List Keyword} {gs : List Comprehension} {pos p : Pos} {x y z : Str} {i : Int} {q : Bool} {u : Nat} {op op2 : Operator} {cp cp2 : CmpOp} {cps : List CmpOp} {uo : UnaryOp} {ec : ExprCtx} {sc : Scope} {W : KV Value → Loc → Led → Prop} {oe oe1 oe2 : Option Expr}
theorem vE_int : vE c (.Constant (.int i) u p) K m l = ∀ t, K (.int i t) m l := rfl
theorem vE_str : vE c (.Constant (.str x) u p) K m l = ∀ t, K (.str x t) m l := rfl
theorem vE_none : vE c (.Constant .none u p) K m l = K .none m l := rfl
theorem vE_bool : vE c (.Constant (.bool q) u p) K m l = K (.bool q) m l := rfl
theorem vE_byt {f} : vE c (.Constant (.bytes f) u p) K m l = Ob c (eval (.Constant (.bytes f) u p) c.env) K m l := rfl
theorem vE_name : vE c (.Name x pos) K m l = vGet c m x pos K l := rfl
theorem vE_bin : vE c (.BinOp a op b p) K m l = vE c a (fun v m l => vE c b (fun u m l => vBin c op v u K m l) m l) m l := rfl
theorem vE_un : vE c (.UnaryOp uo a p) K m l = vE c a (fun v m l => vUn c uo v K m l) m l := rfl
theorem vE_cmp : vE c (.Compare a [cp] [b] pos) K m l = match isSet b with
  | false => vE c a (fun v m l => vE c b (fun u m l => vCmp c cp v u K m l) m l) m l
  | true => Ob c (eval (.Compare a [cp] [b] pos) c.env) K m l := rfl
theorem vE_ife : vE c (.IfExp t a b p) K m l = match conOf a, conOf b with
  | some (.str x), some (.str y) => vT c t (vE c t) (fun b m l => ∀ tk, K (.str (if b = true then x else y) tk) m l) m l
  | some (.int x), some (.int y) => vT c t (vE c t) (fun b m l => ∀ tk, K (.int (if b = true then x else y) tk) m l) m l
  | _, _ => vT c t (vE c t) (fun z m l => (z = true → vE c a K m l) ∧ (z = false → vE c b K m l)) m l := rfl
theorem con_con {f} : conOf (.Constant f u p) = some f := rfl
theorem con_list : conOf (.List es p) = none := rfl
theorem con_sub : conOf (.Subscript a b p) = none := rfl
theorem con_name : conOf (.Name x p) = none := rfl
theorem con_bin : conOf (.BinOp a op b p) = none := rfl
theorem con_call : conOf (.Call a es ks p) = none := rfl
theorem con_tup : conOf (.Tuple es u p) = none := rfl
theorem con_attr : conOf (.Attribute o x p) = none := rfl
theorem con_cmp : conOf (.Compare a cps es p) = none := rfl
theorem con_un : conOf (.UnaryOp uo a p) = none := rfl
theorem nam_name : nameOf (.Name x p) = some x := rfl
theorem nsm {α : Type} {f : α} {P : Prop} (h : none = some f) : P := nomatch h
theorem conOf_some {f : Const} (h : conOf a = some f) : ∃ u p, a = .Constant f u p := by
 cases a with
 | Constant g u p => exact ⟨u, p, congrArg (fun g => Expr.Constant g u p) (Option.some.inj h)⟩
 | _ => exact nsm h
theorem nameOf_some (h : nameOf a = some x) : ∃ p, a = .Name x p := by
 cases a with
 | Name g p => exact ⟨p, congrArg (fun g => Expr.Name g p) (Option.some.inj h)⟩
 | _ => exact nsm h
theorem vE_sub : vE c (.Subscript a b p) K m l = vE c a (fun v m l => vE c b (fun u m l => vSub c a b v u K m l) m l) m l := rfl
theorem vE_list : vE c (.List es p) K m l = match es.any isStar with
  | false => vAs c es (fun vs m l => vs.length ≤ 16777216 ∧ ∀ a, K (.ref a) m ((a, lst vs 0) :: l)) m l
  | true => Ob c (eval (.List es default) c.env) K m l ∧ False := rfl
theorem vE_tup : vE c (.Tuple es u p) K m l = match es.any isStar with
  | false => vAs c es (fun vs m l => vs.length ≤ 16777216 ∧ ∀ a, K (.ref a) m ((a, tup vs) :: l)) m l
  | true => False := rfl
theorem vE_call : vE c (.Call (.Name x p) es [] pos) K m l = vGet c m x p (fun f m l => vCall c pos f es (vAs c es) K m l) l := rfl
theorem vE_meth : vE c (.Call (.Attribute o x p) es [] pos) K m l = match okMeth o es p pos with
  | true => vE c o (fun ov m l => vMeth c pos ov x es K m l) m l
  | false => Ob c (eval (.Call (.Attribute o x p) es [] pos) c.env) K m l := rfl
theorem vE_call2 {ks2 p2} : vE c (.Call (.Call a as ks2 p2) es [] pos) K m l = Ob c (eval (.Call (.Call a as ks2 p2) es [] pos) c.env) K m l := rfl
theorem vE_callS : vE c (.Call (.Subscript a b p) es [] pos) K m l = Ob c (eval (.Call (.Subscript a b p) es [] pos) c.env) K m l := rfl
theorem vE_callK {k} : vE c (.Call a es (k :: ks) pos) K m l = Ob c (eval (.Call a es (k :: ks) pos) c.env) K m l := by cases a <;> rfl
theorem vE_dict : vE c (.Dict [] [] p) K m l = ∀ a, K (.ref a) m ((a, emptyDict) :: l) := rfl
theorem vE_attr : vE c (.Attribute o x p) K m l = match isCall o with
  | false => vE c o (fun ov m l => Ob c (getAttr ov x true) K m l) m l
  | true => Ob c (eval (.Attribute o x p) c.env) K m l := rfl
theorem vE_slice : vE c (.Slice oe oe1 oe2 p) K m l = vO c oe (fun a m l => vO c oe1 (fun b m l => vO c oe2 (fun d m l => ∀ r, K (.ref r) m ((r, slcO a b d) :: l)) m l) m l) m l := rfl
theorem vE_wal : vE c (.NamedExpr t e p) K m l = match nameOf t with
  | some x => vE c e (fun v m l => vSto c x v (fun m l => K v m l) m l) m l
  | none => Ob c (eval (.NamedExpr t e p) c.env) K m l := rfl
theorem vE_lcmp {g} : vE c (.ListComp e gs g p) K m l = Ob c (eval (.ListComp e gs g p) c.env) K m l := rfl
theorem vE_jstr {g} : vE c (.JoinedStr g p) K m l = Ob c (eval (.JoinedStr g p) c.env) K m l := rfl
theorem vE_bool2 {g} : vE c (.BoolOp g es p) K m l = Ob c (eval (.BoolOp g es p) c.env) K m l := rfl
theorem vE_set : vE c (.Set es u p) K m l = Ob c (eval (.Set es u p) c.env) K m l := rfl
theorem vE_chain : vE c (.Compare a (cp :: cp2 :: cps) es p) K m l = Ob c (eval (.Compare a (cp :: cp2 :: cps) es p) c.env) K m l := rfl
theorem vO_none : vO c none K m l = K .none m l := rfl
theorem vO_some : vO c (some e) K m l = vE c e K m l := rfl
theorem vT_not : vT c (.UnaryOp .Not e p) W KB m l = vT c e (vE c e) (fun b m l => KB (!b) m l) m l := rfl
theorem vT_and : vT c (.BoolOp .And es p) W KB m l = vAnd c es KB m l := rfl
theorem vT_or : vT c (.BoolOp .Or es p) W KB m l = vOr c es KB m l := rfl
theorem vT_cmp : vT c (.Compare a [cp] [b] pos) W KB m l = match isSet b with
  | false => vE c a (fun v m l => vE c b (fun u m l => vCmp c cp v u (fun v m l => vTr c v KB m l) m l) m l) m l
  | true => Ob c (PySem.isTrue (.Compare a [cp] [b] pos) c.env (eval (.Compare a [cp] [b] pos) c.env)) KB m l := rfl
theorem vT_name : vT c (.Name x p) W KB m l = W (fun v m l => vTr c v KB m l) m l := rfl
theorem vT_con {k} : vT c (.Constant k u p) W KB m l = W (fun v m l => vTr c v KB m l) m l := rfl
theorem vT_call : vT c (.Call a es ks p) W KB m l = W (fun v m l => vTr c v KB m l) m l := rfl
theorem vT_attr : vT c (.Attribute a x p) W KB m l = W (fun v m l => vTr c v KB m l) m l := rfl
theorem vT_sub : vT c (.Subscript a b p) W KB m l = W (fun v m l => vTr c v KB m l) m l := rfl
theorem vT_bin : vT c (.BinOp a op b p) W KB m l = Ob c (PySem.isTrue (.BinOp a op b p) c.env (eval (.BinOp a op b p) c.env)) KB m l := rfl
theorem vT_wal : vT c (.NamedExpr a b p) W KB m l = Ob c (PySem.isTrue (.NamedExpr a b p) c.env (eval (.NamedExpr a b p) c.env)) KB m l := rfl
theorem vT_chain : vT c (.Compare a (cp :: cp2 :: cps) es p) W KB m l = Ob c (PySem.isTrue (.Compare a (cp :: cp2 :: cps) es p) c.env (eval (.Compare a (cp :: cp2 :: cps) es p) c.env)) KB m l := rfl
theorem vAnd_nil : vAnd c [] KB m l = KB true m l := rfl
theorem vAnd_cons : vAnd c (e :: es) KB m l = vT c e (vE c e) (fun b m l => (b = true → vAnd c es KB m l) ∧ (b = false → KB false m l)) m l := rfl
theorem vOr_nil : vOr c [] KB m l = KB false m l := rfl
theorem vOr_cons : vOr c (e :: es) KB m l = vT c e (vE c e) (fun b m l => (b = true → KB true m l) ∧ (b = false → vOr c es KB m l)) m l := rfl
theorem vAs_nil : vAs c [] KL m l = KL [] m l := rfl
theorem vAs_cons : vAs c (e :: es) KL m l = vE c e (fun v m l => vAs c es (fun vs m l => KL (v :: vs) m l) m l) m l := rfl
end
theorem ife_ok {c : Fx} {t a b : Expr} {pos : Pos} {K : KV Value} {m : Loc} {l : Led} (gen : vT c t (vE c t) (fun z m l => (z = true → vE c a K m l) ∧ (z = false → vE c b K m l)) m l → Ob c (eval (.IfExp t a b pos) c.env) K m l)
  (ht : ∀ KB : KV Bool, vT c t (vE c t) KB m l → Ob c (PySem.isTrue t c.env (eval t c.env)) KB m l) (h : vE c (.IfExp t a b pos) K m l) : Ob c (eval (.IfExp t a b pos) c.env) K m l := by
 rw [vE_ife] at h
 cases q1 : conOf a with
 | none => rw [q1] at h; exact gen h
 | some f => cases q2 : conOf b with
  | none => rw [q1, q2] at h; clear q1 q2 ht; cases f <;> exact gen h
  | some f2 =>
   rw [q1, q2] at h
   cases f with
   | str x => cases f2 with
    | str y =>
     (refine e2_1 (conOf_some q1) ?_; rintro u p2 rfl)
     (refine e2_1 (conOf_some q2) ?_; rintro u2 p3 rfl)
     exact fun Q E s S k x => x_ifs (ht _ h _ E s S (fun z m' l' s' h' S' => fun tk s'' e1 e2 e3 => k _ _ _ _ (h' tk) (S'.same e1 e2 e3)) x)
    | _ => exact gen h
   | int x => cases f2 with
    | int y =>
     (refine e2_1 (conOf_some q1) ?_; rintro u p2 rfl)
     (refine e2_1 (conOf_some q2) ?_; rintro u2 p3 rfl)
     exact fun Q E s S k x => x_ifi (ht _ h _ E s S (fun z m' l' s' h' S' => fun tk s'' e1 e2 e3 => k _ _ _ _ (h' tk) (S'.same e1 e2 e3)) x)
    | _ => exact gen h
   | _ => exact gen h
noncomputable def EOk (c : Fx) (e : Expr) : Prop := ∀ (K : KV Value) (m : Loc) (l : Led), vE c e K m l → Ob c (eval e c.env) K m l
noncomputable def OOk (c : Fx) (e : Option Expr) : Prop := ∀ (K : KV Value) (m : Loc) (l : Led), vO c e K m l → Ob c (evalPart e c.env) K m l
noncomputable def TOk (c : Fx) (e : Expr) : Prop := ∀ (W : KV Value → Loc → Led → Prop), (∀ K m l, W K m l → Ob c (eval e c.env) K m l) → ∀ (K : KV Bool) (m : Loc) (l : Led), vT c e W K m l → Ob c (PySem.isTrue e c.env (eval e c.env)) K m l
noncomputable def AnOk (c : Fx) (es : List Expr) : Prop := ∀ (K : KV Bool) (m : Loc) (l : Led), vAnd c es K m l → Ob c (allTrue .And es c.env) K m l
noncomputable def OrOk (c : Fx) (es : List Expr) : Prop := ∀ (K : KV Bool) (m : Loc) (l : Led), vOr c es K m l → Ob c (allTrue .Or es c.env) K m l
noncomputable def AsOk (c : Fx) (es : List Expr) : Prop := es.any isStar = false → ∀ (K : KV (List Value)) (m : Loc) (l : Led) (pos : Pos), vAs c es K m l → Ob c (spliced (backTo pos (starEach es c.env))) K m l
theorem beh_not {op : CmpOp} {b : Expr} (q : isSet b = false) : behindInMarks op b = false := by cases b <;> first | rfl | cases q
theorem base_not {o : Expr} {y : Str} {env : Env} (q : isCall o = false) : attributeBase o y env (eval o env) = eval o env := by cases o <;> first | rfl | cases q
mutual
theorem vE_ok {c : Fx} (hV : c.V) : ∀ e : Expr, EOk c e
 | .Constant (.int i) _ _ => fun K m l h => fun Q E s S k x => c_int S fun t s' S' => k _ _ _ _ (h t) S'
 | .Constant (.str i) _ _ => fun K m l h => fun Q E s S k x => c_str S fun t s' S' => k _ _ _ _ (h t) S'
 | .Constant .none _ _ => fun K m l h => fun Q E s S k x => c_none (k _ _ _ _ h S)
 | .Constant (.bool b) _ _ => fun K m l h => fun Q E s S k x => c_bool (k _ _ _ _ h S)
 | .Name x pos => fun K m l h => vGet_ok hV h
 | .BinOp a op b _ => fun K m l h => by
  exact ob_bin ((vE_ok hV a _ _ _ h).mono fun v m l h => (vE_ok hV b _ _ _ h).mono fun u m l h => vBin_ok h)
 | .UnaryOp op a _ => fun K m l h => by
  exact ob_un ((vE_ok hV a _ _ _ h).mono fun v m l h => vUn_ok h)
 | .Subscript a b _ => fun K m l h => by
  exact ob_sub ((vE_ok hV a _ _ _ h).mono fun v m l h => (vE_ok hV b _ _ _ h).mono fun u m l h => vSub_ok h)
 | .Compare a [op] [b] pos => fun K m l h => by
  rw [vE_cmp] at h
  cases q : isSet b with
  | false =>
   rw [q] at h
   exact ob_cmp (beh_not q) ((vE_ok hV a _ _ _ h).mono fun v m l h => (vE_ok hV b _ _ _ h).mono fun u m l h => vCmp_ok h)
  | true => rw [q] at h; exact h
 | .IfExp t a b pos => fun K m l h => 
  ife_ok (fun h => ob_ife ((vT_ok hV t _ (vE_ok hV t) _ _ _ h).mono fun z m l h => ⟨fun q => vE_ok hV a _ _ _ (h.1 q), fun q => vE_ok hV b _ _ _ (h.2 q)⟩)) (fun KB h => vT_ok hV t _ (vE_ok hV t) _ _ _ h) h
 | .List es pos => fun K m l h => by
  rw [vE_list] at h
  cases q : es.any isStar with
  | false =>
   rw [q] at h
   exact fun Q E s S k x => x_list (vAs_ok hV es q _ _ _ pos h _ E s S (fun vs m' l' s' h' S' => mk_list S' (fun a s'' S'' => k _ _ _ _ (h'.2 a) S'') (Nat.ble_eq_true_of_le h'.1)) x)
  | true => rw [q] at h; exact h.2.elim
 | .Tuple es kk pos => fun K m l h => by
  rw [vE_tup] at h
  cases q : es.any isStar with
  | false =>
   rw [q] at h
   exact fun Q E s S k x => x_tup (vAs_ok hV es q _ _ _ pos h _ E s S (fun vs m' l' s' h' S' => mk_tup S' (fun a s'' S'' => k _ _ _ _ (h'.2 a) S'') (Nat.ble_eq_true_of_le h'.1)) x)
  | true => rw [q] at h; exact h.elim
 | .Call f args ks pos => fun K m l h => by
  cases f with
  | Name x p => cases ks with
   | nil => exact call_ok hV (fun K m l pos q h => vAs_ok hV args q K m l pos h) h
   | cons k ks => exact h
  | Attribute o name p => cases ks with
   | nil =>
    rw [vE_meth] at h
    cases q : okMeth o args p pos with
    | true => rw [q] at h; exact meth_ok q (vE_ok hV o _ _ _ h)
    | false => rw [q] at h; exact h
   | cons k ks => exact h
  | _ => exact h
 | .Dict [] [] _ => fun K m l h => fun Q E s S k x => mk_dict S fun a s' S' => k _ _ _ _ (h a) S'
 | .BoolOp op vs p => fun K m l h => h
 | .NamedExpr t b p => fun K m l h => by
  rw [vE_wal] at h
  cases q : nameOf t with
  | none => rw [q] at h; exact h
  | some y =>
   rw [q] at h
   (refine e1_1 (nameOf_some q) ?_; rintro p2 rfl)
   exact fun Q E s S k x => wpAny_NamedExpr (vE_ok hV b _ _ _ h _ E s S (fun v m' l' s' h' S' => x_aname (vSto_ok hV h' _ E s' S' (fun _ m2 l2 s2 h2 S2 => k _ _ _ _ h2 S2) x)) x)
 | .Lambda a b d p => fun K m l h => h
 | .Set a b p => fun K m l h => h
 | .ListComp a b d p => fun K m l h => h
 | .SetComp a b d p => fun K m l h => h
 | .DictComp a b d f p => fun K m l h => h
 | .GeneratorExp a b d p => fun K m l h => h
 | .Await a p => fun K m l h => h
 | .Yield a p => fun K m l h => h
 | .YieldFrom a p => fun K m l h => h
 | .FormattedValue a b d p => fun K m l h => h
 | .JoinedStr a p => fun K m l h => h
 | .Attribute o y p => fun K m l h => by
  rw [vE_attr] at h
  cases q : isCall o with
  | true => rw [q] at h; exact h
  | false =>
   rw [q] at h
   have hbase := base_not (y := y) (env := c.env) q
   exact fun Q E s S k x => x_attr (vE_ok hV o _ _ _ h _ E s S (fun v m' l' s' h' S' => h' Q E s' S' k x) x) (by rw [arm_eval_Attribute, hbase])
 | .Starred a p => fun K m l h => h
 | .Slice lo up sp p => fun K m l h => by
  exact fun Q E s S k x => wpAny_Slice (vO_ok hV lo _ _ _ h _ E s S (fun v m' l' s' h' S' => vO_ok hV up _ _ _ h' _ E s' S' (fun v2 m2 l2 s2 h2 S2 => vO_ok hV sp _ _ _ h2 _ E s2 S2 (fun v3 m3 l3 s3 h3 S3 => k _ _ _ _ (h3 _) (S3.push _ rfl rfl rfl rfl)) x) x) x)
 | .Constant (.float f) a p => fun K m l h => h
 | .Constant (.bytes f) a p => fun K m l h => h
 | .Constant .ellipsis a p => fun K m l h => h
 | .Constant (.complex f g) a p => fun K m l h => h
 | .Compare a [] cs p => fun K m l h => h
 | .Compare a (op :: op2 :: ops) cs p => fun K m l h => h
 | .Compare a [op] [] p => fun K m l h => h
 | .Compare a [op] (b :: b2 :: bs) p => fun K m l h => h
 | .Dict (k :: ks) vs p => fun K m l h => h
 | .Dict [] (v :: vs) p => fun K m l h => h
theorem vO_ok {c : Fx} (hV : c.V) : ∀ e : Option Expr, OOk c e
 | none => fun K m l h => fun Q E s S k x => wpAny_pure (k _ _ _ _ h S)
 | some e => fun K m l h => vE_ok hV e K m l h
theorem vT_ok {c : Fx} (hV : c.V) : ∀ e : Expr, TOk c e
 | .UnaryOp .Not e _ => fun W hW K m l h => by
  exact fun Q E s S k x => x_tnot (vT_ok hV e _ (vE_ok hV e) _ _ _ h _ E s S (fun v m' l' s' h' S' => k _ _ _ _ h' S') x)
 | .BoolOp .And es _ => fun W hW K m l h => by
  exact fun Q E s S k x => x_tbool (vAnd_ok hV es _ _ _ h Q E s S k x)
 | .BoolOp .Or es _ => fun W hW K m l h => by
  exact fun Q E s S k x => x_tbool (vOr_ok hV es _ _ _ h Q E s S k x)
 | .Compare a [op] [b] pos => fun W hW K m l h => by
  rw [vT_cmp] at h
  cases q : isSet b with
  | false =>
   rw [q] at h
   exact ob_tcmp (beh_not q) ((vE_ok hV a _ _ _ h).mono fun v m l h => (vE_ok hV b _ _ _ h).mono fun u m l h => (vCmp_ok h).mono fun z m l h => vTr_ok h)
  | true => rw [q] at h; exact h
 | .Name x pos => fun W hW K m l h => ob_tval ((hW _ _ _ h).mono fun v m l h => vTr_ok h) rfl
 | .Call f as ks pos => fun W hW K m l h => ob_tval ((hW _ _ _ h).mono fun v m l h => vTr_ok h) (by cases f <;> rfl)
 | .Attribute a x pos => fun W hW K m l h => ob_tval ((hW _ _ _ h).mono fun v m l h => vTr_ok h) rfl
 | .Subscript a x pos => fun W hW K m l h => ob_tval ((hW _ _ _ h).mono fun v m l h => vTr_ok h) rfl
 | .NamedExpr a b p => fun W hW K m l h => h
 | .BinOp a op b p => fun W hW K m l h => h
 | .Lambda a b d p => fun W hW K m l h => h
 | .IfExp a b d p => fun W hW K m l h => h
 | .Dict a b p => fun W hW K m l h => h
 | .Set a b p => fun W hW K m l h => h
 | .ListComp a b d p => fun W hW K m l h => h
 | .SetComp a b d p => fun W hW K m l h => h
 | .DictComp a b d f p => fun W hW K m l h => h
 | .GeneratorExp a b d p => fun W hW K m l h => h
 | .Await a p => fun W hW K m l h => h
 | .Yield a p => fun W hW K m l h => h
 | .YieldFrom a p => fun W hW K m l h => h
 | .FormattedValue a b d p => fun W hW K m l h => h
 | .JoinedStr a p => fun W hW K m l h => h
 | .Starred a p => fun W hW K m l h => h
 | .Slice a b d p => fun W hW K m l h => h
 | .Constant f x pos => fun W hW K m l h => ob_tval ((hW _ _ _ h).mono fun v m l h => vTr_ok h) rfl
 | .List a p => fun W hW K m l h => h
 | .Tuple a b p => fun W hW K m l h => h
 | .Compare a [] cs p => fun W hW K m l h => h
 | .Compare a (op :: op2 :: ops) cs p => fun W hW K m l h => h
 | .Compare a [op] [] p => fun W hW K m l h => h
 | .Compare a [op] (b :: b2 :: bs) p => fun W hW K m l h => h
 | .UnaryOp .Invert a p => fun W hW K m l h => h
 | .UnaryOp .UAdd a p => fun W hW K m l h => h
 | .UnaryOp .USub a p => fun W hW K m l h => h
theorem vAnd_ok {c : Fx} (hV : c.V) : ∀ es : List Expr, AnOk c es
 | [] => fun K m l h => fun Q E s S k x => x_and0 (k _ _ _ _ h S)
 | e :: es => fun K m l h => by
  exact fun Q E s S k x => x_and (vT_ok hV e _ (vE_ok hV e) _ _ _ h _ E s S (fun z m' l' s' h' S' => ⟨fun q => vAnd_ok hV es _ _ _ (h'.1 q) Q E s' S' k x, fun q => k _ _ _ _ (h'.2 q) S'⟩) x)
theorem vOr_ok {c : Fx} (hV : c.V) : ∀ es : List Expr, OrOk c es
 | [] => fun K m l h => fun Q E s S k x => x_or0 (k _ _ _ _ h S)
 | e :: es => fun K m l h => by
  exact fun Q E s S k x => x_or (vT_ok hV e _ (vE_ok hV e) _ _ _ h _ E s S (fun z m' l' s' h' S' => ⟨fun q => k _ _ _ _ (h'.1 q) S', fun q => vOr_ok hV es _ _ _ (h'.2 q) Q E s' S' k x⟩) x)
theorem vAs_ok {c : Fx} (hV : c.V) : ∀ es : List Expr, AsOk c es
 | [] => fun _ K m l pos h => fun Q E s S k x => x_none (k _ _ _ _ h S)
 | e :: es => fun q K m l pos h => by
  have st := any_star (c := c) q
  exact fun Q E s S k x => x_more (vE_ok hV e _ _ _ h _ E s S (fun v m' l' s' h' S' => vAs_ok hV es st.2 _ _ _ pos h' _ E s' S' (fun vs m'' l'' s'' h'' S'' => k _ _ _ _ h'' S'') x) x) st.1
end
end
section
noncomputable def Cont (c : Fx) (sts : List Stmt) (K : KV Flow) : KV Flow := fun f m l => match f with
 | .next => Ob c (execs sts c.env) K m l
 | f => K f m l
noncomputable def ObF (c : Fx) (target : Expr) (body orelse : List Stmt) (v : Value) (K : KV Flow) (m : Loc) (l : Led) : Prop :=
 ∀ (QF : Flow → Shared → Prop) (E : Value → Shared → Prop) (s : Shared), c.S m l s → (∀ v m' l' s', K v m' l' → c.S m' l' s' → QF v s') → (∀ e s', c.X e s' → E e s') →
  wpAny (M c.w) c.A' (pyIter v) (fun it s₂ => codeAny (M c.w) c.A' (.forLoop target it body orelse c.env) (fun r s' => match r with | .ok f => QF f s' | .error e => cameBackBy (M c.w) c.A' c.env E e s') s₂) E s
noncomputable def vS (c : Fx) (st : Stmt) (K : KV Flow) (m : Loc) (l : Led) : Prop := match st with
 | .Assign [.Name x _] e _ => match isComp e with
  | false => vE c e (fun v m l => vSto c x v (fun m l => K .next m l) m l) m l
  | true => Ob c (exec st c.env) K m l
 | .Assign [.Attribute o x _] e _ => match isComp e with
  | false => vE c e (fun v m l => vE c o (fun ov m l => Ob c (setAttr ov x v) (fun _ => K .next) m l) m l) m l
  | true => Ob c (exec st c.env) K m l
 | .Assign [.Subscript o i _] e _ => match isComp e with
  | false => vE c e (fun v m l => vE c o (fun ov m l => vE c i (fun iv m l => Ob c (setItem ov iv v) (fun _ => K .next) m l) m l) m l) m l
  | true => Ob c (exec st c.env) K m l
 | .Return (some e) _ => vE c e (fun v m l => K (.ret v) m l) m l
 | .Return none _ => K (.ret .none) m l
 | .If t a b _ => vT c t (vE c t) (fun z m l => (z = true → Ob c (execs a c.env) K m l) ∧ (z = false → Ob c (execs b c.env) K m l)) m l
 | .Expr e _ => match isComp e with
  | false => vE c e (fun _ m l => K .next m l) m l
  | true => Ob c (exec st c.env) K m l
 | .Pass _ => K .next m l
 | .Break _ => K .brk m l
 | .Continue _ => K .cont m l
 | .For t i a b _ => match isSet i with
  | false => vE c i (fun v m l => ObF c t a b v K m l) m l
  | true => Ob c (exec st c.env) K m l
 | .AugAssign (.Name x _) op e _ => match m.lookup x with
  | some (some old) => vE c e (fun v m l => Ob c (inplaceOp op old v) (fun r m l => vSto c x r (fun m l => K .next m l) m l) m l) m l
  | _ => False
 | .AugAssign (.Attribute o x _) op e _ => vE c o (fun ov m l => Ob c (getAttr ov x true) (fun old m l => vE c e (fun v m l => Ob c (inplaceOp op old v) (fun r m l => Ob c (setAttr ov x r) (fun _ => K .next) m l) m l) m l) m l) m l
 | .AugAssign (.Subscript o i _) op e _ => match isSlc i with
  | false => vE c o (fun ov m l => vE c i (fun iv m l => Ob c (getItem ov iv) (fun old m l => vE c e (fun v m l => Ob c (inplaceOp op old v) (fun r m l => Ob c (setItem ov iv r) (fun _ => K .next) m l) m l) m l) m l) m l) m l
  | true => Ob c (exec st c.env) K m l
 | st => Ob c (exec st c.env) K m l
theorem swaps_not {e : Expr} (h : isComp e = false) (t : Option Expr) (n : Nat) (env : Env) : swapsWith e t n env = pure false := by cases e <;> first | rfl | cases h
theorem folded_not {e : Expr} (h : isSet e = false) (env : Env) (x : Value) : foldedSetIterable e env x = pure x := by cases e <;> first | rfl | cases h
theorem aug_not {i : Expr} (h : isSlc i = false) (ov iv new : Value) : augStore i ov iv new = (do holding [new, ov, iv] (setItem ov iv new); release [new, ov, iv] []; pure .next) := by cases i <;> first | rfl | cases h
section
variable {c : Fx} {K : KV Flow} {m : Loc} {l : Led} {e a b o i t : Expr} {es ts : List Expr} {sts as bs : List Stmt} {p p2 : Pos} {x : Str} {op : Operator} {oe : Option Expr}
theorem vS_name : vS c (.Assign [.Name x p2] e p) K m l = match isComp e with
  | false => vE c e (fun v m l => vSto c x v (fun m l => K .next m l) m l) m l
  | true => Ob c (exec (.Assign [.Name x p2] e p) c.env) K m l := rfl
theorem vS_attr : vS c (.Assign [.Attribute o x p2] e p) K m l = match isComp e with
  | false => vE c e (fun v m l => vE c o (fun ov m l => Ob c (setAttr ov x v) (fun _ => K .next) m l) m l) m l
  | true => Ob c (exec (.Assign [.Attribute o x p2] e p) c.env) K m l := rfl
theorem vS_sub : vS c (.Assign [.Subscript o i p2] e p) K m l = match isComp e with
  | false => vE c e (fun v m l => vE c o (fun ov m l => vE c i (fun iv m l => Ob c (setItem ov iv v) (fun _ => K .next) m l) m l) m l) m l
  | true => Ob c (exec (.Assign [.Subscript o i p2] e p) c.env) K m l := rfl
theorem vS_tup {u} : vS c (.Assign [.Tuple es u p2] e p) K m l = Ob c (exec (.Assign [.Tuple es u p2] e p) c.env) K m l := rfl
theorem vS_asg2 : vS c (.Assign (a :: b :: ts) e p) K m l = Ob c (exec (.Assign (a :: b :: ts) e p) c.env) K m l := by cases a <;> rfl
theorem vS_ret : vS c (.Return (some e) p) K m l = vE c e (fun v m l => K (.ret v) m l) m l := rfl
theorem vS_ret0 : vS c (.Return none p) K m l = K (.ret .none) m l := rfl
theorem vS_if : vS c (.If t as bs p) K m l = vT c t (vE c t) (fun z m l => (z = true → Ob c (execs as c.env) K m l) ∧ (z = false → Ob c (execs bs c.env) K m l)) m l := rfl
theorem vS_expr : vS c (.Expr e p) K m l = match isComp e with
  | false => vE c e (fun _ m l => K .next m l) m l
  | true => Ob c (exec (.Expr e p) c.env) K m l := rfl
theorem vS_pass : vS c (.Pass p) K m l = K .next m l := rfl
theorem vS_brk : vS c (.Break p) K m l = K .brk m l := rfl
theorem vS_cont : vS c (.Continue p) K m l = K .cont m l := rfl
theorem vS_for : vS c (.For t i as bs p) K m l = match isSet i with
  | false => vE c i (fun v m l => ObF c t as bs v K m l) m l
  | true => Ob c (exec (.For t i as bs p) c.env) K m l := rfl
theorem vS_augN : vS c (.AugAssign (.Name x p2) op e p) K m l = match m.lookup x with
  | some (some old) => vE c e (fun v m l => Ob c (inplaceOp op old v) (fun r m l => vSto c x r (fun m l => K .next m l) m l) m l) m l
  | _ => False := rfl
theorem vS_augA : vS c (.AugAssign (.Attribute o x p2) op e p) K m l = vE c o (fun ov m l => Ob c (getAttr ov x true) (fun old m l => vE c e (fun v m l => Ob c (inplaceOp op old v) (fun r m l => Ob c (setAttr ov x r) (fun _ => K .next) m l) m l) m l) m l) m l := rfl
theorem vS_augS : vS c (.AugAssign (.Subscript o i p2) op e p) K m l = match isSlc i with
  | false => vE c o (fun ov m l => vE c i (fun iv m l => Ob c (getItem ov iv) (fun old m l => vE c e (fun v m l => Ob c (inplaceOp op old v) (fun r m l => Ob c (setItem ov iv r) (fun _ => K .next) m l) m l) m l) m l) m l) m l
  | true => Ob c (exec (.AugAssign (.Subscript o i p2) op e p) c.env) K m l := rfl
theorem vS_while : vS c (.While t as bs p) K m l = Ob c (exec (.While t as bs p) c.env) K m l := rfl
theorem vS_try {h f} : vS c (.Try as h bs f p) K m l = Ob c (exec (.Try as h bs f p) c.env) K m l := rfl
theorem vS_raise {oe2} : vS c (.Raise oe oe2 p) K m l = Ob c (exec (.Raise oe oe2 p) c.env) K m l := rfl
theorem vS_def {a1 a2 a3 a4 a5 a6 a7 a8 a9} : vS c (.FunctionDef a1 a2 a3 a4 a5 a6 a7 a8 a9 p) K m l = Ob c (exec (.FunctionDef a1 a2 a3 a4 a5 a6 a7 a8 a9 p) c.env) K m l := rfl
theorem vS_del : vS c (.Delete es p) K m l = Ob c (exec (.Delete es p) c.env) K m l := rfl
end
theorem vS_ok {c : Fx} (hV : c.V) {st : Stmt} {K : KV Flow} {m : Loc} {l : Led} (h : vS c st K m l) : Ob c (exec st c.env) K m l := by
 cases st with
 | Assign ts e p => match ts, h with
  | [], h => exact h
  | [t], h => cases t with
   | Name x p2 =>
    rw [vS_name] at h
    cases q : isComp e with
    | false =>
     rw [q] at h
     exact fun Q E s S k x => x_name (vE_ok hV _ _ _ _ h _ E s S (fun v m' l' s' h' S' => vSto_ok hV h' _ E s' S' (fun _ m'' l'' s'' h'' S'' => k _ _ _ _ h'' S'') x) x) (swaps_not q _ _ _)
    | true => rw [q] at h; exact h
   | Attribute o x p2 =>
    rw [vS_attr] at h
    cases q : isComp e with
    | false =>
     rw [q] at h
     exact fun Q E s S k x => x_aattr (vE_ok hV _ _ _ _ h _ E s S (fun v m' l' s' h' S' => vE_ok hV _ _ _ _ h' _ E s' S' (fun ov m'' l'' s'' h'' S'' => h'' _ E s'' S'' (fun _ m3 l3 s3 h3 S3 => k _ _ _ _ h3 S3) x) x) x) (swaps_not q _ _ _)
    | true => rw [q] at h; exact h
   | Subscript o i p2 =>
    rw [vS_sub] at h
    cases q : isComp e with
    | false =>
     rw [q] at h
     exact fun Q E s S k x => x_asub (vE_ok hV _ _ _ _ h _ E s S (fun v m' l' s' h' S' => vE_ok hV _ _ _ _ h' _ E s' S' (fun ov m'' l'' s'' h'' S'' => vE_ok hV _ _ _ _ h'' _ E s'' S'' (fun iv m3 l3 s3 h3 S3 => h3 _ E s3 S3 (fun _ m4 l4 s4 h4 S4 => k _ _ _ _ h4 S4) x) x) x) x) (swaps_not q _ _ _)
    | true => rw [q] at h; exact h
   | _ => exact h
  | a :: b :: ts, h => rw [vS_asg2] at h; exact h
 | Return oe p => cases oe with
  | some e => exact fun Q E s S k x => x_ret (vE_ok hV _ _ _ _ h _ E s S (fun v m' l' s' h' S' => k _ _ _ _ h' S') x)
  | none => exact fun Q E s S k x => wpAny_Return_none (k _ _ _ _ h S)
 | If t a b p => exact fun Q E s S k x => x_if (vT_ok hV _ _ (vE_ok hV _) _ _ _ h _ E s S (fun z m' l' s' h' S' => ⟨fun q => h'.1 q Q E s' S' k x, fun q => h'.2 q Q E s' S' k x⟩) x)
 | Expr e p =>
  rw [vS_expr] at h
  cases q : isComp e with
  | false =>
   rw [q] at h
   exact fun Q E s S k x => x_expr (vE_ok hV _ _ _ _ h _ E s S (fun v m' l' s' h' S' => k _ _ _ _ h' S') x) (by unfold interactive; rw [Vw.kd hV]; rfl) (swaps_not q _ _ _)
  | true => rw [q] at h; exact h
 | Pass p => exact fun Q E s S k x => x_pass (k _ _ _ _ h S)
 | Break p => exact fun Q E s S k x => x_brk (k _ _ _ _ h S)
 | Continue p => exact fun Q E s S k x => x_cont (k _ _ _ _ h S)
 | For t i a b p =>
  rw [vS_for] at h
  cases q : isSet i with
  | false =>
   rw [q] at h
   exact fun Q E s S k x => x_for (vE_ok hV _ _ _ _ h _ E s S (fun v m' l' s' h' S' => h' Q E s' S' k x) x) (folded_not q _)
  | true => rw [q] at h; exact h
 | AugAssign t op e p => cases t with
  | Name x p2 =>
   rw [vS_augN] at h
   refine fun Q E s S k X => wpAny_AugAssign_Name ?_
   cases q : m.lookup x with
   | some y => cases y with
    | some v =>
     rw [q] at h
     exact l_loc hV S (lookup_mem q) (vE_ok hV _ _ _ _ h _ E s S (fun v m' l' s' h' S' => h' _ E s' S' (fun r m'' l'' s'' h'' S'' => vSto_ok hV h'' _ E s'' S'' (fun _ m3 l3 s3 h3 S3 => k _ _ _ _ h3 S3) X) X) X)
    | none => rw [q] at h; exact h.elim
   | none => rw [q] at h; exact h.elim
  | Attribute o x p2 => exact fun Q E s S k x => wpAny_AugAssign_AttributeAny (vE_ok hV _ _ _ _ h _ E s S (fun ov m' l' s' h' S' => h' _ E s' S' (fun old m2 l2 s2 h2 S2 => vE_ok hV _ _ _ _ h2 _ E s2 S2 (fun v m3 l3 s3 h3 S3 => h3 _ E s3 S3 (fun r m4 l4 s4 h4 S4 => h4 _ E s4 S4 (fun _ m5 l5 s5 h5 S5 => k _ _ _ _ h5 S5) x) x) x) x) x)
  | Subscript o i p2 =>
   rw [vS_augS] at h
   cases q : isSlc i with
   | false =>
    rw [q] at h
    exact fun Q E s S k x => wpAny_AugAssign_SubscriptAny (vE_ok hV _ _ _ _ h _ E s S (fun ov m' l' s' h' S' => vE_ok hV _ _ _ _ h' _ E s' S' (fun iv m6 l6 s6 h6 S6 => h6 _ E s6 S6 (fun old m2 l2 s2 h2 S2 => vE_ok hV _ _ _ _ h2 _ E s2 S2 (fun v m3 l3 s3 h3 S3 => h3 _ E s3 S3 (fun r m4 l4 s4 h4 S4 => h4 _ E s4 S4 (fun _ m5 l5 s5 h5 S5 => k _ _ _ _ h5 S5) x) x) x) x) x) x) (aug_not q)
   | true => rw [q] at h; exact h
  | _ => exact h
 | _ => exact h
theorem stp {c : Fx} (hV : c.V) {st : Stmt} {sts : List Stmt} {K : KV Flow} {m : Loc} {l : Led} (h : vS c st (Cont c sts K) m l) : Ob c (execs (st :: sts) c.env) K m l :=
 fun Q E s S k x => x_cons (vS_ok hV h _ E s S (fun f m' l' s' h' S' => by
  cases f with
  | next => exact h' Q E s' S' k x
  | brk => exact k _ _ _ _ h' S'
  | cont => exact k _ _ _ _ h' S'
  | ret v => exact k _ _ _ _ h' S') x)
theorem stn {c : Fx} {K : KV Flow} {m : Loc} {l : Led} (h : K .next m l) : Ob c (execs [] c.env) K m l := fun Q E s S k x => x_nil (k _ _ _ _ h S)
inductive Drp (l : Led) (P : Led → Prop) : Prop
 | mk (l' R : Led) (h1 : Ex l l' R) (h2 : P l')
theorem Drp.all {l : Led} {P : Led → Prop} (h : P []) : Drp l P := ⟨[], l, .nil, h⟩
theorem ob_drp {α : Type} {c : Fx} {t : Sem α} {K : KV α} {m : Loc} {l : Led} (h : Drp l (Ob c t K m)) : Ob c t K m l := by
 (refine hideG ?_; intro P0 hP0; obtain ⟨l', R, e, h⟩ := h; refine hP0 ?_; clear hP0 P0)
 exact fun Q E s S k x => h Q E s (S.ex e) k x
noncomputable def vAsg (c : Fx) (target : Expr) (v : Value) (K : Loc → Led → Prop) (m : Loc) (l : Led) : Prop := match target with
 | .Name x _ => vSto c x v K m l
 | t => Ob c (assign t c.env v) (fun _ => K) m l
theorem vAsg_name {c : Fx} {x : Str} {p : Pos} {v : Value} {K : Loc → Led → Prop} {m : Loc} {l : Led} : vAsg c (.Name x p) v K m l = vSto c x v K m l := rfl
theorem vAsg_tup {c : Fx} {es : List Expr} {u : Nat} {p : Pos} {v : Value} {K : Loc → Led → Prop} {m : Loc} {l : Led} : vAsg c (.Tuple es u p) v K m l = Ob c (assign (.Tuple es u p) c.env v) (fun _ => K) m l := rfl
theorem vAsg_ok {c : Fx} (hV : c.V) {target : Expr} {v : Value} {K : Loc → Led → Prop} {m : Loc} {l : Led} (h : vAsg c target v K m l) : Ob c (assign target c.env v) (fun _ => K) m l := by
 cases target with
 | Name x p => exact fun Q E s S k x => x_aname (vSto_ok hV h Q E s S k x)
 | _ => exact h
noncomputable def LpK (I : Addr) (oI : Obj) (J : Loc → Led → Prop) (K : KV Flow) : KV Flow := fun f m l => match f with
 | .next => Drp l fun l' => ∃ l'', l' = (I, oI) :: l'' ∧ J m l''
 | .cont => Drp l fun l' => ∃ l'', l' = (I, oI) :: l'' ∧ J m l''
 | .brk => K .next m l
 | .ret v => K (.ret v) m l
section
variable {c : Fx} {m : Loc} {l : Led} {K : KV Flow} {a : Addr} {target : Expr} {body orelse : List Stmt} {v : Value}
theorem turn_ok (hV : c.V) {I : Addr} {oI : Obj} {J : Loc → Led → Prop} {QF : Flow → Shared → Prop} {E : Value → Shared → Prop} {s : Shared} (k : ∀ v m' l' s', K v m' l' → c.S m' l' s' → QF v s') (x : ∀ e s', c.X e s' → E e s')
  (h : vAsg c target v (fun m l => Ob c (execs body c.env) (LpK I oI J K) m l) m ((I, oI) :: l)) (S : c.S m ((I, oI) :: l) s) : Turn c.w c.A' c.g c.base c.L c.ks c.env target body E QF I oI v J s := by
 refine vAsg_ok hV h _ E s S (fun _ m' l' s' h' S' => h' _ E s' S' (fun f m'' l'' s'' h'' S'' => ?_) x) x
 cases f with
 | next => obtain ⟨_, R, e, l3, rfl, hJ⟩ := h''; exact ⟨_, _, hJ, S''.ex e⟩
 | cont => obtain ⟨_, R, e, l3, rfl, hJ⟩ := h''; exact ⟨_, _, hJ, S''.ex e⟩
 | brk => exact k _ _ _ _ h'' S''
 | ret v => exact k _ _ _ _ h'' S''
end
section
variable {c : Fx} {m : Loc} {l l₀ R₀ : Led} {K : KV Flow} {a : Addr} {target : Expr} {body orelse : List Stmt} {v : Value}
theorem Vw.hh' {c : Fx} (hV : c.V) (hz : c.hz = true) : c.A'.handled = none := Vw.hz hV hz
theorem vfor_range (hV : c.V) (hX : c.LpX) {x y : Int} {t₁ t₂ t₃ : Tok} (N : Nat) (hN : y = x + N) (hx : -(2 ^ 62) ≤ x) (hy : y < 2 ^ 62) (hr : (a, rngO x y 1 t₁ t₂ t₃) ∈ l) (hd : Ex l l₀ R₀) (J : Nat → Loc → Led → Prop) (h0 : J 0 m l₀)
  (turn : ∀ i t m l I oI, i < N → J i m l → vAsg c target (.int (x + i) t) (fun m l => Ob c (execs body c.env) (LpK I oI (J (i + 1)) K) m l) m ((I, oI) :: l))
  (done : ∀ m l, J N m l → Ob c (execs orelse c.env) K m l) (hz : c.hz = true := by assumption) : ObF c target body orelse (.ref a) K m l := by
 intro QF E s S k x
 exact for_range (Vw.hh' hV hz) N hN hx hy J (S.ex hd) h0 (S.get hr) (fun i t m l s I oI hi hJ S => turn_ok hV k (fun e s h => hX _ e s h x) (turn i t m l I oI hi hJ) S) fun m l s hJ S => done m l hJ QF _ s S k fun e s h => hX _ e s h x
theorem vfor_list (hV : c.V) (hX : c.LpX) (vs : List Value) (hd : Ex l l₀ R₀) (J : Nat → Loc → Led → Prop) (h0 : J 0 m l₀) (rd : ∀ i m l, J i m l → ∃ k, Rd c.g l a (lst vs k))
  (turn : ∀ i v m l I oI, i < vs.length → vs[i]? = some v → J i m l → vAsg c target v (fun m l => Ob c (execs body c.env) (LpK I oI (J (i + 1)) K) m l) m ((I, oI) :: l))
  (done : ∀ m l, J vs.length m l → Ob c (execs orelse c.env) K m l) (hz : c.hz = true := by assumption) : ObF c target body orelse (.ref a) K m l := by
 intro QF E s S k x
 exact for_list (Vw.hh' hV hz) vs J (S.ex hd) h0 rd (fun i v m l s I oI hi hv hJ S => turn_ok hV k (fun e s h => hX _ e s h x) (turn i v m l I oI hi hv hJ) S) fun m l s hJ S => done m l hJ QF _ s S k fun e s h => hX _ e s h x
theorem vfor_tup (hV : c.V) (hX : c.LpX) (vs : List Value) (hd : Ex l l₀ R₀) (J : Nat → Loc → Led → Prop) (h0 : J 0 m l₀) (rd : ∀ i m l, J i m l → Rd c.g l a (tup vs))
  (turn : ∀ i v m l I oI, i < vs.length → vs[i]? = some v → J i m l → vAsg c target v (fun m l => Ob c (execs body c.env) (LpK I oI (J (i + 1)) K) m l) m ((I, oI) :: l))
  (done : ∀ m l, J vs.length m l → Ob c (execs orelse c.env) K m l) (hz : c.hz = true := by assumption) : ObF c target body orelse (.ref a) K m l := by
 intro QF E s S k x
 exact for_tup (Vw.hh' hV hz) vs J (S.ex hd) h0 rd (fun i v m l s I oI hi hv hJ S => turn_ok hV k (fun e s h => hX _ e s h x) (turn i v m l I oI hi hv hJ) S) fun m l s hJ S => done m l hJ QF _ s S k fun e s h => hX _ e s h x
end
section
variable {c : Fx} {m : Loc} {l l' : Led} {K : KV Value} {a b : Addr} {vs us : List Value} {v : Value} {i : Int} {k : Nat} {t u : Tok} {x : Str} {e e' : Expr}
theorem o_range1 {n : Int} (h : ∀ a t₁ t₃, K (.ref a) m ((a, rngO 0 n 1 t₁ t t₃) :: l)) : Ob c (call (.type "range") [.int n t]) K m l :=
 fun Q E s S k x => call_range_1 (k _ _ _ _ (h _ _ _) (S.push _ rfl rfl rfl rfl))
theorem o_range2 {i n : Int} (h : ∀ a t₃, K (.ref a) m ((a, rngO i n 1 t u t₃) :: l)) : Ob c (call (.type "range") [.int i t, .int n u]) K m l :=
 fun Q E s S k x => call_range_2 (k _ _ _ _ (h _ _) (S.push _ rfl rfl rfl rfl))
theorem o_tup (hr : Rd c.g l a (tup vs)) (h0 : 0 ≤ i) (h1 : i < 2 ^ 63) (hx : vs[i.toNat]? = some v) (h : K v m l) (he : isSlc e' = false := by rfl) : Ob c (subscriptTail e e' (.ref a) (.int i u)) K m l :=
 fun Q E s S k x => sub_tup S hr h0 h1 hx (k _ _ _ _ h S) (by cases e' <;> first | rfl | cases he)
theorem o_lst (hr : Rd c.g l a (lst vs k)) (h0 : 0 ≤ i) (h1 : i < 2 ^ 63) (hx : vs[i.toNat]? = some v) (h : K v m l) (he : isSlc e' = false := by rfl) : Ob c (subscriptTail e e' (.ref a) (.int i u)) K m l :=
 fun Q E s S k x => sub_list S hr h0 h1 hx (k _ _ _ _ h S) (by cases e' <;> first | rfl | cases he)
theorem o_last (hr : Rd c.g l a (lst (us ++ [v]) k)) (hz : us.length < 2 ^ 62) (h : K v m l) (he : isSlc e' = false := by rfl) : Ob c (subscriptTail e e' (.ref a) (.int (-1) u)) K m l :=
 fun Q E s S k x => sub_last S hr hz (k _ _ _ _ h S) (by cases e' <;> first | rfl | cases he)
theorem o_addl {k₁ k₂ : Nat} (h1 : Rd c.g l a (lst vs k₁)) (h2 : Rd c.g l b (lst us k₂)) (hz : vs.length + us.length ≤ sizeLine) (h : ∀ d, K (.ref d) m ((d, lst (vs ++ us) 0) :: l)) : Ob c (binaryOp .Add (.ref a) (.ref b)) K m l :=
 fun Q E s S k x => a_list S h1 h2 hz fun d s' S' => k _ _ _ _ (h d) S'
theorem o_lenl (hr : Rd c.g l a (lst vs k)) (hz : vs.length < 2 ^ 62) (h : ∀ t, K (.int vs.length t) m l) : Ob c (call (.builtin "len") [.ref a]) K m l :=
 fun Q E s S k x => ln_list S hr hz fun t s' S' => k _ _ _ _ (h t) S'
theorem o_lens (hz : x.length < 2 ^ 62) (h : ∀ t, K (.int x.length t) m l) : Ob c (call (.builtin "len") [.str x t]) K m l :=
 fun Q E s S k _ => ln_str S hz fun t s' S' => k _ _ _ _ (h t) S'
theorem o_append (hV : c.V) {pos : Pos} (hr : ∃ vs k, Rd c.g l a (lst vs k)) (h : vE c e (fun v m l => ∃ vs k l', Up a (lst vs k) (lst (vs ++ [v]) (k + 1)) l l' ∧ vs.length ≤ sizeLine ∧ K .none m l') m l) (he : isStar e = false := by rfl) :
  vMeth c pos (.ref a) (Str.ofString "append") [e] K m l := by
 intro pl Q E s S k x
 (refine e2_1 hr ?_; clear hr; intro vs n hr)
 refine gm_list S hr PySem.F.slot_list_append PySem.F.type_list_append (k _ _ _ _ ?_ S)
 intro Q' E' s' S' k' x'
 have st := any_star (c := c) (e := e) (es := []) (by simp [he])
 refine cw_b _ (x_more (vE_ok hV e _ _ _ h _ E' s' S' (fun v m' l' s'' h' S'' => x_none ?_) x') st.1) st.1 rfl
 (refine e3_3 h' ?_; clear h'; intro vs n l'' U hz h')
 exact ap_list S'' U hz fun s3 S3 => k' _ _ _ _ h' S3
theorem o_spec (hV : c.V) {f : Addr} {Φ : Value → Led → Prop} {pre : Heap → Prop} {k : Nat} (sp : Spec c.w k f vs pre Φ) (hk : k ≤ c.n) (hp : ∀ g', (∀ p ∈ l, g'.get? p.1 = some p.2) → c.g.StaysIn g' → pre g') (h : ∀ v l', Φ v l' → K v m (l' ++ l)) (hz : c.hz = true := by assumption) : Ob c (call (.ref f) vs) K m l :=
 fun Q E s S k x => Vw.spec hV hz S sp hk hp fun v l' s' hφ S' => k _ _ _ _ (h v l' hφ) S'
end
theorem spec_vc {w : World} {n : Nat} {i : Fi} {vals : List Value} {pre : Heap → Prop} {Φ : Value → Led → Prop} {f : Addr} (binds : List (Str × Value)) (r : List Str) (I : FiOk i) (hf : i.f = f) (hcell : noCell i = true)
  (hbind : bindArgs (fdX i.fn i.q [] i.dV i.pm i.c .none) ⟨vals, []⟩ = pure binds) (hks : binds.map (·.1) ++ r = i.ks)
  (h : ∀ c0 : Fx, let c := c0.wg i.gt; c.w = w → c.hz = true → c.V → c.n = n → c.gt = i.gt → c.LpX → pre c.g → Ob c (execs i.fn.body c.env) (fun fl m l => Drp l (Φ (match fl with | .ret v => v | _ => .none))) (unb binds r) []) : Spec w (n + 1) f vals pre Φ := by
 refine spec_of binds r I hf hcell hbind hks ?_
 intro A base outer g L env s hp V S
 refine h ⟨w, A, base, outer, n, g, L, env, i.ks, i.gt, fun _ _ => False, [], A.deeper env, true⟩ rfl rfl V rfl rfl (fun _ _ _ h => h.elim) hp _ _ s S (fun fl m l s' hk S' => ?_) fun _ _ h => h
 (refine hideG ?_; intro P0 hP0; obtain ⟨l', R, e, hφ⟩ := hk; refine hP0 ?_; clear hP0 P0)
 exact i2_7 _ l' rfl ((S'.ex e).hp) S'.G S'.O S'.W ((S'.ex e).Z) hφ
end
section
structure KS (c : Fx) (sts : List Stmt) (K K' : KV Flow) : Prop where
 n : ∀ m l, Ob c (execs sts c.env) K m l → K' .next m l
 b : ∀ m l, K .brk m l → K' .brk m l
 k : ∀ m l, K .cont m l → K' .cont m l
 r : ∀ v m l, K (.ret v) m l → K' (.ret v) m l
structure KI (c : Fx) (a b : List Stmt) (K Kb : KV Flow) (KT : KV Bool) : Prop where
 t : ∀ m l, Ob c (execs a c.env) K m l → KT true m l
 f : ∀ m l, Ob c (execs b c.env) Kb m l → KT false m l
theorem stq {c : Fx} (hV : c.V) {st : Stmt} {sts : List Stmt} {K : KV Flow} {m : Loc} {l : Led} (h : ∀ K' : KV Flow, KS c sts K K' → vS c st K' m l) : Ob c (execs (st :: sts) c.env) K m l :=
 stp hV (h _ ⟨fun _ _ h => h, fun _ _ h => h, fun _ _ h => h, fun _ _ _ h => h⟩)
theorem stl {c : Fx} (hV : c.V) {st : Stmt} {K : KV Flow} {m : Loc} {l : Led} (h : vS c st K m l) : Ob c (execs [st] c.env) K m l :=
 fun Q E s S k x => x_cons (vS_ok hV h _ E s S (fun f m' l' s' h' S' => by
  cases f with
  | next => exact x_nil (k _ _ _ _ h' S')
  | brk => exact k _ _ _ _ h' S'
  | cont => exact k _ _ _ _ h' S'
  | ret v => exact k _ _ _ _ h' S') x)
theorem stIf {c : Fx} (hV : c.V) {t : Expr} {a b sts : List Stmt} {pos : Pos} {K : KV Flow} {m : Loc} {l : Led}
  (h : ∀ K' : KV Flow, KS c sts K K' → ∀ KT : KV Bool, KI c a b K' K' KT → vT c t (vE c t) KT m l) : Ob c (execs (.If t a b pos :: sts) c.env) K m l :=
 stq hV fun K' q => h K' q (fun z m l => (z = true → Ob c (execs a c.env) K' m l) ∧ (z = false → Ob c (execs b c.env) K' m l)) ⟨fun m l h => ⟨fun _ => h, fun h => (nomatch h)⟩, fun m l h => ⟨fun h => (nomatch h), fun _ => h⟩⟩
noncomputable def chk (b : Bool) (P : Prop) : Prop := match b with
 | true => P
 | false => False
theorem chk_t {P : Prop} : chk true P = P := rfl
theorem chk_ok {b : Bool} {P : Prop} (h : chk b P) : b = true ∧ P := by cases b with
 | true => exact ⟨rfl, h⟩
 | false => exact h.elim
theorem ob_gen {α : Type} {c : Fx} {t : Sem α} {K : KV α} {m : Loc} {l : Led} (h : ∀ K' : KV α, (∀ f m l, K f m l → K' f m l) → Ob c t K' m l) : Ob c t K m l := h K fun _ _ _ h => h
theorem toNat_inj' : ∀ {a b : List Char}, a.map Char.toNat = b.map Char.toNat → a = b
 | [], [], _ => rfl
 | [], _ :: _, h => by cases h
 | _ :: _, [], h => by cases h
 | x :: a, y :: b, h => by
  simp only [List.map_cons, List.cons.injEq] at h
  rw [toNat_inj' h.2, Char.toNat_inj.mp h.1]
theorem ofString_inj {a b : String} (h : Str.ofString a = Str.ofString b) : a = b := by
 rw [Str.ofString_eq_toList, Str.ofString_eq_toList] at h
 have h2 : (a.toList.map Char.toNat).toArray = (b.toList.map Char.toNat).toArray := congrArg Str.cps h
 have h3 := toNat_inj' (by simpa using h2)
 exact String.toList_inj.mp h3
theorem str_beq (a b : String) : (Str.ofString a == Str.ofString b) = (a == b) := by
 cases h : (a == b) with
 | true => have := beq_iff_eq.mp h; subst this; exact beq_self_eq_true _
 | false =>
  have hn : a ≠ b := by simpa using h
  rw [beq_eq_false_iff_ne]
  exact fun e => hn (ofString_inj e)
section
variable {c : Fx} {m m₀ : Loc} {l : Led} {K : KV Value} {KB : KV Bool} {x y : Str} {o : Option Value} {pos : Pos} {v u : Value} {KL : Loc → Led → Prop} {a b : Int} {t tk : Tok} {e e' : Expr} {z : Bool} {r : Addr} {p : Str × Option Value} {args : List Expr} {vargs : (List Value → Loc → Led → Prop) → Loc → Led → Prop}
noncomputable def vG (c : Fx) (m₀ : Loc) (x : Str) (pos : Pos) (K : KV Value) (l : Led) : Loc → Prop
 | [] => match c.gt.lookup x with
  | some v => K v m₀ l
  | none => Ob c (eval (.Name x pos) c.env) K m₀ l
 | (y, o) :: m => match x == y with
  | true => (match o with | some v => K v m₀ l | none => False)
  | false => vG c m₀ x pos K l m
theorem vG_ok : ∀ m : Loc, vG c m₀ x pos K l m = (match m.lookup x with
 | some (some v) => K v m₀ l
 | some none => False
 | none => match c.gt.lookup x with
  | some v => K v m₀ l
  | none => Ob c (eval (.Name x pos) c.env) K m₀ l)
 | [] => rfl
 | (y, o) :: m => by
  unfold vG
  rw [List.lookup_cons]
  cases (x == y) with
  | true => cases o <;> rfl
  | false => exact vG_ok m
theorem vGet_c : vGet c (p :: m) x pos K l = vG c (p :: m) x pos K l (p :: m) := (vG_ok _).symm
theorem vSto_c : vSto c x v KL (p :: m) l = match hasK (p :: m) x with
 | true => KL (put (p :: m) x v) l
 | false => Ob c (storeName c.env x v) (fun _ => KL) (p :: m) l := rfl
theorem hasK_nil : hasK [] x = false := rfl
theorem hasK_cons : hasK ((y, o) :: m) x = match x == y with | true => true | false => hasK m x := by
 unfold hasK; rw [List.lookup_cons]; cases (x == y) <;> rfl
noncomputable def kn (v : Value) : Bool := true
theorem kn_int : kn (.int a t) = true := rfl
theorem kn_str : kn (.str x t) = true := rfl
theorem kn_ref : kn (.ref r) = true := rfl
theorem kn_none : kn .none = true := rfl
theorem kn_bool : kn (.bool z) = true := rfl
theorem kn_bytes {d : Array UInt8} : kn (.bytes d t) = true := rfl
theorem kn_blt {d : String} : kn (.builtin d) = true := rfl
theorem kn_type {d : String} : kn (.type d) = true := rfl
theorem vBin_Add : vBin c .Add (.int a t) (.int b tk) K m l = (∀ t, K (.int (a + b) t) m l) := rfl
theorem vBin_Sub : vBin c .Sub (.int a t) (.int b tk) K m l = (∀ t, K (.int (a - b) t) m l) := rfl
theorem vBin_Mult : vBin c .Mult (.int a t) (.int b tk) K m l = ((-(2 ^ 60) < a ∧ a < 2 ^ 60) ∧ ∀ t, K (.int (a * b) t) m l) := rfl
theorem vBin_Mod : vBin c .Mod (.int a t) (.int b tk) K m l = (0 < b ∧ ∀ t, K (.int (a % b) t) m l) := rfl
theorem vBin_FloorDiv : vBin c .FloorDiv (.int a t) (.int b tk) K m l = ((0 < b ∧ b < 1073741824) ∧ ∀ t, K (.int (a / b) t) m l) := rfl
theorem vBin_BitAnd : vBin c .BitAnd (.int a t) (.int b tk) K m l = (∀ t, K (.int (Builtin.bitAnd a b) t) m l) := rfl
theorem vBin_BitOr : vBin c .BitOr (.int a t) (.int b tk) K m l = (∀ t, K (.int (Builtin.bitOr a b) t) m l) := rfl
theorem vBin_str : vBin c .Add (.str x t) (.str y tk) K m l = (x.length + y.length ≤ 16777216 ∧ ∀ t, K (.str (x ++ y) t) m l) := rfl
theorem vCmp_Eq : vCmp c .Eq (.int a t) (.int b tk) K m l = K (.bool (a == b)) m l := rfl
theorem vCmp_NotEq : vCmp c .NotEq (.int a t) (.int b tk) K m l = K (.bool (a != b)) m l := rfl
theorem vCmp_Lt : vCmp c .Lt (.int a t) (.int b tk) K m l = K (.bool (decide (a < b))) m l := rfl
theorem vCmp_Gt : vCmp c .Gt (.int a t) (.int b tk) K m l = K (.bool (decide (b < a))) m l := rfl
theorem vCmp_GtE : vCmp c .GtE (.int a t) (.int b tk) K m l = K (.bool (decide (b ≤ a))) m l := rfl
theorem vBin_r1 {op : Operator} : vBin c op (.ref r) u K m l = Ob c (binaryOp op (.ref r) u) K m l := rfl
theorem vBin_r2 (hv : kn v = true) {op : Operator} : vBin c op v (.ref r) K m l = Ob c (binaryOp op v (.ref r)) K m l := by cases v <;> rfl
theorem vBin_b1 {op : Operator} {d : Array UInt8} : vBin c op (.bytes d t) u K m l = Ob c (binaryOp op (.bytes d t) u) K m l := rfl
theorem vCmp_r1 {op : CmpOp} : vCmp c op (.ref r) u K m l = Ob c (compareOp op (.ref r) u) K m l := rfl
theorem vCmp_r2 (hv : kn v = true) {op : CmpOp} : vCmp c op v (.ref r) K m l = Ob c (compareOp op v (.ref r)) K m l := by cases v <;> rfl
theorem vCmp_n (hv : kn v = true) {op : CmpOp} : vCmp c op v .none K m l = Ob c (compareOp op v .none) K m l := by cases v <;> rfl
theorem vCmp_b (hv : kn v = true) {op : CmpOp} : vCmp c op v (.bool z) K m l = Ob c (compareOp op v (.bool z)) K m l := by cases v <;> rfl
theorem vCmp_s (hv : kn v = true) {op : CmpOp} : vCmp c op v (.str x t) K m l = Ob c (compareOp op v (.str x t)) K m l := by cases v <;> rfl
theorem vTr_bool : vTr c (.bool z) KB m l = KB z m l := rfl
theorem vTr_int : vTr c (.int a t) KB m l = KB (a != 0) m l := rfl
theorem vTr_ref : vTr c (.ref r) KB m l = Ob c (truthy (.ref r)) KB m l := rfl
theorem vTr_none : vTr c .none KB m l = Ob c (truthy .none) KB m l := rfl
theorem vTr_bytes {d : Array UInt8} : vTr c (.bytes d t) KB m l = Ob c (truthy (.bytes d t)) KB m l := rfl
theorem vUn_neg : vUn c .USub (.int a t) K m l = ∀ t, K (.int (-a) t) m l := rfl
theorem vSub_str (h : isSlc e' = false) : vSub c e e' (.str x t) (.int a tk) K m l = ((fitsSsize a = true ∧ (Txt.charAt x a).isSome = true) ∧ ∀ t, K (.str (Txt.item x a) t) m l) := by unfold vSub; rw [h]
theorem vSub_ref : vSub c e e' (.ref r) u K m l = Ob c (subscriptTail e e' (.ref r) u) K m l := rfl
theorem vSub_bytes {d : Array UInt8} : vSub c e e' (.bytes d t) u K m l = Ob c (subscriptTail e e' (.bytes d t) u) K m l := rfl
theorem vSub_r {x : Str} : vSub c e e' (.str x t) (.ref r) K m l = Ob c (subscriptTail e e' (.str x t) (.ref r)) K m l := rfl
theorem vCall_b {id : String} (h1 : args.any isStar = false) (h2 : args.isEmpty = false) : vCall c pos (.builtin id) args vargs K m l = vargs (fun vs => Ob c (call (.builtin id) vs) K) m l := by unfold vCall; rw [h1, h2]
theorem vCall_t {id : String} (h1 : args.any isStar = false) (h2 : args.isEmpty = false) : vCall c pos (.type id) args vargs K m l = vargs (fun vs => Ob c (call (.type id) vs) K) m l := by unfold vCall; rw [h1, h2]
theorem vCall_r (h1 : args.any isStar = false) (h2 : args.isEmpty = false) : vCall c pos (.ref r) args vargs K m l = match (fiOf r).isSome with
  | true => vargs (fun vs => Ob c (call (.ref r) vs) K) m l
  | false => Ob c (callWith pos (.ref r) [] (backTo pos (starEach args c.env)) []) K m l := by unfold vCall; (rw [h1, h2]) <;> rfl
end
end
section
theorem St.any {g : Heap} {base : Eo} {L : Addr} {ks : List Str} {m : Loc} {l l' : Led} {s s' : Shared} (S : St g base L ks m l s) (nd : (l'.map (·.1)).Nodup) (hl : ∀ p ∈ l', s'.heap.get? p.1 = some p.2 ∧ (p.1 ∈ l.map (·.1) ∨ s.heap.get? p.1 = none))
  (hk : ∀ b o, b ∉ l.map (·.1) → s.heap.get? b = some o → s'.heap.get? b = some o) (e1 : s'.gens = s.gens) (e2 : s'.os = s.os) : St g base L ks m l' s' := by
 (refine e3_2 S.F.ns ?_; intro oL es ep hL r)
 have nL : L ∉ l.map (·.1) := fun q => by obtain ⟨p, hp, e⟩ := List.mem_map.mp q; exact (S.N p hp).2.1 e
 have ng : ∀ b o, g.get? b = some o → b ∉ l.map (·.1) := fun b o e q => by obtain ⟨p, hp, e'⟩ := List.mem_map.mp q; have := (S.N p hp).2.2; rw [e', e] at this; cases this
 refine ⟨⟨⟨oL, es, ep, hk _ _ nL hL, r⟩, fun b x e => hk _ _ (ng b x e) (S.F.keep b x e), S.F.above⟩, fun p hp => ⟨(hl p hp).1, ?_, ?_⟩, nd, S.K, e1.trans S.G, e2.trans S.O, S.W.keeps fun b hb o e => hk b o (fun q => by obtain ⟨p, hp, e'⟩ := List.mem_map.mp q; exact S.Z p hp (e' ▸ hb)) e, fun p hp hb => ?_, S.Y, S.U⟩
 ·rintro rfl
  rcases (hl p hp).2 with q | q
  ·exact nL q
  ·rw [hL] at q; cases q
 ·cases e : g.get? p.1 with
  | none => rfl
  | some o =>
   rcases (hl p hp).2 with q | q
   ·exact absurd q (ng _ _ e)
   ·rw [S.F.keep _ _ e] at q; cases q
 ·rcases (hl p hp).2 with q | q
  ·(refine e1_2 (List.mem_map.mp q) ?_; intro p' hp' e')
   exact S.Z p' hp' (e' ▸ hb)
  ·obtain ⟨_, o1, h1⟩ := S.U _ hb
   (refine e1_1 (S.W _ hb _ h1) ?_; intro sl h2)
   rw [q] at h2; cases h2
theorem St.ext {g : Heap} {base : Eo} {L : Addr} {ks : List Str} {m : Loc} {l : Led} {s : Shared} {h' : Heap} {tk : Nat} (S : St g base L ks m l s) (he : Heap.ExtBut s.heap.objs.size s.heap h') : St g base L ks m l { s with heap := h', toks := tk } :=
 S.keeps (fun b o e => he b o (Nat.ne_of_lt (Heap.lt_size e)) e) rfl rfl
noncomputable def vNs (c : Fx) : List Expr → List Value → (Loc → Led → Prop) → Loc → Led → Prop
 | [], [], K, m, l => K m l
 | e :: es, v :: vs, K, m, l => vAsg c e v (fun m l => vNs c es vs K m l) m l
 | _, _, _, _, _ => False
theorem vNs_nil {c : Fx} {K : Loc → Led → Prop} {m : Loc} {l : Led} : vNs c [] [] K m l = K m l := rfl
theorem vNs_name {c : Fx} {x : Str} {p : Pos} {es : List Expr} {v : Value} {vs : List Value} {K : Loc → Led → Prop} {m : Loc} {l : Led} : vNs c (.Name x p :: es) (v :: vs) K m l = vSto c x v (fun m l => vNs c es vs K m l) m l := rfl
noncomputable def isNm (e : Expr) : Bool := (nameOf e).isSome
theorem nm_inv {e : Expr} (h : isNm e = true) : ∃ x p, e = .Name x p := by
 unfold isNm at h
 cases q : nameOf e with
 | some x => exact ⟨x, nameOf_some q⟩
 | none => rw [q] at h; exact Bool.noConfusion h
theorem each_nm {env : Env} : ∀ {es : List Expr}, es.all isNm = true → (assignEach es env).length = es.length ∧ (assignEach es env).findIdx? (·.1) = none
 | [], _ => ⟨rfl, rfl⟩
 | e :: es, h => by
  rw [List.all_cons, Bool.and_eq_true] at h
  have ih := each_nm (env := env) h.2
  (refine e2_1 (nm_inv h.1) ?_; rintro x p rfl)
  have q : assignEach (.Name x p :: es) env = (false, assign (.Name x p) env) :: assignEach es env := rfl
  rw [q]
  exact ⟨congrArg (· + 1) ih.1, by rw [List.findIdx?_cons, ih.2]; rfl⟩
theorem vNs_ok {c : Fx} (hV : c.V) : ∀ (es : List Expr) (vs : List Value) (K : Loc → Led → Prop) (m : Loc) (l : Led), es.all isNm = true → vNs c es vs K m l → Ob c (assignInOrder ((assignEach es c.env).map (·.2)) vs) (fun _ => K) m l
 | [], [], K, m, l, _, h => fun Q E s S k x => wpAny_assignInOrder_none (k _ _ _ _ h S)
 | [], _ :: _, _, _, _, _, h => h.elim
 | _ :: _, [], _, _, _, _, h => h.elim
 | e :: es, v :: vs, K, m, l, hn, h => by
  rw [List.all_cons, Bool.and_eq_true] at hn
  (refine e2_1 (nm_inv hn.1) ?_; rintro x p rfl)
  exact fun Q E s S k x => wpAny_assignInOrder_more (vAsg_ok hV h _ E s S (fun _ m' l' s' h' S' => vNs_ok hV es vs K m' l' hn.2 h' Q E s' S' k x) x)
section
variable {c : Fx} {m : Loc} {l : Led} {K : Loc → Led → Prop} {KF : KV Flow} {elts : List Expr} {k : Nat} {pos tp : Pos} {T : Addr} {vs : List Value} {e : Expr}
theorem o_unT (hV : c.V) (hr : Rd c.g l T (tup vs)) (h : vNs c elts vs K m l) (hn : elts.all isNm = true := by rfl) (hzz : elts.length = vs.length := by rfl) (hz : c.hz = true := by assumption) : Ob c (assign (.Tuple elts k pos) c.env (.ref T)) (fun _ => K) m l :=
 fun Q E s S kk x => assign_Tuple_tuple (items := vs.toArray) (Vw.hh' hV hz) ⟨_, S.rd hr, rfl, 0, rfl⟩ (by rw [(each_nm hn).1, hzz]; simp) (each_nm hn).2 fun h' he => vNs_ok hV elts vs K m l hn h Q E _ (S.ext (tk := s.toks) he) kk x
theorem o_unL (hV : c.V) {n : Nat} (hr : Rd c.g l T (lst vs n)) (h : vNs c elts vs K m l) (hn : elts.all isNm = true := by rfl) (hzz : elts.length = vs.length := by rfl) (hz : c.hz = true := by assumption) : Ob c (assign (.Tuple elts k pos) c.env (.ref T)) (fun _ => K) m l := by
 intro Q E s S kk x
 rw [assign_Tuple]
 refine wpAny_bind (wpAny_standAt ?_)
 unfold unpack
 rw [(each_nm hn).2, (each_nm hn).1, hzz]
 refine wpAny_bind (wpAny_holding ?_)
 rw [show vs.length = vs.toArray.size by simp]
 exact kun_itemsOf (items := vs.toArray) (Vw.hh' hV hz) ⟨_, S.rd hr, rfl, n, rfl⟩ fun h' he => vNs_ok hV elts vs K m l hn h Q E _ (S.ext (tk := s.toks) he) kk x
theorem o_asgT (hV : c.V) (h : vE c e (fun v m l => Ob c (assign (.Tuple elts k tp) c.env v) (fun _ => KF .next) m l) m l) (hs : swapsWithSole [.Tuple elts k tp] e pos.line c.env = pure false := by rfl) (hw : swappedStores [.Tuple elts k tp] e c.env = pure none := by rfl) :
  Ob c (exec (.Assign [.Tuple elts k tp] e pos) c.env) KF m l :=
 fun Q E s S kk x => Assign_Tuple (vE_ok hV e _ _ _ h _ E s S (fun v m' l' s' h' S' => h' _ E s' S' (fun _ m2 l2 s2 h2 S2 => kk _ _ _ _ h2 S2) x) x) hs hw
end
end
section
open AutoSeq1 (wpAny_loadPart')
section
variable {prog : Program} {w : World} {A : Around} {E : Value → Shared → Prop} {s : Shared}
theorem nextT_item {it t : Addr} {i : Nat} {items : Array Value} {x : Value} {Q : Value → Shared → Prop} (hit : s.heap.IsTupleIter it t i) (ht : s.heap.IsTuple t items) (hx : items[i]? = some x)
  (hQ : ∀ h', h'.IsTupleIter it t (i + 1) → Heap.SameBut it s.heap h' → Q x { s with heap := h' }) : wpAny (model prog w) A (Builtin.SmallTypes.nextOf (.ref it)) Q E s := by
 have hit0 := hit
 (refine e1_3 hit0 ?_; clear hit0; intro o ho hc hd)
 (refine hideG ?_; intro P0 hP0; obtain ⟨ol, hol, _, nl, hdl⟩ := ht; refine hP0 ?_; clear hP0 P0)
 unfold Builtin.SmallTypes.nextOf
 refine wpAny_bind (wpAny_callSpecial?_slot (name := Str.ofString "__next__") hit.typeIs F.slot_tuple_iterator_next
  (wpAny_call_entry F.slot_tuple_iterator_next hit.typeIs F.entry_tuple_iterator_next ?_ (F.args_tuple_iterator_next_1 _)))
 show wpAny _ _ (field (.ref it) 0 >>= _) _ _ s
 refine wpAny_bind (wpAny_field ho hd (x := .ref t) rfl ?_)
 show wpAny _ _ (if (Value.ref t == Value.none) = true then _ else _) _ _ s
 rw [if_neg (show ¬ ((Value.ref t == Value.none) = true) from Bool.false_ne_true)]
 show wpAny _ _ (field (.ref it) 1 >>= _) _ _ s
 refine wpAny_bind (wpAny_field ho hd (x := .int i 0) rfl ?_)
 show wpAny _ _ (seqItems? (.ref t) >>= _) _ _ s
 refine wpAny_bind (wpAny_seqItems hol hdl ?_)
 simp only [Int.toNat_natCast, hx]
 refine wpAny_bind (wpAny_setField ho hd (by simp) (wpAny_pure ⟨x, rfl, wpAny_pure (hQ _ ?_ (Heap.SameBut.update ..))⟩))
 exact i1_3 _ (Heap.get?_update_self _ ho (Obj.isFreed_of_fields (Obj.data_mapFields hd _))) ((Obj.cls_mapFields ..).trans hc) (by rw [Obj.data_mapFields hd]; simp [rawInt])
theorem nextT_end {it t : Addr} {i : Nat} {items : Array Value} {Q : Value → Shared → Prop} (hh : A.handled = none) (hit : s.heap.IsTupleIter it t i) (ht : s.heap.IsTuple t items) (hx : items[i]? = none)
  (hE : ∀ h' e, Heap.ExtBut it s.heap h' → (∃ o, h'.get? e = some o ∧ o.cls = .type "StopIteration") → E (.ref e) { s with heap := h' }) : wpAny (model prog w) A (Builtin.SmallTypes.nextOf (.ref it)) Q E s := by
 have hit0 := hit
 (refine e1_3 hit0 ?_; clear hit0; intro o ho hc hd)
 (refine hideG ?_; intro P0 hP0; obtain ⟨ol, hol, _, nl, hdl⟩ := ht; refine hP0 ?_; clear hP0 P0)
 unfold Builtin.SmallTypes.nextOf
 refine wpAny_bind (wpAny_callSpecial?_slot (name := Str.ofString "__next__") hit.typeIs F.slot_tuple_iterator_next
  (wpAny_call_entry F.slot_tuple_iterator_next hit.typeIs F.entry_tuple_iterator_next ?_ (F.args_tuple_iterator_next_1 _)))
 show wpAny _ _ (field (.ref it) 0 >>= _) _ _ s
 refine wpAny_bind (wpAny_field ho hd (x := .ref t) rfl ?_)
 show wpAny _ _ (if (Value.ref t == Value.none) = true then _ else _) _ _ s
 rw [if_neg (show ¬ ((Value.ref t == Value.none) = true) from Bool.false_ne_true)]
 show wpAny _ _ (field (.ref it) 1 >>= _) _ _ s
 refine wpAny_bind (wpAny_field ho hd (x := .int i 0) rfl ?_)
 show wpAny _ _ (seqItems? (.ref t) >>= _) _ _ s
 refine wpAny_bind (wpAny_seqItems hol hdl ?_)
 simp only [Int.toNat_natCast, hx]
 refine wpAny_bind (wpAny_rule (wpAny_bind (wpAny_setField ho hd (by simp) ?_)))
 show wpAny _ _ (newExc (.type "StopIteration") [] >>= _) _ _ _
 refine wpAny_bind ?_
 simp only [newExc, newTuple]
 refine wpAny_bind (wpAny_newObj_type ?_ (by size_fits))
 refine wpAny_bind (m := firstArgMember _ _) (wpAny_of_eq (a := Value.none) (by first | rfl | (simp only [firstArgMember]; rfl)) ?_)
 refine wpAny_newObj_type ?_ (by size_fits)
 delta raiseNew
 refine wpAny_bind (wpAny_handled ?_)
 first | rw [show A.in1.handled = none from hh] | rw [hh]
 refine wpAny_bind (wpAny_pure (wpAny_throw ?_))
 exact hE _ _ (((Heap.SameBut.update ..).extBut.push _).push _) ⟨_, Heap.get?_push_size _ rfl, rfl⟩
end
theorem drawsT {prog : Program} {w : World} {A : Around} (hh : A.handled = none) (it t : Addr) (hne : t ≠ it) (items : Array Value) :
  Draws prog w A it [it, t] items.size (fun i v => items[i]? = some v) (fun i h => h.IsTupleIter it t i ∧ h.IsTuple t items) where
 live := fun _ _ st => let ⟨o, ho, _⟩ := st.1; ⟨o, ho⟩
 frame := fun _ _ _ st hk => ⟨st.1.at fun o e => hk it (by simp) o e, by
  (refine e1_2 st.2 ?_; intro o ho r)
  exact ⟨o, hk t (by simp) o ho, r⟩⟩
 item := fun i s Q E hi st hQ => nextT_item st.1 st.2 (x := items[i]) (by simp [hi]) fun h' hit' hs' => hQ _ h' s.toks (by simp [hi]) ⟨hit', by
  (refine e1_2 st.2 ?_; intro o ho r)
  exact ⟨o, hs'.extBut t o hne ho, r⟩⟩ hs'
 done := fun s Q E st hE => nextT_end hh st.1 st.2 (by simp) hE
noncomputable abbrev enO (x : Value) (it : Addr) (i : Int) (old : Value) : Obj := { cls := .type "enumerate", dict := none, data := .fields #[x, .bool false, .ref it, rawInt i, .none, old], slots := #[] }
noncomputable abbrev tiO (a : Addr) (i : Nat) : Obj := { cls := .type "tuple_iterator", data := .fields #[.ref a, .int i 0] }
theorem meets_enumT (l : Addr) (vs : List Value) :
  PySem.Meets (Builtin.«enumerate.__new__» ⟨[.type "enumerate", .ref l], []⟩) (fun _ R s => s.heap.get? l = some (tup vs) ∧
   R (.ok (.ret (.ref (s.heap.push (tiO l 0)).objs.size))) { s with heap := (s.heap.push (tiO l 0)).push (enO .none s.heap.objs.size 0 .none) }) :=
 .of_wp fun prog w A R s h => by
  (refine hideG ?_; intro P0 hP0; obtain ⟨hp, g, d, tk, os⟩ := s; obtain ⟨hl, h⟩ := h; refine hP0 ?_; clear hP0 P0)
  have hsub := sub_enumerate
  have hL : Heap.IsTuple (Shared.heap ⟨hp, g, d, tk, os⟩) l vs.toArray := ⟨_, hl, rfl, 0, rfl⟩
  wp_walk using wpAny_loadPart' hl
  refine wpAny_stack_any fun st => wpAny_pure ?_
  split
  ·rename_i c _ _ _ _ _
   cases (c == Value.type "enumerate")
   ·wp_walk using wpAny_loadPart' hl, wpAny_pyIter_tuple hL
    exact i1_2 _ rfl h
   ·wp_walk using wpAny_loadPart' hl, wpAny_pyIter_tuple hL
    exact i1_2 _ rfl h
  ·wp_walk using wpAny_loadPart' hl, wpAny_pyIter_tuple hL
   exact i1_2 _ rfl h
section
variable {c : Fx} {m : Loc} {l l₀ R₀ : Led} {a e it : Addr} {vs : List Value} {K : KV Value} {KF : KV Flow} {elts : List Expr} {kk : Nat} {tp : Pos} {body orelse : List Stmt}
theorem o_enumT (hr : Rd c.g l a (tup vs)) (h : ∀ e it, K (.ref e) m ((e, enO .none it 0 .none) :: (it, tiO a 0) :: l)) : Ob c (call (.type "enumerate") [.ref a]) K m l := by
 intro Q E s S k x
 refine callType_new F.called_enumerate (by decide) (F.typeCall_enumerate_1 _) (F.newCall_enumerate_1 _) (fun obj => F.args_object_init_2 obj _) F.entry_enumerate_new (meets_enumT a vs) ⟨S.rd hr, ?_⟩
 have S1 := S.push (s' := { s with heap := s.heap.push (tiO a 0) }) (tiO a 0) rfl rfl rfl rfl
 have S2 := S1.push (s' := { s with heap := (s.heap.push (tiO a 0)).push (enO .none s.heap.objs.size 0 .none) }) (enO .none s.heap.objs.size 0 .none) rfl rfl rfl rfl
 exact ⟨⟨_, S2.get (.head _), rfl⟩, k _ _ _ _ (h _ _) S2⟩
inductive EnI (c : Fx) (J : Nat → Loc → Led → Prop) (vs : List Value) (a e it : Addr) (n : Nat) (s : Shared) : Prop
 | mk (i : Nat) (m : Loc) (l : Led) (old : Value) (oi : Obj) (h1 : n = vs.length - i) (h2 : i ≤ vs.length) (h3 : J i m l) (h4 : oi.cls = .type "tuple_iterator") (h5 : oi.data = .fields #[.ref a, .int i 0]) (h6 : c.S m ((e, enO .none it i old) :: (it, oi) :: l) s)
theorem vfor_enum (hV : c.V) (hX : c.LpX) (vs : List Value) (hd : Ex l ((e, enO .none it 0 .none) :: (it, tiO a 0) :: l₀) R₀) (J : Nat → Loc → Led → Prop) (h0 : J 0 m l₀) (rd : ∀ i m l, J i m l → Rd c.g l a (tup vs))
  (turn : ∀ i v t m l T oT oe oi, i < vs.length → vs[i]? = some v → J i m l → oT = tup [.int i t, v] → Ob c (assign (.Tuple elts kk tp) c.env (.ref T)) (fun _ m l => Ob c (execs body c.env) (fun f m l => match f with
   | .next => Drp l fun l' => ∃ l'', l' = (e, oe) :: (it, oi) :: l'' ∧ J (i + 1) m l''
   | .cont => Drp l fun l' => ∃ l'', l' = (e, oe) :: (it, oi) :: l'' ∧ J (i + 1) m l''
   | .brk => KF .next m l
   | .ret v => KF (.ret v) m l) m l) m ((T, oT) :: (e, oe) :: (it, oi) :: l))
  (done : ∀ m l, J vs.length m l → Ob c (execs orelse c.env) KF m l) (hz : c.hz = true := by assumption) : ObF c (.Tuple elts kk tp) body orelse (.ref e) KF m l := by
 intro QF E s S k x
 have S := S.ex hd
 have he : IsEnum s.heap e it 0 .none := S.get (.head _)
 refine wpAny_pyIter_enum he ?_
 refine codeAny_forLoop_any (I := EnI c J vs a e it) ?_ vs.length ⟨0, m, l₀, _, _, by simp, by simp, h0, rfl, rfl, S⟩
 clear S he hd h0
 (rintro n s hJq; refine hideG ?_; intro P0 hP0; obtain ⟨i, m, l, old, oi, rfl, hi, hJ, hc1, hc2, S⟩ := hJq; refine hP0 ?_; clear hP0 P0)
 have hr := rd i m l hJ
 have he : IsEnum s.heap e it i old := S.get (.head _)
 have hi1 : s.heap.get? it = some oi := S.get (.tail _ (.head _))
 have hit : s.heap.IsTupleIter it a i := ⟨_, hi1, hc1, hc2⟩
 have ht : s.heap.get? a = some (tup vs) := S.rd hr.cons.cons
 have hl : s.heap.IsTuple a vs.toArray := ⟨_, ht, rfl, 0, rfl⟩
 have nie : e ≠ it := fun q => by have := S.D; simp [q] at this
 have nai : a ≠ it := fun q => by rw [q, hi1] at ht; have := (congrArg Obj.cls (Option.some.inj ht)).symm.trans hc1; simp at this
 have nae : a ≠ e := fun q => by rw [q] at ht; have := congrArg Obj.cls (Option.some.inj (he.symm.trans ht)); simp at this
 have D := drawsT (prog := pw) (w := c.w) (A := c.A'.in1) (Vw.hh' hV hz) it a nai vs.toArray
 have nd := S.D
 simp only [List.map_cons, List.nodup_cons, List.mem_cons, not_or] at nd
 rcases Nat.lt_or_ge i vs.length with q | q
 ·refine wpAny_pyNext_enum_itemD D he ⟨hit, hl⟩ (by simpa using q) nie (by simp [nie, Ne.symm nae]) fun v h' tk hP ho hs' hT hsz hk => ?_
  (refine e1_3 hs'.1 ?_; intro oi' ho1 ho2 ho3)
  have S1 : c.S m ((s.heap.objs.size, tup [.int i tk, v]) :: (e, enO (rawInt s.heap.objs.size) it (i + 1) v) :: (it, oi') :: l) { s with heap := h', toks := tk + 1 } := by
   refine S.any ?_ ?_ ?_ rfl rfl
   ·simp only [List.map_cons, List.nodup_cons, List.mem_cons, not_or]
    refine ⟨⟨fun e1 => ?_, fun e1 => ?_, fun e1 => ?_⟩, nd⟩
    ·have := Heap.lt_size he; rw [← e1] at this; exact Nat.lt_irrefl _ this
    ·have := Heap.lt_size hi1; rw [← e1] at this; exact Nat.lt_irrefl _ this
    ·(refine e1_2 (List.mem_map.mp e1) ?_; intro p hp e2)
     have := Heap.lt_size (S.N p (.tail _ (.tail _ hp))).1; rw [e2] at this; exact Nat.lt_irrefl _ this
   ·intro p hp
    rcases List.mem_cons.mp hp with rfl | hp
    ·exact ⟨hT, .inr (size_none _)⟩
    ·rcases List.mem_cons.mp hp with rfl | hp
     ·exact ⟨ho, .inl (by simp)⟩
     ·rcases List.mem_cons.mp hp with rfl | hp
      ·exact ⟨ho1, .inl (by simp)⟩
      ·have hp' := List.mem_map_of_mem (f := (·.1)) hp
       exact ⟨hk _ _ (fun q => nd.1.2 (q ▸ hp')) (fun q => nd.2.1 (q ▸ hp')) (S.N p (.tail _ (.tail _ hp))).1, .inl (List.mem_cons_of_mem _ (List.mem_cons_of_mem _ hp'))⟩
   ·intro b o nb hb
    simp only [List.map_cons, List.mem_cons, not_or] at nb
    exact hk b o nb.1 nb.2.1 hb
  refine wpAny_letOwnedTupleGo_enum ho fun h2 he2 hs2 => ?_
  have S2 : c.S m ((s.heap.objs.size, tup [.int i tk, v]) :: (e, enO .none it (i + 1) v) :: (it, oi') :: l) { s with heap := h2, toks := tk + 1 } := S1.chg (.there .here) hs2 he2 rfl rfl
  refine turn i v tk m l _ _ _ _ q (by simpa using hP) hJ rfl _ _ _ S2 (fun _ m' l' s' h' S' => h' _ _ s' S' (fun f m2 l2 s3 h3 S3 => ?_) fun e s h => hX _ e s h x) fun e s h => hX _ e s h x
  cases f with
  | next => obtain ⟨_, R, ex, l4, rfl, hJ'⟩ := h3; exact ⟨vs.length - (i + 1), by lia, i + 1, _, _, _, _, rfl, q, hJ', ho2, ho3, S3.ex ex⟩
  | cont => obtain ⟨_, R, ex, l4, rfl, hJ'⟩ := h3; exact ⟨vs.length - (i + 1), by lia, i + 1, _, _, _, _, rfl, q, hJ', ho2, ho3, S3.ex ex⟩
  | brk => exact k _ _ _ _ h3 S3
  | ret v => exact k _ _ _ _ h3 S3
 ·have := Nat.le_antisymm hi q
  subst this
  refine wpAny_pyNext_enum_endD D he (by simpa using And.intro hit hl) fun h' hx => ?_
  have S1 : c.S m l { s with heap := h' } := St.spent ((S.perm (List.Perm.swap _ _ _)).sub (.cons_cons _ (List.sublist_cons_self _ _))) hx rfl rfl
  exact done m l hJ QF _ _ S1 k fun e s h => hX _ e s h x
end
end
section
section
variable {c : Fx} {m : Loc} {l l' : Led} {K : KV Value} {a b : Addr} {vs us : List Value} {v ov : Value} {i : Int} {k : Nat} {t u : Tok} {x name : Str} {e e' : Expr} {args : List Expr} {id : String} {pos : Pos}
theorem o_bm (hV : c.V) (id : String) (hg : ∀ (pl : Sem Bool) (Q : Value × List Value → Shared → Prop) E s, c.S m l s → Q (.builtin id, [ov]) s → wpAny (M c.w) c.A' (getMethod ov name pl) Q E s)
  (h : vAs c (e :: args) (fun vs m l => Ob c (call (.builtin id) (ov :: vs)) K m l) m l) (hs : (e :: args).any isStar = false := by rfl) : vMeth c pos ov name (e :: args) K m l := by
 intro pl Q E s S k x
 refine hg pl _ _ s S (k _ _ _ _ ?_ S)
 intro Q' E' s' S' k' x'
 have st := any_star (c := c) hs
 exact cw_b _ (vAs_ok hV _ hs _ _ _ pos h _ E' s' S' (fun vs m' l' s'' h' S'' => h' Q' E' s'' S'' k' x') x') st.1 (any_back st.2)
theorem o_bm0 (id : String) (hg : ∀ (pl : Sem Bool) (Q : Value × List Value → Shared → Prop) E s, c.S m l s → Q (.builtin id, [ov]) s → wpAny (M c.w) c.A' (getMethod ov name pl) Q E s)
  (h : Ob c (call (.builtin id) [ov]) K m l) : vMeth c pos ov name [] K m l := by
 intro pl Q E s S k x
 refine hg pl _ _ s S (k _ _ _ _ ?_ S)
 exact fun Q' E' s' S' k' x' => cw_b0 (h Q' E' s' S' k' x')
theorem g_list (hr : Rd c.g l a (lst vs k)) (slot : Slot "list" name id) (hty : typeOf (.builtin id) = pure (.type "method_descriptor")) : ∀ (pl : Sem Bool) (Q : Value × List Value → Shared → Prop) E s, c.S m l s → Q (.builtin id, [.ref a]) s → wpAny (M c.w) c.A' (getMethod (.ref a) name pl) Q E s :=
 fun pl Q E s S h => gm_list S hr slot hty h
theorem o_join {ys : List Str} (hr : Rd c.g l a (lst vs k)) (hi : StrsAre vs ys) (hz : (ys.map (·.length)).sum + ys.length * x.length ≤ 16777216) (h : ∀ t, K (.str (Txt.join x ys) t) m l) : Ob c (call (.builtin "str.join") [.str x t, .ref a]) K m l :=
 fun Q E s S kk _ => join_list (items := vs.toArray) ⟨_, S.rd hr, rfl, k, rfl⟩ hi hz fun t' n => kk _ _ _ _ (h _) (S.same rfl rfl rfl)
end
theorem strs_snoc : ∀ {vs : List Value} {ys : List Str} (_ : StrsAre vs ys) (y : Str) (t : Tok), StrsAre (vs ++ [.str y t]) (ys ++ [y])
 | _, _, .nil, y, t => .cons y t .nil
 | _, _, .cons z u r, y, t => .cons z u (strs_snoc r y t)
theorem strs_len : ∀ {vs : List Value} {ys : List Str}, StrsAre vs ys → vs.length = ys.length
 | _, _, .nil => rfl
 | _, _, .cons _ _ r => by simp [strs_len r]
theorem Ex.rfl : ∀ {l : Led}, Ex l l []
 | [] => .nil
 | _ :: _ => .take .here Ex.rfl
theorem Ex.drop {p : Addr × Obj} {l P R : Led} (h : Ex l P R) : Ex (p :: l) P (p :: R) := by
 induction h with
 | nil => exact .nil
 | take h _ ih => exact .take (.there h) ih
noncomputable def WhK (J : Nat → Loc → Led → Prop) (n : Nat) (K : KV Flow) : KV Flow := fun f m l => match f with
 | .next => Drp l fun l' => ∃ n', n' < n ∧ J n' m l'
 | .cont => Drp l fun l' => ∃ n', n' < n ∧ J n' m l'
 | .brk => K .next m l
 | .ret v => K (.ret v) m l
theorem vwhile {c : Fx} (hV : c.V) (hX : c.LpX) {m : Loc} {l l₀ R₀ : Led} {K : KV Flow} {test : Expr} {body orelse : List Stmt} {pos : Pos} (J : Nat → Loc → Led → Prop) (n : Nat) (hd : Ex l l₀ R₀) (h0 : J n m l₀)
  (turn : ∀ n m l, J n m l → ∀ KT : KV Bool, KI c body orelse (WhK J n K) K KT → vT c test (vE c test) KT m l) : Ob c (exec (.While test body orelse pos) c.env) K m l := by
 intro Q E s S k x
 refine wpAny_While (codeAny_whileLoop (I := fun n s => ∃ m l, J n m l ∧ c.S m l s) ?_ n ⟨m, l₀, h0, S.ex hd⟩)
 clear S h0 hd
 (rintro n s hJq; refine hideG ?_; intro P0 hP0; obtain ⟨m, l, hJ, S⟩ := hJq; refine hP0 ?_; clear hP0 P0)
 refine vT_ok hV test _ (vE_ok hV test) _ _ _ (turn n m l hJ (fun b m l => (b = true → Ob c (execs body c.env) (WhK J n K) m l) ∧ (b = false → Ob c (execs orelse c.env) K m l)) ⟨fun m l h => ⟨fun _ => h, fun h => (nomatch h)⟩, fun m l h => ⟨fun h => (nomatch h), fun _ => h⟩⟩) _ _ s S (fun b m' l' s' h' S' => ?_) fun e s h => hX _ e s h x
 cases b with
 | false => exact h'.2 rfl _ _ s' S' k fun e s h => hX _ e s h x
 | true =>
  refine h'.1 rfl _ _ s' S' (fun f m2 l2 s2 h2 S2 => ?_) fun e s h => hX _ e s h x
  cases f with
  | next => obtain ⟨_, R, ex, n', hn, hJ'⟩ := h2; exact ⟨n', hn, _, _, hJ', S2.ex ex⟩
  | cont => obtain ⟨_, R, ex, n', hn, hJ'⟩ := h2; exact ⟨n', hn, _, _, hJ', S2.ex ex⟩
  | brk => exact k _ _ _ _ h2 S2
  | ret v => exact k _ _ _ _ h2 S2
structure Ints (vs : List Value) (xs : List Int) : Prop where
 len : vs.length = xs.length
 get : ∀ (i : Nat) (x : Int), xs[i]? = some x → ∃ t, vs[i]? = some (.int x t)
theorem Ints.nil : Ints [] [] := ⟨rfl, by simp⟩
theorem Ints.cons {vs : List Value} {xs : List Int} (h : Ints vs xs) (x : Int) (t : Tok) : Ints (.int x t :: vs) (x :: xs) :=
 ⟨by simp [h.len], fun i y hy => by
  cases i with
  | zero => simp at hy; subst hy; exact ⟨t, rfl⟩
  | succ i => simpa using h.get i y (by simpa using hy)⟩
theorem Ints.append {vs us : List Value} {xs ys : List Int} (h : Ints vs xs) (h' : Ints us ys) : Ints (vs ++ us) (xs ++ ys) :=
 ⟨by simp [h.len, h'.len], fun i y hy => by
  rcases Nat.lt_or_ge i xs.length with q | q
  ·rw [List.getElem?_append_left q] at hy
   rw [List.getElem?_append_left (by rw [h.len]; exact q)]
   exact h.get i y hy
  ·rw [List.getElem?_append_right q] at hy
   rw [List.getElem?_append_right (by rw [h.len]; exact q), h.len]
   exact h'.get _ y hy⟩
theorem Ints.snoc {vs : List Value} {xs : List Int} (h : Ints vs xs) (x : Int) (t : Tok) : Ints (vs ++ [.int x t]) (xs ++ [x]) := h.append (Ints.nil.cons x t)
theorem Ints.tail {v : Value} {x : Int} {vs : List Value} {xs : List Int} (h : Ints (v :: vs) (x :: xs)) : (∃ t, v = .int x t) ∧ Ints vs xs :=
 ⟨by simpa using h.get 0 x rfl, ⟨by simpa using h.len, fun i y hy => by simpa using h.get (i + 1) y (by simpa using hy)⟩⟩
theorem Ints.ex {xs : List Int} : ∀ {vs : List Value}, Ints vs xs → ∃ ts : List Tok, ts.length = xs.length ∧ vs = (xs.zip ts).map fun p => .int p.1 p.2 := by
 induction xs with
 | nil => intro vs h; have := h.len; simp at this; subst this; exact ⟨[], rfl, rfl⟩
 | cons x xs ih =>
  intro vs h
  cases vs with
  | nil => have := h.len; simp at this
  | cons v vs =>
   (refine e0_2 h.tail ?_; rintro ⟨t, rfl⟩ h')
   (refine e1_2 (ih h') ?_; rintro ts e rfl)
   exact i1_2 (t :: ts) (by simp [e]) rfl
section
variable {c : Fx} {m : Loc} {l : Led} {KB : KV Bool} {a : Addr} {vs : List Value} {k : Nat}
theorem o_trl (hr : Rd c.g l a (lst vs k)) (hz : vs.length < 2 ^ 62) (h : KB (!vs.isEmpty) m l) : Ob c (truthy (.ref a)) KB m l := by
 intro Q E s S kk x
 have hl : s.heap.IsList a vs.toArray := ⟨_, S.rd hr, rfl, k, rfl⟩
 refine wpAny_truthy_list hl (by simp; lia) ?_
 exact kk _ _ _ _ (by simpa using h) (S.same rfl rfl rfl)
end
theorem len4 {α : Type} {l : List α} (h : l.length = 4) : ∃ a b c d, l = [a, b, c, d] := match l, h with | [a, b, c, d], _ => ⟨a, b, c, d, rfl⟩
end
section
theorem Ex.keep {p : Addr × Obj} {l P R : Led} (h : Ex l P R) : Ex (p :: l) (p :: P) R := .take .here h
theorem Ex.app : ∀ {e l : Led}, Ex (e ++ l) l e
 | [], l => .rfl
 | p :: e, l => .drop Ex.app
noncomputable def AllI (vs : List Value) : Prop := ∀ v ∈ vs, ∃ x t, v = Value.int x t
theorem Ints.all {vs : List Value} {xs : List Int} (h : Ints vs xs) : AllI vs := by
 intro v hv
 obtain ⟨i, hi, rfl⟩ := List.getElem_of_mem hv
 obtain ⟨t, ht⟩ := h.get i (xs[i]'(by rw [← h.len]; exact hi)) (by simp)
 rw [List.getElem?_eq_getElem hi] at ht
 exact i2_1 _ _ (Option.some.inj ht)
theorem AllI.items : ∀ {vs : List Value}, AllI vs → ∃ xs : Array (Int × Tok), intItems xs = vs.toArray
 | [], _ => ⟨#[], by simp [intItems]⟩
 | v :: vs, h => by
  (refine e1_1 (AllI.items (vs := vs) fun v hv => h v (by simp [hv])) ?_; intro xs hx)
  (refine e2_1 (h v (by simp)) ?_; rintro x t rfl)
  refine ⟨#[(x, t)] ++ xs, ?_⟩
  unfold intItems at hx ⊢
  rw [Array.map_append, hx]
  simp
theorem pick_all {vs : List Value} (h : AllI vs) (lo hi st : Option Int) : AllI (slicePick vs.toArray lo hi st).toList := by
 intro v hv
 unfold slicePick at hv
 simp only [List.mem_filterMap] at hv
 (refine e1_2 hv ?_; clear hv; intro i _ hi)
 exact h v (by
  have := Array.mem_of_getElem? hi
  simpa using this)
section
variable {c : Fx} {m : Loc} {l : Led} {K : KV Value} {KB : KV Bool} {a sl : Addr} {vs : List Value} {k : Nat} {e e' : Expr} {vl vu vk : Value} {lo hi st : Option Int} {t u : Tok} {x y : Int}
theorem o_lsl (hr : Rd c.g l a (lst vs k)) (hs : Rd c.g l sl (slcO vl vu vk)) (pl : IsPart vl lo) (pu : IsPart vu hi) (ps : IsPart vk st) (h0 : st ≠ some 0) (hz : vs.length ≤ sizeLine) (h : ∀ d, K (.ref d) m ((d, lst (slicePick vs.toArray lo hi st).toList 0) :: l))
  {ops : List Value} (he : subscripted e' false (.ref a) (.ref sl) = operate ops (getItem (.ref a) (.ref sl)) := by with_unfolding_all rfl) : Ob c (subscriptTail e e' (.ref a) (.ref sl)) K m l := by
 intro Q E s S kk x
 have hl : s.heap.IsList a vs.toArray := ⟨_, S.rd hr, rfl, k, rfl⟩
 refine tail_any hl.typeIs slot_list_getitem.lookup (wpAny_getItem_list_slice hl ⟨_, S.rd hs, rfl, rfl⟩ pl pu ps h0 ?_ (by simpa using hz)) he
 exact kk _ _ _ _ (h _) (S.push _ rfl rfl rfl rfl)
theorem o_sum (hV : c.V) (hr : Rd c.g l a (lst vs k)) (hi : AllI vs) (h : ∀ z t, K (.int z t) m l) (hz : c.hz = true := by assumption) : Ob c (call (.builtin "sum") [.ref a]) K m l := by
 intro Q E s S kk x
 (refine e1_1 hi.items ?_; intro xs hx)
 exact sum_intListG (xs := xs) (Vw.hh' hV hz) (by rw [hx]; exact ⟨_, S.rd hr, rfl, k, rfl⟩) fun h' tk t' hk => kk _ _ _ _ (h _ _) (S.keeps hk rfl rfl)
theorem o_max (hV : c.V) (h : ∀ t, K (.int (max x y) t) m l) (hz : c.hz = true := by assumption) : Ob c (call (.builtin "max") [.int x t, .int y u]) K m l :=
 fun Q E s S kk _ => max_two_ints (Vw.hh' hV hz) fun h' tk hk => by
  refine kk _ _ _ _ ?_ (S.keeps hk rfl rfl)
  split
  ·rw [show y = max x y by lia]; exact h _
  ·rw [show x = max x y by lia]; exact h _
end
structure Th where
 (a t k r : Nat)
noncomputable def Th.ints (x : Th) : List Int := [x.a, x.t, x.k, x.r]
noncomputable def Th.ok (i : Nat) (x : Th) : Prop := x.a ≤ 8 ∧ x.t ≤ 255 ∧ (x.k = 4 ∨ x.k = 8 ∨ x.k = 10) ∧ x.r < 4096 ∧ (i = 0 → x.a = 0 ∧ x.k = 4)
inductive ThAt (rd : Addr → Obj → Prop) (aT : Addr) (th : List Th) : Prop
 | mk (as : List Addr) (k : Nat) (h1 : rd aT (lst (as.map .ref) k)) (h2 : as.length = th.length) (h3 : ∀ (i : Nat) a x, as[i]? = some a → th[i]? = some x → ∃ vs k, rd a (lst vs k) ∧ Ints vs x.ints)
end
section
theorem ob_ex {α : Type} {c : Fx} {t : Sem α} {K : KV α} {m : Loc} {l l' R : Led} (e : Ex l l' R) (h : Ob c t K m l') : Ob c t K m l :=
 fun Q E s S k x => h Q E s (S.ex e) k x
theorem drp {l l' R : Led} {P : Led → Prop} (e : Ex l l' R) (h : P l') : Drp l P := ⟨l', R, e, h⟩
noncomputable def nc : Flow → Bool
 | .next => true
 | .cont => true
 | _ => false
theorem lpk {I : Addr} {oI : Obj} {J : Loc → Led → Prop} {K : KV Flow} {f : Flow} {m : Loc} {l l' l'' R : Led} (e : Ex l l' R) (q : l' = (I, oI) :: l'') (h : J m l'') (hf : nc f = true := by rfl) : LpK I oI J K f m l := by
 cases f with
 | next => exact ⟨_, _, e, _, q, h⟩
 | cont => exact ⟨_, _, e, _, q, h⟩
 | _ => cases hf
theorem whk {J : Nat → Loc → Led → Prop} {n n' : Nat} {K : KV Flow} {f : Flow} {m : Loc} {l l' R : Led} (e : Ex l l' R) (q : n' < n) (h : J n' m l') (hf : nc f = true := by rfl) : WhK J n K f m l := by
 cases f with
 | next => exact ⟨_, _, e, _, q, h⟩
 | cont => exact ⟨_, _, e, _, q, h⟩
 | _ => cases hf
theorem whb {J : Nat → Loc → Led → Prop} {n : Nat} {K : KV Flow} {m : Loc} {l : Led} (h : K .next m l) : WhK J n K .brk m l := h
theorem kbq {KT : KV Bool} {a b : Bool} {m : Loc} {l : Led} (e : a = b) (h : KT b m l) : KT a m l := e ▸ h
noncomputable def Lz {A B : Type} (C : (A → B → Prop) → Prop) (a : A) (b : B) : Prop := ∀ P : A → B → Prop, C P → P a b
noncomputable def Lz3 {A B D : Type} (C : (A → B → D → Prop) → Prop) (a : A) (b : B) (d : D) : Prop := ∀ P : A → B → D → Prop, C P → P a b d
@[elab_as_elim] theorem Lz.el {A B : Type} {C : (A → B → Prop) → Prop} {motive : A → B → Prop} {a : A} {b : B} (h : Lz C a b) (k : C motive) : motive a b := h motive k
@[elab_as_elim] theorem Lz3.el {A B D : Type} {C : (A → B → D → Prop) → Prop} {motive : A → B → D → Prop} {a : A} {b : B} {d : D} (h : Lz3 C a b d) (k : C motive) : motive a b d := h motive k
theorem ek_0 {a0 a1 a2} : ek (.BoolOp a0 a1 a2) = 0 := rfl
theorem ek_1 {a0 a1 a2} : ek (.NamedExpr a0 a1 a2) = 1 := rfl
theorem ek_2 {a0 a1 a2 a3} : ek (.BinOp a0 a1 a2 a3) = 2 := rfl
theorem ek_3 {a0 a1 a2} : ek (.UnaryOp a0 a1 a2) = 3 := rfl
theorem ek_5 {a0 a1 a2 a3} : ek (.IfExp a0 a1 a2 a3) = 5 := rfl
theorem ek_6 {a0 a1 a2} : ek (.Dict a0 a1 a2) = 6 := rfl
theorem ek_7 {a0 a1 a2} : ek (.Set a0 a1 a2) = 7 := rfl
theorem ek_8 {a0 a1 a2 a3} : ek (.ListComp a0 a1 a2 a3) = 8 := rfl
theorem ek_9 {a0 a1 a2 a3} : ek (.SetComp a0 a1 a2 a3) = 9 := rfl
theorem ek_10 {a0 a1 a2 a3 a4} : ek (.DictComp a0 a1 a2 a3 a4) = 10 := rfl
theorem ek_15 {a0 a1 a2 a3} : ek (.Compare a0 a1 a2 a3) = 15 := rfl
theorem ek_16 {a0 a1 a2 a3} : ek (.Call a0 a1 a2 a3) = 16 := rfl
theorem ek_18 {a0 a1} : ek (.JoinedStr a0 a1) = 18 := rfl
theorem ek_19 {a0 a1 a2} : ek (.Constant a0 a1 a2) = 19 := rfl
theorem ek_20 {a0 a1 a2} : ek (.Attribute a0 a1 a2) = 20 := rfl
theorem ek_21 {a0 a1 a2} : ek (.Subscript a0 a1 a2) = 21 := rfl
theorem ek_22 {a0 a1} : ek (.Starred a0 a1) = 22 := rfl
theorem ek_23 {a0 a1} : ek (.Name a0 a1) = 23 := rfl
theorem ek_24 {a0 a1} : ek (.List a0 a1) = 24 := rfl
theorem ek_25 {a0 a1 a2} : ek (.Tuple a0 a1 a2) = 25 := rfl
theorem ek_26 {a0 a1 a2 a3} : ek (.Slice a0 a1 a2 a3) = 26 := rfl
theorem u_comp {e} : isComp e = (ek e == 8 || (ek e == 9 || ek e == 10)) := rfl
theorem u_set {e} : isSet e = (ek e == 7) := rfl
theorem u_slc {e} : isSlc e = (ek e == 26) := rfl
theorem u_call {e} : isCall e = (ek e == 16) := rfl
theorem u_star {e} : isStar e = (ek e == 22) := rfl
theorem u_ok {o args p pos} : okMeth o args p pos = (!isCall o && (!args.any isStar && (few args && (p.endLine == pos.line)))) := rfl
theorem u_emp0 {α : Type} : ([] : List α).isEmpty = true := rfl
theorem u_emp1 {α : Type} {a : α} {l : List α} : (a :: l).isEmpty = false := rfl
theorem u_is0 {α : Type} : (none : Option α).isSome = false := rfl
theorem u_is1 {α : Type} {a : α} : (some a).isSome = true := rfl
theorem u_lk0 {x : Str} {β : Type} : ([] : List (Str × β)).lookup x = none := rfl
theorem u_lk {x y : Str} {β : Type} {b : β} {l : List (Str × β)} : ((y, b) :: l).lookup x = match x == y with | true => some b | false => l.lookup x := rfl
theorem few_0 : few [] = true := rfl
theorem few_1 {a} : few [a] = true := rfl
theorem few_2 {a b} : few [a, b] = true := rfl
theorem few_3 {a b d} : few [a, b, d] = true := rfl
noncomputable def vcd := And.intro @vNs_name (And.intro @vNs_nil (And.intro @vS_name (And.intro @vS_attr (And.intro @vS_sub (And.intro @vS_tup (And.intro @vS_asg2 (And.intro @vS_ret (And.intro @vS_ret0 (And.intro @vS_if (And.intro @vS_expr (And.intro @vS_pass (And.intro @vS_brk (And.intro @vS_cont (And.intro @vS_for (And.intro @vS_augN (And.intro @vS_augA (And.intro @vS_augS (And.intro @vS_while (And.intro @vS_try (And.intro @vS_raise (And.intro @vS_def (And.intro @vS_del (And.intro @vE_int (And.intro @vE_str (And.intro @vE_none (And.intro @vE_bool (And.intro @vE_byt (And.intro @vE_name (And.intro @vE_bin (And.intro @vE_un (And.intro @vE_cmp (And.intro @vE_ife (And.intro @vE_sub (And.intro @vE_list (And.intro @vE_tup (And.intro @vE_call (And.intro @vE_meth (And.intro @vE_call2 (And.intro @vE_callS (And.intro @vE_callK (And.intro @vE_dict (And.intro @vE_attr (And.intro @vE_slice (And.intro @vE_wal (And.intro @vE_lcmp (And.intro @vE_jstr (And.intro @vE_bool2 (And.intro @vE_set (And.intro @vE_chain (And.intro @vO_none (And.intro @vO_some (And.intro @vT_not (And.intro @vT_and (And.intro @vT_or (And.intro @vT_cmp (And.intro @vT_name (And.intro @vT_con (And.intro @vT_call (And.intro @vT_attr (And.intro @vT_sub (And.intro @vT_bin (And.intro @vT_wal (And.intro @vT_chain (And.intro @vAnd_nil (And.intro @vAnd_cons (And.intro @vOr_nil (And.intro @vOr_cons (And.intro @vAs_nil (And.intro @vAs_cons (And.intro @vGet_c (And.intro @vSto_c (And.intro @vAsg_name (@vAsg_tup)))))))))))))))))))))))))))))))))))))))))))))))))))))))))))))))))))))))))
noncomputable def vcu := And.intro @vNs_nil (And.intro @vNs_name (And.intro @u_comp (And.intro @u_set (And.intro @u_slc (And.intro @u_call (And.intro @u_star (And.intro @u_ok (And.intro @u_emp0 (And.intro @u_emp1 (And.intro @u_is0 (And.intro @u_is1 (And.intro @u_lk0 (And.intro @u_lk (And.intro @beq_self_eq_true.{0} (And.intro @List.any_cons.{0} (And.intro @List.any_nil.{0} (And.intro @List.map_cons.{0,0} (And.intro @List.map_nil.{0,0} (And.intro @List.cons_append.{0} (And.intro @List.nil_append.{0} (And.intro @List.length_cons.{0} (And.intro @List.length_nil.{0} (And.intro @Bool.or_false (And.intro @Bool.false_or (And.intro @Bool.not_false (And.intro @Bool.and_true (And.intro @Bool.true_and (And.intro @true_and (And.intro @and_true (And.intro @Bool.true_or (And.intro @List.zip_cons_cons.{0,0} (And.intro @List.zip_nil_left.{0,0} (And.intro @few_3 (And.intro @few_2 (And.intro @few_1 (And.intro @few_0 (And.intro @ek_26 (And.intro @ek_25 (And.intro @ek_24 (And.intro @ek_23 (And.intro @ek_22 (And.intro @ek_21 (And.intro @ek_20 (And.intro @ek_19 (And.intro @ek_18 (And.intro @ek_16 (And.intro @ek_15 (And.intro @ek_10 (And.intro @ek_9 (And.intro @ek_8 (And.intro @ek_7 (And.intro @ek_6 (And.intro @ek_5 (And.intro @ek_3 (And.intro @ek_2 (And.intro @ek_1 (And.intro @ek_0 (And.intro @con_con (And.intro @con_list (And.intro @con_sub (And.intro @con_name (And.intro @con_bin (And.intro @con_call (And.intro @con_tup (And.intro @con_attr (And.intro @con_cmp (And.intro @con_un (And.intro @nam_name (And.intro @hasK_nil (And.intro @hasK_cons (And.intro @vBin_str (And.intro @vBin_r1 (And.intro @vBin_r2 (And.intro @vBin_b1 (And.intro @vCmp_r1 (And.intro @vCmp_r2 (And.intro @vCmp_n (And.intro @vCmp_b (And.intro @vCmp_s (And.intro @kn_int (And.intro @kn_str (And.intro @kn_ref (And.intro @kn_none (And.intro @kn_bool (And.intro @kn_bytes (And.intro @kn_blt (And.intro @kn_type (And.intro @vTr_bool (And.intro @vTr_int (And.intro @vTr_ref (And.intro @vTr_none (And.intro @vTr_bytes (And.intro @vUn_neg (And.intro @vSub_str (And.intro @vSub_ref (And.intro @vSub_bytes (And.intro @vSub_r (And.intro @vCall_b (And.intro @vCall_t (And.intro @vCall_r (And.intro @str_beq (And.intro @fi_28 (And.intro @fi_35 (And.intro @fi_42 (And.intro @fi_82 (And.intro @fi_89 (And.intro @fi_96 (And.intro @fi_103 (And.intro @fi_251 (And.intro @fi_258 (And.intro @fi_265 (And.intro @fi_272 (And.intro @fi_279 (And.intro @fi_286 (And.intro @fi_293 (And.intro @fi_298 (And.intro @fi_305 (And.intro @fi_312 (And.intro @fi_317 (And.intro @fi_322 (And.intro @fi_329 (And.intro @fi_334 (And.intro @chk_t (And.intro @vBin_Add (And.intro @vBin_Sub (And.intro @vBin_Mult (And.intro @vBin_Mod (And.intro @vBin_FloorDiv (And.intro @vBin_BitAnd (And.intro @vBin_BitOr (And.intro @vCmp_Eq (And.intro @vCmp_NotEq (And.intro @vCmp_Lt (And.intro @vCmp_Gt (@vCmp_GtE)))))))))))))))))))))))))))))))))))))))))))))))))))))))))))))))))))))))))))))))))))))))))))))))))))))))))))))))))))))))))))))))))))))))
end

section
theorem lt9 {n : Nat} (h : n < 9) : n = 0 ∨ n = 1 ∨ n = 2 ∨ n = 3 ∨ n = 4 ∨ n = 5 ∨ n = 6 ∨ n = 7 ∨ n = 8 := by revert n; decide
theorem ilt6 {a : Int} (h0 : 0 ≤ a) (h1 : a < 6) : a = 0 ∨ a = 1 ∨ a = 2 ∨ a = 3 ∨ a = 4 ∨ a = 5 := by lia
theorem kd3 {kd : Int} (h : kd = 4 ∨ kd = 8 ∨ kd = 10) : kd.toNat = 4 ∨ kd.toNat = 8 ∨ kd.toNat = 10 := by rcases h with rfl | rfl | rfl <;> decide
theorem kd3i {kd : Int} (h : kd = 4 ∨ kd = 8 ∨ kd = 10) : ((kd.toNat : Nat) : Int) = kd := by rcases h with rfl | rfl | rfl <;> rfl
theorem LDRAWN {w : World} {aS : Addr} {vs : List Value} {ks : Nat} (hI : AllI vs) (hz : vs.length ≤ 63) :
  Spec w 1 258 [.ref aS] (fun g => g.get? aS = some (lst vs ks)) (fun v l' => ∃ r th, v = .ref r ∧ th.length = 9 ∧ (∀ (i : Nat) x, th[i]? = some x → x.ok i) ∧ ThAt (fun a o => (a, o) ∈ l') r th) := by
 refine spec_vc [("script", .ref aS)] ["cells", "things", "place", "cell", "lot", "rest", "above", "kind"] fi_law_drawn_ok rfl (by kernel_rfl) (by kernel_rfl) (by kernel_rfl) ?_
 intro c0 c hw hz hV hn hgt hX hp
 dsimp only [fi_law_drawn] at hgt
 subst hw
 (refine stq hV ?_; intro K qK; walk_at"go")
 rename_i t1 t2 t3 t4 t5 t6 t7 t8 t9 aC
 (refine qK.n _ _ ?_; (try clear qK K); refine stq hV ?_; intro K qK; walk_at"go")
 rename_i aT
 (refine qK.n _ _ ?_; (try clear qK K); refine stq hV ?_; intro K qK; walk_at"go")
 rename_i tn
 refine o_range1 fun a t₁ t₃ => ?_
 refine vfor_range (x := 0) (y := 9) hV hX 9 rfl (by decide) (by decide) List.mem_cons_self (.drop .rfl) (fun i m l => Lz (fun P0 : Loc → Led → Prop => ∀ (as : List Addr) (k : Nat) (th : List Th) (ls : Led) (o1 o2 o3 o4 o5 o6 : Option Value), as.length = i → th.length = i → (∀ (i : Nat) a x, as[i]? = some a → th[i]? = some x → ∃ vs k, (a, lst vs k) ∈ ls ∧ Ints vs x.ints) → (∀ (i : Nat) x, th[i]? = some x → x.ok i) → P0 ([("script", some (.ref aS)), ("cells", some (.ref aC)), ("things", some (.ref aT)), ("place", o1), ("cell", o2), ("lot", o3), ("rest", o4), ("above", o5), ("kind", o6)]) ((aT, lst (as.map .ref) k) :: (aC, tup [.int 29816640 t1, .int 1825528320 t2, .int 2288149924 t3, .int 49634625609 t4, .int 1139967372 t5, .int 278661618 t6, .int 836065440 t7, .int 1427811875 t8, .int 526428028 t9]) :: ls)) m l)
  (fun _ f0 => f0 ([]) 0 ([]) ([]) _ _ _ _ _ _ rfl rfl (by simp) (by simp)) ?_ ?_
 ·(rintro i t m l I oI hi hJq; refine Lz.el hJq ?_; clear hJq; rintro as k th ls o1 o2 o3 o4 o5 o6 hE1 hth hA hO; subst hE1)
  walk_at"go"
  (refine stq hV ?_; intro K qK; walk_at"go")
  obtain ⟨cv, hcv⟩ : ∃ v t, [Value.int 29816640 t1, .int 1825528320 t2, .int 2288149924 t3, .int 49634625609 t4, .int 1139967372 t5, .int 278661618 t6, .int 836065440 t7, .int 1427811875 t8, .int 526428028 t9][(0 + (as.length : Int)).toNat]? = some (.int v t) := by
   have := lt9 hi
   rcases this with h | h | h | h | h | h | h | h | h <;> rw [h] <;> exact ⟨_, _, rfl⟩
  (refine e1_1 hcv ?_; clear hcv; intro ct hcv)
  refine o_tup (.inl (by repeat constructor)) (by lia) (by lia) hcv ?_
  walk_at"go"
  rename_i sl
  refine o_lsl (Or.inr hp) (.inl (by repeat constructor)) (.int _ _) .none (.int _ _) (by simp) (by simp [sizeLine]; lia) fun d => ?_
  walk_at"go"
  refine o_sum hV (.inl (by repeat constructor)) (pick_all hI _ _ _) fun z tz => ?_
  walk_at"go"
  generalize hcell : (cv + z) % 63417876480 = cell
  have hc0 : 0 ≤ cell := by lia
  have hc1 : cell < 63417876480 := by lia
  (refine qK.n _ _ ?_; (try clear qK K); refine stq hV ?_; intro K qK; walk_at"go")
  (refine qK.n _ _ ?_; (try clear qK K); refine stq hV ?_; intro K qK; walk_at"go")
  (refine qK.n _ _ ?_; (try clear qK K); refine stq hV ?_; intro K qK; walk_at"go")
  refine o_max hV fun tq => ?_
  generalize hq : max (0 + (as.length : Int)) 1 = q
  walk_at"go"
  refine ⟨by lia, fun _ => ?_⟩
  generalize hlot : cell / 4 % 2520 = lot
  generalize hrest : cell / 10080 = rest
  (refine qK.n _ _ ?_; (try clear qK K))
  generalize htup : tup [Value.int 29816640 t1, .int 1825528320 t2, .int 2288149924 t3, .int 49634625609 t4, .int 1139967372 t5, .int 278661618 t6, .int 836065440 t7, .int 1427811875 t8, .int 526428028 t9] = oC
  clear hcv
  refine ob_ex (.drop (.drop .rfl)) ?_
  (refine stIf hV ?_; intro K qK KT qI; walk_at"go")
  have fin : ∀ (ab : Int) t' u1 u2 u3, 0 ≤ ab → ab ≤ 8 → (as.length = 0 → ab = 0) → K .next [("script", some (.ref aS)), ("cells", some (.ref aC)), ("things", some (.ref aT)), ("place", some (.int (0 + as.length) t)), ("cell", some (.int cell u1)), ("lot", some (.int lot u2)), ("rest", some (.int rest u3)), ("above", some (.int ab t')), ("kind", o6)] ((I, oI) :: (aT, lst (List.map Value.ref as) k) :: (aC, oC) :: ls) := by
   intro ab t' u1 u2 u3 h0 h8 hz0
   (refine qK.n _ _ ?_; (try clear qK K); refine stq hV ?_; intro K qK; walk_at"go")
   have fin2 : ∀ (kd : Int) tk ex, (kd = 4 ∨ kd = 8 ∨ kd = 10) → (as.length = 0 → kd = 4) → K .next [("script", some (.ref aS)), ("cells", some (.ref aC)), ("things", some (.ref aT)), ("place", some (.int (0 + as.length) t)), ("cell", some (.int cell u1)), ("lot", some (.int lot u2)), ("rest", some (.int rest u3)), ("above", some (.int ab t')), ("kind", some (.int kd tk))] (ex ++ (I, oI) :: (aT, lst (List.map Value.ref as) k) :: (aC, oC) :: ls) := by
    intro kd tk ex hkd hk0
    (refine qK.n _ _ ?_; (try clear qK K))
    refine ob_ex (.app) ?_
    (refine ob_gen ?_; intro KK kk)
    (refine stl hV ?_; walk_at"go")
    refine o_append hV ⟨_, _, by exact .inl (by repeat constructor)⟩ ?_
    walk_at"go"
    rename_i w1 w2 w3 w4 w5 w6 an
    refine ⟨_, _, _, by repeat constructor, by simp [sizeLine]; lia, kk _ _ _ ?_⟩
    rw [show List.map Value.ref as ++ [Value.ref an] = List.map Value.ref (as ++ [an]) by simp]
    refine (lpk (l' := (I, oI) :: (aT, lst (List.map Value.ref (as ++ [an])) (k + 1)) :: (aC, oC) :: (an, _) :: ls) (by (repeat with_reducible first | exact Ex.nil | exact Ex.rfl | (apply Ex.take; focus (with_unfolding_all repeat constructor); done) | apply Ex.drop)) rfl (fun _ f0 => f0 (as ++ [an]) _ (th ++ [⟨ab.toNat, (rest / 24576).toNat, kd.toNat, (rest / 6 % 4096).toNat⟩]) _ _ _ _ _ _ _ (by simp) (by simp [hth]) ?_ ?_))
    ·intro i a x ha hx
     rcases Nat.lt_or_ge i as.length with q | q
     ·rw [List.getElem?_append_left q] at ha
      rw [List.getElem?_append_left (by lia)] at hx
      (refine e2_2 (hA i a x ha hx) ?_; intro vs k h1 h2)
      exact i2_2 vs k (List.mem_cons_of_mem _ h1) h2
     ·rw [List.getElem?_append_right q] at ha
      rw [List.getElem?_append_right (by lia), hth] at hx
      obtain ⟨ha', rfl⟩ : i - as.length = 0 ∧ an = a := by
       cases h : i - as.length with
       | zero => rw [h] at ha; exact ⟨rfl, by simpa using ha⟩
       | succ n => rw [h] at ha; simp at ha
      rw [ha'] at hx
      obtain rfl : _ = x := by simpa using hx
      refine i2_2 _ _ List.mem_cons_self ?_
      have e1 : ((ab.toNat : Nat) : Int) = ab := Int.toNat_of_nonneg h0
      have e2 : (((rest / 24576).toNat : Nat) : Int) = rest / 24576 := Int.toNat_of_nonneg (Int.ediv_nonneg (by rw [← hrest]; exact Int.ediv_nonneg hc0 (by decide)) (by decide))
      have e3 : ((kd.toNat : Nat) : Int) = kd := kd3i hkd
      have e4 : (((rest / 6 % 4096).toNat : Nat) : Int) = rest / 6 % 4096 := Int.toNat_of_nonneg (Int.emod_nonneg _ (by decide))
      simp only [Th.ints, e1, e2, e3, e4]
      exact (((Ints.nil.cons _ _).cons _ _).cons _ _).cons _ _
    ·intro i x hx
     rcases Nat.lt_or_ge i th.length with q | q
     ·rw [List.getElem?_append_left q] at hx
      exact hO i x hx
     ·rw [List.getElem?_append_right q] at hx
      have hi0 : i - th.length = 0 := by
       cases h : i - th.length with
       | zero => rfl
       | succ n => rw [h] at hx; simp at hx
      rw [hi0] at hx
      obtain rfl : _ = x := by simpa using hx
      have : i = as.length := by lia
      subst this
      refine ⟨?_, ?_, ?_, ?_, fun hi => ⟨?_, ?_⟩⟩
      ·show ab.toNat ≤ 8; lia
      ·show (rest / 24576).toNat ≤ 255; lia
      ·exact kd3 hkd
      ·show (rest / 6 % 4096).toNat < 4096; lia
      ·show ab.toNat = 0; have := hz0 hi; lia
      ·show kd.toNat = 4; have := hk0 hi; lia
   constructor
   ·intro h0'
    (repeat first | with_reducible intro _ | refine And.intro (by decide) ?_)
    exact fin2 4 _ [] (.inl rfl) (fun _ => rfl)
   ·intro h0'
    (repeat first | with_reducible intro _ | refine And.intro (by decide) ?_)
    have h6 : rest % 6 = 0 ∨ rest % 6 = 1 ∨ rest % 6 = 2 ∨ rest % 6 = 3 ∨ rest % 6 = 4 ∨ rest % 6 = 5 := ilt6 (Int.emod_nonneg _ (by decide)) (Int.emod_lt_of_pos _ (by decide))
    have hne : as.length ≠ 0 := by intro h; simp [h] at h0'
    rcases h6 with h | h | h | h | h | h <;> rw [h]
    all_goals
     (refine o_tup (.inl (by repeat constructor)) (by decide) (by decide) rfl ?_; walk_at"go")
     exact fin2 _ _ [_] (by simp) (fun h => absurd h hne)
  constructor
  ·intro hp0
   (repeat first | with_reducible intro _ | refine And.intro (by decide) ?_)
   have hp0' : as.length ≠ 0 := by intro h; simp [h] at hp0
   constructor
   ·intro h3
    refine qI.t _ _ ?_
    (refine ob_gen ?_; intro KK kk)
    (refine stl hV ?_; walk_at"go")
    exact kk _ _ _ (fin _ _ _ _ _ (by lia) (by lia) (fun h => absurd h hp0'))
   ·intro h3
    exact qI.f _ _ (stn (fin _ _ _ _ _ (Int.emod_nonneg _ (by lia)) (by have := Int.emod_lt_of_pos lot (show 0 < q by lia); lia) (fun h => absurd h hp0')))
  ·intro hp0
   have hp0' : as.length = 0 := by simpa using hp0
   have hq1 : q = 1 := by lia
   exact qI.f _ _ (stn (fin _ _ _ _ _ (Int.emod_nonneg _ (by lia)) (by have := Int.emod_lt_of_pos lot (show 0 < q by lia); lia) (fun _ => by rw [hq1]; lia)))
 ·(rintro m l hJq; refine Lz.el hJq ?_; clear hJq; rintro as k th ls o1 o2 o3 o4 o5 o6 has hth hA hO)
  refine stn ?_
  (refine qK.n _ _ ?_; (try clear qK K); refine stq hV ?_; intro K qK; walk_at"go")
  refine qK.r _ _ _ ⟨_, _, .rfl, _, th, rfl, hth, hO, as, k, by repeat constructor, by lia, fun i a x ha hx => ?_⟩
  (refine e2_2 (hA i a x ha hx) ?_; intro vs k h1 h2)
  exact i2_2 vs k (List.mem_cons_of_mem _ (List.mem_cons_of_mem _ h1)) h2
end
section
theorem Ints.are {xs : List Int} : ∀ {vs : List Value}, Ints vs xs → IntsAre vs xs := by
 induction xs with
 | nil => intro vs h; have := h.len; simp at this; subst this; exact .nil
 | cons x xs ih =>
  intro vs h
  cases vs with
  | nil => have := h.len; simp at this
  | cons v vs =>
   (refine e0_2 h.tail ?_; rintro ⟨t, rfl⟩ h')
   exact .cons x t (ih h')
section
variable {c : Fx} {m : Loc} {l : Led} {K : KV Value} {KB : KV Bool} {a sl : Addr} {vs : List Value} {k : Nat} {e e' : Expr} {vl vu vk : Value} {lo hi st : Option Int} {t u : Tok} {x y i : Int} {b d : Array UInt8} {ks ls ns : List Int}
theorem o_bytes (hV : c.V) (hr : Rd c.g l a (lst vs k)) (hi : Ints vs ns) (hb : ∀ n ∈ ns, 0 ≤ n ∧ n < 256) (hz : ns.length ≤ 16777216) (h : ∀ b t, KBw.bInts b = ns → K (.bytes b t) m l) (hz' : c.hz = true := by assumption) : Ob c (call (.type "bytes") [.ref a]) K m l :=
 fun Q E s S kk _ => call_bytes_ints ⟨_, S.rd hr, rfl, k, rfl⟩ hi.are hb (by rw [hi.len, sizeLine_eq]; exact hz) (Vw.hh' hV hz') fun h' t n hk => kk _ _ _ _ (h _ _ (KBa.ints_make hb)) (S.keeps hk rfl rfl)
theorem o_badd (hb : KBw.bInts b = ks) (hd : KBw.bInts d = ls) (hz : ks.length + ls.length ≤ 16777216) (h : ∀ b t, KBw.bInts b = ks ++ ls → K (.bytes b t) m l) : Ob c (binaryOp .Add (.bytes b t) (.bytes d u)) K m l :=
 fun Q E s S kk _ => KBa.add_K hb hd hz fun t' n q => kk _ _ _ _ (h _ _ q) (S.same rfl rfl rfl)
theorem o_blen (hb : KBw.bInts b = ks) (hz : ks.length ≤ 16777216) (h : ∀ t, K (.int ks.length t) m l) : Ob c (call (.builtin "len") [.bytes b t]) K m l :=
 fun Q E s S kk _ => KBw.len_K hb (by lia) (kk _ _ _ _ (h _) (S.same rfl rfl rfl))
theorem o_btr (hb : KBw.bInts b = ks) (hz : ks.length ≤ 16777216) (h : KB (decide (0 < ks.length)) m l) : Ob c (truthy (.bytes b t)) KB m l :=
 fun Q E s S kk _ => KBw.truthy_K hb (by lia) (kk _ _ _ _ h (S.same rfl rfl rfl))
theorem o_bitem (hb : KBw.bInts b = ks) (hz : ks.length ≤ 16777216) (h0 : 0 ≤ i) (hx : ks[i.toNat]? = some x) (h : ∀ t, K (.int x t) m l) (he : isSlc e' = false := by rfl) : Ob c (subscriptTail e e' (.bytes b t) (.int i u)) K m l := by
 intro Q E s S kk _
 have hlt : i.toNat < ks.length := by
  rcases Nat.lt_or_ge i.toNat ks.length with q | q
  ·exact q
  ·rw [List.getElem?_eq_none q] at hx; cases hx
 have hl : ks.length = b.size := by rw [← hb, KBw.ints_length]
 have e1 : b = b.toList.toArray := by simp
 refine tail_any (typeIs_bytes s _ t) FB.slot_bytes_getitem.lookup ?_ (ops := [.bytes b t, .int i u]) (by cases e' <;> first | rfl | cases he)
 have : Q (.int ((b.toList.getD i.toNat 0).toNat : Nat) s.toks) { s with toks := s.toks + 1 } := by
  have e2 : (((b.toList.getD i.toNat 0).toNat : Nat) : Int) = x := by
   rw [← hb] at hx
   unfold KBw.bInts at hx
   rw [List.getElem?_map] at hx
   (refine e1_2 (Option.map_eq_some_iff.mp hx) ?_; rintro y hy rfl)
   rw [List.getD_eq_getElem?_getD, hy]; rfl
  rw [e2]
  exact kk _ _ _ _ (h _) (S.same rfl rfl rfl)
 have g := getItem_bytes (prog := pw) (w := c.w) (A := c.A') (E := E) (s := s) (l := b.toList) (t := t) (u := u) (i := i) (by simp; lia) h0 (by simp; lia) this
 rw [← e1] at g
 exact g
theorem o_bsl (hb : KBw.bInts b = ks) (hs : Rd c.g l sl (slcO vl vu .none)) (pl : IsPart vl lo) (pu : IsPart vu hi) (hz : ks.length ≤ 16777216)
  (h : ∀ b t, KBw.bInts b = (ks.drop (lo.elim 0 (clipAt ks.length))).take (hi.elim ks.length (clipAt ks.length) - lo.elim 0 (clipAt ks.length)) → K (.bytes b t) m l)
  {ops : List Value} (he : subscripted e' false (.bytes b t) (.ref sl) = operate ops (getItem (.bytes b t) (.ref sl)) := by with_unfolding_all rfl) : Ob c (subscriptTail e e' (.bytes b t) (.ref sl)) K m l := by
 intro Q E s S kk _
 refine tail_any (typeIs_bytes s _ t) FB.slot_bytes_getitem.lookup ?_ he
 exact getItem_meets (typeIs_bytes _ _ _) (by decide) FB.slot_bytes_getitem FB.entry_bytes_getitem (FB.args_bytes_getitem_2 _ _) (KBc.meets_slice2 b t _ pl pu)
  ⟨⟨_, S.rd hs, rfl, rfl⟩, Nat.le_trans (KBc.size_picked_le b lo hi) (by rw [← KBw.ints_length b, hb, sizeLine_eq]; exact hz), fun t' n => kk _ _ _ _ (h _ _ (KBc.ints_picked hb lo hi)) (S.same rfl rfl rfl)⟩
end
end
section
noncomputable def Th.oct (x : Th) : List Int := [x.a, x.t, 2, x.k * 16 + x.r / 256, x.r % 256]
noncomputable def tapeOf (th : List Th) : List Int := th.flatMap Th.oct
theorem tape_in {th : List Th} (hO : ∀ (i : Nat) x, th[i]? = some x → x.ok i) : ∀ n ∈ tapeOf th, 0 ≤ n ∧ n < 256 := by
 intro n hn
 (refine e1_2 (List.mem_flatMap.mp hn) ?_; intro x hx hn)
 obtain ⟨i, hi, rfl⟩ := List.getElem_of_mem hx
 (refine e0_5 (hO i _ (List.getElem?_eq_getElem hi)) ?_; intro h1 h2 h3 h4 _)
 simp only [Th.oct, List.mem_cons, List.not_mem_nil, or_false] at hn
 rcases hn with rfl | rfl | rfl | rfl | rfl <;> lia
theorem tape_len (th : List Th) : (tapeOf th).length = 5 * th.length := by
 induction th with
 | nil => rfl
 | cons x th ih => simp only [tapeOf, List.flatMap_cons, List.length_append] at ih ⊢; simp [Th.oct, ih]; lia
theorem LTAPE {w : World} {aT : Addr} (th : List Th) (h9 : th.length = 9) (hO : ∀ (i : Nat) x, th[i]? = some x → x.ok i) :
  Spec w 1 265 [.ref aT] (fun g => ThAt (fun a o => g.get? a = some o) aT th) (fun v l' => l' = [] ∧ ∃ b t, v = .bytes b t ∧ KBw.bInts b = tapeOf th) := by
 refine spec_vc [("things", .ref aT)] ["octets", "above", "team", "kind", "rights"] fi_law_tape_ok rfl (by kernel_rfl) (by kernel_rfl) (by kernel_rfl) ?_
 intro c0 c hw hz hV hn hgt hX hp
 dsimp only [fi_law_tape] at hgt
 subst hw
 (refine hideG ?_; intro P0 hP0; obtain ⟨as, k, h1, h2, h3⟩ := hp; refine hP0 ?_; clear hP0 P0)
 (refine stq hV ?_; intro K qK; walk_at"go")
 (refine qK.n _ _ ?_; (try clear qK K); refine stq hV ?_; intro K qK; walk_at"go")
 let CC1 : Nat → (Loc → Led → Prop) → Prop := fun i P0 => ∀ (a : Addr) (vs : List Value) (k : Nat) (o1 o2 o3 o4 : Option Value), Ints vs (tapeOf (th.take i)) → P0 ([("things", some (.ref aT)), ("octets", some (.ref a)), ("above", o1), ("team", o2), ("kind", o3), ("rights", o4)]) ([(a, lst vs k)])
 let JJ1 : Nat → Loc → Led → Prop := fun i m l => Lz (CC1 i) m l
 refine vfor_list hV hX (as.map .ref) .rfl JJ1 (fun _ f0 => f0 _ _ _ _ _ _ _ (.nil)) (fun i m l _ => ⟨k, .inr h1⟩) ?_ ?_
 ·(rintro i v m l I oI hi hv hJq; refine Lz.el hJq ?_; clear hJq; rintro a vs k' o1 o2 o3 o4 hvs)
  rw [List.getElem?_map] at hv
  (refine e1_2 (Option.map_eq_some_iff.mp hv) ?_; rintro ai hai rfl)
  have hit : i < th.length := by rw [← h2]; simpa using hi
  (refine e2_2 (h3 i ai th[i] hai (List.getElem?_eq_getElem hit)) ?_; intro ws kw hw1 hw2)
  have hlen : (tapeOf (th.take i)).length ≤ 45 := by rw [tape_len, List.length_take]; lia
  generalize hx : th[i] = x at hw2
  have hxo := hO i x (by rw [← hx]; exact List.getElem?_eq_getElem hit)
  have htk : tapeOf (th.take (i + 1)) = tapeOf (th.take i) ++ x.oct := by
   rw [List.take_add_one, List.getElem?_eq_getElem hit, hx]; simp [tapeOf]
  (refine e0_5 hxo ?_; clear hxo; intro hxa hxt hxk hxr _)
  (refine e1_2 hw2.ex ?_; rintro ts hts rfl)
  (refine hideG ?_; intro P0 hP0; obtain ⟨t1, t2, t3, t4, rfl⟩ := len4 hts; refine hP0 ?_; clear hP0 P0)
  walk_at"go"
  refine o_unL hV (Or.inr hw1) ?_
  dsimp only [Th.ints, List.zip_cons_cons, List.map_cons, List.zip_nil_left, List.map_nil]
  walk_at"go"
  (refine ob_gen ?_; intro KK kk)
  (refine stl hV ?_; walk_at"go")
  refine ⟨by lia, ?_⟩
  (repeat first | with_reducible intro _ | refine And.intro (by decide) ?_)
  refine o_addl (.inl (by repeat constructor)) (.inl (by repeat constructor)) (by simp [sizeLine, hvs.len]; lia) fun d => ?_
  walk_at"go"
  refine kk _ _ _ (lpk (.take (by repeat constructor) (.take (by repeat constructor) .nil)) rfl (fun _ f0 => f0 _ _ _ _ _ _ _ ?_))
  rw [htk]
  exact hvs.append (((((Ints.nil.cons _ _).cons _ _).cons _ _).cons _ _).cons _ _)
 ·(rintro m l hJq; refine Lz.el hJq ?_; clear hJq; rintro a vs k' o1 o2 o3 o4 hvs)
  refine stn ?_
  rw [List.take_of_length_le (by simp [h2])] at hvs
  (refine qK.n _ _ ?_; (try clear qK K); refine stq hV ?_; intro K qK; walk_at"go")
  refine o_bytes hV (.inl (by repeat constructor)) hvs (tape_in hO) (by rw [tape_len]; lia) fun b t hb => ?_
  exact qK.r _ _ _ (.all ⟨rfl, _, _, rfl, hb⟩)
end
section
noncomputable def Flew (g : Heap) (base : Eo) (Ψ : Value → List Value → Led → Prop) (e : Value) (s' : Shared) : Prop :=
 ∃ a cls t vs l' B, e = .ref a ∧ g.StaysIn B ∧ (∀ p ∈ l', B.get? p.1 = some p.2 ∧ g.get? p.1 = none) ∧ (l'.map (·.1)).Nodup ∧ Heap.FlyingW B base.fr a cls (.ref t) s'.heap ∧ B.get? t = none ∧ s'.heap.TupAt t vs ∧
  FrK base.fr base.h0 s'.heap ∧ g.objs.size ≤ s'.heap.objs.size ∧ s'.gens = #[] ∧ s'.os = base.os ∧ t ∉ fro base.fr ∧ Ψ cls vs l'
noncomputable def MeetsX (g : Heap) (base : Eo) (Φ : Value → Led → Prop) (Ψ : Value → List Value → Led → Prop) : Result → Shared → Prop := fun r s' =>
 Meets g base Φ r s' ∨ ∃ e, r = .error e ∧ Flew g base Ψ e s'
noncomputable def SpecX (w : World) (n : Nat) (f : Addr) (args : List Value) (pre : Heap → Prop) (Lin : Led) (Φ : Value → Led → Prop) (Ψ : Value → List Value → Led → Prop) : Prop :=
 ∀ A outer g s, Cx w A ⟨s.os, outer, s.heap⟩ outer g n → Hp g s.heap Lin → (∀ p ∈ Lin, p.1 ∉ fro outer) → s.gens = #[] → pre g → codeAny (M w) A (.call (.ref f) ⟨args, []⟩) (MeetsX g ⟨s.os, outer, s.heap⟩ Φ Ψ) s
noncomputable def Lv (c : Fx) (Ψ : Value → List Value → Led → Prop) (e : Value) (s' : Shared) : Prop :=
 wpAny (M c.w) c.A' (leaving c.env e) (fun _ s'' => Flew c.g c.base Ψ e s'') (fun _ _ => False) s'
theorem Fx.froe {c : Fx} (hm : c.Fn) : fro (c.env :: c.outer) = c.L :: fro c.outer := by
 unfold fro; rw [List.filterMap_cons, hm.fr]
theorem Fx.ff {c : Fx} (hV : c.V) (hm : c.Fn) {m : Loc} {l : Led} {s : Shared} (S : c.S m l s) {B : Heap} (hB : ∀ b ∈ fro (c.env :: c.outer), B.get? b = none) : s.heap.FunFrames B (c.env :: c.outer) := by
 have hL : c.L ∈ fro (c.env :: c.outer) := by rw [Fx.froe hm]; exact .head _
 refine ⟨by rw [hV.kd]; decide, ?_, funFrames_at hV.C.ff (hV.C.fr ▸ S.W) fun b hb => hB b (by rw [Fx.froe hm]; exact .tail _ hb)⟩
 (refine e3_3 S.F.ns ?_; intro oL es ep hL' hd _)
 exact i2_4 c.L oL hm.fr (hB _ hL) hL' (fun vs q => by rw [hd] at q; cases q)
theorem Fx.gnf {c : Fx} (hV : c.V) (hm : c.Fn) {m : Loc} {l : Led} {s : Shared} (S : c.S m l s) : ∀ b o, c.g.get? b = some o → b ∉ fro (c.env :: c.outer) := fun b o e q => by
 rw [Fx.froe hm] at q
 rcases List.mem_cons.mp q with rfl | q
 ·exact absurd (Nat.lt_of_lt_of_le (Heap.lt_size e) S.F.above) (Nat.lt_irrefl _)
 ·rw [(hV.C.ff.mem q).1] at e; cases e
theorem Fx.lnf {c : Fx} (hV : c.V) (hm : c.Fn) {m : Loc} {l : Led} {s : Shared} (S : c.S m l s) : ∀ p ∈ l, p.1 ∉ fro (c.env :: c.outer) := fun p hp q => by
 rw [Fx.froe hm] at q
 rcases List.mem_cons.mp q with q | q
 ·exact (S.N p hp).2.1 q
 ·exact S.Z p hp (hV.C.fr ▸ q)
theorem frk_slots {fr : List Env} {h h' : Heap} {B : Heap} (hf : h.FunFrames B fr) (u : h.UpToSlots h') : FrK fr h h' := fun b hb o e => by
 (refine hideG ?_; intro P0 hP0; obtain ⟨_, o', ho', hd⟩ := hf.mem hb; refine hP0 ?_; clear hP0 P0)
 rw [e] at ho'; cases ho'
 exact u b o e hd
structure Fx.Z (c : Fx) : Prop where
 ab : c.g.objs.size ≤ c.L
 kn : c.ks.Nodup
 Y : c.L ∉ fro c.base.fr
 U : ∀ b ∈ fro c.base.fr, c.g.get? b = none ∧ ∃ o, c.base.h0.get? b = some o
noncomputable def FSt (L : Addr) (B : Heap) (a : Addr) (cls : Value) (t : Addr) (h : Heap) : Nat → Prop
 | 0 => ∃ oe vs', h.get? a = some oe ∧ oe.cls = cls ∧ oe.data = .fields vs' ∧ vs'[0]? = some (.ref t) ∧ vs'[1]? = some .none
 | 1 => h.TracedW B a cls (.ref t)
 | _ => h.TracedAtW B a cls (.ref t) (rawInt L)
theorem FSt.first {L : Addr} {B : Heap} {a : Addr} {cls : Value} {t : Addr} {h : Heap} : ∀ {k : Nat}, FSt L B a cls t h k → ∃ oe vs, h.get? a = some oe ∧ oe.cls = cls ∧ oe.data = .fields vs ∧ vs[0]? = some (.ref t) := by
 intro k hk
 cases k with
 | zero =>
  (refine e2_5 hk ?_; clear hk; intro oe vs h1 h2 h3 h4 _)
  exact i2_4 oe vs h1 h2 h3 h4
 | succ k =>
  cases k with
  | zero =>
   (refine e5_4 hk ?_; clear hk; intro oe vs _ _ _ he hc hd _)
   exact i2_4 oe vs he hc.1 hd hc.2
  | succ k =>
   (refine e5_4 hk ?_; clear hk; intro oe vs _ _ _ he hc hd _)
   exact i2_4 oe vs he hc.1 hd hc.2
structure FlyAt (c : Fx) (a : Addr) (cls : Value) (t : Addr) (vs : List Value) (m : Loc) (l : Led) (B : Heap) (k : Nat) (s' : Shared) : Prop where
 gB : c.g.StaysIn B
 led : ∀ p ∈ l, B.get? p.1 = some p.2 ∧ c.g.get? p.1 = none
 nd : (l.map (·.1)).Nodup
 bt : B.get? t = none
 tu : s'.heap.TupAt t vs
 tf : t ∉ fro (c.env :: c.outer)
 fk : FrK c.base.fr c.base.h0 s'.heap
 ns : s'.heap.Ns c.L (mp m)
 ks : m.map (·.1) = c.ks
 gn : s'.gens = #[]
 os : s'.os = c.base.os
 Bs : B.StaysIn s'.heap
 ba : B.get? a = none
 ff : s'.heap.FunFrames B (c.env :: c.outer)
 st : FSt c.L B a cls t s'.heap k
 z : c.Z
inductive Fly (c : Fx) (Θ : Value → List Value → Loc → Led → Prop) (e : Value) (s' : Shared) : Prop
 | mk (a : Addr) (cls : Value) (t : Addr) (vs : List Value) (m : Loc) (l : Led) (B : Heap) (k : Nat) (h1 : e = .ref a) (h2 : FlyAt c a cls t vs m l B k s') (h3 : Θ cls vs m l)
section
variable {c : Fx} {Θ : Value → List Value → Loc → Led → Prop} {Ψ Ψ' : Value → List Value → Led → Prop} {m : Loc} {l R : Led} {s s' : Shared} {a t : Addr} {cls e : Value} {vs : List Value} {B : Heap} {k k' : Nat} {QU : Unit → Shared → Prop} {E : Value → Shared → Prop}
theorem Fx.z (S : c.S m l s) : c.Z := ⟨S.F.above, S.K.2, S.Y, S.U⟩
theorem fly_made (hV : c.V) (hm : c.Fn) (S : c.S m l s) (hx : Heap.MadeExcOf s.heap s'.heap a cls vs) (e1 : s'.gens = s.gens) (e2 : s'.os = s.os) (h : Θ cls vs m l) : Fly c Θ (.ref a) s' := by
 (refine e1_3 hx.there ?_; intro t he htn ht)
 have ff := Fx.ff hV hm S (B := hideAll s.heap (fro (c.env :: c.outer))) fun b hb => hideAll_none _ hb
 have fresh : ∀ b, s.heap.get? b = none → (hideAll s.heap (fro (c.env :: c.outer))).get? b = none := fun b hb => by
  cases hq : (hideAll s.heap (fro (c.env :: c.outer))).get? b with
  | none => rfl
  | some o' => have := of_hideAll _ hq; rw [hb] at this; cases this
 (refine e3_2 S.F.ns ?_; intro oL es ep hL r)
 refine ⟨a, cls, t, vs, m, l, hideAll s.heap (fro (c.env :: c.outer)), 0, rfl, ⟨fun b o e => hideAll_get _ (S.F.keep b o e) (Fx.gnf hV hm S b o e), fun p hp => ⟨hideAll_get _ (S.N p hp).1 (Fx.lnf hV hm S p hp), (S.N p hp).2.2⟩, S.D, fresh t htn, ⟨_, _, ht, rfl, rfl⟩, fun hb => ?_,
  S.W.keeps fun b _ o e => hx.keeps b o e, ⟨oL, es, ep, hx.keeps _ _ hL, r⟩, S.K.1, e1.trans S.G, e2.trans S.O, fun b o e => hx.keeps _ _ (of_hideAll _ e), fresh a hx.new, ff.of_keeps fun b o hb _ => ⟨o, hx.keeps b o hb, rfl⟩, ⟨_, _, he, rfl, rfl, rfl, rfl⟩, Fx.z S⟩, h⟩
 (refine hideG ?_; intro P0 hP0; obtain ⟨_, o, ho, _⟩ := ff.mem hb; refine hP0 ?_; clear hP0 P0)
 rw [htn] at ho; cases ho
theorem fly_below (hV : c.V) (hm : c.Fn) {g' : Heap} (S : c.S m l s) (hg : c.g.StaysIn g') (hR : ∀ p ∈ R, g'.get? p.1 = some p.2 ∧ c.g.get? p.1 = none) (hRd : (R.map (·.1)).Nodup)
  (F : Flew g' ⟨s.os, c.env :: c.outer, s.heap⟩ Ψ' e s') (hΨ : ∀ cls vs l', Ψ' cls vs l' → Θ cls vs m (l' ++ R)) : Fly c Θ e s' := by
 (refine e6_13 F ?_; clear F; intro a cls t vs l' B hE1 hB hl' hn fl ht tu fk sz hgn hos htf hψ; subst hE1)
 have hfr : c.base.fr = c.outer := hV.C.fr
 have nd : ((l' ++ R).map (·.1)).Nodup := by
  rw [List.map_append, List.nodup_append]
  refine ⟨hn, hRd, fun x hx y hy e => ?_⟩
  (refine e1_2 (List.mem_map.mp hx) ?_; rintro p hp rfl)
  (refine e1_2 (List.mem_map.mp hy) ?_; rintro r hr rfl)
  have := (hl' p hp).2
  rw [e, (hR r hr).1] at this; cases this
 have all : ∀ p ∈ l' ++ R, B.get? p.1 = some p.2 ∧ c.g.get? p.1 = none := fun p hp => by
  rcases List.mem_append.mp hp with hp | hp
  ·refine ⟨(hl' p hp).1, ?_⟩
   cases q : c.g.get? p.1 with
   | none => rfl
   | some o => have := (hl' p hp).2; rw [hg _ _ q] at this; cases this
  ·exact ⟨hB _ _ (hR p hp).1, (hR p hp).2⟩
 have sub : ∀ b ∈ fro c.outer, b ∈ fro (c.env :: c.outer) := fun b hb => by rw [Fx.froe hm]; exact .tail _ hb
 (refine e3_3 S.F.ns ?_; intro oL es ep hL hd r)
 obtain ⟨sl, q⟩ := fk c.L (by show c.L ∈ fro (c.env :: c.outer); rw [Fx.froe hm]; exact .head _) oL hL
 refine ⟨a, cls, t, vs, m, l' ++ R, B, 1, rfl, ⟨fun b o e => hB _ _ (hg b o e), all, nd, ht, tu, htf, ?_, ⟨_, es, ep, q, hd, r⟩, S.K.1, hgn, hos.trans S.O, fl.1, fl.2.1, fl.2.2.1, fl.2.2.2, Fx.z S⟩, hΨ _ _ _ hψ⟩
 rw [hfr]
 exact (hfr ▸ S.W : FrK c.outer c.base.h0 s.heap).trans fun b hb o e => fk b (sub b hb) o e
theorem FlyAt.step (hV : c.V) (F : FlyAt c a cls t vs m l B k s) {h' : Heap} (x1 : B.StaysIn h') (x2 : h'.FunFrames B (c.env :: c.outer)) (x3 : s.heap.UpToSlots h') (x4 : FSt c.L B a cls t h' k') : FlyAt c a cls t vs m l B k' { s with heap := h' } := by
 have hfr : c.base.fr = c.outer := hV.C.fr
 exact ⟨F.gB, F.led, F.nd, F.bt, F.tu.of_slots x3, F.tf, by rw [hfr]; exact (hfr ▸ F.fk : FrK c.outer c.base.h0 s.heap).trans (frk_slots F.ff.2.2 x3), x3.ns F.ns, F.ks, F.gn, F.os, x1, F.ba, x2, x4, F.z⟩
theorem FlyAt.note (hV : c.V) (hm : c.Fn) {A' : Around} (hA : A'.frames = some (c.env :: c.outer)) (F : FlyAt c a cls t vs m l B k s) (h : ∀ s', FlyAt c a cls t vs m l B 2 s' → QU () s') : wpAny (M c.w) A' (noteFrame (.ref a) c.env) QU E s := by
 match k, F.st with
 | 0, st =>
  (refine e2_5 st ?_; clear st; intro oe ws he hc hd h0 h1)
  subst hc
  unfold noteFrame
  simp only [hm.fr]
  refine wpAny_bind (wpAny_field he hd h1 ?_)
  rw [if_neg (by decide)]
  exact wpAny_entryW hA F.ff hm.fr he F.Bs F.ba hd (Array.getElem?_eq_some_iff.mp h1).1 h0 fun h' ⟨x1, x2, x3, x4⟩ => h _ (F.step hV x1 x2 x4 x3)
 | 1, st => exact wpAny_noteFrame_onW hA F.ff hm.fr st F.Bs F.ba fun h' ⟨x1, x2, x3, x4⟩ => h _ (F.step hV x1 x2 x4 x3)
 | k + 2, st => exact wpAny_noteFrame_againW hm.fr st (h _ ⟨F.gB, F.led, F.nd, F.bt, F.tu, F.tf, F.fk, F.ns, F.ks, F.gn, F.os, F.Bs, F.ba, F.ff, st, F.z⟩)
theorem FlyAt.land (hV : c.V) {A' : Around} (F : FlyAt c a cls t vs m l B (k + 1) s) (h : ∀ s', FlyAt c a cls t vs m l B 1 s' → QU () s') : wpAny (M c.w) A' (setFlight (.ref a) none) QU E s := by
 match k, F.st with
 | 0, st => exact wpAny_setFlight_noneW F.Bs F.ff (st : s.heap.TracedW B a cls (.ref t)).at fun h' k1 k2 k3 k4 => h _ (F.step hV k1 k2 (fun b o hb hn => ⟨o.slots, k4 b o hb hn⟩) k3)
 | k + 1, st => exact wpAny_setFlight_noneW F.Bs F.ff (st : s.heap.TracedAtW B a cls (.ref t) _) fun h' k1 k2 k3 k4 => h _ (F.step hV k1 k2 (fun b o hb hn => ⟨o.slots, k4 b o hb hn⟩) k3)
theorem FlyAt.hold (hV : c.V) {A' : Around} (F : FlyAt c a cls t vs m l B 2 s) (h : ∀ s', FlyAt c a cls t vs m l B 2 s' → QU () s') : wpAny (M c.w) A' (setFlight (.ref a) (some c.L)) QU E s := by
 (refine e5_9 F.st ?_; intro oe ws T oT ts he hcls hd h1 hnT hTe hT hdT h3)
 have hsz3 : 3 < ts.size := (Array.getElem?_eq_some_iff.mp h3).1
 have other : ∀ b, b ≠ T → (s.heap.update T (Obj.mapFields (·.setIfInBounds 3 ((some c.L : Option Addr).elim Value.none fun f => rawInt f)))).get? b = s.heap.get? b :=
  fun b hb => Heap.get?_update_other _ _ (Ne.symm hb)
 have noRecord : ∀ b o, s.heap.get? b = some o → (∀ vs, o.data ≠ .fields vs) → b ≠ T := fun b o hb hnf q => by
  rw [q, hT] at hb; injection hb with hb; subst hb; exact hnf ts hdT
 unfold setFlight
 refine wpAny_bind (wpAny_field he hd h1 ?_)
 rw [if_pos (show (Value.ref T != Value.none) = true from by simp)]
 refine wpAny_setField hT hdT hsz3 (h _ (F.step hV (fun b o hbo => (other b fun q => by rw [q, hnT] at hbo; cases hbo).trans (F.Bs b o hbo))
  (F.ff.of_keeps fun b o hb hnf => ⟨o, (other b (noRecord b o hb hnf)).trans hb, rfl⟩) (fun b o hb hnf => ⟨o.slots, (other b (noRecord b o hb hnf)).trans hb⟩) ?_))
 exact i5_9 oe ws T _ _ ((other a (Ne.symm hTe)).trans he) hcls hd h1 hnT hTe (Heap.get?_update_self _ hT (Obj.isFreed_of_fields (Obj.data_mapFields hdT _))) (Obj.data_mapFields hdT _) (by simp [hsz3])
theorem Fx.stk' (hV : c.V) (hm : c.Fn) : c.A'.frames = some (c.env :: c.outer) := by rw [hm.A']; exact Around.frames_deeper hV.C.stk
theorem fly_leave (hV : c.V) (hm : c.Fn) (F : Fly c Θ e s) (hd : ∀ cls vs m l, Θ cls vs m l → Drp l (Ψ cls vs)) : Lv c Ψ e s := by
 (refine hideG ?_; intro P0 hP0; obtain ⟨a, cls, t, vs, m, l, B, k, rfl, F, hΘ⟩ := F; refine hP0 ?_; clear hP0 P0)
 (refine hideG ?_; intro P0 hP0; obtain ⟨l', R, ex, hΨ⟩ := hd _ _ _ _ hΘ; refine hP0 ?_; clear hP0 P0)
 have hfr : c.base.fr = c.outer := hV.C.fr
 have sub : ∀ b ∈ fro c.outer, b ∈ fro (c.env :: c.outer) := fun b hb => by rw [Fx.froe hm]; exact .tail _ hb
 have mem2 : ∀ p ∈ l', p ∈ l := fun p hp => ex.perm.mem_iff.mpr (List.mem_append_left _ hp)
 have nd2 : (l'.map (·.1)).Nodup := by
  have := (ex.perm.map (·.1)).nodup_iff.mp F.nd
  rw [List.map_append, List.nodup_append] at this
  exact this.1
 have fin : ∀ h', Heap.FlyingW B c.outer a cls (.ref t) h' → s.heap.UpToSlots h' → Flew c.g c.base Ψ (.ref a) { s with heap := h' } := fun h' y1 y2 => by
  refine i6_13 a cls t vs l' B rfl F.gB (fun p hp => F.led p (mem2 p hp)) nd2 (hfr ▸ y1) F.bt (F.tu.of_slots y2) ?_ ?_ F.gn F.os (fun q => F.tf (sub _ (hfr ▸ q))) hΨ
  ·rw [hfr]
   exact (hfr ▸ F.fk : FrK c.outer c.base.h0 s.heap).trans (frk_slots (B := B) F.ff.2.2 y2)
  ·exact Nat.le_of_lt (Nat.lt_of_le_of_lt F.z.ab (y2.ns F.ns).lt)
 unfold Lv
 match k, F with
 | 0, F =>
  (refine e2_5 F.st ?_; intro oe ws he hc hd h0 h1)
  subst hc
  exact wpAny_leaving_firstW (Fx.stk' hV hm) F.ff hm.fr he F.Bs F.ba hd h1 h0 fun h' ⟨x1, x2, x3, x4⟩ => fin h' ⟨x1, F.ba, x2.2.2, x3⟩ x4
 | 1, F => exact wpAny_leaves_onW (Fx.stk' hV hm) hm.fr ⟨F.Bs, F.ba, F.ff, F.st⟩ fin
 | k + 2, F =>
  unfold leaving
  refine wpAny_bind (wpAny_noteFrame_againW hm.fr F.st ?_)
  exact wpAny_landsW (L := c.L) ⟨F.Bs, F.ba, F.ff, F.st⟩ fun h' y1 y2 => fin h' ⟨y1.1, y1.2.1, y1.2.2.1.2.2, y1.2.2.2⟩ y2
end
theorem fly_loop {c : Fx} {Θ : Value → List Value → Loc → Led → Prop} (hV : c.V) (hm : c.Fn) {E : Value → Shared → Prop} {e : Value} {s : Shared} (F : Fly c Θ e s) (h : ∀ e s, Fly c Θ e s → E e s) : notedBy (M c.w) c.A' c.env (cameBackBy (M c.w) c.A' c.env E) e s := by
 (refine hideG ?_; intro P0 hP0; obtain ⟨a, cls, t, vs, m, l, B, k, rfl, F, hΘ⟩ := F; refine hP0 ?_; clear hP0 P0)
 unfold notedBy
 refine F.note hV hm (Fx.stk' hV hm) fun s' F' => ?_
 unfold cameBackBy
 (refine e5_5 F'.st ?_; intro oe ws T oT ts he hcls hd h1 r)
 refine wpAny_bind (wpAny_field he hd h1 ?_)
 rw [if_neg (by simp)]
 try refine wpAny_bind (wpAny_pure ?_)
 rw [hm.fr]
 exact F'.hold hV fun s'' F'' => h _ _ ⟨a, cls, t, vs, m, l, B, 2, rfl, F'', hΘ⟩
inductive GotR (c : Fx) (a t : Addr) (cls : Value) (vs : List Value) (m : Loc) (l : Led) (s : Shared) : Prop
 | mk (oe ot : Obj) (ws : Array Value) (nt : Nat) (h1 : oe.cls = cls) (h2 : oe.data = .fields ws) (h3 : ws[0]? = some (.ref t)) (h4 : ot.cls = .type "tuple") (h5 : ot.data = .seq vs.toArray nt) (h6 : c.S m ((a, oe) :: (t, ot) :: l) s)
theorem FlyAt.got {c : Fx} {m : Loc} {l : Led} {s : Shared} {a t : Addr} {cls : Value} {vs : List Value} {B : Heap} {k : Nat} (hV : c.V) (hm : c.Fn) (F : FlyAt c a cls t vs m l B k s) :
  GotR c a t cls vs m l s := by
 (refine e2_4 F.st.first ?_; intro oe ws he hc hd h0)
 (refine e2_3 F.tu ?_; intro ot nt ht htc htd)
 have hfr : c.base.fr = c.outer := hV.C.fr
 have hat : a ≠ t := fun q => by rw [q, ht] at he; cases he; rw [htd] at hd; cases hd
 (refine e3_3 F.ns ?_; intro oL es ep hL hdL r)
 have ng : ∀ b, B.get? b = none → c.g.get? b = none := fun b hb => by
  cases q : c.g.get? b with
  | none => rfl
  | some o => have := F.gB _ _ q; rw [hb] at this; cases this
 have sub : ∀ b ∈ fro c.outer, b ∈ fro (c.env :: c.outer) := fun b hb => by rw [Fx.froe hm]; exact .tail _ hb
 have laf : a ∉ fro (c.env :: c.outer) := fun q => by
  (refine hideG ?_; intro P0 hP0; obtain ⟨_, o, ho, hnf⟩ := F.ff.mem q; refine hP0 ?_; clear hP0 P0)
  rw [he] at ho; cases ho; exact hnf _ hd
 have lB : ∀ b ∈ fro (c.env :: c.outer), B.get? b = none := fun b hb => (F.ff.mem hb).1
 have hLf : c.L ∈ fro (c.env :: c.outer) := by rw [Fx.froe hm]; exact .head _
 refine ⟨oe, ot, ws, nt, hc, hd, h0, htc, htd, ⟨⟨⟨oL, es, ep, hL, hdL, r⟩, fun b o e => F.Bs _ _ (F.gB b o e), F.z.ab⟩, fun p hp => ?_, ?_, ⟨F.ks, F.z.kn⟩, F.gn, F.os, F.fk, fun p hp q => ?_, F.z.Y, F.z.U⟩⟩
 ·rcases List.mem_cons.mp hp with rfl | hp
  ·exact ⟨he, fun q => laf ((show a = c.L from q).symm ▸ hLf), ng _ F.ba⟩
  ·rcases List.mem_cons.mp hp with rfl | hp
   ·exact ⟨ht, fun q => F.tf ((show t = c.L from q).symm ▸ hLf), ng _ F.bt⟩
   ·exact ⟨F.Bs _ _ (F.led p hp).1, (fun q => by have := (F.led p hp).1; rw [q, lB _ hLf] at this; cases this), (F.led p hp).2⟩
 ·simp only [List.map_cons, List.nodup_cons, List.mem_cons, not_or]
  refine ⟨⟨hat, fun q => ?_⟩, fun q => ?_, F.nd⟩
  ·(refine e1_2 (List.mem_map.mp q) ?_; intro p hp e)
   have := (F.led p hp).1; rw [e, F.ba] at this; cases this
  ·(refine e1_2 (List.mem_map.mp q) ?_; intro p hp e)
   have := (F.led p hp).1; rw [e, F.bt] at this; cases this
 ·rcases List.mem_cons.mp hp with rfl | hp
  ·exact laf (sub _ (hfr ▸ q))
  ·rcases List.mem_cons.mp hp with rfl | hp
   ·exact F.tf (sub _ (hfr ▸ q))
   ·have := (F.led p hp).1; rw [lB _ (sub _ (hfr ▸ q))] at this; cases this
section
variable {c : Fx} {m : Loc} {l R : Led} {K : KV Value} {KF : KV Flow} {f : Addr} {vs : List Value} {Θ : Value → List Value → Loc → Led → Prop} {Ψ Ψ' : Value → List Value → Led → Prop} {Φ : Value → Led → Prop} {pre : Heap → Prop} {Lin : Led} {k : Nat}
theorem o_specX (hV : c.V) (hY : ∀ e s, Fly c Θ e s → c.X e s) (sp : SpecX c.w k f vs pre Lin Φ Ψ') (hk : k ≤ c.n) (hE : Ex l Lin R) (hp : ∀ g', (∀ p ∈ R, g'.get? p.1 = some p.2) → c.g.StaysIn g' → pre g') (h : ∀ v l', Φ v l' → K v m (l' ++ R))
  (hx : ∀ cls vs l', Ψ' cls vs l' → Θ cls vs m (l' ++ R)) (hm : c.Fn := by assumption) : Ob c (call (.ref f) vs) K m l := by
 intro Q E s S kk x
 have S' := S.perm hE.perm
 have e := hm.A'
 rw [e]
 refine callsX (W := fun g' e s' => Flew g' ⟨s.os, c.env :: c.outer, s.heap⟩ Ψ' e s') hV.C S hm.fr hV.kd hE (fun g' C H hz hg hR hG => sp _ _ g' _ (C.le hk) H hz hg (hp g' hR hG)) (fun g' e s' hG hR F => ?_) fun v l' s' hφ S2 => kk _ _ _ _ (h v l' hφ) S2
 refine x _ _ (hY _ _ (fly_below hV hm S hG (fun p hp => ⟨hR p hp, (S'.N p (List.mem_append_right _ hp)).2.2⟩) ?_ F hx))
 have := S'.D
 rw [List.map_append, List.nodup_append] at this
 exact this.2.1
theorem o_specL (hV : c.V) (sp : SpecX c.w k f vs pre Lin Φ fun _ _ _ => False) (hk : k ≤ c.n) (hE : Ex l Lin R) (hp : ∀ g', (∀ p ∈ R, g'.get? p.1 = some p.2) → c.g.StaysIn g' → pre g') (h : ∀ v l', Φ v l' → K v m (l' ++ R)) (hz : c.hz = true := by assumption) : Ob c (call (.ref f) vs) K m l := by
 intro Q E s S kk x
 refine Vw.calls (Φ := Φ) hV hz S hE (fun frs g' C H hz hg hR hG => codeAny_mono (sp _ _ g' _ (C.le hk) H hz hg (hp g' hR hG)) ?_) fun v l' s' hφ S2 => kk _ _ _ _ (h v l' hφ) S2
 rintro r s' (h | ⟨e, rfl, F⟩)
 ·exact h
 ·(refine e6_13 F ?_; clear F; intro _ _ _ _ _ _ _ _ _ _ _ _ _ _ _ _ _ _ hf)
  exact hf.elim
theorem o_raise (hV : c.V) (hY : ∀ e s, Fly c Θ e s → c.X e s) {cls newId initId : String} (FC : ExcCallFacts cls newId initId) (FR : ExcRaiseFacts cls) {x : Str} {np cpos pos : Pos} {e₀ : Expr} {rest : List Expr}
  (h : vGet c m x np (fun v m l => v = .type cls ∧ vAs c (e₀ :: rest) (fun vs m l => vs.length ≤ sizeLine ∧ Θ (.type cls) vs m l) m l) l) (hs : (e₀ :: rest).any isStar = false := by rfl) (hm : c.Fn := by assumption) :
  Ob c (exec (.Raise (some (.Call (.Name x np) (e₀ :: rest) [] cpos)) none pos) c.env) KF m l := by
 intro Q E s S kk xx
 have st := any_star (c := c) hs
 refine Raise_madeB FC FR (Vw.hh' hV hm.hz) (vGet_ok hV h _ E s S (fun v m' l' s' h' S' => ⟨h'.1, vAs_ok hV _ hs _ _ _ cpos h'.2 _ E s' S' (fun vs m2 l2 s2 h2 S2 => ⟨h2.1, fun h3 e hm' => ?_⟩) xx⟩) xx) st.1 (any_back st.2)
 exact xx _ _ (hY _ _ (fly_made hV hm S2 ⟨hm'.keeps, hm'.new, hm'.there⟩ rfl rfl h2.2))
end
theorem specX_vc {w : World} {n : Nat} {i : Fi} {vals : List Value} {pre : Heap → Prop} {Lin : Led} {Φ : Value → Led → Prop} {Ψ : Value → List Value → Led → Prop} {f : Addr} (binds : List (Str × Value)) (r : List Str) (I : FiOk i) (hf : i.f = f) (hcell : noCell i = true)
  (hbind : bindArgs (fdX i.fn i.q [] i.dV i.pm i.c .none) ⟨vals, []⟩ = pure binds) (hks : binds.map (·.1) ++ r = i.ks)
  (h : ∀ c0 : Fx, let c := c0.wg i.gt; c.w = w → c.hz = true → c.Fn → c.V → c.n = n → c.gt = i.gt → c.LpX → (∀ e s, Fly c (fun cls vs _ l => Drp l (Ψ cls vs)) e s → c.X e s) → pre c.g → Ob c (execs i.fn.body c.env) (fun fl m l => Drp l (Φ (match fl with | .ret v => v | _ => .none))) (unb binds r) Lin) : SpecX w (n + 1) f vals pre Lin Φ Ψ := by
 subst hf
 intro A outer g s C H hz hg hp
 refine enter i binds r C H hz hg I hcell hbind hks fun L env s' he V S => ?_
 have hfr : env.frame = some L := by rw [he]
 have hFn : Fx.Fn ⟨w, A, ⟨s.os, outer, s.heap⟩, outer, n, g, L, env, i.ks, i.gt, fun _ _ => False, [], A.deeper env, true⟩ := ⟨rfl, rfl, hfr⟩
 have hVV : Fx.V ⟨w, A, ⟨s.os, outer, s.heap⟩, outer, n, g, L, env, i.ks, i.gt, fun _ _ => False, [], A.deeper env, true⟩ := V
 refine h ⟨w, A, ⟨s.os, outer, s.heap⟩, outer, n, g, L, env, i.ks, i.gt, Fly ⟨w, A, ⟨s.os, outer, s.heap⟩, outer, n, g, L, env, i.ks, i.gt, fun _ _ => False, [], A.deeper env, true⟩ (fun cls vs _ l => Drp l (Ψ cls vs)), [], A.deeper env, true⟩ rfl rfl ⟨rfl, rfl, hfr⟩ V rfl rfl (fun E e s F h => fly_loop hVV hFn F h) (fun _ _ h => by obtain ⟨a, cls, t, vs, m, l, B, k, h1, F, h3⟩ := h; exact ⟨a, cls, t, vs, m, l, B, k, h1, ⟨F.gB, F.led, F.nd, F.bt, F.tu, F.tf, F.fk, F.ns, F.ks, F.gn, F.os, F.Bs, F.ba, F.ff, F.st, ⟨F.z.ab, F.z.kn, F.z.Y, F.z.U⟩⟩, h3⟩) hp _ _ s' S (fun fl m l s' hk S' => .inl ?_) fun e s' hx => ?_
 ·(refine hideG ?_; intro P0 hP0; obtain ⟨l', R, e, hφ⟩ := hk; refine hP0 ?_; clear hP0 P0)
  exact i2_7 _ l' rfl ((S'.ex e).hp) S'.G S'.O S'.W ((S'.ex e).Z) hφ
 ·exact wpAny_mono (fly_leave hVV hFn hx fun _ _ _ _ h => h) (fun _ _ h => .inr ⟨e, rfl, h⟩) fun _ _ h => h.elim
end
section
noncomputable abbrev Kvs := List (Str × Tok × Value)
noncomputable def ent (P : Params) (k : Str × Tok × Value) : DictEntry := ⟨PyData.keyHash P k.1, .str k.1 k.2.1, k.2.2⟩
noncomputable abbrev iD (P : Params) (ks : Kvs) (n : Nat) : Obj := dictOf (ks.map (ent P)) n
noncomputable def kget (x : Str) : Kvs → Option Value
 | [] => none
 | (y, _, v) :: r => match y == x with | true => some v | false => kget x r
noncomputable def kput (x : Str) (t : Tok) (v : Value) : Kvs → Kvs
 | [] => [(x, t, v)]
 | (y, u, w) :: r => match y == x with | true => (y, u, v) :: r | false => (y, u, w) :: kput x t v r
theorem getL_ent (P : Params) (x : Str) : ∀ ks : Kvs, getL x (ks.map (ent P)) = some (kget x ks)
 | [] => rfl
 | (y, u, w) :: r => by
  have ih := getL_ent P x r
  unfold getL at ih ⊢
  rw [List.map_cons, List.find?_cons, kget]
  show (match (match (y == x) with | true => some (ent P (y, u, w)) | false => _) with | some e => _ | none => _) = _
  cases (y == x) with
  | true => rfl
  | false =>
   dsimp only
   have e : (ent P (y, u, w) :: r.map (ent P)).any (·.refKey) = (r.map (ent P)).any (·.refKey) := by rw [List.any_cons]; rfl
   rw [e]
   exact ih
theorem putL_ent (P : Params) (x : Str) (t : Tok) (v : Value) : ∀ ks : Kvs, putL x (PyData.keyHash P x) (.str x t) v (ks.map (ent P)) = (kput x t v ks).map (ent P)
 | [] => rfl
 | (y, u, w) :: r => by
  rw [List.map_cons, putL, kput]
  show (if (y == x) = true then _ else _) = _
  cases (y == x) with
  | true => rfl
  | false => simp only [Bool.false_eq_true, if_false]; rw [putL_ent P x t v r]; rfl
theorem kput_len (x : Str) (t : Tok) (v : Value) : ∀ ks : Kvs, (kput x t v ks).length ≤ ks.length + 1
 | [] => by simp [kput]
 | (y, u, w) :: r => by
  rw [kput]
  cases (y == x) with
  | true => simp
  | false => have := kput_len x t v r; simp; lia
structure ClsOk (P : Params) (C : Addr) : Prop where
 ga : findIn (KF P) (.ref C) "__getattribute__" = some (some (.builtin "object.__getattribute__"))
 gt : findIn (KF P) (.ref C) "__getattr__" = some none
 sa : findIn (KF P) (.ref C) "__setattr__" = some (some (.builtin "object.__setattr__"))
 po : plainOver (KF P) C = true
noncomputable def hasD (P : Params) (C : Addr) : Bool := (clsIn (KF P) C).any (·.hasDict)
section
variable {c : Fx} {m : Loc} {l l' : Led} {K : KV Value} {KL : Loc → Led → Prop} {x C dx : Addr} {ks : Kvs} {n : Nat} {name : Str} {v : Value}
theorem inst_at {s : Shared} (S : c.S m l s) (hx : Rd c.g l x (instObj C dx)) (hd : Rd c.g l dx (iD c.w.params ks n)) : InstAt s.heap x (instObj C dx) C (some (iD c.w.params ks n)) := ⟨S.rd hx, rfl, rfl, S.rd hd⟩
theorem o_get (hV : c.V) (O : ClsOk c.w.params C) (hD : hasD c.w.params C = true) (hn : findIn (KF c.w.params) (.ref C) name = some none) (hx : Rd c.g l x (instObj C dx)) (hd : Rd c.g l dx (iD c.w.params ks n)) (hv : kget name ks = some v) (hh : handedIn v = true) (h : K v m l) {b : Bool} :
  Ob c (getAttr (.ref x) name b) K m l := by
 intro Q E s S kk _
 refine get_value (hV.C.X.keeps S.F.keep) (inst_at S hx hd) O.ga ?_ hh (kk _ _ _ _ h (S.same rfl rfl rfl))
 (refine e1_2 (any_some hD) ?_; intro cd hc hd')
 unfold findObj
 rw [hc, Option.bind_some, hn, Option.bind_some]
 show (W.ownOf cd (some (iD c.w.params ks n)) name).bind _ = _
 unfold W.ownOf
 rw [hd', if_pos rfl]
 show (lookIn name (iD c.w.params ks n)).bind _ = _
 rw [lookIn_dict, getL_ent, hv]
 rfl
theorem o_set (hV : c.V) (O : ClsOk c.w.params C) (hD : hasD c.w.params C = true) (ht : takerIn (KF c.w.params) C name = some none) (hx : Rd c.g l x (instObj C dx)) (hd : (dx, iD c.w.params ks n) ∈ l) (hz : ks.length ≤ 100)
  (h : ∀ t n', ∃ l', Up dx (iD c.w.params ks n) (iD c.w.params (kput name t v ks) n') l l' ∧ KL m l') : Ob c (setAttr (.ref x) name v) (fun _ => KL) m l := by
 intro Q E s S kk _
 have X := hV.C.X.keeps S.F.keep
 refine set_plain X (inst_at S hx (.inl hd)) O.sa ?_
 (refine e1_2 (h s.toks.succ (putN name (ks.map (ent c.w.params)) n)) ?_; intro l' U hk)
 (refine e2_4 ((U.upd S.D).split) ?_; intro pre post e1 e2 h1 h2)
 (refine e1_3 S.frs ?_; intro fs f1 f2 f3)
 subst e1
 have hf : ∀ p ∈ fs, p.1 ≠ dx := fun p hp e => S.Z _ hd (e ▸ f3 p hp)
 have N : News c.g c.L s.heap (pre ++ (dx, iD c.w.params ks n) :: (post ++ fs)) := by
  intro p hp
  rw [← List.cons_append, ← List.append_assoc] at hp
  rcases List.mem_append.mp hp with hp | hp
  ·exact S.N p hp
  ·exact f1 p hp
 refine osa_dict (s := { s with toks := s.toks + 1 }) (es := (kput name (s.toks + 1) v ks).map (ent c.w.params)) (n := putN name (ks.map (ent c.w.params)) n) S.F N X (inst_at (S.same rfl rfl rfl) hx (.inl hd)) rfl O.po ht hD ?_ h1 (fun p hp => ?_) (putName_dict _ _ _ _ _ _) ?_ ?_ fun h' F' N' => ?_
 ·show (lookIn name (iD c.w.params ks n)).isSome = true
  rw [lookIn_dict, getL_ent]; rfl
 ·rcases List.mem_append.mp hp with hp | hp
  ·exact h2 p hp
  ·exact hf p hp
 ·rw [putL_ent]
 ·rw [List.length_map]; have := kput_len name (s.toks + 1) v ks; lia
 ·refine kk _ _ _ _ hk ?_
  rw [putL_ent] at N'
  have hkeys := U.keys
  subst e2
  refine S.back f1 f2 F' (fun p hp => N' p ?_) (by rw [hkeys]; exact S.D) (fun p hp => .inl ?_) S.K.1 rfl rfl
  ·rw [← List.cons_append, ← List.append_assoc]; exact hp
  ·rw [← hkeys]; exact List.mem_map_of_mem (f := (·.1)) hp
end
section
variable {c : Fx} {m : Loc} {l l' : Led} {K : KV Value} {x C dx f : Addr} {ks : Kvs} {n : Nat} {name : Str} {v : Value} {pos : Pos} {args : List Expr} {e : Expr} {first : List Value}
theorem cwh (hV : c.V) {fo : Obj} {fd : FuncData} {KA : KV (List Value)} (hfd : fo.data = .func fd) (hA : ∀ vs m l s, KA vs m l → c.S m l s → s.heap.get? f = some fo ∧ Ob c (call (.ref f) (first ++ vs)) K m l) (h : vAs c args KA m l) (hs : args.any isStar = false) : Ob c (callWith pos (.ref f) first (backTo pos (starEach args c.env)) []) K m l := by
 intro Q E s S kk xx
 cases args with
 | nil =>
  rw [vAs_nil] at h
  have hh := hA _ _ _ _ h S
  exact Calls.callWith_function (o := fo) (fd := fd) (args := []) (PyProof.Rows.evalArgs_none ⟨⟨hh.1, hfd⟩, hh.2 Q E s S kk xx⟩)
 | cons e rest =>
  have st := any_star (c := c) hs
  have h2 := vAs_ok hV _ hs _ _ _ pos h _ E s S (fun vs m' l' s' h' S' => (⟨⟨(hA _ _ _ _ h' S').1, hfd⟩, (hA _ _ _ _ h' S').2 Q E s' S' kk xx⟩ : (s'.heap.get? f = some fo ∧ fo.data = .func fd) ∧ wpAny (M c.w) c.A' (call (.ref f) (first ++ vs)) Q E s')) xx
  rw [st.1] at h2 ⊢
  exact Calls.callWith_function (o := fo) (fd := fd) (Calls.evalArgs_plain h2)
theorem o_um (hV : c.V) {i : Fi} (I : FiOk i) (hf : i.f = f) (O : ClsOk c.w.params C) (hx : Rd c.g l x (instObj C dx)) (hd : Rd c.g l dx (iD c.w.params ks n)) (hn : findIn (KF c.w.params) (.ref C) name = some (some (.ref f))) (ht : typeIn (KF c.w.params) (.ref f) = some (.type "function")) (hk : kget name ks = none)
  (h : vAs c args (fun vs m l => Ob c (call (.ref f) (.ref x :: vs)) K m l) m l) (hs : args.any isStar = false := by rfl) : vMeth c pos (.ref x) name args K m l := by
 subst hf
 intro pl Q E s S kk xx
 refine method_fn (hV.C.X.keeps S.F.keep) (inst_at S hx hd) O.ga O.gt hn ht ?_ (kk _ _ _ _ ?_ S)
 ·show (lookIn name (iD c.w.params ks n)).map _ = _
  rw [lookIn_dict, getL_ent, hk]; rfl
 ·exact cwh hV (fo := fnO i.fn i.q i.dV i.pm i.c) (fd := fdX i.fn i.q [] i.dV i.pm i.c .none) rfl (fun vs m l s h S => ⟨S.old (hV.C.X _ _ (I.at_ _)), h⟩) h hs
theorem o_im (hV : c.V) (O : ClsOk c.w.params C) (hD : hasD c.w.params C = true) (hn : findIn (KF c.w.params) (.ref C) name = some none) (hx : Rd c.g l x (instObj C dx)) (hd : Rd c.g l dx (iD c.w.params ks n)) (hk : kget name ks = some (.ref f)) {fo : Obj} {fd : FuncData} (hfd : fo.data = .func fd)
  (h : vAs c args (fun vs m l => Rd c.g l f fo ∧ Ob c (call (.ref f) vs) K m l) m l) (hs : args.any isStar = false := by rfl) : vMeth c pos (.ref x) name args K m l := by
 intro pl Q E s S kk xx
 refine method_usual (hV.C.X.keeps S.F.keep) (inst_at S hx hd) O.ga O.gt hn rfl ?_
 refine o_get (b := false) (K := fun v m l => v = .ref f ∧ Ob c (callWith pos (.ref f) [] (backTo pos (starEach args c.env)) []) K m l) hV O hD hn hx hd hk rfl ⟨rfl, cwh hV (fo := fo) (fd := fd) hfd (fun vs m l s h S => ⟨S.rd h.1, h.2⟩) h hs⟩ _ E s S (fun v m' l' s' h' S' => ?_) xx
 (refine e0_2 h' ?_; clear h'; intro hE1 h'; subst hE1)
 exact kk _ _ _ _ h' S'
end
end
section
noncomputable def Fx.exc (c : Fx) (a : Addr) : Fx := { c with A' := c.A'.mark (some (.ref a)), hz := false, X := fun _ _ => False }
theorem Fx.excV {c : Fx} (hV : c.V) (a : Addr) : (c.exc a).V := ⟨hV.C, fun h => (nomatch h), hV.lo, hV.gl, hV.bl, hV.kd, hV.lc, hV.gc, hV.cc⟩
theorem Fly.cast {c c₁ : Fx} {Θ : Value → List Value → Loc → Led → Prop} {e : Value} {s : Shared} (h : c₁.g = c.g ∧ c₁.env = c.env ∧ c₁.outer = c.outer ∧ c₁.base = c.base ∧ c₁.L = c.L ∧ c₁.ks = c.ks) (F : Fly c₁ Θ e s) : Fly c Θ e s := by
 (refine hideG ?_; intro P0 hP0; obtain ⟨w, A, base, outer, n, g, L, env, ks, gt, X, cs, A', hz⟩ := c; refine hP0 ?_; clear hP0 P0)
 (refine e0_6 h ?_; clear h; intro h1 h2 h3 h4 h5 h6)
 dsimp only at h1 h2 h3 h4 h5 h6
 subst h1 h2 h3 h4 h5 h6
 (refine hideG ?_; intro P0 hP0; obtain ⟨a, cls, t, vs, m, l, B, k, h1, F, h3⟩ := F; refine hP0 ?_; clear hP0 P0)
 exact ⟨a, cls, t, vs, m, l, B, k, h1, ⟨F.gB, F.led, F.nd, F.bt, F.tu, F.tf, F.fk, F.ns, F.ks, F.gn, F.os, F.Bs, F.ba, F.ff, F.st, ⟨F.z.ab, F.z.kn, F.z.Y, F.z.U⟩⟩, h3⟩
noncomputable def Fx.Like (c c₁ : Fx) : Prop := c₁.w = c.w ∧ c₁.n = c.n ∧ c₁.gt = c.gt ∧ c₁.cs = c.cs ∧ c₁.g = c.g ∧ c₁.env = c.env
theorem setAt_ex {n : Str} (v : Option Value) : ∀ {m : Loc}, n ∈ m.map (·.1) → ∃ m', SetAt n v m m'
 | [], h => by simp at h
 | (y, o) :: m, h => by
  by_cases e : n = y
  ·subst e; exact ⟨_, .here⟩
  ·(refine e1_1 (setAt_ex v (m := m) (by simpa [e] using h)) ?_; intro m' h')
   exact ⟨_, .there h'⟩
section
variable {c : Fx} {Θ : Value → List Value → Loc → Led → Prop} {m : Loc} {l : Led} {s : Shared} {QU : Unit → Shared → Prop} {E : Value → Shared → Prop} {n x : Str} {np pos pos' : Pos} {K : KV Flow} {body suite orelse : List Stmt} {b₀ : Stmt} {rest : List ExceptHandler} {T : String}
theorem nameGoes (hV : c.V) (S : c.S m l s) (hn : n ∈ m.map (·.1)) {A' : Around} (h : ∀ v m' s', SetAt n v m m' → c.S m' l s' → QU () s') : wpAny (M c.w) A' (do bindName c.env n .none; unbindBehindTheSuite c.env n pos) QU E s := by
 have hk : n ∈ c.ks := S.K.1 ▸ hn
 have hl := (hV.lc n hk).1
 have hp : (c.env.scope.kind == .class || (c.env.scope.kind == .module && c.env.locals != c.env.globals)) = false := by rw [hV.kd]; rfl
 refine wpAny_bind (wpAny_bindName (wpAny_storeName_local hl (hV.lo ▸ S.F.ns) (fun h₁ hn₁ hs₁ => ?_) hp))
 unfold unbindBehindTheSuite
 refine wpAny_onRaise ?_
 unfold unbindName
 refine wpAny_bind (wpAny_point (wpAny_bind ?_))
 unfold deleteName
 simp only [hl, hp]
 rw [if_neg (by decide)]
 refine wpAny_bind (wpAny_nsDel_keeps hn₁ fun h₂ v hn₂ hs₂ => ?_)
 simp only [if_true, Option.isSome_some, Bool.not_true, Bool.false_eq_true, if_false]
 (refine e1_1 (setAt_ex v hn) ?_; intro m' U)
 refine wpAny_pure (wpAny_point (h v m' _ U (S.setL U ?_ (hV.lo ▸ hs₁.trans hs₂) rfl rfl)))
 rw [hV.lo] at hn₂
 have e : (fun x => if x = n then v else if x = n then some Value.none else mp m x) = fun y => if y = n then v else mp m y := by
  funext y; by_cases q : y = n <;> simp [q]
 rw [e] at hn₂
 exact hn₂
theorem o_tryB (hV : c.V) (Θ : Value → List Value → Loc → Led → Prop) (hexc : isSubtype (.type T) (.type "BaseException") = pure true) (hnt : isSubtype (.type ((Manifest.find? T).elim "type" fun x => x.metatype)) (.type "tuple") = pure false) (hg : (x, Value.type T) ∈ c.gt)
  (hb : ∀ c0 : Fx, let c₁ := c0.wg c.gt; c.Like c₁ → c₁.hz = true → c₁.Fn → c₁.V → (∀ e s, Fly c₁ Θ e s → c₁.X e s) → c₁.LpX → ∀ K₁ : KV Flow, (∀ m l, Ob c (execs orelse c.env) K m l → K₁ .next m l) → (∀ m l, K .brk m l → K₁ .brk m l) → (∀ m l, K .cont m l → K₁ .cont m l) → (∀ v m l, K (.ret v) m l → K₁ (.ret v) m l) → Ob c₁ (execs body c₁.env) K₁ m l)
  (hh : ∀ cls vs m l a t oe ot ws nt, Θ cls vs m l → oe.cls = cls → oe.data = .fields ws → ws[0]? = some (.ref t) → ot.cls = .type "tuple" → ot.data = .seq vs.toArray nt →
   (∃ X, cls = .type X ∧ isSubtype (.type X) (.type T) = pure true) ∧ hasK m n = true ∧ ∀ c0 : Fx, let c₂ := c0.wg c.gt; c.Like c₂ → c₂.V → ∀ K₂ : KV Flow, (∀ f m l, (n ∈ m.map (·.1) ∧ ∀ v m', SetAt n v m m' → K f m' l) → K₂ f m l) → Ob c₂ (execs (b₀ :: suite) c₂.env) K₂ (put m n (.ref a)) ((a, oe) :: (t, ot) :: l)) (hm : c.Fn := by assumption) :
  Ob c (exec (.Try body (.ExceptHandler (some (.Name x np)) (some n) (b₀ :: suite) pos' :: rest) orelse [] pos) c.env) K m l := by
 intro Q E s S k X
 have hVc : Fx.V { c with X := Fly c Θ } := hV
 have hmc : Fx.Fn { c with X := Fly c Θ } := ⟨hm.hz, hm.A', hm.fr⟩
 refine wpAny_Try_except (hb { c with X := Fly c Θ } ⟨rfl, rfl, rfl, rfl, rfl, rfl⟩ hm.hz hmc hVc (fun e s F => Fly.cast (c₁ := { c with X := Fly c Θ }) ⟨rfl, rfl, rfl, rfl, rfl, rfl⟩ F) (fun E e s F h => fly_loop hV hm F h) (fun f m l => match f with | .next => Ob c (execs orelse c.env) K m l | f => K f m l) (fun _ _ h => h) (fun _ _ h => h) (fun _ _ h => h) (fun _ _ _ h => h) _ _ s S (fun f m' l' s' h' S' => ?_) fun e s' F => ?_)
 ·cases f with
  | next => exact h' Q E s' S' k X
  | brk => exact k _ _ _ _ h' S'
  | cont => exact k _ _ _ _ h' S'
  | ret v => exact k _ _ _ _ h' S'
 ·(refine hideG ?_; intro P0 hP0; obtain ⟨a, cls, t, vs, m, l, B, kk, rfl, F, hΘ⟩ := F; refine hP0 ?_; clear hP0 P0)
  refine F.note hV hm (Fx.stk' hV hm) fun s2 F2 => F2.land hV fun s3 F3 => ?_
  (refine hideG ?_; intro P0 hP0; obtain ⟨oe, ot, ws, nt, h1, h2, h3, h4, h5, S3⟩ := F3.got hV hm; refine hP0 ?_; clear hP0 P0)
  (refine e0_3 (hh cls vs m l a t oe ot ws nt hΘ h1 h2 h3 h4 h5) ?_; rintro ⟨Xc, rfl, hsub⟩ hk _)
  refine wpAny_handleBy_builtin_as (X := Xc) (T := T) (b := true) hexc hnt hsub (n_glo hV S3 hg ⟨rfl, ⟨oe, S3.get (.head _), h1⟩, ?_⟩)
  refine F3.land hV fun s4 F4 => ?_
  (refine hideG ?_; intro P0 hP0; obtain ⟨oe, ot, ws, nt, h1, h2, h3, h4, h5, S4⟩ := F4.got hV hm; refine hP0 ?_; clear hP0 P0)
  (refine e0_3 (hh _ vs m l a t oe ot ws nt hΘ h1 h2 h3 h4 h5) ?_; intro _ _ hO)
  refine s_loc hV S4 (put_ok hk) fun s5 S5 => ?_
  refine hO (c.exc a) ⟨rfl, rfl, rfl, rfl, rfl, rfl⟩ (Fx.excV hV a) (fun f m l => n ∈ m.map (·.1) ∧ ∀ v m', SetAt n v m m' → K f m' l) (fun _ _ _ h => h) _ _ s5 S5 (fun f m' l' s6 h6 S6 => ?_) fun _ _ h => h.elim
  exact nameGoes (c := c) hV S6 h6.1 fun v m2 s7 U S7 => k _ _ _ _ (h6.2 v m2 U) S7
theorem o_try0 (hV : c.V) (Θ : Value → List Value → Loc → Led → Prop) (hexc : isSubtype (.type T) (.type "BaseException") = pure true) (hnt : isSubtype (.type ((Manifest.find? T).elim "type" fun x => x.metatype)) (.type "tuple") = pure false) (hg : (x, Value.type T) ∈ c.gt)
  (hb : ∀ c0 : Fx, let c₁ := c0.wg c.gt; c.Like c₁ → c₁.hz = true → c₁.Fn → c₁.V → (∀ e s, Fly c₁ Θ e s → c₁.X e s) → c₁.LpX → ∀ K₁ : KV Flow, (∀ m l, Ob c (execs orelse c.env) K m l → K₁ .next m l) → (∀ m l, K .brk m l → K₁ .brk m l) → (∀ m l, K .cont m l → K₁ .cont m l) → (∀ v m l, K (.ret v) m l → K₁ (.ret v) m l) → Ob c₁ (execs body c₁.env) K₁ m l)
  (hh : ∀ cls vs m l a t oe ot ws nt, Θ cls vs m l → oe.cls = cls → oe.data = .fields ws → ws[0]? = some (.ref t) → ot.cls = .type "tuple" → ot.data = .seq vs.toArray nt →
   (∃ X, cls = .type X ∧ isSubtype (.type X) (.type T) = pure true) ∧ ∀ c0 : Fx, let c₂ := c0.wg c.gt; c.Like c₂ → c₂.V → Ob c₂ (execs (b₀ :: suite) c₂.env) K m ((a, oe) :: (t, ot) :: l)) (hm : c.Fn := by assumption) :
  Ob c (exec (.Try body (.ExceptHandler (some (.Name x np)) none (b₀ :: suite) pos' :: rest) orelse [] pos) c.env) K m l := by
 intro Q E s S k X
 have hVc : Fx.V { c with X := Fly c Θ } := hV
 have hmc : Fx.Fn { c with X := Fly c Θ } := ⟨hm.hz, hm.A', hm.fr⟩
 refine wpAny_Try_except (hb { c with X := Fly c Θ } ⟨rfl, rfl, rfl, rfl, rfl, rfl⟩ hm.hz hmc hVc (fun e s F => Fly.cast (c₁ := { c with X := Fly c Θ }) ⟨rfl, rfl, rfl, rfl, rfl, rfl⟩ F) (fun E e s F h => fly_loop hV hm F h) (fun f m l => match f with | .next => Ob c (execs orelse c.env) K m l | f => K f m l) (fun _ _ h => h) (fun _ _ h => h) (fun _ _ h => h) (fun _ _ _ h => h) _ _ s S (fun f m' l' s' h' S' => ?_) fun e s' F => ?_)
 ·cases f with
  | next => exact h' Q E s' S' k X
  | brk => exact k _ _ _ _ h' S'
  | cont => exact k _ _ _ _ h' S'
  | ret v => exact k _ _ _ _ h' S'
 ·(refine hideG ?_; intro P0 hP0; obtain ⟨a, cls, t, vs, m, l, B, kk, rfl, F, hΘ⟩ := F; refine hP0 ?_; clear hP0 P0)
  refine F.note hV hm (Fx.stk' hV hm) fun s2 F2 => F2.land hV fun s3 F3 => ?_
  (refine hideG ?_; intro P0 hP0; obtain ⟨oe, ot, ws, nt, h1, h2, h3, h4, h5, S3⟩ := F3.got hV hm; refine hP0 ?_; clear hP0 P0)
  (refine e0_2 (hh cls vs m l a t oe ot ws nt hΘ h1 h2 h3 h4 h5) ?_; rintro ⟨Xc, rfl, hsub⟩ _)
  refine wpAny_handleBy_builtin (X := Xc) (T := T) (b := true) hexc hnt hsub (n_glo hV S3 hg ⟨rfl, ⟨oe, S3.get (.head _), h1⟩, ?_⟩)
  refine F3.land hV fun s4 F4 => ?_
  (refine hideG ?_; intro P0 hP0; obtain ⟨oe, ot, ws, nt, h1, h2, h3, h4, h5, S4⟩ := F4.got hV hm; refine hP0 ?_; clear hP0 P0)
  (refine e0_2 (hh _ vs m l a t oe ot ws nt hΘ h1 h2 h3 h4 h5) ?_; intro _ hO)
  exact hO (c.exc a) ⟨rfl, rfl, rfl, rfl, rfl, rfl⟩ (Fx.excV hV a) _ _ s4 S4 k fun _ _ h => h.elim
theorem exc158 (P : Params) : excIn (KF P) 158 [.type "ValueError", .type "Exception", .type "BaseException", .type "object"] "ValueError.__new__" = true := by kernel_rfl
theorem nm158 (P : Params) : nsIn (KF P) mainGlobals (Str.ofString "CycleError") = some (some (.ref 158)) := by kernel_rfl
theorem own158 (hV : c.V) : ∃ mg mb, TopRead q0 loose0 mg mb c.g ∧ OwnCls (Str.ofString "CycleError") 158 [.type "ValueError", .type "Exception", .type "BaseException", .type "object"] "ValueError.__new__" mg c.g := by
 (refine e2_1 hV.C.T ?_; intro mg mb T)
 exact i2_2 mg mb T (own_of_in hV.C.X T (nm158 _) (exc158 _))
theorem o_raiseO (hV : c.V) (hY : ∀ e s, Fly c Θ e s → c.X e s) {cpos : Pos} {e₀ : Expr} {rs : List Expr} (hg : (Str.ofString "CycleError", Value.ref 158) ∈ c.gt)
  (h : vAs c (e₀ :: rs) (fun vs m l => vs.length ≤ sizeLine ∧ Θ (.ref 158) vs m l) m l) (hs : (e₀ :: rs).any isStar = false := by rfl) (hm : c.Fn := by assumption) :
  Ob c (exec (.Raise (some (.Call (.Name (Str.ofString "CycleError") np) (e₀ :: rs) [] cpos)) none pos) c.env) K m l := by
 intro Q E s S kk xx
 have st := any_star (c := c) hs
 (refine e2_2 (own158 hV) ?_; intro mg mb T O)
 (refine e17_1 O.obj ?_; intro tl N nm q bs hdct sn sub ab col dd k0 k1 k2 k3 k5 mN hJw; refine e0_4 hJw ?_; clear hJw; intro hC hN hni TL)
 have FB := PySem.F.excBase_ValueError
 refine wpAny_Raise_call_subT (C := 158) (nm := nm) (q := q) (N := N) (bs := bs) (bm := tl) (hdct := hdct) (sn := sn) (sub := sub) (ab := ab) (col := col) (dd := dd) (k0 := k0) (k1 := k1) (k2 := k2) (k3 := k3) (k5 := k5)
  FB (mN := mN) (TL.hasType FB.hasBase) (Vw.hh' hV hm.hz) (by rw [st.1]; show (false || (backTo cpos (starEach rs c.env)).any (·.1)) = false; rw [any_back st.2]; rfl) hni (n_glo hV S hg ⟨rfl, ?_⟩)
 have h2 := vAs_ok hV _ hs _ _ _ cpos h _ E s S (fun vs m2 l2 s2 h2 S2 => (⟨rfl, h2.1, S2.old hC, hN.keeps S2.F.keep, TL.keeps S2.F.keep, fun h3 e hm' => xx _ _ (hY _ _ (fly_made hV hm S2 hm' rfl rfl h2.2))⟩ : ([] : List (Str × Value)) = [] ∧ vs.length ≤ sizeLine ∧ _ ∧ _ ∧ _ ∧ ∀ h' e, Heap.MadeExcOf s2.heap h' e (.ref 158) vs → E (.ref e) { s2 with heap := h' })) xx
 rw [st.1] at h2 ⊢
 exact Calls.evalArgs_plain h2
theorem o_tryO (hV : c.V) (Θ : Value → List Value → Loc → Led → Prop) (hg : (Str.ofString "CycleError", Value.ref 158) ∈ c.gt)
  (hb : ∀ c0 : Fx, let c₁ := c0.wg c.gt; c.Like c₁ → c₁.hz = true → c₁.Fn → c₁.V → (∀ e s, Fly c₁ Θ e s → c₁.X e s) → c₁.LpX → ∀ K₁ : KV Flow, (∀ m l, Ob c (execs orelse c.env) K m l → K₁ .next m l) → (∀ m l, K .brk m l → K₁ .brk m l) → (∀ m l, K .cont m l → K₁ .cont m l) → (∀ v m l, K (.ret v) m l → K₁ (.ret v) m l) → Ob c₁ (execs body c₁.env) K₁ m l)
  (hh : ∀ cls vs m l a t oe ot ws nt, Θ cls vs m l → oe.cls = cls → oe.data = .fields ws → ws[0]? = some (.ref t) → ot.cls = .type "tuple" → ot.data = .seq vs.toArray nt →
   cls = .ref 158 ∧ hasK m n = true ∧ ∀ c0 : Fx, let c₂ := c0.wg c.gt; c.Like c₂ → c₂.V → ∀ K₂ : KV Flow, (∀ f m l, (n ∈ m.map (·.1) ∧ ∀ v m', SetAt n v m m' → K f m' l) → K₂ f m l) → Ob c₂ (execs (b₀ :: suite) c₂.env) K₂ (put m n (.ref a)) ((a, oe) :: (t, ot) :: l)) (hm : c.Fn := by assumption) :
  Ob c (exec (.Try body (.ExceptHandler (some (.Name (Str.ofString "CycleError") np)) (some n) (b₀ :: suite) pos' :: rest) orelse [] pos) c.env) K m l := by
 intro Q E s S k X
 have hVc : Fx.V { c with X := Fly c Θ } := hV
 have hmc : Fx.Fn { c with X := Fly c Θ } := ⟨hm.hz, hm.A', hm.fr⟩
 refine wpAny_Try_except (hb { c with X := Fly c Θ } ⟨rfl, rfl, rfl, rfl, rfl, rfl⟩ hm.hz hmc hVc (fun e s F => Fly.cast (c₁ := { c with X := Fly c Θ }) ⟨rfl, rfl, rfl, rfl, rfl, rfl⟩ F) (fun E e s F h => fly_loop hV hm F h) (fun f m l => match f with | .next => Ob c (execs orelse c.env) K m l | f => K f m l) (fun _ _ h => h) (fun _ _ h => h) (fun _ _ h => h) (fun _ _ _ h => h) _ _ s S (fun f m' l' s' h' S' => ?_) fun e s' F => ?_)
 ·cases f with
  | next => exact h' Q E s' S' k X
  | brk => exact k _ _ _ _ h' S'
  | cont => exact k _ _ _ _ h' S'
  | ret v => exact k _ _ _ _ h' S'
 ·(refine hideG ?_; intro P0 hP0; obtain ⟨a, cls, t, vs, m, l, B, kk, rfl, F, hΘ⟩ := F; refine hP0 ?_; clear hP0 P0)
  refine F.note hV hm (Fx.stk' hV hm) fun s2 F2 => F2.land hV fun s3 F3 => ?_
  (refine hideG ?_; intro P0 hP0; obtain ⟨oe, ot, ws, nt, h1, h2, h3, h4, h5, S3⟩ := F3.got hV hm; refine hP0 ?_; clear hP0 P0)
  (refine e0_3 (hh cls vs m l a t oe ot ws nt hΘ h1 h2 h3 h4 h5) ?_; intro hE1 hk _; subst hE1)
  refine wpAny_handleBy_cons (codeAny_handlers_test (n_glo hV S3 hg ?_)) (by intro q; cases q)
  (refine e2_2 (own158 hV) ?_; intro mg mb T O)
  (refine e17_1 O.obj ?_; intro tl N nm q bs hdct sn sub ab col dd k0 k1 k2 k3 k5 mN hJw; refine e0_4 hJw ?_; clear hJw; intro hC hN hni TL)
  refine wpAny_excMatches_sub_self (S3.old hC) (S3.get (.head _)) h1 (TL.hasType (by decide)) (codeAny_handlers_suite_as ?_)
  refine F3.land hV fun s4 F4 => ?_
  (refine hideG ?_; intro P0 hP0; obtain ⟨oe, ot, ws, nt, h1, h2, h3, h4, h5, S4⟩ := F4.got hV hm; refine hP0 ?_; clear hP0 P0)
  (refine e0_3 (hh _ vs m l a t oe ot ws nt hΘ h1 h2 h3 h4 h5) ?_; intro _ _ hO)
  refine s_loc hV S4 (put_ok hk) fun s5 S5 => ?_
  refine hO (c.exc a) ⟨rfl, rfl, rfl, rfl, rfl, rfl⟩ (Fx.excV hV a) (fun f m l => n ∈ m.map (·.1) ∧ ∀ v m', SetAt n v m m' → K f m' l) (fun _ _ _ h => h) _ _ s5 S5 (fun f m' l' s6 h6 S6 => ?_) fun _ _ h => h.elim
  exact nameGoes (c := c) hV S6 h6.1 fun v m2 s7 U S7 => k _ _ _ _ (h6.2 v m2 U) S7
end
end
section
structure Src (w : World) (A' : Around) (T : String) (N : Nat) (Pv : Nat → Value → Prop) (Ok : Nat → Obj → Prop) (RD : Heap → Led → Prop) : Prop where
 cls : ∀ i o, Ok i o → o.cls = .type T
 own : (["enumerate", "zip", "dict_itemiterator", "dict_reverseitemiterator", "odict_iterator", "itertools.zip_longest", "itertools.pairwise"].contains T) = false
 nxt : ∀ g base L ks m l I oI i s (QO : Option Value → Shared → Prop) E, i ≤ N → RD g l → Ok i oI → St g base L ks m ((I, oI) :: l) s → (∀ v s' o', i < N → Pv i v → Ok (i + 1) o' → St g base L ks m ((I, o') :: l) s' → QO (some v) s') → (∀ s', i = N → St g base L ks m l s' → QO none s') → wpAny (M w) A' (pyNext (.ref I)) QO E s
 self : ∀ g base L ks m l I oI s (Q : Value → Shared → Prop) E, RD g l → Ok 0 oI → St g base L ks m ((I, oI) :: l) s → Q (.ref I) s → wpAny (M w) A' (pyIter (.ref I)) Q E s
section
variable {w : World} {A' : Around} {a : Addr} {vs : List Value}
theorem src_list (hh : A'.handled = none) (a : Addr) (vs : List Value) : Src w A' "list_iterator" vs.length (fun i v => vs[i]? = some v) (fun i o => o.cls = .type "list_iterator" ∧ o.data = .fields #[.ref a, .int i 0]) (fun g l => ∃ k, Rd g l a (lst vs k)) where
 cls := fun _ _ h => h.1
 own := by decide
 nxt := by
  intro g base L ks m l I oI i s QO E hi hR hI S item done
  (refine e1_1 hR ?_; clear hR; intro k hr)
  have hit : s.heap.IsListIter I a i := ⟨oI, S.get (.head _), hI.1, hI.2⟩
  have hl : s.heap.IsList a vs.toArray := ⟨_, S.rd hr.cons, rfl, k, rfl⟩
  cases h : vs[i]? with
  | some v =>
   refine wpAny_pyNext_list_item hit hl (by simpa using h) fun h' hi hs => ?_
   (refine e1_3 hi ?_; clear hi; intro o' ho' hc hd)
   exact item v _ o' (by rcases Nat.lt_or_ge i vs.length with q | q; exact q; rw [List.getElem?_eq_none q] at h; cases h) h ⟨hc, hd⟩ (S.chg .here hs ho' rfl rfl)
  | none =>
   refine wpAny_pyNext_list_end hh hit hl (by simpa using h) fun h' hx => done _ ?_ (S.spent hx rfl rfl)
   rcases Nat.lt_or_ge i vs.length with q | q
   ·rw [List.getElem?_eq_getElem q] at h; cases h
   ·lia
 self := fun g base L ks m l I oI s Q E hR hI S h => wpAny_pyIter_listiter (l := a) (i := 0) ⟨oI, S.get (.head _), hI.1, hI.2⟩ h
theorem src_range (hh : A'.handled = none) (x : Int) (N : Nat) : Src w A' "range_iterator" N (fun i v => ∃ t, v = .int (x + i) t) (fun i o => o = { cls := .type "range_iterator", data := .fields #[rawInt (x + i), rawInt (N - i), rawInt 1] }) (fun g l => True) where
 cls := fun _ _ h => by rw [h]
 own := by decide
 nxt := by
  intro g base L ks m l I oI i s QO E hi hR hI S item done
  subst hI
  have hit : IsRangeIter s.heap I (x + i) (N - i) 1 := S.get (.head _)
  rcases Nat.lt_or_ge i N with q | q
  ·refine wpAny_pyNext_range_item hit (by lia) fun h' hi hs => ?_
   exact item _ _ _ q ⟨_, rfl⟩ rfl (S.chg .here hs (by rw [hi, show x + (i : Int) + 1 = x + ((i + 1 : Nat) : Int) by lia, show (N : Int) - i - 1 = N - ((i + 1 : Nat) : Int) by lia]) rfl rfl)
  ·exact wpAny_pyNext_range_end hh hit (by lia) fun h' hx => done _ (by lia) (S.spent hx rfl rfl)
 self := fun g base L ks m l I oI s Q E hR hI S h => by subst hI; exact wpAny_pyIter_rangeiter (S.get (.head _)) h
end
noncomputable def compChk (scope : Scope) (ks : List Str) (gt : List (Str × Value)) (fr : List Str) : Bool :=
 scope.kind == .function && (scope.names.all (fun x => (x.2 != .cell && (x.2 != .free || fr.contains x.1)) && (x.2 != .local || scope.names.lookup x.1 == some .local)) &&
  (ks.all (fun x => scope.names.lookup x == some .local && x != "__debug__") && (decide ks.Nodup &&
   (gt.all (fun p => scope.names.lookup p.1 == some .globalImplicit && (p.1 != "__debug__" && gtab.any fun r => r.1 == p.1 && r.2.1 == p.2)) &&
    fr.all (fun x => scope.names.lookup x == some .free && (x != "__debug__" && x != "__classdict__"))))))
noncomputable def clOf (f : Str → Addr) (names : List (Str × NameKind)) (acc : List (Str × Addr)) : List (Str × Addr) := match names with
 | [] => acc
 | (x, k) :: r => clOf f r (if k == .free then (x, f x) :: acc else acc)
theorem clos_go {env : Env} {f : Str → Addr} : ∀ (names : List (Str × NameKind)) (acc : List (Str × Addr)), (∀ x ∈ names, x.2 = .free → env.cells.lookup x.1 = some (f x.1)) →
  (forIn names acc fun (x : Str × NameKind) (r : List (Str × Addr)) => (match x with | (name, kind) => if (kind == NameKind.free) = true then do let a ← cellOf env name; pure (ForInStep.yield ((name, a) :: r)) else pure (ForInStep.yield r) : Sem (ForInStep (List (Str × Addr))))) = (pure (clOf f names acc) : Sem _)
 | [], acc, _ => rfl
 | (x, k) :: r, acc, h => by
  have ih := fun acc => clos_go r acc fun y hy => h y (.tail _ hy)
  rw [List.forIn_cons, clOf]
  cases hk : (k == NameKind.free) with
  | true =>
   have hc := h (x, k) (.head _) (by simpa using hk)
   have : cellOf env x = pure (f x) := by unfold cellOf; rw [hc]
   simp only [if_true, this, pure_bind, hk]
   exact ih _
  | false =>
   simp only [Bool.false_eq_true, if_false, pure_bind, hk]
   exact ih _
theorem clos_ok {env : Env} {scope : Scope} {f : Str → Addr} (h : ∀ x ∈ scope.names, x.2 = .free → env.cells.lookup x.1 = some (f x.1)) : closureFor scope env = pure (clOf f scope.names []) := by
 unfold closureFor
 have := clos_go scope.names [] h
 simp only [bind_pure]
 exact this
theorem clOf_get {f : Str → Addr} {x : Str} : ∀ {names : List (Str × NameKind)} {acc : List (Str × Addr)}, (acc.lookup x = some (f x) ∨ (x, NameKind.free) ∈ names) → (clOf f names acc).lookup x = some (f x)
 | [], acc, h => by rcases h with h | h; exact h; cases h
 | (y, k) :: r, acc, h => by
  rw [clOf]
  refine clOf_get ?_
  by_cases e : (x, NameKind.free) ∈ r
  ·exact .inr e
  ·refine .inl ?_
   rcases h with h | h
   ·split
    ·rw [List.lookup_cons]
     cases q : (x == y) with
     | true => rw [beq_iff_eq.mp q]
     | false => exact h
    ·exact h
   ·rcases List.mem_cons.mp h with h | h
    ·cases h; simp [List.lookup]
    ·exact absurd h e
theorem relabel_get {env : Env} : ∀ {names : List (Str × NameKind)} {x : Str} {k : NameKind}, names.lookup x = some k →
  (names.map fun (n, k) => if (k == NameKind.free && env.scope.kind == .function && env.kindOf n == some .cell) then (n, NameKind.cell) else (n, k)).lookup x = some k ∨ (k = .free ∧ (names.map fun (n, k) => if (k == NameKind.free && env.scope.kind == .function && env.kindOf n == some .cell) then (n, NameKind.cell) else (n, k)).lookup x = some .cell)
 | [], _, _, h => by simp at h
 | (n, k) :: r, x, k', h => by
  have ih := @relabel_get env r x k'
  rw [List.map_cons]
  dsimp only
  cases hx : x == n with
  | true =>
   simp only [List.lookup_cons, hx] at h
   cases h
   by_cases hc : (k == NameKind.free && env.scope.kind == .function && env.kindOf n == some .cell) = true
   ·refine .inr ⟨?_, by simp only [hc, if_true, List.lookup_cons, hx]⟩
    simp only [Bool.and_eq_true, beq_iff_eq] at hc; exact hc.1.1
   ·exact .inl (by rw [if_neg hc]; simp only [List.lookup_cons, hx])
  | false =>
   simp only [List.lookup_cons, hx] at h
   by_cases hc : (k == NameKind.free && env.scope.kind == .function && env.kindOf n == some .cell) = true
   ·rw [if_pos hc]; simp only [List.lookup_cons, hx]; exact ih h
   ·rw [if_neg hc]; simp only [List.lookup_cons, hx]; exact ih h
noncomputable def csOf (c : Fx) (fr : List Str) : List (Str × Addr) := fr.map fun x => (x, (c.cs.lookup x).getD 0)
noncomputable def Fx.cmp (c : Fx) (frs : List Env) (g' : Heap) (C : Addr) (s : Shared) (scope : Scope) (cl : List (Str × Addr)) (ks : List Str) (gt : List (Str × Value)) (cs : List (Str × Addr)) : Fx :=
 ⟨c.w, c.A', ⟨s.os, frs, s.heap⟩, frs, c.n - 1, g', C, compEnvC scope cl C c.env, ks, gt, fun _ _ => False, cs, c.A', true⟩
theorem Fx.cmpV {c : Fx} (hV : c.V) {frs : List Env} {g' : Heap} {C : Addr} {s : Shared} {scope : Scope} {ks : List Str} {gt : List (Str × Value)} {fr : List Str} (h : compChk scope ks gt fr = true) (hn : 1 ≤ c.n)
  (hC : Cx c.w c.A' ⟨s.os, frs, s.heap⟩ frs g' c.n) : (c.cmp frs g' C s scope (clOf (fun x => (c.cs.lookup x).getD 0) scope.names []) ks gt (csOf c fr)).V := by
 unfold compChk at h
 simp only [Bool.and_eq_true] at h
 (refine e0_6 h ?_; clear h; intro k1 k2 k3 k4 k5 k6)
 have G := gt_ok c.w.params k5
 simp only [Bool.and_eq_true, List.all_eq_true, beq_iff_eq, bne_iff_ne, Bool.or_eq_true, decide_eq_true_eq] at k1 k2 k3 k4 k6
 have rl : ∀ {x : Str} {k : NameKind}, scope.names.lookup x = some k → (compEnvC scope (clOf (fun x => (c.cs.lookup x).getD 0) scope.names []) C c.env).kindOf x = some k ∨ (k = .free ∧ (compEnvC scope (clOf (fun x => (c.cs.lookup x).getD 0) scope.names []) C c.env).kindOf x = some .cell) := fun h => relabel_get h
 refine ⟨by show Cx c.w c.A' _ frs g' (c.n - 1 + 1); rw [Nat.sub_add_cancel hn]; exact hC, fun _ => .inr rfl, rfl, hV.gl, hV.bl, k1, fun x hx => ⟨?_, by simpa using (k3 x hx).2⟩, fun p hp => ?_, fun p hp => ?_⟩
 ·rcases rl (k3 x hx).1 with q | ⟨q, _⟩
  ·exact q
  ·cases q
 ·(refine e0_2 (G p hp) ?_; intro a b)
  refine ⟨?_, b⟩
  rcases rl a with q | ⟨q, _⟩
  ·exact q
  ·cases q
 ·(refine e1_2 (List.mem_map.mp hp) ?_; rintro x hx rfl)
  (refine e0_3 (k6 x hx) ?_; intro h1 h2 h3)
  refine ⟨?_, ?_, by simpa using h2, by simpa using h3⟩
  ·rcases rl h1 with q | ⟨_, q⟩
   ·exact .inr q
   ·exact .inl q
  ·exact clOf_get (f := fun x => (c.cs.lookup x).getD 0) (.inr (lookup_mem h1))
noncomputable def vCT (c : Fx) (ifs : List Expr) (elt : Expr) (KA : KV Value) (KS : Loc → Led → Prop) (m : Loc) (l : Led) : Prop := match ifs with
 | [] => vE c elt KA m l
 | [t] => vT c t (vE c t) (fun b m l => (b = true → vE c elt KA m l) ∧ (b = false → KS m l)) m l
 | _ => False
section
variable {c : Fx} {m : Loc} {l : Led} {T : String} {N : Nat} {Pv : Nat → Value → Prop} {Ok : Nat → Obj → Prop} {RD : Heap → Led → Prop} {elt target iter : Expr} {ifs : List Expr} {scope : Scope} {pos : Pos} {ks : List Str} {gt : List (Str × Value)} {fr : List Str} {I : Addr} {oI : Obj} {s : Shared}
inductive CLI (c : Fx) (J : Nat → Loc → Led → List Value → Prop) (N : Nat) (Ok : Nat → Obj → Prop) (I D : Addr) (n : Nat) (s : Shared) : Prop
 | mk (i : Nat) (m : Loc) (l : Led) (ys : List Value) (oI : Obj) (k : Nat) (h1 : n = N - i) (h2 : i ≤ N) (h3 : ys.length ≤ i) (h4 : J i m l ys) (h5 : Ok i oI) (h6 : c.S m ((I, oI) :: (D, lst ys k) :: l) s)
theorem comp_loop {c' : Fx} (hV : c'.V) (W : Src c'.w c'.A' T N Pv Ok RD) (hX : ∀ e s, ¬ c'.X e s) {D : Addr} (J : Nat → Loc → Led → List Value → Prop) (rd : ∀ i m l ys, J i m l ys → RD c'.g l)
  (turn : ∀ i v m l ys oI k, i < N → Pv i v → J i m l ys → ∀ (KA : KV Value) (KS : Loc → Led → Prop), (∀ y m l₁ l₂ R, Ex l₁ ((I, oI) :: (D, lst ys k) :: l₂) R → J (i + 1) m l₂ (ys ++ [y]) → KA y m l₁) → (∀ m l₁ l₂ R, Ex l₁ ((I, oI) :: (D, lst ys k) :: l₂) R → J (i + 1) m l₂ ys → KS m l₁) →
   vAsg c' target v (fun m l => vCT c' ifs elt KA KS m l) m ((I, oI) :: (D, lst ys k) :: l))
  (hN : N ≤ 16777215) {R : Result → Shared → Prop} {k : Nat} (S : c'.S m ((I, oI) :: (D, lst [] k) :: l) s) (h0 : J 0 m l []) (hI : Ok 0 oI) (ra : ∀ p l, RD c'.g l → RD c'.g (p :: l))
  (hR : ∀ m l ys k s', J N m l ys → c'.S m ((D, lst ys k) :: l) s' → R (.ok .next) s') :
  codeAny (M c'.w) c'.A' (.compLoop (.ListComp elt [⟨target, iter, ifs, 0⟩] scope pos) 0 (.ref I) (.ref D) c'.env) R s := by
 refine codeAny_loop rfl (CLI c' J N Ok I D) ?_ N ⟨0, m, l, [], oI, k, by simp, by simp, by simp, h0, hI, S⟩
 clear S h0 hI
 (rintro n s hJq; refine hideG ?_; intro P0 hP0; obtain ⟨i, m, l, ys, oI, k, rfl, hi, hys, hJ, hI, S⟩ := hJq; refine hP0 ?_; clear hP0 P0)
 show wpAny _ c'.A' ((compTurn (.ListComp elt [⟨target, iter, ifs, 0⟩] scope pos) 0 (.ref I) (.ref D) c'.env).onRaise (fun x => do noteFrame x c'.env; theTreesLotGoes x)) _ _ s
 refine wpAny_noted ?_
 rw [compTurn_list]
 refine wpAny_bind (wpAny_standAt (wpAny_bind ?_))
 refine W.nxt c'.g c'.base c'.L c'.ks m ((D, lst ys k) :: l) I oI i s _ _ hi (ra _ _ (rd _ _ _ _ hJ)) hI S (fun v s' o' hlt hv ho' S' => ?_) fun s' hiN S' => ?_
 ·refine wpAny_bind (owned_not (S'.get (.head _)) (W.cls _ _ ho') W.own ?_)
  refine wpAny_bind (vAsg_ok hV (turn i v m l ys o' k hlt hv hJ (fun y m l₁ => ∃ l₂ R, Ex l₁ ((I, o') :: (D, lst ys k) :: l₂) R ∧ J (i + 1) m l₂ (ys ++ [y])) (fun m l₁ => ∃ l₂ R, Ex l₁ ((I, o') :: (D, lst ys k) :: l₂) R ∧ J (i + 1) m l₂ ys) (fun y m l₁ l₂ R e j => ⟨l₂, R, e, j⟩) fun m l₁ l₂ R e j => ⟨l₂, R, e, j⟩) _ _ s' S' (fun _ m2 l2 s2 h2 S2 => ?_) fun e s h => (hX e s h).elim)
  have fin : ∀ Q₀ E₀ (m : Loc) (l₁ : Led) s, vE c' elt (fun y m l₁ => ∃ l₂ R, Ex l₁ ((I, o') :: (D, lst ys k) :: l₂) R ∧ J (i + 1) m l₂ (ys ++ [y])) m l₁ → c'.S m l₁ s → (∀ m l₂ y s', J (i + 1) m l₂ (ys ++ [y]) → c'.S m ((I, o') :: (D, lst (ys ++ [y]) (k + 1)) :: l₂) s' → Q₀ () s') → wpAny (M c'.w) c'.A' (do let _ ← call (.builtin "list.append") [.ref D, ← eval elt c'.env]) Q₀ E₀ s := by
   intro Q₀ E₀ m l₁ s hE S q
   refine wpAny_bind (vE_ok hV elt _ _ _ hE _ _ s S (fun y m3 l3 s3 h3 S3 => ?_) fun e s h => (hX e s h).elim)
   (refine e2_2 h3 ?_; clear h3; intro l₂ R ex j)
   refine wpAny_bind (ap_list (S3.ex ex) (Up.there Up.here) (by rw [sizeLine_eq]; lia) fun s4 S4 => wpAny_pure ?_)
   exact q m3 l₂ y s4 j S4
  match ifs, h2 with
  | [], h2 =>
   refine wpAny_bind (wpAny_tests_nil ?_)
   simp only [if_true]
   refine wpAny_bind (fin _ _ m2 l2 s2 h2 S2 fun m3 l3 y s3 j S3 => wpAny_pure ⟨rfl, N - (i + 1), by lia, i + 1, m3, l3, ys ++ [y], o', k + 1, rfl, hlt, by simp; lia, j, ho', S3⟩)
  | [t], h2 =>
   refine wpAny_bind (wpAny_tests_one ?_)
   refine vT_ok hV t _ (vE_ok hV t) _ _ _ h2 _ _ s2 S2 (fun b m3 l3 s3 h3 S3 => ?_) fun e s h => (hX e s h).elim
   cases b with
   | true =>
    simp only [if_true]
    refine wpAny_bind (fin _ _ m3 l3 s3 (h3.1 rfl) S3 fun m3 l3 y s3 j S3 => wpAny_pure ⟨rfl, N - (i + 1), by lia, i + 1, m3, l3, ys ++ [y], o', k + 1, rfl, hlt, by simp; lia, j, ho', S3⟩)
   | false =>
    simp only [Bool.false_eq_true, if_false]
    (refine e2_2 (h3.2 rfl) ?_; intro l₂ R ex j)
    exact wpAny_bind (wpAny_pure (wpAny_pure ⟨rfl, N - (i + 1), by lia, i + 1, m3, l₂, ys, o', k, rfl, hlt, by lia, j, ho', S3.ex ex⟩))
  | _ :: _ :: _, h2 => exact h2.elim
 ·subst hiN
  exact wpAny_pure (hR m l ys k s' hJ S')
end
structure Free (c : Fx) (C : Addr) (l : Led) : Prop where
 g : c.g.get? C = none
 L : C ≠ c.L
 l : C ∉ l.map (·.1)
 fr : C ∉ fro c.base.fr
theorem St.hid {c : Fx} {m : Loc} {l : Led} {s : Shared} {C : Addr} (S : c.S m l s) (F : Free c C l) {h' : Heap} {tk : Nat} (hs : Heap.SameBut C s.heap h') : c.S m l { s with heap := h', toks := tk } := by
 have ne : ∀ p ∈ l, p.1 ≠ C := fun p hp e => F.l (e ▸ List.mem_map_of_mem (f := (·.1)) hp)
 exact ⟨⟨S.F.ns.sameBut hs (Ne.symm F.L), fun b o e => (hs.2 b (fun q => by rw [q, F.g] at e; cases e)).trans (S.F.keep b o e), S.F.above⟩, fun p hp => ⟨(hs.2 _ (ne p hp)).trans (S.N p hp).1, (S.N p hp).2⟩, S.D, S.K, S.G, S.O, S.W.keeps fun b hb o e => (hs.2 b (fun q => F.fr (q ▸ hb))).trans e, S.Z, S.Y, S.U⟩
theorem Free.new {c : Fx} {m : Loc} {l : Led} {s : Shared} {C : Addr} {l' : Led} (S : c.S m l s) (hC : s.heap.get? C = none) (hl : C ∉ l'.map (·.1)) : Free c C l' := by
 refine ⟨?_, ?_, hl, fun hb => ?_⟩
 ·cases q : c.g.get? C with
  | none => rfl
  | some o => rw [S.F.keep _ _ q] at hC; cases hC
 ·rintro rfl
  (refine e3_2 S.F.ns ?_; intro oL es ep hL _)
  rw [hL] at hC; cases hC
 ·obtain ⟨_, o1, h1⟩ := S.U _ hb
  (refine e1_1 (S.W _ hb _ h1) ?_; intro sl h2)
  rw [hC] at h2; cases h2
noncomputable def ObCo (c : Fx) (elt target iter : Expr) (ifs : List Expr) (scope : Scope) (pos : Pos) (cl : List (Str × Addr)) (v : Value) (KD : Addr → List Value → Nat → Led → Prop) (m : Loc) (l : Led) : Prop :=
 ∀ (s : Shared) (E : Value → Shared → Prop) (use : Option (Value → Sem Unit)) (Q : Value → Shared → Prop), c.S m l s →
  (∀ D ys k l' C s', KD D ys k l' → c.S m ((D, lst ys k) :: l') s' → Free c C ((D, lst ys k) :: l') → (∃ mC, s'.heap.Ns C mC) → compPost (M c.w) c.A' E use Q (.ref D) C (.ok .next) s') →
  wpAny (M c.w) c.A' (pyIter v) (fun it s₂ => wpAny (M c.w) c.A' (newList []) (fun acc s₃ => wpAny (M c.w) c.A' (newFunctionEnv scope c.env.globals cl [] c.env.qual none .none (some c.env)) (fun cenv s₄ =>
   codeAny (M c.w) c.A' (.compStart (.ListComp elt [⟨target, iter, ifs, 0⟩] scope pos) 0 it acc { cenv with scope := relabel scope c.env }) (compPost (M c.w) c.A' E use Q acc cenv.locals) s₄) E s₃) E s₂) E s
section
variable {c : Fx} {m : Loc} {l : Led} {T : String} {N : Nat} {Pv : Nat → Value → Prop} {Ok : Nat → Obj → Prop} {RD : Heap → Led → Prop} {elt target iter : Expr} {ifs : List Expr} {scope : Scope} {pos spos px : Pos} {ks : List Str} {gt : List (Str × Value)} {fr : List Str} {v : Value} {KD : Addr → List Value → Nat → Led → Prop} {K : KV Value} {KF : KV Flow} {x : Str}
theorem comp_src (hV : c.V) (hz : c.hz = true) (W : Src c.w c.A' T N Pv Ok RD) (hc : compChk scope ks gt fr = true) (hn : 1 ≤ c.n) (hN : N ≤ 16777215)
  (mk : ∀ (Q : Value → Shared → Prop) E s, c.S m l s → (∀ I oI s', Ok 0 oI → c.S m ((I, oI) :: l) s' → Q (.ref I) s') → wpAny (M c.w) c.A' (pyIter v) Q E s)
  (J : Nat → Loc → Led → List Value → Prop) (h0 : J 0 (ks.map fun x => (x, none)) l []) (ra : ∀ g p l, RD g l → RD g (p :: l)) (rd : ∀ i m l ys g, c.g.StaysIn g → J i m l ys → RD g l)
  (turn : ∀ c0 : Fx, let c' := c0.wg gt; c'.V → c'.w = c.w → c'.hz = true → c'.n = c.n - 1 → c'.gt = gt → c'.cs = csOf c fr → c.g.StaysIn c'.g → c'.LpX → ∀ i v m l ys I oI D k, i < N → Pv i v → J i m l ys → ∀ (KA : KV Value) (KS : Loc → Led → Prop), (∀ y m l₁ l₂ R, Ex l₁ ((I, oI) :: (D, lst ys k) :: l₂) R → J (i + 1) m l₂ (ys ++ [y]) → KA y m l₁) → (∀ m l₁ l₂ R, Ex l₁ ((I, oI) :: (D, lst ys k) :: l₂) R → J (i + 1) m l₂ ys → KS m l₁) →
   vAsg c' target v (fun m l => vCT c' ifs elt KA KS m l) m ((I, oI) :: (D, lst ys k) :: l))
  (done : ∀ D m l ys k, J N m l ys → KD D ys k l) : ObCo c elt target iter ifs scope pos (clOf (fun x => (c.cs.lookup x).getD 0) scope.names []) v KD m l := by
 intro s E use Q S fin
 refine mk _ E s S fun I oI s1 hI S1 => wpAny_newList ?_ (by decide)
 have S2 := S1.push (s' := { s1 with heap := s1.heap.push (lst [] 0) }) (lst [] 0) rfl rfl rfl rfl
 generalize hs2 : ({ s1 with heap := s1.heap.push (lst [] 0) } : Shared) = s2 at S2
 generalize hD : s1.heap.objs.size = D at S2
 (refine e2_7 (hV.into hz S2 Ex.rfl) ?_; intro frs g' C' H hzz RR st gsz back)
 have hk := hc
 unfold compChk at hk
 simp only [Bool.and_eq_true] at hk
 (refine e0_5 hk ?_; clear hk; intro k1 k2 _ k4 _)
 simp only [Bool.and_eq_true, List.all_eq_true, beq_iff_eq, bne_iff_ne, Bool.or_eq_true, decide_eq_true_eq] at k1 k2 k4
 refine wpAny_newFunctionEnv (fun x hx => (k2 x hx).1.1) (fun x hx => (nomatch hx)) (fun h3 hns hsb => ?_) k1
 have old : ∀ b o, s2.heap.get? b = some o → h3.get? b = some o := fun b o e => hsb.extBut b o (Nat.ne_of_lt (Heap.lt_size e)) (Heap.get?_push_of_some _ e)
 have hV' := Fx.cmpV (C := s2.heap.objs.size) hV hc hn C'
 have hmp : (fun x => ([] : List (Str × Value)).reverse.lookup x) = mp (ks.map fun x => (x, none)) := by funext y; rw [mp_unb_none]; rfl
 rw [hmp] at hns
 have S3 : (c.cmp frs g' s2.heap.objs.size s2 scope (clOf (fun x => (c.cs.lookup x).getD 0) scope.names []) ks gt (csOf c fr)).S (ks.map fun x => (x, none)) ((I, oI) :: (D, lst [] 0) :: l) { s2 with heap := h3, toks := s2.toks + ([] : List (Str × Value)).length } := by
  refine St.perm ⟨⟨hns, fun b o e => old _ _ (H.keep b o e), Nat.le_of_eq gsz⟩, fun p hp => ⟨old _ _ (H.nw p hp).1, Nat.ne_of_lt (Heap.lt_size (H.nw p hp).1), (H.nw p hp).2⟩, H.nd, ⟨by show (ks.map fun x => (x, (none : Option Value))).map (·.1) = ks; rw [List.map_map]; exact List.map_id' _, k4⟩, S2.G, rfl, fun b _ o e => ⟨o.slots, old b o e⟩, hzz, fun hm => absurd (fro_lt C'.ff hm) (Nat.lt_irrefl _), fun b hb => by obtain ⟨hn, o, ho, _⟩ := C'.ff.mem hb; exact ⟨hn, o, ho⟩⟩ (List.Perm.swap _ _ _)
 have hCn : s2.heap.get? s2.heap.objs.size = none := size_none _
 have loop : codeAny (M c.w) c.A' (.compLoop (.ListComp elt [⟨target, iter, ifs, 0⟩] scope pos) 0 (.ref I) (.ref D) (compEnvC scope (clOf (fun x => (c.cs.lookup x).getD 0) scope.names []) s2.heap.objs.size c.env)) (compPost (M c.w) c.A' E use Q (.ref D) s2.heap.objs.size) { s2 with heap := h3, toks := s2.toks + ([] : List (Str × Value)).length } := by
  refine comp_loop (c' := c.cmp frs g' s2.heap.objs.size s2 scope (clOf (fun x => (c.cs.lookup x).getD 0) scope.names []) ks gt (csOf c fr)) hV' W (fun _ _ h => h) J (fun i m l ys j => rd i m l ys g' st j) (fun i v m l ys oI k => turn (c.cmp frs g' s2.heap.objs.size s2 scope (clOf (fun x => (c.cs.lookup x).getD 0) scope.names []) ks gt (csOf c fr)) hV' rfl rfl rfl rfl rfl st (fun _ _ _ (h : False) => h.elim) i v m l ys I oI D k) hN S3 h0 hI (fun p l h => ra _ p l h) ?_
  intro m' l' ys k s' j S'
  have S4 := back ((D, lst ys k) :: l') s' S'.hp S'.G S'.O S'.W S'.Z
  rw [List.append_nil] at S4
  refine fin D ys k l' s2.heap.objs.size s' (done D m' l' ys k j) S4 (Free.new S2 hCn fun hm => ?_) ⟨_, S'.F.ns⟩
  (refine e1_2 (List.mem_map.mp hm) ?_; intro p hp e)
  exact (S'.N p hp).2.1 e
 have hJ0 := rd 0 _ _ _ g' st h0
 have := codeAny_compStart_list (elt := elt) (target := target) (iter := iter) (ifs := ifs) (rest := []) (scope := scope) (pos := pos) (acc := .ref D) loop (W.self _ _ _ _ _ _ I oI _ _ _ (ra _ _ _ hJ0) hI S3 loop)
 exact this
theorem o_comp (hV : c.V) (hcl : closureFor scope c.env = pure (clOf (fun x => (c.cs.lookup x).getD 0) scope.names [])) (hc : compChk scope ks gt fr = true) (h : vE c iter (fun v m l => ObCo c elt target iter ifs scope pos (clOf (fun x => (c.cs.lookup x).getD 0) scope.names []) v (fun D ys k l' => K (.ref D) m ((D, lst ys k) :: l')) m l) m l) (hs : isSet iter = false := by rfl) :
  Ob c (eval (.ListComp elt [⟨target, iter, ifs, 0⟩] scope pos) c.env) K m l := by
 intro Q E s S k xx
 have hk := hc
 unfold compChk at hk
 simp only [Bool.and_eq_true] at hk
 (refine e0_3 hk ?_; clear hk; intro k1 k2 _)
 simp only [Bool.and_eq_true, List.all_eq_true, beq_iff_eq, bne_iff_ne, Bool.or_eq_true] at k1 k2
 rw [eval_ListComp]
 refine wpAny_comprehension_free (use := none) rfl (folded_not hs _) hcl k1 (fun x hx hl => ((k2 x hx).2).resolve_left fun q => q hl) (vE_ok hV iter _ _ _ h _ E s S (fun v m' l' s' h' S' => ?_) xx)
 refine h' s' E none Q S' fun D ys kk l2 C s2 hK S2 F hC => ?_
 (refine e1_1 hC ?_; clear hC; intro mC hC)
 exact i1_2 mC hC (fun h3 hs3 => k _ _ _ _ hK (S2.hid (tk := s2.toks) F hs3))
theorem o_acomp (hV : c.V) (hsw : swapsWith (.ListComp elt [⟨target, iter, ifs, 0⟩] scope pos) (some (.Name x px)) spos.line c.env = pure true) (hcl : closureFor scope c.env = pure (clOf (fun x => (c.cs.lookup x).getD 0) scope.names [])) (hc : compChk scope ks gt fr = true) (hx : hasK m x = true)
  (h : vE c iter (fun v m l => ObCo c elt target iter ifs scope pos (clOf (fun x => (c.cs.lookup x).getD 0) scope.names []) v (fun D ys k l' => chk (hasK m x) (KF .next (put m x (.ref D)) ((D, lst ys k) :: l'))) m l) m l) (hs : isSet iter = false := by rfl) :
  Ob c (exec (.Assign [.Name x px] (.ListComp elt [⟨target, iter, ifs, 0⟩] scope pos) spos) c.env) KF m l := by
 intro Q E s S k xx
 have hk := hc
 unfold compChk at hk
 simp only [Bool.and_eq_true] at hk
 (refine e0_3 hk ?_; clear hk; intro k1 k2 _)
 simp only [Bool.and_eq_true, List.all_eq_true, beq_iff_eq, bne_iff_ne, Bool.or_eq_true] at k1 k2
 rw [exec_Assign_Name_used _ _ _ _ hsw]
 refine wpAny_bind (wpAny_standAt (wpAny_bind ?_))
 show wpAny _ c.A' (do let _ ← comprehension (.ListComp elt [⟨target, iter, ifs, 0⟩] scope pos) scope c.env _ (newList []) false (eval iter c.env) (some (assign (.Name x px) c.env))) _ _ s
 refine wpAny_bind (wpAny_mono (wpAny_comprehension_free (use := some (assign (.Name x px) c.env)) (Q := fun _ s' => Q .next s') rfl (folded_not hs _) hcl k1 (fun x hx hl => ((k2 x hx).2).resolve_left fun q => q hl) (vE_ok hV iter _ _ _ h _ E s S (fun v m' l' s' h' S' => ?_) xx)) (fun _ s' hq => wpAny_pure (wpAny_pure hq)) fun _ _ e => e)
 refine h' s' E (some (assign (.Name x px) c.env)) _ S' fun D ys kk l2 C s2 hK S2 F hC => ?_
 (refine e1_1 hC ?_; clear hC; intro mC hC)
 have hK := chk_ok hK
 show wpAny _ c.A' (assign (.Name x px) c.env (.ref D)) _ _ _
 have U := put_ok (v := .ref D) hK.1
 have hxk : x ∈ c.ks := S2.K.1 ▸ U.has
 refine x_aname (wpAny_storeName_local (hV.lc x hxk).1 (hV.lo ▸ S2.F.ns) (fun h3 hn hs3 => ⟨mC, hC.sameBut (hV.lo ▸ hs3) F.L, fun h4 hs4 => ?_⟩) (by rw [hV.kd]; rfl))
 have S3 := S2.setL (s' := { s2 with heap := h3, toks := s2.toks + 1 }) U (hV.lo ▸ hn) (hV.lo ▸ hs3) rfl rfl
 exact k _ _ _ _ hK.2 (S3.hid (tk := s2.toks + 1) F hs4)
end
end
section
noncomputable abbrev iK (w : World) : PySem.KeyKind pw w Int := intKind pw w
noncomputable abbrev IsD (w : World) (o : Obj) (kvs : List (Int × Value)) : Prop := o.IsDictOf (iK w) kvs
noncomputable def IsS (w : World) (o : Obj) (S : Int → Bool) (n : Nat) : Prop :=
 ∃ es ep t, o.ExactSet ∧ o.data = .set es ep t ∧ PySem.ElemsOf (iK w) es.toList ∧ (∀ k, S k = true ↔ ∃ e ∈ es.toList, (iK w).is k e.2 = true) ∧ es.size < scanBound ∧ t.fits es.size = true ∧ es.size = n
theorem isS_iff {w : World} {h : Heap} {a : Addr} {S : Int → Bool} {n : Nat} : h.SetOf (iK w) a S n ↔ ∃ o, h.get? a = some o ∧ IsS w o S n :=
 ⟨fun ⟨o, es, ep, t, ho, r⟩ => ⟨o, ho, es, ep, t, r⟩, fun ⟨o, ho, es, ep, t, r⟩ => ⟨o, es, ep, t, ho, r⟩⟩
theorem ki (w : World) (k : Int) (t : Tok) : (iK w).is k (.int k t) = true := intKind_is pw w k t
theorem isD_nil (w : World) : IsD w emptyDict [] := ⟨#[], 0, ⟨rfl, rfl, rfl⟩, rfl, fun e he => by simp at he, by exact .nil, by simp⟩
theorem led_ne1 {c : Fx} (hV : c.V) {m : Loc} {l : Led} {s : Shared} (S : c.S m l s) {d : Addr} {o : Obj} (hm : (d, o) ∈ l) : (d == sysModules) = false := by
 have h1 : ∃ o', (KF c.w.params).lookup 1 = some o' := Option.isSome_iff_exists.mp (by kernel_rfl)
 (refine e1_1 h1 ?_; clear h1; intro o' h1)
 have h2 := hV.C.X _ _ h1
 have h3 := (S.N _ hm).2.2
 rw [beq_eq_false_iff_ne]
 rintro rfl
 have : c.g.get? 1 = none := h3
 rw [h2] at this; cases this
section
variable {c : Fx} {m : Loc} {l : Led} {K : KV Value} {KB : KV Bool} {KL : Loc → Led → Prop} {d a : Addr} {o : Obj} {kvs : List (Int × Value)} {k : Int} {t u : Tok} {v : Value} {e e' : Expr} {pos : Pos} {Sf : Int → Bool} {n : Nat}
theorem dict_at {s : Shared} (S : c.S m l s) (hm : (d, o) ∈ l) (hd : IsD c.w o kvs) : s.heap.DictOf (iK c.w) d kvs := Heap.dictOf_iff.mpr ⟨o, S.get hm, hd⟩
theorem o_dget (hm : (d, o) ∈ l) (hd : IsD c.w o kvs) (hv : valueAt kvs k = some v) (h : K v m l) (he : isSlc e' = false := by rfl) : Ob c (subscriptTail e e' (.ref d) (.int k u)) K m l :=
 fun Q E s S kk x => tail_any (dict_at S hm hd).typeIs slot_dict_getitem.lookup (wpAny_getItem_of (ki c.w k u) (dict_at S hm hd).mapOf hv (kk _ _ _ _ h (S.same rfl rfl rfl))) (ops := [.ref d, .int k u]) (by cases e' <;> first | rfl | cases he)
theorem o_dset (hV : c.V) (hm : (d, o) ∈ l) (hd : IsD c.w o kvs) (hz : kvs.length ≤ 16777216) (h : ∀ o', IsD c.w o' (stored kvs k v) → ∃ l', Up d o o' l l' ∧ KL m l') : Ob c (setItem (.ref d) (.int k t) v) (fun _ => KL) m l := by
 intro Q E s S kk x
 refine wpAny_setItem_pairs (ki c.w k t) (dict_at S hm hd) (fun h' hd' hs => ?_) (by rw [sizeLine_eq]; exact hz)
 (refine e1_2 (Heap.dictOf_iff.mp hd') ?_; intro o' ho' hd')
 (refine e1_2 (h o' hd') ?_; intro l' U hk)
 exact kk _ _ _ _ hk (S.chg U hs ho' rfl rfl)
theorem o_din (hV : c.V) (hm : (d, o) ∈ l) (hd : IsD c.w o kvs) (h : K (.bool (valueAt kvs k).isSome) m l) : Ob c (compareOp .In (.int k t) (.ref d)) K m l :=
 fun Q E s S kk x => wpAny_in_of (ki c.w k t) (led_ne1 hV S hm) (dict_at S hm hd).mapOf (kk _ _ _ _ h (S.same rfl rfl rfl))
theorem g_dict (hm : (d, o) ∈ l) (hd : IsD c.w o kvs) {name : Str} {id : String} (slot : Slot "dict" name id) (hty : typeOf (.builtin id) = pure (.type "method_descriptor")) : ∀ (pl : Sem Bool) (Q : Value × List Value → Shared → Prop) E s, c.S m l s → Q (.builtin id, [.ref d]) s → wpAny (M c.w) c.A' (getMethod (.ref d) name pl) Q E s :=
 fun pl Q E s S h => getMethod_builtin (dict_at S hm hd).typeIs PySem.F.plainAttrs_dict slot hty (fun b e => by cases e; obtain ⟨es, ep, hx, _⟩ := hd; exact ⟨_, S.get hm, hx.2.1⟩) h
theorem o_get1 (hV : c.V) (hm : (d, o) ∈ l) (hd : IsD c.w o kvs) (h : K ((valueAt kvs k).getD .none) m l) : Ob c (call (.builtin "dict.get") [.ref d, .int k t]) K m l :=
 fun Q E s S kk x => call_meetsIn PySem.F.slot_dict_get (dict_at S hm hd).typeIs PySem.F.entry_dict_get (PySem.F.args_dict_get_2 _ _) (meets_dict_get (iK c.w) d (ki c.w k t) (led_ne1 hV S hm)) ⟨_, (dict_at S hm hd).mapOf, kk _ _ _ _ h (S.same rfl rfl rfl)⟩
noncomputable abbrev vwO (d : Addr) : Obj := { cls := .type "dict_values", data := .fields #[.ref d] }
theorem o_values (hV : c.V) (hm : (d, o) ∈ l) (hd : IsD c.w o kvs) (h : ∀ v, K (.ref v) m ((v, vwO d) :: l)) : Ob c (call (.builtin "dict.values") [.ref d]) K m l :=
 fun Q E s S kk x => call_meetsIn PySem.F.slot_dict_values (dict_at S hm hd).typeIs PySem.F.entry_dict_values (PySem.F.args_dict_values_1 _) (meets_dict_values (iK c.w) d (led_ne1 hV S hm)) ⟨⟨_, dict_at S hm hd⟩, kk _ _ _ _ (h _) (S.push (vwO d) rfl rfl rfl rfl)⟩
theorem o_ddel (hm : (d, o) ∈ l) (hd : IsD c.w o kvs) (hv : (valueAt kvs k).isSome = true) (hz : kvs.length ≤ 16777216) (h : ∀ o', IsD c.w o' (without kvs k) → ∃ l', Up d o o' l l' ∧ KL m l') : Ob c (delItem (.ref d) (.int k t)) (fun _ => KL) m l := by
 intro Q E s S kk x
 have hD := dict_at S hm hd
 unfold delItem
 try with_reducible refine wpAny_holding ?_
 refine wpAny_bind (wpAny_sequenceKey hD.typeIs (by decide) ?_)
 refine wpAny_bind (wpAny_callSpecial?_slot (name := Str.ofString "__delitem__") hD.typeIs PySem.F.slot_dict_delitem
  (call_meetsIn PySem.F.slot_dict_delitem hD.typeIs PySem.F.entry_dict_delitem (PySem.F.args_dict_delitem_2 _ _) (meets_dict_delitem_pairs (iK c.w) d (ki c.w k t)) ⟨kvs, hD, (by rw [sizeLine_eq]; exact hz), hv, fun h' hmm hs => ?_⟩))
 (refine e1_2 (Heap.dictOf_iff.mp hmm) ?_; intro o' ho' hd')
 (refine e1_2 (h o' hd') ?_; intro l' U hk)
 exact wpAny_pure (kk _ _ _ _ hk (S.chg U hs ho' rfl rfl))
theorem set_at {s : Shared} (S : c.S m l s) (hm : (a, o) ∈ l) (hs : IsS c.w o Sf n) : s.heap.SetOf (iK c.w) a Sf n := isS_iff.mpr ⟨o, S.get hm, hs⟩
theorem o_set0 (h : ∀ a o, IsS c.w o (fun _ => false) 0 → K (.ref a) m ((a, o) :: l)) : Ob c (call (.type "set") []) K m l :=
 fun Q E s S kk x => call_set_0 fun led => kk _ _ _ _ (h _ _ ⟨#[], 0, .fresh 0 0 led, ⟨rfl, rfl, rfl⟩, rfl, by intro e he; simp at he, by simp, by decide, by rfl, rfl⟩) (S.push _ rfl rfl rfl rfl)
theorem o_sin (hm : (a, o) ∈ l) (hs : IsS c.w o Sf n) (h : K (.bool (Sf k)) m l) : Ob c (compareOp .In (.int k t) (.ref a)) K m l :=
 fun Q E s S kk x => wpAny_inSet_of (ki c.w k t) rfl (set_at S hm hs) (kk _ _ _ _ h (S.same rfl rfl rfl))
theorem g_set (hm : (a, o) ∈ l) (hs : IsS c.w o Sf n) : ∀ (pl : Sem Bool) (Q : Value × List Value → Shared → Prop) E s, c.S m l s → Q (.builtin "set.add", [.ref a]) s → wpAny (M c.w) c.A' (getMethod (.ref a) (Str.ofString "add") pl) Q E s :=
 fun pl Q E s S h => getMethod_set_add (set_at S hm hs) h
theorem o_sadd (hm : (a, o) ∈ l) (hs : IsS c.w o Sf n) (hn : n + 1 < scanBound) (h : ∀ o', IsS c.w o' (fun k' => Sf k' || decide (k' = k)) (if Sf k then n else n + 1) → ∃ l', Up a o o' l l' ∧ K .none m l') : Ob c (call (.builtin "set.add") [.ref a, .int k t]) K m l := by
 intro Q E s S kk x
 refine call_set_add (ki c.w k t) rfl (set_at S hm hs) hn fun h' hsb hs' => ?_
 (refine e1_2 (isS_iff.mp hs') ?_; intro o' ho' hd')
 (refine e1_2 (h o' hd') ?_; intro l' U hk)
 exact kk _ _ _ _ hk (S.chg U hsb ho' rfl rfl)
theorem o_is {a b : Value} (hp : plainIs a b = true) (h : K (.bool (a == b)) m l) : Ob c (compareOp .Is a b) K m l := fun Q E s S kk x => wpAny_is_plain hp (kk _ _ _ _ h S)
theorem o_isn {a b : Value} (hp : plainIs a b = true) (h : K (.bool (!(a == b))) m l) : Ob c (compareOp .IsNot a b) K m l := fun Q E s S kk x => wpAny_isNot_plain hp (kk _ _ _ _ h S)
end
end
section
noncomputable abbrev niO (dx : Addr) (sl : List (Option Value)) : Obj := { cls := .ref 143, dict := some dx, data := .plain, slots := sl.toArray }
theorem cls143 (P : Params) : ClsOk P 143 := ⟨by kernel_rfl, by kernel_rfl, by kernel_rfl, by kernel_rfl⟩
theorem cls240 (P : Params) : ClsOk P 240 := ⟨by kernel_rfl, by kernel_rfl, by kernel_rfl, by kernel_rfl⟩
theorem cls120 (P : Params) : ClsOk P 120 := ⟨by kernel_rfl, by kernel_rfl, by kernel_rfl, by kernel_rfl⟩
structure SlotOk (P : Params) (name : Str) (p i : Nat) : Prop where
 f : findObj (KF P) 143 (some emptyDict) name = some (.bind (.builtin "member_descriptor.__get__") (.ref p))
 s : slotIn (KF P) p 143 = some i
 t : takerIn (KF P) 143 name = some (some (.ref p))
 y : typeIn (KF P) (.ref p) = some (.type "member_descriptor")
 i : i < 3
theorem sl_node (P : Params) : SlotOk P (Str.ofString "node") 144 0 := ⟨by kernel_rfl, by kernel_rfl, by kernel_rfl, by kernel_rfl, by decide⟩
theorem sl_npre (P : Params) : SlotOk P (Str.ofString "npredecessors") 145 1 := ⟨by kernel_rfl, by kernel_rfl, by kernel_rfl, by kernel_rfl, by decide⟩
theorem sl_succ (P : Params) : SlotOk P (Str.ofString "successors") 146 2 := ⟨by kernel_rfl, by kernel_rfl, by kernel_rfl, by kernel_rfl, by decide⟩
section
variable {c : Fx} {m : Loc} {l l' : Led} {K : KV Value} {KL : Loc → Led → Prop} {x C dx f : Addr} {sl : List (Option Value)} {name : Str} {v : Value} {p i : Nat}
theorem ni_at {s : Shared} (S : c.S m l s) (hx : Rd c.g l x (niO dx sl)) (hd : Rd c.g l dx emptyDict) : InstAt s.heap x (niO dx sl) 143 (some emptyDict) := ⟨S.rd hx, rfl, rfl, S.rd hd⟩
theorem o_sget (hV : c.V) (O : SlotOk c.w.params name p i) (hx : Rd c.g l x (niO dx sl)) (hd : Rd c.g l dx emptyDict) (hv : (sl[i]?).join = some v) (hh : handedIn v = true) (h : K v m l) {b : Bool} : Ob c (getAttr (.ref x) name b) K m l := by
 intro Q E s S kk _
 have X := hV.C.X.keeps S.F.keep
 exact get_bind X (ni_at S hx hd) (cls143 _).ga O.f (cls143 _).gt (wpAny_call (slot_get (s := { s with toks := s.toks + 1 }) X (ni_at (S.same (s' := { s with toks := s.toks + 1 }) rfl rfl rfl) hx hd) O.s (by simpa using hv) (handed_on hh (kk _ _ _ _ h (S.same rfl rfl rfl)))))
theorem o_sset (hV : c.V) (O : SlotOk c.w.params name p i) (hx : (x, niO dx sl) ∈ l) (hd : Rd c.g l dx emptyDict) {sl' : List (Option Value)} (hs : (sl ++ List.replicate (i + 1 - sl.length) none).set i (some v) = sl')
  (h : ∃ l', Up x (niO dx sl) (niO dx sl') l l' ∧ KL m l') : Ob c (setAttr (.ref x) name v) (fun _ => KL) m l := by
 intro Q E s S kk _
 have X := hV.C.X.keeps S.F.keep
 refine set_plain X (ni_at S (.inl hx) hd) (cls143 _).sa ?_
 refine osa_descr KF.slot_mset X (ni_at (S.same (s' := { s with toks := s.toks + 1 }) rfl rfl rfl) (.inl hx) hd) (cls143 _).po O.t O.y ?_
 (refine e1_2 h ?_; clear h; intro l' U hk)
 (refine e2_4 ((U.upd S.D).split) ?_; intro pre post e1 e2 h1 h2)
 (refine e1_3 S.frs ?_; intro fs f1 f2 f3)
 subst e1
 have hf : ∀ q ∈ fs, q.1 ≠ x := fun q hq e => S.Z _ hx (e ▸ f3 q hq)
 have N : News c.g c.L s.heap (pre ++ (x, niO dx sl) :: (post ++ fs)) := by
  intro q hq
  rw [← List.cons_append, ← List.append_assoc] at hq
  rcases List.mem_append.mp hq with hq | hq
  ·exact S.N q hq
  ·exact f1 q hq
 refine slot_set (s := { s with toks := s.toks + 1 }) (ox' := niO dx sl') S.F N X (ni_at (S.same rfl rfl rfl) (.inl hx) hd) O.s (by have := O.i; lia) h1 (fun q hq => ?_) ?_ rfl fun h' F' N' => ?_
 ·rcases List.mem_append.mp hq with hq | hq
  ·exact h2 q hq
  ·exact hf q hq
 ·subst hs
  have e : ((sl.toArray ++ Array.replicate (i + 1 - sl.toArray.size) none).setIfInBounds i (some v) : Array (Option Value)) = ((sl ++ List.replicate (i + 1 - sl.length) none).set i (some v)).toArray := by
   apply Array.ext'
   simp
  show ({ niO dx sl with slots := _ } : Obj) = _
  rw [e]
 ·refine kk _ _ _ _ hk ?_
  have hkeys := U.keys
  subst e2
  refine S.back f1 f2 F' (fun q hq => N' q ?_) (by rw [hkeys]; exact S.D) (fun q hq => .inl ?_) S.K.1 rfl rfl
  ·rw [← List.cons_append, ← List.append_assoc]; exact hq
  ·rw [← hkeys]; exact List.mem_map_of_mem (f := (·.1)) hq
theorem o_make (hV : c.V) (hm : makesIn (KF c.w.params) C = true) (hi : findIn (KF c.w.params) (.ref C) "__init__" = some (some (.ref f))) (hf : typeIn (KF c.w.params) (.ref f) = some (.type "function")) {rest : List Value} {k : Nat} {pre : Heap → Prop} {Φ : Addr → Addr → Led → Prop}
  (sp : ∀ x dx, SpecX c.w k f (.ref x :: rest) pre [(x, instObj C dx), (dx, emptyDict)] (fun v l' => v = .none ∧ Φ x dx l') (fun _ _ _ => False)) (hk : k + 1 ≤ c.n) (hp : ∀ g', (∀ p ∈ l, g'.get? p.1 = some p.2) → c.g.StaysIn g' → pre g')
  (h : ∀ x dx l', Φ x dx l' → K (.ref x) m (l' ++ l)) (hz : c.hz = true := by assumption) : Ob c (call (.ref C) rest) K m l := by
 intro Q E s S kk xx
 have X := hV.C.X.keeps S.F.keep
 have S1 := S.push (s' := { s with heap := s.heap.push emptyDict }) emptyDict rfl rfl rfl rfl
 have S2 := S1.push (s' := { s with heap := (s.heap.push emptyDict).push (instObj C s.heap.objs.size) }) (instObj C s.heap.objs.size) rfl rfl rfl rfl
 rw [show (Shared.heap { s with heap := s.heap.push emptyDict }).objs.size = s.heap.objs.size + 1 from Heap.size_push ..] at S2
 (refine e2_7 (hV.into hz S2 (P := [(s.heap.objs.size + 1, instObj C s.heap.objs.size), (s.heap.objs.size, emptyDict)]) (R := l) (.take .here (.take .here .nil))) ?_; intro frs g' C' H hzz RR st gsz back)
 (refine hideG ?_; intro P0 hP0; obtain ⟨hh, gg, dd, tt, os⟩ := s; refine hP0 ?_; clear hP0 P0)
 refine wpAny_call (make_core (makes_of X hm) (looks_findIn X hi) (fun self => bind_fn X self hf) (.inl rfl) ?_)
 have Cu : Cx c.w (c.A'.under (.builtin "type.__call__" ⟨.ref C :: rest, []⟩)) ⟨os, frs, (hh.push emptyDict).push (instObj C hh.objs.size)⟩ frs g' k := by
  refine ⟨C'.stk, C'.fr, C'.ff, C'.X, C'.T, ?_, ?_, C'.hh⟩
  ·have := C'.dep; rw [depth_under_make]; lia
  ·have := C'.uni; rw [units_under_make]; lia
 refine codeAny_mono (sp _ _ _ _ _ _ Cu H hzz S2.G (hp g' RR st)) ?_
 rintro r s' (⟨v, l', rfl, H', hg', ho', hw', hz2, rfl, hφ⟩ | ⟨e, rfl, F⟩)
 ·exact ⟨rfl, kk _ _ _ _ (h _ _ l' hφ) (back l' s' H' hg' ho' hw' hz2)⟩
 ·(refine e6_13 F ?_; clear F; intro _ _ _ _ _ _ _ _ _ _ _ _ _ _ _ _ _ _ hf)
  exact hf.elim
theorem o_mk {pos : Pos} {args : List Expr} (hV : c.V) (hk : keepIn (KF c.w.params) (.ref C) = true) (h : vAs c args (fun vs m l => Ob c (call (.ref C) vs) K m l) m l) (hs : args.any isStar = false := by rfl) : Ob c (callWith pos (.ref C) [] (backTo pos (starEach args c.env)) []) K m l := by
 intro Q E s S kk xx
 cases args with
 | nil =>
  rw [vAs_nil] at h
  exact callWith_K0 (hV.C.X.keeps S.F.keep) hk (h Q E s S kk xx)
 | cons e rest =>
  have st := any_star (c := c) hs
  have h2 := vAs_ok hV _ hs _ _ _ pos h _ E s S (fun vs m' l' s' h' S' => (⟨hV.C.X.keeps S'.F.keep, h' Q E s' S' kk xx⟩ : (KF c.w.params).In s'.heap ∧ wpAny (M c.w) c.A' (call (.ref C) ([] ++ vs)) Q E s')) xx
  exact callWith_K hV.C.X hk h2 st.1 (any_back st.2)
end
theorem keep120 (P : Params) : keepIn (KF P) (.ref 120) = true := by kernel_rfl
theorem keep143 (P : Params) : keepIn (KF P) (.ref 143) = true := by kernel_rfl
theorem keep240 (P : Params) : keepIn (KF P) (.ref 240) = true := by kernel_rfl
theorem makes120 (P : Params) : makesIn (KF P) 120 = true := by kernel_rfl
theorem makes143 (P : Params) : makesIn (KF P) 143 = true := by kernel_rfl
theorem makes240 (P : Params) : makesIn (KF P) 240 = true := by kernel_rfl
end
section
theorem bindL_is {sc : Scope} {k : Str → Option NameKind} (hk : ∀ x, k x = sc.names.lookup x) : ∀ (binds : List (Str × Value)) (m : Str → Option Value) (y : Str),
  bindL k binds m y = ((binds.filter fun x => sc.names.lookup x.1 == some .local).reverse.lookup y).or (m y)
 | [], m, y => rfl
 | (n, v) :: r, m, y => by
  rw [bindL, bindL_is hk r, List.filter_cons, hk]
  by_cases e : sc.names.lookup n = some .local
  ·simp only [e, if_true, beq_self_eq_true, List.reverse_cons, List.lookup_append]
   by_cases q : y = n
   ·subst q; cases (List.lookup y (r.filter fun x => sc.names.lookup x.1 == some .local).reverse) <;> simp [List.lookup]
   ·have : (y == n) = false := by simpa using q
    cases (List.lookup y (r.filter fun x => sc.names.lookup x.1 == some .local).reverse) <;> simp [List.lookup, this, q]
  ·have e' : (sc.names.lookup n == some .local) = false := by simpa using e
   simp only [e, e', if_false, Bool.false_eq_true]
theorem bindC_is {sc : Scope} {k : Str → Option NameKind} (hk : ∀ x, k x = sc.names.lookup x) : ∀ (binds : List (Str × Value)) (m : Str → Option Value) (y : Str),
  bindC k binds m y = ((binds.filter fun x => !(sc.names.lookup x.1 == some .local)).reverse.lookup y).or (m y)
 | [], m, y => rfl
 | (n, v) :: r, m, y => by
  rw [bindC, bindC_is hk r, List.filter_cons, hk]
  by_cases e : sc.names.lookup n = some .local
  ·simp only [e, if_true, beq_self_eq_true, Bool.not_true, Bool.false_eq_true, if_false]
  ·have e' : (sc.names.lookup n == some .local) = false := by simpa using e
   simp only [e, e', if_false, Bool.not_false, if_true, List.reverse_cons, List.lookup_append]
   by_cases q : y = n
   ·subst q; cases (List.lookup y (r.filter fun x => !(sc.names.lookup x.1 == some .local)).reverse) <;> simp [List.lookup]
   ·have : (y == n) = false := by simpa using q
    cases (List.lookup y (r.filter fun x => !(sc.names.lookup x.1 == some .local)).reverse) <;> simp [List.lookup, this, q]
theorem cellsAre_addr {cm : Str → Option Value} {cs : List (Str × Addr)} {cells : Led} (x : CellsAre cm cs cells) : cells.map (·.1) = cs.map (·.2) := by
 induction x with
 | nil => rfl
 | cons _ _ ih => simp [ih]
theorem specC_vc {w : World} {n : Nat} {i : Fi} {vals : List Value} {pre : Heap → Prop} {Lin : Led} {Φ : Value → Led → Prop} {f : Addr} (binds lb cb : List (Str × Value)) (r : List Str) (csf : Addr → List (Str × Addr)) (I : FiOk i) (hf : i.f = f)
  (hbind : bindArgs (fdX i.fn i.q [] i.dV i.pm i.c .none) ⟨vals, []⟩ = pure binds)
  (hlb : (binds.filter fun x => i.fn.scope.names.lookup x.1 == some .local) = lb) (hcb : (binds.filter fun x => !(i.fn.scope.names.lookup x.1 == some .local)) = cb) (hks : lb.map (·.1) ++ r = i.ks)
  (hcs : ∀ L, cellsFrom (L + 1) i.fn.scope.names [] = csf L) (hck : ∀ L, ∀ p ∈ csf L, i.fn.scope.names.lookup p.1 = some .cell ∧ (p.1 == ("__debug__" : Str)) = false ∧ (p.1 == ("__classdict__" : Str)) = false) (hcn : ∀ L, ((csf L).map (·.1)).Nodup)
  (hbc : ∀ L, ∀ x ∈ cb, i.fn.scope.names.lookup x.1 = some .cell ∧ ((csf L).lookup x.1).isSome = true)
  (h : ∀ c0 : Fx, let c := c0.wg i.gt; c.w = w → c.hz = true → c.Fn → c.V → c.n = n → c.gt = i.gt → c.cs = csf c.L → (∀ p ∈ c.cs, c.env.kindOf p.1 = some .cell) → c.env = envX i.q i.fn.scope c.L i.f (.ref i.c) (csf c.L) → c.LpX → pre c.g → ∀ cells, CellsAre (fun y => cb.reverse.lookup y) (csf c.L) cells →
   Ob c (execs i.fn.body c.env) (fun fl m l => Drp l (Φ (match fl with | .ret v => v | _ => .none))) (unb lb r) (cells ++ Lin)) : SpecX w (n + 1) f vals pre Lin Φ (fun _ _ _ => False) := by
 subst hf
 intro A outer g s C H hz hg hp
 (refine e2_1 C.T ?_; intro mg mb T)
 have X : (KF w.params).In s.heap := C.X.keeps H.keep
 have ok := I.ok
 unfold fnOk at ok
 simp only [Bool.and_eq_true, List.all_eq_true, beq_iff_eq, bne_iff_ne, Bool.not_eq_true', decide_eq_true_eq] at ok
 (refine e0_6 ok ?_; clear ok; intro k1 k2 k3 k4 k5 _)
 have hnl : (lb.map (·.1)).Nodup := by rw [← hks] at k5; exact (List.nodup_append.mp k5).1
 refine codeAny_call_function (fd := fdX i.fn i.q [] i.dV i.pm i.c .none) (body := i.fn.body) (by have := C.dep; lia) (X _ _ (I.at_ _)) rfl k3 k2 rfl (codeRec_of X (I.cd _)) (binds_pure hbind _ _ _ _ ?_)
 refine wpAny_newFunctionEnv_cells k1 (fun x hx => ?_) fun env' he s' x => ?_
 ·show i.fn.scope.names.lookup x.1 = some .local ∨ _
  by_cases q : i.fn.scope.names.lookup x.1 = some .local
  ·exact .inl q
  ·refine .inr ?_
   have hm : x ∈ cb := by rw [← hcb]; exact List.mem_filter.mpr ⟨hx, by simpa using q⟩
   have := hbc s.heap.objs.size x hm
   exact ⟨this.1, by show ((cellsFrom (s.heap.objs.size + 1) i.fn.scope.names []).lookup x.1).isSome = true; rw [hcs]; exact this.2⟩
 ·have he' : env' = envX i.q i.fn.scope s.heap.objs.size i.f (.ref i.c) (csf s.heap.objs.size) := by rw [he, ← hcs]; rfl
  subst he'
  have hk₁ := x.toInCall.keep
  refine ⟨T.nolimit.keeps fun b o e => hk₁ b o (H.keep b o e), codeAny_func ?_⟩
  (refine e2_2 x.done ?_; intro h₁ tk hE1 _; subst hE1)
  (refine e1_2 (Cl.news (h₀ := s.heap) (cs := csf s.heap.objs.size) (Nat.le_refl _) fun n c hm => ⟨x.cell n c (lookup_of_mem_nodup (hcn _) hm), x.above n c hm⟩) ?_; intro cells NC Y)
  have hkind : ∀ y, (envX i.q i.fn.scope s.heap.objs.size i.f (.ref i.c) (csf s.heap.objs.size)).kindOf y = i.fn.scope.names.lookup y := fun _ => rfl
  have eL : bindL (envX i.q i.fn.scope s.heap.objs.size i.f (.ref i.c) (csf s.heap.objs.size)).kindOf binds (fun _ => none) = mp (unb lb r) := by
   funext y; rw [bindL_is hkind, hlb, mp_unb hnl]; simp
  have eC : bindC (envX i.q i.fn.scope s.heap.objs.size i.f (.ref i.c) (csf s.heap.objs.size)).kindOf binds (fun _ => none) = fun y => cb.reverse.lookup y := by
   funext y; rw [bindC_is hkind, hcb]; simp
  rw [eC] at Y
  have hns := x.toInCall.ns
  rw [eL] at hns
  have V : Vw w A ⟨s.os, outer, s.heap⟩ outer n g s.heap.objs.size (envX i.q i.fn.scope s.heap.objs.size i.f (.ref i.c) (csf s.heap.objs.size)) i.ks i.gt (csf s.heap.objs.size) (A.deeper (envX i.q i.fn.scope s.heap.objs.size i.f (.ref i.c) (csf s.heap.objs.size))) true :=
   Vw.of C I.ok rfl rfl rfl rfl rfl fun p hp => ⟨.inl (hck _ p hp).1, lookup_of_mem_nodup (hcn _) hp, (hck _ p hp).2⟩
  have hkeys : (unb lb r).map (·.1) = i.ks := by
   rw [← hks]
   simp [unb, Function.comp_def]
  have cn : ∀ p ∈ cells, s.heap.get? p.1 = none := fun p hp => (NC p hp).2.2
  have cnd : (cells.map (·.1)).Nodup := by
   rw [cellsAre_addr Y]
   have := x.apart
   rw [List.nodup_iff_pairwise_ne, List.pairwise_map]
   exact this
  have S : St g ⟨s.os, outer, s.heap⟩ s.heap.objs.size i.ks (unb lb r) (cells ++ Lin) { s with heap := h₁, toks := tk } := by
   refine ⟨⟨hns, fun b o e => hk₁ _ _ (H.keep b o e), H.sz⟩, fun p hp => ?_, ?_, ⟨hkeys, k5⟩, hg, rfl, fun b _ o e => ⟨o.slots, hk₁ b o e⟩, fun p hp hb => ?_, fun hm => absurd (fro_lt C.ff hm) (Nat.lt_irrefl _), fun b hb => by obtain ⟨hn, o, ho, _⟩ := C.ff.mem hb; exact ⟨hn, o, ho⟩⟩
   ·rcases List.mem_append.mp hp with hp | hp
    ·refine ⟨(NC p hp).1, (NC p hp).2.1, ?_⟩
     cases q : g.get? p.1 with
     | none => rfl
     | some o => have := H.keep _ _ q; rw [cn p hp] at this; cases this
    ·exact ⟨hk₁ _ _ (H.nw p hp).1, Nat.ne_of_lt (Heap.lt_size (H.nw p hp).1), (H.nw p hp).2⟩
   ·rw [List.map_append, List.nodup_append]
    refine ⟨cnd, H.nd, fun a ha b hb e => ?_⟩
    (refine e1_2 (List.mem_map.mp ha) ?_; rintro p hp rfl)
    (refine e1_2 (List.mem_map.mp hb) ?_; rintro q hq rfl)
    have := (H.nw q hq).1
    rw [← e, cn p hp] at this; cases this
   ·rcases List.mem_append.mp hp with hp | hp
    ·(refine hideG ?_; intro P0 hP0; obtain ⟨_, o, ho, _⟩ := C.ff.mem hb; refine hP0 ?_; clear hP0 P0)
     have := cn p hp
     rw [this] at ho; cases ho
    ·exact hz p hp hb
  refine h ⟨w, A, ⟨s.os, outer, s.heap⟩, outer, n, g, s.heap.objs.size, envX i.q i.fn.scope s.heap.objs.size i.f (.ref i.c) (csf s.heap.objs.size), i.ks, i.gt, fun _ _ => False, csf s.heap.objs.size, A.deeper (envX i.q i.fn.scope s.heap.objs.size i.f (.ref i.c) (csf s.heap.objs.size)), true⟩
   rfl rfl ⟨rfl, rfl, rfl⟩ V rfl rfl rfl (fun p hp => (hck _ p hp).1) rfl (fun _ _ _ h => h.elim) hp cells Y _ _ _ S (fun fl m l s' hk S' => .inl ?_) fun _ _ h => h.elim
  (refine hideG ?_; intro P0 hP0; obtain ⟨l', R, e, hφ⟩ := hk; refine hP0 ?_; clear hP0 P0)
  exact i2_7 _ l' rfl ((S'.ex e).hp) S'.G S'.O S'.W ((S'.ex e).Z) hφ
section
variable {c : Fx} {m : Loc} {l : Led} {K : KV Value} {KL : Loc → Led → Prop} {a : Addr} {o : Obj} {x : Str} {v : Value} {pos : Pos} {v₀ : Option Value}
theorem o_cel (hV : c.V) (hc : (x, a) ∈ c.cs) (hr : Rd c.g l a o) (hd : o.data = .cell (some v)) (h : K v m l) : Ob c (eval (.Name x pos) c.env) K m l :=
 fun Q E s S kk _ => n_cel hV hc (S.rd hr) hd (kk _ _ _ _ h S)
theorem o_scel (hV : c.V) (hc : (x, a) ∈ c.cs) (hk : c.env.kindOf x = some .cell) (hm : (a, o) ∈ l) (hd : o.data = .cell v₀) (h : ∀ o', o'.data = .cell (some v) → ∃ l', Up a o o' l l' ∧ KL m l') : Ob c (storeName c.env x v) (fun _ => KL) m l :=
 fun Q E s S kk _ => s_cel hV S hc hk hm hd fun o' s' hd' hs ho e1 e2 => by
  (refine e1_2 (h o' hd') ?_; intro l' U hk')
  exact kk _ _ _ _ hk' (S.chg U hs ho e1 e2)
end
theorem specN_vc {w : World} {n : Nat} {fn : FnRec} {q : Str} {cl : List (Str × Addr)} {doc pm ctv : Value} {c' f : Addr} {vals : List Value} {pre : Heap → Prop} {Lin : Led} {Φ : Value → Led → Prop} (binds : List (Str × Value)) (r ks : List Str) (gt : List (Str × Value)) (fr : List Str)
  (hc : compChk fn.scope ks gt fr = true) (hgc : (fn.scope.isGenerator || fn.scope.isCoroutine) = false) (hbind : bindArgs (fnX fn.name q fn.params fn.body fn.scope cl .none .none doc pm none (.ref c') ctv) ⟨vals, []⟩ = pure binds) (hks : binds.map (·.1) ++ r = ks)
  (hcl : ∀ x ∈ fr, (cl.lookup x).isSome = true) (hpre : ∀ g, pre g → g.get? f = some (fnMade fn.name q fn.params fn.body fn.scope cl doc pm c' ctv) ∧ g.CodeRec (.ref c') q)
  (h : ∀ c0 : Fx, let c := c0.wg gt; c.w = w → c.hz = true → c.Fn → c.V → c.n = n → c.gt = gt → c.cs = (fr.map fun x => (x, (cl.lookup x).getD 0)) → c.LpX → pre c.g → Ob c (execs fn.body c.env) (fun fl m l => Drp l (Φ (match fl with | .ret v => v | _ => .none))) (unb binds r) Lin) : SpecX w (n + 1) f vals pre Lin Φ (fun _ _ _ => False) := by
 intro A outer g s C H hz hg hp
 (refine e2_1 C.T ?_; intro mg mb T)
 (refine e0_2 (hpre g hp) ?_; intro hfo hcr)
 have hk := hc
 unfold compChk at hk
 simp only [Bool.and_eq_true] at hk
 (refine e0_6 hk ?_; clear hk; intro k1 k2 k3 k4 k5 k6)
 have G := gt_ok w.params k5
 simp only [Bool.and_eq_true, List.all_eq_true, beq_iff_eq, bne_iff_ne, Bool.or_eq_true, decide_eq_true_eq] at k1 k2 k3 k4 k6
 rw [Bool.or_eq_false_iff] at hgc
 have hn : (binds.map (·.1)).Nodup := by rw [← hks] at k4; exact (List.nodup_append.mp k4).1
 refine codeAny_call_def (fd := fnX fn.name q fn.params fn.body fn.scope cl .none .none doc pm none (.ref c') ctv) (body := fn.body) (binds := binds) (by have := C.dep; lia) (H.keep _ _ hfo) rfl (T.nolimit.keeps H.keep) (hcr.keeps H.keep) rfl (binds_pure hbind) (fun x hx => (k2 x hx).1.1) (fun y hy => (k3 y.1 (by rw [← hks]; exact List.mem_append_left _ (List.mem_map_of_mem hy))).1) (fun h₁ hns hk₁ => ?_) hgc.2 hgc.1 k1
 have hkeys : (unb binds r).map (·.1) = ks := by
  rw [← hks]
  simp [unb, Function.comp_def]
 have S : St g ⟨s.os, outer, s.heap⟩ s.heap.objs.size ks (unb binds r) Lin { s with heap := h₁, toks := s.toks + binds.length } :=
  ⟨⟨mp_unb hn ▸ hns, fun b o e => hk₁ _ _ (H.keep b o e), H.sz⟩, fun p hp => ⟨hk₁ _ _ (H.nw p hp).1, Nat.ne_of_lt (Heap.lt_size (H.nw p hp).1), (H.nw p hp).2⟩, H.nd, ⟨hkeys, k4⟩, hg, rfl,
   fun b _ o e => ⟨o.slots, hk₁ b o e⟩, hz, fun hm => absurd (fro_lt C.ff hm) (Nat.lt_irrefl _), fun b hb => by obtain ⟨hn, o, ho, _⟩ := C.ff.mem hb; exact ⟨hn, o, ho⟩⟩
 have V : Vw w A ⟨s.os, outer, s.heap⟩ outer n g s.heap.objs.size (envX q fn.scope s.heap.objs.size f (.ref c') cl) ks gt (fr.map fun x => (x, (cl.lookup x).getD 0)) (A.deeper (envX q fn.scope s.heap.objs.size f (.ref c') cl)) true := by
  refine ⟨C, fun _ => .inl ⟨rfl, rfl⟩, rfl, rfl, rfl, k1, fun x hx => ⟨(k3 x hx).1, by simpa using (k3 x hx).2⟩, fun p hp => G p hp, fun p hp => ?_⟩
  (refine e1_2 (List.mem_map.mp hp) ?_; rintro x hx rfl)
  (refine e0_3 (k6 x hx) ?_; intro h1 h2 h3)
  refine ⟨.inr h1, ?_, by simpa using h2, by simpa using h3⟩
  (refine e1_1 (Option.isSome_iff_exists.mp (hcl x hx)) ?_; intro a ha)
  show cl.lookup x = some ((cl.lookup x).getD 0)
  rw [ha]; rfl
 refine h ⟨w, A, ⟨s.os, outer, s.heap⟩, outer, n, g, s.heap.objs.size, envX q fn.scope s.heap.objs.size f (.ref c') cl, ks, gt, fun _ _ => False, fr.map fun x => (x, (cl.lookup x).getD 0), A.deeper (envX q fn.scope s.heap.objs.size f (.ref c') cl), true⟩
  rfl rfl ⟨rfl, rfl, rfl⟩ V rfl rfl rfl (fun _ _ _ h => h.elim) hp _ _ _ S (fun fl m l s' hk S' => .inl ?_) fun _ _ h => h.elim
 (refine hideG ?_; intro P0 hP0; obtain ⟨l', R, e, hφ⟩ := hk; refine hP0 ?_; clear hP0 P0)
 exact i2_7 _ l' rfl ((S'.ex e).hp) S'.G S'.O S'.W ((S'.ex e).Z) hφ
end
section
noncomputable def o250 (P : Params) : Obj := match (KF P).lookup 250 with
 | some o => o
 | none => lst [] 0
noncomputable def vs250 (P : Params) : Array Value := match (o250 P).data with
 | .fields vs => vs
 | _ => #[]
noncomputable def intOf : Value → Int × Tok
 | .int i t => (i, t)
 | _ => (0, 0)
noncomputable def strOf : Value → Str × Tok
 | .str x t => (x, t)
 | _ => ("", 0)
noncomputable def boolOf : Value → Bool
 | .bool b => b
 | _ => false
theorem z1 (P : Params) : (KF P).lookup 250 = some (o250 P) := by kernel_rfl
theorem z2 (P : Params) : (o250 P).cls = .type "code" ∧ (o250 P).data = .fields (vs250 P) := ⟨by kernel_rfl, by kernel_rfl⟩
theorem z4 (P : Params) : (vs250 P)[11]? = some (.ref 246) ∧ (vs250 P).getD 11 .none = .ref 246 := ⟨by kernel_rfl, by kernel_rfl⟩
theorem z5 (P : Params) : (vs250 P).getD 18 .none = .str (strOf ((vs250 P).getD 18 .none)).1 (strOf ((vs250 P).getD 18 .none)).2 := by kernel_rfl
theorem z6 (P : Params) : (vs250 P).getD 7 .none = .int (intOf ((vs250 P).getD 7 .none)).1 (intOf ((vs250 P).getD 7 .none)).2 := by kernel_rfl
theorem z7 (P : Params) : (vs250 P).getD 9 .none = .bool (boolOf ((vs250 P).getD 9 .none)) := by kernel_rfl
theorem z8 (P : Params) : (vs250 P).getD 10 .none = .int (intOf ((vs250 P).getD 10 .none)).1 (intOf ((vs250 P).getD 10 .none)).2 := by kernel_rfl
theorem hd250 {P : Params} {h : Heap} (X : (KF P).In h) : CodeHd h 250 246 :=
 ⟨_, _, _, _, _, _, _, _, _, X _ _ (z1 P), (z2 P).1, (z2 P).2, (z4 P).1, (z4 P).2, z5 P, z6 P, z7 P, z8 P, by decide⟩
theorem bu4 {P : Params} {h : Heap} {mg : Str → Option Value} (X : (KF P).In h) (G : h.Ns mainGlobals mg) : h.BuiltinsAt mg 246 := by
 have e : nsIn (KF P) mainGlobals "__builtins__" = some (some (.ref 4)) := by kernel_rfl
 have e4 : (KF P).lookup 4 = some { cls := Value.type "module", dict := some 0 } := by kernel_rfl
 exact i2_8 4 _ (mg_of X G e) (by decide) (by decide) (by decide) (X _ _ e4) rfl rfl rfl
section
variable {c : Fx} {m : Loc} {l l' : Led} {KF : KV Flow} {name : Str} {params : Arguments} {body : List Stmt} {scope : Scope} {pos : Pos} {clos : List (Str × Addr)} {ps : Array Value}
theorem o_defN (hV : c.V) (hcode : c.env.code = .ref 250) (hcl : closureFor scope c.env = pure clos) (hd0 : params.defaults = []) (hk0 : params.kw_defaults = []) (ha : annTrees params none c.env = []) (hm : (246, tabObj ps) ∈ l) (ht : TriplesOk ps.toList) (hnf : codeAmong pos ps.toList = none) (hx : hasK m name = true)
  (h : ∀ f c' oc vs t ctv doc pm, oc.data = .fields vs → vs[1]? = some (.str (qualnameIn c.env name name) t) → ∃ l', Up 246 (tabObj ps) (tabObj (ps ++ #[rawInt pos.line, rawInt pos.col, .ref c'])) l l' ∧
   KF .next (put m name (.ref f)) ((f, fnMade name (qualnameIn c.env name name) params body scope clos doc pm c' ctv) :: (c', oc) :: l')) : Ob c (exec (.FunctionDef name params body [] none [] scope none name pos) c.env) KF m l := by
 intro Q E s S kk xx
 have X := hV.C.X.keeps S.F.keep
 (refine e2_1 hV.C.T ?_; intro mg mb T)
 have hgs := T.g.keeps S.F.keep
 have hP := S.N _ hm
 have hgP : mainGlobals ≠ 246 := by decide
 refine nestDef_K hd0 hk0 ha (makeFunction_K (mg := mg) hcl hV.gl hgs hcode (hd250 X) hP.1 ht hnf hgP (bu4 X hgs) fun c' ctv doc h' tk hx' hge hlt hrec htb => ?_)
 (refine e4_4 hrec ?_; clear hrec; intro c₂ oc vs t e2 hoc hd hv)
 cases e2
 obtain ⟨l', U, hk⟩ := h h'.objs.size c' oc vs t ctv doc _ hd hv
 have hkeys := U.keys
 have hc'n : s.heap.get? c' = none := Heap.get?_none_of_le hge
 have S2 : c.S m ((h'.objs.size, fnMade name (qualnameIn c.env name name) params body scope clos doc ((mg "__name__").getD .none) c' ctv) :: (c', oc) :: l') { s with heap := h'.push (fnMade name (qualnameIn c.env name name) params body scope clos doc ((mg "__name__").getD .none) c' ctv), toks := tk } := by
  have hfn : s.heap.get? h'.objs.size = none := Heap.get?_none_of_le (Nat.le_of_lt (Nat.lt_of_le_of_lt hge hlt))
  have lne : ∀ b, b ∈ l.map (·.1) → s.heap.get? b ≠ none := fun b hb => by
   (refine e1_2 (List.mem_map.mp hb) ?_; rintro p hp rfl)
   rw [(S.N p hp).1]; simp
  refine St.any (l := l) S ?_ (fun p hp => ?_) (fun b o hb e => ?_) rfl rfl
  ·simp only [List.map_cons, List.nodup_cons, List.mem_cons, not_or]
   refine ⟨⟨Nat.ne_of_gt hlt, fun q => ?_⟩, fun q => ?_, by rw [hkeys]; exact S.D⟩
   ·rw [hkeys] at q; exact lne _ q hfn
   ·rw [hkeys] at q; exact lne _ q hc'n
  ·rcases List.mem_cons.mp hp with rfl | hp
   ·exact ⟨Heap.get?_push_size _ rfl, .inr hfn⟩
   ·rcases List.mem_cons.mp hp with rfl | hp
    ·exact ⟨Heap.get?_push_of_some _ hoc, .inr hc'n⟩
    ·refine ⟨Heap.get?_push_of_some _ ?_, .inl (by rw [← hkeys]; exact List.mem_map_of_mem (f := (·.1)) hp)⟩
     (refine e2_4 ((U.upd S.D).split) ?_; intro pre post e1 e3 h1 h2)
     rw [e3] at hp
     rcases List.mem_append.mp hp with q | q
     ·exact hx' _ _ (h1 p q) (S.N p (by rw [e1]; exact List.mem_append_left _ q)).1
     ·rcases List.mem_cons.mp q with rfl | q
      ·exact htb
      ·exact hx' _ _ (h2 p q) (S.N p (by rw [e1]; exact List.mem_append_right _ (.tail _ q))).1
  ·refine Heap.get?_push_of_some _ (hx' b o (fun q => hb (q ▸ List.mem_map_of_mem (f := (·.1)) hm)) e)
 exact s_loc hV S2 (put_ok hx) fun s3 S3 => kk _ _ _ _ hk S3
theorem o_defH (hV : c.V) (hcode : c.env.code = .ref 250) (hcl : closureFor scope c.env = pure clos) (hd0 : params.defaults = []) (hk0 : params.kw_defaults = []) (ha : annTrees params none c.env = []) (hm : (246, tabObj ps) ∈ l) (ht : TriplesOk ps.toList) {c' : Addr} (hf : codeAmong pos ps.toList = some (.ref c')) (hx : hasK m name = true)
  (h : ∀ f ctv doc pm, KF .next (put m name (.ref f)) ((f, fnMade name (qualnameIn c.env name name) params body scope clos doc pm c' ctv) :: l)) : Ob c (exec (.FunctionDef name params body [] none [] scope none name pos) c.env) KF m l := by
 intro Q E s S kk xx
 have X := hV.C.X.keeps S.F.keep
 (refine e2_1 hV.C.T ?_; intro mg mb T)
 have hgs := T.g.keeps S.F.keep
 have hP := S.N _ hm
 refine nestDef_K hd0 hk0 ha (makeFunction_hit (mg := mg) hcl hV.gl hgs hcode (hd250 X) hP.1 ht hf (bu4 X hgs) fun ctv doc h' tk hk hsz => ?_)
 have S1 := S.keeps (s' := { s with heap := h', toks := tk }) hk rfl rfl
 have S2 := S1.push (s' := { s with heap := h'.push (fnMade name (qualnameIn c.env name name) params body scope clos doc ((mg "__name__").getD .none) c' ctv), toks := tk }) (fnMade name (qualnameIn c.env name name) params body scope clos doc ((mg "__name__").getD .none) c' ctv) rfl rfl rfl rfl
 exact s_loc hV S2 (put_ok hx) fun s3 S3 => kk _ _ _ _ (h _ ctv doc _) S3
end
end
section
section
variable {c : Fx} {m : Loc} {l l' : Led} {K : KV Value} {KB : KV Bool} {KL : Loc → Led → Prop} {a b : Addr} {vs us ws : List Value} {k k' : Nat} {i j : Int} {t u : Tok} {v : Value} {x : Str}
theorem St.upl {s : Shared} (S : c.S m l s) (f : Array Value → Array Value) (U : Up a (lst vs k) (lst ws k') l l') (hf : f vs.toArray = ws.toArray) (hk : (if ws.length == vs.length then k else k + 1) = k') : c.S m l' { s with heap := s.heap.update a (Obj.mapSeq f) } := by
 refine S.chg U (Heap.SameBut.update ..) ?_ rfl rfl
 have q := PySem.IsL.update (show PySem.IsL s.heap a vs.toArray k from S.get U.mem) f
 rw [hf] at q
 simp only [List.size_toArray, hk] at q
 exact q
theorem o_lgi (hr : Rd c.g l a (lst vs k)) (h0 : 0 ≤ i) (h1 : i < 2 ^ 63) (hx : vs[i.toNat]? = some v) (h : K v m l) : Ob c (getItem (.ref a) (.int i u)) K m l :=
 fun Q E s S kk x => wpAny_getItem_list ⟨_, S.rd hr, rfl, k, rfl⟩ h0 h1 (by simpa using hx) (kk _ _ _ _ h S)
theorem o_lsi (hm : (a, lst vs k) ∈ l) (h0 : 0 ≤ i) (h1 : i < 2 ^ 63) (hn : i.toNat < vs.length) (h : ∃ l', Up a (lst vs k) (lst (vs.set i.toNat v) k) l l' ∧ KL m l') : Ob c (setItem (.ref a) (.int i u) v) (fun _ => KL) m l := by
 intro Q E s S kk x
 (refine e1_2 h ?_; clear h; intro l' U hk)
 refine ki_setAt (S.get hm) h0 h1 (by simp; lia) (kk _ _ _ _ hk (S.upl _ U ?_ ?_))
 ·simp
 ·simp
theorem o_iadd (h : ∀ t, K (.int (i + j) t) m l) : Ob c (inplaceOp .Add (.int i t) (.int j u)) K m l := fun Q E s S kk x => PyProof.Rows.iadd_int (kk _ _ _ _ (h _) (S.same rfl rfl rfl))
theorem o_isub (h : ∀ t, K (.int (i - j) t) m l) : Ob c (inplaceOp .Sub (.int i t) (.int j u)) K m l := fun Q E s S kk x => PySem.P.isub_int (kk _ _ _ _ (h _) (S.same rfl rfl rfl))
theorem o_pop (hz : vs.length ≤ 16777215) (h : ∃ l', Up a (lst (vs ++ [v]) k) (lst vs (k + 1)) l l' ∧ K v m l') : Ob c (call (.builtin "list.pop") [.ref a]) K m l := by
 intro Q E s S kk x
 (refine e1_2 h ?_; clear h; intro l' U hk)
 refine call_meets PySem.F.slot_list_pop ⟨_, S.get U.mem, rfl⟩ PySem.F.entry_list_pop (PySem.F.args_list_pop_1 _) (PySem.MeetsSeq.list_pop_last a (vs ++ [v]).toArray k v (by simp) (by simp [sizeLine_eq]; lia)) ⟨S.get U.mem, kk _ _ _ _ hk (S.upl _ U ?_ ?_)⟩
 ·simp [List.eraseIdx_append_of_length_le]
 ·simp
theorem o_popi {n : Nat} (hz : vs.length ≤ 16777215) (h0 : i = n) (hx : vs[n]? = some v) (h : ∃ l', Up a (lst vs k) (lst (vs.eraseIdx n) (k + 1)) l l' ∧ K v m l') : Ob c (call (.builtin "list.pop") [.ref a, .int i u]) K m l := by
 intro Q E s S kk x
 (refine e1_2 h ?_; clear h; intro l' U hk)
 have hlt : n < vs.length := by
  rcases Nat.lt_or_ge n vs.length with q | q
  ·exact q
  ·rw [List.getElem?_eq_none q] at hx; cases hx
 have hsi : seqIndex? i vs.toArray.size = some n := by
  unfold seqIndex?
  simp only [show ¬ i < 0 by lia, if_false]
  rw [if_pos]
  ·rw [h0]; rfl
  ·simp only [Bool.and_eq_true, decide_eq_true_eq, List.size_toArray]; lia
 refine call_meets PySem.F.slot_list_pop ⟨_, S.get U.mem, rfl⟩ PySem.F.entry_list_pop (PySem.F.args_list_pop_2 _ _) (PySem.MeetsSeq.list_pop_at a vs.toArray k i u n v (by unfold Builtin.List.listFitsIndex; simp; lia) hsi (by simpa using hx) (by simp [sizeLine_eq]; lia)) ⟨S.get U.mem, kk _ _ _ _ hk (S.upl _ U ?_ ?_)⟩
 ·simp [hlt, Array.eraseIdxIfInBounds]
 ·rw [if_neg]; simp [List.length_eraseIdx, hlt]; lia
theorem o_clear (hz : vs.length ≤ 16777215) (h : ∀ k', ∃ l', Up a (lst vs k) (lst [] k') l l' ∧ K .none m l') : Ob c (call (.builtin "list.clear") [.ref a]) K m l := by
 intro Q E s S kk x
 (refine e1_2 (h (if ([] : List Value).length == vs.length then k else k + 1)) ?_; intro l' U hk)
 exact call_meets PySem.F.slot_list_clear ⟨_, S.get U.mem, rfl⟩ PySem.F.entry_list_clear (PySem.F.args_list_clear_1 _) (AutoSeq1.list_clear_list_0 a vs.toArray k (by simp [sizeLine_eq]; lia)) ⟨S.get U.mem, kk _ _ _ _ hk (S.upl _ U (by simp) rfl)⟩
theorem o_extT (hr : Rd c.g l b (tup us)) (hz : vs.length + us.length ≤ 1000000) (h : ∀ k', ∃ l', Up a (lst vs k) (lst (vs ++ us) k') l l' ∧ K .none m l') : Ob c (call (.builtin "list.extend") [.ref a, .ref b]) K m l := by
 intro Q E s S kk x
 (refine e1_2 (h (if (vs ++ us).length == vs.length then k else k + 1)) ?_; intro l' U hk)
 refine call_meets PySem.F.slot_list_extend ⟨_, S.get U.mem, rfl⟩ PySem.F.entry_list_extend (PySem.F.args_list_extend_2 _ _) (AutoSeq1.list_extend_list_tuple_0 a vs.toArray k b us.toArray 0 ?_ (by simp [sizeLine_eq]; lia) (by simp [sizeLine_eq]; lia)) ⟨S.get U.mem, S.rd hr, kk _ _ _ _ hk (S.upl _ U (by simp) rfl)⟩
 simp only [Bool.and_eq_true, not_and, Bool.not_eq_true]
 intro _
 unfold Builtin.List.listTooLong
 rw [sizeLine_eq]
 simp
 lia
theorem o_tupl (hr : Rd c.g l a (lst vs k)) (hz : vs.length ≤ 1000000) (h : ∀ b, K (.ref b) m ((b, tup vs) :: l)) : Ob c (call (.type "tuple") [.ref a]) K m l := by
 intro Q E s S kk x
 refine call_tuple_list ⟨_, S.rd hr, rfl, k, rfl⟩ (fun h' hk => ?_) (by simp [sizeLine_eq]; lia)
 have S1 := S.keeps (s' := { s with heap := h' }) hk rfl rfl
 exact kk _ _ _ _ (h _) (S1.push (s' := { s with heap := h'.push { cls := .type "tuple", data := .seq vs.toArray } }) (tup vs) rfl rfl rfl rfl)
theorem o_lent (hr : Rd c.g l a (tup vs)) (hz : vs.length < 2 ^ 62) (h : ∀ t, K (.int vs.length t) m l) : Ob c (call (.builtin "len") [.ref a]) K m l := by
 intro Q E s S kk x
 refine PyProof.Rows.len_tuple (items := vs.toArray) ⟨_, S.rd hr, rfl, 0, rfl⟩ (by simp; lia) ?_
 simp only [List.size_toArray]
 exact kk _ _ _ _ (h _) (S.same rfl rfl rfl)
theorem o_isi {Tx T : String} {y : Value} (hty : ∀ s, c.S m l s → s.TypeIs y Tx) (h1 : typeOf (.type T) = pure (.type "type")) (h2 : isSubtype (.type Tx) (.type T) = pure true) (h : K (.bool true) m l) : Ob c (call (.builtin "isinstance") [y, .type T]) K m l :=
 fun Q E s S kk x => call_isinstance (isinstance_true h1 h2) ⟨hty s S, kk _ _ _ _ h S⟩
end
end
section
theorem hasD120 (P : Params) : hasD P 120 = true := by kernel_rfl
theorem tk120v (P : Params) : takerIn (KF P) 120 (Str.ofString "value") = some none := by kernel_rfl
theorem tk120r (P : Params) : takerIn (KF P) 120 (Str.ofString "read") = some none := by kernel_rfl
theorem fn120r (P : Params) : findIn (KF P) (.ref 120) (Str.ofString "read") = some none := by kernel_rfl
theorem EXINIT {w : World} {x dx : Addr} {v : Value} : SpecX w 1 117 [.ref x, v] (fun _ => True) [(x, instObj 120 dx), (dx, emptyDict)] (fun r l' => r = .none ∧ ∃ t n, l' = [(x, instObj 120 dx), (dx, iD w.params [("value", t, v)] n)]) (fun _ _ _ => False) := by
 refine specX_vc [("self", .ref x), ("value", v)] [] fi_Example___init_ok rfl (by kernel_rfl) (by kernel_rfl) (by kernel_rfl) ?_
 intro c0 c hw hz hm hV hn hgt hX hY hp
 dsimp only [fi_Example___init] at hgt
 subst hw
 (refine stl hV ?_; walk_at"go")
 show Ob c _ _ _ [(x, instObj 120 dx), (dx, iD c.w.params [] 0)]
 refine o_set hV (cls120 _) (hasD120 _) (tk120v _) (ks := []) (n := 0) (.inl (by repeat constructor)) (by repeat constructor) (by simp) fun t n' => ⟨_, by repeat constructor, ?_⟩
 exact ⟨_, _, .rfl, _, _, rfl⟩
noncomputable def lrFn : FnRec := stFn (fnAt 38).body[1]?
noncomputable def qlr : Str := Str.ofString "_law_stream.<locals>._law_read"
noncomputable abbrev lrO (cO cA cc : Addr) (doc pm ctv : Value) : Obj := fnMade lrFn.name qlr lrFn.params lrFn.body lrFn.scope [("octets", cO), ("at", cA)] doc pm cc ctv
theorem clip_nat (n p : Nat) : clipAt n (p : Int) = min p n := by
 unfold clipAt
 split <;> omega
theorem LREAD {w : World} {f cc cO cA atl : Addr} {oO oA : Obj} {doc pm ctv : Value} {b : Array UInt8} {tb t t' : Tok} {k : Nat} (bs : List Int) (hb : KBw.bInts b = bs) (hbz : bs.length ≤ 100000) (hO : oO.data = .cell (some (.bytes b tb))) (hA : oA.data = .cell (some (.ref atl))) (pos cnt : Nat) (hp : pos ≤ bs.length) :
  SpecX w 2 f [.int cnt t] (fun g => g.get? f = some (lrO cO cA cc doc pm ctv) ∧ g.CodeRec (.ref cc) qlr ∧ g.get? cO = some oO ∧ g.get? cA = some oA) [(atl, lst [.int pos t'] k)]
   (fun v l' => ∃ b' t1 t2 k', v = .bytes b' t1 ∧ KBw.bInts b' = (bs.drop pos).take cnt ∧ l' = [(atl, lst [.int (pos + ((bs.drop pos).take cnt).length : Nat) t2] k')]) (fun _ _ _ => False) := by
 refine specN_vc (fn := lrFn) [("count", .int cnt t)] ["piece"] ["count", "piece"] [("len", .builtin "len")] ["at", "octets"] (by kernel_rfl) (by kernel_rfl) (by kernel_rfl) (by kernel_rfl) (by intro x hx; simp at hx; rcases hx with rfl | rfl <;> rfl) (fun g h => ⟨h.1, h.2.1⟩) ?_
 intro c0 c hw hz hm hV hn hgt hcs hX hp
 subst hw
 have hcs' : c.cs = [(Str.ofString "at", cA), (Str.ofString "octets", cO)] := by rw [hcs]; rfl
 (refine e0_4 hp ?_; clear hp; intro h1 h2 h3 h4)
 (refine stq hV ?_; intro K qK; walk_at"go")
 refine o_cel hV (by rw [hcs']; repeat constructor) (Or.inr h3) hO ?_
 walk_at"go"
 refine o_cel hV (by rw [hcs']; repeat constructor) (Or.inr h4) hA ?_
 walk_at"go"
 refine o_lst (.inl (by repeat constructor)) (by decide) (by decide) rfl ?_
 walk_at"go"
 refine o_cel hV (by rw [hcs']; repeat constructor) (Or.inr h4) hA ?_
 walk_at"go"
 refine o_lst (.inl (by repeat constructor)) (by decide) (by decide) rfl ?_
 walk_at"go"
 refine o_bsl hb (.inl (by repeat constructor)) (.int _ _) (.int _ _) (by lia) fun b' t1 hb' => ?_
 walk_at"go"
 (refine qK.n _ _ ?_; (try clear qK K); refine stq hV ?_; intro K qK; walk_at"go")
 refine o_cel hV (by rw [hcs']; repeat constructor) (Or.inr h4) hA ?_
 walk_at"go"
 refine o_lgi (.inl (by repeat constructor)) (by decide) (by decide) rfl ?_
 walk_at"go"
 have hlen : (some (pos : Int)).elim 0 (clipAt bs.length) = pos := by show clipAt bs.length (pos : Int) = pos; rw [clip_nat]; omega
 have hlen2 : (some ((pos : Int) + (cnt : Int))).elim bs.length (clipAt bs.length) = min (pos + cnt) bs.length := by
  show clipAt bs.length ((pos : Int) + (cnt : Int)) = _
  rw [show (pos : Int) + (cnt : Int) = ((pos + cnt : Nat) : Int) by lia, clip_nat]
 have hb2 : KBw.bInts b' = (bs.drop pos).take cnt := by
  rw [hb', hlen, hlen2]
  rcases Nat.le_total (pos + cnt) bs.length with q | q
  ·rw [Nat.min_eq_left q]; congr 1; lia
  ·rw [Nat.min_eq_right q, List.take_of_length_le (by simp), List.take_of_length_le (by simp; lia)]
 refine o_blen hb2 (by simp; lia) ?_
 walk_at"go"
 refine o_iadd ?_
 walk_at"go"
 refine o_lsi (by repeat constructor) (by decide) (by decide) (by simp) ⟨_, by repeat constructor, ?_⟩
 (refine qK.n _ _ ?_; (try clear qK K); refine stq hV ?_; intro K qK; walk_at"go")
 exact qK.r _ _ _ ⟨[_], _, .take (.there .here) .nil, _, _, _, _, rfl, hb2, rfl⟩
end
section
noncomputable def lrPos : Pos := match (fnAt 38).body[1]? with | some (Stmt.FunctionDef _ _ _ _ _ _ _ _ _ p) => p | _ => ⟨0, 0, 0, 0⟩
structure Tp where
 (x dx f cO cA cc : Addr)
 (oO oA : Obj)
 (ks : Kvs)
 (n : Nat)
 (doc pm ctv : Value)
noncomputable def Tp.led (T : Tp) (P : Params) : Led := [(T.x, instObj 120 T.dx), (T.dx, iD P T.ks T.n), (T.f, lrO T.cO T.cA T.cc T.doc T.pm T.ctv), (T.cO, T.oO), (T.cA, T.oA)]
noncomputable def tabL (cc : Addr) (oc : Obj) : Led := [(246, tabObj #[rawInt lrPos.line, rawInt lrPos.col, .ref cc]), (cc, oc)]
noncomputable def CodeO (oc : Obj) : Prop := ∃ vs t, oc.data = .fields vs ∧ vs[1]? = some (.str qlr t)
structure Tp.ok (T : Tp) (b : Array UInt8) (atl : Addr) : Prop where
 rd : kget (Str.ofString "read") T.ks = some (.ref T.f)
 o : ∃ tb, T.oO.data = .cell (some (.bytes b tb))
 a : T.oA.data = .cell (some (.ref atl))
noncomputable def TabOk (lt : Led) : Prop := lt = [(246, tabObj #[])] ∨ ∃ cc oc, CodeO oc ∧ lt = tabL cc oc
theorem in120 (P : Params) : findIn (KF P) (.ref 120) "__init__" = some (some (.ref 117)) := by kernel_rfl
theorem ty117 (P : Params) : typeIn (KF P) (.ref 117) = some (.type "function") := by kernel_rfl
inductive StrP (w : World) (b : Array UInt8) (atl : Addr) : Value → Led → Prop
 | mk (T : Tp) (cc : Addr) (oc : Obj) (h1 : CodeO oc) (h2 : T.cc = cc) (h3 : T.ok b atl) : StrP w b atl (.ref T.x) (T.led w.params ++ tabL cc oc)
theorem LSTREAM {w : World} {b : Array UInt8} {tb : Tok} {atl : Addr} (lt : Led) (hlt : TabOk lt) :
  SpecX w 3 251 [.bytes b tb, .ref atl] (fun _ => True) lt (StrP w b atl) (fun _ _ _ => False) := by
 refine specC_vc [("octets", .bytes b tb), ("at", .ref atl)] [] [("octets", .bytes b tb), ("at", .ref atl)] ["tape", "_law_read"] (fun L => [(Str.ofString "at", L + 2), (Str.ofString "octets", L + 1)]) fi_law_stream_ok rfl (by kernel_rfl) (by kernel_rfl) (by kernel_rfl) (by kernel_rfl) (fun L => by kernel_rfl) (fun L => ?_) (fun L => by show [Str.ofString "at", Str.ofString "octets"].Nodup; decide) (fun L => ?_) ?_
 ·simp only [List.forall_mem_cons]
  exact ⟨⟨by kernel_rfl, by decide, by decide⟩, ⟨by kernel_rfl, by decide, by decide⟩, fun _ h => nomatch h⟩
 ·simp only [List.forall_mem_cons]
  exact ⟨⟨by kernel_rfl, by rfl⟩, ⟨by kernel_rfl, by rfl⟩, fun _ h => nomatch h⟩
 intro c0 c hw hz hm hV hn hgt hcs hck he hX hp cells hcells
 dsimp only [fi_law_stream] at hgt he
 subst hw
 (refine e2_3 hcells.two ?_; intro oA oO hE1 hA hO; subst hE1)
 have hA' : oA.data = .cell (some (.ref atl)) := hA
 have hO' : oO.data = .cell (some (.bytes b tb)) := hO
 have hq : qualnameIn c.env (Str.ofString "_law_read") (Str.ofString "_law_read") = qlr := by rw [he]; kernel_rfl
 have hcl : closureFor lrFn.scope c.env = pure [(Str.ofString "octets", c.L + 1), (Str.ofString "at", c.L + 2)] := by
  refine (clos_ok (f := fun x => ([(Str.ofString "at", c.L + 2), (Str.ofString "octets", c.L + 1)].lookup x).getD 0) fun x hx hf => ?_).trans (by kernel_rfl)
  rw [he]
  have : lrFn.scope.names.all (fun x => x.2 != .free || (x.1 == Str.ofString "at" || x.1 == Str.ofString "octets")) = true := by kernel_rfl
  have := List.all_eq_true.mp this x hx
  simp only [hf, bne_self_eq_false, Bool.false_or, Bool.or_eq_true, beq_iff_eq] at this
  rcases this with h | h <;> rw [h] <;> rfl
 have hx120 : ∀ x dx, SpecX c.w 1 117 (.ref x :: [.bytes b tb]) (fun _ => True) [(x, instObj 120 dx), (dx, emptyDict)] (fun r l' => r = .none ∧ ∃ t n, l' = [(x, instObj 120 dx), (dx, iD c.w.params [("value", t, .bytes b tb)] n)]) (fun _ _ _ => False) := fun x dx => EXINIT
 (refine stq hV ?_; intro K qK; walk_at"go")
 refine o_mk hV (keep120 _) ?_
 walk_at"go"
 refine o_cel hV (by rw [hcs]; repeat constructor) (Or.inl (.tail _ (.head _))) hO' ?_
 refine o_make hV (makes120 _) (in120 _) (ty117 _) hx120 (by lia) (fun _ _ _ => trivial) ?_
 (rintro x dx _ hJq; (refine e2_1 hJq ?_; clear hJq; rintro t n rfl))
 walk_at"go"
 (refine qK.n _ _ ?_; (try clear qK K))
 (refine stq hV ?_; intro K qK; walk_at"go")
 have hcode : c.env.code = .ref 250 := by rw [he]
 have fin : ∀ (f cc : Addr) (oc : Obj) (ctv doc pm : Value) m l R, CodeO oc → m = ([("tape", some (Value.ref x)), ("_law_read", some (.ref f))] : Loc) →
   Ex l ((f, lrO (c.L + 1) (c.L + 2) cc doc pm ctv) :: (x, instObj 120 dx) :: (dx, iD c.w.params [("value", t, .bytes b tb)] n) :: (c.L + 2, oA) :: (c.L + 1, oO) :: tabL cc oc) R → K .next m l := by
  rintro f cc oc ctv doc pm m l R hoc rfl hex
  (refine qK.n _ _ ?_; (try clear qK K))
  refine ob_ex (hex) ?_
  (refine stq hV ?_; intro K qK; walk_at"go")
  refine o_set hV (cls120 _) (hasD120 _) (tk120r _) (.inl (by repeat constructor)) (by repeat constructor) (by simp) fun t2 n' => ⟨_, by repeat constructor, ?_⟩
  (refine qK.n _ _ ?_; (try clear qK K); refine stq hV ?_; intro K qK; walk_at"go")
  refine qK.r _ _ _ ⟨_, [], ?_, ⟨x, dx, f, c.L + 1, c.L + 2, cc, oO, oA, kput (Str.ofString "read") t2 (.ref f) [("value", t, .bytes b tb)], n', doc, pm, ctv⟩, cc, oc, hoc, rfl, ⟨?_, ⟨_, hO'⟩, hA'⟩⟩
  ·show Ex _ [(x, instObj 120 dx), (dx, iD c.w.params (kput (Str.ofString "read") t2 (.ref f) [("value", t, .bytes b tb)]) n'), (f, lrO (c.L + 1) (c.L + 2) cc doc pm ctv), (c.L + 1, oO), (c.L + 2, oA), (246, tabObj #[rawInt lrPos.line, rawInt lrPos.col, .ref cc]), (cc, oc)] _
   unfold tabL
   (repeat with_reducible first | exact Ex.nil | exact Ex.rfl | (apply Ex.take; focus (with_unfolding_all repeat constructor); done) | apply Ex.drop)
  ·rfl
 rcases hlt with rfl | ⟨cc, oc, hoc, rfl⟩
 ·refine o_defN (ps := #[]) (pos := lrPos) hV hcode hcl rfl rfl (by rfl) (by repeat constructor) (by exact trivial) (by rfl) (by rfl) ?_
  rintro f cc oc vs tq ctv doc pm h1 h2
  rw [hq] at h2
  refine ⟨_, by repeat constructor, ?_⟩
  walk_at"go"
  rw [hq]
  refine fin f cc oc ctv doc pm _ _ [] ⟨_, _, h1, h2⟩ rfl ?_
  show Ex ((f, lrO (c.L + 1) (c.L + 2) cc doc pm ctv) :: (cc, oc) :: (x, instObj 120 dx) :: (dx, iD c.w.params [("value", t, .bytes b tb)] n) :: (c.L + 2, oA) :: (c.L + 1, oO) :: [(246, tabObj #[rawInt lrPos.line, rawInt lrPos.col, .ref cc])]) _ _
  unfold tabL
  (repeat with_reducible first | exact Ex.nil | exact Ex.rfl | (apply Ex.take; focus (with_unfolding_all repeat constructor); done) | apply Ex.drop)
 ·have hfd : codeAmong lrPos (#[rawInt lrPos.line, rawInt lrPos.col, .ref cc] : Array Value).toList = some (.ref cc) := by
   show (if ((lrPos.line : Int) == lrPos.line && (lrPos.col : Int) == lrPos.col) = true then some (Value.ref cc) else _) = _
   simp
  refine o_defH (ps := #[rawInt lrPos.line, rawInt lrPos.col, .ref cc]) (pos := lrPos) hV hcode hcl rfl rfl (by rfl) (by unfold tabL; repeat constructor) (by exact trivial) hfd (by rfl) ?_
  intro f ctv doc pm
  walk_at"go"
  rw [hq]
  refine fin f cc oc ctv doc pm _ _ [] hoc rfl ?_
  exact Ex.rfl
end
section
open Builtin
theorem dec_go {σ : Type} {b : Array UInt8} (f : Nat → Nat × Array Nat × σ → Sem (ForInStep (Nat × Array Nat × σ))) (hz : b.size ≤ sizeLine)
  (hf : ∀ x p out st, p < b.size → out.size ≤ sizeLine → f x (p, out, st) = pure (.yield (p + 1, out ++ [(b.getD p 0).toNat].toArray, st))) : ∀ (n i : Nat) (out : Array Nat) (st : σ), i + n = b.size → out = ((b.toList.take i).map (·.toNat)).toArray →
   forIn (List.range' i n) (i, out, st) f = (pure (b.size, (b.toList.map (·.toNat)).toArray, st) : Sem _)
 | 0, i, out, st, hi, ho => by
  have : i = b.size := by lia
  subst this
  rw [ho, List.take_of_length_le (by simp)]
  rfl
 | n + 1, i, out, st, hi, ho => by
  have hlt : i < b.size := by lia
  rw [List.range'_succ, List.forIn_cons, hf i i out st hlt (by rw [ho]; simp; lia), pure_bind]
  refine dec_go f hz hf n (i + 1) _ st (by lia) ?_
  rw [ho, List.take_add_one]
  simp [hlt, Array.getD]
theorem dec_run {b : Array UInt8} (hz : b.size ≤ sizeLine) (id : String) : _codecs.runDecoder id _codecs.latin1Decoder none true b 0 [] = pure ((b.toList.map (·.toNat)).toArray, b.size) := by
 unfold _codecs.runDecoder
 simp only [Std.Legacy.Range.forIn_eq_forIn_range', Std.Legacy.Range.size]
 rw [show (b.size - 0 + 1 - 1) / 1 = b.size by simp]
 refine Eq.trans (congrArg (fun z => z >>= _) (dec_go (σ := _codecs.Faults) (b := b) _ hz ?_ b.size 0 #[] { } (by simp) (by simp))) ?_
 case refine_2 => exact pure_bind _ _
 intro x p out st hp ho
 show (if out.size > sizeLine then _ else _) = _
 rw [if_neg (by lia), if_neg (by show ¬ p ≥ b.size; lia)]
 rfl
theorem road_l1 {b : Array UInt8} {id : String} : _codecs.decodeRoad id b (PySem.Str.ofString "latin-1") none [] = (_codecs.runDecoder id _codecs.latin1Decoder none true b 0 [] >>= fun r => mkStr ⟨r.1⟩) := by kernel_rfl
theorem entry_l1 {c : UInt8} {cs : List UInt8} {t t1 : Tok} : «bytes.decode» ⟨[.bytes (c :: cs).toArray t, .str (Str.ofString "latin-1") t1], []⟩ = (mkStr (PySem.Str.ofString "utf-8") >>= fun _ => mkStr (PySem.Str.ofString "latin-1") >>= fun e => mkStr (PySem.Str.ofString "bytes.decode") >>= fun d =>
  call (.builtin "_codecs.decode.text") [.bytes (c :: cs).toArray t, e, .none, d] >>= fun v => ret v) := by kernel_rfl
theorem entry_l0 {t t1 : Tok} : «bytes.decode» ⟨[.bytes #[] t, .str (Str.ofString "latin-1") t1], []⟩ = (rule "bytes.decode.empty" >>= fun _ => mkStr (PySem.Str.ofString "") >>= fun v => ret v) := by kernel_rfl
noncomputable def l1 (b : Array UInt8) : Str := ⟨(b.toList.map (·.toNat)).toArray⟩
theorem text_l1 {b : Array UInt8} {t t1 t2 : Tok} {d : PySem.Str} (hz : b.size ≤ sizeLine) :
  PySem.Meets («_codecs.decode.text» ⟨[.bytes b t, .str (PySem.Str.ofString "latin-1") t1, .none, .str d t2], []⟩) (fun _ R s => R (.ok (.ret (.str (l1 b) s.toks))) { s with toks := s.toks + 1 }) := by
 refine .of_wp fun prog w A R s h => ?_
 show wpAny _ _ (Bytes.bytesLike _ (.bytes b t) >>= fun r => _) _ _ s
 refine wpAny_bind (wpAny_of_eq KBd.like_eq ?_)
 refine wpAny_bind (wpAny_of_eq KBd.held_eq ?_)
 show wpAny _ _ (_codecs.decodeRoad _ b (PySem.Str.ofString "latin-1") none [] >>= fun v => _) _ _ s
 rw [road_l1, dec_run hz]
 refine wpAny_bind (wpAny_bind (wpAny_pure ?_))
 exact wpAny_mkStr (wpAny_pure ⟨_, rfl, h⟩) (by simpa [l1, PySem.Str.length] using hz)
theorem dec_l1 {b : Array UInt8} {t t1 : Tok} (hz : b.size ≤ sizeLine) :
  PySem.Meets («bytes.decode» ⟨[.bytes b t, .str (Str.ofString "latin-1") t1], []⟩) (fun _ R s => ∀ t' k, R (.ok (.ret (.str (l1 b) t'))) { s with toks := k }) := by
 refine .of_wp fun prog w A R s h => ?_
 obtain ⟨l⟩ := b
 cases l with
 | nil =>
  rw [entry_l0]
  exact wpAny_bind (wpAny_rule (wpAny_bind (wpAny_mkStr (wpAny_pure ⟨_, rfl, h _ _⟩) (by decide))))
 | cons c cs =>
  rw [entry_l1]
  refine wpAny_bind (wpAny_mkStr ?_ (by decide))
  refine wpAny_bind (wpAny_mkStr ?_ (by decide))
  refine wpAny_bind (wpAny_mkStr ?_ (by decide))
  exact wpAny_bind (call_function_meets KBd.kind_text KBd.plain_text KBd.entry_text (KBd.args_text _ _ _ _) (text_l1 hz) (wpAny_pure ⟨_, rfl, h _ _⟩))
theorem args_dec2 (a b : Value) : argsOk "bytes.decode" ⟨[a, b], []⟩ := by unfold argsOk; kernel_rfl
section
variable {c : Fx} {m : Loc} {l : Led} {K : KV Value} {b : Array UInt8} {t t1 : Tok}
theorem o_dec (hz : b.size ≤ 16777216) (h : ∀ t, K (.str (l1 b) t) m l) : Ob c (call (.builtin "bytes.decode") [.bytes b t, .str (Str.ofString "latin-1") t1]) K m l :=
 fun Q E s S kk x => call_meets FB.slot_bytes_decode (typeIs_bytes _ _ _) FB.entry_bytes_decode (args_dec2 _ _) (dec_l1 (by rw [sizeLine_eq]; exact hz)) fun t' k => kk _ _ _ _ (h t') (S.same rfl rfl rfl)
end
end
section
section
variable {c : Fx} {m : Loc} {l : Led} {K : KV Flow} {t : Expr} {msg : Option Expr} {pos : Pos}
theorem o_assert (hV : c.V) (h : vT c t (vE c t) (fun b m l => b = true ∧ K .next m l) m l) (hz : c.hz = true := by assumption) : Ob c (exec (.Assert t none pos) c.env) K m l :=
 fun Q E s S k x => wpAny_Assert_new (Vw.hh' hV hz) (vT_ok hV t _ (vE_ok hV t) _ _ _ h _ E s S (fun b m' l' s' h' S' => by obtain ⟨rfl, h'⟩ := h'; exact k _ _ _ _ h' S') x)
end
noncomputable def TpAt (T : Tp) (P : Params) (oc : Obj) (g : Heap) : Prop := (∀ p ∈ T.led P, g.get? p.1 = some p.2) ∧ g.get? T.cc = some oc
noncomputable def noMore : Str := Str.ofString "not enough data in stream to read uint1"
theorem o_tread {c : Fx} {m : Loc} {l : Led} {K : KV Value} {e : Expr} {p : Pos} (hV : c.V) {T : Tp} {oc : Obj} {b : Array UInt8} {atl : Addr} (hT : T.ok b atl) (hat : TpAt T c.w.params oc c.g)
  (h : vE c e (fun v m l => Rd c.g l T.f (lrO T.cO T.cA T.cc T.doc T.pm T.ctv) ∧ Ob c (call (.ref T.f) [v]) K m l) m l) (hs : isStar e = false := by rfl) : vMeth c p (.ref T.x) (Str.ofString "read") [e] K m l := by
 (refine e0_2 hat ?_; clear hat; intro hld hcc)
 have h1 : c.g.get? T.x = some (instObj 120 T.dx) := hld (T.x, instObj 120 T.dx) (by unfold Tp.led; repeat constructor)
 have h2 : c.g.get? T.dx = some (iD c.w.params T.ks T.n) := hld (T.dx, iD c.w.params T.ks T.n) (by unfold Tp.led; repeat constructor)
 have h3 : c.g.get? T.f = some (lrO T.cO T.cA T.cc T.doc T.pm T.ctv) := hld (T.f, lrO T.cO T.cA T.cc T.doc T.pm T.ctv) (by unfold Tp.led; repeat constructor)
 have h4 : c.g.get? T.cO = some T.oO := hld (T.cO, T.oO) (by unfold Tp.led; repeat constructor)
 have h5 : c.g.get? T.cA = some T.oA := hld (T.cA, T.oA) (by unfold Tp.led; repeat constructor)
 exact o_im hV (cls120 _) (hasD120 _) (fn120r _) (Or.inr h1) (Or.inr h2) hT.rd (fo := lrO T.cO T.cA T.cc T.doc T.pm T.ctv) rfl h (by simp [hs])
theorem o_tr {c : Fx} {m : Loc} {l R : Led} {K : KV Value} {t t' : Tok} {k : Nat} (hV : c.V) {T : Tp} {oc : Obj} {b : Array UInt8} {atl : Addr} (hT : T.ok b atl) (hoc : CodeO oc) (bs : List Int) (hb : KBw.bInts b = bs) (hbz : bs.length ≤ 100000) (hat : TpAt T c.w.params oc c.g) (hn : 2 ≤ c.n) (pos cnt : Nat) (hp : pos ≤ bs.length)
  (hex : Ex l [(atl, lst [.int pos t'] k)] R) (hK : ∀ b' t1 t2 k', KBw.bInts b' = (bs.drop pos).take cnt → K (.bytes b' t1) m ((atl, lst [.int (pos + ((bs.drop pos).take cnt).length : Nat) t2] k') :: R)) (hz : c.hz = true := by assumption) : Rd c.g l T.f (lrO T.cO T.cA T.cc T.doc T.pm T.ctv) ∧ Ob c (call (.ref T.f) [.int cnt t]) K m l := by
 (refine e0_2 hat ?_; clear hat; intro hld hcc)
 have h1 : c.g.get? T.x = some (instObj 120 T.dx) := hld (T.x, instObj 120 T.dx) (by unfold Tp.led; repeat constructor)
 have h2 : c.g.get? T.dx = some (iD c.w.params T.ks T.n) := hld (T.dx, iD c.w.params T.ks T.n) (by unfold Tp.led; repeat constructor)
 have h3 : c.g.get? T.f = some (lrO T.cO T.cA T.cc T.doc T.pm T.ctv) := hld (T.f, lrO T.cO T.cA T.cc T.doc T.pm T.ctv) (by unfold Tp.led; repeat constructor)
 have h4 : c.g.get? T.cO = some T.oO := hld (T.cO, T.oO) (by unfold Tp.led; repeat constructor)
 have h5 : c.g.get? T.cA = some T.oA := hld (T.cA, T.oA) (by unfold Tp.led; repeat constructor)
 (refine e1_1 hT.o ?_; intro tb hO)
 (refine e2_2 hoc ?_; clear hoc; intro vs tq hc1 hc2)
 refine ⟨Or.inr h3, ?_⟩
 refine o_specL hV (LREAD bs hb hbz hO hT.a pos cnt hp) hn hex (fun g' hR hG => ⟨hG _ _ h3, ⟨_, _, vs, tq, rfl, hG _ _ hcc, hc1, hc2⟩, hG _ _ h4, hG _ _ h5⟩) ?_
 (rintro v l' hJq; refine hideG ?_; intro P0 hP0; obtain ⟨b', t1, t2, k', rfl, hb', rfl⟩ := hJq; refine hP0 ?_; clear hP0 P0)
 exact hK b' t1 t2 k' hb'
theorem RU1 {w : World} {T : Tp} {oc : Obj} {b : Array UInt8} {atl : Addr} {t : Tok} {k : Nat} (hT : T.ok b atl) (hoc : CodeO oc) (bs : List Int) (hb : KBw.bInts b = bs) (hbz : bs.length ≤ 100000) (pos : Nat) (hp0 : pos ≤ bs.length) :
  SpecX w 3 89 [.ref T.x] (TpAt T w.params oc) [(atl, lst [.int pos t] k)] (fun v l' => ∃ y t1 t2 k2, bs[pos]? = some y ∧ v = .int y t1 ∧ l' = [(atl, lst [.int (pos + 1 : Nat) t2] k2)])
   (fun cls vs l' => pos = bs.length ∧ cls = .type "ValueError" ∧ ∃ t0 t2 k2, vs = [.str noMore t0] ∧ l' = [(atl, lst [.int pos t2] k2)]) := by
 refine specX_vc [("f", .ref T.x)] ["data"] fi_read_uint1_ok rfl (by kernel_rfl) (by kernel_rfl) (by kernel_rfl) ?_
 intro c0 c hw hz hm hV hn hgt hX hY hp
 dsimp only [fi_read_uint1] at hgt
 subst hw
 (refine stq hV ?_; intro K qK; walk_at"go")
 refine o_tread hV hT hp ?_
 walk_at"go"
 refine o_tr hV hT hoc bs hb hbz hp (by lia) pos 1 hp0 .rfl fun b' t1 t2 k' hb' => ?_
 walk_at"go"
 (refine qK.n _ _ ?_; (try clear qK K))
 (refine stIf hV ?_; intro K qK KT qI; walk_at"go")
 rcases Nat.lt_or_ge pos bs.length with q | q
 ·have e1 : (bs.drop pos).take 1 = [bs[pos]] := by rw [List.drop_eq_getElem_cons q]; rfl
  rw [e1] at hb' ⊢
  refine o_btr hb' (by simp) ?_
  refine qI.t _ _ ?_
  (refine stq hV ?_; intro K1 qK1; walk_at"go")
  refine o_bitem hb' (by simp) (by decide) (by rfl) fun t3 => ?_
  refine qK1.r _ _ _ (qK.r _ _ _ ⟨_, _, .rfl, bs[pos], _, _, _, List.getElem?_eq_getElem q, rfl, rfl⟩)
 ·have e1 : (bs.drop pos).take 1 = [] := by rw [List.drop_eq_nil_of_le q]; rfl
  rw [e1] at hb' ⊢
  refine o_btr hb' (by simp) ?_
  refine qI.f _ _ (stn (qK.n _ _ ?_))
  (refine stl hV ?_; walk_at"go")
  refine o_raise hV hY PySem.F.excCall_ValueError PySem.F.excRaise_ValueError ?_
  walk_at"go"
  exact ⟨_, _, .rfl, by lia, _, _, _, rfl, rfl⟩
end
section
noncomputable def Wf (bs : List Int) (pos : Nat) : Prop := pos = bs.length ∨ ∃ n : Nat, bs[pos]? = some (n : Int) ∧ pos + 1 + n ≤ bs.length
noncomputable def EndX (atl : Addr) (bs : List Int) (pos : Nat) (cls : Value) (vs : List Value) (l' : Led) : Prop := pos = bs.length ∧ cls = .type "ValueError" ∧ ∃ t0 t2 k2, vs = [.str noMore t0] ∧ l' = [(atl, lst [.int pos t2] k2)]
inductive Rb1p (bs : List Int) (pos : Nat) (atl : Addr) : Value → Led → Prop
 | mk (n : Nat) (b' : Array UInt8) (t1 t2 : Tok) (k2 : Nat) (h1 : bs[pos]? = some (n : Int)) (h2 : pos + 1 + n ≤ bs.length) (h3 : KBw.bInts b' = (bs.drop (pos + 1)).take n) : Rb1p bs pos atl (.bytes b' t1) [(atl, lst [.int (pos + 1 + n : Nat) t2] k2)]
theorem RB1 {w : World} {T : Tp} {oc : Obj} {b : Array UInt8} {atl : Addr} {t : Tok} {k : Nat} (hT : T.ok b atl) (hoc : CodeO oc) (bs : List Int) (hb : KBw.bInts b = bs) (hbz : bs.length ≤ 100000) (pos : Nat) (hwf : Wf bs pos) :
  SpecX w 4 103 [.ref T.x] (TpAt T w.params oc) [(atl, lst [.int pos t] k)] (Rb1p bs pos atl)
   (EndX atl bs pos) := by
 have hp0 : pos ≤ bs.length := by
  rcases hwf with h | ⟨n, h1, h2⟩ <;> lia
 refine specX_vc [("f", .ref T.x)] ["n", "data"] fi_read_bytes1_ok rfl (by kernel_rfl) (by kernel_rfl) (by kernel_rfl) ?_
 intro c0 c hw hz hm hV hn hgt hX hY hp
 dsimp only [fi_read_bytes1] at hgt
 subst hw
 (refine stq hV ?_; intro K qK; walk_at"go")
 refine o_specX hV hY (RU1 hT hoc bs hb hbz pos hp0) (le_n hn rfl) .rfl (fun g' _ hG => ⟨fun p hp' => hG _ _ (hp.1 p hp'), hG _ _ hp.2⟩) ?_ ?_
 ·(rintro v l' hJq; refine hideG ?_; intro P0 hP0; obtain ⟨y, t1, t2, k2, hy, rfl, rfl⟩ := hJq; refine hP0 ?_; clear hP0 P0)
  rcases hwf with h | ⟨n, h1, h2⟩
  ·rw [h, List.getElem?_eq_none (Nat.le_refl _)] at hy; cases hy
  rw [hy] at h1
  cases h1
  walk_at"go"
  (refine qK.n _ _ ?_; (try clear qK K); refine stq hV ?_; intro K qK; walk_at"go")
  refine o_assert hV ?_
  walk_at"go"
  refine ⟨by simp, ?_⟩
  (refine qK.n _ _ ?_; (try clear qK K); refine stq hV ?_; intro K qK; walk_at"go")
  refine o_tread hV hT hp ?_
  walk_at"go"
  refine o_tr hV hT hoc bs hb hbz hp (by lia) (pos + 1) n (by lia) .rfl fun b' t3 t4 k' hb' => ?_
  walk_at"go"
  (refine qK.n _ _ ?_; (try clear qK K))
  (refine stIf hV ?_; intro K qK KT qI; walk_at"go")
  have hl : ((bs.drop (pos + 1)).take n).length = n := by simp; lia
  refine o_blen hb' (by rw [hl]; lia) ?_
  rw [hl]
  walk_at"go"
  refine qI.t _ _ ?_
  (refine stq hV ?_; intro K1 qK1; walk_at"go")
  refine qK1.r _ _ _ (qK.r _ _ _ ⟨_, _, .rfl, n, b', _, _, _, hy, h2, hb'⟩)
 ·(rintro cls vs l' hJq; refine hideG ?_; intro P0 hP0; obtain ⟨h1, rfl, t0, t2, k2, rfl, rfl⟩ := hJq; refine hP0 ?_; clear hP0 P0)
  exact ⟨_, _, .rfl, h1, rfl, _, _, _, rfl, rfl⟩
inductive Rs1p (bs : List Int) (pos : Nat) (atl : Addr) : Value → Led → Prop
 | mk (n : Nat) (b' : Array UInt8) (t1 t2 : Tok) (k2 : Nat) (h1 : bs[pos]? = some (n : Int)) (h2 : pos + 1 + n ≤ bs.length) (h3 : KBw.bInts b' = (bs.drop (pos + 1)).take n) : Rs1p bs pos atl (.str (l1 b') t1) [(atl, lst [.int (pos + 1 + n : Nat) t2] k2)]
theorem RS1 {w : World} {T : Tp} {oc : Obj} {b : Array UInt8} {atl : Addr} {t : Tok} {k : Nat} (hT : T.ok b atl) (hoc : CodeO oc) (bs : List Int) (hb : KBw.bInts b = bs) (hbz : bs.length ≤ 100000) (pos : Nat) (hwf : Wf bs pos) :
  SpecX w 4 96 [.ref T.x] (TpAt T w.params oc) [(atl, lst [.int pos t] k)] (Rs1p bs pos atl)
   (EndX atl bs pos) := by
 have hp0 : pos ≤ bs.length := by
  rcases hwf with h | ⟨n, h1, h2⟩ <;> lia
 refine specX_vc [("f", .ref T.x)] ["n", "data"] fi_read_string1_ok rfl (by kernel_rfl) (by kernel_rfl) (by kernel_rfl) ?_
 intro c0 c hw hz hm hV hn hgt hX hY hp
 dsimp only [fi_read_string1] at hgt
 subst hw
 (refine stq hV ?_; intro K qK; walk_at"go")
 refine o_specX hV hY (RU1 hT hoc bs hb hbz pos hp0) (le_n hn rfl) .rfl (fun g' _ hG => ⟨fun p hp' => hG _ _ (hp.1 p hp'), hG _ _ hp.2⟩) ?_ ?_
 ·(rintro v l' hJq; refine hideG ?_; intro P0 hP0; obtain ⟨y, t1, t2, k2, hy, rfl, rfl⟩ := hJq; refine hP0 ?_; clear hP0 P0)
  rcases hwf with h | ⟨n, h1, h2⟩
  ·rw [h, List.getElem?_eq_none (Nat.le_refl _)] at hy; cases hy
  rw [hy] at h1
  cases h1
  walk_at"go"
  (refine qK.n _ _ ?_; (try clear qK K); refine stq hV ?_; intro K qK; walk_at"go")
  refine o_assert hV ?_
  walk_at"go"
  refine ⟨by simp, ?_⟩
  (refine qK.n _ _ ?_; (try clear qK K); refine stq hV ?_; intro K qK; walk_at"go")
  refine o_tread hV hT hp ?_
  walk_at"go"
  refine o_tr hV hT hoc bs hb hbz hp (by lia) (pos + 1) n (by lia) .rfl fun b' t3 t4 k' hb' => ?_
  walk_at"go"
  (refine qK.n _ _ ?_; (try clear qK K))
  (refine stIf hV ?_; intro K qK KT qI; walk_at"go")
  have hl : ((bs.drop (pos + 1)).take n).length = n := by simp; lia
  refine o_blen hb' (by rw [hl]; lia) ?_
  rw [hl]
  walk_at"go"
  refine qI.t _ _ ?_
  (refine stq hV ?_; intro K1 qK1; walk_at"go")
  refine o_bm hV "bytes.decode" (fun pl Q E s _ h => KBd.method h) ?_
  walk_at"go"
  have hbl : b'.size ≤ 16777216 := by rw [← KBw.ints_length b', hb', hl]; lia
  refine o_dec hbl fun t5 => ?_
  refine qK1.r _ _ _ (qK.r _ _ _ ⟨_, _, .rfl, n, b', _, _, _, hy, h2, hb'⟩)
 ·(rintro cls vs l' hJq; refine hideG ?_; intro P0 hP0; obtain ⟨h1, rfl, t0, t2, k2, rfl, rfl⟩ := hJq; refine hP0 ?_; clear hP0 P0)
  exact ⟨_, _, .rfl, h1, rfl, _, _, _, rfl, rfl⟩
end
section
section
variable {c : Fx} {m : Loc} {l : Led} {K : KV Value} {a t : Addr} {oe : Obj} {ws : Array Value} {X : String}
theorem o_args (FX : ExcAttrFacts X) (hr : Rd c.g l a oe) (h1 : oe.cls = .type X) (h2 : oe.data = .fields ws) (h3 : ws[0]? = some (.ref t)) (h : K (.ref t) m l) {b : Bool} : Ob c (getAttr (.ref a) (Str.ofString "args") b) K m l := by
 intro Q E s S kk _
 have hx := S.rd hr
 have S2 := S.same (s' := { s with toks := s.toks + 1 }) rfl rfl rfl
 (refine hideG ?_; intro P0 hP0; obtain ⟨hh, g, d, tk, os⟩ := s; refine hP0 ?_; clear hP0 P0)
 exact args_attr FX hx h1 h2 h3 (kk _ _ _ _ h S2)
end
end
section
noncomputable def Th.md (x : Th) : List Int := [x.k * 16 + x.r / 256, x.r % 256]
inductive GivO (x : Th) (o : Obj) : Prop
 | mk (b : Array UInt8) (t1 t2 t3 : Tok) (k : Nat) (h1 : KBw.bInts b = x.md) (h2 : o = lst [.int x.a t1, .int x.t t2, .bytes b t3, .bool true] k)
inductive GivL : List Th → Led → Prop
 | nil : GivL [] []
 | snoc {th L x a o} : GivL th L → GivO x o → GivL (th ++ [x]) ((a, o) :: L)
noncomputable def refsOf (L : Led) : List Value := (L.map fun p => Value.ref p.1).reverse
theorem GivL.len {th : List Th} {L : Led} (h : GivL th L) : L.length = th.length := by
 induction h with
 | nil => rfl
 | snoc _ _ ih => simp [ih]
theorem oct_at {th : List Th} {i : Nat} {x : Th} (hx : th[i]? = some x) : (tapeOf th)[5 * i]? = some (x.a : Int) ∧ (tapeOf th)[5 * i + 1]? = some (x.t : Int) ∧ (tapeOf th)[5 * i + 2]? = some 2 ∧ ((tapeOf th).drop (5 * i + 3)).take 2 = x.md := by
 induction th generalizing i with
 | nil => simp at hx
 | cons y th ih =>
  cases i with
  | zero => simp at hx; subst hx; exact ⟨rfl, rfl, rfl, rfl⟩
  | succ i =>
   have := ih (i := i) (by simpa using hx)
   have e : tapeOf (y :: th) = y.oct ++ tapeOf th := by simp [tapeOf]
   have l5 : y.oct.length = 5 := rfl
   rw [e]
   refine ⟨?_, ?_, ?_, ?_⟩
   ·rw [List.getElem?_append_right (by rw [l5]; lia), l5, show 5 * (i + 1) - 5 = 5 * i by lia]; exact this.1
   ·rw [List.getElem?_append_right (by rw [l5]; lia), l5, show 5 * (i + 1) + 1 - 5 = 5 * i + 1 by lia]; exact this.2.1
   ·rw [List.getElem?_append_right (by rw [l5]; lia), l5, show 5 * (i + 1) + 2 - 5 = 5 * i + 2 by lia]; exact this.2.2.1
   ·rw [List.drop_append, List.drop_eq_nil_of_le (by rw [l5]; lia), l5, show 5 * (i + 1) + 3 - 5 = 5 * i + 3 by lia, List.nil_append]; exact this.2.2.2
theorem tyT_bytes : typeOf (.type "bytes") = pure (.type "type") := by kernel_rfl
theorem sub_bytes : isSubtype (.type "bytes") (.type "bytes") = pure true := by rw [isSubtype_type]; kernel_rfl
theorem tk_snoc {α : Type} {bs : List α} {j : Nat} {p : α} (h : bs[j]? = some p) : bs.take (j + 1) = bs.take j ++ [p] := by rw [List.take_add_one, h]; rfl
theorem refs_snoc (L : Led) (a : Addr) (o : Obj) : refsOf L ++ [.ref a] = refsOf ((a, o) :: L) := by simp [refsOf]
theorem LTHINGS {w : World} {b : Array UInt8} {tb : Tok} (th : List Th) (h9 : th.length = 9) (hO : ∀ (i : Nat) x, th[i]? = some x → x.ok i) (hb : KBw.bInts b = tapeOf th) (lt : Led) (hlt : TabOk lt) :
  SpecX w 6 272 [.bytes b tb] (fun _ => True) lt (fun v l' => Lz (fun P0 : Value → Led → Prop => ∀ (L : Led) (r gl tt : Addr) (k : Nat) (t0 : Tok) (cc : Addr) (oc : Obj) (ot : Obj) (nt : Nat), GivL th L → CodeO oc → ot.cls = .type "tuple" → ot.data = .seq [Value.str noMore t0].toArray nt → P0 (.ref r) ((r, tup [.ref gl, .ref tt]) :: (gl, lst (refsOf L) k) :: (tt, ot) :: (tabL cc oc ++ L))) v l') (fun _ _ _ => False) := by
 refine specX_vc [("octets", .bytes b tb)] ["tape", "given", "above", "team", "mode", "err"] fi_law_things_ok rfl (by kernel_rfl) (by kernel_rfl) (by kernel_rfl) ?_
 intro c0 c hw hz hm hV hn hgt hX hY hp
 dsimp only [fi_law_things] at hgt
 subst hw
 have hV0 := hV
 have hgt0 := hgt
 (refine stq hV ?_; intro K qK; walk_at"go")
 refine o_specL hV (LSTREAM lt hlt) (le_n hn rfl) (by (repeat with_reducible first | exact Ex.nil | exact Ex.rfl | (apply Ex.take; focus (with_unfolding_all repeat constructor); done) | apply Ex.drop)) (fun _ _ _ => trivial) ?_
 rintro _ _ hQ
 rcases hQ with ⟨T, cc, oc, hoc, hTc, hT⟩
 rename_i t00 atl
 walk_at"go"
 (refine qK.n _ _ ?_; (try clear qK K); refine stq hV ?_; intro K qK; walk_at"go")
 (refine qK.n _ _ ?_; (try clear qK K); refine stq hV ?_; intro K qK; walk_at"go")
 simp only [Tp.led, tabL, List.cons_append, List.nil_append]
 have hlen : (tapeOf th).length = 45 := by rw [tape_len, h9]
 let CC1 : Nat → (Loc → Led → Prop) → Prop := fun n P0 => ∀ (i : Nat) (L : Led) (gl : Addr) (kg k : Nat) (t : Tok) (o1 o2 o3 o4 : Option Value), i + n = 10 → i ≤ 9 → GivL (th.take i) L → P0 ([("octets", some (.bytes b tb)), ("tape", some (.ref T.x)), ("given", some (.ref gl)), ("above", o1), ("team", o2), ("mode", o3), ("err", o4)]) ((gl, lst (refsOf L) kg) :: (T.x, instObj 120 T.dx) :: (T.dx, iD c.w.params T.ks T.n) :: (T.f, lrO T.cO T.cA T.cc T.doc T.pm T.ctv) :: (T.cO, T.oO) :: (T.cA, T.oA) :: (246, tabObj #[rawInt lrPos.line, rawInt lrPos.col, .ref cc]) :: (cc, oc) :: (atl, lst [.int (5 * i : Nat) t] k) :: L)
 let JJ1 : Nat → Loc → Led → Prop := fun n m l => Lz (CC1 n) m l
 refine vwhile hV hX JJ1 10 .rfl (fun _ f0 => f0 0 ([]) _ _ _ _ _ _ _ _ rfl (by lia) (.nil)) ?_
 (rintro n m l hJq; refine Lz.el hJq ?_; clear hJq; rintro i L gl kg k t o1 o2 o3 o4 hin hi9 hL KT qI)
 walk_at"go"
 refine qI.t _ _ ?_
 have hat : ∀ g', (∀ p ∈ (gl, lst (refsOf L) kg) :: (T.x, instObj 120 T.dx) :: (T.dx, iD c.w.params T.ks T.n) :: (T.f, lrO T.cO T.cA T.cc T.doc T.pm T.ctv) :: (T.cO, T.oO) :: (T.cA, T.oA) :: (246, tabObj #[rawInt lrPos.line, rawInt lrPos.col, .ref cc]) :: (cc, oc) :: L, g'.get? p.1 = some p.2) → TpAt T c.w.params oc g' := by
  intro g' h
  refine ⟨fun p hp => h p ?_, by rw [hTc]; exact h (cc, oc) (by repeat constructor)⟩
  exact .tail _ (List.mem_append_left _ hp)
 (refine stq hV ?_; intro K1 qK1; walk_at"go")
 refine o_tryB hV (fun cls vs m l => i = 9 ∧ cls = .type "ValueError" ∧ ∃ t0 o1 o2 o3 o4 R', vs = [.str noMore t0] ∧ m = ([("octets", some (.bytes b tb)), ("tape", some (.ref T.x)), ("given", some (.ref gl)), ("above", o1), ("team", o2), ("mode", o3), ("err", o4)] : Loc) ∧ Ex l ((gl, lst (refsOf L) kg) :: (tabL cc oc ++ L)) R') PySem.F.isExc_ValueError PySem.F.notTuple_ValueError (by rw [hgt]; repeat constructor) ?_ ?_
 ·intro c0₁ c₁ hlk hz hm hV₁ hY₁ hX₁ K₁ kn₁ kb₁ kc₁ kr₁
  (refine e0_6 hlk ?_; clear hlk; intro e1 e2 e3 e4 e5 e6)
  rw [hgt] at e3
  have hV := hV₁
  have hgt := e3
  have hbz : (tapeOf th).length ≤ 100000 := by lia
  (refine stq hV ?_; intro K2 qK2; walk_at"go")
  refine o_specX hV hY₁ (RU1 hT hoc _ hb hbz (5 * i) (by lia)) (by lia) (.take (by repeat constructor) .nil) (fun g' hR hG => by rw [e1]; exact hat g' hR) ?_ ?_
  ·(rintro v l' hJq; refine hideG ?_; intro P0 hP0; obtain ⟨y, t1, t2, k2, hy, rfl, rfl⟩ := hJq; refine hP0 ?_; clear hP0 P0)
   have hi : i < 9 := by
    rcases Nat.lt_or_ge i 9 with q | q
    ·exact q
    ·rw [List.getElem?_eq_none (by lia)] at hy; cases hy
   obtain ⟨x, hx⟩ : ∃ x, th[i]? = some x := ⟨th[i], List.getElem?_eq_getElem (by lia)⟩
   (refine e0_4 (oct_at hx) ?_; intro q1 q2 q3 q4)
   rw [q1] at hy
   cases hy
   walk_at"go"
   (refine qK2.n _ _ ?_; (try clear qK2 K2); refine stq hV ?_; intro K2 qK2; walk_at"go")
   refine o_specX hV hY₁ (RU1 hT hoc _ hb hbz (5 * i + 1) (by lia)) (by lia) (.take (by repeat constructor) .nil) (fun g' hR hG => by rw [e1]; exact hat g' hR) ?_ ?_
   ·(rintro v l' hJq; refine hideG ?_; intro P0 hP0; obtain ⟨y, t3, t4, k4, hy, rfl, rfl⟩ := hJq; refine hP0 ?_; clear hP0 P0)
    rw [q2] at hy
    cases hy
    walk_at"go"
    (refine qK2.n _ _ ?_; (try clear qK2 K2); refine stq hV ?_; intro K2 qK2; walk_at"go")
    refine o_specX hV hY₁ (RB1 hT hoc _ hb hbz (5 * i + 2) (.inr ⟨2, q3, by lia⟩)) (by lia) (.take (by repeat constructor) .nil) (fun g' hR hG => by rw [e1]; exact hat g' hR) ?_ ?_
    ·rintro v l' hQ
     rcases hQ with ⟨nn, b', t5, t6, k6, hy, hle, hb'⟩
     rw [q3] at hy
     have : nn = 2 := by have := Option.some.inj hy; lia
     subst this
     rw [q4] at hb'
     rw [show 5 * i + 2 + 1 + 2 = 5 * (i + 1) by lia]
     walk_at"go"
     (refine qK2.n _ _ ?_; (try clear qK2 K2))
     refine stn (kn₁ _ _ (stn (qK1.n _ _ ?_)))
     have hV := hV0
     have hgt := hgt0
     have hLl : L.length = i := by rw [hL.len, List.length_take]; lia
     (refine stl hV ?_; walk_at"go")
     refine o_append hV ⟨_, _, by exact .inl (by repeat constructor)⟩ ?_
     walk_at"go"
     refine o_isi (fun s S => typeIs_bytes s _ _) tyT_bytes sub_bytes ?_
     walk_at"go"
     refine ⟨_, _, _, by repeat constructor, by simp [refsOf, sizeLine_eq]; lia, ?_⟩
     rename_i ai
     refine (whk (R := []) (n' := n - 1) (?_) (by lia) (fun _ f0 => f0 (i + 1) ((ai, lst [.int x.a t1, .int x.t t3, .bytes b' t5, .bool true] 0) :: L) gl (kg + 1) k6 t6 _ _ _ _ (by lia) (by lia) ?_))
     ·rw [refs_snoc L ai (lst [.int x.a t1, .int x.t t3, .bytes b' t5, .bool true] 0)]
      (repeat with_reducible first | exact Ex.nil | exact Ex.rfl | (apply Ex.take; focus (with_unfolding_all repeat constructor); done) | apply Ex.drop)
     ·rw [tk_snoc hx]
      exact .snoc hL ⟨b', _, _, _, _, hb', rfl⟩
    ·rintro cls vs l' ⟨h, _⟩; lia
   ·rintro cls vs l' ⟨h, _⟩; lia
  ·(rintro cls vs l' hJq; refine hideG ?_; intro P0 hP0; obtain ⟨h, rfl, t0, t2, k2, rfl, rfl⟩ := hJq; refine hP0 ?_; clear hP0 P0)
   exact ⟨by lia, rfl, _, _, _, _, _, _, rfl, rfl, by simp only [tabL, List.cons_append, List.nil_append]; (repeat with_reducible first | exact Ex.nil | exact Ex.rfl | (apply Ex.take; focus (with_unfolding_all repeat constructor); done) | apply Ex.drop)⟩
 ·rintro cls vs m l a tt oe ot ws nt ⟨h9', rfl, t0, o1, o2, o3, o4, R', rfl, rfl, hex⟩ h1 h2 h3 h4 h5
  refine ⟨⟨_, rfl, PySem.F.self_ValueError⟩, by rfl, ?_⟩
  intro c0₂ c₂ hlk hV₂ K₂ hK₂
  (refine e0_6 hlk ?_; clear hlk; intro e1 e2 e3 e4 e5 e6)
  rw [hgt0] at e3
  have hV := hV₂
  have hgt := e3
  walk_at"go"
  (refine stq hV ?_; intro K2 qK2; walk_at"go")
  refine o_args PySem.F.attr_ValueError (Or.inl (.head _)) h1 h2 h3 ?_
  refine ⟨by decide, fun r => qK2.r _ _ _ (hK₂ _ _ _ ⟨by simp, fun v m' _ => qK1.r _ _ _ (qK.r _ _ _ ?_)⟩)⟩
  subst h9'
  rw [List.take_of_length_le (by lia)] at hL
  cases hex with
  | take hrm hex' => exact (drp (.take .here (.take (.there (.there hrm)) (.take (.there .here) (.drop hex')))) (fun _ f0 => f0 L r gl tt kg t0 cc oc ot nt hL hoc h4 h5))
end
section
noncomputable def recB (row path : List Int) (team : Int) : List Int := (row.length : Int) :: row ++ team :: (path.length : Int) :: path
noncomputable def RecAt (bs : List Int) (pos : Nat) (row path : List Int) (team : Int) : Prop := (bs.drop pos).take (recB row path team).length = recB row path team
theorem RecAt.get {bs : List Int} {pos : Nat} {row path : List Int} {team : Int} (h : RecAt bs pos row path team) {j : Nat} {y : Int} (hy : (recB row path team)[j]? = some y) : bs[pos + j]? = some y := by
 unfold RecAt at h
 have hj : j < (recB row path team).length := by
  rcases Nat.lt_or_ge j (recB row path team).length with q | q
  ·exact q
  ·rw [List.getElem?_eq_none q] at hy; cases hy
 rw [← h, List.getElem?_take_of_lt hj, List.getElem?_drop] at hy
 exact hy
theorem RecAt.sub {bs : List Int} {pos : Nat} {row path : List Int} {team : Int} (h : RecAt bs pos row path team) (j n : Nat) (hj : j + n ≤ (recB row path team).length) : (bs.drop (pos + j)).take n = ((recB row path team).drop j).take n := by
 unfold RecAt at h
 rw [← h, List.drop_take, List.take_take, List.drop_drop]
 congr 1
 lia
theorem RecAt.le {bs : List Int} {pos : Nat} {row path : List Int} {team : Int} (h : RecAt bs pos row path team) : pos + (recB row path team).length ≤ bs.length := by
 unfold RecAt at h
 have := congrArg List.length h
 simp only [List.length_take, List.length_drop] at this
 have h0 : 0 < (recB row path team).length := by simp [recB]
 lia
theorem recB_len (row path : List Int) (team : Int) : (recB row path team).length = row.length + path.length + 3 := by simp [recB]; lia
theorem recB_drop (row path : List Int) (team : Int) : (recB row path team).drop (row.length + 3) = path := by
 unfold recB
 rw [show ((row.length : Int) :: row ++ team :: (path.length : Int) :: path) = ((row.length : Int) :: row ++ [team, (path.length : Int)]) ++ path by simp]
 exact List.drop_left' (by simp)
noncomputable def txt (ks : List Int) : Str := ⟨(ks.map Int.toNat).toArray⟩
theorem l1_txt {b : Array UInt8} {ks : List Int} (h : KBw.bInts b = ks) : l1 b = txt ks := by
 subst h
 unfold l1 txt KBw.bInts
 rw [List.map_map]
 rfl
inductive RecP (bs : List Int) (pos : Nat) (atl : Addr) : Value → Led → Prop
 | mk (row path : List Int) (team : Int) (r : Addr) (t1 t2 t3 t4 : Tok) (k2 : Nat) (h1 : RecAt bs pos row path team) : RecP bs pos atl (.ref r) [(r, lst [.str (txt row) t1, .int team t2, .str (txt path) t3] 0), (atl, lst [.int (pos + (recB row path team).length : Nat) t4] k2)]
theorem LREC {w : World} {T : Tp} {oc : Obj} {b : Array UInt8} {atl : Addr} {t : Tok} {k : Nat} (hT : T.ok b atl) (hoc : CodeO oc) (bs : List Int) (hb : KBw.bInts b = bs) (hbz : bs.length ≤ 100000) (pos : Nat) (hwf : pos = bs.length ∨ ∃ row path team, RecAt bs pos row path team) :
  SpecX w 5 279 [.ref T.x] (TpAt T w.params oc) [(atl, lst [.int pos t] k)] (RecP bs pos atl)
   (EndX atl bs pos) := by
 refine specX_vc [("tape", .ref T.x)] ["row", "team"] fi_law_record_ok rfl (by kernel_rfl) (by kernel_rfl) (by kernel_rfl) ?_
 intro c0 c hw hz hm hV hn hgt hX hY hp
 dsimp only [fi_law_record] at hgt
 subst hw
 have hpre : ∀ g', c.g.StaysIn g' → TpAt T c.w.params oc g' := fun g' hG => ⟨fun p hp' => hG _ _ (hp.1 p hp'), hG _ _ hp.2⟩
 (refine stq hV ?_; intro K qK; walk_at"go")
 rcases hwf with hend | ⟨row, path, team, hR⟩
 ·refine o_specX hV hY (RS1 hT hoc bs hb hbz pos (.inl hend)) (le_n hn rfl) .rfl (fun g' _ hG => hpre g' hG) ?_ ?_
  ·(rintro v l' hJq; refine hideG ?_; intro P0 hP0; obtain ⟨n, b', t1, t2, k2, hy, _⟩ := hJq; refine hP0 ?_; clear hP0 P0)
   rw [hend, List.getElem?_eq_none (Nat.le_refl _)] at hy; cases hy
  ·(rintro cls vs l' hJq; refine hideG ?_; intro P0 hP0; obtain ⟨h1, rfl, t0, t2, k2, rfl, rfl⟩ := hJq; refine hP0 ?_; clear hP0 P0)
   exact ⟨_, _, .rfl, h1, rfl, _, _, _, rfl, rfl⟩
 have hle := hR.le
 have hl := recB_len row path team
 have g0 : bs[pos]? = some (row.length : Int) := hR.get (j := 0) rfl
 have g1 : bs[pos + (row.length + 1)]? = some team := hR.get (by simp [recB])
 have g2 : bs[pos + (row.length + 2)]? = some (path.length : Int) := hR.get (by simp [recB])
 have s1 : (bs.drop (pos + 1)).take row.length = row := by rw [hR.sub 1 _ (by lia)]; simp [recB]
 have s2 : (bs.drop (pos + (row.length + 3))).take path.length = path := by rw [hR.sub _ _ (by lia), recB_drop]; simp
 refine o_specX hV hY (RS1 hT hoc bs hb hbz pos (.inr ⟨row.length, g0, by lia⟩)) (le_n hn rfl) .rfl (fun g' _ hG => hpre g' hG) ?_ ?_
 ·rintro v l' hQ
  rcases hQ with ⟨n, b', t1, t2, k2, hy, _, hb'⟩
  rw [g0] at hy
  have : row.length = n := by have := Option.some.inj hy; lia
  subst this
  rw [s1] at hb'
  rw [l1_txt hb']
  walk_at"go"
  (refine qK.n _ _ ?_; (try clear qK K); refine stq hV ?_; intro K qK; walk_at"go")
  rw [show pos + 1 + row.length = pos + (row.length + 1) by lia]
  refine o_specX hV hY (RU1 hT hoc bs hb hbz (pos + (row.length + 1)) (by lia)) (le_n hn rfl) .rfl (fun g' _ hG => hpre g' hG) ?_ ?_
  ·(rintro v l' hJq; refine hideG ?_; intro P0 hP0; obtain ⟨y, t3, t4, k4, hy, rfl, rfl⟩ := hJq; refine hP0 ?_; clear hP0 P0)
   rw [g1] at hy
   cases hy
   walk_at"go"
   (refine qK.n _ _ ?_; (try clear qK K); refine stq hV ?_; intro K qK; walk_at"go")
   rw [show pos + (row.length + 1) + 1 = pos + (row.length + 2) by lia]
   refine o_specX hV hY (RS1 hT hoc bs hb hbz (pos + (row.length + 2)) (.inr ⟨path.length, g2, by lia⟩)) (le_n hn rfl) .rfl (fun g' _ hG => hpre g' hG) ?_ ?_
   ·rintro v l' hQ
    rcases hQ with ⟨n, b2, t5, t6, k6, hy, _, hb2⟩
    rw [g2] at hy
    have : path.length = n := by have := Option.some.inj hy; lia
    subst this
    rw [show pos + (row.length + 2) + 1 = pos + (row.length + 3) by lia, s2] at hb2
    rw [l1_txt hb2]
    walk_at"go"
    rw [show pos + (row.length + 2) + 1 + path.length = pos + (recB row path team).length by lia]
    exact qK.r _ _ _ ⟨_, _, .rfl, row, path, team, _, _, _, _, _, _, hR⟩
   ·rintro cls vs l' ⟨h, _⟩; lia
  ·rintro cls vs l' ⟨h, _⟩; lia
 ·rintro cls vs l' ⟨h, _⟩; lia
end
section
structure Rc where
 (row path : List Int)
 (team : Int)
noncomputable def Rc.b (r : Rc) : List Int := recB r.row r.path r.team
noncomputable def logOf (rs : List Rc) : List Int := rs.flatMap Rc.b
inductive RecO (r : Rc) (o : Obj) : Prop
 | mk (t1 t2 t3 : Tok) (k : Nat) (h1 : o = lst [.str (txt r.row) t1, .int r.team t2, .str (txt r.path) t3] k)
inductive RecL : List Rc → Led → Prop
 | nil : RecL [] []
 | snoc {rs L x a o} : RecL rs L → RecO x o → RecL (rs ++ [x]) ((a, o) :: L)
theorem RecL.len {th : List Rc} {L : Led} (h : RecL th L) : L.length = th.length := by
 induction h with
 | nil => rfl
 | snoc _ _ ih => simp [ih]
theorem logOf_app (a b : List Rc) : logOf (a ++ b) = logOf a ++ logOf b := by simp [logOf]
theorem rec_at {rs : List Rc} {i : Nat} {x : Rc} (hx : rs[i]? = some x) : RecAt (logOf rs) (logOf (rs.take i)).length x.row x.path x.team := by
 have e : rs = rs.take i ++ x :: rs.drop (i + 1) := by
  have hlt : i < rs.length := by
   rcases Nat.lt_or_ge i rs.length with q | q
   ·exact q
   ·rw [List.getElem?_eq_none q] at hx; cases hx
  rw [List.getElem?_eq_getElem hlt] at hx
  cases hx
  simp
 unfold RecAt
 have e2 : logOf rs = logOf (rs.take i) ++ (x.b ++ logOf (rs.drop (i + 1))) := by
  conv => lhs; rw [e]
  rw [logOf_app]
  simp [logOf]
 rw [e2, List.drop_left' rfl]
 exact List.take_left' rfl
theorem recB_inj {a b c d : List Int} {s t : Int} {bs : List Int} {pos : Nat} (h1 : RecAt bs pos a b s) (h2 : RecAt bs pos c d t) : a = c ∧ b = d ∧ s = t := by
 have g1 := h1.get (j := 0) (y := (a.length : Int)) rfl
 have g2 := h2.get (j := 0) (y := (c.length : Int)) rfl
 rw [g1] at g2
 have hl : a.length = c.length := by have := Option.some.inj g2; lia
 have p1 : (bs.drop (pos + 1)).take a.length = a := by rw [h1.sub 1 _ (by rw [recB_len]; lia)]; simp [recB]
 have p2 : (bs.drop (pos + 1)).take c.length = c := by rw [h2.sub 1 _ (by rw [recB_len]; lia)]; simp [recB]
 have hac : a = c := by rw [← p1, ← p2, hl]
 subst hac
 have t1 : bs[pos + (a.length + 1)]? = some s := h1.get (by simp [recB])
 have t2 : bs[pos + (a.length + 1)]? = some t := h2.get (by simp [recB])
 rw [t1] at t2
 cases t2
 have q1 : bs[pos + (a.length + 2)]? = some (b.length : Int) := h1.get (by simp [recB])
 have q2 : bs[pos + (a.length + 2)]? = some (d.length : Int) := h2.get (by simp [recB])
 rw [q1] at q2
 have hl2 : b.length = d.length := by have := Option.some.inj q2; lia
 have r1 : (bs.drop (pos + (a.length + 3))).take b.length = b := by rw [h1.sub _ _ (by rw [recB_len]; lia), recB_drop]; simp
 have r2 : (bs.drop (pos + (a.length + 3))).take d.length = d := by rw [h2.sub _ _ (by rw [recB_len]; lia), recB_drop]; simp
 exact ⟨rfl, by rw [← r1, ← r2, hl2], rfl⟩
theorem LRECS {w : World} {b : Array UInt8} {tb : Tok} (rs : List Rc) (hbz : (logOf rs).length ≤ 100000) (hrz : rs.length ≤ 100) (hb : KBw.bInts b = logOf rs) (lt : Led) (hlt : TabOk lt) :
  SpecX w 7 286 [.bytes b tb] (fun _ => True) lt (fun v l' => Lz (fun P0 : Value → Led → Prop => ∀ (L : Led) (r gl tt : Addr) (k : Nat) (t0 : Tok) (cc : Addr) (oc : Obj) (ot : Obj) (nt : Nat), RecL rs L → CodeO oc → ot.cls = .type "tuple" → ot.data = .seq [Value.str noMore t0].toArray nt → P0 (.ref r) ((r, tup [.ref gl, .ref tt]) :: (gl, lst (refsOf L) k) :: (tt, ot) :: (tabL cc oc ++ L))) v l') (fun _ _ _ => False) := by
 refine specX_vc [("octets", .bytes b tb)] ["tape", "records", "record", "err"] fi_law_records_ok rfl (by kernel_rfl) (by kernel_rfl) (by kernel_rfl) ?_
 intro c0 c hw hz hm hV hn hgt hX hY hp
 dsimp only [fi_law_records] at hgt
 subst hw
 have hV0 := hV
 have hgt0 := hgt
 (refine stq hV ?_; intro K qK; walk_at"go")
 refine o_specL hV (LSTREAM lt hlt) (le_n hn rfl) (by (repeat with_reducible first | exact Ex.nil | exact Ex.rfl | (apply Ex.take; focus (with_unfolding_all repeat constructor); done) | apply Ex.drop)) (fun _ _ _ => trivial) ?_
 rintro _ _ hQ
 rcases hQ with ⟨T, cc, oc, hoc, hTc, hT⟩
 rename_i t00 atl
 walk_at"go"
 (refine qK.n _ _ ?_; (try clear qK K); refine stq hV ?_; intro K qK; walk_at"go")
 (refine qK.n _ _ ?_; (try clear qK K); refine stq hV ?_; intro K qK; walk_at"go")
 simp only [Tp.led, tabL, List.cons_append, List.nil_append]
 let CC1 : Nat → (Loc → Led → Prop) → Prop := fun n P0 => ∀ (i : Nat) (L : Led) (gl : Addr) (kg k : Nat) (t : Tok) (o1 o2 : Option Value), i + n = rs.length + 1 → i ≤ rs.length → RecL (rs.take i) L → P0 ([("octets", some (.bytes b tb)), ("tape", some (.ref T.x)), ("records", some (.ref gl)), ("record", o1), ("err", o2)]) ((gl, lst (refsOf L) kg) :: (T.x, instObj 120 T.dx) :: (T.dx, iD c.w.params T.ks T.n) :: (T.f, lrO T.cO T.cA T.cc T.doc T.pm T.ctv) :: (T.cO, T.oO) :: (T.cA, T.oA) :: (246, tabObj #[rawInt lrPos.line, rawInt lrPos.col, .ref cc]) :: (cc, oc) :: (atl, lst [.int ((logOf (rs.take i)).length : Nat) t] k) :: L)
 let JJ1 : Nat → Loc → Led → Prop := fun n m l => Lz (CC1 n) m l
 refine vwhile hV hX JJ1 (rs.length + 1) .rfl (fun _ f0 => f0 0 ([]) _ _ _ _ _ _ (by lia) (by lia) (.nil)) ?_
 (rintro n m l hJq; refine Lz.el hJq ?_; clear hJq; rintro i L gl kg k t o1 o2 hin hi9 hL KT qI)
 walk_at"go"
 refine qI.t _ _ ?_
 have hat : ∀ g', (∀ p ∈ (gl, lst (refsOf L) kg) :: (T.x, instObj 120 T.dx) :: (T.dx, iD c.w.params T.ks T.n) :: (T.f, lrO T.cO T.cA T.cc T.doc T.pm T.ctv) :: (T.cO, T.oO) :: (T.cA, T.oA) :: (246, tabObj #[rawInt lrPos.line, rawInt lrPos.col, .ref cc]) :: (cc, oc) :: L, g'.get? p.1 = some p.2) → TpAt T c.w.params oc g' := by
  intro g' h
  refine ⟨fun p hp => h p ?_, by rw [hTc]; exact h (cc, oc) (by repeat constructor)⟩
  exact .tail _ (List.mem_append_left _ hp)
 (refine stq hV ?_; intro K1 qK1; walk_at"go")
 refine o_tryB hV (fun cls vs m l => i = rs.length ∧ cls = .type "ValueError" ∧ ∃ t0 o1 o2 R', vs = [.str noMore t0] ∧ m = ([("octets", some (.bytes b tb)), ("tape", some (.ref T.x)), ("records", some (.ref gl)), ("record", o1), ("err", o2)] : Loc) ∧ Ex l ((gl, lst (refsOf L) kg) :: (tabL cc oc ++ L)) R') PySem.F.isExc_ValueError PySem.F.notTuple_ValueError (by rw [hgt]; repeat constructor) ?_ ?_
 ·intro c0₁ c₁ hlk hz hm hV₁ hY₁ hX₁ K₁ kn₁ kb₁ kc₁ kr₁
  (refine e0_6 hlk ?_; clear hlk; intro e1 e2 e3 e4 e5 e6)
  rw [hgt] at e3
  have hV := hV₁
  have hgt := e3
  have hwf : (logOf (rs.take i)).length = (logOf rs).length ∨ ∃ row path team, RecAt (logOf rs) (logOf (rs.take i)).length row path team := by
   rcases Nat.lt_or_ge i rs.length with q | q
   ·exact .inr ⟨_, _, _, rec_at (List.getElem?_eq_getElem q)⟩
   ·exact .inl (by rw [List.take_of_length_le q])
  (refine stq hV ?_; intro K2 qK2; walk_at"go")
  refine o_specX hV hY₁ (LREC hT hoc _ hb hbz _ hwf) (by lia) (.take (by repeat constructor) .nil) (fun g' hR hG => by rw [e1]; exact hat g' hR) ?_ ?_
  ·rintro v l' hQ
   rcases hQ with ⟨row, path, team, r, t1, t2, t3, t4, k2, hR⟩
   have hle := hR.le
   have h3 := recB_len row path team
   have hi : i < rs.length := by
    rcases Nat.lt_or_ge i rs.length with q | q
    ·exact q
    ·rw [List.take_of_length_le q] at hle; lia
   have hx := List.getElem?_eq_getElem hi
   generalize rs[i] = x at hx
   (refine e0_3 (recB_inj hR (rec_at hx)) ?_; intro q1 q2 q3)
   have hnew : (logOf (rs.take i)).length + (recB row path team).length = (logOf (rs.take (i + 1))).length := by
    rw [tk_snoc hx, logOf_app, List.length_append, q1, q2, q3]; simp [logOf, Rc.b]
   rw [hnew]
   walk_at"go"
   (refine qK2.n _ _ ?_; (try clear qK2 K2))
   refine stn (kn₁ _ _ (stn (qK1.n _ _ ?_)))
   have hV := hV0
   have hgt := hgt0
   have hLl : L.length = i := by rw [hL.len, List.length_take]; lia
   (refine stl hV ?_; walk_at"go")
   refine o_append hV ⟨_, _, by exact .inl (by repeat constructor)⟩ ?_
   walk_at"go"
   refine ⟨_, _, _, by repeat constructor, by simp [refsOf, sizeLine_eq]; lia, ?_⟩
   refine (whk (R := []) (n' := n - 1) (?_) (by lia) (fun _ f0 => f0 (i + 1) ((r, lst [.str (txt row) t1, .int team t2, .str (txt path) t3] 0) :: L) gl (kg + 1) k2 t4 _ _ (by lia) (by lia) ?_))
   ·rw [refs_snoc L r (lst [.str (txt row) t1, .int team t2, .str (txt path) t3] 0)]
    (repeat with_reducible first | exact Ex.nil | exact Ex.rfl | (apply Ex.take; focus (with_unfolding_all repeat constructor); done) | apply Ex.drop)
   ·rw [tk_snoc hx]
    exact .snoc hL ⟨_, _, _, _, by rw [q1, q2, q3]⟩
  ·(rintro cls vs l' hJq; refine hideG ?_; intro P0 hP0; obtain ⟨h, rfl, t0, t2, k2, rfl, rfl⟩ := hJq; refine hP0 ?_; clear hP0 P0)
   have hi : i = rs.length := by
    rcases Nat.lt_or_ge i rs.length with q | q
    ·have := (rec_at (List.getElem?_eq_getElem q)).le
     rw [recB_len] at this
     lia
    ·lia
   exact ⟨hi, rfl, _, _, _, _, rfl, rfl, by simp only [tabL, List.cons_append, List.nil_append]; (repeat with_reducible first | exact Ex.nil | exact Ex.rfl | (apply Ex.take; focus (with_unfolding_all repeat constructor); done) | apply Ex.drop)⟩
 ·rintro cls vs m l a tt oe ot ws nt ⟨h9', rfl, t0, o1, o2, R', rfl, rfl, hex⟩ h1 h2 h3 h4 h5
  refine ⟨⟨_, rfl, PySem.F.self_ValueError⟩, by rfl, ?_⟩
  intro c0₂ c₂ hlk hV₂ K₂ hK₂
  (refine e0_6 hlk ?_; clear hlk; intro e1 e2 e3 e4 e5 e6)
  rw [hgt0] at e3
  have hV := hV₂
  have hgt := e3
  walk_at"go"
  (refine stq hV ?_; intro K2 qK2; walk_at"go")
  refine o_args PySem.F.attr_ValueError (Or.inl (.head _)) h1 h2 h3 ?_
  refine ⟨by decide, fun r => qK2.r _ _ _ (hK₂ _ _ _ ⟨by simp, fun v m' _ => qK1.r _ _ _ (qK.r _ _ _ ?_)⟩)⟩
  subst h9'
  rw [List.take_of_length_le (by lia)] at hL
  cases hex with
  | take hrm hex' => exact (drp (.take .here (.take (.there (.there hrm)) (.take (.there .here) (.drop hex')))) (fun _ f0 => f0 L r gl tt kg t0 cc oc ot nt hL hoc h4 h5))
end
section
theorem enterG {w : World} {n : Nat} {i : Fi} {vals : List Value} {Lin Lb : Led} {Φ : Value → Led → Prop} {Ψ : Value → List Value → Led → Prop} {A : Around} {outer : List Env} {g : Heap} {s s₁ : Shared} (binds : List (Str × Value)) (r : List Str) (I : FiOk i) (hcell : noCell i = true)
  (hbind : ∀ (E : Value → Shared → Prop) (Q : List (Str × Value) → Shared → Prop), Q binds s₁ → wpAny (M w) A.in1 (bindArgs (fdX i.fn i.q [] i.dV i.pm i.c .none) ⟨vals, []⟩) Q E s) (hks : binds.map (·.1) ++ r = i.ks)
  (C : Cx w A ⟨s.os, outer, s.heap⟩ outer g (n + 1)) (H : Hp g s.heap Lin) (hz : ∀ p ∈ Lin, p.1 ∉ fro outer) (hg : s.gens = #[])
  (k1 : ∀ b o, s.heap.get? b = some o → s₁.heap.get? b = some o) (k2 : ∀ p ∈ Lb, s₁.heap.get? p.1 = some p.2 ∧ s.heap.get? p.1 = none) (k3 : (Lb.map (·.1)).Nodup) (k4 : s₁.gens = s.gens) (k5 : s₁.os = s.os) (k6 : s.heap.objs.size ≤ s₁.heap.objs.size)
  (h : ∀ c0 : Fx, let c := c0.wg i.gt; c.w = w → c.hz = true → c.Fn → c.V → c.n = n → c.gt = i.gt → c.LpX → (∀ e s, Fly c (fun cls vs _ l => Drp l (Ψ cls vs)) e s → c.X e s) → c.g = g → Ob c (execs i.fn.body c.env) (fun fl m l => Drp l (Φ (match fl with | .ret v => v | _ => .none))) (unb binds r) (Lb ++ Lin)) :
  codeAny (M w) A (.call (.ref i.f) ⟨vals, []⟩) (MeetsX g ⟨s.os, outer, s.heap⟩ Φ Ψ) s := by
 (refine e2_1 C.T ?_; intro mg mb T)
 have X : (KF w.params).In s.heap := C.X.keeps H.keep
 have ok := I.ok
 unfold fnOk at ok
 simp only [Bool.and_eq_true, List.all_eq_true, beq_iff_eq, bne_iff_ne, Bool.not_eq_true', decide_eq_true_eq] at ok
 (refine e0_6 ok ?_; clear ok; intro q1 q2 q3 q4 q5 _)
 have hn : (binds.map (·.1)).Nodup := by rw [← hks] at q5; exact (List.nodup_append.mp q5).1
 have hc : ∀ x ∈ i.fn.scope.names, x.2 ≠ .cell := by
  unfold noCell at hcell
  simpa only [List.all_eq_true, bne_iff_ne] using hcell
 refine codeAny_call_function (fd := fdX i.fn i.q [] i.dV i.pm i.c .none) (body := i.fn.body) (by have := C.dep; lia) (X _ _ (I.at_ _)) rfl q3 q2 rfl (codeRec_of X (I.cd _)) (hbind _ _ ?_)
 refine wpAny_newFunctionEnv hc (fun y hy => (q4 y.1 (by rw [← hks]; exact List.mem_append_left _ (List.mem_map_of_mem hy))).1) (fun h₁ hns hsb => ?_) q1
 have hk₁ : ∀ b o, s₁.heap.get? b = some o → h₁.get? b = some o := fun b o e => hsb.extBut b o (Nat.ne_of_lt (Heap.lt_size e)) (Heap.get?_push_of_some _ e)
 have T1 : s₁.heap.NoLimit := T.nolimit.keeps fun b o e => k1 b o (H.keep b o e)
 refine ⟨T1.fresh _ hsb, codeAny_func ?_⟩
 have hkeys : (unb binds r).map (·.1) = i.ks := by
  rw [← hks]
  simp [unb, Function.comp_def]
 generalize hL : s₁.heap.objs.size = L at *
 generalize he : (newEnv (fdX i.fn i.q [] i.dV i.pm i.c .none).scope L (fdX i.fn i.q [] i.dV i.pm i.c .none).globals (fdX i.fn i.q [] i.dV i.pm i.c .none).closure ((fdX i.fn i.q [] i.dV i.pm i.c .none).qualname ++ ".<locals>.") (some i.f) (fdX i.fn i.q [] i.dV i.pm i.c .none).code none (fdX i.fn i.q [] i.dV i.pm i.c .none).builtins) = env
 have hfr : env.frame = some L := by rw [← he]; rfl
 have V : Vw w A ⟨s.os, outer, s.heap⟩ outer n g L env i.ks i.gt [] (A.deeper env) true := by subst he; exact Vw.of C I.ok rfl rfl rfl rfl rfl fun _ h => nomatch h
 have hlt : ∀ b o, s₁.heap.get? b = some o → b ≠ L := fun b o e => hL ▸ Nat.ne_of_lt (Heap.lt_size e)
 have gn : ∀ b, s.heap.get? b = none → g.get? b = none := fun b hb => by
  cases q : g.get? b with
  | none => rfl
  | some o => rw [H.keep _ _ q] at hb; cases hb
 have S : St g ⟨s.os, outer, s.heap⟩ L i.ks (unb binds r) (Lb ++ Lin) { s₁ with heap := h₁, toks := s₁.toks + binds.length } := by
  refine ⟨⟨mp_unb hn ▸ hns, fun b o e => hk₁ _ _ (k1 _ _ (H.keep b o e)), Nat.le_trans H.sz k6⟩, fun p hp => ?_, ?_, ⟨hkeys, q5⟩, k4.trans hg, k5, fun b _ o e => ⟨o.slots, hk₁ b o (k1 b o e)⟩, fun p hp hb => ?_, fun hm => ?_, fun b hb => by obtain ⟨hn, o, ho, _⟩ := C.ff.mem hb; exact ⟨hn, o, ho⟩⟩
  ·rcases List.mem_append.mp hp with hp | hp
   ·exact ⟨hk₁ _ _ (k2 p hp).1, hlt _ _ (k2 p hp).1, gn _ (k2 p hp).2⟩
   ·exact ⟨hk₁ _ _ (k1 _ _ (H.nw p hp).1), hlt _ _ (k1 _ _ (H.nw p hp).1), (H.nw p hp).2⟩
  ·rw [List.map_append, List.nodup_append]
   refine ⟨k3, H.nd, fun a ha b hb e => ?_⟩
   (refine e1_2 (List.mem_map.mp ha) ?_; rintro p hp rfl)
   (refine e1_2 (List.mem_map.mp hb) ?_; rintro q hq rfl)
   have := (H.nw q hq).1
   rw [← e, (k2 p hp).2] at this; cases this
  ·rcases List.mem_append.mp hp with hp | hp
   ·(refine hideG ?_; intro P0 hP0; obtain ⟨_, o, ho, _⟩ := C.ff.mem hb; refine hP0 ?_; clear hP0 P0)
    have := (k2 p hp).2
    rw [this] at ho; cases ho
   ·exact hz p hp hb
  ·(refine hideG ?_; intro P0 hP0; obtain ⟨_, o, ho, _⟩ := C.ff.mem hm; refine hP0 ?_; clear hP0 P0)
   exact hlt _ _ (k1 _ _ ho) rfl
 have hFn : Fx.Fn ⟨w, A, ⟨s.os, outer, s.heap⟩, outer, n, g, L, env, i.ks, i.gt, fun _ _ => False, [], A.deeper env, true⟩ := ⟨rfl, rfl, hfr⟩
 have hVV : Fx.V ⟨w, A, ⟨s.os, outer, s.heap⟩, outer, n, g, L, env, i.ks, i.gt, fun _ _ => False, [], A.deeper env, true⟩ := V
 have hq : callEnv (fdX i.fn i.q [] i.dV i.pm i.c .none) L i.f = env := he
 refine wpAny_mono (h ⟨w, A, ⟨s.os, outer, s.heap⟩, outer, n, g, L, env, i.ks, i.gt, Fly ⟨w, A, ⟨s.os, outer, s.heap⟩, outer, n, g, L, env, i.ks, i.gt, fun _ _ => False, [], A.deeper env, true⟩ (fun cls vs _ l => Drp l (Ψ cls vs)), [], A.deeper env, true⟩ rfl rfl ⟨rfl, rfl, hfr⟩ V rfl rfl (fun E e s F h => fly_loop hVV hFn F h) (fun _ _ h => by obtain ⟨a, cls, t, vs, m, l, B, k, h1, F, h3⟩ := h; exact ⟨a, cls, t, vs, m, l, B, k, h1, ⟨F.gB, F.led, F.nd, F.bt, F.tu, F.tf, F.fk, F.ns, F.ks, F.gn, F.os, F.Bs, F.ba, F.ff, F.st, ⟨F.z.ab, F.z.kn, F.z.Y, F.z.U⟩⟩, h3⟩) rfl
  (fun fl s' => MeetsX g ⟨s.os, outer, s.heap⟩ Φ Ψ (.ok (.ret (match fl with | .ret v => v | _ => .none))) s') (fun e s' => wpAny (M w) (A.deeper env) (leaving env e) (fun _ s'' => MeetsX g ⟨s.os, outer, s.heap⟩ Φ Ψ (.error e) s'') (fun e' s'' => MeetsX g ⟨s.os, outer, s.heap⟩ Φ Ψ (.error e') s'') s') _ S (fun fl m l s' hk S' => .inl ?_) fun e s' hx => ?_) (fun _ _ h => h) fun _ _ h => h
 ·(refine hideG ?_; intro P0 hP0; obtain ⟨l', R, e, hφ⟩ := hk; refine hP0 ?_; clear hP0 P0)
  exact i2_7 _ l' rfl ((S'.ex e).hp) S'.G S'.O S'.W ((S'.ex e).Z) hφ
 ·exact wpAny_mono (fly_leave hVV hFn hx fun _ _ _ _ h => h) (fun _ _ h => .inr ⟨e, rfl, h⟩) fun _ _ h => h.elim
theorem specD_vc {w : World} {n : Nat} {i : Fi} {vals : List Value} {pre : Heap → Prop} {Lin : Led} {Φ : Value → Led → Prop} {f : Addr} (binds : List (Str × Value)) (r : List Str) (I : FiOk i) (hf : i.f = f) (hcell : noCell i = true)
  (hbind : ∀ s : Shared, (KF w.params).In s.heap → BindsTo s (fdX i.fn i.q [] i.dV i.pm i.c .none) ⟨vals, []⟩ binds) (hks : binds.map (·.1) ++ r = i.ks)
  (h : ∀ c0 : Fx, let c := c0.wg i.gt; c.w = w → c.hz = true → c.Fn → c.V → c.n = n → c.gt = i.gt → c.LpX → pre c.g → Ob c (execs i.fn.body c.env) (fun fl m l => Drp l (Φ (match fl with | .ret v => v | _ => .none))) (unb binds r) Lin) : SpecX w (n + 1) f vals pre Lin Φ (fun _ _ _ => False) := by
 subst hf
 intro A outer g s C H hz hg hp
 exact enterG (Lb := []) (s₁ := s) binds r I hcell (fun E Q hq => hbind s (C.X.keeps H.keep) _ _ _ _ hq) hks C H hz hg (fun _ _ e => e) (fun _ h => nomatch h) (by simp) rfl rfl (Nat.le_refl _) fun c h1 h2 h3 h4 h5 h6 h7 _ h8 => h c h1 h2 h3 h4 h5 h6 h7 (h8 ▸ hp)
theorem specV_vc {w : World} {n : Nat} {i : Fi} {vals rest : List Value} {pre : Heap → Prop} {Lin : Led} {Φ : Value → Led → Prop} {Ψ : Value → List Value → Led → Prop} {f : Addr} (binds : Value → List (Str × Value)) (r : List Str) (I : FiOk i) (hf : i.f = f) (hcell : noCell i = true)
  (hbind : bindArgs (fdX i.fn i.q [] i.dV i.pm i.c .none) ⟨vals, []⟩ = (newTuple rest >>= fun t => pure (binds t))) (hz0 : rest.length ≤ 16777216) (hks : ∀ t, (binds t).map (·.1) ++ r = i.ks)
  (h : ∀ c0 : Fx, let c := c0.wg i.gt; c.w = w → c.hz = true → c.Fn → c.V → c.n = n → c.gt = i.gt → c.LpX → (∀ e s, Fly c (fun cls vs _ l => Drp l (Ψ cls vs)) e s → c.X e s) → pre c.g → ∀ tp, Ob c (execs i.fn.body c.env) (fun fl m l => Drp l (Φ (match fl with | .ret v => v | _ => .none))) (unb (binds (.ref tp)) r) ((tp, tup rest) :: Lin)) : SpecX w (n + 1) f vals pre Lin Φ Ψ := by
 subst hf
 intro A outer g s C H hz hg hp
 exact enterG (Lb := [(s.heap.objs.size, tup rest)]) (s₁ := { s with heap := s.heap.push (tup rest) }) (binds (.ref s.heap.objs.size)) r I hcell (fun E Q hq => by
  rw [hbind]
  exact wpAny_bind (wpAny_newTuple (wpAny_pure hq) (by rw [sizeLine_eq]; exact hz0))) (hks _) C H hz hg (fun b o e => Heap.get?_push_of_some _ e) (fun p hp => by
   have : p = (s.heap.objs.size, tup rest) := by simpa using hp
   subst this
   exact ⟨Heap.get?_push_size _ rfl, size_none _⟩) (by simp) rfl rfl (by show _ ≤ (s.heap.push _).objs.size; rw [Heap.size_push]; exact Nat.le_succ _) fun c h1 h2 h3 h4 h5 h6 h7 hY h8 => h c h1 h2 h3 h4 h5 h6 h7 hY (h8 ▸ hp) _
end
section
noncomputable def ups (p : Nat → Nat) : Nat → Nat → List Nat
 | 0, x => [x]
 | n + 1, x => if x = 0 then [x] else x :: ups p n (p x)
noncomputable def pl (p : Nat → Nat) : List Int := (List.range 9).map fun i => ((p i : Nat) : Int)
noncomputable def il (xs : List Nat) : List Int := xs.map Int.ofNat
theorem pl_get (p : Nat → Nat) {x : Nat} (h : x ≤ 8) : (pl p)[x]? = some ((p x : Nat) : Int) := by
 unfold pl; rw [List.getElem?_map, List.getElem?_range (by lia)]; rfl
theorem LUPS {w : World} {t : Tok} {aP : Addr} {vp : List Value} {kp : Nat} (p : Nat → Nat) (hp8 : ∀ x, p x ≤ 8) (place : Nat) (h8 : place ≤ 8) (hI : Ints vp (pl p)) :
  Spec w 1 312 [.int place t, .ref aP] (fun g => g.get? aP = some (lst vp kp)) (fun v l' => ∃ r us k, v = .ref r ∧ l' = [(r, lst us k)] ∧ Ints us (il (ups p 9 place))) := by
 refine spec_vc [("place", .int place t), ("parents", .ref aP)] ["ups"] fi_law_ups_ok rfl (by kernel_rfl) (by kernel_rfl) (by kernel_rfl) ?_
 intro c0 c hw hz hV hn hgt hX hp
 dsimp only [fi_law_ups] at hgt
 subst hw
 (refine stq hV ?_; intro K qK; walk_at"go")
 (refine qK.n _ _ ?_; (try clear qK K); refine stq hV ?_; intro K qK; walk_at"go")
 let CC1 : Nat → (Loc → Led → Prop) → Prop := fun n P0 => ∀ a us x t1 t2 k ws, x ≤ 8 → us.length + n = 9 → ups p 9 place = us ++ ups p n x → Ints ws (il us) → P0 ([("place", some (.int place t1)), ("parents", some (.ref aP)), ("ups", some (.ref a))]) ([(a, lst (ws ++ [.int (x : Nat) t2]) k)])
 let JJ1 : Nat → Loc → Led → Prop := fun n m l => Lz (CC1 n) m l
 refine vwhile hV hX JJ1 9 .rfl (fun _ f0 => f0 _ ([]) place _ _ _ ([]) h8 rfl rfl (.nil)) ?_
 (rintro n m l hJq; refine Lz.el hJq ?_; clear hJq; rintro a us x t1 t2 k ws hx hus hu hi KT qI)
 have hwl : ws.length = us.length := by rw [hi.len]; simp [il]
 have fin : Ints (ws ++ [.int (x : Nat) t2]) (il (us ++ [x])) := by
  unfold il; rw [List.map_append]; exact hi.snoc _ _
 walk_at"go"
 refine o_last (.inl (by repeat constructor)) (by lia) ?_
 walk_at"go"
 constructor
 ·intro hb
  refine o_lenl (.inl (by repeat constructor)) (by simp; lia) ?_
  walk_at"go"
  have hx0 : x ≠ 0 := by simp at hb; lia
  constructor
  ·intro hl
   refine qI.t _ _ ?_
   (refine ob_gen ?_; intro KK kk)
   (refine stl hV ?_; walk_at"go")
   refine o_append hV ⟨_, _, by exact .inl (by repeat constructor)⟩ ?_
   walk_at"go"
   refine o_last (.inl (by repeat constructor)) (by lia) ?_
   walk_at"go"
   (refine e1_1 (hI.get x _ (pl_get p hx)) ?_; intro t3 h3)
   refine o_lst (Or.inr hp) (by lia) (by lia) (by simpa using h3) ?_
   refine ⟨_, _, _, by repeat constructor, by simp [sizeLine]; lia, kk _ _ _ ?_⟩
   have hn : n ≠ 0 := by simp at hl; lia
   refine (whk (n' := n - 1) (.rfl) (by lia) (fun _ f0 => f0 _ (us ++ [x]) (p x) _ _ _ (ws ++ [.int (x : Nat) t2]) (hp8 x) (by simp; lia) ?_ fin))
   obtain ⟨n, rfl⟩ : ∃ j, n = j + 1 := ⟨n - 1, by lia⟩
   rw [hu, ups, if_neg hx0]
   simp
  ·intro hl
   have hn : n = 0 := by simp at hl; lia
   subst hn
   refine qI.f _ _ (stn ?_)
   (refine qK.n _ _ ?_; (try clear qK K); refine stq hV ?_; intro K qK; walk_at"go")
   refine qK.r _ _ _ ⟨_, _, .rfl, _, _, _, rfl, rfl, ?_⟩
   rw [hu]; exact fin
 ·intro hb
  have hx0 : x = 0 := by simpa using hb
  subst hx0
  refine qI.f _ _ (stn ?_)
  (refine qK.n _ _ ?_; (try clear qK K); refine stq hV ?_; intro K qK; walk_at"go")
  refine qK.r _ _ _ ⟨_, _, .rfl, _, _, _, rfl, rfl, ?_⟩
  cases n <;> (rw [hu]; exact fin)
end
section
structure Nd where
 v : Nat
 (ai dxi al : Addr)
 np : Int
 sc : List Nat
inductive NdO (nd : Nd) (o1 o3 : Obj) : Prop
 | mk (t1 t2 : Tok) (k : Nat) (vs : List Value) (h1 : o1 = niO nd.dxi [some (.int nd.v t1), some (.int nd.np t2), some (.ref nd.al)]) (h2 : o3 = lst vs k) (h3 : Ints vs (il nd.sc))
inductive NdL : List Nd → Led → Prop
 | nil : NdL [] []
 | snoc {ns L nd o1 o3} : NdL ns L → NdO nd o1 o3 → NdL (ns ++ [nd]) ((nd.ai, o1) :: (nd.dxi, emptyDict) :: (nd.al, o3) :: L)
noncomputable def updN (ns : List Nd) (v : Nat) (f : Nd → Nd) : List Nd := ns.map fun z => if z.v = v then f z else z
theorem updN_none {ns : List Nd} {v : Nat} {f : Nd → Nd} (h : v ∉ ns.map (·.v)) : updN ns v f = ns := by
 unfold updN
 conv => rhs; rw [← List.map_id ns]
 refine List.map_congr_left fun z hz => ?_
 rw [if_neg fun e : z.v = v => h (e ▸ List.mem_map_of_mem (f := (·.v)) hz)]; rfl
theorem updN_app {a b : List Nd} {v : Nat} {f : Nd → Nd} : updN (a ++ b) v f = updN a v f ++ updN b v f := by simp [updN]
inductive NdAt (ns : List Nd) (L : Led) (nd : Nd) : Prop
 | mk (o1 o3 : Obj) (h0 : NdO nd o1 o3) (h1 : (nd.ai, o1) ∈ L) (h2 : (nd.dxi, emptyDict) ∈ L) (h3 : (nd.al, o3) ∈ L)
  (h4 : ∀ np' o1', NdO { nd with np := np' } o1' o3 → ∃ L', Up nd.ai o1 o1' L L' ∧ NdL (updN ns nd.v fun z => { z with np := np' }) L')
  (h5 : ∀ sc' o3', NdO { nd with sc := sc' } o1 o3' → ∃ L', Up nd.al o3 o3' L L' ∧ NdL (updN ns nd.v fun z => { z with sc := sc' }) L')
theorem NdL.at {ns : List Nd} {L : Led} (h : NdL ns L) (hn : (ns.map (·.v)).Nodup) {nd : Nd} (hm : nd ∈ ns) : NdAt ns L nd := by
 induction h with
 | nil => cases hm
 | @snoc ns L z o1 o3 hL ho ih =>
  rw [List.map_append, List.nodup_append] at hn
  (refine e0_3 hn ?_; clear hn; intro n1 _ n3)
  rcases List.mem_append.mp hm with hm | hm
  ·(refine hideG ?_; intro P0 hP0; obtain ⟨p1, p3, q0, q1, q2, q3, q4, q5⟩ := ih n1 hm; refine hP0 ?_; clear hP0 P0)
   have hne : z.v ≠ nd.v := fun e => n3 nd.v (List.mem_map_of_mem hm) z.v (by simp) e.symm
   refine ⟨p1, p3, q0, .tail _ (.tail _ (.tail _ q1)), .tail _ (.tail _ (.tail _ q2)), .tail _ (.tail _ (.tail _ q3)), fun np' o1' ho' => ?_, fun sc' o3' ho' => ?_⟩
   ·(refine e1_2 (q4 np' o1' ho') ?_; intro L' U hL')
    refine i1_2 _ (.there (.there (.there U))) ?_
    rw [updN_app, show updN [z] nd.v (fun z => { z with np := np' }) = [z] by simp [updN, hne]]
    exact .snoc hL' ho
   ·(refine e1_2 (q5 sc' o3' ho') ?_; intro L' U hL')
    refine i1_2 _ (.there (.there (.there U))) ?_
    rw [updN_app, show updN [z] nd.v (fun z => { z with sc := sc' }) = [z] by simp [updN, hne]]
    exact .snoc hL' ho
  ·have e : nd = z := by simpa using hm
   subst e
   have hno : nd.v ∉ ns.map (·.v) := fun hq => n3 _ hq _ (by simp) rfl
   refine ⟨o1, o3, ho, .head _, .tail _ (.head _), .tail _ (.tail _ (.head _)), fun np' o1' ho' => ⟨_, .here, ?_⟩, fun sc' o3' ho' => ⟨_, .there (.there .here), ?_⟩⟩
   ·rw [updN_app, updN_none hno, show updN [nd] nd.v (fun z => { z with np := np' }) = [{ nd with np := np' }] by simp [updN]]
    exact NdL.snoc (nd := { nd with np := np' }) hL ho'
   ·rw [updN_app, updN_none hno, show updN [nd] nd.v (fun z => { z with sc := sc' }) = [{ nd with sc := sc' }] by simp [updN]]
    exact NdL.snoc (nd := { nd with sc := sc' }) hL ho'
structure Srt where
 ns : List Nd
 rdy : Option (List Nat)
 (po nf : Nat)
noncomputable def RdyL : Option (List Nat) → Value → Led → Prop
 | none, v, l => v = .none ∧ l = []
 | some rs, v, l => ∃ r vs k, v = .ref r ∧ l = [(r, lst vs k)] ∧ Ints vs (il rs)
noncomputable def kvN (ns : List Nd) : List (Int × Value) := ns.map fun nd => ((nd.v : Int), .ref nd.ai)
noncomputable def sKs (d : Addr) (rv : Value) (po nf : Nat) (t1 t2 t3 t4 t5 t6 : Tok) : Kvs := [(Str.ofString "_node2info", t1, .ref d), (Str.ofString "_ready_nodes", t2, rv), (Str.ofString "_npassedout", t3, .int po t5), (Str.ofString "_nfinished", t4, .int nf t6)]
inductive SorL (w : World) (x : Addr) (st : Srt) (SL : Led) : Prop
 | mk (dx d : Addr) (od : Obj) (n : Nat) (t1 t2 t3 t4 t5 t6 : Tok) (rv : Value) (RL L : Led) (e : SL = (x, instObj 240 dx) :: (dx, iD w.params (sKs d rv st.po st.nf t1 t2 t3 t4 t5 t6) n) :: (d, od) :: (RL ++ L)) (h1 : IsD w od (kvN st.ns)) (h2 : NdL st.ns L) (h3 : (st.ns.map (·.v)).Nodup) (h4 : RdyL st.rdy rv RL)
theorem hasD240 (P : Params) : hasD P 240 = true := by kernel_rfl
theorem tk240 (P : Params) : takerIn (KF P) 240 (Str.ofString "_node2info") = some none ∧ takerIn (KF P) 240 (Str.ofString "_ready_nodes") = some none ∧ takerIn (KF P) 240 (Str.ofString "_npassedout") = some none ∧ takerIn (KF P) 240 (Str.ofString "_nfinished") = some none := ⟨by kernel_rfl, by kernel_rfl, by kernel_rfl, by kernel_rfl⟩
theorem fn240 (P : Params) : findIn (KF P) (.ref 240) (Str.ofString "_node2info") = some none ∧ findIn (KF P) (.ref 240) (Str.ofString "_ready_nodes") = some none ∧ findIn (KF P) (.ref 240) (Str.ofString "_npassedout") = some none ∧ findIn (KF P) (.ref 240) (Str.ofString "_nfinished") = some none := ⟨by kernel_rfl, by kernel_rfl, by kernel_rfl, by kernel_rfl⟩
theorem e169 (P : Params) : (KF P).lookup 169 = some { cls := Value.type "tuple", data := Data.seq #[Value.none] } := by kernel_rfl
theorem TSINIT {w : World} {x dx : Addr} : SpecX w 1 176 [.ref x] (fun _ => True) [(x, instObj 240 dx), (dx, emptyDict)] (fun r l' => r = .none ∧ SorL w x ⟨[], none, 0, 0⟩ l') (fun _ _ _ => False) := by
 refine specD_vc [("self", .ref x), ("graph", .none)] ["node", "predecessors"] fi_TopologicalSorter___init_ok rfl (by kernel_rfl) (fun s X => BindsTo.of_defaults rfl (X _ _ (e169 _)) rfl rfl rfl) (by kernel_rfl) ?_
 intro c0 c hw hz hm hV hn hgt hX hp
 dsimp only [fi_TopologicalSorter___init] at hgt
 subst hw
 (refine stq hV ?_; intro K qK; walk_at"go")
 show Ob c _ _ _ (_ :: (x, instObj 240 dx) :: [(dx, iD c.w.params [] 0)])
 refine o_set hV (cls240 _) (hasD240 _) (tk240 _).1 (.inl (by repeat constructor)) (by repeat constructor) (Nat.le_of_ble_eq_true rfl) fun t1 n1 => ⟨_, by repeat constructor, ?_⟩
 (refine qK.n _ _ ?_; (try clear qK K); refine stq hV ?_; intro K qK; walk_at"go")
 refine o_set hV (cls240 _) (hasD240 _) (tk240 _).2.1 (.inl (by repeat constructor)) (by repeat constructor) (Nat.le_of_ble_eq_true rfl) fun t2 n2 => ⟨_, by repeat constructor, ?_⟩
 (refine qK.n _ _ ?_; (try clear qK K); refine stq hV ?_; intro K qK; walk_at"go")
 refine o_set hV (cls240 _) (hasD240 _) (tk240 _).2.2.1 (.inl (by repeat constructor)) (by repeat constructor) (Nat.le_of_ble_eq_true rfl) fun t3 n3 => ⟨_, by repeat constructor, ?_⟩
 (refine qK.n _ _ ?_; (try clear qK K); refine stq hV ?_; intro K qK; walk_at"go")
 refine o_set hV (cls240 _) (hasD240 _) (tk240 _).2.2.2 (.inl (by repeat constructor)) (by repeat constructor) (Nat.le_of_ble_eq_true rfl) fun t4 n4 => ⟨_, by repeat constructor, ?_⟩
 (refine qK.n _ _ ?_; (try clear qK K); refine stq hV ?_; intro K qK; walk_at"go")
 refine o_isn rfl ?_
 rw [show (!(Value.none == Value.none)) = false from rfl]
 walk_at"go"
 refine ⟨fun h => (nomatch h), fun _ => stn (qK.n _ _ (stn ?_))⟩
 exact ⟨(x, instObj 240 dx) :: (dx, _) :: (_, emptyDict) :: [], [], .take (.there .here) (.take (.there .here) (.take .here .nil)), rfl, dx, _, emptyDict, _, _, _, _, _, _, _, .none, [], [], rfl, isD_nil _, .nil, .nil, rfl, rfl⟩
end
section
section
variable {c : Fx} {m : Loc} {l : Led} {K : KV Flow} {o i e : Expr} {x : Str} {p1 p2 pos : Pos}
theorem o_as2 (hV : c.V) (h : vE c e (fun v m l => vE c o (fun ov m l => vE c i (fun iv m l => Ob c (setItem ov iv v) (fun _ m l => vSto c x v (fun m l => K .next m l) m l) m l) m l) m l) m l)
  (hw : swappedStores [.Subscript o i p1, .Name x p2] e c.env = pure none := by rfl) : Ob c (exec (.Assign [.Subscript o i p1, .Name x p2] e pos) c.env) K m l := by
 intro Q E s S k X
 refine wpAny_Assign_two (vE_ok hV e _ _ _ h _ E s S (fun v m1 l1 s1 h1 S1 => ?_) X) rfl hw
 rw [assign_Subscript]
 refine wpAny_bind (wpAny_holding (vE_ok hV o _ _ _ h1 _ E s1 S1 (fun ov m2 l2 s2 h2 S2 => ?_) X))
 refine wpAny_bind (wpAny_holding (vE_ok hV i _ _ _ h2 _ E s2 S2 (fun iv m3 l3 s3 h3 S3 => ?_) X))
 refine wpAny_bind (wpAny_standAt (wpAny_bind (wpAny_holding (h3 _ E s3 S3 (fun _ m4 l4 s4 h4 S4 => ?_) X))))
 refine wpAny_releaseD ?_
 exact x_aname (vSto_ok hV h4 _ E s4 S4 (fun _ m5 l5 s5 h5 S5 => k _ _ _ _ h5 S5) X)
end
theorem NIINIT {w : World} {x dx : Addr} {v : Value} : SpecX w 1 139 (.ref x :: [v]) (fun _ => True) [(x, instObj 143 dx), (dx, emptyDict)] (fun r l' => r = .none ∧ ∃ al t, l' = [(x, niO dx [some v, some (.int 0 t), some (.ref al)]), (dx, emptyDict), (al, lst [] 0)]) (fun _ _ _ => False) := by
 refine specX_vc [("self", .ref x), ("node", v)] [] fi_NodeInfo___init_ok rfl (by kernel_rfl) (by kernel_rfl) (by kernel_rfl) ?_
 intro c0 c hw hz hm hV hn hgt hX hY hp
 dsimp only [fi_NodeInfo___init] at hgt
 subst hw
 (refine stq hV ?_; intro K qK; walk_at"go")
 show Ob c _ _ _ [(x, niO dx []), (dx, emptyDict)]
 refine o_sset hV (sl_node _) (by repeat constructor) (.inl (by repeat constructor)) rfl ⟨_, by repeat constructor, ?_⟩
 (refine qK.n _ _ ?_; (try clear qK K); refine stq hV ?_; intro K qK; walk_at"go")
 refine o_sset hV (sl_npre _) (by repeat constructor) (.inl (by repeat constructor)) rfl ⟨_, by repeat constructor, ?_⟩
 (refine qK.n _ _ ?_; (try clear qK K); refine stq hV ?_; intro K qK; walk_at"go")
 refine o_sset hV (sl_succ _) (by repeat constructor) (.inl (by repeat constructor)) rfl ⟨_, by repeat constructor, ?_⟩
 (refine qK.n _ _ ?_; (try clear qK K))
 exact stn ⟨[_, _, _], [], .take (.there .here) (.take (.there .here) (.take .here .nil)), rfl, _, _, rfl⟩
noncomputable abbrev Ab := List (Nat × Int × List Nat)
noncomputable def abs (ns : List Nd) : Ab := ns.map fun nd => (nd.v, nd.np, nd.sc)
noncomputable def gniA (a : Ab) (v : Nat) : Ab := if v ∈ a.map (·.1) then a else a ++ [(v, 0, [])]
noncomputable def npA (a : Ab) (v : Nat) (f : Int → Int) : Ab := a.map fun z => if z.1 = v then (z.1, f z.2.1, z.2.2) else z
noncomputable def scA (a : Ab) (v k : Nat) : Ab := a.map fun z => if z.1 = v then (z.1, z.2.1, z.2.2 ++ [k]) else z
theorem abs_keys (ns : List Nd) : (abs ns).map (·.1) = ns.map (·.v) := by simp [abs]
theorem kv_at : ∀ {ns : List Nd} {v : Nat}, (ns.map (·.v)).Nodup → (∀ nd ∈ ns, nd.v = v → valueAt (kvN ns) (v : Int) = some (.ref nd.ai)) ∧ (v ∉ ns.map (·.v) → valueAt (kvN ns) (v : Int) = none)
 | [], v, _ => ⟨fun _ h => (nomatch h), fun _ => rfl⟩
 | z :: ns, v, hn => by
  rw [List.map_cons, List.nodup_cons] at hn
  have ih := kv_at (v := v) hn.2
  have e : valueAt (kvN (z :: ns)) (v : Int) = if z.v = v then some (.ref z.ai) else valueAt (kvN ns) (v : Int) := by
   unfold valueAt kvN
   rw [List.map_cons, List.find?_cons]
   by_cases q : z.v = v
   ·simp [q]
   ·have : ¬ ((z.v : Int) = (v : Int)) := by lia
    simp [q, this]
  rw [e]
  refine ⟨fun nd hm hv => ?_, fun hm => ?_⟩
  ·rcases List.mem_cons.mp hm with rfl | hm
   ·rw [if_pos hv]
   ·rw [if_neg fun q : z.v = v => hn.1 (by rw [q, ← hv]; exact List.mem_map_of_mem hm)]
    exact ih.1 nd hm hv
  ·simp only [List.map_cons, List.mem_cons, not_or] at hm
   rw [if_neg (fun q => hm.1 q.symm)]
   exact ih.2 hm.2
theorem kv_snoc {ns : List Nd} {nd : Nd} (h : nd.v ∉ ns.map (·.v)) : stored (kvN ns) (nd.v : Int) (.ref nd.ai) = kvN (ns ++ [nd]) := by
 unfold stored
 rw [if_neg]
 ·simp [kvN]
 ·simp only [kvN, List.any_map, List.any_eq_true, Function.comp_apply, decide_eq_true_eq, not_exists, not_and]
  exact fun z hz e => h (by have : z.v = nd.v := by lia
                            rw [← this]; exact List.mem_map_of_mem hz)
theorem perm_mid {α : Type} (A B C D : List α) : (A ++ B ++ (C ++ D)).Perm (B ++ (C ++ (A ++ D))) := by
 have h1 : (A ++ B ++ (C ++ D)).Perm (B ++ A ++ (C ++ D)) := List.Perm.append_right _ List.perm_append_comm
 refine h1.trans ?_
 rw [List.append_assoc]
 refine List.Perm.append_left _ ?_
 rw [← List.append_assoc, ← List.append_assoc]
 exact List.Perm.append_right _ List.perm_append_comm
theorem Ex.ofPerm : ∀ {P l R : Led}, l.Perm (P ++ R) → ∃ R', R'.Perm R ∧ Ex l P R'
 | [], l, R, h => ⟨l, h, .nil⟩
 | p :: P, l, R, h => by
  have hm : p ∈ l := h.mem_iff.mpr (by simp)
  (refine e2_1 (List.append_of_mem hm) ?_; rintro a b rfl)
  have h2 : (a ++ b).Perm (P ++ R) := by
   have : (p :: (a ++ b)).Perm (p :: (P ++ R)) := List.perm_middle.symm.trans h
   exact this.cons_inv
  (refine e1_2 (Ex.ofPerm h2) ?_; intro R' hR e)
  refine i1_2 R' hR (.take ?_ e)
  clear h h2 e hm
  induction a with
  | nil => exact .here
  | cons q a ih => exact .there ih
theorem Drp.perm {l l' : Led} {Φ : Led → Prop} (h : l.Perm l') (hP : Φ l') : Drp l Φ := by
 (refine e1_2 (Ex.ofPerm (R := []) (by simpa using h)) ?_; intro R' _ e)
 exact ⟨l', R', e, hP⟩
theorem in143 (P : Params) : findIn (KF P) (.ref 143) "__init__" = some (some (.ref 139)) := by kernel_rfl
theorem ty139 (P : Params) : typeIn (KF P) (.ref 139) = some (.type "function") := by kernel_rfl
inductive GniP (w : World) (x : Addr) (st : Srt) (v : Nat) (r : Value) (l' : Led) : Prop
 | mk (st' : Srt) (nd : Nd) (h1 : SorL w x st' l') (h2 : nd ∈ st'.ns) (h3 : nd.v = v) (h4 : r = .ref nd.ai) (h5 : abs st'.ns = gniA (abs st.ns) v) (h6 : st'.rdy = st.rdy) (h7 : st'.po = st.po) (h8 : st'.nf = st.nf)
theorem GNI {w : World} {x : Addr} {t : Tok} (st : Srt) (SL : Led) (hS : SorL w x st SL) (hz : st.ns.length ≤ 100) (v : Nat) :
  SpecX w 4 183 [.ref x, .int v t] (fun _ => True) SL (GniP w x st v) (fun _ _ _ => False) := by
 refine specX_vc [("self", .ref x), ("node", .int v t)] ["result"] fi_TopologicalSorter__get_nodeinfo_ok rfl (by kernel_rfl) (by kernel_rfl) (by kernel_rfl) ?_
 intro c0 c hw hz' hm hV hn hgt hX hY hp
 dsimp only [fi_TopologicalSorter__get_nodeinfo] at hgt
 subst hw
 (refine hideG ?_; intro P0 hP0; obtain ⟨dx, d, od, n, t1, t2, t3, t4, t5, t6, rv, RL, L, rfl, hD, hL, hnd, hR⟩ := hS; refine hP0 ?_; clear hP0 P0)
 (refine stIf hV ?_; intro K qK KT qI; walk_at"go")
 refine o_get hV (cls240 _) (hasD240 _) (fn240 _).1 (.inl (by repeat constructor)) (.inl (by repeat constructor)) (v := .ref d) rfl rfl ?_
 walk_at"go"
 refine o_bm hV "dict.get" (g_dict (by repeat constructor) hD PySem.F.slot_dict_get PySem.F.type_dict_get) ?_
 walk_at"go"
 refine o_get1 hV (by repeat constructor) hD ?_
 walk_at"go"
 by_cases hin : v ∈ st.ns.map (·.v)
 ·(refine e1_2 (List.mem_map.mp hin) ?_; intro nd hnm hnv)
  rw [(kv_at hnd).1 nd hnm hnv]
  refine o_is (a := .ref nd.ai) (b := .none) rfl ?_
  walk_at"go"
  refine qI.f _ _ (stn (qK.n _ _ ?_))
  (refine stq hV ?_; intro K1 qK1; walk_at"go")
  refine qK1.r _ _ _ ⟨_, _, .rfl, st, nd, ⟨dx, d, od, n, t1, t2, t3, t4, t5, t6, rv, RL, L, rfl, hD, hL, hnd, hR⟩, hnm, hnv, rfl, ?_, rfl, rfl, rfl⟩
  unfold gniA
  rw [if_pos (by rw [abs_keys]; exact hin)]
 ·rw [(kv_at hnd).2 hin]
  refine o_is (a := .none) (b := .none) rfl ?_
  walk_at"go"
  refine qI.t _ _ ?_
  (refine stq hV ?_; intro K1 qK1; walk_at"go")
  refine o_as2 hV ?_
  walk_at"go"
  refine o_mk hV (keep143 _) ?_
  walk_at"go"
  refine o_make hV (makes143 _) (in143 _) (ty139 _) (fun x dx => NIINIT) (by lia) (fun _ _ _ => trivial) ?_
  (rintro ai dxi _ hJq; (refine e2_1 hJq ?_; clear hJq; rintro al tz rfl))
  walk_at"go"
  refine o_get hV (cls240 _) (hasD240 _) (fn240 _).1 (.inl (by repeat constructor)) (.inl (by repeat constructor)) (v := .ref d) rfl rfl ?_
  walk_at"go"
  refine o_dset hV (by repeat constructor) hD (by simp [kvN]; lia) fun od' hD' => ⟨_, by repeat constructor, ?_⟩
  walk_at"go"
  (refine qK1.n _ _ ?_; (try clear qK1 K1))
  refine stn (qK.n _ _ ?_)
  (refine stq hV ?_; intro K1 qK1; walk_at"go")
  have hD2 : IsD c.w od' (kvN (st.ns ++ [⟨v, ai, dxi, al, 0, []⟩])) := by rw [← kv_snoc (nd := ⟨v, ai, dxi, al, 0, []⟩) hin]; exact hD'
  have hL2 : NdL (st.ns ++ [⟨v, ai, dxi, al, 0, []⟩]) ((ai, niO dxi [some (.int v t), some (.int 0 tz), some (.ref al)]) :: (dxi, emptyDict) :: (al, lst [] 0) :: L) := NdL.snoc (nd := ⟨v, ai, dxi, al, 0, []⟩) hL ⟨_, _, _, _, rfl, rfl, .nil⟩
  refine qK1.r _ _ _ (Drp.perm (perm_mid [_, _, _] [_, _, _] RL L) ⟨⟨st.ns ++ [⟨v, ai, dxi, al, 0, []⟩], st.rdy, st.po, st.nf⟩, ⟨v, ai, dxi, al, 0, []⟩, ⟨dx, d, od', n, t1, t2, t3, t4, t5, t6, rv, RL, _, rfl, hD2, hL2, ?_, hR⟩, by simp, rfl, rfl, ?_, rfl, rfl, rfl⟩)
  ·show ((st.ns ++ [(⟨v, ai, dxi, al, 0, []⟩ : Nd)]).map (·.v)).Nodup
   rw [List.map_append, List.nodup_append]
   exact ⟨hnd, by simp, fun a ha b hb e => hin (by simp at hb; rw [← hb, ← e]; exact ha)⟩
  ·unfold gniA
   rw [if_neg (by rw [abs_keys]; exact hin)]
   simp [abs]
end
section
theorem Up.appr {a : Addr} {o o' : Obj} {l l' : Led} (h : Up a o o' l l') : ∀ X : Led, Up a o o' (X ++ l) (X ++ l')
 | [] => h
 | _ :: X => .there (h.appr X)
theorem ob_rot {α : Type} {c : Fx} {t : Sem α} {K : KV α} {m : Loc} {A B : Led} (h : Ob c t K m (B ++ A)) : Ob c t K m (A ++ B) :=
 ob_drp (Drp.perm List.perm_append_comm h)
theorem uniq_nd {ns : List Nd} (hn : (ns.map (·.v)).Nodup) {a b : Nd} (ha : a ∈ ns) (hb : b ∈ ns) (e : a.v = b.v) : a = b := by
 induction ns with
 | nil => cases ha
 | cons z ns ih =>
  rw [List.map_cons, List.nodup_cons] at hn
  rcases List.mem_cons.mp ha with q1 | q1
  ·rcases List.mem_cons.mp hb with q2 | q2
   ·rw [q1, q2]
   ·exact absurd (by rw [← q1, e]; exact List.mem_map_of_mem q2) hn.1
  ·rcases List.mem_cons.mp hb with q2 | q2
   ·exact absurd (by rw [← q2, ← e]; exact List.mem_map_of_mem q1) hn.1
   ·exact ih hn.2 q1 q2
theorem updN_keys (ns : List Nd) (v : Nat) (f : Nd → Nd) (hf : ∀ z, (f z).v = z.v) : (updN ns v f).map (·.v) = ns.map (·.v) := by
 unfold updN
 rw [List.map_map]
 refine List.map_congr_left fun z _ => ?_
 show (if z.v = v then f z else z).v = z.v
 split
 ·exact hf z
 ·rfl
theorem updN_kv (ns : List Nd) (v : Nat) (f : Nd → Nd) (hf : ∀ z, (f z).v = z.v ∧ (f z).ai = z.ai) : kvN (updN ns v f) = kvN ns := by
 unfold updN kvN
 rw [List.map_map]
 refine List.map_congr_left fun z _ => ?_
 show ((((if z.v = v then f z else z) : Nd).v : Int), Value.ref ((if z.v = v then f z else z) : Nd).ai) = _
 split
 ·rw [(hf z).1, (hf z).2]
 ·rfl
theorem abs_np {ns : List Nd} (hn : (ns.map (·.v)).Nodup) {nd : Nd} (hm : nd ∈ ns) (g : Int → Int) : abs (updN ns nd.v fun z => { z with np := g nd.np }) = npA (abs ns) nd.v g := by
 unfold abs updN npA
 rw [List.map_map, List.map_map]
 refine List.map_congr_left fun z hz => ?_
 show ((if z.v = nd.v then { z with np := g nd.np } else z : Nd).v, _, _) = (if z.v = nd.v then (z.v, g z.np, z.sc) else (z.v, z.np, z.sc))
 by_cases e : z.v = nd.v
 ·have := uniq_nd hn hz hm e
  subst this
  simp
 ·simp [e]
theorem abs_sc {ns : List Nd} (hn : (ns.map (·.v)).Nodup) {nd : Nd} (hm : nd ∈ ns) (k : Nat) : abs (updN ns nd.v fun z => { z with sc := nd.sc ++ [k] }) = scA (abs ns) nd.v k := by
 unfold abs updN scA
 rw [List.map_map, List.map_map]
 refine List.map_congr_left fun z hz => ?_
 show ((if z.v = nd.v then { z with sc := nd.sc ++ [k] } else z : Nd).v, _, _) = (if z.v = nd.v then (z.v, z.np, z.sc ++ [k]) else (z.v, z.np, z.sc))
 by_cases e : z.v = nd.v
 ·have := uniq_nd hn hz hm e
  subst this
  simp
 ·simp [e]
section
variable {w : World} {x : Addr} {st : Srt} {SL : Led}
theorem SorL.np (hS : SorL w x st SL) {nd : Nd} (hm : nd ∈ st.ns) : ∃ t1 t2, (nd.ai, niO nd.dxi [some (.int nd.v t1), some (.int nd.np t2), some (.ref nd.al)]) ∈ SL ∧ (nd.dxi, emptyDict) ∈ SL ∧
  ∀ np' t', ∃ SL', Up nd.ai (niO nd.dxi [some (.int nd.v t1), some (.int nd.np t2), some (.ref nd.al)]) (niO nd.dxi [some (.int nd.v t1), some (.int np' t'), some (.ref nd.al)]) SL SL' ∧ SorL w x { st with ns := updN st.ns nd.v fun z => { z with np := np' } } SL' := by
 (refine hideG ?_; intro P0 hP0; obtain ⟨dx, d, od, n, t1, t2, t3, t4, t5, t6, rv, RL, L, rfl, hD, hL, hnd, hR⟩ := hS; refine hP0 ?_; clear hP0 P0)
 (refine hideG ?_; intro P0 hP0; obtain ⟨o1, o3, ⟨s1, s2, k, vs, rfl, rfl, hi⟩, q1, q2, q3, q4, q5⟩ := hL.at hnd hm; refine hP0 ?_; clear hP0 P0)
 refine i2_3 s1 s2 (.tail _ (.tail _ (.tail _ (List.mem_append_right _ q1)))) (.tail _ (.tail _ (.tail _ (List.mem_append_right _ q2)))) (fun np' t' => ?_)
 (refine e1_2 (q4 np' (niO nd.dxi [some (.int nd.v s1), some (.int np' t'), some (.ref nd.al)]) ⟨_, _, _, _, rfl, rfl, hi⟩) ?_; intro L' U hL')
 refine ⟨_, .there (.there (.there (U.appr RL))), dx, d, od, n, t1, t2, t3, t4, t5, t6, rv, RL, L', rfl, ?_, hL', ?_, hR⟩
 ·exact (updN_kv st.ns nd.v (fun z : Nd => { z with np := np' }) fun z => ⟨rfl, rfl⟩).symm ▸ hD
 ·exact (updN_keys st.ns nd.v (fun z : Nd => { z with np := np' }) fun z => rfl).symm ▸ hnd
theorem SorL.sc (hS : SorL w x st SL) {nd : Nd} (hm : nd ∈ st.ns) : ∃ t1 t2 vs k, (nd.ai, niO nd.dxi [some (.int nd.v t1), some (.int nd.np t2), some (.ref nd.al)]) ∈ SL ∧ (nd.dxi, emptyDict) ∈ SL ∧ (nd.al, lst vs k) ∈ SL ∧ Ints vs (il nd.sc) ∧
  ∀ (z : Nat) t', ∃ SL', Up nd.al (lst vs k) (lst (vs ++ [.int z t']) (k + 1)) SL SL' ∧ SorL w x { st with ns := updN st.ns nd.v fun y => { y with sc := nd.sc ++ [z] } } SL' := by
 (refine hideG ?_; intro P0 hP0; obtain ⟨dx, d, od, n, t1, t2, t3, t4, t5, t6, rv, RL, L, rfl, hD, hL, hnd, hR⟩ := hS; refine hP0 ?_; clear hP0 P0)
 (refine hideG ?_; intro P0 hP0; obtain ⟨o1, o3, ⟨s1, s2, k, vs, rfl, rfl, hi⟩, q1, q2, q3, q4, q5⟩ := hL.at hnd hm; refine hP0 ?_; clear hP0 P0)
 refine i4_5 s1 s2 vs k (.tail _ (.tail _ (.tail _ (List.mem_append_right _ q1)))) (.tail _ (.tail _ (.tail _ (List.mem_append_right _ q2)))) (.tail _ (.tail _ (.tail _ (List.mem_append_right _ q3)))) hi (fun z t' => ?_)
 obtain ⟨L', U, hL'⟩ := q5 (nd.sc ++ [z]) (lst (vs ++ [.int z t']) (k + 1)) ⟨_, _, _, _, rfl, rfl, by unfold il; rw [List.map_append]; exact hi.snoc _ _⟩
 refine ⟨_, .there (.there (.there (U.appr RL))), dx, d, od, n, t1, t2, t3, t4, t5, t6, rv, RL, L', rfl, ?_, hL', ?_, hR⟩
 ·exact (updN_kv st.ns nd.v (fun y : Nd => { y with sc := nd.sc ++ [z] }) fun z => ⟨rfl, rfl⟩).symm ▸ hD
 ·exact (updN_keys st.ns nd.v (fun y : Nd => { y with sc := nd.sc ++ [z] }) fun z => rfl).symm ▸ hnd
inductive OwnR (w : World) (x : Addr) (st : Srt) (SL : Led) : Prop
 | mk (dx d : Addr) (n : Nat) (t1 t2 t3 t4 t5 t6 : Tok) (rv : Value) (h1 : (x, instObj 240 dx) ∈ SL) (h2 : (dx, iD w.params (sKs d rv st.po st.nf t1 t2 t3 t4 t5 t6) n) ∈ SL) (h3 : st.rdy = none → rv = .none) (h4 : (st.ns.map (·.v)).Nodup)
theorem SorL.own (hS : SorL w x st SL) : OwnR w x st SL := by
 (refine hideG ?_; intro P0 hP0; obtain ⟨dx, d, od, n, t1, t2, t3, t4, t5, t6, rv, RL, L, rfl, hD, hL, hnd, hR⟩ := hS; refine hP0 ?_; clear hP0 P0)
 refine ⟨dx, d, n, t1, t2, t3, t4, t5, t6, rv, .head _, .tail _ (.head _), fun h => ?_, hnd⟩
 rw [h] at hR; exact hR.1
end
noncomputable def addA (a : Ab) (v : Nat) (ps : List Nat) : Ab := ps.foldl (fun a p => scA (gniA a p) p v) (npA (gniA a v) v (· + ps.length))
theorem gniA_len (a : Ab) (v : Nat) : (gniA a v).length ≤ a.length + 1 := by unfold gniA; split <;> simp
theorem npA_len (a : Ab) (v : Nat) (f : Int → Int) : (npA a v f).length = a.length := by simp [npA]
noncomputable def scLe (a : Ab) (N : Nat) : Prop := ∀ z ∈ a, z.2.2.length ≤ N
theorem scLe.gni {a : Ab} {N : Nat} (h : scLe a N) (v : Nat) : scLe (gniA a v) N := by
 unfold gniA
 split
 ·exact h
 ·intro z hz
  rcases List.mem_append.mp hz with hz | hz
  ·exact h z hz
  ·have : z = (v, 0, []) := by simpa using hz
   rw [this]; exact Nat.zero_le _
theorem scLe.np {a : Ab} {N : Nat} (h : scLe a N) (v : Nat) (f : Int → Int) : scLe (npA a v f) N := by
 intro z hz
 (refine e1_2 (List.mem_map.mp hz) ?_; rintro y hy rfl)
 have := h y hy
 split <;> exact this
theorem um183 (P : Params) : findIn (KF P) (.ref 240) (Str.ofString "_get_nodeinfo") = some (some (.ref 183)) := by kernel_rfl
theorem ty183 (P : Params) : typeIn (KF P) (.ref 183) = some (.type "function") := by kernel_rfl
theorem ADD {w : World} {x : Addr} {t : Tok} (st : Srt) (SL : Led) (hS : SorL w x st SL) (hr0 : st.rdy = none) (v : Nat) (ps : List Nat) (rest : List Value) (hps : Ints rest (il ps)) (hp1 : ps.length ≤ 1) (hlz : st.ns.length ≤ 50) (hsc : scLe (abs st.ns) 50) :
  SpecX w 6 190 (.ref x :: .int v t :: rest) (fun _ => True) SL (fun r l' => r = .none ∧ ∃ st', SorL w x st' l' ∧ abs st'.ns = addA (abs st.ns) v ps ∧ st'.rdy = none ∧ st'.po = st.po ∧ st'.nf = st.nf) (fun _ _ _ => False) := by
 have hrl : rest.length = ps.length := by rw [hps.len]; simp [il]
 refine specV_vc (rest := rest) (fun tp => [(Str.ofString "self", .ref x), (Str.ofString "node", .int v t), (Str.ofString "predecessors", tp)]) ["nodeinfo", "pred", "pred_info"] fi_TopologicalSorter_add_ok rfl (by kernel_rfl) ?_ (by lia) (fun _ => by kernel_rfl) ?_
 ·clear hps
  rcases rest with _ | ⟨a, _ | ⟨b, r⟩⟩
  ·kernel_rfl
  ·kernel_rfl
  ·simp at hrl; lia
 intro c0 c hw hz hm hV hn hgt hX hY hp tp
 dsimp only [fi_TopologicalSorter_add] at hgt
 subst hw
 (refine hideG ?_; intro P0 hP0; obtain ⟨dx, d, n, t1, t2, t3, t4, t5, t6, rv, hx1, hx2, hrv, hnd⟩ := hS.own; refine hP0 ?_; clear hP0 P0)
 rw [hrv hr0] at hx2
 (refine stIf hV ?_; intro K qK KT qI; walk_at"go")
 refine o_get hV (cls240 _) (hasD240 _) (fn240 _).2.1 (Or.inl (.tail _ hx1)) (Or.inl (.tail _ hx2)) (v := .none) rfl rfl ?_
 walk_at"go"
 refine o_isn rfl ?_
 rw [show (!(Value.none == Value.none)) = false from rfl]
 walk_at"go"
 refine qI.f _ _ (stn (qK.n _ _ ?_))
 (refine stq hV ?_; intro K qK; walk_at"go")
 refine o_um hV fi_TopologicalSorter__get_nodeinfo_ok rfl (cls240 _) (Or.inl (.tail _ hx1)) (Or.inl (.tail _ hx2)) (um183 _) (ty183 _) rfl ?_
 walk_at"go"
 refine o_specL hV (GNI st SL hS (by lia) v) (le_n hn rfl) (by (repeat with_reducible first | exact Ex.nil | exact Ex.rfl | (apply Ex.take; focus (with_unfolding_all repeat constructor); done) | apply Ex.drop)) (fun _ _ _ => trivial) ?_
 (rintro _ SL1 hJq; refine hideG ?_; intro P0 hP0; obtain ⟨st1, nd, hS1, hm1, hv1, rfl, ha1, hr1, hp1', hf1⟩ := hJq; refine hP0 ?_; clear hP0 P0)
 walk_at"go"
 (refine qK.n _ _ ?_; (try clear qK K))
 refine ob_rot ?_
 (refine stq hV ?_; intro K qK; walk_at"go")
 have hnd1 : (st1.ns.map (·.v)).Nodup := by obtain ⟨_, _, _, _, _, _, _, _, _, _, _, _, _, h⟩ := hS1.own; exact h
 (refine e2_3 (hS1.np hm1) ?_; intro u1 u2 hni hdi hset)
 refine o_sget hV (sl_npre _) (Or.inl (.tail _ hni)) (Or.inl (.tail _ hdi)) rfl rfl ?_
 walk_at"go"
 refine o_lent (.inl (by repeat constructor)) (by lia) ?_
 walk_at"go"
 refine o_iadd fun t8 => ?_
 walk_at"go"
 (refine e1_2 (hset (nd.np + (rest.length : Nat)) t8) ?_; intro SL2 U2 hS2)
 refine o_sset hV (sl_npre _) (.tail _ hni) (Or.inl (.tail _ hdi)) rfl ⟨_, .there U2, ?_⟩
 (refine qK.n _ _ ?_; (try clear qK K); refine stq hV ?_; intro K qK; walk_at"go")
 have ha2 : abs (updN st1.ns nd.v fun z => { z with np := nd.np + (rest.length : Nat) }) = npA (gniA (abs st.ns) v) v (· + ps.length) := by
  rw [abs_np hnd1 hm1 (· + ((rest.length : Nat) : Int)), ha1, hv1, hrl]
 let CC1 : Nat → (Loc → Led → Prop) → Prop := fun j P0 => ∀ (st2 : Srt) (SL2 : Led) (o1 o2 o3 : Option Value), SorL c.w x st2 SL2 → abs st2.ns = (ps.take j).foldl (fun a p => scA (gniA a p) p v) (npA (gniA (abs st.ns) v) v (· + ps.length)) → st2.rdy = none → st2.po = st.po → st2.nf = st.nf → P0 ([("self", some (.ref x)), ("node", some (.int v t)), ("predecessors", some (.ref tp)), ("nodeinfo", o1), ("pred", o2), ("pred_info", o3)]) ((tp, tup rest) :: SL2)
 let JJ1 : Nat → Loc → Led → Prop := fun j m l => Lz (CC1 j) m l
 refine vfor_tup hV hX rest .rfl JJ1 (fun _ f0 => f0 _ SL2 _ _ _ hS2 ha2 (hr1.trans hr0) hp1' hf1) ?_ ?_ ?_
 ·(rintro j m l hJq; refine Lz.el hJq ?_; clear hJq; rintro st2 SL2 o1 o2 o3 hS2 ha2 hr2 hp2 hf2)
  exact Or.inl (.head _)
 ·(rintro j pv m l I oI hj hjv hJq; refine Lz.el hJq ?_; clear hJq; rintro st2 SL2 o1 o2 o3 hS2 ha2 hr2 hp2 hf2)
  have hjp : j < ps.length := by lia
  obtain ⟨tq, hq⟩ := hps.get j ((ps[j] : Nat) : Int) (by unfold il; rw [List.getElem?_map, List.getElem?_eq_getElem hjp]; rfl)
  rw [hq] at hjv
  cases hjv
  (refine hideG ?_; intro P0 hP0; obtain ⟨dx, d, n, t1, t2, t3, t4, t5, t6, rv, hx1, hx2, hrv, hnd⟩ := hS2.own; refine hP0 ?_; clear hP0 P0)
  have hl2 : st2.ns.length ≤ 100 := by
   have h0 : st2.ns.length = (abs st2.ns).length := by simp [abs]
   have hj0 : j = 0 := by lia
   subst hj0
   rw [h0, ha2]
   simp only [List.take_zero, List.foldl_nil, npA_len]
   have := gniA_len (abs st.ns) v
   have : (abs st.ns).length = st.ns.length := by simp [abs]
   lia
  walk_at"go"
  (refine stq hV ?_; intro K1 qK1; walk_at"go")
  refine o_um hV fi_TopologicalSorter__get_nodeinfo_ok rfl (cls240 _) (Or.inl (.tail _ (.tail _ hx1))) (Or.inl (.tail _ (.tail _ hx2))) (um183 _) (ty183 _) rfl ?_
  walk_at"go"
  refine o_specL hV (GNI st2 SL2 hS2 hl2 ps[j]) (le_n hn rfl) (by (repeat with_reducible first | exact Ex.nil | exact Ex.rfl | (apply Ex.take; focus (with_unfolding_all repeat constructor); done) | apply Ex.drop)) (fun _ _ _ => trivial) ?_
  (rintro _ SL3 hJq; refine hideG ?_; intro P0 hP0; obtain ⟨st3, nd3, hS3, hm3, hv3, rfl, ha3, hr3, hp3, hf3⟩ := hJq; refine hP0 ?_; clear hP0 P0)
  walk_at"go"
  (refine qK1.n _ _ ?_; (try clear qK1 K1))
  refine ob_rot ?_
  (refine stl hV ?_; walk_at"go")
  (refine e4_5 (hS3.sc hm3) ?_; intro w1 w2 ws kk hni3 hdi3 hal3 hi3 happ)
  refine o_sget hV (sl_succ _) (Or.inl (.tail _ (.tail _ hni3))) (Or.inl (.tail _ (.tail _ hdi3))) rfl rfl ?_
  walk_at"go"
  refine o_append hV ⟨_, _, Or.inl (.tail _ (.tail _ hal3))⟩ ?_
  walk_at"go"
  (refine e1_2 (happ v t) ?_; intro SL4 U4 hS4)
  have hwl : ws.length ≤ 100 := by
   have hj0 : j = 0 := by lia
   subst hj0
   have h1 : scLe (abs st3.ns) 50 := by rw [ha3, ha2]; exact ((hsc.gni v).np v _).gni _
   have h2 := h1 (nd3.v, nd3.np, nd3.sc) (List.mem_map_of_mem (f := fun nd : Nd => (nd.v, nd.np, nd.sc)) hm3)
   rw [hi3.len]
   simp [il]
   have : nd3.sc.length ≤ 50 := h2
   lia
  refine ⟨_, _, _, .there (.there U4), by rw [sizeLine_eq]; lia, (lpk (R := []) (.rfl) rfl (fun _ f0 => f0 _ SL4 _ _ _ hS4 ?_ (hr3.trans hr2) (hp3.trans hp2) (hf3.trans hf2)))⟩
  have hnd3 : (st3.ns.map (·.v)).Nodup := by obtain ⟨_, _, _, _, _, _, _, _, _, _, _, _, _, h⟩ := hS3.own; exact h
  show abs (updN st3.ns nd3.v fun y => { y with sc := nd3.sc ++ [v] }) = _
  rw [abs_sc hnd3 hm3, ha3, hv3, ha2, List.take_add_one, List.getElem?_eq_getElem hjp, List.foldl_append]
  rfl
 ·(rintro m l hJq; refine Lz.el hJq ?_; clear hJq; rintro st2 SL2 o1 o2 o3 hS2 ha2 hr2 hp2 hf2)
  refine stn (qK.n _ _ (stn ⟨_, _, .drop .rfl, rfl, st2, hS2, ?_, hr2, hp2, hf2⟩))
  rw [ha2, hrl, List.take_of_length_le (Nat.le_refl _)]
  rfl
end
section
noncomputable def outA (a : Ab) (rs : List Nat) : Ab := rs.foldl (fun a v => npA a v fun _ => -1) a
inductive GetP (w : World) (x : Addr) (st : Srt) (rs : List Nat) (r : Value) (l' : Led) : Prop
 | mk (st' : Srt) (SL' : Led) (b : Addr) (vs : List Value) (h1 : r = .ref b) (h2 : Ints vs (il rs)) (h3 : SorL w x st' SL') (h4 : l' = (b, tup vs) :: SL') (h5 : abs st'.ns = outA (abs st.ns) rs) (h6 : st'.rdy = some []) (h7 : st'.po = st.po + rs.length) (h8 : st'.nf = st.nf)
theorem GETR {w : World} {x : Addr} (st : Srt) (SL : Led) (hS : SorL w x st SL) (rs : List Nat) (hr : st.rdy = some rs) (hrz : rs.length ≤ 100) (hin : ∀ v ∈ rs, v ∈ st.ns.map (·.v)) :
  SpecX w 2 202 [.ref x] (fun _ => True) SL (GetP w x st rs) (fun _ _ _ => False) := by
 refine specX_vc [("self", .ref x)] ["result", "n2i", "node"] fi_TopologicalSorter_get_ready_ok rfl (by kernel_rfl) (by kernel_rfl) (by kernel_rfl) ?_
 intro c0 c hw hz hm hV hn hgt hX hY hp
 dsimp only [fi_TopologicalSorter_get_ready] at hgt
 subst hw
 (refine hideG ?_; intro P0 hP0; obtain ⟨dx, d, od, n, t1, t2, t3, t4, t5, t6, rv, RL, L, rfl, hD, hL, hnd, hR⟩ := hS; refine hP0 ?_; clear hP0 P0)
 rw [hr] at hR
 (refine e3_3 hR ?_; clear hR; intro r vs k hE1 hE2 hi; subst hE1 hE2)
 simp only [List.cons_append, List.nil_append]
 have hvl : vs.length = rs.length := by rw [hi.len]; simp [il]
 (refine stIf hV ?_; intro K qK KT qI; walk_at"go")
 refine o_get hV (cls240 _) (hasD240 _) (fn240 _).2.1 (.inl (by repeat constructor)) (.inl (by repeat constructor)) (v := .ref r) rfl rfl ?_
 walk_at"go"
 refine o_is rfl ?_
 rw [show ((Value.ref r == Value.none)) = false from rfl]
 walk_at"go"
 refine qI.f _ _ (stn (qK.n _ _ ?_))
 (refine stq hV ?_; intro K qK; walk_at"go")
 refine o_get hV (cls240 _) (hasD240 _) (fn240 _).2.1 (.inl (by repeat constructor)) (.inl (by repeat constructor)) (v := .ref r) rfl rfl ?_
 walk_at"go"
 refine o_tupl (.inl (by repeat constructor)) (by lia) fun b => ?_
 walk_at"go"
 (refine qK.n _ _ ?_; (try clear qK K); refine stq hV ?_; intro K qK; walk_at"go")
 refine o_get hV (cls240 _) (hasD240 _) (fn240 _).1 (.inl (by repeat constructor)) (.inl (by repeat constructor)) (v := .ref d) rfl rfl ?_
 walk_at"go"
 (refine qK.n _ _ ?_; (try clear qK K); refine stq hV ?_; intro K qK; walk_at"go")
 refine vfor_tup hV hX vs .rfl (fun j m l => ∃ (ns2 : List Nd) (L2 : Led) (o1 : Option Value), NdL ns2 L2 ∧ (ns2.map (·.v)).Nodup ∧ kvN ns2 = kvN st.ns ∧ ns2.map (·.v) = st.ns.map (·.v) ∧ abs ns2 = outA (abs st.ns) (rs.take j) ∧
   l = (b, tup vs) :: (x, instObj 240 dx) :: (dx, iD c.w.params (sKs d (.ref r) st.po st.nf t1 t2 t3 t4 t5 t6) n) :: (d, od) :: (r, lst vs k) :: L2 ∧
   m = ([("self", some (.ref x)), ("result", some (.ref b)), ("n2i", some (.ref d)), ("node", o1)] : Loc)) ⟨st.ns, L, _, hL, hnd, rfl, rfl, rfl, rfl, rfl⟩ ?_ ?_ ?_
 ·(rintro j m l hJq; refine hideG ?_; intro P0 hP0; obtain ⟨ns2, L2, o1, _, _, _, _, _, rfl, rfl⟩ := hJq; refine hP0 ?_; clear hP0 P0)
  exact Or.inl (.head _)
 ·(rintro j pv m l I oI hj hjv hJq; refine hideG ?_; intro P0 hP0; obtain ⟨ns2, L2, o1, hL2, hn2, hk2, hv2, ha2, rfl, rfl⟩ := hJq; refine hP0 ?_; clear hP0 P0)
  have hjp : j < rs.length := by lia
  obtain ⟨tq, hq⟩ := hi.get j ((rs[j] : Nat) : Int) (by unfold il; rw [List.getElem?_map, List.getElem?_eq_getElem hjp]; rfl)
  rw [hq] at hjv
  cases hjv
  obtain ⟨nd, hnm, hnv⟩ := List.mem_map.mp (show rs[j] ∈ ns2.map (·.v) by rw [hv2]; exact hin _ (List.getElem_mem hjp))
  (refine hideG ?_; intro P0 hP0; obtain ⟨p1, p3, ⟨s1, s2, k3, ws, rfl, rfl, hw⟩, q1, q2, q3, q4, _⟩ := hL2.at hn2 hnm; refine hP0 ?_; clear hP0 P0)
  walk_at"go"
  (refine stl hV ?_; walk_at"go")
  refine o_dget (by repeat constructor) hD (by rw [← hk2]; exact (kv_at hn2).1 nd hnm hnv) ?_
  walk_at"go"
  (refine e1_2 (q4 (-1) (niO nd.dxi [some (.int nd.v s1), some (.int (-1) 353), some (.ref nd.al)]) ⟨_, _, _, _, rfl, rfl, hw⟩) ?_; intro L3 U3 hL3)
  refine o_sset hV (sl_npre _) (.tail _ (.tail _ (.tail _ (.tail _ (.tail _ (.tail _ q1)))))) (Or.inl (.tail _ (.tail _ (.tail _ (.tail _ (.tail _ (.tail _ q2))))))) rfl ⟨_, .there (.there (.there (.there (.there (.there U3))))), ?_⟩
  refine ⟨_, [], .rfl, _, rfl, _, L3, _, hL3, ?_, ?_, ?_, ?_, rfl, rfl⟩
  ·rw [updN_keys ns2 nd.v (fun z : Nd => { z with np := -1 }) fun z => rfl]; exact hn2
  ·rw [updN_kv ns2 nd.v (fun z : Nd => { z with np := -1 }) fun z => ⟨rfl, rfl⟩]; exact hk2
  ·rw [updN_keys ns2 nd.v (fun z : Nd => { z with np := -1 }) fun z => rfl]; exact hv2
  ·rw [abs_np hn2 hnm (fun _ => -1), ha2, hnv, List.take_add_one, List.getElem?_eq_getElem hjp]
   unfold outA
   rw [List.foldl_append]
   rfl
 ·(rintro m l hJq; refine hideG ?_; intro P0 hP0; obtain ⟨ns2, L2, o1, hL2, hn2, hk2, hv2, ha2, rfl, rfl⟩ := hJq; refine hP0 ?_; clear hP0 P0)
  rw [List.take_of_length_le (by lia)] at ha2
  refine stn ?_
  (refine qK.n _ _ ?_; (try clear qK K); refine stq hV ?_; intro K qK; walk_at"go")
  refine o_get hV (cls240 _) (hasD240 _) (fn240 _).2.1 (.inl (by repeat constructor)) (.inl (by repeat constructor)) (v := .ref r) rfl rfl ?_
  walk_at"go"
  refine o_bm0 "list.clear" (g_list (.inl (by repeat constructor)) PySem.F.slot_list_clear PySem.F.type_list_clear) ?_
  refine o_clear (vs := vs) (k := k) (by lia) fun k' => ⟨_, by repeat constructor, ?_⟩
  (refine qK.n _ _ ?_; (try clear qK K); refine stq hV ?_; intro K qK; walk_at"go")
  refine o_get hV (cls240 _) (hasD240 _) (fn240 _).2.2.1 (.inl (by repeat constructor)) (.inl (by repeat constructor)) (v := .int st.po t5) rfl rfl ?_
  walk_at"go"
  refine o_lent (.inl (by repeat constructor)) (by lia) ?_
  walk_at"go"
  refine o_iadd fun t9 => ?_
  walk_at"go"
  refine o_set hV (cls240 _) (hasD240 _) (tk240 _).2.2.1 (.inl (by repeat constructor)) (by repeat constructor) (Nat.le_of_ble_eq_true rfl) fun t8 n8 => ⟨_, by repeat constructor, ?_⟩
  (refine qK.n _ _ ?_; (try clear qK K); refine stq hV ?_; intro K qK; walk_at"go")
  refine qK.r _ _ _ ⟨_, [], .rfl, ⟨ns2, some [], st.po + rs.length, st.nf⟩, _, b, vs, rfl, hi, ⟨dx, d, od, n8, t1, t2, t3, t4, t9, t6, .ref r, [(r, lst [] k')], L2, ?_, hk2 ▸ hD, hL2, hn2, ⟨r, [], k', rfl, rfl, .nil⟩⟩, rfl, ha2, rfl, rfl, rfl⟩
  rw [hvl]
  rfl
end
section
theorem meets_bool_lst (a : Addr) (vs : List Value) (k : Nat) (hz : vs.length < 2 ^ 62) :
  PySem.Meets (Builtin.«bool.__new__» ⟨[.type "bool", .ref a], []⟩) (fun _ R s => s.heap.get? a = some (lst vs k) ∧ ∀ t, R (.ok (.ret (.bool (!vs.isEmpty)))) { s with toks := t }) :=
 PySem.Meets.of_wp fun prog w A R s hs => by
  (refine hideG ?_; intro P0 hP0; obtain ⟨hp, g, d, tk, os⟩ := s; refine hP0 ?_; clear hP0 P0)
  (refine e0_2 hs ?_; clear hs; intro hl hs)
  have f1 := PySem.F.conv_sub_bool
  have hL : Heap.IsList (Shared.heap ⟨hp, g, d, tk, os⟩) a vs.toArray := ⟨_, hl, rfl, k, rfl⟩
  repeat (any_goals (first | assumption | (with_reducible refine wpAny_truthy_list hL (by simp; lia) ?_) | wp_step))
  all_goals first | exact ⟨_, rfl, by simpa using hs _⟩ | skip
section
variable {c : Fx} {m : Loc} {l : Led} {K : KV Value} {a : Addr} {vs : List Value} {k : Nat} {e₁ e₂ : Expr} {pos : Pos}
theorem o_booll (hr : Rd c.g l a (lst vs k)) (hz : vs.length < 2 ^ 62) (h : K (.bool (!vs.isEmpty)) m l) : Ob c (call (.type "bool") [.ref a]) K m l :=
 fun Q E s S kk x => call_bool_1 (meets_bool_lst a vs k hz) ⟨S.rd hr, fun t => ⟨rfl, kk _ _ _ _ h (S.same rfl rfl rfl)⟩⟩
theorem o_or2 (hV : c.V) (h : vE c e₁ (fun v m l => vTr c v (fun b m l => (b = true → K v m l) ∧ (b = false → vE c e₂ K m l)) m l) m l) : Ob c (eval (.BoolOp .Or [e₁, e₂] pos) c.env) K m l := by
 intro Q E s S kk x
 refine BoolOp_or (vE_ok hV e₁ _ _ _ h _ E s S (fun v m1 l1 s1 h1 S1 => vTr_ok h1 _ E s1 S1 (fun b m2 l2 s2 h2 S2 => ?_) x) x)
 cases b with
 | true => exact kk _ _ _ _ (h2.1 rfl) S2
 | false => exact BoolOp_one (vE_ok hV e₂ _ _ _ (h2.2 rfl) Q E s2 S2 kk x)
theorem o_and2 (hV : c.V) (h : vE c e₁ (fun v m l => vTr c v (fun b m l => (b = false → K v m l) ∧ (b = true → vE c e₂ K m l)) m l) m l) : Ob c (eval (.BoolOp .And [e₁, e₂] pos) c.env) K m l := by
 intro Q E s S kk x
 refine BoolOp_and (vE_ok hV e₁ _ _ _ h _ E s S (fun v m1 l1 s1 h1 S1 => vTr_ok h1 _ E s1 S1 (fun b m2 l2 s2 h2 S2 => ?_) x) x)
 cases b with
 | false => exact kk _ _ _ _ (h2.1 rfl) S2
 | true => exact BoolOp_one (vE_ok hV e₂ _ _ _ (h2.2 rfl) Q E s2 S2 kk x)
end
end
section
theorem ISACT {w : World} {x : Addr} (st : Srt) (SL : Led) (hS : SorL w x st SL) (rs : List Nat) (hr : st.rdy = some rs) (hrz : rs.length ≤ 100) :
  SpecX w 2 209 [.ref x] (fun _ => True) SL (fun r l' => r = .bool (decide (st.nf < st.po) || !rs.isEmpty) ∧ SorL w x st l') (fun _ _ _ => False) := by
 refine specX_vc [("self", .ref x)] [] fi_TopologicalSorter_is_active_ok rfl (by kernel_rfl) (by kernel_rfl) (by kernel_rfl) ?_
 intro c0 c hw hz hm hV hn hgt hX hY hp
 dsimp only [fi_TopologicalSorter_is_active] at hgt
 subst hw
 have hS0 := hS
 (refine hideG ?_; intro P0 hP0; obtain ⟨dx, d, od, n, t1, t2, t3, t4, t5, t6, rv, RL, L, rfl, hD, hL, hnd, hR⟩ := hS; refine hP0 ?_; clear hP0 P0)
 rw [hr] at hR
 (refine e3_3 hR ?_; clear hR; intro r vs k hE1 hE2 hi; subst hE1 hE2)
 simp only [List.cons_append, List.nil_append]
 have hvl : vs.length = rs.length := by rw [hi.len]; simp [il]
 have hve : vs.isEmpty = rs.isEmpty := by cases vs <;> cases rs <;> simp_all
 (refine stIf hV ?_; intro K qK KT qI; walk_at"go")
 refine o_get hV (cls240 _) (hasD240 _) (fn240 _).2.1 (.inl (by repeat constructor)) (.inl (by repeat constructor)) (v := .ref r) rfl rfl ?_
 walk_at"go"
 refine o_is rfl ?_
 rw [show ((Value.ref r == Value.none)) = false from rfl]
 walk_at"go"
 refine qI.f _ _ (stn (qK.n _ _ ?_))
 (refine stq hV ?_; intro K qK; walk_at"go")
 refine o_or2 hV ?_
 walk_at"go"
 refine o_get hV (cls240 _) (hasD240 _) (fn240 _).2.2.2 (.inl (by repeat constructor)) (.inl (by repeat constructor)) (v := .int st.nf t6) rfl rfl ?_
 walk_at"go"
 refine o_get hV (cls240 _) (hasD240 _) (fn240 _).2.2.1 (.inl (by repeat constructor)) (.inl (by repeat constructor)) (v := .int st.po t5) rfl rfl ?_
 walk_at"go"
 by_cases q : st.nf < st.po
 ·have q' : decide ((st.nf : Int) < st.po) = true := by simp; lia
  rw [q']
  refine ⟨fun _ => qK.r _ _ _ ⟨_, _, .rfl, ?_, hS0⟩, fun h => (nomatch h)⟩
  simp [q]
 ·have q' : decide ((st.nf : Int) < st.po) = false := by simp; lia
  rw [q']
  refine ⟨fun h => (nomatch h), fun _ => ?_⟩
  refine o_get hV (cls240 _) (hasD240 _) (fn240 _).2.1 (.inl (by repeat constructor)) (.inl (by repeat constructor)) (v := .ref r) rfl rfl ?_
  walk_at"go"
  refine o_booll (.inl (by repeat constructor)) (by lia) (qK.r _ _ _ ⟨_, _, .rfl, ?_, hS0⟩)
  simp [q, hve]
end
section
noncomputable def npOf (a : Ab) (v : Nat) : Option Int := (a.find? fun z => z.1 = v).map (·.2.1)
noncomputable def scOf (a : Ab) (v : Nat) : List Nat := ((a.find? fun z => z.1 = v).map (·.2.2)).getD []
noncomputable def stepS (p : Ab × List Nat) (s : Nat) : Ab × List Nat := (npA p.1 s (· - 1), if npOf (npA p.1 s (· - 1)) s = some 0 then p.2 ++ [s] else p.2)
noncomputable def doneA (p : Ab × List Nat) (v : Nat) : Ab × List Nat := (scOf p.1 v).foldl stepS (npA p.1 v (fun _ => -2), p.2)
theorem Up.keep {a : Addr} {o o' : Obj} {l l' : Led} (h : Up a o o' l l') {p : Addr × Obj} (hp : p ∈ l) (hne : p ≠ (a, o)) : p ∈ l' := by
 induction h with
 | here =>
  rcases List.mem_cons.mp hp with rfl | hp
  ·exact absurd rfl hne
  ·exact .tail _ hp
 | there _ ih =>
  rcases List.mem_cons.mp hp with rfl | hp
  ·exact .head _
  ·exact .tail _ (ih hp)
theorem find_nd : ∀ {ns : List Nd} (_ : (ns.map (·.v)).Nodup) {nd : Nd} (_ : nd ∈ ns), (abs ns).find? (fun z => z.1 = nd.v) = some (nd.v, nd.np, nd.sc)
 | z :: ns, hn, nd, hm => by
  have hn' := hn
  rw [List.map_cons, List.nodup_cons] at hn
  unfold abs
  rw [List.map_cons, List.find?_cons]
  by_cases e : z.v = nd.v
  ·have : z = nd := uniq_nd hn' (.head _) hm e
   subst this
   simp
  ·have : decide (z.v = nd.v) = false := by simpa using e
   simp only [this]
   rcases List.mem_cons.mp hm with rfl | hm
   ·exact absurd rfl e
   ·exact find_nd hn.2 hm
theorem npOf_nd {ns : List Nd} (hn : (ns.map (·.v)).Nodup) {nd : Nd} (hm : nd ∈ ns) : npOf (abs ns) nd.v = some nd.np := by unfold npOf; rw [find_nd hn hm]; rfl
theorem scOf_nd {ns : List Nd} (hn : (ns.map (·.v)).Nodup) {nd : Nd} (hm : nd ∈ ns) : scOf (abs ns) nd.v = nd.sc := by unfold scOf; rw [find_nd hn hm]; rfl
theorem mem_updN {ns : List Nd} {v : Nat} {f : Nd → Nd} {nd : Nd} (hm : nd ∈ ns) (hv : nd.v = v) : f nd ∈ updN ns v f := by
 unfold updN
 refine List.mem_map.mpr ⟨nd, hm, by simp [hv]⟩
theorem lst_ne {a b : Addr} {vs : List Value} {k : Nat} {dx : Addr} {sl : List (Option Value)} : (a, lst vs k) ≠ (b, niO dx sl) := fun h => by
 have := congrArg (fun p : Addr × Obj => p.2.cls) h
 cases this
structure SameN (ns ns2 : List Nd) : Prop where
 kv : kvN ns2 = kvN ns
 ks : ns2.map (·.v) = ns.map (·.v)
theorem SameN.upd {ns ns2 : List Nd} (h : SameN ns ns2) (v : Nat) (q : Int) : SameN ns (updN ns2 v fun z => { z with np := q }) :=
 ⟨(updN_kv ns2 v (fun z : Nd => { z with np := q }) fun z => ⟨rfl, rfl⟩).trans h.kv, (updN_keys ns2 v (fun z : Nd => { z with np := q }) fun z => rfl).trans h.ks⟩
noncomputable def SuIn (a : Ab) (ks : List Nat) : Prop := ∀ z ∈ a, ∀ s ∈ z.2.2, s ∈ ks
theorem SuIn.np {a : Ab} {ks : List Nat} (h : SuIn a ks) (v : Nat) (f : Int → Int) : SuIn (npA a v f) ks := by
 intro z hz
 (refine e1_2 (List.mem_map.mp hz) ?_; rintro y hy rfl)
 have := h y hy
 split <;> exact this
theorem mem_abs {ns : List Nd} {nd : Nd} (h : nd ∈ ns) : (nd.v, nd.np, nd.sc) ∈ abs ns := List.mem_map_of_mem (f := fun nd : Nd => (nd.v, nd.np, nd.sc)) h
theorem DONE {w : World} {x : Addr} (st : Srt) (SL : Led) (hS : SorL w x st SL) (rs : List Nat) (hr : st.rdy = some rs) (nodes : List Nat) (rest : List Value) (hps : Ints rest (il nodes)) (hnz : nodes.length ≤ 100) (hsc : scLe (abs st.ns) 50)
  (hok : ∀ j v, nodes[j]? = some v → v ∈ st.ns.map (·.v) ∧ npOf ((nodes.take j).foldl doneA (abs st.ns, rs)).1 v = some (-1)) (hsu : SuIn (abs st.ns) (st.ns.map (·.v))) (hrz : rs.length ≤ 100) :
  SpecX w 2 223 (.ref x :: rest) (fun _ => True) SL (fun r l' => r = .none ∧ ∃ st', SorL w x st' l' ∧ st'.rdy = some (nodes.foldl doneA (abs st.ns, rs)).2 ∧ abs st'.ns = (nodes.foldl doneA (abs st.ns, rs)).1 ∧ st'.po = st.po ∧ st'.nf = st.nf + nodes.length) (fun _ _ _ => False) := by
 have hrl : rest.length = nodes.length := by rw [hps.len]; simp [il]
 refine specV_vc (rest := rest) (fun tp => [(Str.ofString "self", .ref x), (Str.ofString "nodes", tp)]) ["n2i", "node", "nodeinfo", "stat", "successor", "successor_info"] fi_TopologicalSorter_done_ok rfl (by kernel_rfl) ?_ (by lia) (fun _ => by kernel_rfl) ?_
 ·clear hps hrl
  rcases rest with _ | ⟨a, r⟩
  ·kernel_rfl
  ·kernel_rfl
 intro c0 c hw hz hm hV hn hgt hX hY hp tp
 dsimp only [fi_TopologicalSorter_done] at hgt
 subst hw
 (refine hideG ?_; intro P0 hP0; obtain ⟨dx, d, od, n, t1, t2, t3, t4, t5, t6, rv, RL, L, rfl, hD, hL, hnd, hR⟩ := hS; refine hP0 ?_; clear hP0 P0)
 rw [hr] at hR
 (refine e3_3 hR ?_; clear hR; intro r vs k hE1 hE2 hi; subst hE1 hE2)
 simp only [List.cons_append, List.nil_append]
 (refine stIf hV ?_; intro K qK KT qI; walk_at"go")
 refine o_get hV (cls240 _) (hasD240 _) (fn240 _).2.1 (.inl (by repeat constructor)) (.inl (by repeat constructor)) (v := .ref r) rfl rfl ?_
 walk_at"go"
 refine o_is rfl ?_
 rw [show ((Value.ref r == Value.none)) = false from rfl]
 walk_at"go"
 refine qI.f _ _ (stn (qK.n _ _ ?_))
 (refine stq hV ?_; intro K qK; walk_at"go")
 refine o_get hV (cls240 _) (hasD240 _) (fn240 _).1 (.inl (by repeat constructor)) (.inl (by repeat constructor)) (v := .ref d) rfl rfl ?_
 walk_at"go"
 (refine qK.n _ _ ?_; (try clear qK K); refine stq hV ?_; intro K qK; walk_at"go")
 let CC1 : Nat → (Loc → Led → Prop) → Prop := fun j P0 => ∀ (ns2 : List Nd) (L2 : Led) (rs2 : List Nat) (vr : List Value) (kq n2 : Nat) (u6 : Tok) (o1 o2 o3 o4 o5 : Option Value), NdL ns2 L2 → (ns2.map (·.v)).Nodup → SameN st.ns ns2 → (abs ns2, rs2) = (nodes.take j).foldl doneA (abs st.ns, rs) → Ints vr (il rs2) → scLe (abs ns2) 50 → SuIn (abs ns2) (st.ns.map (·.v)) → rs2.length ≤ 100 + 50 * j → P0 ([("self", some (.ref x)), ("nodes", some (.ref tp)), ("n2i", some (.ref d)), ("node", o1), ("nodeinfo", o2), ("stat", o3), ("successor", o4), ("successor_info", o5)]) ((tp, tup rest) :: (x, instObj 240 dx) :: (dx, iD c.w.params (sKs d (.ref r) st.po (st.nf + j) t1 t2 t3 t4 t5 u6) n2) :: (d, od) :: (r, lst vr kq) :: L2)
 let JJ1 : Nat → Loc → Led → Prop := fun j m l => Lz (CC1 j) m l
 refine vfor_tup hV hX rest .rfl JJ1 (fun _ f0 => f0 (st.ns) L rs vs k n t6 _ _ _ _ _ hL hnd (⟨rfl, rfl⟩) rfl hi hsc hsu (by lia)) ?_ ?_ ?_
 ·(rintro j m l hJq; refine Lz.el hJq ?_; clear hJq; rintro ns2 L2 rs2 vr kq n2 u6 o1 o2 o3 o4 o5 _ _ _ _ _ _ _ _)
  exact Or.inl (.head _)
 ·(rintro j pv m l I oI hj hjv hJq; refine Lz.el hJq ?_; clear hJq; rintro ns2 L2 rs2 vr kq n2 u6 o1 o2 o3 o4 o5 hL2 hn2 hsm ha2 hi2 hsc2 hsu2 hrz2)
  have hjp : j < nodes.length := by lia
  obtain ⟨tq, hq⟩ := hps.get j ((nodes[j] : Nat) : Int) (by unfold il; rw [List.getElem?_map, List.getElem?_eq_getElem hjp]; rfl)
  rw [hq] at hjv
  cases hjv
  (refine e0_2 (hok j nodes[j] (List.getElem?_eq_getElem hjp)) ?_; intro hvm hvn)
  rw [← ha2] at hvn
  obtain ⟨nd, hnm, hnv⟩ := List.mem_map.mp (show nodes[j] ∈ ns2.map (·.v) by rw [hsm.ks]; exact hvm)
  rw [← hnv, npOf_nd hn2 hnm] at hvn
  have hnp : nd.np = -1 := by injection hvn
  (refine hideG ?_; intro P0 hP0; obtain ⟨p1, p3, ⟨s1, s2, k3, ws, rfl, rfl, hw⟩, q1, q2, q3, q4, _⟩ := hL2.at hn2 hnm; refine hP0 ?_; clear hP0 P0)
  rw [hnp] at q1 q4
  have hva : valueAt (kvN st.ns) ((nodes[j] : Nat) : Int) = some (.ref nd.ai) := by rw [← hsm.kv]; exact (kv_at hn2).1 nd hnm hnv
  walk_at"go"
  (refine stIf hV ?_; intro K1 qK1 KT1 qI1; walk_at"go")
  refine o_bm hV "dict.get" (g_dict (by repeat constructor) hD PySem.F.slot_dict_get PySem.F.type_dict_get) ?_
  walk_at"go"
  refine o_get1 hV (by repeat constructor) hD ?_
  walk_at"go"
  rw [hva]
  refine o_is (a := .ref nd.ai) (b := .none) rfl ?_
  walk_at"go"
  refine qI1.f _ _ (stn (qK1.n _ _ ?_))
  (refine stq hV ?_; intro K1 qK1; walk_at"go")
  refine o_sget hV (sl_npre _) (Or.inl (.tail _ (.tail _ (.tail _ (.tail _ (.tail _ (.tail _ q1))))))) (Or.inl (.tail _ (.tail _ (.tail _ (.tail _ (.tail _ (.tail _ q2))))))) rfl rfl ?_
  walk_at"go"
  (refine qK1.n _ _ ?_; (try clear qK1 K1))
  (refine stIf hV ?_; intro K1 qK1 KT1 qI1; walk_at"go")
  refine qI1.f _ _ (stn (qK1.n _ _ ?_))
  (refine stq hV ?_; intro K1 qK1; walk_at"go")
  (refine e1_2 (q4 (-2) (niO nd.dxi [some (.int nd.v s1), some (.int (-2) 356), some (.ref nd.al)]) ⟨_, _, _, _, rfl, rfl, hw⟩) ?_; intro L3 U3 hL3)
  refine o_sset hV (sl_npre _) (.tail _ (.tail _ (.tail _ (.tail _ (.tail _ (.tail _ q1)))))) (Or.inl (.tail _ (.tail _ (.tail _ (.tail _ (.tail _ (.tail _ q2))))))) rfl ⟨_, .there (.there (.there (.there (.there (.there U3))))), ?_⟩
  have hm3 : ({ nd with np := -2 } : Nd) ∈ updN ns2 nd.v fun z => { z with np := -2 } := mem_updN (f := fun z : Nd => { z with np := -2 }) hnm rfl
  have hsm3 := hsm.upd nd.v (-2)
  have hn3 : ((updN ns2 nd.v fun z => { z with np := -2 }).map (·.v)).Nodup := by rw [hsm3.ks, ← hsm.ks]; exact hn2
  have ha3 := abs_np hn2 hnm (fun _ => -2)
  have hsc3 : scLe (abs (updN ns2 nd.v fun z => { z with np := -2 })) 50 := by rw [ha3]; exact hsc2.np _ _
  have hsu3 : SuIn (abs (updN ns2 nd.v fun z => { z with np := -2 })) (st.ns.map (·.v)) := by rw [ha3]; exact hsu2.np _ _
  have hscn := hsu2 _ (mem_abs hnm)
  have hscl : nd.sc.length ≤ 50 := hsc2 _ (mem_abs hnm)
  generalize (updN ns2 nd.v fun z => { z with np := -2 }) = ns3 at *
  (refine hideG ?_; intro P0 hP0; obtain ⟨p1', p3', ⟨s1', s2', k3', ws', rfl, rfl, hw'⟩, q1', q2', q3', _, _⟩ := hL3.at hn3 hm3; refine hP0 ?_; clear hP0 P0)
  have hwl : ws'.length = nd.sc.length := by rw [hw'.len]; simp [il]
  (refine qK1.n _ _ ?_; (try clear qK1 K1); refine stq hV ?_; intro K1 qK1; walk_at"go")
  refine o_sget hV (sl_succ _) (Or.inl (.tail _ (.tail _ (.tail _ (.tail _ (.tail _ (.tail _ q1'))))))) (Or.inl (.tail _ (.tail _ (.tail _ (.tail _ (.tail _ (.tail _ q2'))))))) rfl rfl ?_
  walk_at"go"
  let CC2 : Nat → (Loc → Led → Prop) → Prop := fun i P0 => ∀ (ns4 : List Nd) (L4 : Led) (rs4 : List Nat) (vr4 : List Value) (k4 : Nat) (o4 o5 : Option Value), NdL ns4 L4 → (ns4.map (·.v)).Nodup → SameN st.ns ns4 → (abs ns4, rs4) = (nd.sc.take i).foldl stepS (abs ns3, rs2) → Ints vr4 (il rs4) → scLe (abs ns4) 50 → SuIn (abs ns4) (st.ns.map (·.v)) → rs4.length ≤ 100 + 50 * j + i → (nd.al, lst ws' k3') ∈ L4 → P0 ([("self", some (.ref x)), ("nodes", some (.ref tp)), ("n2i", some (.ref d)), ("node", some (.int (nodes[j] : Nat) tq)), ("nodeinfo", some (.ref nd.ai)), ("stat", some (.int (-1) s2)), ("successor", o4), ("successor_info", o5)]) ((I, oI) :: (tp, tup rest) :: (x, instObj 240 dx) :: (dx, iD c.w.params (sKs d (.ref r) st.po (st.nf + j) t1 t2 t3 t4 t5 u6) n2) :: (d, od) :: (r, lst vr4 k4) :: L4)
  let JJ2 : Nat → Loc → Led → Prop := fun i m l => Lz (CC2 i) m l
  refine vfor_list hV hX ws' .rfl JJ2 (fun _ f0 => f0 ns3 L3 rs2 vr kq _ _ hL3 hn3 hsm3 rfl hi2 hsc3 hsu3 (by lia) q3') ?_ ?_ ?_
  ·(rintro i m l hJq; refine Lz.el hJq ?_; clear hJq; rintro ns4 L4 rs4 vr4 k4 o4 o5 _ _ _ _ _ _ _ _ hal)
   exact ⟨_, Or.inl (.tail _ (.tail _ (.tail _ (.tail _ (.tail _ (.tail _ hal))))))⟩
  ·(rintro i pv m l I2 oI2 hii hiv hJq; refine Lz.el hJq ?_; clear hJq; rintro ns4 L4 rs4 vr4 k4 o4 o5 hL4 hn4 hsm4 ha4 hi4 hsc4 hsu4 hrz4 hal)
   have hip : i < nd.sc.length := by lia
   obtain ⟨tq2, hq2⟩ := hw'.get i ((nd.sc[i] : Nat) : Int) (by unfold il; rw [List.getElem?_map, List.getElem?_eq_getElem hip]; rfl)
   rw [hq2] at hiv
   cases hiv
   obtain ⟨ne, hem, hev⟩ := List.mem_map.mp (show nd.sc[i] ∈ ns4.map (·.v) by rw [hsm4.ks]; exact hscn _ (List.getElem_mem hip))
   (refine hideG ?_; intro P0 hP0; obtain ⟨_, _, ⟨s6, s7, k6, ws6, rfl, rfl, hw6⟩, e1, e2, e3, e4, _⟩ := hL4.at hn4 hem; refine hP0 ?_; clear hP0 P0)
   walk_at"go"
   (refine stq hV ?_; intro K1 qK1; walk_at"go")
   refine o_dget (by repeat constructor) hD (by rw [← hsm4.kv]; exact (kv_at hn4).1 ne hem hev) ?_
   walk_at"go"
   (refine qK1.n _ _ ?_; (try clear qK1 K1); refine stq hV ?_; intro K1 qK1; walk_at"go")
   refine o_sget hV (sl_npre _) (Or.inl (.tail _ (.tail _ (.tail _ (.tail _ (.tail _ (.tail _ (.tail _ e1)))))))) (Or.inl (.tail _ (.tail _ (.tail _ (.tail _ (.tail _ (.tail _ (.tail _ e2)))))))) rfl rfl ?_
   walk_at"go"
   refine o_isub fun t9 => ?_
   (refine e1_2 (e4 (ne.np - 1) (niO ne.dxi [some (.int ne.v s6), some (.int (ne.np - 1) t9), some (.ref ne.al)]) ⟨_, _, _, _, rfl, rfl, hw6⟩) ?_; intro L5 U5 hL5)
   walk_at"go"
   refine o_sset hV (sl_npre _) (.tail _ (.tail _ (.tail _ (.tail _ (.tail _ (.tail _ (.tail _ e1))))))) (Or.inl (.tail _ (.tail _ (.tail _ (.tail _ (.tail _ (.tail _ (.tail _ e2)))))))) rfl ⟨_, .there (.there (.there (.there (.there (.there (.there U5)))))), ?_⟩
   have hal5 : (nd.al, lst ws' k3') ∈ L5 := U5.keep hal lst_ne
   have hm5 : ({ ne with np := ne.np - 1 } : Nd) ∈ updN ns4 ne.v fun z => { z with np := ne.np - 1 } := mem_updN (f := fun z : Nd => { z with np := ne.np - 1 }) hem rfl
   have hsm5 := hsm4.upd ne.v (ne.np - 1)
   have hn5 : ((updN ns4 ne.v fun z => { z with np := ne.np - 1 }).map (·.v)).Nodup := by rw [hsm5.ks, ← hsm4.ks]; exact hn4
   have ha5 := abs_np hn4 hem (fun z => z - 1)
   have hsc5 : scLe (abs (updN ns4 ne.v fun z => { z with np := ne.np - 1 })) 50 := by rw [ha5]; exact hsc4.np _ _
   have hsu5 : SuIn (abs (updN ns4 ne.v fun z => { z with np := ne.np - 1 })) (st.ns.map (·.v)) := by rw [ha5]; exact hsu4.np _ _
   generalize (updN ns4 ne.v fun z => { z with np := ne.np - 1 }) = ns5 at *
   have hnp5 : npOf (abs ns5) ne.v = some (ne.np - 1) := npOf_nd hn5 hm5
   have hst : (nd.sc.take (i + 1)).foldl stepS (abs ns3, rs2) = (abs ns5, if ne.np - 1 = 0 then rs4 ++ [nd.sc[i]] else rs4) := by
    rw [List.take_add_one, List.getElem?_eq_getElem hip, List.foldl_append, ← ha4]
    show stepS (abs ns4, rs4) nd.sc[i] = _
    unfold stepS
    rw [← hev]
    show (npA (abs ns4) ne.v (fun z => z - 1), if npOf (npA (abs ns4) ne.v (fun z => z - 1)) ne.v = some 0 then _ else _) = _
    rw [← ha5, hnp5]
    by_cases h0 : ne.np - 1 = 0
    ·rw [if_pos h0, if_pos (by rw [h0])]
    ·rw [if_neg h0, if_neg (fun h => h0 (by injection h))]
   have hvl4 : vr4.length = rs4.length := by rw [hi4.len]; simp [il]
   (refine hideG ?_; intro P0 hP0; obtain ⟨_, _, ⟨z6, z7, z8, zs6, rfl, rfl, _⟩, f1, f2, _, _, _⟩ := hL5.at hn5 hm5; refine hP0 ?_; clear hP0 P0)
   (refine qK1.n _ _ ?_; (try clear qK1 K1))
   (refine stIf hV ?_; intro K1 qK1 KT1 qI1; walk_at"go")
   refine o_sget hV (sl_npre _) (Or.inl (.tail _ (.tail _ (.tail _ (.tail _ (.tail _ (.tail _ (.tail _ f1)))))))) (Or.inl (.tail _ (.tail _ (.tail _ (.tail _ (.tail _ (.tail _ (.tail _ f2)))))))) rfl rfl ?_
   walk_at"go"
   by_cases h0 : ne.np - 1 = 0
   ·rw [if_pos h0] at hst
    refine kbq (show (ne.np - 1 == 0) = true from by simp [h0]) (qI1.t _ _ ?_)
    (refine stl hV ?_; walk_at"go")
    refine o_get hV (cls240 _) (hasD240 _) (fn240 _).2.1 (.inl (by repeat constructor)) (.inl (by repeat constructor)) (v := .ref r) rfl rfl ?_
    walk_at"go"
    refine o_append hV ⟨_, _, by exact .inl (by repeat constructor)⟩ ?_
    walk_at"go"
    refine ⟨_, _, _, by repeat constructor, by rw [sizeLine_eq]; lia, qK1.n _ _ (stn (lpk (R := []) (.rfl) rfl (fun _ f0 => f0 ns5 L5 (rs4 ++ [nd.sc[i]]) _ _ _ _ hL5 hn5 hsm5 (hst.symm) ?_ hsc5 hsu5 (by simp; lia) hal5)))⟩
    have := hi4.snoc ((nd.sc[i] : Nat) : Int) tq2
    unfold il at this ⊢
    rw [List.map_append]
    exact this
   ·rw [if_neg h0] at hst
    refine kbq (show (ne.np - 1 == 0) = false from by simpa using h0) (qI1.f _ _ (stn (qK1.n _ _ (stn (lpk (R := []) (.rfl) rfl (fun _ f0 => f0 ns5 L5 rs4 vr4 k4 _ _ hL5 hn5 hsm5 (hst.symm) hi4 hsc5 hsu5 (by lia) hal5))))))
  ·(rintro m l hJq; refine Lz.el hJq ?_; clear hJq; rintro ns4 L4 rs4 vr4 k4 o4 o5 hL4 hn4 hsm4 ha4 hi4 hsc4 hsu4 hrz4 hal)
   rw [List.take_of_length_le (by lia)] at ha4
   refine stn (qK1.n _ _ ?_)
   (refine stl hV ?_; walk_at"go")
   refine o_get hV (cls240 _) (hasD240 _) (fn240 _).2.2.2 (.inl (by repeat constructor)) (.inl (by repeat constructor)) (v := .int ((st.nf + j : Nat) : Int) u6) rfl rfl ?_
   walk_at"go"
   refine o_iadd fun t9 => ?_
   walk_at"go"
   refine o_set hV (cls240 _) (hasD240 _) (tk240 _).2.2.2 (.inl (by repeat constructor)) (by repeat constructor) (Nat.le_of_ble_eq_true rfl) fun t8 n8 => ⟨_, by repeat constructor, ?_⟩
   refine (lpk (R := []) (.rfl) rfl (fun _ f0 => f0 ns4 L4 rs4 vr4 k4 n8 t9 _ _ _ _ _ hL4 hn4 hsm4 ?_ hi4 hsc4 hsu4 (by lia)))
   rw [List.take_add_one, List.getElem?_eq_getElem hjp, List.foldl_append, ← ha2]
   show _ = doneA (abs ns2, rs2) nodes[j]
   unfold doneA
   rw [← hnv, scOf_nd hn2 hnm, ha4, ha3]
 ·(rintro m l hJq; refine Lz.el hJq ?_; clear hJq; rintro ns2 L2 rs2 vr kq n2 u6 o1 o2 o3 o4 o5 hL2 hn2 hsm ha2 hi2 hsc2 hsu2 hrz2)
  rw [List.take_of_length_le (by lia)] at ha2
  have ha3 : abs ns2 = (nodes.foldl doneA (abs st.ns, rs)).1 := by rw [← ha2]
  have ha4 : rs2 = (nodes.foldl doneA (abs st.ns, rs)).2 := by rw [← ha2]
  refine stn (qK.n _ _ (stn ⟨_, _, .drop .rfl, rfl, ⟨ns2, some rs2, st.po, st.nf + nodes.length⟩, ⟨dx, d, od, n2, t1, t2, t3, t4, t5, u6, .ref r, [(r, lst vr kq)], L2, ?_, hsm.kv ▸ hD, hL2, hn2, ⟨r, vr, kq, rfl, rfl, hi2⟩⟩, by rw [ha4], ha3, rfl, rfl⟩))
  rw [hrl]
  rfl
end
section
section
variable {c : Fx} {m : Loc} {l : Led} {K : KV Value}
theorem str_empty_app (a : Str) : Str.empty ++ a = a := by
 show Str.mk (#[] ++ a.cps) = a
 rw [Array.empty_append]
theorem o_fs3 (hV : c.V) {e1 e3 : Expr} {x : Str} {np fp pos : Pos} (h : vE c e1 (fun v1 m l => ∃ a t, v1 = .str a t ∧ a.length ≤ 1000 ∧ vGet c m x np (fun v m l => ∃ (i : Int) (t : Tok), v = .int i t ∧ i.natAbs < 1000000 ∧
   vE c e3 (fun v3 m l => ∃ b t, v3 = .str b t ∧ b.length ≤ 1000 ∧ ∀ t', K (.str (a ++ Str.ofString (toString i) ++ b) t') m l) m l) l) m l) :
  Ob c (eval (.JoinedStr [e1, .FormattedValue (.Name x np) 114 none fp, e3] pos) c.env) K m l := by
 intro Q E s S kk xx
 refine PySem.wpAny_JoinedStr ?_
 refine vE_ok hV _ _ _ _ h _ E s S (fun v1 m1 l1 s1 h1 S1 => ?_) xx
 (refine e2_3 h1 ?_; clear h1; intro a t hE1 ha h1; subst hE1)
 refine i2_3 a t rfl ?_ ?_
 ·rw [sizeLine_eq]; simp only [strLen_append]; show 0 + a.length ≤ _; lia
 refine PySem.wpAny_FormattedValue_repr (vGet_ok hV h1 _ E s1 S1 (fun v2 m2 l2 s2 h2 S2 => ?_) xx)
 (refine e2_3 h2 ?_; clear h2; intro i t2 hE1 hi h2; subst hE1)
 have hlog : i.natAbs.log2 < 1920 := by
  by_cases h0 : i.natAbs = 0
  ·rw [h0]; decide
  ·rw [Nat.log2_lt h0]; exact Nat.lt_trans hi (by decide)
 have hil : (Str.ofString (toString i)).length ≤ 10 := by
  have e := int_text_length_le10 (a := i) (k := 9) (by decide) (by lia)
  rw [PySem.ofString_length]; lia
 refine PySem.wpAny_pyReprObj_gives (typeIs_int _ i t2) PySem.F.slot_int_repr PySem.F.entry_int_repr (PySem.F.args_int_repr_1 _) (PySem.gives_int_repr i t2 hlog) ?_ (hx := PySem.int_text_fits hlog)
 refine PyProof.Rows.formatField_str (fun t' tk => ?_) (PySem.int_text_fits hlog)
 refine i2_3 _ t' rfl ?_ ?_
 ·simp only [strLen_append]; rw [sizeLine_eq]; show 0 + a.length + _ ≤ _; lia
 refine vE_ok hV _ _ _ _ h2 _ E _ (S2.same rfl rfl rfl) (fun v3 m3 l3 s3 h3 S3 => ?_) xx
 (refine e2_3 h3 ?_; clear h3; intro b t3 hE1 hb h3; subst hE1)
 refine i2_3 b t3 rfl ?_ ?_
 ·simp only [strLen_append]; rw [sizeLine_eq]; show 0 + a.length + _ + _ ≤ _; lia
 refine ⟨?_, kk _ _ _ _ ?_ (S3.same rfl rfl rfl)⟩
 ·simp only [strLen_append]; rw [sizeLine_eq]; show 0 + a.length + _ + _ ≤ _; lia
 ·rw [show Str.empty ++ a = a from str_empty_app a]; exact h3 _
end
end
section
noncomputable def refW (q : Int) : Str := if 0 ≤ q then Str.ofString " was not passed out (still not ready)" else Str.ofString " was already marked done"
theorem DONEX {w : World} {x : Addr} {tv : Tok} (st : Srt) (SL : Led) (hS : SorL w x st SL) (rs : List Nat) (hr : st.rdy = some rs) (v : Nat) (hvz : v < 1000) (hvm : v ∈ st.ns.map (·.v)) (q : Int) (hvn : npOf (abs st.ns) v = some q) (hq : 0 ≤ q ∨ q = -2) :
  SpecX w 2 223 [.ref x, .int v tv] (fun _ => True) SL (fun r l' => False) (fun cls vs l' => cls = .type "ValueError" ∧ (∃ t, vs = [.str (Str.ofString "node " ++ Str.ofString (toString (v : Int)) ++ refW q) t]) ∧ SorL w x st l') := by
 refine specV_vc (rest := [.int v tv]) (fun tp => [(Str.ofString "self", .ref x), (Str.ofString "nodes", tp)]) ["n2i", "node", "nodeinfo", "stat", "successor", "successor_info"] fi_TopologicalSorter_done_ok rfl (by kernel_rfl) (by kernel_rfl) (Nat.le_of_ble_eq_true rfl) (fun _ => by kernel_rfl) ?_
 intro c0 c hw hz hm hV hn hgt hX hY hp tp
 dsimp only [fi_TopologicalSorter_done] at hgt
 subst hw
 have hS0 := hS
 (refine hideG ?_; intro P0 hP0; obtain ⟨dx, d, od, n, t1, t2, t3, t4, t5, t6, rv, RL, L, rfl, hD, hL, hnd, hR⟩ := hS; refine hP0 ?_; clear hP0 P0)
 rw [hr] at hR
 (refine e3_3 hR ?_; clear hR; intro r vs k hE1 hE2 hi; subst hE1 hE2)
 simp only [List.cons_append, List.nil_append]
 (refine stIf hV ?_; intro K qK KT qI; walk_at"go")
 refine o_get hV (cls240 _) (hasD240 _) (fn240 _).2.1 (.inl (by repeat constructor)) (.inl (by repeat constructor)) (v := .ref r) rfl rfl ?_
 walk_at"go"
 refine o_is rfl ?_
 rw [show ((Value.ref r == Value.none)) = false from rfl]
 walk_at"go"
 refine qI.f _ _ (stn (qK.n _ _ ?_))
 (refine stq hV ?_; intro K qK; walk_at"go")
 refine o_get hV (cls240 _) (hasD240 _) (fn240 _).1 (.inl (by repeat constructor)) (.inl (by repeat constructor)) (v := .ref d) rfl rfl ?_
 walk_at"go"
 (refine qK.n _ _ ?_; (try clear qK K); refine stq hV ?_; intro K qK; walk_at"go")
 refine vfor_tup hV hX [.int v tv] .rfl (fun j m l => j = 0 ∧ l = (tp, tup [.int v tv]) :: (x, instObj 240 dx) :: (dx, iD c.w.params (sKs d (.ref r) st.po st.nf t1 t2 t3 t4 t5 t6) n) :: (d, od) :: (r, lst vs k) :: L ∧
   m = ([("self", some (.ref x)), ("nodes", some (.ref tp)), ("n2i", some (.ref d)), ("node", none), ("nodeinfo", none), ("stat", none), ("successor", none), ("successor_info", none)] : Loc)) ⟨rfl, rfl, rfl⟩ ?_ ?_ ?_
 ·(rintro j m l hJq; (refine e0_3 hJq ?_; clear hJq; intro _ hE1 hE2; subst hE1 hE2))
  exact Or.inl (.head _)
 ·(rintro j pv m l I oI hj hjv hJq; (refine e0_3 hJq ?_; clear hJq; intro hE1 hE2 hE3; subst hE1 hE2 hE3))
  cases hjv
  (refine e1_2 (List.mem_map.mp hvm) ?_; intro nd hnm hnv)
  rw [← hnv, npOf_nd hnd hnm] at hvn
  have hnp : nd.np = q := by injection hvn
  (refine hideG ?_; intro P0 hP0; obtain ⟨p1, p3, ⟨s1, s2, k3, ws, rfl, rfl, hw⟩, q1, q2, q3, q4, _⟩ := hL.at hnd hnm; refine hP0 ?_; clear hP0 P0)
  rw [hnp] at q1 q4
  have hva : valueAt (kvN st.ns) ((v : Nat) : Int) = some (.ref nd.ai) := (kv_at hnd).1 nd hnm hnv
  walk_at"go"
  (refine stIf hV ?_; intro K1 qK1 KT1 qI1; walk_at"go")
  refine o_bm hV "dict.get" (g_dict (by repeat constructor) hD PySem.F.slot_dict_get PySem.F.type_dict_get) ?_
  walk_at"go"
  refine o_get1 hV (by repeat constructor) hD ?_
  walk_at"go"
  rw [hva]
  refine o_is (a := .ref nd.ai) (b := .none) rfl ?_
  walk_at"go"
  refine qI1.f _ _ (stn (qK1.n _ _ ?_))
  (refine stq hV ?_; intro K1 qK1; walk_at"go")
  refine o_sget hV (sl_npre _) (Or.inl (.tail _ (.tail _ (.tail _ (.tail _ (.tail _ (.tail _ q1))))))) (Or.inl (.tail _ (.tail _ (.tail _ (.tail _ (.tail _ (.tail _ q2))))))) rfl rfl ?_
  walk_at"go"
  (refine qK1.n _ _ ?_; (try clear qK1 K1))
  (refine stIf hV ?_; intro K1 qK1 KT1 qI1; walk_at"go")
  have hq1 : (q != -1) = true := by rcases hq with h | h <;> simp <;> lia
  rw [hq1]
  refine qI1.t _ _ ?_
  (refine stIf hV ?_; intro K2 qK2 KT2 qI2; walk_at"go")
  by_cases h0 : 0 ≤ q
  ·refine kbq (show decide (q ≥ 0) = true from decide_eq_true h0) (qI2.t _ _ ?_)
   (refine stl hV ?_; walk_at"go")
   refine o_raise hV hY PySem.F.excCall_ValueError PySem.F.excRaise_ValueError ?_
   walk_at"go"
   refine o_fs3 hV ?_
   walk_at"go"
   refine ⟨_, _, rfl, Nat.le_of_ble_eq_true rfl, _, _, rfl, by lia, fun t => ⟨_, _, rfl, Nat.le_of_ble_eq_true rfl, fun t' => ⟨by rw [sizeLine_eq]; decide, _, _, .drop (.drop .rfl), ⟨t', ?_⟩, hS0⟩⟩⟩
   rw [refW, if_pos h0]
  ·refine kbq (show decide (q ≥ 0) = false from decide_eq_false h0) (qI2.f _ _ ?_)
   have hq2 : q = -2 := by lia
   (refine stIf hV ?_; intro K3 qK3 KT3 qI3; walk_at"go")
   refine kbq (show (q == -2) = true from by simp [hq2]) (qI3.t _ _ ?_)
   (refine stl hV ?_; walk_at"go")
   refine o_raise hV hY PySem.F.excCall_ValueError PySem.F.excRaise_ValueError ?_
   walk_at"go"
   refine o_fs3 hV ?_
   walk_at"go"
   refine ⟨_, _, rfl, Nat.le_of_ble_eq_true rfl, _, _, rfl, by lia, fun t => ⟨_, _, rfl, Nat.le_of_ble_eq_true rfl, fun t' => ⟨by rw [sizeLine_eq]; decide, _, _, .drop (.drop .rfl), ⟨t', ?_⟩, hS0⟩⟩⟩
   rw [refW, if_neg h0]
 ·(rintro m l hJq; (refine e0_2 hJq ?_; clear hJq; intro h _))
  cases h
end
section
theorem pc_meets (n : Int) (hn0 : 0 ≤ n) (hn1 : n < 10 ^ 10) (y : Str) (hy : y.length ≤ 1000000) (b : Addr) (t u u' : Tok) : ∃ T, T = Str.ofString "node " ++ Str.ofString (toString n) ++ Str.ofString " was " ++ y ∧
  PySem.Meets (Builtin.«str.__mod__» ⟨[.str (Str.mk #[110, 111, 100, 101, 32, 37, 100, 32, 119, 97, 115, 32, 37, 115]) t, .ref b], []⟩) (fun _ R s => IsTup s.heap b #[.int n u, .str y u'] ∧ ∀ t' k, R (.ok (.ret (.str T t'))) { s with toks := k }) := by
 have hyl : y.length ≤ 1000000 := hy
 refine i1_2 _ rfl ?_
 kpt_run
end
section
theorem lk_ve : typeLookup (.type "ValueError") "__class__" = pure (some (.builtin "object.__class__")) := by rw [typeLookup_type, builtinLookup_eq_fast]; kernel_rfl
theorem sub_ve : isSubtype (.type "ValueError") (.type (".".intercalate ("object.__class__".cutAt '.').dropLast)) = pure true := by
 rw [F.owner_object_class, isSubtype_type]; kernel_rfl
section
variable {prog : Program} {w : World} {A : Around} {E : Value → Shared → Prop} {h : Heap} {g : Array GenState} {d : Drawn} {t : Nat} {os : OsState} {a : Addr} {o : Obj}
theorem ve_get {R : Result → Shared → Prop} (hx : h.get? a = some o) (hc : o.cls = .type "ValueError") (hq : R (.ok (.ret (.type "ValueError"))) ⟨h, g, d, t, os⟩) :
  codeAny (model prog w) A (.call (.builtin "getset_descriptor.__get__") ⟨[.builtin "object.__class__", .ref a, .type "ValueError"], []⟩) R ⟨h, g, d, t, os⟩ := by
 have hT : (⟨h, g, d, t, os⟩ : Shared).TypeIs (.ref a) "ValueError" := ⟨_, hx, hc⟩
 have hT5 : (⟨h, g, d, t, os⟩ : Shared).TypeIs (.builtin "object.__class__") "getset_descriptor" := F.typeOf_object_class
 have f8 := sub_ve
 refine codeAny_call_builtin F.slot_gs_get.plain F.entry_gs_get (F.slot_gs_get.check _ _ _ _ _ _ _ _ hT5 (F.args_gs_get _ _ _) ?_)
 repeat (any_goals (first | assumption | wp_step))
 refine ⟨Code.quiet_builtin _ (by decide +kernel), codeAny_builtin F.entry_object_class ?_⟩
 repeat (any_goals (first | assumption | wp_step))
theorem ve_entry {tk : Tok} {Q : PySem.Fin → Shared → Prop} (hx : h.get? a = some o) (hc : o.cls = .type "ValueError") (hq : Q (.done (.ret (.type "ValueError"))) ⟨h, g, d, t, os⟩) :
  wpAny (model prog w) A (Builtin.«object.__getattribute__» ⟨[.ref a, .str "__class__" tk], []⟩) Q E ⟨h, g, d, t, os⟩ := by
 have hT : (⟨h, g, d, t, os⟩ : Shared).TypeIs (.ref a) "ValueError" := ⟨_, hx, hc⟩
 have hT5 : (⟨h, g, d, t, os⟩ : Shared).TypeIs (.builtin "object.__class__") "getset_descriptor" := F.typeOf_object_class
 have f4 := lk_ve
 have f5 := F.typeOf_object_class
 have f6 := F.slot_gs_get.lookup
 have f7 := F.slot_gs_set.lookup
 repeat (any_goals (first | assumption | wp_step))
 refine ve_get hx hc ?_
 repeat (any_goals (first | assumption | wp_step))
theorem ve_call {tk : Tok} {R : Result → Shared → Prop} (hx : h.get? a = some o) (hc : o.cls = .type "ValueError") (hq : R (.ok (.ret (.type "ValueError"))) ⟨h, g, d, t, os⟩) :
  codeAny (model prog w) A (.call (.builtin "BaseException.__getattribute__") ⟨[.ref a, .str "__class__" tk], []⟩) R ⟨h, g, d, t, os⟩ :=
 codeAny_call_builtin F.excAttr_ValueError.ga.plain F.entry_bexc_ga (F.excAttr_ValueError.ga.check _ _ _ _ _ _ _ _ (show (⟨h, g, d, t, os⟩ : Shared).TypeIs (.ref a) "ValueError" from ⟨_, hx, hc⟩) (F.args_bexc_ga _ _) (ve_entry hx hc hq))
theorem ve_by {tk : Tok} {Q : Value → Shared → Prop} (hx : h.get? a = some o) (hc : o.cls = .type "ValueError") (hq : Q (.type "ValueError") ⟨h, g, d, t, os⟩) : wpAny (model prog w) A (getAttrBy (.ref a) (.str "__class__" tk) false) Q E ⟨h, g, d, t, os⟩ := by
 have hT : (⟨h, g, d, t, os⟩ : Shared).TypeIs (.ref a) "ValueError" := ⟨_, hx, hc⟩
 have f2 := F.excAttr_ValueError.ga.lookup
 have f3 := F.excAttr_ValueError.ga.bind (.ref a)
 repeat (any_goals (first | assumption | wp_step))
 refine ve_call hx hc ?_
 repeat (any_goals (first | assumption | wp_step))
theorem ve_attr {Q : Option Value → Shared → Prop} (hx : h.get? a = some o) (hc : o.cls = .type "ValueError") (hq : Q (some (.type "ValueError")) ⟨h, g, d, t + 1, os⟩) : wpAny (model prog w) A (getAttr? (.ref a) "__class__") Q E ⟨h, g, d, t, os⟩ := by
 unfold getAttr? getAttrBy?
 repeat (any_goals (first | assumption | with_reducible apply ve_by hx hc | wp_step))
end
theorem kitx_ve {F : Frag} {a : Addr} : KitX F (.ref a) (.type "ValueError") (KitAt a "ValueError") := kitx_of kitAt_ty (fun {_ _ _ _ _ s} p k => by obtain ⟨h, g, d, t, os⟩ := s; obtain ⟨o, h1, h2⟩ := p; exact ve_attr h1 h2 k)
section
variable {c : Fx} {m : Loc} {l : Led} {K : KV Value} {a C : Addr} {oe : Obj}
theorem o_isc (hV : c.V) (hr : Rd c.g l a oe) (h1 : oe.cls = .type "ValueError") (e : ∀ P, kitOne (KF P) (.type "ValueError") (.ref C) = some false) (h : K (.bool false) m l) : Ob c (call (.builtin "isinstance") [.ref a, .ref C]) K m l := by
 intro Q E s S kk x
 exact kia_one kitx_ve (hV.C.X.keeps S.F.keep) ⟨_, S.rd hr, h1⟩ (e _) (fun q => nomatch q) fun tk => kk _ _ _ _ h (S.same rfl rfl rfl)
theorem o_pct {b : Addr} {n : Int} {y : Str} {t u u' : Tok} (hr : Rd c.g l b (tup [.int n u, .str y u'])) (hn0 : 0 ≤ n) (hn1 : n < 10 ^ 10) (hy : y.length ≤ 1000000)
  (h : ∀ t', K (.str (Str.ofString "node " ++ Str.ofString (toString n) ++ Str.ofString " was " ++ y) t') m l) : Ob c (binaryOp .Mod (.str (Str.ofString "node %d was %s") t) (.ref b)) K m l := by
 intro Q E s S kk x
 (refine e1_2 (pc_meets n hn0 hn1 y hy b t u u') ?_; intro T hE1 hm; subst hE1)
 have ht : IsTup s.heap b #[.int n u, .str y u'] := ⟨_, S.rd hr, rfl, _, rfl⟩
 have hT : s.TypeIs (.ref b) "tuple" := ⟨_, S.rd hr, rfl⟩
 have eF : Str.ofString "node %d was %s" = Str.mk #[110, 111, 100, 101, 32, 37, 100, 32, 119, 97, 115, 32, 37, 115] := by decide +kernel
 rw [eF]
 exact KPt.bin_left (T := "str") (U := "tuple") (op := .Mod) (by decide) (typeIs_str s _ t) hT F.fills_str_mod KPt.fills_tuple F.slot_str_mod
  (call_meets F.slot_str_mod (typeIs_str s _ t) F.entry_str_mod (F.args_str_mod_2 _ _) hm ⟨ht, fun t' k => ⟨(fun e => nomatch e), kk _ _ _ _ (h t') (S.same rfl rfl rfl)⟩⟩)
end
end
section
section
variable {c : Fx} {Θ : Value → List Value → Loc → Led → Prop} {m : Loc} {l : Led} {s : Shared} {QU : Unit → Shared → Prop} {E : Value → Shared → Prop} {n x : Str} {np pos pos' : Pos} {K : KV Flow} {body suite orelse : List Stmt} {b₀ : Stmt} {rest : List ExceptHandler} {T : String}
theorem o_tryBu (hV : c.V) (Θ : Value → List Value → Loc → Led → Prop) (hexc : isSubtype (.type T) (.type "BaseException") = pure true) (hnt : isSubtype (.type ((Manifest.find? T).elim "type" fun x => x.metatype)) (.type "tuple") = pure false) (hg : (x, Value.type T) ∈ c.gt)
  (hb : ∀ c0 : Fx, let c₁ := c0.wg c.gt; c.Like c₁ → c₁.hz = true → c₁.Fn → c₁.V → (∀ e s, Fly c₁ Θ e s → c₁.X e s) → c₁.LpX → ∀ K₁ : KV Flow, (∀ m l, Ob c (execs orelse c.env) K m l → K₁ .next m l) → (∀ m l, K .brk m l → K₁ .brk m l) → (∀ m l, K .cont m l → K₁ .cont m l) → (∀ v m l, K (.ret v) m l → K₁ (.ret v) m l) → Ob c₁ (execs body c₁.env) K₁ m l)
  (hh : ∀ cls vs m l a t oe ot ws nt, Θ cls vs m l → oe.cls = cls → oe.data = .fields ws → ws[0]? = some (.ref t) → ot.cls = .type "tuple" → ot.data = .seq vs.toArray nt →
   (∃ X, cls = .type X ∧ isSubtype (.type X) (.type T) = pure true) ∧ hasK m n = true ∧ ∀ c0 : Fx, let c₂ := c0.wg c.gt; c.Like c₂ → c₂.V → c₂.A'.units ≤ c.A'.units → ∀ K₂ : KV Flow, (∀ f m l, (n ∈ m.map (·.1) ∧ ∀ v m', SetAt n v m m' → K f m' l) → K₂ f m l) → Ob c₂ (execs (b₀ :: suite) c₂.env) K₂ (put m n (.ref a)) ((a, oe) :: (t, ot) :: l)) (hm : c.Fn := by assumption) :
  Ob c (exec (.Try body (.ExceptHandler (some (.Name x np)) (some n) (b₀ :: suite) pos' :: rest) orelse [] pos) c.env) K m l := by
 intro Q E s S k X
 have hVc : Fx.V { c with X := Fly c Θ } := hV
 have hmc : Fx.Fn { c with X := Fly c Θ } := ⟨hm.hz, hm.A', hm.fr⟩
 refine wpAny_Try_except (hb { c with X := Fly c Θ } ⟨rfl, rfl, rfl, rfl, rfl, rfl⟩ hm.hz hmc hVc (fun e s F => Fly.cast (c₁ := { c with X := Fly c Θ }) ⟨rfl, rfl, rfl, rfl, rfl, rfl⟩ F) (fun E e s F h => fly_loop hV hm F h) (fun f m l => match f with | .next => Ob c (execs orelse c.env) K m l | f => K f m l) (fun _ _ h => h) (fun _ _ h => h) (fun _ _ h => h) (fun _ _ _ h => h) _ _ s S (fun f m' l' s' h' S' => ?_) fun e s' F => ?_)
 ·cases f with
  | next => exact h' Q E s' S' k X
  | brk => exact k _ _ _ _ h' S'
  | cont => exact k _ _ _ _ h' S'
  | ret v => exact k _ _ _ _ h' S'
 ·(refine hideG ?_; intro P0 hP0; obtain ⟨a, cls, t, vs, m, l, B, kk, rfl, F, hΘ⟩ := F; refine hP0 ?_; clear hP0 P0)
  refine F.note hV hm (Fx.stk' hV hm) fun s2 F2 => F2.land hV fun s3 F3 => ?_
  (refine hideG ?_; intro P0 hP0; obtain ⟨oe, ot, ws, nt, h1, h2, h3, h4, h5, S3⟩ := F3.got hV hm; refine hP0 ?_; clear hP0 P0)
  (refine e0_3 (hh cls vs m l a t oe ot ws nt hΘ h1 h2 h3 h4 h5) ?_; rintro ⟨Xc, rfl, hsub⟩ hk _)
  refine wpAny_handleBy_builtin_as (X := Xc) (T := T) (b := true) hexc hnt hsub (n_glo hV S3 hg ⟨rfl, ⟨oe, S3.get (.head _), h1⟩, ?_⟩)
  refine F3.land hV fun s4 F4 => ?_
  (refine hideG ?_; intro P0 hP0; obtain ⟨oe, ot, ws, nt, h1, h2, h3, h4, h5, S4⟩ := F4.got hV hm; refine hP0 ?_; clear hP0 P0)
  (refine e0_3 (hh _ vs m l a t oe ot ws nt hΘ h1 h2 h3 h4 h5) ?_; intro _ _ hO)
  refine s_loc hV S4 (put_ok hk) fun s5 S5 => ?_
  refine hO (c.exc a) ⟨rfl, rfl, rfl, rfl, rfl, rfl⟩ (Fx.excV hV a) (Nat.le_of_eq rfl) (fun f m l => n ∈ m.map (·.1) ∧ ∀ v m', SetAt n v m m' → K f m' l) (fun _ _ _ h => h) _ _ s5 S5 (fun f m' l' s6 h6 S6 => ?_) fun _ _ h => h.elim
  exact nameGoes (c := c) hV S6 h6.1 fun v m2 s7 U S7 => k _ _ _ _ (h6.2 v m2 U) S7
end
theorem Fx.un {c : Fx} (hV : c.V) (hm : c.Fn) : c.A'.units < cLine := by
 have := hV.C.uni
 rw [hm.A']
 show c.A.units + 3 < cLine
 lia
section
variable {c : Fx} {m : Loc} {l : Led} {K : KV Value} {a b : Addr} {oa ob : Obj} {xs ys : List Value} {na nb : Nat}
theorem o_notb {z : Bool} (h : K (.bool (!z)) m l) : vUn c .Not (.bool z) K m l := by
 show Ob c (unaryOp .Not (.bool z)) K m l
 intro Q E s S kk xx
 unfold unaryOp
 first
  | exact wpAny_bind (tr_bool (wpAny_pure (kk _ _ _ _ h S)))
  | exact wpAny_bind (wpAny_holding (tr_bool (wpAny_pure (kk _ _ _ _ h S))))
  | exact wpAny_holding (wpAny_bind (tr_bool (wpAny_pure (kk _ _ _ _ h S))))
theorem o_eqs (hu : c.A'.units < cLine) (ha : Rd c.g l a oa) (hb : Rd c.g l b ob) (h1 : oa.cls = .type "tuple") (h2 : oa.data = .seq #[.str x t] na) (h3 : ob.cls = .type "tuple") (h4 : ob.data = .seq #[.str y u] nb)
  (h : K (.bool (x == y)) m l) : Ob c (compareOp .Eq (.ref a) (.ref b)) K m l := by
 intro Q E s S kk xx
 refine PySem.SeqAt.eq_tupleAt (items := #[.str x t]) (items2 := #[.str y u]) (e := fun _ => x == y) ⟨_, S.rd ha, h1, _, h2⟩ ⟨_, S.rd hb, h3, _, h4⟩ hu (fun j q1 q2 => ?_) ?_
 ·have : j = 0 := by simp at q1; exact q1
  subst this
  exact (eqGives_str x y t u).at _ _
 ·have e : ((List.range (min (#[Value.str x t] : Array Value).size (#[Value.str y u] : Array Value).size)).all (fun _ => x == y) && (#[Value.str x t] : Array Value).size == (#[Value.str y u] : Array Value).size) = (x == y) := by
   simp
  rw [e]
  exact kk _ _ _ _ h S
end
end
section
theorem um223 (P : Params) : findIn (KF P) (.ref 240) (Str.ofString "done") = some (some (.ref 223)) := by kernel_rfl
theorem ty223 (P : Params) : typeIn (KF P) (.ref 223) = some (.type "function") := by kernel_rfl
theorem isc158 (P : Params) : kitOne (KF P) (.type "ValueError") (.ref 158) = some false := by kernel_rfl
noncomputable def refT (v : Nat) (q : Int) : Str := Str.ofString "node " ++ Str.ofString (toString (v : Int)) ++ refW q
noncomputable def refU (v : Nat) (wd : Str) : Str := Str.ofString "node " ++ Str.ofString (toString (v : Int)) ++ Str.ofString " was " ++ wd
theorem LREF {w : World} {x : Addr} {tv tw : Tok} (st : Srt) (SL : Led) (hS : SorL w x st SL) (rs : List Nat) (hr : st.rdy = some rs) (v : Nat) (hvz : v < 1000) (hvm : v ∈ st.ns.map (·.v)) (q : Int) (hvn : npOf (abs st.ns) v = some q) (hq : 0 ≤ q ∨ q = -2) (wd : Str) (hwd : wd.length ≤ 1000) :
  SpecX w 4 329 [.ref x, .int v tv, .str wd tw] (fun _ => True) SL (fun r l' => r = .bool (refT v q == refU v wd) ∧ SorL w x st l') (fun _ _ _ => False) := by
 refine specX_vc [("sorter", .ref x), ("place", .int v tv), ("words", .str wd tw)] ["err"] fi_law_refused_ok rfl (by kernel_rfl) (by kernel_rfl) (by kernel_rfl) ?_
 intro c0 c hw hz hm hV hn hgt hX hY hp
 dsimp only [fi_law_refused] at hgt
 subst hw
 (refine hideG ?_; intro P0 hP0; obtain ⟨dx, d, n, t1, t2, t3, t4, t5, t6, rv, hx1, hx2, hrv, hnd⟩ := hS.own; refine hP0 ?_; clear hP0 P0)
 have hV0 := hV
 have hgt0 := hgt
 have hun := Fx.un hV hm
 (refine stq hV ?_; intro K qK; walk_at"go")
 refine o_tryBu hV (fun cls vs m l => cls = .type "ValueError" ∧ (∃ t, vs = [.str (refT v q) t]) ∧ (∃ o4, m = ([("sorter", some (.ref x)), ("place", some (.int v tv)), ("words", some (.str wd tw)), ("err", o4)] : Loc)) ∧ SorL c.w x st l) PySem.F.isExc_ValueError PySem.F.notTuple_ValueError (by rw [hgt]; repeat constructor) ?_ ?_
 ·intro c0₁ c₁ hlk hz hm hV₁ hY₁ hX₁ K₁ kn₁ kb₁ kc₁ kr₁
  (refine e0_6 hlk ?_; clear hlk; intro e1 e2 e3 e4 e5 e6)
  rw [hgt] at e3
  have hV := hV₁
  have hgt := e3
  (refine stl hV ?_; walk_at"go")
  refine o_um hV fi_TopologicalSorter_done_ok rfl (cls240 _) (Or.inl hx1) (Or.inl (e1 ▸ hx2)) (um223 _) (ty223 _) rfl ?_
  walk_at"go"
  refine o_specX hV hY₁ (DONEX (tv := tv) st SL (e1 ▸ hS) rs hr v hvz hvm q hvn hq) (by lia) .rfl (fun _ _ _ => trivial) ?_ ?_
  ·rintro v l' h; exact h.elim
  ·(rintro cls vs l' hJq; refine hideG ?_; intro P0 hP0; obtain ⟨rfl, ⟨t, rfl⟩, hS'⟩ := hJq; refine hP0 ?_; clear hP0 P0)
   exact ⟨rfl, ⟨_, rfl⟩, ⟨_, rfl⟩, by rw [List.append_nil, ← e1]; exact hS'⟩
 ·(rintro cls vs m l a tt oe ot ws nt hJq; (refine e0_4 hJq ?_; clear hJq; rintro rfl ⟨t, rfl⟩ ⟨o4, rfl⟩ hS'); rintro h1 h2 h3 h4 h5)
  refine ⟨⟨_, rfl, PySem.F.self_ValueError⟩, by rfl, ?_⟩
  intro c0₂ c₂ hlk hV₂ hu₂ K₂ hK₂
  (refine e0_6 hlk ?_; clear hlk; intro e1 e2 e3 e4 e5 e6)
  rw [hgt0] at e3
  have hV := hV₂
  have hgt := e3
  walk_at"go"
  (refine stl hV ?_; walk_at"go")
  refine o_and2 hV ?_
  walk_at"go"
  refine o_isc hV (Or.inl (.head _)) h1 isc158 ?_
  refine o_notb ?_
  walk_at"go"
  refine ⟨fun h => (nomatch h), fun _ => ?_⟩
  walk_at"go"
  refine o_args PySem.F.attr_ValueError (Or.inl (.head _)) h1 h2 h3 ?_
  walk_at"go"
  refine o_pct (.inl (by repeat constructor)) (by lia) (by lia) (by lia) fun t' => ?_
  walk_at"go"
  refine o_eqs (Nat.lt_of_le_of_lt hu₂ hun) (.inl (by repeat constructor)) (.inl (by repeat constructor)) h4 h5 rfl rfl ?_
  exact hK₂ _ _ _ ⟨by simp, fun v m' _ => qK.r _ _ _ ⟨_, _, .drop (.drop (.drop (.drop .rfl))), rfl, hS'⟩⟩
end
section
theorem li_ga : PySem.Slot "list_iterator" "__getattribute__" "object.__getattribute__" :=
 .of (owner := "object") (n := "__getattribute__") (by rw [typeLookup_type, builtinLookup_eq_fast]; kernel_rfl) (by decide +kernel) (by decide +kernel) (by decide +kernel)
  (by first | exact .inl (by decide +kernel) | exact .inr (by decide +kernel)) (by rw [isSubtype_type]; kernel_rfl)
theorem li_nx : typeLookup (.type "list_iterator") "__next__" = pure (some (.builtin "list_iterator.__next__")) := by rw [typeLookup_type, builtinLookup_eq_fast]; kernel_rfl
theorem ty_nx : typeOf (.builtin "list_iterator.__next__") = pure (.type "wrapper_descriptor") := by kernel_rfl
theorem wd_get : PySem.Slot "wrapper_descriptor" "__get__" "wrapper_descriptor.__get__" :=
 .of (owner := "wrapper_descriptor") (n := "__get__") (by rw [typeLookup_type, builtinLookup_eq_fast]; kernel_rfl) (by decide +kernel) (by decide +kernel) (by decide +kernel)
  (by first | exact .inl (by decide +kernel) | exact .inr (by decide +kernel)) (by rw [isSubtype_type]; kernel_rfl)
theorem wd_set : typeLookup (.type "wrapper_descriptor") "__set__" = pure none := by rw [typeLookup_type, builtinLookup_eq_fast]; kernel_rfl
theorem wd_del : typeLookup (.type "wrapper_descriptor") "__delete__" = pure none := by rw [typeLookup_type, builtinLookup_eq_fast]; kernel_rfl
theorem entry_wd : entryFor table "wrapper_descriptor.__get__" = some Builtin.«wrapper_descriptor.__get__» := entryFor_of_tree (by kernel_rfl)
theorem args_wd (a b c : Value) : argsOk "wrapper_descriptor.__get__" ⟨[a, b, c], []⟩ := by unfold argsOk; kernel_rfl
theorem sub_li : isSubtype (.type "list_iterator") (.type (".".intercalate ("list_iterator.__next__".cutAt '.').dropLast)) = pure true := by
 have e0 : "list_iterator.__next__".cutAt '.' = ["list_iterator", "__next__"] := by first | rfl | decide +kernel
 rw [e0, show (".".intercalate ["list_iterator", "__next__"].dropLast) = "list_iterator" by decide +kernel, isSubtype_type]; kernel_rfl
noncomputable abbrev mwO (it : Addr) : Obj := { cls := .type "method-wrapper", data := .fields #[.builtin "list_iterator.__next__", .ref it] }
section
variable {prog : Program} {w : World} {A : Around} {E : Value → Shared → Prop} {h : Heap} {g : Array GenState} {d : Drawn} {t : Nat} {os : OsState} {a : Addr} {o : Obj}
theorem li_get {R : Result → Shared → Prop} (hx : h.get? a = some o) (hc : o.cls = .type "list_iterator") (hq : R (.ok (.ret (.ref h.objs.size))) ⟨h.push (mwO a), g, d, t, os⟩) :
  codeAny (model prog w) A (.call (.builtin "wrapper_descriptor.__get__") ⟨[.builtin "list_iterator.__next__", .ref a, .type "list_iterator"], []⟩) R ⟨h, g, d, t, os⟩ := by
 have hT : (⟨h, g, d, t, os⟩ : Shared).TypeIs (.ref a) "list_iterator" := ⟨_, hx, hc⟩
 have hT5 : (⟨h, g, d, t, os⟩ : Shared).TypeIs (.builtin "list_iterator.__next__") "wrapper_descriptor" := ty_nx
 have f8 := sub_li
 refine codeAny_call_builtin wd_get.plain entry_wd (wd_get.check _ _ _ _ _ _ _ _ hT5 (args_wd _ _ _) ?_)
 repeat (any_goals (first | assumption | wp_step))
theorem li_idict {vs : Array Value} {Q : Option Addr → Shared → Prop} (hx : h.get? a = some { cls := .type "list_iterator", data := .fields vs }) (hq : Q none ⟨h, g, d, t, os⟩) : wpAny (model prog w) A (instanceDict a false) Q E ⟨h, g, d, t, os⟩ := by
 unfold instanceDict
 exact wpAny_bind (wpAny_loadPart hx (wpAny_pure hq))
theorem li_entry {tk : Tok} {vs : Array Value} {Q : PySem.Fin → Shared → Prop} (hx : h.get? a = some { cls := .type "list_iterator", data := .fields vs }) (hq : Q (.done (.ret (.ref h.objs.size))) ⟨h.push (mwO a), g, d, t, os⟩) :
  wpAny (model prog w) A (Builtin.«object.__getattribute__» ⟨[.ref a, .str "__next__" tk], []⟩) Q E ⟨h, g, d, t, os⟩ := by
 have hc : ({ cls := .type "list_iterator", data := .fields vs } : Obj).cls = .type "list_iterator" := rfl
 have hT : (⟨h, g, d, t, os⟩ : Shared).TypeIs (.ref a) "list_iterator" := ⟨_, hx, hc⟩
 have hT5 : (⟨h, g, d, t, os⟩ : Shared).TypeIs (.builtin "list_iterator.__next__") "wrapper_descriptor" := ty_nx
 have f4 := li_nx
 have f5 := ty_nx
 have f6 := wd_get.lookup
 have f7 := wd_set
 have f8 := wd_del
 repeat (any_goals (first | assumption | with_reducible refine li_idict hx ?_ | wp_step))
 refine li_get hx hc ?_
 repeat (any_goals (first | assumption | wp_step))
theorem li_call {tk : Tok} {vs : Array Value} {R : Result → Shared → Prop} (hx : h.get? a = some { cls := .type "list_iterator", data := .fields vs }) (hq : R (.ok (.ret (.ref h.objs.size))) ⟨h.push (mwO a), g, d, t, os⟩) :
  codeAny (model prog w) A (.call (.builtin "object.__getattribute__") ⟨[.ref a, .str "__next__" tk], []⟩) R ⟨h, g, d, t, os⟩ :=
 codeAny_call_builtin li_ga.plain F.entry_object_getattribute (li_ga.check _ _ _ _ _ _ _ _ (show (⟨h, g, d, t, os⟩ : Shared).TypeIs (.ref a) "list_iterator" from ⟨_, hx, rfl⟩) (F.args_object_getattribute_2 _ _) (li_entry hx hq))
theorem li_by {tk : Tok} {fill expr : Bool} {vs : Array Value} {Q : Value → Shared → Prop} (hx : h.get? a = some { cls := .type "list_iterator", data := .fields vs }) (hq : Q (.ref h.objs.size) ⟨h.push (mwO a), g, d, t, os⟩) : wpAny (model prog w) A (getAttrBy (.ref a) (.str "__next__" tk) fill expr) Q E ⟨h, g, d, t, os⟩ := by
 have hT : (⟨h, g, d, t, os⟩ : Shared).TypeIs (.ref a) "list_iterator" := ⟨_, hx, rfl⟩
 have f2 := li_ga.lookup
 have f3 := li_ga.bind (.ref a)
 have hx0 : (expr && onTheHeap (Value.builtin "object.__getattribute__")) = false := by cases expr <;> rfl
 repeat (any_goals (first | assumption | wp_step))
 refine li_call hx ?_
 repeat (any_goals (first | assumption | wp_step))
theorem li_attr {expr : Bool} {vs : Array Value} {Q : Value → Shared → Prop} (hx : h.get? a = some { cls := .type "list_iterator", data := .fields vs }) (hq : Q (.ref h.objs.size) ⟨h.push (mwO a), g, d, t + 1, os⟩) : wpAny (model prog w) A (getAttr (.ref a) "__next__" expr) Q E ⟨h, g, d, t, os⟩ := by
 unfold getAttr
 repeat (any_goals (first | assumption | with_reducible apply li_by hx | wp_step))
end
section
variable {c : Fx} {m : Loc} {l : Led} {K : KV Value} {a : Addr} {vs : Array Value}
theorem o_nxa (hm : (a, ({ cls := .type "list_iterator", data := .fields vs } : Obj)) ∈ l) (h : ∀ b, K (.ref b) m ((b, mwO a) :: l)) {e : Bool} : Ob c (getAttr (.ref a) (Str.ofString "__next__") e) K m l := by
 intro Q E s S kk _
 have hx := S.get hm
 have S2 := S.push (s' := { s with heap := s.heap.push (mwO a), toks := s.toks + 1 }) (mwO a) rfl rfl rfl rfl
 (refine hideG ?_; intro P0 hP0; obtain ⟨hh, g, d, tk, os⟩ := s; refine hP0 ?_; clear hP0 P0)
 exact li_attr hx (kk _ _ _ _ (h _) S2)
end
noncomputable abbrev liO (lo : Addr) (i : Nat) : Obj := { cls := .type "list_iterator", data := .fields #[.ref lo, .int i 0] }
section
variable {c : Fx} {m : Loc} {l : Led} {K : KV Value} {a : Addr} {vs : List Value} {k : Nat}
theorem o_iter (hr : Rd c.g l a (lst vs k)) (h : ∀ b, K (.ref b) m ((b, liO a 0) :: l)) : Ob c (call (.builtin "iter") [.ref a]) K m l := by
 intro Q E s S kk _
 refine call_function_entry (by decide +kernel) (by decide +kernel) kdk_entry_iter (kdk_args_iter _) ?_
 unfold Builtin.«iter»
 refine wpAny_bind (m := someArgs "iter" 1 2 _) (wpAny_of_eq (a := [Value.ref a]) (by first | rfl | kernel_rfl!) ?_)
 show wpAny _ _ (pyIter (.ref a) >>= _) _ _ _
 refine wpAny_bind (wpAny_pyIter_list (items := vs.toArray) ⟨_, S.rd hr, rfl, _, rfl⟩ ?_)
 exact wpAny_pure ⟨_, rfl, kk _ _ _ _ (h _) (S.push (liO a 0) rfl rfl rfl rfl)⟩
end
end
section
theorem cbc (a : Addr) : checkBoundCall "list_iterator.__next__" ⟨[.ref a], []⟩ = pure () := by kernel_rfl
section
variable {c : Fx} {m : Loc} {l : Led} {K : KV Value} {a it b : Addr} {vs : List Value} {k i : Nat} {v : Value}
theorem o_nxi (hb : (b, mwO it) ∈ l) (hr : Rd c.g l a (lst vs k)) (hi : (it, liO a i) ∈ l) (hv : vs[i]? = some v) (h : ∃ l', Up it (liO a i) (liO a (i + 1)) l l' ∧ K v m l') : Ob c (call (.ref b) []) K m l := by
 intro Q E s S kk _
 (refine e1_2 h ?_; clear h; intro l' U hk)
 refine wpAny_call (codeAny_of_tree ?_)
 show wpAny _ _ (callAny (.ref b) ⟨[], []⟩) _ _ _
 delta callAny
 refine wpAny_bind (wpAny_load (S.get hb) ?_)
 show wpAny _ _ (checkBoundCall "list_iterator.__next__" ⟨[.ref it], []⟩ >>= fun _ => again (.builtin "list_iterator.__next__" ⟨[.ref it], []⟩)) _ _ s
 refine wpAny_bind (wpAny_of_eq (cbc it) ?_)
 refine wpAny_pure ⟨Code.quiet_builtin _ (by decide +kernel), codeAny_builtin PySem.entry_listiter_next ?_⟩
 have ho := S.get hi
 have hol := S.rd hr
 show wpAny _ _ (field (.ref it) 0 >>= _) _ _ s
 refine wpAny_bind (wpAny_field ho rfl (x := .ref a) rfl ?_)
 show wpAny _ _ (if (Value.ref a == Value.none) = true then _ else _) _ _ s
 rw [if_neg (show ¬ ((Value.ref a == Value.none) = true) from Bool.false_ne_true)]
 show wpAny _ _ (field (.ref it) 1 >>= _) _ _ s
 refine wpAny_bind (wpAny_field ho rfl (x := .int i 0) rfl ?_)
 show wpAny _ _ (seqItems? (.ref a) >>= _) _ _ s
 refine wpAny_bind (wpAny_seqItems hol rfl ?_)
 simp only [Int.toNat_natCast, List.getElem?_toArray, hv]
 refine wpAny_bind (wpAny_setField ho rfl (by simp) (wpAny_pure (kk _ _ _ _ hk (S.chg U (Heap.SameBut.update ..) ?_ rfl rfl))))
 exact (Heap.get?_update_self _ ho rfl).trans rfl
end
end
section
noncomputable abbrev liE (i : Nat) : Obj := { cls := .type "list_iterator", data := .fields #[.none, .int i 0] }
section
variable {c : Fx} {m : Loc} {l : Led} {K : KV Value} {Θ : Value → List Value → Loc → Led → Prop} {a it b : Addr} {vs : List Value} {k i : Nat}
theorem o_nxe (hV : c.V) (hm : c.Fn) (hY : ∀ e s, Fly c Θ e s → c.X e s) (hb : (b, mwO it) ∈ l) (hr : Rd c.g l a (lst vs k)) (hi : (it, liO a i) ∈ l) (hv : vs[i]? = none) (h : ∃ l', Up it (liO a i) (liE i) l l' ∧ Θ (.type "StopIteration") [] m l') : Ob c (call (.ref b) []) K m l := by
 intro Q E s S kk xx
 (refine e1_2 h ?_; clear h; intro l' U hk)
 refine wpAny_call (codeAny_of_tree ?_)
 show wpAny _ _ (callAny (.ref b) ⟨[], []⟩) _ _ _
 delta callAny
 refine wpAny_bind (wpAny_load (S.get hb) ?_)
 show wpAny _ _ (checkBoundCall "list_iterator.__next__" ⟨[.ref it], []⟩ >>= fun _ => again (.builtin "list_iterator.__next__" ⟨[.ref it], []⟩)) _ _ s
 refine wpAny_bind (wpAny_of_eq (cbc it) ?_)
 refine wpAny_pure ⟨Code.quiet_builtin _ (by decide +kernel), codeAny_builtin PySem.entry_listiter_next ?_⟩
 have ho := S.get hi
 have hol := S.rd hr
 show wpAny _ _ (field (.ref it) 0 >>= _) _ _ s
 refine wpAny_bind (wpAny_field ho rfl (x := .ref a) rfl ?_)
 show wpAny _ _ (if (Value.ref a == Value.none) = true then _ else _) _ _ s
 rw [if_neg (show ¬ ((Value.ref a == Value.none) = true) from Bool.false_ne_true)]
 show wpAny _ _ (field (.ref it) 1 >>= _) _ _ s
 refine wpAny_bind (wpAny_field ho rfl (x := .int i 0) rfl ?_)
 show wpAny _ _ (seqItems? (.ref a) >>= _) _ _ s
 refine wpAny_bind (wpAny_seqItems hol rfl ?_)
 simp only [Int.toNat_natCast, List.getElem?_toArray, hv]
 refine wpAny_bind (wpAny_rule (wpAny_bind (wpAny_setField ho rfl (by simp) ?_)))
 have S1 : c.S m l' { s with heap := s.heap.update it (Obj.mapFields fun x => x.setIfInBounds 0 .none) } := S.chg U (Heap.SameBut.update ..) ((Heap.get?_update_self _ ho rfl).trans rfl) rfl rfl
 show wpAny _ _ (newExc (.type "StopIteration") [] >>= _) _ _ _
 refine wpAny_bind ?_
 simp only [newExc, newTuple]
 refine wpAny_bind (wpAny_newObj_type ?_ (by size_fits))
 refine wpAny_bind (m := firstArgMember _ _) (wpAny_of_eq (a := Value.none) (by first | rfl | (simp only [firstArgMember]; rfl)) ?_)
 refine wpAny_newObj_type ?_ (by size_fits)
 delta raiseNew
 refine wpAny_bind (wpAny_handled ?_)
 rw [show (c.A'.under (Code.builtin "list_iterator.__next__" { pos := [Value.ref it] })).handled = none from Vw.hh' hV hm.hz]
 refine wpAny_bind (wpAny_pure (wpAny_throw ?_))
 refine xx _ _ (hY _ _ (fly_made hV hm S1 ⟨fun b o e => Heap.get?_push_of_some _ (Heap.get?_push_of_some _ e), ?_, ?_⟩ rfl rfl hk))
 ·exact Heap.get?_none_of_le (by rw [Heap.size_push]; exact Nat.le_succ _)
 ·exact i1_3 _ (Heap.get?_push_size _ rfl) (size_none _) (Heap.get?_push_of_some _ (Heap.get?_push_size _ rfl))
end
end
section
noncomputable def IsDe (w : World) (o : Obj) (kvs : List (Int × Value)) (ep : Nat) : Prop := ∃ es, o.ExactDict ∧ o.data = .dict es ep ∧ PySem.KeysOf (iK w) es ∧ PySem.Pairs (iK w) es.toList kvs ∧ (kvs.map (·.1)).Nodup
theorem IsDe.of {w : World} {o : Obj} {kvs : List (Int × Value)} (h : IsD w o kvs) : ∃ ep, IsDe w o kvs ep := by obtain ⟨es, ep, r⟩ := h; exact ⟨ep, es, r⟩
noncomputable abbrev dkO (d : Addr) (i n ep : Nat) : Obj := { cls := .type "dict_keyiterator", data := .fields #[.ref d, .int i 0, .int n 0, .int ep 0] }
noncomputable abbrev dvO (d : Addr) (i n ep : Nat) : Obj := { cls := .type "dict_valueiterator", data := .fields #[.ref d, .int i 0, .int n 0, .int ep 0] }
section
variable {w : World} {A' : Around} {d : Addr} {od : Obj} {kvs : List (Int × Value)} {ep : Nat}
theorem src_dkeys (hh : A'.handled = none) (d : Addr) (hd : IsDe w od kvs ep) : Src w A' "dict_keyiterator" kvs.length (fun i v => ∃ k x t, kvs[i]? = some (k, x) ∧ v = .int k t) (fun i o => o.cls = .type "dict_keyiterator" ∧ o.data = .fields #[.ref d, .int i 0, .int kvs.length 0, .int ep 0]) (fun g l => (d, od) ∈ l) where
 cls := fun _ _ h => h.1
 own := by decide
 nxt := by
  intro g base L ks m l I oI i s QO E hi hR hI S item done
  have hit : s.heap.IsKeyIter I d i kvs.length ep := ⟨oI, S.get (.head _), hI.1, hI.2⟩
  have hm : s.heap.DictAt (iK w) d kvs ep := by obtain ⟨es, r⟩ := hd; exact ⟨od, es, S.get (.tail _ hR), r⟩
  cases h : kvs[i]? with
  | some p =>
   obtain ⟨k, x⟩ := p
   refine wpAny_pyNext_dict_item hit hm h fun key h' hk hi' hs => ?_
   (refine e1_1 (Value.isInt_shape hk) ?_; rintro t rfl)
   (refine e1_3 hi' ?_; clear hi'; intro o' ho' hc hdd)
   exact item _ _ o' (by rcases Nat.lt_or_ge i kvs.length with q | q; exact q; rw [List.getElem?_eq_none q] at h; cases h) ⟨k, x, t, h, rfl⟩ ⟨hc, hdd⟩ (S.chg .here hs ho' rfl rfl)
  | none =>
   refine wpAny_pyNext_dict_end hh hit hm h fun h' hx => done _ ?_ (S.spent hx rfl rfl)
   rcases Nat.lt_or_ge i kvs.length with q | q
   ·rw [List.getElem?_eq_getElem q] at h; cases h
   ·lia
 self := fun g base L ks m l I oI s Q E hR hI S h => wpAny_pyIter_keyiter (d := d) (i := 0) (n := kvs.length) (ep := ep) ⟨oI, S.get (.head _), hI.1, hI.2⟩ h
theorem src_dvals (hh : A'.handled = none) (d : Addr) (hd : IsDe w od kvs ep) : Src w A' "dict_valueiterator" kvs.length (fun i v => ∃ k, kvs[i]? = some (k, v)) (fun i o => o.cls = .type "dict_valueiterator" ∧ o.data = .fields #[.ref d, .int i 0, .int kvs.length 0, .int ep 0]) (fun g l => (d, od) ∈ l) where
 cls := fun _ _ h => h.1
 own := by decide
 nxt := by
  intro g base L ks m l I oI i s QO E hi hR hI S item done
  have hit : s.heap.IsValIter I d i kvs.length ep := ⟨oI, S.get (.head _), hI.1, hI.2⟩
  have hm : s.heap.DictAt (iK w) d kvs ep := by obtain ⟨es, r⟩ := hd; exact ⟨od, es, S.get (.tail _ hR), r⟩
  cases h : kvs[i]? with
  | some p =>
   obtain ⟨k, x⟩ := p
   refine wpAny_pyNext_values_item hit hm h fun h' hi' hs => ?_
   (refine e1_3 hi' ?_; clear hi'; intro o' ho' hc hdd)
   exact item _ _ o' (by rcases Nat.lt_or_ge i kvs.length with q | q; exact q; rw [List.getElem?_eq_none q] at h; cases h) ⟨k, h⟩ ⟨hc, hdd⟩ (S.chg .here hs ho' rfl rfl)
  | none =>
   refine wpAny_pyNext_values_end hh hit hm h fun h' hx => done _ ?_ (S.spent hx rfl rfl)
   rcases Nat.lt_or_ge i kvs.length with q | q
   ·rw [List.getElem?_eq_getElem q] at h; cases h
   ·lia
 self := fun g base L ks m l I oI s Q E hR hI S h => wpAny_pyIter_valiter (d := d) (i := 0) (n := kvs.length) (ep := ep) ⟨oI, S.get (.head _), hI.1, hI.2⟩ h
theorem src_str (hh : A'.handled = none) (x : Str) (t : Tok) : Src w A' "str_ascii_iterator" x.cps.size (fun i v => ∃ c u, x.cps[i]? = some c ∧ v = .str ⟨#[c]⟩ u) (fun i o => o.cls = .type "str_ascii_iterator" ∧ o.data = .fields #[.str x t, .int i 0]) (fun g l => True) where
 cls := fun _ _ h => h.1
 own := by decide
 nxt := by
  intro g base L ks m l I oI i s QO E hi hR hI S item done
  have hit : s.heap.IsStrIter I "str_ascii_iterator" x t i := ⟨oI, S.get (.head _), hI.1, hI.2⟩
  cases h : x.cps[i]? with
  | some c =>
   refine wpAny_pyNext_ascii_item hit h fun h' hi' hs => ?_
   (refine e1_3 hi' ?_; clear hi'; intro o' ho' hc hdd)
   exact item _ _ o' (by rcases Nat.lt_or_ge i x.cps.size with q | q; exact q; rw [Array.getElem?_eq_none q] at h; cases h) ⟨c, _, h, rfl⟩ ⟨hc, hdd⟩ (S.chg .here hs ho' rfl rfl)
  | none =>
   refine wpAny_pyNext_ascii_end hh hit h fun h' hx => done _ ?_ (S.spent hx rfl rfl)
   rcases Nat.lt_or_ge i x.cps.size with q | q
   ·rw [Array.getElem?_eq_getElem q] at h; cases h
   ·lia
 self := fun g base L ks m l I oI s Q E hR hI S h => wpAny_pyIter_striter_ascii (x := x) (t := t) (i := 0) ⟨oI, S.get (.head _), hI.1, hI.2⟩ h
end
section
variable {c : Fx} {m : Loc} {l : Led} {d a v : Addr} {od : Obj} {kvs : List (Int × Value)} {ep k : Nat} {vs : List Value} {x : Str} {t t₁ t₂ t₃ : Tok}
theorem mk_dkeys (hV : c.V) (hm : (d, od) ∈ l) (hd : IsDe c.w od kvs ep) : ∀ (Q : Value → Shared → Prop) E s, c.S m l s → (∀ I oI s', (oI.cls = .type "dict_keyiterator" ∧ oI.data = .fields #[.ref d, .int (0 : Nat) 0, .int kvs.length 0, .int ep 0]) → c.S m ((I, oI) :: l) s' → Q (.ref I) s') → wpAny (M c.w) c.A' (pyIter (.ref d)) Q E s := by
 intro Q E s S k
 have h : s.heap.DictAt (iK c.w) d kvs ep := by obtain ⟨es, r⟩ := hd; exact ⟨od, es, S.get hm, r⟩
 refine wpAny_pyIter_dict (led_ne1 hV S hm) h (k _ _ _ ⟨rfl, rfl⟩ (S.push (dkO d 0 kvs.length ep) rfl rfl rfl rfl))
theorem mk_dvals (hV : c.V) (hv : (v, vwO d) ∈ l) (hm : (d, od) ∈ l) (hd : IsDe c.w od kvs ep) : ∀ (Q : Value → Shared → Prop) E s, c.S m l s → (∀ I oI s', (oI.cls = .type "dict_valueiterator" ∧ oI.data = .fields #[.ref d, .int (0 : Nat) 0, .int kvs.length 0, .int ep 0]) → c.S m ((I, oI) :: l) s' → Q (.ref I) s') → wpAny (M c.w) c.A' (pyIter (.ref v)) Q E s := by
 intro Q E s S k
 have h : s.heap.DictAt (iK c.w) d kvs ep := by obtain ⟨es, r⟩ := hd; exact ⟨od, es, S.get hm, r⟩
 exact wpAny_pyIter_values ⟨_, S.get hv, rfl, rfl⟩ h (k _ _ _ ⟨rfl, rfl⟩ (S.push (dvO d 0 kvs.length ep) rfl rfl rfl rfl))
theorem mk_str (ha : x.cps.all (· < 128) = true) : ∀ (Q : Value → Shared → Prop) E s, c.S m l s → (∀ I oI s', (oI.cls = .type "str_ascii_iterator" ∧ oI.data = .fields #[.str x t, .int (0 : Nat) 0]) → c.S m ((I, oI) :: l) s' → Q (.ref I) s') → wpAny (M c.w) c.A' (pyIter (.str x t)) Q E s := by
 intro Q E s S k
 exact wpAny_pyIter_ascii ha (k _ _ _ ⟨rfl, rfl⟩ (S.push { cls := .type "str_ascii_iterator", data := .fields #[.str x t, .int 0 0] } rfl rfl rfl rfl))
theorem mk_list' (hr : Rd c.g l a (lst vs k)) : ∀ (Q : Value → Shared → Prop) E s, c.S m l s → (∀ I oI s', (oI.cls = .type "list_iterator" ∧ oI.data = .fields #[.ref a, .int (0 : Nat) 0]) → c.S m ((I, oI) :: l) s' → Q (.ref I) s') → wpAny (M c.w) c.A' (pyIter (.ref a)) Q E s := by
 intro Q E s S kk
 exact wpAny_pyIter_list ⟨_, S.rd hr, rfl, k, rfl⟩ (kk _ _ _ ⟨rfl, rfl⟩ (S.push { cls := .type "list_iterator", data := .fields #[.ref a, .int 0 0] } rfl rfl rfl rfl))
theorem mk_range {x y : Int} {N : Nat} (hN : y = x + N) (hx : -(2 ^ 62) ≤ x) (hy : y < 2 ^ 62) (hr : Rd c.g l a (rngO x y 1 t₁ t₂ t₃)) : ∀ (Q : Value → Shared → Prop) E s, c.S m l s → (∀ I oI s', oI = { cls := .type "range_iterator", data := .fields #[rawInt (x + (0 : Nat)), rawInt (N - (0 : Nat)), rawInt 1] } → c.S m ((I, oI) :: l) s' → Q (.ref I) s') → wpAny (M c.w) c.A' (pyIter (.ref a)) Q E s := by
 intro Q E s S kk
 subst hN
 have hsm : Builtin.Range.small x (x + N) 1 = true := small_one hx (by lia) (by lia) hy
 refine wpAny_pyIter_range (S.rd hr) hsm ?_
 have hz : Builtin.Range.rangeSize x (x + N) 1 = N := by rw [rangeSize_one]; split <;> lia
 rw [hz]
 exact kk _ _ _ (by simp) (S.push { cls := .type "range_iterator", data := .fields #[rawInt x, rawInt N, rawInt 1] } rfl rfl rfl rfl)
end
section
variable {c : Fx} {m : Loc} {l l₀ R₀ : Led} {K : KV Flow} {target : Expr} {body orelse : List Stmt} {v : Value} {T : String} {N : Nat} {Pv : Nat → Value → Prop} {Ok : Nat → Obj → Prop} {RD : Heap → Led → Prop}
theorem vfor_src (hV : c.V) (hX : c.LpX) (W : Src c.w c.A' T N Pv Ok RD) (hd : Ex l l₀ R₀) (mk : ∀ (Q : Value → Shared → Prop) E s, c.S m l₀ s → (∀ I oI s', Ok 0 oI → c.S m ((I, oI) :: l₀) s' → Q (.ref I) s') → wpAny (M c.w) c.A' (pyIter v) Q E s) (J : Nat → Loc → Led → Prop) (h0 : J 0 m l₀) (rd : ∀ i m l, J i m l → RD c.g l)
  (turn : ∀ i v m l I oI, i < N → Pv i v → J i m l → vAsg c target v (fun m l => Ob c (execs body c.env) (LpK I oI (J (i + 1)) K) m l) m ((I, oI) :: l))
  (done : ∀ m l, J N m l → Ob c (execs orelse c.env) K m l) : ObF c target body orelse v K m l := by
 intro QF E s S k x
 refine mk _ _ s (S.ex hd) fun I oI s' hI S' => ?_
 exact for_gen W.own N Pv Ok W.cls J S' h0 hI (fun i m l oI s QO E hi hJ hI S item done => W.nxt _ _ _ _ m l I oI i s QO E hi (rd i m l hJ) hI S item done) (fun i v m l s I oI hi hv hJ S => turn_ok hV k (fun e s h => hX _ e s h x) (turn i v m l I oI hi hv hJ) S) fun m l s hJ S => done m l hJ QF _ s S k fun e s h => hX _ e s h x
end
section
variable {c : Fx} {m : Loc} {l : Led} {K : KV Value} {KF : KV Flow} {e f o i : Expr} {x : Str} {p pos : Pos} {b it : Addr}
theorem o_attrC (hV : c.V) (h : vE c o (fun ov m l => Ob c (getAttr ov x true) K m l) m l) (hb : attributeBase o x c.env (eval o c.env) = eval o c.env := by rfl) : Ob c (eval (.Attribute o x p) c.env) K m l :=
 fun Q E s S k xx => x_attr (vE_ok hV o _ _ _ h _ E s S (fun v m' l' s' h' S' => h' Q E s' S' k xx) xx) (by rw [arm_eval_Attribute, hb])
theorem o_callE (hV : c.V) {args : List Expr} (h : vE c f (fun fv m l => Ob c (callWith pos fv [] (backTo pos (starEach args c.env)) []) K m l) m l)
  (hq : eval (.Call f args [] pos) c.env = (do callWith pos (← eval f c.env) [] (backTo pos (starEach args c.env)) (backToKw pos (keywordEach [] c.env))) := by rfl) : Ob c (eval (.Call f args [] pos) c.env) K m l := by
 intro Q E s S k xx
 rw [hq]
 exact wpAny_bind (vE_ok hV f _ _ _ h _ E s S (fun v m' l' s' h' S' => h' Q E s' S' k xx) xx)
theorem o_cwm (hb : (b, mwO it) ∈ l) (h : Ob c (call (.ref b) []) K m l) : Ob c (callWith pos (.ref b) [] (backTo pos (starEach [] c.env)) []) K m l := by
 intro Q E s S k xx
 delta callWith
 have ho := S.get hb
 refine wpAny_bind (wpAny_holding (evalArgs_nil3 (wpAny_bind (wpAny_standAt ?_))))
 show wpAny _ _ (keeperOf (.ref b) >>= _) _ _ _
 refine wpAny_bind (m := keeperOf (.ref b)) ?_
 delta keeperOf
 refine wpAny_bind (wpAny_load ho ?_)
 skip
 refine wpAny_pure ?_
 exact wpAny_bind (wpAny_mono (h Q E s S k xx) (fun r s₂ hr => wpAny_bind (wpAny_holding (wpAny_point (wpAny_pure hr)))) fun _ _ x => x)
theorem o_t0 {T : String} {vargs : (List Value → Loc → Led → Prop) → Loc → Led → Prop} (h : Ob c (call (.type T) []) K m l) : vCall c pos (.type T) [] vargs K m l :=
 (fun Q E s S k xx => callWith_type0 (h Q E s S k xx) : Ob c (callWith pos (.type T) [] (backTo pos (starEach [] c.env)) []) K m l)
theorem o_del1 (hV : c.V) (h : vE c o (fun ov m l => vE c i (fun iv m l => Ob c (delItem ov iv) (fun _ m l => KF .next m l) m l) m l) m l) (hs : isSlc i = false := by rfl) : Ob c (exec (.Delete [.Subscript o i p] pos) c.env) KF m l := by
 intro Q E s S k xx
 refine wpAny_Delete (wpAny_deleteEach_cons ?_)
 rw [arm_delete_Subscript]
 refine wpAny_bind (vE_ok hV o _ _ _ h _ E s S (fun ov m1 l1 s1 h1 S1 => ?_) xx)
 refine wpAny_bind (wpAny_holding (vE_ok hV i _ _ _ h1 _ E s1 S1 (fun iv m2 l2 s2 h2 S2 => ?_) xx))
 refine wpAny_bind (wpAny_standAt (wpAny_bind (wpAny_holding (h2 _ E s2 S2 (fun _ m3 l3 s3 h3 S3 => ?_) xx))))
 exact wpAny_release (wpAny_deleteEach_nil (k _ _ _ _ h3 S3))
end
end
section
structure DInv (ns : List Nd) (p : Nat → Nat) (fin : List Nat) (S : List (Nd × Nat)) (pend : Option Nat) : Prop where
 nd : (fin ++ S.map (·.1.v)).Nodup
 sub : ∀ z ∈ S, z.1 ∈ ns
 fk : ∀ u ∈ fin, u ∈ ns.map (·.v)
 ch : ∀ (j : Nat) a b, S[j]? = some a → S[j + 1]? = some b → (p b.1.v = a.1.v ∧ 1 ≤ b.1.v)
 le : ∀ z ∈ S, z.2 ≤ z.1.sc.length
 it : ∀ (j : Nat) z, S[j]? = some z → ∀ (i : Nat) s, i < z.2 → z.1.sc[i]? = some s → s ∈ fin ∨ (S[j + 1]?).map (·.1.v) = some s ∨ (S[j + 1]? = none ∧ pend = some s)
 ord : ∀ (k : Nat) u, fin[k]? = some u → ∀ nd ∈ ns, nd.v = u → ∀ s ∈ nd.sc, s ∈ fin.take k
 top : ∀ s, pend = some s → s ∈ ns.map (·.v) ∧ ∀ S' z, S = S' ++ [z] → (p s = z.1.v ∧ 1 ≤ s)
noncomputable def usum (ns : List Nd) (f : Nat → Bool) : Nat := (ns.map fun z => if f z.v then 0 else z.sc.length + 2).sum
noncomputable def ssum (S : List (Nd × Nat)) : Nat := (S.map fun z => z.1.sc.length - z.2 + 1).sum
theorem usum_push {ns : List Nd} {f f' : Nat → Bool} {nd : Nd} (hn : (ns.map (·.v)).Nodup) (hm : nd ∈ ns) (hf : f nd.v = false) (hf' : ∀ v, f' v = (f v || decide (v = nd.v))) : usum ns f' + (nd.sc.length + 2) = usum ns f := by
 unfold usum
 induction ns with
 | nil => cases hm
 | cons z ns ih =>
  rw [List.map_cons, List.nodup_cons] at hn
  simp only [List.map_cons, List.sum_cons]
  rcases List.mem_cons.mp hm with rfl | hm
  ·have : (ns.map fun z => if f' z.v then 0 else z.sc.length + 2) = ns.map fun z => if f z.v then 0 else z.sc.length + 2 := by
    refine List.map_congr_left fun y hy => ?_
    rw [hf', show decide (y.v = nd.v) = false from decide_eq_false fun e => hn.1 (e ▸ List.mem_map_of_mem (f := (·.v)) hy), Bool.or_false]
   rw [this, hf', hf]
   simp
   lia
  ·have ih := ih hn.2 hm
   have hne : decide (z.v = nd.v) = false := decide_eq_false fun e => hn.1 (by rw [e]; exact List.mem_map_of_mem (f := (·.v)) hm)
   rw [hf' z.v, hne, Bool.or_false]
   lia
theorem getElem?_snoc {α : Type} {S : List α} {z : α} {j : Nat} : (S ++ [z])[j]? = if j < S.length then S[j]? else if j = S.length then some z else none := by
 split
 ·rw [List.getElem?_append_left (by assumption)]
 ·rename_i h
  split
  ·rename_i h; subst h; simp
  ·rename_i h2; rw [List.getElem?_append_right (by lia)]
   obtain ⟨n, hn⟩ : ∃ n, j - S.length = n + 1 := ⟨j - S.length - 1, by lia⟩
   rw [hn]; rfl
section
variable {ns : List Nd} {p : Nat → Nat} {fin : List Nat} {S : List (Nd × Nat)} {s : Nat} {nd : Nd} {z : Nd × Nat}
theorem DInv.push (h : DInv ns p fin S (some nd.v)) (hm : nd ∈ ns) (hn : nd.v ∉ fin ++ S.map (·.1.v)) : DInv ns p fin (S ++ [(nd, 0)]) none where
 nd := by
  rw [List.map_append, ← List.append_assoc, List.nodup_append]
  exact ⟨h.nd, by simp, fun a ha b hb e => hn (by simp at hb; rw [← hb, ← e]; exact ha)⟩
 sub := fun y hy => by
  rcases List.mem_append.mp hy with hy | hy
  ·exact h.sub y hy
  ·have : y = (nd, 0) := by simpa using hy
   rw [this]; exact hm
 fk := h.fk
 ch := fun j a b ha hb => by
  rw [getElem?_snoc] at ha hb
  by_cases q : j + 1 < S.length
  ·rw [if_pos q] at hb
   rw [if_pos (by lia)] at ha
   exact h.ch j a b ha hb
  ·rw [if_neg q] at hb
   by_cases q2 : j + 1 = S.length
   ·rw [if_pos q2] at hb
    rw [if_pos (by lia)] at ha
    cases hb
    have hS : S = S.take j ++ [a] := by
     rw [← tk_snoc ha]
     rw [List.take_of_length_le (by lia)]
    exact (h.top nd.v rfl).2 _ _ hS
   ·rw [if_neg q2] at hb; cases hb
 le := fun y hy => by
  rcases List.mem_append.mp hy with hy | hy
  ·exact h.le y hy
  ·have : y = (nd, 0) := by simpa using hy
   rw [this]; exact Nat.zero_le _
 it := fun j y hy i s hi hs => by
  rw [getElem?_snoc] at hy
  split at hy
  ·rename_i q
   rcases h.it j y hy i s hi hs with r | r | ⟨r1, r2⟩
   ·exact .inl r
   ·refine .inr (.inl ?_)
    rw [getElem?_snoc, if_pos]
    ·exact r
    ·rcases Nat.lt_or_ge (j + 1) S.length with q' | q'
     ·exact q'
     ·rw [List.getElem?_eq_none q'] at r; cases r
   ·refine .inr (.inl ?_)
    have hl : ¬ j + 1 < S.length := fun q' => by rw [List.getElem?_eq_getElem q'] at r1; cases r1
    rw [getElem?_snoc, if_neg hl, if_pos (by lia)]
    cases r2; rfl
  ·split at hy
   ·cases hy; exact absurd hi (Nat.not_lt_zero _)
   ·cases hy
 ord := h.ord
 top := fun s hs => by cases hs
theorem DInv.old (h : DInv ns p fin S (some s)) (hs : s ∈ fin) : DInv ns p fin S none where
 nd := h.nd
 sub := h.sub
 fk := h.fk
 ch := h.ch
 le := h.le
 it := fun j y hy i u hi hu => by
  rcases h.it j y hy i u hi hu with r | r | ⟨r1, r2⟩
  ·exact .inl r
  ·exact .inr (.inl r)
  ·cases r2; exact .inl hs
 ord := h.ord
 top := fun s hs => by cases hs
theorem DInv.item {i : Nat} (h : DInv ns p fin (S ++ [(nd, i)]) none) (hs : nd.sc[i]? = some s) (hp : ∀ nd ∈ ns, ∀ s ∈ nd.sc, (p s = nd.v ∧ 1 ≤ s) ∧ s ∈ ns.map (·.v)) : DInv ns p fin (S ++ [(nd, i + 1)]) (some s) where
 nd := by simpa using h.nd
 sub := fun y hy => by
  rcases List.mem_append.mp hy with hy | hy
  ·exact h.sub y (List.mem_append_left _ hy)
  ·have : y = (nd, i + 1) := by simpa using hy
   rw [this]; exact h.sub (nd, i) (by simp)
 fk := h.fk
 ch := fun j a b ha hb => by
  rw [getElem?_snoc] at ha hb
  by_cases q : j + 1 < S.length
  ·rw [if_pos q] at hb
   rw [if_pos (by lia)] at ha
   exact h.ch j a b (by rw [getElem?_snoc, if_pos (by lia)]; exact ha) (by rw [getElem?_snoc, if_pos q]; exact hb)
  ·rw [if_neg q] at hb
   by_cases q2 : j + 1 = S.length
   ·rw [if_pos q2] at hb
    rw [if_pos (by lia)] at ha
    cases hb
    exact h.ch j a (nd, i) (by rw [getElem?_snoc, if_pos (by lia)]; exact ha) (by rw [getElem?_snoc, if_neg q, if_pos q2])
   ·rw [if_neg q2] at hb; cases hb
 le := fun y hy => by
  rcases List.mem_append.mp hy with hy | hy
  ·exact h.le y (List.mem_append_left _ hy)
  ·have : y = (nd, i + 1) := by simpa using hy
   rw [this]
   rcases Nat.lt_or_ge i nd.sc.length with q | q
   ·exact q
   ·rw [List.getElem?_eq_none q] at hs; cases hs
 it := fun j y hy i' u hi hu => by
  rw [getElem?_snoc] at hy
  split at hy
  ·rename_i q
   rcases h.it j y (by rw [getElem?_snoc, if_pos q]; exact hy) i' u hi hu with r | r | ⟨r1, r2⟩
   ·exact .inl r
   ·refine .inr (.inl ?_)
    rw [getElem?_snoc] at r ⊢
    by_cases q1 : j + 1 < S.length
    ·rw [if_pos q1] at r ⊢; exact r
    ·rw [if_neg q1] at r ⊢
     rw [if_pos (by lia)] at r ⊢
     exact r
   ·cases r2
  ·rename_i q
   split at hy
   ·rename_i q2
    cases hy
    have hlast : (S ++ [(nd, i + 1)])[j + 1]? = none := by rw [getElem?_snoc, if_neg (by lia), if_neg (by lia)]
    by_cases e : i' = i
    ·subst e
     rw [hs] at hu
     cases hu
     exact .inr (.inr ⟨hlast, rfl⟩)
    ·rcases h.it j (nd, i) (by rw [getElem?_snoc, if_neg q, if_pos q2]) i' u (by simp at hi ⊢; lia) hu with r | r | ⟨r1, r2⟩
     ·exact .inl r
     ·rw [getElem?_snoc, if_neg (by lia), if_neg (by lia)] at r; cases r
     ·cases r2
   ·cases hy
 ord := h.ord
 top := fun u hu => by
  cases hu
  have := hp nd (h.sub (nd, i) (by simp)) s (List.mem_of_getElem? hs)
  refine ⟨this.2, fun S' y hy => ?_⟩
  (refine e0_2 (List.append_inj' hy rfl) ?_; intro _ e)
  have : y = (nd, i + 1) := by simpa using e.symm
  rw [this]; exact (hp nd (h.sub (nd, i) (by simp)) s (List.mem_of_getElem? hs)).1
theorem DInv.pop {i : Nat} (hnn : (ns.map (·.v)).Nodup) (h : DInv ns p fin (S ++ [(nd, i)]) none) (hs : nd.sc[i]? = none) : DInv ns p (fin ++ [nd.v]) S none where
 nd := by
  have := h.nd
  rw [List.map_append] at this
  have e : (fin ++ (S.map (·.1.v) ++ [nd.v])).Perm (fin ++ [nd.v] ++ S.map (·.1.v)) := by
   rw [List.append_assoc]
   exact List.Perm.append_left _ List.perm_append_comm
  exact (e.nodup_iff).mp this
 sub := fun y hy => h.sub y (List.mem_append_left _ hy)
 fk := fun u hu => by
  rcases List.mem_append.mp hu with hu | hu
  ·exact h.fk u hu
  ·have : u = nd.v := by simpa using hu
   rw [this]; exact List.mem_map_of_mem (f := (·.v)) (h.sub (nd, i) (by simp))
 ch := fun j a b ha hb => by
  have hl : j + 1 < S.length := by
   rcases Nat.lt_or_ge (j + 1) S.length with q | q
   ·exact q
   ·rw [List.getElem?_eq_none q] at hb; cases hb
  exact h.ch j a b (by rw [getElem?_snoc, if_pos (by lia)]; exact ha) (by rw [getElem?_snoc, if_pos hl]; exact hb)
 le := fun y hy => h.le y (List.mem_append_left _ hy)
 it := fun j y hy i' u hi hu => by
  have hl : j < S.length := by
   rcases Nat.lt_or_ge j S.length with q | q
   ·exact q
   ·rw [List.getElem?_eq_none q] at hy; cases hy
  rcases h.it j y (by rw [getElem?_snoc, if_pos hl]; exact hy) i' u hi hu with r | r | ⟨r1, r2⟩
  ·exact .inl (List.mem_append_left _ r)
  ·rw [getElem?_snoc] at r
   by_cases q : j + 1 < S.length
   ·rw [if_pos q] at r; exact .inr (.inl r)
   ·rw [if_neg q, if_pos (by lia)] at r
    cases r
    exact .inl (by simp)
  ·cases r2
 ord := fun k u hk nd' hnd' hv s hs' => by
  rw [getElem?_snoc] at hk
  split at hk
  ·rename_i q
   rw [List.take_append_of_le_length (by lia)]
   exact h.ord k u hk nd' hnd' hv s hs'
  ·split at hk
   ·rename_i q2
    cases hk
    have e : nd' = nd := uniq_nd hnn hnd' (h.sub (nd, i) (by simp)) hv
    subst e
    (refine e1_1 (List.getElem?_of_mem hs') ?_; intro i' hi')
    have hlt : i' < i := by
     rcases Nat.lt_or_ge i' i with q | q
     ·exact q
     ·have : nd'.sc.length ≤ i := by
       rcases Nat.lt_or_ge i nd'.sc.length with q' | q'
       ·rw [List.getElem?_eq_getElem q'] at hs; cases hs
       ·exact q'
      rw [List.getElem?_eq_none (by lia)] at hi'; cases hi'
    rw [q2, List.take_append_of_le_length (Nat.le_refl _), List.take_length]
    rcases h.it S.length (nd', i) (by rw [getElem?_snoc, if_neg (Nat.lt_irrefl _), if_pos rfl]) i' s hlt hi' with r | r | ⟨r1, r2⟩
    ·exact r
    ·rw [getElem?_snoc, if_neg (by lia), if_neg (by lia)] at r; cases r
    ·cases r2
   ·cases hk
 top := fun s hs => by cases hs
end
structure Ring (p : Nat → Nat) (r : List Nat) : Prop where
 len : 2 ≤ r.length
 cls : r.head? = r.getLast?
 nd : r.dropLast.Nodup
 ch : ∀ (j : Nat) a b, r[j]? = some a → r[j + 1]? = some b → (p b = a ∧ 1 ≤ b)
theorem DInv.ring {ns : List Nd} {p : Nat → Nat} {fin : List Nat} {S : List (Nd × Nat)} {s : Nat} (h : DInv ns p fin S (some s)) {j : Nat} (hj : (S.map (·.1.v))[j]? = some s) : Ring p ((S.map (·.1.v)).drop j ++ [s]) := by
 have hlt : j < (S.map (·.1.v)).length := by
  rcases Nat.lt_or_ge j (S.map (·.1.v)).length with q | q
  ·exact q
  ·rw [List.getElem?_eq_none q] at hj; cases hj
 have hlt' : j < S.length := by simpa using hlt
 have hd : (S.map (·.1.v)).drop j = s :: (S.map (·.1.v)).drop (j + 1) := by
  rw [List.drop_eq_getElem_cons hlt]
  rw [List.getElem?_eq_getElem hlt] at hj
  injection hj with hj
  rw [hj]
 have nds : (S.map (·.1.v)).Nodup := by have := h.nd; rw [List.nodup_append] at this; exact this.2.1
 refine ⟨by simp; lia, by rw [List.getLast?_concat, hd]; rfl, by rw [List.dropLast_concat]; exact nds.sublist (List.drop_sublist _ _), fun i a b ha hb => ?_⟩
 rw [getElem?_snoc] at ha hb
 simp only [List.length_drop, List.length_map] at ha hb
 by_cases q : i + 1 < S.length - j
 ·rw [if_pos q] at hb
  rw [if_pos (by lia)] at ha
  rw [List.getElem?_drop, List.getElem?_map] at ha hb
  (refine e1_2 (Option.map_eq_some_iff.mp ha) ?_; rintro x hx rfl)
  (refine e1_2 (Option.map_eq_some_iff.mp hb) ?_; rintro y hy rfl)
  exact h.ch (j + i) x y hx (by rw [← hy]; congr 1)
 ·rw [if_neg q] at hb
  by_cases q2 : i + 1 = S.length - j
  ·rw [if_pos q2] at hb
   cases hb
   rw [if_pos (by lia), List.getElem?_drop, List.getElem?_map] at ha
   (refine e1_2 (Option.map_eq_some_iff.mp ha) ?_; rintro x hx rfl)
   have hS : S = S.take (j + i) ++ [x] := by
    rw [← tk_snoc hx, List.take_of_length_le (by lia)]
   exact (h.top s rfl).2 _ _ hS
  ·rw [if_neg q2] at hb; cases hb
noncomputable def Acyc (ns : List Nd) (fin : List Nat) : Prop := (∀ v ∈ ns.map (·.v), v ∈ fin) ∧ (∀ v ∈ fin, v ∈ ns.map (·.v)) ∧ fin.Nodup ∧ ∀ (k : Nat) u, fin[k]? = some u → ∀ nd ∈ ns, nd.v = u → ∀ s ∈ nd.sc, s ∈ fin.take k
end
section
inductive ItL : List (Nd × Nat) → List Value → Led → Prop
 | nil : ItL [] [] []
 | snoc {S vs L nd i b it} : ItL S vs L → ItL (S ++ [(nd, i)]) (vs ++ [.ref b]) ((b, mwO it) :: (it, liO nd.al i) :: L)
theorem ItL.len {S : List (Nd × Nat)} {vs : List Value} {L : Led} (h : ItL S vs L) : vs.length = S.length := by
 induction h with
 | nil => rfl
 | snoc _ ih => simp [ih]
theorem ItL.last {S : List (Nd × Nat)} {vs : List Value} {L : Led} {nd : Nd} {i : Nat} (h : ItL (S ++ [(nd, i)]) vs L) : ∃ vs' b it L', vs = vs' ++ [.ref b] ∧ L = (b, mwO it) :: (it, liO nd.al i) :: L' ∧ ItL S vs' L' := by
 generalize e : S ++ [(nd, i)] = T at h
 cases h with
 | nil => simp at e
 | @snoc S' vs' L' nd' i' b it hL =>
  (refine e0_2 (List.append_inj' e rfl) ?_; intro hE1 e2; subst hE1)
  cases e2
  exact i4_3 _ _ _ _ rfl rfl hL
noncomputable def KvS (S : List (Nd × Nat)) (kv : List (Int × Value)) : Prop := kv.length = S.length ∧ ∀ (j : Nat) z, S[j]? = some z → ∃ t, kv[j]? = some ((z.1.v : Int), .int j t)
theorem KvS.nil : KvS [] [] := ⟨rfl, fun _ _ h => by simp at h⟩
theorem KvS.keys {S : List (Nd × Nat)} {kv : List (Int × Value)} (h : KvS S kv) : kv.map (·.1) = il (S.map (·.1.v)) := by
 refine List.ext_getElem? fun j => ?_
 unfold il
 rw [List.getElem?_map, List.getElem?_map, List.getElem?_map]
 cases q : S[j]? with
 | some z => obtain ⟨t, ht⟩ := h.2 j z q; rw [ht]; rfl
 | none =>
  have : kv[j]? = none := List.getElem?_eq_none (by rw [h.1]; exact List.getElem?_eq_none_iff.mp q)
  rw [this]; rfl
theorem valueAt_at {kv : List (Int × Value)} (hn : (kv.map (·.1)).Nodup) {j : Nat} {k : Int} {v : Value} (h : kv[j]? = some (k, v)) : valueAt kv k = some v := by
 unfold valueAt
 induction kv generalizing j with
 | nil => simp at h
 | cons y kv ih =>
  rw [List.map_cons, List.nodup_cons] at hn
  rw [List.find?_cons]
  cases j with
  | zero => simp at h; subst h; simp
  | succ j =>
   have h : kv[j]? = some (k, v) := by simpa using h
   have : decide (y.1 = k) = false := decide_eq_false fun e => hn.1 (by rw [e]; exact List.mem_map_of_mem (f := (·.1)) (List.mem_of_getElem? h))
   rw [this]
   exact ih hn.2 h
theorem valueAt_no {kv : List (Int × Value)} {k : Int} (h : k ∉ kv.map (·.1)) : valueAt kv k = none := by
 unfold valueAt
 rw [List.find?_eq_none.mpr]; rfl
 intro y hy e
 exact h (by rw [← of_decide_eq_true e]; exact List.mem_map_of_mem (f := (·.1)) hy)
theorem il_nodup {xs : List Nat} (h : xs.Nodup) : (il xs).Nodup := by
 unfold il
 rw [List.nodup_iff_pairwise_ne, List.pairwise_map]
 exact (List.nodup_iff_pairwise_ne.mp h).imp fun h e => h (Int.ofNat.inj e)
theorem mem_il {xs : List Nat} {v : Nat} : ((v : Nat) : Int) ∈ il xs ↔ v ∈ xs := by
 unfold il
 constructor
 ·intro h; obtain ⟨y, hy, e⟩ := List.mem_map.mp h; have : y = v := Int.ofNat.inj e; rw [← this]; exact hy
 ·intro h; exact List.mem_map_of_mem (f := Int.ofNat) h
theorem KvS.at {S : List (Nd × Nat)} {kv : List (Int × Value)} (h : KvS S kv) (hn : (S.map (·.1.v)).Nodup) {s : Nat} : (s ∈ S.map (·.1.v) → ∃ j t, (S.map (·.1.v))[j]? = some s ∧ valueAt kv (s : Int) = some (.int (j : Nat) t)) ∧ (s ∉ S.map (·.1.v) → valueAt kv (s : Int) = none) := by
 have hk := h.keys
 have hnd : (kv.map (·.1)).Nodup := by rw [hk]; exact il_nodup hn
 refine ⟨fun hs => ?_, fun hs => valueAt_no (by rw [hk]; exact fun q => hs (mem_il.mp q))⟩
 (refine e1_1 (List.getElem?_of_mem hs) ?_; intro j hj)
 have hj' := hj
 rw [List.getElem?_map] at hj
 (refine e1_2 (Option.map_eq_some_iff.mp hj) ?_; rintro z hz rfl)
 (refine e1_1 (h.2 j z hz) ?_; intro t ht)
 exact i2_2 j t hj' (valueAt_at hnd ht)
theorem KvS.push {S : List (Nd × Nat)} {kv : List (Int × Value)} (h : KvS S kv) {nd : Nd} {i : Nat} {t : Tok} (hs : nd.v ∉ S.map (·.1.v)) : KvS (S ++ [(nd, i)]) (stored kv (nd.v : Int) (.int (S.length : Nat) t)) := by
 unfold stored
 rw [if_neg]
 ·refine ⟨by simp [h.1], fun j z hz => ?_⟩
  rw [getElem?_snoc] at hz
  rw [getElem?_snoc, h.1]
  split at hz
  ·rename_i q; rw [if_pos q]; exact h.2 j z hz
  ·split at hz
   ·rename_i q1 q2; cases hz; rw [if_neg q1, if_pos q2, q2]; exact ⟨t, rfl⟩
   ·cases hz
 ·simp only [List.any_eq_true, decide_eq_true_eq, not_exists, not_and]
  intro y hy e
  refine hs (mem_il.mp ?_)
  rw [← h.keys, ← e]
  exact List.mem_map_of_mem (f := (·.1)) hy
theorem KvS.upd {S : List (Nd × Nat)} {kv : List (Int × Value)} {nd : Nd} {i j : Nat} (h : KvS (S ++ [(nd, i)]) kv) : KvS (S ++ [(nd, j)]) kv := by
 refine ⟨by simpa using h.1, fun k z hz => ?_⟩
 rw [getElem?_snoc] at hz
 split at hz
 ·rename_i q; exact h.2 k z (by rw [getElem?_snoc, if_pos q]; exact hz)
 ·split at hz
  ·rename_i q1 q2; cases hz; exact h.2 k (nd, i) (by rw [getElem?_snoc, if_neg q1, if_pos q2])
  ·cases hz
theorem KvS.pop {S : List (Nd × Nat)} {kv : List (Int × Value)} {nd : Nd} {i : Nat} (h : KvS (S ++ [(nd, i)]) kv) (hn : ((S ++ [(nd, i)]).map (·.1.v)).Nodup) : KvS S (without kv (nd.v : Int)) ∧ (valueAt kv (nd.v : Int)).isSome = true := by
 have hk := h.keys
 have hl : kv.length = S.length + 1 := by simpa using h.1
 (refine e1_1 (h.2 S.length (nd, i) (by rw [getElem?_snoc, if_neg (Nat.lt_irrefl _), if_pos rfl])) ?_; intro t ht)
 have e : kv = kv.take S.length ++ [((nd.v : Int), .int (S.length : Nat) t)] := by
  rw [← tk_snoc ht, List.take_of_length_le (by lia)]
 have hnot : (nd.v : Int) ∉ (kv.take S.length).map (·.1) := by
  rw [List.map_take, hk, List.map_append]
  unfold il
  rw [List.map_append, List.take_left' (by simp)]
  intro q
  have q2 : nd.v ∈ S.map (·.1.v) := mem_il.mp q
  rw [List.map_append, List.nodup_append] at hn
  exact hn.2.2 nd.v q2 nd.v (by simp) rfl
 have ew : without kv (nd.v : Int) = kv.take S.length := by
  conv => lhs; rw [e]
  unfold without
  rw [List.filter_append]
  have h1 : (kv.take S.length).filter (fun kv => kv.1 ≠ (nd.v : Int)) = kv.take S.length := by
   rw [List.filter_eq_self]
   intro y hy
   simp only [ne_eq, decide_not, Bool.not_eq_true', decide_eq_false_iff_not]
   intro e2
   exact hnot (by rw [← e2]; exact List.mem_map_of_mem (f := (·.1)) hy)
  rw [h1]
  simp
 refine ⟨?_, ?_⟩
 ·rw [ew]
  refine ⟨by simp; lia, fun j z hz => ?_⟩
  have hj : j < S.length := by
   rcases Nat.lt_or_ge j S.length with q | q
   ·exact q
   ·rw [List.getElem?_eq_none q] at hz; cases hz
  rw [List.getElem?_take_of_lt hj]
  exact h.2 j z (by rw [getElem?_snoc, if_pos hj]; exact hz)
 ·rw [valueAt_at (by rw [hk]; exact il_nodup hn) ht]; rfl
end
section
noncomputable def sfOf (Sf : Int → Bool) : Nat → Bool := fun v => Sf (v : Int)
theorem usum_all {ns : List Nd} {f : Nat → Bool} (hlz : ns.length ≤ 50) (hsc : scLe (abs ns) 50) : usum ns f ≤ 2600 := by
 have : ∀ ns : List Nd, (∀ nd ∈ ns, nd.sc.length ≤ 50) → usum ns f ≤ 52 * ns.length := by
  intro ns
  induction ns with
  | nil => intro _; exact Nat.le_refl _
  | cons z ns ih =>
   intro h
   have := ih fun nd hnd => h nd (.tail _ hnd)
   have hz := h z (.head _)
   unfold usum at this ⊢
   simp only [List.map_cons, List.sum_cons, List.length_cons]
   split <;> lia
 have h := this ns fun nd hnd => hsc (nd.v, nd.np, nd.sc) (mem_abs hnd)
 lia
theorem Ints.drop {vs : List Value} {xs : List Int} (h : Ints vs xs) (j : Nat) : Ints (vs.drop j) (xs.drop j) :=
 ⟨by simp [h.len], fun i x hx => by rw [List.getElem?_drop] at hx ⊢; exact h.get _ x hx⟩
theorem Ints.unsnoc {vs : List Value} {xs : List Int} {x : Int} (h : Ints vs (xs ++ [x])) : ∃ vs' t, vs = vs' ++ [.int x t] ∧ Ints vs' xs := by
 have hl : vs.length = xs.length + 1 := by rw [h.len]; simp
 (refine e1_1 (h.get xs.length x (by simp)) ?_; intro t ht)
 refine i2_2 (vs.take xs.length) t ?_ ?_
 ·rw [← tk_snoc ht, List.take_of_length_le (by lia)]
 ·refine ⟨by simp; lia, fun i y hy => ?_⟩
  have hi : i < xs.length := by
   rcases Nat.lt_or_ge i xs.length with q | q
   ·exact q
   ·rw [List.getElem?_eq_none q] at hy; cases hy
  obtain ⟨u, hu⟩ := h.get i y (by rw [List.getElem?_append_left hi]; exact hy)
  exact ⟨u, by rw [List.getElem?_take_of_lt hi]; exact hu⟩
theorem perm_front {α : Type} (A B C : List α) : (A ++ (B ++ C)).Perm (B ++ (A ++ C)) := by
 rw [← List.append_assoc, ← List.append_assoc]
 exact List.Perm.append_right _ List.perm_append_comm
theorem exc_si : isSubtype (.type "StopIteration") (.type "BaseException") = pure true := by rw [isSubtype_type]; kernel_rfl
theorem self_si : isSubtype (.type "StopIteration") (.type "StopIteration") = pure true := by rw [isSubtype_type]; kernel_rfl
theorem nt_si : isSubtype (.type ((Manifest.find? "StopIteration").elim "type" fun x => x.metatype)) (.type "tuple") = pure false := by rw [show ((Manifest.find? "StopIteration").elim "type" fun x => x.metatype) = "type" from by kernel_rfl, isSubtype_type]; kernel_rfl
theorem FCYC {w : World} {x : Addr} (st : Srt) (SL : Led) (hS : SorL w x st SL) (p : Nat → Nat) (hp : ∀ nd ∈ st.ns, ∀ s ∈ nd.sc, (p s = nd.v ∧ 1 ≤ s) ∧ s ∈ st.ns.map (·.v)) (hlz : st.ns.length ≤ 50) (hsc : scLe (abs st.ns) 50) :
  SpecX w 2 230 [.ref x] (fun _ => True) SL (fun r l' => (r = .none ∧ l' = SL ∧ ∃ fin, Acyc st.ns fin) ∨ ∃ a vs k ring, r = .ref a ∧ l' = (a, lst vs k) :: SL ∧ Ints vs (il ring) ∧ Ring p ring ∧ ring.length ≤ 2000 ∧ ∀ v ∈ ring, v ∈ st.ns.map (·.v)) (fun _ _ _ => False) := by
 refine specX_vc [("self", .ref x)] ["n2i", "stack", "itstack", "seen", "node2stacki", "node"] fi_TopologicalSorter__find_cycle_ok rfl (by kernel_rfl) (by kernel_rfl) (by kernel_rfl) ?_
 intro c0 c hw hz hm hV hn hgt hX hY hp0
 dsimp only [fi_TopologicalSorter__find_cycle] at hgt
 subst hw
 have hS0 := hS
 (refine hideG ?_; intro P0 hP0; obtain ⟨dx, d, od, n, t1, t2, t3, t4, t5, t6, rv, RL, L, hSL, hD, hL, hnd, hR⟩ := hS; refine hP0 ?_; clear hP0 P0)
 have sub : ∀ q ∈ L, q ∈ SL := fun q hq => by rw [hSL]; exact .tail _ (.tail _ (.tail _ (List.mem_append_right _ hq)))
 have hdm : (d, od) ∈ SL := by rw [hSL]; repeat constructor
 have hxm : (x, instObj 240 dx) ∈ SL := by rw [hSL]; repeat constructor
 have hdx : (dx, iD c.w.params (sKs d rv st.po st.nf t1 t2 t3 t4 t5 t6) n) ∈ SL := by rw [hSL]; repeat constructor
 (refine stq hV ?_; intro K qK; walk_at"go")
 refine o_get hV (cls240 _) (hasD240 _) (fn240 _).1 (.inl hxm) (.inl hdx) (v := .ref d) rfl rfl ?_
 walk_at"go"
 (refine qK.n _ _ ?_; (try clear qK K); refine stq hV ?_; intro K qK; walk_at"go")
 rename_i as
 (refine qK.n _ _ ?_; (try clear qK K); refine stq hV ?_; intro K qK; walk_at"go")
 rename_i ai
 (refine qK.n _ _ ?_; (try clear qK K); refine stq hV ?_; intro K qK; walk_at"go")
 refine o_t0 (o_set0 fun ss os hs0 => ?_)
 walk_at"go"
 (refine qK.n _ _ ?_; (try clear qK K); refine stq hV ?_; intro K qK; walk_at"go")
 rename_i d2
 (refine qK.n _ _ ?_; (try clear qK K); refine stq hV ?_; intro K qK; walk_at"go")
 (refine e1_1 (IsDe.of hD) ?_; intro ep hDe)
 have kr0 := qK.r
 have kn0 := qK.n
 let CC1 : Nat → (Loc → Led → Prop) → Prop := fun i P0 => ∀ (fin : List Nat) (os dd : Obj) (k1 k2 : Nat) (nn : Nat) (Sf : Int → Bool) (o6 : Option Value), IsD c.w dd [] → IsS c.w os Sf nn → 2 * nn + usum st.ns (sfOf Sf) ≤ 2600 → (∀ v : Nat, Sf v = true ↔ v ∈ fin) → DInv st.ns p fin [] none → (∀ v ∈ (st.ns.map (·.v)).take i, v ∈ fin) → P0 ([("self", some (.ref x)), ("n2i", some (.ref d)), ("stack", some (.ref as)), ("itstack", some (.ref ai)), ("seen", some (.ref ss)), ("node2stacki", some (.ref d2)), ("node", o6)]) ((d2, dd) :: (ss, os) :: (ai, lst [] k1) :: (as, lst [] k2) :: SL)
 let JJ1 : Nat → Loc → Led → Prop := fun i m l => Lz (CC1 i) m l
 refine vfor_src hV hX (src_dkeys (Vw.hh' hV hz) d hDe) .rfl (mk_dkeys hV (.tail _ (.tail _ (.tail _ (.tail _ hdm)))) hDe) JJ1 ?_ ?_ ?_ ?_
 ·refine (fun _ f0 => f0 ([]) os emptyDict 0 0 0 (fun _ => false) _ (isD_nil _) hs0 ?_ (by simp) ?_ (by simp))
  ·have := usum_all (f := sfOf fun _ => false) hlz hsc; lia
  ·exact ⟨by simp, by simp, by simp, by simp, by simp, by simp, by simp, fun s h => by cases h⟩
 ·(rintro i m l hJq; refine Lz.el hJq ?_; clear hJq; rintro fin os dd k1 k2 nn Sf o6 _ _ _ _ _ _)
  exact .tail _ (.tail _ (.tail _ (.tail _ hdm)))
 ·(rintro i v m l I oI hi ⟨k, xv, t, hkv, rfl⟩ hJq; refine Lz.el hJq ?_; clear hJq; rintro fin os dd k1 k2 nn Sf o6 hdd hss hnn hsf hI hall)
  have hkn : i < st.ns.length := by simpa [kvN] using hi
  obtain ⟨rfl, rfl⟩ : k = ((st.ns[i].v : Nat) : Int) ∧ xv = .ref st.ns[i].ai := by
   unfold kvN at hkv
   rw [List.getElem?_map, List.getElem?_eq_getElem hkn] at hkv
   have := Option.some.inj hkv
   exact ⟨(congrArg Prod.fst this).symm, (congrArg Prod.snd this).symm⟩
  have hnode : st.ns[i].v ∈ st.ns.map (·.v) := List.mem_map_of_mem (f := (·.v)) (List.getElem_mem hkn)
  have htk : ∀ fin' : List Nat, (∀ v ∈ (st.ns.map (·.v)).take i, v ∈ fin') → st.ns[i].v ∈ fin' → ∀ v ∈ (st.ns.map (·.v)).take (i + 1), v ∈ fin' := by
   intro fin' h1 h2 v hv
   rw [tk_snoc (p := st.ns[i].v) (by rw [List.getElem?_map, List.getElem?_eq_getElem hkn]; rfl)] at hv
   rcases List.mem_append.mp hv with hv | hv
   ·exact h1 v hv
   ·have : v = st.ns[i].v := by simpa using hv
    rw [this]; exact h2
  generalize st.ns[i].v = n0 at *
  walk_at"go"
  (refine stIf hV ?_; intro K qK KT qI; walk_at"go")
  refine o_sin (by repeat constructor) hss ?_
  walk_at"go"
  cases hq : Sf (n0 : Nat) with
  | true =>
   refine qI.t _ _ ?_
   (refine stl hV ?_; walk_at"go")
   refine qK.k _ _ (lpk (R := []) (.rfl) rfl (fun _ f0 => f0 fin os dd k1 k2 nn Sf _ hdd hss hnn hsf hI (htk fin hall ((hsf _).mp hq))))
  | false =>
   refine qI.f _ _ (stn (qK.n _ _ ?_))
   (refine stl hV ?_; walk_at"go")
   have hI0 : DInv st.ns p fin [] (some n0) := ⟨hI.nd, hI.sub, hI.fk, hI.ch, hI.le, fun j z h => by simp at h, hI.ord, fun s hs => by
    cases hs
    exact ⟨hnode, fun S' z h => by simp at h⟩⟩
   let CC2 : Nat → (Loc → Led → Prop) → Prop := fun nm P0 => ∀ (fin : List Nat) (S : List (Nd × Nat)) (s : Nat) (ts : Tok) (os dd : Obj) (sv iv : List Value) (kv : List (Int × Value)) (k1 k2 : Nat) (nn : Nat) (Sf : Int → Bool) (L2 : Led), IsD c.w dd kv → KvS S kv → IsS c.w os Sf nn → 2 * nn + usum st.ns (sfOf Sf) ≤ 2600 → ItL S iv L2 → Ints sv (il (S.map (·.1.v))) → S.length ≤ nn → (∀ v : Nat, Sf v = true ↔ v ∈ fin ++ S.map (·.1.v)) → DInv st.ns p fin S (some s) → (∀ v ∈ (st.ns.map (·.v)).take i, v ∈ fin) → (n0 ∈ fin ++ S.map (·.1.v) ∨ (S = [] ∧ s = n0)) → usum st.ns (sfOf Sf) + ssum S = nm → P0 ([("self", some (.ref x)), ("n2i", some (.ref d)), ("stack", some (.ref as)), ("itstack", some (.ref ai)), ("seen", some (.ref ss)), ("node2stacki", some (.ref d2)), ("node", some (.int (s : Nat) ts))]) ((I, oI) :: (d2, dd) :: (ss, os) :: (ai, lst iv k1) :: (as, lst sv k2) :: (L2 ++ SL))
   let JJ2 : Nat → Loc → Led → Prop := fun nm m l => Lz (CC2 nm) m l
   refine vwhile hV hX JJ2 _ .rfl
    (fun _ f0 => f0 fin ([]) n0 t os dd ([]) ([]) ([]) k1 k2 nn Sf ([]) hdd (.nil) hss hnn (.nil) (.nil) (Nat.zero_le _) (by simpa using hsf) hI0 hall (.inr ⟨rfl, rfl⟩) rfl) ?_
   clear hdd hss hnn hsf hI hI0 hall hq
   clear k1 k2 nn Sf fin os dd o6
   (rintro nm m l hJq; refine Lz.el hJq ?_; clear hJq; rintro fin S s ts os dd sv iv kv k1 k2 nn Sf L2 hdd hkv hss hnn hit hsv hSn hsf hI hall hn0 hnm KT qI')
   walk_at"go"
   refine qI'.t _ _ ?_
   (refine stIf hV ?_; intro K1 qK1 KT1 qI1; walk_at"go")
   have hnds : (S.map (·.1.v)).Nodup := by have := hI.nd; rw [List.nodup_append] at this; exact this.2.1
   have hsvl : sv.length = S.length := by rw [hsv.len]; simp [il]
   have hnn2 : nn ≤ 1300 := by lia
   have tail : ∀ (fin : List Nat) (S : List (Nd × Nat)) (os dd : Obj) (sv iv : List Value) (kv : List (Int × Value)) (k1 k2 : Nat) (nn : Nat) (Sf : Int → Bool) (L2 : Led), IsD c.w dd kv → KvS S kv → IsS c.w os Sf nn → 2 * nn + usum st.ns (sfOf Sf) ≤ 2600 → ItL S iv L2 → Ints sv (il (S.map (·.1.v))) → S.length ≤ nn →
     (∀ v : Nat, Sf v = true ↔ v ∈ fin ++ S.map (·.1.v)) → DInv st.ns p fin S none → (∀ v ∈ (st.ns.map (·.v)).take i, v ∈ fin) → n0 ∈ fin ++ S.map (·.1.v) → usum st.ns (sfOf Sf) + ssum S ≤ nm →
     K1 .next [("self", some (.ref x)), ("n2i", some (.ref d)), ("stack", some (.ref as)), ("itstack", some (.ref ai)), ("seen", some (.ref ss)), ("node2stacki", some (.ref d2)), ("node", some (.int (s : Nat) ts))]
      ((I, oI) :: (d2, dd) :: (ss, os) :: (ai, lst iv k1) :: (as, lst sv k2) :: (L2 ++ SL)) := by
    clear hdd hkv hss hnn hit hsv hSn hsf hI hall hn0 hnds hsvl hnn2 hnm
    clear fin S os dd sv iv kv k1 k2 nn Sf L2
    intro fin S os dd sv iv kv k1 k2 nn Sf L2 hdd hkv hss hnn hit hsv hSn hsf hI hall hn0 hnm
    refine qK1.n _ _ ?_
    (refine stl hV ?_; walk_at"go")
    let CC3 : Nat → (Loc → Led → Prop) → Prop := fun n2 P0 => ∀ (fin : List Nat) (S : List (Nd × Nat)) (dd : Obj) (sv iv : List Value) (kv : List (Int × Value)) (k1 k2 : Nat) (L2 : Led), IsD c.w dd kv → KvS S kv → ItL S iv L2 → Ints sv (il (S.map (·.1.v))) → S.length ≤ nn → (∀ v : Nat, Sf v = true ↔ v ∈ fin ++ S.map (·.1.v)) → DInv st.ns p fin S none → (∀ v ∈ (st.ns.map (·.v)).take i, v ∈ fin) → n0 ∈ fin ++ S.map (·.1.v) → usum st.ns (sfOf Sf) + ssum S = n2 → n2 ≤ nm → P0 ([("self", some (.ref x)), ("n2i", some (.ref d)), ("stack", some (.ref as)), ("itstack", some (.ref ai)), ("seen", some (.ref ss)), ("node2stacki", some (.ref d2)), ("node", some (.int (s : Nat) ts))]) ((I, oI) :: (d2, dd) :: (ss, os) :: (ai, lst iv k1) :: (as, lst sv k2) :: (L2 ++ SL))
    let JJ3 : Nat → Loc → Led → Prop := fun n2 m l => Lz (CC3 n2) m l
    refine vwhile hV hX JJ3 _ .rfl
     (fun _ f0 => f0 fin S dd sv iv kv k1 k2 L2 hdd hkv hit hsv hSn hsf hI hall hn0 rfl hnm) ?_
    clear hdd hkv hit hsv hSn hsf hI hall hn0 hnm
    clear fin S dd sv iv kv k1 k2 L2
    (rintro n2 m l hJq; refine Lz.el hJq ?_; clear hJq; rintro fin S dd sv iv kv k1 k2 L2 hdd hkv hit hsv hSn hsf hI hall hn0 hE1 hnm KT qI2; subst hE1)
    have hsvl : sv.length = S.length := by rw [hsv.len]; simp [il]
    walk_at"go"
    refine o_trl (.inl (by repeat constructor)) (by lia) ?_
    rcases List.eq_nil_or_concat S with rfl | ⟨S, ⟨nd, i2⟩, rfl⟩
    ·have : sv = [] := by simpa using hsvl
     subst this
     refine qI2.f _ _ ?_
     (refine stl hV ?_; walk_at"go")
     have hkv0 : kv = [] := by have := hkv.1; simpa using this
     have hL20 : iv = [] ∧ L2 = [] := by
      generalize hT : ([] : List (Nd × Nat)) = T at hit
      cases hit with
      | nil => exact ⟨rfl, rfl⟩
      | snoc _ => simp at hT
     (refine e0_2 hL20 ?_; clear hL20; intro hE1 hE2; subst hE1 hE2)
     subst hkv0
     exact whb (lpk (R := []) (.rfl) rfl (fun _ f0 => f0 fin os dd k1 k2 nn Sf _ hdd hss hnn (by simpa using hsf) hI (htk fin hall (by simpa using hn0))))
    ·simp only [List.concat_eq_append] at *
     (refine e4_3 hit.last ?_; intro iv b it L2 hE1 hE2 hit2; subst hE1 hE2)
     have hsv' := hsv
     rw [List.map_append] at hsv'
     unfold il at hsv'
     rw [List.map_append] at hsv'
     (refine e2_2 hsv'.unsnoc ?_; intro sv t9 hE1 hsv2; subst hE1)
     simp only [List.cons_append]
     rw [show (!(sv ++ [Value.int (Int.ofNat nd.v) t9]).isEmpty) = true by simp]
     have hndm : nd ∈ st.ns := hI.sub (nd, i2) (by simp)
     (refine e4_5 (hS0.sc hndm) ?_; intro u1 u2 vs3 k3 hm1 hm2 hm3 hi3 _)
     refine qI2.t _ _ ?_
     have hV0 := hV
     have hgt0 := hgt
     (refine stl hV ?_; walk_at"go")
     refine o_try0 hV (fun cls vs m l => cls = .type "StopIteration" ∧ vs = [] ∧ nd.sc[i2]? = none ∧ m = ([("self", some (.ref x)), ("n2i", some (.ref d)), ("stack", some (.ref as)), ("itstack", some (.ref ai)), ("seen", some (.ref ss)), ("node2stacki", some (.ref d2)), ("node", some (.int (s : Nat) ts))] : Loc) ∧
      l = (I, oI) :: (d2, dd) :: (ss, os) :: (ai, lst (iv ++ [.ref b]) k1) :: (as, lst (sv ++ [.int (Int.ofNat nd.v) t9]) k2) :: (b, mwO it) :: (it, liE i2) :: (L2 ++ SL)) exc_si nt_si (by rw [hgt]; repeat constructor) ?_ ?_
     ·intro c0₁ c₁ hlk hz hm hV₁ hY₁ hX₁ K₁ kn₁ kb₁ kc₁ kr₁
      (refine e0_6 hlk ?_; clear hlk; intro e1 e2 e3 e4 e5 e6)
      rw [hgt] at e3
      have hV := hV₁
      have hgt := e3
      (refine stq hV ?_; intro K qK; walk_at"go")
      refine o_callE hV ?_
      walk_at"go"
      refine o_last (.inl (by repeat constructor)) (by have := hit2.len; simp at hSn; lia) ?_
      refine o_cwm (it := it) (by repeat constructor) ?_
      cases hnx : nd.sc[i2]? with
      | none =>
       refine o_nxe hV hm hY₁ (it := it) (i := i2) (a := nd.al) (vs := vs3) (k := k3) (by repeat constructor) (.inl (.tail _ (.tail _ (.tail _ (.tail _ (.tail _ (.tail _ (.tail _ (List.mem_append_right _ hm3))))))))) (by repeat constructor) ?_ ⟨_, by repeat constructor, rfl, rfl, hnx, rfl, rfl⟩
       exact List.getElem?_eq_none (by rw [hi3.len]; unfold il; rw [List.length_map]; exact List.getElem?_eq_none_iff.mp hnx)
      | some s2 =>
       obtain ⟨t10, ht10⟩ := hi3.get i2 ((s2 : Nat) : Int) (by unfold il; rw [List.getElem?_map, hnx]; rfl)
       refine o_nxi (it := it) (i := i2) (a := nd.al) (vs := vs3) (k := k3) (by repeat constructor) (.inl (.tail _ (.tail _ (.tail _ (.tail _ (.tail _ (.tail _ (.tail _ (List.mem_append_right _ hm3))))))))) (by repeat constructor) ht10 ⟨_, by repeat constructor, ?_⟩
       walk_at"go"
       (refine qK.n _ _ ?_; (try clear qK K))
       (refine stl hV ?_; walk_at"go")
       refine kb₁ _ _ ?_
       have hlt : i2 < nd.sc.length := by
        rcases Nat.lt_or_ge i2 nd.sc.length with q | q
        ·exact q
        ·rw [List.getElem?_eq_none q] at hnx; cases hnx
       have hm1' : ssum (S ++ [(nd, i2 + 1)]) < ssum (S ++ [(nd, i2)]) := by unfold ssum; simp; lia
       have hmap : ∀ i3, (S ++ [(nd, i3)]).map (fun z : Nd × Nat => z.1.v) = (S ++ [(nd, i2)]).map (fun z : Nd × Nat => z.1.v) := fun i3 => by simp
       exact whb (whk (R := []) (n' := usum st.ns (sfOf Sf) + ssum (S ++ [(nd, i2 + 1)])) (.rfl) (by lia) (fun _ f0 => f0 fin (S ++ [(nd, i2 + 1)]) s2 t10 os dd (sv ++ [.int (Int.ofNat nd.v) t9]) (iv ++ [.ref b]) kv k1 k2 nn Sf ((b, mwO it) :: (it, liO nd.al (i2 + 1)) :: L2) hdd (hkv.upd) hss hnn (.snoc hit2) (by rw [hmap]; exact hsv) (by simpa using hSn) (by rw [hmap]; exact hsf) (hI.item hnx hp) hall (.inl (by rw [hmap]; exact hn0)) rfl))
     ·(rintro cls vs m l a tt oe ot ws nt hJq; (refine e0_5 hJq ?_; clear hJq; intro hE1 hE2 hsn hE3 hE4; subst hE1 hE2 hE3 hE4); rintro h1 h2 h3 h4 h5)
      refine ⟨⟨_, rfl, self_si⟩, ?_⟩
      intro c0₂ c₂ hlk hV₂
      (refine e0_6 hlk ?_; clear hlk; intro e1 e2 e3 e4 e5 e6)
      rw [hgt0] at e3
      have hV := hV₂
      have hgt := e3
      (refine stq hV ?_; intro K qK; walk_at"go")
      refine o_del1 hV ?_
      walk_at"go"
      refine o_bm0 "list.pop" (g_list (.inl (by repeat constructor)) PySem.F.slot_list_pop PySem.F.type_list_pop) ?_
      simp only [List.length_append, List.length_singleton] at hSn hsvl
      refine o_pop (vs := sv) (by lia) ⟨_, by repeat constructor, ?_⟩
      have hnd2 : ((S ++ [(nd, i2)]).map (·.1.v)).Nodup := by have := hI.nd; rw [List.nodup_append] at this; exact this.2.1
      (refine e0_2 (hkv.pop hnd2) ?_; intro hkv2 hkv3)
      refine o_ddel (by repeat constructor) (by rw [e1]; exact hdd) hkv3 (by rw [hkv.1]; simp; lia) fun dd' hdd' => ⟨_, by repeat constructor, ?_⟩
      rw [e1] at hdd'
      (refine qK.n _ _ ?_; (try clear qK K))
      (refine stl hV ?_; walk_at"go")
      refine o_bm0 "list.pop" (g_list (.inl (by repeat constructor)) PySem.F.slot_list_pop PySem.F.type_list_pop) ?_
      refine o_pop (vs := iv) (by have := hit2.len; lia) ⟨_, by repeat constructor, ?_⟩
      have hle : i2 ≤ nd.sc.length := hI.le (nd, i2) (by simp)
      have hm1' : ssum S < ssum (S ++ [(nd, i2)]) := by unfold ssum; simp
      have hpm : ∀ v, v ∈ fin ++ (S ++ [(nd, i2)]).map (fun z : Nd × Nat => z.1.v) ↔ v ∈ fin ++ [nd.v] ++ S.map (fun z : Nd × Nat => z.1.v) := by
       intro v; simp; constructor <;> (rintro (h | h | h) <;> simp [h])
      refine (whk (n' := usum st.ns (sfOf Sf) + ssum S) (.drop (.drop (.take .here (.take .here (.take .here (.take .here (.take .here (.drop (.drop .rfl))))))))) (by lia) (fun _ f0 => f0 (fin ++ [nd.v]) S dd' sv iv _ _ _ L2 hdd' hkv2 hit2 hsv2 (by lia) (fun v => (hsf v).trans (hpm v)) (hI.pop hnd hsn) (fun v hv => List.mem_append_left _ (hall v hv)) ((hpm _).mp hn0) rfl (by lia)))
   refine o_sin (by repeat constructor) hss ?_
   walk_at"go"
   cases hq : Sf (s : Nat) with
   | true =>
    refine qI1.t _ _ ?_
    (refine stIf hV ?_; intro K2 qK2 KT2 qI2; walk_at"go")
    refine o_din hV (by repeat constructor) hdd ?_
    walk_at"go"
    by_cases hst : s ∈ S.map (·.1.v)
    ·(refine e2_2 ((hkv.at hnds).1 hst) ?_; intro j tj hj hvj)
     rw [hvj]
     refine qI2.t _ _ ?_
     (refine stl hV ?_; walk_at"go")
     refine o_dget (by repeat constructor) hdd hvj ?_
     walk_at"go"
     refine o_lsl (.inl (by repeat constructor)) (.inl (by repeat constructor)) (.int _ _) .none .none (by simp) (by rw [sizeLine_eq]; lia) fun d3 => ?_
     walk_at"go"
     rename_i d4
     have hjl : j ≤ sv.length := by
      rcases Nat.lt_or_ge j (S.map (·.1.v)).length with q | q
      ·simp at q; lia
      ·rw [List.getElem?_eq_none q] at hj; cases hj
     refine o_addl (.inl (by repeat constructor)) (.inl (by repeat constructor)) (by rw [slicePick_from', sizeLine_eq]; simp; lia) fun d5 => ?_
     refine qK2.r _ _ _ (qK1.r _ _ _ (kr0 _ _ _ ?_))
     refine ⟨(d5, _) :: SL, _, .take .here (.drop (.drop (.drop (.drop (.drop (.drop (.drop (.drop Ex.app)))))))), .inr ⟨d5, _, _, _, rfl, rfl, ?_, hI.ring hj, by simp; lia, fun v hv => ?_⟩⟩
     rotate_left
     ·rcases List.mem_append.mp hv with hv | hv
      ·(refine e1_2 (List.mem_map.mp (List.mem_of_mem_drop hv)) ?_; rintro z hz rfl)
       exact List.mem_map_of_mem (f := (·.v)) (hI.sub z hz)
      ·have : v = s := by simpa using hv
       rw [this]; exact (hI.top s rfl).1
     rw [slicePick_from']
     unfold il
     rw [List.map_append, List.map_drop]
     exact (hsv.drop j).snoc _ _
    ·rw [(hkv.at hnds).2 hst]
     refine qI2.f _ _ (stn (qK2.n _ _ (stn ?_)))
     have hsm : s ∈ fin := by
      rcases List.mem_append.mp ((hsf s).mp hq) with h | h
      ·exact h
      ·exact absurd h hst
     refine tail fin S os dd sv iv kv k1 k2 nn Sf L2 hdd hkv hss hnn hit hsv hSn hsf (hI.old hsm) hall ?_ (by lia)
     rcases hn0 with h | ⟨rfl, rfl⟩
     ·exact h
     ·simpa using hsm
   | false =>
    refine qI1.f _ _ ?_
    (refine stq hV ?_; intro K2 qK2; walk_at"go")
    refine o_bm hV "set.add" (g_set (by repeat constructor) hss) ?_
    walk_at"go"
    refine o_sadd (by repeat constructor) hss (by unfold scanBound; lia) fun os' hss' => ⟨_, by repeat constructor, ?_⟩
    (refine qK2.n _ _ ?_; (try clear qK2 K2); refine stq hV ?_; intro K2 qK2; walk_at"go")
    have hsno : s ∉ fin ++ S.map (·.1.v) := fun h => by rw [(hsf s).mpr h] at hq; cases hq
    (refine e1_2 (List.mem_map.mp (hI.top s rfl).1) ?_; intro nd hndm hndv)
    subst hndv
    (refine e4_5 (hS0.sc hndm) ?_; intro u1 u2 vs3 k3 hm1 hm2 hm3 hi3 _)
    have hva : valueAt (kvN st.ns) ((nd.v : Nat) : Int) = some (.ref nd.ai) := (kv_at hnd).1 nd hndm rfl
    refine o_append hV ⟨_, _, by exact .inl (by repeat constructor)⟩ ?_
    walk_at"go"
    refine o_attrC hV ?_
    walk_at"go"
    refine o_dget (.tail _ (.tail _ (.tail _ (.tail _ (.tail _ (List.mem_append_right _ hdm)))))) hD hva ?_
    walk_at"go"
    refine o_sget hV (sl_succ _) (.inl (.tail _ (.tail _ (.tail _ (.tail _ (.tail _ (List.mem_append_right _ hm1))))))) (.inl (.tail _ (.tail _ (.tail _ (.tail _ (.tail _ (List.mem_append_right _ hm2))))))) rfl rfl ?_
    walk_at"go"
    refine o_iter (.inl (.tail _ (.tail _ (.tail _ (.tail _ (.tail _ (List.mem_append_right _ hm3))))))) fun it => ?_
    walk_at"go"
    refine o_nxa (by repeat constructor) fun b => ?_
    have hil := hit.len
    refine ⟨_, _, _, by repeat constructor, by rw [sizeLine_eq]; lia, ?_⟩
    (refine qK2.n _ _ ?_; (try clear qK2 K2); refine stq hV ?_; intro K2 qK2; walk_at"go")
    refine o_lenl (.inl (by repeat constructor)) (by lia) fun t9 => ?_
    walk_at"go"
    refine o_dset hV (by repeat constructor) hdd (by rw [hkv.1]; lia) fun dd' hdd' => ⟨_, by repeat constructor, ?_⟩
    (refine qK2.n _ _ ?_; (try clear qK2 K2))
    refine ob_drp (Drp.perm (perm_front [_, _] [_, _, _, _, _] _) ?_)
    (refine stl hV ?_; walk_at"go")
    refine o_append hV ⟨_, _, by exact .inl (by repeat constructor)⟩ ?_
    walk_at"go"
    refine ⟨_, _, _, by repeat constructor, by rw [sizeLine_eq]; lia, ?_⟩
    have hsn2 : nd.v ∉ S.map (·.1.v) := fun h => hsno (List.mem_append_right _ h)
    have hus := usum_push (f := sfOf Sf) (f' := sfOf fun k' => Sf k' || decide (k' = (nd.v : Int))) hnd hndm hq (fun v => by
     show (Sf v || decide ((v : Int) = (nd.v : Int))) = (Sf v || decide (v = nd.v))
     congr 1
     exact decide_eq_decide.mpr ⟨fun h => by lia, fun h => by rw [h]⟩)
    refine tail fin (S ++ [(nd, 0)]) os' dd' _ _ _ _ _ (nn + 1) (fun k' => Sf k' || decide (k' = (nd.v : Int))) ((b, mwO it) :: (it, liO nd.al 0) :: L2) hdd' ?_ ?_ (by lia) (.snoc hit) ?_ (by simp; lia) (fun v => ?_) (hI.push hndm hsno) hall ?_ ?_
    ·rw [hsvl]; exact hkv.push hsn2
    ·rw [hq] at hss'; exact hss'
    ·rw [List.map_append]; unfold il; rw [List.map_append]; exact hsv.snoc _ _
    ·show (Sf v || decide ((v : Int) = (nd.v : Int))) = true ↔ _
     rw [Bool.or_eq_true, hsf, decide_eq_true_eq, List.map_append, ← List.append_assoc, List.mem_append (s := fin ++ _)]
     constructor
     ·rintro (h | h)
      ·exact .inl h
      ·exact .inr (by have : v = nd.v := by lia
                      rw [this]; exact .head _)
     ·rintro (h | h)
      ·exact .inl h
      ·exact .inr (by have : v = nd.v := by simpa using h
                      rw [this])
    ·rw [List.map_append, ← List.append_assoc]
     rcases hn0 with h | ⟨rfl, rfl⟩
     ·exact List.mem_append_left _ h
     ·exact List.mem_append_right _ (.head _)
    ·have : ssum (S ++ [(nd, 0)]) = ssum S + (nd.sc.length + 1) := by unfold ssum; simp
     lia
 ·(rintro m l hJq; refine Lz.el hJq ?_; clear hJq; rintro fin os dd k1 k2 nn Sf o6 hdd hss hnn hsf hI hall)
  refine stn (kn0 _ _ ?_)
  (refine stl hV ?_; walk_at"go")
  exact ⟨_, _, .drop (.drop (.drop (.drop .rfl))), .inl ⟨rfl, fin, fun v hv => hall v (by rw [List.take_of_length_le (by simp [kvN])]; exact hv), hI.fk, by simpa using hI.nd, hI.ord⟩⟩
end
section
section
variable {c : Fx} {m : Loc} {l : Led} {K : KV Flow} {e o : Expr} {x : Str} {p pos : Pos}
theorem o_fs1 {K : KV Value} (hV : c.V) (h : vE c e K m l) : Ob c (eval (.JoinedStr [e] pos) c.env) K m l :=
 fun Q E s S kk xx => PySem.wpAny_JoinedStr_one (vE_ok hV _ _ _ _ h Q E s S kk xx)
theorem o_aattr (hV : c.V) (h : vE c e (fun v m l => vE c o (fun ov m l => Ob c (setAttr ov x v) (fun _ => K .next) m l) m l) m l) (hs : swapsWith e (some (.Attribute o x p)) pos.line c.env = pure false := by rfl) : Ob c (exec (.Assign [.Attribute o x p] e pos) c.env) K m l :=
 fun Q E s S k xx => x_aattr (vE_ok hV _ _ _ _ h _ E s S (fun v m' l' s' h' S' => vE_ok hV _ _ _ _ h' _ E s' S' (fun ov m'' l'' s'' h'' S'' => h'' _ E s'' S'' (fun _ m3 l3 s3 h3 S3 => k _ _ _ _ h3 S3) xx) xx) xx) hs
end
theorem um230 (P : Params) : findIn (KF P) (.ref 240) (Str.ofString "_find_cycle") = some (some (.ref 230)) := by kernel_rfl
theorem ty230 (P : Params) : typeIn (KF P) (.ref 230) = some (.type "function") := by kernel_rfl
theorem o_trn {c : Fx} {m : Loc} {l : Led} {K : KV Bool} (h : K false m l) : Ob c (truthy .none) K m l := fun Q E s S k xx => by
 unfold truthy
 first | exact wpAny_pure (k _ _ _ _ h S) | exact wpAny_bind (wpAny_pure (k _ _ _ _ h S)) | exact wpAny_truthy_none (k _ _ _ _ h S)
noncomputable def rdy0 (ns : List Nd) : List Nat := (ns.filter fun z => z.np == 0).map (·.v)
theorem PREP {w : World} {x : Addr} (st : Srt) (SL : Led) (hS : SorL w x st SL) (hr : st.rdy = none) (p : Nat → Nat) (hp : ∀ nd ∈ st.ns, ∀ s ∈ nd.sc, (p s = nd.v ∧ 1 ≤ s) ∧ s ∈ st.ns.map (·.v)) (hlz : st.ns.length ≤ 50) (hsc : scLe (abs st.ns) 50) :
  SpecX w 4 195 [.ref x] (fun _ => True) SL (fun r l' => r = .none ∧ SorL w x ⟨st.ns, some (rdy0 st.ns), st.po, st.nf⟩ l' ∧ ∃ fin, Acyc st.ns fin)
   (fun cls vs l' => cls = .ref 158 ∧ ∃ t0 a lv k ring SL', vs = [.str (Str.ofString "nodes are in a cycle") t0, .ref a] ∧ l' = (a, lst lv k) :: SL' ∧ Ints lv (il ring) ∧ Ring p ring ∧ ring.length ≤ 2000 ∧ (∀ v ∈ ring, v ∈ st.ns.map (·.v)) ∧ SorL w x ⟨st.ns, some (rdy0 st.ns), st.po, st.nf⟩ SL') := by
 refine specX_vc [("self", .ref x)] ["cycle"] fi_TopologicalSorter_prepare_ok rfl (by kernel_rfl) (by kernel_rfl) (by kernel_rfl) ?_
 intro c0 c hw hz hm hV hn hgt hX hY hp0
 dsimp only [fi_TopologicalSorter_prepare] at hgt
 subst hw
 (refine hideG ?_; intro P0 hP0; obtain ⟨dx, d, od, n, t1, t2, t3, t4, t5, t6, rv, RL, L, rfl, hD, hL, hnd, hR⟩ := hS; refine hP0 ?_; clear hP0 P0)
 rw [hr] at hR
 (refine e0_2 hR ?_; clear hR; intro hE1 hE2; subst hE1 hE2)
 simp only [List.nil_append]
 (refine stIf hV ?_; intro K qK KT qI; walk_at"go")
 refine o_get hV (cls240 _) (hasD240 _) (fn240 _).2.1 (.inl (by repeat constructor)) (.inl (by repeat constructor)) (v := .none) rfl rfl ?_
 walk_at"go"
 refine o_isn rfl ?_
 rw [show (!(Value.none == Value.none)) = false from rfl]
 walk_at"go"
 refine qI.f _ _ (stn (qK.n _ _ ?_))
 (refine stq hV ?_; intro K qK; walk_at"go")
 refine o_aattr hV ?_
 walk_at"go"
 refine o_comp (ks := [Str.ofString "i"]) (gt := []) (fr := []) hV (clos_ok (by intro x hx hk; simp at hx; rcases hx with rfl | rfl <;> cases hk)) (by kernel_rfl) ?_
 walk_at"go"
 refine o_get hV (cls240 _) (hasD240 _) (fn240 _).1 (.inl (by repeat constructor)) (.inl (by repeat constructor)) (v := .ref d) rfl rfl ?_
 walk_at"go"
 refine o_bm0 "dict.values" (g_dict (by repeat constructor) hD PySem.F.slot_dict_values PySem.F.type_dict_values) ?_
 refine o_values hV (by repeat constructor) hD fun vw => ?_
 (refine e1_1 (IsDe.of hD) ?_; intro ep hDe)
 refine comp_src (ks := [Str.ofString "i"]) (gt := []) (fr := []) hV hz (src_dvals (Vw.hh' hV hz) d hDe) (by kernel_rfl) (by lia) (by simp [kvN]; lia) (mk_dvals hV (by repeat constructor) (by repeat constructor) hDe) (fun i m l ys => Ints ys (il (rdy0 (st.ns.take i))) ∧ l = (vw, vwO d) :: (x, instObj 240 dx) :: (dx, iD c.w.params (sKs d Value.none st.po st.nf t1 t2 t3 t4 t5 t6) n) :: (d, od) :: L ∧ ∃ o, m = ([("i", o)] : Loc)) ⟨.nil, rfl, _, rfl⟩ (fun g p l h => .tail _ h) ?_ ?_ ?_
 ·(rintro i m l ys g _ hJq; (refine e0_3 hJq ?_; clear hJq; intro _ hE1 _; subst hE1))
  repeat constructor
 ·intro c0' c' hV' e1 hz' en hgt' hcs' hst' hX' i v m l ys I oI D k hi hv hJ KA KS hKA hKS
  (refine hideG ?_; intro P0 hP0; obtain ⟨hys, rfl, o, rfl⟩ := hJ; refine hP0 ?_; clear hP0 P0)
  have hV := hV'
  have hgt := hgt'
  (refine e1_1 hv ?_; clear hv; intro kk hkv)
  have hkn : i < st.ns.length := by simpa [kvN] using hi
  obtain rfl : v = .ref st.ns[i].ai := by
   unfold kvN at hkv
   rw [List.getElem?_map, List.getElem?_eq_getElem hkn] at hkv
   exact (congrArg Prod.snd (Option.some.inj hkv)).symm
  have hnm : st.ns[i] ∈ st.ns := List.getElem_mem hkn
  (refine hideG ?_; intro P0 hP0; obtain ⟨o1, o3, ⟨s1, s2, k3, vs, rfl, rfl, hi3⟩, q1, q2, q3, _, _⟩ := hL.at hnd hnm; refine hP0 ?_; clear hP0 P0)
  have htk : st.ns.take (i + 1) = st.ns.take i ++ [st.ns[i]] := tk_snoc (List.getElem?_eq_getElem hkn)
  have hq : rdy0 (st.ns.take (i + 1)) = rdy0 (st.ns.take i) ++ (if st.ns[i].np == 0 then [st.ns[i].v] else []) := by
   unfold rdy0
   rw [htk, List.filter_append, List.map_append]
   congr 1
   cases h : (st.ns[i].np == 0) <;> simp [List.filter, h]
  generalize st.ns[i] = nd at *
  simp only [vCT]
  walk_at"go"
  have hd1 : (nd.dxi, emptyDict) ∈ L := q2
  refine o_sget hV (sl_npre _) (.inl (.tail _ (.tail _ (.tail _ (.tail _ (.tail _ (.tail _ q1))))))) (.inl (.tail _ (.tail _ (.tail _ (.tail _ (.tail _ (.tail _ q2))))))) rfl rfl ?_
  walk_at"go"
  constructor
  ·intro h0
   rw [if_pos h0] at hq
   refine o_sget hV (sl_node _) (.inl (.tail _ (.tail _ (.tail _ (.tail _ (.tail _ (.tail _ q1))))))) (.inl (.tail _ (.tail _ (.tail _ (.tail _ (.tail _ (.tail _ q2))))))) rfl rfl ?_
   refine hKA _ _ _ _ [] .rfl ⟨?_, rfl, _, rfl⟩
   rw [hq]; unfold il; rw [List.map_append]; exact hys.snoc _ _
  ·intro h0
   rw [if_neg (by rw [h0]; simp)] at hq
   rw [List.append_nil] at hq
   refine hKS _ _ _ [] .rfl ⟨?_, rfl, _, rfl⟩
   rw [hq]; exact hys
 (rintro D m l ys k hJq; (refine e0_3 hJq ?_; clear hJq; intro hys hE1 _; subst hE1))
 rw [List.take_of_length_le (by simp [kvN])] at hys
 walk_at"go"
 refine o_set hV (cls240 _) (hasD240 _) (tk240 _).2.1 (.inl (by repeat constructor)) (by repeat constructor) (Nat.le_of_ble_eq_true rfl) fun t8 n8 => ⟨_, by repeat constructor, ?_⟩
 (refine qK.n _ _ ?_; (try clear qK K))
 have hS2 : SorL c.w x ⟨st.ns, some (rdy0 st.ns), st.po, st.nf⟩ ((x, instObj 240 dx) :: (dx, iD c.w.params (sKs d (.ref D) st.po st.nf t1 t2 t3 t4 t5 t6) n8) :: (d, od) :: ([(D, lst ys k)] ++ L)) :=
  ⟨dx, d, od, n8, t1, t2, t3, t4, t5, t6, .ref D, [(D, lst ys k)], L, rfl, hD, hL, hnd, ⟨D, ys, k, rfl, rfl, hys⟩⟩
 generalize hSL2 : ((x, instObj 240 dx) :: (dx, iD c.w.params (sKs d (.ref D) st.po st.nf t1 t2 t3 t4 t5 t6) n8) :: (d, od) :: ([(D, lst ys k)] ++ L)) = SL2 at hS2
 refine ob_ex (l' := SL2) (R := [(vw, vwO d)]) (?_) ?_
 ·rw [← hSL2]
  exact .take (.there (.there .here)) (.take (.there (.there .here)) (.take (.there (.there .here)) (.take .here (.drop .rfl))))
 have hxm : (x, instObj 240 dx) ∈ SL2 := by rw [← hSL2]; repeat constructor
 have hdx : (dx, iD c.w.params (sKs d (.ref D) st.po st.nf t1 t2 t3 t4 t5 t6) n8) ∈ SL2 := by rw [← hSL2]; repeat constructor
 (refine stq hV ?_; intro K qK; walk_at"go")
 refine o_um hV fi_TopologicalSorter__find_cycle_ok rfl (cls240 _) (.inl hxm) (.inl hdx) (um230 _) (ty230 _) rfl ?_
 walk_at"go"
 refine o_specL hV (FCYC _ SL2 hS2 p hp hlz hsc) (le_n hn rfl) .rfl (fun _ _ _ => trivial) ?_
 rintro v l' (⟨rfl, rfl, hac⟩ | ⟨a, vs, k2, ring, rfl, rfl, hri, hring, hrz, hrk⟩)
 ·walk_at"go"
  (refine qK.n _ _ ?_; (try clear qK K))
  (refine stIf hV ?_; intro K qK KT qI; walk_at"go")
  refine o_trn ?_
  refine qI.f _ _ (stn (qK.n _ _ (stn ?_)))
  exact ⟨l', _, by rw [List.append_nil]; exact .rfl, rfl, hS2, hac⟩
 ·walk_at"go"
  (refine qK.n _ _ ?_; (try clear qK K))
  (refine stIf hV ?_; intro K qK KT qI; walk_at"go")
  have hrl : vs.length = ring.length := by rw [hri.len]; simp [il]
  refine o_trl (.inl (by repeat constructor)) (by lia) ?_
  have hrl2 := hring.len
  refine kbq (show (!vs.isEmpty) = true from by cases vs <;> simp at hrl ⊢; lia) (qI.t _ _ ?_)
  (refine stl hV ?_; walk_at"go")
  refine o_raiseO hV hY (by rw [hgt]; repeat constructor) ?_
  walk_at"go"
  refine o_fs1 hV ?_
  walk_at"go"
  rename_i t9
  refine ⟨(a, lst vs k2) :: SL2, [], by rw [List.append_nil]; exact .rfl, t9, a, vs, k2, ring, SL2, rfl, rfl, hri, hring, hrz, hrk, hS2⟩
end
section
noncomputable abbrev bm158 : List Value := [.type "ValueError", .type "Exception", .type "BaseException", .type "object"]
noncomputable def qn158 (P : Params) : Bool := nsOkIn (KF P) 157 && quietNames.all fun n => nsIn (KF P) 157 n == some none
theorem qn158_ok (P : Params) : qn158 P = true := by kernel_rfl
noncomputable def o158 (P : Params) : Obj := match (KF P).lookup 158 with
 | some o => o
 | none => lst [] 0
theorem o158_at (P : Params) : (KF P).lookup 158 = some (o158 P) := by kernel_rfl
section
variable {c : Fx} {m : Loc} {l : Led} {K : KV Value} {a t : Addr} {oe : Obj} {ws : Array Value}
theorem o_argsO (hV : c.V) (hr : Rd c.g l a oe) (h1 : oe.cls = .ref 158) (h2 : oe.data = .fields ws) (h3 : ws[0]? = some (.ref t)) (h : K (.ref t) m l) {b : Bool} : Ob c (getAttr (.ref a) (Str.ofString "args") b) K m l := by
 intro Q E s S kk _
 have hx := S.rd hr
 have S2 := S.same (s' := { s with toks := s.toks + 1 }) rfl rfl rfl
 have X := hV.C.X.keeps S.F.keep
 have q := qn158_ok c.w.params
 unfold qn158 at q
 simp only [Bool.and_eq_true, List.all_eq_true, beq_iff_eq] at q
 have hC := X _ _ (o158_at c.w.params)
 have hNs := isNs_of_in X q.1
 (refine hideG ?_; intro P0 hP0; obtain ⟨hh, g, d, tk, os⟩ := s; refine hP0 ?_; clear hP0 P0)
 exact args_attr_own F.attrBase_ValueError hC (.of_isNs hNs) (fun n hn => nsMap_none_of_in X q.1 (q.2 n hn)) (.base : OwnTailQ _ bm158 bm158) hx h1 h2 h3 (kk _ _ _ _ h S2)
end
end
section
noncomputable def mkA (K : List Nat) (np : Nat → Int) (sc : Nat → List Nat) : Ab := K.map fun v => (v, np v, sc v)
noncomputable def insK (K : List Nat) (v : Nat) : List Nat := if v ∈ K then K else K ++ [v]
section
variable {K : List Nat} {np : Nat → Int} {sc : Nat → List Nat} {v q : Nat}
theorem mkA_keys : (mkA K np sc).map (·.1) = K := by unfold mkA; rw [List.map_map]; exact List.map_id' _
theorem gni_mk (h : v ∉ K → np v = 0 ∧ sc v = []) : gniA (mkA K np sc) v = mkA (insK K v) np sc := by
 unfold gniA insK
 rw [mkA_keys]
 split
 ·rfl
 ·rename_i hv
  unfold mkA
  rw [List.map_append]
  simp [h hv]
theorem np_mk {f : Int → Int} : npA (mkA K np sc) v f = mkA K (fun u => if u = v then f (np u) else np u) sc := by
 unfold npA mkA
 rw [List.map_map]
 refine List.map_congr_left fun u _ => ?_
 show (if u = v then (u, f (np u), sc u) else (u, np u, sc u)) = (u, (if u = v then f (np u) else np u), sc u)
 split <;> rfl
theorem sc_mk : scA (mkA K np sc) v q = mkA K np (fun u => if u = v then sc u ++ [q] else sc u) := by
 unfold scA mkA
 rw [List.map_map]
 refine List.map_congr_left fun u _ => ?_
 show (if u = v then (u, np u, sc u ++ [q]) else (u, np u, sc u)) = (u, np u, (if u = v then sc u ++ [q] else sc u))
 split <;> rfl
theorem mkA_congr {np' : Nat → Int} {sc' : Nat → List Nat} (h1 : ∀ u ∈ K, np u = np' u) (h2 : ∀ u ∈ K, sc u = sc' u) : mkA K np sc = mkA K np' sc' := by
 unfold mkA
 refine List.map_congr_left fun u hu => ?_
 rw [h1 u hu, h2 u hu]
theorem mem_ins {u : Nat} : u ∈ insK K v ↔ u ∈ K ∨ u = v := by
 unfold insK; split
 ·exact ⟨.inl, fun h => h.elim id fun e => e ▸ by assumption⟩
 ·simp
theorem ins_nodup (h : K.Nodup) : (insK K v).Nodup := by
 unfold insK; split
 ·exact h
 ·rename_i hv
  rw [List.nodup_append]
  exact ⟨h, by simp, fun a ha b hb e => hv (by simp at hb; rw [← hb, ← e]; exact ha)⟩
end
noncomputable def belN (p : Nat → Nat) (n u : Nat) : List Nat := (List.range' 1 n).filter fun i => p i == u
noncomputable def npN (n v : Nat) : Int := if 1 ≤ v ∧ v ≤ n then 1 else 0
noncomputable def addAll (p : Nat → Nat) : Nat → Ab
 | 0 => addA [] 0 []
 | n + 1 => addA (addAll p n) (n + 1) [p (n + 1)]
noncomputable def keyN (p : Nat → Nat) : Nat → List Nat
 | 0 => [0]
 | n + 1 => insK (insK (keyN p n) (n + 1)) (p (n + 1))
theorem keyN_nodup (p : Nat → Nat) : ∀ n, (keyN p n).Nodup
 | 0 => by simp [keyN]
 | n + 1 => ins_nodup (ins_nodup (keyN_nodup p n))
theorem keyN_mem {p : Nat → Nat} {u : Nat} : ∀ {n : Nat}, u ∈ keyN p n ↔ u ≤ n ∨ ∃ i, 1 ≤ i ∧ i ≤ n ∧ p i = u
 | 0 => by simp [keyN]; intro i h1 h2; lia
 | n + 1 => by
  rw [keyN, mem_ins, mem_ins, keyN_mem]
  constructor
  ·rintro (((h | ⟨i, h1, h2, h3⟩) | h) | h)
   ·exact .inl (by lia)
   ·exact .inr ⟨i, h1, by lia, h3⟩
   ·exact .inl (by lia)
   ·exact .inr ⟨n + 1, by lia, by lia, h.symm⟩
  ·rintro (h | ⟨i, h1, h2, h3⟩)
   ·by_cases q : u = n + 1
    ·exact .inl (.inr q)
    ·exact .inl (.inl (.inl (by lia)))
   ·by_cases q : i = n + 1
    ·exact .inr (by rw [← h3, q])
    ·exact .inl (.inl (.inr ⟨i, h1, by lia, h3⟩))
theorem belN_succ (p : Nat → Nat) (n u : Nat) : belN p (n + 1) u = belN p n u ++ (if p (n + 1) = u then [n + 1] else []) := by
 unfold belN
 rw [List.range'_concat, List.filter_append]
 congr 1
 show List.filter _ [1 + 1 * n] = _
 rw [show 1 + 1 * n = n + 1 by lia]
 by_cases q : p (n + 1) = u
 ·simp [List.filter, q]
 ·have : (p (n + 1) == u) = false := by simpa using q
  simp [List.filter, q, this]
theorem mem_belN {p : Nat → Nat} {n u i : Nat} : i ∈ belN p n u ↔ 1 ≤ i ∧ i ≤ n ∧ p i = u := by
 unfold belN
 rw [List.mem_filter, List.mem_range'_1, beq_iff_eq]
 constructor
 ·rintro ⟨⟨h1, h2⟩, h3⟩; exact ⟨h1, by lia, h3⟩
 ·rintro ⟨h1, h2, h3⟩; exact ⟨⟨h1, by lia⟩, h3⟩
theorem belN_len (p : Nat → Nat) (n u : Nat) : (belN p n u).length ≤ n := by
 unfold belN
 exact Nat.le_trans (List.length_filter_le _ _) (by simp)
theorem addAll_is (p : Nat → Nat) : ∀ n, addAll p n = mkA (keyN p n) (npN n) (belN p n)
 | 0 => by
  unfold addAll addA
  rw [show (([] : Ab)) = mkA [] (npN 0) (belN p 0) from rfl, gni_mk (fun _ => ⟨by simp [npN], by simp [belN]⟩)]
  simp only [List.foldl_nil, List.length_nil]
  rw [np_mk]
  refine mkA_congr (fun u hu => ?_) fun _ _ => rfl
  split <;> simp
 | n + 1 => by
  rw [addAll, addAll_is p n]
  unfold addA
  have hnot : ∀ v, v ∉ keyN p n → npN n v = 0 ∧ belN p n v = [] := by
   intro v hv
   refine ⟨?_, ?_⟩
   ·unfold npN; rw [if_neg]; exact fun h => hv (keyN_mem.mpr (.inl h.2))
   ·rw [List.eq_nil_iff_forall_not_mem]
    intro i hi
    (refine e0_3 (mem_belN.mp hi) ?_; intro h1 h2 h3)
    exact hv (keyN_mem.mpr (.inr ⟨i, h1, h2, h3⟩))
  rw [gni_mk (hnot (n + 1)), np_mk]
  simp only [List.foldl_cons, List.foldl_nil, List.length_cons, List.length_nil]
  have hnot2 : ∀ v, v ∉ insK (keyN p n) (n + 1) → (if v = n + 1 then npN n v + ((0 + 1 : Nat) : Int) else npN n v) = 0 ∧ belN p n v = [] := by
   intro v hv
   have h := hnot v fun q => hv (mem_ins.mpr (.inl q))
   rw [if_neg fun q => hv (mem_ins.mpr (.inr q))]
   exact h
  rw [gni_mk (hnot2 _), sc_mk]
  refine mkA_congr (fun u hu => ?_) fun u hu => ?_
  ·unfold npN
   by_cases q : u = n + 1
   ·subst q; rw [if_pos rfl, if_neg (by lia), if_pos (by lia)]; rfl
   ·rw [if_neg q]
    by_cases q2 : 1 ≤ u ∧ u ≤ n
    ·rw [if_pos q2, if_pos ⟨q2.1, by lia⟩]
    ·rw [if_neg q2, if_neg (by lia)]
  ·rw [belN_succ]
   by_cases q : u = p (n + 1)
   ·rw [if_pos q, if_pos q.symm]
   ·rw [if_neg q, if_neg (fun h => q h.symm)]; simp
theorem keyN_len (p : Nat → Nat) (hp8 : ∀ x, p x ≤ 8) {n : Nat} (hn : n ≤ 8) : (keyN p n).length ≤ 9 := by
 have := List.Nodup.length_le_of_subset (keyN_nodup p n) (l₂ := List.range 9) fun u hu => by
  rw [List.mem_range]
  rcases keyN_mem.mp hu with h | ⟨i, _, _, rfl⟩
  ·lia
  ·have := hp8 i; lia
 simpa using this
theorem abs_mk {ns : List Nd} {K : List Nat} {np : Nat → Int} {sc : Nat → List Nat} (h : abs ns = mkA K np sc) : ns.map (·.v) = K ∧ ∀ nd ∈ ns, nd.np = np nd.v ∧ nd.sc = sc nd.v := by
 refine ⟨by rw [← abs_keys, h, mkA_keys], fun nd hnd => ?_⟩
 have := mem_abs hnd
 rw [h] at this
 unfold mkA at this
 (refine e1_2 (List.mem_map.mp this) ?_; intro v _ e)
 have e1 : v = nd.v := congrArg Prod.fst e
 have e2 : np v = nd.np := congrArg (fun z : Nat × Int × List Nat => z.2.1) e
 have e3 : sc v = nd.sc := congrArg (fun z : Nat × Int × List Nat => z.2.2) e
 rw [← e1]
 exact ⟨e2.symm, e3.symm⟩
theorem scLe_mk {ns : List Nd} {K : List Nat} {np : Nat → Int} {p : Nat → Nat} {n : Nat} (h : abs ns = mkA K np (belN p n)) (hn : n ≤ 50) : scLe (abs ns) 50 := by
 intro z hz
 rw [h] at hz
 (refine e1_2 (List.mem_map.mp hz) ?_; rintro v _ rfl)
 exact Nat.le_trans (belN_len p n v) hn
theorem len_mk {ns : List Nd} {K : List Nat} {np : Nat → Int} {sc : Nat → List Nat} (h : abs ns = mkA K np sc) : ns.length = K.length := by
 rw [← (abs_mk h).1]; simp
theorem um190 (P : Params) : findIn (KF P) (.ref 240) (Str.ofString "add") = some (some (.ref 190)) := by kernel_rfl
theorem ty190 (P : Params) : typeIn (KF P) (.ref 190) = some (.type "function") := by kernel_rfl
theorem um195 (P : Params) : findIn (KF P) (.ref 240) (Str.ofString "prepare") = some (some (.ref 195)) := by kernel_rfl
theorem ty195 (P : Params) : typeIn (KF P) (.ref 195) = some (.type "function") := by kernel_rfl
theorem in240 (P : Params) : findIn (KF P) (.ref 240) "__init__" = some (some (.ref 176)) := by kernel_rfl
theorem ty176 (P : Params) : typeIn (KF P) (.ref 176) = some (.type "function") := by kernel_rfl
inductive ToldC (p : Nat → Nat) (ns : List Nd) (told : Value) (tl : Led) : Prop
 | mk (tt : Addr) (ot : Obj) (nt : Nat) (a : Addr) (lv : List Value) (k : Nat) (ring : List Nat) (t0 : Tok) (h1 : told = .ref tt) (h2 : tl = [(tt, ot), (a, lst lv k)]) (h3 : ot.cls = .type "tuple") (h4 : ot.data = .seq [.str (Str.ofString "nodes are in a cycle") t0, .ref a].toArray nt) (h5 : Ints lv (il ring)) (h6 : Ring p ring) (h7 : ring.length ≤ 2000) (h8 : ∀ v ∈ ring, v ∈ ns.map (·.v))
noncomputable def ToldR (p : Nat → Nat) (ns : List Nd) (told : Value) (tl : Led) : Prop := (told = .none ∧ tl = [] ∧ ∃ fin, Acyc ns fin) ∨
 ToldC p ns told tl
inductive SortP (w : World) (p : Nat → Nat) : Value → Led → Prop
 | mk (r x : Addr) (st : Srt) (SL : Led) (told : Value) (tl : Led) (h3 : SorL w x st SL) (h4 : abs st.ns = mkA (keyN p 8) (npN 8) (belN p 8)) (h5 : st.rdy = some (rdy0 st.ns)) (h6 : st.po = 0) (h7 : st.nf = 0) (h8 : ToldR p st.ns told tl) : SortP w p (.ref r) ((r, tup [.ref x, told]) :: (tl ++ SL))
theorem LSORT {w : World} {aP : Addr} {vp : List Value} {kp : Nat} (p : Nat → Nat) (hp8 : ∀ x, p x ≤ 8) (hI : Ints vp (pl p)) :
  SpecX w 8 293 [.ref aP] (fun g => g.get? aP = some (lst vp kp)) [] (SortP w p) (fun _ _ _ => False) := by
 refine specX_vc [("parents", .ref aP)] ["sorter", "place", "err"] fi_law_sorter_ok rfl (by kernel_rfl) (by kernel_rfl) (by kernel_rfl) ?_
 intro c0 c hw hz hm hV hn hgt hX hY hp0
 dsimp only [fi_law_sorter] at hgt
 subst hw
 (refine stq hV ?_; intro K qK; walk_at"go")
 show Ob c (callWith _ (.ref 240) [] (backTo _ (starEach [] c.env)) []) _ _ _
 refine o_mk hV (keep240 _) ?_
 walk_at"go"
 refine o_make hV (makes240 _) (in240 _) (ty176 _) (rest := []) (fun x dx => TSINIT) (by lia) (fun _ _ _ => trivial) ?_
 rintro x dx SL hS
 rw [List.append_nil]
 walk_at"go"
 (refine qK.n _ _ ?_; (try clear qK K); refine stq hV ?_; intro K qK; walk_at"go")
 (refine hideG ?_; intro P0 hP0; obtain ⟨dx1, d1, n1, t1, t2, t3, t4, t5, t6, rv, hx1, hx2, hrv, hnd⟩ := hS.own; refine hP0 ?_; clear hP0 P0)
 have hrv := hrv rfl
 subst hrv
 refine o_um hV fi_TopologicalSorter_add_ok rfl (cls240 _) (.inl hx1) (.inl hx2) (um190 _) (ty190 _) rfl ?_
 walk_at"go"
 rename_i t0
 refine o_specL hV (ADD ⟨[], none, 0, 0⟩ SL hS rfl 0 [] [] .nil (Nat.zero_le _) (Nat.zero_le _) (by intro z hz; cases hz)) (le_n hn rfl) .rfl (fun _ _ _ => trivial) ?_
 (rintro _ SL1 hJq; refine hideG ?_; intro P0 hP0; obtain ⟨rfl, st1, hS1, ha1, hr1, hp1, hf1⟩ := hJq; refine hP0 ?_; clear hP0 P0)
 rw [List.append_nil]
 (refine qK.n _ _ ?_; (try clear qK K); refine stq hV ?_; intro K qK; walk_at"go")
 refine o_range2 fun ra t3 => ?_
 refine vfor_range (x := 1) (y := 9) hV hX 8 rfl (by decide) (by decide) List.mem_cons_self (.drop .rfl) (fun i m l => ∃ (st : Srt) (o1 o2 : Option Value), SorL c.w x st l ∧ abs st.ns = addAll p i ∧ st.rdy = none ∧ st.po = 0 ∧ st.nf = 0 ∧ m = ([("parents", some (.ref aP)), ("sorter", some (.ref x)), ("place", o1), ("err", o2)] : Loc))
  ⟨st1, _, _, hS1, ha1, hr1, hp1, hf1, rfl⟩ ?_ ?_
 ·(rintro i t m l I oI hi hJq; refine hideG ?_; intro P0 hP0; obtain ⟨st, o1, o2, hS, ha, hr, hpo, hnf, rfl⟩ := hJq; refine hP0 ?_; clear hP0 P0)
  rw [addAll_is] at ha
  (refine hideG ?_; intro P0 hP0; obtain ⟨dx1, d1, n1, t1, t2, t3, t4, t5, t6, rv, hx1, hx2, hrv, hnd⟩ := hS.own; refine hP0 ?_; clear hP0 P0)
  have hrv := hrv hr
  subst hrv
  walk_at"go"
  (refine stl hV ?_; walk_at"go")
  refine o_um hV fi_TopologicalSorter_add_ok rfl (cls240 _) (.inl (.tail _ hx1)) (.inl (.tail _ hx2)) (um190 _) (ty190 _) rfl ?_
  walk_at"go"
  (refine e1_1 (hI.get (i + 1) _ (pl_get p (by lia))) ?_; intro tp htp)
  refine o_lst (.inr hp0) (by lia) (by lia) (v := .int (p (i + 1) : Nat) tp) (by rw [← htp]; congr 1; lia) ?_
  have hc1 : (1 + (i : Int)) = ((i + 1 : Nat) : Int) := by lia
  rw [hc1]
  refine o_specL hV (ADD st l hS hr (i + 1) [p (i + 1)] [.int (p (i + 1) : Nat) tp] (Ints.nil.cons _ _) (Nat.le_refl _) (by rw [len_mk ha]; have := keyN_len p hp8 (n := i) (by lia); lia) (scLe_mk ha (by lia))) (le_n hn rfl) (.drop .rfl) (fun _ _ _ => trivial) ?_
  (rintro _ SL2 hJq; refine hideG ?_; intro P0 hP0; obtain ⟨rfl, st2, hS2, ha2, hr2, hp2, hf2⟩ := hJq; refine hP0 ?_; clear hP0 P0)
  refine Drp.perm List.perm_append_comm ⟨_, rfl, st2, _, _, hS2, ?_, hr2, hp2.trans hpo, hf2.trans hnf, rfl⟩
  show abs st2.ns = addA (addAll p i) (i + 1) [p (i + 1)]
  rw [addAll_is, ← ha]; exact ha2
 ·(rintro m l hJq; refine hideG ?_; intro P0 hP0; obtain ⟨st, o1, o2, hS, ha, hr, hpo, hnf, rfl⟩ := hJq; refine hP0 ?_; clear hP0 P0)
  rw [addAll_is] at ha
  refine stn (qK.n _ _ ?_)
  have hp : ∀ nd ∈ st.ns, ∀ s ∈ nd.sc, (p s = nd.v ∧ 1 ≤ s) ∧ s ∈ st.ns.map (·.v) := by
   intro nd hnd s hs
   rw [((abs_mk ha).2 nd hnd).2] at hs
   (refine e0_3 (mem_belN.mp hs) ?_; intro q1 q2 q3)
   exact ⟨⟨q3, q1⟩, by rw [(abs_mk ha).1]; exact keyN_mem.mpr (.inl q2)⟩
  have hlz : st.ns.length ≤ 50 := by rw [len_mk ha]; have := keyN_len p hp8 (n := 8) (by lia); lia
  (refine hideG ?_; intro P0 hP0; obtain ⟨dx1, d1, n1, t1, t2, t3, t4, t5, t6, rv, hx1, hx2, hrv, hnd⟩ := hS.own; refine hP0 ?_; clear hP0 P0)
  have hrv := hrv hr
  subst hrv
  have hV0 := hV
  have hgt0 := hgt
  (refine stl hV ?_; walk_at"go")
  refine o_tryO hV (fun cls vs m' l' => cls = .ref 158 ∧ m' = ([("parents", some (.ref aP)), ("sorter", some (.ref x)), ("place", o1), ("err", o2)] : Loc) ∧ ∃ t0 a lv k ring SL', vs = [.str (Str.ofString "nodes are in a cycle") t0, .ref a] ∧ l' = (a, lst lv k) :: SL' ∧ Ints lv (il ring) ∧ Ring p ring ∧ ring.length ≤ 2000 ∧ (∀ v ∈ ring, v ∈ st.ns.map (·.v)) ∧ SorL c.w x ⟨st.ns, some (rdy0 st.ns), st.po, st.nf⟩ SL')
   (by rw [hgt]; repeat constructor) ?_ ?_
  ·intro c0₁ c₁ hlk hz hm hV₁ hY₁ hX₁ K₁ kn₁ kb₁ kc₁ kr₁
   (refine e0_6 hlk ?_; clear hlk; intro e1 e2 e3 e4 e5 e6)
   rw [hgt] at e3
   have hV := hV₁
   have hgt := e3
   (refine stl hV ?_; walk_at"go")
   refine o_um hV fi_TopologicalSorter_prepare_ok rfl (cls240 _) (.inl hx1) (.inl (e1 ▸ hx2)) (um195 _) (ty195 _) rfl ?_
   walk_at"go"
   refine o_specX hV hY₁ (PREP st l (e1 ▸ hS) hr p hp hlz (scLe_mk ha (by lia))) (by lia) .rfl (fun _ _ _ => trivial) ?_ ?_
   ·(rintro v SL' hJq; (refine e0_3 hJq ?_; clear hJq; intro hE1 hS' hac; subst hE1))
    walk_at"go"
    rename_i r
    refine kr₁ _ _ _ ⟨_, _, by rw [List.append_nil]; exact .rfl, r, x, ⟨st.ns, some (rdy0 st.ns), st.po, st.nf⟩, SL', .none, [], e1 ▸ hS', ha, rfl, hpo, hnf, .inl ⟨rfl, rfl, hac⟩⟩
   ·(rintro cls vs l' hJq; refine hideG ?_; intro P0 hP0; obtain ⟨rfl, t0, a, lv, k, ring, SL', rfl, rfl, q1, q2, q3, q4, q5⟩ := hJq; refine hP0 ?_; clear hP0 P0)
    exact ⟨rfl, rfl, t0, a, lv, k, ring, SL', rfl, by rw [List.append_nil], q1, q2, q3, q4, e1 ▸ q5⟩
  ·rintro cls vs m l a tt oe ot ws nt ⟨rfl, rfl, t0, a2, lv, k, ring, SL', rfl, rfl, q1, q2, q3, q4, q5⟩ h1 h2 h3 h4 h5
   refine ⟨rfl, by rfl, ?_⟩
   intro c0₂ c₂ hlk hV₂ K₂ hK₂
   (refine e0_6 hlk ?_; clear hlk; intro e1 e2 e3 e4 e5 e6)
   rw [hgt0] at e3
   have hV := hV₂
   have hgt := e3
   walk_at"go"
   (refine stl hV ?_; walk_at"go")
   refine o_argsO hV (.inl (.head _)) h1 h2 h3 ?_
   walk_at"go"
   rename_i r
   refine hK₂ _ _ _ ⟨by simp, fun v m' _ => ?_⟩
   refine ⟨_, _, .take .here (.drop (.take .here (.take .here .rfl))), r, x, ⟨st.ns, some (rdy0 st.ns), st.po, st.nf⟩, SL', .ref tt, [(tt, ot), (a2, lst lv k)], q5, ha, rfl, hpo, hnf, .inr ⟨tt, ot, nt, a2, lv, k, ring, t0, rfl, rfl, h4, h5, q1, q2, q3, q4⟩⟩
end
section
theorem Ints.of : ∀ {vs : List Value} {ns : List Int}, IntsAre vs ns → Ints vs ns
 | _, _, .nil => .nil
 | _, _, .cons i t r => (Ints.of r).cons i t
section
variable {c : Fx} {m : Loc} {l : Led} {K : KV Value} {KB : KV Bool} {KL : Loc → Led → Prop} {KF : KV Flow} {a b d D : Addr} {vs us : List Value} {ns : List Int} {k n : Nat} {e : Expr} {pos p : Pos} {t u : Tok} {x y : Str} {v : Value}
theorem sorted_go {it : Value} {s : Shared} {E : Value → Shared → Prop} {Q : Value → Shared → Prop} (S : c.S m l s)
  (col : ∀ (R : List Value → Shared → Prop), (∀ (vs : List Value) (h' : Heap) (tk : Nat), IntsAre vs ns → (∀ b o, s.heap.get? b = some o → h'.get? b = some o) → R vs { s with heap := h', toks := tk }) → wpAny (M c.w) c.A'.in1 (collect it) R E s) (h64 : ns.length < 64)
  (h : ∀ D ws ms e s', Ints ws ms → ms.Perm ns → ms.Pairwise (· ≤ ·) → c.S m ((D, lst ws e) :: l) s' → Q (.ref D) s') :
  wpAny (M c.w) c.A' (call (.builtin "sorted") [it]) Q E s := by
 refine Calls.call_function_entry kind_sorted plain_sorted entry_sorted (args_sorted1 _) ?_
 unfold Builtin.«sorted»
 refine wpAny_bind (m := checkCount "sorted" 1 1 _) (wpAny_pure ?_)
 refine wpAny_bind (col _ fun vs h1 tk hI hk => ?_)
 have hvn : vs.length = ns.length := IntsAre.length hI
 have S0 := S.keeps (s' := { s with heap := h1, toks := tk }) hk rfl rfl
 refine wpAny_bind (wpAny_newList ?_ (by rw [sizeLine_eq]; lia))
 have S1 := S0.push (s' := { s with heap := h1.push (lst vs 0), toks := tk }) (lst vs 0) rfl rfl rfl rfl
 have hoL := S1.get (.head _)
 refine wpAny_bind (wpAny_holding (wpAny_call_entry slot_list_sort ⟨_, hoL, rfl⟩ entry_list_sort (list_sort_tree hoL hI (by lia) fun out ns' a1 a2 a3 => ⟨_, rfl, ?_⟩) (args_list_sort _)))
 refine wpAny_pure ⟨_, rfl, ?_⟩
 (refine e1_1 (sortedHeap_at (out := out) (vs := vs) hoL) ?_; intro ee he)
 refine h h1.objs.size out.toList ns' ee _ (Ints.of a1) a2 a3 (S1.any S1.D ?_ ?_ rfl rfl)
 ·intro q hq
  rcases List.mem_cons.mp hq with rfl | hq
  ·exact ⟨he, .inl (by simp)⟩
  ·have h2 := (S0.N q hq).1
   have hne : q.1 ≠ h1.objs.size := Nat.ne_of_lt (Heap.lt_size h2)
   refine ⟨?_, .inl (List.mem_cons_of_mem _ (List.mem_map_of_mem (f := (·.1)) hq))⟩
   exact (sortedHeap_old hne (by show _ < (h1.push _).objs.size; rw [Heap.size_push]; exact Nat.lt_succ_of_lt (Heap.lt_size h2))).trans (Heap.get?_push_of_some _ h2)
 ·intro z o hz hzo
  simp only [List.map_cons, List.mem_cons, not_or] at hz
  exact (sortedHeap_old hz.1 (Heap.lt_size hzo)).trans hzo
theorem o_sortS {o : Obj} {T : String} (hr : Rd c.g l a o) (hc : o.cls = .type T) (hT : T = "list" ∨ T = "tuple") (hd : o.data = .seq vs.toArray n) (hI : Ints vs ns) (h64 : ns.length < 64)
  (h : ∀ D ws ms e, Ints ws ms → ms.Perm ns → ms.Pairwise (· ≤ ·) → K (.ref D) m ((D, lst ws e) :: l)) : Ob c (call (.builtin "sorted") [.ref a]) K m l := by
 intro Q E s S kk xx
 have hvn := hI.len
 refine sorted_go S (fun R hR => wpAny_collect_seq a hT (S.rd hr) hc hd (fun h' hk => hR _ h' s.toks hI.are hk) (by rw [sizeLine_eq]; simp; lia)) h64 fun D ws ms e s' h1 h2 h3 S' => kk _ _ _ _ (h D ws ms e h1 h2 h3) S'
theorem o_sortL (hr : Rd c.g l a (lst vs n)) (hI : Ints vs ns) (h64 : ns.length < 64) (h : ∀ D ws ms e, Ints ws ms → ms.Perm ns → ms.Pairwise (· ≤ ·) → K (.ref D) m ((D, lst ws e) :: l)) : Ob c (call (.builtin "sorted") [.ref a]) K m l :=
 o_sortS hr rfl (.inl rfl) rfl hI h64 h
theorem o_sortT (hr : Rd c.g l a (tup vs)) (hI : Ints vs ns) (h64 : ns.length < 64) (h : ∀ D ws ms e, Ints ws ms → ms.Perm ns → ms.Pairwise (· ≤ ·) → K (.ref D) m ((D, lst ws e) :: l)) : Ob c (call (.builtin "sorted") [.ref a]) K m l :=
 o_sortS hr rfl (.inr rfl) rfl hI h64 h
theorem o_sortD {od : Obj} {kvs : List (Int × Value)} (hV : c.V) (hm : (d, od) ∈ l) (hd : IsD c.w od kvs) (h64 : kvs.length < 64) (h : ∀ D ws ms e, Ints ws ms → ms.Perm (kvs.map (·.1)) → ms.Pairwise (· ≤ ·) → K (.ref D) m ((D, lst ws e) :: l)) (hz : c.hz = true := by assumption) :
  Ob c (call (.builtin "sorted") [.ref d]) K m l := by
 intro Q E s S kk xx
 (refine e2_1 (IsDe.of hd) ?_; intro ep es hde)
 have hat : s.heap.DictAt (iK c.w) d kvs ep := ⟨od, es, S.get hm, hde⟩
 refine sorted_go S (fun R hR => kdu_collect (A := c.A'.in1) (kdl_dict (knd := iK c.w) (kvs := kvs) (ep := ep) (led_ne1 hV S hm)) (show c.A'.in1.handled = none from Vw.hh' hV hz) hat (by rw [sizeLine_eq]; lia) fun h' tk acc hk hacc => hR _ h' tk ?_ hk) (by simpa using h64) fun D ws ms e s' h1 h2 h3 S' => kk _ _ _ _ (h D ws ms e h1 h2 h3) S'
 refine Ints.are ⟨by rw [Array.length_toList, hacc.1]; simp, fun i y hy => ?_⟩
 rw [List.getElem?_map] at hy
 (refine e1_2 (Option.map_eq_some_iff.mp hy) ?_; rintro q hq rfl)
 have hi : i < acc.toList.length := by
  rw [Array.length_toList, hacc.1]
  rcases Nat.lt_or_ge i kvs.length with q' | q'
  ·exact q'
  ·rw [List.getElem?_eq_none q'] at hq; cases hq
 (refine hideG ?_; intro P0 hP0; obtain ⟨k, x, hx, hk2⟩ := hacc.2 i acc.toList[i] (by rw [← Array.getElem?_toList]; exact List.getElem?_eq_getElem hi); refine hP0 ?_; clear hP0 P0)
 rw [hx] at hq
 cases hq
 (refine e1_1 (Value.isInt_shape hk2) ?_; intro t ht)
 exact ⟨t, by rw [List.getElem?_eq_getElem hi, ht]⟩
theorem o_setl (hV : c.V) (hr : Rd c.g l a (lst vs n)) (hI : Ints vs ns) (hb : ns.length + 1 < scanBound) (h : ∀ b o, IsS c.w o (fun k' => (PyProof.Rows.firstMet (fun i => ns.getD i 0) ns.length).any (· == k')) (PyProof.Rows.firstMet (fun i => ns.getD i 0) ns.length).length → K (.ref b) m ((b, o) :: l)) (hz : c.hz = true := by assumption) :
  Ob c (call (.type "set") [.ref a]) K m l := by
 intro Q E s S kk xx
 have hvn := hI.len
 refine PySem.call_set_list (items := vs.toArray) (ns := ns) (Vw.hh' hV hz) ⟨_, S.rd hr, rfl, n, rfl⟩ (by simpa using hI.are) (by simp; lia) fun h' tk hS hk => ?_
 rw [show vs.toArray.size = ns.length by simp [hvn]] at hS
 (refine e1_2 (isS_iff.mp hS) ?_; intro o ho hso)
 exact kk _ _ _ _ (h _ o hso) (S.new (s' := { s with heap := h', toks := tk }) (fun b o e => hk b o (Heap.lt_size e) e) (size_none _) ho rfl rfl)
theorem o_lens2 {o : Obj} {Sf : Int → Bool} {nn : Nat} (hm : (a, o) ∈ l) (hs : IsS c.w o Sf nn) (h : ∀ t, K (.int nn t) m l) : Ob c (call (.builtin "len") [.ref a]) K m l := by
 intro Q E s S kk xx
 (refine e3_7 hs ?_; clear hs; intro es ep t h1 h2 h3 h4 h5 h6 h7)
 subst h7
 exact call_len_set (S.get hm) h1 h2 h6 (by unfold scanBound at h5; lia) (kk _ _ _ _ (h _) (S.same rfl rfl rfl))
theorem o_nes (h : K (.bool (!(x == y))) m l) : Ob c (compareOp .NotEq (.str x t) (.str y u)) K m l :=
 fun Q E s S kk xx => ne_str (kk _ _ _ _ h S)
theorem o_tdef (hV : c.V) (h : vE c e (fun v m l => Ob c (truthy v) KB m l) m l) (hq : PySem.isTrue e c.env (eval e c.env) = (do let v ← eval e c.env; standAt e.pos; holding [v] (truthy v)) := by rfl) : Ob c (PySem.isTrue e c.env (eval e c.env)) KB m l :=
 ob_tval ((vE_ok hV _ _ _ _ h).mono fun v m l h => h) hq
theorem o_not (h : Ob c (truthy v) (fun b m l => K (.bool (!b)) m l) m l) : Ob c (unaryOp .Not v) K m l := by
 intro Q E s S kk xx
 unfold unaryOp
 first
  | exact wpAny_holding (wpAny_bind (h _ E s S (fun b m' l' s' h' S' => wpAny_pure (kk _ _ _ _ h' S')) xx))
  | exact wpAny_bind (h _ E s S (fun b m' l' s' h' S' => wpAny_pure (kk _ _ _ _ h' S')) xx)
  | exact wpAny_bind (wpAny_holding (h _ E s S (fun b m' l' s' h' S' => wpAny_pure (kk _ _ _ _ h' S')) xx))
end
end
section
noncomputable def lastU (p : Nat → Nat) (v : Nat) : Nat := (ups p 9 v).getLastD 0
theorem ups_ne (p : Nat → Nat) : ∀ (n v : Nat), ups p n v ≠ []
 | 0, v => by simp [ups]
 | n + 1, v => by rw [ups]; split <;> simp
theorem ups_snoc (p : Nat → Nat) (v : Nat) : ∃ us, ups p 9 v = us ++ [lastU p v] := by
 have h := ups_ne p 9 v
 refine ⟨(ups p 9 v).dropLast, ?_⟩
 unfold lastU
 rw [List.getLastD_eq_getLast?, List.getLast?_eq_some_getLast h]
 exact (List.dropLast_concat_getLast h).symm
theorem ups_le {p : Nat → Nat} (hp8 : ∀ x, p x ≤ 8) : ∀ (n v : Nat), v ≤ 8 → ∀ x ∈ ups p n v, x ≤ 8
 | 0, v, h, x, hx => by have : x = v := by simpa [ups] using hx
                        lia
 | n + 1, v, h, x, hx => by
  rw [ups] at hx
  split at hx
  ·have : x = v := by simpa using hx
   lia
  ·rcases List.mem_cons.mp hx with rfl | hx
   ·exact h
   ·exact ups_le hp8 n (p v) (hp8 v) x hx
noncomputable def bad (p : Nat → Nat) (n : Nat) : List Nat := (List.range n).filter fun v => lastU p v != 0
theorem up_top {p : Nat → Nat} {fin : List Nat} (hf : ∀ v, v ≤ 8 → v ∈ fin) (hl : fin.length ≤ 9) (hn : fin.Nodup) (ho : ∀ (k : Nat) u, fin[k]? = some u → ∀ s, 1 ≤ s → s ≤ 8 → p s = u → s ∈ fin.take k) (hp8 : ∀ x, p x ≤ 8) :
  ∀ (n v k : Nat), v ≤ 8 → fin[k]? = some v → fin.length ≤ k + n + 1 → (ups p n v).getLastD 0 = 0
 | n, v, k, hv, hk, hb => by
  have step : 1 ≤ v → ∃ k', fin[k']? = some (p v) ∧ k < k' := by
   intro h1
   (refine e1_1 (List.getElem?_of_mem (hf (p v) (hp8 v))) ?_; intro k' hk')
   refine i1_2 k' hk' ?_
   have hm := ho k' (p v) hk' v h1 hv rfl
   (refine e1_1 (List.getElem?_of_mem hm) ?_; intro j hj)
   have hjl : j < k' := by
    have : j < (fin.take k').length := by
     rcases Nat.lt_or_ge j (fin.take k').length with q | q
     ·exact q
     ·rw [List.getElem?_eq_none q] at hj; cases hj
    simp at this; lia
   rw [List.getElem?_take_of_lt hjl] at hj
   have hkl : k < fin.length := by
    rcases Nat.lt_or_ge k fin.length with q | q
    ·exact q
    ·rw [List.getElem?_eq_none q] at hk; cases hk
   have := (List.getElem?_inj hkl hn).mp (hk.trans hj.symm)
   lia
  match n with
  | 0 =>
   by_cases h0 : v = 0
   ·subst h0; rfl
   ·exfalso
    (refine e1_2 (step (by lia)) ?_; intro k' hk' hlt)
    have : k' < fin.length := by
     rcases Nat.lt_or_ge k' fin.length with q | q
     ·exact q
     ·rw [List.getElem?_eq_none q] at hk'; cases hk'
    lia
  | n + 1 =>
   rw [ups]
   by_cases h0 : v = 0
   ·rw [if_pos h0]; subst h0; rfl
   ·rw [if_neg h0]
    (refine e1_2 (step (by lia)) ?_; intro k' hk' hlt)
    have ih := up_top hf hl hn ho hp8 n (p v) k' (hp8 v) hk' (by lia)
    have hne := ups_ne p n (p v)
    rw [List.getLastD_eq_getLast?] at ih ⊢
    rw [List.getLast?_cons]
    rw [List.getLast?_eq_some_getLast hne] at ih ⊢
    exact ih
theorem acyc_top {p : Nat → Nat} {ns : List Nd} {fin : List Nat} (hp8 : ∀ x, p x ≤ 8) (ha : abs ns = mkA (keyN p 8) (npN 8) (belN p 8)) (h : Acyc ns fin) : ∀ v, v ≤ 8 → lastU p v = 0 := by
 (refine e0_4 h ?_; clear h; intro h1 h2 h3 h4)
 (refine e0_2 (abs_mk ha) ?_; intro hk hnd)
 rw [hk] at h1 h2
 have hf : ∀ v, v ≤ 8 → v ∈ fin := fun v hv => h1 v (keyN_mem.mpr (.inl hv))
 have hl : fin.length ≤ 9 := Nat.le_trans (List.Nodup.length_le_of_subset h3 fun u hu => h2 u hu) (keyN_len p hp8 (Nat.le_refl _))
 intro v hv
 (refine e1_1 (List.getElem?_of_mem (hf v hv)) ?_; intro k hk')
 refine up_top hf hl h3 (fun k u hku s q1 q2 q3 => ?_) hp8 9 v k hv hk' (by lia)
 have hum : u ∈ ns.map (·.v) := by rw [hk]; exact h2 u (List.mem_of_getElem? hku)
 (refine e1_2 (List.mem_map.mp hum) ?_; rintro nd hndm rfl)
 exact h4 k nd.v hku nd hndm rfl s (by rw [(hnd nd hndm).2]; exact mem_belN.mpr ⟨q1, q2, q3⟩)
theorem Ring.step {p : Nat → Nat} {r : List Nat} (h : Ring p r) {v : Nat} (hv : v ∈ r) : 1 ≤ v ∧ p v ∈ r := by
 (refine e1_1 (List.getElem?_of_mem hv) ?_; intro j hj)
 have hjl : j < r.length := by
  rcases Nat.lt_or_ge j r.length with q | q
  ·exact q
  ·rw [List.getElem?_eq_none q] at hj; cases hj
 have pos : ∀ j, r[j + 1]? = some v → 1 ≤ v ∧ p v ∈ r := by
  intro j hj
  have hl : j < r.length := by
   rcases Nat.lt_or_ge (j + 1) r.length with q | q
   ·lia
   ·rw [List.getElem?_eq_none q] at hj; cases hj
  have := h.ch j r[j] v (List.getElem?_eq_getElem hl) hj
  exact ⟨this.2, this.1 ▸ List.getElem_mem hl⟩
 cases j with
 | succ j => exact pos j hj
 | zero =>
  have hl := h.len
  have hc := h.cls
  rw [List.head?_eq_getElem?, hj, List.getLast?_eq_getElem?] at hc
  exact pos (r.length - 2) (by rw [show r.length - 2 + 1 = r.length - 1 by lia]; exact hc.symm)
theorem Ring.up {p : Nat → Nat} {r : List Nat} (h : Ring p r) : ∀ (n v : Nat), v ∈ r → ∀ x ∈ ups p n v, x ∈ r
 | 0, v, hv, x, hx => by have : x = v := by simpa [ups] using hx
                         rw [this]; exact hv
 | n + 1, v, hv, x, hx => by
  rw [ups] at hx
  split at hx
  ·have : x = v := by simpa using hx
   rw [this]; exact hv
  ·rcases List.mem_cons.mp hx with rfl | hx
   ·exact hv
   ·exact h.up n (p v) (h.step hv).2 x hx
theorem Ring.bad {p : Nat → Nat} {r : List Nat} (h : Ring p r) (h8 : ∀ v ∈ r, v ≤ 8) : bad p 9 ≠ [] := by
 have hl := h.len
 obtain ⟨v, hv⟩ : ∃ v, v ∈ r := ⟨r[0], List.getElem_mem (by lia)⟩
 have hm : lastU p v ∈ r := by
  (refine e1_1 (ups_snoc p v) ?_; intro us hus)
  exact h.up 9 v hv _ (by rw [hus]; simp)
 have h1 := (h.step hm).1
 refine List.ne_nil_of_mem (a := v) ?_
 unfold Mine.Internal.bad
 rw [List.mem_filter, List.mem_range]
 exact ⟨by have := h8 v hv; lia, by simp; lia⟩
theorem bad_nil {p : Nat → Nat} (h : ∀ v, v ≤ 8 → lastU p v = 0) : bad p 9 = [] := by
 unfold bad
 rw [List.filter_eq_nil_iff]
 intro v hv
 rw [List.mem_range] at hv
 simp [h v (by lia)]
theorem fm_take {val : Nat → Int} {xs : List Int} (hn : xs.Nodup) (hv : ∀ i x, xs[i]? = some x → val i = x) : ∀ i, i ≤ xs.length → firstMet val i = xs.take i
 | 0, _ => by simp [firstMet_zero]
 | i + 1, h => by
  rw [firstMet_succ, fm_take hn hv i (by lia)]
  have hi : xs[i]? = some xs[i] := List.getElem?_eq_getElem (by lia)
  rw [hv i _ hi]
  unfold step_dedup
  rw [if_neg, ← tk_snoc hi]
  simp only [List.any_eq_true, beq_iff_eq, not_exists, not_and]
  intro y hy e
  subst e
  (refine e1_1 (List.getElem?_of_mem hy) ?_; intro j hj)
  have hjl : j < i := by
   have : j < (xs.take i).length := by
    rcases Nat.lt_or_ge j (xs.take i).length with q | q
    ·exact q
    ·rw [List.getElem?_eq_none q] at hj; cases hj
   simp at this; lia
  rw [List.getElem?_take_of_lt hjl] at hj
  have := (List.getElem?_inj (show j < xs.length by lia) hn).mp (hj.trans hi.symm)
  lia
theorem Ring.set {p : Nat → Nat} {r : List Nat} (h : Ring p r) : (firstMet (fun i => (il r).getD i 0) (il r).length).length = r.length - 1 := by
 have hl := h.len
 have hne : r ≠ [] := fun e => by rw [e] at hl; simp at hl
 have e : r = r.dropLast ++ [r.getLast hne] := (List.dropLast_concat_getLast hne).symm
 have hm : r.getLast hne ∈ r.dropLast := by
  have hc := h.cls
  rw [List.getLast?_eq_some_getLast hne] at hc
  rw [List.mem_iff_getElem?]
  refine ⟨0, ?_⟩
  rw [List.getElem?_dropLast, if_pos (by lia), ← List.head?_eq_getElem?]; exact hc
 have hn : (il r.dropLast).Nodup := il_nodup h.nd
 have hlen : (il r).length = (il r.dropLast).length + 1 := by unfold il; simp; lia
 have hv : ∀ i x, (il r.dropLast)[i]? = some x → (fun i => (il r).getD i 0) i = x := by
  intro i x hx
  have : (il r)[i]? = some x := by
   conv => lhs; rw [e]
   unfold il at hx ⊢
   rw [List.map_append, List.getElem?_append_left]
   ·exact hx
   ·rcases Nat.lt_or_ge i (List.map Int.ofNat r.dropLast).length with q | q
    ·exact q
    ·rw [List.getElem?_eq_none q] at hx; cases hx
  show (il r).getD i 0 = x
  rw [List.getD_eq_getElem?_getD, this]; rfl
 rw [hlen, firstMet_succ, fm_take hn hv _ (Nat.le_refl _), List.take_length]
 have hlast : (il r).getD (il r.dropLast).length 0 = ((r.getLast hne : Nat) : Int) := by
  rw [List.getD_eq_getElem?_getD]
  have : (il r)[(il r.dropLast).length]? = some ((r.getLast hne : Nat) : Int) := by
   conv => lhs; rw [e]
   unfold il
   rw [List.map_append, List.getElem?_append_right (by simp)]
   simp
  rw [this]; rfl
 unfold step_dedup
 rw [if_pos]
 ·unfold il; simp
 ·simp only [List.any_eq_true, beq_iff_eq]
  exact i1_2 _ (mem_il.mpr hm) hlast.symm
end
section
theorem clos_cs {c : Fx} (hV : c.V) {scope : Scope} (h : scope.names.all (fun x => x.2 != .free || (c.cs.lookup x.1).isSome) = true) : closureFor scope c.env = pure (clOf (fun x => (c.cs.lookup x).getD 0) scope.names []) := by
 refine clos_ok fun x hx hf => ?_
 have := List.all_eq_true.mp h x hx
 simp only [hf, bne_self_eq_false, Bool.false_or] at this
 (refine e1_1 (Option.isSome_iff_exists.mp this) ?_; intro a ha)
 rw [(hV.cc _ (lookup_mem ha)).2.1, ha]; rfl
section
variable {c : Fx} {m : Loc} {l : Led} {K : KV Value} {a : Addr} {o : Obj} {vs : List Value} {nt : Nat} {i : Int} {u : Tok} {v : Value} {e e' : Expr}
theorem o_lent2 (hr : Rd c.g l a o) (hc : o.cls = .type "tuple") (hd : o.data = .seq vs.toArray nt) (hz : vs.length < 2 ^ 62) (h : ∀ t, K (.int vs.length t) m l) : Ob c (call (.builtin "len") [.ref a]) K m l := by
 intro Q E s S k x
 refine PyProof.Rows.len_tuple (items := vs.toArray) ⟨_, S.rd hr, hc, _, hd⟩ (by simp; lia) ?_
 simp only [List.size_toArray]
 exact k _ _ _ _ (h _) (S.same rfl rfl rfl)
theorem o_tup2 (hr : Rd c.g l a o) (hc : o.cls = .type "tuple") (hd : o.data = .seq vs.toArray nt) (h0 : 0 ≤ i) (h1 : i < 2 ^ 63) (hx : vs[i.toNat]? = some v) (h : K v m l) (he : isSlc e' = false := by rfl) : Ob c (subscriptTail e e' (.ref a) (.int i u)) K m l := by
 intro Q E s S k x
 have hlt : i.toNat < vs.length := by
  rcases Nat.lt_or_ge i.toNat vs.length with q | q
  ·exact q
  ·rw [List.getElem?_eq_none q] at hx; cases hx
 refine item_tupleT (l := vs) (j := i.toNat) ⟨_, S.rd hr, hc, _, hd⟩ (by lia) h1 ?_ hx (k _ _ _ _ h S) (by cases e' <;> first | rfl | cases he)
 unfold seqIndex?
 simp only [show ¬ i < 0 by lia, if_false]
 rw [if_pos]
 simp only [Bool.and_eq_true, decide_eq_true_eq]
 lia
end
theorem sub_ll : isSubtype (.type "list") (.type "list") = pure true := by rw [isSubtype_type]; kernel_rfl
theorem tyT_list : typeOf (.type "list") = pure (.type "type") := by kernel_rfl
theorem LTOLD {w : World} {aP : Addr} {vp : List Value} {kp : Nat} (p : Nat → Nat) (hp8 : ∀ x, p x ≤ 8) (hI : Ints vp (pl p)) (ns : List Nd) (ha : abs ns = mkA (keyN p 8) (npN 8) (belN p 8)) (told : Value) (tl : Led) (hT : ToldR p ns told tl) :
  SpecX w 6 322 [told, .ref aP] (fun g => g.get? aP = some (lst vp kp) ∧ ∀ q ∈ tl, g.get? q.1 = some q.2) [] (fun v l' => v = .bool true ∧ l' = []) (fun _ _ _ => False) := by
 refine specC_vc [("told", told), ("parents", .ref aP)] [("told", told)] [("parents", .ref aP)] [] (fun L => [(Str.ofString "ring", L + 2), (Str.ofString "parents", L + 1)]) fi_law_told_right_ok rfl (by kernel_rfl) (by kernel_rfl) (by kernel_rfl) (by kernel_rfl) (fun L => by kernel_rfl) (fun L => ?_) (fun L => by show (["ring", "parents"].map Str.ofString).Nodup; decide +kernel) (fun L => ?_) ?_
 ·simp only [List.forall_mem_cons]
  exact ⟨⟨by kernel_rfl, by decide, by decide⟩, ⟨by kernel_rfl, by decide, by decide⟩, fun _ h => nomatch h⟩
 ·simp only [List.forall_mem_cons]
  exact ⟨⟨by kernel_rfl, by rfl⟩, fun _ h => nomatch h⟩
 intro c0 c hw hz hm hV hn hgt hcs hck he hX hp cells hcells
 dsimp only [fi_law_told_right] at hgt he
 subst hw
 (refine e0_2 hp ?_; clear hp; intro hpA hpT)
 (refine e2_3 hcells.two ?_; intro oR oP hE1 hR hP; subst hE1)
 have hR' : oR.data = .cell none := hR
 have hP' : oP.data = .cell (some (.ref aP)) := hP
 rw [List.append_nil]
 (refine stIf hV ?_; intro K qK KT qI; walk_at"go")
 refine o_tdef hV ?_
 walk_at"go"
 refine o_comp (ks := [Str.ofString "place"]) (gt := [(Str.ofString "_law_ups", .ref 312)]) (fr := [Str.ofString "parents"]) hV (clos_cs hV (by rw [hcs]; kernel_rfl)) (by kernel_rfl) ?_
 walk_at"go"
 refine o_range1 fun ra t1 t3 => ?_
 have hbad : ∀ i, bad p (i + 1) = bad p i ++ (if lastU p i != 0 then [i] else []) := by
  intro i
  unfold bad
  rw [List.range_succ, List.filter_append]
  congr 1
  cases h : (lastU p i != 0) <;> simp [List.filter, h]
 refine comp_src (ks := [Str.ofString "place"]) (gt := [(Str.ofString "_law_ups", .ref 312)]) (fr := [Str.ofString "parents"]) (N := 9) hV hz (src_range (Vw.hh' hV hz) 0 9) (by kernel_rfl) (by lia) (by lia) (mk_range (x := 0) (y := 9) rfl (by decide) (by decide) (.inl (by repeat constructor))) (fun i m l ys => Ints ys (il (bad p i)) ∧ l = [(ra, rngO 0 9 1 t1 _ t3), (c.L + 2, oR), (c.L + 1, oP)] ∧ ∃ o, m = ([("place", o)] : Loc)) ⟨.nil, rfl, _, rfl⟩ (fun g p l h => trivial) (fun _ _ _ _ _ _ _ => trivial) ?_ ?_
 ·intro c0' c' hV' e1 hz' en hgt' hcs' hst' hX' i v m l ys I oI D k hi hv hJ KA KS hKA hKS
  (refine hideG ?_; intro P0 hP0; obtain ⟨hys, rfl, o, rfl⟩ := hJ; refine hP0 ?_; clear hP0 P0)
  have hV := hV'
  have hgt := hgt'
  (refine e1_1 hv ?_; clear hv; rintro tv rfl)
  have hcs2 : c'.cs = [(Str.ofString "parents", c.L + 1)] := by rw [hcs']; unfold csOf; rw [hcs]; kernel_rfl
  simp only [vCT]
  walk_at"go"
  refine o_cel hV (by rw [hcs2]; repeat constructor) (.inl (by repeat constructor)) hP' ?_
  walk_at"go"
  rw [show (0 : Int) + (i : Int) = ((i : Nat) : Int) by lia]
  refine o_spec hV (LUPS (aP := aP) (vp := vp) (kp := kp) p hp8 i (by lia) hI) (by lia) (fun g' _ hG => hG _ _ (hst' _ _ hpA)) ?_
  (rintro _ _ hJq; refine hideG ?_; intro P0 hP0; obtain ⟨r, us, k2, rfl, rfl, hus⟩ := hJq; refine hP0 ?_; clear hP0 P0)
  walk_at"go"
  (refine e1_1 (ups_snoc p i) ?_; intro us' hu)
  rw [hu] at hus
  unfold il at hus
  rw [List.map_append] at hus
  (refine e2_2 hus.unsnoc ?_; intro us2 t9 hE1 hus2; subst hE1)
  have hul : us2.length ≤ 100 := by
   rw [hus2.len, List.length_map]
   have h1 : (ups p 9 i).length = us'.length + 1 := by rw [hu]; simp
   have h2 : ∀ n v, (ups p n v).length ≤ n + 1 := by
    intro n
    induction n with
    | zero => intro v; simp [ups]
    | succ n ih => intro v; rw [ups]; split <;> simp; exact ih _
   have := h2 9 i
   lia
  refine o_last (.inl (by repeat constructor)) (by lia) ?_
  walk_at"go"
  have hb := hbad i
  constructor
  ·intro h0
   have h0' : (lastU p i != 0) = true := by simp at h0 ⊢; lia
   rw [if_pos h0'] at hb
   refine hKA _ _ _ _ _ (.drop .rfl) ⟨?_, rfl, _, rfl⟩
   rw [hb]; unfold il; rw [List.map_append]; exact hys.snoc _ _
  ·intro h0
   have h0' : ¬ (lastU p i != 0) = true := by simp at h0 ⊢; lia
   rw [if_neg h0', List.append_nil] at hb
   refine hKS _ _ _ _ (.drop .rfl) ⟨?_, rfl, _, rfl⟩
   rw [hb]; exact hys
 (rintro D m l ys k hJq; (refine e0_3 hJq ?_; clear hJq; intro hys hE1 _; subst hE1))
 have hyl : ys.length = (bad p 9).length := by rw [hys.len]; simp [il]
 have hyz : ys.length ≤ 9 := by rw [hyl]; unfold bad; exact Nat.le_trans (List.length_filter_le _ _) (by simp)
 refine o_trl (.inl (by repeat constructor)) (by lia) ?_
 rcases hT with ⟨rfl, rfl, fin, hac⟩ | ⟨tt, ot, nt, a, lv, kl, ring, t0, rfl, rfl, h1, h2, hri, hring, hrz, hrk⟩
 ·have hb0 := bad_nil (acyc_top hp8 ha hac)
  rw [hb0] at hyl
  have : ys = [] := by simpa using hyl
  subst this
  refine qI.t _ _ ?_
  (refine stl hV ?_; walk_at"go")
  refine o_is (a := .none) (b := .none) rfl ?_
  exact qK.r _ _ _ ⟨[], _, .nil, rfl, rfl⟩
 ·have hr8 : ∀ v ∈ ring, v ≤ 8 := fun v hv => by
   have := hrk v hv
   rw [(abs_mk ha).1] at this
   rcases keyN_mem.mp this with q | ⟨i, _, _, rfl⟩
   ·exact q
   ·exact hp8 i
  have hbn := hring.bad hr8
  rw [show (!(!ys.isEmpty)) = false from by
   cases ys with
   | nil => exact absurd (List.eq_nil_of_length_eq_zero hyl.symm) hbn
   | cons => rfl]
  refine qI.f _ _ (stn (qK.n _ _ ?_))
  have htt : c.g.get? tt = some ot := hpT (tt, ot) (.head _)
  have haa : c.g.get? a = some (lst lv kl) := hpT (a, lst lv kl) (.tail _ (.head _))
  (refine stIf hV ?_; intro K qK KT qI; walk_at"go")
  refine o_is (a := .ref tt) (b := .none) rfl ?_
  rw [show ((Value.ref tt == Value.none)) = false from rfl]
  walk_at"go"
  refine ⟨fun h => (nomatch h), fun _ => ?_⟩
  walk_at"go"
  refine o_lent2 (.inr htt) h1 h2 (by simp) fun t5 => ?_
  walk_at"go"
  refine ⟨fun h => by simp at h, fun _ => ?_⟩
  walk_at"go"
  refine o_tup2 (.inr htt) h1 h2 (by decide) (by decide) rfl ?_
  walk_at"go"
  refine o_nes ?_
  rw [show (!(Str.ofString "nodes are in a cycle" == Str.ofString "nodes are in a cycle")) = false from by simp]
  walk_at"go"
  refine ⟨fun h => (nomatch h), fun _ => ?_⟩
  walk_at"go"
  refine o_tup2 (.inr htt) h1 h2 (by decide) (by decide) rfl ?_
  walk_at"go"
  refine o_isi (Tx := "list") (fun s S => ⟨_, S.old haa, rfl⟩) tyT_list sub_ll ?_
  walk_at"go"
  refine ⟨fun h => (nomatch h), fun _ => ?_⟩
  refine qI.f _ _ (stn (qK.n _ _ ?_))
  (refine stq hV ?_; intro K qK; walk_at"go")
  refine o_tup2 (.inr htt) h1 h2 (by decide) (by decide) rfl ?_
  walk_at"go"
  refine o_scel hV (by rw [hcs]; repeat constructor) (hck (Str.ofString "ring", c.L + 2) (by rw [hcs]; repeat constructor)) (by repeat constructor) hR' fun oR2 hR2 => ⟨_, by repeat constructor, ?_⟩
  (refine qK.n _ _ ?_; (try clear qK K))
  have hlv : lv.length = ring.length := by rw [hri.len]; simp [il]
  have hrl := hring.len
  have hrne : ring ≠ [] := fun e => by rw [e] at hrl; simp at hrl
  have hlast : ring = ring.dropLast ++ [ring.getLast hrne] := (List.dropLast_concat_getLast hrne).symm
  have hri2 := hri
  rw [hlast] at hri2
  unfold il at hri2
  rw [List.map_append] at hri2
  (refine e2_2 hri2.unsnoc ?_; intro lv' tl9 hlv9 _)
  obtain ⟨t00, ht00⟩ := hri.get 0 ((ring.getLast hrne : Nat) : Int) (by
   have hc := hring.cls
   rw [List.head?_eq_getElem?, List.getLast?_eq_some_getLast hrne] at hc
   unfold il; rw [List.getElem?_map, hc]; rfl)
  (refine stIf hV ?_; intro K qK KT qI; walk_at"go")
  refine o_cel hV (by rw [hcs]; repeat constructor) (.inl (by repeat constructor)) hR2 ?_
  walk_at"go"
  refine o_lenl (.inr haa) (by lia) ?_
  walk_at"go"
  refine ⟨fun h => by simp at h; lia, fun _ => ?_⟩
  walk_at"go"
  refine o_cel hV (by rw [hcs]; repeat constructor) (.inl (by repeat constructor)) hR2 ?_
  walk_at"go"
  refine o_lst (.inr haa) (by decide) (by decide) ht00 ?_
  walk_at"go"
  refine o_cel hV (by rw [hcs]; repeat constructor) (.inl (by repeat constructor)) hR2 ?_
  walk_at"go"
  refine o_last (.inr (hlv9 ▸ haa)) (by have := congrArg List.length hlv9; simp at this; lia) ?_
  walk_at"go"
  refine ⟨fun h => by simp at h, fun _ => ?_⟩
  walk_at"go"
  refine o_cel hV (by rw [hcs]; repeat constructor) (.inl (by repeat constructor)) hR2 ?_
  walk_at"go"
  refine o_setl hV (.inr haa) hri (by unfold il; simp; unfold scanBound; lia) fun sb so hso => ?_
  rw [hring.set] at hso
  walk_at"go"
  refine o_lens2 (by repeat constructor) hso fun t6 => ?_
  walk_at"go"
  refine o_cel hV (by rw [hcs]; repeat constructor) (.inl (by repeat constructor)) hR2 ?_
  walk_at"go"
  refine o_lenl (.inr haa) (by lia) ?_
  walk_at"go"
  refine ⟨fun h => by simp at h; lia, fun _ => ?_⟩
  refine qI.f _ _ (stn (qK.n _ _ ?_))
  (refine stq hV ?_; intro K qK; walk_at"go")
  refine o_comp (ks := [Str.ofString "at"]) (gt := []) (fr := [Str.ofString "parents", Str.ofString "ring"]) hV (clos_cs hV (by rw [hcs]; kernel_rfl)) (by kernel_rfl) ?_
  walk_at"go"
  refine o_cel hV (by rw [hcs]; repeat constructor) (.inl (by repeat constructor)) hR2 ?_
  walk_at"go"
  refine o_lenl (.inr haa) (by lia) fun t7 => ?_
  walk_at"go"
  refine o_range1 fun rb t8 t9 => ?_
  refine comp_src (ks := [Str.ofString "at"]) (gt := []) (fr := [Str.ofString "parents", Str.ofString "ring"]) (N := ring.length - 1) hV hz (src_range (Vw.hh' hV hz) 0 (ring.length - 1)) (by kernel_rfl) (by lia) (by lia) (mk_range (x := 0) (y := (lv.length : Int) - 1) (by lia) (by decide) (by lia) (.inl (by repeat constructor))) (fun i m l' ys' => ys' = [] ∧ l' = [(rb, _), (sb, so), (D, lst ys k), (ra, _), (c.L + 2, oR2), (c.L + 1, oP)] ∧ ∃ o, m = ([("at", o)] : Loc)) ⟨rfl, rfl, _, rfl⟩ (fun g p l h => trivial) (fun _ _ _ _ _ _ _ => trivial) ?_ ?_
  ·intro c0' c' hV' e1 hz' en hgt' hcs' hst' hX' i v m l ys' I oI D k hi hv hJ KA KS hKA hKS
   (refine hideG ?_; intro P0 hP0; obtain ⟨rfl, rfl, o, rfl⟩ := hJ; refine hP0 ?_; clear hP0 P0)
   have hV := hV'
   have hgt := hgt'
   (refine e1_1 hv ?_; clear hv; rintro tv rfl)
   have hcs2 : c'.cs = [(Str.ofString "parents", c.L + 1), (Str.ofString "ring", c.L + 2)] := by rw [hcs']; unfold csOf; rw [hcs]; kernel_rfl
   have haa' := hst' _ _ haa
   have hpA' := hst' _ _ hpA
   simp only [vCT]
   walk_at"go"
   rw [show (0 : Int) + (i : Int) = ((i : Nat) : Int) by lia]
   have hi1 : i < ring.length := by lia
   have hi2 : i + 1 < ring.length := by lia
   have hch := hring.ch i ring[i] ring[i + 1] (List.getElem?_eq_getElem hi1) (List.getElem?_eq_getElem hi2)
   obtain ⟨ti1, hti1⟩ := hri.get i ((ring[i] : Nat) : Int) (by unfold il; rw [List.getElem?_map, List.getElem?_eq_getElem hi1]; rfl)
   obtain ⟨ti2, hti2⟩ := hri.get (i + 1) ((ring[i + 1] : Nat) : Int) (by unfold il; rw [List.getElem?_map, List.getElem?_eq_getElem hi2]; rfl)
   have h8 := hr8 ring[i + 1] (List.getElem_mem hi2)
   (refine e1_1 (hI.get ring[i + 1] _ (pl_get p h8)) ?_; intro ti3 hti3)
   refine o_cel hV (by rw [hcs2]; repeat constructor) (.inl (by repeat constructor)) hR2 ?_
   walk_at"go"
   refine o_lst (.inr haa') (by lia) (by lia) (by rw [← hti1]; congr 1) ?_
   walk_at"go"
   refine o_cel hV (by rw [hcs2]; repeat constructor) (.inl (by repeat constructor)) hP' ?_
   walk_at"go"
   refine o_cel hV (by rw [hcs2]; repeat constructor) (.inl (by repeat constructor)) hR2 ?_
   walk_at"go"
   refine o_lst (.inr haa') (by lia) (by lia) (by rw [← hti2]; congr 1) ?_
   walk_at"go"
   refine o_lst (.inr hpA') (by lia) (by lia) (by rw [← hti3]; congr 1) ?_
   walk_at"go"
   rw [hch.1]
   refine ⟨fun h => by simp at h, fun _ => hKS _ _ _ [] .rfl ⟨rfl, rfl, _, rfl⟩⟩
  ·(rintro D m l ys' k hJq; (refine e0_3 hJq ?_; clear hJq; intro hE1 hE2 _; subst hE1 hE2))
   show Ob c (unaryOp .Not (.ref D)) _ _ _
   refine o_not (o_trl (.inl (by repeat constructor)) (by decide) ?_)
   exact qK.r _ _ _ ⟨[], _, .nil, rfl, rfl⟩
end
section
noncomputable def kch (kind : Int) : Str := Txt.item (Str.ofString "?pc?d?b?-?l?s???") kind
noncomputable def pk {α : Type} (i : Nat) (a b c : α) : α := match i with
 | 0 => a
 | 1 => b
 | _ => c
noncomputable def dg (rights : Int) (i : Nat) : Int := rights / pk i 64 8 1 % 8
noncomputable def hb (rights : Int) (i : Nat) : Int := rights / pk i 2048 1024 512 % 2
noncomputable def tch (i : Nat) : Str := pk i (Str.ofString "-xSs") (Str.ofString "-xSs") (Str.ofString "-xTt")
theorem pk_all {α : Type} {P : α → Prop} {a b c : α} (i : Nat) (h1 : P a) (h2 : P b) (h3 : P c) : P (pk i a b c) := match i with
 | 0 => h1
 | 1 => h2
 | _ + 2 => h3
theorem tup3i {x y z : Int} {ta tb tc : Tok} {i : Nat} (h : i < 3) : [Value.int x ta, .int y tb, .int z tc][(0 + (i : Int)).toNat]? = some (.int (pk i x y z) (pk i ta tb tc)) := match i, h with
 | 0, _ | 1, _ | 2, _ => rfl
theorem tup3s {x y z : Str} {ta tb tc : Tok} {i : Nat} (h : i < 3) : [Value.str x ta, .str y tb, .str z tc][(0 + (i : Int)).toNat]? = some (.str (pk i x y z) (pk i ta tb tc)) := match i, h with
 | 0, _ | 1, _ | 2, _ => rfl
noncomputable def rowUp (kind rights : Int) : Nat → Str
 | 0 => kch kind
 | i + 1 => rowUp kind rights i ++ (if decide (3 < dg rights i) = true then Str.ofString "r" else Str.ofString "-") ++ (if (dg rights i / 2 % 2 == 1) = true then Str.ofString "w" else Str.ofString "-") ++ Txt.item (tch i) (dg rights i % 2 + 2 * hb rights i)
theorem len_r : (Str.ofString "r").length = 1 := by decide +kernel
theorem len_w : (Str.ofString "w").length = 1 := by decide +kernel
theorem len_d : (Str.ofString "-").length = 1 := by decide +kernel
theorem len_row (kind rights : Int) : ∀ i, (rowUp kind rights i).length = 1 + 3 * i
 | 0 => rfl
 | i + 1 => by
  rw [rowUp, Str.length_append, Str.length_append, Str.length_append, len_row kind rights i, len_if len_r len_d, len_if len_w len_d, len_item]
  lia
theorem lastok {d h : Int} (x : Str) (hx : x.length = 4) : (fitsSsize (d % 2 + 2 * (h % 2)) = true ∧ (Txt.charAt x (d % 2 + 2 * (h % 2))).isSome = true) := by
 have h0 : 0 ≤ d % 2 + 2 * (h % 2) := by lia
 have h1 : d % 2 + 2 * (h % 2) < 4 := by lia
 exact ⟨fitsSsize_of (N := 4) (by lia) h1 (by decide), charAt_isSome (by lia) (by lia)⟩
theorem LROW {w : World} {t u : Tok} (kind rights : Int) (hk : kind = 4 ∨ kind = 8 ∨ kind = 10) : Spec w 2 305 [.int kind t, .int rights u] (fun _ => True) (fun v l' => (∃ t, v = .str (rowUp kind rights 3) t) ∧ l' = []) := by
 refine spec_vc [("kind", .int kind t), ("rights", .int rights u)] ["row", "turn", "digit", "last"] fi_law_row_ok rfl (by kernel_rfl) (by kernel_rfl) (by kernel_rfl) ?_
 intro c0 c hw hz hV hn hgt hX hp
 dsimp only [fi_law_row] at hgt
 (refine stq hV ?_; intro K qK; walk_at"go")
 refine ⟨⟨by rcases hk with rfl | rfl | rfl <;> decide +kernel, by rcases hk with rfl | rfl | rfl <;> decide +kernel⟩, fun _ => ?_⟩
 (refine qK.n _ _ ?_; (try clear qK K))
 (refine stq hV ?_; intro K qK; walk_at"go")
 refine o_range1 fun a t₁ t₃ => ?_
 refine vfor_range hV hX 3 rfl (by decide) (by decide) List.mem_cons_self .nil (fun i m l => l = [] ∧ ∃ (t₁ t₂ t₃ : Tok) (a b c : Option Value), m = ([("kind", some (Value.int kind t₁)), ("rights", some (Value.int rights t₂)), ("row", some (.str (rowUp kind rights i) t₃)), ("turn", a), ("digit", b), ("last", c)] : Loc)) ⟨rfl, _, _, _, _, _, _, rfl⟩ ?_ ?_
 ·(rintro i t m l I oI hi hJq; refine hideG ?_; intro P0 hP0; obtain ⟨rfl, t₁, t₂, t₃, a, b, d, rfl⟩ := hJq; refine hP0 ?_; clear hP0 P0)
  walk_at"go"
  (refine stq hV ?_; intro K qK; walk_at"go")
  refine o_tup (.inl (by repeat constructor)) (by lia) (by lia) (tup3i hi) ?_
  walk_at"go"
  refine ⟨pk_all (P := fun x : Int => 0 < x ∧ x < 1073741824) i (by decide) (by decide) (by decide), fun _ _ => ⟨by decide, fun _ => ?_⟩⟩
  (refine qK.n _ _ ?_; (try clear qK K); refine stq hV ?_; intro K qK; walk_at"go")
  refine o_tup (.inl (by repeat constructor)) (by lia) (by lia) (tup3i hi) ?_
  walk_at"go"
  refine ⟨pk_all (P := fun x : Int => 0 < x ∧ x < 1073741824) i (by decide) (by decide) (by decide), fun _ _ => ⟨by decide, fun _ => ⟨by decide, fun _ _ => ?_⟩⟩⟩
  (refine qK.n _ _ ?_; (try clear qK K); refine stq hV ?_; intro K qK; walk_at"go")
  refine ⟨by rw [len_row, len_if len_r len_d]; lia, ?_⟩
  (repeat first | with_reducible intro _ | refine And.intro (by decide) ?_)
  refine ⟨by rw [Str.length_append, len_row, len_if len_r len_d, len_if len_w len_d]; lia, ?_⟩
  (repeat first | with_reducible intro _ | refine And.intro (by decide) ?_)
  (refine qK.n _ _ ?_; (try clear qK K); refine stq hV ?_; intro K qK; walk_at"go")
  refine o_tup (.inl (by repeat constructor)) (by lia) (by lia) (tup3s hi) ?_
  walk_at"go"
  refine ⟨lastok _ (pk_all (P := fun x : Str => x.length = 4) i (by decide) (by decide) (by decide)), ?_⟩
  (repeat first | with_reducible intro _ | refine And.intro (by decide) ?_)
  refine ⟨by rw [Str.length_append, Str.length_append, len_row, len_if len_r len_d, len_if len_w len_d, len_item]; lia, ?_⟩
  (repeat first | with_reducible intro _ | refine And.intro (by decide) ?_)
  (refine qK.n _ _ ?_; (try clear qK K))
  refine stn ⟨_, _, .take (by repeat constructor) .nil, _, rfl, rfl, _, _, _, _, _, _, rfl⟩
 ·(rintro m l hJq; refine hideG ?_; intro P0 hP0; obtain ⟨rfl, t₁, t₂, t₃, a, b, d, rfl⟩ := hJq; refine hP0 ?_; clear hP0 P0)
  refine stn ?_
  (refine qK.n _ _ ?_; (try clear qK K))
  (refine stq hV ?_; intro K qK; walk_at"go")
  exact qK.r _ _ _ (.all ⟨⟨_, rfl⟩, rfl⟩)
end
section
noncomputable def tA (th : List Th) (i : Nat) : Th := th.getD i ⟨0, 0, 4, 0⟩
noncomputable def pT (th : List Th) : Nat → Nat := fun x => (tA th x).a
noncomputable def isDir (th : List Th) (v : Nat) : Bool := (tA th v).k == 4
noncomputable def abv (p : Nat → Nat) (v : Nat) : List Nat := (ups p 9 v).tail.reverse
noncomputable def okD (th : List Th) (v : Nat) : Bool := lastU (pT th) v == 0 && (abv (pT th) v).all (isDir th)
noncomputable def gid (th : List Th) (u : Nat) : Bool := (tA th u).r / 1024 % 2 == 1
noncomputable def sets (th : List Th) (v : Nat) : List Nat := (abv (pT th) v).filter (gid th)
noncomputable def teamD (th : List Th) (v : Nat) : Nat := match sets th v with | [] => (tA th v).t | s :: _ => (tA th s).t
noncomputable def rgtD (th : List Th) (v : Nat) : Nat := if (sets th v).isEmpty then (tA th v).r else if isDir th v then (tA th v).r + 1024 * (1 - (tA th v).r / 1024 % 2) else (tA th v).r
noncomputable def seg (u : Nat) : Str := Str.ofString "/" ++ Txt.item (Str.ofString "abcdefgh") ((u : Int) - 1)
noncomputable def segs (p : Nat → Nat) (v : Nat) : List Str := (abv p v ++ [v]).tail.map seg
structure Dr where
 row : Str
 team : Int
 path : Str
noncomputable def drD (th : List Th) (v : Nat) : Dr := ⟨rowUp (tA th v).k (rgtD th v) 3, teamD th v, Txt.join (Str.ofString "") (segs (pT th) v)⟩
inductive DueO (x : Dr) (o : Obj) : Prop
 | mk (t1 t2 t3 : Tok) (k : Nat) (h1 : o = lst [.str x.row t1, .int x.team t2, .str x.path t3] k)
inductive DueL (f : Nat → Dr) : List Nat → List (Int × Value) → Led → Prop
 | nil : DueL f [] [] []
 | snoc {vs kvs L v a o} : DueL f vs kvs L → DueO (f v) o → DueL f (vs ++ [v]) (kvs ++ [((v : Int), .ref a)]) ((a, o) :: L)
theorem DueL.keys {f : Nat → Dr} {vs : List Nat} {kvs : List (Int × Value)} {L : Led} (h : DueL f vs kvs L) : kvs.map (·.1) = il vs := by
 induction h with
 | nil => rfl
 | snoc _ _ ih => unfold il at ih ⊢; simp [ih]
noncomputable def dueN (th : List Th) (n : Nat) : List Nat := (List.range n).filter (okD th)
theorem dueN_succ (th : List Th) (n : Nat) : dueN th (n + 1) = dueN th n ++ (if okD th n then [n] else []) := by
 unfold dueN
 rw [List.range_succ, List.filter_append]
 congr 1
 cases h : okD th n <;> simp [List.filter, h]
section
variable {th : List Th}
theorem tA_ok (h9 : th.length = 9) (hO : ∀ (i : Nat) x, th[i]? = some x → x.ok i) {i : Nat} (h : i ≤ 8) : (tA th i).ok i := by
 unfold tA
 refine hO i _ ?_
 rw [List.getD_eq_getElem?_getD, List.getElem?_eq_getElem (by lia)]; rfl
theorem pT_le (h9 : th.length = 9) (hO : ∀ (i : Nat) x, th[i]? = some x → x.ok i) (x : Nat) : pT th x ≤ 8 := by
 unfold pT
 rcases Nat.lt_or_ge x 9 with h | h
 ·exact (tA_ok h9 hO (by lia)).1
 ·unfold tA; rw [List.getD_eq_getElem?_getD, List.getElem?_eq_none (by lia)]; exact Nat.zero_le _
theorem ThAt.at {rd : Addr → Obj → Prop} {aT : Addr} (h : ThAt rd aT th) (h9 : th.length = 9) : ∃ (as : List Addr) (k : Nat), rd aT (lst (as.map .ref) k) ∧ as.length = 9 ∧ ∀ i, i ≤ 8 → ∃ a vs k, as[i]? = some a ∧ rd a (lst vs k) ∧ Ints vs (tA th i).ints := by
 (refine hideG ?_; intro P0 hP0; obtain ⟨as, k, h1, h2, h3⟩ := h; refine hP0 ?_; clear hP0 P0)
 refine i2_3 as k h1 (by lia) (fun i hi => ?_)
 have hx : th[i]? = some (tA th i) := by unfold tA; rw [List.getD_eq_getElem?_getD, List.getElem?_eq_getElem (by lia)]; rfl
 have ha : as[i]? = some (as[i]'(by lia)) := List.getElem?_eq_getElem (by lia)
 (refine e2_2 (h3 i _ _ ha hx) ?_; intro vs k q1 q2)
 exact i3_3 _ vs k ha q1 q2
end
theorem abv_eq (p : Nat → Nat) (v : Nat) : abv p v ++ [v] = (ups p 9 v).reverse := by
 unfold abv
 have h : ups p 9 v = v :: (ups p 9 v).tail := by
  rw [show (9 : Nat) = 8 + 1 from rfl, ups]
  split <;> rfl
 conv => rhs; rw [h]
 simp
theorem ups_len (p : Nat → Nat) : ∀ n v, (ups p n v).length ≤ n + 1
 | 0, v => by simp [ups]
 | n + 1, v => by
  rw [ups]; split
  ·simp
  ·simp; exact ups_len p n (p v)
theorem ups_pos (p : Nat → Nat) : ∀ n v, ∀ x ∈ (ups p n v).dropLast, x ≠ 0
 | 0, v, x, h => by simp [ups] at h
 | n + 1, v, x, h => by
  rw [ups] at h
  split at h
  ·simp at h
  ·rename_i hv
   rw [List.dropLast_cons_of_ne_nil (ups_ne p n (p v))] at h
   rcases List.mem_cons.mp h with rfl | h
   ·exact hv
   ·exact ups_pos p n (p v) x h
theorem segs_eq (p : Nat → Nat) (v : Nat) : (abv p v ++ [v]).tail = (ups p 9 v).dropLast.reverse := by
 rw [abv_eq, List.tail_reverse]
end
section
theorem slice1 (items : Array Value) : slicePick items (some 1) none none = (items.toList.drop 1).toArray := slicePick_from' items 1
theorem charok {u : Nat} (h1 : 1 ≤ u) (h8 : u ≤ 8) : fitsSsize ((u : Int) - 1) = true ∧ (Txt.charAt (Str.ofString "abcdefgh") ((u : Int) - 1)).isSome = true := by
 have : ∀ u < 9, 1 ≤ u → u = 1 ∨ u = 2 ∨ u = 3 ∨ u = 4 ∨ u = 5 ∨ u = 6 ∨ u = 7 ∨ u = 8 := by decide
 have := this u (Nat.lt_succ_of_le h8) h1
 rcases this with h | h | h | h | h | h | h | h <;> subst h <;> decide +kernel
theorem LDUE {w : World} {aT aP : Addr} {vp : List Value} {kp : Nat} (th : List Th) (h9 : th.length = 9) (hO : ∀ (i : Nat) x, th[i]? = some x → x.ok i) (hI : Ints vp (pl (pT th))) :
  SpecX w 6 317 [.ref aT, .ref aP] (fun g => ThAt (fun a o => g.get? a = some o) aT th ∧ g.get? aP = some (lst vp kp)) [] (fun v l' => ∃ d od kvs L, v = .ref d ∧ l' = (d, od) :: L ∧ IsD w od kvs ∧ DueL (drD th) (dueN th 9) kvs L) (fun _ _ _ => False) := by
 refine specC_vc [("things", .ref aT), ("parents", .ref aP)] [("parents", .ref aP)] [("things", .ref aT)] ["due", "place", "ups", "above", "team", "kind", "rights", "setters", "path"] (fun L => [(Str.ofString "things", L + 1)]) fi_law_due_ok rfl (by kernel_rfl) (by kernel_rfl) (by kernel_rfl) (by kernel_rfl) (fun L => by kernel_rfl) (fun L => ?_) (fun L => by show (["things"].map Str.ofString).Nodup; decide +kernel) (fun L => ?_) ?_
 ·simp only [List.forall_mem_cons]
  exact ⟨⟨by kernel_rfl, by decide, by decide⟩, fun _ h => nomatch h⟩
 ·simp only [List.forall_mem_cons]
  exact ⟨⟨by kernel_rfl, by rfl⟩, fun _ h => nomatch h⟩
 intro c0 c hw hz hm hV hn hgt hcs hck he hX hp cells hcells
 dsimp only [fi_law_due] at hgt he
 subst hw
 (refine e0_2 hp ?_; clear hp; intro hth hpA)
 (refine e1_2 hcells.one ?_; intro oT hE1 hT; subst hE1)
 have hT' : oT.data = .cell (some (.ref aT)) := hT
 (refine e2_3 (hth.at h9) ?_; intro as ka hTa hal hAt)
 have hp8 := pT_le h9 hO
 rw [List.append_nil]
 (refine stq hV ?_; intro K qK; walk_at"go")
 rename_i d
 (refine qK.n _ _ ?_; (try clear qK K); refine stq hV ?_; intro K qK; walk_at"go")
 refine o_range1 fun ra t1 t3 => ?_
 let CC1 : Nat → (Loc → Led → Prop) → Prop := fun i P0 => ∀ (od : Obj) (kvs : List (Int × Value)) (L : Led) (o1 o2 o3 o4 o5 o6 o7 o8 : Option Value), IsD c.w od kvs → DueL (drD th) (dueN th i) kvs L → P0 ([("parents", some (.ref aP)), ("due", some (.ref d)), ("place", o1), ("ups", o2), ("above", o3), ("team", o4), ("kind", o5), ("rights", o6), ("setters", o7), ("path", o8)]) ((d, od) :: (c.L + 1, oT) :: L)
 let JJ1 : Nat → Loc → Led → Prop := fun i m l => Lz (CC1 i) m l
 refine vfor_range (x := 0) (y := 9) hV hX 9 rfl (by decide) (by decide) List.mem_cons_self (.drop .rfl) JJ1
  (fun _ f0 => f0 emptyDict ([]) ([]) _ _ _ _ _ _ _ _ (isD_nil _) (.nil)) ?_ ?_
 ·(rintro i t m l I oI hi hJq; refine Lz.el hJq ?_; clear hJq; rintro od kvs L o1 o2 o3 o4 o5 o6 o7 o8 hD hDu)
  rw [show (0 : Int) + (i : Int) = ((i : Nat) : Int) by lia]
  walk_at"go"
  (refine stq hV ?_; intro K qK; walk_at"go")
  refine o_spec hV (LUPS (aP := aP) (vp := vp) (kp := kp) (pT th) hp8 i (by lia) hI) (le_n hn rfl) (fun g' _ hG => hG _ _ hpA) ?_
  (rintro _ _ hJq; refine hideG ?_; intro P0 hP0; obtain ⟨r, us, k2, rfl, rfl, hus⟩ := hJq; refine hP0 ?_; clear hP0 P0)
  walk_at"go"
  (refine qK.n _ _ ?_; (try clear qK K); refine stq hV ?_; intro K qK; walk_at"go")
  have hul : us.length ≤ 10 := by rw [hus.len]; unfold il; rw [List.length_map]; exact ups_len _ 9 i
  refine o_lsl (.inl (by repeat constructor)) (.inl (by repeat constructor)) (.int _ _) .none .none (by simp) (by rw [sizeLine_eq]; lia) fun d1 => ?_
  walk_at"go"
  rename_i r2
  refine o_lsl (.inl (by repeat constructor)) (.inl (by repeat constructor)) .none .none (.int _ _) (by simp) (by rw [slice1, sizeLine_eq]; simp; lia) fun ab => ?_
  rw [slice1, krv_pick]
  walk_at"go"
  have hab : Ints (us.drop 1).reverse (il (abv (pT th) i)) := by
   have h1 := hus.drop 1
   refine ⟨by rw [List.length_reverse, h1.len]; unfold abv il; simp, fun j y hy => ?_⟩
   have e : il (abv (pT th) i) = ((il (ups (pT th) 9 i)).drop 1).reverse := by unfold abv il; rw [List.map_reverse, List.map_tail, List.drop_one]
   rw [e] at hy
   have hjl : j < ((il (ups (pT th) 9 i)).drop 1).length := by
    rcases Nat.lt_or_ge j ((il (ups (pT th) 9 i)).drop 1).reverse.length with q | q
    ·simpa using q
    ·rw [List.getElem?_eq_none q] at hy; cases hy
   rw [List.getElem?_reverse hjl] at hy
   rw [List.getElem?_reverse (by rw [h1.len]; exact hjl), h1.len]
   exact h1.get _ y hy
  generalize hvab : (us.drop 1).reverse = vab at *
  have hvl : vab.length ≤ 10 := by rw [← hvab]; simp; lia
  (refine qK.n _ _ ?_; (try clear qK K))
  refine ob_ex (l' := (ab, lst vab 0) :: (r, lst us k2) :: (I, oI) :: (d, od) :: (c.L + 1, oT) :: L) (.take .here (.drop (.drop (.drop .rfl)))) ?_
  (refine e1_1 (ups_snoc (pT th) i) ?_; intro us' hu)
  have hus2 := hus
  rw [hu] at hus2
  unfold il at hus2
  rw [List.map_append] at hus2
  (refine e2_2 hus2.unsnoc ?_; intro usv t9 hus3 _)
  rw [hus3]
  have hdn := dueN_succ th i
  have fin : ∀ m', okD th i = false → (∃ o2 o3 o4 o5 o6 o7 o8, m' = ([("parents", some (.ref aP)), ("due", some (.ref d)), ("place", some (.int (i : Nat) t)), ("ups", o2), ("above", o3), ("team", o4), ("kind", o5), ("rights", o6), ("setters", o7), ("path", o8)] : Loc)) →
    ∀ ex, LpK I oI (fun m l => Lz (fun P0 : Loc → Led → Prop => ∀ (od : Obj) (kvs : List (Int × Value)) (L : Led) (o1 o2 o3 o4 o5 o6 o7 o8 : Option Value), IsD c.w od kvs → DueL (drD th) (dueN th (i + 1)) kvs L → P0 ([("parents", some (.ref aP)), ("due", some (.ref d)), ("place", o1), ("ups", o2), ("above", o3), ("team", o4), ("kind", o5), ("rights", o6), ("setters", o7), ("path", o8)]) ((d, od) :: (c.L + 1, oT) :: L)) m l) K .next m' (ex ++ (I, oI) :: (d, od) :: (c.L + 1, oT) :: L) := by
   (rintro m' h0 hJq; (refine e7_1 hJq ?_; clear hJq; rintro o2 o3 o4 o5 o6 o7 o8 rfl); rintro ex)
   rw [h0, if_neg (by simp), List.append_nil] at hdn
   exact (lpk (R := ex) (Ex.app) rfl (fun _ f0 => f0 od kvs L _ _ _ _ _ _ _ _ hD (by rw [hdn]; exact hDu)))
  (refine stIf hV ?_; intro K qK KT qI; walk_at"go")
  refine o_last (by rw [← hus3]; exact .inl (by repeat constructor)) (by have := congrArg List.length hus3; simp at this; lia) ?_
  have habs : ∀ u ∈ abv (pT th) i, u ≤ 8 := fun u hu => by
   unfold abv at hu
   rw [List.mem_reverse] at hu
   exact ups_le hp8 9 i (by lia) u (List.mem_of_mem_tail hu)
  have hvl2 : vab.length = (abv (pT th) i).length := by rw [hab.len]; simp [il]
  have hva : ∀ (j : Nat) (v : Value), vab[j]? = some v → ∃ (u : Nat) (tu : Tok), (abv (pT th) i)[j]? = some u ∧ u ≤ 8 ∧ v = Value.int (u : Int) tu := by
   intro j v hv
   have hj : j < (abv (pT th) i).length := by
    rw [← hvl2]
    rcases Nat.lt_or_ge j vab.length with q | q
    ·exact q
    ·rw [List.getElem?_eq_none q] at hv; cases hv
   obtain ⟨tu, htu⟩ := hab.get j (((abv (pT th) i)[j] : Nat) : Int) (by unfold il; rw [List.getElem?_map, List.getElem?_eq_getElem hj]; rfl)
   rw [htu] at hv
   exact i2_3 _ tu (List.getElem?_eq_getElem hj) (habs _ (List.getElem_mem hj)) ((Option.some.inj hv).symm)
  have hfs : ∀ (q : Nat → Bool) j u, (abv (pT th) i)[j]? = some u → ((abv (pT th) i).take (j + 1)).filter q = ((abv (pT th) i).take j).filter q ++ (if q u then [u] else []) := by
   intro q j u hu
   rw [tk_snoc hu, List.filter_append]
   congr 1
   cases h : q u <;> simp [List.filter, h]
  walk_at"go"
  constructor
  case right =>
   intro h0
   refine qI.f _ _ (stn (qK.n _ _ (stn ?_)))
   refine fin _ ?_ ⟨_, _, _, _, _, _, _, rfl⟩ [_, _]
   unfold okD
   rw [show (lastU (pT th) i == 0) = false from by simp at h0 ⊢; lia]; rfl
  intro hl0
  have hl0' : (lastU (pT th) i == 0) = true := by simp at hl0 ⊢; lia
  refine o_tdef hV ?_
  walk_at"go"
  refine o_comp (ks := [Str.ofString "one"]) (gt := []) (fr := [Str.ofString "things"]) hV (clos_cs hV (by rw [hcs]; kernel_rfl)) (by kernel_rfl) ?_
  walk_at"go"
  refine comp_src (ks := [Str.ofString "one"]) (gt := []) (fr := [Str.ofString "things"]) hV hz (src_list (Vw.hh' hV hz) ab vab) (by kernel_rfl) (by lia) (by lia) (mk_list' (.inl (by repeat constructor))) (fun j m' l' ys => Ints ys (il (((abv (pT th) i).take j).filter fun u => !isDir th u)) ∧ l' = (ab, lst vab 0) :: (r, lst us k2) :: (I, oI) :: (d, od) :: (c.L + 1, oT) :: L ∧ ∃ o, m' = ([("one", o)] : Loc)) ⟨.nil, by rw [hus3], _, rfl⟩ (fun g p l h => by obtain ⟨k, h⟩ := h; exact ⟨k, h.cons⟩) ?_ ?_ ?_
  ·(rintro j m' l' ys g _ hJq; (refine e0_3 hJq ?_; clear hJq; intro _ hE1 _; subst hE1))
   exact ⟨_, by exact .inl (by repeat constructor)⟩
  ·intro c0' c' hV' e1 hz' en hgt' hcs' hst' hX' j v m' l' ys I2 oI2 D k hj hv hJ KA KS hKA hKS
   (refine hideG ?_; intro P0 hP0; obtain ⟨hys, rfl, o, rfl⟩ := hJ; refine hP0 ?_; clear hP0 P0)
   have hV := hV'
   have hgt := hgt'
   (refine e2_3 (hva j v hv) ?_; rintro u tu hu hu8 rfl)
   have hf := hfs (fun u => !isDir th u) j u hu
   have hcs2 : c'.cs = [(Str.ofString "things", c.L + 1)] := by rw [hcs']; unfold csOf; rw [hcs]; kernel_rfl
   (refine e3_3 (hAt u hu8) ?_; intro a vs kk ha hga hia)
   (refine e1_1 (hia.get 2 ((tA th u).k : Int) rfl) ?_; intro tk htk)
   simp only [vCT]
   walk_at"go"
   refine o_cel hV (by rw [hcs2]; repeat constructor) (.inl (by repeat constructor)) hT' ?_
   walk_at"go"
   refine o_lst (.inr (hst' _ _ hTa)) (by lia) (by lia) (v := .ref a) (by rw [List.getElem?_map]; show Option.map _ as[(u : Int).toNat]? = _; rw [Int.toNat_natCast, ha]; rfl) ?_
   walk_at"go"
   refine o_lst (.inr (hst' _ _ hga)) (by decide) (by decide) htk ?_
   walk_at"go"
   constructor
   ·intro h0
    have h0' : (!isDir th u) = true := by unfold isDir; simp at h0 ⊢; lia
    rw [if_pos h0'] at hf
    refine hKA _ _ _ _ _ (.rfl) ⟨?_, rfl, _, rfl⟩
    rw [hf]; unfold il; rw [List.map_append]; exact hys.snoc _ _
   ·intro h0
    have h0' : ¬ (!isDir th u) = true := by unfold isDir; simp at h0 ⊢; lia
    rw [if_neg h0', List.append_nil] at hf
    refine hKS _ _ _ _ (.rfl) ⟨?_, rfl, _, rfl⟩
    rw [hf]; exact hys
  (rintro D m' l' ys kD hJq; (refine e0_3 hJq ?_; clear hJq; intro hys hE1 _; subst hE1))
  rw [hvl2, List.take_of_length_le (Nat.le_refl _)] at hys
  have hyl : ys.length = ((abv (pT th) i).filter fun u => !isDir th u).length := by rw [hys.len]; simp [il]
  refine o_trl (.inl (by repeat constructor)) (by have := List.length_filter_le (fun u => !isDir th u) (abv (pT th) i); lia) ?_
  have hok : okD th i = ys.isEmpty := by
   unfold okD
   rw [hl0', Bool.true_and, Bool.eq_iff_iff, List.all_eq_true, List.isEmpty_iff_length_eq_zero, hyl, List.length_eq_zero_iff, List.filter_eq_nil_iff]
   simp
  cases hye : ys.isEmpty with
  | false =>
   refine ⟨fun h => (nomatch h), fun _ => ?_⟩
   refine qI.f _ _ (stn (qK.n _ _ (stn ?_)))
   exact fin _ (hok.trans hye) ⟨_, _, _, _, _, _, _, rfl⟩ [_, _, _]
  | true =>
   rw [hye] at hok
   refine ⟨fun _ => ?_, fun h => (nomatch h)⟩
   refine qI.t _ _ ?_
   refine ob_ex (l' := (ab, lst vab 0) :: (I, oI) :: (d, od) :: (c.L + 1, oT) :: L) (.drop (.take .here (.drop .rfl))) ?_
   (refine e3_3 (hAt i (by lia)) ?_; intro a vs kk ha hga hia)
   (refine e1_2 hia.ex ?_; rintro ts hts rfl)
   (refine hideG ?_; intro P0 hP0; obtain ⟨q1, q2, q3, q4, rfl⟩ := len4 hts; refine hP0 ?_; clear hP0 P0)
   simp only [Th.ints, List.zip_cons_cons, List.map_cons, List.zip_nil_left, List.map_nil] at hga
   (refine stq hV ?_; intro K1 qK1; walk_at"go")
   refine o_asgT hV ?_
   walk_at"go"
   refine o_cel hV (by rw [hcs]; repeat constructor) (.inl (by repeat constructor)) hT' ?_
   walk_at"go"
   refine o_lst (.inr hTa) (by lia) (by lia) (v := .ref a) (by rw [List.getElem?_map, Int.toNat_natCast, ha]; rfl) ?_
   walk_at"go"
   refine o_lsl (.inr hga) (.inl (by repeat constructor)) (.int _ _) .none .none (by simp) (by rw [sizeLine_eq]; simp) fun d4 => ?_
   rw [slice1]
   refine o_unL (vs := [.int ((tA th i).t : Nat) q2, .int ((tA th i).k : Nat) q3, .int ((tA th i).r : Nat) q4]) (n := 0) hV (.inl (.head _)) ?_
   walk_at"go"
   (refine qK1.n _ _ ?_; (try clear qK1 K1))
   refine ob_ex (l' := (ab, lst vab 0) :: (I, oI) :: (d, od) :: (c.L + 1, oT) :: L) (.drop (.drop .rfl)) ?_
   (refine stq hV ?_; intro K1 qK1; walk_at"go")
   refine o_acomp (ks := [Str.ofString "one"]) (gt := []) (fr := [Str.ofString "things"]) hV ?_ (clos_cs hV (by rw [hcs]; kernel_rfl)) (by kernel_rfl) rfl ?_
   ·rw [he]; kernel_rfl
   walk_at"go"
   refine comp_src (ks := [Str.ofString "one"]) (gt := []) (fr := [Str.ofString "things"]) hV hz (src_list (Vw.hh' hV hz) ab vab) (by kernel_rfl) (by lia) (by lia) (mk_list' (.inl (by repeat constructor))) (fun j m' l' ys => Ints ys (il (((abv (pT th) i).take j).filter (gid th))) ∧ l' = (ab, lst vab 0) :: (I, oI) :: (d, od) :: (c.L + 1, oT) :: L ∧ ∃ o, m' = ([("one", o)] : Loc)) ⟨.nil, rfl, _, rfl⟩ (fun g p l h => by obtain ⟨k, h⟩ := h; exact ⟨k, h.cons⟩) ?_ ?_ ?_
   ·(rintro j m' l' ys g _ hJq; (refine e0_3 hJq ?_; clear hJq; intro _ hE1 _; subst hE1))
    exact ⟨_, by exact .inl (by repeat constructor)⟩
   ·intro c0' c' hV' e1 hz' en hgt' hcs' hst' hX' j v m' l' ys I2 oI2 D k hj hv hJ KA KS hKA hKS
    (refine hideG ?_; intro P0 hP0; obtain ⟨hys, rfl, o, rfl⟩ := hJ; refine hP0 ?_; clear hP0 P0)
    have hV := hV'
    have hgt := hgt'
    (refine e2_3 (hva j v hv) ?_; rintro u tu hu hu8 rfl)
    have hf := hfs (gid th) j u hu
    have hcs2 : c'.cs = [(Str.ofString "things", c.L + 1)] := by rw [hcs']; unfold csOf; rw [hcs]; kernel_rfl
    (refine e3_3 (hAt u hu8) ?_; intro a vs kk ha hga hia)
    (refine e1_1 (hia.get 3 ((tA th u).r : Int) rfl) ?_; intro tk htk)
    simp only [vCT]
    walk_at"go"
    refine o_cel hV (by rw [hcs2]; repeat constructor) (.inl (by repeat constructor)) hT' ?_
    walk_at"go"
    refine o_lst (.inr (hst' _ _ hTa)) (by lia) (by lia) (v := .ref a) (by rw [List.getElem?_map, Int.toNat_natCast, ha]; rfl) ?_
    walk_at"go"
    refine o_lst (.inr (hst' _ _ hga)) (by decide) (by decide) htk ?_
    walk_at"go"
    constructor
    ·intro h0
     have h0' : gid th u = true := by unfold gid; simp at h0 ⊢; lia
     rw [if_pos h0'] at hf
     refine hKA _ _ _ _ _ (.rfl) ⟨?_, rfl, _, rfl⟩
     rw [hf]; unfold il; rw [List.map_append]; exact hys.snoc _ _
    ·intro h0
     have h0' : ¬ gid th u = true := by unfold gid; simp at h0 ⊢; lia
     rw [if_neg h0', List.append_nil] at hf
     refine hKS _ _ _ _ (.rfl) ⟨?_, rfl, _, rfl⟩
     rw [hf]; exact hys
   (rintro DS m' l' ys kS hJq; (refine e0_3 hJq ?_; clear hJq; intro hys hE1 _; subst hE1))
   rw [hvl2, List.take_of_length_le (Nat.le_refl _)] at hys
   have hyl : ys.length = (sets th i).length := by rw [hys.len]; unfold sets il; simp
   have hsl : (sets th i).length ≤ 10 := by unfold sets; have := List.length_filter_le (gid th) (abv (pT th) i); lia
   walk_at"go"
   (refine qK1.n _ _ ?_; (try clear qK1 K1))
   (refine stIf hV ?_; intro K1 qK1 KT1 qI1; walk_at"go")
   have tail : ∀ (tm rg : Nat) (tt tr : Tok) (o7 : Option Value) (ex : Led), tm = teamD th i → rg = rgtD th i → K1 .next [("parents", some (.ref aP)), ("due", some (.ref d)), ("place", some (.int (i : Nat) t)), ("ups", some (.ref r)), ("above", some (.ref ab)), ("team", some (.int (tm : Nat) tt)), ("kind", some (.int ((tA th i).k : Nat) q3)), ("rights", some (.int (rg : Nat) tr)), ("setters", o7), ("path", o8)]
     (ex ++ (ab, lst vab 0) :: (I, oI) :: (d, od) :: (c.L + 1, oT) :: L) := by
    intro tm rg tt tr o7 ex htm hrg
    refine qK1.n _ _ ?_
    refine ob_ex (l' := (ab, lst vab 0) :: (I, oI) :: (d, od) :: (c.L + 1, oT) :: L) (R := ex) (Ex.app) ?_
    (refine stq hV ?_; intro K1 qK1; walk_at"go")
    refine o_bm hV "str.join" (fun pl Q E s _ h => GM.join h) ?_
    walk_at"go"
    refine o_comp (ks := [Str.ofString "one"]) (gt := []) (fr := []) hV (clos_cs hV (by kernel_rfl)) (by kernel_rfl) ?_
    walk_at"go"
    rename_i dp
    refine o_addl (.inl (by repeat constructor)) (.inl (by repeat constructor)) (by rw [sizeLine_eq]; simp; lia) fun dq => ?_
    walk_at"go"
    refine o_lsl (.inl (by repeat constructor)) (.inl (by repeat constructor)) (.int _ _) .none .none (by simp) (by rw [sizeLine_eq]; simp; lia) fun ds => ?_
    rw [slice1]
    have hq : Ints ((vab ++ [Value.int ((i : Nat) : Int) t]).drop 1) (il (abv (pT th) i ++ [i]).tail) := by
     have h1 := (hab.snoc ((i : Nat) : Int) t).drop 1
     unfold il at h1 ⊢
     rw [← List.drop_one, List.map_drop, List.map_append]
     exact h1
    have hql : ((vab ++ [Value.int ((i : Nat) : Int) t]).drop 1).length = (abv (pT th) i ++ [i]).tail.length := by rw [hq.len]; simp [il]
    have hqz : (abv (pT th) i ++ [i]).tail.length ≤ 10 := by simp; lia
    have hqp : ∀ u ∈ (abv (pT th) i ++ [i]).tail, 1 ≤ u ∧ u ≤ 8 := fun u hu => by
     refine ⟨?_, ?_⟩
     ·rw [segs_eq, List.mem_reverse] at hu
      have := ups_pos (pT th) 9 i u hu
      lia
     ·rcases List.mem_append.mp (List.mem_of_mem_tail hu) with h | h
      ·exact habs u h
      ·have : u = i := by simpa using h
       lia
    show ObCo c _ _ _ _ _ _ _ _ _ _ ((ds, lst ((vab ++ [Value.int ((i : Nat) : Int) t]).drop 1) 0) :: _)
    generalize hvq : (vab ++ [Value.int ((i : Nat) : Int) t]).drop 1 = vq at *
    refine comp_src (ks := [Str.ofString "one"]) (gt := []) (fr := []) hV hz (src_list (Vw.hh' hV hz) ds vq) (by kernel_rfl) (by lia) (by lia) (mk_list' (.inl (.head _))) (fun j m' l' ys => StrsAre ys (((abv (pT th) i ++ [i]).tail.take j).map seg) ∧ l' = (ds, lst vq 0) :: _ ∧ ∃ o, m' = ([("one", o)] : Loc)) ⟨.nil, rfl, _, rfl⟩ (fun g p l h => by obtain ⟨k, h⟩ := h; exact ⟨k, h.cons⟩) ?_ ?_ ?_
    ·(rintro j m' l' ys g _ hJq; (refine e0_3 hJq ?_; clear hJq; intro _ hE1 _; subst hE1))
     exact ⟨_, .inl (.head _)⟩
    ·intro c0' c' hV' e1 hz' en hgt' hcs' hst' hX' j v m' l' ys I2 oI2 D k hj hv hJ KA KS hKA hKS
     (refine hideG ?_; intro P0 hP0; obtain ⟨hys, rfl, o, rfl⟩ := hJ; refine hP0 ?_; clear hP0 P0)
     have hV := hV'
     have hgt := hgt'
     have hjl : j < (abv (pT th) i ++ [i]).tail.length := by lia
     obtain ⟨tu, htu⟩ := hq.get j (((abv (pT th) i ++ [i]).tail[j] : Nat) : Int) (by unfold il; rw [List.getElem?_map, List.getElem?_eq_getElem hjl]; rfl)
     rw [htu] at hv
     cases hv
     have hu := hqp _ (List.getElem_mem hjl)
     have htk := tk_snoc (List.getElem?_eq_getElem hjl)
     generalize (abv (pT th) i ++ [i]).tail[j] = u at *
     simp only [vCT]
     walk_at"go"
     refine ⟨charok hu.1 hu.2, ?_⟩
     walk_at"go"
     refine ⟨by rw [len_item]; decide, fun t8 => ?_⟩
     refine hKA _ _ _ _ _ (.rfl) ⟨?_, rfl, _, rfl⟩
     rw [htk, List.map_append]
     exact strs_snoc hys _ _
    (rintro DP m' l' ys kP hJq; (refine e0_3 hJq ?_; clear hJq; intro hys hE1 _; subst hE1))
    rw [hql, List.take_of_length_le (Nat.le_refl _)] at hys
    walk_at"go"
    refine o_join (.inl (.head _)) hys ?_ fun t8 => ?_
    ·have e0 : (Str.ofString "").length = 0 := by decide
     rw [e0]
     have h2 : ∀ zs : List Nat, ((zs.map seg).map (·.length)).sum = 2 * zs.length := by
      intro zs
      induction zs with
      | nil => rfl
      | cons z zs ih =>
       have : (seg z).length = 2 := by unfold seg; rw [strLen_append, len_item]; decide +kernel
       rw [List.map_cons, List.map_cons, List.sum_cons, ih, this, List.length_cons]; lia
     rw [h2]; lia
    walk_at"go"
    (refine qK1.n _ _ ?_; (try clear qK1 K1))
    refine ob_ex (l' := (I, oI) :: (d, od) :: (c.L + 1, oT) :: L) (.drop (.drop (.drop (.drop (.drop (.drop .rfl)))))) ?_
    (refine stl hV ?_; walk_at"go")
    refine o_spec hV (LROW ((tA th i).k : Nat) (rg : Nat) (by have := (tA_ok h9 hO (i := i) (by lia)).2.2.1; lia)) (le_n hn rfl) (fun _ _ _ => trivial) ?_
    (rintro _ _ hJq; (refine e0_2 hJq ?_; clear hJq; rintro ⟨t9, rfl⟩ rfl))
    walk_at"go"
    rename_i dz
    have hnk : ((i : Nat) : Int) ∉ kvs.map (·.1) := by
     rw [hDu.keys]
     intro q
     have := mem_il.mp q
     unfold dueN at this
     rw [List.mem_filter, List.mem_range] at this
     lia
    refine o_dset hV (by repeat constructor) hD ?_ fun od' hD' => ⟨_, by repeat constructor, ?_⟩
    ·have := congrArg List.length hDu.keys
     simp [il] at this
     have h2 : (dueN th i).length ≤ i := by unfold dueN; exact Nat.le_trans (List.length_filter_le _ _) (by simp)
     lia
    have hst : stored kvs ((i : Nat) : Int) (.ref dz) = kvs ++ [(((i : Nat) : Int), .ref dz)] := by
     unfold stored
     rw [if_neg]
     simp only [List.any_eq_true, decide_eq_true_eq, not_exists, not_and]
     intro y hy e
     exact hnk (by rw [← e]; exact List.mem_map_of_mem (f := (·.1)) hy)
    rw [hst] at hD'
    rw [hok, if_pos rfl] at hdn
    subst htm hrg
    refine qK.n _ _ (stn (lpk (l' := (I, oI) :: (d, od') :: (c.L + 1, oT) :: (dz, _) :: L) (R := []) (.take (.there .here) (.take (.there .here) (.take (.there .here) .rfl))) rfl (fun _ f0 => f0 od' (kvs ++ [(((i : Nat) : Int), .ref dz)]) ((dz, _) :: L) _ _ _ _ _ _ _ _ hD' ?_)))
    rw [hdn]
    exact .snoc hDu ⟨_, _, _, 0, rfl⟩
   refine o_trl (.inl (.head _)) (by lia) ?_
   have hse : ys.isEmpty = (sets th i).isEmpty := by rw [Bool.eq_iff_iff, List.isEmpty_iff_length_eq_zero, List.isEmpty_iff_length_eq_zero, hyl]
   cases hy : ys.isEmpty with
   | true =>
    rw [hy] at hse
    refine qI1.f _ _ (stn ?_)
    refine tail _ _ _ _ _ [_] ?_ ?_
    ·unfold teamD; rw [List.isEmpty_iff.mp hse.symm]
    ·unfold rgtD; rw [← hse]; rfl
   | false =>
    rw [hy] at hse
    refine qI1.t _ _ ?_
    obtain ⟨u0, us0, hs0⟩ : ∃ u0 us0, sets th i = u0 :: us0 := by
     cases h : sets th i with
     | nil => rw [h] at hse; cases hse
     | cons a b => exact ⟨a, b, rfl⟩
    have hu8 : u0 ≤ 8 := habs u0 (by have : u0 ∈ sets th i := by rw [hs0]; exact .head _
                                     unfold sets at this; exact (List.mem_filter.mp this).1)
    obtain ⟨tu0, htu0⟩ := hys.get 0 ((u0 : Nat) : Int) (by show (il (sets th i))[0]? = _; rw [hs0]; rfl)
    (refine e3_3 (hAt u0 hu8) ?_; intro a2 vs2 kk2 ha2 hga2 hia2)
    (refine e1_1 (hia2.get 1 ((tA th u0).t : Int) rfl) ?_; intro tk2 htk2)
    (refine stq hV ?_; intro K2 qK2; walk_at"go")
    refine o_cel hV (by rw [hcs]; repeat constructor) (.inl (by repeat constructor)) hT' ?_
    walk_at"go"
    refine o_lst (.inl (.head _)) (by decide) (by decide) htu0 ?_
    walk_at"go"
    refine o_lst (.inr hTa) (by lia) (by lia) (v := .ref a2) (by rw [List.getElem?_map, Int.toNat_natCast, ha2]; rfl) ?_
    walk_at"go"
    refine o_lst (.inr hga2) (by decide) (by decide) htk2 ?_
    walk_at"go"
    (refine qK2.n _ _ ?_; (try clear qK2 K2))
    have htm : (tA th u0).t = teamD th i := by unfold teamD; rw [hs0]
    (refine stIf hV ?_; intro K2 qK2 KT2 qI2; walk_at"go")
    cases hkd : isDir th i with
    | true =>
     have hk4 : (tA th i).k = 4 := by unfold isDir at hkd; simpa using hkd
     refine kbq (show (((tA th i).k : Int) == 4) = true from by rw [hk4]; rfl) (qI2.t _ _ ?_)
     (refine stl hV ?_; walk_at"go")
     have hr4 := (tA_ok h9 hO (i := i) (by lia)).2.2.2.1
     refine qK2.n _ _ (stn ?_)
     rw [show ((tA th i).r : Int) + 1024 * (1 - (tA th i).r / 1024 % 2) = (((tA th i).r + 1024 * (1 - (tA th i).r / 1024 % 2) : Nat) : Int) by lia]
     refine tail _ _ _ _ _ [_] htm ?_
     unfold rgtD; rw [← hse, hkd]; rfl
    | false =>
     refine kbq (show (((tA th i).k : Int) == 4) = false from by unfold isDir at hkd; simp at hkd ⊢; lia) (qI2.f _ _ (stn (qK2.n _ _ (stn ?_))))
     refine tail _ _ _ _ _ [_] htm ?_
     unfold rgtD; rw [← hse, hkd]; rfl
 ·(rintro m l hJq; refine Lz.el hJq ?_; clear hJq; rintro od kvs L o1 o2 o3 o4 o5 o6 o7 o8 hD hDu)
  refine stn (qK.n _ _ ?_)
  (refine stl hV ?_; walk_at"go")
  exact ⟨_, _, .take .here (.drop .rfl), d, od, kvs, L, rfl, rfl, hD, hDu⟩
end
section
section
variable {w : World} {t : Tok}
theorem IFMT (x : Int) : Spec w 1 35 [.int x t] (fun _ => True) (fun v l' => (∃ t, v = .int (Builtin.bitAnd x 61440) t) ∧ l' = []) := by
 refine spec_vc [("mode", .int x t)] [] fi_S_IFMT_ok rfl (by kernel_rfl) (by kernel_rfl) (by kernel_rfl) ?_
 intro c0 c hw hz hV hn hgt hX hp
 dsimp only [fi_S_IFMT] at hgt
 (refine stq hV ?_; intro K qK; walk_at"go")
 exact qK.r _ _ _ (.all ⟨⟨_, rfl⟩, rfl⟩)
theorem IMODE (x : Int) : Spec w 1 28 [.int x t] (fun _ => True) (fun v l' => (∃ t, v = .int (Builtin.bitAnd x 4095) t) ∧ l' = []) := by
 refine spec_vc [("mode", .int x t)] [] fi_S_IMODE_ok rfl (by kernel_rfl) (by kernel_rfl) (by kernel_rfl) ?_
 intro c0 c hw hz hV hn hgt hX hp
 dsimp only [fi_S_IMODE] at hgt
 (refine stq hV ?_; intro K qK; walk_at"go")
 exact qK.r _ _ _ (.all ⟨⟨_, rfl⟩, rfl⟩)
theorem ISDIR (x : Int) : Spec w 2 42 [.int x t] (fun _ => True) (fun v l' => v = .bool (Builtin.bitAnd x 61440 == 16384) ∧ l' = []) := by
 refine spec_vc [("mode", .int x t)] [] fi_S_ISDIR_ok rfl (by kernel_rfl) (by kernel_rfl) (by kernel_rfl) ?_
 intro c0 c hw hz hV hn hgt hX hp
 dsimp only [fi_S_ISDIR] at hgt
 subst hw
 (refine stq hV ?_; intro K qK; walk_at"go")
 refine o_spec hV (IFMT x) (le_n hn rfl) (fun _ _ _ => trivial) ?_
 (rintro v l' hJq; (refine e0_2 hJq ?_; clear hJq; rintro ⟨t, rfl⟩ rfl))
 walk_at"go"
 exact qK.r _ _ _ (.all ⟨rfl, rfl⟩)
noncomputable def rowT : List (Addr × List (Addr × Int × Tok × Str × Tok)) := [(50, [(43, 40960, 220, Str.ofString "l", 255), (44, 49152, 222, Str.ofString "s", 256), (45, 32768, 216, Str.ofString "-", 257), (46, 24576, 214, Str.ofString "b", 258), (47, 16384, 210, Str.ofString "d", 259), (48, 8192, 212, Str.ofString "c", 260), (49, 4096, 218, Str.ofString "p", 261)]),
 (52, [(51, 256, 237, Str.ofString "r", 262)]),
 (54, [(53, 128, 239, Str.ofString "w", 263)]),
 (58, [(55, 2112, 264, Str.ofString "s", 265), (56, 2048, 231, Str.ofString "S", 266), (57, 64, 241, Str.ofString "x", 267)]),
 (60, [(59, 32, 243, Str.ofString "r", 268)]),
 (62, [(61, 16, 245, Str.ofString "w", 269)]),
 (66, [(63, 1032, 270, Str.ofString "s", 271), (64, 1024, 233, Str.ofString "S", 272), (65, 8, 247, Str.ofString "x", 273)]),
 (68, [(67, 4, 249, Str.ofString "r", 274)]),
 (70, [(69, 2, 251, Str.ofString "w", 275)]),
 (74, [(71, 513, 276, Str.ofString "t", 277), (72, 512, 235, Str.ofString "T", 278), (73, 1, 253, Str.ofString "x", 279)])]
noncomputable def fmT : List (List (Int × Str)) := rowT.map fun r => r.2.map fun p => (p.2.1, p.2.2.2.1)
noncomputable def pick (hit : Int → Bool) (d : Str) : List (Int × Str) → Str
 | [] => d
 | p :: r => if hit p.1 = true then p.2 else pick hit d r
noncomputable def hitAt (mode : Int) (i : Nat) (b : Int) : Bool := if i = 0 then Builtin.bitAnd mode 61440 == b else Builtin.bitAnd mode b == b
noncomputable def dflt (i : Nat) : Str := if i = 0 then Str.ofString "?" else Str.ofString "-"
noncomputable def fmAt (mode : Int) (i : Nat) : Str := pick (hitAt mode i) (dflt i) (fmT.getD i [])
noncomputable def fmRow (mode : Int) (n : Nat) : List Str := (List.range n).map (fmAt mode)
theorem rowT_ok (P : Params) : ∀ r ∈ rowT, (KF P).lookup r.1 = some (tup (r.2.map fun p => .ref p.1)) ∧ ∀ p ∈ r.2, (KF P).lookup p.1 = some (tup [.int p.2.1 p.2.2.1, .str p.2.2.2.1 p.2.2.2.2]) := by
 unfold rowT
 simp only [List.forall_mem_cons]
 repeat' apply And.intro
 all_goals first | kernel_rfl | (intro _ h; cases h)
theorem row75 (P : Params) : (KF P).lookup 75 = some (tup (rowT.map fun r => .ref r.1)) := by kernel_rfl
theorem pick_hit {hit : Int → Bool} {d : Str} : ∀ {bs : List (Int × Str)} {j : Nat} {p : Int × Str}, bs[j]? = some p → (∀ q ∈ bs.take j, hit q.1 = false) → hit p.1 = true → pick hit d bs = p.2
 | [], j, p, h, _, _ => by simp at h
 | q :: bs, 0, p, h, _, hp => by simp at h; subst h; simp [pick, hp]
 | q :: bs, j + 1, p, h, hn, hp => by
  have := hn q (by simp)
  simp only [pick, this, Bool.false_eq_true, if_false]
  exact pick_hit (by simpa using h) (fun q hq => hn q (by simp [hq])) hp
theorem pick_none {hit : Int → Bool} {d : Str} : ∀ {bs : List (Int × Str)}, (∀ q ∈ bs, hit q.1 = false) → pick hit d bs = d
 | [], _ => rfl
 | q :: bs, h => by simp only [pick, h q (by simp), Bool.false_eq_true, if_false]; exact pick_none fun q hq => h q (by simp [hq])
theorem fmRow_snoc (x : Int) (i : Nat) : fmRow x (i + 1) = fmRow x i ++ [fmAt x i] := by simp [fmRow, List.range_succ]
theorem take_snoc {α : Type} {bs : List α} {j : Nat} {p : α} (h : bs[j]? = some p) : bs.take (j + 1) = bs.take j ++ [p] := by
 rw [List.take_add_one, h]; rfl
theorem pick_len {hit : Int → Bool} {d : Str} (hd : d.length = 1) : ∀ {bs : List (Int × Str)}, (∀ q ∈ bs, q.2.length = 1) → (pick hit d bs).length = 1
 | [], _ => hd
 | q :: bs, h => by
  unfold pick
  split
  ·exact h q (by simp)
  ·exact pick_len hd fun q hq => h q (by simp [hq])
theorem fmT_one : ∀ r ∈ fmT, ∀ q ∈ r, q.2.length = 1 := by decide +kernel
theorem fmAt_len (x : Int) (i : Nat) : (fmAt x i).length = 1 := by
 unfold fmAt
 refine pick_len (by unfold dflt; split <;> decide) fun q hq => ?_
 rw [List.getD_eq_getElem?_getD] at hq
 cases h : fmT[i]? with
 | none => rw [h] at hq; cases hq
 | some r => rw [h] at hq; exact fmT_one r (List.mem_of_getElem? h) q hq
theorem sum_ones (f : Nat → Str) (hf : ∀ i, (f i).length = 1) : ∀ l : List Nat, ((l.map f).map (·.length)).sum = l.length
 | [] => rfl
 | a :: l => by simp only [List.map_cons, List.sum_cons, hf a, sum_ones f hf l, List.length_cons]; lia
theorem fmlen (x : Int) : ((fmRow x rowT.length).map (·.length)).sum + (fmRow x rowT.length).length * (Str.ofString "").length ≤ 16777216 := by
 have e : (Str.ofString "").length = 0 := by decide
 rw [e, fmRow, sum_ones _ (fmAt_len x), List.length_range, Nat.mul_zero]
 decide
theorem FMODE (x : Int) : Spec w 2 82 [.int x t] (fun _ => True) (fun v l' => (∃ t, v = .str (Txt.join (Str.ofString "") (fmRow x 10)) t) ∧ l' = []) := by
 refine spec_vc [("mode", .int x t)] ["perm", "index", "table", "bit", "char"] fi_filemode_ok rfl (by kernel_rfl) (by kernel_rfl) (by kernel_rfl) ?_
 intro c0 c hw hz hV hn hgt hX hp
 dsimp only [fi_filemode] at hgt
 subst hw
 have X : (KF c.w.params).In c.g := hV.C.X
 have h75 : c.g.get? 75 = some (tup (rowT.map fun r => .ref r.1)) := X _ _ (row75 _)
 (refine stq hV ?_; intro K qK; walk_at"go")
 (refine qK.n _ _ ?_; (try clear qK K); refine stq hV ?_; intro K qK; walk_at"go")
 refine o_enumT (Or.inr h75) fun e it => ?_
 let CC1 : Nat → (Loc → Led → Prop) → Prop := fun i P0 => ∀ a vs k t o1 o2 o3 o4, StrsAre vs (fmRow x i) → P0 ([("mode", some (.int x t)), ("perm", some (.ref a)), ("index", o1), ("table", o2), ("bit", o3), ("char", o4)]) ([(a, lst vs k)])
 let JJ1 : Nat → Loc → Led → Prop := fun i m l => Lz (CC1 i) m l
 refine vfor_enum hV hX _ .rfl JJ1 (fun _ f0 => f0 _ _ _ _ _ _ _ _ (.nil)) (fun i m l _ => .inr h75) ?_ ?_
 ·(rintro i v t m l T oT oe oi hi hv hJq; refine Lz.el hJq ?_; clear hJq; rintro a vs k t o1 o2 o3 o4 hs rfl)
  refine o_unT hV (.inl (by repeat constructor)) ?_
  walk_at"go"
  (refine stq hV ?_; intro K qK; walk_at"go")
  have fmsz : (fmRow x i).length ≤ sizeLine := by
   have h10 : i < 10 := hi
   simp only [fmRow, List.length_map, List.length_range]
   exact Nat.le_trans (Nat.le_of_lt h10) (by decide)
  rw [List.getElem?_map] at hv
  (refine e1_2 (Option.map_eq_some_iff.mp hv) ?_; rintro r hr rfl)
  have RT := rowT_ok c.w.params r (List.mem_of_getElem? hr)
  have hrow : c.g.get? r.1 = some (tup (r.2.map fun p => .ref p.1)) := X _ _ RT.1
  have hfm : fmT.getD i [] = r.2.map fun p => (p.2.1, p.2.2.2.1) := by rw [fmT, List.getD_eq_getElem?_getD, List.getElem?_map, hr]; rfl
  have fin : ∀ (y : Str) (t : Tok) m' l' R o1 o2 o3 o4 t', y = fmAt x i → Ex l' [(e, oe), (it, oi), (a, lst (vs ++ [.str y t]) (k + 1))] R → m' = ([("mode", some (Value.int x t')), ("perm", some (.ref a)), ("index", o1), ("table", o2), ("bit", o3), ("char", o4)] : Loc) → K .next m' l' := by
   rintro y t m' l' R o1 o2 o3 o4 t' rfl hex rfl
   refine qK.n _ _ (stn (Drp.mk _ _ hex ⟨_, rfl, (fun _ f0 => f0 _ _ _ _ _ _ _ _ ?_)⟩))
   rw [fmRow_snoc]
   exact strs_snoc hs _ _
  refine vfor_tup hV hX _ (l₀ := [(e, oe), (it, oi), (a, lst vs k)]) (.take (by repeat constructor) (.take (by repeat constructor) (.take (by repeat constructor) .nil))) (fun j m l => (∀ q ∈ r.2.take j, hitAt x i q.2.1 = false) ∧ l = [(e, oe), (it, oi), (a, lst vs k)] ∧ ∃ t t' o3 o4, m = ([("mode", some (Value.int x t)), ("perm", some (.ref a)), ("index", some (.int i t')), ("table", some (.ref r.1)), ("bit", o3), ("char", o4)] : Loc)) ⟨by simp, rfl, _, _, _, _, rfl⟩ (fun j m l _ => .inr hrow) ?_ ?_
  ·(rintro j v m l I oI hj hv hJq; refine hideG ?_; intro P0 hP0; obtain ⟨hnh, rfl, t, t', o3, o4, rfl⟩ := hJq; refine hP0 ?_; clear hP0 P0)
   rw [List.getElem?_map] at hv
   (refine e1_2 (Option.map_eq_some_iff.mp hv) ?_; rintro p hp rfl)
   have hpr : c.g.get? p.1 = some (tup [.int p.2.1 p.2.2.1, .str p.2.2.2.1 p.2.2.2.2]) := X _ _ (RT.2 p (List.mem_of_getElem? hp))
   have hpf : (r.2.map fun p => (p.2.1, p.2.2.2.1))[j]? = some (p.2.1, p.2.2.2.1) := by rw [List.getElem?_map, hp]; rfl
   have hnf : ∀ q ∈ (r.2.map fun p => (p.2.1, p.2.2.2.1)).take j, hitAt x i q.1 = false := by
    intro q hq
    rw [← List.map_take] at hq
    (refine e1_2 (List.mem_map.mp hq) ?_; rintro z hz rfl)
    exact hnh z hz
   have hit1 : hitAt x i p.2.1 = true → p.2.2.2.1 = fmAt x i := fun h => by rw [fmAt, hfm, pick_hit hpf hnf h]
   have hit0 : hitAt x i p.2.1 = false → ∀ q ∈ r.2.take (j + 1), hitAt x i q.2.1 = false := by
    intro h q hq
    rw [take_snoc hp] at hq
    rcases List.mem_append.mp hq with hq | hq
    ·exact hnh q hq
    ·rw [List.mem_singleton.mp hq]; exact h
   walk_at"go"
   refine o_unT hV (Or.inr hpr) ?_
   walk_at"go"
   (refine ob_gen ?_; intro KK kk)
   (refine stl hV ?_; walk_at"go")
   constructor
   ·intro hi0
    (refine stl hV ?_; walk_at"go")
    refine o_spec hV (IFMT x) (le_n hn rfl) (fun _ _ _ => trivial) ?_
    (rintro _ _ hJq; (refine e0_2 hJq ?_; clear hJq; rintro ⟨t, rfl⟩ rfl))
    walk_at"go"
    have hi0' : i = 0 := by simpa using hi0
    constructor
    ·intro hb
     (refine stq hV ?_; intro K1 qK1; walk_at"go")
     refine o_append hV ⟨_, _, by exact .inl (by repeat constructor)⟩ ?_
     walk_at"go"
     refine ⟨_, _, _, by repeat constructor, ?_, ?_⟩
     ·rw [strs_len hs]; exact fmsz
     (refine qK1.n _ _ ?_; (try clear qK1 K1); refine stq hV ?_; intro K1 qK1; walk_at"go")
     exact qK1.b _ _ (kk _ _ _ (fin _ _ _ _ _ _ _ _ _ _ (hit1 (by simpa [hitAt, hi0'] using hb)) (.take (by repeat constructor) (.take (by repeat constructor) (.take (by repeat constructor) .nil))) rfl))
    ·intro hb
     refine stn (kk _ _ _ ⟨_, _, .rfl, _, rfl, hit0 (by simpa [hitAt, hi0'] using hb), rfl, _, _, _, _, rfl⟩)
   ·intro hi0
    (refine stl hV ?_; walk_at"go")
    have hi0' : i ≠ 0 := by simpa using hi0
    constructor
    ·intro hb
     (refine stq hV ?_; intro K1 qK1; walk_at"go")
     refine o_append hV ⟨_, _, by exact .inl (by repeat constructor)⟩ ?_
     walk_at"go"
     refine ⟨_, _, _, by repeat constructor, ?_, ?_⟩
     ·rw [strs_len hs]; exact fmsz
     (refine qK1.n _ _ ?_; (try clear qK1 K1); refine stq hV ?_; intro K1 qK1; walk_at"go")
     exact qK1.b _ _ (kk _ _ _ (fin _ _ _ _ _ _ _ _ _ _ (hit1 (by simpa [hitAt, hi0'] using hb)) (.take (by repeat constructor) (.take (by repeat constructor) (.take (by repeat constructor) .nil))) rfl))
    ·intro hb
     refine stn (kk _ _ _ ⟨_, _, .rfl, _, rfl, hit0 (by simpa [hitAt, hi0'] using hb), rfl, _, _, _, _, rfl⟩)
  ·(rintro m l hJq; refine hideG ?_; intro P0 hP0; obtain ⟨hnh, rfl, t, t', o3, o4, rfl⟩ := hJq; refine hP0 ?_; clear hP0 P0)
   have hall : fmAt x i = dflt i := by
    rw [fmAt, hfm]
    refine pick_none fun q hq => ?_
    (refine e1_2 (List.mem_map.mp hq) ?_; rintro z hz rfl)
    exact hnh z (by rw [List.take_of_length_le (by simp)]; exact hz)
   (refine stl hV ?_; walk_at"go")
   constructor
   ·intro hi0
    have hi0' : i = 0 := by simpa using hi0
    (refine stl hV ?_; walk_at"go")
    refine o_append hV ⟨_, _, by exact .inl (by repeat constructor)⟩ ?_
    walk_at"go"
    refine ⟨_, _, _, by repeat constructor, ?_, ?_⟩
    ·rw [strs_len hs]; exact fmsz
    exact fin _ _ _ _ _ _ _ _ _ _ (by rw [hall, dflt, if_pos hi0']) .rfl rfl
   ·intro hi0
    have hi0' : i ≠ 0 := by simpa using hi0
    (refine stl hV ?_; walk_at"go")
    refine o_append hV ⟨_, _, by exact .inl (by repeat constructor)⟩ ?_
    walk_at"go"
    refine ⟨_, _, _, by repeat constructor, ?_, ?_⟩
    ·rw [strs_len hs]; exact fmsz
    exact fin _ _ _ _ _ _ _ _ _ _ (by rw [hall, dflt, if_neg hi0']) .rfl rfl
 ·(rintro m l hJq; refine Lz.el hJq ?_; clear hJq; rintro a vs k t o1 o2 o3 o4 hs)
  refine stn ?_
  (refine qK.n _ _ ?_; (try clear qK K); refine stq hV ?_; intro K qK; walk_at"go")
  refine o_bm hV "str.join" (fun pl Q E s _ h => GM.join h) ?_
  walk_at"go"
  refine o_join (.inl (by repeat constructor)) hs ?_ ?_
  ·exact fmlen x
  ·intro t
   exact qK.r _ _ _ (.all ⟨⟨_, rfl⟩, rfl⟩)
end
end
section
theorem ba_nat (x m : Nat) : Builtin.bitAnd (x : Int) (m : Int) = ((x &&& m : Nat) : Int) := by
 rw [bitAnd_pp (by lia) (by lia)]; simp
theorem and_p2 (x j : Nat) : x &&& 2 ^ j = 2 ^ j * (x / 2 ^ j % 2) := by
 have ht := @Nat.testBit_eq_decide_div_mod_eq j x
 have h2 : x / 2 ^ j % 2 = 0 ∨ x / 2 ^ j % 2 = 1 := by lia
 rcases h2 with h | h <;> rw [h] at ht ⊢
 ·rw [Nat.mul_zero]
  apply Nat.eq_of_testBit_eq
  intro i
  rw [Nat.testBit_and, Nat.testBit_two_pow, Nat.zero_testBit]
  by_cases e : j = i
  ·subst e; rw [ht]; simp
  ·simp [e]
 ·rw [Nat.mul_one]
  apply Nat.eq_of_testBit_eq
  intro i
  rw [Nat.testBit_and, Nat.testBit_two_pow]
  by_cases e : j = i
  ·subst e; rw [ht]; simp
  ·simp [e]
theorem hit1 (x j : Nat) : (Builtin.bitAnd (x : Int) ((2 ^ j : Nat) : Int) == ((2 ^ j : Nat) : Int)) = (x / 2 ^ j % 2 == 1) := by
 rw [ba_nat, and_p2, Bool.eq_iff_iff, beq_iff_eq, beq_iff_eq]
 have h2 : x / 2 ^ j % 2 = 0 ∨ x / 2 ^ j % 2 = 1 := by lia
 have hp : 0 < 2 ^ j := Nat.pow_pos (by decide)
 constructor
 ·intro e
  have e := Int.ofNat.inj e
  rcases h2 with h | h
  ·rw [h, Nat.mul_zero] at e; lia
  ·exact h
 ·intro h; rw [h, Nat.mul_one]
theorem hit2 (x a b : Nat) (hab : ∀ u v, u < 2 → v < 2 → ((2 ^ a * u ||| 2 ^ b * v) = (2 ^ a ||| 2 ^ b) ↔ u = 1 ∧ v = 1)) : (Builtin.bitAnd (x : Int) ((2 ^ a ||| 2 ^ b : Nat) : Int) == ((2 ^ a ||| 2 ^ b : Nat) : Int)) = ((x / 2 ^ a % 2 == 1) && (x / 2 ^ b % 2 == 1)) := by
 rw [ba_nat, Nat.and_or_distrib_left, and_p2, and_p2, Bool.eq_iff_iff, beq_iff_eq, Bool.and_eq_true, beq_iff_eq, beq_iff_eq]
 have := hab (x / 2 ^ a % 2) (x / 2 ^ b % 2) (Nat.mod_lt _ (by decide)) (Nat.mod_lt _ (by decide))
 constructor
 ·intro h; exact this.mp (Int.ofNat.inj h)
 ·intro h; rw [this.mpr h]
theorem or_two {m n : Nat} (h : ∀ u < 2, ∀ v < 2, ((m * u ||| n * v) = (m ||| n) ↔ u = 1 ∧ v = 1)) : ∀ u v, u < 2 → v < 2 → ((m * u ||| n * v) = (m ||| n) ↔ u = 1 ∧ v = 1) := fun u v hu hv => h u hu v hv
theorem kind_and {k r : Nat} (hk : k < 16) (hr : r < 4096) : (k * 4096 + r) &&& 61440 = k * 4096 := by
 apply Nat.eq_of_testBit_eq
 intro j
 rw [Nat.testBit_and, show k * 4096 + r = 2 ^ 12 * k + r by lia, Nat.testBit_two_pow_mul_add k (by lia : r < 2 ^ 12), show (61440 : Nat) = 2 ^ 12 * 15 by decide, show k * 4096 = 2 ^ 12 * k by lia, Nat.testBit_two_pow_mul, Nat.testBit_two_pow_mul]
 by_cases h : j < 12
 ·simp [h, show ¬ 12 ≤ j by lia]
 ·simp only [h, if_false, show 12 ≤ j by lia, decide_true, Bool.true_and, ge_iff_le]
  have : k &&& 15 = k := by rw [show (15 : Nat) = 2 ^ 4 - 1 by decide]; exact Nat.and_two_pow_sub_one_of_lt_two_pow (by lia)
  rw [← Nat.testBit_and, this]
theorem low_and {k r : Nat} (hr : r < 4096) : (k * 4096 + r) &&& 4095 = r := by
 rw [show (4095 : Nat) = 2 ^ 12 - 1 by decide, Nat.and_two_pow_sub_one_eq_mod]; lia
noncomputable def cs (x : Str) : List Nat := x.cps.toList
theorem cs_inj {x y : Str} (h : cs x = cs y) : x = y := by
 cases x; cases y; simp [cs] at h; simp [h]
theorem cs_app (x y : Str) : cs (x ++ y) = cs x ++ cs y := by
 show (x.cps ++ y.cps).toList = _
 simp [cs]
theorem cs_fold (ps : List Str) : ∀ acc : Array Nat, (ps.foldl (fun acc p => acc ++ (Str.ofString "").cps ++ p.cps) acc).toList = acc.toList ++ (ps.map cs).flatten := by
 induction ps with
 | nil => simp
 | cons p ps ih =>
  intro acc
  rw [List.foldl_cons, ih]
  have : (Str.ofString "").cps = #[] := by decide
  rw [this]
  simp [cs]
theorem cs_join : ∀ ys : List Str, cs (Txt.join (Str.ofString "") ys) = (ys.map cs).flatten
 | [] => by decide
 | y :: ys => by
  show ((ys.foldl (fun acc p => acc ++ (Str.ofString "").cps ++ p.cps) y.cps)).toList = _
  rw [cs_fold]; rfl
theorem low_bit {k r j : Nat} (hj : j < 12) : (k * 4096 + r) / 2 ^ j % 2 = r / 2 ^ j % 2 := by
 have h12 : 4096 = 2 ^ j * 2 ^ (12 - j) := by rw [← Nat.pow_add, show j + (12 - j) = 12 by lia]
 obtain ⟨q, hq⟩ : ∃ q, 12 - j = q + 1 := ⟨11 - j, by lia⟩
 rw [h12, hq, Nat.pow_succ, show k * (2 ^ j * (2 ^ q * 2)) + r = r + 2 ^ j * (k * 2 ^ q * 2) by rw [Nat.add_comm]; congr 1; simp [Nat.mul_comm, Nat.mul_left_comm], Nat.add_mul_div_left _ _ (Nat.pow_pos (by decide)), Nat.add_mul_mod_self_right]
theorem fm_r (k r j : Nat) (i : Nat) (hi : i ≠ 0) (s : Str) (h : fmT.getD i [] = [(((2 ^ j : Nat) : Int), s)]) (hj : j < 12) : fmAt ((k * 4096 + r : Nat) : Int) i = if (r / 2 ^ j % 2 == 1) = true then s else Str.ofString "-" := by
 unfold fmAt dflt
 rw [h, if_neg hi]
 unfold pick pick hitAt
 rw [if_neg hi, hit1]
 have : (k * 4096 + r) / 2 ^ j % 2 = r / 2 ^ j % 2 := low_bit hj
 rw [this]
theorem fm_x (k r a b : Nat) (i : Nat) (hi : i ≠ 0) (s1 s2 s3 : Str) (h : fmT.getD i [] = [(((2 ^ a ||| 2 ^ b : Nat) : Int), s1), (((2 ^ a : Nat) : Int), s2), (((2 ^ b : Nat) : Int), s3)]) (ha : a < 12) (hb : b < 12) (hab : ∀ u v, u < 2 → v < 2 → ((2 ^ a * u ||| 2 ^ b * v) = (2 ^ a ||| 2 ^ b) ↔ u = 1 ∧ v = 1)) :
  fmAt ((k * 4096 + r : Nat) : Int) i = if (r / 2 ^ a % 2 == 1) = true then (if (r / 2 ^ b % 2 == 1) = true then s1 else s2) else (if (r / 2 ^ b % 2 == 1) = true then s3 else Str.ofString "-") := by
 unfold fmAt dflt
 rw [h, if_neg hi]
 have hh : ∀ b', hitAt ((k * 4096 + r : Nat) : Int) i b' = (Builtin.bitAnd ((k * 4096 + r : Nat) : Int) b' == b') := fun _ => if_neg hi
 simp only [pick, hh]
 rw [hit2 _ _ _ hab, hit1, hit1, low_bit ha, low_bit hb]
 cases (r / 2 ^ a % 2 == 1) <;> cases (r / 2 ^ b % 2 == 1) <;> rfl
theorem fm_k {k r : Nat} (hk : k = 4 ∨ k = 8 ∨ k = 10) (hr : r < 4096) : fmAt ((k * 4096 + r : Nat) : Int) 0 = kch k := by
 have : ∀ b, hitAt ((k * 4096 + r : Nat) : Int) 0 b = (((k * 4096 : Nat) : Int) == b) := by
  intro b
  unfold hitAt
  rw [if_pos rfl, show (61440 : Int) = ((61440 : Nat) : Int) from rfl, ba_nat, kind_and (by lia) hr]
 unfold fmAt
 rw [show hitAt ((k * 4096 + r : Nat) : Int) 0 = fun b => (((k * 4096 : Nat) : Int) == b) from funext this]
 rcases hk with rfl | rfl | rfl <;> decide +kernel
noncomputable def xch (t : Nat) (x s : Bool) : Str := Txt.item (tch t) ((if x then 1 else 0) + 2 * (if s then 1 else 0))
theorem row_x (t : Nat) (d h : Int) (x s : Bool) (hd : d % 2 = if x then 1 else 0) (hh : h = if s then 1 else 0) : Txt.item (tch t) (d % 2 + 2 * h) = xch t x s := by rw [hd, hh]; rfl
theorem q4 (q : Nat) : decide (3 < ((q : Int) % 8)) = (q / 4 % 2 == 1) := by rw [Bool.eq_iff_iff, decide_eq_true_eq, beq_iff_eq]; lia
theorem q2 (q : Nat) : ((q : Int) % 8 / 2 % 2 == 1) = (q / 2 % 2 == 1) := by rw [Bool.eq_iff_iff, beq_iff_eq, beq_iff_eq]; lia
theorem q1 (q : Nat) : (q : Int) % 8 % 2 = if (q % 2 == 1) = true then 1 else 0 := by simp only [beq_iff_eq]; split <;> lia
theorem b1 (q : Nat) : (q : Int) % 2 = if (q % 2 == 1) = true then 1 else 0 := by simp only [beq_iff_eq]; split <;> lia
theorem FMLAW {k r : Nat} (hk : k = 4 ∨ k = 8 ∨ k = 10) (hr : r < 4096) : Txt.join (Str.ofString "") (fmRow ((k * 4096 + r : Nat) : Int) 10) = rowUp k r 3 := by
 have e : fmRow ((k * 4096 + r : Nat) : Int) 10 = (List.range 10).map (fmAt ((k * 4096 + r : Nat) : Int)) := rfl
 have f0 := fm_k hk hr
 have f1 := fm_r k r 8 1 (by decide) (Str.ofString "r") rfl (by decide)
 have f2 := fm_r k r 7 2 (by decide) (Str.ofString "w") rfl (by decide)
 have f3 := fm_x k r 11 6 3 (by decide) (Str.ofString "s") (Str.ofString "S") (Str.ofString "x") rfl (by decide) (by decide) (or_two (by decide))
 have f4 := fm_r k r 5 4 (by decide) (Str.ofString "r") rfl (by decide)
 have f5 := fm_r k r 4 5 (by decide) (Str.ofString "w") rfl (by decide)
 have f6 := fm_x k r 10 3 6 (by decide) (Str.ofString "s") (Str.ofString "S") (Str.ofString "x") rfl (by decide) (by decide) (or_two (by decide))
 have f7 := fm_r k r 2 7 (by decide) (Str.ofString "r") rfl (by decide)
 have f8 := fm_r k r 1 8 (by decide) (Str.ofString "w") rfl (by decide)
 have f9 := fm_x k r 9 0 9 (by decide) (Str.ofString "t") (Str.ofString "T") (Str.ofString "x") rfl (by decide) (by decide) (or_two (by decide))
 generalize ((k * 4096 + r : Nat) : Int) = md at *
 apply cs_inj
 rw [cs_join, e, show (List.range 10) = [0, 1, 2, 3, 4, 5, 6, 7, 8, 9] from rfl]
 simp only [List.map_cons, List.map_nil, List.flatten_cons, List.flatten_nil, f0, f1, f2, f3, f4, f5, f6, f7, f8, f9]
 simp only [rowUp, cs_app]
 have c1 : (decide (3 < dg (r : Int) 0)) = (r / 2 ^ 8 % 2 == 1) := by have := q4 (r / 64); rw [Nat.div_div_eq_div_mul] at this; exact this
 have c2 : (dg (r : Int) 0 / 2 % 2 == 1) = (r / 2 ^ 7 % 2 == 1) := by have := q2 (r / 64); rw [Nat.div_div_eq_div_mul] at this; exact this
 have c4 : (decide (3 < dg (r : Int) 1)) = (r / 2 ^ 5 % 2 == 1) := by have := q4 (r / 8); rw [Nat.div_div_eq_div_mul] at this; exact this
 have c5 : (dg (r : Int) 1 / 2 % 2 == 1) = (r / 2 ^ 4 % 2 == 1) := by have := q2 (r / 8); rw [Nat.div_div_eq_div_mul] at this; exact this
 have c7 : (decide (3 < dg (r : Int) 2)) = (r / 2 ^ 2 % 2 == 1) := by have := q4 (r / 1); rw [Nat.div_div_eq_div_mul] at this; exact this
 have c8 : (dg (r : Int) 2 / 2 % 2 == 1) = (r / 2 ^ 1 % 2 == 1) := by have := q2 (r / 1); rw [Nat.div_div_eq_div_mul] at this; exact this
 have x3 := row_x 0 (dg r 0) (hb r 0) (r / 2 ^ 6 % 2 == 1) (r / 2 ^ 11 % 2 == 1) (by rw [show (2 : Nat) ^ 6 = 64 by decide]; show (r : Int) / 64 % 8 % 2 = _; exact q1 (r / 64)) (by rw [show (2 : Nat) ^ 11 = 2048 by decide]; show (r : Int) / 2048 % 2 = _; exact b1 (r / 2048))
 have x6 := row_x 1 (dg r 1) (hb r 1) (r / 2 ^ 3 % 2 == 1) (r / 2 ^ 10 % 2 == 1) (by rw [show (2 : Nat) ^ 3 = 8 by decide]; show (r : Int) / 8 % 8 % 2 = _; exact q1 (r / 8)) (by rw [show (2 : Nat) ^ 10 = 1024 by decide]; show (r : Int) / 1024 % 2 = _; exact b1 (r / 1024))
 have x9 := row_x 2 (dg r 2) (hb r 2) (r / 2 ^ 0 % 2 == 1) (r / 2 ^ 9 % 2 == 1) (by rw [show (2 : Nat) ^ 0 = 1 by decide]; show (r : Int) / 1 % 8 % 2 = _; exact q1 (r / 1)) (by rw [show (2 : Nat) ^ 9 = 512 by decide]; show (r : Int) / 512 % 2 = _; exact b1 (r / 512))
 rw [c1, c2, c4, c5, c7, c8, x3, x6, x9]
 have y3 : ∀ x s : Bool, xch 0 x s = if s = true then (if x = true then Str.ofString "s" else Str.ofString "S") else (if x = true then Str.ofString "x" else Str.ofString "-") := by decide +kernel
 have y6 : ∀ x s : Bool, xch 1 x s = if s = true then (if x = true then Str.ofString "s" else Str.ofString "S") else (if x = true then Str.ofString "x" else Str.ofString "-") := by decide +kernel
 have y9 : ∀ x s : Bool, xch 2 x s = if s = true then (if x = true then Str.ofString "t" else Str.ofString "T") else (if x = true then Str.ofString "x" else Str.ofString "-") := by decide +kernel
 rw [y3, y6, y9]
 simp only [List.append_assoc, List.append_nil]
end
section
theorem isdir_mode {k r : Nat} (hk : k < 16) (hr : r < 4096) : (Builtin.bitAnd ((k * 4096 + r : Nat) : Int) 61440 == 16384) = (k == 4) := by
 rw [show (61440 : Int) = ((61440 : Nat) : Int) from rfl, ba_nat, kind_and hk hr, Bool.eq_iff_iff, beq_iff_eq, beq_iff_eq]
 lia
theorem set_mode {k r : Nat} (hk : k < 16) (hr : r < 4096) : Builtin.bitAnd ((k * 4096 + r : Nat) : Int) 61440 + Builtin.bitOr (Builtin.bitAnd ((k * 4096 + r : Nat) : Int) 4095) 1024 = ((k * 4096 + (r + 1024 * (1 - r / 1024 % 2)) : Nat) : Int) := by
 rw [show (61440 : Int) = ((61440 : Nat) : Int) from rfl, show (4095 : Int) = ((4095 : Nat) : Int) from rfl, ba_nat, ba_nat, kind_and hk hr, low_and hr, bitOr_and, show (1024 : Int) = ((2 ^ 10 : Nat) : Int) from rfl, ba_nat, and_p2, show (2 : Nat) ^ 10 = 1024 by decide]
 lia
theorem cs_len (x : Str) : (cs x).length = x.length := by simp [cs, Str.length]
theorem item_at {x : Str} {i : Nat} (h : i < x.length) : cs (Txt.item x (i : Int)) = [((cs x)[i]?).getD 0] := by
 unfold Txt.item Txt.charAt seqIndex?
 have hi : ¬ (i : Int) < 0 := by lia
 simp only [hi, if_false]
 rw [if_pos (by simp only [Bool.and_eq_true, decide_eq_true_eq]; lia)]
 simp [cs]
theorem row_six (k r : Int) : Txt.item (rowUp k r 3) 6 = Txt.item (tch 1) (dg r 1 % 2 + 2 * hb r 1) := by
 apply cs_inj
 rw [show (6 : Int) = ((6 : Nat) : Int) from rfl, item_at (by rw [len_row]; decide)]
 have e : rowUp k r 3 = ((rowUp k r 1 ++ (if decide (3 < dg r 1) = true then Str.ofString "r" else Str.ofString "-") ++ (if (dg r 1 / 2 % 2 == 1) = true then Str.ofString "w" else Str.ofString "-") ++ Txt.item (tch 1) (dg r 1 % 2 + 2 * hb r 1))) ++ (if decide (3 < dg r 2) = true then Str.ofString "r" else Str.ofString "-") ++ (if (dg r 2 / 2 % 2 == 1) = true then Str.ofString "w" else Str.ofString "-") ++ Txt.item (tch 2) (dg r 2 % 2 + 2 * hb r 2) := rfl
 rw [e]
 simp only [cs_app]
 have l1 : (cs (rowUp k r 1)).length = 4 := by rw [cs_len, len_row]
 have l2 : (cs (if decide (3 < dg r 1) = true then Str.ofString "r" else Str.ofString "-")).length = 1 := by rw [cs_len, len_if len_r len_d]
 have l3 : (cs (if (dg r 1 / 2 % 2 == 1) = true then Str.ofString "w" else Str.ofString "-")).length = 1 := by rw [cs_len, len_if len_w len_d]
 have l4 : (cs (Txt.item (tch 1) (dg r 1 % 2 + 2 * hb r 1))).length = 1 := by rw [cs_len]; rfl
 generalize cs (rowUp k r 1) = A at *
 generalize cs (if decide (3 < dg r 1) = true then Str.ofString "r" else Str.ofString "-") = B at *
 generalize cs (if (dg r 1 / 2 % 2 == 1) = true then Str.ofString "w" else Str.ofString "-") = C at *
 generalize cs (Txt.item (tch 1) (dg r 1 % 2 + 2 * hb r 1)) = D at *
 match D, l4 with
 | [d], _ =>
  rw [List.getElem?_append_left (by simp; lia), List.getElem?_append_left (by simp; lia), List.getElem?_append_left (by simp; lia), List.getElem?_append_right (by simp; lia)]
  simp [l1, l2, l3]
theorem six_in (k : Int) (r : Nat) : ((Str.ofString "s" == Txt.item (rowUp k r 3) 6) || (Str.ofString "S" == Txt.item (rowUp k r 3) 6)) = (r / 1024 % 2 == 1) := by
 rw [row_six, row_x 1 (dg r 1) (hb r 1) (r / 8 % 2 == 1) (r / 1024 % 2 == 1) (by unfold dg pk; simp only [beq_iff_eq]; split <;> lia) (by unfold hb pk; simp only [beq_iff_eq]; split <;> lia)]
 generalize (r / 8 % 2 == 1) = a
 generalize (r / 1024 % 2 == 1) = b
 revert a b
 decide +kernel
noncomputable def cod (x : Str) : List Int := il (cs x)
theorem txt_cod (x : Str) : txt (cod x) = x := by
 apply cs_inj
 unfold txt cod il cs
 rw [List.map_map]
 show (List.map _ x.cps.toList).toArray.toList = _
 have : (Int.toNat ∘ Int.ofNat) = id := by funext i; rfl
 rw [this, List.map_id]
noncomputable def asc (x : Str) : Bool := (cs x).all (· < 128)
theorem asc_app {x y : Str} : asc (x ++ y) = (asc x && asc y) := by unfold asc; rw [cs_app, List.all_append]
theorem asc_if {p : Prop} [Decidable p] {a b : Str} (ha : asc a = true) (hb : asc b = true) : asc (if p then a else b) = true := by split <;> assumption
theorem asc_item {x : Str} (hx : asc x = true) (i : Int) : asc (Txt.item x i) = true := by
 unfold Txt.item asc cs
 simp only [List.all_cons, List.all_nil, Bool.and_true, decide_eq_true_eq]
 cases h : Txt.charAt x i with
 | none => decide
 | some c =>
  unfold Txt.charAt at h
  (refine e1_2 (Option.bind_eq_some_iff.mp h) ?_; intro j hj hc)
  have := List.all_eq_true.mp hx c (by unfold cs; exact Array.mem_toList_iff.mpr (Array.mem_of_getElem? hc))
  simpa using this
theorem asc_tch (t : Nat) : asc (tch t) = true := by
 match t with
 | 0 => decide +kernel
 | 1 => decide +kernel
 | n + 2 => show asc (Str.ofString "-xTt") = true; decide +kernel
theorem asc_row (k r : Int) : ∀ n, asc (rowUp k r n) = true
 | 0 => asc_item (by decide +kernel) _
 | n + 1 => by
  rw [rowUp, asc_app, asc_app, asc_app, asc_row k r n, asc_if (by decide +kernel) (by decide +kernel), asc_if (by decide +kernel) (by decide +kernel), asc_item (asc_tch n)]; rfl
theorem asc_seg (u : Nat) : asc (seg u) = true := by unfold seg; rw [asc_app, asc_item (by decide +kernel)]; decide +kernel
theorem asc_join {ys : List Str} (h : ∀ y ∈ ys, asc y = true) : asc (Txt.join (Str.ofString "") ys) = true := by
 unfold asc
 rw [cs_join, List.all_eq_true]
 intro c hc
 (refine e1_2 (List.mem_flatten.mp hc) ?_; intro l hl hcl)
 (refine e1_2 (List.mem_map.mp hl) ?_; rintro y hy rfl)
 exact List.all_eq_true.mp (h y hy) c hcl
theorem cod_lt {x : Str} (h : asc x = true) : ∀ n ∈ cod x, 0 ≤ n ∧ n < 256 := by
 intro n hn
 unfold cod il at hn
 (refine e1_2 (List.mem_map.mp hn) ?_; rintro c hc rfl)
 have := List.all_eq_true.mp h c hc
 simp at this
 exact ⟨Int.natCast_nonneg _, by show (c : Int) < 256; lia⟩
theorem cod_len (x : Str) : (cod x).length = x.length := by unfold cod il; rw [List.length_map, cs_len]
noncomputable def Rch (p : Nat → Nat) (n v : Nat) : Prop := (ups p n v).getLastD 0 = 0
theorem last_cons {x : Nat} {l : List Nat} (h : l ≠ []) : (x :: l).getLastD 0 = l.getLastD 0 := by
 rw [List.getLastD_eq_getLast?, List.getLastD_eq_getLast?, List.getLast?_cons, List.getLast?_eq_some_getLast h]; rfl
theorem Rch_succ {p : Nat → Nat} {n v : Nat} (h : v ≠ 0) : Rch p (n + 1) v ↔ Rch p n (p v) := by
 unfold Rch
 rw [ups, if_neg h, last_cons (ups_ne p n (p v))]
theorem ups_zero (p : Nat → Nat) : ∀ n, ups p n 0 = [0]
 | 0 => rfl
 | n + 1 => by rw [ups, if_pos rfl]
theorem ups_stab {p : Nat → Nat} : ∀ (n m v : Nat), Rch p n v → n ≤ m → ups p m v = ups p n v
 | 0, m, v, h, _ => by
  have : v = 0 := h
  subst this
  rw [ups_zero, ups_zero]
 | n + 1, m, v, h, hm => by
  by_cases h0 : v = 0
  ·subst h0; rw [ups_zero, ups_zero]
  ·obtain ⟨m, rfl⟩ : ∃ j, m = j + 1 := ⟨m - 1, by lia⟩
   rw [ups, ups, if_neg h0, if_neg h0, ups_stab n m (p v) ((Rch_succ h0).mp h) (by lia)]
theorem ups_step {p : Nat → Nat} {n v : Nat} (h0 : v ≠ 0) (h : Rch p n v) (hn : n ≤ 8) : ups p 9 v = v :: ups p 9 (p v) := by
 obtain ⟨n, rfl⟩ : ∃ j, n = j + 1 := by
  cases n with
  | zero => exact absurd h h0
  | succ n => exact ⟨n, rfl⟩
 have h1 := (Rch_succ h0).mp h
 rw [show (9 : Nat) = 8 + 1 from rfl, ups, if_neg h0, ups_stab n 8 (p v) h1 (by lia), ups_stab n (8 + 1) (p v) h1 (by lia)]
section
variable {th : List Th} {v : Nat}
theorem abv_zero (p : Nat → Nat) : abv p 0 = [] := by unfold abv; rw [ups_zero]; rfl
theorem sets_zero : sets th 0 = [] := by unfold sets; rw [abv_zero]; rfl
theorem okD_zero : okD th 0 = true := by unfold okD lastU; rw [abv_zero, ups_zero]; rfl
theorem path_zero : (drD th 0).path = Str.ofString "" := by
 show Txt.join (Str.ofString "") (segs (pT th) 0) = _
 unfold segs; rw [abv_zero]; decide +kernel
theorem abv_step (hs : ups (pT th) 9 v = v :: ups (pT th) 9 (pT th v)) : abv (pT th) v = abv (pT th) (pT th v) ++ [pT th v] := by
 rw [abv_eq]; unfold abv; rw [hs]; rfl
theorem okD_step (hs : ups (pT th) 9 v = v :: ups (pT th) 9 (pT th v)) : okD th v = (okD th (pT th v) && isDir th (pT th v)) := by
 unfold okD
 have : lastU (pT th) v = lastU (pT th) (pT th v) := by unfold lastU; rw [hs, last_cons (ups_ne _ _ _)]
 rw [this, abv_step hs, List.all_append, List.all_cons, List.all_nil, Bool.and_true, Bool.and_assoc]
theorem sets_step (hs : ups (pT th) 9 v = v :: ups (pT th) 9 (pT th v)) : sets th v = sets th (pT th v) ++ (if gid th (pT th v) then [pT th v] else []) := by
 unfold sets
 rw [abv_step hs, List.filter_append]
 congr 1
 cases h : gid th (pT th v) <;> simp [List.filter, h]
theorem path_step (hs : ups (pT th) 9 v = v :: ups (pT th) 9 (pT th v)) : (drD th v).path = (drD th (pT th v)).path ++ Str.ofString "/" ++ Txt.item (Str.ofString "abcdefgh") ((v : Int) - 1) := by
 show Txt.join (Str.ofString "") (segs (pT th) v) = Txt.join (Str.ofString "") (segs (pT th) (pT th v)) ++ _ ++ _
 apply cs_inj
 have : segs (pT th) v = segs (pT th) (pT th v) ++ [seg v] := by
  unfold segs
  rw [abv_step hs, List.tail_append_of_ne_nil (by simp), List.map_append]; rfl
 rw [cs_app, cs_app, cs_join, cs_join, this, List.map_append, List.flatten_append]
 simp [seg, cs_app]
theorem gid_up (hd : isDir th (pT th v) = true) (hs : ups (pT th) 9 v = v :: ups (pT th) 9 (pT th v)) : (rgtD th (pT th v) / 1024 % 2 == 1) = !(sets th v).isEmpty := by
 rw [sets_step hs]
 unfold rgtD
 cases h : (sets th (pT th v)).isEmpty with
 | true =>
  rw [if_pos rfl, List.isEmpty_iff.mp h, List.nil_append]
  show gid th (pT th v) = _
  cases gid th (pT th v) <;> rfl
 | false =>
  rw [if_neg (by simp), hd, if_pos rfl]
  have : ((tA th (pT th v)).r + 1024 * (1 - (tA th (pT th v)).r / 1024 % 2)) / 1024 % 2 = 1 := by lia
  rw [this]
  cases h2 : sets th (pT th v) with
  | nil => rw [h2] at h; cases h
  | cons a b => rfl
theorem team_up (hs : ups (pT th) 9 v = v :: ups (pT th) 9 (pT th v)) : teamD th v = if (sets th v).isEmpty then (tA th v).t else teamD th (pT th v) := by
 have h := sets_step hs
 cases h1 : sets th v with
 | nil => unfold teamD; rw [h1]; rfl
 | cons a b =>
  show _ = teamD th (pT th v)
  rw [h1] at h
  unfold teamD
  rw [h1]
  cases h2 : sets th (pT th v) with
  | nil =>
   rw [h2, List.nil_append] at h
   split at h
   ·have := List.cons.inj h; rw [this.1]
   ·cases h
  | cons c d =>
   rw [h2] at h
   have := List.cons.inj h
   rw [this.1]
end
noncomputable def rcD (th : List Th) (v : Nat) : Rc := ⟨cod (drD th v).row, cod (drD th v).path, teamD th v⟩
end
section
section
variable {K : List Nat} {np : Nat → Int} {sc : Nat → List Nat} {v : Nat}
theorem find_mk : ∀ {K : List Nat}, v ∈ K → (mkA K np sc).find? (fun z => z.1 = v) = some (v, np v, sc v)
 | k :: K, h => by
  unfold mkA
  rw [List.map_cons, List.find?_cons]
  by_cases e : k = v
  ·subst e; simp
  ·have : decide ((k, np k, sc k).1 = v) = false := decide_eq_false e
   rw [this]
   rcases List.mem_cons.mp h with h | h
   ·exact absurd h.symm e
   ·exact find_mk h
theorem npOf_mk (h : v ∈ K) : npOf (mkA K np sc) v = some (np v) := by unfold npOf; rw [find_mk h]; rfl
theorem scOf_mk (h : v ∈ K) : scOf (mkA K np sc) v = sc v := by unfold scOf; rw [find_mk h]; rfl
theorem out_mk : ∀ (rs : List Nat) (np : Nat → Int), outA (mkA K np sc) rs = mkA K (fun u => if u ∈ rs then -1 else np u) sc
 | [], np => by unfold outA; simp
 | r :: rs, np => by
  have ih := out_mk rs (fun u => if u = r then -1 else np u)
  unfold outA at ih ⊢
  rw [List.foldl_cons, np_mk, ih]
  refine mkA_congr (fun u _ => ?_) fun _ _ => rfl
  by_cases h1 : u ∈ rs <;> by_cases h2 : u = r <;> simp [h1, h2]
theorem steps_mk : ∀ (l : List Nat) (np : Nat → Int) (rs : List Nat), (∀ s ∈ l, s ∈ K ∧ np s = 1) → l.Nodup → l.foldl stepS (mkA K np sc, rs) = (mkA K (fun u => if u ∈ l then 0 else np u) sc, rs ++ l)
 | [], np, rs, _, _ => by simp
 | s :: l, np, rs, h, hn => by
  rw [List.nodup_cons] at hn
  have hs := h s (.head _)
  have e : stepS (mkA K np sc, rs) s = (mkA K (fun u => if u = s then np u - 1 else np u) sc, rs ++ [s]) := by
   unfold stepS
   rw [np_mk]
   show (_, if npOf (mkA K (fun u => if u = s then np u - 1 else np u) sc) s = some 0 then rs ++ [s] else rs) = _
   rw [npOf_mk hs.1, if_pos (by simp [hs.2])]
  rw [List.foldl_cons, e, steps_mk l _ _ (fun z hz => ⟨(h z (.tail _ hz)).1, by rw [if_neg (fun q : z = s => hn.1 (q ▸ hz))]; exact (h z (.tail _ hz)).2⟩) hn.2]
  refine Prod.ext (mkA_congr (fun u _ => ?_) fun _ _ => rfl) (by simp)
  by_cases h1 : u ∈ l
  ·simp [h1]
  ·by_cases h2 : u = s
   ·subst h2; simp [h1, hs.2]
   ·simp [h1, h2]
theorem done_mk {rs : List Nat} (hv : v ∈ K) (h : ∀ s ∈ sc v, s ∈ K ∧ s ≠ v ∧ np s = 1) (hn : (sc v).Nodup) : doneA (mkA K np sc, rs) v = (mkA K (fun u => if u ∈ sc v then 0 else if u = v then -2 else np u) sc, rs ++ sc v) := by
 unfold doneA
 rw [scOf_mk hv, np_mk, steps_mk (sc v) _ _ (fun s hs => ⟨(h s hs).1, by rw [if_neg (h s hs).2.1]; exact (h s hs).2.2⟩) hn]
end
theorem rdy0_mk {ns : List Nd} {K : List Nat} {np : Nat → Int} {sc : Nat → List Nat} (h : abs ns = mkA K np sc) : rdy0 ns = K.filter fun v => np v == 0 := by
 have e : rdy0 ns = ((abs ns).filter fun z => z.2.1 == 0).map (·.1) := by
  unfold rdy0 abs
  rw [List.filter_map, List.map_map]; rfl
 rw [e, h]
 unfold mkA
 rw [List.filter_map, List.map_map]
 exact List.map_id' _
theorem filter_one : ∀ {L : List Nat} {a : Nat}, L.Nodup → a ∈ L → L.filter (fun v => v == a) = [a]
 | x :: L, a, hn, hm => by
  rw [List.nodup_cons] at hn
  rw [List.filter_cons]
  by_cases e : x = a
  ·subst e
   rw [if_pos (by simp)]
   congr 1
   rw [List.filter_eq_nil_iff]
   intro y hy q
   exact hn.1 (by have : y = x := by simpa using q
                  rw [← this]; exact hy)
  ·rw [if_neg (by simpa using e)]
   rcases List.mem_cons.mp hm with h | h
   ·exact absurd h.symm e
   ·exact filter_one hn.2 h
theorem keyN_le {p : Nat → Nat} (hp8 : ∀ x, p x ≤ 8) {v : Nat} : v ∈ keyN p 8 ↔ v ≤ 8 := by
 rw [keyN_mem]
 constructor
 ·rintro (h | ⟨i, _, _, rfl⟩)
  ·exact h
  ·exact hp8 i
 ·exact .inl
theorem belN_nodup (p : Nat → Nat) (n u : Nat) : (belN p n u).Nodup := List.Nodup.sublist List.filter_sublist (List.nodup_range' (step := 1))
noncomputable def npM (th : List Th) (order waiting : List Nat) (v : Nat) : Int := if v ∈ order ∧ isDir th v = true then -2 else if v ∈ order ∨ v ∈ waiting then -1 else 1
structure MInv (th : List Th) (order waiting : List Nat) : Prop where
 nd : (order ++ waiting).Nodup
 le : ∀ v ∈ order ++ waiting, v ≤ 8
 z : 0 ∈ order ++ waiting
 up : ∀ v ∈ order ++ waiting, v ≠ 0 → pT th v ∈ order ∧ isDir th (pT th v) = true
 down : ∀ v, 1 ≤ v → v ≤ 8 → pT th v ∈ order → isDir th (pT th v) = true → v ∈ order ++ waiting
 ok : ∀ v ∈ order ++ waiting, okD th v = true
 rch : ∀ v ∈ waiting, ∃ n, n ≤ order.length ∧ Rch (pT th) n v
theorem nodup_le9 {l : List Nat} (hn : l.Nodup) (h : ∀ v ∈ l, v ≤ 8) : l.length ≤ 9 := by
 have := List.Nodup.length_le_of_subset hn (l₂ := List.range 9) fun v hv => by rw [List.mem_range]; have := h v hv; lia
 simpa using this
section
variable {th : List Th} {order waiting w' : List Nat} {v : Nat}
theorem MInv.start : MInv th [] [0] where
 nd := by simp
 le := by simp
 z := by simp
 up := by intro v hv h; simp at hv; exact absurd hv h
 down := by intro v _ _ h; cases h
 ok := by intro v hv; simp at hv; subst hv; exact okD_zero
 rch := by intro v hv; simp at hv; subst hv; exact ⟨0, Nat.le_refl _, rfl⟩
theorem MInv.perm (h : MInv th order waiting) (hp : waiting.Perm w') : MInv th order w' := by
 have hm : ∀ v, v ∈ order ++ w' ↔ v ∈ order ++ waiting := fun v => by rw [List.mem_append, List.mem_append, hp.mem_iff]
 exact ⟨((List.Perm.append_left order hp).nodup_iff).mp h.nd, fun v hv => h.le v ((hm v).mp hv), (hm 0).mpr h.z, fun v hv => h.up v ((hm v).mp hv), fun v a b c d => (hm v).mpr (h.down v a b c d), fun v hv => h.ok v ((hm v).mp hv), fun v hv => h.rch v (hp.mem_iff.mpr hv)⟩
theorem MInv.room (h : MInv th order (v :: w')) : order.length ≤ 8 := by
 have := nodup_le9 h.nd h.le
 simp at this; lia
theorem MInv.notin (h : MInv th order (v :: w')) : v ∉ order ∧ v ∉ w' := by
 have := h.nd
 rw [List.nodup_append] at this
 exact ⟨fun q => this.2.2 v q v (.head _) rfl, (List.nodup_cons.mp this.2.1).1⟩
theorem MInv.step (h : MInv th order (v :: w')) (h0 : v ≠ 0) : ups (pT th) 9 v = v :: ups (pT th) 9 (pT th v) := by
 (refine e1_2 (h.rch v (.head _)) ?_; intro n hn hr)
 exact ups_step h0 hr (by have := h.room; lia)
theorem MInv.fresh (h : MInv th order (v :: w')) {s : Nat} (h1 : 1 ≤ s) (hs : pT th s = v) : s ∉ order ++ v :: w' := fun q => by
 have := (h.up s q (by lia)).1
 rw [hs] at this
 exact h.notin.1 this
theorem mem_mv {x : Nat} : x ∈ order ++ [v] ++ w' ↔ x ∈ order ++ v :: w' := by simp
theorem MInv.leaf (h : MInv th order (v :: w')) (hd : isDir th v = false) : MInv th (order ++ [v]) w' where
 nd := by have := h.nd; simpa using this
 le := fun x hx => h.le x (mem_mv.mp hx)
 z := mem_mv.mpr h.z
 up := fun x hx h0 => by
  have := h.up x (mem_mv.mp hx) h0
  exact ⟨List.mem_append_left _ this.1, this.2⟩
 down := fun x a b c d => by
  rcases List.mem_append.mp c with c | c
  ·exact mem_mv.mpr (h.down x a b c d)
  ·have : pT th x = v := by simpa using c
   rw [this, hd] at d; cases d
 ok := fun x hx => h.ok x (mem_mv.mp hx)
 rch := fun x hx => by
  (refine e1_2 (h.rch x (.tail _ hx)) ?_; intro n hn hr)
  exact i1_2 n (by simp; lia) hr
theorem MInv.dir (h : MInv th order (v :: w')) (hd : isDir th v = true) : MInv th (order ++ [v]) (w' ++ belN (pT th) 8 v) where
 nd := by
  have e : order ++ [v] ++ (w' ++ belN (pT th) 8 v) = (order ++ v :: w') ++ belN (pT th) 8 v := by simp
  rw [e, List.nodup_append]
  refine ⟨h.nd, belN_nodup _ _ _, fun a ha b hb q => ?_⟩
  (refine e0_3 (mem_belN.mp hb) ?_; intro b1 b2 b3)
  subst q
  exact h.fresh b1 b3 ha
 le := fun x hx => by
  rw [← List.append_assoc] at hx
  rcases List.mem_append.mp hx with hx | hx
  ·exact h.le x (mem_mv.mp hx)
  ·exact (mem_belN.mp hx).2.1
 z := by rw [← List.append_assoc]; exact List.mem_append_left _ (mem_mv.mpr h.z)
 up := fun x hx h0 => by
  rw [← List.append_assoc] at hx
  rcases List.mem_append.mp hx with hx | hx
  ·have := h.up x (mem_mv.mp hx) h0
   exact ⟨List.mem_append_left _ this.1, this.2⟩
  ·rw [(mem_belN.mp hx).2.2]
   exact ⟨by simp, hd⟩
 down := fun x a b c d => by
  rw [← List.append_assoc]
  rcases List.mem_append.mp c with c | c
  ·exact List.mem_append_left _ (mem_mv.mpr (h.down x a b c d))
  ·have : pT th x = v := by simpa using c
   exact List.mem_append_right _ (mem_belN.mpr ⟨a, b, this⟩)
 ok := fun x hx => by
  rw [← List.append_assoc] at hx
  rcases List.mem_append.mp hx with hx | hx
  ·exact h.ok x (mem_mv.mp hx)
  ·(refine e0_3 (mem_belN.mp hx) ?_; intro b1 b2 b3)
   (refine e1_2 (h.rch v (.head _)) ?_; intro n hn hr)
   have hlen : order.length + 2 ≤ 9 := by
    have h2 : (order ++ [v] ++ [x]).Nodup := by
     rw [List.nodup_append]
     have hnd := h.nd
     have : (order ++ [v]).Sublist (order ++ v :: w') := by simp
     refine ⟨hnd.sublist this, by simp, fun a ha b hb q => ?_⟩
     have : b = x := by simpa using hb
     subst this; subst q
     exact h.fresh b1 b3 (mem_mv.mp (List.mem_append_left _ ha))
    have := nodup_le9 h2 fun y hy => by
     rcases List.mem_append.mp hy with hy | hy
     ·exact h.le y (mem_mv.mp (List.mem_append_left _ hy))
     ·have : y = x := by simpa using hy
      lia
    simpa using this
   have hx0 : x ≠ 0 := by lia
   have hst := ups_step (p := pT th) (n := n + 1) hx0 ((Rch_succ hx0).mpr (by rw [b3]; exact hr)) (by lia)
   rw [okD_step hst, b3, hd, h.ok v (by simp)]; rfl
 rch := fun x hx => by
  rcases List.mem_append.mp hx with hx | hx
  ·(refine e1_2 (h.rch x (.tail _ hx)) ?_; intro n hn hr)
   exact i1_2 n (by simp; lia) hr
  ·(refine e0_3 (mem_belN.mp hx) ?_; intro b1 b2 b3)
   (refine e1_2 (h.rch v (.head _)) ?_; intro n hn hr)
   exact i1_2 (n + 1) (by simp; lia) ((Rch_succ (by lia)).mpr (by rw [b3]; exact hr))
theorem MInv.all (h : MInv th order []) (h0 : isDir th 0 = true) (hp8 : ∀ x, pT th x ≤ 8) : ∀ v, v ∈ order ↔ v ≤ 8 ∧ okD th v = true := by
 intro v
 constructor
 ·intro hv
  exact ⟨h.le v (by simpa using hv), h.ok v (by simpa using hv)⟩
 ·(rintro hJq; (refine e0_2 hJq ?_; clear hJq; intro h8 hok))
  unfold okD at hok
  rw [Bool.and_eq_true, beq_iff_eq] at hok
  have go : ∀ n v, v ≤ 8 → Rch (pT th) n v → (∀ x ∈ (ups (pT th) n v).tail, isDir th x = true) → v ∈ order := by
   intro n
   induction n with
   | zero =>
    intro v _ hr _
    have : v = 0 := hr
    subst this
    simpa using h.z
   | succ n ih =>
    intro v h8 hr ht
    by_cases hz : v = 0
    ·subst hz; simpa using h.z
    ·rw [ups, if_neg hz] at ht
     have hr' := (Rch_succ hz).mp hr
     have hh : pT th v ∈ ups (pT th) n (pT th v) := by cases n <;> (rw [ups]; first | simp | (split <;> simp))
     have hd := ht (pT th v) hh
     have := ih (pT th v) (hp8 v) hr' fun x hx => ht x (List.mem_of_mem_tail hx)
     have := h.down v (by lia) h8 this hd
     simpa using this
  refine go 9 v h8 hok.1 fun x hx => ?_
  have := List.all_eq_true.mp hok.2 x
  unfold abv at this
  exact this (List.mem_reverse.mpr hx)
end
end
section
theorem Fx.un4 {c : Fx} (hV : c.V) (hm : c.Fn) : c.A'.units + 4 < cLine := by
 have := hV.C.uni
 rw [hm.A']
 show c.A.units + 3 + 4 < cLine
 lia
noncomputable def Eqv (c : Fx) (l : Led) (n : Nat) (u v : Value) : Prop := ∀ (A : Around) (m : Loc) (s : Shared), c.S m l s → A.units + n < cLine → SeqAt.EqAt A s u v true
section
variable {c : Fx} {m : Loc} {l : Led} {K : KV Value} {a b : Addr} {vs us : List Value} {n k k' : Nat} {x y : Str} {t u : Tok} {i j : Int} {xs ys : List Int}
theorem Eqv.int (h : i = j) : Eqv c l n (.int i t) (.int j u) := fun A m s S hu => by
 have := SeqAt.EqAt.int_int (A := A) (s := s) i t j u
 rw [h, beq_self_eq_true] at this; exact h ▸ this
theorem Eqv.str (h : x = y) : Eqv c l n (.str x t) (.str y u) := fun A m s S hu => by
 have := SeqAt.EqAt.str_str (A := A) (s := s) x t y u
 rw [h, beq_self_eq_true] at this; exact h ▸ this
theorem Eqv.same {v : Value} : Eqv c l n v v := fun A m s S hu => SeqAt.EqAt.same v
theorem bInts_inj {b d : Array UInt8} (h : KBw.bInts b = KBw.bInts d) : b = d := by
 unfold KBw.bInts at h
 apply Array.toList_inj.mp
 refine List.map_inj_right (f := fun x : UInt8 => ((x.toNat : Nat) : Int)) (fun x y e => ?_) |>.mp h
 exact UInt8.toNat_inj.mp (Int.ofNat.inj e)
theorem Eqv.bytes {b d : Array UInt8} (h : b = d) : Eqv c l n (.bytes b t) (.bytes d u) := fun A m s S hu => by
 subst h
 intro prog w E Q hq
 unfold eqBool
 refine wpAny_holding ?_
 refine wpAny_ite_split (fun _ => wpAny_bind (wpAny_rule (wpAny_pure hq))) (fun _ => ?_)
 refine wpAny_bind (eq_bytes (b := b) (c := b) (t := t) (u := u) (wpAny_truthy_bool ?_))
 rw [beq_self_eq_true]; exact hq
theorem all_tt (n : Nat) : ((List.range n).all fun _ => true) = true := by simp [List.all_eq_true]
theorem in1_units (A : Around) : A.in1.units = A.units + 1 := rfl
theorem Eqv.list (ha : Rd c.g l a (lst vs k)) (hb : Rd c.g l b (lst us k')) (hl : vs.length = us.length) (h : ∀ (j : Nat) v w, vs[j]? = some v → us[j]? = some w → Eqv c l n v w) : Eqv c l (n + 1) (.ref a) (.ref b) := fun A m s S hu => by
 by_cases hab : a = b
 ·subst hab; exact SeqAt.EqAt.same _
 refine SeqAt.EqAt.of_refs hab ?_
 have := SeqAt.RcAt.lists (A := A) (s := s) (e := fun _ => true) (items := vs.toArray) (items2 := us.toArray) ⟨_, S.rd ha, rfl, _, rfl⟩ ⟨_, S.rd hb, rfl, _, rfl⟩ (by simpa using hl) (by lia) fun j h1 h2 =>
  h j _ _ (by simp at h1; simp [h1]) (by simp at h2; simp [h2]) A.in1 m s S (by rw [in1_units]; lia)
 rw [all_tt] at this; exact this
theorem ne_list (ha : Rd c.g l a (lst vs k)) (hb : Rd c.g l b (lst us k')) (hl : vs.length = us.length) (hu : c.A'.units + (n + 1) < cLine) (h : ∀ (j : Nat) v w, vs[j]? = some v → us[j]? = some w → Eqv c l n v w) (hK : K (.bool false) m l) : Ob c (compareOp .NotEq (.ref a) (.ref b)) K m l := by
 intro Q E s S kk xx
 have := SeqAt.RcNeAt.lists (A := c.A') (s := s) (e := fun _ => true) (items := vs.toArray) (items2 := us.toArray) ⟨_, S.rd ha, rfl, _, rfl⟩ ⟨_, S.rd hb, rfl, _, rfl⟩ (by simpa using hl) (by lia) fun j h1 h2 =>
  h j _ _ (by simp at h1; simp [h1]) (by simp at h2; simp [h2]) c.A'.in1 m s S (by rw [in1_units]; lia)
 rw [all_tt] at this
 exact this _ _ _ _ (kk _ _ _ _ hK S)
theorem eq_list (ha : Rd c.g l a (lst vs k)) (hb : Rd c.g l b (lst us k')) (hl : vs.length = us.length) (hu : c.A'.units + (n + 1) < cLine) (h : ∀ (j : Nat) v w, vs[j]? = some v → us[j]? = some w → Eqv c l n v w) (hK : K (.bool true) m l) : Ob c (compareOp .Eq (.ref a) (.ref b)) K m l := by
 intro Q E s S kk xx
 refine SeqAt.eq_listAt (e := fun _ => true) (items := vs.toArray) (items2 := us.toArray) ⟨_, S.rd ha, rfl, _, rfl⟩ ⟨_, S.rd hb, rfl, _, rfl⟩ (by simpa using hl) (by lia) (fun j h1 h2 =>
  h j _ _ (by simp at h1; simp [h1]) (by simp at h2; simp [h2]) c.A'.in1 m s S (by rw [in1_units]; lia)) ?_
 rw [all_tt]
 exact kk _ _ _ _ hK S
theorem ne_listL (ha : Rd c.g l a (lst vs k)) (hb : Rd c.g l b (lst us k')) (hl : vs.length ≠ us.length) (hu : c.A'.units < cLine) (hK : K (.bool true) m l) : Ob c (compareOp .NotEq (.ref a) (.ref b)) K m l := by
 intro Q E s S kk xx
 have := SeqAt.RcNeAt.lists_lengths (A := c.A') (s := s) (items := vs.toArray) (items2 := us.toArray) ⟨_, S.rd ha, rfl, _, rfl⟩ ⟨_, S.rd hb, rfl, _, rfl⟩ (by simpa using hl) hu
 exact this _ _ _ _ (kk _ _ _ _ hK S)
theorem eq_listL (ha : Rd c.g l a (lst vs k)) (hb : Rd c.g l b (lst us k')) (hl : vs.length ≠ us.length) (hu : c.A'.units < cLine) (hK : K (.bool false) m l) : Ob c (compareOp .Eq (.ref a) (.ref b)) K m l := by
 intro Q E s S kk xx
 exact SeqAt.eq_list_lengthsAt (items := vs.toArray) (items2 := us.toArray) ⟨_, S.rd ha, rfl, _, rfl⟩ ⟨_, S.rd hb, rfl, _, rfl⟩ (by simpa using hl) hu (kk _ _ _ _ hK S)
theorem eq_tup {oa ob : Obj} {na nb : Nat} (ha : Rd c.g l a oa) (h1 : oa.cls = .type "tuple") (h2 : oa.data = .seq vs.toArray na) (hb : Rd c.g l b ob) (h3 : ob.cls = .type "tuple") (h4 : ob.data = .seq us.toArray nb) (hl : vs.length = us.length) (hu : c.A'.units + (n + 1) < cLine) (h : ∀ (j : Nat) v w, vs[j]? = some v → us[j]? = some w → Eqv c l n v w)
  (hK : K (.bool true) m l) : Ob c (compareOp .Eq (.ref a) (.ref b)) K m l := by
 intro Q E s S kk xx
 refine SeqAt.eq_tupleAt (e := fun _ => true) (items := vs.toArray) (items2 := us.toArray) ⟨_, S.rd ha, h1, _, h2⟩ ⟨_, S.rd hb, h3, _, h4⟩ (by lia) (fun j h1 h2 =>
  h j _ _ (by simp at h1; simp [h1]) (by simp at h2; simp [h2]) c.A'.in1 m s S (by rw [in1_units]; lia)) ?_
 rw [all_tt]
 exact kk _ _ _ _ (by simpa [hl] using hK) S
theorem ne_tup {oa ob : Obj} {na nb : Nat} (ha : Rd c.g l a oa) (h1 : oa.cls = .type "tuple") (h2 : oa.data = .seq vs.toArray na) (hb : Rd c.g l b ob) (h3 : ob.cls = .type "tuple") (h4 : ob.data = .seq us.toArray nb) (hl : vs.length = us.length) (hu : c.A'.units + (n + 1) < cLine) (h : ∀ (j : Nat) v w, vs[j]? = some v → us[j]? = some w → Eqv c l n v w)
  (hK : K (.bool false) m l) : Ob c (compareOp .NotEq (.ref a) (.ref b)) K m l := by
 intro Q E s S kk xx
 have := SeqAt.RcNeAt.tuples (A := c.A') (s := s) (e := fun _ => true) (items := vs.toArray) (items2 := us.toArray) ⟨_, S.rd ha, h1, _, h2⟩ ⟨_, S.rd hb, h3, _, h4⟩ (by lia) fun j h1 h2 =>
  h j _ _ (by simp at h1; simp [h1]) (by simp at h2; simp [h2]) c.A'.in1 m s S (by rw [in1_units]; lia)
 rw [all_tt] at this
 exact this _ _ _ _ (kk _ _ _ _ (by simpa [hl] using hK) S)
theorem Ints.eqv (h1 : Ints vs xs) (h2 : Ints us xs) : vs.length = us.length ∧ ∀ (j : Nat) v w, vs[j]? = some v → us[j]? = some w → Eqv c l n v w := by
 refine ⟨by rw [h1.len, h2.len], fun j v w hv hw => ?_⟩
 have hj : j < xs.length := by
  rw [← h1.len]
  rcases Nat.lt_or_ge j vs.length with q | q
  ·exact q
  ·rw [List.getElem?_eq_none q] at hv; cases hv
 (refine e1_1 (h1.get j _ (List.getElem?_eq_getElem hj)) ?_; intro t1 e1)
 (refine e1_1 (h2.get j _ (List.getElem?_eq_getElem hj)) ?_; intro t2 e2)
 rw [hv] at e1; rw [hw] at e2
 cases e1; cases e2
 exact Eqv.int rfl
theorem o_inT2 {z : Str} {t1 t2 : Tok} (ha : Rd c.g l a (tup [.str x t1, .str y t2])) (h : K (.bool ((x == z) || (y == z))) m l) : Ob c (compareOp .In (.str z t) (.ref a)) K m l := by
 intro Q E s S kk xx
 refine SeqAt.in_tupleAt (fun v => match v with | .str q _ => q == z | _ => false) (items := [.str x t1, .str y t2].toArray) ⟨_, S.rd ha, rfl, _, rfl⟩ (fun v hv => ?_) ?_
 ·have : v = .str x t1 ∨ v = .str y t2 := by simpa using hv
  rcases this with rfl | rfl
  ·exact SeqAt.EqAt.str_str _ _ _ _
  ·exact SeqAt.EqAt.str_str _ _ _ _
 ·refine kk _ _ _ _ ?_ S
  simpa using h
theorem o_ord {ch : Nat} (h : ∀ t, K (.int ch t) m l) : Ob c (call (.builtin "ord") [.str ⟨#[ch]⟩ t]) K m l :=
 fun Q E s S kk xx => P.ord_of_char (kk _ _ _ _ (h _) (S.same rfl rfl rfl))
theorem c_bytes {bs : List UInt8} {kk : Nat} {pos : Pos} (h : ∀ t, K (.bytes bs.toArray t) m l) : Ob c (eval (.Constant (.bytes bs) kk pos) c.env) K m l :=
 fun Q E s S k xx => PySem.W.Constant_bytes (k _ _ _ _ (h _) (S.same rfl rfl rfl))
end
end
section
noncomputable def GivAt (rd : Addr → Obj → Prop) (gl : Addr) (th : List Th) : Prop := ∃ (as : List Addr) (k : Nat), rd gl (lst (as.map .ref) k) ∧ as.length = 9 ∧ ∀ i, i ≤ 8 → ∃ a o, as[i]? = some a ∧ rd a o ∧ GivO (tA th i) o
noncomputable def BelAt (rd : Addr → Obj → Prop) (bl : Addr) (p : Nat → Nat) : Prop := ∃ (as : List Addr) (k : Nat), rd bl (lst (as.map .ref) k) ∧ as.length = 9 ∧ ∀ i, i ≤ 8 → ∃ a vs k, as[i]? = some a ∧ rd a (lst vs k) ∧ Ints vs (il (belN p 8 i))
noncomputable def BegK (f : Nat → Rc) (order : List Nat) (kvs : List (Int × Value)) : Prop := kvs.length = order.length ∧ ∀ (j : Nat) v, order[j]? = some v → ∃ t, kvs[j]? = some ((v : Int), .int ((logOf ((order.take j).map f)).length : Nat) t)
theorem BegK.nil {f : Nat → Rc} : BegK f [] [] := ⟨rfl, fun _ _ h => by simp at h⟩
theorem BegK.keys {f : Nat → Rc} {order : List Nat} {kvs : List (Int × Value)} (h : BegK f order kvs) : kvs.map (·.1) = il order := by
 refine List.ext_getElem? fun j => ?_
 unfold il
 rw [List.getElem?_map, List.getElem?_map]
 cases q : order[j]? with
 | some z => obtain ⟨t, ht⟩ := h.2 j z q; rw [ht]; rfl
 | none =>
  have : kvs[j]? = none := List.getElem?_eq_none (by rw [h.1]; exact List.getElem?_eq_none_iff.mp q)
  rw [this]; rfl
theorem BegK.push {f : Nat → Rc} {order : List Nat} {kvs : List (Int × Value)} (h : BegK f order kvs) {v : Nat} (hv : v ∉ order) {t : Tok} : BegK f (order ++ [v]) (stored kvs (v : Int) (.int ((logOf (order.map f)).length : Nat) t)) := by
 unfold stored
 rw [if_neg]
 ·refine ⟨by simp [h.1], fun j z hz => ?_⟩
  rw [getElem?_snoc] at hz
  rw [getElem?_snoc, h.1]
  split at hz
  ·rename_i q; rw [if_pos q, List.take_append_of_le_length (by lia)]; exact h.2 j z hz
  ·split at hz
   ·rename_i q1 q2
    cases hz
    rw [if_neg q1, if_pos q2, q2, List.take_append_of_le_length (Nat.le_refl _), List.take_length]
    exact ⟨t, rfl⟩
   ·cases hz
 ·simp only [List.any_eq_true, decide_eq_true_eq, not_exists, not_and]
  intro y hy e
  refine hv (mem_il.mp ?_)
  rw [← h.keys, ← e]
  exact List.mem_map_of_mem (f := (·.1)) hy
theorem row_len (th : List Th) (v : Nat) : (drD th v).row.length = 10 := len_row _ _ 3
theorem seg_len (u : Nat) : (cs (seg u)).length = 2 := by
 rw [cs_len]; unfold seg; rw [strLen_append, len_item]; decide +kernel
theorem path_len (th : List Th) (v : Nat) : (drD th v).path.length ≤ 20 := by
 show (Txt.join (Str.ofString "") (segs (pT th) v)).length ≤ 20
 rw [← cs_len, cs_join]
 have h2 : ∀ zs : List Nat, ((zs.map seg).map cs).flatten.length = 2 * zs.length := by
  intro zs
  induction zs with
  | nil => rfl
  | cons z zs ih => rw [List.map_cons, List.map_cons, List.flatten_cons, List.length_append, seg_len, ih, List.length_cons]; lia
 unfold segs
 rw [h2, segs_eq, List.length_reverse, List.length_dropLast]
 have := ups_len (pT th) 9 v
 lia
theorem rc_len (th : List Th) (v : Nat) : (rcD th v).b.length ≤ 33 := by
 show (recB (cod (drD th v).row) (cod (drD th v).path) _).length ≤ 33
 rw [recB_len, cod_len, cod_len, row_len]
 have := path_len th v
 lia
theorem log_len (th : List Th) : ∀ order : List Nat, (logOf (order.map (rcD th))).length ≤ 33 * order.length
 | [] => by simp [logOf]
 | v :: order => by
  have := log_len th order
  have h2 := rc_len th v
  show ((rcD th v).b ++ logOf (order.map (rcD th))).length ≤ _
  rw [List.length_append, List.length_cons]
  lia
theorem asc_path (th : List Th) (v : Nat) : asc (drD th v).path = true := by
 refine asc_join fun y hy => ?_
 (refine e1_2 (List.mem_map.mp hy) ?_; rintro u _ rfl)
 exact asc_seg u
theorem Ex.appl : ∀ {B C : Led}, Ex (B ++ C) B C
 | [], _ => .nil
 | _ :: B, C => .take .here (Ex.appl (B := B))
theorem Ints.erase {vs : List Value} {xs : List Int} (h : Ints vs xs) (i : Nat) : Ints (vs.eraseIdx i) (xs.eraseIdx i) :=
 ⟨by rw [List.length_eraseIdx, List.length_eraseIdx, h.len], fun j x hx => by
  rw [List.getElem?_eraseIdx] at hx ⊢
  split at hx
  ·rename_i q; rw [if_pos q]; exact h.get j x hx
  ·rename_i q; rw [if_neg q]; exact h.get (j + 1) x hx⟩
theorem il_erase (xs : List Nat) (i : Nat) : il (xs.eraseIdx i) = (il xs).eraseIdx i := by
 refine List.ext_getElem? fun j => ?_
 unfold il
 rw [List.getElem?_map, List.getElem?_eraseIdx, List.getElem?_eraseIdx, List.getElem?_map, List.getElem?_map]
 split <;> rfl
theorem perm_erase : ∀ {xs : List Nat} {i v : Nat}, xs[i]? = some v → xs.Perm (v :: xs.eraseIdx i)
 | [], _, _, h => by simp at h
 | x :: xs, 0, v, h => by simp at h; subst h; exact .refl _
 | x :: xs, i + 1, v, h => by
  have := perm_erase (xs := xs) (i := i) (v := v) (by simpa using h)
  exact (List.Perm.cons x this).trans (List.Perm.swap _ _ _)
theorem um202 (P : Params) : findIn (KF P) (.ref 240) (Str.ofString "get_ready") = some (some (.ref 202)) := by kernel_rfl
theorem ty202 (P : Params) : typeIn (KF P) (.ref 202) = some (.type "function") := by kernel_rfl
theorem tyT_tuple : typeOf (.type "tuple") = pure (.type "type") := by kernel_rfl
theorem sub_tuple : isSubtype (.type "tuple") (.type "tuple") = pure true := by rw [isSubtype_type]; kernel_rfl
noncomputable abbrev ordSc : Scope := { kind := .function, names := [(Str.ofString ".0", .local), (Str.ofString "sign", .local), (Str.ofString "ord", .globalImplicit)], isGenerator := false, isCoroutine := false }
theorem o_ords {c : Fx} {KD : Addr → List Value → Nat → Led → Prop} {m : Loc} {l : Led} {x : Str} {t : Tok} {e : Expr} {p1 p2 p3 p4 p5 : Pos} {cl : List (Str × Addr)} (hV : c.V) (hz : c.hz = true) (hn : 1 ≤ c.n) (hx : asc x = true) (hl : x.length ≤ 100) (hcl : cl = clOf (fun x => (c.cs.lookup x).getD 0) ordSc.names []) (h : ∀ D ys k, Ints ys (cod x) → KD D ys k l) :
  ObCo c (.Call (.Name (Str.ofString "ord") p1) [.Name (Str.ofString "sign") p2] [] p3) (.Name (Str.ofString "sign") p4) e [] ordSc p5 cl (.str x t) KD m l := by
 subst hcl
 have hsz : x.cps.size = x.length := rfl
 refine comp_src (ks := [Str.ofString "sign"]) (gt := [(Str.ofString "ord", .builtin "ord")]) (fr := []) hV hz (src_str (Vw.hh' hV hz) x t) (by kernel_rfl) hn (by lia) (mk_str (by unfold asc cs at hx; rw [← Array.all_toList]; exact hx)) (fun j m' l' ys => Ints ys (il ((cs x).take j)) ∧ l' = l ∧ ∃ o, m' = ([("sign", o)] : Loc)) ⟨.nil, rfl, _, rfl⟩ (fun g p l h => trivial) (fun _ _ _ _ _ _ _ => trivial) ?_ ?_
 ·intro c0' c' hV' e1 hz' en hgt' hcs' hst' hX' j v m' l' ys I2 oI2 D k hj hv hJ KA KS hKA hKS
  (refine hideG ?_; intro P0 hP0; obtain ⟨hys, rfl, o, rfl⟩ := hJ; refine hP0 ?_; clear hP0 P0)
  have hV := hV'
  have hgt := hgt'
  (refine e2_2 hv ?_; clear hv; rintro ch u hc rfl)
  simp only [vCT]
  walk_at"go"
  refine o_ord fun t2 => ?_
  refine hKA _ _ _ _ [] .rfl ⟨?_, rfl, _, rfl⟩
  have : (cs x)[j]? = some ch := by unfold cs; rw [Array.getElem?_toList]; exact hc
  rw [tk_snoc this]; unfold il; rw [List.map_append]; exact hys.snoc _ _
 ·(rintro D m' l' ys k hJq; (refine e0_3 hJq ?_; clear hJq; intro hys hE1 _; subst hE1))
  refine h D ys k ?_
  rw [List.take_of_length_le (by rw [cs_len]; exact Nat.le_of_eq hsz.symm)] at hys
  exact hys
theorem team_le {th : List Th} (h9 : th.length = 9) (hO : ∀ (i : Nat) y, th[i]? = some y → y.ok i) {v : Nat} (hv : v ≤ 8) : teamD th v ≤ 255 := by
 unfold teamD
 cases h : sets th v with
 | nil => exact (tA_ok h9 hO hv).2.1
 | cons s r =>
  have hs : s ∈ sets th v := by rw [h]; exact .head _
  unfold sets at hs
  have hs := (List.mem_filter.mp hs).1
  unfold abv at hs
  exact (tA_ok h9 hO (ups_le (pT_le h9 hO) 9 v hv s (List.mem_of_mem_tail (List.mem_reverse.mp hs)))).2.1
theorem npM_leaf {th : List Th} {order w' : List Nat} {v : Nat} (h : MInv th order (v :: w')) (hd : isDir th v = false) (u : Nat) : npM th (order ++ [v]) w' u = npM th order (v :: w') u := by
 unfold npM
 by_cases e : u = v
 ·subst e
  simp [hd]
 ·simp [e]
theorem npM_dir {th : List Th} {order w' : List Nat} {v : Nat} (h : MInv th order (v :: w')) (hd : isDir th v = true) (u : Nat) : (if u ∈ belN (pT th) 8 v then (-1 : Int) else if u ∈ belN (pT th) 8 v then 0 else if u = v then -2 else npM th order (v :: w') u) = npM th (order ++ [v]) (w' ++ belN (pT th) 8 v) u := by
 unfold npM
 by_cases hb : u ∈ belN (pT th) 8 v
 ·(refine e0_3 (mem_belN.mp hb) ?_; intro b1 b2 b3)
  have hf := h.fresh b1 b3
  simp only [List.mem_append, List.mem_cons, not_or] at hf
  simp [hb, hf.1, hf.2.1]
 ·by_cases e : u = v
  ·subst e; simp [hb, hd]
  ·simp [hb, e]
theorem sorted_unique : ∀ {a b : List Int}, a.Perm b → a.Pairwise (· ≤ ·) → b.Pairwise (· ≤ ·) → a = b
 | [], b, h, _, _ => (List.Perm.nil_eq h)
 | x :: a, [], h, _, _ => absurd h.length_eq (by simp)
 | x :: a, y :: b, h, ha, hb => by
  rw [List.pairwise_cons] at ha hb
  have hxy : x = y := by
   have h1 : x ∈ y :: b := h.mem_iff.mp (.head _)
   have h2 : y ∈ x :: a := h.mem_iff.mpr (.head _)
   have q1 : y ≤ x := by
    rcases List.mem_cons.mp h1 with e | e
    ·lia
    ·exact hb.1 x e
   have q2 : x ≤ y := by
    rcases List.mem_cons.mp h2 with e | e
    ·lia
    ·exact ha.1 y e
   lia
  subst hxy
  rw [sorted_unique h.cons_inv ha.2 hb.2]
theorem belN_sorted (p : Nat → Nat) (n u : Nat) : (il (belN p n u)).Pairwise (· ≤ ·) := by
 unfold il
 rw [List.pairwise_map]
 have : (belN p n u).Pairwise (· < ·) := by
  unfold belN
  exact List.Pairwise.filter _ (List.pairwise_lt_range' (step := 1))
 exact this.imp fun h => Int.ofNat_le.mpr (Nat.le_of_lt h)
theorem six_ok (x : Str) (hx : x.length = 10) : fitsSsize 6 = true ∧ (Txt.charAt x 6).isSome = true := ⟨by decide, charAt_isSome (by lia) (by lia)⟩
theorem LMADE {w : World} {x gl bl : Addr} {tt : Tok} (th : List Th) (h9 : th.length = 9) (hO : ∀ (i : Nat) y, th[i]? = some y → y.ok i) (st : Srt) (SL : Led) (hS : SorL w x st SL) (ha : abs st.ns = mkA (keyN (pT th) 8) (npN 8) (belN (pT th) 8)) (hr : st.rdy = some (rdy0 st.ns)) (hpo : st.po = 0) (hnf : st.nf = 0) (total : Int) (lt : Led) (hlt : TabOk lt) :
  SpecX w 7 298 [.ref x, .ref gl, .ref bl, .int total tt] (fun g => GivAt (fun a o => g.get? a = some o) gl th ∧ BelAt (fun a o => g.get? a = some o) bl (pT th)) (SL ++ lt)
   (fun v l' => Lz (fun P0 : Value → Led → Prop => ∀ (r ao : Addr) (b : Array UInt8) (tb : Tok) (ko : Nat) (vo : List Value) (order : List Nat) (st' : Srt) (SL' lt' : Led), Ints vo (il order) → KBw.bInts b = logOf (order.map (rcD th)) → MInv th order [] → SorL w x st' SL' → abs st'.ns = mkA (keyN (pT th) 8) (npM th order []) (belN (pT th) 8) → st'.rdy = some [] → st'.po = order.length → st'.nf = (order.filter (isDir th)).length → TabOk lt' → P0 (.ref r) ((r, tup [.ref ao, .bytes b tb]) :: (ao, lst vo ko) :: (SL' ++ lt'))) v l') (fun _ _ _ => False) := by
 refine specX_vc [("sorter", .ref x), ("given", .ref gl), ("below", .ref bl), ("total", .int total tt)] ["log", "begins", "order", "first", "waiting", "place", "above", "team", "octets", "plain", "mode", "path", "row", "team_above", "path_above", "group"] fi_law_made_ok rfl (by kernel_rfl) (by kernel_rfl) (by kernel_rfl) ?_
 intro c0 c hw hz hm hV hn hgt hX hY hp
 dsimp only [fi_law_made] at hgt
 subst hw
 have hp8 := pT_le h9 hO
 (refine e0_2 hp ?_; clear hp; rintro ⟨gas, kg, hg1, hg2, hg3⟩ ⟨bas, kb, hb1, hb2, hb3⟩)
 have hlen9 : (keyN (pT th) 8).length ≤ 9 := keyN_len _ hp8 (Nat.le_refl _)
 have hun := Fx.un4 hV hm
 (refine stq hV ?_; intro K qK; walk_at"go")
 refine c_bytes fun tb => ?_
 walk_at"go"
 (refine qK.n _ _ ?_; (try clear qK K); refine stq hV ?_; intro K qK; walk_at"go")
 rename_i ad
 (refine qK.n _ _ ?_; (try clear qK K); refine stq hV ?_; intro K qK; walk_at"go")
 rename_i ao
 (refine qK.n _ _ ?_; (try clear qK K); refine stq hV ?_; intro K qK; walk_at"go")
 (refine hideG ?_; intro P0 hP0; obtain ⟨dx, d, n, t1, t2, t3, t4, t5, t6, rv, hx1, hx2, hrv, hnd⟩ := hS.own; refine hP0 ?_; clear hP0 P0)
 refine o_um hV fi_TopologicalSorter_get_ready_ok rfl (cls240 _) (Or.inl (.tail _ (.tail _ (List.mem_append_left _ hx1)))) (Or.inl (.tail _ (.tail _ (List.mem_append_left _ hx2)))) (um202 _) (ty202 _) rfl ?_
 walk_at"go"
 have hrd : rdy0 st.ns = [0] := by
  rw [rdy0_mk ha]
  have : (keyN (pT th) 8).filter (fun v => npN 8 v == 0) = (keyN (pT th) 8).filter (fun v => v == 0) := by
   refine List.filter_congr fun v hv => ?_
   have := (keyN_le hp8).mp hv
   unfold npN
   rw [Bool.eq_iff_iff, beq_iff_eq, beq_iff_eq]
   split <;> lia
  rw [this]
  exact filter_one (keyN_nodup _ _) ((keyN_le hp8).mpr (Nat.zero_le _))
 rw [hrd] at hr
 refine o_specL hV (GETR st SL hS [0] hr (by simp) (by intro v hv; have : v = 0 := by simpa using hv
                                                       rw [this, (abs_mk ha).1]; exact (keyN_le hp8).mpr (Nat.zero_le _))) (by lia) (R := (ao, lst [] 0) :: (ad, emptyDict) :: lt) ?_ (fun _ _ _ => trivial) ?_
 ·exact .drop (.drop .appl)
 (rintro _ l' hJq; refine hideG ?_; intro P0 hP0; obtain ⟨st1, SL1, fb, fvs, rfl, hfi, hS1, rfl, ha1, hr1, hp1, hf1⟩ := hJq; refine hP0 ?_; clear hP0 P0)
 walk_at"go"
 (refine qK.n _ _ ?_; (try clear qK K); refine stq hV ?_; intro K qK; walk_at"go")
 refine eq_tup (n := 0) (vs := fvs) (us := [.int 0 _]) (.inl (.tail _ (.head _))) rfl rfl (.inl (.head _)) rfl rfl ?_ (by lia) ?_ ?_
 ·rw [hfi.len]; rfl
 ·exact (hfi.eqv (Ints.nil.cons 0 _)).2
 walk_at"go"
 refine ⟨fun _ => ?_, fun h => (nomatch h)⟩
 walk_at"go"
 rename_i aw
 (refine qK.n _ _ ?_; (try clear qK K))
 have hinv0 : MInv th [] [0] := MInv.start
 have ha1' : abs st1.ns = mkA (keyN (pT th) 8) (npM th [] [0]) (belN (pT th) 8) := by
  rw [ha1, ha, out_mk]
  refine mkA_congr (fun u hu => ?_) fun _ _ => rfl
  have := (keyN_le hp8).mp hu
  unfold npN npM
  by_cases h0 : u = 0
  ·subst h0; simp
  ·simp [h0]; lia
 refine ob_ex (l' := (aw, lst [.int 0 _] 0) :: (SL1 ++ (ao, lst [] 0) :: (ad, emptyDict) :: lt)) (.take .here (.drop (.drop .rfl))) ?_
 refine ob_drp (Drp.perm (l' := (aw, lst [.int 0 _] 0) :: (ao, lst [] 0) :: (ad, emptyDict) :: (SL1 ++ lt)) (.cons _ (perm_front SL1 [_, _] lt)) ?_)
 (refine stq hV ?_; intro K qK; walk_at"go")
 let CC1 : Nat → (Nat → Loc → Led → Prop) → Prop := fun n P0 => ∀ (order waiting : List Nat) (st : Srt) (SL lt : Led) (vw vo : List Value) (kw ko : Nat) (od : Obj) (kvs : List (Int × Value)) (b : Array UInt8) (tb : Tok) (o1 o2 o3 o4 o5 o6 o7 o8 o9 o10 o11 : Option Value), MInv th order waiting → SorL c.w x st SL → abs st.ns = mkA (keyN (pT th) 8) (npM th order waiting) (belN (pT th) 8) → st.rdy = some [] → st.po = (order ++ waiting).length → st.nf = (order.filter (isDir th)).length → Ints vw (il waiting) → Ints vo (il order) → IsD c.w od kvs → BegK (rcD th) order kvs → KBw.bInts b = logOf (order.map (rcD th)) → TabOk lt → P0 (9 - order.length) ([("sorter", some (.ref x)), ("given", some (.ref gl)), ("below", some (.ref bl)), ("total", some (.int total tt)), ("log", some (.bytes b tb)), ("begins", some (.ref ad)), ("order", some (.ref ao)), ("first", some (.ref fb)), ("waiting", some (.ref aw)),
    ("place", o1), ("above", o2), ("team", o3), ("octets", o4), ("plain", o5), ("mode", o6), ("path", o7), ("row", o8), ("team_above", o9), ("path_above", o10), ("group", o11)]) ((aw, lst vw kw) :: (ao, lst vo ko) :: (ad, od) :: (SL ++ lt))
 let JJ1 : Nat → Loc → Led → Prop := fun n m l => Lz3 (CC1 n) n m l
 refine vwhile hV hX JJ1
   _ .rfl (fun _ f0 => f0 ([]) ([0]) st1 SL1 lt _ _ _ _ _ _ _ _ _ _ _ _ _ _ _ _ _ _ _ hinv0 hS1 ha1' hr1 (by rw [hp1, hpo]; rfl) (by rw [hf1, hnf]; rfl) (Ints.nil.cons 0 _) (.nil) (isD_nil _) (.nil) rfl hlt) ?_
 clear hS ha hr hpo hnf hx1 hx2 hrv hnd hrd hS1 ha1 hr1 hp1 hf1 ha1' hinv0 hlt hfi
 (rintro nn m l hJq; refine Lz3.el hJq ?_; clear hJq; rintro order waiting st SL lt vw vo kw ko od kvs b tb o1 o2 o3 o4 o5 o6 o7 o8 o9 o10 o11 hinv hS ha hr hpo hnf hvw hvo hod hbeg hlog hlt KT qI)
 have hvwl : vw.length = waiting.length := by rw [hvw.len]; simp [il]
 have hvol : vo.length = order.length := by rw [hvo.len]; simp [il]
 have hlen := nodup_le9 hinv.nd hinv.le
 rw [List.length_append] at hlen
 walk_at"go"
 refine o_trl (.inl (by repeat constructor)) (by lia) ?_
 cases hwe : vw with
 | nil =>
  subst hwe
  have : waiting = [] := List.eq_nil_of_length_eq_zero hvwl.symm
  subst this
  refine qI.f _ _ (stn (qK.n _ _ ?_))
  (refine stl hV ?_; walk_at"go")
  rename_i rr
  exact (drp (.take .here (.drop (.take .here (.drop .rfl)))) (fun _ f0 => f0 rr ao b tb ko vo order st SL lt hvo hlog hinv hS ha hr (by rw [hpo]; simp) hnf hlt))
 | cons v0 vw0 =>
  rw [← hwe]
  have hw0 : 0 < waiting.length := by rw [← hvwl, hwe]; simp
  refine kbq (show (!vw.isEmpty) = true from by rw [hwe]; rfl) (qI.t _ _ ?_)
  clear hwe
  (refine stq hV ?_; intro K1 qK1; walk_at"go")
  refine o_bm hV "list.pop" (g_list (.inl (by repeat constructor)) PySem.F.slot_list_pop PySem.F.type_list_pop) ?_
  walk_at"go"
  refine o_lenl (.inl (by repeat constructor)) (by lia) ?_
  walk_at"go"
  refine ⟨by lia, fun t8 => ?_⟩
  obtain ⟨i, hi, hil⟩ : ∃ i : Nat, total % ((vw.length : Nat) : Int) = (i : Int) ∧ i < waiting.length := by
   refine i1_2 ((total % ((vw.length : Nat) : Int)).toNat) ?_ ?_
   ·rw [Int.toNat_of_nonneg (Int.emod_nonneg _ (by lia))]
   ·have h1 := Int.emod_nonneg total (b := ((vw.length : Nat) : Int)) (by lia)
    have h2 := Int.emod_lt_of_pos total (b := ((vw.length : Nat) : Int)) (by lia)
    lia
  rw [hi]
  have hwi : waiting[i]? = some waiting[i] := List.getElem?_eq_getElem hil
  have hwp := perm_erase hwi
  obtain ⟨tp, htp⟩ := hvw.get i ((waiting[i] : Nat) : Int) (by unfold il; rw [List.getElem?_map, hwi]; rfl)
  have hvw2 := hvw.erase i
  rw [← il_erase] at hvw2
  generalize waiting[i] = place at *
  refine o_popi (n := i) (by lia) rfl htp ⟨_, by repeat constructor, ?_⟩
  walk_at"go"
  (refine qK1.n _ _ ?_; (try clear qK1 K1))
  have hinv2 := hinv.perm hwp
  have ha2 : abs st.ns = mkA (keyN (pT th) 8) (npM th order (place :: waiting.eraseIdx i)) (belN (pT th) 8) := by
   rw [ha]
   refine mkA_congr (fun u _ => ?_) fun _ _ => rfl
   unfold npM
   simp only [hwp.mem_iff]
  have hpo2 : st.po = (order ++ place :: waiting.eraseIdx i).length := by
   rw [hpo, List.length_append, List.length_append, hwp.length_eq]
  have hlen2 : order.length + (waiting.eraseIdx i).length + 1 ≤ 9 := by
   have := hwp.length_eq
   simp at this
   lia
  clear hinv ha hpo hvw hvwl hlen hw0 hi hil hwi hwp htp t8
  generalize vw.eraseIdx i = vw at *
  generalize waiting.eraseIdx i = w' at *
  have hp8' : place ≤ 8 := hinv2.le place (by simp)
  (refine hideG ?_; intro P0 hP0; obtain ⟨ga, go, hga1, hga2, gb, g1, g2, g3, gk, hgb, rfl⟩ := hg3 place hp8'; refine hP0 ?_; clear hP0 P0)
  have hpo' := tA_ok h9 hO hp8'
  (refine stq hV ?_; intro K1 qK1; walk_at"go")
  refine o_asgT hV ?_
  walk_at"go"
  refine o_lst (.inr hg1) (by lia) (by lia) (v := .ref ga) (by rw [List.getElem?_map, Int.toNat_natCast, hga1]; rfl) ?_
  refine o_unL hV (.inr hga2) ?_
  walk_at"go"
  (refine qK1.n _ _ ?_; (try clear qK1 K1); refine stq hV ?_; intro K1 qK1; walk_at"go")
  refine o_bitem hgb (by simp [Th.md]) (by decide) rfl fun t8 => ?_
  walk_at"go"
  refine o_bitem hgb (by simp [Th.md]) (by decide) rfl fun t9 => ?_
  walk_at"go"
  (refine qK1.n _ _ ?_; (try clear qK1 K1); refine stq hV ?_; intro K1 qK1; walk_at"go")
  (refine qK1.n _ _ ?_; (try clear qK1 K1))
  have hmode : (256 : Int) * (((tA th place).k : Int) * 16 + ((tA th place).r : Int) / 256) + ((tA th place).r : Int) % 256 = (((tA th place).k * 4096 + (tA th place).r : Nat) : Int) := by lia
  (refine stIf hV ?_; intro K1 qK1 KT1 qI1; walk_at"go")
  rw [hmode]
  have hrg : rgtD th place < 4096 := by
   have hr := hpo'.2.2.2.1
   unfold rgtD
   split
   ·exact hr
   ·split
    ·lia
    ·exact hr
  have hkk := hpo'.2.2.1
  have tail : ∀ (t1 t2 t3 : Tok) (o2 o4 o5 o8 o9 o10 o11 : Option Value) (ex lt : Led), TabOk lt →
    K1 .next [("sorter", some (.ref x)), ("given", some (.ref gl)), ("below", some (.ref bl)), ("total", some (.int total tt)), ("log", some (.bytes b tb)), ("begins", some (.ref ad)), ("order", some (.ref ao)), ("first", some (.ref fb)), ("waiting", some (.ref aw)),
     ("place", some (.int (place : Nat) tp)), ("above", o2), ("team", some (.int (teamD th place : Nat) t1)), ("octets", o4), ("plain", o5), ("mode", some (.int ((tA th place).k * 4096 + rgtD th place : Nat) t2)), ("path", some (.str (drD th place).path t3)), ("row", o8), ("team_above", o9), ("path_above", o10), ("group", o11)]
     (ex ++ (aw, lst vw (kw + 1)) :: (ao, lst vo ko) :: (ad, od) :: (SL ++ lt)) := by
   intro t1 t2 t3 o2 o4 o5 o8 o9 o10 o11 ex lt hlt
   refine qK1.n _ _ ?_
   refine ob_ex (l' := (aw, lst vw (kw + 1)) :: (ao, lst vo ko) :: (ad, od) :: (SL ++ lt)) (R := ex) (Ex.app) ?_
   (refine stq hV ?_; intro K1 qK1; walk_at"go")
   refine o_spec hV (FMODE _) (le_n hn rfl) (fun _ _ _ => trivial) ?_
   (rintro _ _ hJq; (refine e0_2 hJq ?_; clear hJq; rintro ⟨t10, rfl⟩ rfl))
   rw [FMLAW hkk hrg]
   rw [show rowUp ((tA th place).k : Int) ((rgtD th place : Nat) : Int) 3 = (drD th place).row from rfl]
   have hrl := row_len th place
   have hpl := path_len th place
   have hlogl := log_len th order
   have hra : asc (drD th place).row = true := asc_row _ _ 3
   have hpa : asc (drD th place).path = true := asc_path _ _
   have hrc : rcD th place = ⟨cod (drD th place).row, cod (drD th place).path, teamD th place⟩ := rfl
   generalize (drD th place).row = rowS at *
   generalize (drD th place).path = paS at *
   walk_at"go"
   (refine qK1.n _ _ ?_; (try clear qK1 K1); refine stq hV ?_; intro K1 qK1; walk_at"go")
   refine o_blen hlog (by lia) fun t11 => ?_
   walk_at"go"
   have hbk := hbeg.push (v := place) hinv2.notin.1 (t := t11)
   refine o_dset hV (by repeat constructor) hod (by rw [hbeg.1]; lia) fun od' hod' => ⟨_, by repeat constructor, ?_⟩
   (refine qK1.n _ _ ?_; (try clear qK1 K1); refine stq hV ?_; intro K1 qK1; walk_at"go")
   refine o_lens (by lia) fun t12 => ?_
   walk_at"go"
   refine o_comp (ks := [Str.ofString "sign"]) (gt := [(Str.ofString "ord", .builtin "ord")]) (fr := []) hV (clos_cs hV (by kernel_rfl)) (by kernel_rfl) ?_
   walk_at"go"
   refine o_ords hV hz (by lia) hra (by lia) rfl fun D1 y1 k1 hy1 => ?_
   have hy1l : y1.length = rowS.length := by rw [hy1.len, cod_len]
   refine o_addl (.inl (by repeat constructor)) (.inl (by repeat constructor)) (by rw [sizeLine_eq]; simp; lia) fun D2 => ?_
   walk_at"go"
   refine o_lens (by lia) fun t13 => ?_
   walk_at"go"
   refine o_addl (.inl (by repeat constructor)) (.inl (by repeat constructor)) (by rw [sizeLine_eq]; simp; lia) fun D3 => ?_
   walk_at"go"
   refine o_comp (ks := [Str.ofString "sign"]) (gt := [(Str.ofString "ord", .builtin "ord")]) (fr := []) hV (clos_cs hV (by kernel_rfl)) (by kernel_rfl) ?_
   walk_at"go"
   refine o_ords hV hz (by lia) hpa (by lia) rfl fun D4 y2 k2 hy2 => ?_
   have hy2l : y2.length = paS.length := by rw [hy2.len, cod_len]
   walk_at"go"
   refine o_addl (.inl (by repeat constructor)) (.inl (by repeat constructor)) (by rw [sizeLine_eq]; simp; lia) fun D5 => ?_
   have hby : Ints (.int (rowS.length : Nat) t12 :: (y1 ++ [.int (teamD th place : Nat) t1, .int (paS.length : Nat) t13]) ++ y2) (rcD th place).b := by
    rw [hrc]
    show Ints _ (((cod rowS).length : Int) :: cod rowS ++ (teamD th place : Int) :: ((cod paS).length : Int) :: cod paS)
    rw [cod_len, cod_len]
    have h1 := (hy1.append ((Ints.nil.cons ((paS.length : Nat) : Int) t13).cons ((teamD th place : Nat) : Int) t1)).append hy2
    have h2 := h1.cons ((rowS.length : Nat) : Int) t12
    simpa using h2
   have hlb := rc_len th place
   have hbound : ∀ n ∈ (rcD th place).b, 0 ≤ n ∧ n < 256 := by
    have ht := team_le h9 hO hp8'
    rw [hrc]
    intro n hn
    have hn : n ∈ ((cod rowS).length : Int) :: cod rowS ++ (teamD th place : Int) :: ((cod paS).length : Int) :: cod paS := hn
    rw [cod_len, cod_len] at hn
    rcases List.mem_append.mp hn with hn | hn
    ·rcases List.mem_cons.mp hn with rfl | hn
     ·lia
     ·exact cod_lt hra n hn
    ·rcases List.mem_cons.mp hn with rfl | hn
     ·lia
     ·rcases List.mem_cons.mp hn with rfl | hn
      ·lia
      ·exact cod_lt hpa n hn
   refine o_bytes hV (.inl (.head _)) hby hbound (by lia) fun b2 t14 hb2 => ?_
   refine o_badd hlog hb2 (by lia) fun b3 t15 hbq => ?_
   have hlog3 : KBw.bInts b3 = logOf ((order ++ [place]).map (rcD th)) := by
    rw [hbq, List.map_append, logOf_app]
    simp [logOf]
   walk_at"go"
   (refine qK1.n _ _ ?_; (try clear qK1 K1))
   refine ob_ex (l' := (aw, lst vw (kw + 1)) :: (ao, lst vo ko) :: (ad, od') :: (SL ++ lt)) (.drop (.drop (.drop (.drop (.drop (.drop (.drop .rfl))))))) ?_
   (refine stq hV ?_; intro K1 qK1; walk_at"go")
   refine o_append hV ⟨_, _, by exact .inl (by repeat constructor)⟩ ?_
   walk_at"go"
   refine ⟨_, _, _, by repeat constructor, by rw [sizeLine_eq]; lia, ?_⟩
   (refine qK1.n _ _ ?_; (try clear qK1 K1))
   have hvo2 : Ints (vo ++ [.int (place : Nat) tp]) (il (order ++ [place])) := by unfold il at hvo ⊢; rw [List.map_append]; exact hvo.snoc _ _
   have hmd := isdir_mode (k := (tA th place).k) (r := rgtD th place) (by lia) hrg
   (refine stIf hV ?_; intro K1 qK1 KT1 qI1; walk_at"go")
   refine o_spec hV (ISDIR _) (le_n hn rfl) (fun _ _ _ => trivial) ?_
   (rintro _ _ hJq; (refine e0_2 hJq ?_; clear hJq; intro hE1 hE2; subst hE1 hE2))
   rw [hmd]
   walk_at"go"
   cases hdir : isDir th place with
   | false =>
    refine kbq (show ((tA th place).k == 4) = false from hdir) (qI1.f _ _ (stn (qK1.n _ _ (stn ?_))))
    refine (whk (R := []) (n' := 9 - (order ++ [place]).length) (.rfl) (by rw [List.length_append, List.length_singleton]; lia) (fun _ f0 => f0 (order ++ [place]) w' st SL lt vw (vo ++ [.int (place : Nat) tp]) _ _ od' _ b3 t15 _ _ _ _ _ _ _ _ _ _ _ (hinv2.leaf hdir) hS ?_ hr (by rw [hpo2]; simp) ?_ hvw2 hvo2 hod' hbk hlog3 hlt))
    ·rw [ha2]
     exact mkA_congr (fun u _ => (npM_leaf hinv2 hdir u).symm) fun _ _ => rfl
    ·rw [hnf, List.filter_append]; simp [List.filter, hdir]
   | true =>
    refine kbq (show ((tA th place).k == 4) = true from hdir) (qI1.t _ _ ?_)
    (refine stq hV ?_; intro K2 qK2; walk_at"go")
    (refine hideG ?_; intro P0 hP0; obtain ⟨dx, d, n, t1', t2', t3', t4', t5', t6', rv, hx1, hx2, hrv, hnd⟩ := hS.own; refine hP0 ?_; clear hP0 P0)
    refine o_um hV fi_TopologicalSorter_done_ok rfl (cls240 _) (Or.inl (.tail _ (.tail _ (.tail _ (List.mem_append_left _ hx1))))) (Or.inl (.tail _ (.tail _ (.tail _ (List.mem_append_left _ hx2))))) (um223 _) (ty223 _) rfl ?_
    walk_at"go"
    have hKp : place ∈ keyN (pT th) 8 := (keyN_le hp8).mpr hp8'
    have hnpl : npM th order (place :: w') place = -1 := by unfold npM; rw [if_neg (fun h => hinv2.notin.1 h.1), if_pos (.inr (.head _))]
    have hdn : doneA (abs st.ns, []) place = (mkA (keyN (pT th) 8) (fun u => if u ∈ belN (pT th) 8 place then 0 else if u = place then -2 else npM th order (place :: w') u) (belN (pT th) 8), [] ++ belN (pT th) 8 place) := by
     rw [ha2]
     refine done_mk hKp (fun s hs => ?_) (belN_nodup _ _ _)
     (refine e0_3 (mem_belN.mp hs) ?_; intro b1 b2 b3)
     have hf := hinv2.fresh b1 b3
     simp only [List.mem_append, List.mem_cons, not_or] at hf
     refine ⟨(keyN_le hp8).mpr b2, hf.2.1, ?_⟩
     unfold npM
     rw [if_neg (fun h => hf.1 h.1), if_neg (by simp [hf.1, hf.2.1, hf.2.2])]
    refine o_specL hV (DONE st SL hS [] hr [place] [.int (place : Nat) tp] (Ints.nil.cons _ _) (by simp) (scLe_mk ha2 (by lia)) ?_ ?_ (by simp)) (le_n hn rfl) (R := (aw, lst vw (kw + 1)) :: (ao, lst (vo ++ [.int (place : Nat) tp]) (ko + 1)) :: (ad, od') :: lt) (.drop (.drop (.drop .appl))) (fun _ _ _ => trivial) ?_
    ·intro j v hj
     have hj0 : j = 0 := by
      rcases Nat.lt_or_ge j 1 with q | q
      ·lia
      ·rw [List.getElem?_eq_none (by simpa using q)] at hj; cases hj
     subst hj0
     have : v = place := by simpa using hj.symm
     subst this
     refine ⟨by rw [(abs_mk ha2).1]; exact hKp, ?_⟩
     show npOf (abs st.ns) v = _
     rw [ha2, npOf_mk hKp, hnpl]
    ·intro z hz' s hs
     rw [ha2] at hz'
     (refine e1_2 (List.mem_map.mp hz') ?_; rintro u _ rfl)
     rw [(abs_mk ha2).1]
     exact (keyN_le hp8).mpr (mem_belN.mp hs).2.1
    (rintro _ SL2 hJq; refine hideG ?_; intro P0 hP0; obtain ⟨rfl, st2, hS2, hr2, ha3, hp2, hf2⟩ := hJq; refine hP0 ?_; clear hP0 P0)
    rw [show [place].foldl doneA (abs st.ns, []) = doneA (abs st.ns, []) place from rfl, hdn, List.nil_append] at hr2 ha3
    simp only at hr2 ha3
    (refine qK2.n _ _ ?_; (try clear qK2 K2); refine stq hV ?_; intro K2 qK2; walk_at"go")
    (refine hideG ?_; intro P0 hP0; obtain ⟨dx2, d2, n2, t1', t2', t3', t4', t5', t6', rv2, hx3, hx4, hrv2, hnd2⟩ := hS2.own; refine hP0 ?_; clear hP0 P0)
    refine o_um hV fi_TopologicalSorter_get_ready_ok rfl (cls240 _) (Or.inl (List.mem_append_left _ hx3)) (Or.inl (List.mem_append_left _ hx4)) (um202 _) (ty202 _) rfl ?_
    walk_at"go"
    have hbl := belN_len (pT th) 8 place
    refine o_specL hV (GETR st2 SL2 hS2 (belN (pT th) 8 place) hr2 (by lia) (by intro v hv; rw [(abs_mk ha3).1]; exact (keyN_le hp8).mpr (mem_belN.mp hv).2.1)) (le_n hn rfl) (R := (aw, lst vw (kw + 1)) :: (ao, lst (vo ++ [.int (place : Nat) tp]) (ko + 1)) :: (ad, od') :: lt) .appl (fun _ _ _ => trivial) ?_
    (rintro _ l' hJq; refine hideG ?_; intro P0 hP0; obtain ⟨st3, SL3, gb2, gvs, rfl, hgi, hS3, rfl, ha4, hr3, hp3, hf3⟩ := hJq; refine hP0 ?_; clear hP0 P0)
    have ha5 : abs st3.ns = mkA (keyN (pT th) 8) (npM th (order ++ [place]) (w' ++ belN (pT th) 8 place)) (belN (pT th) 8) := by
     rw [ha4, ha3, out_mk]
     exact mkA_congr (fun u _ => npM_dir hinv2 hdir u) fun _ _ => rfl
    have hgl : gvs.length = (belN (pT th) 8 place).length := by rw [hgi.len]; simp [il]
    walk_at"go"
    (refine qK2.n _ _ ?_; (try clear qK2 K2))
    refine ob_drp (Drp.perm (l' := (gb2, tup gvs) :: (aw, lst vw (kw + 1)) :: (ao, lst (vo ++ [Value.int ((place : Nat) : Int) tp]) (ko + 1)) :: (ad, od') :: (SL3 ++ lt)) (.cons _ (perm_front SL3 [(aw, lst vw (kw + 1)), (ao, lst (vo ++ [Value.int ((place : Nat) : Int) tp]) (ko + 1)), (ad, od')] lt)) ?_)
    (refine stIf hV ?_; intro K2 qK2 KT2 qI2; walk_at"go")
    refine o_isi (Tx := "tuple") (fun s S => ⟨_, S.get (.head _), rfl⟩) tyT_tuple sub_tuple ?_
    walk_at"go"
    refine ⟨fun h => (nomatch h), fun _ => ?_⟩
    walk_at"go"
    refine o_sortT (.inl (.head _)) hgi (by unfold il; rw [List.length_map]; lia) fun D ws ms e hws hmp hms => ?_
    have hmse := sorted_unique hmp hms (belN_sorted _ _ _)
    subst hmse
    walk_at"go"
    (refine e3_3 (hb3 place hp8') ?_; intro ba bvs bk hba1 hba2 hba3)
    refine o_lst (.inr hb1) (by lia) (by lia) (v := .ref ba) (by rw [List.getElem?_map, Int.toNat_natCast, hba1]; rfl) ?_
    walk_at"go"
    refine ne_list (n := 0) (.inl (.head _)) (.inr hba2) (by rw [hws.len, hba3.len]) (by lia) (hws.eqv hba3).2 ?_
    walk_at"go"
    refine ⟨fun h => (nomatch h), fun _ => ?_⟩
    refine qI2.f _ _ (stn (qK2.n _ _ ?_))
    (refine stl hV ?_; walk_at"go")
    refine o_bm hV "list.extend" (g_list (.inl (.tail _ (.tail _ (.head _)))) PySem.F.slot_list_extend PySem.F.type_list_extend) ?_
    walk_at"go"
    have hvwl : vw.length = w'.length := by rw [hvw2.len]; simp [il]
    refine o_extT (vs := vw) (.inl (.tail _ (.head _))) (by lia) fun k' => ⟨_, by repeat constructor, ?_⟩
    refine qK1.n _ _ (stn ?_)
    refine (whk (n' := 9 - (order ++ [place]).length) (.drop (.drop .rfl)) (by rw [List.length_append, List.length_singleton]; lia) (fun _ f0 => f0 (order ++ [place]) (w' ++ belN (pT th) 8 place) st3 SL3 lt (vw ++ gvs) (vo ++ [.int (place : Nat) tp]) _ _ od' _ b3 t15 _ _ _ _ _ _ _ _ _ _ _ (hinv2.dir hdir) hS3 ha5 hr3 ?_ ?_ ?_ hvo2 hod' hbk hlog3 hlt))
    ·rw [hp3, hp2, hpo2]; simp; lia
    ·rw [hf3, hf2, hnf, List.filter_append]; simp [List.filter, hdir]
    ·unfold il at hvw2 hgi ⊢; rw [List.map_append]; exact hvw2.append hgi
  rcases Nat.eq_zero_or_pos place with hz0 | hpos
  ·refine kbq (show decide ((0 : Int) < ((place : Nat) : Int)) = false from by rw [decide_eq_false_iff_not]; lia) (qI1.f _ _ (stn ?_))
   have e1 : teamD th place = (tA th place).t := by rw [hz0]; unfold teamD; rw [sets_zero]
   have e2 : rgtD th place = (tA th place).r := by rw [hz0]; unfold rgtD; rw [sets_zero]; rfl
   have e3 : (drD th place).path = Str.ofString "" := by rw [hz0]; exact path_zero
   have ht := fun ta tb2 => tail g2 ta tb2 (some (.int (tA th place).a g1)) (some (.bytes gb g3)) (some (.bool true)) o8 o9 o10 o11 [] lt hlt
   simp only [e1, e2, e3] at ht
   exact ht _ _
  refine kbq (show decide ((0 : Int) < ((place : Nat) : Int)) = true from by rw [decide_eq_true_eq]; lia) (qI1.t _ _ ?_)
  (refine e0_2 (hinv2.up place (by simp) (by lia)) ?_; intro hpo1 hpd)
  have hst := hinv2.step (by lia)
  (refine e1_1 (List.getElem?_of_mem hpo1) ?_; intro jp hjp)
  (refine e1_1 (hbeg.2 jp _ hjp) ?_; intro tq htq)
  have hkn : (kvs.map (·.1)).Nodup := by rw [hbeg.keys]; exact il_nodup (List.nodup_append.mp hinv2.nd).1
  have hval := valueAt_at hkn htq
  have hlogl := log_len th order
  have hrows := row_len th (pT th place)
  have hpaths := path_len th (pT th place)
  have hpths := path_len th place
  have hrat : (order.map (rcD th))[jp]? = some (rcD th (pT th place)) := by rw [List.getElem?_map, hjp]; rfl
  have hjl : (logOf (((order.take jp)).map (rcD th))) = logOf ((order.map (rcD th)).take jp) := by rw [List.map_take]
  (refine stq hV ?_; intro K2 qK2; walk_at"go")
  refine o_asgT hV ?_
  walk_at"go"
  refine o_dget (by repeat constructor) hod hval ?_
  walk_at"go"
  rename_i atl
  refine o_specL hV (LSTREAM lt hlt) (le_n hn rfl) (R := (atl, lst [.int ((logOf (List.map (rcD th) (order.take jp))).length : Nat) tq] 0) :: (aw, lst vw (kw + 1)) :: (ao, lst vo ko) :: (ad, od) :: SL) ?_ (fun _ _ _ => trivial) ?_
  ·exact .drop (.drop (.drop (.drop Ex.app)))
  rintro _ _ hQ
  rcases hQ with ⟨T, cc, oc, hoc, hTc, hT⟩
  walk_at"go"
  simp only [Tp.led, tabL, List.cons_append, List.nil_append]
  rw [hjl]
  have hra := rec_at hrat
  refine o_specX hV hY (LREC hT hoc _ hlog (by lia) _ (.inr ⟨_, _, _, hra⟩)) (le_n hn rfl) (R := (T.x, instObj 120 T.dx) :: (T.dx, iD c.w.params T.ks T.n) :: (T.f, lrO T.cO T.cA T.cc T.doc T.pm T.ctv) :: (T.cO, T.oO) :: (T.cA, T.oA) :: (246, tabObj #[rawInt lrPos.line, rawInt lrPos.col, .ref cc]) :: (cc, oc) :: (aw, lst vw (kw + 1)) :: (ao, lst vo ko) :: (ad, od) :: SL) (.take (by repeat constructor) .nil) (fun g' hR hG => ?_) ?_ ?_
  ·refine ⟨fun p hp => hR p ?_, by rw [hTc]; exact hR (cc, oc) (by repeat constructor)⟩
   exact List.mem_append_left _ hp
  ·rintro v l' hQ
   rcases hQ with ⟨row, path, team, r, t21, t22, t23, t24, k2, hR⟩
   (refine e0_3 (recB_inj hR hra) ?_; intro q1 q2 q3)
   have q1 : row = cod (drD th (pT th place)).row := q1
   have q2 : path = cod (drD th (pT th place)).path := q2
   have q3 : team = (teamD th (pT th place) : Nat) := q3
   subst q1 q2 q3
   simp only [txt_cod]
   refine o_unL hV (.inl (.head _)) ?_
   walk_at"go"
   (refine qK2.n _ _ ?_; (try clear qK2 K2))
   refine ob_ex (l' := [(246, tabObj #[rawInt lrPos.line, rawInt lrPos.col, .ref cc]), (cc, oc)] ++ (aw, lst vw (kw + 1)) :: (ao, lst vo ko) :: (ad, od) :: SL) (.drop (.drop (.drop (.drop (.drop (.drop (.drop .rfl))))))) ?_
   refine ob_drp (Drp.perm (l' := (aw, lst vw (kw + 1)) :: (ao, lst vo ko) :: (ad, od) :: (SL ++ tabL cc oc)) List.perm_append_comm ?_)
   (refine stq hV ?_; intro K2 qK2; walk_at"go")
   refine ⟨by rw [show (Str.ofString "/").length = 1 from by decide +kernel]; lia, ?_⟩
   walk_at"go"
   refine ⟨charok hpos hp8', ?_⟩
   walk_at"go"
   refine ⟨by rw [Str.length_append, len_item, show (Str.ofString "/").length = 1 from by decide +kernel]; lia, ?_⟩
   walk_at"go"
   (refine qK2.n _ _ ?_; (try clear qK2 K2))
   rw [← path_step hst]
   (refine stIf hV ?_; intro K2 qK2 KT2 qI2; walk_at"go")
   walk_at"go"
   refine ⟨six_ok _ hrows, ?_⟩
   walk_at"go"
   rename_i aq
   refine o_inT2 (.inl (.head _)) ?_
   walk_at"go"
   rw [show ((Str.ofString "s" == Txt.item (drD th (pT th place)).row 6) || (Str.ofString "S" == Txt.item (drD th (pT th place)).row 6)) = (rgtD th (pT th place) / 1024 % 2 == 1) from six_in _ _, gid_up hpd hst]
   have hteam := team_up hst
   have hkeep : ∀ h : (sets th place).isEmpty = true, rgtD th place = (tA th place).r := fun h => by unfold rgtD; rw [if_pos h]
   have hlt2 : TabOk (tabL cc oc) := .inr ⟨cc, oc, hoc, rfl⟩
   cases hse : (sets th place).isEmpty with
   | true =>
    rw [if_pos hse] at hteam
    refine qI2.f _ _ (stn (qK2.n _ _ (stn ?_)))
    have ht := fun ta tb2 tc oq => tail ta tb2 tc (some (.int (tA th place).a g1)) (some (.bytes gb g3)) (some (.bool true)) (some (.str (drD th (pT th place)).row t21)) (some (.int (teamD th (pT th place) : Nat) t22)) (some (.str (drD th (pT th place)).path t23)) o11 [(aq, oq)] (tabL cc oc) hlt2
    rw [hteam, hkeep hse] at ht
    exact ht _ _ _ _
   | false =>
    rw [if_neg (by rw [hse]; simp)] at hteam
    refine qI2.t _ _ ?_
    (refine stq hV ?_; intro K3 qK3; walk_at"go")
    (refine qK3.n _ _ ?_; (try clear qK3 K3))
    (refine stIf hV ?_; intro K3 qK3 KT3 qI3; walk_at"go")
    refine o_spec hV (ISDIR _) (le_n hn rfl) (fun _ _ _ => trivial) ?_
    (rintro _ _ hJq; (refine e0_2 hJq ?_; clear hJq; intro hE1 hE2; subst hE1 hE2))
    rw [isdir_mode (by lia) hpo'.2.2.2.1]
    walk_at"go"
    have hrg2 : rgtD th place = if (tA th place).k == 4 then (tA th place).r + 1024 * (1 - (tA th place).r / 1024 % 2) else (tA th place).r := by
     unfold rgtD isDir; rw [if_neg (by rw [hse]; simp)]
    have ht := fun ta tb2 tc oq => tail ta tb2 tc (some (.int (tA th place).a g1)) (some (.bytes gb g3)) (some (.bool true)) (some (.str (drD th (pT th place)).row t21)) (some (.int (teamD th (pT th place) : Nat) t22)) (some (.str (drD th (pT th place)).path t23)) o11 [(aq, oq)] (tabL cc oc) hlt2
    rw [hteam, hrg2] at ht
    cases hd4 : (tA th place).k == 4 with
    | false =>
     rw [hd4] at ht
     refine qI3.f _ _ (stn (qK3.n _ _ (stn (qK2.n _ _ (stn ?_)))))
     exact ht _ _ _ _
    | true =>
     rw [hd4, if_pos rfl] at ht
     refine qI3.t _ _ ?_
     (refine stl hV ?_; walk_at"go")
     refine o_spec hV (IFMT _) (le_n hn rfl) (fun _ _ _ => trivial) ?_
     (rintro _ _ hJq; (refine e0_2 hJq ?_; clear hJq; rintro ⟨t31, rfl⟩ rfl))
     walk_at"go"
     refine o_spec hV (IMODE _) (le_n hn rfl) (fun _ _ _ => trivial) ?_
     (rintro _ _ hJq; (refine e0_2 hJq ?_; clear hJq; rintro ⟨t32, rfl⟩ rfl))
     walk_at"go"
     rw [set_mode (by lia) hpo'.2.2.2.1]
     refine qK3.n _ _ (stn (qK2.n _ _ (stn ?_)))
     exact ht _ _ _ _
  ·(rintro cls vs l' hJq; (refine e0_2 hJq ?_; clear hJq; intro h _))
   have := hra.le
   rw [recB_len] at this
   lia
end
section
noncomputable def loN (th : List Th) (order : List Nat) : List Nat := order.filter fun v => !isDir th v
noncomputable def npL (th : List Th) (order ls : List Nat) (u : Nat) : Int := if u ∈ ls.flatMap (belN (pT th) 8) then 0 else if u ∈ ls then -2 else npM th order [] u
section
variable {th : List Th} {order : List Nat}
theorem mem_lo {u : Nat} : u ∈ loN th order ↔ u ∈ order ∧ isDir th u = false := by unfold loN; simp
theorem lo_nodup (h : MInv th order []) : (loN th order).Nodup := List.Pairwise.filter _ (by have := h.nd; rw [List.append_nil] at this; exact this)
theorem lo_len (h : MInv th order []) : (loN th order).length ≤ 9 := nodup_le9 (lo_nodup h) fun v hv => h.le v (by simpa using (mem_lo.mp hv).1)
theorem ord_notin (h : MInv th order []) {u : Nat} (hu : u ∈ order) {ls : List Nat} (hl : ∀ z ∈ ls, z ∈ loN th order) : u ∉ ls.flatMap (belN (pT th) 8) := fun q => by
 (refine e1_2 (List.mem_flatMap.mp q) ?_; intro z hz hq)
 (refine e0_3 (mem_belN.mp hq) ?_; intro b1 _ b3)
 have := (h.up u (by simpa using hu) (by lia)).2
 rw [b3, (mem_lo.mp (hl z hz)).2] at this
 cases this
theorem lo_fold (h : MInv th order []) (hp8 : ∀ x, pT th x ≤ 8) (j : Nat) (hj : j ≤ (loN th order).length) : ((loN th order).take j).foldl doneA (mkA (keyN (pT th) 8) (npM th order []) (belN (pT th) 8), []) = (mkA (keyN (pT th) 8) (npL th order ((loN th order).take j)) (belN (pT th) 8), ((loN th order).take j).flatMap (belN (pT th) 8)) := by
 induction j with
 | zero =>
  rw [List.take_zero, List.foldl_nil, List.flatMap_nil]
  have e : mkA (keyN (pT th) 8) (npM th order []) (belN (pT th) 8) = mkA (keyN (pT th) 8) (npL th order []) (belN (pT th) 8) := by
   refine mkA_congr (fun u _ => ?_) fun _ _ => rfl
   unfold npL
   rw [List.flatMap_nil, if_neg (List.not_mem_nil), if_neg (List.not_mem_nil)]
  rw [e]
 | succ j ih =>
  have hjl : j < (loN th order).length := by lia
  obtain ⟨v, hv⟩ : ∃ v, (loN th order)[j]? = some v := ⟨_, List.getElem?_eq_getElem hjl⟩
  have hnd := lo_nodup h
  have hvm : v ∈ loN th order := List.mem_of_getElem? hv
  have htk := tk_snoc hv
  have hsub : ∀ z ∈ (loN th order).take j, z ∈ loN th order := fun z hz => List.mem_of_mem_take hz
  have hvt : v ∉ (loN th order).take j := fun q => by
   have h1 : ((loN th order).take (j + 1)).Nodup := hnd.sublist (List.take_sublist _ _)
   rw [htk, List.nodup_append] at h1
   exact h1.2.2 v q v (by simp) rfl
  (refine e0_2 (mem_lo.mp hvm) ?_; intro hvo hvd)
  have hv8 := h.le v (by simpa using hvo)
  rw [htk, List.foldl_append, ih (by lia)]
  rw [List.foldl_cons, List.foldl_nil]
  rw [done_mk ((keyN_le hp8).mpr hv8) (fun s hs => ?_) (belN_nodup _ _ _), List.flatMap_append]
  ·refine congr (congrArg Prod.mk ?_) (by simp)
   refine mkA_congr (fun u _ => ?_) fun _ _ => rfl
   unfold npL
   have hvf := ord_notin h hvo hsub
   by_cases hb : u ∈ belN (pT th) 8 v
   ·simp [hb]
   ·by_cases hf : u ∈ ((loN th order).take j).flatMap (belN (pT th) 8)
    ·have hne : u ≠ v := fun e => hvf (e ▸ hf)
     rw [if_neg hb, if_neg hne, if_pos hf, if_pos (by rw [List.flatMap_append]; exact List.mem_append_left _ hf)]
    ·have hf2 : u ∉ ((loN th order).take j ++ [v]).flatMap (belN (pT th) 8) := by
      rw [List.flatMap_append]
      intro q
      rcases List.mem_append.mp q with q | q
      ·exact hf q
      ·exact hb (by simpa using q)
     rw [if_neg hb, if_neg hf, if_neg hf2]
     by_cases e : u = v
     ·subst e; simp
     ·simp [e]
  ·(refine e0_3 (mem_belN.mp hs) ?_; intro b1 b2 b3)
   have hso : s ∉ order := fun q => by
    have := (h.up s (by simpa using q) (by lia)).2
    rw [b3, hvd] at this; cases this
   refine ⟨(keyN_le hp8).mpr b2, fun e => hso (e ▸ hvo), ?_⟩
   unfold npL
   rw [if_neg, if_neg fun q => hso (mem_lo.mp (hsub _ q)).1]
   ·unfold npM
    rw [if_neg fun q => hso q.1, if_neg (by simp [hso])]
   ·intro q
    (refine e1_2 (List.mem_flatMap.mp q) ?_; intro z hz hq)
    have := (mem_belN.mp hq).2.2
    rw [b3] at this
    exact hvt (this ▸ hz)
theorem lo_at (h : MInv th order []) {j v : Nat} (hv : (loN th order)[j]? = some v) : npL th order ((loN th order).take j) v = -1 := by
 have hvm : v ∈ loN th order := List.mem_of_getElem? hv
 have hsub : ∀ z ∈ (loN th order).take j, z ∈ loN th order := fun z hz => List.mem_of_mem_take hz
 have hvt : v ∉ (loN th order).take j := fun q => by
  have h1 : ((loN th order).take (j + 1)).Nodup := (lo_nodup h).sublist (List.take_sublist _ _)
  rw [tk_snoc hv, List.nodup_append] at h1
  exact h1.2.2 v q v (by simp) rfl
 (refine e0_2 (mem_lo.mp hvm) ?_; intro hvo hvd)
 unfold npL
 rw [if_neg (ord_notin h hvo hsub), if_neg hvt]
 unfold npM
 rw [if_neg (by simp [hvd]), if_pos (.inl hvo)]
theorem bel_flat (h : MInv th order []) : ((loN th order).flatMap (belN (pT th) 8)).length ≤ 9 := by
 refine nodup_le9 ?_ fun v hv => ?_
 ·unfold List.Nodup
  rw [List.pairwise_flatMap]
  refine ⟨fun a _ => belN_nodup _ _ _, (lo_nodup h).imp fun hab x hx y hy e => ?_⟩
  subst e
  exact hab (((mem_belN.mp hx).2.2).symm.trans (mem_belN.mp hy).2.2)
 ·(refine e1_2 (List.mem_flatMap.mp hv) ?_; intro z _ hz)
  exact (mem_belN.mp hz).2.1
theorem act_lo : ∀ order : List Nat, decide ((order.filter (isDir th)).length < order.length) = !(loN th order).isEmpty
 | [] => rfl
 | v :: order => by
  have ih := act_lo order
  have hle := List.length_filter_le (isDir th) order
  unfold loN at ih ⊢
  cases h : isDir th v with
  | true =>
   rw [List.filter_cons_of_pos h, List.filter_cons_of_neg (by simp [h]), List.length_cons, List.length_cons, ← ih]
   rw [decide_eq_decide]; lia
  | false =>
   rw [List.filter_cons_of_neg (by simp [h]), List.filter_cons_of_pos (by simp [h]), List.length_cons]
   rw [decide_eq_true (by lia)]; rfl
theorem ref_dir (v : Nat) : (refT v (-2) == refU v (Str.ofString "already marked done")) = true := by
 rw [beq_iff_eq]
 apply cs_inj
 unfold refT refU refW
 rw [cs_app, cs_app, cs_app, cs_app, cs_app]
 simp only [List.append_assoc]
 rfl
theorem ref_not (v : Nat) : (refT v 1 == refU v (Str.ofString "not passed out (still not ready)")) = true := by
 rw [beq_iff_eq]
 apply cs_inj
 unfold refT refU refW
 rw [cs_app, cs_app, cs_app, cs_app, cs_app]
 simp only [List.append_assoc]
 rfl
end
end
section
section
variable {prog : Program} {w : World} {A : Around} {R : Result → Shared → Prop} {s : Shared} {elt t0 i0 t1 i1 : Expr} {scope : Scope} {pos : Pos} {it acc : Value} {env : Env}
theorem start_two (h0 : codeAny (model prog w) A (.compLoop (.ListComp elt [⟨t0, i0, [], 0⟩, ⟨t1, i1, [], 0⟩] scope pos) 1 it acc env) R s)
  (h : wpAny (model prog w) A (pyIter it) (fun it' s' => codeAny (model prog w) A (.compLoop (.ListComp elt [⟨t0, i0, [], 0⟩, ⟨t1, i1, [], 0⟩] scope pos) 1 it' acc env) R s')
   (notedBy (model prog w) A env fun x s' => R (.error x) s') s) :
  codeAny (model prog w) A (.compStart (.ListComp elt [⟨t0, i0, [], 0⟩, ⟨t1, i1, [], 0⟩] scope pos) 1 it acc env) R s := by
 refine codeAny_of_tree ?_
 show wpAny _ _ ((compStart (.ListComp elt [⟨t0, i0, [], 0⟩, ⟨t1, i1, [], 0⟩] scope pos) 1 it acc env).onRaise (fun x => do noteFrame x env; standAt theWindowsPlace)) _ _ s
 refine wpAny_notedAt ?_
 unfold compStart
 show wpAny _ _ (ask >>= _) _ _ s
 refine wpAny_bind (wpAny_askSetting (wpAny_ite ?_))
 split
 ·first
   | exact wpAny_bind (wpAny_pure (wpAny_pure (And.intro rfl h0)))
   | exact wpAny_pure (And.intro rfl h0)
 ·first
   | exact wpAny_bind (wpAny_rule (wpAny_bind (wpAny_standAt (wpAny_bind (wpAny_mono h (fun it' s' h' => wpAny_pure (And.intro rfl h')) fun _ _ x => x)))))
   | (refine wpAny_bind (wpAny_rule ?_); show wpAny _ _ (standAt i1.pos >>= _) _ _ s; exact wpAny_bind (wpAny_standAt (wpAny_bind (wpAny_mono h (fun it' s' h' => wpAny_pure (And.intro rfl h')) fun _ _ x => x))))
theorem turn_two0 : compTurn (.ListComp elt [⟨t0, i0, [], 0⟩, ⟨t1, i1, [], 0⟩] scope pos) 0 it acc env = (standAt i0.pos >>= fun _ => pyNext it >>= fun r => match r with
  | none => pure (.done .next)
  | some v => letOwnedTupleGo t0 it v >>= fun _ => assign t0 env v >>= fun _ => (do
    let x ← eval i1 env
    standAt i1.pos
    let x ← foldedSetIterable i1 env x
    let _ ← runOwn (.compStart (.ListComp elt [⟨t0, i0, [], 0⟩, ⟨t1, i1, [], 0⟩] scope pos) 1 (← holding [x] (pyIter x)) acc env) env
    again (.compLoop (.ListComp elt [⟨t0, i0, [], 0⟩, ⟨t1, i1, [], 0⟩] scope pos) 0 it acc env))) := by rfl
theorem turn_two1 : compTurn (.ListComp elt [⟨t0, i0, [], 0⟩, ⟨t1, i1, [], 0⟩] scope pos) 1 it acc env = (standAt i1.pos >>= fun _ => pyNext it >>= fun r => match r with
  | none => pure (.done .next)
  | some v => letOwnedTupleGo t1 it v >>= fun _ => assign t1 env v >>= fun _ =>
    (eval elt env >>= fun x => call (.builtin "list.append") [acc, x] >>= fun _ => pure ()) >>= fun _ =>
     again (.compLoop (.ListComp elt [⟨t0, i0, [], 0⟩, ⟨t1, i1, [], 0⟩] scope pos) 1 it acc env)) := by rfl
end
section
variable {c : Fx} {m : Loc} {l : Led} {elt t0 i0 t1 i1 : Expr} {scope : Scope} {pos : Pos} {ks : List Str} {gt : List (Str × Value)} {fr : List Str} {s : Shared}
inductive Tw1 (c : Fx) (J : Nat → Loc → List Value → Prop) (us ys : List Value) (b I1 I D : Addr) (oI : Obj) (l : Led) (n : Nat) (s : Shared) : Prop
 | mk (j : Nat) (m : Loc) (ys' : List Value) (o1 : Obj) (k : Nat) (h1 : n = us.length - j) (h2 : j ≤ us.length) (h3 : ys'.length = ys.length + j) (h4 : J j m ys') (h5 : o1.cls = .type "list_iterator" ∧ o1.data = .fields #[.ref b, .int (j : Nat) 0]) (h6 : c.S m ((I1, o1) :: (I, oI) :: (D, lst ys' k) :: l) s)
theorem two_inner {c' : Fx} (hV : c'.V) (hh : c'.A'.handled = none) (hX : ∀ e s, ¬ c'.X e s) {b : Addr} {us : List Value} {kb : Nat} {I D : Addr} {oI : Obj} (J : Nat → Loc → List Value → Prop)
  (hr : Rd c'.g l b (lst us kb))
  (turn : ∀ j u m ys L, us[j]? = some u → J j m ys → vAsg c' t1 u (fun m l => vE c' elt (fun y m' l' => l' = L ∧ J (j + 1) m' (ys ++ [y])) m l) m L)
  {R : Result → Shared → Prop} {ys : List Value} {k : Nat} (hN : ys.length + us.length ≤ 16777215) (S : c'.S m ((I, oI) :: (D, lst ys k) :: l) s) (h0 : J 0 m ys)
  (hR : ∀ m ys' k s', ys'.length = ys.length + us.length → J us.length m ys' → c'.S m ((I, oI) :: (D, lst ys' k) :: l) s' → R (.ok .next) s') :
  wpAny (M c'.w) c'.A' (pyIter (.ref b)) (fun I1 s => codeAny (M c'.w) c'.A' (.compStart (.ListComp elt [⟨t0, i0, [], 0⟩, ⟨t1, i1, [], 0⟩] scope pos) 1 I1 (.ref D) c'.env) R s) (fun _ _ => False) s := by
 have W := src_list (w := c'.w) hh b us
 refine mk_list' (c := c') hr.cons.cons _ _ s S fun I1 o1 s1 h1 S1 => ?_
 have loop : codeAny (M c'.w) c'.A' (.compLoop (.ListComp elt [⟨t0, i0, [], 0⟩, ⟨t1, i1, [], 0⟩] scope pos) 1 (.ref I1) (.ref D) c'.env) R s1 := by
  refine codeAny_loop rfl (Tw1 c' J us ys b I1 I D oI l) ?_ us.length ⟨0, m, ys, o1, k, by simp, by simp, by simp, h0, h1, S1⟩
  clear S1 S h0 h1
  (rintro n s hJq; refine hideG ?_; intro P0 hP0; obtain ⟨j, m, ys', o1, k, rfl, hj, hyl, hJ, hI, S⟩ := hJq; refine hP0 ?_; clear hP0 P0)
  show wpAny _ c'.A' ((compTurn (.ListComp elt [⟨t0, i0, [], 0⟩, ⟨t1, i1, [], 0⟩] scope pos) 1 (.ref I1) (.ref D) c'.env).onRaise (fun x => do noteFrame x c'.env; theTreesLotGoes x)) _ _ s
  refine wpAny_noted ?_
  rw [turn_two1]
  refine wpAny_bind (wpAny_standAt (wpAny_bind ?_))
  refine W.nxt c'.g c'.base c'.L c'.ks m ((I, oI) :: (D, lst ys' k) :: l) I1 o1 j s _ _ hj ⟨kb, hr.cons.cons⟩ hI S (fun v s' o' hlt hv ho' S' => ?_) fun s' hiN S' => ?_
  ·refine wpAny_bind (owned_not (S'.get (.head _)) (W.cls _ _ ho') W.own ?_)
   refine wpAny_bind (vAsg_ok hV (turn j v m ys' ((I1, o') :: (I, oI) :: (D, lst ys' k) :: l) hv hJ) _ _ s' S' (fun _ m2 l2 s2 h2 S2 => ?_) fun e s h => (hX e s h).elim)
   refine wpAny_bind (wpAny_bind (vE_ok hV elt _ _ _ h2 _ _ s2 S2 (fun y m3 l3 s3 h3 S3 => ?_) fun e s h => (hX e s h).elim))
   (refine e0_2 h3 ?_; clear h3; intro hE1 h3; subst hE1)
   have hsz : ys'.length ≤ 16777216 := by lia
   refine wpAny_bind (ap_list (vs := ys') S3 (Up.there (Up.there Up.here)) (by rw [sizeLine_eq]; exact hsz) fun s4 S4 => wpAny_pure ?_)
   exact wpAny_pure ⟨rfl, us.length - (j + 1), by lia, j + 1, m3, ys' ++ [y], o', k + 1, rfl, hlt, by simp; lia, h3, ho', S4⟩
  ·subst hiN
   exact wpAny_pure (hR m ys' k s' hyl hJ S')
 exact start_two loop (wpAny_pyIter_listiter (l := b) (i := 0) ⟨o1, S1.get (.head _), h1.1, h1.2⟩ loop)
inductive Tw0 (c : Fx) (J : Nat → Loc → List Value → Prop) (vs : List Value) (a I D : Addr) (l : Led) (n : Nat) (s : Shared) : Prop
 | mk (i : Nat) (m : Loc) (ys : List Value) (oI : Obj) (k : Nat) (h1 : n = vs.length - i) (h2 : i ≤ vs.length) (h3 : J i m ys) (h4 : oI.cls = .type "list_iterator" ∧ oI.data = .fields #[.ref a, .int (i : Nat) 0]) (h5 : c.S m ((I, oI) :: (D, lst ys k) :: l) s)
theorem two_outer {c' : Fx} (hV : c'.V) (hh : c'.A'.handled = none) (hxx : ∀ e s, ¬ c'.X e s) {a : Addr} {vs : List Value} {ka : Nat} {I D : Addr} {oI : Obj} (hr : Rd c'.g l a (lst vs ka)) (J : Nat → Loc → List Value → Prop)
  (hs : isSet i1 = false)
  (turn : ∀ i v m ys L, vs[i]? = some v → J i m ys → (∀ p ∈ l, p ∈ L) →
   vAsg c' t0 v (fun m l₀ => vE c' i1 (fun x m₁ l₁ => l₁ = L ∧ ∃ (b : Addr) (us : List Value) (kb : Nat) (J1 : Nat → Loc → List Value → Prop), x = .ref b ∧ Rd c'.g l b (lst us kb) ∧ J1 0 m₁ ys ∧ ys.length + us.length ≤ 16777215 ∧
    (∀ (j : Nat) u m ys L, us[j]? = some u → J1 j m ys → vAsg c' t1 u (fun m l => vE c' elt (fun y m' l' => l' = L ∧ J1 (j + 1) m' (ys ++ [y])) m l) m L) ∧ (∀ m ys', J1 us.length m ys' → J (i + 1) m ys')) m l₀) m L)
  {R : Result → Shared → Prop} (S : c'.S m ((I, oI) :: (D, lst [] 0) :: l) s) (h0 : J 0 m []) (hI : oI.cls = .type "list_iterator" ∧ oI.data = .fields #[.ref a, .int (0 : Nat) 0])
  (hR : ∀ m ys k s', J vs.length m ys → c'.S m ((D, lst ys k) :: l) s' → R (.ok .next) s') :
  codeAny (M c'.w) c'.A' (.compLoop (.ListComp elt [⟨t0, i0, [], 0⟩, ⟨t1, i1, [], 0⟩] scope pos) 0 (.ref I) (.ref D) c'.env) R s := by
 have W := src_list (w := c'.w) hh a vs
 refine codeAny_loop rfl (Tw0 c' J vs a I D l) ?_ vs.length ⟨0, _, [], oI, 0, by simp, by simp, h0, hI, S⟩
 clear S h0 hI
 (rintro n s hJq; refine hideG ?_; intro P0 hP0; obtain ⟨i, m, ys, oI, k, rfl, hi, hJ, hI, S⟩ := hJq; refine hP0 ?_; clear hP0 P0)
 show wpAny _ c'.A' ((compTurn (.ListComp elt [⟨t0, i0, [], 0⟩, ⟨t1, i1, [], 0⟩] scope pos) 0 (.ref I) (.ref D) c'.env).onRaise (fun x => do noteFrame x c'.env; theTreesLotGoes x)) _ _ s
 refine wpAny_noted ?_
 rw [turn_two0]
 refine wpAny_bind (wpAny_standAt (wpAny_bind ?_))
 refine W.nxt c'.g c'.base c'.L c'.ks m ((D, lst ys k) :: l) I oI i s _ _ hi ⟨ka, hr.cons⟩ hI S (fun v s' o' hlt hv ho' S' => ?_) fun s' hiN S' => ?_
 ·refine wpAny_bind (owned_not (S'.get (.head _)) (W.cls _ _ ho') W.own ?_)
  refine wpAny_bind (vAsg_ok hV (turn i v m ys ((I, o') :: (D, lst ys k) :: l) hv hJ fun p hp => .tail _ (.tail _ hp)) _ _ s' S' (fun _ m2 l2 s2 h2 S2 => ?_) fun e s h => (hxx e s h).elim)
  refine wpAny_bind (vE_ok hV i1 _ _ _ h2 _ _ s2 S2 (fun x m3 l3 s3 h3 S3 => ?_) fun e s h => (hxx e s h).elim)
  (refine hideG ?_; intro P0 hP0; obtain ⟨rfl, b, us, kb, J1, rfl, hb, hj0, hsz, ht1, hJ1⟩ := h3; refine hP0 ?_; clear hP0 P0)
  refine wpAny_bind (wpAny_standAt ?_)
  rw [folded_not hs, pure_bind]
  refine wpAny_bind (wpAny_holding ?_)
  have z := two_inner (elt := elt) (t0 := t0) (i0 := i0) (t1 := t1) (i1 := i1) (scope := scope) (pos := pos) hV hh hxx J1 hb ht1 (R := fun r s' => ∃ m ys' k, r = .ok .next ∧ J (i + 1) m ys' ∧ c'.S m ((I, o') :: (D, lst ys' k) :: l) s') hsz S3 hj0 fun m ys' k s' _ j S' => ⟨m, ys', k, rfl, hJ1 m ys' j, S'⟩
  refine wpAny_mono z (fun I1 s4 h4 => ?_) fun _ _ x => x.elim
  refine wpAny_bind (wpAny_runOwn (codeAny_mono h4 ?_))
  (rintro r s5 hJq; refine hideG ?_; intro P0 hP0; obtain ⟨m5, ys5, k5, rfl, j5, S5⟩ := hJq; refine hP0 ?_; clear hP0 P0)
  exact wpAny_pure ⟨rfl, vs.length - (i + 1), by lia, i + 1, m5, ys5, o', k5, rfl, hlt, j5, ho', S5⟩
 ·subst hiN
  exact wpAny_pure (hR m ys k s' hJ S')
noncomputable def ObCo2 (c : Fx) (elt t0 i0 t1 i1 : Expr) (scope : Scope) (pos : Pos) (cl : List (Str × Addr)) (v : Value) (KD : Addr → List Value → Nat → Led → Prop) (m : Loc) (l : Led) : Prop :=
  ∀ (s : Shared) (E : Value → Shared → Prop) (use : Option (Value → Sem Unit)) (Q : Value → Shared → Prop), c.S m l s →
  (∀ D ys k l' C s', KD D ys k l' → c.S m ((D, lst ys k) :: l') s' → Free c C ((D, lst ys k) :: l') → (∃ mC, s'.heap.Ns C mC) → compPost (M c.w) c.A' E use Q (.ref D) C (.ok .next) s') →
  wpAny (M c.w) c.A' (pyIter v) (fun it s₂ => wpAny (M c.w) c.A' (newList []) (fun acc s₃ => wpAny (M c.w) c.A' (newFunctionEnv scope c.env.globals cl [] c.env.qual none .none (some c.env)) (fun cenv s₄ =>
   codeAny (M c.w) c.A' (.compStart (.ListComp elt [⟨t0, i0, [], 0⟩, ⟨t1, i1, [], 0⟩] scope pos) 0 it acc { cenv with scope := relabel scope c.env }) (compPost (M c.w) c.A' E use Q acc cenv.locals) s₄) E s₃) E s₂) E s
theorem comp_two {KD : Addr → List Value → Nat → Led → Prop} {a : Addr} {vs : List Value} {ka : Nat} (hV : c.V) (hz : c.hz = true) (hh : c.A'.handled = none) (hc : compChk scope ks gt fr = true) (hn : 1 ≤ c.n) (hN : vs.length ≤ 16777215)
  (hr : Rd c.g l a (lst vs ka)) (J : Nat → Loc → List Value → Prop) (h0 : J 0 (ks.map fun x => (x, none)) [])
  (hs : isSet i1 = false)
  (turn : ∀ c0 : Fx, let c' := c0.wg gt; c'.V → c'.w = c.w → c'.hz = true → c'.n = c.n - 1 → c'.gt = gt → c'.cs = csOf c fr → c.g.StaysIn c'.g → c'.LpX → ∀ i v m ys L, vs[i]? = some v → J i m ys → (∀ p ∈ l, p ∈ L) →
   vAsg c' t0 v (fun m l₀ => vE c' i1 (fun x m₁ l₁ => l₁ = L ∧ ∃ (b : Addr) (us : List Value) (kb : Nat) (J1 : Nat → Loc → List Value → Prop), x = .ref b ∧ Rd c'.g l b (lst us kb) ∧ J1 0 m₁ ys ∧ ys.length + us.length ≤ 16777215 ∧
    (∀ (j : Nat) u m ys L, us[j]? = some u → J1 j m ys → vAsg c' t1 u (fun m l => vE c' elt (fun y m' l' => l' = L ∧ J1 (j + 1) m' (ys ++ [y])) m l) m L) ∧ (∀ m ys', J1 us.length m ys' → J (i + 1) m ys')) m l₀) m L)
  (done : ∀ D m ys k, J vs.length m ys → KD D ys k l) : ObCo2 c elt t0 i0 t1 i1 scope pos (clOf (fun x => (c.cs.lookup x).getD 0) scope.names []) (.ref a) KD m l := by
 intro s E use Q S fin
 refine mk_list' (c := c) hr _ _ s S fun I oI s1 hI S1 => wpAny_newList ?_ (by decide)
 have S2 := S1.push (s' := { s1 with heap := s1.heap.push (lst [] 0) }) (lst [] 0) rfl rfl rfl rfl
 generalize hs2 : ({ s1 with heap := s1.heap.push (lst [] 0) } : Shared) = s2 at S2
 generalize hD : s1.heap.objs.size = D at S2
 (refine e2_7 (hV.into hz S2 Ex.rfl) ?_; intro frs g' C' H hzz RR st gsz back)
 have hk := hc
 unfold compChk at hk
 simp only [Bool.and_eq_true] at hk
 (refine e0_5 hk ?_; clear hk; intro k1 k2 _ k4 _)
 simp only [Bool.and_eq_true, List.all_eq_true, beq_iff_eq, bne_iff_ne, Bool.or_eq_true, decide_eq_true_eq] at k1 k2 k4
 refine wpAny_newFunctionEnv (fun x hx => (k2 x hx).1.1) (fun x hx => (nomatch hx)) (fun h3 hns hsb => ?_) k1
 have old : ∀ b o, s2.heap.get? b = some o → h3.get? b = some o := fun b o e => hsb.extBut b o (Nat.ne_of_lt (Heap.lt_size e)) (Heap.get?_push_of_some _ e)
 have hV' := Fx.cmpV (C := s2.heap.objs.size) hV hc hn C'
 have hmp : (fun x => ([] : List (Str × Value)).reverse.lookup x) = mp (ks.map fun x => (x, none)) := by funext y; rw [mp_unb_none]; rfl
 rw [hmp] at hns
 have S3 : (c.cmp frs g' s2.heap.objs.size s2 scope (clOf (fun x => (c.cs.lookup x).getD 0) scope.names []) ks gt (csOf c fr)).S (ks.map fun x => (x, none)) ((I, oI) :: (D, lst [] 0) :: l) { s2 with heap := h3, toks := s2.toks + ([] : List (Str × Value)).length } := by
  refine St.perm ⟨⟨hns, fun b o e => old _ _ (H.keep b o e), Nat.le_of_eq gsz⟩, fun p hp => ⟨old _ _ (H.nw p hp).1, Nat.ne_of_lt (Heap.lt_size (H.nw p hp).1), (H.nw p hp).2⟩, H.nd, ⟨by show (ks.map fun x => (x, (none : Option Value))).map (·.1) = ks; rw [List.map_map]; exact List.map_id' _, k4⟩, S2.G, rfl, fun b _ o e => ⟨o.slots, old b o e⟩, hzz, fun hm => absurd (fro_lt C'.ff hm) (Nat.lt_irrefl _), fun b hb => by obtain ⟨hn, o, ho, _⟩ := C'.ff.mem hb; exact ⟨hn, o, ho⟩⟩ (List.Perm.swap _ _ _)
 have hCn : s2.heap.get? s2.heap.objs.size = none := size_none _
 have fin2 : ∀ m' ys k s', J vs.length m' ys → (c.cmp frs g' s2.heap.objs.size s2 scope (clOf (fun x => (c.cs.lookup x).getD 0) scope.names []) ks gt (csOf c fr)).S m' ((D, lst ys k) :: l) s' → compPost (M c.w) c.A' E use Q (.ref D) s2.heap.objs.size (.ok .next) s' := by
  intro m' ys k s' j S'
  have S4 := back ((D, lst ys k) :: l) s' S'.hp S'.G S'.O S'.W S'.Z
  rw [List.append_nil] at S4
  refine fin D ys k l s2.heap.objs.size s' (done D m' ys k j) S4 (Free.new S2 hCn fun hm => ?_) ⟨_, S'.F.ns⟩
  (refine e1_2 (List.mem_map.mp hm) ?_; intro p hp e)
  exact (S'.N p hp).2.1 e
 have turn' := turn (c.cmp frs g' s2.heap.objs.size s2 scope (clOf (fun x => (c.cs.lookup x).getD 0) scope.names []) ks gt (csOf c fr)) hV' rfl rfl rfl rfl rfl st (fun _ _ _ (h : False) => h.elim)
 have rdl : ∀ {b o}, Rd c.g l b o → Rd g' l b o := fun h => h.imp id (st _ _)
 have W := src_list (w := c.w) hh a vs
 have loop := two_outer (c' := c.cmp frs g' s2.heap.objs.size s2 scope (clOf (fun x => (c.cs.lookup x).getD 0) scope.names []) ks gt (csOf c fr)) (i0 := i0) (scope := scope) (pos := pos) hV' hh (fun _ _ h => h) (rdl hr) J hs turn' (R := compPost (M c.w) c.A' E use Q (.ref D) s2.heap.objs.size) S3 h0 hI fin2
 have := codeAny_compStart_list (elt := elt) (target := t0) (iter := i0) (ifs := []) (rest := [⟨t1, i1, [], 0⟩]) (scope := scope) (pos := pos) (acc := .ref D) loop (W.self _ _ _ _ _ _ I oI _ _ _ ⟨ka, (rdl hr).cons⟩ hI S3 loop)
 exact this
theorem o_comp2 {K : KV Value} (hV : c.V) (hcl : closureFor scope c.env = pure (clOf (fun x => (c.cs.lookup x).getD 0) scope.names [])) (hc : compChk scope ks gt fr = true) (h : vE c i0 (fun v m l => ObCo2 c elt t0 i0 t1 i1 scope pos (clOf (fun x => (c.cs.lookup x).getD 0) scope.names []) v (fun D ys k l' => K (.ref D) m ((D, lst ys k) :: l')) m l) m l) (hs : isSet i0 = false := by rfl) :
  Ob c (eval (.ListComp elt [⟨t0, i0, [], 0⟩, ⟨t1, i1, [], 0⟩] scope pos) c.env) K m l := by
 intro Q E s S k xx
 have hk := hc
 unfold compChk at hk
 simp only [Bool.and_eq_true] at hk
 (refine e0_3 hk ?_; clear hk; intro k1 k2 _)
 simp only [Bool.and_eq_true, List.all_eq_true, beq_iff_eq, bne_iff_ne, Bool.or_eq_true] at k1 k2
 rw [eval_ListComp]
 refine wpAny_comprehension_free (use := none) rfl (folded_not hs _) hcl k1 (fun x hx hl => ((k2 x hx).2).resolve_left fun q => q hl) (vE_ok hV i0 _ _ _ h _ E s S (fun v m' l' s' h' S' => ?_) xx)
 refine h' s' E none Q S' fun D ys kk l2 C s2 hK S2 F hC => ?_
 (refine e1_1 hC ?_; clear hC; intro mC hC)
 exact i1_2 mC hC (fun h3 hs3 => k _ _ _ _ hK (S2.hid (tk := s2.toks) F hs3))
end
section
variable {c : Fx} {m : Loc} {l : Led} {K : KV Value} {a : Addr} {vs : List Value} {k : Nat} {i : Int} {t : Tok} {xs : List Int}
theorem o_neb {x y : Bool} (h : K (.bool (!(x == y))) m l) : Ob c (compareOp .NotEq (.bool x) (.bool y)) K m l := by
 intro Q E s S kk xx
 exact PySem.SeqAt.RcNeAt.bool_bool (A := c.A') (s := s) x y _ _ _ _ (kk _ _ _ _ h S)
theorem ints_any (h : Ints vs xs) (i : Int) : vs.any (fun v => match v with | .int z _ => z == i | _ => false) = xs.contains i := by
 rw [Bool.eq_iff_iff, List.any_eq_true, List.contains_iff_mem]
 constructor
 ·(rintro hJq; (refine e1_2 hJq ?_; clear hJq; intro v hv he))
  (refine e1_1 (List.getElem?_of_mem hv) ?_; intro j hj)
  have hl : j < xs.length := by rw [← h.len]; rcases Nat.lt_or_ge j vs.length with q | q; exact q; rw [List.getElem?_eq_none q] at hj; cases hj
  (refine e1_1 (h.get j _ (List.getElem?_eq_getElem hl)) ?_; intro t ht)
  rw [hj] at ht; cases ht
  have : xs[j] = i := by simpa using he
  exact this ▸ List.getElem_mem hl
 ·intro hi
  (refine e1_1 (List.getElem?_of_mem hi) ?_; intro j hj)
  (refine e1_1 (h.get j _ hj) ?_; intro t ht)
  exact i1_2 _ (List.mem_of_getElem? ht) (by simp)
theorem ints_mem (h : Ints vs xs) {v : Value} (hv : v ∈ vs) : ∃ z t, v = .int z t := by
 (refine e1_1 (List.getElem?_of_mem hv) ?_; intro j hj)
 have hl : j < xs.length := by rw [← h.len]; rcases Nat.lt_or_ge j vs.length with q | q; exact q; rw [List.getElem?_eq_none q] at hj; cases hj
 (refine e1_1 (h.get j _ (List.getElem?_eq_getElem hl)) ?_; intro t ht)
 rw [hj] at ht; cases ht
 exact i2_1 _ _ rfl
theorem o_inL (ha : Rd c.g l a (lst vs k)) (hI : Ints vs xs) (h : K (.bool (xs.contains i)) m l) : Ob c (compareOp .In (.int i t) (.ref a)) K m l := by
 intro Q E s S kk xx
 refine SeqAt.in_listAt (fun v => match v with | .int z _ => z == i | _ => false) (items := vs.toArray) ⟨_, S.rd ha, rfl, _, rfl⟩ (fun v hv => ?_) ?_
 ·(refine e2_1 (ints_mem hI (by simpa using hv)) ?_; rintro z u rfl)
  exact SeqAt.EqAt.int_int _ _ _ _
 ·refine kk _ _ _ _ ?_ S
  have := ints_any hI i
  simp only [List.any_toArray]
  rw [this]; exact h
theorem o_ninL (ha : Rd c.g l a (lst vs k)) (hI : Ints vs xs) (h : K (.bool (!(xs.contains i))) m l) : Ob c (compareOp .NotIn (.int i t) (.ref a)) K m l := by
 intro Q E s S kk xx
 refine SeqAt.notIn_listAt (fun v => match v with | .int z _ => z == i | _ => false) (items := vs.toArray) ⟨_, S.rd ha, rfl, _, rfl⟩ (fun v hv => ?_) ?_
 ·(refine e2_1 (ints_mem hI (by simpa using hv)) ?_; rintro z u rfl)
  exact SeqAt.EqAt.int_int _ _ _ _
 ·refine kk _ _ _ _ ?_ S
  have := ints_any hI i
  simp only [List.any_toArray]
  rw [this]; exact h
theorem SpecX.meth {w : World} {n : Nat} {f q x : Addr} {rest : List Value} {pre : Heap → Prop} {Lin : Led} {Φ : Value → Led → Prop} {Ψ : Value → List Value → Led → Prop} (h : SpecX w n f (.ref x :: rest) pre Lin Φ Ψ) : SpecX w n q rest (fun g => pre g ∧ g.get? q = some (methodObj (.ref f) (.ref x))) Lin Φ Ψ := by
 intro A outer g s C H hz hg hp
 exact method_call (H.keep _ _ hp.2) (h A outer g s C H hz hg hp.1)
theorem o_umS {C f : Addr} {name : Str} {pos p sp : Pos} {o e : Expr} (hV : c.V) (O : ClsOk c.w.params C) (hD : hasD c.w.params C = true) (hn : findIn (KF c.w.params) (.ref C) name = some (some (.ref f))) (ht : typeIn (KF c.w.params) (.ref f) = some (.type "function"))
  (hgf : specialIn (KF c.w.params) (.ref f) "__get__" = some (some (.builtin "function.__get__"))) (ht2 : takesIn (KF c.w.params) (.ref f) = some false) (hc : copiedNames.contains name = false) (hkp : fnIn (KF c.w.params) f = true)
  (h : vE c o (fun ov m l => ∃ x dx n ks, ov = .ref x ∧ Rd c.g l x (instObj C dx) ∧ Rd c.g l dx (iD c.w.params ks n) ∧ kget name ks = none ∧ ∀ q, vE c e (fun v m l => ∃ a vs k, v = .ref a ∧ Rd c.g l a (lst vs k) ∧ vs.length ≤ sizeLine ∧ (q, methodObj (.ref f) (.ref x)) ∈ l ∧ Ob c (call (.ref q) vs) K m l) m ((q, methodObj (.ref f) (.ref x)) :: l)) m l)
  (hb : isCall o = false := by rfl) (he : starEach [.Starred e sp] c.env = [(true, eval e c.env)] := by rfl) : Ob c (eval (.Call (.Attribute o name p) [.Starred e sp] [] pos) c.env) K m l := by
 have hbase : attributeBase o name c.env (eval o c.env) = eval o c.env := by cases o <;> first | rfl | cases hb
 have hform : methodCallForm ([Expr.Starred e sp].length + ([] : List Keyword).length) (backTo pos (starEach [.Starred e sp] c.env)) (backToKw pos (keywordEach [] c.env)) = false := by rw [he]; rfl
 have hpos : methodCallPos false o c.env p pos = pure pos := by unfold methodCallPos; simp
 intro Q E s S kk xx
 rw [arm_eval_Call, hbase]
 refine wpAny_bind (vE_ok hV o _ _ _ h _ E s S (fun ov m1 l1 s1 h1 S1 => ?_) xx)
 (refine e4_5 h1 ?_; clear h1; intro x dx n ks hE1 hx hd hk h1; subst hE1)
 refine wpAny_bind (wpAny_standAt ?_)
 unfold methodCall
 rw [hform, hpos]
 refine wpAny_bind (wpAny_holding ?_)
 unfold calleeOf
 simp only [Bool.false_eq_true, if_false]
 refine wpAny_bind (get_bind (hV.C.X.keeps S1.F.keep) (inst_at S1 hx hd) O.ga (findObj_fn hD hn hgf ht2 hc (by show lookIn name (iD c.w.params ks n) = _; rw [lookIn_dict, getL_ent, hk])) O.gt
  (wpAny_call (fn_get (s := { s1 with toks := s1.toks + 1 }) (hV.C.X.keeps S1.F.keep) ht (handed_on rfl ?_))))
 refine wpAny_pure (wpAny_bind (wpAny_pure ?_))
 have S2 := S1.push (s' := { s1 with heap := s1.heap.push (methodObj (.ref f) (.ref x)), toks := s1.toks + 1 }) (methodObj (.ref f) (.ref x)) rfl rfl rfl rfl
 show wpAny _ _ (callWith pos (.ref s1.heap.objs.size) [] (backTo pos (starEach [.Starred e sp] c.env)) []) _ _ _
 rw [he]
 refine ks_call (P := MethP (KF c.w.params) s1.heap.objs.size f (.ref x)) rfl (keeps_M hkp) (ks_lone (vE_ok hV e _ _ _ (h1 s1.heap.objs.size) _ E _ S2 (fun v m' l' s' h' S' => ?_) xx))
 (refine e3_5 h' ?_; clear h'; intro a vs k hE1 hr hz hq h'; subst hE1)
 have z : wpAny (M c.w) c.A' (collect (.ref a)) (fun vs s₂ => MethP (KF c.w.params) s1.heap.objs.size f (.ref x) s₂.heap ∧ wpAny (M c.w) c.A' (call (.ref s1.heap.objs.size) ([] ++ vs)) Q E s₂) E s' := by
  refine wpAny_collect_seq a (.inl rfl) (S'.rd hr) rfl (items := vs.toArray) rfl (fun h2 hk2 => ?_) (by simpa using hz)
  have S2 := S'.keeps (s' := { s' with heap := h2 }) hk2 rfl rfl
  exact ⟨⟨S2.get hq, hV.C.X.keeps S2.F.keep⟩, h' Q E _ S2 kk xx⟩
 unfold StarOf notIterableAtAll
 exact wpAny_bind (wpAny_specialOf ⟨_, S'.rd hr, rfl⟩ PySem.F.slot_list_iter.lookup (wpAny_pure ⟨rfl, z⟩))
end
end
section
theorem LEND {w : World} {x aT bl aO : Addr} (th : List Th) (h9 : th.length = 9) (hO : ∀ (i : Nat) y, th[i]? = some y → y.ok i) (order : List Nat) {vo : List Value} {ko : Nat} (hvo : Ints vo (il order)) (st : Srt) (SL : Led) (hS : SorL w x st SL) (hinv : MInv th order [])
  (ha : abs st.ns = mkA (keyN (pT th) 8) (npM th order []) (belN (pT th) 8)) (hr : st.rdy = some []) (hpo : st.po = order.length) (hnf : st.nf = (order.filter (isDir th)).length) :
  SpecX w 6 334 [.ref x, .ref aT, .ref bl, .ref aO] (fun g => ThAt (fun a o => g.get? a = some o) aT th ∧ BelAt (fun a o => g.get? a = some o) bl (pT th) ∧ g.get? aO = some (lst vo ko)) SL (fun v l' => v = .bool true) (fun _ _ _ => False) := by
 refine specC_vc [("sorter", .ref x), ("things", .ref aT), ("below", .ref bl), ("order", .ref aO)] [("sorter", .ref x), ("order", .ref aO)] [("things", .ref aT), ("below", .ref bl)] ["place", "loose", "active", "words", "group"] (fun L => [(Str.ofString "below", L + 2), (Str.ofString "things", L + 1)]) fi_law_end_right_ok rfl (by kernel_rfl) (by kernel_rfl) (by kernel_rfl) (by kernel_rfl) (fun L => by kernel_rfl) (fun L => ?_) (fun L => by show (["below", "things"].map Str.ofString).Nodup; decide +kernel) (fun L => ?_) ?_
 ·simp only [List.forall_mem_cons]
  exact ⟨⟨by kernel_rfl, by decide, by decide⟩, ⟨by kernel_rfl, by decide, by decide⟩, fun _ h => nomatch h⟩
 ·simp only [List.forall_mem_cons]
  exact ⟨⟨by kernel_rfl, by rfl⟩, ⟨by kernel_rfl, by rfl⟩, fun _ h => nomatch h⟩
 intro c0 c hw hz hm hV hn hgt hcs hck he hX hp cells hcells
 dsimp only [fi_law_end_right] at hgt he
 subst hw
 (refine e0_3 hp ?_; clear hp; rintro hth ⟨bas, kb, hb1, hb2, hb3⟩ hpO)
 (refine e2_3 hcells.two ?_; intro oB oT hE1 hB hT; subst hE1)
 have hT' : oT.data = .cell (some (.ref aT)) := hT
 have hB' : oB.data = .cell (some (.ref bl)) := hB
 (refine e2_3 (hth.at h9) ?_; intro as ka hTa hal hAt)
 have hp8 := pT_le h9 hO
 have hun := Fx.un4 hV hm
 have hvl : vo.length = order.length := by rw [hvo.len]; simp [il]
 have hol : order.length ≤ 9 := nodup_le9 (by have := hinv.nd; rwa [List.append_nil] at this) fun v hv => hinv.le v (by simpa using hv)
 have hva : ∀ (j : Nat) (v : Value), vo[j]? = some v → ∃ (u : Nat) (tu : Tok), order[j]? = some u ∧ u ≤ 8 ∧ v = Value.int (u : Int) tu := by
  intro j v hv
  have hj : j < order.length := by
   rw [← hvl]
   rcases Nat.lt_or_ge j vo.length with q | q
   ·exact q
   ·rw [List.getElem?_eq_none q] at hv; cases hv
  have hoj := List.getElem?_eq_getElem hj
  obtain ⟨tu, htu⟩ := hvo.get j ((order[j] : Nat) : Int) (by unfold il; rw [List.getElem?_map, hoj]; rfl)
  rw [htu] at hv
  exact i2_3 _ tu hoj (hinv.le _ (by rw [List.append_nil]; exact List.getElem_mem hj)) ((Option.some.inj hv).symm)
 (refine stq hV ?_; intro K qK; walk_at"go")
 refine o_acomp (ks := [Str.ofString "place"]) (gt := []) (fr := [Str.ofString "things"]) hV ?_ (clos_cs hV (by rw [hcs]; kernel_rfl)) (by kernel_rfl) rfl ?_
 ·rw [he]; kernel_rfl
 walk_at"go"
 refine comp_src (ks := [Str.ofString "place"]) (gt := []) (fr := [Str.ofString "things"]) hV hz (src_list (Vw.hh' hV hz) aO vo) (by kernel_rfl) (by lia) (by lia) (mk_list' (.inr hpO)) (fun j m' l' ys => Ints ys (il (loN th (order.take j))) ∧ l' = (c.L + 2, oB) :: (c.L + 1, oT) :: SL ∧ ∃ o, m' = ([("place", o)] : Loc)) ⟨.nil, rfl, _, rfl⟩ (fun g p l h => by obtain ⟨k, h⟩ := h; exact ⟨k, h.cons⟩) ?_ ?_ ?_
 ·(rintro j m' l' ys g hst' hJq; (refine e0_3 hJq ?_; clear hJq; intro _ hE1 _; subst hE1))
  exact ⟨_, .inr (hst' _ _ hpO)⟩
 ·intro c0' c' hV' e1 hz' en hgt' hcs' hst' hX' j v m' l' ys I2 oI2 D k hj hv hJ KA KS hKA hKS
  (refine hideG ?_; intro P0 hP0; obtain ⟨hys, rfl, o, rfl⟩ := hJ; refine hP0 ?_; clear hP0 P0)
  have hV := hV'
  have hgt := hgt'
  (refine e2_3 (hva j v hv) ?_; rintro u tu hu hu8 rfl)
  have hf : loN th (order.take (j + 1)) = loN th (order.take j) ++ (if (!isDir th u) = true then [u] else []) := by
   unfold loN
   rw [tk_snoc hu, List.filter_append]
   congr 1
   cases h : isDir th u <;> simp [List.filter, h]
  have hcs2 : c'.cs = [(Str.ofString "things", c.L + 1)] := by rw [hcs']; unfold csOf; rw [hcs]; kernel_rfl
  (refine e3_3 (hAt u hu8) ?_; intro a vs kk ha' hga hia)
  (refine e1_1 (hia.get 2 ((tA th u).k : Int) rfl) ?_; intro tk htk)
  simp only [vCT]
  walk_at"go"
  refine o_cel hV (by rw [hcs2]; repeat constructor) (.inl (by repeat constructor)) hT' ?_
  walk_at"go"
  refine o_lst (.inr (hst' _ _ hTa)) (by lia) (by lia) (v := .ref a) (by rw [List.getElem?_map, Int.toNat_natCast, ha']; rfl) ?_
  walk_at"go"
  refine o_lst (.inr (hst' _ _ hga)) (by decide) (by decide) htk ?_
  walk_at"go"
  constructor
  ·intro h0
   have h0' : (!isDir th u) = true := by unfold isDir; simp at h0 ⊢; lia
   rw [if_pos h0'] at hf
   refine hKA _ _ _ _ _ (.rfl) ⟨?_, rfl, _, rfl⟩
   rw [hf]; unfold il; rw [List.map_append]; exact hys.snoc _ _
  ·intro h0
   have h0' : ¬ (!isDir th u) = true := by unfold isDir; simp at h0 ⊢; lia
   rw [if_neg h0', List.append_nil] at hf
   refine hKS _ _ _ _ (.rfl) ⟨?_, rfl, _, rfl⟩
   rw [hf]; exact hys
 (rintro D m' l' ys kD hJq; (refine e0_3 hJq ?_; clear hJq; intro hys hE1 _; subst hE1))
 rw [hvl, List.take_of_length_le (Nat.le_refl _)] at hys
 have hyl : ys.length = (loN th order).length := by rw [hys.len]; simp [il]
 have hll := lo_len hinv
 (refine qK.n _ _ ?_; (try clear qK K); refine stq hV ?_; intro K qK; walk_at"go")
 (refine hideG ?_; intro P0 hP0; obtain ⟨dx, d, n, t1, t2, t3, t4, t5, t6, rv, hx1, hx2, hrv, hnd⟩ := hS.own; refine hP0 ?_; clear hP0 P0)
 refine o_um hV fi_TopologicalSorter_is_active_ok rfl (cls240 _) (Or.inl (.tail _ (.tail _ (.tail _ hx1)))) (Or.inl (.tail _ (.tail _ (.tail _ hx2)))) (by kernel_rfl) (by kernel_rfl) rfl ?_
 walk_at"go"
 refine o_specL hV (ISACT st SL hS [] hr (by simp)) (le_n hn rfl) (R := (D, lst ys kD) :: (c.L + 2, oB) :: (c.L + 1, oT) :: []) (.drop (.drop (.drop .rfl))) (fun _ _ _ => trivial) ?_
 (rintro _ SL1 hJq; (refine e0_2 hJq ?_; clear hJq; intro hE1 hS1; subst hE1))
 rw [show (decide (st.nf < st.po) || !([] : List Nat).isEmpty) = !ys.isEmpty from by
  rw [hnf, hpo, act_lo]
  have : (loN th order).isEmpty = ys.isEmpty := by rw [Bool.eq_iff_iff, List.isEmpty_iff_length_eq_zero, List.isEmpty_iff_length_eq_zero, hyl]
  rw [this]; simp]
 generalize hact : ys.isEmpty = ye
 walk_at"go"
 (refine qK.n _ _ ?_; (try clear qK K))
 refine ob_drp (Drp.perm (l' := (D, lst ys kD) :: (c.L + 2, oB) :: (c.L + 1, oT) :: SL1) List.perm_append_comm ?_)
 (refine stIf hV ?_; intro K qK KT qI; walk_at"go")
 refine o_is rfl ?_
 walk_at"go"
 have hcmp1 : ∀ (b : Addr) (K : KV Value) m l, Rd c.g l D (lst ys kD) → Rd c.g l b (lst [] 0) → K (.bool (!ye)) m l → Ob c (compareOp .NotEq (.ref D) (.ref b)) K m l := by
  intro b K m l h1 h2 h3
  cases ye with
  | true =>
   have := List.isEmpty_iff.mp hact
   subst this
   exact ne_list (n := 0) h1 h2 rfl (by lia) (fun j v w hv => by simp at hv) h3
  | false => exact ne_listL h1 h2 (fun e => by rw [List.eq_nil_of_length_eq_zero e] at hact; cases hact) (by lia) h3
 have hcmp2 : ∀ (b : Addr) (K : KV Value) m l, Rd c.g l D (lst ys kD) → Rd c.g l b (lst [] 0) → K (.bool ye) m l → Ob c (compareOp .Eq (.ref D) (.ref b)) K m l := by
  intro b K m l h1 h2 h3
  cases ye with
  | true =>
   have := List.isEmpty_iff.mp hact
   subst this
   exact eq_list (n := 0) h1 h2 rfl (by lia) (fun j v w hv => by simp at hv) h3
  | false => exact eq_listL h1 h2 (fun e => by rw [List.eq_nil_of_length_eq_zero e] at hact; cases hact) (by lia) h3
 refine hcmp1 _ _ _ _ (.inl (by repeat constructor)) (.inl (by repeat constructor)) ?_
 walk_at"go"
 refine o_neb ?_
 walk_at"go"
 refine ⟨fun h => ?_, fun _ => ?_⟩
 ·cases ye <;> cases h
 walk_at"go"
 refine o_is rfl ?_
 walk_at"go"
 refine hcmp2 _ _ _ _ (.inl (by repeat constructor)) (.inl (by repeat constructor)) ?_
 walk_at"go"
 refine o_neb ?_
 walk_at"go"
 refine ⟨fun h => ?_, fun _ => ?_⟩
 ·cases ye <;> cases h
 refine qI.f _ _ (stn (qK.n _ _ ?_))
 (refine stq hV ?_; intro K qK; walk_at"go")
 refine o_range1 fun ra t1' t3' => ?_
 refine vfor_range (x := 0) (y := 9) hV hX 9 rfl (by decide) (by decide) List.mem_cons_self (.drop (.drop (.drop .rfl))) (fun i m l => ∃ (SLi : Led) (o1 o2 : Option Value), SorL c.w x st SLi ∧ l = (D, lst ys kD) :: (c.L + 2, oB) :: (c.L + 1, oT) :: SLi ∧
  m = ([("sorter", some (.ref x)), ("order", some (.ref aO)), ("place", o1), ("loose", some (.ref D)), ("active", some (.bool (!ye))), ("words", o2), ("group", none)] : Loc)) ⟨SL1, _, _, hS1, rfl, rfl⟩ ?_ ?_
 ·(rintro i t m l I oI hi hJq; refine hideG ?_; intro P0 hP0; obtain ⟨SLi, o1, o2, hSi, rfl, rfl⟩ := hJq; refine hP0 ?_; clear hP0 P0)
  rw [show (0 : Int) + (i : Int) = ((i : Nat) : Int) by lia]
  walk_at"go"
  (refine ob_gen ?_; intro KK kk)
  refine stl hV ?_
  walk_at"go"
  refine o_ninL (.inl (by repeat constructor)) hys ?_
  walk_at"go"
  have hio : (il (loN th order)).contains (i : Int) = true ↔ i ∈ loN th order := by rw [List.contains_iff_mem, mem_il]
  constructor
  ·intro hni
   have hni : i ∉ loN th order := fun q => by rw [hio.mpr q] at hni; cases hni
   have hki : i ∈ keyN (pT th) 8 := (keyN_le hp8).mpr (by lia)
   have hnp : npOf (abs st.ns) i = some (npM th order [] i) := by rw [ha, npOf_mk hki]
   have hvn : i ∈ st.ns.map (·.v) := by rw [(abs_mk ha).1]; exact hki
   (refine stq hV ?_; intro K1 qK1; walk_at"go")
   refine o_inL (.inr hpO) hvo ?_
   walk_at"go"
   have hio2 : (il order).contains (i : Int) = decide (i ∈ order) := by rw [Bool.eq_iff_iff, List.contains_iff_mem, mem_il, decide_eq_true_iff]
   rw [hio2]
   (refine qK1.n _ _ ?_; (try clear qK1 K1))
   (refine stIf hV ?_; intro K1 qK1 KT1 qI1; walk_at"go")
   have hq : 0 ≤ npM th order [] i ∨ npM th order [] i = -2 := by
    unfold npM
    split
    ·exact .inr rfl
    ·split
     ·rename_i h1 h2
      rcases h2 with h2 | h2
      ·exact (hni (mem_lo.mpr ⟨h2, by cases h : isDir th i with | true => exact absurd ⟨h2, h⟩ h1 | false => rfl⟩)).elim
      ·cases h2
     ·exact .inl (by decide)
   have href : (refT i (npM th order [] i) == refU i (if decide (i ∈ order) = true then Str.ofString "already marked done" else Str.ofString "not passed out (still not ready)")) = true := by
    by_cases hi : i ∈ order
    ·have hd : isDir th i = true := by cases h : isDir th i with | true => rfl | false => exact absurd (mem_lo.mpr ⟨hi, h⟩) hni
     rw [show npM th order [] i = -2 from by unfold npM; rw [if_pos ⟨hi, hd⟩], if_pos (by simpa using hi)]
     exact ref_dir i
    ·rw [show npM th order [] i = 1 from by unfold npM; rw [if_neg (fun q => hi q.1), if_neg (by simp [hi])], if_neg (by simpa using hi)]
     exact ref_not i
   have hwl : (if decide (i ∈ order) = true then Str.ofString "already marked done" else Str.ofString "not passed out (still not ready)").length ≤ 1000 := by split <;> decide +kernel
   refine o_specL hV (LREF st SLi hSi [] hr i (by lia) hvn _ hnp hq _ hwl) (le_n hn rfl) (R := (I, oI) :: (D, lst ys kD) :: (c.L + 2, oB) :: (c.L + 1, oT) :: []) (.drop (.drop (.drop (.drop .rfl)))) (fun _ _ _ => trivial) ?_
   (rintro _ SLj hJq; (refine e0_2 hJq ?_; clear hJq; intro hE1 hSj; subst hE1))
   rw [href]
   walk_at"go"
   refine qI1.f _ _ (stn (qK1.n _ _ (stn ?_)))
   exact kk _ _ _ (Drp.perm (l' := (I, oI) :: (D, lst ys kD) :: (c.L + 2, oB) :: (c.L + 1, oT) :: SLj) List.perm_append_comm ⟨_, rfl, SLj, _, _, hSj, rfl, rfl⟩)
  ·intro hni
   exact stn (kk _ _ _ ⟨_, [], .rfl, _, rfl, SLi, _, _, hSi, rfl, rfl⟩)
 (rintro m l hJq; refine hideG ?_; intro P0 hP0; obtain ⟨SLi, o1, o2, hSi, rfl, rfl⟩ := hJq; refine hP0 ?_; clear hP0 P0)
 refine stn (qK.n _ _ ?_)
 (refine stIf hV ?_; intro K qK KT qI; walk_at"go")
 clear hx1 hx2 hrv hnd
 (refine hideG ?_; intro P0 hP0; obtain ⟨dx, d, n, t1, t2, t3, t4, t5, t6, rv, hx1, hx2, hrv, hnd⟩ := hSi.own; refine hP0 ?_; clear hP0 P0)
 refine o_umS hV (cls240 _) (hasD240 _) (um223 _) (ty223 _) (by kernel_rfl) (by kernel_rfl) (by kernel_rfl) (by kernel_rfl) ?_
 walk_at"go"
 refine i4_5 x dx n _ rfl (Or.inl (.tail _ (.tail _ (.tail _ hx1)))) (Or.inl (.tail _ (.tail _ (.tail _ hx2)))) rfl (fun q => ?_)
 walk_at"go"
 refine ⟨D, ys, kD, rfl, by exact .inl (by repeat constructor), by rw [sizeLine_eq]; lia, .head _, ?_⟩
 have hfold := lo_fold hinv hp8
 have hsub : ∀ v ∈ loN th order, v ≤ 8 := fun v hv => hinv.le v (by simpa using (mem_lo.mp hv).1)
 refine o_specL hV (DONE st SLi hSi [] hr (loN th order) ys hys (by lia) (scLe_mk ha (by lia)) ?_ ?_ (by simp)).meth (le_n hn rfl) (R := (q, methodObj (.ref 223) (.ref x)) :: (D, lst ys kD) :: (c.L + 2, oB) :: (c.L + 1, oT) :: []) (.drop (.drop (.drop (.drop .rfl)))) (fun g' hR _ => ⟨trivial, hR _ (.head _)⟩) ?_
 ·intro j v hj
  have hv8 := (keyN_le hp8).mpr (hsub v (List.mem_of_getElem? hj))
  have hjl : j ≤ (loN th order).length := by
   rcases Nat.lt_or_ge j (loN th order).length with q | q
   ·lia
   ·rw [List.getElem?_eq_none q] at hj; cases hj
  refine ⟨by rw [(abs_mk ha).1]; exact hv8, ?_⟩
  rw [ha, hfold j hjl]
  dsimp only
  rw [npOf_mk hv8, lo_at hinv hj]
 ·intro z hz' s hs
  rw [ha] at hz'
  (refine e1_2 (List.mem_map.mp hz') ?_; rintro u _ rfl)
  rw [(abs_mk ha).1]
  exact (keyN_le hp8).mpr (mem_belN.mp hs).2.1
 (rintro _ SL2 hJq; refine hideG ?_; intro P0 hP0; obtain ⟨rfl, st2, hS2, hr2, ha2, hp2, hf2⟩ := hJq; refine hP0 ?_; clear hP0 P0)
 have hfl := hfold _ (Nat.le_refl _)
 rw [List.take_length] at hfl
 rw [ha, hfl] at hr2 ha2
 dsimp only at hr2 ha2
 replace hr2 : st2.rdy = some ((loN th order).flatMap (belN (pT th) 8)) := hr2
 replace ha2 : abs st2.ns = mkA (keyN (pT th) 8) (npL th order (loN th order)) (belN (pT th) 8) := ha2
 walk_at"go"
 refine o_isn rfl ?_
 walk_at"go"
 refine qI.f _ _ (stn (qK.n _ _ ?_))
 refine ob_drp (Drp.perm (l' := (q, methodObj (.ref 223) (.ref x)) :: (D, lst ys kD) :: (c.L + 2, oB) :: (c.L + 1, oT) :: SL2) List.perm_append_comm ?_)
 refine ob_ex (l' := (D, lst ys kD) :: (c.L + 2, oB) :: (c.L + 1, oT) :: SL2) (.drop .rfl) ?_
 (refine stq hV ?_; intro K qK; walk_at"go")
 (refine hideG ?_; intro P0 hP0; obtain ⟨dx2, d2, n2, t1', t2', t3', t4', t5', t6', rv2, hx3, hx4, hrv2, hnd2⟩ := hS2.own; refine hP0 ?_; clear hP0 P0)
 refine o_um hV fi_TopologicalSorter_get_ready_ok rfl (cls240 _) (Or.inl (.tail _ (.tail _ (.tail _ hx3)))) (Or.inl (.tail _ (.tail _ (.tail _ hx4)))) (um202 _) (ty202 _) rfl ?_
 walk_at"go"
 have hbf := bel_flat hinv
 refine o_specL hV (GETR st2 SL2 hS2 _ hr2 (by lia) (by intro v hv; rw [(abs_mk ha2).1]; obtain ⟨z, _, hz⟩ := List.mem_flatMap.mp hv; exact (keyN_le hp8).mpr (mem_belN.mp hz).2.1)) (le_n hn rfl) (R := (D, lst ys kD) :: (c.L + 2, oB) :: (c.L + 1, oT) :: []) (.drop (.drop (.drop .rfl))) (fun _ _ _ => trivial) ?_
 (rintro _ l' hJq; refine hideG ?_; intro P0 hP0; obtain ⟨st3, SL3, gb, gvs, rfl, hgi, hS3, rfl, ha4, hr3, hp3, hf3⟩ := hJq; refine hP0 ?_; clear hP0 P0)
 walk_at"go"
 (refine qK.n _ _ ?_; (try clear qK K))
 refine ob_ex (l' := (gb, tup gvs) :: (SL3 ++ [(D, lst ys kD), (c.L + 2, oB), (c.L + 1, oT)])) (.rfl) ?_
 refine ob_drp (Drp.perm (l' := (gb, tup gvs) :: ([(D, lst ys kD), (c.L + 2, oB), (c.L + 1, oT)] ++ SL3)) (.cons _ List.perm_append_comm) ?_)
 refine stl hV ?_
 walk_at"go"
 refine o_and2 hV ?_
 walk_at"go"
 refine o_isi (Tx := "tuple") (fun s S => ⟨_, S.get (.head _), rfl⟩) tyT_tuple sub_tuple ?_
 walk_at"go"
 refine ⟨fun h => (nomatch h), fun _ => ?_⟩
 walk_at"go"
 refine o_sortT (.inl (.head _)) hgi (by unfold il; rw [List.length_map]; lia) fun D1 ws1 ms1 e1 hws1 hmp1 hms1 => ?_
 walk_at"go"
 refine o_comp2 (ks := [Str.ofString "place", Str.ofString "one"]) (gt := []) (fr := [Str.ofString "below"]) hV (clos_cs hV (by rw [hcs]; kernel_rfl)) (by kernel_rfl) ?_
 walk_at"go"
 refine comp_two (ks := [Str.ofString "place", Str.ofString "one"]) (gt := []) (fr := [Str.ofString "below"]) hV hz (Vw.hh' hV hz) (by kernel_rfl) (by lia) (by lia) (vs := ys) (ka := kD) (.inl (by repeat constructor)) (fun j m' zs => Ints zs (il (((loN th order).take j).flatMap (belN (pT th) 8))) ∧ ∃ o1 o2, m' = ([("place", o1), ("one", o2)] : Loc)) ⟨.nil, _, _, rfl⟩ rfl ?_ ?_
 ·intro c0' c' hV' e1 hz' en hgt' hcs' hst' hX' j v m' zs L hv hJ hL
  (refine hideG ?_; intro P0 hP0; obtain ⟨hzs, o1, o2, rfl⟩ := hJ; refine hP0 ?_; clear hP0 P0)
  have hV := hV'
  have hgt := hgt'
  have hcs2 : c'.cs = [(Str.ofString "below", c.L + 2)] := by rw [hcs']; unfold csOf; rw [hcs]; kernel_rfl
  obtain ⟨u, tu, hu, hu8, rfl⟩ : ∃ (u : Nat) (tu : Tok), (loN th order)[j]? = some u ∧ u ≤ 8 ∧ v = Value.int (u : Int) tu := by
   have hj : j < (loN th order).length := by
    rw [← hyl]
    rcases Nat.lt_or_ge j ys.length with q | q
    ·exact q
    ·rw [List.getElem?_eq_none q] at hv; cases hv
   obtain ⟨u, hu⟩ : ∃ u, (loN th order)[j]? = some u := ⟨_, List.getElem?_eq_getElem hj⟩
   obtain ⟨tu, htu⟩ := hys.get j (u : Int) (by unfold il; rw [List.getElem?_map, hu]; rfl)
   rw [htu] at hv
   exact ⟨u, tu, hu, hsub u (List.mem_of_getElem? hu), (Option.some.inj hv).symm⟩
  (refine e3_3 (hb3 u hu8) ?_; intro ba bvs bk hba1 hba2 hba3)
  walk_at"go"
  refine o_cel hV (by rw [hcs2]; repeat constructor) (.inl (hL _ (by repeat constructor))) hB' ?_
  walk_at"go"
  refine o_lst (.inr (hst' _ _ hb1)) (by lia) (by lia) (v := .ref ba) (by rw [List.getElem?_map, Int.toNat_natCast, hba1]; rfl) ?_
  have hbl := belN_len (pT th) 8 u
  have hbvl : bvs.length = (belN (pT th) 8 u).length := by rw [hba3.len]; simp [il]
  have htj := tk_snoc hu
  have hzl : zs.length ≤ 9 := by
   rw [hzs.len]
   unfold il
   rw [List.length_map]
   have : (((loN th order).take j).flatMap (belN (pT th) 8)).Sublist ((loN th order).flatMap (belN (pT th) 8)) := by
    conv => rhs; rw [← List.take_append_drop j (loN th order), List.flatMap_append]
    exact List.sublist_append_left _ _
   exact Nat.le_trans this.length_le hbf
  refine ⟨rfl, ba, bvs, bk, fun jj m'' zs' => Ints zs' (il (((loN th order).take j).flatMap (belN (pT th) 8) ++ (belN (pT th) 8 u).take jj)) ∧ ∃ o2, m'' = [(Str.ofString "place", some (.int (u : Int) tu)), (Str.ofString "one", o2)], rfl, .inr (hst' _ _ hba2), ⟨by rw [List.take_zero, List.append_nil]; exact hzs, _, rfl⟩, by lia, ?_, ?_⟩
  ·rintro jj uv m3 zs3 L3 huv ⟨hz3, o3, rfl⟩
   have hjj : jj < (belN (pT th) 8 u).length := by
    rw [← hbvl]
    rcases Nat.lt_or_ge jj bvs.length with q | q
    ·exact q
    ·rw [List.getElem?_eq_none q] at huv; cases huv
   obtain ⟨s, hs⟩ : ∃ s, (belN (pT th) 8 u)[jj]? = some s := ⟨_, List.getElem?_eq_getElem hjj⟩
   obtain ⟨ts, hts⟩ := hba3.get jj (s : Int) (by unfold il; rw [List.getElem?_map, hs]; rfl)
   rw [hts] at huv
   cases huv
   walk_at"go"
   refine ⟨?_, _, rfl⟩
   rw [tk_snoc hs, ← List.append_assoc]
   unfold il
   rw [List.map_append]
   exact hz3.snoc _ _
  ·rintro m3 zs3 ⟨hz3, o3, rfl⟩
   refine ⟨?_, _, _, rfl⟩
   rw [htj, List.flatMap_append]
   rw [show (belN (pT th) 8 u).take bvs.length = belN (pT th) 8 u from List.take_of_length_le (Nat.le_of_eq hbvl.symm)] at hz3
   simpa using hz3
 (rintro D2 m2 zs k2 hJq; refine hideG ?_; intro P0 hP0; obtain ⟨hzs, o3, o4, rfl⟩ := hJq; refine hP0 ?_; clear hP0 P0)
 rw [hyl, List.take_length] at hzs
 refine o_sortL (.inl (.head _)) hzs (by unfold il; rw [List.length_map]; lia) fun D3 ws2 ms2 e2 hws2 hmp2 hms2 => ?_
 have hmse := sorted_unique (hmp1.trans hmp2.symm) hms1 hms2
 subst hmse
 refine eq_list (n := 0) (.inl (.tail _ (.tail _ (.head _)))) (.inl (.head _)) (by rw [hws1.len, hws2.len]) (by lia) (hws1.eqv (c := c) hws2).2 ?_
 exact Drp.all rfl
end
section
noncomputable def cell0 : Obj := { cls := .type "cell", data := .cell none }
noncomputable def compChkC (scope : Scope) (y : Str) (ks : List Str) (gt : List (Str × Value)) (fr : List Str) : Bool :=
 scope.kind == .function && (scope.names.all (fun x => (x.2 != .free || fr.contains x.1) && (x.2 != .local || scope.names.lookup x.1 == some .local)) &&
  (ks.all (fun x => scope.names.lookup x == some .local && x != "__debug__") && (decide ks.Nodup &&
   (gt.all (fun p => scope.names.lookup p.1 == some .globalImplicit && (p.1 != "__debug__" && gtab.any fun r => r.1 == p.1 && r.2.1 == p.2)) &&
    (fr.all (fun x => scope.names.lookup x == some .free && (x != "__debug__" && (x != "__classdict__" && x != y))) && (scope.names.lookup y == some .cell && (y != "__debug__" && y != "__classdict__")))))))
theorem newEnv_cell {prog : Program} {w : World} {A : Around} {E : Value → Shared → Prop} {s : Shared} {scope : Scope} {globals : Addr} {cl : List (Str × Addr)} {qual : Str} {env : Env} {y : Str} {Q : Env → Shared → Prop}
  (h1 : ∀ n, cellsFrom n scope.names cl = (y, n) :: cl) (h2 : ∀ h, pushCells h scope.names = h.push cell0)
  (hQ : Q { scope := scope, locals := s.heap.objs.size, globals := globals, cells := (y, s.heap.objs.size + 1) :: cl, qual := qual, func := none, code := env.code, frame := env.frame, builtins := env.builtins } { s with heap := (s.heap.push { cls := .type "dict", data := .dict #[] }).push cell0 }) :
  wpAny (model prog w) A (newFunctionEnv scope globals cl [] qual none .none (some env)) Q E s := by
 simp only [newFunctionEnv, Option.isSome_some, if_true]
 refine wpAny_bind (wpAny_alloc ?_)
 refine wpAny_bind (wpAny_layCells _ (fun name kind cells => by cases hkc : kind == NameKind.cell <;> simp [hkc]) _ _ _ _ ?_)
 rw [h1, h2]
 rw [show ({ s with heap := s.heap.push { cls := .type "dict", data := .dict #[] } } : Shared).heap.objs.size = s.heap.objs.size + 1 from Heap.size_push ..]
 rw [List.forIn_nil]
 exact wpAny_bind (wpAny_pure (wpAny_pure hQ))
theorem Fx.cmpVC {c : Fx} (hV : c.V) {frs : List Env} {g' : Heap} {C : Addr} {s : Shared} {scope : Scope} {y : Str} {ya : Addr} {ks : List Str} {gt : List (Str × Value)} {fr : List Str} (h : compChkC scope y ks gt fr = true) (hn : 1 ≤ c.n)
  (hC : Cx c.w c.A' ⟨s.os, frs, s.heap⟩ frs g' c.n) : (c.cmp frs g' C s scope ((y, ya) :: clOf (fun x => (c.cs.lookup x).getD 0) scope.names []) ks gt ((y, ya) :: csOf c fr)).V ∧ (compEnvC scope ((y, ya) :: clOf (fun x => (c.cs.lookup x).getD 0) scope.names []) C c.env).kindOf y = some .cell := by
 unfold compChkC at h
 simp only [Bool.and_eq_true] at h
 (refine e0_7 h ?_; clear h; intro k1 k2 k3 k4 k5 k6 k7)
 have G := gt_ok c.w.params k5
 simp only [Bool.and_eq_true, List.all_eq_true, beq_iff_eq, bne_iff_ne, Bool.or_eq_true, decide_eq_true_eq] at k1 k2 k3 k4 k6 k7
 have rl : ∀ {x : Str} {k : NameKind}, scope.names.lookup x = some k → (compEnvC scope ((y, ya) :: clOf (fun x => (c.cs.lookup x).getD 0) scope.names []) C c.env).kindOf x = some k ∨ (k = .free ∧ (compEnvC scope ((y, ya) :: clOf (fun x => (c.cs.lookup x).getD 0) scope.names []) C c.env).kindOf x = some .cell) := fun h => relabel_get h
 have hy : (compEnvC scope ((y, ya) :: clOf (fun x => (c.cs.lookup x).getD 0) scope.names []) C c.env).kindOf y = some .cell := by
  rcases rl k7.1 with q | ⟨q, _⟩
  ·exact q
  ·cases q
 refine ⟨⟨by show Cx c.w c.A' _ frs g' (c.n - 1 + 1); rw [Nat.sub_add_cancel hn]; exact hC, fun _ => .inr rfl, rfl, hV.gl, hV.bl, k1, fun x hx => ⟨?_, by simpa using (k3 x hx).2⟩, fun p hp => ?_, fun p hp => ?_⟩, hy⟩
 ·rcases rl (k3 x hx).1 with q | ⟨q, _⟩
  ·exact q
  ·cases q
 ·(refine e0_2 (G p hp) ?_; intro a b)
  refine ⟨?_, b⟩
  rcases rl a with q | ⟨q, _⟩
  ·exact q
  ·cases q
 ·rcases List.mem_cons.mp hp with rfl | hp
  ·exact ⟨.inl hy, by show List.lookup _ (_ :: _) = _; rw [List.lookup_cons, beq_self_eq_true], by simpa using k7.2.1, by simpa using k7.2.2⟩
  (refine e1_2 (List.mem_map.mp hp) ?_; rintro x hx rfl)
  (refine e0_4 (k6 x hx) ?_; intro h1 h2 h3 h4)
  refine ⟨?_, ?_, by simpa using h2, by simpa using h3⟩
  ·rcases rl h1 with q | ⟨_, q⟩
   ·exact .inr q
   ·exact .inl q
  ·show List.lookup x (_ :: _) = _
   rw [List.lookup_cons, show (x == y) = false from by simpa using h4]
   exact clOf_get (f := fun x => (c.cs.lookup x).getD 0) (.inr (lookup_mem h1))
section
variable {c : Fx} {m : Loc} {l : Led} {T : String} {N : Nat} {Pv : Nat → Value → Prop} {Ok : Nat → Obj → Prop} {RD : Heap → Led → Prop} {elt target iter : Expr} {ifs : List Expr} {scope : Scope} {pos spos px : Pos} {ks : List Str} {gt : List (Str × Value)} {fr : List Str} {v : Value} {KD : Addr → List Value → Nat → Led → Prop} {K : KV Value} {KF : KV Flow} {x : Str}
theorem comp_srcC (hV : c.V) (hz : c.hz = true) (W : Src c.w c.A' T N Pv Ok RD) {y : Str} (hc : compChkC scope y ks gt fr = true) (hc1 : ∀ cl n, cellsFrom n scope.names cl = (y, n) :: cl) (hc2 : ∀ h, pushCells h scope.names = h.push cell0) (hn : 1 ≤ c.n) (hN : N ≤ 16777215)
  (mk : ∀ (Q : Value → Shared → Prop) E s, c.S m l s → (∀ I oI s', Ok 0 oI → c.S m ((I, oI) :: l) s' → Q (.ref I) s') → wpAny (M c.w) c.A' (pyIter v) Q E s)
  (J : Addr → Nat → Loc → Led → List Value → Prop) (h0 : ∀ ya, J ya 0 (ks.map fun x => (x, none)) ((ya, cell0) :: l) []) (ra : ∀ g p l, RD g l → RD g (p :: l)) (rd : ∀ ya i m l ys g, c.g.StaysIn g → J ya i m l ys → RD g l)
  (turn : ∀ ya, ∀ c0 : Fx, let c' := c0.wg gt; c'.V → c'.w = c.w → c'.hz = true → c'.n = c.n - 1 → c'.gt = gt → c'.cs = (y, ya) :: csOf c fr → c'.env.kindOf y = some .cell → c.g.StaysIn c'.g → c'.LpX → ∀ i v m l ys I oI D k, i < N → Pv i v → J ya i m l ys → ∀ (KA : KV Value) (KS : Loc → Led → Prop), (∀ y m l₁ l₂ R, Ex l₁ ((I, oI) :: (D, lst ys k) :: l₂) R → J ya (i + 1) m l₂ (ys ++ [y]) → KA y m l₁) → (∀ m l₁ l₂ R, Ex l₁ ((I, oI) :: (D, lst ys k) :: l₂) R → J ya (i + 1) m l₂ ys → KS m l₁) →
   vAsg c' target v (fun m l => vCT c' ifs elt KA KS m l) m ((I, oI) :: (D, lst ys k) :: l))
  (done : ∀ ya D m l ys k, J ya N m l ys → KD D ys k l) : ObCo c elt target iter ifs scope pos (clOf (fun x => (c.cs.lookup x).getD 0) scope.names []) v KD m l := by
 intro s E use Q S fin
 refine mk _ E s S fun I oI s1 hI S1 => wpAny_newList ?_ (by decide)
 have S2 := S1.push (s' := { s1 with heap := s1.heap.push (lst [] 0) }) (lst [] 0) rfl rfl rfl rfl
 generalize hs2 : ({ s1 with heap := s1.heap.push (lst [] 0) } : Shared) = s2 at S2
 generalize hD : s1.heap.objs.size = D at S2
 (refine e2_7 (hV.into hz S2 Ex.rfl) ?_; intro frs g' C' H hzz RR st gsz back)
 have hk := hc
 unfold compChkC at hk
 simp only [Bool.and_eq_true] at hk
 (refine e0_5 hk ?_; clear hk; intro k1 k2 _ k4 _)
 simp only [Bool.and_eq_true, List.all_eq_true, beq_iff_eq, bne_iff_ne, Bool.or_eq_true, decide_eq_true_eq] at k1 k2 k4
 refine newEnv_cell (hc1 _) hc2 ?_
 have hsz2 : s2.heap.objs.size + 1 = (s2.heap.push { cls := .type "dict", data := .dict #[] }).objs.size := (Heap.size_push ..).symm
 rw [hsz2]
 generalize hya : (s2.heap.push { cls := .type "dict", data := .dict #[] }).objs.size = ya
 (refine e0_2 (Fx.cmpVC (C := s2.heap.objs.size) (ya := ya) hV hc hn C') ?_; intro hV' hky)
 have old : ∀ b o, s2.heap.get? b = some o → (s2.heap.push { cls := .type "dict", data := .dict #[] }).get? b = some o := fun b o e => Heap.get?_push_of_some _ e
 have hns := Heap.Ns.new s2.heap (.type "dict")
 have hmp : (fun _ : Str => (none : Option Value)) = mp (ks.map fun x => (x, none)) := by funext y; rw [mp_unb_none]
 rw [hmp] at hns
 have S3 : (c.cmp frs g' s2.heap.objs.size s2 scope ((y, ya) :: clOf (fun x => (c.cs.lookup x).getD 0) scope.names []) ks gt ((y, ya) :: csOf c fr)).S (ks.map fun x => (x, none)) ((I, oI) :: (D, lst [] 0) :: l) { s2 with heap := s2.heap.push { cls := .type "dict", data := .dict #[] } } := by
  refine St.perm ⟨⟨hns, fun b o e => old _ _ (H.keep b o e), Nat.le_of_eq gsz⟩, fun p hp => ⟨old _ _ (H.nw p hp).1, Nat.ne_of_lt (Heap.lt_size (H.nw p hp).1), (H.nw p hp).2⟩, H.nd, ⟨by show (ks.map fun x => (x, (none : Option Value))).map (·.1) = ks; rw [List.map_map]; exact List.map_id' _, k4⟩, S2.G, rfl, fun b _ o e => ⟨o.slots, old b o e⟩, hzz, fun hm => absurd (fro_lt C'.ff hm) (Nat.lt_irrefl _), fun b hb => by obtain ⟨hn, o, ho, _⟩ := C'.ff.mem hb; exact ⟨hn, o, ho⟩⟩ (List.Perm.swap _ _ _)
 have S3 := S3.push (s' := { s2 with heap := (s2.heap.push { cls := .type "dict", data := .dict #[] }).push cell0 }) cell0 rfl rfl rfl rfl
 rw [hya] at S3
 have S3 := St.perm S3 (l' := (I, oI) :: (D, lst [] 0) :: (ya, cell0) :: l) ((List.Perm.swap _ _ _).trans (.cons _ (List.Perm.swap _ _ _)))
 have hCn : s2.heap.get? s2.heap.objs.size = none := size_none _
 have loop : codeAny (M c.w) c.A' (.compLoop (.ListComp elt [⟨target, iter, ifs, 0⟩] scope pos) 0 (.ref I) (.ref D) (compEnvC scope ((y, ya) :: clOf (fun x => (c.cs.lookup x).getD 0) scope.names []) s2.heap.objs.size c.env)) (compPost (M c.w) c.A' E use Q (.ref D) s2.heap.objs.size) { s2 with heap := (s2.heap.push { cls := .type "dict", data := .dict #[] }).push cell0 } := by
  refine comp_loop (c' := c.cmp frs g' s2.heap.objs.size s2 scope ((y, ya) :: clOf (fun x => (c.cs.lookup x).getD 0) scope.names []) ks gt ((y, ya) :: csOf c fr)) hV' W (fun _ _ h => h) (J ya) (fun i m l ys j => rd ya i m l ys g' st j) (fun i v m l ys oI k => turn ya (c.cmp frs g' s2.heap.objs.size s2 scope ((y, ya) :: clOf (fun x => (c.cs.lookup x).getD 0) scope.names []) ks gt ((y, ya) :: csOf c fr)) hV' rfl rfl rfl rfl rfl hky st (fun _ _ _ (h : False) => h.elim) i v m l ys I oI D k) hN S3 (h0 ya) hI (fun p l h => ra _ p l h) ?_
  intro m' l' ys k s' j S'
  have S4 := back ((D, lst ys k) :: l') s' S'.hp S'.G S'.O S'.W S'.Z
  rw [List.append_nil] at S4
  refine fin D ys k l' s2.heap.objs.size s' (done ya D m' l' ys k j) S4 (Free.new S2 hCn fun hm => ?_) ⟨_, S'.F.ns⟩
  (refine e1_2 (List.mem_map.mp hm) ?_; intro p hp e)
  exact (S'.N p hp).2.1 e
 have hJ0 := rd ya 0 _ _ _ g' st (h0 ya)
 have := codeAny_compStart_list (elt := elt) (target := target) (iter := iter) (ifs := ifs) (rest := []) (scope := scope) (pos := pos) (acc := .ref D) loop (W.self _ _ _ _ _ _ I oI _ _ _ (ra _ _ _ hJ0) hI S3 loop)
 exact this
theorem o_acompC (hV : c.V) (hsw : swapsWith (.ListComp elt [⟨target, iter, ifs, 0⟩] scope pos) (some (.Name x px)) spos.line c.env = pure true) (hcl : closureFor scope c.env = pure (clOf (fun x => (c.cs.lookup x).getD 0) scope.names [])) {y : Str} (hc : compChkC scope y ks gt fr = true) (hx : hasK m x = true)
  (h : vE c iter (fun v m l => ObCo c elt target iter ifs scope pos (clOf (fun x => (c.cs.lookup x).getD 0) scope.names []) v (fun D ys k l' => chk (hasK m x) (KF .next (put m x (.ref D)) ((D, lst ys k) :: l'))) m l) m l) (hs : isSet iter = false := by rfl) :
  Ob c (exec (.Assign [.Name x px] (.ListComp elt [⟨target, iter, ifs, 0⟩] scope pos) spos) c.env) KF m l := by
 intro Q E s S k xx
 have hk := hc
 unfold compChkC at hk
 simp only [Bool.and_eq_true] at hk
 (refine e0_3 hk ?_; clear hk; intro k1 k2 _)
 simp only [Bool.and_eq_true, List.all_eq_true, beq_iff_eq, bne_iff_ne, Bool.or_eq_true] at k1 k2
 rw [exec_Assign_Name_used _ _ _ _ hsw]
 refine wpAny_bind (wpAny_standAt (wpAny_bind ?_))
 show wpAny _ c.A' (do let _ ← comprehension (.ListComp elt [⟨target, iter, ifs, 0⟩] scope pos) scope c.env _ (newList []) false (eval iter c.env) (some (assign (.Name x px) c.env))) _ _ s
 refine wpAny_bind (wpAny_mono (wpAny_comprehension_free (use := some (assign (.Name x px) c.env)) (Q := fun _ s' => Q .next s') rfl (folded_not hs _) hcl k1 (fun x hx hl => ((k2 x hx).2).resolve_left fun q => q hl) (vE_ok hV iter _ _ _ h _ E s S (fun v m' l' s' h' S' => ?_) xx)) (fun _ s' hq => wpAny_pure (wpAny_pure hq)) fun _ _ e => e)
 refine h' s' E (some (assign (.Name x px) c.env)) _ S' fun D ys kk l2 C s2 hK S2 F hC => ?_
 (refine e1_1 hC ?_; clear hC; intro mC hC)
 have hK := chk_ok hK
 show wpAny _ c.A' (assign (.Name x px) c.env (.ref D)) _ _ _
 have U := put_ok (v := .ref D) hK.1
 have hxk : x ∈ c.ks := S2.K.1 ▸ U.has
 refine x_aname (wpAny_storeName_local (hV.lc x hxk).1 (hV.lo ▸ S2.F.ns) (fun h3 hn hs3 => ⟨mC, hC.sameBut (hV.lo ▸ hs3) F.L, fun h4 hs4 => ?_⟩) (by rw [hV.kd]; rfl))
 have S3 := S2.setL (s' := { s2 with heap := h3, toks := s2.toks + 1 }) U (hV.lo ▸ hn) (hV.lo ▸ hs3) rfl rfl
 exact k _ _ _ _ hK.2 (S3.hid (tk := s2.toks + 1) F hs4)
end
theorem ob_perm {α : Type} {c : Fx} {t : Sem α} {K : KV α} {m : Loc} {l l' : Led} (h : l.Perm l') (H : Ob c t K m l') : Ob c t K m l := fun Q E s S kk xx => H Q E s (St.perm S h) kk xx
end
section
theorem o_asgC {c : Fx} {m : Loc} {l : Led} {KF : KV Flow} {x : Str} {px spos : Pos} {e : Expr} (hV : c.V) (hsw : swapsWith e (some (.Name x px)) spos.line c.env = pure false) (h : Ob c (eval e c.env) (fun v m l => vSto c x v (fun m l => KF .next m l) m l) m l) : Ob c (exec (.Assign [.Name x px] e spos) c.env) KF m l :=
 fun Q E s S kk xx => wpAny_Assign_Name (h _ E s S (fun v m' l' s' h' S' => vSto_ok hV h' _ E s' S' (fun _ m2 l2 s2 h2 S2 => kk _ _ _ _ h2 S2) xx) xx) hsw
theorem refs_cons_get {L : Led} {a : Addr} {o : Obj} {i : Nat} : (refsOf ((a, o) :: L))[i]? = if i < L.length then (refsOf L)[i]? else if i = L.length then some (.ref a) else none := by
 rw [← refs_snoc L a o, getElem?_snoc]
 have : (refsOf L).length = L.length := by simp [refsOf]
 rw [this]
theorem GivL.at {th : List Th} {L : Led} (h : GivL th L) : ∀ (i : Nat) x, th[i]? = some x → ∃ a o, (refsOf L)[i]? = some (.ref a) ∧ (a, o) ∈ L ∧ GivO x o := by
 induction h with
 | nil => intro i x h; simp at h
 | @snoc th L x a o hL ho ih =>
  intro i y hy
  rw [getElem?_snoc] at hy
  rw [refs_cons_get, hL.len]
  split at hy
  ·(refine e2_3 (ih i y hy) ?_; intro b p h1 h2 h3)
   rename_i q
   exact i2_3 b p (by rw [if_pos q]; exact h1) (.tail _ h2) h3
  ·split at hy
   ·rename_i q1 q2
    cases hy
    exact i2_3 a o (by rw [if_neg q1, if_pos q2]) (.head _) ho
   ·cases hy
theorem RecL.at {th : List Rc} {L : Led} (h : RecL th L) : ∀ (i : Nat) x, th[i]? = some x → ∃ a o, (refsOf L)[i]? = some (.ref a) ∧ (a, o) ∈ L ∧ RecO x o := by
 induction h with
 | nil => intro i x h; simp at h
 | @snoc th L x a o hL ho ih =>
  intro i y hy
  rw [getElem?_snoc] at hy
  rw [refs_cons_get, hL.len]
  split at hy
  ·(refine e2_3 (ih i y hy) ?_; intro b p h1 h2 h3)
   rename_i q
   exact i2_3 b p (by rw [if_pos q]; exact h1) (.tail _ h2) h3
  ·split at hy
   ·rename_i q1 q2
    cases hy
    exact i2_3 a o (by rw [if_neg q1, if_pos q2]) (.head _) ho
   ·cases hy
inductive BelL (p : Nat → Nat) : Nat → Led → Prop
 | nil : BelL p 0 []
 | snoc {i L vs a k} : BelL p i L → Ints vs (il (belN p 8 i)) → BelL p (i + 1) ((a, lst vs k) :: L)
theorem BelL.len {p : Nat → Nat} {n : Nat} {L : Led} (h : BelL p n L) : L.length = n := by
 induction h with
 | nil => rfl
 | snoc _ _ ih => rw [List.length_cons, ih]
theorem BelL.at {p : Nat → Nat} {n : Nat} {L : Led} (h : BelL p n L) : ∀ i, i < n → ∃ a vs k, (refsOf L)[i]? = some (.ref a) ∧ (a, lst vs k) ∈ L ∧ Ints vs (il (belN p 8 i)) := by
 induction h with
 | nil => intro i h; lia
 | @snoc n L vs a k hL hv ih =>
  intro i hi
  rw [refs_cons_get, hL.len]
  by_cases q : i < n
  ·(refine e3_3 (ih i q) ?_; intro b us k' h1 h2 h3)
   exact i3_3 b us k' (by rw [if_pos q]; exact h1) (.tail _ h2) h3
  ·have : i = n := by lia
   subst this
   exact i3_3 a vs k (by rw [if_neg q, if_pos rfl]) (.head _) hv
theorem ex_gen {α : Type} {P : α → Prop} {x : α} (h : ∀ y, x = y → P y) : P x := h x rfl
theorem perm4 {α : Type} (A B S Z : List α) : (A ++ (B ++ (S ++ Z))).Perm ((S ++ B) ++ (A ++ Z)) := by
 rw [List.append_assoc]
 exact ((List.Perm.append_left A (perm_front B S Z)).trans (perm_front A S (B ++ Z))).trans (List.Perm.append_left S (perm_front A B Z))
theorem refs_as (L : Led) : refsOf L = ((L.map (·.1)).reverse).map Value.ref := by unfold refsOf; rw [List.map_reverse, List.map_map]; rfl
theorem refs_get {L : Led} {i : Nat} {a : Addr} (h : (refsOf L)[i]? = some (.ref a)) : ((L.map (·.1)).reverse)[i]? = some a := by
 rw [refs_as, List.getElem?_map] at h
 (refine e1_2 (Option.map_eq_some_iff.mp h) ?_; intro b hb e)
 cases e; exact hb
theorem tA_get {th : List Th} (h9 : th.length = 9) {i : Nat} (hi : i ≤ 8) : th[i]? = some (tA th i) := by
 unfold tA; rw [List.getD_eq_getElem?_getD, List.getElem?_eq_getElem (by lia)]; rfl
theorem GivL.givAt {rd : Addr → Obj → Prop} {th : List Th} {L : Led} (h : GivL th L) (h9 : th.length = 9) {gl : Addr} {k : Nat} (h1 : rd gl (lst (refsOf L) k)) (h2 : ∀ p ∈ L, rd p.1 p.2) : GivAt rd gl th := by
 refine i2_3 ((L.map (·.1)).reverse) k (by rw [← refs_as]; exact h1) (by simp [h.len, h9]) (fun i hi => ?_)
 (refine e2_3 (h.at i _ (tA_get h9 hi)) ?_; intro a o q1 q2 q3)
 exact i2_3 a o (refs_get q1) (h2 _ q2) q3
theorem BelL.belAt {rd : Addr → Obj → Prop} {p : Nat → Nat} {L : Led} (h : BelL p 9 L) {bl : Addr} {k : Nat} (h1 : rd bl (lst (refsOf L) k)) (h2 : ∀ p ∈ L, rd p.1 p.2) : BelAt rd bl p := by
 refine i2_3 ((L.map (·.1)).reverse) k (by rw [← refs_as]; exact h1) (by simp [h.len]) (fun i hi => ?_)
 (refine e3_3 (h.at i (by lia)) ?_; intro a vs k' q1 q2 q3)
 exact i3_3 a vs k' (refs_get q1) (h2 _ q2) q3
theorem DueL.at {f : Nat → Dr} {vs : List Nat} {kvs : List (Int × Value)} {L : Led} (h : DueL f vs kvs L) : kvs.length = vs.length ∧ ∀ (i : Nat) v, vs[i]? = some v → ∃ a o, kvs[i]? = some ((v : Int), .ref a) ∧ (a, o) ∈ L ∧ DueO (f v) o := by
 induction h with
 | nil => exact ⟨rfl, fun i v h => by simp at h⟩
 | @snoc vs kvs L v a o hL ho ih =>
  refine ⟨by simp [ih.1], fun i y hy => ?_⟩
  rw [getElem?_snoc] at hy
  rw [getElem?_snoc, ih.1]
  split at hy
  ·(refine e2_3 (ih.2 i y hy) ?_; intro b p h1 h2 h3)
   rename_i q
   exact i2_3 b p (by rw [if_pos q]; exact h1) (.tail _ h2) h3
  ·split at hy
   ·rename_i q1 q2
    cases hy
    exact i2_3 a o (by rw [if_neg q1, if_pos q2]) (.head _) ho
   ·cases hy
theorem LAW {w : World} {aS : Addr} {vs : List Value} {ks : Nat} (hI : AllI vs) (hz63 : vs.length ≤ 63) :
  SpecX w 10 339 [.ref aS] (fun g => g.get? aS = some (lst vs ks)) [(246, tabObj #[])] (fun v l' => v = .bool true ∧ ∃ ps, (246, tabObj ps) ∈ l') (fun _ _ _ => False) := by
 refine specC_vc [("script", .ref aS)] [("script", .ref aS)] [] ["things", "words", "given", "end", "sorter", "told", "below", "order", "log", "records", "end_of_log"] (fun L => [(Str.ofString "due", L + 2), (Str.ofString "parents", L + 1)]) fi_law_ok rfl (by kernel_rfl) (by kernel_rfl) (by kernel_rfl) (by kernel_rfl) (fun L => by kernel_rfl) (fun L => ?_) (fun L => by show (["due", "parents"].map Str.ofString).Nodup; decide +kernel) (fun L => ?_) ?_
 ·simp only [List.forall_mem_cons]
  exact ⟨⟨by kernel_rfl, by decide, by decide⟩, ⟨by kernel_rfl, by decide, by decide⟩, fun _ h => nomatch h⟩
 ·exact fun _ h => nomatch h
 intro c0 c hw hz hm hV hn hgt hcs hck he hX hp cells hcells
 dsimp only [fi_law] at hgt he
 subst hw
 (refine e2_3 hcells.two ?_; intro oD oP hE1 hD hP; subst hE1)
 have hD' : oD.data = .cell none := hD
 have hP' : oP.data = .cell none := hP
 have hun := Fx.un4 hV hm
 (refine stq hV ?_; intro K qK; walk_at"go")
 refine o_spec hV (LDRAWN hI hz63) (le_n hn rfl) (fun g' _ hG => hG _ _ hp) ?_
 (rintro _ L1 hJq; refine hideG ?_; intro P0 hP0; obtain ⟨aT, th, rfl, h9, hO, hTh⟩ := hJq; refine hP0 ?_; clear hP0 P0)
 walk_at"go"
 (refine qK.n _ _ ?_; (try clear qK K))
 (refine hideG ?_; intro P0 hP0; obtain ⟨as, kT, hTm, hTl, hTi⟩ := hTh; refine hP0 ?_; clear hP0 P0)
 refine ob_drp (Drp.perm (l' := (c.L + 2, oD) :: (c.L + 1, oP) :: (246, tabObj #[]) :: L1) List.perm_append_comm ?_)
 (refine stq hV ?_; intro K qK; walk_at"go")
 refine o_asgC hV ?_ ?_
 ·rw [he]; kernel_rfl
 refine o_comp (ks := [Str.ofString "above", Str.ofString "team", Str.ofString "kind", Str.ofString "rights"]) (gt := []) (fr := []) hV (clos_cs hV (by rw [hcs]; kernel_rfl)) (by kernel_rfl) ?_
 walk_at"go"
 refine comp_src (ks := [Str.ofString "above", Str.ofString "team", Str.ofString "kind", Str.ofString "rights"]) (gt := []) (fr := []) hV hz (src_list (Vw.hh' hV hz) aT (as.map .ref)) (by kernel_rfl) (by lia) (by rw [List.length_map]; lia) (mk_list' (.inl (.tail _ (.tail _ (.tail _ hTm))))) (fun j m' l' ys => Ints ys ((th.take j).map fun x => (x.a : Int)) ∧ l' = (c.L + 2, oD) :: (c.L + 1, oP) :: (246, tabObj #[]) :: L1 ∧ ∃ o1 o2 o3 o4, m' = ([("above", o1), ("team", o2), ("kind", o3), ("rights", o4)] : Loc)) ⟨.nil, rfl, _, _, _, _, rfl⟩ (fun g p l h => by obtain ⟨k, h⟩ := h; exact ⟨k, h.cons⟩) ?_ ?_ ?_
 ·(rintro j m' l' ys g hst' hJq; (refine e0_3 hJq ?_; clear hJq; intro _ hE1 _; subst hE1))
  exact ⟨_, .inl (.tail _ (.tail _ (.tail _ hTm)))⟩
 ·intro c0' c' hV' e1 hz' en hgt' hcs' hst' hX' j v m' l' ys I2 oI2 D k hj hv hJ KA KS hKA hKS
  (refine hideG ?_; intro P0 hP0; obtain ⟨hys, rfl, o1, o2, o3, o4, rfl⟩ := hJ; refine hP0 ?_; clear hP0 P0)
  have hV := hV'
  have hgt := hgt'
  rw [List.getElem?_map] at hv
  (refine e1_2 (Option.map_eq_some_iff.mp hv) ?_; rintro ai hai rfl)
  have hjt : j < th.length := by rw [← hTl]; simpa using hj
  obtain ⟨x, hx⟩ : ∃ x, th[j]? = some x := ⟨_, List.getElem?_eq_getElem hjt⟩
  (refine e2_2 (hTi j ai x hai hx) ?_; intro ws kw hw1 hw2)
  (refine e1_2 hw2.ex ?_; rintro ts hts rfl)
  (refine hideG ?_; intro P0 hP0; obtain ⟨t1, t2, t3, t4, rfl⟩ := len4 hts; refine hP0 ?_; clear hP0 P0)
  walk_at"go"
  refine o_unL hV (.inl (.tail _ (.tail _ (.tail _ (.tail _ (.tail _ hw1)))))) ?_
  dsimp only [Th.ints, List.zip_cons_cons, List.map_cons, List.zip_nil_left, List.map_nil]
  dsimp only [vCT]
  walk_at"go"
  refine hKA _ _ _ _ _ .rfl ⟨?_, rfl, _, _, _, _, rfl⟩
  rw [tk_snoc hx, List.map_append]
  exact hys.snoc _ _
 (rintro aP m' l' vp kp hJq; (refine e0_3 hJq ?_; clear hJq; intro hvp hE1 _; subst hE1))
 rw [List.length_map, hTl, List.take_length] at hvp
 have hp8 := pT_le h9 hO
 have hpl : th.map (fun x => (x.a : Int)) = pl (pT th) := by
   refine List.ext_getElem? fun j => ?_
   unfold pl
   rw [List.getElem?_map, List.getElem?_map]
   rcases Nat.lt_or_ge j 9 with q | q
   ·rw [List.getElem?_range q, List.getElem?_eq_getElem (by lia)]
    have hd : th.getD j ⟨0, 0, 4, 0⟩ = th[j] := by rw [List.getD_eq_getElem?_getD, List.getElem?_eq_getElem (by lia)]; rfl
    show some (((th[j]).a : Nat) : Int) = some (((th.getD j ⟨0, 0, 4, 0⟩).a : Nat) : Int)
    rw [hd]
   ·rw [List.getElem?_eq_none (by lia), List.getElem?_eq_none (by simp; lia)]; rfl
 have hvp : Ints vp (pl (pT th)) := by rw [← hpl]; exact hvp
 have hThG : ∀ g' : Heap, (∀ p ∈ L1, g'.get? p.1 = some p.2) → ThAt (fun a o => g'.get? a = some o) aT th := fun g' h => ⟨as, kT, h _ hTm, hTl, fun i a x h1 h2 => by
  (refine e2_2 (hTi i a x h1 h2) ?_; intro ws kw q1 q2)
  exact ⟨ws, kw, h _ q1, q2⟩⟩
 refine o_scel hV (by rw [hcs]; repeat constructor) (hck (Str.ofString "parents", c.L + 1) (by rw [hcs]; repeat constructor)) (by repeat constructor) hP' fun oP2 hoP => ⟨_, by repeat constructor, ?_⟩
 clear hP hP' hcells
 (refine qK.n _ _ ?_; (try clear qK K); refine stq hV ?_; intro K qK; walk_at"go")
 rename_i tw0 aw
 (refine qK.n _ _ ?_; (try clear qK K))
 (refine stq hV ?_; intro K qK; walk_at"go")
 refine o_asgT hV ?_
 walk_at"go"
 refine o_spec hV (LTAPE th h9 hO) (le_n hn rfl) (fun g' hR _ => hThG g' fun p hp => hR p (by simp [hp])) ?_
 (rintro _ _ hJq; refine hideG ?_; intro P0 hP0; obtain ⟨rfl, bt, tbt, rfl, hbt⟩ := hJq; refine hP0 ?_; clear hP0 P0)
 walk_at"go"
 refine o_specL hV (LTHINGS th h9 hO hbt [(246, tabObj #[])] (.inl rfl)) (le_n hn rfl) (R := (aw, tup [.str noMore tw0]) :: (aP, lst vp kp) :: (c.L + 2, oD) :: (c.L + 1, oP2) :: L1) (.drop (.drop (.drop (.drop (.take .here .nil))))) (fun _ _ _ => trivial) ?_
 (rintro _ _ hJq; refine Lz.el hJq ?_; clear hJq; rintro LG r gl ae kg t0 cc oc ot nt hLG hoc hot1 hot2)
 walk_at"go"
 refine o_unT hV (.inl (.head _)) ?_
 walk_at"go"
 (refine qK.n _ _ ?_; (try clear qK K))
 refine ob_ex (l' := (gl, lst (refsOf LG) kg) :: (ae, ot) :: ((tabL cc oc ++ LG) ++ ((aw, tup [.str noMore tw0]) :: (aP, lst vp kp) :: (c.L + 2, oD) :: (c.L + 1, oP2) :: L1))) (.drop .rfl) ?_
 refine ob_drp (Drp.perm (l' := (gl, lst (refsOf LG) kg) :: (ae, ot) :: (aw, tup [.str noMore tw0]) :: (aP, lst vp kp) :: (c.L + 2, oD) :: (c.L + 1, oP2) :: (246, tabObj #[rawInt lrPos.line, rawInt lrPos.col, .ref cc]) :: (cc, oc) :: (LG ++ L1)) (.cons _ (.cons _ (perm_front (tabL cc oc ++ LG) [(aw, tup [.str noMore tw0]), (aP, lst vp kp), (c.L + 2, oD), (c.L + 1, oP2)] L1))) ?_)
 (refine stIf hV ?_; intro K qK KT qI; walk_at"go")
 refine ne_tup (n := 0) (vs := [.str noMore t0]) (us := [.str noMore tw0]) (.inl (.tail _ (.head _))) hot1 hot2 (.inl (.tail _ (.tail _ (.head _)))) rfl rfl rfl (by lia) (fun j v w hv hw => ?_) ?_
 ·match j with
  | 0 => cases hv; cases hw; exact Eqv.str rfl
  | j + 1 => cases hv
 walk_at"go"
 refine ⟨fun h => (nomatch h), fun _ => ?_⟩
 obtain ⟨l0, hl0⟩ : ∃ l0, l0 = (gl, lst (refsOf LG) kg) :: (ae, ot) :: (aw, tup [.str noMore tw0]) :: (aP, lst vp kp) :: (c.L + 2, oD) :: (c.L + 1, oP2) :: (246, tabObj #[rawInt lrPos.line, rawInt lrPos.col, .ref cc]) :: (cc, oc) :: (LG ++ L1) := ⟨_, rfl⟩
 have hin1 : ∀ p ∈ L1, p ∈ l0 := fun p hp => by rw [hl0]; exact .tail _ (.tail _ (.tail _ (.tail _ (.tail _ (.tail _ (.tail _ (.tail _ (List.mem_append_right _ hp))))))))
 have hinG : ∀ p ∈ LG, p ∈ l0 := fun p hp => by rw [hl0]; exact .tail _ (.tail _ (.tail _ (.tail _ (.tail _ (.tail _ (.tail _ (.tail _ (List.mem_append_left _ hp))))))))
 have hing : (gl, lst (refsOf LG) kg) ∈ l0 := by rw [hl0]; exact .head _
 rw [← hl0]
 refine o_comp (ks := [Str.ofString "above", Str.ofString "team", Str.ofString "kind", Str.ofString "rights"]) (gt := [(Str.ofString "bytes", .type "bytes")]) (fr := []) hV (clos_cs hV (by rw [hcs]; kernel_rfl)) (by kernel_rfl) ?_
 walk_at"go"
 refine comp_src (ks := [Str.ofString "above", Str.ofString "team", Str.ofString "kind", Str.ofString "rights"]) (gt := [(Str.ofString "bytes", .type "bytes")]) (fr := []) hV hz (src_list (Vw.hh' hV hz) aT (as.map .ref)) (by kernel_rfl) (by lia) (by rw [List.length_map]; lia) (mk_list' (.inl (hin1 _ hTm))) (fun j m' l' ys => ∃ L', GivL (th.take j) L' ∧ ys = refsOf L' ∧ l' = L' ++ l0 ∧ ∃ o1 o2 o3 o4, m' = ([("above", o1), ("team", o2), ("kind", o3), ("rights", o4)] : Loc)) ⟨[], .nil, rfl, rfl, _, _, _, _, rfl⟩ (fun g p l h => by obtain ⟨k, h⟩ := h; exact ⟨k, h.cons⟩) ?_ ?_ ?_
 ·(rintro j m' l' ys g hst' hJq; refine hideG ?_; intro P0 hP0; obtain ⟨L', _, _, rfl, _⟩ := hJq; refine hP0 ?_; clear hP0 P0)
  exact ⟨_, .inl (List.mem_append_right _ (hin1 _ hTm))⟩
 ·intro c0' c' hV' e1 hz' en hgt' hcs' hst' hX' j v m' l' ys I2 oI2 D k hj hv hJ KA KS hKA hKS
  (refine hideG ?_; intro P0 hP0; obtain ⟨L', hL', rfl, rfl, o1, o2, o3, o4, rfl⟩ := hJ; refine hP0 ?_; clear hP0 P0)
  have hV := hV'
  have hgt := hgt'
  rw [List.getElem?_map] at hv
  (refine e1_2 (Option.map_eq_some_iff.mp hv) ?_; rintro ai hai rfl)
  have hjt : j < th.length := by rw [← hTl]; simpa using hj
  obtain ⟨x, hx⟩ : ∃ x, th[j]? = some x := ⟨_, List.getElem?_eq_getElem hjt⟩
  (refine e2_2 (hTi j ai x hai hx) ?_; intro ws kw hw1 hw2)
  (refine e1_2 hw2.ex ?_; rintro ts hts rfl)
  (refine e0_5 (hO j x hx) ?_; intro x1 x2 x3 x4 x5)
  (refine hideG ?_; intro P0 hP0; obtain ⟨t1, t2, t3, t4, rfl⟩ := len4 hts; refine hP0 ?_; clear hP0 P0)
  walk_at"go"
  refine o_unL hV (.inl (.tail _ (.tail _ (List.mem_append_right _ (hin1 _ hw1))))) ?_
  dsimp only [Th.ints, List.zip_cons_cons, List.map_cons, List.zip_nil_left, List.map_nil]
  dsimp only [vCT]
  walk_at"go"
  refine ⟨by lia, ?_⟩
  walk_at"go"
  refine o_bytes hV (.inl (.head _)) ((Ints.nil.cons _ _).cons _ _) (fun n hn => ?_) (by simp) fun bb tb hbb => ?_
  ·simp at hn; lia
  walk_at"go"
  refine hKA _ _ _ _ _ (.take (.there (.there .here)) (.take (.there (.there .here)) (.take .here (.drop .rfl)))) ⟨_, ?_, refs_snoc _ _ _, rfl, _, _, _, _, rfl⟩
  rw [tk_snoc hx]
  exact .snoc hL' ⟨_, _, _, _, _, hbb, rfl⟩
 (rintro D m' l' ys kD hJq; refine hideG ?_; intro P0 hP0; obtain ⟨L', hL', rfl, rfl, _⟩ := hJq; refine hP0 ?_; clear hP0 P0)
 rw [List.length_map, hTl, List.take_length] at hL'
 have hga := hLG.at
 have hgb := hL'.at
 refine ne_list (n := 1) (.inl (.tail _ (List.mem_append_right _ hing))) (.inl (.head _)) (by simp [refsOf, hLG.len, hL'.len]) (by lia) (fun j v u hv hu => ?_) ?_
 ·have hj : j < th.length := by
   rw [← hLG.len]
   rcases Nat.lt_or_ge j LG.length with q | q
   ·exact q
   ·rw [List.getElem?_eq_none (by simpa [refsOf] using q)] at hv; cases hv
  obtain ⟨x, hx⟩ : ∃ x, th[j]? = some x := ⟨_, List.getElem?_eq_getElem hj⟩
  (refine hideG ?_; intro P0 hP0; obtain ⟨a1, o1, q1, q2, b1, t11, t12, t13, k1, q3, rfl⟩ := hga j x hx; refine hP0 ?_; clear hP0 P0)
  (refine hideG ?_; intro P0 hP0; obtain ⟨a2, o2, r1, r2, b2, t21, t22, t23, k2, r3, rfl⟩ := hgb j x hx; refine hP0 ?_; clear hP0 P0)
  rw [q1] at hv; rw [r1] at hu
  cases hv; cases hu
  refine Eqv.list (.inl (.tail _ (List.mem_append_right _ (hinG _ q2)))) (.inl (.tail _ (List.mem_append_left _ r2))) rfl fun i v u hv hu => ?_
  match i with
  | 0 => cases hv; cases hu; exact Eqv.int rfl
  | 1 => cases hv; cases hu; exact Eqv.int rfl
  | 2 => cases hv; cases hu; exact Eqv.bytes (bInts_inj (q3.trans r3.symm))
  | 3 => cases hv; cases hu; exact Eqv.same
  | i + 4 => cases hv
 walk_at"go"
 refine ⟨fun h => (nomatch h), fun _ => ?_⟩
 refine qI.f _ _ (stn (qK.n _ _ ?_))
 refine ob_ex (l' := l0) (.drop Ex.app) ?_
 subst hl0
 (refine stq hV ?_; intro K qK; walk_at"go")
 have hga := hLG.at
 refine o_asgT hV ?_
 walk_at"go"
 refine o_comp (ks := [Str.ofString "above", Str.ofString "team", Str.ofString "mode", Str.ofString "plain"]) (gt := []) (fr := []) hV (clos_cs hV (by rw [hcs]; kernel_rfl)) (by kernel_rfl) ?_
 walk_at"go"
 have hrl : (refsOf LG).length = 9 := by simp [refsOf, hLG.len, h9]
 obtain ⟨l0, hl0⟩ : ∃ l0, l0 = (gl, lst (refsOf LG) kg) :: (ae, ot) :: (aw, tup [.str noMore tw0]) :: (aP, lst vp kp) :: (c.L + 2, oD) :: (c.L + 1, oP2) :: (246, tabObj #[rawInt lrPos.line, rawInt lrPos.col, .ref cc]) :: (cc, oc) :: (LG ++ L1) := ⟨_, rfl⟩
 have hin1 : ∀ p ∈ L1, p ∈ l0 := fun p hp => by rw [hl0]; exact .tail _ (.tail _ (.tail _ (.tail _ (.tail _ (.tail _ (.tail _ (.tail _ (List.mem_append_right _ hp))))))))
 have hinG : ∀ p ∈ LG, p ∈ l0 := fun p hp => by rw [hl0]; exact .tail _ (.tail _ (.tail _ (.tail _ (.tail _ (.tail _ (.tail _ (.tail _ (List.mem_append_left _ hp))))))))
 have hing : (gl, lst (refsOf LG) kg) ∈ l0 := by rw [hl0]; exact .head _
 rw [← hl0]
 refine comp_src (ks := [Str.ofString "above", Str.ofString "team", Str.ofString "mode", Str.ofString "plain"]) (gt := []) (fr := []) hV hz (src_list (Vw.hh' hV hz) gl (refsOf LG)) (by kernel_rfl) (by lia) (by lia) (mk_list' (.inl hing)) (fun j m' l' ys => Ints ys ((th.take j).map fun x => (x.a : Int)) ∧ l' = l0 ∧ ∃ o1 o2 o3 o4, m' = ([("above", o1), ("team", o2), ("mode", o3), ("plain", o4)] : Loc)) ⟨.nil, rfl, _, _, _, _, rfl⟩ (fun g p l h => by obtain ⟨k, h⟩ := h; exact ⟨k, h.cons⟩) ?_ ?_ ?_
 ·(rintro j m' l' ys g hst' hJq; (refine e0_3 hJq ?_; clear hJq; intro _ hE1 _; subst hE1))
  exact ⟨_, .inl hing⟩
 ·intro c0' c' hV' e1 hz' en hgt' hcs' hst' hX' j v m' l' ys I2 oI2 D k hj hv hJ KA KS hKA hKS
  (refine hideG ?_; intro P0 hP0; obtain ⟨hys, rfl, o1, o2, o3, o4, rfl⟩ := hJ; refine hP0 ?_; clear hP0 P0)
  have hV := hV'
  have hgt := hgt'
  have hjt : j < th.length := by lia
  obtain ⟨x, hx⟩ : ∃ x, th[j]? = some x := ⟨_, List.getElem?_eq_getElem hjt⟩
  (refine hideG ?_; intro P0 hP0; obtain ⟨a1, oo1, q1, q2, b1, t11, t12, t13, k1, q3, rfl⟩ := hga j x hx; refine hP0 ?_; clear hP0 P0)
  rw [q1] at hv
  cases hv
  walk_at"go"
  refine o_unL hV (.inl (.tail _ (.tail _ (hinG _ q2)))) ?_
  simp only [vNs_name, vNs_nil]
  dsimp only [vCT]
  walk_at"go"
  refine hKA _ _ _ _ _ .rfl ⟨?_, rfl, _, _, _, _, rfl⟩
  rw [tk_snoc hx, List.map_append]
  exact hys.snoc _ _
 (rintro aP3 m' l' vp3 kp3 hJq; (refine e0_3 hJq ?_; clear hJq; intro hvp3 hE1 _; subst hE1))
 rw [hrl, ← h9, List.take_length, hpl] at hvp3
 subst hl0
 refine o_specL hV (LSORT (aP := aP3) (vp := vp3) (kp := kp3) (pT th) hp8 hvp3) (le_n hn rfl) .nil (fun g' hR _ => hR _ (.head _)) ?_
 rintro _ _ hQ
 rcases hQ with ⟨r2, x, st, SL, told, tl, hS, hab, hrdy, hpo, hnf, hTR⟩
 walk_at"go"
 refine o_unT hV (.inl (.head _)) ?_
 walk_at"go"
 (refine qK.n _ _ ?_; (try clear qK K))
 refine ob_ex (l' := (tl ++ SL) ++ ([(aP3, lst vp3 kp3), (gl, lst (refsOf LG) kg), (ae, ot), (aw, tup [.str noMore tw0]), (aP, lst vp kp), (c.L + 2, oD), (c.L + 1, oP2), (246, tabObj #[rawInt lrPos.line, rawInt lrPos.col, .ref cc]), (cc, oc)] ++ (LG ++ L1))) (.drop .rfl) ?_
 refine ob_drp (Drp.perm (perm_front (tl ++ SL) [(aP3, lst vp3 kp3), (gl, lst (refsOf LG) kg), (ae, ot), (aw, tup [.str noMore tw0]), (aP, lst vp kp), (c.L + 2, oD), (c.L + 1, oP2), (246, tabObj #[rawInt lrPos.line, rawInt lrPos.col, .ref cc]), (cc, oc)] (LG ++ L1)) ?_)
 rw [List.append_assoc tl SL]
 refine ob_drp (Drp.perm (List.Perm.append_left _ (perm_front tl SL (LG ++ L1))) ?_)
 refine ob_ex (l' := (gl, lst (refsOf LG) kg) :: (aw, tup [.str noMore tw0]) :: (aP, lst vp kp) :: (c.L + 2, oD) :: (c.L + 1, oP2) :: (246, tabObj #[rawInt lrPos.line, rawInt lrPos.col, .ref cc]) :: (cc, oc) :: (SL ++ (tl ++ (LG ++ L1)))) (.drop (.keep (.drop .rfl))) ?_
 (refine stIf hV ?_; intro K qK KT qI; walk_at"go")
 refine o_cel hV (by rw [hcs]; repeat constructor) (.inl (by repeat constructor)) hoP ?_
 walk_at"go"
 refine o_specL hV (LTOLD (aP := aP) (vp := vp) (kp := kp) (pT th) hp8 hvp st.ns hab told tl hTR) (le_n hn rfl) .nil (fun g' hR _ => ⟨hR (aP, lst vp kp) (by repeat constructor), fun q hq => hR q (by simp [hq])⟩) ?_
 (rintro _ _ hJq; (refine e0_2 hJq ?_; clear hJq; intro hE1 hE2; subst hE1 hE2))
 walk_at"go"
 refine qI.f _ _ (stn (qK.n _ _ ?_))
 (refine stq hV ?_; intro K qK; walk_at"go")
 refine o_acompC (y := Str.ofString "place") (ks := []) (gt := [(Str.ofString "range", .type "range")]) (fr := [Str.ofString "parents"]) hV ?_ (clos_cs hV (by rw [hcs]; kernel_rfl)) (by kernel_rfl) rfl ?_
 ·rw [he]; kernel_rfl
 walk_at"go"
 refine o_range1 fun ra t1 t3 => ?_
 refine comp_srcC (y := Str.ofString "place") (ks := []) (gt := [(Str.ofString "range", .type "range")]) (fr := [Str.ofString "parents"]) (N := 9) hV hz (src_range (Vw.hh' hV hz) 0 9) (by kernel_rfl) (fun _ _ => rfl) (fun _ => rfl) (by lia) (by lia) (mk_range (x := 0) (y := 9) rfl (by decide) (by decide) (.inl (by repeat constructor))) (fun ya i m l ys => ∃ (oC : Obj) (v0 : Option Value) (L' : Led), oC.data = .cell v0 ∧ BelL (pT th) i L' ∧ ys = refsOf L' ∧ m = [] ∧ l = (ya, oC) :: (L' ++ (ra, rngO 0 9 1 t1 _ t3) :: (gl, lst (refsOf LG) kg) :: (aw, tup [.str noMore tw0]) :: (aP, lst vp kp) :: (c.L + 2, oD) :: (c.L + 1, oP2) :: (246, tabObj #[rawInt lrPos.line, rawInt lrPos.col, .ref cc]) :: (cc, oc) :: (SL ++ (tl ++ (LG ++ L1))))) (fun ya => ⟨cell0, none, [], rfl, .nil, rfl, rfl, rfl⟩) (fun g p l h => trivial) (fun _ _ _ _ _ _ _ _ => trivial) ?_ ?_
 ·intro ya c0' c' hV' e1 hz' en hgt' hcs' hky hst' hX' i v m l ys I oI D k hi hv hJ KA KS hKA hKS
  (refine e3_5 hJ ?_; clear hJ; intro oC v0 L' hoC hBL hE1 hE2 hE3; subst hE1 hE2 hE3)
  (refine e1_1 hv ?_; clear hv; rintro tv rfl)
  rw [show (0 : Int) + (i : Int) = ((i : Nat) : Int) by lia]
  have hV := hV'
  have hgt := hgt'
  have hcs2 : c'.cs = [(Str.ofString "place", ya), (Str.ofString "parents", c.L + 1)] := by rw [hcs']; unfold csOf; rw [hcs]; kernel_rfl
  walk_at"go"
  refine o_scel hV (by rw [hcs2]; repeat constructor) hky (by repeat constructor) hoC fun oC2 hoC2 => ⟨_, by repeat constructor, ?_⟩
  dsimp only [vCT]
  walk_at"go"
  refine o_comp (ks := [Str.ofString "one"]) (gt := []) (fr := [Str.ofString "parents", Str.ofString "place"]) hV (clos_cs hV (by rw [hcs2]; kernel_rfl)) (by kernel_rfl) ?_
  walk_at"go"
  unfold vGet
  rw [hgt]
  show vCall c' _ (.type "range") _ _ _ _ _
  walk_at"go"
  refine o_range2 fun rb t5 => ?_
  walk_at"go"
  refine ex_gen fun l3 hl3 => ?_
  obtain ⟨tra, trb, m1⟩ : ∃ tra trb, (rb, rngO 1 9 1 tra trb t5) ∈ l3 := ⟨_, _, by rw [← hl3]; exact .head _⟩
  have m2 : (ya, oC2) ∈ l3 := by rw [← hl3]; repeat constructor
  have m3 : (c.L + 1, oP2) ∈ l3 := by rw [← hl3]; simp
  have m4 : (aP, lst vp kp) ∈ l3 := by rw [← hl3]; simp
  refine comp_src (ks := [Str.ofString "one"]) (gt := []) (fr := [Str.ofString "parents", Str.ofString "place"]) (N := 8) hV hz' (src_range (Vw.hh' hV hz') 1 8) (by kernel_rfl) (by lia) (by lia) (mk_range (x := 1) (y := 9) rfl (by decide) (by decide) (.inl m1)) (fun j m l zs => Ints zs (il (belN (pT th) j i)) ∧ l = l3 ∧ ∃ o, m = ([("one", o)] : Loc)) ⟨.nil, rfl, _, rfl⟩ (fun g p l h => trivial) (fun _ _ _ _ _ _ _ => trivial) ?_ ?_
  ·intro c02 c2 hV2 e2 hz2 en2 hgt2 hcs2' hst2 hX2 j v m' l' zs I2 oI2 D2 k2 hj hv hJ KA2 KS2 hKA2 hKS2
   (refine hideG ?_; intro P0 hP0; obtain ⟨hzs, rfl, o, rfl⟩ := hJ; refine hP0 ?_; clear hP0 P0)
   (refine e1_1 hv ?_; clear hv; rintro tw rfl)
   rw [show (1 : Int) + (j : Int) = ((j + 1 : Nat) : Int) by lia]
   have hV := hV2
   have hgt := hgt2
   have hcs3 : c2.cs = [(Str.ofString "parents", c.L + 1), (Str.ofString "place", ya)] := by rw [hcs2']; unfold csOf; rw [hcs2]; kernel_rfl
   have hbs := belN_succ (pT th) j i
   have hpg := pl_get (pT th) (x := j + 1) (by lia)
   (refine e1_1 (hvp.get (j + 1) _ hpg) ?_; intro tpv htpv)
   have hvpl : vp.length = 9 := by rw [hvp.len]; rfl
   dsimp only [vCT]
   walk_at"go"
   refine o_cel hV (by rw [hcs3]; repeat constructor) (.inl (.tail _ (.tail _ m3))) hoP ?_
   walk_at"go"
   refine o_lst (.inl (.tail _ (.tail _ m4))) (by lia) (by lia) (by rw [Int.toNat_natCast]; exact htpv) ?_
   walk_at"go"
   refine o_cel hV (by rw [hcs3]; repeat constructor) (.inl (.tail _ (.tail _ m2))) hoC2 ?_
   walk_at"go"
   constructor
   ·intro h0
    have h0' : pT th (j + 1) = i := by simp at h0; lia
    rw [if_pos h0'] at hbs
    refine hKA2 _ _ _ _ _ .rfl ⟨?_, rfl, _, rfl⟩
    rw [hbs]; unfold il; rw [List.map_append]; exact hzs.snoc _ _
   ·intro h0
    have h0' : ¬ pT th (j + 1) = i := by simp at h0; lia
    rw [if_neg h0', List.append_nil] at hbs
    refine hKS2 _ _ _ _ .rfl ⟨?_, rfl, _, rfl⟩
    rw [hbs]; exact hzs
  (rintro D2 m2' l2 zs k2 hJq; (refine e0_3 hJq ?_; clear hJq; intro hzs hE1 _; subst hE1))
  subst hl3
  exact hKA _ _ _ _ _ (.take (.there (.there .here)) (.take (.there (.there .here)) (.take (.there (.there .here)) (.take .here (.drop .rfl))))) ⟨oC2, _, (D2, lst zs k2) :: L', hoC2, .snoc hBL hzs, refs_snoc _ _ _, rfl, rfl⟩
 (rintro ya bl m' l' ys kb hJq; refine hideG ?_; intro P0 hP0; obtain ⟨oC, v0, LB, hoC, hBL, rfl, rfl, rfl⟩ := hJq; refine hP0 ?_; clear hP0 P0)
 walk_at"go"
 (refine qK.n _ _ ?_; (try clear qK K))
 refine ob_ex (l' := (bl, lst (refsOf LB) kb) :: (LB ++ ([(ra, rngO 0 9 1 t1 _ t3), (gl, lst (refsOf LG) kg), (aw, tup [.str noMore tw0]), (aP, lst vp kp), (c.L + 2, oD), (c.L + 1, oP2), (246, tabObj #[rawInt lrPos.line, rawInt lrPos.col, .ref cc]), (cc, oc)] ++ (SL ++ (tl ++ (LG ++ L1)))))) (.take .here (.drop .rfl)) ?_
 refine ob_drp (Drp.perm (.cons _ (perm_front LB _ _)) ?_)
 refine ob_drp (Drp.perm (.cons _ (List.Perm.append_left _ (perm_front LB SL (tl ++ (LG ++ L1))))) ?_)
 refine ob_ex (l' := (bl, lst (refsOf LB) kb) :: (gl, lst (refsOf LG) kg) :: (aw, tup [.str noMore tw0]) :: (aP, lst vp kp) :: (c.L + 2, oD) :: (c.L + 1, oP2) :: (246, tabObj #[rawInt lrPos.line, rawInt lrPos.col, .ref cc]) :: (cc, oc) :: (SL ++ (LB ++ (tl ++ (LG ++ L1))))) (.keep (.drop .rfl)) ?_
 (refine stq hV ?_; intro K qK; walk_at"go")
 refine o_cel hV (by rw [hcs]; repeat constructor) (.inl (by repeat constructor)) hoP ?_
 walk_at"go"
 refine o_specL hV (LDUE (aP := aP) (vp := vp) (kp := kp) th h9 hO hvp) (le_n hn rfl) .nil (fun g' hR _ => ⟨hThG g' fun p hp => hR p (by simp [hp]), hR (aP, lst vp kp) (by repeat constructor)⟩) ?_
 (rintro _ _ hJq; refine hideG ?_; intro P0 hP0; obtain ⟨d, od, kvs, LD, rfl, rfl, hod, hDL⟩ := hJq; refine hP0 ?_; clear hP0 P0)
 walk_at"go"
 refine ob_perm (.cons _ (perm_front LD [(bl, lst (refsOf LB) _), (gl, lst (refsOf LG) kg), (aw, tup [.str noMore tw0]), (aP, lst vp kp), (c.L + 2, oD), (c.L + 1, oP2), (246, tabObj #[rawInt lrPos.line, rawInt lrPos.col, .ref cc]), (cc, oc)] (SL ++ (LB ++ (tl ++ (LG ++ L1)))))) ?_
 simp only [List.cons_append, List.nil_append]
 refine o_scel hV (by rw [hcs]; repeat constructor) (hck (Str.ofString "due", c.L + 2) (by rw [hcs]; repeat constructor)) (by repeat constructor) hD' fun oD2 hoD => ⟨_, by repeat constructor, ?_⟩
 (refine qK.n _ _ ?_; (try clear qK K))
 refine ob_drp (Drp.perm (List.Perm.append_left [(d, od), (bl, lst (refsOf LB) _), (gl, lst (refsOf LG) kg), (aw, tup [.str noMore tw0]), (aP, lst vp kp), (c.L + 2, oD2), (c.L + 1, oP2), (246, tabObj #[rawInt lrPos.line, rawInt lrPos.col, .ref cc]), (cc, oc)] (perm_front LD SL (LB ++ (tl ++ (LG ++ L1))))) ?_)
 refine ob_drp (Drp.perm (perm4 [(d, od), (bl, lst (refsOf LB) _), (gl, lst (refsOf LG) kg), (aw, tup [.str noMore tw0]), (aP, lst vp kp), (c.L + 2, oD2), (c.L + 1, oP2)] [(246, tabObj #[rawInt lrPos.line, rawInt lrPos.col, .ref cc]), (cc, oc)] SL (LD ++ (LB ++ (tl ++ (LG ++ L1))))) ?_)
 (refine stq hV ?_; intro K qK; walk_at"go")
 refine o_asgT hV ?_
 walk_at"go"
 refine o_sum hV (.inr hp) hI fun z tz => ?_
 refine o_specL hV (LMADE th h9 hO st SL hS hab hrdy hpo hnf z [(246, tabObj #[rawInt lrPos.line, rawInt lrPos.col, .ref cc]), (cc, oc)] (.inr ⟨cc, oc, hoc, rfl⟩)) (le_n hn rfl) .appl (fun g' hR _ => ⟨hLG.givAt h9 (k := kg) (hR (gl, lst (refsOf LG) kg) (by repeat constructor)) fun p hp => hR p (by simp [hp]), hBL.belAt (hR (bl, lst (refsOf LB) _) (by repeat constructor)) fun p hp => hR p (by simp [hp])⟩) ?_
 (rintro _ _ hJq; refine Lz.el hJq ?_; clear hJq; rintro r3 ao b tb ko vo order st' SL' lt' hvo hlog hinv hS' ha' hr' hpo' hnf' hlt')
 walk_at"go"
 refine o_unT hV (.inl (.head _)) ?_
 walk_at"go"
 (refine qK.n _ _ ?_; (try clear qK K))
 obtain ⟨Y, hYe⟩ : ∃ Y, Y = (d, od) :: (bl, lst (refsOf LB) kb) :: (gl, lst (refsOf LG) kg) :: (aw, tup [.str noMore tw0]) :: (aP, lst vp kp) :: (c.L + 2, oD2) :: (c.L + 1, oP2) :: (LD ++ (LB ++ (tl ++ (LG ++ L1)))) := ⟨_, rfl⟩
 have yd : (d, od) ∈ Y := by rw [hYe]; exact .head _
 have yb : (bl, lst (refsOf LB) kb) ∈ Y := by rw [hYe]; repeat constructor
 have yw : (aw, tup [.str noMore tw0]) ∈ Y := by rw [hYe]; repeat constructor
 have y2 : (c.L + 2, oD2) ∈ Y := by rw [hYe]; repeat constructor
 have yD : ∀ p ∈ LD, p ∈ Y := fun p hp => by rw [hYe]; exact .tail _ (.tail _ (.tail _ (.tail _ (.tail _ (.tail _ (.tail _ (List.mem_append_left _ hp)))))))
 have yB : ∀ p ∈ LB, p ∈ Y := fun p hp => by rw [hYe]; exact .tail _ (.tail _ (.tail _ (.tail _ (.tail _ (.tail _ (.tail _ (List.mem_append_right _ (List.mem_append_left _ hp))))))))
 have y1 : ∀ p ∈ L1, p ∈ Y := fun p hp => by rw [hYe]; exact .tail _ (.tail _ (.tail _ (.tail _ (.tail _ (.tail _ (.tail _ (List.mem_append_right _ (List.mem_append_right _ (List.mem_append_right _ (List.mem_append_right _ hp))))))))))
 rw [← hYe]
 clear hYe
 refine ob_ex (l' := (ao, lst vo ko) :: ((SL' ++ lt') ++ Y)) (.drop .rfl) ?_
 refine ob_drp (Drp.perm (l' := lt' ++ ((ao, lst vo ko) :: (SL' ++ Y))) (by rw [List.append_assoc]; exact (List.Perm.append_left [(ao, lst vo ko)] (perm_front SL' lt' Y)).trans (perm_front [(ao, lst vo ko)] lt' (SL' ++ Y))) ?_)
 have hol : order.length ≤ 9 := nodup_le9 (by have := hinv.nd; rwa [List.append_nil] at this) fun v hv => hinv.le v (by simpa using hv)
 have hlogl := log_len th order
 (refine stq hV ?_; intro K qK; walk_at"go")
 refine o_asgT hV ?_
 walk_at"go"
 refine o_specL hV (LRECS (order.map (rcD th)) (by lia) (by rw [List.length_map]; lia) hlog lt' hlt') (le_n hn rfl) .appl (fun _ _ _ => trivial) ?_
 (rintro _ _ hJq; refine Lz.el hJq ?_; clear hJq; rintro LR r4 rl ae2 kr2 t02 cc2 oc2 ot2 nt2 hLR hoc2 ht1 ht2)
 walk_at"go"
 refine o_unT hV (.inl (.head _)) ?_
 walk_at"go"
 (refine qK.n _ _ ?_; (try clear qK K))
 refine ob_ex (l' := [(rl, lst (refsOf LR) kr2), (ae2, ot2)] ++ ((tabL cc2 oc2 ++ LR) ++ ([(ao, lst vo ko)] ++ (SL' ++ Y)))) (.drop .rfl) ?_
 refine ob_drp (Drp.perm (((List.Perm.append_left _ (List.Perm.append_left _ (perm_front [(ao, lst vo ko)] SL' Y))).trans (List.Perm.append_left _ (perm_front (tabL cc2 oc2 ++ LR) SL' ([(ao, lst vo ko)] ++ Y)))).trans (perm_front _ SL' _)) ?_)
 obtain ⟨Z, hZe⟩ : ∃ Z, Z = [(rl, lst (refsOf LR) kr2), (ae2, ot2)] ++ ((tabL cc2 oc2 ++ LR) ++ ([(ao, lst vo ko)] ++ Y)) := ⟨_, rfl⟩
 have zr : (rl, lst (refsOf LR) kr2) ∈ SL' ++ Z := by rw [hZe]; exact List.mem_append_right _ (List.mem_append_left _ (.head _))
 have ze : (ae2, ot2) ∈ SL' ++ Z := by rw [hZe]; exact List.mem_append_right _ (List.mem_append_left _ (.tail _ (.head _)))
 have za : (ao, lst vo ko) ∈ SL' ++ Z := by rw [hZe]; exact List.mem_append_right _ (List.mem_append_right _ (List.mem_append_right _ (List.mem_append_left _ (.head _))))
 have za' : (ao, lst vo ko) ∈ Z := by rw [hZe]; exact List.mem_append_right _ (List.mem_append_right _ (List.mem_append_left _ (.head _)))
 have z6 : (246, tabObj #[rawInt lrPos.line, rawInt lrPos.col, .ref cc2]) ∈ Z := by rw [hZe]; simp [tabL]
 have zR : ∀ p ∈ LR, p ∈ SL' ++ Z := fun p hp => by rw [hZe]; exact List.mem_append_right _ (List.mem_append_right _ (List.mem_append_left _ (List.mem_append_right _ hp)))
 have zY' : ∀ p ∈ Y, p ∈ Z := fun p hp => by rw [hZe]; exact List.mem_append_right _ (List.mem_append_right _ (List.mem_append_right _ hp))
 have zY : ∀ p ∈ Y, p ∈ SL' ++ Z := fun p hp => List.mem_append_right _ (zY' p hp)
 rw [← hZe]
 clear hZe
 (refine stIf hV ?_; intro K qK KT qI; walk_at"go")
 refine ne_tup (n := 0) (vs := [.str noMore t02]) (us := [.str noMore tw0]) (.inl ze) ht1 ht2 (.inl (zY _ yw)) rfl rfl rfl (by lia) (fun j v w hv hw => ?_) ?_
 ·match j with
  | 0 => cases hv; cases hw; exact Eqv.str rfl
  | j + 1 => cases hv
 walk_at"go"
 refine ⟨fun h => (nomatch h), fun _ => ?_⟩
 have hod9 : isDir th 0 = true := by
  have := (tA_ok h9 hO (Nat.zero_le 8)).2.2.2.2 rfl
  unfold isDir; simp [this.2]
 have hperm : (il order).Perm (il (dueN th 9)) := by
  unfold il
  refine List.Perm.map _ ?_
  refine (List.perm_ext_iff_of_nodup (by have := hinv.nd; rwa [List.append_nil] at this) (List.Pairwise.filter _ List.nodup_range)).mpr fun v => ?_
  rw [hinv.all hod9 hp8 v]
  rw [List.mem_filter, List.mem_range]
  constructor
  ·rintro ⟨q1, q2⟩; exact ⟨by lia, q2⟩
  ·rintro ⟨q1, q2⟩; exact ⟨by lia, q2⟩
 have hkk := hDL.keys
 (refine e0_2 hDL.at ?_; intro hkl hDat)
 have hdl9 : (dueN th 9).length ≤ 9 := by unfold dueN; exact Nat.le_trans (List.length_filter_le _ _) (by simp)
 have hvl : vo.length = order.length := by rw [hvo.len]; simp [il]
 refine o_sortL (.inl za) hvo (by unfold il; rw [List.length_map]; lia) fun D1 ws1 ms1 e1 hws1 hmp1 hms1 => ?_
 walk_at"go"
 refine o_cel hV (by rw [hcs]; repeat constructor) (.inl (.tail _ (zY _ y2))) hoD ?_
 walk_at"go"
 refine o_sortD hV (.tail _ (zY _ yd)) hod (by lia) fun D2 ws2 ms2 e2 hws2 hmp2 hms2 => ?_
 rw [hkk] at hmp2
 have hmse := sorted_unique ((hmp1.trans hperm).trans hmp2.symm) hms1 hms2
 subst hmse
 walk_at"go"
 refine ne_list (n := 0) (.inl (.tail _ (.head _))) (.inl (.head _)) (by rw [hws1.len, hws2.len]) (by lia) (hws1.eqv (c := c) hws2).2 ?_
 walk_at"go"
 refine ⟨fun h => (nomatch h), fun _ => ?_⟩
 have hknd : (kvs.map (·.1)).Nodup := by rw [hkk]; exact il_nodup (List.Pairwise.filter _ List.nodup_range)
 have hdue : ∀ v, v ∈ order → ∃ a o, valueAt kvs (v : Int) = some (.ref a) ∧ (a, o) ∈ LD ∧ DueO (drD th v) o := by
  intro v hv
  have h1 := (hinv.all hod9 hp8 v).mp hv
  have h2 : v ∈ dueN th 9 := by unfold dueN; rw [List.mem_filter, List.mem_range]; exact ⟨by lia, h1.2⟩
  (refine e1_1 (List.getElem?_of_mem h2) ?_; intro i hi)
  (refine e2_3 (hDat i v hi) ?_; intro a o q1 q2 q3)
  exact i2_3 a o (valueAt_at hknd q1) q2 q3
 have hvae : ∀ (j : Nat) (v : Value), vo[j]? = some v → ∃ (u : Nat) (tu : Tok), order[j]? = some u ∧ v = Value.int (u : Int) tu := by
  intro j v hv
  have hj : j < order.length := by
   rw [← hvl]
   rcases Nat.lt_or_ge j vo.length with q | q
   ·exact q
   ·rw [List.getElem?_eq_none q] at hv; cases hv
  obtain ⟨u, hu⟩ : ∃ u, order[j]? = some u := ⟨_, List.getElem?_eq_getElem hj⟩
  obtain ⟨tu, htu⟩ := hvo.get j (u : Int) (by unfold il; rw [List.getElem?_map, hu]; rfl)
  rw [htu] at hv
  exact i2_2 _ tu hu ((Option.some.inj hv).symm)
 refine o_comp (ks := [Str.ofString "place"]) (gt := []) (fr := [Str.ofString "due"]) hV (clos_cs hV (by rw [hcs]; kernel_rfl)) (by kernel_rfl) ?_
 walk_at"go"
 refine comp_src (ks := [Str.ofString "place"]) (gt := []) (fr := [Str.ofString "due"]) hV hz (src_list (Vw.hh' hV hz) ao vo) (by kernel_rfl) (by lia) (by lia) (mk_list' (.inl (.tail _ (.tail _ za)))) (fun j m' l' ys => ys.length = j ∧ (∀ (i : Nat) v, i < j → order[i]? = some v → ∃ a o, ys[i]? = some (.ref a) ∧ (a, o) ∈ LD ∧ DueO (drD th v) o) ∧ l' = (D2, lst ws2 e2) :: (D1, lst ws1 e1) :: (SL' ++ Z) ∧ ∃ o, m' = ([("place", o)] : Loc)) ⟨rfl, fun _ _ h => absurd h (Nat.not_lt_zero _), rfl, _, rfl⟩ (fun g p l h => by obtain ⟨k, h⟩ := h; exact ⟨k, h.cons⟩) ?_ ?_ ?_
 ·(rintro j m' l' ys g hst' hJq; refine hideG ?_; intro P0 hP0; obtain ⟨_, _, rfl, _⟩ := hJq; refine hP0 ?_; clear hP0 P0)
  exact ⟨_, .inl (.tail _ (.tail _ za))⟩
 ·intro c0' c' hV' e1' hz' en hgt' hcs' hst' hX' j v m' l' ys I2 oI2 D k hj hv hJ KA KS hKA hKS
  (refine hideG ?_; intro P0 hP0; obtain ⟨hyl, hys, rfl, o, rfl⟩ := hJ; refine hP0 ?_; clear hP0 P0)
  have hV := hV'
  have hgt := hgt'
  (refine e2_2 (hvae j v hv) ?_; rintro u tu hu rfl)
  (refine e2_3 (hdue u (List.mem_of_getElem? hu)) ?_; intro a oa hval haD hDO)
  have hcs2 : c'.cs = [(Str.ofString "due", c.L + 2)] := by rw [hcs']; unfold csOf; rw [hcs]; kernel_rfl
  have hod' : IsD c'.w od kvs := by rw [e1']; exact hod
  dsimp only [vCT]
  walk_at"go"
  refine o_cel hV (by rw [hcs2]; repeat constructor) (.inl (.tail _ (.tail _ (.tail _ (.tail _ (zY _ y2)))))) hoD ?_
  walk_at"go"
  refine o_dget (.tail _ (.tail _ (.tail _ (.tail _ (zY _ yd))))) hod' hval ?_
  refine hKA _ _ _ _ _ .rfl ⟨by simp [hyl], fun i w hi hw => ?_, rfl, _, rfl⟩
  rcases Nat.lt_or_ge i j with q | q
  ·(refine e2_3 (hys i w q hw) ?_; intro b p h1 h2 h3)
   exact i2_3 b p (by rw [List.getElem?_append_left (by lia)]; exact h1) h2 h3
  ·have : i = j := by lia
   subst this
   rw [hu] at hw
   cases hw
   exact i2_3 a oa (by rw [List.getElem?_append_right (by lia), hyl, Nat.sub_self]; rfl) haD hDO
 (rintro D3 m' l' ys k3 hJq; refine hideG ?_; intro P0 hP0; obtain ⟨hyl, hys, rfl, _⟩ := hJq; refine hP0 ?_; clear hP0 P0)
 walk_at"go"
 have hRat := hLR.at
 have hRl : LR.length = order.length := by rw [hLR.len, List.length_map]
 refine ne_list (n := 1) (.inl (.tail _ (.tail _ (.tail _ zr)))) (.inl (.head _)) (by rw [hyl, hvl]; simp [refsOf, hRl]) (by lia) (fun j v u hv hu => ?_) ?_
 ·have hj : j < order.length := by
   rw [← hvl, ← hyl]
   rcases Nat.lt_or_ge j ys.length with q | q
   ·exact q
   ·rw [List.getElem?_eq_none q] at hu; cases hu
  obtain ⟨w, hw⟩ : ∃ w, order[j]? = some w := ⟨_, List.getElem?_eq_getElem hj⟩
  (refine hideG ?_; intro P0 hP0; obtain ⟨a1, o1, q1, q2, t11, t12, t13, k1, rfl⟩ := hRat j (rcD th w) (by rw [List.getElem?_map, hw]; rfl); refine hP0 ?_; clear hP0 P0)
  (refine hideG ?_; intro P0 hP0; obtain ⟨a2, o2, r1, r2, t21, t22, t23, k2, rfl⟩ := hys j w (by lia) hw; refine hP0 ?_; clear hP0 P0)
  rw [q1] at hv; rw [r1] at hu
  cases hv; cases hu
  refine Eqv.list (.inl (.tail _ (.tail _ (.tail _ (zR _ q2))))) (.inl (.tail _ (.tail _ (.tail _ (zY _ (yD _ r2)))))) rfl fun i v u hv hu => ?_
  match i with
  | 0 => cases hv; cases hu; exact Eqv.str (txt_cod _)
  | 1 => cases hv; cases hu; exact Eqv.int rfl
  | 2 => cases hv; cases hu; exact Eqv.str (txt_cod _)
  | i + 3 => cases hv
 walk_at"go"
 refine ⟨fun h => (nomatch h), fun _ => ?_⟩
 refine qI.f _ _ (stn (qK.n _ _ ?_))
 refine ob_ex (l' := SL' ++ Z) (.drop (.drop (.drop .rfl))) ?_
 refine stl hV ?_
 walk_at"go"
 refine o_specL hV (LEND th h9 hO order hvo st' SL' hS' hinv ha' hr' hpo' hnf') (le_n hn rfl) .appl (fun g' hR _ => ⟨hThG g' fun p hp => hR p (zY' p (y1 p hp)), hBL.belAt (hR _ (zY' _ yb)) fun p hp => hR p (zY' p (yB p hp)), hR _ za'⟩) ?_
 rintro _ l' rfl
 exact ⟨l' ++ Z, [], .rfl, rfl, _, List.mem_append_right _ z6⟩
end
section
noncomputable def d0 : DefRec := match defOf q0 "law" with | some x => x.1 | none => ⟨"", ⟨[], [], none, [], [], none, []⟩, [], { kind := .function, names := [], isGenerator := false, isCoroutine := false, more := [] }, default⟩
noncomputable def freed0 : Obj := { cls := .none, data := .freed }
noncomputable def hide (h : Heap) (a : Addr) : Heap := { h with objs := h.objs.set! a freed0 }
theorem hide_get (h : Heap) (a b : Addr) : (hide h a).get? b = if b = a then none else h.get? b := by
 unfold hide Heap.get?
 simp only [Array.set!_eq_setIfInBounds]
 by_cases e : b = a
 ·subst e
  rw [if_pos rfl]
  by_cases q : b < h.objs.size
  ·rw [Array.getElem?_setIfInBounds_self_of_lt q]; rfl
  ·rw [Array.getElem?_eq_none (by simpa using q)]
 ·rw [if_neg e, Array.getElem?_setIfInBounds_ne (Ne.symm e)]
theorem hide_same (h : Heap) (a : Addr) : Heap.SameBut a h (hide h a) := ⟨by unfold hide; simp, fun b hb => by rw [hide_get, if_neg hb]⟩
theorem kf246 (P : Params) : (KF P).lookup 246 = none := by kernel_rfl
theorem kfnd : loose0 = looseW q0 loose0 := by kernel_rfl
theorem law_main {w : World} {s₁ : Shared} (X : (KF w.params).In s₁.heap) (ht : s₁.heap.get? 246 = some (tabObj #[])) {mg mb : Str → Option Value} (T : TopRead q0 loose0 mg mb s₁.heap) {aS : Addr} {vs : List Value} {ks : Nat} (hS : s₁.heap.get? aS = some (lst vs ks)) (hI : AllI vs) (hz : vs.length ≤ 63) (hg : s₁.gens = #[]) :
  codeAny (M w) callerA (.call (.ref 339) ⟨[.ref aS], []⟩) (fun r s' => r = .ok (.ret (.bool true)) ∧ OldK s₁.heap s'.heap ∧ s'.os = s₁.os ∧ s'.gens = #[]) s₁ := by
 have hk : ∀ b o, b ≠ 246 → s₁.heap.get? b = some o → (hide s₁.heap 246).get? b = some o := fun b o hb e => by rw [hide_get, if_neg hb]; exact e
 have hb : ∀ b o, (hide s₁.heap 246).get? b = some o → b ≠ 246 ∧ s₁.heap.get? b = some o := fun b o e => by
  rw [hide_get] at e
  split at e
  ·cases e
  ·exact ⟨‹_›, e⟩
 have hS0 : aS ≠ 246 := by
  rintro rfl
  rw [ht] at hS
  cases hS
 have hsame := hide_same s₁.heap 246
 have hX : (KF w.params).In (hide s₁.heap 246) := fun a o e => hk a o (fun h => by rw [h, kf246] at e; cases e) (X a o e)
 have hT : TopRead q0 loose0 mg mb (hide s₁.heap 246) := ⟨T.g.sameBut hsame (by decide), T.b.sameBut hsame (by decide), by
  (refine e1_2 T.nolimit ?_; intro mc h1 h2)
  exact ⟨mc, h1.sameBut hsame (by decide), h2⟩, T.builtins, T.free⟩
 have C : Cx w callerA ⟨s₁.os, [], s₁.heap⟩ [] (hide s₁.heap 246) 10 := ⟨rfl, rfl, trivial, hX, ⟨mg, mb, hT⟩, by decide, by decide, rfl⟩
 have H : Hp (hide s₁.heap 246) s₁.heap [(246, tabObj #[])] := ⟨fun b o e => (hb b o e).2, fun p hp => by
  have : p = (246, tabObj #[]) := by simpa using hp
  subst this
  exact ⟨ht, by rw [hide_get, if_pos rfl]⟩, by simp, Nat.le_of_eq hsame.1⟩
 refine codeAny_mono (LAW (w := w) (aS := aS) (vs := vs) (ks := ks) hI hz callerA [] (hide s₁.heap 246) s₁ C H (fun _ _ h => nomatch h) hg (hk _ _ hS0 hS)) ?_
 rintro r s' (⟨v, l', rfl, H', hg', ho', _, _, rfl, ps, hps⟩ | ⟨e, rfl, F⟩)
 ·refine ⟨rfl, ⟨fun b o e => ?_, fun b o e => ?_⟩, ho', hg'⟩
  ·by_cases hb2 : b = 246
   ·subst hb2
    rw [ht] at e
    cases e
    refine .inr (.inl ⟨?_, rfl, #[], ps, rfl, ?_⟩)
    ·(refine hideG ?_; intro P0 hP0; obtain ⟨o, vs, file, tf, flags, tg, inF, text, tt, h1, h2, h3, h4, _⟩ := hd250 X; refine hP0 ?_; clear hP0 P0)
     exact i3_4 250 o vs h1 h2 h3 h4
    ·rw [(H'.nw _ hps).1]; simp [tabObj]
   ·exact .inl (H'.keep _ _ (hk _ _ hb2 e))
  ·by_cases hb2 : b = 246
   ·subst hb2; exact ⟨_, (H'.nw _ hps).1⟩
   ·exact ⟨o, H'.keep _ _ (hk _ _ hb2 e)⟩
 ·(refine e6_13 F ?_; clear F; intro _ _ _ _ _ _ _ _ _ _ _ _ _ _ _ _ _ _ hf)
  exact hf.elim
theorem walk0 : WalkX q0 loose0 (fun _ _ => True) Yf Ya PySem.Challenge.rw_oc0264_01.row.toRowW d0 [] fun f vs => PySem.call f vs := by
 intro w s₀ s₁ mg mb G Y fa o pm cd doc dV kV ho hd hcd hD hmg hg args vals as hL hpre hlay hrd hwl hlo
 have T0 := topRead_of G.T
 rw [← kfnd] at T0
 have y1 : KA.map s₀.heap.get? = (KF w.params).map (fun p => some p.2) := congrArg Prod.fst Y
 have y3 : s₀.heap.get? 246 = some (tabObj #[]) := congrArg (fun z => z.2.2) Y
 have X0 : (KF w.params).In s₀.heap := Frag.in_of (KA_is w.params) y1
 have X : (KF w.params).In s₁.heap := X0.keeps hL.keeps
 have ht : s₁.heap.get? 246 = some (tabObj #[]) := hL.keeps _ _ y3
 have e339 : mg d0.name = some (.ref 339) := mg_of X T0.g (by kernel_rfl)
 rw [e339] at hmg
 cases hmg
 wrow_args hpre hlay hrd hwl hlo
 rename_i ns hs hlay0 hl0 hr0 hl2 as1 as2 la vs as3 hIs hra w1 r0 hIn hrr hc1 hc2
 have w2 : Well w.params s₁.heap (.ref la) (WData.list (ofPys (ns.map PyData.int))) := w1
 have hS : s₁.heap.get? la = some (lst vs 0) := by
  cases w2 with
  | list h _ =>
   (refine hideG ?_; intro P0 hP0; obtain ⟨o2, e1, _, n2, e2⟩ := hIs; refine hP0 ?_; clear hP0 P0)
   rw [h] at e1
   cases e1
   simp only [Data.seq.injEq] at e2
   rw [h, e2.1]
 have hI : AllI vs := (Ints.of hIn).all
 have hz : vs.length ≤ 63 := by
  rw [IntsAre.length hIn]; lia
 refine enter_call ?_
 refine codeAny_mono (law_main X ht T0 hS hI hz hg) ?_
 (rintro r s' hJq; (refine e0_4 hJq ?_; clear hJq; intro hE1 h1 h2 h3; subst hE1))
 exact ⟨.inl ⟨_, .bool true, [], rfl, fun _ => rfl, .bool _, by kernel_rfl, fun _ => ⟨List.nodup_nil, fun a ha => by simp at ha⟩⟩, h1, h2, .of_eq h3⟩
end
section
theorem fence0 (s : Shared) : fenceModules? pw s = some s := by rfl
theorem open0 : opening pw = plainProg pw.main.scope.names := by rfl
theorem size0 (w : World) : ((boot_heap w.params).isNs mainGlobals && (Array.mk [] : Array GenState).size == 0, (boot_heap w.params).objs.size, (boot_heap w.params).nsMap mainGlobals "__annotations__") = (true, 11, some (.ref 6)) := by kernel_rfl
theorem t2 (w : World) (os : OsState) : ∃ s₁, topRun treeTable pw w 11 (some (.ref 6)) 3000 ⟨boot_heap w.params, #[], boot_drawn, boot_toks, os⟩ (topStub pw) = some s₁ ∧ (staticsOk (importedModules pw.main.body) (boot_heap w.params) s₁.heap && namesBound pw s₁.heap && gensDone s₁ && laidKept (boot_heap w.params) s₁.heap) = true ∧ openSeen q0 loose0 (importedModules pw.main.body) (fun _ => true) true s₁ = openGood q0 loose0 ∧ Yf s₁ = Ya w := by
 (refine e1_2 (Option.map_eq_some_iff.mp (t1 w os)) ?_; intro s₁ hr hl)
 exact ⟨s₁, hr, congrArg (·.1) hl, congrArg (·.2.1) hl, congrArg (·.2.2) hl⟩
theorem t3 (w : World) (os : OsState) {s₁ : Shared} (hr : topRun treeTable pw w 11 (some (.ref 6)) 3000 ⟨boot_heap w.params, #[], boot_drawn, boot_toks, os⟩ (topStub pw) = some s₁) (l1 : (staticsOk (importedModules pw.main.body) (boot_heap w.params) s₁.heap && namesBound pw s₁.heap && gensDone s₁ && laidKept (boot_heap w.params) s₁.heap) = true) : topFrom treeTable pw w 3000 ⟨boot_heap w.params, Array.mk [], boot_drawn, boot_toks, os⟩ = some s₁ := by
 have size := size0 w
 obtain ⟨z1, z2, z3⟩ : _ ∧ _ ∧ _ := by simpa only [Prod.mk.injEq] using size
 unfold topFrom
 dsimp only
 rw [z1, z2, z3, hr]
 show (match staticsOk (importedModules pw.main.body) (boot_heap w.params) s₁.heap && namesBound pw s₁.heap && gensDone s₁ && laidKept (boot_heap w.params) s₁.heap with | true => _ | false => _) = _
 rw [l1]
theorem bindE {α β : Type} {o : Option α} {x : α} {f : α → Option β} {r : Option β} (e : o = some x) (t : f x = r) : o.bind f = r := e ▸ t
theorem t4 (w : World) (os : OsState) {s₁ : Shared} (e : fencedOpening treeTable pw w 3000 = some ⟨boot_heap w.params, Array.mk [], boot_drawn, boot_toks, os⟩) (t : topFrom treeTable pw w 3000 ⟨boot_heap w.params, Array.mk [], boot_drawn, boot_toks, os⟩ = some s₁) : openEnds treeTable pw w 3000 = some s₁ := by
 unfold openEnds
 exact bindE e t
theorem prE {α β γ : Type} {f : α → β × γ} {o : Option α} {s : α} {b : β} {d : γ} (t : o = some s) (g : α → β) (k : α → γ) (hf : f = fun s => (g s, k s)) (h1 : g s = b) (h2 : k s = d) : o.map f = some (b, d) := by
 subst t hf h1 h2; rfl
theorem bq1 (w : World) : ∃ os, fencedOpening treeTable pw w 3000 = some ⟨boot_heap w.params, Array.mk [], boot_drawn, boot_toks, os⟩ := by
 (refine e1_2 (Option.map_eq_some_iff.mp (boot_open (p := pw) (N := 3000) open0 (by decide) fence0 w)) ?_; rintro ⟨h, gs, d, k, os⟩ e e')
 obtain ⟨rfl, rfl, rfl, rfl⟩ : h = boot_heap w.params ∧ gs = Array.mk [] ∧ d = boot_drawn ∧ k = boot_toks := by simpa using e'
 exact ⟨os, e⟩
theorem bq2 (w : World) : ∃ s₁, openEnds treeTable pw w 3000 = some s₁ ∧ openSeen q0 loose0 (importedModules pw.main.body) (fun _ => true) true s₁ = openGood q0 loose0 ∧ Yf s₁ = Ya w := by
 obtain ⟨os, e⟩ := bq1 w
 obtain ⟨s₁, hr, l1, l2, l3⟩ := t2 w os
 exact ⟨s₁, t4 w os e (t3 w os hr l1), l2, l3⟩
theorem left0 : LeftO pw q0 loose0 (fun _ => true) Yf Ya 3000 := fun w => by
 obtain ⟨s₁, t, l2, l3⟩ := bq2 w
 exact prE t _ _ rfl l2 l3
theorem said0 : PySem.Challenge.rw_oc0264_01.wellSaid = true := by
 rw [PySem.W.Fast.te9446332074065402090]
 kernel_rfl
theorem red0 (hw : PySem.Challenge.rw_oc0264_01.row.toRowW.promised) (H : WalkX q0 loose0 (fun _ _ => True) Yf Ya PySem.Challenge.rw_oc0264_01.row.toRowW d0 [] fun f vs => PySem.call f vs) : PySem.Challenge.rw_oc0264_01.Holds := by
 refine holds_law said0 fun said => ?_
 exact holds_openX (r := PySem.Challenge.rw_oc0264_01.row) (q := q0) (loose := loose0) (Xt := fun _ => true) (XP := fun _ _ => True) (Yf := Yf) (Ya := Ya) (d := d0) (kwd := []) (N := 3000) left0 (fun _ _ => trivial) (fun _ _ _ _ _ => trivial) (by kernel_rfl) (by kernel_rfl) (by kernel_rfl) (fun s _ => recFacts_nil rfl) rfl said (by decide +kernel) ⟨rfl, rfl, rfl, rfl, rfl, by decide +kernel⟩ hw H
end
end Mine.Internal
end
set_option maxRecDepth 100000 in
theorem PySem.Challenge.cw_oc0264_01_holds : PySem.Challenge.rw_oc0264_01.Holds := by
 refine Mine.Internal.red0 ?_ Mine.Internal.walk0
 w_witness2
