import PyProof.Rows.All
import Wide.All
import OpenK.AllK
import Wide.FinOn
import Lean
import PySem.Challenge.RW_om0029_02
set_option Elab.async false
set_option linter.all false
section
open PySem PySem.W PyProof.Rows
set_option maxRecDepth 100000
set_option maxHeartbeats 8000000
namespace Mine
open_top hd for PySem.Challenge.rw_om0029_02
end Mine
end
section
set_option Elab.async false
namespace Mine
theorem e0_3 {P1 P2 P3 : Prop} {C : Prop} (h : P1 ∧ P2 ∧ P3) (k : P1 → P2 → P3 → C) : C :=
  k (h.1) (h.2.1) (h.2.2)
theorem e0_4 {P1 P2 P3 P4 : Prop} {C : Prop} (h : P1 ∧ P2 ∧ P3 ∧ P4) (k : P1 → P2 → P3 → P4 → C) : C :=
  k (h.1) (h.2.1) (h.2.2.1) (h.2.2.2)
theorem e0_6 {P1 P2 P3 P4 P5 P6 : Prop} {C : Prop} (h : P1 ∧ P2 ∧ P3 ∧ P4 ∧ P5 ∧ P6) (k : P1 → P2 → P3 → P4 → P5 → P6 → C) : C :=
  k (h.1) (h.2.1) (h.2.2.1) (h.2.2.2.1) (h.2.2.2.2.1) (h.2.2.2.2.2)
theorem e1_2.{u1} {α1 : Sort u1} {P1 P2 : α1 → Prop} {C : Prop} (h : ∃ x1, P1 x1 ∧ P2 x1) (k : ∀ x1, P1 x1 → P2 x1 → C) : C :=
  h.elim fun x1 h => k x1 (h.1) (h.2)
theorem e1_3.{u1} {α1 : Sort u1} {P1 P2 P3 : α1 → Prop} {C : Prop} (h : ∃ x1, P1 x1 ∧ P2 x1 ∧ P3 x1) (k : ∀ x1, P1 x1 → P2 x1 → P3 x1 → C) : C :=
  h.elim fun x1 h => k x1 (h.1) (h.2.1) (h.2.2)
theorem e1_4.{u1} {α1 : Sort u1} {P1 P2 P3 P4 : α1 → Prop} {C : Prop} (h : ∃ x1, P1 x1 ∧ P2 x1 ∧ P3 x1 ∧ P4 x1) (k : ∀ x1, P1 x1 → P2 x1 → P3 x1 → P4 x1 → C) : C :=
  h.elim fun x1 h => k x1 (h.1) (h.2.1) (h.2.2.1) (h.2.2.2)
theorem e1_7.{u1} {α1 : Sort u1} {P1 P2 P3 P4 P5 P6 P7 : α1 → Prop} {C : Prop} (h : ∃ x1, P1 x1 ∧ P2 x1 ∧ P3 x1 ∧ P4 x1 ∧ P5 x1 ∧ P6 x1 ∧ P7 x1) (k : ∀ x1, P1 x1 → P2 x1 → P3 x1 → P4 x1 → P5 x1 → P6 x1 → P7 x1 → C) : C :=
  h.elim fun x1 h => k x1 (h.1) (h.2.1) (h.2.2.1) (h.2.2.2.1) (h.2.2.2.2.1) (h.2.2.2.2.2.1) (h.2.2.2.2.2.2)
theorem e2_1.{u1, u2} {α1 : Sort u1} {α2 : Sort u2} {P1 : α1 → α2 → Prop} {C : Prop} (h : ∃ x1 x2, P1 x1 x2) (k : ∀ x1 x2, P1 x1 x2 → C) : C :=
  h.elim fun x1 h => h.elim fun x2 h => k x1 x2 h
theorem e2_2.{u1, u2} {α1 : Sort u1} {α2 : Sort u2} {P1 P2 : α1 → α2 → Prop} {C : Prop} (h : ∃ x1 x2, P1 x1 x2 ∧ P2 x1 x2) (k : ∀ x1 x2, P1 x1 x2 → P2 x1 x2 → C) : C :=
  h.elim fun x1 h => h.elim fun x2 h => k x1 x2 (h.1) (h.2)
theorem e2_3.{u1, u2} {α1 : Sort u1} {α2 : Sort u2} {P1 P2 P3 : α1 → α2 → Prop} {C : Prop} (h : ∃ x1 x2, P1 x1 x2 ∧ P2 x1 x2 ∧ P3 x1 x2) (k : ∀ x1 x2, P1 x1 x2 → P2 x1 x2 → P3 x1 x2 → C) : C :=
  h.elim fun x1 h => h.elim fun x2 h => k x1 x2 (h.1) (h.2.1) (h.2.2)
theorem e2_4.{u1, u2} {α1 : Sort u1} {α2 : Sort u2} {P1 P2 P3 P4 : α1 → α2 → Prop} {C : Prop} (h : ∃ x1 x2, P1 x1 x2 ∧ P2 x1 x2 ∧ P3 x1 x2 ∧ P4 x1 x2) (k : ∀ x1 x2, P1 x1 x2 → P2 x1 x2 → P3 x1 x2 → P4 x1 x2 → C) : C :=
  h.elim fun x1 h => h.elim fun x2 h => k x1 x2 (h.1) (h.2.1) (h.2.2.1) (h.2.2.2)
theorem e2_5.{u1, u2} {α1 : Sort u1} {α2 : Sort u2} {P1 P2 P3 P4 P5 : α1 → α2 → Prop} {C : Prop} (h : ∃ x1 x2, P1 x1 x2 ∧ P2 x1 x2 ∧ P3 x1 x2 ∧ P4 x1 x2 ∧ P5 x1 x2) (k : ∀ x1 x2, P1 x1 x2 → P2 x1 x2 → P3 x1 x2 → P4 x1 x2 → P5 x1 x2 → C) : C :=
  h.elim fun x1 h => h.elim fun x2 h => k x1 x2 (h.1) (h.2.1) (h.2.2.1) (h.2.2.2.1) (h.2.2.2.2)
theorem e2_6.{u1, u2} {α1 : Sort u1} {α2 : Sort u2} {P1 P2 P3 P4 P5 P6 : α1 → α2 → Prop} {C : Prop} (h : ∃ x1 x2, P1 x1 x2 ∧ P2 x1 x2 ∧ P3 x1 x2 ∧ P4 x1 x2 ∧ P5 x1 x2 ∧ P6 x1 x2) (k : ∀ x1 x2, P1 x1 x2 → P2 x1 x2 → P3 x1 x2 → P4 x1 x2 → P5 x1 x2 → P6 x1 x2 → C) : C :=
  h.elim fun x1 h => h.elim fun x2 h => k x1 x2 (h.1) (h.2.1) (h.2.2.1) (h.2.2.2.1) (h.2.2.2.2.1) (h.2.2.2.2.2)
theorem e2_7.{u1, u2} {α1 : Sort u1} {α2 : Sort u2} {P1 P2 P3 P4 P5 P6 P7 : α1 → α2 → Prop} {C : Prop} (h : ∃ x1 x2, P1 x1 x2 ∧ P2 x1 x2 ∧ P3 x1 x2 ∧ P4 x1 x2 ∧ P5 x1 x2 ∧ P6 x1 x2 ∧ P7 x1 x2) (k : ∀ x1 x2, P1 x1 x2 → P2 x1 x2 → P3 x1 x2 → P4 x1 x2 → P5 x1 x2 → P6 x1 x2 → P7 x1 x2 → C) : C :=
  h.elim fun x1 h => h.elim fun x2 h => k x1 x2 (h.1) (h.2.1) (h.2.2.1) (h.2.2.2.1) (h.2.2.2.2.1) (h.2.2.2.2.2.1) (h.2.2.2.2.2.2)
theorem e2_8.{u1, u2} {α1 : Sort u1} {α2 : Sort u2} {P1 P2 P3 P4 P5 P6 P7 P8 : α1 → α2 → Prop} {C : Prop} (h : ∃ x1 x2, P1 x1 x2 ∧ P2 x1 x2 ∧ P3 x1 x2 ∧ P4 x1 x2 ∧ P5 x1 x2 ∧ P6 x1 x2 ∧ P7 x1 x2 ∧ P8 x1 x2) (k : ∀ x1 x2, P1 x1 x2 → P2 x1 x2 → P3 x1 x2 → P4 x1 x2 → P5 x1 x2 → P6 x1 x2 → P7 x1 x2 → P8 x1 x2 → C) : C :=
  h.elim fun x1 h => h.elim fun x2 h => k x1 x2 (h.1) (h.2.1) (h.2.2.1) (h.2.2.2.1) (h.2.2.2.2.1) (h.2.2.2.2.2.1) (h.2.2.2.2.2.2.1) (h.2.2.2.2.2.2.2)
theorem e3_2.{u1, u2, u3} {α1 : Sort u1} {α2 : Sort u2} {α3 : Sort u3} {P1 P2 : α1 → α2 → α3 → Prop} {C : Prop} (h : ∃ x1 x2 x3, P1 x1 x2 x3 ∧ P2 x1 x2 x3) (k : ∀ x1 x2 x3, P1 x1 x2 x3 → P2 x1 x2 x3 → C) : C :=
  h.elim fun x1 h => h.elim fun x2 h => h.elim fun x3 h => k x1 x2 x3 (h.1) (h.2)
theorem e3_3.{u1, u2, u3} {α1 : Sort u1} {α2 : Sort u2} {α3 : Sort u3} {P1 P2 P3 : α1 → α2 → α3 → Prop} {C : Prop} (h : ∃ x1 x2 x3, P1 x1 x2 x3 ∧ P2 x1 x2 x3 ∧ P3 x1 x2 x3) (k : ∀ x1 x2 x3, P1 x1 x2 x3 → P2 x1 x2 x3 → P3 x1 x2 x3 → C) : C :=
  h.elim fun x1 h => h.elim fun x2 h => h.elim fun x3 h => k x1 x2 x3 (h.1) (h.2.1) (h.2.2)
theorem e3_4.{u1, u2, u3} {α1 : Sort u1} {α2 : Sort u2} {α3 : Sort u3} {P1 P2 P3 P4 : α1 → α2 → α3 → Prop} {C : Prop} (h : ∃ x1 x2 x3, P1 x1 x2 x3 ∧ P2 x1 x2 x3 ∧ P3 x1 x2 x3 ∧ P4 x1 x2 x3) (k : ∀ x1 x2 x3, P1 x1 x2 x3 → P2 x1 x2 x3 → P3 x1 x2 x3 → P4 x1 x2 x3 → C) : C :=
  h.elim fun x1 h => h.elim fun x2 h => h.elim fun x3 h => k x1 x2 x3 (h.1) (h.2.1) (h.2.2.1) (h.2.2.2)
theorem e3_5.{u1, u2, u3} {α1 : Sort u1} {α2 : Sort u2} {α3 : Sort u3} {P1 P2 P3 P4 P5 : α1 → α2 → α3 → Prop} {C : Prop} (h : ∃ x1 x2 x3, P1 x1 x2 x3 ∧ P2 x1 x2 x3 ∧ P3 x1 x2 x3 ∧ P4 x1 x2 x3 ∧ P5 x1 x2 x3) (k : ∀ x1 x2 x3, P1 x1 x2 x3 → P2 x1 x2 x3 → P3 x1 x2 x3 → P4 x1 x2 x3 → P5 x1 x2 x3 → C) : C :=
  h.elim fun x1 h => h.elim fun x2 h => h.elim fun x3 h => k x1 x2 x3 (h.1) (h.2.1) (h.2.2.1) (h.2.2.2.1) (h.2.2.2.2)
theorem e4_3.{u1, u2, u3, u4} {α1 : Sort u1} {α2 : Sort u2} {α3 : Sort u3} {α4 : Sort u4} {P1 P2 P3 : α1 → α2 → α3 → α4 → Prop} {C : Prop} (h : ∃ x1 x2 x3 x4, P1 x1 x2 x3 x4 ∧ P2 x1 x2 x3 x4 ∧ P3 x1 x2 x3 x4) (k : ∀ x1 x2 x3 x4, P1 x1 x2 x3 x4 → P2 x1 x2 x3 x4 → P3 x1 x2 x3 x4 → C) : C :=
  h.elim fun x1 h => h.elim fun x2 h => h.elim fun x3 h => h.elim fun x4 h => k x1 x2 x3 x4 (h.1) (h.2.1) (h.2.2)
theorem e4_4.{u1, u2, u3, u4} {α1 : Sort u1} {α2 : Sort u2} {α3 : Sort u3} {α4 : Sort u4} {P1 P2 P3 P4 : α1 → α2 → α3 → α4 → Prop} {C : Prop} (h : ∃ x1 x2 x3 x4, P1 x1 x2 x3 x4 ∧ P2 x1 x2 x3 x4 ∧ P3 x1 x2 x3 x4 ∧ P4 x1 x2 x3 x4) (k : ∀ x1 x2 x3 x4, P1 x1 x2 x3 x4 → P2 x1 x2 x3 x4 → P3 x1 x2 x3 x4 → P4 x1 x2 x3 x4 → C) : C :=
  h.elim fun x1 h => h.elim fun x2 h => h.elim fun x3 h => h.elim fun x4 h => k x1 x2 x3 x4 (h.1) (h.2.1) (h.2.2.1) (h.2.2.2)
theorem e4_7.{u1, u2, u3, u4} {α1 : Sort u1} {α2 : Sort u2} {α3 : Sort u3} {α4 : Sort u4} {P1 P2 P3 P4 P5 P6 P7 : α1 → α2 → α3 → α4 → Prop} {C : Prop} (h : ∃ x1 x2 x3 x4, P1 x1 x2 x3 x4 ∧ P2 x1 x2 x3 x4 ∧ P3 x1 x2 x3 x4 ∧ P4 x1 x2 x3 x4 ∧ P5 x1 x2 x3 x4 ∧ P6 x1 x2 x3 x4 ∧ P7 x1 x2 x3 x4) (k : ∀ x1 x2 x3 x4, P1 x1 x2 x3 x4 → P2 x1 x2 x3 x4 → P3 x1 x2 x3 x4 → P4 x1 x2 x3 x4 → P5 x1 x2 x3 x4 → P6 x1 x2 x3 x4 → P7 x1 x2 x3 x4 → C) : C :=
  h.elim fun x1 h => h.elim fun x2 h => h.elim fun x3 h => h.elim fun x4 h => k x1 x2 x3 x4 (h.1) (h.2.1) (h.2.2.1) (h.2.2.2.1) (h.2.2.2.2.1) (h.2.2.2.2.2.1) (h.2.2.2.2.2.2)
theorem e5_6.{u1, u2, u3, u4, u5} {α1 : Sort u1} {α2 : Sort u2} {α3 : Sort u3} {α4 : Sort u4} {α5 : Sort u5} {P1 P2 P3 P4 P5 P6 : α1 → α2 → α3 → α4 → α5 → Prop} {C : Prop} (h : ∃ x1 x2 x3 x4 x5, P1 x1 x2 x3 x4 x5 ∧ P2 x1 x2 x3 x4 x5 ∧ P3 x1 x2 x3 x4 x5 ∧ P4 x1 x2 x3 x4 x5 ∧ P5 x1 x2 x3 x4 x5 ∧ P6 x1 x2 x3 x4 x5) (k : ∀ x1 x2 x3 x4 x5, P1 x1 x2 x3 x4 x5 → P2 x1 x2 x3 x4 x5 → P3 x1 x2 x3 x4 x5 → P4 x1 x2 x3 x4 x5 → P5 x1 x2 x3 x4 x5 → P6 x1 x2 x3 x4 x5 → C) : C :=
  h.elim fun x1 h => h.elim fun x2 h => h.elim fun x3 h => h.elim fun x4 h => h.elim fun x5 h => k x1 x2 x3 x4 x5 (h.1) (h.2.1) (h.2.2.1) (h.2.2.2.1) (h.2.2.2.2.1) (h.2.2.2.2.2)
theorem e5_9.{u1, u2, u3, u4, u5} {α1 : Sort u1} {α2 : Sort u2} {α3 : Sort u3} {α4 : Sort u4} {α5 : Sort u5} {P1 P2 P3 P4 P5 P6 P7 P8 P9 : α1 → α2 → α3 → α4 → α5 → Prop} {C : Prop} (h : ∃ x1 x2 x3 x4 x5, P1 x1 x2 x3 x4 x5 ∧ P2 x1 x2 x3 x4 x5 ∧ P3 x1 x2 x3 x4 x5 ∧ P4 x1 x2 x3 x4 x5 ∧ P5 x1 x2 x3 x4 x5 ∧ P6 x1 x2 x3 x4 x5 ∧ P7 x1 x2 x3 x4 x5 ∧ P8 x1 x2 x3 x4 x5 ∧ P9 x1 x2 x3 x4 x5) (k : ∀ x1 x2 x3 x4 x5, P1 x1 x2 x3 x4 x5 → P2 x1 x2 x3 x4 x5 → P3 x1 x2 x3 x4 x5 → P4 x1 x2 x3 x4 x5 → P5 x1 x2 x3 x4 x5 → P6 x1 x2 x3 x4 x5 → P7 x1 x2 x3 x4 x5 → P8 x1 x2 x3 x4 x5 → P9 x1 x2 x3 x4 x5 → C) : C :=
  h.elim fun x1 h => h.elim fun x2 h => h.elim fun x3 h => h.elim fun x4 h => h.elim fun x5 h => k x1 x2 x3 x4 x5 (h.1) (h.2.1) (h.2.2.1) (h.2.2.2.1) (h.2.2.2.2.1) (h.2.2.2.2.2.1) (h.2.2.2.2.2.2.1) (h.2.2.2.2.2.2.2.1) (h.2.2.2.2.2.2.2.2)
theorem e5_13.{u1, u2, u3, u4, u5} {α1 : Sort u1} {α2 : Sort u2} {α3 : Sort u3} {α4 : Sort u4} {α5 : Sort u5} {P1 P2 P3 P4 P5 P6 P7 P8 P9 P10 P11 P12 P13 : α1 → α2 → α3 → α4 → α5 → Prop} {C : Prop} (h : ∃ x1 x2 x3 x4 x5, P1 x1 x2 x3 x4 x5 ∧ P2 x1 x2 x3 x4 x5 ∧ P3 x1 x2 x3 x4 x5 ∧ P4 x1 x2 x3 x4 x5 ∧ P5 x1 x2 x3 x4 x5 ∧ P6 x1 x2 x3 x4 x5 ∧ P7 x1 x2 x3 x4 x5 ∧ P8 x1 x2 x3 x4 x5 ∧ P9 x1 x2 x3 x4 x5 ∧ P10 x1 x2 x3 x4 x5 ∧ P11 x1 x2 x3 x4 x5 ∧ P12 x1 x2 x3 x4 x5 ∧ P13 x1 x2 x3 x4 x5) (k : ∀ x1 x2 x3 x4 x5, P1 x1 x2 x3 x4 x5 → P2 x1 x2 x3 x4 x5 → P3 x1 x2 x3 x4 x5 → P4 x1 x2 x3 x4 x5 → P5 x1 x2 x3 x4 x5 → P6 x1 x2 x3 x4 x5 → P7 x1 x2 x3 x4 x5 → P8 x1 x2 x3 x4 x5 → P9 x1 x2 x3 x4 x5 → P10 x1 x2 x3 x4 x5 → P11 x1 x2 x3 x4 x5 → P12 x1 x2 x3 x4 x5 → P13 x1 x2 x3 x4 x5 → C) : C :=
  h.elim fun x1 h => h.elim fun x2 h => h.elim fun x3 h => h.elim fun x4 h => h.elim fun x5 h => k x1 x2 x3 x4 x5 (h.1) (h.2.1) (h.2.2.1) (h.2.2.2.1) (h.2.2.2.2.1) (h.2.2.2.2.2.1) (h.2.2.2.2.2.2.1) (h.2.2.2.2.2.2.2.1) (h.2.2.2.2.2.2.2.2.1) (h.2.2.2.2.2.2.2.2.2.1) (h.2.2.2.2.2.2.2.2.2.2.1) (h.2.2.2.2.2.2.2.2.2.2.2.1) (h.2.2.2.2.2.2.2.2.2.2.2.2)
theorem e6_4.{u1, u2, u3, u4, u5, u6} {α1 : Sort u1} {α2 : Sort u2} {α3 : Sort u3} {α4 : Sort u4} {α5 : Sort u5} {α6 : Sort u6} {P1 P2 P3 P4 : α1 → α2 → α3 → α4 → α5 → α6 → Prop} {C : Prop} (h : ∃ x1 x2 x3 x4 x5 x6, P1 x1 x2 x3 x4 x5 x6 ∧ P2 x1 x2 x3 x4 x5 x6 ∧ P3 x1 x2 x3 x4 x5 x6 ∧ P4 x1 x2 x3 x4 x5 x6) (k : ∀ x1 x2 x3 x4 x5 x6, P1 x1 x2 x3 x4 x5 x6 → P2 x1 x2 x3 x4 x5 x6 → P3 x1 x2 x3 x4 x5 x6 → P4 x1 x2 x3 x4 x5 x6 → C) : C :=
  h.elim fun x1 h => h.elim fun x2 h => h.elim fun x3 h => h.elim fun x4 h => h.elim fun x5 h => h.elim fun x6 h => k x1 x2 x3 x4 x5 x6 (h.1) (h.2.1) (h.2.2.1) (h.2.2.2)
theorem e6_5.{u1, u2, u3, u4, u5, u6} {α1 : Sort u1} {α2 : Sort u2} {α3 : Sort u3} {α4 : Sort u4} {α5 : Sort u5} {α6 : Sort u6} {P1 P2 P3 P4 P5 : α1 → α2 → α3 → α4 → α5 → α6 → Prop} {C : Prop} (h : ∃ x1 x2 x3 x4 x5 x6, P1 x1 x2 x3 x4 x5 x6 ∧ P2 x1 x2 x3 x4 x5 x6 ∧ P3 x1 x2 x3 x4 x5 x6 ∧ P4 x1 x2 x3 x4 x5 x6 ∧ P5 x1 x2 x3 x4 x5 x6) (k : ∀ x1 x2 x3 x4 x5 x6, P1 x1 x2 x3 x4 x5 x6 → P2 x1 x2 x3 x4 x5 x6 → P3 x1 x2 x3 x4 x5 x6 → P4 x1 x2 x3 x4 x5 x6 → P5 x1 x2 x3 x4 x5 x6 → C) : C :=
  h.elim fun x1 h => h.elim fun x2 h => h.elim fun x3 h => h.elim fun x4 h => h.elim fun x5 h => h.elim fun x6 h => k x1 x2 x3 x4 x5 x6 (h.1) (h.2.1) (h.2.2.1) (h.2.2.2.1) (h.2.2.2.2)
theorem e6_6.{u1, u2, u3, u4, u5, u6} {α1 : Sort u1} {α2 : Sort u2} {α3 : Sort u3} {α4 : Sort u4} {α5 : Sort u5} {α6 : Sort u6} {P1 P2 P3 P4 P5 P6 : α1 → α2 → α3 → α4 → α5 → α6 → Prop} {C : Prop} (h : ∃ x1 x2 x3 x4 x5 x6, P1 x1 x2 x3 x4 x5 x6 ∧ P2 x1 x2 x3 x4 x5 x6 ∧ P3 x1 x2 x3 x4 x5 x6 ∧ P4 x1 x2 x3 x4 x5 x6 ∧ P5 x1 x2 x3 x4 x5 x6 ∧ P6 x1 x2 x3 x4 x5 x6) (k : ∀ x1 x2 x3 x4 x5 x6, P1 x1 x2 x3 x4 x5 x6 → P2 x1 x2 x3 x4 x5 x6 → P3 x1 x2 x3 x4 x5 x6 → P4 x1 x2 x3 x4 x5 x6 → P5 x1 x2 x3 x4 x5 x6 → P6 x1 x2 x3 x4 x5 x6 → C) : C :=
  h.elim fun x1 h => h.elim fun x2 h => h.elim fun x3 h => h.elim fun x4 h => h.elim fun x5 h => h.elim fun x6 h => k x1 x2 x3 x4 x5 x6 (h.1) (h.2.1) (h.2.2.1) (h.2.2.2.1) (h.2.2.2.2.1) (h.2.2.2.2.2)
theorem e6_7.{u1, u2, u3, u4, u5, u6} {α1 : Sort u1} {α2 : Sort u2} {α3 : Sort u3} {α4 : Sort u4} {α5 : Sort u5} {α6 : Sort u6} {P1 P2 P3 P4 P5 P6 P7 : α1 → α2 → α3 → α4 → α5 → α6 → Prop} {C : Prop} (h : ∃ x1 x2 x3 x4 x5 x6, P1 x1 x2 x3 x4 x5 x6 ∧ P2 x1 x2 x3 x4 x5 x6 ∧ P3 x1 x2 x3 x4 x5 x6 ∧ P4 x1 x2 x3 x4 x5 x6 ∧ P5 x1 x2 x3 x4 x5 x6 ∧ P6 x1 x2 x3 x4 x5 x6 ∧ P7 x1 x2 x3 x4 x5 x6) (k : ∀ x1 x2 x3 x4 x5 x6, P1 x1 x2 x3 x4 x5 x6 → P2 x1 x2 x3 x4 x5 x6 → P3 x1 x2 x3 x4 x5 x6 → P4 x1 x2 x3 x4 x5 x6 → P5 x1 x2 x3 x4 x5 x6 → P6 x1 x2 x3 x4 x5 x6 → P7 x1 x2 x3 x4 x5 x6 → C) : C :=
  h.elim fun x1 h => h.elim fun x2 h => h.elim fun x3 h => h.elim fun x4 h => h.elim fun x5 h => h.elim fun x6 h => k x1 x2 x3 x4 x5 x6 (h.1) (h.2.1) (h.2.2.1) (h.2.2.2.1) (h.2.2.2.2.1) (h.2.2.2.2.2.1) (h.2.2.2.2.2.2)
theorem e6_9.{u1, u2, u3, u4, u5, u6} {α1 : Sort u1} {α2 : Sort u2} {α3 : Sort u3} {α4 : Sort u4} {α5 : Sort u5} {α6 : Sort u6} {P1 P2 P3 P4 P5 P6 P7 P8 P9 : α1 → α2 → α3 → α4 → α5 → α6 → Prop} {C : Prop} (h : ∃ x1 x2 x3 x4 x5 x6, P1 x1 x2 x3 x4 x5 x6 ∧ P2 x1 x2 x3 x4 x5 x6 ∧ P3 x1 x2 x3 x4 x5 x6 ∧ P4 x1 x2 x3 x4 x5 x6 ∧ P5 x1 x2 x3 x4 x5 x6 ∧ P6 x1 x2 x3 x4 x5 x6 ∧ P7 x1 x2 x3 x4 x5 x6 ∧ P8 x1 x2 x3 x4 x5 x6 ∧ P9 x1 x2 x3 x4 x5 x6) (k : ∀ x1 x2 x3 x4 x5 x6, P1 x1 x2 x3 x4 x5 x6 → P2 x1 x2 x3 x4 x5 x6 → P3 x1 x2 x3 x4 x5 x6 → P4 x1 x2 x3 x4 x5 x6 → P5 x1 x2 x3 x4 x5 x6 → P6 x1 x2 x3 x4 x5 x6 → P7 x1 x2 x3 x4 x5 x6 → P8 x1 x2 x3 x4 x5 x6 → P9 x1 x2 x3 x4 x5 x6 → C) : C :=
  h.elim fun x1 h => h.elim fun x2 h => h.elim fun x3 h => h.elim fun x4 h => h.elim fun x5 h => h.elim fun x6 h => k x1 x2 x3 x4 x5 x6 (h.1) (h.2.1) (h.2.2.1) (h.2.2.2.1) (h.2.2.2.2.1) (h.2.2.2.2.2.1) (h.2.2.2.2.2.2.1) (h.2.2.2.2.2.2.2.1) (h.2.2.2.2.2.2.2.2)
theorem e6_10.{u1, u2, u3, u4, u5, u6} {α1 : Sort u1} {α2 : Sort u2} {α3 : Sort u3} {α4 : Sort u4} {α5 : Sort u5} {α6 : Sort u6} {P1 P2 P3 P4 P5 P6 P7 P8 P9 P10 : α1 → α2 → α3 → α4 → α5 → α6 → Prop} {C : Prop} (h : ∃ x1 x2 x3 x4 x5 x6, P1 x1 x2 x3 x4 x5 x6 ∧ P2 x1 x2 x3 x4 x5 x6 ∧ P3 x1 x2 x3 x4 x5 x6 ∧ P4 x1 x2 x3 x4 x5 x6 ∧ P5 x1 x2 x3 x4 x5 x6 ∧ P6 x1 x2 x3 x4 x5 x6 ∧ P7 x1 x2 x3 x4 x5 x6 ∧ P8 x1 x2 x3 x4 x5 x6 ∧ P9 x1 x2 x3 x4 x5 x6 ∧ P10 x1 x2 x3 x4 x5 x6) (k : ∀ x1 x2 x3 x4 x5 x6, P1 x1 x2 x3 x4 x5 x6 → P2 x1 x2 x3 x4 x5 x6 → P3 x1 x2 x3 x4 x5 x6 → P4 x1 x2 x3 x4 x5 x6 → P5 x1 x2 x3 x4 x5 x6 → P6 x1 x2 x3 x4 x5 x6 → P7 x1 x2 x3 x4 x5 x6 → P8 x1 x2 x3 x4 x5 x6 → P9 x1 x2 x3 x4 x5 x6 → P10 x1 x2 x3 x4 x5 x6 → C) : C :=
  h.elim fun x1 h => h.elim fun x2 h => h.elim fun x3 h => h.elim fun x4 h => h.elim fun x5 h => h.elim fun x6 h => k x1 x2 x3 x4 x5 x6 (h.1) (h.2.1) (h.2.2.1) (h.2.2.2.1) (h.2.2.2.2.1) (h.2.2.2.2.2.1) (h.2.2.2.2.2.2.1) (h.2.2.2.2.2.2.2.1) (h.2.2.2.2.2.2.2.2.1) (h.2.2.2.2.2.2.2.2.2)
theorem e7_5.{u1, u2, u3, u4, u5, u6, u7} {α1 : Sort u1} {α2 : Sort u2} {α3 : Sort u3} {α4 : Sort u4} {α5 : Sort u5} {α6 : Sort u6} {α7 : Sort u7} {P1 P2 P3 P4 P5 : α1 → α2 → α3 → α4 → α5 → α6 → α7 → Prop} {C : Prop} (h : ∃ x1 x2 x3 x4 x5 x6 x7, P1 x1 x2 x3 x4 x5 x6 x7 ∧ P2 x1 x2 x3 x4 x5 x6 x7 ∧ P3 x1 x2 x3 x4 x5 x6 x7 ∧ P4 x1 x2 x3 x4 x5 x6 x7 ∧ P5 x1 x2 x3 x4 x5 x6 x7) (k : ∀ x1 x2 x3 x4 x5 x6 x7, P1 x1 x2 x3 x4 x5 x6 x7 → P2 x1 x2 x3 x4 x5 x6 x7 → P3 x1 x2 x3 x4 x5 x6 x7 → P4 x1 x2 x3 x4 x5 x6 x7 → P5 x1 x2 x3 x4 x5 x6 x7 → C) : C :=
  h.elim fun x1 h => h.elim fun x2 h => h.elim fun x3 h => h.elim fun x4 h => h.elim fun x5 h => h.elim fun x6 h => h.elim fun x7 h => k x1 x2 x3 x4 x5 x6 x7 (h.1) (h.2.1) (h.2.2.1) (h.2.2.2.1) (h.2.2.2.2)
theorem e8_8.{u1, u2, u3, u4, u5, u6, u7, u8} {α1 : Sort u1} {α2 : Sort u2} {α3 : Sort u3} {α4 : Sort u4} {α5 : Sort u5} {α6 : Sort u6} {α7 : Sort u7} {α8 : Sort u8} {P1 P2 P3 P4 P5 P6 P7 P8 : α1 → α2 → α3 → α4 → α5 → α6 → α7 → α8 → Prop} {C : Prop} (h : ∃ x1 x2 x3 x4 x5 x6 x7 x8, P1 x1 x2 x3 x4 x5 x6 x7 x8 ∧ P2 x1 x2 x3 x4 x5 x6 x7 x8 ∧ P3 x1 x2 x3 x4 x5 x6 x7 x8 ∧ P4 x1 x2 x3 x4 x5 x6 x7 x8 ∧ P5 x1 x2 x3 x4 x5 x6 x7 x8 ∧ P6 x1 x2 x3 x4 x5 x6 x7 x8 ∧ P7 x1 x2 x3 x4 x5 x6 x7 x8 ∧ P8 x1 x2 x3 x4 x5 x6 x7 x8) (k : ∀ x1 x2 x3 x4 x5 x6 x7 x8, P1 x1 x2 x3 x4 x5 x6 x7 x8 → P2 x1 x2 x3 x4 x5 x6 x7 x8 → P3 x1 x2 x3 x4 x5 x6 x7 x8 → P4 x1 x2 x3 x4 x5 x6 x7 x8 → P5 x1 x2 x3 x4 x5 x6 x7 x8 → P6 x1 x2 x3 x4 x5 x6 x7 x8 → P7 x1 x2 x3 x4 x5 x6 x7 x8 → P8 x1 x2 x3 x4 x5 x6 x7 x8 → C) : C :=
  h.elim fun x1 h => h.elim fun x2 h => h.elim fun x3 h => h.elim fun x4 h => h.elim fun x5 h => h.elim fun x6 h => h.elim fun x7 h => h.elim fun x8 h => k x1 x2 x3 x4 x5 x6 x7 x8 (h.1) (h.2.1) (h.2.2.1) (h.2.2.2.1) (h.2.2.2.2.1) (h.2.2.2.2.2.1) (h.2.2.2.2.2.2.1) (h.2.2.2.2.2.2.2)
theorem e8_9.{u1, u2, u3, u4, u5, u6, u7, u8} {α1 : Sort u1} {α2 : Sort u2} {α3 : Sort u3} {α4 : Sort u4} {α5 : Sort u5} {α6 : Sort u6} {α7 : Sort u7} {α8 : Sort u8} {P1 P2 P3 P4 P5 P6 P7 P8 P9 : α1 → α2 → α3 → α4 → α5 → α6 → α7 → α8 → Prop} {C : Prop} (h : ∃ x1 x2 x3 x4 x5 x6 x7 x8, P1 x1 x2 x3 x4 x5 x6 x7 x8 ∧ P2 x1 x2 x3 x4 x5 x6 x7 x8 ∧ P3 x1 x2 x3 x4 x5 x6 x7 x8 ∧ P4 x1 x2 x3 x4 x5 x6 x7 x8 ∧ P5 x1 x2 x3 x4 x5 x6 x7 x8 ∧ P6 x1 x2 x3 x4 x5 x6 x7 x8 ∧ P7 x1 x2 x3 x4 x5 x6 x7 x8 ∧ P8 x1 x2 x3 x4 x5 x6 x7 x8 ∧ P9 x1 x2 x3 x4 x5 x6 x7 x8) (k : ∀ x1 x2 x3 x4 x5 x6 x7 x8, P1 x1 x2 x3 x4 x5 x6 x7 x8 → P2 x1 x2 x3 x4 x5 x6 x7 x8 → P3 x1 x2 x3 x4 x5 x6 x7 x8 → P4 x1 x2 x3 x4 x5 x6 x7 x8 → P5 x1 x2 x3 x4 x5 x6 x7 x8 → P6 x1 x2 x3 x4 x5 x6 x7 x8 → P7 x1 x2 x3 x4 x5 x6 x7 x8 → P8 x1 x2 x3 x4 x5 x6 x7 x8 → P9 x1 x2 x3 x4 x5 x6 x7 x8 → C) : C :=
  h.elim fun x1 h => h.elim fun x2 h => h.elim fun x3 h => h.elim fun x4 h => h.elim fun x5 h => h.elim fun x6 h => h.elim fun x7 h => h.elim fun x8 h => k x1 x2 x3 x4 x5 x6 x7 x8 (h.1) (h.2.1) (h.2.2.1) (h.2.2.2.1) (h.2.2.2.2.1) (h.2.2.2.2.2.1) (h.2.2.2.2.2.2.1) (h.2.2.2.2.2.2.2.1) (h.2.2.2.2.2.2.2.2)
theorem e9_2.{u1, u2, u3, u4, u5, u6, u7, u8, u9} {α1 : Sort u1} {α2 : Sort u2} {α3 : Sort u3} {α4 : Sort u4} {α5 : Sort u5} {α6 : Sort u6} {α7 : Sort u7} {α8 : Sort u8} {α9 : Sort u9} {P1 P2 : α1 → α2 → α3 → α4 → α5 → α6 → α7 → α8 → α9 → Prop} {C : Prop} (h : ∃ x1 x2 x3 x4 x5 x6 x7 x8 x9, P1 x1 x2 x3 x4 x5 x6 x7 x8 x9 ∧ P2 x1 x2 x3 x4 x5 x6 x7 x8 x9) (k : ∀ x1 x2 x3 x4 x5 x6 x7 x8 x9, P1 x1 x2 x3 x4 x5 x6 x7 x8 x9 → P2 x1 x2 x3 x4 x5 x6 x7 x8 x9 → C) : C :=
  h.elim fun x1 h => h.elim fun x2 h => h.elim fun x3 h => h.elim fun x4 h => h.elim fun x5 h => h.elim fun x6 h => h.elim fun x7 h => h.elim fun x8 h => h.elim fun x9 h => k x1 x2 x3 x4 x5 x6 x7 x8 x9 (h.1) (h.2)
theorem e9_3.{u1, u2, u3, u4, u5, u6, u7, u8, u9} {α1 : Sort u1} {α2 : Sort u2} {α3 : Sort u3} {α4 : Sort u4} {α5 : Sort u5} {α6 : Sort u6} {α7 : Sort u7} {α8 : Sort u8} {α9 : Sort u9} {P1 P2 P3 : α1 → α2 → α3 → α4 → α5 → α6 → α7 → α8 → α9 → Prop} {C : Prop} (h : ∃ x1 x2 x3 x4 x5 x6 x7 x8 x9, P1 x1 x2 x3 x4 x5 x6 x7 x8 x9 ∧ P2 x1 x2 x3 x4 x5 x6 x7 x8 x9 ∧ P3 x1 x2 x3 x4 x5 x6 x7 x8 x9) (k : ∀ x1 x2 x3 x4 x5 x6 x7 x8 x9, P1 x1 x2 x3 x4 x5 x6 x7 x8 x9 → P2 x1 x2 x3 x4 x5 x6 x7 x8 x9 → P3 x1 x2 x3 x4 x5 x6 x7 x8 x9 → C) : C :=
  h.elim fun x1 h => h.elim fun x2 h => h.elim fun x3 h => h.elim fun x4 h => h.elim fun x5 h => h.elim fun x6 h => h.elim fun x7 h => h.elim fun x8 h => h.elim fun x9 h => k x1 x2 x3 x4 x5 x6 x7 x8 x9 (h.1) (h.2.1) (h.2.2)
end Mine
end
section
open PySem PySem.W PySem.Calls PyProof.Rows
set_option Elab.async false
set_option maxRecDepth 100000
namespace Mine

noncomputable abbrev Stay (h h' : Heap) : Prop := ∀ b o, h.get? b = some o → h'.get? b = some o
theorem Stay.refl (h : Heap) : Stay h h := fun _ _ e => e
theorem Stay.trans {a b c : Heap} (x : Stay a b) (y : Stay b c) : Stay a c := fun i o e => y i o (x i o e)
theorem Stay.push {h h' : Heap} (x : Stay h h') (o : Obj) : Stay h (h'.push o) := fun i o' e => Heap.get?_push_of_some _ (x i o' e)

noncomputable def Off (L : Addr) (h h' : Heap) : Prop := ∀ b o, b ≠ L → h.get? b = some o → h'.get? b = some o
theorem Off.trans {L : Addr} {a b c : Heap} (x : Off L a b) (y : Off L b c) : Off L a c := fun i o n e => y i o n (x i o n e)
theorem Stay.off {L : Addr} {h h' : Heap} (x : Stay h h') : Off L h h' := fun i o _ e => x i o e

noncomputable def st (s : Shared) (h : Heap) (tk : Nat) : Shared := { s with heap := h, toks := tk }

structure Rm (k : Nat) (A : Around) : Prop where
  hd : A.handled = none
  dp : A.depth + k < recursionLimit
  un : A.units + 20 * k < cLine
theorem Rm.deeper {k : Nat} {A : Around} {env : Env} (r : Rm (k + 1) A) : Rm k (A.deeper env) :=
  ⟨r.hd, by have := r.dp; show A.depth + 1 + k < _; (first | lia | omega), by have := r.un; show A.units + 3 + 20 * k < _; (first | lia | omega)⟩
theorem Rm.in1 {k : Nat} {A : Around} (r : Rm (k + 1) A) : Rm k A.in1 :=
  ⟨r.hd, by have := r.dp; show A.depth + k < _; (first | lia | omega), by have := r.un; show A.units + 1 + 20 * k < _; (first | lia | omega)⟩
theorem Rm.less {k j : Nat} {A : Around} (r : Rm k A) (h : j ≤ k) : Rm j A :=
  ⟨r.hd, by have := r.dp; (first | lia | omega), by have := r.un; (first | lia | omega)⟩
theorem Rm.room {k : Nat} {A : Around} (r : Rm k A) : A.depth < recursionLimit := by have := r.dp; (first | lia | omega)
theorem Rm.units {k : Nat} {A : Around} (r : Rm k A) : A.units < cLine := by have := r.un; (first | lia | omega)

noncomputable def Gives (prog : Program) (w : World) (A : Around) {α : Type} (t : Sem α) (s : Shared) (h : Heap) (φ : α → Heap → Prop) : Prop :=
  ∀ (tk : Nat) (Q : α → Shared → Prop) (E : Value → Shared → Prop), (∀ v h' tk', Stay h h' → φ v h' → Q v (st s h' tk')) → wpAny (model prog w) A t Q E (st s h tk)

noncomputable def flowV : Flow → Value
  | .ret v => v
  | _ => .none

section
variable {prog : Program} {w : World} {A : Around} {s : Shared} {h : Heap}
theorem Gives.mono {α : Type} {t : Sem α} {φ ψ : α → Heap → Prop} (g : Gives prog w A t s h φ) (hφ : ∀ v h', Stay h h' → φ v h' → ψ v h') : Gives prog w A t s h ψ := fun tk Q E k =>
  g tk Q E fun v h' tk' st p => k v h' tk' st (hφ v h' st p)

theorem gives_fn {f : Addr} {o : Obj} {fd : FuncData} {body : List Stmt} {args : List Value} {binds : List (Str × Value)} {φ : Value → Heap → Prop}
    (hroom : A.depth < recursionLimit) (ho : h.get? f = some o) (hd : o.data = .func fd) (hlim : h.NoLimit) (hcd : h.CodeRec fd.code fd.qualname)
    (hbody : fd.body = .stmts body) (hbind : ∀ tk, BindsTo (st s h tk) fd ⟨args, []⟩ binds)
    (hcell : ∀ x ∈ fd.scope.names, x.2 ≠ .cell) (hloc : ∀ x ∈ binds, fd.scope.names.lookup x.1 = some .local)
    (hb : ∀ L h₀ tk, binds.length ≤ tk → h₀.Ns L (fun x => binds.reverse.lookup x) → Stay h h₀ → h.get? L = none →
      wpAny (model prog w) (A.deeper (callEnv fd L f)) (execs body (callEnv fd L f)) (fun fl s' => ∃ h' tk', s' = st s h' tk' ∧ Stay h h' ∧ φ (flowV fl) h') (fun _ _ => False) (st s h₀ tk))
    (hco : fd.scope.isCoroutine = false := by rfl) (hgen : fd.scope.isGenerator = false := by rfl) (hk : fd.scope.kind = .function := by rfl) :
    Gives prog w A (call (.ref f) args) s h φ := by
  intro tk Q E k
  refine wpAny_call (codeAny_call_def hroom ho hd hlim hcd hbody (hbind tk) hcell hloc (fun h₀ hns hst => ?_) hco hgen hk)
  refine wpAny_mono (hb _ h₀ _ (Nat.le_add_left _ _) hns hst (Heap.get?_none_of_le (Nat.le_refl _))) (fun fl s' hq => ?_) fun _ _ e => e.elim
  obtain ⟨h', tk', rfl, hst', hφ⟩ := hq
  exact k _ h' tk' hst' hφ
end

structure Bas (mg mb : Str → Option Value) (G : Heap) : Prop where
  g : G.Ns mainGlobals mg
  b : G.Ns builtinsNs mb
  bi : ∀ x : Str, x ≠ "__name__" → mb x = bootBuiltins x
  lim : G.NoLimit
theorem Bas.stay {mg mb : Str → Option Value} {G h : Heap} (B : Bas mg mb G) (st : Stay G h) : Bas mg mb h := ⟨B.g.keeps st, B.b.keeps st, B.bi, B.lim.keeps st⟩

structure Fm (G : Heap) (L : Addr) (m : Str → Option Value) (h : Heap) : Prop where
  ns : h.Ns L m
  keep : Stay G h
  fresh : G.get? L = none
section
variable {G h h' : Heap} {L : Addr} {m m' : Str → Option Value}
theorem Fm.stay (F : Fm G L m h) (st : Stay h h') : Fm G L m h' := ⟨F.ns.keeps st, F.keep.trans st, F.fresh⟩
theorem Fm.set (F : Fm G L m h) (hn : h'.Ns L m') (hs : Heap.SameBut L h h') : Fm G L m' h' :=
  ⟨hn, fun b o e => (hs.2 b (fun q => by rw [q, F.fresh] at e; cases e)).trans (F.keep b o e), F.fresh⟩
end

section
variable {M : Model} {A : Around} {E : Value → Shared → Prop} {s : Shared} {h : Heap} {tk : Nat} {env : Env} {G : Heap} {L : Addr} {m mg mb : Str → Option Value} {x : Str} {pos : Pos} {v : Value}
theorem nmL {Q : Value → Shared → Prop} (F : Fm G L m h) (hv : m x = some v) (k : Q v (st s h tk)) (hL : env.locals = L := by rfl)
    (hk : env.scope.kind = .function := by rfl) (hx : env.kindOf x = some .local := by rfl) (hd : (x == ("__debug__" : Str)) = false := by decide) :
    wpAny M A (eval (.Name x pos) env) Q E (st s h tk) := wpAny_Name (wpAny_loadName_local (s := st s h tk) hk hx (hL ▸ F.ns) hv k) hd
theorem ldL {Q : Value → Shared → Prop} (F : Fm G L m h) (hv : m x = some v) (k : Q v (st s h tk)) (hL : env.locals = L := by rfl)
    (hk : env.scope.kind = .function := by rfl) (hx : env.kindOf x = some .local := by rfl) :
    wpAny M A (loadName env x) Q E (st s h tk) := wpAny_loadName_local (s := st s h tk) hk hx (hL ▸ F.ns) hv k
theorem nmG {Q : Value → Shared → Prop} (B : Bas mg mb h) (hv : mg x = some v) (k : Q v (st s h tk)) (hg : env.globals = mainGlobals := by rfl)
    (hk : env.scope.kind = .function := by rfl) (hx : env.kindOf x = some .globalImplicit := by rfl) (hd : (x == ("__debug__" : Str)) = false := by decide) :
    wpAny M A (eval (.Name x pos) env) Q E (st s h tk) := Name_function_global hk hx (loadGlobal_global (s := st s h tk) (hg ▸ B.g) hv k) hd
theorem nmB {Q : Value → Shared → Prop} (B : Bas mg mb h) (hm : mg x = none) (hv : bootBuiltins x = some v) (k : Q v (st s h tk)) (hn : x ≠ "__name__" := by decide) (hg : env.globals = mainGlobals := by rfl) (hb : env.builtins = builtinsNs := by rfl)
    (hk : env.scope.kind = .function := by rfl) (hx : env.kindOf x = some .globalImplicit := by rfl) (hd : (x == ("__debug__" : Str)) = false := by decide) :
    wpAny M A (eval (.Name x pos) env) Q E (st s h tk) := Name_function_global hk hx (loadGlobal_builtin (s := st s h tk) (hg ▸ B.g) hm (hb ▸ B.b) ((B.bi x hn).trans hv) k) hd
theorem stL {Q : Unit → Shared → Prop} (F : Fm G L m h) (k : ∀ h' tk', Fm G L (fun y => if y = x then some v else m y) h' → Off L h h' → Q () (st s h' tk'))
    (hL : env.locals = L := by rfl) (hk : env.scope.kind = .function := by rfl) (hx : env.kindOf x = some .local := by rfl) : wpAny M A (storeName env x v) Q E (st s h tk) := by
  subst hL
  exact wpAny_storeName_local (s := st s h tk) hx F.ns (fun h' hn hs => k h' _ (F.set hn hs) fun b o hb e => (hs.2 b hb).trans e) (by rw [hk]; rfl)

theorem r_assign {p : Pos} {value : Expr} {rest : List Stmt} {Q : Flow → Shared → Prop} {S : Shared}
    (k : wpAny M A (eval value env) (fun v s₁ => wpAny M A (storeName env x v) (fun _ s₂ => wpAny M A (execs rest env) Q E s₂) E s₁) E S)
    (hs : swapsWith value (some (.Name x p)) pos.line env = pure false := by rfl) : wpAny M A (execs (.Assign [.Name x p] value pos :: rest) env) Q E S :=
  wpAny_execs_cons (wpAny_Assign_Name k hs)
theorem r_aug {p : Pos} {op : Operator} {value : Expr} {rest : List Stmt} {Q : Flow → Shared → Prop} {S : Shared}
    (k : wpAny M A (loadName env x) (fun old s₁ => wpAny M A (eval value env) (fun v s₂ => wpAny M A (inplaceOp op old v)
      (fun r s₃ => wpAny M A (storeName env x r) (fun _ s₄ => wpAny M A (execs rest env) Q E s₄) E s₃) E s₂) E s₁) E S) : wpAny M A (execs (.AugAssign (.Name x p) op value pos :: rest) env) Q E S :=
  wpAny_execs_cons (wpAny_AugAssign_Name k)
theorem r_ret {value : Expr} {rest : List Stmt} {Q : Flow → Shared → Prop} {S : Shared}
    (k : wpAny M A (eval value env) (fun v s' => Q (.ret v) s') E S) : wpAny M A (execs (.Return (some value) pos :: rest) env) Q E S :=
  wpAny_execs_cons (wpAny_Return_some (wpAny_mono k (fun _ _ q => q) fun _ _ e => e))
theorem r_int {i : Int} {c : Nat} {Q : Value → Shared → Prop} (k : Q (.int i tk) (st s h (tk + 1))) : wpAny M A (eval (.Constant (.int i) c pos) env) Q E (st s h tk) :=
  wpAny_Constant_int k
theorem r_str {i : Str} {c : Nat} {Q : Value → Shared → Prop} (k : Q (.str i tk) (st s h (tk + 1))) : wpAny M A (eval (.Constant (.str i) c pos) env) Q E (st s h tk) :=
  Calls.Constant_str k
theorem r_split {c : Prop} [Decidable c] {a b : Prop} (h1 : c → a) (h2 : ¬ c → b) : if c then a else b := by
  by_cases q : c
  · rw [if_pos q]; exact h1 q
  · rw [if_neg q]; exact h2 q
end
section
variable {prog : Program} {w : World} {A : Around} {E : Value → Shared → Prop} {s : Shared} {h : Heap} {tk : Nat} {a b : Int} {t u : Tok} {Q : Value → Shared → Prop}
theorem r_add (k : Q (.int (a + b) tk) (st s h (tk + 1))) : wpAny (model prog w) A (binaryOp .Add (.int a t) (.int b u)) Q E (st s h tk) := PyProof.Rows.add_int k
theorem r_sub (k : Q (.int (a - b) tk) (st s h (tk + 1))) : wpAny (model prog w) A (binaryOp .Sub (.int a t) (.int b u)) Q E (st s h tk) := PyProof.Rows.sub_int' k
theorem r_mul (hm : Builtin.Int.intBits b ≤ 64) (k : Q (.int (a * b) tk) (st s h (tk + 1))) : wpAny (model prog w) A (binaryOp .Mult (.int a t) (.int b u)) Q E (st s h tk) := PyProof.Rows.mul_int k (IntMulOk.of_right hm)
theorem r_fdiv (hb : b ≠ 0) (hs : b.natAbs < 1073741824) (k : Q (.int (a.fdiv b) tk) (st s h (tk + 1))) : wpAny (model prog w) A (binaryOp .FloorDiv (.int a t) (.int b u)) Q E (st s h tk) :=
  PyProof.Rows.floordiv_int hb k (Or.inl (PyProof.noPylong_small hs))
theorem r_fmod (hb : b ≠ 0) (k : Q (.int (a.fmod b) tk) (st s h (tk + 1))) : wpAny (model prog w) A (binaryOp .Mod (.int a t) (.int b u)) Q E (st s h tk) := mod_int' hb k
theorem r_band (k : Q (.int (Builtin.bitAnd a b) tk) (st s h (tk + 1))) : wpAny (model prog w) A (binaryOp .BitAnd (.int a t) (.int b u)) Q E (st s h tk) := PyProof.Rows.and_int k
end
end Mine
end
section
open PySem PySem.W PySem.Calls PyProof.Rows
set_option Elab.async false
set_option maxRecDepth 100000
namespace Mine

noncomputable def LoopPost (fp : List Addr) (J N : Heap → Prop) (V : Value → Heap → Prop) (h : Heap) (f : Flow) (h' : Heap) : Prop :=
  match f with
  | .next => (∀ b ∈ fp, ∀ o, h.get? b = some o → h'.get? b = some o) ∧ J h'
  | .cont => (∀ b ∈ fp, ∀ o, h.get? b = some o → h'.get? b = some o) ∧ J h'
  | .brk => N h'
  | .ret v => V v h'
noncomputable def FinPost (N : Heap → Prop) (V : Value → Heap → Prop) (f : Flow) (h' : Heap) : Prop :=
  match f with
  | .next => N h'
  | .ret v => V v h'
  | _ => False
noncomputable def EndPost (N : Heap → Prop) (V : Value → Heap → Prop) (r : Result) (h' : Heap) : Prop :=
  match r with
  | .ok f => FinPost N V f h'
  | .error _ => False

section
variable {prog : Program} {w : World} {A : Around} {s : Shared}

theorem r_loop {h : Heap} {tk : Nat} {target : Expr} {body orelse : List Stmt} {env : Env} {I : Addr} {fp wr : List Addr} {n : Nat} {P Md : Nat → Value → Heap → Prop} {St : Nat → Heap → Prop}
    (W : KTurns prog w A target I fp wr n P Md St) (J : Nat → Heap → Prop) (N : Heap → Prop) (V : Value → Heap → Prop)
    (hJ : ∀ i h h', J i h → (∀ b o, b ∉ wr → h.get? b = some o → h'.get? b = some o) → J i h')
    (turn : ∀ i v h tk, i < n → P i v h → St (i + 1) h → J i h →
      wpAny (model prog w) A (assign target env v) (fun _ s₂ => wpAny (model prog w) A (execs body env)
        (fun f s₃ => ∃ h₃ tk₃, s₃ = st s h₃ tk₃ ∧ LoopPost fp (J (i + 1)) N V h f h₃) (fun _ _ => False) s₂) (fun _ _ => False) (st s h tk))
    (fin : ∀ h tk, J n h → wpAny (model prog w) A (execs orelse env) (fun f s' => ∃ h' tk', s' = st s h' tk' ∧ FinPost N V f h') (fun _ _ => False) (st s h tk))
    (h0 : St 0 h) (j0 : J 0 h) :
    codeAny (model prog w) A (.forLoop target (.ref I) body orelse env) (fun r s' => ∃ h' tk', s' = st s h' tk' ∧ EndPost N V r h') (st s h tk) := by
  refine codeAny_forLoop_any (fun k s' => ∃ i h tk, s' = st s h tk ∧ St i h ∧ J i h ∧ i ≤ n ∧ k = n + 1 - i) ?_ (n + 1) ⟨0, h, tk, rfl, h0, j0, Nat.zero_le _, rfl⟩
  (rintro k s' hcj; (first | (refine Mine.e3_5 hcj ?_; clear hcj; rintro i h' tk' rfl hst hj hi rfl) | (obtain ⟨i, h', tk', rfl, hst, hj, hi, rfl⟩ := hcj)))
  by_cases hlt : i < n
  · refine W.item i _ _ _ hlt hst fun v h₁ tk₁ hMd hk₁ => ?_
    refine W.go i v _ _ _ hMd fun h₂ hP hst₂ hk₂ => ?_
    refine wpAny_mono (turn i v h₂ tk₁ hlt hP hst₂ (hJ i h' h₂ hj fun b o hb e => hk₂ b o hb (hk₁ b o hb e))) (fun _ s₂ q => wpAny_mono q (fun f s₃ q₃ => ?_) fun _ _ e => e.elim) fun _ _ e => e.elim
    (first | (refine Mine.e1_3 (q₃) ?_; rintro h₃ tk₃ rfl q) | (refine Mine.e2_2 (q₃) ?_; rintro h₃ tk₃ rfl q) | (obtain ⟨h₃, tk₃, rfl, q⟩ := q₃))
    cases f with
    | ret v => exact ⟨h₃, tk₃, rfl, q⟩
    | brk => exact ⟨h₃, tk₃, rfl, q⟩
    | cont => exact ⟨n + 1 - (i + 1), by omega, i + 1, h₃, tk₃, rfl, W.frame _ _ _ hst₂ q.1, q.2, hlt, rfl⟩
    | next => exact ⟨n + 1 - (i + 1), by omega, i + 1, h₃, tk₃, rfl, W.frame _ _ _ hst₂ q.1, q.2, hlt, rfl⟩
  · have hin : i = n := by omega
    subst hin
    refine W.done _ _ _ hst fun h₁ tk₁ hk₁ => ?_
    exact wpAny_mono (fin h₁ tk₁ (hJ i h' h₁ hj hk₁)) (fun f s₃ q => q) fun _ _ e => e.elim

theorem r_for {E : Value → Shared → Prop} {h : Heap} {tk : Nat} {target iter : Expr} {body orelse rest : List Stmt} {pos : Pos} {env : Env} {Q : Flow → Shared → Prop}
    (k : wpAny (model prog w) A (eval iter env) (fun x s₁ => wpAny (model prog w) A (pyIter x) (fun it s₂ => ∃ N V, codeAny (model prog w) A (.forLoop target it body orelse env) (fun r s' => ∃ h' tk', s' = st s h' tk' ∧ EndPost N V r h') s₂ ∧
      (∀ h' tk', N h' → wpAny (model prog w) A (execs rest env) Q E (st s h' tk')) ∧ (∀ v h' tk', V v h' → Q (.ret v) (st s h' tk'))) E s₁) E (st s h tk))
    (hs : ∀ x, foldedSetIterable iter env x = pure x := by intro _; rfl) :
    wpAny (model prog w) A (execs (.For target iter body orelse pos :: rest) env) Q E (st s h tk) := by
  refine wpAny_execs_cons (wpAny_For (wpAny_mono k (fun x s₁ k₁ => wpAny_mono k₁ (fun it s₂ k₂ => ?_) fun _ _ e => e) fun _ _ e => e) hs)
  (first | (refine Mine.e2_3 (k₂) ?_; rintro N V c hN hV) | (obtain ⟨N, V, c, hN, hV⟩ := k₂))
  refine codeAny_mono c fun r s' q => ?_
  (first | (refine Mine.e1_3 (q) ?_; rintro h' tk' rfl q) | (refine Mine.e2_2 (q) ?_; rintro h' tk' rfl q) | (obtain ⟨h', tk', rfl, q⟩ := q))
  cases r with
  | error e => exact q.elim
  | ok f =>
    cases f with
    | next => exact hN h' tk' q
    | ret v => exact hV v h' tk' q
    | brk => exact q.elim
    | cont => exact q.elim

theorem turns_name {x : Str} {p : Pos} {I : Addr} {fp wr : List Addr} {n : Nat} {P : Nat → Value → Prop} {St : Nat → Heap → Prop} (W : Walks prog w A I fp wr n P St) :
    KTurns prog w A (.Name x p) I fp wr n (fun i v _ => P i v) (fun i v h => P i v ∧ St (i + 1) h) St :=
  KTurns.ofWalks W fun _ _ _ _ _ _ hQ => wpAny_pure hQ
end

section
variable {prog : Program} {w : World} {A : Around} {E : Value → Shared → Prop} {s : Shared}
open PySem
theorem wpAny_nextOf_tuple_item {it l : Addr} {i : Nat} {items} {x : Value} {Q : Value → Shared → Prop} (hit : s.heap.IsTupleIter it l i)
    (hl : s.heap.IsTuple l items) (hx : items[i]? = some x)
    (hQ : ∀ h', h'.IsTupleIter it l (i + 1) → Heap.SameBut it s.heap h' → Q x { s with heap := h' }) :
    wpAny (model prog w) A (Builtin.SmallTypes.nextOf (.ref it)) Q E s := by
  (first | (refine Mine.e1_3 (id hit) ?_; rintro o ho hc hd) | (refine Mine.e2_2 (id hit) ?_; rintro o ho hc hd) | (obtain ⟨o, ho, hc, hd⟩ := id hit))
  (first | (refine Mine.e2_3 (hl) ?_; rintro ol hol _ nl hdl) | (obtain ⟨ol, hol, _, nl, hdl⟩ := hl))
  unfold Builtin.SmallTypes.nextOf
  refine wpAny_bind (wpAny_callSpecial?_slot (name := Str.ofString "__next__") hit.typeIs PySem.F.slot_tuple_iterator_next
    (wpAny_call_entry PySem.F.slot_tuple_iterator_next hit.typeIs PySem.F.entry_tuple_iterator_next ?_ (PySem.F.args_tuple_iterator_next_1 _)))
  show wpAny _ _ (field (.ref it) 0 >>= _) _ _ s
  refine wpAny_bind (wpAny_field ho hd (x := .ref l) rfl ?_)
  show wpAny _ _ (if (Value.ref l == Value.none) = true then _ else _) _ _ s
  rw [if_neg (show ¬ ((Value.ref l == Value.none) = true) from Bool.false_ne_true)]
  show wpAny _ _ (field (.ref it) 1 >>= _) _ _ s
  refine wpAny_bind (wpAny_field ho hd (x := .int i 0) rfl ?_)
  show wpAny _ _ (seqItems? (.ref l) >>= _) _ _ s
  refine wpAny_bind (wpAny_seqItems hol hdl ?_)
  simp only [Int.toNat_natCast, hx]
  refine wpAny_bind (wpAny_setField ho hd (by simp) (wpAny_pure ⟨x, rfl, wpAny_pure (hQ _ ?_ (Heap.SameBut.update ..))⟩))
  exact ⟨_, Heap.get?_update_self _ ho (Obj.isFreed_of_fields (Obj.data_mapFields hd _)), (Obj.cls_mapFields ..).trans hc, by
    rw [Obj.data_mapFields hd]; simp [rawInt]⟩

theorem wpAny_nextOf_tuple_end {it l : Addr} {i : Nat} {items} {Q : Value → Shared → Prop} (hh : A.handled = none)
    (hit : s.heap.IsTupleIter it l i) (hl : s.heap.IsTuple l items) (hx : items[i]? = none)
    (hE : ∀ h' e, Heap.ExtBut it s.heap h' → (∃ o, h'.get? e = some o ∧ o.cls = .type "StopIteration") → E (.ref e) { s with heap := h' }) :
    wpAny (model prog w) A (Builtin.SmallTypes.nextOf (.ref it)) Q E s := by
  (first | (refine Mine.e1_3 (id hit) ?_; rintro o ho hc hd) | (refine Mine.e2_2 (id hit) ?_; rintro o ho hc hd) | (obtain ⟨o, ho, hc, hd⟩ := id hit))
  (first | (refine Mine.e2_3 (hl) ?_; rintro ol hol _ nl hdl) | (obtain ⟨ol, hol, _, nl, hdl⟩ := hl))
  unfold Builtin.SmallTypes.nextOf
  refine wpAny_bind (wpAny_callSpecial?_slot (name := Str.ofString "__next__") hit.typeIs PySem.F.slot_tuple_iterator_next
    (wpAny_call_entry PySem.F.slot_tuple_iterator_next hit.typeIs PySem.F.entry_tuple_iterator_next ?_ (PySem.F.args_tuple_iterator_next_1 _)))
  show wpAny _ _ (field (.ref it) 0 >>= _) _ _ s
  refine wpAny_bind (wpAny_field ho hd (x := .ref l) rfl ?_)
  show wpAny _ _ (if (Value.ref l == Value.none) = true then _ else _) _ _ s
  rw [if_neg (show ¬ ((Value.ref l == Value.none) = true) from Bool.false_ne_true)]
  show wpAny _ _ (field (.ref it) 1 >>= _) _ _ s
  refine wpAny_bind (wpAny_field ho hd (x := .int i 0) rfl ?_)
  show wpAny _ _ (seqItems? (.ref l) >>= _) _ _ s
  refine wpAny_bind (wpAny_seqItems hol hdl ?_)
  simp only [Int.toNat_natCast, hx]
  refine wpAny_bind (wpAny_rule (wpAny_bind (wpAny_setField ho hd (by simp) ?_)))
  show wpAny _ _ (newExc (.type "StopIteration") [] >>= _) _ _ _
  refine wpAny_bind ?_
  simp only [newExc, newTuple]
  refine wpAny_bind (wpAny_newObj_type ?_ (by size_fits))
  refine wpAny_bind (m := firstArgMember _ _) (wpAny_of_eq (a := Value.none) (by first | rfl | (simp only [firstArgMember]; rfl)) ?_)
  refine wpAny_newObj_type ?_ (by size_fits)
  simp only [raiseNew]
  refine wpAny_bind (wpAny_handled ?_)
  first | rw [show A.in1.handled = none from hh] | rw [hh]
  refine wpAny_bind (wpAny_pure (wpAny_throw ?_))
  exact hE _ _ (((Heap.SameBut.update ..).extBut.push _).push _) ⟨_, Heap.get?_push_size _ rfl, rfl⟩
end

theorem drawsTuple {prog : Program} {w : World} {A : Around} (hh : A.handled = none) (it l : Addr) (hne : l ≠ it) (items : Array Value) :
    Draws prog w A it [it, l] items.size (fun i v => items[i]? = some v) (fun i h => h.IsTupleIter it l i ∧ h.IsTuple l items) where
  live := fun _ _ st => let ⟨o, ho, _⟩ := st.1; ⟨o, ho⟩
  frame := fun _ _ _ st hk => ⟨st.1.at fun o e => hk it (by simp) o e, st.2.at fun o e => hk l (by simp) o e⟩
  item := fun i s Q E hi st hQ => by
    refine wpAny_nextOf_tuple_item st.1 st.2 (x := items[i]) (by simp [hi]) fun h' hit' hs' => ?_
    exact hQ _ h' s.toks (by simp [hi]) ⟨hit', st.2.extBut hs'.extBut hne⟩ hs'
  done := fun s Q E st hE => wpAny_nextOf_tuple_end hh st.1 st.2 (by simp) hE

open AutoSeq1 (wpAny_loadPart') in
theorem meets_enumerate_newT (l : Addr) (items : Array Value) (n : Nat) (dct : Option Addr) (sl : Array (Option Value)) :
    Meets (Builtin.«enumerate.__new__» ⟨[.type "enumerate", .ref l], []⟩) (fun _ R s => s.heap.get? l = some { cls := .type "tuple", dict := dct, data := .seq items n, slots := sl } ∧
      R (.ok (.ret (.ref (s.heap.push { cls := .type "tuple_iterator", data := .fields #[.ref l, .int 0 0] }).objs.size)))
        { s with heap := (s.heap.push { cls := .type "tuple_iterator", data := .fields #[.ref l, .int 0 0] }).push { cls := .type "enumerate", data := .fields #[.none, .bool false, .ref s.heap.objs.size, rawInt 0, .none, .none] } }) :=
  .of_wp fun prog w A R s h => by
    (first | (refine Mine.e2_3 (s) ?_; rintro hp g d tk os) | (obtain ⟨hp, g, d, tk, os⟩ := s)); obtain ⟨hl, h⟩ := h
    have hsub := sub_enumerate
    have hL : Heap.IsTuple (Shared.heap ⟨hp, g, d, tk, os⟩) l items := ⟨_, hl, rfl, n, rfl⟩
    wp_walk using wpAny_loadPart' hl
    refine wpAny_stack_any fun st => wpAny_pure ?_
    split
    · rename_i c _ _ _ _ _
      cases (c == Value.type "enumerate")
      · wp_walk using wpAny_loadPart' hl, wpAny_pyIter_tuple hL
        exact ⟨_, rfl, h⟩
      · wp_walk using wpAny_loadPart' hl, wpAny_pyIter_tuple hL
        exact ⟨_, rfl, h⟩
    · wp_walk using wpAny_loadPart' hl, wpAny_pyIter_tuple hL
      exact ⟨_, rfl, h⟩

section
variable {prog : Program} {w : World} {A : Around} {E : Value → Shared → Prop} {s : Shared}
theorem call_enumerate_tuple {l : Addr} {items : Array Value} {Q : Value → Shared → Prop} (hL : s.heap.IsTuple l items)
    (h : ∀ h', IsEnum h' (s.heap.objs.size + 1) s.heap.objs.size 0 .none → h'.IsTupleIter s.heap.objs.size l 0 → h'.objs.size = s.heap.objs.size + 2 →
      (∀ b o, s.heap.get? b = some o → h'.get? b = some o) → Q (.ref (s.heap.objs.size + 1)) { s with heap := h' }) :
    wpAny (model prog w) A (call (.type "enumerate") [.ref l]) Q E s := by
  (first | (refine Mine.e2_3 (hL) ?_; rintro ⟨c, dct, dt, sl⟩ hl hc n hd) | (obtain ⟨⟨c, dct, dt, sl⟩, hl, hc, n, hd⟩ := hL))
  replace hc : c = .type "tuple" := hc
  replace hd : dt = .seq items n := hd
  subst hc hd
  refine callType_new PySem.F.called_enumerate (by decide) (PySem.F.typeCall_enumerate_1 _) (PySem.F.newCall_enumerate_1 _) (fun obj => PySem.F.args_object_init_2 obj _) PySem.F.entry_enumerate_new
    (meets_enumerate_newT l items n dct sl) ⟨hl, ?_⟩
  have hz : (s.heap.push { cls := .type "tuple_iterator", data := .fields #[.ref l, .int 0 0] }).objs.size = s.heap.objs.size + 1 := Heap.size_push ..
  show _ ∧ _
  rw [hz]
  have he : IsEnum ((s.heap.push { cls := .type "tuple_iterator", data := .fields #[.ref l, .int 0 0] }).push
      { cls := .type "enumerate", data := .fields #[.none, .bool false, .ref s.heap.objs.size, rawInt 0, .none, .none] }) (s.heap.objs.size + 1) s.heap.objs.size 0 .none := by
    have := Heap.get?_push_size (s.heap.push { cls := .type "tuple_iterator", data := .fields #[.ref l, .int 0 0] })
      (o := { cls := .type "enumerate", data := .fields #[.none, .bool false, .ref s.heap.objs.size, rawInt 0, .none, .none] }) rfl
    rw [hz] at this; exact this
  refine ⟨⟨_, he, rfl⟩, h _ he ⟨_, Heap.get?_push_of_some _ (Heap.get?_push_size _ rfl), rfl, rfl⟩ (by rw [Heap.size_push, hz]) fun b o x => Heap.get?_push_of_some _ (Heap.get?_push_of_some _ x)⟩
end

section
variable {prog : Program} {w : World} {A : Around} {E : Value → Shared → Prop} {s : Shared} {h G : Heap} {tk : Nat} {L : Addr} {m : Str → Option Value} {env : Env}
theorem r_unpack2 {x y : Str} {p q pos : Pos} {c : Nat} {t : Addr} {a b : Value} {Q : Unit → Shared → Prop} (hh : A.handled = none) (F : Fm G L m h) (ht : h.IsTuple t #[a, b])
    (k : ∀ h' tk', Fm G L (fun z => if z = y then some b else if z = x then some a else m z) h' → Off L h h' → Q () (st s h' tk'))
    (hL : env.locals = L := by rfl) (hk : env.scope.kind = .function := by rfl) (hx : env.kindOf x = some .local := by rfl) (hy : env.kindOf y = some .local := by rfl) :
    wpAny (model prog w) A (assign (.Tuple [.Name x p, .Name y q] c pos) env (.ref t)) Q E (st s h tk) := by
  refine wpAny_assign_Tuple (s := st s h tk) hh ht rfl rfl fun h₁ he => ?_
  have hst : Stay h h₁ := fun b o e => he b o (Nat.ne_of_lt (Heap.lt_size e)) e
  show wpAny _ _ (holding [b] (assign (.Name x p) env a) >>= fun _ => (holding [] (assign (.Name y q) env b) >>= fun _ => pure ())) _ _ _
  refine wpAny_bind (wpAny_holding (wpAny_assign_Name ?_))
  refine stL (s := s) (tk := tk) (F.stay hst) (fun h₂ tk₂ F₂ O₂ => ?_) hL hk hx
  refine wpAny_bind (wpAny_holding (wpAny_assign_Name ?_))
  refine stL F₂ (fun h₃ tk₃ F₃ O₃ => wpAny_pure (k h₃ tk₃ F₃ ((hst.off.trans O₂).trans O₃))) hL hk hy

theorem r_name {x : Str} {p : Pos} {v : Value} {Q : Unit → Shared → Prop} (F : Fm G L m h)
    (k : ∀ h' tk', Fm G L (fun z => if z = x then some v else m z) h' → Off L h h' → Q () (st s h' tk'))
    (hL : env.locals = L := by rfl) (hk : env.scope.kind = .function := by rfl) (hx : env.kindOf x = some .local := by rfl) :
    wpAny (model prog w) A (assign (.Name x p) env v) Q E (st s h tk) := wpAny_assign_Name (stL F k hL hk hx)
end
end Mine
end
section
open PySem PySem.W PySem.Calls PyProof.Rows
set_option Elab.async false
set_option maxRecDepth 100000
namespace Mine

noncomputable def Then (M : Model) (A : Around) (env : Env) (rest : List Stmt) (Q : Flow → Shared → Prop) (E : Value → Shared → Prop) (f : Flow) (s' : Shared) : Prop :=
  match f with
  | .next => wpAny M A (execs rest env) Q E s'
  | f => Q f s'

section
variable {M : Model} {A : Around} {E : Value → Shared → Prop} {s : Shared} {h : Heap} {tk : Nat} {env : Env} {rest : List Stmt} {Q : Flow → Shared → Prop} {pos : Pos} {S : Shared}
theorem then_next (k : wpAny M A (execs rest env) Q E S) : Then M A env rest Q E .next S := k
theorem then_ret {v : Value} (k : Q (.ret v) S) : Then M A env rest Q E (.ret v) S := k
theorem then_brk (k : Q .brk S) : Then M A env rest Q E .brk S := k
theorem r_if {test : Expr} {body orelse : List Stmt}
    (k : wpAny M A (isTrue test env (eval test env)) (fun b s₂ => if b = true then wpAny M A (execs body env) (Then M A env rest Q E) E s₂ else wpAny M A (execs orelse env) (Then M A env rest Q E) E s₂) E S) :
    wpAny M A (execs (.If test body orelse pos :: rest) env) Q E S := by
  refine wpAny_execs_cons (wpAny_If (wpAny_mono k (fun b s₂ q => ?_) fun _ _ e => e))
  cases b with
  | true => exact wpAny_mono (show wpAny M A (execs body env) (Then M A env rest Q E) E s₂ from q) (fun f s' q' => by cases f <;> exact q') fun _ _ e => e
  | false => exact wpAny_mono (show wpAny M A (execs orelse env) (Then M A env rest Q E) E s₂ from q) (fun f s' q' => by cases f <;> exact q') fun _ _ e => e
theorem r_brk : Q .brk S → wpAny M A (execs (.Break pos :: rest) env) Q E S := fun k => wpAny_execs_cons (wpAny_Break k)
theorem r_nil : Q .next S → wpAny M A (execs [] env) Q E S := fun k => wpAny_execs_nil k
theorem r_expr {e : Expr} (k : wpAny M A (eval e env) (fun v s' => v = .none ∧ wpAny M A (execs rest env) Q E s') E S)
    (hi : interactive env = false := by rfl) (hs : swapsWith e none pos.line env = pure false := by rfl) :
    wpAny M A (execs (.Expr e pos :: rest) env) Q E S := by
  refine wpAny_execs_cons (wpAny_Expr (wpAny_mono k (fun v s' q => ?_) fun _ _ e => e) hi hs)
  obtain ⟨rfl, q⟩ := q
  exact q
theorem r_list {elts : List Expr} {Q : Value → Shared → Prop}
    (k : wpAny M A (spliced (backTo pos (starEach elts env))) (fun vs s₁ => wpAny M A (newList vs) Q E s₁) E S) : wpAny M A (eval (.List elts pos) env) Q E S := List_ k
theorem r_tuple {elts : List Expr} {c : Nat} {Q : Value → Shared → Prop}
    (k : wpAny M A (spliced (backTo pos (starEach elts env))) (fun vs s₁ => wpAny M A (newTuple vs) Q E s₁) E S) : wpAny M A (eval (.Tuple elts c pos) env) Q E S := Tuple_ k
theorem r_sp0 {Q : List Value → Shared → Prop} (k : Q [] S) : wpAny M A (spliced (backTo pos (starEach [] env))) Q E S := spliced_none k
theorem r_sp1 {e : Expr} {more : List Expr} {Q : List Value → Shared → Prop}
    (k : wpAny M A (eval e env) (fun v s₁ => wpAny M A (spliced (backTo pos (starEach more env))) (fun vs s₂ => Q (v :: vs) s₂) E s₁) E S)
    (he : starEach (e :: more) env = (false, eval e env) :: starEach more env := by rfl) : wpAny M A (spliced (backTo pos (starEach (e :: more) env))) Q E S := spliced_more k he
theorem r_newList {vs : List Value} {Q : Value → Shared → Prop} (hz : vs.length ≤ 1000)
    (k : ∀ a h', h.get? a = none → h'.PlainList a vs.toArray → Stay h h' → Q (.ref a) (st s h' tk)) : wpAny M A (newList vs) Q E (st s h tk) :=
  wpAny_newList (s := st s h tk) (k _ _ (Heap.get?_none_of_le (Nat.le_refl _)) ⟨_, Heap.get?_push_size _ rfl⟩ fun _ _ e => Heap.get?_push_of_some _ e) (by rw [sizeLine_eq]; (first | lia | omega))
theorem r_newTuple {vs : List Value} {Q : Value → Shared → Prop} (hz : vs.length ≤ 1000)
    (k : ∀ a h', h.get? a = none → h'.IsTuple a vs.toArray → Stay h h' → Q (.ref a) (st s h' tk)) : wpAny M A (newTuple vs) Q E (st s h tk) :=
  wpAny_newTuple (s := st s h tk) (k _ _ (Heap.get?_none_of_le (Nat.le_refl _)) ⟨_, Heap.get?_push_size _ rfl, rfl, _, rfl⟩ fun _ _ e => Heap.get?_push_of_some _ e) (by rw [sizeLine_eq]; (first | lia | omega))
theorem r_call {x : Str} {p : Pos} {args : List Expr} {Q : Value → Shared → Prop}
    (k : wpAny M A (eval (.Name x p) env) (fun f s₁ => wpAny M A (callWith pos f [] (backTo pos (starEach args env)) []) Q E s₁) E S) :
    wpAny M A (eval (.Call (.Name x p) args [] pos) env) Q E S := wpAny_Call_NameR k
theorem r_cwF {f : Addr} {e : Expr} {more : List Expr} {first : List Value} {Q : Value → Shared → Prop} {o : Obj} {fd : FuncData} (hd : o.data = .func fd)
    (k : wpAny M A (spliced (backTo pos (starEach (e :: more) env))) (fun vs s₁ => s₁.heap.get? f = some o ∧ wpAny M A (call (.ref f) (first ++ vs)) Q E s₁) E S)
    (he : starEach (e :: more) env = (false, eval e env) :: starEach more env := by rfl) :
    wpAny M A (callWith pos (.ref f) first (backTo pos (starEach (e :: more) env)) []) Q E S := by
  rw [he] at k ⊢
  exact Calls.callWith_function (o := o) (fd := fd) (Calls.evalArgs_plain (wpAny_mono k (fun vs s₁ q => ⟨⟨q.1, hd⟩, q.2⟩) fun _ _ x => x))
theorem r_cwB {id : String} {e : Expr} {more : List Expr} {first : List Value} {Q : Value → Shared → Prop}
    (k : wpAny M A (spliced (backTo pos (starEach (e :: more) env))) (fun vs s₁ => wpAny M A (call (.builtin id) (first ++ vs)) Q E s₁) E S)
    (he : starEach (e :: more) env = (false, eval e env) :: starEach more env := by rfl) (hp : (backTo pos (starEach (e :: more) env)).any (·.1) = false := by rfl) :
    wpAny M A (callWith pos (.builtin id) first (backTo pos (starEach (e :: more) env)) []) Q E S := by
  refine Calls.callWith_builtin hp ?_
  rw [he] at k ⊢
  exact Calls.evalArgs_plain k
theorem r_cwT {T : String} {e : Expr} {more : List Expr} {Q : Value → Shared → Prop}
    (k : wpAny M A (spliced (backTo pos (starEach (e :: more) env))) (fun vs s₁ => wpAny M A (call (.type T) vs) Q E s₁) E S)
    (he : starEach (e :: more) env = (false, eval e env) :: starEach more env := by rfl) (hp : (backTo pos (starEach more env)).any (·.1) = false := by rfl) :
    wpAny M A (callWith pos (.type T) [] (backTo pos (starEach (e :: more) env)) []) Q E S := PyProof.Rows.callWith_type1 k he hp
end

section
variable {prog : Program} {w : World} {A : Around} {E : Value → Shared → Prop} {s : Shared} {h : Heap} {tk : Nat} {env : Env} {pos : Pos} {S : Shared} {Q : Value → Shared → Prop}
theorem r_meth {o : Expr} {name : Str} {apos : Pos} {args : List Expr} {T id : String} (pa : PlainAttrs T) (slot : Slot T name id) (hty : typeOf (.builtin id) = pure (.type "method_descriptor"))
    (k : wpAny (model prog w) A (eval o env) (fun ov s₁ => s₁.TypeIs ov T ∧ (∀ a, ov = .ref a → ∃ ob, s₁.heap.get? a = some ob ∧ ob.dict = none) ∧
      wpAny (model prog w) A (callWith pos (.builtin id) [ov] (backTo pos (starEach args env)) []) Q E s₁) E S)
    (hbase : attributeBase o name env (eval o env) = eval o env := by rfl)
    (hfew : ((backTo pos (starEach args env)).all (fun x => !x.1) && (backToKw pos (keywordEach [] env)).all (fun x => x.1.isSome)
      && decide (args.length + ([] : List Keyword).length + (if ([] : List Keyword).isEmpty then 0 else 1) < 30)) = true := by rfl)
    (hline : (apos.endLine == pos.line) = true := by rfl) :
    wpAny (model prog w) A (eval (.Call (.Attribute o name apos) args [] pos) env) Q E S := wpAny_Call_method hbase hfew hline pa slot hty k
theorem r_append {l : Addr} {items : Array Value} {x : Value} (hl : h.PlainList l items) (hz : items.size ≤ 1000)
    (k : ∀ h', h'.PlainList l (items.push x) → Off l h h' → Q .none (st s h' tk)) : wpAny (model prog w) A (call (.builtin "list.append") [.ref l, x]) Q E (st s h tk) :=
  wpAny_list_append_plain (s := st s h tk) hl (fun h' hl' hs => k h' hl' fun b o n e => (hs.2 b n).trans e) (by rw [sizeLine_eq]; (first | lia | omega))
theorem r_appendM {o elt : Expr} {apos : Pos}
    (k : wpAny (model prog w) A (eval o env) (fun ov s₁ => ∃ l items, ov = .ref l ∧ s₁.heap.PlainList l items ∧
      wpAny (model prog w) A (eval elt env) (fun y s₂ => wpAny (model prog w) A (call (.builtin "list.append") [.ref l, y]) Q E s₂) E s₁) E S)
    (hbase : attributeBase o "append" env (eval o env) = eval o env := by rfl)
    (hfew : ((backTo pos (starEach [elt] env)).all (fun x => !x.1) && (backToKw pos (keywordEach [] env)).all (fun x => x.1.isSome)
      && decide ([elt].length + ([] : List Keyword).length + (if ([] : List Keyword).isEmpty then 0 else 1) < 30)) = true := by rfl)
    (hline : (apos.endLine == pos.line) = true := by rfl)
    (he : starEach [elt] env = (false, eval elt env) :: starEach [] env := by rfl) (hp : (backTo pos (starEach [elt] env)).any (·.1) = false := by rfl) :
    wpAny (model prog w) A (eval (.Call (.Attribute o "append" apos) [elt] [] pos) env) Q E S := by
  refine wpAny_Call_method hbase hfew hline PySem.F.plainAttrs_list PySem.slot_list_append PySem.F.type_list_append (wpAny_mono k (fun ov s₁ q => ?_) fun _ _ e => e)
  (first | (refine Mine.e2_3 (q) ?_; rintro l items rfl ⟨n, hl⟩ q) | (obtain ⟨l, items, rfl, ⟨n, hl⟩, q⟩ := q))
  refine ⟨⟨_, hl, rfl⟩, fun a ha => by cases ha; exact ⟨_, hl, rfl⟩, r_cwB (r_sp1 (wpAny_mono q (fun y s₂ q₂ => r_sp0 q₂) fun _ _ e => e) he) he hp⟩
theorem r_iterT {t : Addr} {items : Array Value} (ht : h.IsTuple t items)
    (k : ∀ I h', h.get? I = none → h'.IsTupleIter I t 0 → Stay h h' → h'.IsTuple t items → t ≠ I → Q (.ref I) (st s h' tk)) : wpAny (model prog w) A (pyIter (.ref t)) Q E (st s h tk) :=
  wpAny_pyIter_tuple (s := st s h tk) ht (k _ _ (Heap.get?_none_of_le (Nat.le_refl _)) ⟨_, Heap.get?_push_size _ rfl, rfl, rfl⟩ (fun _ _ e => Heap.get?_push_of_some _ e)
    (ht.at fun _ e => Heap.get?_push_of_some _ e) (by obtain ⟨o, ho, _⟩ := ht; exact Nat.ne_of_lt (Heap.lt_size ho)))
theorem r_iterL {t : Addr} {items : Array Value} (ht : h.IsList t items)
    (k : ∀ I h', h.get? I = none → h'.IsListIter I t 0 → Stay h h' → h'.IsList t items → t ≠ I → Q (.ref I) (st s h' tk)) : wpAny (model prog w) A (pyIter (.ref t)) Q E (st s h tk) :=
  wpAny_pyIter_list (s := st s h tk) ht (k _ _ (Heap.get?_none_of_le (Nat.le_refl _)) ⟨_, Heap.get?_push_size _ rfl, rfl, rfl⟩ (fun _ _ e => Heap.get?_push_of_some _ e)
    (ht.at fun _ e => Heap.get?_push_of_some _ e) (by obtain ⟨o, ho, _⟩ := ht; exact Nat.ne_of_lt (Heap.lt_size ho)))
end
end Mine
end
open PySem PySem.W PySem.Calls PyProof.Rows Mine
set_option maxRecDepth 100000
section
open PySem PySem.W PySem.Calls PyProof.Rows
set_option Elab.async false
set_option maxRecDepth 100000
namespace Mine

noncomputable def stAt (n : Nat) : Stmt := match PySem.Challenge.pw_om0029_02.main.body.drop n with | st :: _ => st | [] => .Pass default
noncomputable def nameAt (n : Nat) : Str := match stAt n with | .FunctionDef name _ _ _ _ _ _ _ _ _ => name | _ => default
noncomputable def argsAt (n : Nat) : Arguments := match stAt n with | .FunctionDef _ args _ _ _ _ _ _ _ _ => args | _ => default
noncomputable def bodyAt (n : Nat) : List Stmt := match stAt n with | .FunctionDef _ _ body _ _ _ _ _ _ _ => body | _ => []
noncomputable def scopeAt (n : Nat) : Scope := match stAt n with | .FunctionDef _ _ _ _ _ _ scope _ _ _ => scope | _ => default
noncomputable abbrev fnD (n : Nat) (c : Addr) (pm dV : Value) : FuncData :=
  { name := nameAt n, qualname := nameAt n, params := argsAt n, body := .stmts (bodyAt n), scope := scopeAt n, globals := mainGlobals, closure := [], defaults := dV, kwdefaults := .none, doc := .none, pyModule := pm, annotations := none, code := .ref c, closureTuple := .none, builtins := builtinsNs }

noncomputable def FnAt (G : Heap) (f c n : Nat) (dV : Value) : Prop := ∃ pm, G.get? f = some { cls := .type "function", data := .func (fnD n c pm dV) } ∧ G.CodeRec (.ref c) (nameAt n)
theorem FnAt.stay {G h : Heap} {f c n : Nat} {dV : Value} (x : FnAt G f c n dV) (st : Stay G h) : FnAt h f c n dV := let ⟨pm, e, r⟩ := x; ⟨pm, st _ _ e, r.keeps st⟩

section
variable {prog : Program} {w : World} {A : Around} {s : Shared} {h : Heap} {mg mb : Str → Option Value}

theorem gives_def {f c n : Nat} {dV : Value} {args : List Value} {binds : List (Str × Value)} {φ : Value → Heap → Prop}
    (R : Rm 1 A) (B : Bas mg mb h) (X : FnAt h f c n dV)
    (hbind : ∀ pm tk, BindsTo (st s h tk) (fnD n c pm dV) ⟨args, []⟩ binds)
    (hcell : ((scopeAt n).names.all fun x => x.2 != .cell) = true) (hloc : (binds.all fun x => (scopeAt n).names.lookup x.1 == some .local) = true)
    (hb : ∀ pm L h₀ tk, binds.length ≤ tk → Fm h L (fun x => binds.reverse.lookup x) h₀ → 
      wpAny (model prog w) (A.deeper (callEnv (fnD n c pm dV) L f)) (execs (bodyAt n) (callEnv (fnD n c pm dV) L f)) (fun fl s' => ∃ h' tk', s' = st s h' tk' ∧ Stay h h' ∧ φ (flowV fl) h') (fun _ _ => False) (st s h₀ tk))
    (hco : (scopeAt n).isCoroutine = false := by rfl) (hgen : (scopeAt n).isGenerator = false := by rfl) (hk : (scopeAt n).kind = .function := by rfl) :
    Gives prog w A (call (.ref f) args) s h φ := by
  obtain ⟨pm, ho, hc⟩ := X
  refine gives_fn R.room ho rfl B.lim hc rfl (hbind pm) (fun x hx e => ?_) (fun x hx => ?_) (fun L h₀ tk htk hns st hL => hb pm L h₀ tk htk ⟨hns, st, hL⟩) hco hgen hk
  · have := List.all_eq_true.mp hcell x hx
    rw [e] at this; simp at this
  · simpa using List.all_eq_true.mp hloc x hx


end
end Mine
end
section
open PySem PySem.W PySem.Calls PyProof.Rows
set_option Elab.async false
set_option maxRecDepth 100000
namespace Mine

theorem paired_get {α β : Type} {F : α → β → Prop} : ∀ {l : List α} {m : List β}, Paired F l m → ∀ {i : Nat} {a : α}, l[i]? = some a → ∃ b, m[i]? = some b ∧ F a b
  | _, _, .nil, _, _, e => by simp at e
  | _, _, .cons (b := b) f r, 0, a, e => by simp at e; subst e; exact ⟨b, rfl, f⟩
  | _, _, .cons f r, i + 1, a, e => by simp at e; simpa using paired_get r e
theorem paired_imp {α β : Type} {F F' : α → β → Prop} (hm : ∀ a b, F a b → F' a b) {l : List α} {m : List β} (x : Paired F l m) : Paired F' l m := by
  induction x with
  | nil => exact .nil
  | cons f _ ih => exact .cons (hm _ _ f) ih

noncomputable def PairAt (h : Heap) (v : Value) (p : Int × Str) : Prop := ∃ a t u, v = .ref a ∧ h.IsTuple a #[.int p.1 t, .str p.2 u]
noncomputable def RowAt (h : Heap) (v : Value) (r : List (Int × Str)) : Prop := ∃ a vs, v = .ref a ∧ h.IsTuple a vs.toArray ∧ Paired (PairAt h) vs r
noncomputable def TabAt (h : Heap) (a : Addr) (T : List (List (Int × Str))) : Prop := ∃ vs, h.IsTuple a vs.toArray ∧ Paired (RowAt h) vs T
theorem isTup_stay {h h' : Heap} {a : Addr} {its : Array Value} (x : h.IsTuple a its) (k : Stay h h') : h'.IsTuple a its := x.at fun o e => k a o e
theorem isLst_stay {h h' : Heap} {a : Addr} {its : Array Value} (x : h.IsList a its) (k : Stay h h') : h'.IsList a its := let ⟨o, e, r⟩ := x; ⟨o, k _ _ e, r⟩
theorem pairAt_stay {h h' : Heap} (k : Stay h h') (v : Value) (p : Int × Str) : PairAt h v p → PairAt h' v p := fun ⟨a, t, u, e, x⟩ => ⟨a, t, u, e, isTup_stay x k⟩
theorem rowAt_stay {h h' : Heap} (k : Stay h h') (v : Value) (r : List (Int × Str)) : RowAt h v r → RowAt h' v r := fun ⟨a, vs, e, x, y⟩ => ⟨a, vs, e, isTup_stay x k, paired_imp (pairAt_stay k) y⟩
theorem tabAt_stay {h h' : Heap} (k : Stay h h') {a : Addr} {T : List (List (Int × Str))} : TabAt h a T → TabAt h' a T := fun ⟨vs, x, y⟩ => ⟨vs, isTup_stay x k, paired_imp (rowAt_stay k) y⟩

noncomputable def hits (i : Nat) (mode : Int) (p : Int × Str) : Bool := if i = 0 then Builtin.bitAnd mode 61440 == p.1 else Builtin.bitAnd mode p.1 == p.1
noncomputable def pick (i : Nat) (mode : Int) (row : List (Int × Str)) : Str := match row.find? (hits i mode) with
  | some p => p.2
  | none => if i = 0 then "?" else "-"

noncomputable def Off2 (L p : Addr) (h h' : Heap) : Prop := ∀ b o, b ≠ L → b ≠ p → h.get? b = some o → h'.get? b = some o

theorem ns_ne_list {h : Heap} {L p : Addr} {m : Str → Option Value} {its : Array Value} (x : h.Ns L m) (y : h.PlainList p its) : p ≠ L := by
  rintro rfl
  (first | (refine Mine.e3_3 (x) ?_; rintro o es ep e hd _) | (obtain ⟨o, es, ep, e, hd, _⟩ := x))
  obtain ⟨n, e'⟩ := y
  rw [e] at e'; cases e'; cases hd

theorem paired_len {α β : Type} {F : α → β → Prop} {l : List α} {m : List β} (x : Paired F l m) : l.length = m.length := by
  induction x with
  | nil => rfl
  | cons _ _ ih => simp [ih]
theorem Fm.off {G h h' : Heap} {L p : Addr} {m : Str → Option Value} (F : Fm G L m h) (pG : G.get? p = none) (O : Off p h h') (hn : p ≠ L) : Fm G L m h' :=
  ⟨F.ns.at' fun o e => O _ o (Ne.symm hn) e, fun b o e => O b o (fun q => by rw [q, pG] at e; cases e) (F.keep b o e), F.fresh⟩
theorem off2_off {L p : Addr} {h h' h'' : Heap} (x : Off2 L p h h') (y : Off p h' h'') : Off2 L p h h'' := fun b o n1 n2 e => y b o n2 (x b o n1 n2 e)
theorem off2_offL {L p : Addr} {h h' h'' : Heap} (x : Off2 L p h h') (y : Off L h' h'') : Off2 L p h h'' := fun b o n1 n2 e => y b o n1 (x b o n1 n2 e)
theorem off2_stay {L p : Addr} {h h' h'' : Heap} (x : Off2 L p h h') (y : Stay h' h'') : Off2 L p h h'' := fun b o n1 n2 e => y b o (x b o n1 n2 e)

section
variable {prog : Program} {w : World} {A : Around} {s : Shared} {h : Heap} {mg mb : Str → Option Value}

theorem r_cwD {M : Model} {E : Value → Shared → Prop} {env : Env} {pos : Pos} {tk : Nat} {f c n : Nat} {dV : Value} {e : Expr} {more : List Expr} {first : List Value} {Q : Value → Shared → Prop}
    (X : FnAt h f c n dV)
    (k : wpAny M A (spliced (backTo pos (starEach (e :: more) env))) (fun vs s₁ => Stay h s₁.heap ∧ wpAny M A (call (.ref f) (first ++ vs)) Q E s₁) E (st s h tk))
    (he : starEach (e :: more) env = (false, eval e env) :: starEach more env := by rfl) :
    wpAny M A (callWith pos (.ref f) first (backTo pos (starEach (e :: more) env)) []) Q E (st s h tk) := by
  (first | (refine Mine.e1_2 (X) ?_; rintro pm e _) | (obtain ⟨pm, e, _⟩ := X))
  exact r_cwF rfl (wpAny_mono k (fun vs s₁ q => ⟨q.1 _ _ e, q.2⟩) fun _ _ x => x) he

set_option maxHeartbeats 2000000 in
theorem c_ifmt {n : Int} {t : Tok} (R : Rm 1 A) (B : Bas mg mb h) (X : FnAt h 71 70 11 .none) :
    Gives prog w A (call (.ref 71) [.int n t]) s h (fun v _ => ∃ t, v = .int (Builtin.bitAnd n 61440) t) := by
  refine gives_def (binds := [("mode", .int n t)]) R B X (fun pm tk => BindsTo.of_eq rfl) (by decide +kernel) (by rfl) fun pm L h₀ tk htk F => ?_
  refine r_ret ?_
  repeat' (first | with_reducible refine wpAny_BinOp ?_ | ((with_reducible refine r_int ?_)) | ((with_reducible show wpAny _ _ (eval (Expr.Name _ _) _) _ _ _); refine nmL (by assumption) (by first | rfl | assumption) ?_) | ((with_reducible refine r_band ?_)))
  exact ⟨_, _, rfl, Fm.keep (by assumption), _, rfl⟩

noncomputable def stmtAt (n j : Nat) : Stmt := (bodyAt n).getD j (.Pass default)
noncomputable def loopBody : Stmt → List Stmt
  | .For _ _ b _ _ => b
  | _ => []

set_option maxHeartbeats 4000000 in
theorem fm_inner {G : Heap} {L p ta : Addr} {m : Str → Option Value} {pm : Value} {tk : Nat} {mode : Int} {i : Nat} {t t' : Tok} {row : List (Int × Str)} {cs : Array Value} {N : Heap → Prop}
    (R : Rm 2 A) (B : Bas mg mb G) (X : FnAt G 71 70 11 .none) (hS : mg "S_IFMT" = some (.ref 71))
    (F : Fm G L m h) (hm : m "mode" = some (.int mode t)) (hp : m "perm" = some (.ref p)) (hi : m "index" = some (.int i t')) (ht : m "table" = some (.ref ta))
    (hrow : RowAt G (.ref ta) row) (hl : h.PlainList p cs) (pG : G.get? p = none) (hz : cs.size ≤ 20)
    (k : ∀ h' m' u, Fm G L m' h' → m' "mode" = some (.int mode t) → m' "perm" = some (.ref p) → h'.PlainList p (cs.push (.str (pick i mode row) u)) → Off2 L p h h' → N h') :
    wpAny (model prog w) A (execs (loopBody (stmtAt 32 1)) (callEnv (fnD 32 110 pm .none) L 111)) (fun f s' => f = .next ∧ ∃ h' tk', s' = st s h' tk' ∧ N h') (fun _ _ => False) (st s h tk) := by
  (first | (refine Mine.e2_3 (hrow) ?_; rintro ta' vs e htup hpr) | (refine Mine.e3_2 (hrow) ?_; rintro ta' vs e htup hpr) | (obtain ⟨ta', vs, e, htup, hpr⟩ := hrow))
  cases e
  have hlen : vs.toArray.size = row.length := by have := paired_len hpr; simpa using this
  refine r_for ?_
  (((with_reducible show wpAny _ _ (eval (Expr.Name _ _) _) _ _ _); refine nmL (by assumption) (by first | rfl | assumption) ?_))
  refine r_iterT (isTup_stay htup F.keep) fun I h₁ hI hit st₁ htup₁ hne => ?_
  have hIL : L ≠ I := fun q => by obtain ⟨o, es, ep, e, _⟩ := F.ns; rw [q, hI] at e; cases e
  have hIp : p ≠ I := fun q => by obtain ⟨n, e⟩ := hl; rw [q, hI] at e; cases e
  have hIG : G.get? I = none := by
    cases e : G.get? I with
    | none => rfl
    | some o => have := F.keep _ _ e; rw [hI] at this; cases this
  refine ⟨N, fun _ _ => False, ?_, fun h' tk' hN => r_nil ⟨rfl, h', tk', rfl, hN⟩, fun _ _ _ f => f.elim⟩
  refine r_loop (KTurns.ofWalks (Walks.tuple R.hd I ta hne vs.toArray) fun i v s Q E st q => letGo_tupleiter st.1 q)
    (fun j h' => ∃ m', Fm G L m' h' ∧ m' "mode" = some (.int mode t) ∧ m' "perm" = some (.ref p) ∧ m' "index" = some (.int i t') ∧ h'.PlainList p cs ∧ Off2 L p h h' ∧ ∀ q ∈ row.take j, hits i mode q = false)
    N (fun _ _ => False) ?hJ ?turn ?fin ⟨hit, htup₁⟩ ⟨m, F.stay st₁, hm, hp, hi, hl.at fun o e => st₁ _ _ e, fun b o _ _ e => st₁ b o e, by simp⟩
  case hJ =>
    (rintro j h₂ h₃ hcj; (first | (refine Mine.e1_7 hcj ?_; clear hcj; rintro m' F' a1 a2 a3 a4 a5 a6 hk) | (obtain ⟨m', F', a1, a2, a3, a4, a5, a6⟩ := hcj; rintro hk)))
    refine ⟨m', ⟨F'.ns.at' fun o e => hk _ o (by simpa using hIL) e, fun b o e => hk b o (fun q => ?_) (F'.keep b o e), F'.fresh⟩, a1, a2, a3, a4.at fun o e => hk _ o (by simpa using hIp) e, fun b o n1 n2 e => hk b o (fun q => ?_) (a5 b o n1 n2 e), a6⟩
    · simp at q; rw [q, hIG] at e; cases e
    · simp at q; rw [q, hI] at e; cases e
  case fin =>
    (rintro h₂ tk₂ hcj; (first | (refine Mine.e1_7 hcj ?_; clear hcj; rintro m' F' a1 a2 a3 a4 a5 a6) | (obtain ⟨m', F', a1, a2, a3, a4, a5, a6⟩ := hcj)))
    have hpk : pick i mode row = if i = 0 then ("?" : Str) else ("-" : Str) := by
      have : row.find? (hits i mode) = none := by
        rw [List.find?_eq_none]
        intro q hq
        rw [a6 q (by rwa [hlen, List.take_length])]; simp
      unfold pick; rw [this]
    refine r_if ?_
    repeat' (first | ((with_reducible refine wpAny_isTrue_Compare1 ?_ ?mk); (case mk => with_unfolding_all rfl)) | ((with_reducible refine r_int ?_)) | ((with_reducible show wpAny _ _ (eval (Expr.Name _ _) _) _ _ _); refine nmL (by assumption) (by first | rfl | assumption) ?_) | with_reducible refine PyProof.Rows.eq_int ?_ | with_reducible refine wpAny_truthy_bool ?_ | ((with_reducible refine r_split ?_ ?_) <;> intro _))
    all_goals (refine r_expr (r_appendM ?_); (((with_reducible show wpAny _ _ (eval (Expr.Name _ _) _) _ _ _); refine nmL (by assumption) (by first | rfl | assumption) ?_)); refine ⟨p, cs, rfl, a4, ?_⟩; (((with_reducible refine r_str ?_))); refine r_append a4 (by (first | lia | omega)) fun h₃ hl₃ O₃ => ⟨rfl, ?_⟩)
    all_goals (repeat' (first | with_reducible refine r_nil ?_ | with_reducible refine then_next ?_))
    all_goals refine ⟨_, _, rfl, k _ m' (tk₂ + 1) (F'.off pG O₃ (ns_ne_list F'.ns a4)) a1 a2 ?_ (off2_off a5 O₃)⟩
    · rename_i hc'
      rw [hpk, if_pos (by simp at hc'; (first | lia | omega))]; exact hl₃
    · rename_i hc'
      rw [hpk, if_neg (by simp at hc'; (first | lia | omega))]; exact hl₃
  case turn =>
    (rintro j v h₂ tk₂ hj hP hst hcj; (first | (refine Mine.e1_7 hcj ?_; clear hcj; rintro m' F' a1 a2 a3 a4 a5 a6) | (obtain ⟨m', F', a1, a2, a3, a4, a5, a6⟩ := hcj)))
    obtain ⟨q, hq, hpq⟩ := paired_get hpr (show vs[j]? = some v by simpa using hP)
    (first | (refine Mine.e2_3 (pairAt_stay F'.keep _ _ hpq) ?_; rintro pa tb tc rfl htp) | (refine Mine.e3_2 (pairAt_stay F'.keep _ _ hpq) ?_; rintro pa tb tc rfl htp) | (obtain ⟨pa, tb, tc, rfl, htp⟩ := pairAt_stay F'.keep _ _ hpq))
    refine r_unpack2 R.hd F' htp fun h₃ tk₃ F₃ O₃ => ?_
    have hp₃ : h₃.PlainList p cs := a4.at fun o e => O₃ _ o (ns_ne_list F'.ns a4) e
    have hI₃ : ∀ h₄, Stay h₃ h₄ → LoopPost [I, ta] (fun h' => ∃ m', Fm G L m' h' ∧ m' "mode" = some (.int mode t) ∧ m' "perm" = some (.ref p) ∧ m' "index" = some (.int i t') ∧ h'.PlainList p cs ∧ Off2 L p h h' ∧ ∀ q ∈ row.take (j + 1), hits i mode q = false)
        N (fun _ _ => False) h₂ .next h₄ ∨ hits i mode q = true := by
      intro h₄ S₄
      cases hh : hits i mode q with
      | true => exact .inr rfl
      | false =>
        refine .inl ⟨?_, _, F₃.stay S₄, a1, a2, a3, hp₃.at fun o e => S₄ _ o e, off2_stay (off2_offL a5 O₃) S₄, ?_⟩
        · intro b hb o e
          refine S₄ _ _ (O₃ b o (fun q => ?_) e)
          simp at hb
          rcases hb with rfl | rfl
          · exact hIL q.symm
          · rw [q] at htup
            (first | (refine Mine.e1_2 (htup) ?_; rintro o e _) | (obtain ⟨o, e, _⟩ := htup))
            rw [F.fresh] at e; cases e
        · intro q' hq'
          rw [List.take_add_one, hq] at hq'
          rcases List.mem_append.mp hq' with x | x
          · exact a6 _ x
          · simp at x; rw [x]; exact hh
    have hN : ∀ h₄, hits i mode q = true → Stay h₃ h₄ → ∀ h₅, Off p h₄ h₅ → h₅.PlainList p (cs.push (.str q.2 tc)) → N h₅ := by
      intro h₄ hh S₄ h₅ O₅ hp₅
      have hpk : pick i mode row = q.2 := by
        have : row.find? (hits i mode) = some q := by
          rw [List.find?_eq_some_iff_append]
          refine ⟨hh, row.take j, row.drop (j + 1), ?_, fun a ha => by simpa using a6 a ha⟩
          have : j < row.length := by rw [← hlen]; exact hj
          rw [List.getElem?_eq_getElem this] at hq
          cases hq
          simp
        unfold pick; rw [this]
      have F₄ := F₃.stay S₄
      exact k h₅ _ tc (F₄.off pG O₅ (ns_ne_list F'.ns a4)) a1 a2 (by rw [hpk]; exact hp₅) (off2_off (off2_stay (off2_offL a5 O₃) S₄) O₅)
    refine r_if ?_
    (((with_reducible refine wpAny_isTrue_Compare1 ?_ ?mk); (case mk => with_unfolding_all rfl)))
    (((with_reducible show wpAny _ _ (eval (Expr.Name _ _) _) _ _ _); refine nmL (by assumption) (by first | rfl | assumption) ?_))
    (((with_reducible refine r_int ?_)))
    (with_reducible refine PyProof.Rows.eq_int ?_)
    (with_reducible refine wpAny_truthy_bool ?_)
    refine r_split (fun hc => ?_) (fun hc => ?_)
    · have hi0 : i = 0 := by simp at hc; (first | lia | omega)
      refine r_if ?_
      (((with_reducible refine wpAny_isTrue_Compare1 ?_ ?mk); (case mk => with_unfolding_all rfl)))
      (with_reducible refine r_call ?_)
      refine nmG (B.stay F₃.keep) hS ?_
      refine r_cwD (X.stay F₃.keep) (r_sp1 ?_)
      (((with_reducible show wpAny _ _ (eval (Expr.Name _ _) _) _ _ _); refine nmL (by assumption) (by first | rfl | assumption) ?_))
      refine r_sp0 ⟨Stay.refl _, ?_⟩
      refine (c_ifmt (R.less (by decide)) (B.stay F₃.keep) (X.stay F₃.keep)) _ _ _ fun v h₄ tk₄ S₄ hv => ?_
      obtain ⟨t₄, rfl⟩ := hv
      have F₄ := F₃.stay S₄
      (((with_reducible show wpAny _ _ (eval (Expr.Name _ _) _) _ _ _); refine nmL (by assumption) (by first | rfl | assumption) ?_))
      (with_reducible refine PyProof.Rows.eq_int ?_)
      (with_reducible refine wpAny_truthy_bool ?_)
      refine r_split (fun hc => ?_) (fun hc => ?_)
      · have hp₄ : h₄.PlainList p cs := hp₃.at fun o e => S₄ _ o e
        refine r_expr (r_appendM ?_)
        (((with_reducible show wpAny _ _ (eval (Expr.Name _ _) _) _ _ _); refine nmL (by assumption) (by first | rfl | assumption) ?_))
        refine ⟨p, cs, rfl, hp₄, ?_⟩
        (((with_reducible show wpAny _ _ (eval (Expr.Name _ _) _) _ _ _); refine nmL (by assumption) (by first | rfl | assumption) ?_))
        refine r_append hp₄ (by (first | lia | omega)) fun h₅ hp₅ O₅ => ⟨rfl, ?_⟩
        repeat' (first | with_reducible refine r_brk ?_ | with_reducible refine then_brk ?_)
        exact ⟨_, _, rfl, hN h₄ (by unfold hits; rw [if_pos hi0]; exact hc) S₄ h₅ O₅ hp₅⟩
      · repeat' (first | with_reducible refine r_nil ?_ | with_reducible refine then_next ?_)
        refine ⟨_, _, rfl, (hI₃ h₄ S₄).resolve_right fun hh => ?_⟩
        unfold hits at hh; rw [if_pos hi0] at hh; exact hc hh
    · have hi0 : ¬ i = 0 := by simp at hc; (first | lia | omega)
      refine r_if ?_
      repeat' (first | with_reducible refine r_nil ?_ | with_reducible refine then_next ?_ | with_reducible refine wpAny_BinOp ?_ | ((with_reducible refine wpAny_isTrue_Compare1 ?_ ?mk); (case mk => with_unfolding_all rfl)) | ((with_reducible show wpAny _ _ (eval (Expr.Name _ _) _) _ _ _); refine nmL (by assumption) (by first | rfl | assumption) ?_) | ((with_reducible refine r_band ?_)) | with_reducible refine PyProof.Rows.eq_int ?_ | with_reducible refine wpAny_truthy_bool ?_ | ((with_reducible refine r_split ?_ ?_) <;> intro _))
      · refine r_expr (r_appendM ?_)
        (((with_reducible show wpAny _ _ (eval (Expr.Name _ _) _) _ _ _); refine nmL (by assumption) (by first | rfl | assumption) ?_))
        refine ⟨p, cs, rfl, hp₃, ?_⟩
        (((with_reducible show wpAny _ _ (eval (Expr.Name _ _) _) _ _ _); refine nmL (by assumption) (by first | rfl | assumption) ?_))
        refine r_append hp₃ (by (first | lia | omega)) fun h₅ hp₅ O₅ => ⟨rfl, ?_⟩
        repeat' (first | with_reducible refine r_brk ?_ | with_reducible refine then_brk ?_)
        exact ⟨_, _, rfl, hN h₃ (by unfold hits; rw [if_neg hi0]; assumption) (Stay.refl _) h₅ O₅ hp₅⟩
      · refine ⟨_, _, rfl, (hI₃ h₃ (Stay.refl _)).resolve_right fun hh => ?_⟩
        unfold hits at hh; rw [if_neg hi0] at hh; contradiction
end
end Mine
end
section
open PySem PySem.W PySem.Calls PyProof.Rows
set_option Elab.async false
set_option maxRecDepth 100000
namespace Mine

theorem strsAre_push {a : List Value} {b : List Str} (x : StrsAre a b) (y : Str) (t : Tok) : StrsAre (a ++ [.str y t]) (b ++ [y]) := by
  induction x with
  | nil => exact .cons y t .nil
  | cons z u _ ih => exact .cons z u ih
noncomputable def picks (mode : Int) (T : List (List (Int × Str))) : List Str := T.mapIdx fun i r => pick i mode r
theorem picks_take {mode : Int} {T : List (List (Int × Str))} {j : Nat} {row : List (Int × Str)} (e : T[j]? = some row) : picks mode (T.take (j + 1)) = picks mode (T.take j) ++ [pick j mode row] := by
  have hj : j < T.length := by
    rcases Nat.lt_or_ge j T.length with h | h
    · exact h
    · rw [List.getElem?_eq_none h] at e; cases e
  unfold picks
  rw [List.take_add_one, e, Option.toList_some, List.mapIdx_concat, List.length_take, Nat.min_eq_left (Nat.le_of_lt hj)]

section
variable {prog : Program} {w : World} {A : Around} {s : Shared} {h : Heap} {mg mb : Str → Option Value}

theorem picks_len (mode : Int) (T : List (List (Int × Str))) : (picks mode T).length = T.length := by simp [picks]

set_option maxHeartbeats 4000000 in
theorem c_filemode {mode : Int} {t : Tok} {T : List (List (Int × Str))} (R : Rm 3 A) (B : Bas mg mb h) (X : FnAt h 111 110 32 .none) (XS : FnAt h 71 70 11 .none) (hS : mg "S_IFMT" = some (.ref 71))
    (hT : mg "_filemode_table" = some (.ref 104)) (hmE : mg "enumerate" = none) (hTab : TabAt h 104 T) (hTn : T.length ≤ 10) (hok : ∀ y ∈ picks mode T, y.length ≤ 10) :
    Gives prog w A (call (.ref 111) [.int mode t]) s h (fun v _ => ∃ t, v = .str (PySem.Builtin.Str.glued "" (picks mode T)) t) := by
  refine gives_def (binds := [("mode", .int mode t)]) (R.less (by decide)) B X (fun pm tk => BindsTo.of_eq rfl) (by decide +kernel) (by rfl) fun pm L h₀ tk htk F => ?_
  have R' : Rm 2 (A.deeper (callEnv (fnD 32 110 pm .none) L 111)) := R.deeper
  generalize hA' : A.deeper (callEnv (fnD 32 110 pm .none) L 111) = A' at *
  refine r_assign (r_list (r_sp0 (r_newList (by simp) fun p h₁ hp₁ hpl S₁ => ?_)))
  have F₁ := F.stay S₁
  have pG : h.get? p = none := by
    cases e : h.get? p with
    | none => rfl
    | some o => have := F.keep _ _ e; rw [hp₁] at this; cases this
  have hpL := ns_ne_list F₁.ns hpl
  refine stL F₁ fun h₂ tk₂ F₂ O₂ => ?_
  have hpl₂ : h₂.PlainList p #[] := hpl.at fun o e => O₂ _ o hpL e
  refine r_for ?_
  (with_reducible refine r_call ?_)
  refine nmB (B.stay F₂.keep) hmE rfl ?_
  refine r_cwT (r_sp1 (nmG (B.stay F₂.keep) hT (r_sp0 ?_)))
  (first | (refine Mine.e1_2 (hTab) ?_; rintro vs htup hpr) | (obtain ⟨vs, htup, hpr⟩ := hTab))
  have hlen : vs.toArray.size = T.length := by have := paired_len hpr; simpa using this
  refine call_enumerate_tuple (s := st s h₂ tk₂) (isTup_stay htup F₂.keep) fun h₃ hen hit hsz S₃ => ?_
  refine wpAny_pyIter_enum (s := st s h₃ tk₂) hen ?_
  generalize hI : (st s h₂ tk₂).heap.objs.size = I at *
  have hI₂ : h₂.get? I = none := Heap.get?_none_of_le (Nat.le_of_eq hI)
  have hJ₂ : h₂.get? (I + 1) = none := Heap.get?_none_of_le (by have : h₂.objs.size = I := hI; (first | lia | omega))
  have F₃ := F₂.stay S₃
  have hLI : L ≠ I := fun q => by obtain ⟨o, es, ep, e, _⟩ := F₂.ns; rw [q, hI₂] at e; cases e
  have hLJ : L ≠ I + 1 := fun q => by obtain ⟨o, es, ep, e, _⟩ := F₂.ns; rw [q, hJ₂] at e; cases e
  have hpI : p ≠ I := fun q => by obtain ⟨n, e⟩ := hpl₂; rw [q, hI₂] at e; cases e
  have hpJ : p ≠ I + 1 := fun q => by obtain ⟨n, e⟩ := hpl₂; rw [q, hJ₂] at e; cases e
  have hGI : ∀ b, h₂.get? b = none → h.get? b = none := fun b hb => by
    cases e : h.get? b with
    | none => rfl
    | some o => have := F₂.keep _ _ e; rw [hb] at this; cases this
  have h71 : ∃ o, h.get? 104 = some o := let ⟨o, e, _⟩ := htup; ⟨o, e⟩
  have n71 : ∀ b, h.get? b = none → (104 : Addr) ≠ b := fun b hb q => by obtain ⟨o, e⟩ := h71; rw [q, hb] at e; cases e
  refine ⟨fun h' => ∃ m' cs, Fm h L m' h' ∧ m' "perm" = some (.ref p) ∧ h'.PlainList p cs ∧ StrsAre cs.toList (picks mode T), fun _ _ => False, ?_, ?_, fun _ _ _ f => f.elim⟩
  · refine r_loop (KTurns.ofWalksU (WalksT.enumerateD (drawsTuple (A := A'.in1) R'.hd I 104 (n71 _ (hGI _ hI₂)) vs.toArray) (I + 1) (by simp) (by simp; exact fun q => n71 _ (hGI _ hJ₂) (congrArg Nat.succ q).symm) (by simp)).toU)
      (fun j h' => ∃ m' cs, Fm h L m' h' ∧ m' "mode" = some (.int mode t) ∧ m' "perm" = some (.ref p) ∧ h'.PlainList p cs ∧ cs.size ≤ j ∧ StrsAre cs.toList (picks mode (T.take j)))
      _ _ ?hJ ?turn ?fin ⟨⟨_, hen⟩, hit, isTup_stay htup F₃.keep⟩ ⟨_, #[], F₃, rfl, rfl, hpl₂.at fun o e => S₃ _ o e, by simp, .nil⟩
    case hJ =>
      (rintro j h₄ h₅ hcj; (first | (refine Mine.e2_6 hcj ?_; clear hcj; rintro m' cs F' a1 a2 a3 a4 a5 hk) | (obtain ⟨m', cs, F', a1, a2, a3, a4, a5⟩ := hcj; rintro hk)))
      refine ⟨m', cs, ⟨F'.ns.at' fun o e => hk _ o (by simp; exact ⟨hLJ, hLI⟩) e, fun b o e => hk b o (fun q => ?_) (F'.keep b o e), F'.fresh⟩, a1, a2, a3.at fun o e => hk _ o (by simp; exact ⟨hpJ, hpI⟩) e, a4, a5⟩
      simp at q
      rcases q with q | q
      · rw [q, hGI _ hJ₂] at e; cases e
      · rw [q, hGI _ hI₂] at e; cases e
    case fin =>
      (rintro h₄ tk₄ hcj; (first | (refine Mine.e2_6 hcj ?_; clear hcj; rintro m' cs F' a1 a2 a3 a4 a5) | (obtain ⟨m', cs, F', a1, a2, a3, a4, a5⟩ := hcj)))
      refine r_nil ⟨_, _, rfl, m', cs, F', a2, a3, ?_⟩
      rwa [hlen, List.take_length] at a5
    case turn =>
      (rintro j v h₄ tk₄ hj hcj; (first | (refine Mine.e2_3 hcj ?_; clear hcj; rintro TT vals rfl ⟨u, x, hx, rfl⟩ hTT hst ⟨m', cs, F', a1, a2, a3, a4, a5⟩) | (obtain ⟨TT, vals, rfl, ⟨u, x, hx, rfl⟩, hTT⟩ := hcj; rintro hst ⟨m', cs, F', a1, a2, a3, a4, a5⟩)))
      obtain ⟨row, hrow, hra⟩ := paired_get hpr (show vs[j]? = some x by simpa using hx)
      (first | (refine Mine.e2_3 (id hra) ?_; rintro ta rv rfl hra1 hra2) | (obtain ⟨ta, rv, rfl, hra1, hra2⟩ := id hra))
      refine r_unpack2 R'.hd F' hTT fun h₅ tk₅ F₅ O₅ => ?_
      have hpl₅ : h₅.PlainList p cs := a3.at fun o e => O₅ _ o hpL e
      refine wpAny_mono (fm_inner (N := fun h' => ∃ m' u, Fm h L m' h' ∧ m' "mode" = some (.int mode t) ∧ m' "perm" = some (.ref p) ∧ h'.PlainList p (cs.push (.str (pick j mode row) u)) ∧ Off2 L p h₅ h') (R'.less (by decide)) B XS hS F₅ a1 a2 rfl rfl hra hpl₅ pG (by (first | lia | omega)) (fun h' m' u c1 c2 c3 c4 c5 => ⟨m', u, c1, c2, c3, c4, c5⟩)) (fun f s' q => ?_) fun _ _ e => e.elim
      (obtain ⟨rfl, h₆, tk₆, rfl, m₆, u₆, c1, c2, c3, c4, c5⟩ := q)
      refine ⟨h₆, tk₆, rfl, fun b hb o e => ?_, m₆, _, c1, c2, c3, c4, by simp; (first | lia | omega), ?_⟩
      · have nL : b ≠ L := by
          rintro rfl
          simp at hb
          rcases hb with q | q | q
          · exact hLJ q
          · exact hLI q
          · exact n71 _ F.fresh q.symm
        have np : b ≠ p := by
          rintro rfl
          simp at hb
          rcases hb with q | q | q
          · exact hpJ q
          · exact hpI q
          · exact n71 _ pG q.symm
        exact c5 b o nL np (O₅ b o nL e)
      · rw [picks_take hrow, Array.toList_push]
        exact strsAre_push a5 _ _
  · (rintro h₆ tk₆ hcj; (first | (refine Mine.e2_4 hcj ?_; clear hcj; rintro m' cs F' a2 a3 a5) | (obtain ⟨m', cs, F', a2, a3, a5⟩ := hcj)))
    refine r_ret (r_meth PySem.F.plainAttrs_str PySem.F.slot_str_join PySem.F.type_str_join (r_str ⟨typeIs_str _ _ _, fun a e => (by cases e), r_cwB (r_sp1 (nmL F' a2 (r_sp0 ?_)))⟩))
    have hsum : ∀ l : List Str, (∀ y ∈ l, y.length ≤ 10) → (l.map (·.length)).sum ≤ l.length * 10 := by
      intro l
      induction l with
      | nil => simp
      | cons a l ih => intro hl; have := ih fun y hy => hl y (by simp [hy]); have := hl a (by simp); simp; (first | lia | omega)
    refine join_list (s := st s h₆ (tk₆ + 1)) a3.isList a5 ?_ fun t' k' => ?_
    · have := hsum _ hok; rw [picks_len] at *; rw [show (Str.ofString "").length = 0 from rfl]; (first | lia | omega)
    · exact ⟨h₆, k', rfl, F'.keep, t', rfl⟩
end
end Mine
end
section
open PySem PySem.Sre
set_option Elab.async false
set_option maxRecDepth 100000
namespace Mine

inductive Ends (P : Sre.M → Prop) : Nat → Sre.M → Prop
  | done {k : Nat} {m : Sre.M} : m.outcome.isSome = true → P m → Ends P k m
  | step {k : Nat} {m : Sre.M} : Ends P k m.step → Ends P (k + 1) m

theorem step_done {m : Sre.M} (h : m.outcome.isSome = true) : m.step = m := by unfold Sre.M.step; rw [if_pos h]
theorem Ends.more {P : Sre.M → Prop} {k j : Nat} {m : Sre.M} (e : Ends P k m) (h : k ≤ j) : Ends P j m := by
  induction e generalizing j with
  | done a b => exact .done a b
  | step _ ih =>
    obtain ⟨j, rfl⟩ : ∃ i, j = i + 1 := ⟨j - 1, by (first | lia | omega)⟩
    exact .step (ih (by (first | lia | omega)))
theorem Ends.fin {P : Sre.M → Prop} {k : Nat} {m : Sre.M} (e : Ends P k m) (h : m.outcome.isSome = true) : P m := by
  induction e with
  | done _ b => exact b
  | step _ ih => rw [step_done h] at ih; exact ih h
theorem Ends.run {P : Sre.M → Prop} {k : Nat} {m : Sre.M} (e : Ends P k m) (n : Nat) : Ends P (k - n) (Sre.M.runFor n m) := by
  induction n generalizing k m with
  | zero => exact e
  | succ n ih =>
    show Ends P _ (if m.outcome.isSome then m else Sre.M.runFor n m.step)
    cases h : m.outcome.isSome with
    | true => exact .done h (e.fin h)
    | false =>
      cases e with
      | done a _ => rw [a] at h; cases h
      | step e => have := ih e; rw [show _ + 1 - (n + 1) = _ - n from Nat.add_sub_add_right ..]; exact this

section
variable {prog : Program} {w : World} {A : Around} {E : Value → Shared → Prop} {s : Shared}
theorem wp_drive {P : Sre.M → Prop} {Q : Sre.M → Shared → Prop} : ∀ (turns : Nat) {k : Nat} {m : Sre.M}, Ends P k m → k < 4 * turns → (∀ m', m'.outcome.isSome = true → P m' → Q m' s) →
    wpAny (model prog w) A (Builtin.Re.reDrive turns m) Q E s
  | 0, _, _, _, h, _ => by (first | lia | omega)
  | turns + 1, k, m, e, h, q => by
    unfold Builtin.Re.reDrive
    have e' := e.run Builtin.Re.reTurnSteps
    show wpAny _ _ (if ((m.runFor Builtin.Re.reTurnSteps).outcome.isSome) = true then pure (m.runFor Builtin.Re.reTurnSteps) else do rule "sre.turn"; Builtin.Re.reDrive turns (m.runFor Builtin.Re.reTurnSteps)) _ _ _
    by_cases hd : (m.runFor Builtin.Re.reTurnSteps).outcome.isSome = true
    · rw [if_pos hd]; exact wpAny_pure (q _ hd (e'.fin hd))
    · rw [if_neg hd]
      refine wpAny_bind (wpAny_rule ?_)
      refine wp_drive turns e' ?_ q
      rcases Nat.eq_zero_or_pos (k - Builtin.Re.reTurnSteps) with h0 | h0
      · rw [h0] at e'
        cases e' with
        | done a _ => exact absurd a hd
      · have : Builtin.Re.reTurnSteps = 4 := rfl
        (first | lia | omega)

theorem wp_seen {α : Type} (f : α → Bool) (g : α → String) {Q : PUnit → Shared → Prop} (q : Q () s) : ∀ l : List α,
    wpAny (model prog w) A (forIn l PUnit.unit (fun i _ => (if f i = true then (do rule (g i); pure (ForInStep.yield PUnit.unit)) else pure (ForInStep.yield PUnit.unit) : Sem (ForInStep PUnit)))) Q E s
  | [] => by rw [List.forIn_nil]; exact wpAny_pure q
  | a :: l => by
    rw [List.forIn_cons]
    refine wpAny_bind ?_
    by_cases h : f a = true
    · rw [if_pos h]; exact wpAny_bind (wpAny_rule (wpAny_pure (wp_seen f g q l)))
    · rw [if_neg h]; exact wpAny_pure (wp_seen f g q l)

noncomputable def Found (P : Option (Nat × Nat)) (m : Sre.M) : Prop := match m.outcome with
  | some .matched => P = some (m.start, m.handed)
  | some .failed => P = none
  | _ => False

theorem wp_runToEnd {o : Option (Nat × Nat)} {k : Nat} {m : Sre.M} {Q : Option Sre.M → Shared → Prop} (e : Ends (Found o) k m) (hk : k < 1000000000)
    (hn : o = none → Q none s) (hs : ∀ m', o = some (m'.start, m'.handed) → Q (some m') s) : wpAny (model prog w) A (Builtin.Re.reRunToEnd m) Q E s := by
  unfold Builtin.Re.reRunToEnd
  refine wpAny_bind (wp_drive (2 ^ 64) e (by (first | lia | omega)) fun m' hd hp => ?_)
  refine wpAny_bind ?_
  refine wpAny_mono (wp_seen (fun i => m'.seen.has i) (fun i => Sre.names.getD i "") (Q := fun _ s' => s' = s) rfl _) (fun _ s' q => ?_) fun _ _ e => e
  subst q
  unfold Found at hp
  cases ho : m'.outcome with
  | none => rw [ho] at hd; cases hd
  | some oc =>
    rw [ho] at hp
    cases oc with
    | matched => exact wpAny_pure (hs m' hp)
    | failed => exact wpAny_pure (hn hp)
    | stuck _ => exact hp.elim
end
end Mine
end
section
open PySem PySem.Sre
set_option Elab.async false
set_option maxRecDepth 100000
namespace Mine

noncomputable def codeDot : Array Nat := #[14, 4, 0, 1, 1, 6, 1, 16, 46, 1]
noncomputable def codeEnd : Array Nat := #[14, 9, 4, 1, 2, 16, 10, 16, 13, 0, 7, 7, 16, 13, 16, 10, 15, 18, 5, 16, 10, 15, 13, 11, 16, 13, 5, 5, 0, 16, 10, 1, 15, 2, 0, 1]

noncomputable def findFrom (p : Nat → Option Nat) : Nat → Nat → Option (Nat × Nat)
  | 0, _ => none
  | f + 1, s => match p s with
    | some e => some (s, e)
    | none => findFrom p f (s + 1)

noncomputable def dotAt (x : Array Nat) (s : Nat) : Option Nat := if (s = 0 ∨ x[s - 1]?.getD 0 = 10) ∧ s < x.size ∧ x[s]?.getD 0 = 46 then some (s + 1) else none

theorem ends_no {P : Sre.M → Prop} {m : Sre.M} (ho : m.outcome = none) (ha : m.answer = some false) (hf : m.frames = []) (h : ∀ m', m'.outcome = some .failed → P m') : Ends P 1 m := by
  refine .step (.done ?_ ?_)
  · unfold Sre.M.step; rw [ho, ha, hf]; rfl
  · refine h _ ?_; unfold Sre.M.step; rw [ho, ha, hf]; rfl
theorem found_none {m : Sre.M} (h : m.outcome = some .failed) : Found none m := by unfold Found; rw [h]

theorem Ends.to {P : Sre.M → Prop} {k : Nat} {m m' : Sre.M} (h : m.step = m') (e : Ends P k m') : Ends P (k + 1) m := .step (h ▸ e)
noncomputable def dF (s : Nat) (o : Bool) : Sre.Frame := { wait := .nextStart, pc := 5, pos := s, outermost := o }
noncomputable def U (x : Array Nat) (s pc pos hd : Nat) (o : Bool) (fr : List Sre.Frame) (w : Nat) (ans : Option Bool) (sn : Sre.Seen) : Sre.M :=
  { code := codeDot, text := x, lim := x.size, start := s, lastStart := x.size, pc := pc, pos := pos, handed := hd, outermost := o, marks := #[], frames := fr, weight := w, answer := ans, seen := sn }
section
variable (x : Array Nat) (s pos hd : Nat) (o : Bool) (fr : List Sre.Frame) (w : Nat) (sn : Sre.Seen)
theorem u5 : (U x s 5 pos hd o fr w none sn).step = match (pos == 0 || x.getD (pos - 1) 0 == 10) with
    | true => U x s 7 pos hd o fr w none ((sn.add 6).add 44)
    | false => U x s 5 pos hd o fr w (some false) ((sn.add 6).add 44) := by
  cases h : (pos == 0 || x.getD (pos - 1) 0 == 10) with
  | true =>
    have e : (U x s 5 pos hd o fr w none sn).step = if (pos == 0 || x.getD (pos - 1) 0 == 10) = true then U x s 7 pos hd o fr w none ((sn.add 6).add 44) else U x s 5 pos hd o fr w (some false) ((sn.add 6).add 44) := by kernel_rfl
    rw [e, if_pos h]
  | false =>
    have e : (U x s 5 pos hd o fr w none sn).step = if (pos == 0 || x.getD (pos - 1) 0 == 10) = true then U x s 7 pos hd o fr w none ((sn.add 6).add 44) else U x s 5 pos hd o fr w (some false) ((sn.add 6).add 44) := by kernel_rfl
    rw [e, if_neg (by rw [h]; decide)]
theorem u7 : (U x s 7 pos hd o fr w none sn).step = if pos ≥ x.size then U x s 7 pos hd o fr w (some false) (sn.add 16) else (match (x.getD pos 0 == 46) with
    | false => U x s 7 pos hd o fr w (some false) (sn.add 16)
    | true => U x s 9 (pos + 1) hd o fr w none (sn.add 16)) := by kernel_rfl
theorem u9 : (U x s 9 pos hd o fr w none sn).step = U x s 9 pos pos o fr w (some true) (sn.add 1) := by
  cases o <;> kernel_rfl
theorem u_yes (pc : Nat) (f : Bool) : (U x s pc pos hd o [dF s f] 1 (some true) sn).step = U x s 5 s hd f [] 0 (some true) sn := by kernel_rfl
theorem u_end (pc : Nat) : (U x s pc pos hd o [] 0 (some true) sn).step = { U x s pc pos hd o [] 0 (some true) sn with outcome := some .matched } := by kernel_rfl
theorem u_no (pc : Nat) (f : Bool) : (U x s pc pos hd o [dF s f] 1 (some false) sn).step = if s < x.size then U x (s + 1) 5 (s + 1) (s + 1) false [dF (s + 1) false] 1 none sn else U x s 5 s hd f [] 0 (some false) sn := by kernel_rfl
end
theorem getD_at (x : Array Nat) (i : Nat) : x.getD i 0 = x[i]?.getD 0 := by simp
theorem dots_from (x : Array Nat) : ∀ (f s hd : Nat) (first : Bool) (sn : Sre.Seen), f = x.size + 1 - s → s ≤ x.size → Ends (Found (findFrom (dotAt x) f s)) (6 * f + 6) (U x s 5 s hd first [dF s first] 1 none sn) := by
  intro f
  induction f with
  | zero => intro s hd first sn h1 h2; (first | lia | omega)
  | succ f ih =>
    intro s hd first sn h1 h2
    have fail : dotAt x s = none → ∀ pc pos hd o sn, Ends (Found (findFrom (dotAt x) (f + 1) s)) (6 * f + 6 + 1) (U x s pc pos hd o [dF s first] 1 (some false) sn) := by
      intro hn pc pos hd o sn
      have e : findFrom (dotAt x) (f + 1) s = findFrom (dotAt x) f (s + 1) := by simp only [findFrom, hn]
      rw [e]
      refine .to (u_no x s pos hd o sn pc first) ?_
      by_cases hs : s < x.size
      · rw [if_pos hs]
        exact ih (s + 1) _ false sn (by (first | lia | omega)) (by (first | lia | omega))
      · rw [if_neg hs]
        have : f = 0 := by (first | lia | omega)
        subst this
        exact (ends_no rfl rfl rfl fun m' h => found_none h).more (by (first | lia | omega))
    rw [show 6 * (f + 1) + 6 = 6 * f + 6 + 5 + 1 by (first | lia | omega)]
    refine .to (u5 x s s hd first [dF s first] 1 sn) ?_
    cases hb : (s == 0 || x.getD (s - 1) 0 == 10) with
    | false =>
      have hb' : ¬ (s = 0 ∨ x[s - 1]?.getD 0 = 10) := fun q => by
        rw [← getD_at] at q
        rcases q with q | q
        · rw [q] at hb; cases hb
        · rw [q] at hb; simp at hb
      exact (fail (by unfold dotAt; rw [if_neg (fun q => hb' q.1)]) _ _ _ _ _).more (by (first | lia | omega))
    | true =>
      have hb' : s = 0 ∨ x[s - 1]?.getD 0 = 10 := by
        rw [← getD_at]
        simpa using hb
      refine .to (u7 x s s hd first [dF s first] 1 _) ?_
      by_cases hs : s < x.size
      · rw [if_neg (by (first | lia | omega))]
        cases hx : (x.getD s 0 == 46) with
        | true =>
          have hx' : x[s]?.getD 0 = 46 := by rw [← getD_at]; simpa using hx
          have e : findFrom (dotAt x) (f + 1) s = some (s, s + 1) := by simp only [findFrom]; unfold dotAt; rw [if_pos ⟨hb', hs, hx'⟩]
          rw [e]
          refine Ends.more (k := 4) ?_ (by (first | lia | omega))
          refine .to (u9 ..) (.to (u_yes ..) (.to (u_end ..) (.done rfl rfl)))
        | false =>
          have hx' : ¬ x[s]?.getD 0 = 46 := fun q => by rw [← getD_at] at q; rw [q] at hx; cases hx
          exact (fail (by unfold dotAt; rw [if_neg (fun q => hx' q.2.2)]) _ _ _ _ _).more (by (first | lia | omega))
      · rw [if_pos (by (first | lia | omega))]
        exact (fail (by unfold dotAt; rw [if_neg (fun q => hs q.2.1)]) _ _ _ _ _).more (by (first | lia | omega))

theorem search_dot (x : Array Nat) (s : Nat) : Sre.forSearch codeDot x 0 s x.size false = if s > x.size ∨ x.size - s < 1 then (Sre.M.say { code := codeDot, text := x, lim := x.size, start := s, pc := 5, pos := s, handed := s, marks := #[], seen := ({} : Sre.Seen).add 14 } false) else U x s 5 s s true [dF s true] 1 none (({} : Sre.Seen).add 14) := by
  by_cases h : s > x.size ∨ x.size - s < 1
  · rw [if_pos h]
    unfold Sre.forSearch
    rw [if_pos (by have e : (Sre.header codeDot).1 = 1 := rfl
                   simp only [e]; simpa using h)]
    rfl
  · rw [if_neg h]
    unfold Sre.forSearch
    rw [if_neg (by have e : (Sre.header codeDot).1 = 1 := rfl
                   simp only [e]; simpa using h)]
    rfl
theorem dots_search (x : Array Nat) (s : Nat) : Ends (Found (findFrom (dotAt x) (x.size + 1 - s) s)) (6 * x.size + 20) (Sre.forSearch codeDot x 0 s x.size false) := by
  rw [search_dot]
  by_cases h : s < x.size
  · rw [if_neg (by (first | lia | omega))]
    exact (dots_from x (x.size + 1 - s) s s true _ rfl (by (first | lia | omega))).more (by (first | lia | omega))
  · rw [if_pos (by (first | lia | omega))]
    have e : findFrom (dotAt x) (x.size + 1 - s) s = none := by
      have hn : dotAt x s = none := by unfold dotAt; rw [if_neg (fun q => h q.2.1)]
      rcases Nat.lt_or_ge x.size s with h' | h'
      · rw [show x.size + 1 - s = 0 by (first | lia | omega)]; rfl
      · rw [show x.size + 1 - s = 0 + 1 by (first | lia | omega)]; simp only [findFrom, hn]
    rw [e]
    exact (ends_no rfl rfl rfl fun m' h => found_none h).more (by (first | lia | omega))
end Mine
end
section
open PySem PySem.Sre
set_option Elab.async false
set_option maxRecDepth 100000
set_option linter.unusedSimpArgs false
namespace Mine

noncomputable def endAt (x : Array Nat) (s : Nat) : Option Nat := if s < x.size then if x[s]?.getD 0 = 10 then some (s + 1) else if x[s]?.getD 0 = 13 then if s + 1 < x.size ∧ x[s + 1]?.getD 0 = 10 then some (s + 2) else some (s + 1) else none else none


noncomputable def eF (a : Nat) : Sre.Frame := { wait := .nextStart, pc := 10, pos := a, outermost := true }
noncomputable def bF (a alt : Nat) : Sre.Frame := { wait := .nextBranch, pc := alt, pos := a, outermost := true }
noncomputable def nF (p : Nat) : Sre.Frame := { wait := .lookNot, pc := 26, pos := p, outermost := true }
noncomputable def V (x : Array Nat) (a pc pos hd : Nat) (o : Bool) (fr : List Sre.Frame) (w : Nat) (ans : Option Bool) (sn : Sre.Seen) : Sre.M :=
  { code := codeEnd, text := x, lim := x.size, start := a, lastStart := x.size, pc := pc, pos := pos, handed := hd, outermost := o, marks := #[], frames := fr, weight := w, answer := ans, seen := sn }
section
variable (x : Array Nat) (a pos hd : Nat) (o : Bool) (fr : List Sre.Frame) (w : Nat) (sn : Sre.Seen)
theorem v10 : (V x a 10 a hd true [eF a] 1 none sn).step = V x a 12 a a true [bF a 11, eF a] 2 none (sn.add 7) := by kernel_rfl
theorem v12 : (V x a 12 pos hd o fr w none sn).step = if pos ≥ x.size then V x a 12 pos hd o fr w (some false) (sn.add 16) else (match (x.getD pos 0 == 13) with
    | false => V x a 12 pos hd o fr w (some false) (sn.add 16) | true => V x a 14 (pos + 1) hd o fr w none (sn.add 16)) := by kernel_rfl
theorem v14 : (V x a 14 pos hd o fr w none sn).step = if pos ≥ x.size then V x a 14 pos hd o fr w (some false) (sn.add 16) else (match (x.getD pos 0 == 10) with
    | false => V x a 14 pos hd o fr w (some false) (sn.add 16) | true => V x a 16 (pos + 1) hd o fr w none (sn.add 16)) := by kernel_rfl
theorem v19 : (V x a 19 pos hd o fr w none sn).step = if pos ≥ x.size then V x a 19 pos hd o fr w (some false) (sn.add 16) else (match (x.getD pos 0 == 10) with
    | false => V x a 19 pos hd o fr w (some false) (sn.add 16) | true => V x a 21 (pos + 1) hd o fr w none (sn.add 16)) := by kernel_rfl
theorem v24 : (V x a 24 pos hd o fr w none sn).step = if pos ≥ x.size then V x a 24 pos hd o fr w (some false) (sn.add 16) else (match (x.getD pos 0 == 13) with
    | false => V x a 24 pos hd o fr w (some false) (sn.add 16) | true => V x a 26 (pos + 1) hd o fr w none (sn.add 16)) := by kernel_rfl
theorem v29 : (V x a 29 pos hd o fr w none sn).step = if pos ≥ x.size then V x a 29 pos hd o fr w (some false) (sn.add 16) else (match (x.getD pos 0 == 10) with
    | false => V x a 29 pos hd o fr w (some false) (sn.add 16) | true => V x a 31 (pos + 1) hd o fr w none (sn.add 16)) := by kernel_rfl
theorem v16 : (V x a 16 pos hd o fr w none sn).step = V x a 35 pos hd o fr w none (sn.add 15) := by kernel_rfl
theorem v21 : (V x a 21 pos hd o fr w none sn).step = V x a 35 pos hd o fr w none (sn.add 15) := by kernel_rfl
theorem v32 : (V x a 32 pos hd o fr w none sn).step = V x a 35 pos hd o fr w none (sn.add 15) := by kernel_rfl
theorem v35 : (V x a 35 pos hd o fr w none sn).step = V x a 35 pos pos o fr w (some true) (sn.add 1) := by cases o <;> kernel_rfl
theorem v26 : (V x a 26 (pos + 1) hd true [bF a 23, eF a] 2 none sn).step = V x a 29 (pos + 1) (pos + 1) false [nF (pos + 1), bF a 23, eF a] 3 none (sn.add 5) := by kernel_rfl
theorem v_look (pc p : Nat) : (V x a pc p hd o [nF pos, bF a 23, eF a] 3 (some false) sn).step = V x a 32 pos hd true [bF a 23, eF a] 2 none sn := by kernel_rfl
theorem v_alt1 (pc : Nat) : (V x a pc pos hd o [bF a 11, eF a] 2 (some false) sn).step = V x a 19 a a true [bF a 18, eF a] 2 none sn := by kernel_rfl
theorem v_alt2 (pc : Nat) : (V x a pc pos hd o [bF a 18, eF a] 2 (some false) sn).step = V x a 24 a a true [bF a 23, eF a] 2 none sn := by kernel_rfl
theorem v_yes1 (pc alt : Nat) : (V x a pc pos hd o [bF a alt, eF a] 2 (some true) sn).step = V x a alt a hd true [eF a] 1 (some true) sn := by kernel_rfl
theorem v_yes2 (pc : Nat) : (V x a pc pos hd o [eF a] 1 (some true) sn).step = V x a 10 a hd true [] 0 (some true) sn := by kernel_rfl
theorem v_end (pc : Nat) : (V x a pc pos hd o [] 0 (some true) sn).step = { V x a pc pos hd o [] 0 (some true) sn with outcome := some .matched } := by kernel_rfl
theorem v_fin (alt : Nat) : Ends (Found (some (a, pos))) 4 (V x a 35 pos hd o [bF a alt, eF a] 2 none sn) :=
  .to (v35 ..) (.to (v_yes1 ..) (.to (v_yes2 ..) (.to (v_end ..) (.done rfl rfl))))
end
theorem ne13 {c : Nat} (h : c = 10) : (c == 13) = false := by subst h; rfl
theorem ne10 {c : Nat} (h : c = 13) : (c == 10) = false := by subst h; rfl
theorem end_hit (x : Array Nat) (a e : Nat) (sn : Sre.Seen) (he : endAt x a = some e) : Ends (Found (some (a, e))) 40 (V x a 10 a a true [eF a] 1 none sn) := by
  unfold endAt at he
  by_cases hs : a < x.size
  · rw [if_pos hs, ← getD_at] at he
    have hs' : ¬ a ≥ x.size := by (first | lia | omega)
    refine Ends.more (k := 30) ?_ (by decide)
    refine .to (v10 ..) (.to (v12 ..) ?_)
    rw [if_neg hs']
    by_cases h10 : x.getD a 0 = 10
    · rw [if_pos h10] at he
      cases he
      rw [ne13 h10]
      refine .to (v_alt1 ..) (.to (v19 ..) ?_)
      rw [if_neg hs', h10]
      exact .to (v21 ..) ((v_fin ..).more (by decide))
    · rw [if_neg h10] at he
      by_cases h13 : x.getD a 0 = 13
      · rw [if_pos h13] at he
        rw [h13]
        show Ends _ _ (V x a 14 _ _ _ _ _ _ _)
        have alt3 : (a + 1 < x.size → x.getD (a + 1) 0 ≠ 10) → ∀ pc pos hd sn, Ends (Found (some (a, a + 1))) 20 (V x a pc pos hd true [bF a 11, eF a] 2 (some false) sn) := by
          intro hn pc pos hd sn
          refine .to (v_alt1 ..) (.to (v19 ..) ?_)
          rw [if_neg hs', ne10 h13]
          refine .to (v_alt2 ..) (.to (v24 ..) ?_)
          rw [if_neg hs', h13]
          refine .to (v26 ..) (.to (v29 ..) ?_)
          by_cases h1 : a + 1 < x.size
          · have hb : (x.getD (a + 1) 0 == 10) = false := by simpa using hn h1
            rw [if_neg (by (first | lia | omega)), hb]
            exact .to (v_look ..) (.to (v32 ..) ((v_fin ..).more (by decide)))
          · rw [if_pos (by (first | lia | omega))]
            exact .to (v_look ..) (.to (v32 ..) ((v_fin ..).more (by decide)))
        refine .to (v14 ..) ?_
        by_cases hn : a + 1 < x.size ∧ x[a + 1]?.getD 0 = 10
        · rw [if_pos hn] at he
          cases he
          rw [← getD_at] at hn
          rw [if_neg (by (first | lia | omega)), hn.2]
          exact .to (v16 ..) ((v_fin ..).more (by decide))
        · rw [if_neg hn] at he
          cases he
          rw [← getD_at] at hn
          have hn' : a + 1 < x.size → x.getD (a + 1) 0 ≠ 10 := fun q z => hn ⟨q, z⟩
          by_cases h1 : a + 1 < x.size
          · have hb : (x.getD (a + 1) 0 == 10) = false := by simpa using hn' h1
            rw [if_neg (by (first | lia | omega)), hb]
            exact (alt3 hn' ..).more (by decide)
          · rw [if_pos (by (first | lia | omega))]
            exact (alt3 hn' ..).more (by decide)
      · rw [if_neg h13] at he; cases he
  · rw [if_neg hs] at he; cases he

theorem inSet_end (c : Nat) (seen : Sre.Seen) : ∃ seen', Sre.inSet codeEnd c codeEnd.size 5 true seen = .ok (decide (c = 10 ∨ c = 13), seen') := by
  have e : Sre.inSet codeEnd c codeEnd.size 5 true seen = if (c == 10) = true then .ok (true, seen.add 16) else if (c == 13) = true then .ok (true, (seen.add 16).add 16) else .ok (false, ((seen.add 16).add 16).add 0) := by kernel_rfl
  rw [e]
  by_cases h : c = 10
  · subst h; exact ⟨_, rfl⟩
  · by_cases h' : c = 13
    · subst h'; exact ⟨_, rfl⟩
    · have e1 : (c == 10) = false := by simpa using h
      have e2 : (c == 13) = false := by simpa using h'
      rw [e1, e2, decide_eq_false (by intro q; rcases q with q | q; exact h q; exact h' q)]
      exact ⟨_, rfl⟩

theorem findFrom_isSome {p : Nat → Option Nat} : ∀ {f s a e : Nat}, findFrom p f s = some (a, e) → p a = some e ∧ s ≤ a ∧ a < s + f ∧ ∀ i, s ≤ i → i < a → p i = none
  | 0, _, _, _, h => by cases h
  | f + 1, s, a, e, h => by
    simp only [findFrom] at h
    cases hp : p s with
    | some e' => rw [hp] at h; simp at h; obtain ⟨rfl, rfl⟩ := h; exact ⟨hp, Nat.le_refl _, by (first | lia | omega), fun i h1 h2 => by (first | lia | omega)⟩
    | none =>
      rw [hp] at h
      (first | (refine Mine.e0_4 (findFrom_isSome h) ?_; rintro h1 h2 h3 h4) | (obtain ⟨h1, h2, h3, h4⟩ := findFrom_isSome h))
      exact ⟨h1, by (first | lia | omega), by (first | lia | omega), fun i hi1 hi2 => by
        rcases Nat.eq_or_lt_of_le hi1 with rfl | hi
        · exact hp
        · exact h4 i hi hi2⟩
theorem findFrom_isNone {p : Nat → Option Nat} : ∀ {f s : Nat}, findFrom p f s = none → ∀ i, s ≤ i → i < s + f → p i = none
  | 0, _, _, i, h1, h2 => by (first | lia | omega)
  | f + 1, s, h, i, h1, h2 => by
    simp only [findFrom] at h
    cases hp : p s with
    | some e' => rw [hp] at h; cases h
    | none =>
      rw [hp] at h
      rcases Nat.eq_or_lt_of_le h1 with rfl | hi
      · exact hp
      · exact findFrom_isNone h i hi (by (first | lia | omega))

theorem endAt_none {x : Array Nat} {s : Nat} : endAt x s = none ↔ ¬ (s < x.size ∧ (x.getD s 0 = 10 ∨ x.getD s 0 = 13)) := by
  unfold endAt
  by_cases h : s < x.size
  · simp [h]
    by_cases h1 : x[s] = 10
    · simp [h1]
    · by_cases h2 : x[s] = 13
      · simp [h2]; split <;> simp
      · simp [h1, h2]
  · simp [h]

theorem admitted_end {m : Sre.M} (hc : m.code = codeEnd) (hl : m.lim = m.text.size) : ∀ (f s : Nat) (seen : Sre.Seen), ∃ seen', Sre.M.admitted m f s seen = .ok ((findFrom (endAt m.text) f s).map (·.1), seen')
  | 0, s, seen => ⟨seen, rfl⟩
  | f + 1, s, seen => by
    unfold Sre.M.admitted
    rw [hl, hc]
    by_cases h : s ≥ m.text.size
    · rw [if_pos h]
      refine ⟨seen, ?_⟩
      have : findFrom (endAt m.text) (f + 1) s = none := by
        cases hf : findFrom (endAt m.text) (f + 1) s with
        | none => rfl
        | some p =>
          obtain ⟨a, e⟩ := p
          (first | (refine Mine.e0_4 (findFrom_isSome hf) ?_; rintro h1 h2 h3 h4) | (obtain ⟨h1, h2, h3, h4⟩ := findFrom_isSome hf))
          have : endAt m.text a = none := by rw [endAt_none]; intro q; (first | lia | omega)
          rw [this] at h1; cases h1
      rw [this]; rfl
    · rw [if_neg h]
      obtain ⟨seen1, e1⟩ := inSet_end (m.text.getD s 0) seen
      rw [e1]
      by_cases hh : m.text.getD s 0 = 10 ∨ m.text.getD s 0 = 13
      · rw [decide_eq_true hh]
        refine ⟨seen1, ?_⟩
        cases he : endAt m.text s with
        | none => rw [endAt_none] at he; exact absurd ⟨by (first | lia | omega), hh⟩ he
        | some e => simp only [findFrom, he]; rfl
      · rw [decide_eq_false hh]
        have he : endAt m.text s = none := by rw [endAt_none]; exact fun q => hh q.2
        obtain ⟨seen2, e2⟩ := admitted_end hc hl f (s + 1) seen1
        exact ⟨seen2, by simp only [findFrom, he]; exact e2⟩

noncomputable def M0 (x : Array Nat) (s : Nat) : Sre.M := { code := codeEnd, text := x, lim := x.size, start := s, lastStart := x.size, pc := 10, pos := s, handed := s, marks := #[], seen := ({} : Sre.Seen).add 14 }
theorem from_eq (x : Array Nat) (s : Nat) : (M0 x s).attemptFrom s true = match Sre.M.admitted (M0 x s) (x.size + 1 - s) s (({} : Sre.Seen).add 14) with
    | .ok (some a, seen) => V x a 10 a a true [eF a] 1 none seen
    | .ok (none, seen) => { M0 x s with seen := seen }.say false
    | .error why => (M0 x s).stick why := by kernel_rfl
theorem ends_search (x : Array Nat) (s : Nat) : Ends (Found (findFrom (endAt x) (x.size + 1 - s) s)) (6 * x.size + 50) (Sre.forSearch codeEnd x 0 s x.size false) := by
  by_cases h : s < x.size
  · unfold Sre.forSearch
    rw [if_neg]
    · show Ends _ _ ((M0 x s).attemptFrom s true)
      obtain ⟨seen', e⟩ := admitted_end (m := M0 x s) rfl rfl (x.size + 1 - s) s (({} : Sre.Seen).add 14)
      have e : Sre.M.admitted (M0 x s) (x.size + 1 - s) s (({} : Sre.Seen).add 14) = .ok ((findFrom (endAt x) (x.size + 1 - s) s).map (·.1), seen') := e
      rw [from_eq, e]
      cases hf : findFrom (endAt x) (x.size + 1 - s) s with
      | none => exact (ends_no rfl rfl rfl fun m' h => found_none h).more (by (first | lia | omega))
      | some p =>
        obtain ⟨a, e⟩ := p
        exact (end_hit x a e _ (findFrom_isSome hf).1).more (by (first | lia | omega))
    · have e : (Sre.header codeEnd).1 = 1 := rfl
      simp only [e]
      simp; (first | lia | omega)
  · have e : findFrom (endAt x) (x.size + 1 - s) s = none := by
      have hn : endAt x s = none := by rw [endAt_none]; exact fun q => h q.1
      rcases Nat.lt_or_ge x.size s with h' | h'
      · rw [show x.size + 1 - s = 0 by (first | lia | omega)]; rfl
      · rw [show x.size + 1 - s = 0 + 1 by (first | lia | omega)]; simp only [findFrom, hn]
    rw [e]
    refine (ends_no ?_ ?_ ?_ fun m' h => found_none h).more (by (first | lia | omega))
    all_goals
      unfold Sre.forSearch
      rw [if_pos (by have e : (Sre.header codeEnd).1 = 1 := rfl
                     simp only [e]; simp; (first | lia | omega))]
      rfl
end Mine
end
section
open PySem PySem.Sre PyProof.Rows
set_option Elab.async false
set_option maxRecDepth 100000
namespace Mine
open PySem.F

theorem plainAttrs_rePattern : PlainAttrs "re.Pattern" :=
  ⟨⟨"object.__getattribute__", by rw [typeLookup_type, builtinLookup_eq_fast]; kernel_rfl, by decide +kernel⟩, by rw [typeLookup_type, builtinLookup_eq_fast]; kernel_rfl⟩
theorem slot_reSub : Slot "re.Pattern" "sub" "re.Pattern.sub" :=
  .of (owner := "re.Pattern") (n := "sub") (by rw [typeLookup_type, builtinLookup_eq_fast]; kernel_rfl) (by decide +kernel) (by decide +kernel) (by decide +kernel)
    (by first | exact .inl (by decide +kernel) | exact .inr (by decide +kernel)) (by rw [isSubtype_type]; kernel_rfl)
theorem type_reSub : typeOf (.builtin "re.Pattern.sub") = pure (.type "method_descriptor") := by show builtinType _ = _; rw [builtinType_eq_fast]; kernel_rfl
theorem entry_reSub : entryFor table "re.Pattern.sub" = some Builtin.«re.Pattern.sub» := entryFor_of_tree (by kernel_rfl)
theorem entry_reLoop : entryFor table "re.Pattern.sub.loop" = some Builtin.«re.Pattern.sub.loop» := entryFor_of_tree (by kernel_rfl)
theorem args_reSub (a b c : Value) : argsOk "re.Pattern.sub" ⟨[a, b, c], []⟩ := by
  unfold argsOk; rw [signature?_of (id := "re.Pattern.sub") (n := ['b', 'u', 's']) (o := "re.Pattern".toList.reverse) (rows := Manifest.sig_re_Pattern) (by kernel_rfl) (by kernel_rfl)]; kernel_rfl
theorem plain_reLoop : plainId "re.Pattern.sub.loop" = true := by decide +kernel
theorem plain_reSub : plainId "re.Pattern.sub" = true := by decide +kernel
theorem nocall_str : typeLookup (.type "str") "__call__" = pure none := by rw [typeLookup_type, builtinLookup_eq_fast]; kernel_rfl

structure PatAt (h : Heap) (P : Addr) (code : Array Nat) : Prop where
  ex : ∃ o fs C ot its n, h.get? P = some o ∧ o.cls = .type "re.Pattern" ∧ o.dict = none ∧ o.data = .fields fs ∧ Builtin.Re.reRawNat (fs.getD 2 .none) = 0 ∧ fs.getD 5 .none = .ref C ∧ Builtin.Re.reRawNat (fs.getD 6 .none) = 0 ∧
    h.get? C = some ot ∧ ot.data = .seq its n ∧ (its.map Builtin.Re.reRawOf).map (·.toNat) = code
theorem PatAt.stay {h h' : Heap} {P : Addr} {code : Array Nat} (x : PatAt h P code) (k : Stay h h') : PatAt h' P code := by
  (first | (refine Mine.e6_9 (x.ex) ?_; rintro o fs C ot its n a1 a2 a3 a4 a5 a6 a7 a8 a9) | (obtain ⟨o, fs, C, ot, its, n, a1, a2, a3, a4, a5, a6, a7, a8, a9⟩ := x.ex))
  exact ⟨o, fs, C, ot, its, n, k _ _ a1, a2, a3, a4, a5, a6, a7, k _ _ a8, a9⟩

section
variable {prog : Program} {w : World} {A : Around} {E : Value → Shared → Prop} {s : Shared} {h : Heap} {tk : Nat}
theorem wp_whole {P : Addr} {code : Array Nat} {x : Str} {t : Tok} {Q : Builtin.Re.ReTarget → Shared → Prop} (hp : PatAt h P code)
    (q : Q ⟨.ref P, .str x t, code, x.cps, 0, 0, 0, x.cps.size⟩ (st s h tk)) : wpAny (model prog w) A (Builtin.Re.reWholeTarget (.ref P) (.str x t)) Q E (st s h tk) := by
  (first | (refine Mine.e6_10 (hp.ex) ?_; rintro o fs C ot its n a1 a2 a3 a4 a5 a6 a7 a8 a9 a10) | (obtain ⟨o, fs, C, ot, its, n, a1, a2, a3, a4, a5, a6, a7, a8, a9, a10⟩ := hp.ex))
  unfold Builtin.Re.reWholeTarget
  refine wpAny_bind (wpAny_fieldsOf (s := st s h tk) a1 a4 ?_)
  refine wpAny_bind ?_
  show wpAny _ _ (pure (x.cps, 0)) _ _ _
  refine wpAny_pure ?_
  simp only [a7, a6, a5]
  refine wpAny_bind ?_
  show wpAny _ _ (pure ()) _ _ _
  refine wpAny_pure (wpAny_bind ?_)
  show wpAny _ _ (seqItems? (.ref C) >>= fun its => pure ((its.getD #[]).map Builtin.Re.reRawOf)) _ _ _
  refine wpAny_bind (wpAny_seqItems (s := st s h tk) a8 a9 (wpAny_pure (wpAny_pure ?_)))
  show Q ⟨_, _, (its.map Builtin.Re.reRawOf).map (·.toNat), _, _, _, _, _⟩ _
  rw [a10]; exact q

noncomputable def subF (x : Array Nat) (find : Nat → Option (Nat × Nat)) (r : Array Nat) : Nat → Nat → Array Nat
  | 0, d => x.extract d x.size
  | f + 1, d => match find d with
    | none => x.extract d x.size
    | some (a, e) => x.extract d a ++ r ++ subF x find r f e

noncomputable def Searches (code x : Array Nat) (find : Nat → Option (Nat × Nat)) : Prop :=
  ∀ d, d ≤ x.size → (∃ k, k < 1000000000 ∧ Ends (Found (find d)) k (Sre.forSearch code x 0 d x.size false)) ∧ ∀ a e, find d = some (a, e) → d ≤ a ∧ a < e ∧ e ≤ x.size

theorem wp_push {l : Addr} {cs : Array Value} {v : Value} {Q : Unit → Shared → Prop} (hl : h.PlainList l cs) (hz : cs.size ≤ 300000) (q : ∀ h', h'.PlainList l (cs.push v) → Off l h h' → Q () (st s h' tk)) :
    wpAny (model prog w) A (updateSeq l (·.push v)) Q E (st s h tk) := by
  obtain ⟨n, ho⟩ := hl
  refine wpAny_updateSeq (s := st s h tk) ho rfl (q _ ⟨n + 1, ?_⟩ ?_) (by rw [sizeLine_eq]; (first | lia | omega)) (by rw [sizeLine_eq]; simp; (first | lia | omega))
  · show (Heap.update h l _).get? l = _
    rw [Heap.get?_update_self _ ho (by rw [Obj.mapSeq_push_plain]; rfl), Obj.mapSeq_push_plain]
  · intro b o hb e
    exact ((Heap.SameBut.update h l _).2 b hb).trans e

theorem cat_fold (ys : List Str) : ∀ a : Array Nat, ys.foldl (fun acc (p : Str) => acc ++ (Str.ofString "").cps ++ p.cps) a = a ++ (ys.map (·.cps.toList)).flatten.toArray := by
  induction ys with
  | nil => intro a; simp
  | cons y ys ih => 
    intro a
    rw [List.foldl_cons, ih, show (Str.ofString "").cps = #[] from rfl]
    apply Array.toList_inj.mp
    simp
theorem glued_cat (ys : List Str) : (PySem.Builtin.Str.glued "" ys).cps = (ys.map (·.cps.toList)).flatten.toArray := by
  cases ys with
  | nil => rfl
  | cons y ys =>
    show (((y :: ys).drop 1).foldl (fun acc (p : Str) => acc ++ (Str.ofString "").cps ++ p.cps) y.cps) = _
    rw [List.drop_one, List.tail_cons, cat_fold]
    apply Array.toList_inj.mp
    simp
theorem glued_push (ys : List Str) (y : Str) : (PySem.Builtin.Str.glued "" (ys ++ [y])).cps = (PySem.Builtin.Str.glued "" ys).cps ++ y.cps := by
  rw [glued_cat, glued_cat]; apply Array.toList_inj.mp; simp
theorem sum_len (ys : List Str) : (ys.map (·.length)).sum = (PySem.Builtin.Str.glued "" ys).cps.size := by
  rw [glued_cat]
  simp [List.length_flatten]
  rfl
theorem strs_push {a : List Value} {b : List Str} (x : StrsAre a b) (y : Str) (t : Tok) : StrsAre (a ++ [.str y t]) (b ++ [y]) := by
  induction x with
  | nil => exact .cons y t .nil
  | cons z u _ ih => exact .cons z u ih

set_option maxHeartbeats 2000000 in
theorem wp_loop {P l : Addr} {code : Array Nat} {x r : Str} {t u : Tok} {find : Nat → Option (Nat × Nat)} {F : Array Nat} (hp : PatAt h P code) (hs : Searches code x.cps find) (hx : x.cps.size ≤ 100000) (hF : F.size ≤ 1000000)
    (hl : h.get? l = none) (f : Nat) : ∀ (d : Nat) (n : Int) (h₁ : Heap) (cs : Array Value) (ys : List Str) (tk : Nat) (R : Result → Shared → Prop), Stay h h₁ → h₁.PlainList l cs → StrsAre cs.toList ys → cs.size ≤ 2 * d → d ≤ x.cps.size → x.cps.size - d ≤ f →
      (PySem.Builtin.Str.glued "" ys).cps ++ subF x.cps find r.cps (f + 1) d = F → 
      (∀ h' tk' t', Stay h h' → R (.ok (.ret (.str ⟨F⟩ t'))) (st s h' tk')) →
      codeAny (model prog w) A (.builtin "re.Pattern.sub.loop" ⟨[.ref P, .str x t, .str r u, rawInt 0, rawInt 0, rawInt n, rawInt d, rawInt d, .bool false, .ref l, .bool false], []⟩) R (st s h₁ tk) := by
  induction f using Nat.strongRecOn with
  | ind f ih =>
    intro d n h₁ cs ys tk R S₁ hpl hys hcz hd hf hg hR
    refine codeAny_builtin entry_reLoop ?_
    rw [Around.under_plainId plain_reLoop _]
    unfold Builtin.«re.Pattern.sub.loop»
    refine wpAny_bind (wp_whole (hp.stay S₁) ?_)
    simp only [rawInt]
    rw [if_pos (by decide)]
    refine wpAny_bind ?_
    show wpAny _ _ (pure ()) _ _ _
    refine wpAny_pure (wpAny_bind ?_)
    rw [if_neg (by simp)]
    obtain ⟨⟨k, hk, he⟩, hfind⟩ := hs d hd
    have keepS : ∀ {h₂ h₃ : Heap}, Stay h h₂ → Off l h₂ h₃ → Stay h h₃ := fun S O b o e => O b o (fun q => by rw [q, hl] at e; cases e) (S b o e)
    refine wp_runToEnd he hk (fun hno => ?_) (fun m' hm => ?_)
    · have hsub : subF x.cps find r.cps (f + 1) d = x.cps.extract d x.cps.size := by simp only [subF, hno]
      rw [hsub] at hg
      have fin : ∀ (h₂ : Heap) (tk₂ : Nat) (cs₂ : Array Value) (ys₂ : List Str), Stay h h₂ → h₂.PlainList l cs₂ → StrsAre cs₂.toList ys₂ → (PySem.Builtin.Str.glued "" ys₂).cps = F →
          wpAny (model prog w) A.in1 (do
            let joiner ← Builtin.Re.reSlice x.cps 0 0 0
            let its ← seqItems? (.ref l)
            if (its.getD #[]).isEmpty = true then do
              let text ← pure joiner
              if false = true then do
                let v ← holding [text] (do newTuple [text, ← mkInt n])
                ret v
              else ret text
            else do
              let text ← call (.builtin (if ((0 : Nat) == 0) = true then "str.join" else "bytes.join")) [joiner, .ref l]
              if false = true then do
                let v ← holding [text] (do newTuple [text, ← mkInt n])
                ret v
              else ret text) (fun fin s' => match fin with | .done f => R (.ok f) s' | .again c' => c'.quiet = true ∧ codeAny (model prog w) A c' R s') (fun e s' => R (.error e) s') (st s h₂ tk₂) := by
        intro h₂ tk₂ cs₂ ys₂ S₂ hpl₂ hys₂ hg₂
        refine wpAny_bind ?_
        show wpAny _ _ (mkStr ⟨x.cps.extract 0 0⟩) _ _ _
        refine wpAny_mkStr (s := st s h₂ tk₂) ?_ (by rw [sizeLine_eq]; simp [Str.length])
        obtain ⟨nl, hnl⟩ := id hpl₂
        refine wpAny_bind (wpAny_seqItems (s := st s h₂ (tk₂ + 1)) hnl rfl ?_)
        have hj : (⟨x.cps.extract 0 0⟩ : Str) = Str.ofString "" := by
          have : x.cps.extract 0 0 = #[] := by simp
          rw [this]; rfl
        rw [hj]
        simp only [Option.getD_some]
        by_cases hemp : cs₂.isEmpty = true
        · rw [if_pos hemp]
          refine wpAny_bind (wpAny_pure ?_)
          rw [if_neg (by simp)]
          have : cs₂ = #[] := by simpa using hemp
          subst this
          cases hys₂
          have : F = #[] := by rw [← hg₂]; rfl
          subst this
          exact wpAny_pure (hR h₂ (tk₂ + 1) tk₂ S₂)
        · rw [if_neg hemp]
          refine wpAny_bind ?_
          refine join_list (s := st s h₂ (tk₂ + 1)) hpl₂.isList hys₂ ?_ fun t' k' => ?_
          · rw [sum_len, hg₂, show (Str.ofString "").length = 0 from rfl]; (first | lia | omega)
          · rw [if_neg (by simp)]
            refine wpAny_pure ?_
            have e : Txt.join (Str.ofString "") ys₂ = ⟨F⟩ := by rw [← hg₂]; rfl
            show R (.ok (.ret (.str (Txt.join (Str.ofString "") ys₂) t'))) _
            rw [e]
            exact hR h₂ k' t' S₂
      simp only [Int.toNat_natCast]
      by_cases hdl : d < x.cps.size
      · rw [if_pos hdl]
        refine wpAny_bind ?_
        show wpAny _ _ (mkStr ⟨x.cps.extract d x.cps.size⟩) _ _ _
        refine wpAny_mkStr (s := st s h₁ tk) ?_ (by rw [sizeLine_eq]; simp [Str.length]; (first | lia | omega))
        refine wpAny_bind (wp_push (tk := tk + 1) hpl (by (first | lia | omega)) fun h₂ hpl₂ O₂ => ?_)
        exact fin h₂ _ _ _ (keepS S₁ O₂) hpl₂ (by rw [Array.toList_push]; exact strs_push hys _ _) (by rw [glued_push]; exact hg)
      · rw [if_neg hdl]
        refine fin h₁ _ _ _ S₁ hpl hys ?_
        rw [← hg]
        have : x.cps.extract d x.cps.size = #[] := by apply Array.toList_inj.mp; simp; (first | lia | omega)
        rw [this]; simp
    · (first | (refine Mine.e0_3 (hfind _ _ hm) ?_; rintro h1 h2 h3) | (obtain ⟨h1, h2, h3⟩ := hfind _ _ hm))
      have hsub : subF x.cps find r.cps (f + 1) d = x.cps.extract d m'.start ++ r.cps ++ subF x.cps find r.cps f m'.handed := by simp only [subF, hm]
      rw [hsub] at hg
      have fin : ∀ (h₂ : Heap) (tk₂ : Nat) (cs₂ : Array Value) (ys₂ : List Str), Stay h h₂ → h₂.PlainList l cs₂ → StrsAre cs₂.toList ys₂ → cs₂.size ≤ 2 * d + 1 → (PySem.Builtin.Str.glued "" ys₂).cps = (PySem.Builtin.Str.glued "" ys).cps ++ x.cps.extract d m'.start →
          wpAny (model prog w) A.in1 (do
            updateSeq l fun x => x.push (.str r u)
            again (Code.builtin "re.Pattern.sub.loop" ⟨[.ref P, .str x t, .str r u, .int 0 0, .int 0 0, .int (n + 1) 0, .int m'.handed 0, .int m'.handed 0, .bool (m'.handed == m'.start), .ref l, .bool false], []⟩)) 
            (fun fin s' => match fin with | .done f => R (.ok f) s' | .again c' => c'.quiet = true ∧ codeAny (model prog w) A c' R s') (fun e s' => R (.error e) s') (st s h₂ tk₂) := by
        intro h₂ tk₂ cs₂ ys₂ S₂ hpl₂ hys₂ hz₂ hg₂
        refine wpAny_bind (wp_push hpl₂ (by (first | lia | omega)) fun h₃ hpl₃ O₃ => ?_)
        refine wpAny_pure ⟨plainId_quiet plain_reLoop _, ?_⟩
        rw [show (m'.handed == m'.start) = false by simp; (first | lia | omega)]
        obtain ⟨f, rfl⟩ : ∃ i, f = i + 1 := ⟨f - 1, by (first | lia | omega)⟩
        refine ih f (by (first | lia | omega)) m'.handed (n + 1) h₃ (cs₂.push (.str r u)) (ys₂ ++ [r]) tk₂ R (keepS S₂ O₃) hpl₃ (by rw [Array.toList_push]; exact strs_push hys₂ _ _) (by simp; (first | lia | omega)) h3 (by (first | lia | omega)) ?_ hR
        rw [glued_push, hg₂, ← hg]
        simp only [Array.append_assoc]
      simp only [Int.toNat_natCast]
      by_cases hdl : d < m'.start
      · rw [if_pos hdl]
        refine wpAny_bind ?_
        show wpAny _ _ (mkStr ⟨x.cps.extract d m'.start⟩) _ _ _
        refine wpAny_mkStr (s := st s h₁ tk) ?_ (by rw [sizeLine_eq]; simp [Str.length]; (first | lia | omega))
        refine wpAny_bind (wp_push (tk := tk + 1) hpl (by (first | lia | omega)) fun h₂ hpl₂ O₂ => ?_)
        rw [if_pos (by decide)]
        refine wpAny_bind (wpAny_pure ?_)
        rw [if_pos (show (Value.str r u != Value.none) = true from rfl)]
        exact fin h₂ _ _ _ (keepS S₁ O₂) hpl₂ (by rw [Array.toList_push]; exact strs_push hys _ _) (by simp; (first | lia | omega)) (by rw [glued_push])
      · rw [if_neg hdl]
        rw [if_pos (by decide)]
        refine wpAny_bind (wpAny_pure ?_)
        rw [if_pos (show (Value.str r u != Value.none) = true from rfl)]
        refine fin h₁ _ _ _ S₁ hpl hys (by (first | lia | omega)) ?_
        have : x.cps.extract d m'.start = #[] := by apply Array.toList_inj.mp; simp; (first | lia | omega)
        rw [this]; simp

theorem wp_reSub {P : Addr} {code : Array Nat} {x r : Str} {t u : Tok} {find : Nat → Option (Nat × Nat)} {Q : Value → Shared → Prop} (hp : PatAt h P code) (hs : Searches code x.cps find) (hx : x.cps.size ≤ 100000)
    (hF : (subF x.cps find r.cps (x.cps.size + 1) 0).size ≤ 1000000) (hr : r.cps.contains 92 = false)
    (q : ∀ h' tk' t', Stay h h' → Q (.str ⟨subF x.cps find r.cps (x.cps.size + 1) 0⟩ t') (st s h' tk')) :
    wpAny (model prog w) A (call (.builtin "re.Pattern.sub") [.ref P, .str r u, .str x t]) Q E (st s h tk) := by
  (first | (refine Mine.e6_10 (hp.ex) ?_; rintro o fs C ot its n a1 a2 a3 a4 a5 a6 a7 a8 a9 a10) | (obtain ⟨o, fs, C, ot, its, n, a1, a2, a3, a4, a5, a6, a7, a8, a9, a10⟩ := hp.ex))
  refine wpAny_call (codeAny_call_builtin slot_reSub.plain entry_reSub (slot_reSub.check _ _ _ _ _ _ _ _ (show Shared.TypeIs (st s h tk) (.ref P) "re.Pattern" from ⟨o, a1, a2⟩) (args_reSub _ _ _) ?_))
  unfold Builtin.«re.Pattern.sub» Builtin.Re.reSubstitute
  refine wpAny_bind ?_
  show wpAny _ _ (pure [some (Value.str r u), some (Value.str x t), none]) _ _ _
  refine wpAny_pure (wpAny_bind (wpAny_pure (wpAny_bind ?_)))
  refine wpAny_specialOf (typeIs_str _ _ _) nocall_str ?_
  simp only [Option.isSome_none, Bool.false_eq_true, if_false, asStr?]
  refine wpAny_bind (wpAny_pure ?_)
  simp only [hr, Bool.not_false]
  refine wpAny_bind (wpAny_pure ?_)
  simp only [if_true]
  refine wpAny_bind (wpAny_pure ?_)
  refine wpAny_bind (wpAny_holding (wp_whole hp ?_))
  dsimp only
  rw [if_neg (by simp)]
  refine wpAny_bind (r_newList (by simp) fun l h₁ hl hpl S₁ => ?_)
  refine wpAny_pure ⟨plainId_quiet plain_reLoop _, ?_⟩
  exact wp_loop hp hs hx hF hl x.cps.size 0 0 h₁ _ [] tk _ S₁ hpl .nil (by simp) (Nat.zero_le _) (by (first | lia | omega)) (by show (PySem.Builtin.Str.glued "" []).cps ++ _ = _; rw [show (PySem.Builtin.Str.glued "" []).cps = #[] from rfl]; simp) q
end
end Mine
end
section
open PySem PySem.Sre PyProof.Rows
set_option Elab.async false
set_option maxRecDepth 100000
namespace Mine

noncomputable def fnd (x : Array Nat) (p : Nat → Option Nat) (d : Nat) : Option (Nat × Nat) := findFrom p (x.size + 1 - d) d

theorem extract_cons (x : Array Nat) {d a : Nat} (h : d < x.size) (h' : d < a) : (x.extract d a).toList = x[d] :: (x.extract (d + 1) a).toList := by
  simp only [Array.toList_extract, List.extract_eq_take_drop]
  rw [List.drop_eq_getElem_cons (by simpa using h), show a - d = (a - (d + 1)) + 1 by (first | lia | omega), List.take_succ_cons]
  simp

section
variable {x r : Array Nat} {p : Nat → Option Nat}
theorem sub_none {f d : Nat} (hd : d < x.size) (hp : p d = none) : (subF x (fnd x p) r f d).toList = x[d] :: (subF x (fnd x p) r f (d + 1)).toList := by
  cases f with
  | zero => exact extract_cons x hd hd
  | succ f =>
    have e : fnd x p d = fnd x p (d + 1) := by
      unfold fnd
      rw [show x.size + 1 - d = (x.size + 1 - (d + 1)) + 1 by (first | lia | omega)]
      simp only [findFrom, hp]
    simp only [subF]
    rw [e]
    cases hf : fnd x p (d + 1) with
    | none => exact extract_cons x hd hd
    | some q =>
      obtain ⟨a, b⟩ := q
      have := (findFrom_isSome hf).2.1
      simp only [Array.toList_append]
      rw [extract_cons x hd (by (first | lia | omega))]
      simp
theorem sub_some {f d e : Nat} (hd : d ≤ x.size) (hp : p d = some e) : (subF x (fnd x p) r (f + 1) d).toList = r.toList ++ (subF x (fnd x p) r f e).toList := by
  have : fnd x p d = some (d, e) := by
    unfold fnd
    rw [show x.size + 1 - d = (x.size - d) + 1 by (first | lia | omega)]
    simp only [findFrom, hp]
  simp only [subF, this]
  simp
theorem sub_end {f : Nat} (hp : p x.size = none) : (subF x (fnd x p) r f x.size).toList = [] := by
  cases f with
  | zero => simp [subF]
  | succ f =>
    have : fnd x p x.size = none := by
      unfold fnd
      rw [show x.size + 1 - x.size = 0 + 1 by (first | lia | omega)]
      simp only [findFrom, hp]
    simp only [subF, this]; simp
end

noncomputable def crlfP : Bool → List Nat → List Nat
  | _, [] => []
  | b, c :: r => if c = 10 then (if b = true then crlfP false r else 13 :: 10 :: crlfP false r) else if c = 13 then 13 :: 10 :: crlfP true r else c :: crlfP false r
noncomputable abbrev crlfL (l : List Nat) : List Nat := crlfP false l
theorem crlfP_true {l : List Nat} (h : ∀ r, l ≠ 10 :: r) : crlfP true l = crlfP false l := by
  cases l with
  | nil => rfl
  | cons c r =>
    have : ¬ c = 10 := fun q => h r (by rw [q])
    unfold crlfP
    rw [if_neg this, if_neg this]
noncomputable def dotL : Bool → List Nat → List Nat
  | _, [] => []
  | b, c :: r => if b = true ∧ c = 46 then 46 :: 46 :: dotL false r else c :: dotL (c == 10) r

theorem sub_crlf (x : Array Nat) : ∀ (n d f : Nat), x.size - d = n → d ≤ x.size → n ≤ f → (subF x (fnd x (endAt x)) #[13, 10] f d).toList = crlfL (x.toList.drop d) := by
  intro n
  induction n using Nat.strongRecOn with
  | ind n ih =>
    intro d f hn hd hf
    rcases Nat.eq_or_lt_of_le hd with rfl | hd'
    · rw [sub_end (by rw [endAt_none]; (first | lia | omega)), List.drop_of_length_le (by simp)]
      rfl
    · have hdr : x.toList.drop d = x[d] :: x.toList.drop (d + 1) := by rw [List.drop_eq_getElem_cons (by simpa using hd')]; simp
      rw [hdr]
      obtain ⟨f, rfl⟩ : ∃ i, f = i + 1 := ⟨f - 1, by (first | lia | omega)⟩
      by_cases h10 : x[d] = 10
      · have he : endAt x d = some (d + 1) := by unfold endAt; simp [hd', h10]
        rw [sub_some hd he, ih (n - 1) (by (first | lia | omega)) (d + 1) f (by (first | lia | omega)) (by (first | lia | omega)) (by (first | lia | omega))]
        simp [crlfP, h10]
      · by_cases h13 : x[d] = 13
        · by_cases hx : d + 1 < x.size ∧ x[d + 1]?.getD 0 = 10
          · have he : endAt x d = some (d + 2) := by unfold endAt; rw [if_pos hd']; simp only [Array.getElem?_eq_getElem hd', Option.getD_some, h13]; rw [if_neg (by decide), if_pos trivial, if_pos hx]
            have hdr' : x.toList.drop (d + 1) = 10 :: x.toList.drop (d + 2) := by
              rw [List.drop_eq_getElem_cons (by simpa using hx.1)]
              have := hx.2
              simp [hx.1] at this
              simp [this]
            rw [sub_some hd he, ih (n - 2) (by (first | lia | omega)) (d + 2) f (by (first | lia | omega)) (by (first | lia | omega)) (by (first | lia | omega)), hdr']
            simp [crlfP, h13]
          · have he : endAt x d = some (d + 1) := by unfold endAt; rw [if_pos hd']; simp only [Array.getElem?_eq_getElem hd', Option.getD_some, h13]; rw [if_neg (by decide), if_pos trivial, if_neg hx]
            rw [sub_some hd he, ih (n - 1) (by (first | lia | omega)) (d + 1) f (by (first | lia | omega)) (by (first | lia | omega)) (by (first | lia | omega))]
            have : ∀ r', x.toList.drop (d + 1) ≠ 10 :: r' := by
              intro r' q
              have hl : d + 1 < x.size := by
                have := congrArg List.length q
                simp at this; (first | lia | omega)
              refine hx ⟨hl, ?_⟩
              rw [List.drop_eq_getElem_cons (by simpa using hl)] at q
              simp at q
              simp [hl, q.1]
            rw [h13]
            show _ = (if (13 : Nat) = 10 then _ else if (13 : Nat) = 13 then 13 :: 10 :: crlfP true (x.toList.drop (d + 1)) else _)
            rw [if_neg (by decide), if_pos rfl, crlfP_true this]
            simp
        · have he : endAt x d = none := by rw [endAt_none]; simp [hd', h10, h13]
          rw [sub_none hd' he, ih (n - 1) (by (first | lia | omega)) (d + 1) (f + 1) (by (first | lia | omega)) (by (first | lia | omega)) (by (first | lia | omega))]
          simp [crlfP, h10, h13]

theorem sub_dots (x : Array Nat) : ∀ (n d f : Nat), x.size - d = n → d ≤ x.size → n ≤ f → (subF x (fnd x (dotAt x)) #[46, 46] f d).toList = dotL (decide (d = 0 ∨ x[d - 1]?.getD 0 = 10)) (x.toList.drop d) := by
  intro n
  induction n using Nat.strongRecOn with
  | ind n ih =>
    intro d f hn hd hf
    rcases Nat.eq_or_lt_of_le hd with rfl | hd'
    · rw [sub_end (by unfold dotAt; rw [if_neg]; (first | lia | omega)), List.drop_of_length_le (by simp)]
      simp [dotL]
    · have hdr : x.toList.drop d = x[d] :: x.toList.drop (d + 1) := by rw [List.drop_eq_getElem_cons (by simpa using hd')]; simp
      rw [hdr]
      obtain ⟨f, rfl⟩ : ∃ i, f = i + 1 := ⟨f - 1, by (first | lia | omega)⟩
      by_cases hb : (d = 0 ∨ x[d - 1]?.getD 0 = 10) ∧ x[d] = 46
      · have he : dotAt x d = some (d + 1) := by unfold dotAt; rw [if_pos ⟨hb.1, hd', by simpa [hd'] using hb.2⟩]
        rw [sub_some hd he, ih (n - 1) (by (first | lia | omega)) (d + 1) f (by (first | lia | omega)) (by (first | lia | omega)) (by (first | lia | omega)), dotL, if_pos ⟨by simpa using hb.1, hb.2⟩]
        simp [hd', hb.2]
      · have he : dotAt x d = none := by unfold dotAt; rw [if_neg]; exact fun q => hb ⟨q.1, by simpa [hd'] using q.2.2⟩
        rw [sub_none hd' he, ih (n - 1) (by (first | lia | omega)) (d + 1) (f + 1) (by (first | lia | omega)) (by (first | lia | omega)) (by (first | lia | omega)), dotL, if_neg (fun q => hb ⟨by simpa using q.1, q.2⟩)]
        simp [hd']
        rfl

theorem searches_end (x : Array Nat) (hx : x.size ≤ 100000) : Searches codeEnd x (fnd x (endAt x)) := by
  intro d hd
  refine ⟨⟨_, ?_, ends_search x d⟩, fun a e h => ?_⟩
  · (first | lia | omega)
  · obtain ⟨h1, h2, _⟩ := findFrom_isSome h
    unfold endAt at h1
    by_cases hs : a < x.size
    · rw [if_pos hs] at h1
      split at h1
      · cases h1; (first | lia | omega)
      · split at h1
        · split at h1
          · cases h1; (first | lia | omega)
          · cases h1; (first | lia | omega)
        · cases h1
    · rw [if_neg hs] at h1; cases h1
theorem searches_dot (x : Array Nat) (hx : x.size ≤ 100000) : Searches codeDot x (fnd x (dotAt x)) := by
  intro d hd
  refine ⟨⟨_, ?_, dots_search x d⟩, fun a e h => ?_⟩
  · (first | lia | omega)
  · obtain ⟨h1, h2, _⟩ := findFrom_isSome h
    unfold dotAt at h1
    split at h1
    · rename_i q; cases h1; (first | lia | omega)
    · cases h1

theorem crlfP_len : ∀ (l : List Nat) (b : Bool), (crlfP b l).length ≤ 2 * l.length
  | [], _ => by simp [crlfP]
  | c :: r, b => by
    have h1 := crlfP_len r false
    have h2 := crlfP_len r true
    unfold crlfP
    split
    · split
      · simp; (first | lia | omega)
      · simp; (first | lia | omega)
    · split
      · simp; (first | lia | omega)
      · simp; (first | lia | omega)
theorem dotL_len : ∀ (l : List Nat) (b : Bool), (dotL b l).length ≤ 2 * l.length
  | [], _ => by simp [dotL]
  | c :: r, b => by
    have h1 := dotL_len r false
    have h2 := dotL_len r (c == 10)
    unfold dotL
    split
    · simp; (first | lia | omega)
    · simp; (first | lia | omega)

section
variable {prog : Program} {w : World} {A : Around} {E : Value → Shared → Prop} {s : Shared} {h : Heap} {tk : Nat}
theorem sub_end_call {P : Addr} {x : Str} {t u : Tok} {Q : Value → Shared → Prop} (hp : PatAt h P codeEnd) (hx : x.cps.size ≤ 50000)
    (q : ∀ h' tk' t', Stay h h' → Q (.str ⟨(crlfL x.cps.toList).toArray⟩ t') (st s h' tk')) :
    wpAny (model prog w) A (call (.builtin "re.Pattern.sub") [.ref P, .str "\r\n" u, .str x t]) Q E (st s h tk) := by
  have e : subF x.cps (fnd x.cps (endAt x.cps)) (Str.ofString "\r\n").cps (x.cps.size + 1) 0 = (crlfL x.cps.toList).toArray := by
    apply Array.toList_inj.mp
    rw [show (Str.ofString "\r\n").cps = #[13, 10] by decide +kernel, sub_crlf x.cps x.cps.size 0 _ (by (first | lia | omega)) (by (first | lia | omega)) (by (first | lia | omega))]
    simp
  refine wp_reSub hp (searches_end _ (by (first | lia | omega))) (by (first | lia | omega)) ?_ (by decide +kernel) ?_
  · rw [e]; have := crlfP_len x.cps.toList false; simp at this; simp [crlfL]; (first | lia | omega)
  · rw [e]; exact q
theorem sub_dot_call {P : Addr} {x : Str} {t u : Tok} {Q : Value → Shared → Prop} (hp : PatAt h P codeDot) (hx : x.cps.size ≤ 100000)
    (q : ∀ h' tk' t', Stay h h' → Q (.str ⟨(dotL true x.cps.toList).toArray⟩ t') (st s h' tk')) :
    wpAny (model prog w) A (call (.builtin "re.Pattern.sub") [.ref P, .str ".." u, .str x t]) Q E (st s h tk) := by
  have e : subF x.cps (fnd x.cps (dotAt x.cps)) (Str.ofString "..").cps (x.cps.size + 1) 0 = (dotL true x.cps.toList).toArray := by
    apply Array.toList_inj.mp
    rw [show (Str.ofString "..").cps = #[46, 46] by decide +kernel, sub_dots x.cps x.cps.size 0 _ (by (first | lia | omega)) (by (first | lia | omega)) (by (first | lia | omega))]
    simp
  refine wp_reSub hp (searches_dot _ (by (first | lia | omega))) (by (first | lia | omega)) ?_ (by decide +kernel) ?_
  · rw [e]; have := dotL_len x.cps.toList true; simp at this; simp; (first | lia | omega)
  · rw [e]; exact q
end
end Mine
end
section
open PySem PySem.W PySem.Calls PyProof.Rows
set_option Elab.async false
set_option maxRecDepth 100000
namespace Mine

noncomputable def quoteL (l : List Nat) : List Nat := dotL true (crlfL l)

section
variable {prog : Program} {w : World} {A : Around} {s : Shared} {h : Heap} {mg mb : Str → Option Value}

set_option maxHeartbeats 2000000 in
theorem c_quote {x : Str} {t u : Tok} (R : Rm 1 A) (B : Bas mg mb h) (X : FnAt h 48 47 5 .none) (h1 : mg "_twin_re_1" = some (.ref 36)) (h2 : mg "_twin_re_2" = some (.ref 41)) (h3 : mg "CRLF" = some (.str "\r\n" u))
    (p1 : PatAt h 36 codeDot) (p2 : PatAt h 41 codeEnd) (hx : x.cps.size ≤ 10000) :
    Gives prog w A (call (.ref 48) [.str x t]) s h (fun v _ => ∃ t, v = .str ⟨(quoteL x.cps.toList).toArray⟩ t) := by
  refine gives_def (binds := [("data", .str x t)]) R B X (fun pm tk => BindsTo.of_eq rfl) (by decide +kernel) (by rfl) fun pm L h₀ tk htk F => ?_
  have B₀ := B.stay F.keep
  have p1' := p1.stay F.keep
  have p2' := p2.stay F.keep
  refine r_ret (r_meth plainAttrs_rePattern slot_reSub type_reSub (nmG B₀ h1 ⟨?_, ?_, r_cwB (r_sp1 (r_str (r_sp1 (r_meth plainAttrs_rePattern slot_reSub type_reSub (nmG B₀ h2 ⟨?_, ?_, r_cwB (r_sp1 (nmG B₀ h3 (r_sp1 (nmL F rfl (r_sp0 ?_)))))⟩)))))⟩))
  · (first | (refine Mine.e6_4 (p1'.ex) ?_; rintro o fs C ot its n a1 a2 a3 _) | (obtain ⟨o, fs, C, ot, its, n, a1, a2, a3, _⟩ := p1'.ex))
    exact ⟨o, a1, a2⟩
  · (first | (refine Mine.e6_4 (p1'.ex) ?_; rintro o fs C ot its n a1 a2 a3 _) | (obtain ⟨o, fs, C, ot, its, n, a1, a2, a3, _⟩ := p1'.ex))
    rintro a ⟨⟩; exact ⟨o, a1, a3⟩
  · (first | (refine Mine.e6_4 (p2'.ex) ?_; rintro o fs C ot its n a1 a2 a3 _) | (obtain ⟨o, fs, C, ot, its, n, a1, a2, a3, _⟩ := p2'.ex))
    exact ⟨o, a1, a2⟩
  · (first | (refine Mine.e6_4 (p2'.ex) ?_; rintro o fs C ot its n a1 a2 a3 _) | (obtain ⟨o, fs, C, ot, its, n, a1, a2, a3, _⟩ := p2'.ex))
    rintro a ⟨⟩; exact ⟨o, a1, a3⟩
  · refine sub_end_call p2' (by (first | lia | omega)) fun h₁ tk₁ t₁ S₁ => ?_
    refine r_sp0 ?_
    refine sub_dot_call (p1'.stay S₁) ?_ fun h₂ tk₂ t₂ S₂ => ?_
    · have := crlfP_len x.cps.toList false
      simp at this; simp [crlfL]; (first | lia | omega)
    · exact ⟨_, _, rfl, (F.keep.trans S₁).trans S₂, t₂, rfl⟩
end
end Mine
end
section
open PySem PySem.W PySem.Calls PyProof.Rows
set_option Elab.async false
set_option maxRecDepth 100000
namespace Mine
section
variable {prog : Program} {w : World} {A : Around} {E : Value → Shared → Prop} {s : Shared} {h : Heap} {tk : Nat}

theorem sl_dict : Builtin.Slots.givesDict (.type "object") = pure false := by kernel_rfl
theorem sl_weak : Builtin.Slots.givesWeak (.type "object") = pure false := by kernel_rfl
theorem sl_var : Builtin.Slots.varSize (.type "object") = pure false := by kernel_rfl
theorem sl_best : Builtin.Slots.bestBase [.type "object"] = pure (.type "object") := by kernel_rfl
theorem sl_names : Builtin.Slots.slotNamesOf (.type "object") = pure [] := by kernel_rfl

set_option maxHeartbeats 2000000 in
theorem wp_slotsRead {es : Array DictEntry} {e : DictEntry} {sl : Addr} {ts : Tok} {Q : Builtin.Slots.Plan → Shared → Prop}
    (hsl : h.IsList sl #[.str "obj" ts]) (hobj : ∃ o, h.get? sl = some o ∧ o.data = .seq #[.str "obj" ts] 0)
    (hfind : (es.find? fun x => x.key.isStr "__slots__") = some e) (hval : e.val = .ref sl) (hany : (es.any fun x => x.key.isStr "obj") = false)
    (q : ∀ h', Stay h h' → Q { names := ["obj"], dict := false, weak := false, inherited := [] } (st s h' tk)) :
    wpAny (model prog w) A (Builtin.Slots.read "K" [.type "object"] es) Q E (st s h tk) := by
  unfold Builtin.Slots.read
  refine wpAny_bind (wpAny_of_eq sl_best (wpAny_bind (wpAny_of_eq sl_names (wpAny_bind (wpAny_of_eq sl_dict (wpAny_bind (wpAny_of_eq sl_weak (wpAny_bind (wpAny_of_eq sl_var ?_)))))))))
  rw [hfind]
  refine wpAny_bind (wpAny_rule ?_)
  rw [hval]
  obtain ⟨o, ho, hd⟩ := hobj
  refine wpAny_bind ?_
  show wpAny _ _ (load sl >>= fun o => match o.data with | .prim (.str s _) => pure (some s) | _ => pure none) _ _ _
  refine wpAny_bind (wpAny_load (s := st s h tk) ho ?_)
  rw [hd]
  refine wpAny_pure ?_
  rw [if_neg (by simp)]
  refine wpAny_bind (collect_list (s := st s h tk) (vs := [.str "obj" ts]) hsl ?_ (by rw [sizeLine_eq]; simp))
  have S' : Stay h ((h.push (seqObj "list" #[] 0)).update h.objs.size (Obj.mapSeq (· ++ [Value.str "obj" ts].toArray))) := by
    intro b o e
    rw [Heap.get?_update_ne _ _ _ _ (Nat.ne_of_lt (Heap.lt_size e))]
    exact Heap.get?_push_of_some _ e
  have e12 := sl_var
  obtain ⟨h0, g, d, t0, os⟩ := s
  simp only [st]
  repeat (first | with_reducible (first | refine wpAny_pure ?_ | refine wpAny_bind ?_ | refine wpAny_holding ?_ | refine wpAny_standAt ?_ | refine wpAny_point ?_ | refine wpAny_rule ?_ | refine wpAny_letGo ?_ | refine wpAny_mkInt' ?_ | refine wpAny_mkStr' ?_ | refine wpAny_fresh' ?_ | refine wpAny_alloc' ?_ | refine wpAny_attempt ?_ | refine wpAny_of_eq (by assumption) ?_ | refine wpAny_typeOf (by assumption) ?_ | refine wpAny_specialOf_val (by assumption) (by assumption) ?_ | refine wpAny_specialOf (by assumption) (by assumption) ?_ | refine wpAny_isInstance_val (by assumption) (by assumption) ?_ | refine wpAny_isInstance (by assumption) (by assumption) ?_ | refine wpAny_call ?_ | refine wpAny_runValue ?_ | refine wpAny_run ?_) | ((with_reducible show wpAny _ _ (load _) _ _ _); (with_reducible apply wpAny_load'); focus (heap_get; done)) | ((with_reducible show wpAny _ _ (update _ _) _ _ _); (with_reducible apply wpAny_update'); focus (heap_get; done)) | ((with_reducible show wpAny _ _ (loadPart _ _) _ _ _); (with_reducible apply wpAny_loadPart'); focus (heap_get; done)) | ((with_reducible show wpAny _ _ (updatePart _ _ _) _ _ _); (with_reducible apply wpAny_updatePart'); focus (heap_get; done)) | ((with_reducible refine wpAny_ite_false ?hc ?_); (case hc => first | (decide +kernel; done) | (rfl; done))) | ((with_reducible refine wpAny_ite_true ?hc ?_); (case hc => first | (decide +kernel; done) | (rfl; done))) | wp_delta | with_reducible_and_instances refine wpAny_pure ?_ | with_reducible_and_instances refine wpAny_bind ?_)
  rw [show Builtin.Slots.isIdentifier (Str.ofString "obj") = some true by decide +kernel]
  repeat (first | with_reducible (first | refine wpAny_pure ?_ | refine wpAny_bind ?_ | refine wpAny_holding ?_ | refine wpAny_standAt ?_ | refine wpAny_point ?_ | refine wpAny_rule ?_ | refine wpAny_letGo ?_ | refine wpAny_mkInt' ?_ | refine wpAny_mkStr' ?_ | refine wpAny_fresh' ?_ | refine wpAny_alloc' ?_ | refine wpAny_attempt ?_ | refine wpAny_of_eq (by assumption) ?_ | refine wpAny_typeOf (by assumption) ?_ | refine wpAny_specialOf_val (by assumption) (by assumption) ?_ | refine wpAny_specialOf (by assumption) (by assumption) ?_ | refine wpAny_isInstance_val (by assumption) (by assumption) ?_ | refine wpAny_isInstance (by assumption) (by assumption) ?_ | refine wpAny_call ?_ | refine wpAny_runValue ?_ | refine wpAny_run ?_) | ((with_reducible show wpAny _ _ (load _) _ _ _); (with_reducible apply wpAny_load'); focus (heap_get; done)) | ((with_reducible show wpAny _ _ (update _ _) _ _ _); (with_reducible apply wpAny_update'); focus (heap_get; done)) | ((with_reducible show wpAny _ _ (loadPart _ _) _ _ _); (with_reducible apply wpAny_loadPart'); focus (heap_get; done)) | ((with_reducible show wpAny _ _ (updatePart _ _ _) _ _ _); (with_reducible apply wpAny_updatePart'); focus (heap_get; done)) | ((with_reducible refine wpAny_ite_false ?hc ?_); (case hc => first | (decide +kernel; done) | (rfl; done))) | ((with_reducible refine wpAny_ite_true ?hc ?_); (case hc => first | (decide +kernel; done) | (rfl; done))) | wp_delta | with_reducible_and_instances refine wpAny_pure ?_ | with_reducible_and_instances refine wpAny_bind ?_)
  have hmg : Builtin.Slots.mangle (Str.ofString "K") (Str.ofString "obj") = Str.ofString "obj" := by decide +kernel
  refine wpAny_ite_false (decide_eq_false (by
    show ¬ ((es.any fun x => x.key.isStr (Builtin.Slots.mangle (Str.ofString "K") (Str.ofString "obj"))) && _) = true
    rw [hmg, hany]; simp)) ?_
  repeat (first | with_reducible (first | refine wpAny_pure ?_ | refine wpAny_bind ?_ | refine wpAny_holding ?_ | refine wpAny_standAt ?_ | refine wpAny_point ?_ | refine wpAny_rule ?_ | refine wpAny_letGo ?_ | refine wpAny_mkInt' ?_ | refine wpAny_mkStr' ?_ | refine wpAny_fresh' ?_ | refine wpAny_alloc' ?_ | refine wpAny_attempt ?_ | refine wpAny_of_eq (by assumption) ?_ | refine wpAny_typeOf (by assumption) ?_ | refine wpAny_specialOf_val (by assumption) (by assumption) ?_ | refine wpAny_specialOf (by assumption) (by assumption) ?_ | refine wpAny_isInstance_val (by assumption) (by assumption) ?_ | refine wpAny_isInstance (by assumption) (by assumption) ?_ | refine wpAny_call ?_ | refine wpAny_runValue ?_ | refine wpAny_run ?_) | ((with_reducible show wpAny _ _ (load _) _ _ _); (with_reducible apply wpAny_load'); focus (heap_get; done)) | ((with_reducible show wpAny _ _ (update _ _) _ _ _); (with_reducible apply wpAny_update'); focus (heap_get; done)) | ((with_reducible show wpAny _ _ (loadPart _ _) _ _ _); (with_reducible apply wpAny_loadPart'); focus (heap_get; done)) | ((with_reducible show wpAny _ _ (updatePart _ _ _) _ _ _); (with_reducible apply wpAny_updatePart'); focus (heap_get; done)) | ((with_reducible refine wpAny_ite_false ?hc ?_); (case hc => first | (decide +kernel; done) | (rfl; done))) | ((with_reducible refine wpAny_ite_true ?hc ?_); (case hc => first | (decide +kernel; done) | (rfl; done))) | wp_delta | with_reducible_and_instances refine wpAny_pure ?_ | with_reducible_and_instances refine wpAny_bind ?_)
  show Q { names := [Builtin.Slots.mangle (Str.ofString "K") (Str.ofString "obj")], dict := false, weak := false, inherited := [] } _
  rw [hmg]
  exact q _ S'
end
end Mine
end
section
open PySem PySem.W PySem.Calls PyProof.Rows
set_option Elab.async false
set_option maxRecDepth 100000
namespace Mine

structure CW (h₀ h : Heap) (a N : Addr) (co : Obj) (m : Str → Option Value) : Prop where
  cls : h.get? a = some co
  dict : h.Ns1 N m
  ne : a ≠ N
  keep : Stay h₀ h
  fa : h₀.get? a = none
  fN : h₀.get? N = none
section
variable {h₀ h h' : Heap} {a N : Addr} {co : Obj} {m : Str → Option Value}
theorem CW.ground (W : CW h₀ h a N co m) : CW (hideAll h [a, N]) h a N co m ∧ Stay h₀ (hideAll h [a, N]) :=
  ⟨⟨W.cls, W.dict, W.ne, fun b o e => of_hideAll _ e, hideAll_none _ (by simp), hideAll_none _ (by simp)⟩, fun b o e => hideAll_get _ (W.keep b o e) (fun q => by
    simp at q
    rcases q with q | q
    · rw [q, W.fa] at e; cases e
    · rw [q, W.fN] at e; cases e)⟩
theorem CW.stay (W : CW h₀ h a N co m) (S : Stay h h') : CW h₀ h' a N co m := ⟨S _ _ W.cls, W.dict.at fun o e => S _ o e, W.ne, W.keep.trans S, W.fa, W.fN⟩
theorem CW.setN (W : CW h₀ h a N co m) {m' : Str → Option Value} (hn : h'.Ns1 N m') (hs : Heap.SameBut N h h') : CW h₀ h' a N co m' :=
  ⟨(hs.2 a W.ne).trans W.cls, hn, W.ne, fun b o e => (hs.2 b (fun q => by rw [q, W.fN] at e; cases e)).trans (W.keep b o e), W.fa, W.fN⟩
theorem CW.setA (W : CW h₀ h a N co m) {co' : Obj} (hn : h'.get? a = some co') (hs : Heap.SameBut a h h') : CW h₀ h' a N co' m :=
  ⟨hn, W.dict.sameBut hs (Ne.symm W.ne), W.ne, fun b o e => (hs.2 b (fun q => by rw [q, W.fa] at e; cases e)).trans (W.keep b o e), W.fa, W.fN⟩
end
section
variable {prog : Program} {w : World} {A : Around} {E : Value → Shared → Prop} {g : Array GenState} {d : Drawn} {os : OsState} {h₀ h : Heap} {tk : Nat} {a N : Addr} {co : Obj} {m : Str → Option Value}
theorem ns_get {name : Str} {r : Option Value} {Q : Option Value → Shared → Prop} (W : h.Ns N m) (hr : m name = r) (k : Q r ⟨h, g, d, tk, os⟩) : wpAny (model prog w) A (nsGet N name) Q E ⟨h, g, d, tk, os⟩ := wpAny_nsGet W (hr ▸ k)
theorem cw_get' {name : Str} {r : Option Value} {Q : Option Value → Shared → Prop} (W : CW h₀ h a N co m) (hr : m name = r) (k : Q r ⟨h, g, d, tk, os⟩) : wpAny (model prog w) A (nsGet N name) Q E ⟨h, g, d, tk, os⟩ := wpAny_nsGet W.dict.ns (hr ▸ k)
theorem cw_get {name : Str} {Q : Option Value → Shared → Prop} (W : CW h₀ h a N co m) (k : Q (m name) ⟨h, g, d, tk, os⟩) : wpAny (model prog w) A (nsGet N name) Q E ⟨h, g, d, tk, os⟩ := wpAny_nsGet W.dict.ns k
theorem cw_set {name : Str} {v : Value} {Q : Unit → Shared → Prop} (W : CW h₀ h a N co m) (k : ∀ h', CW h₀ h' a N co (fun x => if x = name then some v else m x) → Q () ⟨h', g, d, tk + 1, os⟩) :
    wpAny (model prog w) A (nsSet N name v) Q E ⟨h, g, d, tk, os⟩ := wpAny_nsSet1 (s := ⟨h, g, d, tk, os⟩) W.dict fun h' hn hs => k h' (W.setN hn hs)
theorem cw_setV {name : Str} {v : Value} {Q : Unit → Shared → Prop} (W : CW h₀ h a N co m) (hz : ∃ o es ep, h.get? N = some o ∧ o.data = .dict es ep ∧ es.size ≤ sizeLine) (k : ∀ h', CW h₀ h' a N co (fun x => if x = name then some v else m x) → Q () ⟨h', g, d, tk + 1, os⟩) :
    wpAny (model prog w) A (nsSetByValue N name v) Q E ⟨h, g, d, tk, os⟩ := by
  (first | (refine Mine.e3_3 (hz) ?_; rintro o es ep ho hd hz) | (obtain ⟨o, es, ep, ho, hd, hz⟩ := hz))
  unfold nsSetByValue
  refine wpAny_bind (wpAny_loadPart (s := ⟨h, g, d, tk, os⟩) ho ?_)
  rw [hd]
  simp only
  rw [if_neg (by simp; (first | lia | omega))]
  exact cw_set W k
theorem cw_del {name : Str} {Q : Bool → Shared → Prop} (W : CW h₀ h a N co m) (k : ∀ h', CW h₀ h' a N co (fun x => if x = name then none else m x) → Q (m name).isSome ⟨h', g, d, tk, os⟩) :
    wpAny (model prog w) A (nsDel N name) Q E ⟨h, g, d, tk, os⟩ := wpAny_nsDel1 (s := ⟨h, g, d, tk, os⟩) W.dict fun h' hn hs => k h' (W.setN hn hs)
theorem cw_slot {i : Nat} {v : Option Value} {Q : Unit → Shared → Prop} (W : CW h₀ h a N co m) (hf : co.isFreed = false) (hi : i < 1000)
    (k : ∀ h', CW h₀ h' a N { co with slots := (co.slots ++ Array.replicate (i + 1 - co.slots.size) none).setIfInBounds i v } m → Q () ⟨h', g, d, tk, os⟩) :
    wpAny (model prog w) A (setSlotAt a i v) Q E ⟨h, g, d, tk, os⟩ := by
  unfold setSlotAt
  rw [if_neg (by rw [sizeLine_eq]; (first | lia | omega))]
  refine wpAny_updatePart (s := ⟨h, g, d, tk, os⟩) W.cls (k _ (W.setA (Heap.get?_update_self _ W.cls ?_) (Heap.SameBut.update ..)))
  (obtain ⟨c, dd, dt, sl⟩ := co)
  cases dt <;> first | rfl | exact hf
theorem cw_upd {cd : ClassData} {f : ClassData → ClassData} {Q : Unit → Shared → Prop} (W : CW h₀ h a N co m) (hd : co.data = .cls cd) (hp : (Data.cls (f cd)).pastItsLine = none)
    (k : ∀ h', CW h₀ h' a N { co with data := .cls (f cd) } m → Q () ⟨h', g, d, tk, os⟩) :
    wpAny (model prog w) A (updateCls a f) Q E ⟨h, g, d, tk, os⟩ := by
  (obtain ⟨c, dd, dt, sl⟩ := co)
  simp only at hd
  subst hd
  unfold updateCls
  refine wpAny_bind (wpAny_load (s := ⟨h, g, d, tk, os⟩) W.cls ?_)
  simp only
  have hg : (h.update a (Obj.mapCls f)).get? a = some (Obj.mapCls f ⟨c, dd, .cls cd, sl⟩) := Heap.get?_update_self _ W.cls rfl
  refine wpAny_bind (wpAny_update (s := ⟨h, g, d, tk, os⟩) W.cls (wpAny_lookBehind hg ?_ (k _ (W.setA hg (Heap.SameBut.update ..)))))
  exact hp
end
structure DN (h : Heap) (a : Addr) (m : Str → Option Value) (es : Array DictEntry) (ep : Nat) : Prop where
  at' : h.get? a = some { cls := .type "dict", data := .dict es ep }
  sk : StrKeys es
  uk : UniqKeys es
  ns : ∀ name, nsFind es name = m name
theorem DN.ns1 {h : Heap} {a : Addr} {m : Str → Option Value} {es : Array DictEntry} {ep : Nat} (x : DN h a m es ep) : h.Ns1 a m := ⟨_, es, ep, x.at', rfl, x.sk, x.uk, x.ns⟩
theorem any_of {es : Array DictEntry} {m : Str → Option Value} (hm : ∀ name, nsFind es name = m name) (name : Str) : (es.any fun x => x.key.isStr name) = (m name).isSome := by
  rw [← hm name]; simp only [nsFind, findBy, Option.isSome_map]
  rw [Bool.eq_iff_iff]; simp only [Array.find?_isSome, Array.any_eq_true]
  constructor
  · (rintro hcj; (first | (refine Mine.e1_2 hcj ?_; clear hcj; rintro i hi hp) | (refine Mine.e2_1 hcj ?_; clear hcj; rintro i hi hp) | (obtain ⟨i, hi, hp⟩ := hcj))); exact ⟨_, Array.getElem_mem hi, hp⟩
  · (rintro hcj; (first | (refine Mine.e1_2 hcj ?_; clear hcj; rintro x hx hp) | (refine Mine.e2_1 hcj ?_; clear hcj; rintro x hx hp) | (obtain ⟨x, hx, hp⟩ := hcj))); obtain ⟨i, hi, rfl⟩ := Array.mem_iff_getElem.mp hx; exact ⟨i, hi, hp⟩
theorem find_of {es : Array DictEntry} {m : Str → Option Value} (hm : ∀ name, nsFind es name = m name) {name : Str} {v : Value} (hv : m name = some v) : ∃ e, (es.find? fun x => x.key.isStr name) = some e ∧ e.val = v := by
  have := hm name
  rw [hv] at this
  simp only [nsFind, findBy, Option.map_eq_some_iff] at this
  exact this
theorem pigeon {α : Type} [BEq α] [LawfulBEq α] : ∀ (l k : List α), l.Nodup → (∀ x ∈ l, x ∈ k) → l.length ≤ k.length
  | [], _, _, _ => by simp
  | a :: l, k, hn, hs => by
    rw [List.nodup_cons] at hn
    have ha := hs a (by simp)
    have := pigeon l (k.erase a) hn.2 fun x hx => (List.mem_erase_of_ne (fun (q : x = a) => hn.1 (by rw [← q]; exact hx))).mpr (hs x (by simp [hx]))
    rw [List.length_erase_of_mem ha] at this
    have hk : 0 < k.length := List.length_pos_of_mem ha
    simp; (first | lia | omega)
noncomputable def keyName (e : DictEntry) : Str := match e.key with | .str n _ => n | _ => default
theorem entry_find {es : Array DictEntry} (sk : StrKeys es) (uk : UniqKeys es) {e : DictEntry} (he : e ∈ es) : nsFind es (keyName e) = some e.val := by
  obtain ⟨l⟩ := es
  simp only [nsFind, findBy, List.find?_toArray]
  replace uk : l.Pairwise fun a b => ∀ n, a.key.isStr n = true → b.key.isStr n = true → False := uk
  have he' : e ∈ l := by simpa using he
  have sk' : ∀ e ∈ l, ∃ n t, e.key = .str n t := fun e he => sk e (by simpa using he)
  clear he sk
  induction l with
  | nil => simp at he'
  | cons a l ih =>
    rw [List.pairwise_cons] at uk
    rw [List.find?_cons]
    rcases List.mem_cons.mp he' with rfl | hm
    · (first | (refine Mine.e1_2 (sk' e (by simp)) ?_; rintro n t hk) | (refine Mine.e2_1 (sk' e (by simp)) ?_; rintro n t hk) | (obtain ⟨n, t, hk⟩ := sk' e (by simp)))
      have : e.key.isStr (keyName e) = true := by unfold keyName; rw [hk]; simp [Value.isStr]
      rw [this]; rfl
    · cases hq : a.key.isStr (keyName e) with
      | true =>
        (first | (refine Mine.e1_2 (sk' e (by simp [hm])) ?_; rintro n t hk) | (refine Mine.e2_1 (sk' e (by simp [hm])) ?_; rintro n t hk) | (obtain ⟨n, t, hk⟩ := sk' e (by simp [hm])))
        have : e.key.isStr (keyName e) = true := by unfold keyName; rw [hk]; simp [Value.isStr]
        exact (uk.1 e hm _ hq this).elim
      | false => exact ih uk.2 hm fun e he => sk' e (by simp [he])
theorem es_size {es : Array DictEntry} {m : Str → Option Value} (sk : StrKeys es) (uk : UniqKeys es) (ns : ∀ name, nsFind es name = m name) (k : List Str) (hm : ∀ x, m x ≠ none → x ∈ k) : es.size ≤ k.length := by
  have := pigeon (es.toList.map keyName) k ?_ ?_
  · simpa using this
  · rw [List.Nodup, List.pairwise_map]
    refine List.Pairwise.imp_of_mem ?_ uk
    intro a b ha hb hab q
    (first | (refine Mine.e1_2 (sk a (by simpa using ha)) ?_; rintro n t hk) | (refine Mine.e2_1 (sk a (by simpa using ha)) ?_; rintro n t hk) | (obtain ⟨n, t, hk⟩ := sk a (by simpa using ha)))
    (first | (refine Mine.e1_2 (sk b (by simpa using hb)) ?_; rintro n' t' hk') | (refine Mine.e2_1 (sk b (by simpa using hb)) ?_; rintro n' t' hk') | (obtain ⟨n', t', hk'⟩ := sk b (by simpa using hb)))
    simp only [keyName, hk, hk'] at q
    subst q
    exact hab n (by rw [hk]; simp [Value.isStr]) (by rw [hk']; simp [Value.isStr])
  · intro x hx
    (first | (refine Mine.e1_2 (List.mem_map.mp hx) ?_; rintro e he rfl) | (refine Mine.e2_1 (List.mem_map.mp hx) ?_; rintro e he rfl) | (obtain ⟨e, he, rfl⟩ := List.mem_map.mp hx))
    refine hm _ ?_
    rw [← ns, entry_find sk uk (by simpa using he)]
    simp
end Mine
end
section
open PySem PySem.W PySem.Calls PyProof.Rows
set_option Elab.async false
set_option maxRecDepth 100000
namespace Mine
section
variable {prog : Program} {w : World} {A : Around} {E : Value → Shared → Prop} {g : Array GenState} {d : Drawn} {os : OsState} {h₀ h : Heap} {tk : Nat} {a N : Addr} {co : Obj} {m : Str → Option Value}

theorem cw_slotE {i : Nat} {v : Option Value} {Q : Unit → Shared → Prop} (co' : Obj) (W : CW h₀ h a N co m) (he : ({ co with slots := (co.slots ++ Array.replicate (i + 1 - co.slots.size) none).setIfInBounds i v } : Obj) = co') (hf : co.isFreed = false) (hi : i < 1000)
    (k : ∀ h', CW h₀ h' a N co' m → Q () ⟨h', g, d, tk, os⟩) : wpAny (model prog w) A (setSlotAt a i v) Q E ⟨h, g, d, tk, os⟩ := cw_slot W hf hi (he ▸ k)
theorem cw_updE {cd : ClassData} {f : ClassData → ClassData} {Q : Unit → Shared → Prop} (co' : Obj) (W : CW h₀ h a N co m) (hd : co.data = .cls cd) (he : ({ co with data := .cls (f cd) } : Obj) = co') (hp : (Data.cls (f cd)).pastItsLine = none)
    (k : ∀ h', CW h₀ h' a N co' m → Q () ⟨h', g, d, tk, os⟩) : wpAny (model prog w) A (updateCls a f) Q E ⟨h, g, d, tk, os⟩ := cw_upd W hd hp (he ▸ k)
theorem wp_mroC {cd : ClassData} {Q : List Value → Shared → Prop} (ho : h.get? a = some co) (hd : co.data = .cls cd) (k : Q cd.mro ⟨h, g, d, tk, os⟩) : wpAny (model prog w) A (mroOf (.ref a)) Q E ⟨h, g, d, tk, os⟩ := by
  obtain ⟨c, dd, dt, sl⟩ := co
  simp only at hd
  subst hd
  unfold mroOf classData
  repeat (any_goals (first | assumption | wp_step))
theorem wp_lookC {cd : ClassData} {name : Str} {y : Option Value} {Q : Option Value → Shared → Prop} (ho : h.get? a = some co) (hd : co.data = .cls cd) (hm : cd.mro = [.ref a, .type "object"]) (hN : h.Ns cd.ns m)
    (hy : typeLookup (.type "object") name = pure y) (k : Q (match m name with | some v => some v | none => y) ⟨h, g, d, tk, os⟩) : wpAny (model prog w) A (typeLookup (.ref a) name) Q E ⟨h, g, d, tk, os⟩ := by
  have hmro : mroOf (.type "object") = pure [.type "object"] := by kernel_rfl
  have hrest : lookupAlong [.type "object"] name = pure y := by rw [typeLookup_eq, hmro] at hy; exact hy
  rw [typeLookup_eq]
  refine wpAny_bind (wp_mroC ho hd ?_)
  rw [hm, lookupAlong_cons]
  refine wpAny_bind ?_
  unfold classOwn
  refine wpAny_bind ?_
  unfold classData
  refine wpAny_bind (wpAny_load (s := ⟨h, g, d, tk, os⟩) ho ?_)
  rw [hd]
  refine wpAny_pure (wpAny_nsGet hN ?_)
  cases hv : m name with
  | some v => rw [hv] at k; exact wpAny_pure k
  | none => rw [hv] at k; simp only; rw [hrest]; exact wpAny_pure k

theorem obj_new_look : typeLookup (.type "object") "__new__" = pure (some (.builtin "object.__new__")) := by rw [typeLookup_type, builtinLookup_eq_fast]; kernel_rfl
theorem wp_refresh {cd : ClassData} {Q : Unit → Shared → Prop} (W : CW h₀ h a N co m) (hd : co.data = .cls cd) (hm : cd.mro = [.ref a, .type "object"]) (hN : cd.ns = N) (h4 : co.slots[4]? = some (some (.builtin "object.__new__"))) (m5 : m "__new__" = none)
    (k : Q () ⟨h, g, d, tk, os⟩) : wpAny (model prog w) A (Bind.refreshMaker a) Q E ⟨h, g, d, tk, os⟩ := by
  unfold Bind.refreshMaker
  refine wpAny_bind ?_
  unfold slotAt
  refine wpAny_bind (wpAny_loadPart (s := ⟨h, g, d, tk, os⟩) W.cls (wpAny_pure ?_))
  rw [h4]
  refine wpAny_ite_false (by rfl) ?_
  refine wpAny_bind (wp_lookC W.cls hd hm (hN ▸ W.dict.ns) obj_new_look ?_)
  rw [m5]
  simp only
  refine wpAny_ite_false (by decide +kernel) (wpAny_pure k)

theorem sl_dict' : Builtin.Slots.givesDict (.type "object") = pure false := by kernel_rfl
set_option maxHeartbeats 2000000 in
theorem wp_install {cd : ClassData} {Q : Unit → Shared → Prop} (W : CW h₀ h a N co m) (hd : co.data = .cls cd) (m2 : m "obj" = none) (hz : ∃ o es ep, h.get? N = some o ∧ o.data = .dict es ep ∧ es.size ≤ 1000)
    (hp : (Data.cls { cd with hasDict := false, slotNames := ["obj"] }).pastItsLine = none)
    (k : ∀ h₁ h' md t' t2, Stay h₀ h₁ → CW h₁ h' a N { co with data := .cls { cd with hasDict := false, slotNames := ["obj"] } } (fun x => if x = "obj" then some (.ref md) else m x) →
      h₁.get? md = some { cls := .type "member_descriptor", data := .fields #[.str "obj" t', .ref a, .builtin "proto.slot", .builtin "proto.slot#set", .int 0 0] } → Q () ⟨h', g, d, t2, os⟩) :
    wpAny (model prog w) A (Builtin.Slots.install (.ref a) N [.type "object"] { names := ["obj"], dict := false, weak := false, inherited := [] }) Q E ⟨h, g, d, tk, os⟩ := by
  unfold Builtin.Slots.install
  have e1 := sl_dict'
  repeat ((fail_if_success (with_reducible show wpAny _ _ (nsGet _ _) _ _ _)); (first | with_reducible (first | refine wpAny_pure ?_ | refine wpAny_bind ?_ | refine wpAny_holding ?_ | refine wpAny_standAt ?_ | refine wpAny_point ?_ | refine wpAny_rule ?_ | refine wpAny_letGo ?_ | refine wpAny_mkInt' ?_ | refine wpAny_mkStr' ?_ | refine wpAny_fresh' ?_ | refine wpAny_alloc' ?_ | refine wpAny_attempt ?_ | refine wpAny_of_eq (by assumption) ?_ | refine wpAny_typeOf (by assumption) ?_ | refine wpAny_specialOf_val (by assumption) (by assumption) ?_ | refine wpAny_specialOf (by assumption) (by assumption) ?_ | refine wpAny_isInstance_val (by assumption) (by assumption) ?_ | refine wpAny_isInstance (by assumption) (by assumption) ?_ | refine wpAny_call ?_ | refine wpAny_runValue ?_ | refine wpAny_run ?_) | ((with_reducible show wpAny _ _ (load _) _ _ _); (with_reducible apply wpAny_load'); focus (heap_get; done)) | ((with_reducible show wpAny _ _ (update _ _) _ _ _); (with_reducible apply wpAny_update'); focus (heap_get; done)) | ((with_reducible show wpAny _ _ (loadPart _ _) _ _ _); (with_reducible apply wpAny_loadPart'); focus (heap_get; done)) | ((with_reducible show wpAny _ _ (updatePart _ _ _) _ _ _); (with_reducible apply wpAny_updatePart'); focus (heap_get; done)) | ((with_reducible refine wpAny_ite_false ?hc ?_); (case hc => first | (decide +kernel; done) | (rfl; done))) | ((with_reducible refine wpAny_ite_true ?hc ?_); (case hc => first | (decide +kernel; done) | (rfl; done))) | wp_delta | with_reducible_and_instances refine wpAny_pure ?_ | with_reducible_and_instances refine wpAny_bind ?_))
  refine cw_get' W m2 ?_
  repeat ((fail_if_success (with_reducible show wpAny _ _ (nsSetByValue _ _ _) _ _ _)); (first | with_reducible (first | refine wpAny_pure ?_ | refine wpAny_bind ?_ | refine wpAny_holding ?_ | refine wpAny_standAt ?_ | refine wpAny_point ?_ | refine wpAny_rule ?_ | refine wpAny_letGo ?_ | refine wpAny_mkInt' ?_ | refine wpAny_mkStr' ?_ | refine wpAny_fresh' ?_ | refine wpAny_alloc' ?_ | refine wpAny_attempt ?_ | refine wpAny_of_eq (by assumption) ?_ | refine wpAny_typeOf (by assumption) ?_ | refine wpAny_specialOf_val (by assumption) (by assumption) ?_ | refine wpAny_specialOf (by assumption) (by assumption) ?_ | refine wpAny_isInstance_val (by assumption) (by assumption) ?_ | refine wpAny_isInstance (by assumption) (by assumption) ?_ | refine wpAny_call ?_ | refine wpAny_runValue ?_ | refine wpAny_run ?_) | ((with_reducible show wpAny _ _ (load _) _ _ _); (with_reducible apply wpAny_load'); focus (heap_get; done)) | ((with_reducible show wpAny _ _ (update _ _) _ _ _); (with_reducible apply wpAny_update'); focus (heap_get; done)) | ((with_reducible show wpAny _ _ (loadPart _ _) _ _ _); (with_reducible apply wpAny_loadPart'); focus (heap_get; done)) | ((with_reducible show wpAny _ _ (updatePart _ _ _) _ _ _); (with_reducible apply wpAny_updatePart'); focus (heap_get; done)) | ((with_reducible refine wpAny_ite_false ?hc ?_); (case hc => first | (decide +kernel; done) | (rfl; done))) | ((with_reducible refine wpAny_ite_true ?hc ?_); (case hc => first | (decide +kernel; done) | (rfl; done))) | wp_delta | with_reducible_and_instances refine wpAny_pure ?_ | with_reducible_and_instances refine wpAny_bind ?_))
  have hmd : (h.push { cls := .type "member_descriptor", data := .fields #[.str "obj" tk, .ref a, .builtin "proto.slot", .builtin "proto.slot#set", .int 0 0] }).get? h.objs.size = some { cls := .type "member_descriptor", data := .fields #[.str "obj" tk, .ref a, .builtin "proto.slot", .builtin "proto.slot#set", .int 0 0] } := Heap.get?_push_size _ rfl
  have W1 := W.stay (h' := h.push { cls := .type "member_descriptor", data := .fields #[.str "obj" tk, .ref a, .builtin "proto.slot", .builtin "proto.slot#set", .int 0 0] }) fun _ _ e => Heap.get?_push_of_some _ e
  have hmN : h.objs.size ≠ N := by obtain ⟨o, _, _, e, _⟩ := W.dict; exact Nat.ne_of_gt (Heap.lt_size e)
  have hma : h.objs.size ≠ a := Nat.ne_of_gt (Heap.lt_size W.cls)
  obtain ⟨W1', S1⟩ := W1.ground
  refine cw_setV W1' ?_ fun h₂ W2 => ?_
  · obtain ⟨o, es, ep, e1, e2, e3⟩ := hz
    exact ⟨o, es, ep, Heap.get?_push_of_some _ e1, e2, by rw [sizeLine_eq]; omega⟩
  repeat ((fail_if_success (with_reducible show wpAny _ _ (updateCls _ _) _ _ _)); (first | with_reducible (first | refine wpAny_pure ?_ | refine wpAny_bind ?_ | refine wpAny_holding ?_ | refine wpAny_standAt ?_ | refine wpAny_point ?_ | refine wpAny_rule ?_ | refine wpAny_letGo ?_ | refine wpAny_mkInt' ?_ | refine wpAny_mkStr' ?_ | refine wpAny_fresh' ?_ | refine wpAny_alloc' ?_ | refine wpAny_attempt ?_ | refine wpAny_of_eq (by assumption) ?_ | refine wpAny_typeOf (by assumption) ?_ | refine wpAny_specialOf_val (by assumption) (by assumption) ?_ | refine wpAny_specialOf (by assumption) (by assumption) ?_ | refine wpAny_isInstance_val (by assumption) (by assumption) ?_ | refine wpAny_isInstance (by assumption) (by assumption) ?_ | refine wpAny_call ?_ | refine wpAny_runValue ?_ | refine wpAny_run ?_) | ((with_reducible show wpAny _ _ (load _) _ _ _); (with_reducible apply wpAny_load'); focus (heap_get; done)) | ((with_reducible show wpAny _ _ (update _ _) _ _ _); (with_reducible apply wpAny_update'); focus (heap_get; done)) | ((with_reducible show wpAny _ _ (loadPart _ _) _ _ _); (with_reducible apply wpAny_loadPart'); focus (heap_get; done)) | ((with_reducible show wpAny _ _ (updatePart _ _ _) _ _ _); (with_reducible apply wpAny_updatePart'); focus (heap_get; done)) | ((with_reducible refine wpAny_ite_false ?hc ?_); (case hc => first | (decide +kernel; done) | (rfl; done))) | ((with_reducible refine wpAny_ite_true ?hc ?_); (case hc => first | (decide +kernel; done) | (rfl; done))) | wp_delta | with_reducible_and_instances refine wpAny_pure ?_ | with_reducible_and_instances refine wpAny_bind ?_))
  refine cw_upd W2 hd hp fun h₃ W3 => ?_
  exact k _ h₃ _ tk _ S1 W3 (hideAll_get _ hmd (by simp; exact ⟨hma, hmN⟩))
end
end Mine
end
section
open PySem PySem.W PySem.Calls PyProof.Rows
set_option Elab.async false
set_option maxRecDepth 100000
namespace Mine
section
variable {prog : Program} {w : World} {A : Around} {E : Value → Shared → Prop} {g : Array GenState} {d : Drawn} {os : OsState} {h : Heap} {tk : Nat} {C N : Addr} {m : Str → Option Value}
variable {nm q : Str} {k0 k1 k2 k3 k5 : Option Value}

noncomputable abbrev kObj (nm q : Str) (C N : Addr) (k0 k1 k2 k3 k5 : Option Value) : Obj := excClassObj nm q C N [.type "object"] [.type "object"] false ["obj"] [] false none none k0 k1 k2 k3 k5 "object.__new__"

theorem sup_mro : ∃ c tl, mroOf (.type "super") = pure (c :: tl) := ⟨.type "super", [.type "object"], by kernel_rfl⟩
theorem sup_slot : Slot "super" "__init__" "super.__init__" :=
  .of (owner := "super") (n := "__init__") (by rw [typeLookup_type, builtinLookup_eq_fast]; kernel_rfl) (by decide +kernel) (by decide +kernel) (by decide +kernel)
    (by first | exact .inl (by decide +kernel) | exact .inr (by decide +kernel)) (by rw [isSubtype_type]; kernel_rfl)
theorem sup_called : TypeCalled "super" "super.__new__" "super.__init__" :=
  ⟨by decide +kernel, by decide +kernel, sup_mro, by kernel_rfl, by decide +kernel, by rw [isSubtype_type]; kernel_rfl, sup_slot⟩
theorem sup_ca (a b : Value) : (match Manifest.signature? s!"type.{"super"}" with | some sig => Bind.checkArgs s!"type.{"super"}" sig ⟨[a, b], []⟩ | none => pure ()) = pure () := by kernel_rfl
theorem wp_ctc {Q : Unit → Shared → Prop} (hC : h.get? C = some (kObj nm q C N k0 k1 k2 k3 k5)) (k : Q () ⟨h, g, d, tk, os⟩) : wpAny (model prog w) A (checkTypeCall "super" ⟨[.ref C, .ref C], []⟩) Q E ⟨h, g, d, tk, os⟩ := by
  have e3 : isSubtype (.type "type") (.type "type") = pure true := by rw [isSubtype_type]; kernel_rfl
  unfold checkTypeCall
  have := sup_ca (.ref C) (.ref C)
  cases hs : Manifest.signature? s!"type.{"super"}" with
  | none =>
    repeat (first | with_reducible refine wpAny_loadPart_at hC ?_ | (first | with_reducible (first | refine wpAny_pure ?_ | refine wpAny_bind ?_ | refine wpAny_holding ?_ | refine wpAny_standAt ?_ | refine wpAny_point ?_ | refine wpAny_rule ?_ | refine wpAny_letGo ?_ | refine wpAny_mkInt' ?_ | refine wpAny_mkStr' ?_ | refine wpAny_fresh' ?_ | refine wpAny_alloc' ?_ | refine wpAny_attempt ?_ | refine wpAny_of_eq (by assumption) ?_ | refine wpAny_typeOf (by assumption) ?_ | refine wpAny_specialOf_val (by assumption) (by assumption) ?_ | refine wpAny_specialOf (by assumption) (by assumption) ?_ | refine wpAny_isInstance_val (by assumption) (by assumption) ?_ | refine wpAny_isInstance (by assumption) (by assumption) ?_ | refine wpAny_call ?_ | refine wpAny_runValue ?_ | refine wpAny_run ?_) | ((with_reducible show wpAny _ _ (load _) _ _ _); (with_reducible apply wpAny_load'); focus (heap_get; done)) | ((with_reducible show wpAny _ _ (update _ _) _ _ _); (with_reducible apply wpAny_update'); focus (heap_get; done)) | ((with_reducible show wpAny _ _ (loadPart _ _) _ _ _); (with_reducible apply wpAny_loadPart'); focus (heap_get; done)) | ((with_reducible show wpAny _ _ (updatePart _ _ _) _ _ _); (with_reducible apply wpAny_updatePart'); focus (heap_get; done)) | ((with_reducible refine wpAny_ite_false ?hc ?_); (case hc => first | (decide +kernel; done) | (rfl; done))) | ((with_reducible refine wpAny_ite_true ?hc ?_); (case hc => first | (decide +kernel; done) | (rfl; done))) | wp_delta | with_reducible_and_instances refine wpAny_pure ?_ | with_reducible_and_instances refine wpAny_bind ?_))
    exact k
  | some sig =>
    rw [hs] at this
    repeat (first | with_reducible refine wpAny_loadPart_at hC ?_ | (first | with_reducible (first | refine wpAny_pure ?_ | refine wpAny_bind ?_ | refine wpAny_holding ?_ | refine wpAny_standAt ?_ | refine wpAny_point ?_ | refine wpAny_rule ?_ | refine wpAny_letGo ?_ | refine wpAny_mkInt' ?_ | refine wpAny_mkStr' ?_ | refine wpAny_fresh' ?_ | refine wpAny_alloc' ?_ | refine wpAny_attempt ?_ | refine wpAny_of_eq (by assumption) ?_ | refine wpAny_typeOf (by assumption) ?_ | refine wpAny_specialOf_val (by assumption) (by assumption) ?_ | refine wpAny_specialOf (by assumption) (by assumption) ?_ | refine wpAny_isInstance_val (by assumption) (by assumption) ?_ | refine wpAny_isInstance (by assumption) (by assumption) ?_ | refine wpAny_call ?_ | refine wpAny_runValue ?_ | refine wpAny_run ?_) | ((with_reducible show wpAny _ _ (load _) _ _ _); (with_reducible apply wpAny_load'); focus (heap_get; done)) | ((with_reducible show wpAny _ _ (update _ _) _ _ _); (with_reducible apply wpAny_update'); focus (heap_get; done)) | ((with_reducible show wpAny _ _ (loadPart _ _) _ _ _); (with_reducible apply wpAny_loadPart'); focus (heap_get; done)) | ((with_reducible show wpAny _ _ (updatePart _ _ _) _ _ _); (with_reducible apply wpAny_updatePart'); focus (heap_get; done)) | ((with_reducible refine wpAny_ite_false ?hc ?_); (case hc => first | (decide +kernel; done) | (rfl; done))) | ((with_reducible refine wpAny_ite_true ?hc ?_); (case hc => first | (decide +kernel; done) | (rfl; done))) | wp_delta | with_reducible_and_instances refine wpAny_pure ?_ | with_reducible_and_instances refine wpAny_bind ?_))
    exact k
theorem sup_nc (a b : Value) : checkBuiltinCall "super.__new__" ⟨[.type "super", a, b], []⟩ = pure () := by kernel_rfl
theorem sup_en : entryFor table "super.__new__" = some Builtin.«super.__new__» := PySem.entryFor_of_tree (by kernel_rfl)
theorem sup_ei : entryFor table "super.__init__" = some Builtin.«super.__init__» := PySem.entryFor_of_tree (by kernel_rfl)
theorem sup_args (a b c : Value) : argsOk "super.__init__" ⟨[a, b, c], []⟩ := by
  unfold argsOk; kernel_rfl
theorem sup_new (a b : Value) : Meets (Builtin.«super.__new__» ⟨[.type "super", a, b], []⟩) (fun _ R s => R (.ok (.ret (.ref s.heap.objs.size))) { s with heap := s.heap.push { cls := .type "super", data := .fields #[.none, .none, .none] } }) :=
  .of_wp fun prog w A R s h => by
    (obtain ⟨hp, g, d, tk, os⟩ := s)
    unfold Builtin.«super.__new__»
    wp_walk
    exact ⟨_, rfl, h⟩
theorem sup_init (X C N : Addr) (nm q : Str) (k0 k1 k2 k3 k5 : Option Value) (hX : C ≠ X) : Meets (Builtin.«super.__init__» ⟨[.ref X, .ref C, .ref C], []⟩) (fun _ R s => s.heap.get? C = some (kObj nm q C N k0 k1 k2 k3 k5) ∧
    s.heap.get? X = some { cls := .type "super", data := .fields #[.none, .none, .none] } ∧ ∀ h', h'.get? X = some { cls := .type "super", data := .fields #[.ref C, .ref C, .ref C] } → Off X s.heap h' → R (.ok (.ret .none)) { s with heap := h' }) :=
  .of_wp fun prog w A R s h => by
    (obtain ⟨hp, g, d, tk, os⟩ := s)
    (first | (refine Mine.e0_3 (h) ?_; rintro hC hS k) | (refine Mine.e2_1 (h) ?_; rintro hC hS k) | (obtain ⟨hC, hS, k⟩ := h))
    have e3 : isSubtype (.type "type") (.type "type") = pure true := by rw [isSubtype_type]; kernel_rfl
    unfold Builtin.«super.__init__»
    simp only at hC hS k
    repeat (first | with_reducible refine wpAny_loadPart_at hC ?_ | with_reducible refine wpAny_isSubtype_exc hC ?_ | (first | with_reducible (first | refine wpAny_pure ?_ | refine wpAny_bind ?_ | refine wpAny_holding ?_ | refine wpAny_standAt ?_ | refine wpAny_point ?_ | refine wpAny_rule ?_ | refine wpAny_letGo ?_ | refine wpAny_mkInt' ?_ | refine wpAny_mkStr' ?_ | refine wpAny_fresh' ?_ | refine wpAny_alloc' ?_ | refine wpAny_attempt ?_ | refine wpAny_of_eq (by assumption) ?_ | refine wpAny_typeOf (by assumption) ?_ | refine wpAny_specialOf_val (by assumption) (by assumption) ?_ | refine wpAny_specialOf (by assumption) (by assumption) ?_ | refine wpAny_isInstance_val (by assumption) (by assumption) ?_ | refine wpAny_isInstance (by assumption) (by assumption) ?_ | refine wpAny_call ?_ | refine wpAny_runValue ?_ | refine wpAny_run ?_) | ((with_reducible show wpAny _ _ (load _) _ _ _); (with_reducible apply wpAny_load'); focus (heap_get; done)) | ((with_reducible show wpAny _ _ (update _ _) _ _ _); (with_reducible apply wpAny_update'); focus (heap_get; done)) | ((with_reducible show wpAny _ _ (loadPart _ _) _ _ _); (with_reducible apply wpAny_loadPart'); focus (heap_get; done)) | ((with_reducible show wpAny _ _ (updatePart _ _ _) _ _ _); (with_reducible apply wpAny_updatePart'); focus (heap_get; done)) | ((with_reducible refine wpAny_ite_false ?hc ?_); (case hc => first | (decide +kernel; done) | (rfl; done))) | ((with_reducible refine wpAny_ite_true ?hc ?_); (case hc => first | (decide +kernel; done) | (rfl; done))) | wp_delta | with_reducible_and_instances refine wpAny_pure ?_ | with_reducible_and_instances refine wpAny_bind ?_))
    refine wpAny_ite_true (by simp) ?_
    repeat (first | with_reducible refine wpAny_loadPart_at hC ?_ | with_reducible refine wpAny_isSubtype_exc hC ?_ | (first | with_reducible (first | refine wpAny_pure ?_ | refine wpAny_bind ?_ | refine wpAny_holding ?_ | refine wpAny_standAt ?_ | refine wpAny_point ?_ | refine wpAny_rule ?_ | refine wpAny_letGo ?_ | refine wpAny_mkInt' ?_ | refine wpAny_mkStr' ?_ | refine wpAny_fresh' ?_ | refine wpAny_alloc' ?_ | refine wpAny_attempt ?_ | refine wpAny_of_eq (by assumption) ?_ | refine wpAny_typeOf (by assumption) ?_ | refine wpAny_specialOf_val (by assumption) (by assumption) ?_ | refine wpAny_specialOf (by assumption) (by assumption) ?_ | refine wpAny_isInstance_val (by assumption) (by assumption) ?_ | refine wpAny_isInstance (by assumption) (by assumption) ?_ | refine wpAny_call ?_ | refine wpAny_runValue ?_ | refine wpAny_run ?_) | ((with_reducible show wpAny _ _ (load _) _ _ _); (with_reducible apply wpAny_load'); focus (heap_get; done)) | ((with_reducible show wpAny _ _ (update _ _) _ _ _); (with_reducible apply wpAny_update'); focus (heap_get; done)) | ((with_reducible show wpAny _ _ (loadPart _ _) _ _ _); (with_reducible apply wpAny_loadPart'); focus (heap_get; done)) | ((with_reducible show wpAny _ _ (updatePart _ _ _) _ _ _); (with_reducible apply wpAny_updatePart'); focus (heap_get; done)) | ((with_reducible refine wpAny_ite_false ?hc ?_); (case hc => first | (decide +kernel; done) | (rfl; done))) | ((with_reducible refine wpAny_ite_true ?hc ?_); (case hc => first | (decide +kernel; done) | (rfl; done))) | wp_delta | with_reducible_and_instances refine wpAny_pure ?_ | with_reducible_and_instances refine wpAny_bind ?_))
    refine ⟨_, rfl, k _ ?_ ?_⟩
    · rw [Heap.get?_update_self _ (Heap.get?_update_self _ (Heap.get?_update_self _ hS rfl) rfl) rfl]; rfl
    · intro b o hb e
      rw [Heap.get?_update_ne _ _ _ _ hb, Heap.get?_update_ne _ _ _ _ hb, Heap.get?_update_ne _ _ _ _ hb]; exact e

set_option maxHeartbeats 2000000 in
theorem wp_super {Q : Value → Shared → Prop} (hC : h.get? C = some (kObj nm q C N k0 k1 k2 k3 k5))
    (k : ∀ S h', h.get? S = none → Stay h h' → h'.get? S = some { cls := .type "super", data := .fields #[.ref C, .ref C, .ref C] } → Q (.ref S) ⟨h', g, d, tk, os⟩) :
    wpAny (model prog w) A (call (.type "super") [.ref C, .ref C]) Q E ⟨h, g, d, tk, os⟩ := by
  have hlt := Heap.lt_size hC
  (first | (refine Mine.e0_3 (sup_called.mro) ?_; rintro c tl hmro) | (refine Mine.e2_1 (sup_called.mro) ?_; rintro c tl hmro) | (obtain ⟨c, tl, hmro⟩ := sup_called.mro))
  have hmade := sup_called.made
  have hsub := sup_called.sub
  refine wpAny_call (codeAny_of_tree ?_)
  show wpAny _ _ (callAny (.type "super") _) _ _ _
  refine wpAny_pure ⟨Code.quiet_builtin _ (by decide +kernel), codeAny_builtin PySem.F.entry_type_call ?_⟩
  rw [Around.under_plain (weight_type_call_type "super" _ []) (units_type_call_type "super" _ [])]
  have h1 := sup_called.notType
  have h2 := sup_called.canCreate
  repeat (any_goals (first | assumption | with_reducible refine wp_ctc hC ?_ | wp_step))
  have hnew : codeAny (model prog w) A.in1 (.call (.builtin "super.__new__") ⟨[.type "super", .ref C, .ref C], []⟩) (fun r s₁ => r = .ok (.ret (.ref h.objs.size)) ∧ s₁ = ⟨h.push { cls := .type "super", data := .fields #[.none, .none, .none] }, g, d, tk, os⟩) ⟨h, g, d, tk, os⟩ :=
    codeAny_call_builtin sup_called.plain sup_en (wpAny_of_eq (sup_nc _ _) (sup_new _ _ prog w A.in1 (fun r s₁ => r = .ok (.ret (.ref h.objs.size)) ∧ s₁ = ⟨h.push { cls := .type "super", data := .fields #[.none, .none, .none] }, g, d, tk, os⟩) ⟨h, g, d, tk, os⟩ ⟨rfl, rfl⟩))
  refine codeAny_mono hnew fun r s₁ hr => ?_
  obtain ⟨rfl, rfl⟩ := hr
  have hli := sup_slot.lookup
  have hbi := sup_slot.bind (.ref h.objs.size)
  have hT : Shared.TypeIs ⟨h.push { cls := .type "super", data := .fields #[.none, .none, .none] }, g, d, tk, os⟩ (.ref h.objs.size) "super" := ⟨_, Heap.get?_push_size _ rfl, rfl⟩
  show wpAny _ _ _ _ _ _
  repeat (any_goals (first | assumption | wp_step))
  have hini : codeAny (model prog w) A.in1 (.call (.builtin "super.__init__") ⟨[.ref h.objs.size, .ref C, .ref C], []⟩) (fun r s₁ => r = .ok (.ret .none) ∧ ∃ h', s₁ = ⟨h', g, d, tk, os⟩ ∧ h'.get? h.objs.size = some { cls := .type "super", data := .fields #[.ref C, .ref C, .ref C] } ∧
      Off h.objs.size (h.push { cls := .type "super", data := .fields #[.none, .none, .none] }) h') ⟨h.push { cls := .type "super", data := .fields #[.none, .none, .none] }, g, d, tk, os⟩ :=
    codeAny_call_builtin sup_slot.plain sup_ei (sup_slot.check _ _ _ _ _ _ _ _ hT (sup_args _ _ _) (sup_init _ C N nm q k0 k1 k2 k3 k5 (Nat.ne_of_lt hlt) prog w A.in1 (fun r s₁ => r = .ok (.ret .none) ∧ ∃ h', s₁ = ⟨h', g, d, tk, os⟩ ∧ h'.get? h.objs.size = some { cls := .type "super", data := .fields #[.ref C, .ref C, .ref C] } ∧ Off h.objs.size (h.push { cls := .type "super", data := .fields #[.none, .none, .none] }) h') _ ⟨Heap.get?_push_of_some _ hC, Heap.get?_push_size _ rfl, fun h' hX O => ⟨rfl, h', rfl, hX, O⟩⟩))
  refine codeAny_mono hini fun r s₁ hr => ?_
  (obtain ⟨rfl, h', rfl, hX, O⟩ := hr)
  show wpAny _ _ _ _ _ _
  repeat (any_goals (first | assumption | wp_step))
  exact k _ h' (Heap.get?_none_of_le (Nat.le_refl _)) (fun b o e => O b o (Nat.ne_of_lt (Heap.lt_size e)) (Heap.get?_push_of_some _ e)) hX
end
end Mine
end
section
open PySem PySem.W PySem.Calls PyProof.Rows
set_option Elab.async false
set_option maxRecDepth 100000
namespace Mine
section
variable {prog : Program} {w : World} {A : Around} {E : Value → Shared → Prop} {g : Array GenState} {d : Drawn} {os : OsState} {h : Heap} {tk : Nat} {C N S : Addr} {m mc : Str → Option Value}
variable {nm q : Str} {k0 k1 k2 k3 k5 : Option Value}

theorem sga_slot : Slot "super" "__getattribute__" "super.__getattribute__" :=
  .of (owner := "super") (n := "__getattribute__") (by rw [typeLookup_type, builtinLookup_eq_fast]; kernel_rfl) (by decide +kernel) (by decide +kernel) (by decide +kernel)
    (by first | exact .inl (by decide +kernel) | exact .inr (by decide +kernel)) (by rw [isSubtype_type]; kernel_rfl)
theorem sga_entry : entryFor table "super.__getattribute__" = some Builtin.«super.__getattribute__» := entryFor_of_tree (by kernel_rfl)
theorem sga_args (a b : Value) : argsOk "super.__getattribute__" ⟨[a, b], []⟩ := by unfold argsOk; kernel_rfl
theorem sga_own : classOwn (.type "object") "__init_subclass__" = pure (some (.builtin "object.__init_subclass__")) := by kernel_rfl
theorem sga_type : typeOf (.builtin "object.__init_subclass__") = pure (.type "classmethod_descriptor") := by show builtinType _ = _; rw [builtinType_eq_fast]; kernel_rfl
theorem sga_get : typeLookup (.type "classmethod_descriptor") "__get__" = pure (some (.builtin "classmethod_descriptor.__get__")) := by rw [typeLookup_type, builtinLookup_eq_fast]; kernel_rfl

theorem cdg_slot : Slot "classmethod_descriptor" "__get__" "classmethod_descriptor.__get__" :=
  .of (owner := "classmethod_descriptor") (n := "__get__") (by rw [typeLookup_type, builtinLookup_eq_fast]; kernel_rfl) (by decide +kernel) (by decide +kernel) (by decide +kernel)
    (by first | exact .inl (by decide +kernel) | exact .inr (by decide +kernel)) (by rw [isSubtype_type]; kernel_rfl)
theorem cdg_entry : entryFor table "classmethod_descriptor.__get__" = some Builtin.«classmethod_descriptor.__get__» := entryFor_of_tree (by kernel_rfl)
theorem cdg_args (a b c : Value) : argsOk "classmethod_descriptor.__get__" ⟨[a, b, c], []⟩ := by unfold argsOk; kernel_rfl
set_option maxHeartbeats 2000000 in
theorem wp_cdg {R : Result → Shared → Prop} (hC : h.get? C = some (kObj nm q C N k0 k1 k2 k3 k5))
    (k : R (.ok (.ret (.ref h.objs.size))) ⟨h.push { cls := .type "builtin_function_or_method", data := .fields #[.builtin "object.__init_subclass__", .ref C] }, g, d, tk, os⟩) :
    codeAny (model prog w) A (.call (.builtin "classmethod_descriptor.__get__") ⟨[.builtin "object.__init_subclass__", .none, .ref C], []⟩) R ⟨h, g, d, tk, os⟩ := by
  refine codeAny_call_builtin cdg_slot.plain cdg_entry (cdg_slot.check _ _ _ _ _ _ _ _ (show Shared.TypeIs ⟨h, g, d, tk, os⟩ (.builtin "object.__init_subclass__") "classmethod_descriptor" from sga_type) (cdg_args _ _ _) ?_)
  have e3 : isSubtype (.type "type") (.type "type") = pure true := by rw [isSubtype_type]; kernel_rfl
  have hc : [Value.ref C, Value.type "object"].contains (.type "object") = true := by simp
  unfold Builtin.«classmethod_descriptor.__get__»
  repeat (first | with_reducible refine wpAny_loadPart_at hC ?_ | with_reducible refine wpAny_isSubtype_exc hC ?_ | (first | with_reducible (first | refine wpAny_pure ?_ | refine wpAny_bind ?_ | refine wpAny_holding ?_ | refine wpAny_standAt ?_ | refine wpAny_point ?_ | refine wpAny_rule ?_ | refine wpAny_letGo ?_ | refine wpAny_mkInt' ?_ | refine wpAny_mkStr' ?_ | refine wpAny_fresh' ?_ | refine wpAny_alloc' ?_ | refine wpAny_attempt ?_ | refine wpAny_of_eq (by assumption) ?_ | refine wpAny_typeOf (by assumption) ?_ | refine wpAny_specialOf_val (by assumption) (by assumption) ?_ | refine wpAny_specialOf (by assumption) (by assumption) ?_ | refine wpAny_isInstance_val (by assumption) (by assumption) ?_ | refine wpAny_isInstance (by assumption) (by assumption) ?_ | refine wpAny_call ?_ | refine wpAny_runValue ?_ | refine wpAny_run ?_) | ((with_reducible show wpAny _ _ (load _) _ _ _); (with_reducible apply wpAny_load'); focus (heap_get; done)) | ((with_reducible show wpAny _ _ (update _ _) _ _ _); (with_reducible apply wpAny_update'); focus (heap_get; done)) | ((with_reducible show wpAny _ _ (loadPart _ _) _ _ _); (with_reducible apply wpAny_loadPart'); focus (heap_get; done)) | ((with_reducible show wpAny _ _ (updatePart _ _ _) _ _ _); (with_reducible apply wpAny_updatePart'); focus (heap_get; done)) | ((with_reducible refine wpAny_ite_false ?hc ?_); (case hc => first | (decide +kernel; done) | (rfl; done))) | ((with_reducible refine wpAny_ite_true ?hc ?_); (case hc => first | (decide +kernel; done) | (rfl; done))) | wp_delta | with_reducible_and_instances refine wpAny_pure ?_ | with_reducible_and_instances refine wpAny_bind ?_))
  exact k
set_option maxHeartbeats 4000000 in
theorem wp_sga {t : Tok} {Q : PySem.Fin → Shared → Prop} (hC : h.get? C = some (kObj nm q C N k0 k1 k2 k3 k5)) (hS : h.get? S = some { cls := .type "super", data := .fields #[.ref C, .ref C, .ref C] }) (hst : h.Ns cStatics mc) (hmc : mc "thirdparty.any" = none)
    (k : ∀ b h', h.get? b = none → Stay h h' → h'.get? b = some { cls := .type "builtin_function_or_method", data := .fields #[.builtin "object.__init_subclass__", .ref C] } → Q (.done (.ret (.ref b))) ⟨h', g, d, tk, os⟩) :
    wpAny (model prog w) A (Builtin.«super.__getattribute__» ⟨[.ref S, .str "__init_subclass__" t], []⟩) Q E ⟨h, g, d, tk, os⟩ := by
  have e1 := sga_own
  have e2 := sga_type
  have e3 := sga_get
  unfold Builtin.«super.__getattribute__»
  repeat ((fail_if_success (with_reducible show wpAny _ _ (forIn _ _ _) _ _ _)); first | with_reducible refine ns_get hst hmc ?_ | with_reducible refine wpAny_loadPart_at hS ?_ | with_reducible refine wpAny_mroOf_exc hC ?_ | (first | with_reducible (first | refine wpAny_pure ?_ | refine wpAny_bind ?_ | refine wpAny_holding ?_ | refine wpAny_standAt ?_ | refine wpAny_point ?_ | refine wpAny_rule ?_ | refine wpAny_letGo ?_ | refine wpAny_mkInt' ?_ | refine wpAny_mkStr' ?_ | refine wpAny_fresh' ?_ | refine wpAny_alloc' ?_ | refine wpAny_attempt ?_ | refine wpAny_of_eq (by assumption) ?_ | refine wpAny_typeOf (by assumption) ?_ | refine wpAny_specialOf_val (by assumption) (by assumption) ?_ | refine wpAny_specialOf (by assumption) (by assumption) ?_ | refine wpAny_isInstance_val (by assumption) (by assumption) ?_ | refine wpAny_isInstance (by assumption) (by assumption) ?_ | refine wpAny_call ?_ | refine wpAny_runValue ?_ | refine wpAny_run ?_) | ((with_reducible show wpAny _ _ (load _) _ _ _); (with_reducible apply wpAny_load'); focus (heap_get; done)) | ((with_reducible show wpAny _ _ (update _ _) _ _ _); (with_reducible apply wpAny_update'); focus (heap_get; done)) | ((with_reducible show wpAny _ _ (loadPart _ _) _ _ _); (with_reducible apply wpAny_loadPart'); focus (heap_get; done)) | ((with_reducible show wpAny _ _ (updatePart _ _ _) _ _ _); (with_reducible apply wpAny_updatePart'); focus (heap_get; done)) | ((with_reducible refine wpAny_ite_false ?hc ?_); (case hc => first | (decide +kernel; done) | (rfl; done))) | ((with_reducible refine wpAny_ite_true ?hc ?_); (case hc => first | (decide +kernel; done) | (rfl; done))) | wp_delta | with_reducible_and_instances refine wpAny_pure ?_ | with_reducible_and_instances refine wpAny_bind ?_))
  have hl : List.drop 1 (List.dropWhile (fun x => x != Value.ref C) [Value.ref C, Value.type "object"]) = [Value.type "object"] := by simp
  show wpAny _ _ (forIn (List.drop 1 (List.dropWhile (fun x => x != Value.ref C) [Value.ref C, Value.type "object"])) _ _) _ _ _
  rw [hl]
  have hi : (if (Value.ref C == Value.ref C) = true then Value.none else Value.ref C) = Value.none := by simp
  repeat ((fail_if_success (with_reducible show codeAny _ _ _ _ _)); (first | with_reducible (first | refine wpAny_pure ?_ | refine wpAny_bind ?_ | refine wpAny_holding ?_ | refine wpAny_standAt ?_ | refine wpAny_point ?_ | refine wpAny_rule ?_ | refine wpAny_letGo ?_ | refine wpAny_mkInt' ?_ | refine wpAny_mkStr' ?_ | refine wpAny_fresh' ?_ | refine wpAny_alloc' ?_ | refine wpAny_attempt ?_ | refine wpAny_of_eq (by assumption) ?_ | refine wpAny_typeOf (by assumption) ?_ | refine wpAny_specialOf_val (by assumption) (by assumption) ?_ | refine wpAny_specialOf (by assumption) (by assumption) ?_ | refine wpAny_isInstance_val (by assumption) (by assumption) ?_ | refine wpAny_isInstance (by assumption) (by assumption) ?_ | refine wpAny_call ?_ | refine wpAny_runValue ?_ | refine wpAny_run ?_) | ((with_reducible show wpAny _ _ (load _) _ _ _); (with_reducible apply wpAny_load'); focus (heap_get; done)) | ((with_reducible show wpAny _ _ (update _ _) _ _ _); (with_reducible apply wpAny_update'); focus (heap_get; done)) | ((with_reducible show wpAny _ _ (loadPart _ _) _ _ _); (with_reducible apply wpAny_loadPart'); focus (heap_get; done)) | ((with_reducible show wpAny _ _ (updatePart _ _ _) _ _ _); (with_reducible apply wpAny_updatePart'); focus (heap_get; done)) | ((with_reducible refine wpAny_ite_false ?hc ?_); (case hc => first | (decide +kernel; done) | (rfl; done))) | ((with_reducible refine wpAny_ite_true ?hc ?_); (case hc => first | (decide +kernel; done) | (rfl; done))) | wp_delta | with_reducible_and_instances refine wpAny_pure ?_ | with_reducible_and_instances refine wpAny_bind ?_))
  show codeAny _ _ (.call (.builtin "classmethod_descriptor.__get__") ⟨[.builtin "object.__init_subclass__", if (Value.ref C == Value.ref C) = true then Value.none else Value.ref C, .ref C], []⟩) _ _
  rw [hi]
  refine wp_cdg hC ?_
  show wpAny _ _ _ _ _ _
  repeat (first | with_reducible (first | refine wpAny_pure ?_ | refine wpAny_bind ?_ | refine wpAny_holding ?_ | refine wpAny_standAt ?_ | refine wpAny_point ?_ | refine wpAny_rule ?_ | refine wpAny_letGo ?_ | refine wpAny_mkInt' ?_ | refine wpAny_mkStr' ?_ | refine wpAny_fresh' ?_ | refine wpAny_alloc' ?_ | refine wpAny_attempt ?_ | refine wpAny_of_eq (by assumption) ?_ | refine wpAny_typeOf (by assumption) ?_ | refine wpAny_specialOf_val (by assumption) (by assumption) ?_ | refine wpAny_specialOf (by assumption) (by assumption) ?_ | refine wpAny_isInstance_val (by assumption) (by assumption) ?_ | refine wpAny_isInstance (by assumption) (by assumption) ?_ | refine wpAny_call ?_ | refine wpAny_runValue ?_ | refine wpAny_run ?_) | ((with_reducible show wpAny _ _ (load _) _ _ _); (with_reducible apply wpAny_load'); focus (heap_get; done)) | ((with_reducible show wpAny _ _ (update _ _) _ _ _); (with_reducible apply wpAny_update'); focus (heap_get; done)) | ((with_reducible show wpAny _ _ (loadPart _ _) _ _ _); (with_reducible apply wpAny_loadPart'); focus (heap_get; done)) | ((with_reducible show wpAny _ _ (updatePart _ _ _) _ _ _); (with_reducible apply wpAny_updatePart'); focus (heap_get; done)) | ((with_reducible refine wpAny_ite_false ?hc ?_); (case hc => first | (decide +kernel; done) | (rfl; done))) | ((with_reducible refine wpAny_ite_true ?hc ?_); (case hc => first | (decide +kernel; done) | (rfl; done))) | wp_delta | with_reducible_and_instances refine wpAny_pure ?_ | with_reducible_and_instances refine wpAny_bind ?_)
  exact k _ _ (Heap.get?_none_of_le (Nat.le_refl _)) (fun _ _ e => Heap.get?_push_of_some _ e) (Heap.get?_push_size _ rfl)

set_option maxHeartbeats 4000000 in
theorem wp_supAttr {Q : Value → Shared → Prop} (hC : h.get? C = some (kObj nm q C N k0 k1 k2 k3 k5)) (hS : h.get? S = some { cls := .type "super", data := .fields #[.ref C, .ref C, .ref C] }) (hst : h.Ns cStatics mc) (hmc : mc "thirdparty.any" = none)
    (k : ∀ b h' tk', h.get? b = none → Stay h h' → h'.get? b = some { cls := .type "builtin_function_or_method", data := .fields #[.builtin "object.__init_subclass__", .ref C] } → Q (.ref b) ⟨h', g, d, tk', os⟩) :
    wpAny (model prog w) A (getAttr (.ref S) "__init_subclass__") Q E ⟨h, g, d, tk, os⟩ := by
  have e1 := sga_slot.lookup
  have e2 := sga_slot.bind (.ref S)
  have hT : Shared.TypeIs ⟨h, g, d, tk + 1, os⟩ (.ref S) "super" := ⟨_, hS, rfl⟩
  unfold getAttr
  repeat ((fail_if_success (with_reducible show codeAny _ _ _ _ _)); first | with_reducible refine wpAny_loadPart_at hS ?_ | (first | with_reducible (first | refine wpAny_pure ?_ | refine wpAny_bind ?_ | refine wpAny_holding ?_ | refine wpAny_standAt ?_ | refine wpAny_point ?_ | refine wpAny_rule ?_ | refine wpAny_letGo ?_ | refine wpAny_mkInt' ?_ | refine wpAny_mkStr' ?_ | refine wpAny_fresh' ?_ | refine wpAny_alloc' ?_ | refine wpAny_attempt ?_ | refine wpAny_of_eq (by assumption) ?_ | refine wpAny_typeOf (by assumption) ?_ | refine wpAny_specialOf_val (by assumption) (by assumption) ?_ | refine wpAny_specialOf (by assumption) (by assumption) ?_ | refine wpAny_isInstance_val (by assumption) (by assumption) ?_ | refine wpAny_isInstance (by assumption) (by assumption) ?_ | refine wpAny_call ?_ | refine wpAny_runValue ?_ | refine wpAny_run ?_) | ((with_reducible show wpAny _ _ (load _) _ _ _); (with_reducible apply wpAny_load'); focus (heap_get; done)) | ((with_reducible show wpAny _ _ (update _ _) _ _ _); (with_reducible apply wpAny_update'); focus (heap_get; done)) | ((with_reducible show wpAny _ _ (loadPart _ _) _ _ _); (with_reducible apply wpAny_loadPart'); focus (heap_get; done)) | ((with_reducible show wpAny _ _ (updatePart _ _ _) _ _ _); (with_reducible apply wpAny_updatePart'); focus (heap_get; done)) | ((with_reducible refine wpAny_ite_false ?hc ?_); (case hc => first | (decide +kernel; done) | (rfl; done))) | ((with_reducible refine wpAny_ite_true ?hc ?_); (case hc => first | (decide +kernel; done) | (rfl; done))) | wp_delta | with_reducible_and_instances refine wpAny_pure ?_ | with_reducible_and_instances refine wpAny_bind ?_))
  refine codeAny_call_builtin sga_slot.plain sga_entry (sga_slot.check _ _ _ _ _ _ _ _ hT (sga_args _ _) ?_)
  refine wp_sga hC hS hst hmc fun b h' hb S' hb' => ?_
  show wpAny _ _ _ _ _ _
  repeat (first | with_reducible (first | refine wpAny_pure ?_ | refine wpAny_bind ?_ | refine wpAny_holding ?_ | refine wpAny_standAt ?_ | refine wpAny_point ?_ | refine wpAny_rule ?_ | refine wpAny_letGo ?_ | refine wpAny_mkInt' ?_ | refine wpAny_mkStr' ?_ | refine wpAny_fresh' ?_ | refine wpAny_alloc' ?_ | refine wpAny_attempt ?_ | refine wpAny_of_eq (by assumption) ?_ | refine wpAny_typeOf (by assumption) ?_ | refine wpAny_specialOf_val (by assumption) (by assumption) ?_ | refine wpAny_specialOf (by assumption) (by assumption) ?_ | refine wpAny_isInstance_val (by assumption) (by assumption) ?_ | refine wpAny_isInstance (by assumption) (by assumption) ?_ | refine wpAny_call ?_ | refine wpAny_runValue ?_ | refine wpAny_run ?_) | ((with_reducible show wpAny _ _ (load _) _ _ _); (with_reducible apply wpAny_load'); focus (heap_get; done)) | ((with_reducible show wpAny _ _ (update _ _) _ _ _); (with_reducible apply wpAny_update'); focus (heap_get; done)) | ((with_reducible show wpAny _ _ (loadPart _ _) _ _ _); (with_reducible apply wpAny_loadPart'); focus (heap_get; done)) | ((with_reducible show wpAny _ _ (updatePart _ _ _) _ _ _); (with_reducible apply wpAny_updatePart'); focus (heap_get; done)) | ((with_reducible refine wpAny_ite_false ?hc ?_); (case hc => first | (decide +kernel; done) | (rfl; done))) | ((with_reducible refine wpAny_ite_true ?hc ?_); (case hc => first | (decide +kernel; done) | (rfl; done))) | wp_delta | with_reducible_and_instances refine wpAny_pure ?_ | with_reducible_and_instances refine wpAny_bind ?_)
  exact k b h' _ hb S' hb'

theorem ois_entry : entryFor table "object.__init_subclass__" = some Builtin.«object.__init_subclass__» := entryFor_of_tree (by kernel_rfl)
set_option maxHeartbeats 4000000 in
theorem wp_callInit {b : Addr} {Q : Value → Shared → Prop} (hC : h.get? C = some (kObj nm "cmp_to_key.<locals>.K" C N k0 k1 k2 k3 k5)) (hb : h.get? b = some { cls := .type "builtin_function_or_method", data := .fields #[.builtin "object.__init_subclass__", .ref C] })
    (k : Q .none ⟨h, g, d, tk, os⟩) : wpAny (model prog w) A (call (.ref b) [] []) Q E ⟨h, g, d, tk, os⟩ := by
  have e3 : isSubtype (.type "type") (.type "type") = pure true := by rw [isSubtype_type]; kernel_rfl
  have e4 : isSubtype (.type "type") (.type "module") = pure false := by rw [isSubtype_type]; kernel_rfl
  refine wpAny_call (codeAny_of_tree ?_)
  show wpAny _ _ (callAny (.ref b) _) _ _ _
  repeat (first | with_reducible refine wpAny_loadPart_at hb ?_ | with_reducible refine wpAny_loadPart_at hC ?_ | (first | with_reducible (first | refine wpAny_pure ?_ | refine wpAny_bind ?_ | refine wpAny_holding ?_ | refine wpAny_standAt ?_ | refine wpAny_point ?_ | refine wpAny_rule ?_ | refine wpAny_letGo ?_ | refine wpAny_mkInt' ?_ | refine wpAny_mkStr' ?_ | refine wpAny_fresh' ?_ | refine wpAny_alloc' ?_ | refine wpAny_attempt ?_ | refine wpAny_of_eq (by assumption) ?_ | refine wpAny_typeOf (by assumption) ?_ | refine wpAny_specialOf_val (by assumption) (by assumption) ?_ | refine wpAny_specialOf (by assumption) (by assumption) ?_ | refine wpAny_isInstance_val (by assumption) (by assumption) ?_ | refine wpAny_isInstance (by assumption) (by assumption) ?_ | refine wpAny_call ?_ | refine wpAny_runValue ?_ | refine wpAny_run ?_) | ((with_reducible show wpAny _ _ (load _) _ _ _); (with_reducible apply wpAny_load'); focus (heap_get; done)) | ((with_reducible show wpAny _ _ (update _ _) _ _ _); (with_reducible apply wpAny_update'); focus (heap_get; done)) | ((with_reducible show wpAny _ _ (loadPart _ _) _ _ _); (with_reducible apply wpAny_loadPart'); focus (heap_get; done)) | ((with_reducible show wpAny _ _ (updatePart _ _ _) _ _ _); (with_reducible apply wpAny_updatePart'); focus (heap_get; done)) | ((with_reducible refine wpAny_ite_false ?hc ?_); (case hc => first | (decide +kernel; done) | (rfl; done))) | ((with_reducible refine wpAny_ite_true ?hc ?_); (case hc => first | (decide +kernel; done) | (rfl; done))) | wp_delta | with_reducible_and_instances refine wpAny_pure ?_ | with_reducible_and_instances refine wpAny_bind ?_))
  refine ⟨Code.quiet_builtin _ (by decide +kernel), codeAny_builtin ois_entry ?_⟩
  show wpAny _ _ (Builtin.«object.__init_subclass__» ⟨[.ref C], []⟩) _ _ _
  repeat (first | with_reducible (first | refine wpAny_pure ?_ | refine wpAny_bind ?_ | refine wpAny_holding ?_ | refine wpAny_standAt ?_ | refine wpAny_point ?_ | refine wpAny_rule ?_ | refine wpAny_letGo ?_ | refine wpAny_mkInt' ?_ | refine wpAny_mkStr' ?_ | refine wpAny_fresh' ?_ | refine wpAny_alloc' ?_ | refine wpAny_attempt ?_ | refine wpAny_of_eq (by assumption) ?_ | refine wpAny_typeOf (by assumption) ?_ | refine wpAny_specialOf_val (by assumption) (by assumption) ?_ | refine wpAny_specialOf (by assumption) (by assumption) ?_ | refine wpAny_isInstance_val (by assumption) (by assumption) ?_ | refine wpAny_isInstance (by assumption) (by assumption) ?_ | refine wpAny_call ?_ | refine wpAny_runValue ?_ | refine wpAny_run ?_) | ((with_reducible show wpAny _ _ (load _) _ _ _); (with_reducible apply wpAny_load'); focus (heap_get; done)) | ((with_reducible show wpAny _ _ (update _ _) _ _ _); (with_reducible apply wpAny_update'); focus (heap_get; done)) | ((with_reducible show wpAny _ _ (loadPart _ _) _ _ _); (with_reducible apply wpAny_loadPart'); focus (heap_get; done)) | ((with_reducible show wpAny _ _ (updatePart _ _ _) _ _ _); (with_reducible apply wpAny_updatePart'); focus (heap_get; done)) | ((with_reducible refine wpAny_ite_false ?hc ?_); (case hc => first | (decide +kernel; done) | (rfl; done))) | ((with_reducible refine wpAny_ite_true ?hc ?_); (case hc => first | (decide +kernel; done) | (rfl; done))) | wp_delta | with_reducible_and_instances refine wpAny_pure ?_ | with_reducible_and_instances refine wpAny_bind ?_)
  exact k
end
end Mine
end
section
open PySem PySem.W PySem.Calls PyProof.Rows
set_option Elab.async false
set_option maxRecDepth 100000
namespace Mine

section
variable {prog : Program} {w : World} {A : Around} {E : Value → Shared → Prop} {s : Shared} {h : Heap} {tk : Nat}

theorem al_new {o : Obj} {Q : Addr → Shared → Prop} {g : Array GenState} {d : Drawn} {os : OsState} (hf : o.isFreed = false) (k : ∀ a h', h.get? a = none → h'.get? a = some o → Stay h h' → Q a ⟨h', g, d, tk, os⟩) : wpAny (model prog w) A (alloc o) Q E ⟨h, g, d, tk, os⟩ :=
  wpAny_alloc' (k _ _ (Heap.get?_none_of_le (Nat.le_refl _)) (Heap.get?_push_size _ hf) fun _ _ e => Heap.get?_push_of_some _ e)
theorem no_new {T : String} {dt : Data} {Q : Value → Shared → Prop} {g : Array GenState} {d : Drawn} {os : OsState} (hs : sizeOk dt) (hf : ({ cls := .type T, data := dt } : Obj).isFreed = false)
    (k : ∀ a h', h.get? a = none → h'.get? a = some { cls := .type T, data := dt } → Stay h h' → Q (.ref a) ⟨h', g, d, tk, os⟩) : wpAny (model prog w) A (newObj (.type T) dt) Q E ⟨h, g, d, tk, os⟩ :=
  wpAny_newObj_type (s := ⟨h, g, d, tk, os⟩) (k _ _ (Heap.get?_none_of_le (Nat.le_refl _)) (Heap.get?_push_size _ hf) fun _ _ e => Heap.get?_push_of_some _ e) hs

theorem get_none_of {a b : Heap} {x : Addr} (S : Stay a b) (e : b.get? x = none) : a.get? x = none := by
  cases q : a.get? x with
  | none => rfl
  | some o => rw [S _ _ q] at e; cases e
theorem kf1 : isSubtype (.type "tuple") (.type "tuple") = pure true := by rw [isSubtype_type]; kernel_rfl
theorem kf2 : isSubtype (.type "dict") (.type "dict") = pure true := by rw [isSubtype_type]; kernel_rfl
theorem kf3 : isSubtype (.type "type") (.type "type") = pure true := by rw [isSubtype_type]; kernel_rfl
theorem kf4 : typeOf (.type "object") = pure (.type "type") := by kernel_rfl
theorem kf5 : isSubtype (.type "object") (.type "object") = pure true := by rw [isSubtype_type]; kernel_rfl
theorem kf6 : Builtin.notOverATurnedClass [.type "object"] = pure () := by kernel_rfl
theorem kf7 : Builtin.extendedBase [.type "object"] = pure (.type "object") := by kernel_rfl
theorem kf8 : typeLookup (.type "dict") "__iter__" = pure (some (.builtin "dict.__iter__")) := by rw [typeLookup_type, builtinLookup_eq_fast]; kernel_rfl
theorem kf9 : Builtin.mroHook? (.type "type") = pure none := by kernel_rfl
theorem kf10 : Builtin.linearize [.type "object"] mroOf = pure [.type "object"] := by kernel_rfl
theorem kf11 : Bind.madeBy (.type "object") = pure (some "object.__new__") := by kernel_rfl

noncomputable def NSN (h : Heap) (v : Value) : Prop := (∀ id, v ≠ .builtin id) ∧ ∃ T, typeLookup (.type T) "__set_name__" = pure none ∧ ∀ g d tk os, Shared.TypeIs ⟨h, g, d, tk, os⟩ v T
theorem NSN.stay {h h' : Heap} {v : Value} (x : NSN h v) (S : Stay h h') : NSN h' v := by
  (obtain ⟨a, T, b, c⟩ := x)
  refine ⟨a, T, b, fun g d tk os => ?_⟩
  have := c g d tk os
  cases v <;> first | exact this | skip
  (first | (refine Mine.e0_3 (this) ?_; rintro o e1 e2) | (refine Mine.e1_2 (this) ?_; rintro o e1 e2) | (refine Mine.e2_1 (this) ?_; rintro o e1 e2) | (obtain ⟨o, e1, e2⟩ := this))
  exact ⟨o, S _ _ e1, e2⟩
theorem nsn_none (h : Heap) : NSN h .none := ⟨fun _ e => (by cases e), "NoneType", by rw [typeLookup_type, builtinLookup_eq_fast]; kernel_rfl, fun _ _ _ _ => by show typeOf _ = _; kernel_rfl⟩
theorem nsn_str (h : Heap) (x : Str) (t : Tok) : NSN h (.str x t) := ⟨fun _ e => (by cases e), "str", by rw [typeLookup_type, builtinLookup_eq_fast]; kernel_rfl, fun _ _ _ _ => typeIs_str _ _ _⟩
theorem nsn_int (h : Heap) (x : Int) (t : Tok) : NSN h (.int x t) := ⟨fun _ e => (by cases e), "int", by rw [typeLookup_type, builtinLookup_eq_fast]; kernel_rfl, fun _ _ _ _ => by show typeOf _ = _; kernel_rfl⟩
theorem nsn_ref {h : Heap} {a : Addr} {o : Obj} {T : String} (e : h.get? a = some o) (hc : o.cls = .type T) (hl : typeLookup (.type T) "__set_name__" = pure none) : NSN h (.ref a) := ⟨fun _ e => (by cases e), T, hl, fun _ _ _ _ => ⟨o, e, hc⟩⟩
theorem nl_list : typeLookup (.type "list") "__set_name__" = pure none := by rw [typeLookup_type, builtinLookup_eq_fast]; kernel_rfl
theorem nl_tuple : typeLookup (.type "tuple") "__set_name__" = pure none := by rw [typeLookup_type, builtinLookup_eq_fast]; kernel_rfl
theorem nl_func : typeLookup (.type "function") "__set_name__" = pure none := by rw [typeLookup_type, builtinLookup_eq_fast]; kernel_rfl
theorem nl_memb : typeLookup (.type "member_descriptor") "__set_name__" = pure none := by rw [typeLookup_type, builtinLookup_eq_fast]; kernel_rfl

set_option maxHeartbeats 8000000 in
theorem wp_typeNew {B N sl : Addr} {t ts tq : Tok} {es : Array DictEntry} {m : Str → Option Value} {n : Nat} {q : Str} {Q : Value → Shared → Prop}
    (hB : h.get? B = some { cls := .type "tuple", data := .seq #[.type "object"] 0 })
    (D : DN h N m es n) (hsl : h.get? sl = some { cls := .type "list", data := .seq #[.str "obj" ts] 0 }) (hNs : N ≠ sysModules)
    (m0 : (m "__module__").isSome = true) (m1 : m "__slots__" = some (.ref sl)) (m2 : m "obj" = none) (m3 : m "__qualname__" = some (.str q tq)) (m4 : m "__doc__" = none) (m5 : m "__new__" = none) (m6 : m "__init_subclass__" = none)
    (m7 : m "__class_getitem__" = none) (m8 : m "__classcell__" = none) (m9 : m "__classdictcell__" = none) (m10 : m "__del__" = none) {ve vh : Value} (m11 : m "__eq__" = some ve) (m12 : m "__hash__" = some vh)
    {ks : List Str} (hks : ∀ x, m x ≠ none → x ∈ ks) (hkl : ks.length ≤ 100) (hq : q = "cmp_to_key.<locals>.K") {mc : Str → Option Value} (hst : h.Ns cStatics mc) (hmc : mc "thirdparty.any" = none) (hvs : ∀ x v, m x = some v → NSN h v)
    (k : ∀ C N' h' tk' md tmd, Stay h h' → h.get? N' = none → h'.get? C = some (kObj "K" q C N' (some (.ref B)) none (some (.str "K" t)) (some (.str q tq)) (some (.bool false))) →
      h'.Ns N' (fun x => if x = "__doc__" then some Value.none else if x = "obj" then some (.ref md) else if x = "__qualname__" then none else m x) →
      h'.get? md = some { cls := .type "member_descriptor", data := .fields #[.str "obj" tmd, .ref C, .builtin "proto.slot", .builtin "proto.slot#set", .int 0 0] } → Q (.ref C) (st s h' tk')) :
    wpAny (model prog w) A (Builtin.«type.__new__» ⟨[.type "type", .str "K" t, .ref B, .ref N], []⟩) (fun fin s' => ∃ v, fin = .done (.ret v) ∧ Q v s') E (st s h tk) := by
  (first | (refine Mine.e0_3 (find_of D.ns m1) ?_; rintro en hfind hval) | (refine Mine.e1_2 (find_of D.ns m1) ?_; rintro en hfind hval) | (refine Mine.e2_1 (find_of D.ns m1) ?_; rintro en hfind hval) | (obtain ⟨en, hfind, hval⟩ := find_of D.ns m1))
  have hN := D.at'
  have hNs' : (N == sysModules) = false := by simpa using hNs
  (obtain ⟨h0, g, d, t0, os⟩ := s)
  simp only [st]
  have e1 := kf1
  have e2 := kf2
  have e3 := kf3
  have e4 := kf4
  have e5 := kf5
  have e6 : Builtin.notOverATurnedClass (if ((some #[Value.type "object"]).getD #[]).toList.isEmpty = true then [Value.type "object"] else ((some #[Value.type "object"]).getD #[]).toList) = pure () := kf6
  have e7 : Builtin.extendedBase (if ((some #[Value.type "object"]).getD #[]).toList.isEmpty = true then [Value.type "object"] else ((some #[Value.type "object"]).getD #[]).toList) = pure (.type "object") := kf7
  have e8 := kf8
  have e9 : Shared.TypeIs ⟨h, g, d, tk, os⟩ (.ref N) "dict" := ⟨_, hN, rfl⟩
  have f9 := kf9
  have f10 : Builtin.linearize (if ((some #[Value.type "object"]).getD #[]).toList.isEmpty = true then [Value.type "object"] else ((some #[Value.type "object"]).getD #[]).toList) mroOf = pure [.type "object"] := kf10
  have f11 := kf11
  unfold Builtin.«type.__new__»
  repeat ((fail_if_success (with_reducible show wpAny _ _ (if (_ == sysModules) = true then _ else _) _ _ _)); (first | with_reducible (first | refine wpAny_pure ?_ | refine wpAny_bind ?_ | refine wpAny_holding ?_ | refine wpAny_standAt ?_ | refine wpAny_point ?_ | refine wpAny_rule ?_ | refine wpAny_letGo ?_ | refine wpAny_mkInt' ?_ | refine wpAny_mkStr' ?_ | refine wpAny_fresh' ?_ | refine wpAny_alloc' ?_ | refine wpAny_attempt ?_ | refine wpAny_of_eq (by assumption) ?_ | refine wpAny_typeOf (by assumption) ?_ | refine wpAny_specialOf_val (by assumption) (by assumption) ?_ | refine wpAny_specialOf (by assumption) (by assumption) ?_ | refine wpAny_isInstance_val (by assumption) (by assumption) ?_ | refine wpAny_isInstance (by assumption) (by assumption) ?_ | refine wpAny_call ?_ | refine wpAny_runValue ?_ | refine wpAny_run ?_) | ((with_reducible show wpAny _ _ (load _) _ _ _); (with_reducible apply wpAny_load'); focus (heap_get; done)) | ((with_reducible show wpAny _ _ (update _ _) _ _ _); (with_reducible apply wpAny_update'); focus (heap_get; done)) | ((with_reducible show wpAny _ _ (loadPart _ _) _ _ _); (with_reducible apply wpAny_loadPart'); focus (heap_get; done)) | ((with_reducible show wpAny _ _ (updatePart _ _ _) _ _ _); (with_reducible apply wpAny_updatePart'); focus (heap_get; done)) | ((with_reducible refine wpAny_ite_false ?hc ?_); (case hc => first | (decide +kernel; done) | (rfl; done))) | ((with_reducible refine wpAny_ite_true ?hc ?_); (case hc => first | (decide +kernel; done) | (rfl; done))) | wp_delta | with_reducible_and_instances refine wpAny_pure ?_ | with_reducible_and_instances refine wpAny_bind ?_))
  refine wpAny_ite_false (decide_eq_false (by rw [hNs']; decide)) ?_
  repeat ((fail_if_success (with_reducible show wpAny _ _ (if (_ || (some _ == some _)) = true then _ else _) _ _ _)); (first | with_reducible (first | refine wpAny_pure ?_ | refine wpAny_bind ?_ | refine wpAny_holding ?_ | refine wpAny_standAt ?_ | refine wpAny_point ?_ | refine wpAny_rule ?_ | refine wpAny_letGo ?_ | refine wpAny_mkInt' ?_ | refine wpAny_mkStr' ?_ | refine wpAny_fresh' ?_ | refine wpAny_alloc' ?_ | refine wpAny_attempt ?_ | refine wpAny_of_eq (by assumption) ?_ | refine wpAny_typeOf (by assumption) ?_ | refine wpAny_specialOf_val (by assumption) (by assumption) ?_ | refine wpAny_specialOf (by assumption) (by assumption) ?_ | refine wpAny_isInstance_val (by assumption) (by assumption) ?_ | refine wpAny_isInstance (by assumption) (by assumption) ?_ | refine wpAny_call ?_ | refine wpAny_runValue ?_ | refine wpAny_run ?_) | ((with_reducible show wpAny _ _ (load _) _ _ _); (with_reducible apply wpAny_load'); focus (heap_get; done)) | ((with_reducible show wpAny _ _ (update _ _) _ _ _); (with_reducible apply wpAny_update'); focus (heap_get; done)) | ((with_reducible show wpAny _ _ (loadPart _ _) _ _ _); (with_reducible apply wpAny_loadPart'); focus (heap_get; done)) | ((with_reducible show wpAny _ _ (updatePart _ _ _) _ _ _); (with_reducible apply wpAny_updatePart'); focus (heap_get; done)) | ((with_reducible refine wpAny_ite_false ?hc ?_); (case hc => first | (decide +kernel; done) | (rfl; done))) | ((with_reducible refine wpAny_ite_true ?hc ?_); (case hc => first | (decide +kernel; done) | (rfl; done))) | wp_delta | with_reducible_and_instances refine wpAny_pure ?_ | with_reducible_and_instances refine wpAny_bind ?_))
  refine wpAny_ite_true (decide_eq_true (by rw [show (some (Value.builtin "dict.__iter__") == some (Value.builtin "dict.__iter__")) = true from rfl]; simp)) ?_
  refine wpAny_bind (wpAny_pure ?_)
  refine wpAny_bind (wpAny_holding (wp_slotsRead (s := ⟨h, g, d, tk, os⟩) ⟨_, hsl, rfl, _, rfl⟩ ⟨_, hsl, rfl⟩ hfind hval (by rw [any_of D.ns, m2]; rfl) fun h₁ S₁ => ?_))
  have hz : es.size ≤ 100 := Nat.le_trans (es_size D.sk D.uk D.ns ks hks) hkl
  refine wpAny_bind (no_new (h := h₁) (g := g) (d := d) (tk := tk) (os := os) (by unfold sizeOk; rw [sizeLine_eq]; simp; (first | lia | omega)) rfl fun NN H2 fN hNN kN => ?_)
  refine wpAny_ite_false (decide_eq_false (by show ¬ (!(es.any fun x => x.key.isStr (Str.ofString "__module__"))) = true; rw [any_of D.ns]; simp [m0])) ?_
  have nDn : H2.Ns NN m := ⟨_, es, 0, hNN, rfl, D.sk, D.ns⟩
  have nD1 : H2.Ns1 NN m := ⟨_, es, 0, hNN, rfl, D.sk, D.uk, D.ns⟩
  repeat ((fail_if_success (with_reducible show wpAny _ _ (alloc _) _ _ _)); first | with_reducible refine ns_get nDn m3 ?_ | with_reducible refine ns_get nDn m4 ?_ | (first | with_reducible (first | refine wpAny_pure ?_ | refine wpAny_bind ?_ | refine wpAny_holding ?_ | refine wpAny_standAt ?_ | refine wpAny_point ?_ | refine wpAny_rule ?_ | refine wpAny_letGo ?_ | refine wpAny_mkInt' ?_ | refine wpAny_mkStr' ?_ | refine wpAny_fresh' ?_ | refine wpAny_alloc' ?_ | refine wpAny_attempt ?_ | refine wpAny_of_eq (by assumption) ?_ | refine wpAny_typeOf (by assumption) ?_ | refine wpAny_specialOf_val (by assumption) (by assumption) ?_ | refine wpAny_specialOf (by assumption) (by assumption) ?_ | refine wpAny_isInstance_val (by assumption) (by assumption) ?_ | refine wpAny_isInstance (by assumption) (by assumption) ?_ | refine wpAny_call ?_ | refine wpAny_runValue ?_ | refine wpAny_run ?_) | ((with_reducible show wpAny _ _ (load _) _ _ _); (with_reducible apply wpAny_load'); focus (heap_get; done)) | ((with_reducible show wpAny _ _ (update _ _) _ _ _); (with_reducible apply wpAny_update'); focus (heap_get; done)) | ((with_reducible show wpAny _ _ (loadPart _ _) _ _ _); (with_reducible apply wpAny_loadPart'); focus (heap_get; done)) | ((with_reducible show wpAny _ _ (updatePart _ _ _) _ _ _); (with_reducible apply wpAny_updatePart'); focus (heap_get; done)) | ((with_reducible refine wpAny_ite_false ?hc ?_); (case hc => first | (decide +kernel; done) | (rfl; done))) | ((with_reducible refine wpAny_ite_true ?hc ?_); (case hc => first | (decide +kernel; done) | (rfl; done))) | wp_delta | with_reducible_and_instances refine wpAny_pure ?_ | with_reducible_and_instances refine wpAny_bind ?_))
  refine al_new (h := H2) rfl fun AA H3 fA hA kA => ?_
  have hne : AA ≠ NN := fun q => by rw [q, hNN] at fA; cases fA
  have W0 : CW h₁ H3 AA NN { cls := .type "type", data := .cls { name := "K", bases := [.type "object"], mro := [], ns := NN, qualname := q } } m :=
    ⟨hA, nD1.at fun o e => kA _ o e, hne, kN.trans kA, get_none_of kN fA, fN⟩
  repeat ((fail_if_success (with_reducible show wpAny _ _ (setSlotAt _ _ _) _ _ _)); (first | with_reducible (first | refine wpAny_pure ?_ | refine wpAny_bind ?_ | refine wpAny_holding ?_ | refine wpAny_standAt ?_ | refine wpAny_point ?_ | refine wpAny_rule ?_ | refine wpAny_letGo ?_ | refine wpAny_mkInt' ?_ | refine wpAny_mkStr' ?_ | refine wpAny_fresh' ?_ | refine wpAny_alloc' ?_ | refine wpAny_attempt ?_ | refine wpAny_of_eq (by assumption) ?_ | refine wpAny_typeOf (by assumption) ?_ | refine wpAny_specialOf_val (by assumption) (by assumption) ?_ | refine wpAny_specialOf (by assumption) (by assumption) ?_ | refine wpAny_isInstance_val (by assumption) (by assumption) ?_ | refine wpAny_isInstance (by assumption) (by assumption) ?_ | refine wpAny_call ?_ | refine wpAny_runValue ?_ | refine wpAny_run ?_) | ((with_reducible show wpAny _ _ (load _) _ _ _); (with_reducible apply wpAny_load'); focus (heap_get; done)) | ((with_reducible show wpAny _ _ (update _ _) _ _ _); (with_reducible apply wpAny_update'); focus (heap_get; done)) | ((with_reducible show wpAny _ _ (loadPart _ _) _ _ _); (with_reducible apply wpAny_loadPart'); focus (heap_get; done)) | ((with_reducible show wpAny _ _ (updatePart _ _ _) _ _ _); (with_reducible apply wpAny_updatePart'); focus (heap_get; done)) | ((with_reducible refine wpAny_ite_false ?hc ?_); (case hc => first | (decide +kernel; done) | (rfl; done))) | ((with_reducible refine wpAny_ite_true ?hc ?_); (case hc => first | (decide +kernel; done) | (rfl; done))) | wp_delta | with_reducible_and_instances refine wpAny_pure ?_ | with_reducible_and_instances refine wpAny_bind ?_))
  refine cw_slotE ⟨.type "type", none, .cls { name := "K", bases := [.type "object"], mro := [], ns := NN, qualname := q }, #[some (.ref B)]⟩ W0 rfl rfl (by decide) fun h₂ W1 => ?_
  repeat ((fail_if_success (with_reducible show wpAny _ _ (setSlotAt _ _ _) _ _ _)); (first | with_reducible (first | refine wpAny_pure ?_ | refine wpAny_bind ?_ | refine wpAny_holding ?_ | refine wpAny_standAt ?_ | refine wpAny_point ?_ | refine wpAny_rule ?_ | refine wpAny_letGo ?_ | refine wpAny_mkInt' ?_ | refine wpAny_mkStr' ?_ | refine wpAny_fresh' ?_ | refine wpAny_alloc' ?_ | refine wpAny_attempt ?_ | refine wpAny_of_eq (by assumption) ?_ | refine wpAny_typeOf (by assumption) ?_ | refine wpAny_specialOf_val (by assumption) (by assumption) ?_ | refine wpAny_specialOf (by assumption) (by assumption) ?_ | refine wpAny_isInstance_val (by assumption) (by assumption) ?_ | refine wpAny_isInstance (by assumption) (by assumption) ?_ | refine wpAny_call ?_ | refine wpAny_runValue ?_ | refine wpAny_run ?_) | ((with_reducible show wpAny _ _ (load _) _ _ _); (with_reducible apply wpAny_load'); focus (heap_get; done)) | ((with_reducible show wpAny _ _ (update _ _) _ _ _); (with_reducible apply wpAny_update'); focus (heap_get; done)) | ((with_reducible show wpAny _ _ (loadPart _ _) _ _ _); (with_reducible apply wpAny_loadPart'); focus (heap_get; done)) | ((with_reducible show wpAny _ _ (updatePart _ _ _) _ _ _); (with_reducible apply wpAny_updatePart'); focus (heap_get; done)) | ((with_reducible refine wpAny_ite_false ?hc ?_); (case hc => first | (decide +kernel; done) | (rfl; done))) | ((with_reducible refine wpAny_ite_true ?hc ?_); (case hc => first | (decide +kernel; done) | (rfl; done))) | wp_delta | with_reducible_and_instances refine wpAny_pure ?_ | with_reducible_and_instances refine wpAny_bind ?_))
  refine cw_slotE ⟨.type "type", none, .cls { name := "K", bases := [.type "object"], mro := [], ns := NN, qualname := q }, #[some (.ref B), none, some (.str "K" t)]⟩ W1 rfl rfl (by decide) fun h₃ W2 => ?_
  repeat ((fail_if_success (with_reducible show wpAny _ _ (setSlotAt _ _ _) _ _ _)); (first | with_reducible (first | refine wpAny_pure ?_ | refine wpAny_bind ?_ | refine wpAny_holding ?_ | refine wpAny_standAt ?_ | refine wpAny_point ?_ | refine wpAny_rule ?_ | refine wpAny_letGo ?_ | refine wpAny_mkInt' ?_ | refine wpAny_mkStr' ?_ | refine wpAny_fresh' ?_ | refine wpAny_alloc' ?_ | refine wpAny_attempt ?_ | refine wpAny_of_eq (by assumption) ?_ | refine wpAny_typeOf (by assumption) ?_ | refine wpAny_specialOf_val (by assumption) (by assumption) ?_ | refine wpAny_specialOf (by assumption) (by assumption) ?_ | refine wpAny_isInstance_val (by assumption) (by assumption) ?_ | refine wpAny_isInstance (by assumption) (by assumption) ?_ | refine wpAny_call ?_ | refine wpAny_runValue ?_ | refine wpAny_run ?_) | ((with_reducible show wpAny _ _ (load _) _ _ _); (with_reducible apply wpAny_load'); focus (heap_get; done)) | ((with_reducible show wpAny _ _ (update _ _) _ _ _); (with_reducible apply wpAny_update'); focus (heap_get; done)) | ((with_reducible show wpAny _ _ (loadPart _ _) _ _ _); (with_reducible apply wpAny_loadPart'); focus (heap_get; done)) | ((with_reducible show wpAny _ _ (updatePart _ _ _) _ _ _); (with_reducible apply wpAny_updatePart'); focus (heap_get; done)) | ((with_reducible refine wpAny_ite_false ?hc ?_); (case hc => first | (decide +kernel; done) | (rfl; done))) | ((with_reducible refine wpAny_ite_true ?hc ?_); (case hc => first | (decide +kernel; done) | (rfl; done))) | wp_delta | with_reducible_and_instances refine wpAny_pure ?_ | with_reducible_and_instances refine wpAny_bind ?_))
  refine cw_slotE ⟨.type "type", none, .cls { name := "K", bases := [.type "object"], mro := [], ns := NN, qualname := q }, #[some (.ref B), none, some (.str "K" t), some (.str q tq)]⟩ W2 rfl rfl (by decide) fun h₄ W3 => ?_
  repeat ((fail_if_success (with_reducible show wpAny _ _ (nsDel _ _) _ _ _)); (first | with_reducible (first | refine wpAny_pure ?_ | refine wpAny_bind ?_ | refine wpAny_holding ?_ | refine wpAny_standAt ?_ | refine wpAny_point ?_ | refine wpAny_rule ?_ | refine wpAny_letGo ?_ | refine wpAny_mkInt' ?_ | refine wpAny_mkStr' ?_ | refine wpAny_fresh' ?_ | refine wpAny_alloc' ?_ | refine wpAny_attempt ?_ | refine wpAny_of_eq (by assumption) ?_ | refine wpAny_typeOf (by assumption) ?_ | refine wpAny_specialOf_val (by assumption) (by assumption) ?_ | refine wpAny_specialOf (by assumption) (by assumption) ?_ | refine wpAny_isInstance_val (by assumption) (by assumption) ?_ | refine wpAny_isInstance (by assumption) (by assumption) ?_ | refine wpAny_call ?_ | refine wpAny_runValue ?_ | refine wpAny_run ?_) | ((with_reducible show wpAny _ _ (load _) _ _ _); (with_reducible apply wpAny_load'); focus (heap_get; done)) | ((with_reducible show wpAny _ _ (update _ _) _ _ _); (with_reducible apply wpAny_update'); focus (heap_get; done)) | ((with_reducible show wpAny _ _ (loadPart _ _) _ _ _); (with_reducible apply wpAny_loadPart'); focus (heap_get; done)) | ((with_reducible show wpAny _ _ (updatePart _ _ _) _ _ _); (with_reducible apply wpAny_updatePart'); focus (heap_get; done)) | ((with_reducible refine wpAny_ite_false ?hc ?_); (case hc => first | (decide +kernel; done) | (rfl; done))) | ((with_reducible refine wpAny_ite_true ?hc ?_); (case hc => first | (decide +kernel; done) | (rfl; done))) | wp_delta | with_reducible_and_instances refine wpAny_pure ?_ | with_reducible_and_instances refine wpAny_bind ?_))
  refine cw_del W3 fun h₅ W4 => ?_
  have m5' : (fun x => if x = Str.ofString "__qualname__" then none else m x) (Str.ofString "__new__") = none := m5
  have m6' : (fun x => if x = Str.ofString "__qualname__" then none else m x) (Str.ofString "__init_subclass__") = none := m6
  have m7' : (fun x => if x = Str.ofString "__qualname__" then none else m x) (Str.ofString "__class_getitem__") = none := m7
  have m8' : (fun x => if x = Str.ofString "__qualname__" then none else m x) (Str.ofString "__classcell__") = none := m8
  have m9' : (fun x => if x = Str.ofString "__qualname__" then none else m x) (Str.ofString "__classdictcell__") = none := m9
  repeat ((fail_if_success (with_reducible show wpAny _ _ (List.anyM _ _) _ _ _)); first | with_reducible refine cw_get' W4 m5' ?_ | with_reducible refine cw_get' W4 m6' ?_ | with_reducible refine cw_get' W4 m7' ?_ | with_reducible refine cw_get' W4 m8' ?_ | with_reducible refine cw_get' W4 m9' ?_ | (first | with_reducible (first | refine wpAny_pure ?_ | refine wpAny_bind ?_ | refine wpAny_holding ?_ | refine wpAny_standAt ?_ | refine wpAny_point ?_ | refine wpAny_rule ?_ | refine wpAny_letGo ?_ | refine wpAny_mkInt' ?_ | refine wpAny_mkStr' ?_ | refine wpAny_fresh' ?_ | refine wpAny_alloc' ?_ | refine wpAny_attempt ?_ | refine wpAny_of_eq (by assumption) ?_ | refine wpAny_typeOf (by assumption) ?_ | refine wpAny_specialOf_val (by assumption) (by assumption) ?_ | refine wpAny_specialOf (by assumption) (by assumption) ?_ | refine wpAny_isInstance_val (by assumption) (by assumption) ?_ | refine wpAny_isInstance (by assumption) (by assumption) ?_ | refine wpAny_call ?_ | refine wpAny_runValue ?_ | refine wpAny_run ?_) | ((with_reducible show wpAny _ _ (load _) _ _ _); (with_reducible apply wpAny_load'); focus (heap_get; done)) | ((with_reducible show wpAny _ _ (update _ _) _ _ _); (with_reducible apply wpAny_update'); focus (heap_get; done)) | ((with_reducible show wpAny _ _ (loadPart _ _) _ _ _); (with_reducible apply wpAny_loadPart'); focus (heap_get; done)) | ((with_reducible show wpAny _ _ (updatePart _ _ _) _ _ _); (with_reducible apply wpAny_updatePart'); focus (heap_get; done)) | ((with_reducible refine wpAny_ite_false ?hc ?_); (case hc => first | (decide +kernel; done) | (rfl; done))) | ((with_reducible refine wpAny_ite_true ?hc ?_); (case hc => first | (decide +kernel; done) | (rfl; done))) | wp_delta | with_reducible_and_instances refine wpAny_pure ?_ | with_reducible_and_instances refine wpAny_bind ?_))
  refine wpAny_of_eq (a := false) ?hany ?_
  case hany =>
    rw [show List.filter (fun x => x != Value.ref AA) (Value.ref AA :: [Value.type "object"]) = [Value.type "object"] by simp]
    kernel_rfl
  repeat ((fail_if_success (with_reducible show wpAny _ _ (updateCls _ _) _ _ _)); (first | with_reducible (first | refine wpAny_pure ?_ | refine wpAny_bind ?_ | refine wpAny_holding ?_ | refine wpAny_standAt ?_ | refine wpAny_point ?_ | refine wpAny_rule ?_ | refine wpAny_letGo ?_ | refine wpAny_mkInt' ?_ | refine wpAny_mkStr' ?_ | refine wpAny_fresh' ?_ | refine wpAny_alloc' ?_ | refine wpAny_attempt ?_ | refine wpAny_of_eq (by assumption) ?_ | refine wpAny_typeOf (by assumption) ?_ | refine wpAny_specialOf_val (by assumption) (by assumption) ?_ | refine wpAny_specialOf (by assumption) (by assumption) ?_ | refine wpAny_isInstance_val (by assumption) (by assumption) ?_ | refine wpAny_isInstance (by assumption) (by assumption) ?_ | refine wpAny_call ?_ | refine wpAny_runValue ?_ | refine wpAny_run ?_) | ((with_reducible show wpAny _ _ (load _) _ _ _); (with_reducible apply wpAny_load'); focus (heap_get; done)) | ((with_reducible show wpAny _ _ (update _ _) _ _ _); (with_reducible apply wpAny_update'); focus (heap_get; done)) | ((with_reducible show wpAny _ _ (loadPart _ _) _ _ _); (with_reducible apply wpAny_loadPart'); focus (heap_get; done)) | ((with_reducible show wpAny _ _ (updatePart _ _ _) _ _ _); (with_reducible apply wpAny_updatePart'); focus (heap_get; done)) | ((with_reducible refine wpAny_ite_false ?hc ?_); (case hc => first | (decide +kernel; done) | (rfl; done))) | ((with_reducible refine wpAny_ite_true ?hc ?_); (case hc => first | (decide +kernel; done) | (rfl; done))) | wp_delta | with_reducible_and_instances refine wpAny_pure ?_ | with_reducible_and_instances refine wpAny_bind ?_))
  refine cw_updE ⟨.type "type", none, .cls { name := "K", bases := [.type "object"], mro := [.ref AA, .type "object"], ns := NN, qualname := q }, #[some (.ref B), none, some (.str "K" t), some (.str q tq)]⟩ W4 rfl ?he ?hp fun h₆ W5 => ?_
  case he =>
    show (⟨_, _, .cls { name := "K", bases := [.type "object"], mro := [.ref AA, .type "object"], ns := NN, qualname := q, hasDel := (es.any fun x => x.key.isStr (Str.ofString "__del__")) || false }, _⟩ : Obj) = _
    rw [any_of D.ns, m10]; rfl
  case hp => rfl
  repeat ((fail_if_success (with_reducible show wpAny _ _ (setSlotAt _ _ _) _ _ _)); (first | with_reducible (first | refine wpAny_pure ?_ | refine wpAny_bind ?_ | refine wpAny_holding ?_ | refine wpAny_standAt ?_ | refine wpAny_point ?_ | refine wpAny_rule ?_ | refine wpAny_letGo ?_ | refine wpAny_mkInt' ?_ | refine wpAny_mkStr' ?_ | refine wpAny_fresh' ?_ | refine wpAny_alloc' ?_ | refine wpAny_attempt ?_ | refine wpAny_of_eq (by assumption) ?_ | refine wpAny_typeOf (by assumption) ?_ | refine wpAny_specialOf_val (by assumption) (by assumption) ?_ | refine wpAny_specialOf (by assumption) (by assumption) ?_ | refine wpAny_isInstance_val (by assumption) (by assumption) ?_ | refine wpAny_isInstance (by assumption) (by assumption) ?_ | refine wpAny_call ?_ | refine wpAny_runValue ?_ | refine wpAny_run ?_) | ((with_reducible show wpAny _ _ (load _) _ _ _); (with_reducible apply wpAny_load'); focus (heap_get; done)) | ((with_reducible show wpAny _ _ (update _ _) _ _ _); (with_reducible apply wpAny_update'); focus (heap_get; done)) | ((with_reducible show wpAny _ _ (loadPart _ _) _ _ _); (with_reducible apply wpAny_loadPart'); focus (heap_get; done)) | ((with_reducible show wpAny _ _ (updatePart _ _ _) _ _ _); (with_reducible apply wpAny_updatePart'); focus (heap_get; done)) | ((with_reducible refine wpAny_ite_false ?hc ?_); (case hc => first | (decide +kernel; done) | (rfl; done))) | ((with_reducible refine wpAny_ite_true ?hc ?_); (case hc => first | (decide +kernel; done) | (rfl; done))) | wp_delta | with_reducible_and_instances refine wpAny_pure ?_ | with_reducible_and_instances refine wpAny_bind ?_))
  refine cw_slotE ⟨.type "type", none, .cls { name := "K", bases := [.type "object"], mro := [.ref AA, .type "object"], ns := NN, qualname := q }, #[some (.ref B), none, some (.str "K" t), some (.str q tq), some (.builtin "object.__new__")]⟩ W5 rfl rfl (by decide) fun h₇ W6 => ?_
  refine wpAny_bind (wp_refresh W6 rfl rfl rfl rfl m5' ?_)
  have m2' : (fun x => if x = Str.ofString "__qualname__" then none else m x) (Str.ofString "obj") = none := m2
  refine wpAny_bind (wp_install W6 rfl m2' ?hz rfl fun G₈ h₈ md t8 tk8 SG W7 hmd => ?_)
  case hz =>
    (first | (refine Mine.e3_5 (W6.dict) ?_; rintro o es' ep' e1 e2 e3 e4 e5) | (obtain ⟨o, es', ep', e1, e2, e3, e4, e5⟩ := W6.dict))
    refine ⟨o, es', ep', e1, e2, Nat.le_trans (es_size e3 e4 e5 ks fun x hx => hks x fun q => hx ?_) (by (first | lia | omega))⟩
    show (if x = Str.ofString "__qualname__" then none else m x) = none
    rw [q]; split <;> rfl
  have e11 := sl_weak
  repeat ((fail_if_success (with_reducible show wpAny _ _ (setSlotAt _ _ _) _ _ _)); (first | with_reducible (first | refine wpAny_pure ?_ | refine wpAny_bind ?_ | refine wpAny_holding ?_ | refine wpAny_standAt ?_ | refine wpAny_point ?_ | refine wpAny_rule ?_ | refine wpAny_letGo ?_ | refine wpAny_mkInt' ?_ | refine wpAny_mkStr' ?_ | refine wpAny_fresh' ?_ | refine wpAny_alloc' ?_ | refine wpAny_attempt ?_ | refine wpAny_of_eq (by assumption) ?_ | refine wpAny_typeOf (by assumption) ?_ | refine wpAny_specialOf_val (by assumption) (by assumption) ?_ | refine wpAny_specialOf (by assumption) (by assumption) ?_ | refine wpAny_isInstance_val (by assumption) (by assumption) ?_ | refine wpAny_isInstance (by assumption) (by assumption) ?_ | refine wpAny_call ?_ | refine wpAny_runValue ?_ | refine wpAny_run ?_) | ((with_reducible show wpAny _ _ (load _) _ _ _); (with_reducible apply wpAny_load'); focus (heap_get; done)) | ((with_reducible show wpAny _ _ (update _ _) _ _ _); (with_reducible apply wpAny_update'); focus (heap_get; done)) | ((with_reducible show wpAny _ _ (loadPart _ _) _ _ _); (with_reducible apply wpAny_loadPart'); focus (heap_get; done)) | ((with_reducible show wpAny _ _ (updatePart _ _ _) _ _ _); (with_reducible apply wpAny_updatePart'); focus (heap_get; done)) | ((with_reducible refine wpAny_ite_false ?hc ?_); (case hc => first | (decide +kernel; done) | (rfl; done))) | ((with_reducible refine wpAny_ite_true ?hc ?_); (case hc => first | (decide +kernel; done) | (rfl; done))) | wp_delta | with_reducible_and_instances refine wpAny_pure ?_ | with_reducible_and_instances refine wpAny_bind ?_))
  refine cw_slotE (kObj "K" q AA NN (some (.ref B)) none (some (.str "K" t)) (some (.str q tq)) (some (.bool false))) W7 rfl rfl (by decide) fun h₉ W8 => ?_
  have m4' : (fun x => if x = Str.ofString "obj" then some (Value.ref md) else if x = Str.ofString "__qualname__" then none else m x) (Str.ofString "__doc__") = none := m4
  repeat ((fail_if_success (with_reducible show wpAny _ _ (nsSet _ _ _) _ _ _)); first | with_reducible refine cw_get' W8 m4' ?_ | (first | with_reducible (first | refine wpAny_pure ?_ | refine wpAny_bind ?_ | refine wpAny_holding ?_ | refine wpAny_standAt ?_ | refine wpAny_point ?_ | refine wpAny_rule ?_ | refine wpAny_letGo ?_ | refine wpAny_mkInt' ?_ | refine wpAny_mkStr' ?_ | refine wpAny_fresh' ?_ | refine wpAny_alloc' ?_ | refine wpAny_attempt ?_ | refine wpAny_of_eq (by assumption) ?_ | refine wpAny_typeOf (by assumption) ?_ | refine wpAny_specialOf_val (by assumption) (by assumption) ?_ | refine wpAny_specialOf (by assumption) (by assumption) ?_ | refine wpAny_isInstance_val (by assumption) (by assumption) ?_ | refine wpAny_isInstance (by assumption) (by assumption) ?_ | refine wpAny_call ?_ | refine wpAny_runValue ?_ | refine wpAny_run ?_) | ((with_reducible show wpAny _ _ (load _) _ _ _); (with_reducible apply wpAny_load'); focus (heap_get; done)) | ((with_reducible show wpAny _ _ (update _ _) _ _ _); (with_reducible apply wpAny_update'); focus (heap_get; done)) | ((with_reducible show wpAny _ _ (loadPart _ _) _ _ _); (with_reducible apply wpAny_loadPart'); focus (heap_get; done)) | ((with_reducible show wpAny _ _ (updatePart _ _ _) _ _ _); (with_reducible apply wpAny_updatePart'); focus (heap_get; done)) | ((with_reducible refine wpAny_ite_false ?hc ?_); (case hc => first | (decide +kernel; done) | (rfl; done))) | ((with_reducible refine wpAny_ite_true ?hc ?_); (case hc => first | (decide +kernel; done) | (rfl; done))) | wp_delta | with_reducible_and_instances refine wpAny_pure ?_ | with_reducible_and_instances refine wpAny_bind ?_))
  refine cw_set W8 fun h₁₀ W9 => ?_
  have m11' : (fun x => if x = Str.ofString "__doc__" then some Value.none else (fun x => if x = Str.ofString "obj" then some (Value.ref md) else (fun x => if x = Str.ofString "__qualname__" then none else m x) x) x) (Str.ofString "__eq__") = some ve := m11
  have m12' : (fun x => if x = Str.ofString "__doc__" then some Value.none else (fun x => if x = Str.ofString "obj" then some (Value.ref md) else (fun x => if x = Str.ofString "__qualname__" then none else m x) x) x) (Str.ofString "__hash__") = some vh := m12
  have e12 : Builtin.noteSubclassOfBuiltin "object" AA = pure () := by kernel_rfl
  repeat ((fail_if_success (with_reducible show wpAny _ _ (Sem.tryCatch _ _) _ _ _)); first | with_reducible refine cw_get' W9 m11' ?_ | with_reducible refine cw_get' W9 m12' ?_ | (first | with_reducible (first | refine wpAny_pure ?_ | refine wpAny_bind ?_ | refine wpAny_holding ?_ | refine wpAny_standAt ?_ | refine wpAny_point ?_ | refine wpAny_rule ?_ | refine wpAny_letGo ?_ | refine wpAny_mkInt' ?_ | refine wpAny_mkStr' ?_ | refine wpAny_fresh' ?_ | refine wpAny_alloc' ?_ | refine wpAny_attempt ?_ | refine wpAny_of_eq (by assumption) ?_ | refine wpAny_typeOf (by assumption) ?_ | refine wpAny_specialOf_val (by assumption) (by assumption) ?_ | refine wpAny_specialOf (by assumption) (by assumption) ?_ | refine wpAny_isInstance_val (by assumption) (by assumption) ?_ | refine wpAny_isInstance (by assumption) (by assumption) ?_ | refine wpAny_call ?_ | refine wpAny_runValue ?_ | refine wpAny_run ?_) | ((with_reducible show wpAny _ _ (load _) _ _ _); (with_reducible apply wpAny_load'); focus (heap_get; done)) | ((with_reducible show wpAny _ _ (update _ _) _ _ _); (with_reducible apply wpAny_update'); focus (heap_get; done)) | ((with_reducible show wpAny _ _ (loadPart _ _) _ _ _); (with_reducible apply wpAny_loadPart'); focus (heap_get; done)) | ((with_reducible show wpAny _ _ (updatePart _ _ _) _ _ _); (with_reducible apply wpAny_updatePart'); focus (heap_get; done)) | ((with_reducible refine wpAny_ite_false ?hc ?_); (case hc => first | (decide +kernel; done) | (rfl; done))) | ((with_reducible refine wpAny_ite_true ?hc ?_); (case hc => first | (decide +kernel; done) | (rfl; done))) | wp_delta | with_reducible_and_instances refine wpAny_pure ?_ | with_reducible_and_instances refine wpAny_bind ?_))
  refine wpAny_tryCatch (wpAny_holding ?_)
  (first | (refine Mine.e3_5 (W9.dict) ?_; rintro oD esD epD d1 d2 d3 d4 d5) | (obtain ⟨oD, esD, epD, d1, d2, d3, d4, d5⟩ := W9.dict))
  refine wpAny_bind (wpAny_dictEntries (s := ⟨h₁₀, g, d, _, os⟩) d1 d2 ?_)
  refine wpAny_bind (forIn_array_ _ (fun rest b s' => b = false ∧ s' = ⟨h₁₀, g, d, tk8 + 1, os⟩ ∧ ∀ e ∈ rest, ∃ n t, e.key = .str n t) _ ?turn ?fin esD false ⟨rfl, rfl, fun e he => d3 e (by simpa using he)⟩)
  case turn =>
    (rintro e rest b s' hcj; (first | (refine Mine.e0_3 hcj ?_; clear hcj; rintro rfl rfl hall) | (refine Mine.e1_2 hcj ?_; clear hcj; rintro rfl rfl hall) | (refine Mine.e2_1 hcj ?_; clear hcj; rintro rfl rfl hall) | (obtain ⟨rfl, rfl, hall⟩ := hcj)))
    (first | (refine Mine.e0_3 (hall e (by simp)) ?_; rintro n' t' hk') | (refine Mine.e1_2 (hall e (by simp)) ?_; rintro n' t' hk') | (refine Mine.e2_1 (hall e (by simp)) ?_; rintro n' t' hk') | (obtain ⟨n', t', hk'⟩ := hall e (by simp)))
    rw [hk']
    refine wpAny_bind (wpAny_pure (wpAny_ite_false (by rfl) (wpAny_pure ⟨rfl, rfl, fun e' he' => hall e' (by simp [he'])⟩)))
  case fin =>
    (rintro b s' hcj; (first | (refine Mine.e0_3 hcj ?_; clear hcj; rintro rfl rfl -) | (refine Mine.e1_2 hcj ?_; clear hcj; rintro rfl rfl -) | (refine Mine.e2_1 hcj ?_; clear hcj; rintro rfl rfl -) | (obtain ⟨rfl, rfl, -⟩ := hcj)))
    refine wpAny_ite_false (by rfl) ?_
    refine wpAny_bind (wpAny_dictEntries (s := ⟨h₁₀, g, d, _, os⟩) d1 d2 ?_)
    have S10 : Stay h h₁₀ := (S₁.trans SG).trans W9.keep
    have hvD : ∀ e ∈ esD, (∃ n t, e.key = .str n t) ∧ NSN h₁₀ e.val := by
      intro e he
      refine ⟨d3 e he, ?_⟩
      have hf := entry_find d3 d4 he
      rw [d5] at hf
      simp only at hf
      split at hf
      · rw [← Option.some.inj hf]; exact nsn_none _
      · split at hf
        · rw [← Option.some.inj hf]; exact nsn_ref (W9.keep _ _ hmd) rfl nl_memb
        · split at hf
          · cases hf
          · exact (hvs _ _ hf).stay S10
    refine wpAny_bind (forIn_array_ _ (fun rest b s' => s' = ⟨h₁₀, g, d, tk8 + 1, os⟩ ∧ ∀ e ∈ rest, (∃ n t, e.key = .str n t) ∧ NSN h₁₀ e.val) _ ?turn2 ?fin2 esD PUnit.unit ⟨rfl, fun e he => hvD e (by simpa using he)⟩)
    case turn2 =>
      rintro e rest b s' ⟨rfl, hall⟩
      (obtain ⟨⟨n', t', hk'⟩, hn1, T, hn2, hn3⟩ := hall e (by simp))
      refine wpAny_ite_false (decide_eq_false ?_) ?_
      · rw [hk']
        show ¬ Builtin.heldUnderItsOwnName n' e.val = true
        cases he : e.val <;> first | (exact absurd he (hn1 _)) | (simp [Builtin.heldUnderItsOwnName])
      · refine wpAny_bind (wpAny_specialOf (hn3 g d _ os) hn2 (wpAny_pure ⟨rfl, fun e' he' => hall e' (by simp [he'])⟩))
    case fin2 =>
      rintro b s' ⟨rfl, -⟩
      subst hq
      have hst' := hst.keeps S10
      refine wpAny_bind (wp_super W9.cls fun Sp h₁₁ fS S11 hS => ?_)
      refine wpAny_bind (wpAny_holding (wp_supAttr (S11 _ _ W9.cls) hS (hst'.keeps S11) hmc fun bb h₁₂ tk12 fb S12 hbb => ?_))
      refine wpAny_bind (wp_callInit (S12 _ _ (S11 _ _ W9.cls)) hbb (wpAny_pure ?_))
      refine wpAny_pure ⟨_, rfl, ?_⟩
      have St := S11.trans S12
      exact k AA NN h₁₂ tk12 md t8 (S10.trans St) (get_none_of S₁ fN) (St _ _ W9.cls) (W9.dict.ns.keeps St) (St _ _ (W9.keep _ _ hmd))
end
end Mine
end
section
open PySem PySem.W PySem.Calls PyProof.Rows
set_option Elab.async false
set_option maxRecDepth 100000
namespace Mine
section
variable {prog : Program} {w : World} {A : Around} {E : Value → Shared → Prop} {g : Array GenState} {d : Drawn} {os : OsState} {h : Heap} {tk : Nat}

theorem ty_mro : mroOf (.type "type") = pure [.type "type", .type "object"] := by kernel_rfl
theorem ty_made : Bind.madeBy (.type "type") = pure (some "type.__new__") := by kernel_rfl
theorem ty_can : ((Manifest.find? "type").bind (·.mro.findSome? fun t => (Manifest.find? t).bind fun b => if b.noNew then some true else if b.attrs.any (·.1 == "__new__") then some false else none)).getD false = false := by decide +kernel
theorem ty_ct (a b c : Value) : checkTypeCall "type" ⟨[a, b, c], []⟩ = pure () := by kernel_rfl
theorem ty_nplain : plainId "type.__new__" = true := by decide +kernel
theorem ty_nentry : entryFor table "type.__new__" = some Builtin.«type.__new__» := entryFor_of_tree (by kernel_rfl)
theorem ty_ientry : entryFor table "type.__init__" = some Builtin.«type.__init__» := entryFor_of_tree (by kernel_rfl)
theorem ty_nc (a b c : Value) : checkBuiltinCall "type.__new__" ⟨[.type "type", a, b, c], []⟩ = pure () := by kernel_rfl
theorem ty_islot : Slot "type" "__init__" "type.__init__" :=
  .of (owner := "type") (n := "__init__") (by rw [typeLookup_type, builtinLookup_eq_fast]; kernel_rfl) (by decide +kernel) (by decide +kernel) (by decide +kernel)
    (by first | exact .inl (by decide +kernel) | exact .inr (by decide +kernel)) (by rw [isSubtype_type]; kernel_rfl)
theorem ty_iargs (a b c d : Value) : argsOk "type.__init__" ⟨[a, b, c, d], []⟩ := by unfold argsOk; kernel_rfl

set_option maxHeartbeats 8000000 in
theorem wp_type3 {a b c : Value} {Q : Value → Shared → Prop} {s : Shared}
    (hnew : ∀ A, wpAny (model prog w) A (Builtin.«type.__new__» ⟨[.type "type", a, b, c], []⟩) (fun fin s' => ∃ v, fin = .done (.ret v) ∧ ∃ C oC, v = .ref C ∧ s'.heap.get? C = some oC ∧ oC.cls = .type "type" ∧ Q (.ref C) s') (fun _ _ => False) s) :
    wpAny (model prog w) A (call (.type "type") [a, b, c]) Q E s := by
  have hmro := ty_mro
  have hmade := ty_made
  have hsub := kf3
  have hct := ty_ct a b c
  refine wpAny_call (codeAny_of_tree ?_)
  show wpAny _ _ (callAny (.type "type") _) _ _ _
  refine wpAny_pure ⟨Code.quiet_builtin _ (by decide +kernel), codeAny_builtin PySem.F.entry_type_call ?_⟩
  rw [Around.under_plain (weight_type_call_type "type" _ []) (units_type_call_type "type" _ [])]
  have h2 := ty_can
  repeat (any_goals (first | assumption | wp_step))
  have hn : codeAny (model prog w) A.in1 (.call (.builtin "type.__new__") ⟨[.type "type", a, b, c], []⟩) (fun r s₁ => ∃ C oC, r = .ok (.ret (.ref C)) ∧ s₁.heap.get? C = some oC ∧ oC.cls = .type "type" ∧ Q (.ref C) s₁) s :=
    codeAny_call_builtin ty_nplain ty_nentry (wpAny_of_eq (ty_nc _ _ _) (wpAny_mono (hnew _) (fun fin s' q => by
      (obtain ⟨v, rfl, C, oC, rfl, e1, e2, e3⟩ := q)
      exact ⟨C, oC, rfl, e1, e2, e3⟩) fun _ _ e => e.elim))
  refine codeAny_mono hn fun r s₁ hr => ?_
  (first | (refine Mine.e2_4 (hr) ?_; rintro C oC rfl e1 e2 hq) | (obtain ⟨C, oC, rfl, e1, e2, hq⟩ := hr))
  have hT : s₁.TypeIs (.ref C) "type" := ⟨oC, e1, e2⟩
  have hli := ty_islot.lookup
  have hbi := ty_islot.bind (.ref C)
  show wpAny _ _ _ _ _ _
  repeat (any_goals (first | assumption | wp_step))
  have hini : codeAny (model prog w) A.in1 (.call (.builtin "type.__init__") ⟨[.ref C, a, b, c], []⟩) (fun r s₂ => r = .ok (.ret .none) ∧ s₂ = s₁) s₁ :=
    codeAny_call_builtin ty_islot.plain ty_ientry (ty_islot.check _ _ _ _ _ _ _ _ hT (ty_iargs _ _ _ _) (wpAny_pure ⟨rfl, rfl⟩))
  refine codeAny_mono hini fun r s₂ hr => ?_
  obtain ⟨rfl, rfl⟩ := hr
  show wpAny _ _ _ _ _ _
  repeat (any_goals (first | assumption | wp_step))
end
end Mine
end
section
open PySem PySem.W PySem.Calls PyProof.Rows
set_option Elab.async false
set_option maxRecDepth 100000
namespace Mine
section
variable {prog : Program} {w : World} {A : Around} {E : Value → Shared → Prop} {g : Array GenState} {d : Drawn} {os : OsState} {h : Heap} {tk : Nat} {N : Addr} {m : Str → Option Value} {es : Array DictEntry} {n : Nat}

theorem dn_set {name : Str} {v : Value} {Q : Unit → Shared → Prop} (D : DN h N m es n) (k : ∀ h' es' n', DN h' N (fun x => if x = name then some v else m x) es' n' → Off N h h' → Q () ⟨h', g, d, tk + 1, os⟩) :
    wpAny (model prog w) A (nsSet N name v) Q E ⟨h, g, d, tk, os⟩ := by
  unfold nsSet strHash
  refine wpAny_bind (wpAny_bind (wpAny_askSetting (wpAny_pure (wpAny_bind (wpAny_mkText ?_)))))
  refine wpAny_bind (wpAny_loadPart (s := ⟨h, g, d, tk + 1, os⟩) D.at' ?_)
  have hany : es.any (·.refKey) = false := by
    rw [Array.any_eq_false']; intro e he; obtain ⟨n, t, h⟩ := D.sk e he; simp [DictEntry.refKey, h]
  simp only [aRefKeyMayBeTheName_eq, aRefKeyMayBeTheNameByArray, hany, Bool.and_false, Bool.false_eq_true, if_false]
  refine wpAny_updatePart (s := ⟨h, g, d, tk + 1, os⟩) D.at' ?_
  have hoff : ∀ f, Off N h (h.update N f) := fun f b o hb e => ((Heap.SameBut.update h N f).2 b hb).trans e
  cases hi : es.findIdx? (·.key.isStr name) with
  | some i =>
    refine k _ _ n ⟨Heap.get?_update_self _ D.at' (by simp only [Obj.putName_eq, Obj.putNameByArray, hi]; rfl) |>.trans (by simp only [Obj.putName_eq, Obj.putNameByArray, hi]; rfl), D.sk.modify _ _, D.uk.modify _ _, fun x => ?_⟩ (hoff _)
    show _ = if x = name then some v else m x
    rw [← D.ns]; exact findBy_modify (fun n v => v.isStr n) Value.isStr_inj es name x v i hi
  | none =>
    refine k _ _ (n + 1) ⟨Heap.get?_update_self _ D.at' (by simp only [Obj.putName_eq, Obj.putNameByArray, hi]; rfl) |>.trans (by simp only [Obj.putName_eq, Obj.putNameByArray, hi]; rfl), D.sk.push _ _ _ _, D.uk.push _ _ _ _ hi, fun x => ?_⟩ (hoff _)
    show _ = if x = name then some v else m x
    rw [← D.ns]
    exact findBy_push (fun n v => v.isStr n) es name x _ _ v (fun y => by
      show (name == y) = decide (y = name)
      by_cases h : y = name
      · subst h; simp
      · have : ¬ name = y := fun e => h e.symm
        simp [h, this]) hi
theorem dn_new {a : Addr} (e : h.get? a = some { cls := .type "dict", data := .dict #[] }) : DN h a (fun _ => none) #[] 0 := ⟨e, fun e he => by simp at he, by simp [UniqKeys], fun _ => rfl⟩
theorem DN.stay {h' : Heap} (D : DN h N m es n) (S : Stay h h') : DN h' N m es n := ⟨S _ _ D.at', D.sk, D.uk, D.ns⟩
theorem DN.off {h' : Heap} {P : Addr} (D : DN h N m es n) (S : Off P h h') (hn : N ≠ P) : DN h' N m es n := ⟨S _ _ hn D.at', D.sk, D.uk, D.ns⟩

theorem tga_slot : Slot "type" "__getattribute__" "type.__getattribute__" :=
  .of (owner := "type") (n := "__getattribute__") (by rw [typeLookup_type, builtinLookup_eq_fast]; kernel_rfl) (by decide +kernel) (by decide +kernel) (by decide +kernel)
    (by first | exact .inl (by decide +kernel) | exact .inr (by decide +kernel)) (by rw [isSubtype_type]; kernel_rfl)
theorem tga_look : typeLookup (Value.type ((Manifest.find? "type").elim "type" fun x => x.metatype)) "__getattribute__" = pure (some (.builtin "type.__getattribute__")) := by
  rw [show (Manifest.find? "type").elim "type" (fun x => x.metatype) = "type" by decide +kernel]
  exact tga_slot.lookup
theorem tga_entry : entryFor table "type.__getattribute__" = some Builtin.«type.__getattribute__» := entryFor_of_tree (by kernel_rfl)
theorem tga_args (a b : Value) : argsOk "type.__getattribute__" ⟨[a, b], []⟩ := by unfold argsOk; kernel_rfl
theorem typeIs_type {s : Shared} : s.TypeIs (.type "type") "type" := by show typeOf _ = _; kernel_rfl

theorem pr_look : typeLookup (.type "type") "__prepare__" = pure (some (.builtin "type.__prepare__")) := by rw [typeLookup_type, builtinLookup_eq_fast]; kernel_rfl
theorem pr_look' : typeLookup (Value.type ((Manifest.find? "type").elim "type" fun x => x.metatype)) "__prepare__" = pure (some (.builtin "type.__prepare__")) := by
  rw [show (Manifest.find? "type").elim "type" (fun x => x.metatype) = "type" by decide +kernel]
  exact pr_look
theorem pr_type : typeOf (.builtin "type.__prepare__") = pure (.type "classmethod_descriptor") := by show builtinType _ = _; rw [builtinType_eq_fast]; kernel_rfl
set_option maxHeartbeats 2000000 in
theorem wp_cdgP {R : Result → Shared → Prop} 
    (k : R (.ok (.ret (.ref h.objs.size))) ⟨h.push { cls := .type "builtin_function_or_method", data := .fields #[.builtin "type.__prepare__", .type "type"] }, g, d, tk, os⟩) :
    codeAny (model prog w) A (.call (.builtin "classmethod_descriptor.__get__") ⟨[.builtin "type.__prepare__", .none, .type "type"], []⟩) R ⟨h, g, d, tk, os⟩ := by
  refine codeAny_call_builtin cdg_slot.plain cdg_entry (cdg_slot.check _ _ _ _ _ _ _ _ (show Shared.TypeIs ⟨h, g, d, tk, os⟩ (.builtin "type.__prepare__") "classmethod_descriptor" from pr_type) (cdg_args _ _ _) ?_)
  have e3 : isSubtype (.type "type") (.type "type") = pure true := by rw [isSubtype_type]; kernel_rfl
  have e4 : isSubtype (.type "type") (.type (".".intercalate ("type.__prepare__".cutAt '.').dropLast)) = pure true := by
    rw [show ".".intercalate ("type.__prepare__".cutAt '.').dropLast = "type" by decide +kernel]; exact e3
  unfold Builtin.«classmethod_descriptor.__get__»
  repeat (first | with_reducible (first | refine wpAny_pure ?_ | refine wpAny_bind ?_ | refine wpAny_holding ?_ | refine wpAny_standAt ?_ | refine wpAny_point ?_ | refine wpAny_rule ?_ | refine wpAny_letGo ?_ | refine wpAny_mkInt' ?_ | refine wpAny_mkStr' ?_ | refine wpAny_fresh' ?_ | refine wpAny_alloc' ?_ | refine wpAny_attempt ?_ | refine wpAny_of_eq (by assumption) ?_ | refine wpAny_typeOf (by assumption) ?_ | refine wpAny_specialOf_val (by assumption) (by assumption) ?_ | refine wpAny_specialOf (by assumption) (by assumption) ?_ | refine wpAny_isInstance_val (by assumption) (by assumption) ?_ | refine wpAny_isInstance (by assumption) (by assumption) ?_ | refine wpAny_call ?_ | refine wpAny_runValue ?_ | refine wpAny_run ?_) | ((with_reducible show wpAny _ _ (load _) _ _ _); (with_reducible apply wpAny_load'); focus (heap_get; done)) | ((with_reducible show wpAny _ _ (update _ _) _ _ _); (with_reducible apply wpAny_update'); focus (heap_get; done)) | ((with_reducible show wpAny _ _ (loadPart _ _) _ _ _); (with_reducible apply wpAny_loadPart'); focus (heap_get; done)) | ((with_reducible show wpAny _ _ (updatePart _ _ _) _ _ _); (with_reducible apply wpAny_updatePart'); focus (heap_get; done)) | ((with_reducible refine wpAny_ite_false ?hc ?_); (case hc => first | (decide +kernel; done) | (rfl; done))) | ((with_reducible refine wpAny_ite_true ?hc ?_); (case hc => first | (decide +kernel; done) | (rfl; done))) | wp_delta | with_reducible_and_instances refine wpAny_pure ?_ | with_reducible_and_instances refine wpAny_bind ?_)
  exact k

theorem cd_set : typeLookup (.type "classmethod_descriptor") "__set__" = pure none := by rw [typeLookup_type, builtinLookup_eq_fast]; kernel_rfl
theorem cd_del : typeLookup (.type "classmethod_descriptor") "__delete__" = pure none := by rw [typeLookup_type, builtinLookup_eq_fast]; kernel_rfl
set_option maxHeartbeats 4000000 in
theorem wp_tga {t : Tok} {Q : PySem.Fin → Shared → Prop} 
    (k : ∀ b h' tk', h.get? b = none → Stay h h' → h'.get? b = some { cls := .type "builtin_function_or_method", data := .fields #[.builtin "type.__prepare__", .type "type"] } → Q (.done (.ret (.ref b))) ⟨h', g, d, tk', os⟩) :
    wpAny (model prog w) A (Builtin.«type.__getattribute__» ⟨[.type "type", .str "__prepare__" t], []⟩) Q E ⟨h, g, d, tk, os⟩ := by
  have e1 := pr_look
  have e2 := pr_look'
  have e3 := pr_type
  have e4 := sga_get
  have e5 := cd_set
  have e6 := cd_del
  unfold Builtin.«type.__getattribute__»
  repeat ((fail_if_success (with_reducible show codeAny _ _ _ _ _)); (first | with_reducible (first | refine wpAny_pure ?_ | refine wpAny_bind ?_ | refine wpAny_holding ?_ | refine wpAny_standAt ?_ | refine wpAny_point ?_ | refine wpAny_rule ?_ | refine wpAny_letGo ?_ | refine wpAny_mkInt' ?_ | refine wpAny_mkStr' ?_ | refine wpAny_fresh' ?_ | refine wpAny_alloc' ?_ | refine wpAny_attempt ?_ | refine wpAny_of_eq (by assumption) ?_ | refine wpAny_typeOf (by assumption) ?_ | refine wpAny_specialOf_val (by assumption) (by assumption) ?_ | refine wpAny_specialOf (by assumption) (by assumption) ?_ | refine wpAny_isInstance_val (by assumption) (by assumption) ?_ | refine wpAny_isInstance (by assumption) (by assumption) ?_ | refine wpAny_call ?_ | refine wpAny_runValue ?_ | refine wpAny_run ?_) | ((with_reducible show wpAny _ _ (load _) _ _ _); (with_reducible apply wpAny_load'); focus (heap_get; done)) | ((with_reducible show wpAny _ _ (update _ _) _ _ _); (with_reducible apply wpAny_update'); focus (heap_get; done)) | ((with_reducible show wpAny _ _ (loadPart _ _) _ _ _); (with_reducible apply wpAny_loadPart'); focus (heap_get; done)) | ((with_reducible show wpAny _ _ (updatePart _ _ _) _ _ _); (with_reducible apply wpAny_updatePart'); focus (heap_get; done)) | ((with_reducible refine wpAny_ite_false ?hc ?_); (case hc => first | (decide +kernel; done) | (rfl; done))) | ((with_reducible refine wpAny_ite_true ?hc ?_); (case hc => first | (decide +kernel; done) | (rfl; done))) | wp_delta | with_reducible_and_instances refine wpAny_pure ?_ | with_reducible_and_instances refine wpAny_bind ?_))
  refine wp_cdgP ?_
  show wpAny _ _ _ _ _ _
  repeat (first | with_reducible (first | refine wpAny_pure ?_ | refine wpAny_bind ?_ | refine wpAny_holding ?_ | refine wpAny_standAt ?_ | refine wpAny_point ?_ | refine wpAny_rule ?_ | refine wpAny_letGo ?_ | refine wpAny_mkInt' ?_ | refine wpAny_mkStr' ?_ | refine wpAny_fresh' ?_ | refine wpAny_alloc' ?_ | refine wpAny_attempt ?_ | refine wpAny_of_eq (by assumption) ?_ | refine wpAny_typeOf (by assumption) ?_ | refine wpAny_specialOf_val (by assumption) (by assumption) ?_ | refine wpAny_specialOf (by assumption) (by assumption) ?_ | refine wpAny_isInstance_val (by assumption) (by assumption) ?_ | refine wpAny_isInstance (by assumption) (by assumption) ?_ | refine wpAny_call ?_ | refine wpAny_runValue ?_ | refine wpAny_run ?_) | ((with_reducible show wpAny _ _ (load _) _ _ _); (with_reducible apply wpAny_load'); focus (heap_get; done)) | ((with_reducible show wpAny _ _ (update _ _) _ _ _); (with_reducible apply wpAny_update'); focus (heap_get; done)) | ((with_reducible show wpAny _ _ (loadPart _ _) _ _ _); (with_reducible apply wpAny_loadPart'); focus (heap_get; done)) | ((with_reducible show wpAny _ _ (updatePart _ _ _) _ _ _); (with_reducible apply wpAny_updatePart'); focus (heap_get; done)) | ((with_reducible refine wpAny_ite_false ?hc ?_); (case hc => first | (decide +kernel; done) | (rfl; done))) | ((with_reducible refine wpAny_ite_true ?hc ?_); (case hc => first | (decide +kernel; done) | (rfl; done))) | wp_delta | with_reducible_and_instances refine wpAny_pure ?_ | with_reducible_and_instances refine wpAny_bind ?_)
  exact k _ _ _ (Heap.get?_none_of_le (Nat.le_refl _)) (fun _ _ e => Heap.get?_push_of_some _ e) (Heap.get?_push_size _ rfl)

set_option maxHeartbeats 4000000 in
theorem wp_prep {Q : Option Value → Shared → Prop}
    (k : ∀ b h' tk', h.get? b = none → Stay h h' → h'.get? b = some { cls := .type "builtin_function_or_method", data := .fields #[.builtin "type.__prepare__", .type "type"] } → Q (some (.ref b)) ⟨h', g, d, tk', os⟩) :
    wpAny (model prog w) A (getAttr? (.type "type") "__prepare__") Q E ⟨h, g, d, tk, os⟩ := by
  have e1 := tga_look
  have e2 := tga_slot.bind (.type "type")
  unfold getAttr?
  repeat ((fail_if_success (with_reducible show codeAny _ _ _ _ _)); (first | with_reducible (first | refine wpAny_pure ?_ | refine wpAny_bind ?_ | refine wpAny_holding ?_ | refine wpAny_standAt ?_ | refine wpAny_point ?_ | refine wpAny_rule ?_ | refine wpAny_letGo ?_ | refine wpAny_mkInt' ?_ | refine wpAny_mkStr' ?_ | refine wpAny_fresh' ?_ | refine wpAny_alloc' ?_ | refine wpAny_attempt ?_ | refine wpAny_of_eq (by assumption) ?_ | refine wpAny_typeOf (by assumption) ?_ | refine wpAny_specialOf_val (by assumption) (by assumption) ?_ | refine wpAny_specialOf (by assumption) (by assumption) ?_ | refine wpAny_isInstance_val (by assumption) (by assumption) ?_ | refine wpAny_isInstance (by assumption) (by assumption) ?_ | refine wpAny_call ?_ | refine wpAny_runValue ?_ | refine wpAny_run ?_) | ((with_reducible show wpAny _ _ (load _) _ _ _); (with_reducible apply wpAny_load'); focus (heap_get; done)) | ((with_reducible show wpAny _ _ (update _ _) _ _ _); (with_reducible apply wpAny_update'); focus (heap_get; done)) | ((with_reducible show wpAny _ _ (loadPart _ _) _ _ _); (with_reducible apply wpAny_loadPart'); focus (heap_get; done)) | ((with_reducible show wpAny _ _ (updatePart _ _ _) _ _ _); (with_reducible apply wpAny_updatePart'); focus (heap_get; done)) | ((with_reducible refine wpAny_ite_false ?hc ?_); (case hc => first | (decide +kernel; done) | (rfl; done))) | ((with_reducible refine wpAny_ite_true ?hc ?_); (case hc => first | (decide +kernel; done) | (rfl; done))) | wp_delta | with_reducible_and_instances refine wpAny_pure ?_ | with_reducible_and_instances refine wpAny_bind ?_))
  refine codeAny_call_builtin tga_slot.plain tga_entry (tga_slot.check _ _ _ _ _ _ _ _ typeIs_type (tga_args _ _) ?_)
  refine wp_tga fun b h' tk' hb S hb' => ?_
  show wpAny _ _ _ _ _ _
  repeat (first | with_reducible (first | refine wpAny_pure ?_ | refine wpAny_bind ?_ | refine wpAny_holding ?_ | refine wpAny_standAt ?_ | refine wpAny_point ?_ | refine wpAny_rule ?_ | refine wpAny_letGo ?_ | refine wpAny_mkInt' ?_ | refine wpAny_mkStr' ?_ | refine wpAny_fresh' ?_ | refine wpAny_alloc' ?_ | refine wpAny_attempt ?_ | refine wpAny_of_eq (by assumption) ?_ | refine wpAny_typeOf (by assumption) ?_ | refine wpAny_specialOf_val (by assumption) (by assumption) ?_ | refine wpAny_specialOf (by assumption) (by assumption) ?_ | refine wpAny_isInstance_val (by assumption) (by assumption) ?_ | refine wpAny_isInstance (by assumption) (by assumption) ?_ | refine wpAny_call ?_ | refine wpAny_runValue ?_ | refine wpAny_run ?_) | ((with_reducible show wpAny _ _ (load _) _ _ _); (with_reducible apply wpAny_load'); focus (heap_get; done)) | ((with_reducible show wpAny _ _ (update _ _) _ _ _); (with_reducible apply wpAny_update'); focus (heap_get; done)) | ((with_reducible show wpAny _ _ (loadPart _ _) _ _ _); (with_reducible apply wpAny_loadPart'); focus (heap_get; done)) | ((with_reducible show wpAny _ _ (updatePart _ _ _) _ _ _); (with_reducible apply wpAny_updatePart'); focus (heap_get; done)) | ((with_reducible refine wpAny_ite_false ?hc ?_); (case hc => first | (decide +kernel; done) | (rfl; done))) | ((with_reducible refine wpAny_ite_true ?hc ?_); (case hc => first | (decide +kernel; done) | (rfl; done))) | wp_delta | with_reducible_and_instances refine wpAny_pure ?_ | with_reducible_and_instances refine wpAny_bind ?_)
  exact k b h' _ hb S hb'

theorem prep_entry : entryFor table "type.__prepare__" = some Builtin.«type.__prepare__» := entryFor_of_tree (by kernel_rfl)
set_option maxHeartbeats 4000000 in
theorem wp_prepCall {b : Addr} {x y : Value} {Q : Value → Shared → Prop} (hb : h.get? b = some { cls := .type "builtin_function_or_method", data := .fields #[.builtin "type.__prepare__", .type "type"] })
    (k : ∀ N h', h.get? N = none → (∀ b o, h.get? b = some o → b < N) → Stay h h' → h'.get? N = some { cls := .type "dict", data := .dict #[] } → Q (.ref N) ⟨h', g, d, tk, os⟩) : wpAny (model prog w) A (call (.ref b) [x, y] []) Q E ⟨h, g, d, tk, os⟩ := by
  have e3 : isSubtype (.type "type") (.type "type") = pure true := by rw [isSubtype_type]; kernel_rfl
  have e4 : isSubtype (.type "type") (.type "module") = pure false := by rw [isSubtype_type]; kernel_rfl
  have e5 : isSubtype (Value.type ((Manifest.find? "type").elim "type" fun x => x.metatype)) (Value.type "module") = pure false := by
    rw [show (Manifest.find? "type").elim "type" (fun x => x.metatype) = "type" by decide +kernel]; exact e4
  refine wpAny_call (codeAny_of_tree ?_)
  show wpAny _ _ (callAny (.ref b) _) _ _ _
  repeat (first | with_reducible refine wpAny_loadPart_at hb ?_ | (first | with_reducible (first | refine wpAny_pure ?_ | refine wpAny_bind ?_ | refine wpAny_holding ?_ | refine wpAny_standAt ?_ | refine wpAny_point ?_ | refine wpAny_rule ?_ | refine wpAny_letGo ?_ | refine wpAny_mkInt' ?_ | refine wpAny_mkStr' ?_ | refine wpAny_fresh' ?_ | refine wpAny_alloc' ?_ | refine wpAny_attempt ?_ | refine wpAny_of_eq (by assumption) ?_ | refine wpAny_typeOf (by assumption) ?_ | refine wpAny_specialOf_val (by assumption) (by assumption) ?_ | refine wpAny_specialOf (by assumption) (by assumption) ?_ | refine wpAny_isInstance_val (by assumption) (by assumption) ?_ | refine wpAny_isInstance (by assumption) (by assumption) ?_ | refine wpAny_call ?_ | refine wpAny_runValue ?_ | refine wpAny_run ?_) | ((with_reducible show wpAny _ _ (load _) _ _ _); (with_reducible apply wpAny_load'); focus (heap_get; done)) | ((with_reducible show wpAny _ _ (update _ _) _ _ _); (with_reducible apply wpAny_update'); focus (heap_get; done)) | ((with_reducible show wpAny _ _ (loadPart _ _) _ _ _); (with_reducible apply wpAny_loadPart'); focus (heap_get; done)) | ((with_reducible show wpAny _ _ (updatePart _ _ _) _ _ _); (with_reducible apply wpAny_updatePart'); focus (heap_get; done)) | ((with_reducible refine wpAny_ite_false ?hc ?_); (case hc => first | (decide +kernel; done) | (rfl; done))) | ((with_reducible refine wpAny_ite_true ?hc ?_); (case hc => first | (decide +kernel; done) | (rfl; done))) | wp_delta | with_reducible_and_instances refine wpAny_pure ?_ | with_reducible_and_instances refine wpAny_bind ?_))
  refine ⟨Code.quiet_builtin _ (by decide +kernel), codeAny_builtin prep_entry ?_⟩
  show wpAny _ _ (Builtin.«type.__prepare__» ⟨[.type "type", x, y], []⟩) _ _ _
  repeat (first | with_reducible (first | refine wpAny_pure ?_ | refine wpAny_bind ?_ | refine wpAny_holding ?_ | refine wpAny_standAt ?_ | refine wpAny_point ?_ | refine wpAny_rule ?_ | refine wpAny_letGo ?_ | refine wpAny_mkInt' ?_ | refine wpAny_mkStr' ?_ | refine wpAny_fresh' ?_ | refine wpAny_alloc' ?_ | refine wpAny_attempt ?_ | refine wpAny_of_eq (by assumption) ?_ | refine wpAny_typeOf (by assumption) ?_ | refine wpAny_specialOf_val (by assumption) (by assumption) ?_ | refine wpAny_specialOf (by assumption) (by assumption) ?_ | refine wpAny_isInstance_val (by assumption) (by assumption) ?_ | refine wpAny_isInstance (by assumption) (by assumption) ?_ | refine wpAny_call ?_ | refine wpAny_runValue ?_ | refine wpAny_run ?_) | ((with_reducible show wpAny _ _ (load _) _ _ _); (with_reducible apply wpAny_load'); focus (heap_get; done)) | ((with_reducible show wpAny _ _ (update _ _) _ _ _); (with_reducible apply wpAny_update'); focus (heap_get; done)) | ((with_reducible show wpAny _ _ (loadPart _ _) _ _ _); (with_reducible apply wpAny_loadPart'); focus (heap_get; done)) | ((with_reducible show wpAny _ _ (updatePart _ _ _) _ _ _); (with_reducible apply wpAny_updatePart'); focus (heap_get; done)) | ((with_reducible refine wpAny_ite_false ?hc ?_); (case hc => first | (decide +kernel; done) | (rfl; done))) | ((with_reducible refine wpAny_ite_true ?hc ?_); (case hc => first | (decide +kernel; done) | (rfl; done))) | wp_delta | with_reducible_and_instances refine wpAny_pure ?_ | with_reducible_and_instances refine wpAny_bind ?_)
  exact k _ _ (Heap.get?_none_of_le (Nat.le_refl _)) (fun _ _ e => Heap.lt_size e) (fun _ _ e => Heap.get?_push_of_some _ e) (Heap.get?_push_size _ rfl)
end
end Mine
end
section
open PySem PySem.W PySem.Calls PyProof.Rows
set_option Elab.async false
set_option maxRecDepth 100000
namespace Mine

noncomputable def BM (h : Heap) (mg : Str → Option Value) : Prop := ∃ bm o, mg "__builtins__" = some (.ref bm) ∧ bm ≠ builtinsNs ∧ bm ≠ mainGlobals ∧ h.get? bm = some o ∧ o.cls = .type "module" ∧ o.dict = some builtinsNs ∧ o.data = .plain
theorem BM.stay {h h' : Heap} {mg : Str → Option Value} (x : BM h mg) (S : Stay h h') : BM h' mg := let ⟨bm, o, a, b, c, e, r⟩ := x; ⟨bm, o, a, b, c, S _ _ e, r⟩
theorem BM.at {h : Heap} {mg : Str → Option Value} {P : Addr} {ps : Array Value} (x : BM h mg) (hP : h.get? P = some (tabObj ps)) : h.BuiltinsAt mg P :=
by
  (first | (refine Mine.e2_6 (x) ?_; rintro bm o a b c e f r) | (obtain ⟨bm, o, a, b, c, e, f, r⟩ := x))
  refine ⟨bm, o, a, b, c, fun q => ?_, e, f, r⟩
  rw [q, hP] at e; cases e; cases f
theorem ns_ne_tab {h : Heap} {a P : Addr} {m : Str → Option Value} {ps : Array Value} (x : h.Ns a m) (hP : h.get? P = some (tabObj ps)) : a ≠ P := by
  rintro rfl
  (first | (refine Mine.e3_3 (x) ?_; rintro o es ep e hd _) | (obtain ⟨o, es, ep, e, hd, _⟩ := x))
  rw [hP] at e; cases e; cases hd

section
variable {prog : Program} {w : World} {A : Around} {E : Value → Shared → Prop} {s : Shared} {h : Heap} {tk : Nat} {mg : Str → Option Value}

theorem mk_fn {name qual : Str} {params : Arguments} {body : List Stmt} {scope : Scope} {env : Env} {c P : Addr} {ps : Array Value} {pos : Pos} {fl : Nat} {clos : List (Str × Addr)} {Q : Value → Shared → Prop}
    (hg : h.Ns mainGlobals mg) (bm : BM h mg) (C : CodeHd h c P) (hP : h.get? P = some (tabObj ps)) (ht : TriplesOk ps.toList) (hnf : codeAmong pos ps.toList = none)
    (hcl : closureFor scope env = pure clos) (hcode : env.code = .ref c)
    (k : ∀ f c' ctv doc h' tk', h.get? f = none → h.get? c' = none → Off P h h' → h'.get? f = some (fnMade name qual params body scope clos doc ((mg "__name__").getD .none) c' ctv) → h'.CodeRec (.ref c') qual →
      h'.get? P = some (tabObj (ps ++ #[rawInt pos.line, rawInt pos.col, .ref c'])) → Q (.ref f) (st s h' tk')) (hge0 : env.globals = mainGlobals := by rfl) :
    wpAny (model prog w) A (makeFunction name qual params (.stmts body) scope env [] [] [] pos fl) Q E (st s h tk) := by
  refine makeFunction_K (s := st s h tk) hcl hge0 hg hcode C hP ht hnf (ns_ne_tab hg hP) (bm.at hP) fun c' ctv doc h' tk' hx hge hlt hrec htb => ?_
  refine k h'.objs.size c' ctv doc _ tk' (Heap.get?_none_of_le (Nat.le_trans hge (Nat.le_of_lt hlt))) (Heap.get?_none_of_le hge) (fun b o hb e => Heap.get?_push_of_some _ (hx b o hb e)) (Heap.get?_push_size _ rfl)
    (hrec.keeps fun b o e => Heap.get?_push_of_some _ e) (Heap.get?_push_of_some _ htb)

theorem wp_classCode {env : Env} {c P : Addr} {ps : Array Value} {pos : Pos} {fl : Nat} {name qual : Str} {scope : Scope} {Q : Value → Shared → Prop} (hc : env.code = .ref c) (C : CodeHd h c P) (hP : h.get? P = some (tabObj ps)) (ht : TriplesOk ps.toList)
    (hnf : codeAmong pos ps.toList = none)
    (k : ∀ c' P' h' tk', h.get? c' = none → h.get? P' = none → Off P h h' → CodeHd h' c' P' → h'.get? P' = some (tabObj #[]) → h'.get? P = some (tabObj (ps ++ #[rawInt pos.line, rawInt pos.col, .ref c'])) → Q (.ref c') (st s h' tk')) :
    wpAny (model prog w) A (classCode env pos fl name qual scope) Q E (st s h tk) := by
  have hok := C.code hP ht
  have htab := C.tab hP
  (obtain ⟨o, vs, file, tf, flags, tg, inF, text, tt, op, ho, hd, h11, h2, h7, h9, h10, hop, hpd, htr, hne⟩ := id hok)
  have eop : op = tabObj ps := Option.some.inj (hop.symm.trans hP)
  subst eop
  unfold classCode codeAt
  rw [hc, if_neg (show ¬ ((Value.ref c == Value.none) = true) from Bool.false_ne_true)]
  refine wpAny_bind (wpAny_fieldsOf (s := st s h tk) ho hd ?_)
  rw [h11]
  refine wpAny_bind (wpAny_fieldsOf (s := st s h tk) hop hpd ?_)
  rw [hnf, h2, h7, h9, h10]
  refine wpAny_bind (wpAny_newCodeX (s := st s h tk) fun c' P' h' tk' hk hc' hP' hcode' htab' hrec' => ?_)
  have hop' := hk _ _ hop
  refine wpAny_bind (wpAny_updateFieldsOfTheText (s := st s h' tk') hop' hpd ?_)
  have hnew : (Obj.mapFields (fun vs => if (codeAmong pos vs.toList).isSome = true then vs else vs ++ #[rawInt pos.line, rawInt pos.col, .ref c']) (tabObj ps)) = tabObj (ps ++ #[rawInt pos.line, rawInt pos.col, .ref c']) := by
    simp only [Obj.mapFields, hnf]; rfl
  have hget := (Heap.get?_update_self (h := h') (fun o => Obj.mapFields (fun vs => if (codeAmong pos vs.toList).isSome = true then vs else vs ++ #[rawInt pos.line, rawInt pos.col, .ref c']) o) hop' (by rw [hnew]; rfl)).trans (congrArg some hnew)
  refine wpAny_bind (wpAny_fieldsOf (s := st s _ tk') hget rfl ?_)
  have hl : (ps ++ #[rawInt pos.line, rawInt pos.col, Value.ref c']).toList = ps.toList ++ [rawInt pos.line, rawInt pos.col, .ref c'] := by simp
  rw [hl, codeAmong_snoc _ htr hnf]
  have hcP : c' ≠ P := Nat.ne_of_gt (Nat.lt_of_lt_of_le (Heap.lt_size hop) hc')
  have hP'P : P' ≠ P := Nat.ne_of_gt (Nat.lt_of_lt_of_le (Heap.lt_size hop) hP')
  have C' := CodeHd.of hcode' htab'
  (first | (refine Mine.e9_2 (C') ?_; rintro o2 vs2 file2 tf2 flags2 tg2 inF2 text2 tt2 e1 r) | (obtain ⟨o2, vs2, file2, tf2, flags2, tg2, inF2, text2, tt2, e1, r⟩ := C'))
  exact wpAny_pure (k c' P' _ tk' (Heap.get?_none_of_le hc') (Heap.get?_none_of_le hP') (fun b o' hb e => (Heap.SameBut.update ..).extBut b o' hb (hk b o' e))
    ⟨o2, vs2, file2, tf2, flags2, tg2, inF2, text2, tt2, (Heap.SameBut.update ..).extBut _ _ hcP e1, r⟩ ((Heap.SameBut.update ..).extBut _ _ hP'P htab'.2) hget)
end
end Mine
end
section
open PySem PySem.W PySem.Calls PyProof.Rows
set_option Elab.async false
set_option maxRecDepth 100000
namespace Mine

structure CB (G h : Heap) (N P : Addr) (m : Str → Option Value) (ps : Array Value) : Prop where
  keep : Stay G h
  dn : ∃ es n, DN h N m es n
  tab : h.get? P = some (tabObj ps)
  tr : TriplesOk ps.toList
  fN : G.get? N = none
  fP : G.get? P = none
section
variable {G h h' : Heap} {N P : Addr} {m : Str → Option Value} {ps : Array Value}
theorem CB.ne (W : CB G h N P m ps) : N ≠ P := fun q => by
  (first | (refine Mine.e2_1 (W.dn) ?_; rintro es n D) | (obtain ⟨es, n, D⟩ := W.dn))
  have := D.at'
  rw [q, W.tab] at this; cases this
theorem CB.ground (W : CB G h N P m ps) : CB (hideAll h [N, P]) h N P m ps ∧ Stay G (hideAll h [N, P]) :=
  ⟨⟨fun b o e => of_hideAll _ e, W.dn, W.tab, W.tr, hideAll_none _ (by simp), hideAll_none _ (by simp)⟩, fun b o e => hideAll_get _ (W.keep b o e) (fun q => by
    simp at q
    rcases q with q | q
    · rw [q, W.fN] at e; cases e
    · rw [q, W.fP] at e; cases e)⟩
theorem CB.stay (W : CB G h N P m ps) (S : Stay h h') : CB G h' N P m ps := let ⟨es, n, D⟩ := W.dn; ⟨W.keep.trans S, ⟨es, n, D.stay S⟩, S _ _ W.tab, W.tr, W.fN, W.fP⟩
theorem CB.setN (W : CB G h N P m ps) {m' : Str → Option Value} {es : Array DictEntry} {n : Nat} (D : DN h' N m' es n) (O : Off N h h') : CB G h' N P m' ps :=
  ⟨fun b o e => O b o (fun q => by rw [q, W.fN] at e; cases e) (W.keep b o e), ⟨es, n, D⟩, O _ _ (Ne.symm W.ne) W.tab, W.tr, W.fN, W.fP⟩
theorem CB.setP (W : CB G h N P m ps) {ps' : Array Value} (hP : h'.get? P = some (tabObj ps')) (tr : TriplesOk ps'.toList) (O : Off P h h') : CB G h' N P m ps' :=
  let ⟨es, n, D⟩ := W.dn; ⟨fun b o e => O b o (fun q => by rw [q, W.fP] at e; cases e) (W.keep b o e), ⟨es, n, D.off O W.ne⟩, hP, tr, W.fN, W.fP⟩
end

section
variable {prog : Program} {w : World} {A : Around} {E : Value → Shared → Prop} {s : Shared} {G h : Heap} {tk : Nat} {mg m : Str → Option Value} {N P c : Addr} {ps : Array Value} {cenv : Env}

theorem st_cls {name : Str} {v : Value} {Q : Unit → Shared → Prop} (W : CB G h N P m ps) (hs : storeName cenv name v = localSet cenv name v) (k : ∀ h' tk', CB G h' N P (fun x => if x = name then some v else m x) ps → Q () (st s h' tk')) (hL : cenv.locals = N) :
    wpAny (model prog w) A (storeName cenv name v) Q E (st s h tk) := by
  subst hL
  (first | (refine Mine.e2_1 (W.dn) ?_; rintro es n D) | (obtain ⟨es, n, D⟩ := W.dn))
  rw [hs]
  unfold localSet
  refine wpAny_bind (wpAny_load (s := st s h tk) D.at' ?_)
  rw [if_pos (by rfl)]
  exact dn_set (h := h) D fun h' es' n' D' O => k h' _ (W.setN D' O)

theorem step_def {name : Str} {args : Arguments} {body rest : List Stmt} {scope : Scope} {pos : Pos} {clos : List (Str × Addr)} {Q : Flow → Shared → Prop}
    (W : CB G h N P m ps) (hC : CodeHd G c P) (hg : G.Ns mainGlobals mg) (bm : BM G mg) (hnf : codeAmong pos ps.toList = none) (hcl : closureFor scope cenv = pure clos) (hcode : cenv.code = .ref c) (hL : cenv.locals = N) (hG : cenv.globals = mainGlobals)
    (hs : ∀ v, storeName cenv name v = localSet cenv name v) (hd1 : args.defaults = []) (hd2 : args.kw_defaults = []) (ha : annTrees args none cenv = [])
    (k : ∀ G' h' f c' ctv doc tk', Stay G G' → CB G' h' N P (fun x => if x = name then some (.ref f) else m x) (ps ++ #[rawInt pos.line, rawInt pos.col, .ref c']) →
      G'.get? f = some (fnMade name (qualnameIn cenv name name) args body scope clos doc ((mg "__name__").getD .none) c' ctv) → G'.CodeRec (.ref c') (qualnameIn cenv name name) → wpAny (model prog w) A (execs rest cenv) Q E (st s h' tk')) :
    wpAny (model prog w) A (execs (.FunctionDef name args body [] none [] scope none name pos :: rest) cenv) Q E (st s h tk) := by
  refine wpAny_execs_cons ?_
  rw [exec_def, defaultsOf_eq, hd1, hd2, ha]
  refine wpAny_bind (wpAny_standAt (wpAny_bind (wpAny_holding ?_)))
  refine wpAny_bind (wpAny_pure ?_)
  refine wpAny_bind (wpAny_holding (wpAny_pure ?_))
  refine wpAny_holding (wpAny_bind (wpAny_pure ?_))
  refine mk_fn (hg.keeps W.keep) (bm.stay W.keep) (hC.keeps W.keep) W.tab W.tr hnf hcl hcode (fun f c' ctv doc h' tk' ff fc O hf hrec htb => ?_) hG
  have tr' : TriplesOk (ps ++ #[rawInt pos.line, rawInt pos.col, Value.ref c']).toList := by
    have : (ps ++ #[rawInt pos.line, rawInt pos.col, Value.ref c']).toList = ps.toList ++ [rawInt pos.line, rawInt pos.col, .ref c'] := by simp
    rw [this]; exact TriplesOk_snoc _ _ _ _ W.tr
  have W1 := W.setP htb tr' O
  obtain ⟨W2, S2⟩ := W1.ground
  have fnN : f ≠ N := fun q => by obtain ⟨es, n, D⟩ := W.dn; have := D.at'; rw [← q, ff] at this; cases this
  have fnP : f ≠ P := fun q => by have := W.tab; rw [← q, ff] at this; cases this
  have hfG : (hideAll h' [N, P]).get? f = _ := hideAll_get _ hf (by simp; exact ⟨fnN, fnP⟩)
  have hrG : (hideAll h' [N, P]).CodeRec (.ref c') (qualnameIn cenv name name) := by
    (first | (refine Mine.e4_4 (hrec) ?_; rintro c2 oc vs t e2 hoc hd hv) | (obtain ⟨c2, oc, vs, t, e2, hoc, hd, hv⟩ := hrec))
    cases e2
    refine ⟨c', oc, vs, t, rfl, hideAll_get _ hoc ?_, hd, hv⟩
    simp
    constructor
    · rintro rfl
      (first | (refine Mine.e2_1 (W1.dn) ?_; rintro es n D) | (obtain ⟨es, n, D⟩ := W1.dn))
      have := D.at'; rw [hoc] at this; cases this; cases hd
    · rintro rfl
      have := W.tab; rw [fc] at this; cases this
  refine wpAny_bind (wpAny_standAt (wpAny_bind (wpAny_bindName (st_cls W2 (hs _) (fun h'' tk'' W3 => ?_) hL))))
  exact wpAny_pure (k _ h'' f c' ctv doc tk'' S2 W3 hfG hrG)
end
end Mine
end
section
open PySem PySem.W PySem.Calls PyProof.Rows
set_option Elab.async false
set_option maxRecDepth 100000
namespace Mine

noncomputable def kSt : Stmt := stmtAt 7 0
noncomputable def kBody : List Stmt := match kSt with | .ClassDef _ _ _ b _ _ _ _ _ _ _ => b | _ => []
noncomputable def kScope : Scope := match kSt with | .ClassDef _ _ _ _ _ _ s _ _ _ _ => s | _ => default
noncomputable def kStat : List Str := match kSt with | .ClassDef _ _ _ _ _ _ _ _ _ s _ => s | _ => default
noncomputable def kPos : Pos := match kSt with | .ClassDef _ _ _ _ _ _ _ _ _ _ p => p | _ => default
noncomputable abbrev kQ : Str := "cmp_to_key.<locals>.K"
noncomputable abbrev cenvK (N fr c : Addr) (clos : List (Str × Addr)) : Env :=
  { scope := kScope, locals := N, globals := mainGlobals, qual := kQ ++ ".", code := .ref c, frame := some fr, builtins := builtinsNs, cells := clos }

section
variable {prog : Program} {w : World} {A : Around} {E : Value → Shared → Prop} {s : Shared} {G h : Heap} {tk : Nat} {mg mb m : Str → Option Value} {L c P N fr cl : Addr} {ps : Array Value}

theorem kf_get : typeLookup (.type "dict") "__getitem__" = pure (some (.builtin "dict.__getitem__")) := by rw [typeLookup_type, builtinLookup_eq_fast]; kernel_rfl

theorem ld_name {Q : Value → Shared → Prop} {v : Value} {clos : List (Str × Addr)} (W : CB G h N P m ps) (hg : G.Ns mainGlobals mg) (hm : m "__name__" = none) (hv : mg "__name__" = some v) (k : Q v (st s h tk)) :
    wpAny (model prog w) A (loadName (cenvK N fr c clos) "__name__") Q E (st s h tk) := by
  obtain ⟨es, n, D⟩ := W.dn
  have hD := D.at'
  have nD := D.ns1.ns
  have hg' := hg.keeps W.keep
  obtain ⟨h0, g, d, t0, os⟩ := s
  simp only [st] at k ⊢
  unfold loadName
  repeat (first | with_reducible refine ns_get nD hm ?_ | with_reducible refine ns_get hg' hv ?_ | (first | with_reducible (first | refine wpAny_pure ?_ | refine wpAny_bind ?_ | refine wpAny_holding ?_ | refine wpAny_standAt ?_ | refine wpAny_point ?_ | refine wpAny_rule ?_ | refine wpAny_letGo ?_ | refine wpAny_mkInt' ?_ | refine wpAny_mkStr' ?_ | refine wpAny_fresh' ?_ | refine wpAny_alloc' ?_ | refine wpAny_attempt ?_ | refine wpAny_of_eq (by assumption) ?_ | refine wpAny_typeOf (by assumption) ?_ | refine wpAny_specialOf_val (by assumption) (by assumption) ?_ | refine wpAny_specialOf (by assumption) (by assumption) ?_ | refine wpAny_isInstance_val (by assumption) (by assumption) ?_ | refine wpAny_isInstance (by assumption) (by assumption) ?_ | refine wpAny_call ?_ | refine wpAny_runValue ?_ | refine wpAny_run ?_) | ((with_reducible show wpAny _ _ (load _) _ _ _); (with_reducible apply wpAny_load'); focus (heap_get; done)) | ((with_reducible show wpAny _ _ (update _ _) _ _ _); (with_reducible apply wpAny_update'); focus (heap_get; done)) | ((with_reducible show wpAny _ _ (loadPart _ _) _ _ _); (with_reducible apply wpAny_loadPart'); focus (heap_get; done)) | ((with_reducible show wpAny _ _ (updatePart _ _ _) _ _ _); (with_reducible apply wpAny_updatePart'); focus (heap_get; done)) | ((with_reducible refine wpAny_ite_false ?hc ?_); (case hc => first | (decide +kernel; done) | (rfl; done))) | ((with_reducible refine wpAny_ite_true ?hc ?_); (case hc => first | (decide +kernel; done) | (rfl; done))) | wp_delta | with_reducible_and_instances refine wpAny_pure ?_ | with_reducible_and_instances refine wpAny_bind ?_))
  exact k
theorem hid_ns {X : List Addr} {a : Addr} (x : h.Ns a m) (hn : a ∉ X) : (hideAll h X).Ns a m := let ⟨o, es, ep, e, r⟩ := x; ⟨o, es, ep, hideAll_get _ e hn, r⟩
theorem ns_ne_none {a b : Addr} (x : h.Ns a m) (e : h.get? b = none) : a ≠ b := fun q => by obtain ⟨o, es, ep, e', _⟩ := x; rw [q, e] at e'; cases e'

theorem k_st {N fr c : Addr} {clos : List (Str × Addr)} (name : Str) (hn : name ∈ (["__module__", "__qualname__", "__firstlineno__", "__slots__", "__init__", "__lt__", "__gt__", "__eq__", "__le__", "__ge__", "__hash__", "__static_attributes__"] : List Str)) (v : Value) :
    storeName (cenvK N fr c clos) name v = localSet (cenvK N fr c clos) name v := by
  simp only [List.mem_cons, List.not_mem_nil, or_false] at hn
  rcases hn with rfl | rfl | rfl | rfl | rfl | rfl | rfl | rfl | rfl | rfl | rfl | rfl <;> rfl

noncomputable def dName : Stmt → Str | .FunctionDef n _ _ _ _ _ _ _ _ _ => n | _ => default
noncomputable def dArgs : Stmt → Arguments | .FunctionDef _ a _ _ _ _ _ _ _ _ => a | _ => default
noncomputable def dBody : Stmt → List Stmt | .FunctionDef _ _ b _ _ _ _ _ _ _ => b | _ => []
noncomputable def dScope : Stmt → Scope | .FunctionDef _ _ _ _ _ _ s _ _ _ => s | _ => default
noncomputable def kDef (i : Nat) : Stmt := kBody.getD i (.Pass default)
noncomputable abbrev kFn (i : Nat) (qual : Str) (clos : List (Str × Addr)) (doc pm : Value) (c : Addr) (ctv : Value) : Obj := fnMade (dName (kDef i)) qual (dArgs (kDef i)) (dBody (kDef i)) (dScope (kDef i)) clos doc pm c ctv

noncomputable def kM (m : Str → Option Value) (um : Tok) (sl f1 f2 f3 f4 f5 f6 : Addr) : Str → Option Value := fun x =>
  if x = "__hash__" then some .none else if x = "__ge__" then some (.ref f6) else if x = "__le__" then some (.ref f5) else if x = "__eq__" then some (.ref f4) else if x = "__gt__" then some (.ref f3) else
  if x = "__lt__" then some (.ref f2) else if x = "__init__" then some (.ref f1) else if x = "__slots__" then some (.ref sl) else if x = "__module__" then some (.str "cpy313.functools" um) else m x

noncomputable def IsFun (h : Heap) (f : Addr) : Prop := ∃ o, h.get? f = some o ∧ o.cls = .type "function"
theorem IsFun.stay {h h' : Heap} {f : Addr} (x : IsFun h f) (S : Stay h h') : IsFun h' f := let ⟨o, e, r⟩ := x; ⟨o, S _ _ e, r⟩

theorem r_newListE {vs : List Value} {Q : Value → Shared → Prop} (hz : vs.length ≤ 1000)
    (k : ∀ a h', h.get? a = none → h'.get? a = some { cls := .type "list", data := .seq vs.toArray } → Stay h h' → Q (.ref a) (st s h' tk)) : wpAny (model prog w) A (newList vs) Q E (st s h tk) :=
  wpAny_newList (s := st s h tk) (k _ _ (Heap.get?_none_of_le (Nat.le_refl _)) (Heap.get?_push_size _ rfl) fun _ _ e => Heap.get?_push_of_some _ e) (by rw [sizeLine_eq]; (first | lia | omega))

set_option maxHeartbeats 4000000 in
theorem wp_kbody {Q : Flow → Shared → Prop} {cc : Addr} (W : CB G h N P m #[]) (hg : G.Ns mainGlobals mg) (bm : BM G mg) (hC : CodeHd G c P)
    (k : ∀ G' h' tk' um sl ts f1 c1 t1 d1 f2 c2 t2 d2 f3 f4 f5 f6 ps', Stay G G' → CB G' h' N P (kM m um sl f1 f2 f3 f4 f5 f6) ps' → G'.get? sl = some { cls := .type "list", data := .seq #[.str "obj" ts] } →
      G'.get? f1 = some (kFn 2 "cmp_to_key.<locals>.K.__init__" [] d1 ((mg "__name__").getD .none) c1 t1) → G'.CodeRec (.ref c1) "cmp_to_key.<locals>.K.__init__" →
      G'.get? f2 = some (kFn 3 "cmp_to_key.<locals>.K.__lt__" [("mycmp", cc)] d2 ((mg "__name__").getD .none) c2 t2) → G'.CodeRec (.ref c2) "cmp_to_key.<locals>.K.__lt__" →
      IsFun G' f3 → IsFun G' f4 → IsFun G' f5 → IsFun G' f6 → Q .next (st s h' tk')) :
    wpAny (model prog w) A (execs kBody (cenvK N fr c [("mycmp", cc)])) Q E (st s h tk) := by
  refine r_assign (r_str (st_cls W (k_st "__module__" (by simp) _) (fun h₁ tk₁ W₁ => ?_) rfl))
  refine r_assign (r_list (r_sp1 (r_str (r_sp0 (r_newListE (by simp) fun sl h₂ fsl hsl S₂ => ?_)))))
  have W₂ := W₁.stay S₂
  obtain ⟨W₂', SG₂⟩ := W₂.ground
  have hslG : (hideAll h₂ [N, P]).get? sl = _ := hideAll_get _ hsl (by
    simp
    constructor
    · rintro rfl
      obtain ⟨es, n, D⟩ := W₁.dn
      have := D.at'; rw [fsl] at this; cases this
    · rintro rfl
      have := W₁.tab; rw [fsl] at this; cases this)
  refine st_cls W₂' (k_st "__slots__" (by simp) _) (fun h₃ tk₃ W₃ => ?_) rfl
  refine step_def W₃ (hC.keeps SG₂) (hg.keeps SG₂) (bm.stay SG₂) rfl rfl rfl rfl rfl (k_st "__init__" (by simp)) rfl rfl rfl fun G₄ h₄ f1 c1 t1 d1 tk₄ SG₄ W₄ hf1 hc1 => ?_
  refine step_def W₄ ((hC.keeps SG₂).keeps SG₄) ((hg.keeps SG₂).keeps SG₄) ((bm.stay SG₂).stay SG₄) rfl rfl rfl rfl rfl (k_st "__lt__" (by simp)) rfl rfl rfl fun G₅ h₅ f2 c2 t2 d2 tk₅ SG₅ W₅ hf2 hc2 => ?_
  have T₅ := (SG₂.trans SG₄).trans SG₅
  refine step_def W₅ (hC.keeps T₅) (hg.keeps T₅) (bm.stay T₅) rfl rfl rfl rfl rfl (k_st "__gt__" (by simp)) rfl rfl rfl fun G₆ h₆ f3 c3 t3 d3 tk₆ SG₆ W₆ hf3 hc3 => ?_
  have T₆ := T₅.trans SG₆
  refine step_def W₆ (hC.keeps T₆) (hg.keeps T₆) (bm.stay T₆) rfl rfl rfl rfl rfl (k_st "__eq__" (by simp)) rfl rfl rfl fun G₇ h₇ f4 c4 t4 d4 tk₇ SG₇ W₇ hf4 hc4 => ?_
  have T₇ := T₆.trans SG₇
  refine step_def W₇ (hC.keeps T₇) (hg.keeps T₇) (bm.stay T₇) rfl rfl rfl rfl rfl (k_st "__le__" (by simp)) rfl rfl rfl fun G₈ h₈ f5 c5 t5 d5 tk₈ SG₈ W₈ hf5 hc5 => ?_
  have T₈ := T₇.trans SG₈
  refine step_def W₈ (hC.keeps T₈) (hg.keeps T₈) (bm.stay T₈) rfl rfl rfl rfl rfl (k_st "__ge__" (by simp)) rfl rfl rfl fun G₉ h₉ f6 c6 t6 d6 tk₉ SG₉ W₉ hf6 hc6 => ?_
  refine r_assign ?_
  show wpAny _ _ (pure Value.none) _ _ _
  refine wpAny_pure (st_cls W₉ (k_st "__hash__" (by simp) _) (fun h₁₀ tk₁₀ W₁₀ => ?_) rfl)
  refine r_nil ?_
  have U₇ := SG₈.trans SG₉
  have U₆ := SG₇.trans U₇
  have U₅ := SG₆.trans U₆
  have U₄ := SG₅.trans U₅
  have U₂ := SG₄.trans U₄
  exact k G₉ h₁₀ tk₁₀ _ sl _ f1 c1 t1 d1 f2 c2 t2 d2 f3 f4 f5 f6 _ (T₈.trans SG₉) W₁₀ (U₂ _ _ hslG) (U₄ _ _ hf1) (hc1.keeps U₄) (U₅ _ _ hf2) (hc2.keeps U₅)
    ⟨_, U₆ _ _ hf3, rfl⟩ ⟨_, U₇ _ _ hf4, rfl⟩ ⟨_, SG₉ _ _ hf5, rfl⟩ ⟨_, hf6, rfl⟩

end
end Mine
end
section
open PySem PySem.W PySem.Calls PyProof.Rows
set_option Elab.async false
set_option maxRecDepth 100000
namespace Mine
section
variable {prog : Program} {w : World} {A : Around} {E : Value → Shared → Prop} {s : Shared} {G h : Heap} {tk : Nat} {mg mb m : Str → Option Value} {L c P N fr cl : Addr} {ps : Array Value}

noncomputable def kMN (m : Str → Option Value) (md : Addr) : Str → Option Value := fun x => if x = "__doc__" then some Value.none else if x = "obj" then some (.ref md) else if x = "__qualname__" then none else m x
noncomputable def kM0 (v0 : Value) (t1 t2 : Tok) : Str → Option Value := fun x => if x = "__firstlineno__" then some (.int 11 t2) else if x = "__qualname__" then some (.str kQ t1) else if x = "__module__" then some v0 else none

structure KCls (h : Heap) (C cc : Addr) (nm : Value) : Prop where
  ex : ∃ N k0 k2 k3 md tmd v0 t1 t2 um sl f1 c1 u1 d1 f2 c2 u2 d2 f3 f4 f5 f6 sa, h.get? C = some (kObj "K" kQ C N k0 none k2 k3 (some (.bool false))) ∧
    h.Ns N (kMN (fun x => if x = "__static_attributes__" then some (.ref sa) else kM (kM0 v0 t1 t2) um sl f1 f2 f3 f4 f5 f6 x) md) ∧
    h.get? md = some { cls := .type "member_descriptor", data := .fields #[.str "obj" tmd, .ref C, .builtin "proto.slot", .builtin "proto.slot#set", .int 0 0] } ∧
    h.get? f1 = some (kFn 2 "cmp_to_key.<locals>.K.__init__" [] d1 nm c1 u1) ∧ h.CodeRec (.ref c1) "cmp_to_key.<locals>.K.__init__" ∧
    h.get? f2 = some (kFn 3 "cmp_to_key.<locals>.K.__lt__" [("mycmp", cc)] d2 nm c2 u2) ∧ h.CodeRec (.ref c2) "cmp_to_key.<locals>.K.__lt__"
noncomputable def OldKind (o : Obj) : Prop := (∃ es ep, o.data = .dict es ep) ∨ (∃ v, o.data = .cell v) ∨ (∃ ps : Array Value, o = tabObj ps ∧ ∀ q t, ps[1]? ≠ some (.str q t))
theorem KCls.stay {h h' : Heap} {C cc : Addr} {nm : Value} (x : KCls h C cc nm) (S : Stay h h') : KCls h' C cc nm := by
  (obtain ⟨N, k0, k2, k3, md, tmd, v0, t1, t2, um, sl, f1, c1, u1, d1, f2, c2, u2, d2, f3, f4, f5, f6, sa, a1, a2, a3, a4, a5, a6, a7⟩ := x.ex)
  exact ⟨N, k0, k2, k3, md, tmd, v0, t1, t2, um, sl, f1, c1, u1, d1, f2, c2, u2, d2, f3, f4, f5, f6, sa, S _ _ a1, a2.keeps S, S _ _ a3, S _ _ a4, a5.keeps S, S _ _ a6, a7.keeps S⟩

theorem ite_ne {c : Prop} [Decidable c] {a : Value} {r : Option Value} (h : (if c then some a else r) ≠ none) : c ∨ r ≠ none := by
  by_cases q : c
  · exact .inl q
  · rw [if_neg q] at h; exact .inr h
theorem ite_some {c : Prop} [Decidable c] {a v : Value} {r : Option Value} (h : (if c then some a else r) = some v) : a = v ∨ r = some v := by
  by_cases q : c
  · rw [if_pos q] at h; exact .inl (Option.some.inj h)
  · rw [if_neg q] at h; exact .inr h
theorem r_textTuple {vs : List Value} {Q : Value → Shared → Prop} (k : ∀ a h', h.get? a = none → h'.get? a = some { cls := .type "tuple", data := .seq vs.toArray } → Stay h h' → Q (.ref a) (st s h' tk)) : wpAny (model prog w) A (newTextTuple vs) Q E (st s h tk) :=
  wpAny_newTextTuple (s := st s h tk) (k _ _ (Heap.get?_none_of_le (Nat.le_refl _)) (Heap.get?_push_size _ rfl) fun _ _ e => Heap.get?_push_of_some _ e)

set_option maxHeartbeats 4000000 in
theorem wp_build {pm : Value} {env : Env} (henv : env = callEnvC (fnD 7 54 pm .none) L 55) {Q : Value → Shared → Prop} (B : Bas mg mb h) (bm : BM h mg) (hdp : A.depth < recursionLimit)
    (hLf : ∃ o es ep, h.get? L = some o ∧ o.data = .dict es ep) (hC : CodeHd h 54 50) (hP : h.get? 50 = some (tabObj #[])) (hnm : ∃ v, mg "__name__" = some v ∧ ∃ x t, v = .str x t) {mc : Str → Option Value} (hst : h.Ns cStatics mc) (hmc : mc "thirdparty.any" = none)
    (k : ∀ C h' tk', Off 50 h h' → GrownAt 50 h' → (∀ Z : List Addr, (∀ z ∈ Z, ∃ o, h.get? z = some o ∧ OldKind o) → KCls (hideAll h' Z) C (L + 1) ((mg "__name__").getD .none)) → Q (.ref C) (st s h' tk')) :
    wpAny (model prog w) A (buildClass "K" kQ [.type "object"] [] kBody kScope kStat kPos.line env kPos none) Q E (st s h tk) := by
  have e3 : isSubtype (.type "type") (.type "type") = pure true := kf3
  have e4 := kf4
  have e5 := kf_get
  (first | (refine Mine.e3_2 (s) ?_; rintro h0 g d t0 os) | (obtain ⟨h0, g, d, t0, os⟩ := s))
  simp only [st]
  unfold buildClass
  refine wpAny_bind (wpAny_newTuple (s := ⟨h, g, d, tk, os⟩) ?_ (by rw [sizeLine_eq]; simp))
  have hB1 : (h.push { cls := .type "tuple", data := .seq [Value.type "object"].toArray }).get? h.objs.size = some { cls := .type "tuple", data := .seq [Value.type "object"].toArray } := Heap.get?_push_size _ rfl
  have SB : Stay h (h.push { cls := .type "tuple", data := .seq [Value.type "object"].toArray }) := fun _ _ e => Heap.get?_push_of_some _ e
  repeat ((fail_if_success (with_reducible show wpAny _ _ (getAttr? _ _) _ _ _)); (first | with_reducible (first | refine wpAny_pure ?_ | refine wpAny_bind ?_ | refine wpAny_holding ?_ | refine wpAny_standAt ?_ | refine wpAny_point ?_ | refine wpAny_rule ?_ | refine wpAny_letGo ?_ | refine wpAny_mkInt' ?_ | refine wpAny_mkStr' ?_ | refine wpAny_fresh' ?_ | refine wpAny_alloc' ?_ | refine wpAny_attempt ?_ | refine wpAny_of_eq (by assumption) ?_ | refine wpAny_typeOf (by assumption) ?_ | refine wpAny_specialOf_val (by assumption) (by assumption) ?_ | refine wpAny_specialOf (by assumption) (by assumption) ?_ | refine wpAny_isInstance_val (by assumption) (by assumption) ?_ | refine wpAny_isInstance (by assumption) (by assumption) ?_ | refine wpAny_call ?_ | refine wpAny_runValue ?_ | refine wpAny_run ?_) | ((with_reducible show wpAny _ _ (load _) _ _ _); (with_reducible apply wpAny_load'); focus (heap_get; done)) | ((with_reducible show wpAny _ _ (update _ _) _ _ _); (with_reducible apply wpAny_update'); focus (heap_get; done)) | ((with_reducible show wpAny _ _ (loadPart _ _) _ _ _); (with_reducible apply wpAny_loadPart'); focus (heap_get; done)) | ((with_reducible show wpAny _ _ (updatePart _ _ _) _ _ _); (with_reducible apply wpAny_updatePart'); focus (heap_get; done)) | ((with_reducible refine wpAny_ite_false ?hc ?_); (case hc => first | (decide +kernel; done) | (rfl; done))) | ((with_reducible refine wpAny_ite_true ?hc ?_); (case hc => first | (decide +kernel; done) | (rfl; done))) | wp_delta | with_reducible_and_instances refine wpAny_pure ?_ | with_reducible_and_instances refine wpAny_bind ?_))
  refine wp_prep fun b h₁ tk₁ fb S₁ hb => ?_
  repeat ((fail_if_success (with_reducible show wpAny _ _ (call _ _ _) _ _ _)); (first | with_reducible (first | refine wpAny_pure ?_ | refine wpAny_bind ?_ | refine wpAny_holding ?_ | refine wpAny_standAt ?_ | refine wpAny_point ?_ | refine wpAny_rule ?_ | refine wpAny_letGo ?_ | refine wpAny_mkInt' ?_ | refine wpAny_mkStr' ?_ | refine wpAny_fresh' ?_ | refine wpAny_alloc' ?_ | refine wpAny_attempt ?_ | refine wpAny_of_eq (by assumption) ?_ | refine wpAny_typeOf (by assumption) ?_ | refine wpAny_specialOf_val (by assumption) (by assumption) ?_ | refine wpAny_specialOf (by assumption) (by assumption) ?_ | refine wpAny_isInstance_val (by assumption) (by assumption) ?_ | refine wpAny_isInstance (by assumption) (by assumption) ?_ | refine wpAny_call ?_ | refine wpAny_runValue ?_ | refine wpAny_run ?_) | ((with_reducible show wpAny _ _ (load _) _ _ _); (with_reducible apply wpAny_load'); focus (heap_get; done)) | ((with_reducible show wpAny _ _ (update _ _) _ _ _); (with_reducible apply wpAny_update'); focus (heap_get; done)) | ((with_reducible show wpAny _ _ (loadPart _ _) _ _ _); (with_reducible apply wpAny_loadPart'); focus (heap_get; done)) | ((with_reducible show wpAny _ _ (updatePart _ _ _) _ _ _); (with_reducible apply wpAny_updatePart'); focus (heap_get; done)) | ((with_reducible refine wpAny_ite_false ?hc ?_); (case hc => first | (decide +kernel; done) | (rfl; done))) | ((with_reducible refine wpAny_ite_true ?hc ?_); (case hc => first | (decide +kernel; done) | (rfl; done))) | wp_delta | with_reducible_and_instances refine wpAny_pure ?_ | with_reducible_and_instances refine wpAny_bind ?_))
  refine wp_prepCall hb fun N h₂ fN lN S₂ hN => ?_
  have T₂ : Stay h h₂ := (SB.trans S₁).trans S₂
  have fNh : h.get? N = none := get_none_of (SB.trans S₁) fN
  have hNs : (N == sysModules) = false := by
    (first | (refine Mine.e3_2 (B.g) ?_; rintro o es ep e _) | (obtain ⟨o, es, ep, e, _⟩ := B.g))
    have hlt := lN _ _ ((SB.trans S₁) _ _ e)
    exact beq_eq_false_iff_ne.mpr fun q => absurd (q ▸ hlt : mainGlobals < sysModules) (by decide)
  have e6 : Shared.TypeIs ⟨h₂, g, d, tk₁, os⟩ (.ref N) "dict" := ⟨_, hN, rfl⟩
  repeat ((fail_if_success (with_reducible show wpAny _ _ (if (_ == sysModules) = true then _ else _) _ _ _)); (first | with_reducible (first | refine wpAny_pure ?_ | refine wpAny_bind ?_ | refine wpAny_holding ?_ | refine wpAny_standAt ?_ | refine wpAny_point ?_ | refine wpAny_rule ?_ | refine wpAny_letGo ?_ | refine wpAny_mkInt' ?_ | refine wpAny_mkStr' ?_ | refine wpAny_fresh' ?_ | refine wpAny_alloc' ?_ | refine wpAny_attempt ?_ | refine wpAny_of_eq (by assumption) ?_ | refine wpAny_typeOf (by assumption) ?_ | refine wpAny_specialOf_val (by assumption) (by assumption) ?_ | refine wpAny_specialOf (by assumption) (by assumption) ?_ | refine wpAny_isInstance_val (by assumption) (by assumption) ?_ | refine wpAny_isInstance (by assumption) (by assumption) ?_ | refine wpAny_call ?_ | refine wpAny_runValue ?_ | refine wpAny_run ?_) | ((with_reducible show wpAny _ _ (load _) _ _ _); (with_reducible apply wpAny_load'); focus (heap_get; done)) | ((with_reducible show wpAny _ _ (update _ _) _ _ _); (with_reducible apply wpAny_update'); focus (heap_get; done)) | ((with_reducible show wpAny _ _ (loadPart _ _) _ _ _); (with_reducible apply wpAny_loadPart'); focus (heap_get; done)) | ((with_reducible show wpAny _ _ (updatePart _ _ _) _ _ _); (with_reducible apply wpAny_updatePart'); focus (heap_get; done)) | ((with_reducible refine wpAny_ite_false ?hc ?_); (case hc => first | (decide +kernel; done) | (rfl; done))) | ((with_reducible refine wpAny_ite_true ?hc ?_); (case hc => first | (decide +kernel; done) | (rfl; done))) | wp_delta | with_reducible_and_instances refine wpAny_pure ?_ | with_reducible_and_instances refine wpAny_bind ?_))
  refine wpAny_ite_false (decide_eq_false (by rw [hNs]; decide)) ?_
  repeat ((fail_if_success (with_reducible show wpAny _ _ (classCode _ _ _ _ _ _) _ _ _)); (first | with_reducible (first | refine wpAny_pure ?_ | refine wpAny_bind ?_ | refine wpAny_holding ?_ | refine wpAny_standAt ?_ | refine wpAny_point ?_ | refine wpAny_rule ?_ | refine wpAny_letGo ?_ | refine wpAny_mkInt' ?_ | refine wpAny_mkStr' ?_ | refine wpAny_fresh' ?_ | refine wpAny_alloc' ?_ | refine wpAny_attempt ?_ | refine wpAny_of_eq (by assumption) ?_ | refine wpAny_typeOf (by assumption) ?_ | refine wpAny_specialOf_val (by assumption) (by assumption) ?_ | refine wpAny_specialOf (by assumption) (by assumption) ?_ | refine wpAny_isInstance_val (by assumption) (by assumption) ?_ | refine wpAny_isInstance (by assumption) (by assumption) ?_ | refine wpAny_call ?_ | refine wpAny_runValue ?_ | refine wpAny_run ?_) | ((with_reducible show wpAny _ _ (load _) _ _ _); (with_reducible apply wpAny_load'); focus (heap_get; done)) | ((with_reducible show wpAny _ _ (update _ _) _ _ _); (with_reducible apply wpAny_update'); focus (heap_get; done)) | ((with_reducible show wpAny _ _ (loadPart _ _) _ _ _); (with_reducible apply wpAny_loadPart'); focus (heap_get; done)) | ((with_reducible show wpAny _ _ (updatePart _ _ _) _ _ _); (with_reducible apply wpAny_updatePart'); focus (heap_get; done)) | ((with_reducible refine wpAny_ite_false ?hc ?_); (case hc => first | (decide +kernel; done) | (rfl; done))) | ((with_reducible refine wpAny_ite_true ?hc ?_); (case hc => first | (decide +kernel; done) | (rfl; done))) | wp_delta | with_reducible_and_instances refine wpAny_pure ?_ | with_reducible_and_instances refine wpAny_bind ?_))
  subst henv
  refine wp_classCode (s := ⟨h₂, g, d, tk₁, os⟩) (c := 54) (P := 50) rfl (hC.keeps T₂) (T₂ _ _ hP) trivial rfl fun c P h₃ tk₃ fc fP O₃ C₃ hP₃ h80 => ?_
  have n80 : ∀ b o, h₂.get? b = some o → o.cls ≠ .none → h₃.get? b = some o := fun b o e hc => O₃ b o (fun q => by rw [q, T₂ _ _ hP] at e; cases e; exact hc rfl) e
  have hg₃ : h₃.Ns mainGlobals mg := by
    (first | (refine Mine.e3_3 ((B.g.keeps T₂)) ?_; rintro o es ep e hd r) | (obtain ⟨o, es, ep, e, hd, r⟩ := (B.g.keeps T₂)))
    exact ⟨o, es, ep, O₃ _ _ (fun q => by rw [q, T₂ _ _ hP] at e; cases e; cases hd) e, hd, r⟩
  (first | (refine Mine.e2_7 (bm) ?_; rintro bmA ob b1 b2 b3 b4 b5 b6 b7) | (obtain ⟨bmA, ob, b1, b2, b3, b4, b5, b6, b7⟩ := bm))
  refine wpAny_bind (wpAny_builtinsFor (s := ⟨h₃, g, d, tk₃, os⟩) hg₃ b1 b2 (n80 _ _ (T₂ _ _ b4) (by rw [b5]; nofun)) b5 b6 b7 ?_)
  (first | (refine Mine.e1_2 (hnm) ?_; rintro nv hnv hnvs) | (refine Mine.e2_1 (hnm) ?_; rintro nv hnv hnvs) | (obtain ⟨nv, hnv, hnvs⟩ := hnm))
  have hnsn : ∀ {h : Heap}, NSN h nv := fun {h} => by obtain ⟨x, t, rfl⟩ := hnvs; exact nsn_str _ _ _
  refine wpAny_bind (wpAny_bind (wpAny_nsGet (s := ⟨h₃, g, d, tk₃, os⟩) hg₃ ?_))
  refine al_new rfl fun fr h₄ ffr hfr S₄ => ?_
  refine wpAny_bind (wpAny_of_eq (a := [(Str.ofString "mycmp", L + 1)]) (by rfl) ?_)
  refine wpAny_holding (wpAny_bind ?_)
  have hN80 : N ≠ 50 := fun q => by rw [q, T₂ _ _ hP] at hN; cases hN
  have hN₄ : DN h₄ N (fun _ => none) #[] 0 := dn_new (S₄ _ _ (O₃ _ _ hN80 hN))
  have hNP : N ≠ P := fun q => by rw [← q, hN] at fP; cases fP
  have W0 : CB (hideAll h₄ [N, P]) h₄ N P (fun _ => none) #[] := ⟨fun b o e => of_hideAll _ e, ⟨_, _, hN₄⟩, S₄ _ _ hP₃, trivial, hideAll_none _ (by simp), hideAll_none _ (by simp)⟩
  have lim₄ : h₄.NoLimit := by
    (first | (refine Mine.e1_2 (B.lim.keeps T₂) ?_; rintro mc a r) | (refine Mine.e2_1 (B.lim.keeps T₂) ?_; rintro mc a r) | (obtain ⟨mc, a, r⟩ := B.lim.keeps T₂))
    refine ⟨mc, ?_, r⟩
    (first | (refine Mine.e3_3 (a) ?_; rintro o es ep e hd r) | (obtain ⟨o, es, ep, e, hd, r⟩ := a))
    exact ⟨o, es, ep, S₄ _ _ (O₃ _ _ (fun q => by rw [q, T₂ _ _ hP] at e; cases e; cases hd) e), hd, r⟩
  refine wpAny_enterFrame (s := ⟨h₄, g, d, tk₃, os⟩) lim₄ hdp ?_
  have hgne : mainGlobals ∉ [N, P] := by
    simp
    exact ⟨ns_ne_none (B.g) fNh, ns_ne_none (B.g.keeps T₂) fP⟩
  have hgG : (hideAll h₄ [N, P]).Ns mainGlobals mg := hid_ns (hg₃.keeps S₄) hgne
  refine wpAny_bind (wpAny_onRaise ?_)
  refine wpAny_bind (ld_name (s := ⟨h₄, g, d, tk₃, os⟩) W0 hgG rfl hnv ?_)
  refine wpAny_bind (st_cls (s := ⟨h₄, g, d, tk₃, os⟩) W0 (k_st "__module__" (by simp) _) (fun h₅ tk₅ W1 => ?_) rfl)
  refine wpAny_bind (wpAny_mkText ?_)
  refine wpAny_bind (st_cls (s := ⟨h₄, g, d, tk₃, os⟩) W1 (k_st "__qualname__" (by simp) _) (fun h₆ tk₆ W2 => ?_) rfl)
  refine wpAny_bind (wpAny_mkInt ?_)
  refine wpAny_bind (st_cls (s := ⟨h₄, g, d, tk₃, os⟩) W2 (k_st "__firstlineno__" (by simp) _) (fun h₇ tk₇ W3 => ?_) rfl)
  refine wpAny_pure ?_
  refine wpAny_bind (wpAny_run (codeAny_body (by rfl) (by rfl) ?_))
  have hC₄ : CodeHd (hideAll h₄ [N, P]) c P := by
    (first | (refine Mine.e9_3 (C₃.keeps S₄) ?_; rintro o2 vs2 file2 tf2 flags2 tg2 inF2 text2 tt2 e1 hcl r) | (obtain ⟨o2, vs2, file2, tf2, flags2, tg2, inF2, text2, tt2, e1, hcl, r⟩ := C₃.keeps S₄))
    refine ⟨o2, vs2, file2, tf2, flags2, tg2, inF2, text2, tt2, hideAll_get _ e1 ?_, hcl, r⟩
    simp
    constructor
    · rintro rfl
      have := hN₄.at'; rw [e1] at this; cases this; simp at hcl
    · rintro rfl
      have := S₄ _ _ hP₃; rw [e1] at this; cases this; cases hcl
  have bm₄ : BM (hideAll h₄ [N, P]) mg := by
    have e := S₄ _ _ (n80 _ _ (T₂ _ _ b4) (by rw [b5]; nofun))
    refine ⟨bmA, ob, b1, b2, b3, hideAll_get _ e ?_, b5, b6, b7⟩
    simp
    constructor
    · rintro rfl
      have := hN₄.at'; rw [e] at this; cases this; simp at b5
    · rintro rfl
      have := S₄ _ _ hP₃; rw [e] at this; cases this; cases b5
  refine wp_kbody (s := ⟨h₄, g, d, tk₃, os⟩) W3 hgG bm₄ hC₄ fun G₈ h₈ tk₈ um sl ts f1 c1 t1 d1 f2 c2 t2 d2 f3 f4 f5 f6 ps' SG W4 hsl hf1 hc1 hf2 hc2 i3 i4 i5 i6 => ?_
  show wpAny _ _ _ _ _ _
  refine wpAny_bind (wpAny_onRaise ?_)
  refine wpAny_bind (wpAny_mkStrs fun sv => ?_)
  refine wpAny_bind (r_textTuple (s := ⟨h₄, g, d, tk₃, os⟩) (h := h₈) (tk := tk₈ + kStat.length) fun sa h₉ fsa hsa S₉ => ?_)
  have W5 := W4.stay S₉
  obtain ⟨W5', SG5⟩ := W5.ground
  refine wpAny_bind (st_cls (s := ⟨h₄, g, d, tk₃, os⟩) W5' (k_st "__static_attributes__" (by simp) _) (fun h₁₀ tk₁₀ W6 => ?_) rfl)
  refine wpAny_pure ?_
  (first | (refine Mine.e1_2 (W6.dn) ?_; rintro es n D6) | (refine Mine.e2_1 (W6.dn) ?_; rintro es n D6) | (obtain ⟨es, n, D6⟩ := W6.dn))
  have T4 : Stay h₄ h₄ := Stay.refl _
  have G8 : Stay (hideAll h₄ [N, P]) h₁₀ := (SG.trans SG5).trans W6.keep
  have up3 : ∀ b o, h₂.get? b = some o → b ≠ 50 → b ≠ N → h₁₀.get? b = some o := fun b o e n1 n2 => G8 _ _ (hideAll_get _ (S₄ _ _ (O₃ _ _ n1 e)) (by
    simp
    exact ⟨n2, fun q => by rw [q, fP] at e; cases e⟩))
  have up : ∀ b o, h.get? b = some o → b ≠ 50 → h₁₀.get? b = some o := fun b o e n1 => up3 b o (T₂ _ _ e) n1 fun q => by rw [q, fNh] at e; cases e
  have hB₁₀ : h₁₀.get? h.objs.size = some { cls := .type "tuple", data := .seq #[.type "object"] 0 } :=
    up3 _ _ (S₂ _ _ (S₁ _ _ hB1)) (fun q => by have := Heap.lt_size hP; rw [← q] at this; exact absurd this (Nat.lt_irrefl _)) (fun q => by rw [← q, S₁ _ _ hB1] at fN; cases fN)
  have hst₁₀ : h₁₀.Ns cStatics mc := by
    (first | (refine Mine.e3_3 (hst) ?_; rintro o es ep e hd r) | (obtain ⟨o, es, ep, e, hd, r⟩ := hst))
    exact ⟨o, es, ep, up _ _ e (fun q => by rw [q, hP] at e; cases e; cases hd), hd, r⟩
  refine wpAny_bind (wp_type3 fun A' => ?_)
  refine wp_typeNew (s := ⟨h₄, g, d, tk₃, os⟩) (tk := tk₁₀) (t := tk) hB₁₀ D6 (W6.keep _ _ (SG5 _ _ hsl)) (fun q => by rw [q] at hNs; simp at hNs) rfl rfl rfl rfl rfl rfl rfl rfl rfl rfl rfl rfl rfl
    (ks := ["__static_attributes__", "__hash__", "__ge__", "__le__", "__eq__", "__gt__", "__lt__", "__init__", "__slots__", "__module__", "__firstlineno__", "__qualname__"]) ?hks (by simp) rfl hst₁₀ hmc ?hvs fun C N' h₁₁ tk₁₁ md tmd S₁₁ fN' hC₁₁ hN₁₁ hmd => ?_
  case hks =>
    intro x hx
    simp only [List.mem_cons, List.not_mem_nil, or_false]
    rcases ite_ne hx with q | hx
    · exact .inl q
    rcases ite_ne hx with q | hx
    · exact .inr (.inl q)
    rcases ite_ne hx with q | hx
    · exact .inr (.inr (.inl q))
    rcases ite_ne hx with q | hx
    · exact .inr (.inr (.inr (.inl q)))
    rcases ite_ne hx with q | hx
    · exact .inr (.inr (.inr (.inr (.inl q))))
    rcases ite_ne hx with q | hx
    · exact .inr (.inr (.inr (.inr (.inr (.inl q)))))
    rcases ite_ne hx with q | hx
    · exact .inr (.inr (.inr (.inr (.inr (.inr (.inl q))))))
    rcases ite_ne hx with q | hx
    · exact .inr (.inr (.inr (.inr (.inr (.inr (.inr (.inl q)))))))
    rcases ite_ne hx with q | hx
    · exact .inr (.inr (.inr (.inr (.inr (.inr (.inr (.inr (.inl q))))))))
    rcases ite_ne hx with q | hx
    · exact .inr (.inr (.inr (.inr (.inr (.inr (.inr (.inr (.inr (.inl q)))))))))
    rcases ite_ne hx with q | hx
    · exact .inr (.inr (.inr (.inr (.inr (.inr (.inr (.inr (.inr (.inr (.inl q))))))))))
    rcases ite_ne hx with q | hx
    · exact .inr (.inr (.inr (.inr (.inr (.inr (.inr (.inr (.inr (.inr (.inr q))))))))))
    rcases ite_ne hx with q | hx
    · exact .inr (.inr (.inr (.inr (.inr (.inr (.inr (.inr (.inr (.inl q)))))))))
    exact absurd rfl hx
  case hvs =>
    intro x v hx
    have fun_nsn : ∀ {f : Addr}, IsFun G₈ f → NSN h₁₀ (.ref f) := fun {f} x => let ⟨o, e, r⟩ := x; nsn_ref (W6.keep _ _ (SG5 _ _ e)) r nl_func
    have hsa₁₀ : NSN h₁₀ (.ref sa) := nsn_ref (W6.keep _ _ (hideAll_get _ hsa (by
      simp
      constructor
      · rintro rfl
        (first | (refine Mine.e1_2 (W4.dn) ?_; rintro es n D) | (refine Mine.e2_1 (W4.dn) ?_; rintro es n D) | (obtain ⟨es, n, D⟩ := W4.dn))
        have := D.at'; rw [fsa] at this; cases this
      · rintro rfl
        have := W4.tab; rw [fsa] at this; cases this))) rfl nl_tuple
    rcases ite_some hx with rfl | hx
    · exact hsa₁₀
    rcases ite_some hx with rfl | hx
    · exact nsn_none _
    rcases ite_some hx with rfl | hx
    · exact fun_nsn i6
    rcases ite_some hx with rfl | hx
    · exact fun_nsn i5
    rcases ite_some hx with rfl | hx
    · exact fun_nsn i4
    rcases ite_some hx with rfl | hx
    · exact fun_nsn i3
    rcases ite_some hx with rfl | hx
    · exact fun_nsn ⟨_, hf2, rfl⟩
    rcases ite_some hx with rfl | hx
    · exact fun_nsn ⟨_, hf1, rfl⟩
    rcases ite_some hx with rfl | hx
    · exact nsn_ref (W6.keep _ _ (SG5 _ _ hsl)) rfl nl_list
    rcases ite_some hx with rfl | hx
    · exact nsn_str _ _ _
    rcases ite_some hx with rfl | hx
    · exact nsn_int _ _ _
    rcases ite_some hx with rfl | hx
    · exact nsn_str _ _ _
    rcases ite_some hx with rfl | hx
    · exact hnsn
    · cases hx
  refine ⟨C, _, rfl, hC₁₁, rfl, wpAny_pure (k C h₁₁ tk₁₁ (fun b o n e => S₁₁ _ _ (up b o e n)) ?_ ?_)⟩
  · exact ⟨_, S₁₁ _ _ (G8 _ _ (hideAll_get _ (S₄ _ _ h80) (by
      simp
      exact ⟨Ne.symm hN80, fun q => by rw [← q, T₂ _ _ hP] at fP; cases fP⟩)))⟩
  · have U := (SG5.trans W6.keep).trans S₁₁
    intro Z hZ
    have h80' := S₁₁ _ _ (G8 _ _ (hideAll_get [N, P] (S₄ _ _ h80) (by
      simp
      exact ⟨Ne.symm hN80, fun q => by rw [← q, T₂ _ _ hP] at fP; cases fP⟩)))
    have hZ' : ∀ z ∈ Z, ∃ o, h₁₁.get? z = some o ∧ OldKind o := by
      intro z hz
      by_cases q : z = 50
      · subst q
        exact ⟨_, h80', .inr (.inr ⟨_, rfl, fun q t e => by simp [rawInt] at e⟩)⟩
      · (first | (refine Mine.e1_2 (hZ z hz) ?_; rintro o e r) | (refine Mine.e2_1 (hZ z hz) ?_; rintro o e r) | (obtain ⟨o, e, r⟩ := hZ z hz))
        exact ⟨o, S₁₁ _ _ (up _ _ e q), r⟩
    have lift : ∀ b o, h₁₁.get? b = some o → ¬ OldKind o → (hideAll h₁₁ Z).get? b = some o := fun b o e hn => hideAll_get _ e fun hb => by
      (first | (refine Mine.e1_2 (hZ' b hb) ?_; rintro o' e' r) | (refine Mine.e2_1 (hZ' b hb) ?_; rintro o' e' r) | (obtain ⟨o', e', r⟩ := hZ' b hb))
      rw [e] at e'; cases e'; exact hn r
    have liftC : ∀ c q, h₁₁.CodeRec (.ref c) q → (hideAll h₁₁ Z).CodeRec (.ref c) q := by
      (rintro c q hcj; (first | (refine Mine.e4_4 hcj ?_; clear hcj; rintro c2 oc vs t e2 hoc hd hv) | (obtain ⟨c2, oc, vs, t, e2, hoc, hd, hv⟩ := hcj)))
      cases e2
      refine ⟨c, oc, vs, t, rfl, lift _ _ hoc ?_, hd, hv⟩
      rintro (⟨es, ep, q⟩ | ⟨v, q⟩ | ⟨ps, q, r⟩)
      · rw [hd] at q; cases q
      · rw [hd] at q; cases q
      · subst q; cases hd; exact r _ _ hv
    have nf : ∀ {o : Obj}, o.cls ≠ .none → (∀ es ep, o.data ≠ .dict es ep) → (∀ v, o.data ≠ .cell v) → ¬ OldKind o := by
      rintro o a b c (⟨es, ep, q⟩ | ⟨v, q⟩ | ⟨ps, q, r⟩)
      · exact b _ _ q
      · exact c _ q
      · subst q; exact a rfl
    exact ⟨N', _, _, _, md, tmd, nv, _, _, um, sl, f1, c1, t1, d1, f2, c2, t2, d2, f3, f4, f5, f6, sa, lift _ _ hC₁₁ (nf nofun nofun nofun), hid_ns hN₁₁ (fun hb => by
      by_cases q : N' = 50
      · have e80 := G8 _ _ (hideAll_get [N, P] (S₄ _ _ h80) (by
          simp
          exact ⟨Ne.symm hN80, fun q => by rw [← q, T₂ _ _ hP] at fP; cases fP⟩))
        rw [q, e80] at fN'; cases fN'
      · (first | (refine Mine.e1_2 (hZ N' hb) ?_; rintro o e r) | (refine Mine.e2_1 (hZ N' hb) ?_; rintro o e r) | (obtain ⟨o, e, r⟩ := hZ N' hb)); rw [up _ _ e q] at fN'; cases fN'), lift _ _ hmd (nf nofun nofun nofun), lift _ _ (U _ _ hf1) (nf nofun nofun nofun), liftC _ _ (hc1.keeps U), lift _ _ (U _ _ hf2) (nf nofun nofun nofun), liftC _ _ (hc2.keeps U)⟩
end
end Mine
end
section
open PySem PySem.W PySem.Calls PyProof.Rows
set_option Elab.async false
set_option maxRecDepth 100000
namespace Mine
section
variable {prog : Program} {w : World} {A : Around} {E : Value → Shared → Prop} {s : Shared} {h : Heap} {tk : Nat} {mg mb : Str → Option Value}

theorem exec_cls {name : Str} {bases : List Expr} {keywords : List Keyword} {body : List Stmt} {decorators : List Expr} {scope : Scope} {ts : Option Scope} {bind : Str} {statics : List Str} {pos : Pos} {env : Env} :
    exec (.ClassDef name bases keywords body decorators [] scope ts bind statics pos) env = (do
    let decos ← evalAll (evalEach decorators env)
    standAt pos
    buildClassGuard env
    let c ← holding decos do
      let a ← evalArgs (.builtin "__build_class__") false (backTo pos (starEach bases env)) (backToKw pos (keywordEach keywords env))
      standAt pos
      holding (a.pos ++ a.kw.map (·.2)) (buildClass name (qualnameIn env name bind) a.pos a.kw body scope statics (firstLineOf decorators pos) env pos none)
    let c ← decorate (decos.zip (decorators.map (·.pos))).reverse c
    standAt pos
    bindName env bind c
    pure .next) := rfl

set_option maxHeartbeats 4000000 in
theorem c_cmpkey {f : Value} {Q : Value → Shared → Prop} (R : Rm 2 A) (B : Bas mg mb h) (bm : BM h mg) (X : FnAt h 55 54 7 .none)
    (hC : CodeHd h 54 50) (hP : h.get? 50 = some (tabObj #[])) (hnm : ∃ v, mg "__name__" = some v ∧ ∃ x t, v = .str x t) {mc : Str → Option Value} (hst : h.Ns cStatics mc) (hmc : mc "thirdparty.any" = none) (hob : mg "object" = none)
    (k : ∀ C cc h' tk', Off 50 h h' → GrownAt 50 h' → (∀ Z : List Addr, (∀ z ∈ Z, ∃ o, h.get? z = some o ∧ OldKind o) → KCls (hideAll h' Z) C cc ((mg "__name__").getD .none) ∧ (hideAll h' Z).IsCell cc (some f)) → Q (.ref C) (st s h' tk')) :
    wpAny (model prog w) A (call (.ref 55) [f]) Q E (st s h tk) := by
  (first | (refine Mine.e1_2 (X) ?_; rintro pm ho hc) | (refine Mine.e2_1 (X) ?_; rintro pm ho hc) | (obtain ⟨pm, ho, hc⟩ := X))
  refine wpAny_call (codeAny_call_cells (s := st s h tk) (binds := [("mycmp", f)]) R.room ho rfl B.lim hc (body := bodyAt 7) rfl rfl rfl ?hkind ?_)
  case hkind =>
    intro x hx
    simp at hx; subst hx
    exact .inr ⟨rfl, rfl⟩
  intro s₁ I
  have hL : (callEnvC (fnD 7 54 pm .none) (st s h tk).heap.objs.size 55).locals = h.objs.size := rfl
  generalize hl : (st s h tk).heap.objs.size = L at *
  have hcell := I.cell "mycmp" (L + 1) rfl
  (first | (refine Mine.e1_2 (I.toInCall.same) ?_; rintro h₁ tk₁ rfl) | (refine Mine.e2_1 (I.toInCall.same) ?_; rintro h₁ tk₁ rfl) | (obtain ⟨h₁, tk₁, rfl⟩ := I.toInCall.same))
  have keep := I.toInCall.keep
  have ns := I.toInCall.ns
  change Stay h h₁ at keep
  change h₁.Ns L _ at ns
  change h₁.IsCell (L + 1) (some f) at hcell
  have hh : (st s h tk).gens = s.gens := rfl
  generalize hA : A.deeper (callEnvC (fnD 7 54 pm .none) L 55) = A'
  have R' : Rm 1 A' := hA ▸ R.deeper
  generalize he : callEnvC (fnD 7 54 pm .none) L 55 = env
  show wpAny _ _ (execs (bodyAt 7) env) (fun fl s' => Q (flowV fl) s') _ (st s h₁ tk₁)
  refine wpAny_execs_cons ?_
  rw [exec_cls]
  have B₁ := B.stay keep
  have gk : env.kindOf "object" = some .globalImplicit := he ▸ rfl
  have gl : env.globals = mainGlobals := he ▸ rfl
  have gb : env.builtins = builtinsNs := he ▸ rfl
  have gs : env.scope.kind = .function := he ▸ rfl
  have gL : env.locals = L := he ▸ rfl
  have gK : env.kindOf "K" = some .local := he ▸ rfl
  have gq : qualnameIn env (Str.ofString "K") (Str.ofString "K") = kQ := he ▸ rfl
  refine wpAny_bind (wpAny_pure ?_)
  refine wpAny_bind (wpAny_standAt (wpAny_bind ?_))
  have gg : wpAny (model prog w) A' (buildClassGuard env) (fun _ s' => s' = st s h₁ tk₁) (fun _ _ => False) (st s h₁ tk₁) := by
    unfold buildClassGuard
    rw [gb]
    refine wpAny_bind (wpAny_nsGet (s := st s h₁ tk₁) B₁.b ?_)
    rw [B₁.bi _ (by decide)]
    exact wpAny_pure rfl
  refine wpAny_mono gg (fun _ s' e => ?_) fun _ _ e => e.elim
  subst e
  refine wpAny_bind (wpAny_holding (wpAny_bind ?_))
  refine evalArgs_plain (r_sp1 (nmB B₁ hob rfl (r_sp0 ?_) (by decide) gl gb gs gk))
  refine wpAny_bind (wpAny_standAt (wpAny_holding ?_))
  rw [gq]
  (first | (refine Mine.e3_3 (id ns) ?_; rintro ofr fes fep hLo hLd hLr) | (obtain ⟨ofr, fes, fep, hLo, hLd, hLr⟩ := id ns))
  have n80 : (50 : Addr) ≠ L := fun q => by rw [← q, keep _ _ hP] at hLo; cases hLo; cases hLd
  have hLh : h.get? L = none := Heap.get?_none_of_le (Nat.le_of_eq hl)
  refine wp_build he.symm B₁ (bm.stay keep) R'.room ⟨ofr, fes, fep, hLo, hLd⟩ (hC.keeps keep) (keep _ _ hP) hnm (hst.keeps keep) hmc fun C h₂ tk₂ O₂ g₂ K₂ => ?_
  refine wpAny_bind (wpAny_pure (wpAny_bind (wpAny_standAt (wpAny_bind (wpAny_bindName ?_)))))
  have F₂ : Fm (hideAll h₁ [50, L]) L _ h₂ := ⟨ns.at' fun o e => O₂ _ o n80.symm e, fun b o e => O₂ _ _ (fun q => by rw [q, hideAll_none _ (by simp)] at e; cases e) (of_hideAll _ e), hideAll_none _ (by simp)⟩
  refine stL F₂ (fun h₃ tk₃ F₃ O₃ => ?_) gL gs gK
  refine wpAny_pure ?_
  show wpAny _ _ (execs _ env) (fun fl s' => Q (flowV fl) s') _ _
  refine r_ret (nmL F₃ rfl ?_ gL gs gK)
  refine k C (L + 1) h₃ tk₃ (fun b o n e => O₃ _ _ (fun q => by rw [q, hLh] at e; cases e) (O₂ _ _ n (keep _ _ e))) ?_ fun Z hZ => ⟨?_, ?_⟩
  · obtain ⟨ps, e⟩ := g₂
    exact ⟨ps, O₃ _ _ n80 e⟩
  · refine (K₂ (L :: Z) ?_).stay fun b o e => ?_
    · intro z hz
      rcases List.mem_cons.mp hz with rfl | hz
      · exact ⟨_, hLo, .inl ⟨_, _, hLd⟩⟩
      · (first | (refine Mine.e1_2 (hZ z hz) ?_; rintro o e r) | (refine Mine.e2_1 (hZ z hz) ?_; rintro o e r) | (obtain ⟨o, e, r⟩ := hZ z hz))
        exact ⟨o, keep _ _ e, r⟩
    · have hb : b ∉ L :: Z := fun q => by rw [hideAll_none _ q] at e; cases e
      exact hideAll_get _ (O₃ _ _ (fun q => hb (q ▸ List.mem_cons_self)) (of_hideAll _ e)) fun q => hb (List.mem_cons_of_mem _ q)
  · (first | (refine Mine.e1_2 (hcell) ?_; rintro oc hoc hod) | (refine Mine.e2_1 (hcell) ?_; rintro oc hoc hod) | (obtain ⟨oc, hoc, hod⟩ := hcell))
    refine ⟨oc, hideAll_get _ (O₃ _ _ (Nat.succ_ne_self L) (O₂ _ _ (fun q => ?_) hoc)) (fun hb => ?_), hod⟩
    · rw [q, keep _ _ hP] at hoc; cases hoc; cases hod
    · (first | (refine Mine.e1_2 (hZ _ hb) ?_; rintro o e _) | (refine Mine.e2_1 (hZ _ hb) ?_; rintro o e _) | (obtain ⟨o, e, _⟩ := hZ _ hb))
      have : h.get? (L + 1) = none := Heap.get?_none_of_le (by rw [← hl]; exact Nat.le_succ _)
      rw [this] at e; cases e
end
end Mine
end
section
open PySem PySem.W PySem.Calls PyProof.Rows
set_option Elab.async false
set_option maxRecDepth 100000
set_option linter.unusedVariables false
namespace Mine
section
variable {prog : Program} {w : World} {A : Around} {E : Value → Shared → Prop} {h : Heap} {g : Array GenState} {d : Drawn} {t : Nat} {os : OsState}
variable {nm q : Str} {C N : Addr} {k0 k1 k2 k3 k5 : Option Value}

theorem ko_check {M : Model} {rest : List Value} {Q : Unit → Shared → Prop} (hC : h.get? C = some (kObj nm q C N k0 k1 k2 k3 k5)) (hq : Q () ⟨h, g, d, t, os⟩) :
    wpAny M A (checkBuiltinCall "object.__new__" ⟨.ref C :: rest, []⟩) Q E ⟨h, g, d, t, os⟩ := by
  have F := PySem.F.objNew
  have hcont : (Value.ref C :: [Value.type "object"]).contains (.type "object") = true := by rw [List.contains_cons, show [Value.type "object"].contains (.type "object") = true from by decide, Bool.or_true]
  simp only [checkBuiltinCall, F.kind, F.split, F.row]
  repeat (first | refine wpAny_loadPart_at hC ?_ | (refine wpAny_isSubtype_exc hC ?_; rw [hcont]) | refine wpAny_staticBase_exc hC ?_ | refine wpAny_madeBy_exc hC ?_ | simp only [bne_self_eq_false, Bool.false_eq_true, if_false] | wp_step)
  exact hq

theorem ko_new {R : Result → Shared → Prop} {mN : Str → Option Value} {rest : List Value} {fI : Addr}
    (hC : h.get? C = some (kObj nm q C N k0 k1 k2 k3 k5)) (hn : h.Ns N mN) (hi : mN "__init__" = some (.ref fI))
    (hq : R (.ok (.ret (.ref (h.objs.size + 1)))) ⟨(h.push { cls := .type "dict", data := .dict #[] }).push { cls := .ref C, dict := some h.objs.size, data := .plain }, g, d, t, os⟩) :
    codeAny (model prog w) A (.builtin "object.__new__" ⟨.ref C :: rest, []⟩) R ⟨h, g, d, t, os⟩ := by
  have F := PySem.F.objNew
  have hmro : mroOf (.type "object") = pure [.type "object"] := by kernel_rfl
  have hlk : typeLookup (.type "object") "__init__" = pure (some (.builtin "object.__init__")) := by rw [typeLookup_type, builtinLookup_eq_fast]; kernel_rfl
  have hne : (some (Value.ref fI) != some (Value.builtin "object.__init__")) = true := rfl
  have hsame : (some "object.__new__" != some "object.__new__") = false := by decide
  refine codeAny_builtin F.entry ?_
  unfold Builtin.«object.__new__»
  rcases rest with _ | ⟨r0, rr⟩
  all_goals
    repeat (first | with_reducible refine wpAny_madeHere_exc F.canon hC ?_ | (with_reducible refine wpAny_madeBy_exc hC ?_; simp only [hsame]) | with_reducible refine wpAny_loadPart_at hC ?_ | (with_reducible refine wpAny_typeLookup_exc hC hn hmro hlk ?_; rw [hi]; simp only [hne]) | wp_step)
  all_goals
    show wpAny _ _ (alloc { cls := .type "dict", data := .dict #[] } >>= fun x => pure (some x)) _ _ _
    refine wpAny_bind (wpAny_alloc' (wpAny_pure ?_))
    unfold newObj
    repeat wp_step
    show R _ _
    rw [Heap.size_push]
    exact hq

noncomputable def instK (C dx : Addr) (sl : Array (Option Value)) : Obj := { cls := .ref C, dict := some dx, data := .plain, slots := sl }

theorem ko_typeCall {mN : Str → Option Value} {rest : List Value} {fI : Addr} {oI : Obj} {Q : PySem.Fin → Shared → Prop}
    (hC : h.get? C = some (kObj nm q C N k0 k1 k2 k3 k5)) (hn : h.Ns N mN) (hi : mN "__init__" = some (.ref fI))
    (hfI : h.get? fI = some oI) (hfc : oI.cls = .type "function")
    (hq : ∀ h' x dx, h.get? x = none → h.get? dx = none → Stay h h' → h'.get? x = some (instK C dx #[]) → h'.get? dx = some { cls := .type "dict", data := .dict #[] } →
      wpAny (model prog w) A (call (.ref fI) (.ref x :: rest)) (fun r s' => r = .none ∧ Q (.done (.ret (.ref x))) s') E ⟨h', g, d, t, os⟩) :
    wpAny (model prog w) A (Builtin.«type.__call__» ⟨.ref C :: rest, []⟩) Q E ⟨h, g, d, t, os⟩ := by
  have F := PySem.F.objNew
  have hmro : mroOf (.type "object") = pure [.type "object"] := by kernel_rfl
  have hlk : typeLookup (.type "object") "__init__" = pure (some (.builtin "object.__init__")) := by rw [typeLookup_type, builtinLookup_eq_fast]; kernel_rfl
  repeat (first | with_reducible refine wpAny_loadPart_at hC ?_ | with_reducible refine wpAny_madeBy_exc hC ?_ | wp_step)
  refine codeAny_call_builtin_code (Code.quiet_builtin _ F.quiet) (ko_check hC ?_)
  refine ko_new hC hn hi ?_
  show wpAny _ _ _ _ _ _
  have hC₁ := Heap.get?_push_of_some { cls := .ref C, dict := some h.objs.size, data := .plain } (Heap.get?_push_of_some { cls := .type "dict", data := .dict #[] } hC)
  have hfI₁ := Heap.get?_push_of_some { cls := .ref C, dict := some h.objs.size, data := .plain } (Heap.get?_push_of_some { cls := .type "dict", data := .dict #[] } hfI)
  have hn₁ : ((h.push { cls := .type "dict", data := .dict #[] }).push { cls := .ref C, dict := some h.objs.size, data := .plain }).Ns N mN :=
    let ⟨o, es, ep, e, r⟩ := hn; ⟨o, es, ep, Heap.get?_push_of_some _ (Heap.get?_push_of_some _ e), r⟩
  have hget : ((h.push { cls := .type "dict", data := .dict #[] }).push { cls := .ref C, dict := some h.objs.size, data := .plain }).get? (h.objs.size + 1) = some { cls := .ref C, dict := some h.objs.size, data := .plain } := by heap_get
  have hgd : ((h.push { cls := .type "dict", data := .dict #[] }).push { cls := .ref C, dict := some h.objs.size, data := .plain }).get? h.objs.size = some { cls := .type "dict", data := .dict #[] } :=
    Heap.get?_push_of_some _ (Heap.get?_push_at rfl rfl)
  have hcC : (Value.ref C :: [Value.type "object"]).contains (.ref C) = true := by simp
  unfold isInstance
  repeat (first | with_reducible refine wpAny_loadPart_at hget ?_ | (with_reducible refine wpAny_isSubtype_exc hC₁ ?_; rw [hcC]) | wp_step)
  show wpAny _ _ (typeLookup (.ref C) _) _ _ _
  refine wpAny_typeLookup_exc hC₁ hn₁ hmro hlk ?_
  rw [hi]
  refine wpAny_holding (wpAny_bind ?_)
  unfold bindSpecial
  refine wpAny_bind (wpAny_typeOf (T := "function") ⟨_, hfI₁, hfc⟩ ?_)
  rw [if_pos (by decide)]
  refine wpAny_pure (wpAny_bind (wpAny_mono (hq _ (h.objs.size + 1) h.objs.size (Heap.get?_none_of_le (Nat.le_succ _)) (Heap.get?_none_of_le (Nat.le_refl _)) (fun b o hb => Heap.get?_push_of_some _ (Heap.get?_push_of_some _ hb)) hget hgd) (fun r s' hr => ?_) fun _ _ x => x))
  obtain ⟨rfl, hQ⟩ := hr
  wp_walk
  exact hQ

theorem ko_call {mN : Str → Option Value} {rest : List Value} {fI : Addr} {oI : Obj} {Q : Value → Shared → Prop}
    (hC : h.get? C = some (kObj nm q C N k0 k1 k2 k3 k5)) (hn : h.Ns N mN) (hi : mN "__init__" = some (.ref fI))
    (hfI : h.get? fI = some oI) (hfc : oI.cls = .type "function")
    (hq : ∀ h' x dx, h.get? x = none → h.get? dx = none → Stay h h' → h'.get? x = some (instK C dx #[]) → h'.get? dx = some { cls := .type "dict", data := .dict #[] } →
      wpAny (model prog w) (A.under (.builtin "type.__call__" ⟨.ref C :: rest, []⟩)) (call (.ref fI) (.ref x :: rest)) (fun r s' => r = .none ∧ Q (.ref x) s') E ⟨h', g, d, t, os⟩) :
    wpAny (model prog w) A (call (.ref C) rest) Q E ⟨h, g, d, t, os⟩ := by
  have f1 := tc_lookup
  have f2 := tc_bind (.ref C)
  have hT : (⟨h, g, d, t, os⟩ : Shared).TypeIs (.ref C) "type" := ⟨_, hC, rfl⟩
  refine wpAny_call (codeAny_of_tree ?_)
  show wpAny _ _ (callAny (.ref C) _) _ _ _
  repeat (any_goals (first | assumption | with_reducible refine wpAny_loadPart_at hC ?_ | wp_step))
  refine ⟨rfl, ?_⟩
  refine codeAny_call_builtin_at (Code.quiet_builtin _ (by decide +kernel)) entry_typeCall (wpAny_check_type_call_sub hC (ko_typeCall hC hn hi hfI hfc fun h' x dx a b c d e => ?_))
  exact hq h' x dx a b c d e
end
end Mine
end
section
open PySem PySem.W PySem.Calls PyProof.Rows
set_option Elab.async false
set_option maxRecDepth 100000
namespace Mine

noncomputable def OffL (X : List Addr) (h h' : Heap) : Prop := ∀ b o, b ∉ X → h.get? b = some o → h'.get? b = some o
theorem OffL.trans {X : List Addr} {a b c : Heap} (x : OffL X a b) (y : OffL X b c) : OffL X a c := fun i o n e => y i o n (x i o n e)
theorem Stay.offL {X : List Addr} {h h' : Heap} (x : Stay h h') : OffL X h h' := fun i o _ e => x i o e
theorem Off.offL {X : List Addr} {L : Addr} {h h' : Heap} (x : Off L h h') (hm : L ∈ X) : OffL X h h' := fun i o n e => x i o (fun q => n (q ▸ hm)) e
noncomputable def Kept (X : List Addr) (h h' : Heap) : Prop := ∀ b ∈ X, ∀ o, h.get? b = some o → h'.get? b = some o

section
variable {prog : Program} {w : World} {A : Around} {s : Shared} {R : Result → Shared → Prop}

theorem comp_loop1 {h : Heap} {tk : Nat} {elt target iter : Expr} {ifs : List Expr} {scope : Scope} {pos : Pos} {acc : Value} {env : Env} {I : Addr} {fp wr : List Addr} {n : Nat} {P Md : Nat → Value → Heap → Prop} {St : Nat → Heap → Prop}
    (W : KTurns prog w A target I fp wr n P Md St) (J : Nat → Heap → Prop) (hJ : ∀ i h h', J i h → OffL wr h h' → J i h')
    (turn : ∀ i v h tk, i < n → P i v h → St (i + 1) h → J i h →
      wpAny (model prog w) A (assign target env v) (fun _ s₂ => 
        wpAny (model prog w) A (forIn ifs true fun c r => if r = true then do let ok ← isTrue c env (eval c env); pure (ForInStep.yield ok) else pure (ForInStep.yield r)) (fun ok s₃ =>
          if ok = true then wpAny (model prog w) A (eval elt env) (fun x s₄ => wpAny (model prog w) A (call (.builtin "list.append") [acc, x]) (fun _ s₅ => ∃ h₅ tk₅, s₅ = st s h₅ tk₅ ∧ Kept fp h h₅ ∧ J (i + 1) h₅) (fun _ _ => False) s₄) (fun _ _ => False) s₃
          else ∃ h₃ tk₃, s₃ = st s h₃ tk₃ ∧ Kept fp h h₃ ∧ J (i + 1) h₃) (fun _ _ => False) s₂) (fun _ _ => False) (st s h tk))
    (fin : ∀ h tk, J n h → R (.ok .next) (st s h tk)) (h0 : St 0 h) (j0 : J 0 h) :
    codeAny (model prog w) A (.compLoop (.ListComp elt [⟨target, iter, ifs, 0⟩] scope pos) 0 (.ref I) acc env) R (st s h tk) := by
  refine codeAny_loop rfl (fun k s' => ∃ i h tk, s' = st s h tk ∧ St i h ∧ J i h ∧ i ≤ n ∧ k = n + 1 - i) ?_ (n + 1) ⟨0, h, tk, rfl, h0, j0, Nat.zero_le _, rfl⟩
  (rintro k s' hcj; (first | (refine Mine.e3_5 hcj ?_; clear hcj; rintro i h' tk' rfl hst hj hi rfl) | (obtain ⟨i, h', tk', rfl, hst, hj, hi, rfl⟩ := hcj)))
  show wpAny _ A ((compTurn (.ListComp elt [⟨target, iter, ifs, 0⟩] scope pos) 0 (.ref I) acc env).onRaise (fun x => do noteFrame x env; theTreesLotGoes x)) _ _ _
  refine wpAny_noted ?_
  rw [compTurn_list]
  refine wpAny_bind (wpAny_standAt (wpAny_bind ?_))
  by_cases hlt : i < n
  · refine W.item i _ _ _ hlt hst fun v h₁ tk₁ hMd hk₁ => ?_
    refine wpAny_bind (W.go i v _ _ _ hMd fun h₂ hP hst₂ hk₂ => ?_)
    have hj₂ : J i h₂ := hJ i h' h₂ hj fun b o hb e => hk₂ b o hb (hk₁ b o hb e)
    refine wpAny_bind (wpAny_mono (turn i v h₂ tk₁ hlt hP hst₂ hj₂) (fun _ s₂ q => wpAny_bind (wpAny_mono q (fun ok s₃ q₃ => ?_) fun _ _ e => e.elim)) fun _ _ e => e.elim)
    cases ok with
    | false =>
      (first | (refine Mine.e2_3 (q₃) ?_; rintro h₃ tk₃ rfl kp j) | (obtain ⟨h₃, tk₃, rfl, kp, j⟩ := q₃))
      exact wpAny_pure ⟨rfl, n + 1 - (i + 1), by omega, i + 1, h₃, tk₃, rfl, W.frame _ _ _ hst₂ kp, j, hlt, rfl⟩
    | true =>
      refine wpAny_bind (wpAny_bind (wpAny_mono q₃ (fun x s₄ q₄ => wpAny_bind (wpAny_mono q₄ (fun _ s₅ q₅ => wpAny_pure (wpAny_pure ?_)) fun _ _ e => e.elim)) fun _ _ e => e.elim))
      (first | (refine Mine.e2_3 (q₅) ?_; rintro h₃ tk₃ rfl kp j) | (obtain ⟨h₃, tk₃, rfl, kp, j⟩ := q₅))
      exact ⟨rfl, n + 1 - (i + 1), by omega, i + 1, h₃, tk₃, rfl, W.frame _ _ _ hst₂ kp, j, hlt, rfl⟩
  · have hin : i = n := by omega
    subst hin
    refine W.done _ _ _ hst fun h₁ tk₁ hk₁ => ?_
    exact wpAny_pure (fin h₁ tk₁ (hJ i h' h₁ hj hk₁))

end

section
variable {prog : Program} {w : World} {A : Around} {E : Value → Shared → Prop} {s : Shared} {env : Env}

theorem wp_lc {e : Expr} {scope : Scope} {pos : Pos} {first : Sem Value} {g : Comprehension} {gs : List Comprehension} {cl : List (Str × Addr)} {use : Option (Value → Sem Unit)} {Q : Value → Shared → Prop} {S : Shared}
    (hcl : clausesOf e = g :: gs) (hs : ∀ x, foldedSetIterable g.iter env x = pure x) (hclos : closureFor scope env = pure cl) (hcell : ∀ y ∈ scope.names, y.2 ≠ .cell)
    (hkind : scope.kind = .function) (hnames : ∀ x ∈ scope.names, x.2 = .local → scope.names.lookup x.1 = some .local)
    (k : wpAny (model prog w) A first (fun x s₁ => wpAny (model prog w) A (pyIter x) (fun it s₂ => ∃ h₂ tk₂, s₂ = st s h₂ tk₂ ∧ ∀ D C h₃ tk₃, h₂.get? D = none → h₂.get? C = none → D ≠ C → Stay h₂ h₃ → h₃.PlainList D #[] → h₃.Ns C (fun _ => none) →
      codeAny (model prog w) A (.compStart e 0 it (.ref D) (compEnvC scope cl C env)) (compPost (model prog w) A E use Q (.ref D) C) (st s h₃ tk₃)) E s₁) E S) :
    wpAny (model prog w) A (comprehension e scope env pos (newList []) false first use) Q E S := by
  refine wpAny_comprehension_free hcl hs hclos hkind hnames (wpAny_mono k (fun x s₁ k₁ => wpAny_mono k₁ (fun it s₂ k₂ => ?_) fun _ _ e => e) fun _ _ e => e)
  (first | (refine Mine.e2_2 (k₂) ?_; rintro h₂ tk₂ rfl k₂) | (obtain ⟨h₂, tk₂, rfl, k₂⟩ := k₂))
  refine wpAny_newObj_type (wpAny_newFunctionEnv hcell (by intro y hy; simp at hy) (fun h₁ hns₁ hsb₁ => ?_) hkind) (by size_fits)
  dsimp only [st] at hns₁ hsb₁ ⊢
  generalize hH2 : h₂.push { cls := .type "list", dict := none, data := .seq ([] : List Value).toArray } = H2 at hns₁ hsb₁ ⊢
  have hC : H2.objs.size = h₂.objs.size + 1 := by rw [← hH2, Heap.size_push]
  refine k₂ h₂.objs.size H2.objs.size h₁ _ (Heap.get?_none_of_le (Nat.le_refl _)) (Heap.get?_none_of_le (by rw [hC]; exact Nat.le_succ _)) (by rw [hC]; exact Nat.ne_of_lt (Nat.lt_succ_self _)) (fun b o e => ?_) ⟨_, hsb₁.extBut _ _ (by rw [hC]; exact Nat.ne_of_lt (Nat.lt_succ_self _)) (Heap.get?_push_of_some _ (hH2 ▸ Heap.get?_push_size _ rfl))⟩ ?_
  · have hb := Heap.lt_size e
    exact hsb₁.extBut b o (by rw [hC]; exact Nat.ne_of_lt (Nat.lt_succ_of_lt hb)) (Heap.get?_push_of_some _ (hH2 ▸ Heap.get?_push_of_some _ e))
  · exact hns₁
end
end Mine
end
section
open PySem PySem.W PySem.Calls PyProof.Rows
set_option Elab.async false
set_option maxRecDepth 100000
namespace Mine

theorem fresh_of {a b : Heap} {x : Addr} (S : Stay a b) (e : b.get? x = none) : a.get? x = none := by
  cases q : a.get? x with
  | none => rfl
  | some o => rw [S _ _ q] at e; cases e
theorem plain_stay {h h' : Heap} {a : Addr} {its : Array Value} (x : h.PlainList a its) (k : Stay h h') : h'.PlainList a its := x.at fun o e => k a o e
theorem slice_upto (items : Array Value) (b : Nat) (hb : b ≤ items.size) : slicePick items none (some (b : Int)) none = (items.toList.take b).toArray := by
  have e : sliceBounds none (some (b : Int)) none items.size = (0, (b : Int), 1) := by
    simp only [sliceBounds, Option.getD_none]
    have h2 : ¬ ((b : Int) < 0) := by (first | lia | omega)
    simp only [h2, if_false, show (1 : Int) > 0 by decide, if_true]
    congr 1
    congr 1
    (first | lia | omega)
  have := slicePick_run items 0 b hb (Nat.zero_le _)
  have e0 : sliceBounds (some ((0 : Nat) : Int)) (some (b : Int)) none items.size = (0, (b : Int), 1) := by
    simp only [sliceBounds, Option.getD_none]
    have h2 : ¬ ((b : Int) < 0) := by (first | lia | omega)
    have h1 : ¬ (((0 : Nat) : Int) < 0) := by (first | lia | omega)
    simp only [h1, h2, if_false, show (1 : Int) > 0 by decide, if_true]
    rw [Int.min_eq_left (by (first | lia | omega)), Int.min_eq_left (by (first | lia | omega))]; rfl
  unfold slicePick at this ⊢
  rw [e0] at this
  rw [e]
  simpa using this
theorem slice_from (items : Array Value) (a : Nat) (ha : a ≤ items.size) : slicePick items (some (a : Int)) none none = (items.toList.drop a).toArray := by
  have := slicePick_run items a items.size (Nat.le_refl _) ha
  have e1 : sliceBounds (some (a : Int)) none none items.size = ((a : Int), (items.size : Int), 1) := by
    simp only [sliceBounds, Option.getD_none]
    have h1 : ¬ ((a : Int) < 0) := by (first | lia | omega)
    simp only [h1, if_false, show (1 : Int) > 0 by decide, if_true]
    congr 1
    (first | lia | omega)
  have e0 : sliceBounds (some (a : Int)) (some (items.size : Int)) none items.size = ((a : Int), (items.size : Int), 1) := by
    simp only [sliceBounds, Option.getD_none]
    have h1 : ¬ ((a : Int) < 0) := by (first | lia | omega)
    have h2 : ¬ ((items.size : Int) < 0) := by (first | lia | omega)
    simp only [h1, h2, if_false, show (1 : Int) > 0 by decide, if_true]
    congr 1
    · (first | lia | omega)
    · congr 1; (first | lia | omega)
  unfold slicePick at this ⊢
  rw [e0] at this
  rw [e1, this]
  have : items.toList.length - a = (items.toList.drop a).length := by simp
  rw [show items.size - a = (items.toList.drop a).length by simp, List.take_length]

section
variable {prog : Program} {w : World} {A : Around} {E : Value → Shared → Prop} {s : Shared} {h : Heap} {tk : Nat} {env : Env} {pos : Pos} {S : Shared} {Q : Value → Shared → Prop}
theorem r_addL {l b : Addr} {xs ys : Array Value} (hl : h.PlainList l xs) (hb : h.PlainList b ys) (hz : xs.size + ys.size ≤ 10000)
    (k : ∀ a h', h.get? a = none → h'.PlainList a (xs ++ ys) → Stay h h' → Q (.ref a) (st s h' tk)) : wpAny (model prog w) A (binaryOp .Add (.ref l) (.ref b)) Q E (st s h tk) := by
  obtain ⟨n, hl⟩ := hl
  obtain ⟨n', hb⟩ := hb
  exact PySem.P.add_list (s := st s h tk) hl hb (k _ _ (Heap.get?_none_of_le (Nat.le_refl _)) ⟨_, Heap.get?_push_size _ rfl⟩ fun _ _ e => Heap.get?_push_of_some _ e) (by rw [sizeLine_eq]; (first | lia | omega))
theorem r_lenL {l : Addr} {xs : Array Value} (hl : h.IsList l xs) (hz : xs.size ≤ 10000) (k : ∀ t tk', Q (.int xs.size t) (st s h tk')) : wpAny (model prog w) A (call (.builtin "len") [.ref l]) Q E (st s h tk) :=
  call_len_list (s := st s h tk) hl (by (first | lia | omega)) (k _ _)
theorem r_lenS {x : Str} {t : Tok} (hz : x.length ≤ 100000) (k : ∀ t tk', Q (.int x.length t) (st s h tk')) : wpAny (model prog w) A (call (.builtin "len") [.str x t]) Q E (st s h tk) :=
  len_str (s := st s h tk) (by (first | lia | omega)) (k _ _)
theorem r_range2 {a n : Int} {t u : Tok} (k : ∀ r h' t' u' v' tk', h.get? r = none → IsRange h' r a n 1 t' u' v' → Stay h h' → Q (.ref r) (st s h' tk')) : wpAny (model prog w) A (call (.type "range") [.int a t, .int n u]) Q E (st s h tk) :=
  call_range_2 (s := st s h tk) (k _ _ _ _ _ _ (Heap.get?_none_of_le (Nat.le_refl _)) (Heap.get?_push_size _ rfl) fun _ _ e => Heap.get?_push_of_some _ e)
theorem r_slice {value : Expr} {lower upper : Option Expr} {p : Pos}
    (k : wpAny (model prog w) A (eval value env) (fun o s₁ => wpAny (model prog w) A (evalPart lower env) (fun vl s₂ => wpAny (model prog w) A (evalPart upper env) (fun vu s₃ =>
      ∃ h₃ tk₃ l items lo hi, s₃ = st s h₃ tk₃ ∧ o = .ref l ∧ h₃.IsList l items ∧ items.size ≤ 10000 ∧ IsPart vl lo ∧ IsPart vu hi ∧
        ∀ a h', h₃.get? a = none → h'.PlainList a (slicePick items lo hi none) → Stay h₃ h' → Q (.ref a) (st s h' tk₃)) E s₂) E s₁) E S)
    (ht : ∀ o r, letTemporaryGo value o r = pure () := by intro _ _; rfl) :
    wpAny (model prog w) A (eval (.Subscript value (.Slice lower upper none p) pos) env) Q E S := by
  refine wpAny_Subscript_list_slice (wpAny_mono k (fun o s₁ k₁ => wpAny_mono k₁ (fun vl s₂ k₂ => wpAny_mono k₂ (fun vu s₃ k₃ => ?_) fun _ _ e => e) fun _ _ e => e) fun _ _ e => e) ht
  (first | (refine Mine.e6_7 (k₃) ?_; rintro h₃ tk₃ l items lo hi rfl rfl hl hz pl pu k) | (obtain ⟨h₃, tk₃, l, items, lo, hi, rfl, rfl, hl, hz, pl, pu, k⟩ := k₃))
  refine ⟨l, items, lo, hi, rfl, hl, by rw [sizeLine_eq]; (first | lia | omega), pl, pu, k _ _ (Heap.get?_none_of_le (Nat.le_succ _)) ⟨0, ?_⟩ fun _ _ e => Heap.get?_push_of_some _ (Heap.get?_push_of_some _ e)⟩
  have := Heap.get?_push_size (h₃.push { cls := .type "slice", data := .fields #[vl, vu, .none] }) (o := { cls := .type "list", data := .seq (slicePick items lo hi none) }) rfl
  rwa [Heap.size_push] at this
theorem r_partN {Q : Value → Shared → Prop} (k : Q .none S) : wpAny (model prog w) A (evalPart none env) Q E S := by rw [evalPart_none]; exact wpAny_pure k
end


section
variable {prog : Program} {w : World} {A : Around} {s : Shared} {h : Heap} {mg mb : Str → Option Value}
theorem gives_lam {f c : Addr} {name qual : Str} {params : Arguments} {body : Expr} {scope : Scope} {clos : List (Str × Addr)} {pm ctv : Value} {args : List Value} {binds : List (Str × Value)} {φ : Value → Heap → Prop}
    (R : Rm 1 A) (B : Bas mg mb h) (ho : h.get? f = some (kla_obj name qual params body scope clos pm c ctv)) (hcd : h.CodeRec (.ref c) qual)
    (hbind : bindArgs (kla_fn name qual params body scope clos pm (.ref c) ctv) ⟨args, []⟩ = pure binds)
    (hcell : ∀ x ∈ scope.names, x.2 ≠ .cell) (hloc : ∀ x ∈ binds, scope.names.lookup x.1 = some .local)
    (hb : ∀ L h₀ tk, Fm h L (fun x => binds.reverse.lookup x) h₀ →
      wpAny (model prog w) (A.deeper (envX qual scope L f (.ref c) clos)) (eval body (envX qual scope L f (.ref c) clos)) (fun v s' => ∃ h' tk', s' = st s h' tk' ∧ Stay h h' ∧ φ v h') (fun _ _ => False) (st s h₀ tk))
    (hco : scope.isCoroutine = false) (hgen : scope.isGenerator = false) (hk : scope.kind = .function) :
    Gives prog w A (call (.ref f) args) s h φ := by
  intro tk Q E k
  refine wpAny_call (kla_callFunE (s := st s h tk) R.room ho rfl hco hgen rfl hcd ?_)
  rw [hbind]
  refine wpAny_pure (wpAny_newFunctionEnv hcell hloc (fun h₁ hns hsb => ⟨B.lim.fresh _ hsb, ?_⟩) hk)
  have hk₁ : Stay h h₁ := fun b o e => hsb.extBut b o (Nat.ne_of_lt (Heap.lt_size e)) (Heap.get?_push_of_some _ e)
  refine kla_codeExpr (wpAny_mono (hb h.objs.size h₁ _ ⟨hns, hk₁, Heap.get?_none_of_le (Nat.le_refl _)⟩) (fun v s' q => ?_) fun _ _ e => e.elim)
  (first | (refine Mine.e2_3 (q) ?_; rintro h' tk' rfl S p) | (obtain ⟨h', tk', rfl, S, p⟩ := q))
  exact k _ _ _ S p

theorem nmC {M : Model} {E : Value → Shared → Prop} {tk : Nat} {env : Env} {x : Str} {pos : Pos} {v : Value} {c : Addr} {Q : Value → Shared → Prop} (hc : h.IsCell c (some v)) (k : Q v (st s h tk)) (hx : env.cells.lookup x = some c) (hkx : env.kindOf x = some .cell)
    (hk : env.scope.kind = .function) (hd : (x == ("__debug__" : Str)) = false) : wpAny M A (eval (.Name x pos) env) Q E (st s h tk) :=
  wpAny_Name (wpAny_loadName_cell (s := st s h tk) hk hkx hx hc k) hd
end
end Mine
end
section
open PySem PySem.W PySem.Calls PyProof.Rows
set_option Elab.async false
set_option maxRecDepth 100000
set_option linter.unusedVariables false
namespace Mine

section
variable {prog : Program} {w : World} {A : Around} {E : Value → Shared → Prop} {s : Shared} {h : Heap} {tk : Nat} {env : Env} {pos : Pos} {S : Shared} {Q : Value → Shared → Prop}
theorem r_subs {value slice : Expr} (k : wpAny (model prog w) A (eval value env) (fun o s₁ => wpAny (model prog w) A (eval slice env) (fun i s₂ => wpAny (model prog w) A (subscriptTail value slice o i) Q E s₂) E s₁) E S) :
    wpAny (model prog w) A (eval (.Subscript value slice pos) env) Q E S := Subscript_ k
theorem r_itemL {value slice : Expr} {l : Addr} {items : Array Value} {i : Int} {j : Nat} {t : Tok} {x : Value} (hl : h.IsList l items) (hj : i = (j : Int)) (hf : j < 100000) (hx : items[j]? = some x) (k : Q x (st s h tk))
    (hs : subscripted slice false (.ref l) (.int i t) = operate [.ref l, .int i t] (getItem (.ref l) (.int i t)) := by with_unfolding_all rfl) (hg : ∀ r, letTemporaryGo value (.ref l) r = pure () := by intro _; with_unfolding_all rfl) :
    wpAny (model prog w) A (subscriptTail value slice (.ref l) (.int i t)) Q E (st s h tk) := by
  subst hj
  exact subscriptTail_builtin (s := st s h tk) (Heap.IsList.typeIs (s := st s h tk) hl) list_getitem_lookup (wpAny_getItem_list (s := st s h tk) hl (by (first | lia | omega)) (by (first | lia | omega)) (by simpa using hx) k) hs hg
theorem r_itemS {value slice : Expr} {x : Str} {i : Int} {j c : Nat} {t u : Tok} (hj : i = (j : Int)) (hf : j < 100000) (hx : x.cps[j]? = some c) (k : ∀ t' tk', Q (.str ⟨#[c]⟩ t') (st s h tk'))
    (hs : subscripted slice false (.str x t) (.int i u) = operate [.str x t, .int i u] (getItem (.str x t) (.int i u)) := by with_unfolding_all rfl) (hg : ∀ r, letTemporaryGo value (.str x t) r = pure () := by intro _; with_unfolding_all rfl) :
    wpAny (model prog w) A (subscriptTail value slice (.str x t) (.int i u)) Q E (st s h tk) := by
  subst hj
  refine subscriptTail_builtin (s := st s h tk) (typeIs_str _ _ _) slot_str_getitem.lookup (getItem_str (s := st s h tk) (c := c) ?_ ?_ (k _ _)) hs hg
  · simp; (first | lia | omega)
  · have hlt : j < x.length := by
      have := (Array.getElem?_eq_some_iff.mp hx).1
      exact this
    have e : seqIndex? (j : Int) x.length = some j := by
      unfold seqIndex?
      simp; (first | lia | omega)
    rw [e]
    exact hx
theorem r_addS {x y : Str} {t u : Tok} (hz : x.length + y.length ≤ 100000) (k : ∀ t' tk', Q (.str (x ++ y) t') (st s h tk')) : wpAny (model prog w) A (binaryOp .Add (.str x t) (.str y u)) Q E (st s h tk) :=
  PyProof.Rows.add_str (s := st s h tk) (fun t' tk' => k t' tk') (by rw [sizeLine_eq]; (first | lia | omega))
theorem r_iaddS {x y : Str} {t u : Tok} (hz : x.length + y.length ≤ 100000) (k : ∀ t' tk', Q (.str (x ++ y) t') (st s h tk')) : wpAny (model prog w) A (inplaceOp .Add (.str x t) (.str y u)) Q E (st s h tk) :=
  PyProof.Rows.iadd_str (s := st s h tk) (fun t' tk' => k t' tk') (by rw [sizeLine_eq]; (first | lia | omega))
theorem nmF {x : Str} {v : Value} {c : Addr} (hc : h.IsCell c (some v)) (k : Q v (st s h tk)) (hx : env.cells.lookup x = some c) (hkx : env.kindOf x = some .free)
    (hk : env.scope.kind = .function) (hd : (x == ("__debug__" : Str)) = false) (hn : (x == ("__classdict__" : Str)) = false) : wpAny (model prog w) A (eval (.Name x pos) env) Q E (st s h tk) :=
  wpAny_Name (wpAny_loadName_free (s := st s h tk) hk hkx hx hc k hn) hd
end
end Mine
end
section
open PySem PySem.W PySem.Calls PyProof.Rows Builtin Builtin.ObjectAttr Builtin.Getset_descriptor
set_option Elab.async false
set_option maxRecDepth 100000
set_option linter.unusedVariables false
namespace Mine
noncomputable def allN (h : Heap) (L : Addr) : List (Addr × Obj) := (List.range h.objs.size).filterMap fun a => if a = L then none else (h.get? a).map fun o => (a, o)
theorem mem_allN {h : Heap} {L a : Addr} {o : Obj} : (a, o) ∈ allN h L ↔ h.get? a = some o ∧ a ≠ L := by
  unfold allN
  rw [List.mem_filterMap]
  constructor
  · (rintro hcj; (first | (refine Mine.e1_2 hcj ?_; clear hcj; rintro b hb e) | (refine Mine.e2_1 hcj ?_; clear hcj; rintro b hb e) | (obtain ⟨b, hb, e⟩ := hcj)))
    split at e
    · cases e
    · rename_i hn
      rw [Option.map_eq_some_iff] at e
      (first | (refine Mine.e1_2 (e) ?_; rintro o' e1 e2) | (refine Mine.e2_1 (e) ?_; rintro o' e1 e2) | (obtain ⟨o', e1, e2⟩ := e))
      cases e2
      exact ⟨e1, hn⟩
  · rintro ⟨e, hn⟩
    refine ⟨a, List.mem_range.mpr (Heap.lt_size e), ?_⟩
    rw [if_neg hn, e]; rfl
noncomputable def e0 : Heap := hideAll (default : Heap) []
theorem mem_split {α : Type} {l : List (Addr × α)} {x : Addr} {o : α} (hnd : ∀ a o o', (a, o) ∈ l → (a, o') ∈ l → o = o') (hn : (l.map (·.1)).Nodup) (hm : (x, o) ∈ l) : ∃ pre post, l = pre ++ (x, o) :: post ∧ (∀ p ∈ pre, p.1 ≠ x) ∧ ∀ p ∈ post, p.1 ≠ x := by
  (first | (refine Mine.e1_2 (List.append_of_mem hm) ?_; rintro pre post rfl) | (refine Mine.e2_1 (List.append_of_mem hm) ?_; rintro pre post rfl) | (obtain ⟨pre, post, rfl⟩ := List.append_of_mem hm))
  refine ⟨pre, post, rfl, fun p hp q => ?_, fun p hp q => ?_⟩
  · rw [List.map_append, List.map_cons, List.nodup_append] at hn
    exact hn.2.2 p.1 (List.mem_map_of_mem hp) x (by simp) q
  · rw [List.map_append, List.map_cons, List.nodup_append, List.nodup_cons] at hn
    exact hn.2.1.1 (List.mem_map.mpr ⟨p, hp, q⟩)
theorem allN_nodup (h : Heap) (L : Addr) : ((allN h L).map (·.1)).Nodup := by
  have : (allN h L).map (·.1) = (List.range h.objs.size).filter fun a => decide (a ≠ L ∧ (h.get? a).isSome) := by
    unfold allN
    induction List.range h.objs.size with
    | nil => rfl
    | cons a r ih =>
      rw [List.filterMap_cons]
      by_cases hL : a = L
      · simp only [hL, if_true, List.filter_cons]; simpa [hL] using ih
      · cases e : h.get? a with
        | none => simp [hL, e, List.filter_cons]; simpa using ih
        | some o => simp [hL, e, List.filter_cons]; simpa using ih
  rw [this]
  exact List.nodup_range.filter _
theorem allN_split {h : Heap} {L x : Addr} {o : Obj} (e : h.get? x = some o) (hn : x ≠ L) : ∃ pre post, allN h L = pre ++ (x, o) :: post ∧ (∀ p ∈ pre, p.1 ≠ x) ∧ ∀ p ∈ post, p.1 ≠ x :=
  mem_split (fun a o o' h1 h2 => by have := (mem_allN.mp h1).1; rw [(mem_allN.mp h2).1] at this; exact (Option.some.inj this).symm) (allN_nodup h L) (mem_allN.mpr ⟨e, hn⟩)
theorem e0_none (b : Addr) : e0.get? b = none := by
  unfold e0
  cases e : (hideAll (default : Heap) []).get? b with
  | none => rfl
  | some o => have := Heap.lt_size (of_hideAll _ e); exact absurd this (Nat.not_lt_zero _)
theorem fr0 {h : Heap} {L : Addr} {m : Str → Option Value} (n : h.Ns L m) : Fr e0 L h m := ⟨n, fun b o e => (by rw [e0_none] at e; cases e), Nat.zero_le _⟩
theorem news0 (h : Heap) (L : Addr) : News e0 L h (allN h L) := fun p hp => ⟨(mem_allN.mp hp).1, (mem_allN.mp hp).2, e0_none _⟩

noncomputable def mdObj (C : Addr) (tmd : Tok) : Obj := { cls := .type "member_descriptor", data := .fields #[.str "obj" tmd, .ref C, .builtin "proto.slot", .builtin "proto.slot#set", .int 0 0] }
section
variable {prog : Program} {w : World} {A : Around} {E : Value → Shared → Prop} {s : Shared} {h : Heap} {tk : Nat}
variable {nm q : Str} {C N md x dx : Addr} {k0 k1 k2 k3 k5 : Option Value} {mN : Str → Option Value} {tmd : Tok}

theorem look_cls {M : Model} {name : Str} {y r : Option Value} (hC : h.get? C = some (kObj nm q C N k0 k1 k2 k3 k5)) (hn : h.Ns N mN) (hy : typeLookup (.type "object") name = pure y) (hr : (mN name).or y = r) :
    Looks M h (typeLookup (.ref C) name) r := by
  intro A Q E s k qq
  (first | (refine Mine.e2_3 (s) ?_; rintro h' g d t os) | (obtain ⟨h', g, d, t, os⟩ := s))
  exact wpAny_typeLookup_exc (k _ _ hC) (hn.keeps k) (by kernel_rfl) hy (by cases e : mN name <;> rw [e] at hr <;> (subst hr; exact qq))
theorem look_type {M : Model} {o : Obj} {a : Addr} {v : Value} (e : h.get? a = some o) (hc : o.cls = v) : Looks M h (typeOf (.ref a)) v := hc ▸ (Looks.ld e).andThen .now
noncomputable def kF (nm q : Str) (C N md : Addr) (k0 k1 k2 k3 k5 : Option Value) (tmd : Tok) : Frag := [(C, kObj nm q C N k0 k1 k2 k3 k5), (md, mdObj C tmd)]
theorem kF_in (hC : h.get? C = some (kObj nm q C N k0 k1 k2 k3 k5)) (hmd : h.get? md = some (mdObj C tmd)) : (kF nm q C N md k0 k1 k2 k3 k5 tmd).In h := by
  intro a o e
  unfold kF at e
  rw [List.lookup_cons] at e
  split at e
  · rename_i q; cases e; rw [eq_of_beq q]; exact hC
  · rw [List.lookup_cons] at e
    split at e
    · rename_i q; cases e; rw [eq_of_beq q]; exact hmd
    · cases e
theorem kF_slot (hne : md ≠ C) : slotIn (kF nm q C N md k0 k1 k2 k3 k5 tmd) md C = some 0 := by
  have h1 : (kF nm q C N md k0 k1 k2 k3 k5 tmd).lookup md = some (mdObj C tmd) := by
    unfold kF
    rw [List.lookup_cons, show (md == C) = false by simpa using hne]
    simp [List.lookup_cons]
  have h2 : (kF nm q C N md k0 k1 k2 k3 k5 tmd).lookup C = some (kObj nm q C N k0 k1 k2 k3 k5) := by
    unfold kF
    simp [List.lookup_cons]
  unfold slotIn recIn clsIn
  rw [h1, h2]
  simp [mdObj, kObj, excClassObj]
theorem takes_md {M : Model} (hmd : h.get? md = some (mdObj C tmd)) : Looks M h (takesStores (.ref md)) true := by
  have L : Looks M h (specialOf (.ref md) "__set__") (some (.builtin "member_descriptor.__set__")) := (look_type hmd rfl).andThen (Looks.of_pure KF.slot_mset.lookup)
  exact L.andThen .now

theorem k_get {expr : Bool} {v : Value} {Q : Value → Shared → Prop} (hC : h.get? C = some (kObj nm q C N k0 k1 k2 k3 k5)) (hn : h.Ns N mN) (hmd : h.get? md = some (mdObj C tmd)) (m1 : mN "obj" = some (.ref md)) (m2 : mN "__getattribute__" = none) (m3 : mN "__getattr__" = none)
    (hx : h.get? x = some (instK C dx #[some v])) (hdx : ∃ od, h.get? dx = some od) (hv : handedIn v = true) (k : ∀ tk', Q v (st s h tk')) : wpAny (model prog w) A (getAttr (.ref x) "obj" expr) Q E (st s h tk) := by
  have L0 : Looks (model prog w) h (typeOf (.ref x)) (.ref C) := look_type hx rfl
  have L1 : Looks (model prog w) h (typeLookup (.ref C) "__getattribute__") (some (.builtin "object.__getattribute__")) := look_cls (y := some (.builtin "object.__getattribute__")) hC hn (by rw [typeLookup_type, builtinLookup_eq_fast]; kernel_rfl) (by rw [m2]; rfl)
  have L2 : Looks (model prog w) h (typeLookup (.ref C) "obj") (some (.ref md)) := look_cls (y := none) hC hn (by rw [typeLookup_type, builtinLookup_eq_fast]; kernel_rfl) (by rw [m1]; rfl)
  have L3 : Looks (model prog w) h (typeLookup (.ref C) "__getattr__") none := look_cls (y := none) hC hn (by rw [typeLookup_type, builtinLookup_eq_fast]; kernel_rfl) (by rw [m3]; rfl)
  (first | (refine Mine.e2_3 (s) ?_; rintro hh g d t os) | (obtain ⟨hh, g, d, t, os⟩ := s))
  simp only [st] at k ⊢
  unfold getAttr getAttrBy
  refine wpAny_bind (wpAny_mkText (wpAny_holding (wpAny_bind (L0.at (wpAny_bind (L1.at ?_))))))
  show wpAny _ _ (getAttrEveryday _ _ _) _ _ _
  refine wpAny_bind (wpAny_onRaise (wpAny_runValue (codeAny_builtin F.plainObj_entry_getattr_hooked ?_)))
  have L4 : Looks (model prog w) h (specialOf (.ref md) "__get__") (some (.builtin "member_descriptor.__get__")) := (look_type hmd rfl).andThen (Looks.of_pure KF.slot_mem.lookup)
  have L5 : Looks (model prog w) h (find (.ref x) (.ref C) "obj") (.bind (.builtin "member_descriptor.__get__") (.ref md)) :=
    L2.andThen (L4.andThen ((show Looks (model prog w) h (dataDescriptor? (some (.ref md)) (some (.builtin "member_descriptor.__get__"))) (some (.builtin "member_descriptor.__get__", .ref md)) from (takes_md hmd).andThen .now).andThen (Looks.tag .now)))
  refine wpAny_bind (wpAny_pure (wpAny_bind (L0.at (wpAny_bind (L5.at (wpAny_bind (L3.at ?_)))))))
  show wpAny _ _ (holding [.ref md] (call (.builtin "member_descriptor.__get__") [.ref md, .ref x, .ref C]) >>= ret) _ _ _
  have hne : md ≠ C := fun e => (by rw [e, hC] at hmd; have := congrArg Obj.data (Option.some.inj hmd); cases this)
  obtain ⟨od, hod⟩ := hdx
  refine wpAny_bind (wpAny_holding (wpAny_call (slot_get (s := ⟨h, g, d, _, os⟩) (kF_in hC hmd) (⟨hx, rfl, rfl, hod⟩ : InstAt h x (instK C dx #[some v]) C (some od)) (kF_slot hne) rfl ?_)))
  refine wpAny_pure ?_
  show wpAny _ _ (handedOut v) _ _ _
  rw [handedOut_of hv]
  exact wpAny_pure (k _)

theorem k_set {v : Value} {Q : Unit → Shared → Prop} {G : Heap} {L : Addr} {m : Str → Option Value} (F : Fm G L m h) (hC : h.get? C = some (kObj nm q C N k0 k1 k2 k3 k5)) (hn : h.Ns N mN) (hmd : h.get? md = some (mdObj C tmd)) (m1 : mN "obj" = some (.ref md)) (m2 : mN "__setattr__" = none)
    (hx : h.get? x = some (instK C dx #[])) (hdx : ∃ od, h.get? dx = some od) (k : ∀ h' tk', h'.Ns L m → h'.get? x = some (instK C dx #[some v]) → (∀ b o, b ≠ x → b ≠ L → h.get? b = some o → h'.get? b = some o) → Q () (st s h' tk')) : wpAny (model prog w) A (setAttr (.ref x) "obj" v) Q E (st s h tk) := by
  have SF := PySem.F.store_object
  have L0 : Looks (model prog w) h (typeOf (.ref x)) (.ref C) := look_type hx rfl
  have L1 : Looks (model prog w) h (typeLookup (.ref C) "__setattr__") (some (.builtin "object.__setattr__")) := look_cls (y := some (.builtin "object.__setattr__")) hC hn (by rw [typeLookup_type, builtinLookup_eq_fast]; kernel_rfl) (by rw [m2]; rfl)
  have L2 : Looks (model prog w) h (typeLookup (.ref C) "obj") (some (.ref md)) := look_cls (y := none) hC hn (by rw [typeLookup_type, builtinLookup_eq_fast]; kernel_rfl) (by rw [m1]; rfl)
  (first | (refine Mine.e2_3 (s) ?_; rintro hh g d t os) | (obtain ⟨hh, g, d, t, os⟩ := s))
  simp only [st] at k ⊢
  refine wpAny_bind (wpAny_mkText (wpAny_bind (wpAny_bind (wpAny_bind (L0.at (L1.at (wpAny_holding ?_)))))))
  rw [PySem.F.store_object.slot.bind]
  have hne : md ≠ C := fun e => (by rw [e, hC] at hmd; have := congrArg Obj.data (Option.some.inj hmd); cases this)
  have XF := kF_in hC hmd
  have hcl : clsIn (kF nm q C N md k0 k1 k2 k3 k5 tmd) C = some { name := nm, bases := [.type "object"], mro := [.ref C, .type "object"], ns := N, qualname := q, hasDict := false, slotNames := ["obj"] } := by
    unfold clsIn kF
    simp [List.lookup_cons]
  have hm : Looks (model prog w) h (mroOf (.ref C)) [.ref C, .type "object"] := (looks_clsIn XF hcl).andThen .now
  have sub : Looks (model prog w) h (isInstance (.ref x) (.type "object")) true := L0.andThen (looks_mroIn XF (by unfold mroIn; rw [hcl]; simp))
  have L3 : Looks (model prog w) h (storeTaker? (some (.ref md))) (some (.ref md)) := (takes_md hmd).andThen .now
  refine wpAny_bind (wpAny_pure (wpAny_bind (wpAny_call ?_)))
  refine codeAny_call_builtin SF.slot.plain SF.entry (@check_slot (model prog w) _ _ ⟨h, g, d, _, os⟩ "object.__setattr__" "object" "__setattr__" (.ref x) [.str "obj" tk, v] [] _ SF.kind SF.split sub (SF.args (.ref x) (.str "obj" tk) v) ?_)
  show wpAny _ _ (Builtin.«object.__setattr__» ⟨[.ref x, .str "obj" tk, v], []⟩) _ _ _
  rw [osa_eq, refuse_eq]
  refine wpAny_bind (wpAny_bind (L0.at (wpAny_bind (hm.at ?_))))
  rw [refuse_only _ rfl]
  refine wpAny_pure (wpAny_bind (L0.at (wpAny_bind (L2.at (wpAny_bind (L3.at ?_))))))
  have LT : Looks (model prog w) h (typeOf (.ref md)) (.type "member_descriptor") := look_type hmd rfl
  refine wpAny_bind (wpAny_rule (wpAny_bind (wpAny_holding (wpAny_bind (wpAny_bind (LT.at ((Looks.of_pure KF.slot_mset.lookup).at (wpAny_holding ?_))))))))
  rw [KF.slot_mset.bind]
  obtain ⟨od, hod⟩ := hdx
  have hxL : x ≠ L := fun e => (by obtain ⟨o, es, ep, e', hd, _⟩ := F.ns; rw [e, e'] at hx; have := congrArg Obj.data (Option.some.inj hx); rw [hd] at this; cases this)
  (first | (refine Mine.e2_3 (allN_split hx hxL) ?_; rintro pre post hsp p1 p2) | (obtain ⟨pre, post, hsp, p1, p2⟩ := allN_split hx hxL))
  have N0 := news0 h L
  rw [hsp] at N0
  refine wpAny_bind (wpAny_pure (wpAny_bind (wpAny_call (slot_set (s := ⟨h, g, d, _, os⟩) (ox' := instK C dx #[some v]) (fr0 F.ns) N0 XF (⟨hx, rfl, rfl, hod⟩ : InstAt h x (instK C dx #[]) C (some od)) (kF_slot hne) (by decide) p1 p2 rfl rfl fun h' F' N' => ?_))))
  refine wpAny_pure (wpAny_pure ?_)
  show wpAny _ _ (pure (some Value.none)) _ _ _
  refine wpAny_pure (wpAny_pure ?_)
  refine k h' _ F'.ns (N' (x, instK C dx #[some v]) (by simp)).1 fun b o nx nL e => ?_
  have hb : (b, o) ∈ pre ++ (x, instK C dx #[]) :: post := hsp ▸ mem_allN.mpr ⟨e, nL⟩
  rw [List.mem_append, List.mem_cons] at hb
  rcases hb with hb | hb | hb
  · exact (N' (b, o) (by simp [hb])).1
  · cases hb; exact absurd rfl nx
  · exact (N' (b, o) (by simp [hb])).1
end
end Mine
end
section
open PySem PySem.W PySem.Calls PyProof.Rows
set_option Elab.async false
set_option maxRecDepth 100000
namespace Mine

section
variable {prog : Program} {w : World} {A : Around} {E : Value → Shared → Prop} {s : Shared} {h : Heap} {tk : Nat} {mg mb : Str → Option Value} {Q : Value → Shared → Prop}
theorem r_iterB {x : Value} {S : Shared} (k : wpAny (model prog w) A.in1 (pyIter x) Q E S) : wpAny (model prog w) A (call (.builtin "iter") [x]) Q E S := by
  refine call_function_entry (by decide +kernel) (by decide +kernel) kdk_entry_iter (kdk_args_iter _) ?_
  unfold Builtin.«iter»
  refine wpAny_bind (m := someArgs "iter" 1 2 _) (wpAny_of_eq (a := [x]) (by first | rfl | kernel_rfl!) ?_)
  show wpAny _ _ (pyIter x >>= _) _ _ _
  exact wpAny_bind (wpAny_mono k (fun v s' q => wpAny_pure ⟨_, rfl, q⟩) fun _ _ e => e)
theorem r_isRef {x y : Addr} {ox oy : Obj} (hne : x ≠ y) (hx : h.get? x = some ox) (hy : h.get? y = some oy) (hc : oy.cls = .type "object") (k : Q (.bool false) (st s h tk)) : wpAny (model prog w) A (compareOp .Is (.ref x) (.ref y)) Q E (st s h tk) := by
  show wpAny _ A (do return .bool (← isSame (.ref x) (.ref y))) Q E _
  refine wpAny_bind ?_
  unfold isSame
  show wpAny _ A (if (x == y) = true then _ else _) _ _ _
  rw [if_neg (by simpa using hne)]
  refine wpAny_bind (wpAny_load (s := st s h tk) hx (wpAny_bind (wpAny_load (s := st s h tk) hy ?_)))
  rw [hc]
  refine wpAny_of_eq (a := false) ?_ (wpAny_pure k)
  split
  · rename_i e _ _; simp at e
  · rfl

structure Seq (prog : Program) (w : World) (s : Shared) (h : Heap) (seq : Value) (base : List Addr) (n : Nat) (P : Nat → Value → Prop) : Prop where
  it : ∀ (A' : Around) h₁ tk Q E, Stay h h₁ → (∀ I fp wr St h₂ tk₂, Stay h₁ h₂ → (∀ A₂ : Around, A₂.handled = none → Walks prog w A₂ I fp wr n P St) → (∀ b ∈ wr, h₁.get? b = none) → (∀ b ∈ fp, b ∈ wr ∨ b ∈ base) → (∀ i h, St i h → ∀ b ∈ wr, ∃ o, h.get? b = some o) → St 0 h₂ → Q (.ref I) (st s h₂ tk₂)) →
    wpAny (model prog w) A' (pyIter seq) Q E (st s h₁ tk)
theorem Seq.list {l : Addr} {vs : Array Value} (hl : h.IsList l vs) : Seq prog w s h (.ref l) [l] vs.size (fun i v => vs[i]? = some v) := by
  constructor
  intro A' h₁ tk Q E S₁ k
  refine r_iterL (isLst_stay hl S₁) fun I h₂ fI hI S₂ hl₂ hne => ?_
  refine k I [I, l] [I] (fun i h => h.IsListIter I l i ∧ h.IsList l vs) h₂ tk S₂ (fun A₂ hA₂ => Walks.list hA₂ I l hne vs) (by simpa using fI) ?_ (fun i h q b hb => by simp at hb; subst hb; obtain ⟨o, e, _⟩ := q.1; exact ⟨o, e⟩) ⟨hI, hl₂⟩
  intro b hb
  simp at hb
  rcases hb with rfl | rfl
  · simp
  · simp

theorem Seq.range {r : Addr} {n : Nat} {a : Int} {t u v : Tok} (hr : IsRange h r a (a + n) 1 t u v) (hs : Builtin.Range.small a (a + n) 1 = true) : Seq prog w s h (.ref r) [] n (fun i v => ∃ t, v = .int (a + i * 1) t) := by
  constructor
  intro A' h₁ tk Q E S₁ k
  refine wpAny_pyIter_range (s := st s h₁ tk) (S₁ _ _ hr) hs ?_
  refine k h₁.objs.size [h₁.objs.size] [h₁.objs.size] _ _ tk (fun b o e => Heap.get?_push_of_some _ e) (fun A₂ hA₂ => Walks.range hA₂ h₁.objs.size a 1 n) (by simpa using Heap.get?_none_of_le (Nat.le_refl _)) (fun b hb => .inl hb) (fun i h q b hb => by simp at hb; subst hb; exact ⟨_, q⟩) ?_
  show Heap.get? _ _ = _
  rw [rangeSize_one]
  have e1 : (if a < a + (n : Int) then a + (n : Int) - a else 0) = (n : Int) - ((0 : Nat) : Int) := by split <;> (first | lia | omega)
  rw [e1]
  have e2 : a + ((0 : Nat) : Int) * 1 = a := by simp
  rw [e2]
  exact Heap.get?_push_size _ rfl

set_option maxHeartbeats 4000000 in
theorem c_reduce {f : Addr} {seq init : Value} {n : Nat} {P : Nat → Value → Prop} {Acc : Nat → Value → Heap → Prop} {of : Obj} {fd : FuncData} {o87 : Obj}
    (R : Rm 3 A) (B : Bas mg mb h) (X : FnAt h 64 63 9 (.ref 57)) (h87 : h.get? 57 = some o87) (hd87 : o87.data = .seq #[.ref 56]) (hI : mg "_initial_missing" = some (.ref 56)) (hit : mg "iter" = none)
    (hinit : ∀ (A' : Around) h' tk Q E, Stay h h' → Q (.bool false) (st s h' tk) → wpAny (model prog w) A' (compareOp .Is init (.ref 56)) Q E (st s h' tk))
    {base : List Addr} (hseq : Seq prog w s h seq base n P) (hbase : ∀ b ∈ base, ∃ o, h.get? b = some o) (hf : h.get? f = some of) (hfd : of.data = .func fd)
    (hmono : ∀ i v h h', Acc i v h → Stay h h' → Acc i v h') 
    (step : ∀ (A' : Around) i a v h' Z, Rm 2 A' → Stay h h' → (∀ z ∈ Z, ∃ o, h'.get? z = some o) → i < n → P i v → Acc i a (hideAll h' Z) → Gives prog w A' (call (.ref f) [a, v]) s h' (fun b h'' => Acc (i + 1) b (hideAll h'' Z)))
    {Z₀ : List Addr} (hZ₀ : ∀ z ∈ Z₀, ∃ o, h.get? z = some o) (h0 : Acc 0 init (hideAll h Z₀)) :
    Gives prog w A (call (.ref 64) [.ref f, seq, init]) s h (fun b h' => Acc n b (hideAll h' Z₀)) := by
  refine gives_def (binds := [("function", .ref f), ("sequence", seq), ("initial", init)]) (R.less (by decide)) B X (fun pm tk => BindsTo.of_defaults rfl (o := o87) h87 hd87 rfl rfl) (by decide +kernel) (by rfl) fun pm L h₀ tk htk F => ?_
  have R' : Rm 2 (A.deeper (callEnv (fnD 9 63 pm (.ref 57)) L 64)) := R.deeper
  generalize hA' : A.deeper (callEnv (fnD 9 63 pm (.ref 57)) L 64) = A' at *
  have B₀ := B.stay F.keep
  refine r_assign ?_
  (with_reducible refine r_call ?_)
  refine nmB B₀ hit rfl ?_
  refine r_cwB (r_sp1 ?_)
  (((with_reducible show wpAny _ _ (eval (Expr.Name _ _) _) _ _ _); refine nmL (by assumption) (by first | rfl | assumption) ?_))
  refine r_sp0 (r_iterB ?_)
  refine hseq.it _ _ _ _ _ F.keep fun I fp wr St h₂ tk₂ S₂ W hwr hfp hlive hst => ?_
  have F₂ := F.stay S₂
  have hfL : L ∉ fp := fun q => by
    rcases hfp L q with q | q
    · have := hwr L q; obtain ⟨o, es, ep, e, _⟩ := F.ns; rw [this] at e; cases e
    · obtain ⟨o, e⟩ := hbase _ q; rw [F.fresh] at e; cases e
  have hwG : ∀ b ∈ wr, h.get? b = none := fun b hb => by
    cases e : h.get? b with
    | none => rfl
    | some o => have := F.keep _ _ e; rw [hwr b hb] at this; cases this
  refine stL F₂ fun h₃ tk₃ F₃ O₃ => ?_
  have hst₃ : St 0 h₃ := (W A' R'.hd).frame _ _ _ hst fun b hb o e => O₃ b o (fun q => hfL (q ▸ hb)) e
  refine r_if ?_
  (((with_reducible refine wpAny_isTrue_Compare1 ?_ ?mk); (case mk => with_unfolding_all rfl)))
  (((with_reducible show wpAny _ _ (eval (Expr.Name _ _) _) _ _ _); refine nmL (by assumption) (by first | rfl | assumption) ?_))
  refine nmG (B.stay F₃.keep) hI ?_
  refine hinit _ _ _ _ _ F₃.keep ?_
  (with_reducible refine wpAny_truthy_bool ?_)
  rw [if_neg (by simp)]
  refine r_assign ?_
  (((with_reducible show wpAny _ _ (eval (Expr.Name _ _) _) _ _ _); refine nmL (by assumption) (by first | rfl | assumption) ?_))
  refine stL F₃ fun h₄ tk₄ F₄ O₄ => ?_
  have hst₄ : St 0 h₄ := (W A' R'.hd).frame _ _ _ hst₃ fun b hb o e => O₄ b o (fun q => hfL (q ▸ hb)) e
  refine r_nil (then_next ?_)
  refine r_for ?_
  (((with_reducible show wpAny _ _ (eval (Expr.Name _ _) _) _ _ _); refine nmL (by assumption) (by first | rfl | assumption) ?_))
  refine (W A' R'.hd).self 0 _ _ _ hst₄ ?_
  refine ⟨fun h' => ∃ m' v, Fm h L m' h' ∧ m' "value" = some v ∧ Acc n v (hideAll h' Z₀), fun _ _ => False, ?_, ?_, fun _ _ _ f => f.elim⟩
  · refine r_loop (turns_name (W A' R'.hd))
      (fun j h' => ∃ m' v, Fm h L m' h' ∧ m' "value" = some v ∧ m' "function" = some (.ref f) ∧ Acc j v (hideAll h' (L :: (wr ++ Z₀)))) _ _ ?hJ ?turn ?fin hst₄ ⟨_, init, F₄, rfl, rfl, ?_⟩
    case hJ =>
      (rintro j h₅ h₆ hcj; (first | (refine Mine.e2_4 hcj ?_; clear hcj; rintro m' v F' a1 a2 a3 hk) | (obtain ⟨m', v, F', a1, a2, a3⟩ := hcj; rintro hk)))
      have hLw : L ∉ wr := fun q => hfL ((W A' R'.hd).sub _ q)
      refine ⟨m', v, ⟨F'.ns.at' fun o e => hk _ o hLw e, fun b o e => hk b o (fun q => by rw [hwG b q] at e; cases e) (F'.keep b o e), F'.fresh⟩, a1, a2, hmono _ _ _ _ a3 fun b o e => ?_⟩
      have hb : b ∉ L :: (wr ++ Z₀) := fun q => by rw [hideAll_none _ q] at e; cases e
      exact hideAll_get _ (hk _ _ (fun q => hb (List.mem_cons_of_mem _ (List.mem_append_left _ q))) (of_hideAll _ e)) hb
    case fin =>
      (rintro h₅ tk₅ hcj; (first | (refine Mine.e2_4 hcj ?_; clear hcj; rintro m' v F' a1 a2 a3) | (obtain ⟨m', v, F', a1, a2, a3⟩ := hcj)))
      exact r_nil ⟨_, _, rfl, m', v, F', a1, hmono _ _ _ _ a3 fun b o e => hideAll_get _ (of_hideAll _ e) fun q => by rw [hideAll_none _ (List.mem_cons_of_mem _ (List.mem_append_right _ q))] at e; cases e⟩
    case turn =>
      (rintro j v h₅ tk₅ hj hP hst₅ hcj; (first | (refine Mine.e2_4 hcj ?_; clear hcj; rintro m' a F' a1 a2 a3) | (obtain ⟨m', a, F', a1, a2, a3⟩ := hcj)))
      refine r_name F' fun h₆ tk₆ F₆ O₆ => ?_
      refine r_assign ?_
      (with_reducible refine r_call ?_)
      refine nmL F₆ a2 ?_
      refine r_cwF hfd (r_sp1 ?_)
      refine nmL F₆ a1 ?_
      refine r_sp1 ?_
      (((with_reducible show wpAny _ _ (eval (Expr.Name _ _) _) _ _ _); refine nmL (by assumption) (by first | rfl | assumption) ?_))
      refine r_sp0 ⟨F₆.keep _ _ hf, ?_⟩
      have key : Acc j a (hideAll h₆ (L :: (wr ++ Z₀))) := hmono _ _ _ _ a3 fun b o e => by
        have hb : b ∉ L :: (wr ++ Z₀) := fun q => by rw [hideAll_none _ q] at e; cases e
        exact hideAll_get _ (O₆ _ _ (fun q => hb (q ▸ List.mem_cons_self)) (of_hideAll _ e)) hb
      refine step A' j a v h₆ (L :: (wr ++ Z₀)) R' F₆.keep ?_ hj hP key _ _ _ fun b h₇ tk₇ S₇ hb => ?_
      · intro z hz
        rcases List.mem_cons.mp hz with rfl | hz
        · (first | (refine Mine.e2_3 (F₆.ns) ?_; rintro o es ep e _) | (refine Mine.e3_2 (F₆.ns) ?_; rintro o es ep e _) | (obtain ⟨o, es, ep, e, _⟩ := F₆.ns)); exact ⟨o, e⟩
        · rcases List.mem_append.mp hz with hz | hz
          · exact hlive _ _ ((W A' R'.hd).frame _ _ _ hst₅ fun b hb o e => O₆ b o (fun q => hfL (q ▸ hb)) e) z hz
          · obtain ⟨o, e⟩ := hZ₀ z hz; exact ⟨o, F₆.keep _ _ e⟩
      refine stL (F₆.stay S₇) fun h₈ tk₈ F₈ O₈ => ?_
      refine r_nil ⟨h₈, tk₈, rfl, ?_, _, b, F₈, rfl, a2, hmono _ _ _ _ hb fun b o e => ?_⟩
      · intro b hb o e
        have hbL : b ≠ L := fun q => hfL (q ▸ hb)
        exact O₈ _ _ hbL (S₇ _ _ (O₆ _ _ hbL e))
      · have hb : b ∉ L :: (wr ++ Z₀) := fun q => by rw [hideAll_none _ q] at e; cases e
        exact hideAll_get _ (O₈ _ _ (fun q => hb (q ▸ List.mem_cons_self)) (of_hideAll _ e)) hb
    · refine hmono _ _ _ _ h0 fun b o e => hideAll_get _ (F₄.keep _ _ (of_hideAll _ e)) fun q => ?_
      have e' := of_hideAll _ e
      rcases List.mem_cons.mp q with rfl | q
      · rw [F.fresh] at e'; cases e'
      · rcases List.mem_append.mp q with q | q
        · rw [hwG b q] at e'; cases e'
        · rw [hideAll_none _ q] at e; cases e
  · (rintro h₅ tk₅ hcj; (first | (refine Mine.e2_3 hcj ?_; clear hcj; rintro m' v F' a1 a3) | (refine Mine.e3_2 hcj ?_; clear hcj; rintro m' v F' a1 a3) | (obtain ⟨m', v, F', a1, a3⟩ := hcj)))
    refine r_ret ?_
    refine nmL F' a1 ?_
    exact ⟨_, _, rfl, F'.keep, a3⟩
end
end Mine
end
section
open PySem PySem.W PySem.Calls PyProof.Rows
set_option Elab.async false
set_option maxRecDepth 100000
set_option linter.unusedVariables false
namespace Mine

noncomputable def Gd (X : List Addr) (G h : Heap) : Prop := Stay G h ∧ ∀ z ∈ X, G.get? z = none
section
variable {X Y : List Addr} {G h h' : Heap}
theorem Gd.stay (x : Gd X G h) (S : Stay h h') : Gd X G h' := ⟨x.1.trans S, x.2⟩
theorem Gd.off (x : Gd X G h) (O : OffL X h h') : Gd X G h' := ⟨fun b o e => O b o (fun q => by rw [x.2 b q] at e; cases e) (x.1 b o e), x.2⟩
theorem Gd.sub (x : Gd X G h) (hs : ∀ z ∈ Y, z ∈ X) : Gd Y G h := ⟨x.1, fun z hz => x.2 z (hs z hz)⟩
theorem Gd.new (X : List Addr) (h : Heap) : Gd X (hideAll h X) h := ⟨fun b o e => of_hideAll _ e, fun z hz => hideAll_none _ hz⟩
end

noncomputable def asg : Stmt → Expr
  | .Assign _ v _ => v
  | .Return (some v) _ => v
  | _ => default
noncomputable def argE (n : Nat) : Expr → Expr
  | .Call _ args _ _ => args.getD n default
  | _ => default
noncomputable def lamP : Expr → Arguments | .Lambda p _ _ _ => p | _ => default
noncomputable def lamB : Expr → Expr | .Lambda _ b _ _ => b | _ => default
noncomputable def lamS : Expr → Scope | .Lambda _ _ s _ => s | _ => default
noncomputable def lamQ : Expr → Pos | .Lambda _ _ _ p => p | _ => default
noncomputable abbrev lawLam : Str := "law.<locals>.<lambda>"
noncomputable def LamAt (h : Heap) (f : Addr) (e : Expr) (clos : List (Str × Addr)) : Prop := ∃ pm c ctv, h.get? f = some (kla_obj "<lambda>" lawLam (lamP e) (lamB e) (lamS e) clos pm c ctv) ∧ h.CodeRec (.ref c) lawLam
theorem LamAt.stay {h h' : Heap} {f : Addr} {e : Expr} {clos : List (Str × Addr)} (x : LamAt h f e clos) (S : Stay h h') : LamAt h' f e clos := let ⟨pm, c, ctv, a, b⟩ := x; ⟨pm, c, ctv, S _ _ a, b.keeps S⟩

noncomputable def RowI (G : Heap) (v : Value) (row : List Int) : Prop := ∃ a us, v = .ref a ∧ G.PlainList a (List.toArray us) ∧ IntsAre us row
noncomputable def RowsI (G : Heap) (v : Value) (rows : List (List Int)) : Prop := ∃ a us, v = .ref a ∧ G.PlainList a (List.toArray us) ∧ Paired (RowI G) us rows
theorem RowI.stay {G G' : Heap} {v : Value} {row : List Int} (x : RowI G v row) (S : Stay G G') : RowI G' v row := let ⟨a, us, e, p, i⟩ := x; ⟨a, us, e, plain_stay p S, i⟩
theorem RowsI.stay {G G' : Heap} {v : Value} {rows : List (List Int)} (x : RowsI G v rows) (S : Stay G G') : RowsI G' v rows := let ⟨a, us, e, p, i⟩ := x; ⟨a, us, e, plain_stay p S, paired_imp (fun _ _ q => q.stay S) i⟩

end Mine
end
section
open PySem PySem.W PySem.Calls PyProof.Rows
set_option Elab.async false
set_option maxRecDepth 100000
set_option linter.unusedVariables false
namespace Mine

noncomputable def kwE (n : Nat) : Expr → Expr
  | .Call _ _ kws _ => (kws.map (·.value)).getD n default
  | _ => default
noncomputable def compE : Expr → Expr
  | .ListComp e _ _ _ => e
  | _ => default
noncomputable def rightE : Expr → Expr
  | .BoolOp _ vs _ => vs.getD 1 default
  | _ => default
noncomputable def cmpR : Expr → Expr
  | .Compare _ _ rs _ => rs.getD 0 default
  | _ => default

noncomputable def StrsAt (h : Heap) (v : Value) (xs : List Str) : Prop := ∃ a us, v = .ref a ∧ h.PlainList a (List.toArray us) ∧ StrsAre us xs
theorem StrsAt.stay {G G' : Heap} {v : Value} {xs : List Str} (x : StrsAt G v xs) (S : Stay G G') : StrsAt G' v xs := let ⟨a, us, e, p, i⟩ := x; ⟨a, us, e, plain_stay p S, i⟩
end Mine
end
section
open PySem PySem.W PySem.Calls PyProof.Rows
set_option Elab.async false
set_option maxRecDepth 100000
set_option linter.unusedVariables false
namespace Mine

noncomputable def KInst (h : Heap) (x C : Addr) (v : Value) : Prop := ∃ dx od, h.get? x = some (instK C dx #[some v]) ∧ h.get? dx = some od
theorem KInst.stay {h h' : Heap} {x C : Addr} {v : Value} (i : KInst h x C v) (S : Stay h h') : KInst h' x C v := let ⟨dx, od, a, b⟩ := i; ⟨dx, od, S _ _ a, S _ _ b⟩

section
variable {prog : Program} {w : World} {A : Around} {E : Value → Shared → Prop} {s : Shared} {h : Heap} {tk : Nat} {mg mb : Str → Option Value}
theorem tc_weight (C : Addr) (r : List Value) : (Code.builtin "type.__call__" ⟨.ref C :: r, []⟩).weight = 1 := by kernel_rfl
theorem tc_units (C : Addr) (r : List Value) : (Code.builtin "type.__call__" ⟨.ref C :: r, []⟩).cUnits = 1 := by kernel_rfl
theorem rm_tc {k : Nat} {C : Addr} {r : List Value} (R : Rm (k + 1) A) : Rm k (A.under (.builtin "type.__call__" ⟨.ref C :: r, []⟩)) :=
  ⟨R.hd, by have := R.dp; show A.depth + (Code.builtin "type.__call__" ⟨.ref C :: r, []⟩).weight + k < _; rw [tc_weight]; (first | lia | omega), by have := R.un; show A.units + (Code.builtin "type.__call__" ⟨.ref C :: r, []⟩).cUnits + 20 * k < _; rw [tc_units]; (first | lia | omega)⟩
theorem kdef_cell (i : Nat) (hi : i ∈ [2, 3]) : ∀ x ∈ (dScope (kDef i)).names, x.2 ≠ .cell := by
  simp at hi
  rcases hi with rfl | rfl <;> decide
set_option maxHeartbeats 2000000 in
theorem c_knew {C cc : Addr} {nm v : Value} (R : Rm 2 A) (B : Bas mg mb h) (K : KCls h C cc nm) : 
    Gives prog w A (call (.ref C) [v]) s h (fun b h' => ∃ x, b = .ref x ∧ ∀ Z, (∀ z ∈ Z, ∃ o, h.get? z = some o) → KInst (hideAll h' Z) x C v) := by
  obtain ⟨N, k0, k2, k3, md, tmd, v0, t1, t2, um, sl, f1, c1, u1, d1, f2, c2, u2, d2, f3, f4, f5, f6, sa, a1, a2, a3, a4, a5, a6, a7⟩ := K.ex
  intro tk Q E k
  obtain ⟨h0, g, d, t, os⟩ := s
  simp only [st] at k ⊢
  refine ko_call a1 a2 rfl a4 rfl fun h₁ x dx fx fdx S₁ hx hdx => ?_
  have R1 : Rm 1 (A.under (.builtin "type.__call__" ⟨.ref C :: [v], []⟩)) := rm_tc R
  generalize A.under (.builtin "type.__call__" ⟨.ref C :: [v], []⟩) = A₁ at *
  have B₁ := B.stay S₁
  have nxd : dx ≠ x := fun e => (by rw [e, hx] at hdx; have := congrArg Obj.cls (Option.some.inj hdx); cases this)
  refine wpAny_call (codeAny_call_def (s := ⟨h₁, g, d, tk, os⟩) (binds := [("self", .ref x), ("obj", v)]) R1.room (S₁ _ _ a4) rfl B₁.lim (a5.keeps S₁) rfl (BindsTo.of_eq rfl) (kdef_cell 2 (by simp)) (by intro y hy; simp at hy; rcases hy with rfl | rfl <;> rfl) (fun h₂ hns S₂ => ?_))
  have S₂ : Stay h₁ h₂ := S₂
  have F₂ : Fm h₁ h₁.objs.size _ h₂ := ⟨hns, S₂, Heap.get?_none_of_le (Nat.le_refl _)⟩
  show wpAny _ _ (execs (dBody (kDef 2)) (callEnv (fnX _ _ _ _ _ _ _ _ _ _ _ _ _) h₁.objs.size f1)) _ _ (st ⟨h₁, g, d, tk, os⟩ h₂ _)
  refine wpAny_execs_cons (plainObj_wpAny_Assign_Attribute ?_)
  refine nmL F₂ rfl ?_
  refine nmL F₂ rfl ?_
  have S₁₂ := S₁.trans S₂
  refine k_set (dx := dx) F₂ (S₁₂ _ _ a1) (a2.keeps S₁₂) (S₁₂ _ _ a3) rfl rfl (S₂ _ _ hx) ⟨_, S₂ _ _ hdx⟩ fun h₃ tk₃ hns₃ hx₃ O₃ => ?_
  show wpAny _ _ (execs [] _) _ _ _
  refine r_nil ⟨rfl, ?_⟩
  have fL : h₁.get? h₁.objs.size = none := Heap.get?_none_of_le (Nat.le_refl _)
  have nh : ∀ b o, h₁.get? b = some o → b ≠ h₁.objs.size := fun b o e q => by rw [q, fL] at e; cases e
  refine k _ h₃ tk₃ (fun b o e => O₃ _ _ (fun q => ?_) (nh _ _ (S₁ _ _ e)) (S₁₂ _ _ e)) ⟨x, rfl, fun Z hZ => ⟨dx, _, hideAll_get _ hx₃ fun z => ?_, hideAll_get _ (O₃ _ _ nxd (nh _ _ hdx) (S₂ _ _ hdx)) fun z => ?_⟩⟩
  · rw [q, fx] at e; cases e
  · obtain ⟨o, e⟩ := hZ _ z; rw [fx] at e; cases e
  · obtain ⟨o, e⟩ := hZ _ z; rw [fdx] at e; cases e
end
end Mine
end
section
open PySem PySem.W PySem.Calls PyProof.Rows
set_option Elab.async false
set_option maxRecDepth 100000
set_option linter.unusedVariables false
namespace Mine

noncomputable def wpT {α : Type} (lt : Nat → Nat → Bool) (n : Nat) : KasT α → (α → Prop) → Prop
  | .ret a, Q => Q a
  | .ask i j k, Q => i < n ∧ j < n ∧ wpT lt n (k (lt i j)) Q
theorem wpT_bind {α β : Type} {lt : Nat → Nat → Bool} {n : Nat} {f : α → KasT β} {Q : β → Prop} : ∀ (t : KasT α), wpT lt n t (fun a => wpT lt n (f a) Q) → wpT lt n (t.bind f) Q
  | .ret _, h => h
  | .ask i j k, h => ⟨h.1, h.2.1, wpT_bind (k (lt i j)) h.2.2⟩
theorem wpT_mono {α : Type} {lt : Nat → Nat → Bool} {n : Nat} {Q Q' : α → Prop} (hq : ∀ a, Q a → Q' a) : ∀ (t : KasT α), wpT lt n t Q → wpT lt n t Q'
  | .ret _, h => hq _ h
  | .ask i j k, h => ⟨h.1, h.2.1, wpT_mono hq (k (lt i j)) h.2.2⟩
noncomputable def goT {α : Type} (lt : Nat → Nat → Bool) : KasT α → α
  | .ret a => a
  | .ask i j k => goT lt (k (lt i j))
theorem wpT_go {α : Type} {lt : Nat → Nat → Bool} {n : Nat} {Q : α → Prop} : ∀ (t : KasT α), wpT lt n t Q → Q (goT lt t)
  | .ret _, h => h
  | .ask i j k, h => wpT_go (k (lt i j)) h.2.2
theorem wpT_eq {α : Type} {lt : Nat → Nat → Bool} {n : Nat} {Q : α → Prop} : ∀ (t : KasT α), wpT lt n t Q → wpT lt n t (fun a => a = goT lt t)
  | .ret _, h => rfl
  | .ask i j k, h => ⟨h.1, h.2.1, wpT_eq (k (lt i j)) h.2.2⟩

theorem kasWp_of {α : Type} {lt : Nat → Nat → Bool} {n : Nat} {cmp : Nat → Nat → (Bool → Shared → Prop) → Shared → Prop} {Inv : Shared → Prop} {Q : α → Shared → Prop}
    (hc : ∀ i j C s, i < n → j < n → Inv s → (∀ s', Inv s' → C (lt i j) s') → cmp i j C s) : ∀ (t : KasT α) (P : α → Prop), wpT lt n t P → (∀ a s, P a → Inv s → Q a s) → ∀ s, Inv s → t.kasWp cmp Q s
  | .ret a, P, h, hQ, s, hs => hQ a s h hs
  | .ask i j k, P, h, hQ, s, hs => hc i j _ s h.1 h.2.1 hs fun s' hs' => kasWp_of hc (k (lt i j)) P h.2.2 hQ s' hs'

structure Ord (lt : Nat → Nat → Bool) : Prop where
  asym : ∀ i j, lt i j = true → lt j i = false
  tr : ∀ i j k, lt j i = false → lt k j = false → lt k i = false
theorem Ord.irr {lt : Nat → Nat → Bool} (O : Ord lt) (i : Nat) : lt i i = false := by
  cases h : lt i i with
  | false => rfl
  | true => rw [O.asym i i h] at h; cases h

noncomputable abbrev at_ (p : Array Nat) (i : Nat) : Nat := p.getD i 0
noncomputable def IsP (n : Nat) (p : Array Nat) : Prop := p.Perm (List.toArray (List.range n))
theorem IsP.size {n : Nat} {p : Array Nat} (h : IsP n p) : p.size = n := by have := h.size_eq; simpa using this
theorem IsP.lt {n : Nat} {p : Array Nat} (h : IsP n p) (i : Nat) (hi : i < n) : at_ p i < n := by
  have hs := h.size
  have : p[i]'(by (first | lia | omega)) ∈ p := Array.getElem_mem _
  have := (Array.Perm.mem_iff h).mp this
  simp at this
  unfold at_
  rw [Array.getD, dif_pos (by (first | lia | omega))]
  exact this
theorem at_eq {p : Array Nat} {i : Nat} : at_ p i = p[i]?.getD 0 := by simp [at_]
noncomputable def Up (lt : Nat → Nat → Bool) (p : Array Nat) (n : Nat) : Prop := ∀ a b, a < b → b < n → lt (at_ p b) (at_ p a) = false
noncomputable def Dn (lt : Nat → Nat → Bool) (p : Array Nat) (n : Nat) : Prop := ∀ a b, a < b → b < n → lt (at_ p a) (at_ p b) = false

section
variable {lt : Nat → Nat → Bool} {N : Nat}

theorem Up.succ (O : Ord lt) {p : Array Nat} {n : Nat} (h : Up lt p n) (h1 : 1 ≤ n) (hc : lt (at_ p n) (at_ p (n - 1)) = false) : Up lt p (n + 1) := by
  intro a b hab hb
  rcases Nat.lt_or_ge b n with hb' | hb'
  · exact h a b hab hb'
  · have : b = n := by (first | lia | omega)
    subst this
    rcases Nat.lt_or_ge a (b - 1) with ha | ha
    · exact O.tr _ _ _ (h a (b - 1) ha (by (first | lia | omega))) hc
    · have : a = b - 1 := by (first | lia | omega)
      subst this; exact hc
theorem Dn.succ (O : Ord lt) {p : Array Nat} {n : Nat} (h : Dn lt p n) (h1 : 1 ≤ n) (hc : lt (at_ p (n - 1)) (at_ p n) = false) : Dn lt p (n + 1) := by
  intro a b hab hb
  rcases Nat.lt_or_ge b n with hb' | hb'
  · exact h a b hab hb'
  · have : b = n := by (first | lia | omega)
    subst this
    rcases Nat.lt_or_ge a (b - 1) with ha | ha
    · exact O.tr _ _ _ hc (h a (b - 1) ha (by (first | lia | omega)))
    · have : a = b - 1 := by (first | lia | omega)
      subst this; exact hc

theorem t_asc (O : Ord lt) {p : Array Nat} (hp : IsP N p) : ∀ (f n : Nat), 1 ≤ n → n + f ≤ N → Up lt p n → wpT lt N (kas_asc p f n) (fun m => n ≤ m ∧ m ≤ n + f ∧ Up lt p m ∧ (m = n + f ∨ lt (at_ p m) (at_ p (m - 1)) = true))
  | 0, n, h1, hn, hu => ⟨Nat.le_refl _, Nat.le_refl _, hu, .inl rfl⟩
  | f + 1, n, h1, hn, hu => by
    refine ⟨hp.lt _ (by (first | lia | omega)), hp.lt _ (by (first | lia | omega)), ?_⟩
    cases hc : lt (p.getD n 0) (p.getD (n - 1) 0) with
    | true => exact ⟨Nat.le_refl _, Nat.le_add_right _ _, hu, .inr hc⟩
    | false =>
      refine wpT_mono (fun m hm => ?_) _ (t_asc O hp f (n + 1) (by (first | lia | omega)) (by (first | lia | omega)) (hu.succ O h1 hc))
      exact ⟨by (first | lia | omega), by (first | lia | omega), hm.2.2.1, hm.2.2.2.imp (fun e => by (first | lia | omega)) id⟩

theorem rev_at {p : Array Nat} {i j : Nat} (hj : j ≤ p.size) (k : Nat) : at_ (kas_rev p i j) k = if i ≤ k ∧ k < j then at_ p (i + j - 1 - k) else at_ p k := by
  rw [at_eq, kas_rev, getElem?_mirror_all hj]
  split <;> simp [at_]
theorem rev_isP {p : Array Nat} (hp : IsP N p) (i j : Nat) : IsP N (kas_rev p i j) := (mirror_perm _ _ _ _).trans hp

noncomputable def Alike (lt : Nat → Nat → Bool) (p : Array Nat) (n q : Nat) : Prop := ∀ a b, n - (q + 1) ≤ a → a < n → n - (q + 1) ≤ b → b < n → lt (at_ p a) (at_ p b) = false

theorem rev_alike (O : Ord lt) {p : Array Nat} {n q : Nat} (hn : n ≤ p.size) (hd : Dn lt p n) (ha : Alike lt p n q) : Dn lt (kas_rev p (n - (q + 1)) n) n := by
  intro a b hab hb
  rw [rev_at hn, rev_at hn]
  split <;> split
  · exact ha _ _ (by (first | lia | omega)) (by (first | lia | omega)) (by (first | lia | omega)) (by (first | lia | omega))
  · (first | lia | omega)
  · rename_i h1 h2
    exact hd _ _ (by (first | lia | omega)) (by (first | lia | omega))
  · exact hd _ _ hab hb

theorem t_desc (O : Ord lt) : ∀ (f : Nat) (p : Array Nat) (n q : Nat), IsP N p → 1 ≤ n → n + f ≤ N → Dn lt p n → Alike lt p n q → 
    wpT lt N (kas_desc f p n q) (fun r => IsP N r.1 ∧ n ≤ r.2.1 ∧ r.2.1 ≤ n + f ∧ Dn lt r.1 r.2.1 ∧ Alike lt r.1 r.2.1 r.2.2)
  | 0, p, n, q, hp, h1, hn, hd, ha => ⟨hp, Nat.le_refl _, Nat.le_refl _, hd, ha⟩
  | f + 1, p, n, q, hp, h1, hn, hd, ha => by
    have hz := hp.size
    have one : ∀ (p : Array Nat) (n : Nat), Alike lt p (n + 1) 0 := by
      intro p n a b h1 h2 h3 h4
      have : a = b := by (first | lia | omega)
      subst this; exact O.irr _
    refine ⟨hp.lt _ (by (first | lia | omega)), hp.lt _ (by (first | lia | omega)), ?_⟩
    cases hc : lt (p.getD n 0) (p.getD (n - 1) 0) with
    | true =>
      simp only [if_true]
      have hd1 : Dn lt p (n + 1) := hd.succ O h1 (O.asym _ _ hc)
      split
      · have hrd : Dn lt (kas_rev p (n - (q + 1)) n) (n + 1) := by
          refine (rev_alike O (by (first | lia | omega)) hd ha).succ O h1 ?_
          rw [rev_at (by (first | lia | omega)), rev_at (by (first | lia | omega)), if_pos (by (first | lia | omega)), if_neg (by (first | lia | omega))]
          exact hd1 _ _ (by (first | lia | omega)) (by (first | lia | omega))
        refine wpT_mono (fun r hr => ?_) _ (t_desc O f _ (n + 1) 0 (rev_isP hp _ _) (by (first | lia | omega)) (by (first | lia | omega)) hrd (one _ _))
        exact ⟨hr.1, by (first | lia | omega), by (first | lia | omega), hr.2.2.2⟩
      · refine wpT_mono (fun r hr => ?_) _ (t_desc O f _ (n + 1) 0 hp (by (first | lia | omega)) (by (first | lia | omega)) hd1 (one _ _))
        exact ⟨hr.1, by (first | lia | omega), by (first | lia | omega), hr.2.2.2⟩
    | false =>
      simp only [Bool.false_eq_true, if_false]
      refine ⟨hp.lt _ (by (first | lia | omega)), hp.lt _ (by (first | lia | omega)), ?_⟩
      cases hc2 : lt (p.getD (n - 1) 0) (p.getD n 0) with
      | true => exact ⟨hp, Nat.le_refl _, Nat.le_add_right _ _, hd, ha⟩
      | false =>
        have ha1 : Alike lt p (n + 1) (q + 1) := by
          intro a b h1' h2 h3 h4
          rcases Nat.lt_or_ge a n with han | han <;> rcases Nat.lt_or_ge b n with hbn | hbn
          · exact ha a b (by (first | lia | omega)) han (by (first | lia | omega)) hbn
          · have : b = n := by (first | lia | omega)
            subst this
            exact O.tr _ _ _ hc2 (ha a (b - 1) (by (first | lia | omega)) han (by (first | lia | omega)) (by (first | lia | omega)))
          · have : a = n := by (first | lia | omega)
            subst this
            exact O.tr _ _ _ (ha (a - 1) b (by (first | lia | omega)) (by (first | lia | omega)) (by (first | lia | omega)) hbn) hc
          · have h5 : a = n := by (first | lia | omega)
            have h6 : b = n := by (first | lia | omega)
            subst h5; subst h6; exact O.irr _
        refine wpT_mono (fun r hr => ?_) _ (t_desc O f p (n + 1) (q + 1) hp (by (first | lia | omega)) (by (first | lia | omega)) (hd.succ O h1 hc2) ha1)
        exact ⟨hr.1, by (first | lia | omega), by (first | lia | omega), hr.2.2.2⟩

theorem rev_up {p : Array Nat} {n : Nat} (hn : n ≤ p.size) (hd : Dn lt p n) : Up lt (kas_rev p 0 n) n := by
  intro a b hab hb
  rw [rev_at hn, rev_at hn, if_pos (by (first | lia | omega)), if_pos (by (first | lia | omega))]
  exact hd _ _ (by (first | lia | omega)) (by (first | lia | omega))

theorem t_tail3 (O : Ord lt) {n : Nat} {p : Array Nat} (hp : IsP N p) (h1 : 1 ≤ n) (hn : n ≤ N) (hd : Dn lt p n) :
    wpT lt N (kas_tail3 n N p) (fun r => IsP N r.2 ∧ 1 ≤ r.1 ∧ r.1 ≤ N ∧ Up lt r.2 r.1) := by
  refine wpT_bind _ (wpT_mono (fun m hm => ?_) _ (t_asc O (rev_isP hp 0 n) (N - n) n h1 (by (first | lia | omega)) (rev_up (by rw [hp.size]; exact hn) hd)))
  exact ⟨rev_isP hp _ _, by show 1 ≤ m; (first | lia | omega), by show m ≤ N; (first | lia | omega), hm.2.2.1⟩
theorem t_descPart (O : Ord lt) {n : Nat} {p : Array Nat} (hp : IsP N p) (h1 : 1 ≤ n) (hn : n < N) (hd : Dn lt p (n + 1)) :
    wpT lt N (kas_descPart n N p) (fun r => IsP N r.2 ∧ 1 ≤ r.1 ∧ r.1 ≤ N ∧ Up lt r.2 r.1) := by
  have one : Alike lt p (n + 1) 0 := by
    intro a b h1 h2 h3 h4
    have : a = b := by (first | lia | omega)
    subst this; exact O.irr _
  refine wpT_bind _ (wpT_mono (fun r hr => ?_) _ (t_desc O (N - (n + 1)) p (n + 1) 0 hp (by (first | lia | omega)) (by (first | lia | omega)) hd one))
  obtain ⟨a1, a2, a3, a4, a5⟩ := hr
  have hz := a1.size
  split
  · exact t_tail3 O (rev_isP a1 _ _) (by (first | lia | omega)) (by (first | lia | omega)) (rev_alike O (by (first | lia | omega)) a4 a5)
  · exact t_tail3 O a1 (by (first | lia | omega)) (by (first | lia | omega)) a4
theorem t_count (O : Ord lt) {p : Array Nat} (hp : IsP N p) (hN : 2 ≤ N) : wpT lt N (kas_count N p) (fun r => IsP N r.2 ∧ 1 ≤ r.1 ∧ r.1 ≤ N ∧ Up lt r.2 r.1) := by
  have hz := hp.size
  refine wpT_bind _ (wpT_mono (fun n hn => ?_) _ (t_asc O hp (N - 1) 1 (Nat.le_refl _) (by (first | lia | omega)) (fun a b h1 h2 => by (first | lia | omega))))
  obtain ⟨a1, a2, a3, a4⟩ := hn
  split
  · exact ⟨hp, a1, by (first | lia | omega), a3⟩
  · rename_i hne
    have hlt : n < N := by
      have : n ≠ N := by simpa using hne
      (first | lia | omega)
    have hlt' : lt (at_ p n) (at_ p (n - 1)) = true := a4.resolve_left (by (first | lia | omega))
    split
    · refine ⟨hp.lt _ (by (first | lia | omega)), hp.lt _ (by (first | lia | omega)), ?_⟩
      cases hc : lt (p.getD 0 0) (p.getD (n - 1) 0) with
      | true => exact ⟨hp, a1, by (first | lia | omega), a3⟩
      | false =>
        simp only [Bool.false_eq_true, if_false]
        -- all alike
        have le0 : ∀ b, b < n → lt (at_ p b) (at_ p 0) = false := fun b hb => by
          rcases Nat.eq_zero_or_pos b with rfl | h
          · exact O.irr _
          · exact a3 0 b h hb
        have leL : ∀ b, b < n → lt (at_ p (n - 1)) (at_ p b) = false := fun b hb => by
          rcases Nat.lt_or_ge b (n - 1) with h | h
          · exact a3 b (n - 1) h (by (first | lia | omega))
          · have : b = n - 1 := by (first | lia | omega)
            subst this; exact O.irr _
        have al : ∀ a b, a < n → b < n → lt (at_ p a) (at_ p b) = false := fun a b ha hb => O.tr _ _ _ (leL b hb) (O.tr _ _ _ hc (le0 a ha))
        refine t_descPart O (rev_isP hp _ _) (by (first | lia | omega)) hlt ?_
        refine Dn.succ O (fun a b hab hb => ?_) (by (first | lia | omega)) ?_
        · rw [rev_at (by (first | lia | omega)), rev_at (by (first | lia | omega)), if_pos (by (first | lia | omega)), if_pos (by (first | lia | omega))]
          exact al _ _ (by (first | lia | omega)) (by (first | lia | omega))
        · rw [rev_at (by (first | lia | omega)), rev_at (by (first | lia | omega)), if_pos (by (first | lia | omega)), if_neg (by (first | lia | omega))]
          exact O.tr _ _ _ (O.asym _ _ hlt') (al _ _ (by (first | lia | omega)) (by (first | lia | omega)))
    · have hn1 : n = 1 := by (first | lia | omega)
      subst hn1
      refine t_descPart O hp (Nat.le_refl _) hlt ?_
      exact Dn.succ O (fun a b h1 h2 => by (first | lia | omega)) (Nat.le_refl _) (O.asym _ _ hlt')

theorem t_place (O : Ord lt) {p : Array Nat} (hp : IsP N p) {k : Nat} (hk : k < N) (hu : Up lt p k) : ∀ (f l r : Nat), r - l ≤ f → l ≤ r → r ≤ k → (∀ a, a < l → lt (at_ p k) (at_ p a) = false) → (∀ a, r ≤ a → a < k → lt (at_ p k) (at_ p a) = true) →
    wpT lt N (kas_place p k f l r) (fun m => m ≤ k ∧ (∀ a, a < m → lt (at_ p k) (at_ p a) = false) ∧ ∀ a, m ≤ a → a < k → lt (at_ p k) (at_ p a) = true)
  | 0, l, r, hf, hlr, hrk, h1, h2 => by
    have : l = r := by (first | lia | omega)
    subst this
    exact ⟨hrk, h1, h2⟩
  | f + 1, l, r, hf, hlr, hrk, h1, h2 => by
    unfold kas_place
    split
    · have : l = r := by (first | lia | omega)
      subst this
      exact ⟨hrk, h1, h2⟩
    · rename_i hlt
      refine ⟨hp.lt _ hk, hp.lt _ (by (first | lia | omega)), ?_⟩
      cases hc : lt (p.getD k 0) (p.getD ((l + r) / 2) 0) with
      | true =>
        refine t_place O hp hk hu f l ((l + r) / 2) (by (first | lia | omega)) (by (first | lia | omega)) (by (first | lia | omega)) h1 fun a ha hak => ?_
        rcases Nat.lt_or_ge ((l + r) / 2) a with h | h
        · cases hx : lt (at_ p k) (at_ p a) with
          | true => rfl
          | false =>
            have := O.tr _ _ _ (hu ((l + r) / 2) a h hak) hx
            rw [show lt (at_ p k) (at_ p ((l + r) / 2)) = true from hc] at this; cases this
        · have : a = (l + r) / 2 := by (first | lia | omega)
          subst this; exact hc
      | false =>
        refine t_place O hp hk hu f ((l + r) / 2 + 1) r (by (first | lia | omega)) (by (first | lia | omega)) hrk (fun a ha => ?_) h2
        rcases Nat.lt_or_ge a ((l + r) / 2) with h | h
        · exact O.tr _ _ _ (hu a ((l + r) / 2) h (by (first | lia | omega))) hc
        · have : a = (l + r) / 2 := by (first | lia | omega)
          subst this; exact hc

theorem bub_at {p : Array Nat} {k d : Nat} (hk : k < p.size) (hd : d ≤ k) (i : Nat) : at_ (bubble p k d) i = if i = k - d then at_ p k else if k - d < i ∧ i ≤ k then at_ p (i - 1) else at_ p i := by
  rw [at_eq, getElem?_bubble hk d hd, show at_ p k = p[k]?.getD 0 from at_eq, show at_ p (i - 1) = p[i - 1]?.getD 0 from at_eq, show at_ p i = p[i]?.getD 0 from at_eq]
  split
  · rfl
  · split <;> rfl
theorem t_bin (O : Ord lt) : ∀ (f : Nat) (p : Array Nat) (k : Nat), IsP N p → k + f = N → Up lt p k → wpT lt N (kas_bin f p k) (fun r => IsP N r ∧ Up lt r N)
  | 0, p, k, hp, hk, hu => ⟨hp, by rw [← hk]; exact hu⟩
  | f + 1, p, k, hp, hk, hu => by
    have hz := hp.size
    refine wpT_bind _ (wpT_mono (fun l hl => ?_) _ (t_place O hp (by (first | lia | omega)) hu k 0 k (by (first | lia | omega)) (Nat.zero_le _) (Nat.le_refl _) (fun a ha => by (first | lia | omega)) fun a ha hb => by (first | lia | omega)))
    obtain ⟨l1, l2, l3⟩ := hl
    refine t_bin O f _ (k + 1) ((bubble_perm _ _ _).trans hp) (by (first | lia | omega)) ?_
    intro a b hab hb
    have e : k - (k - l) = l := by (first | lia | omega)
    rw [bub_at (by (first | lia | omega)) (by (first | lia | omega)), bub_at (by (first | lia | omega)) (by (first | lia | omega)), e]
    rcases Nat.lt_trichotomy b l with hbl | hbl | hbl <;> rcases Nat.lt_trichotomy a l with hal | hal | hal
    · rw [if_neg (by (first | lia | omega)), if_neg (by (first | lia | omega)), if_neg (by (first | lia | omega)), if_neg (by (first | lia | omega))]; exact hu _ _ hab (by (first | lia | omega))
    · (first | lia | omega)
    · (first | lia | omega)
    · rw [if_pos hbl, if_neg (by (first | lia | omega)), if_neg (by (first | lia | omega))]; exact l2 a hal
    · (first | lia | omega)
    · (first | lia | omega)
    · rw [if_neg (by (first | lia | omega)), if_pos (by (first | lia | omega)), if_neg (by (first | lia | omega)), if_neg (by (first | lia | omega))]; exact hu _ _ (by (first | lia | omega)) (by (first | lia | omega))
    · rw [if_neg (by (first | lia | omega)), if_pos (by (first | lia | omega)), if_pos hal]; exact O.asym _ _ (l3 _ (by (first | lia | omega)) (by (first | lia | omega)))
    · rw [if_neg (by (first | lia | omega)), if_pos (by (first | lia | omega)), if_neg (by (first | lia | omega)), if_pos (by (first | lia | omega))]; exact hu _ _ (by (first | lia | omega)) (by (first | lia | omega))

theorem t_sort (O : Ord lt) (hN : 2 ≤ N) : wpT lt N (kas_sort N) (fun p => IsP N p ∧ Up lt p N) := by
  refine wpT_bind _ (wpT_mono (fun r hr => ?_) _ (t_count O (Array.Perm.refl _) hN))
  obtain ⟨a1, a2, a3, a4⟩ := hr
  split
  · have e : max r.1 1 = r.1 := by (first | lia | omega)
    rw [e]
    exact t_bin O _ _ _ a1 (by (first | lia | omega)) a4
  · have : r.1 = N := by (first | lia | omega)
    exact ⟨a1, by rw [← this]; exact a4⟩
end
end Mine
end
section
open PySem PySem.W PySem.Calls PyProof.Rows
set_option Elab.async false
set_option maxRecDepth 100000
set_option linter.unusedVariables false
namespace Mine

theorem updF_of {d : Addr} {o : Obj} : ∀ (pre : List (Addr × Obj)) {post : List (Addr × Obj)}, (∀ p ∈ pre, p.1 ≠ d) → (∀ p ∈ post, p.1 ≠ d) → UpdF d o (pre ++ (d, o) :: post) (fun o' => pre ++ (d, o') :: post)
  | [], post, _, h2 => .head h2
  | p :: pre, post, h1, h2 => .tail (h1 p (by simp)) (updF_of pre (fun q hq => h1 q (by simp [hq])) h2)

structure Bt (L : Addr) (m : Str → Option Value) (h h' : Heap) : Prop where
  ns : h'.Ns L m
  keep : ∀ b o, b ≠ L → h.get? b = some o → h'.get? b = some o
theorem Bt.stay {L : Addr} {m : Str → Option Value} {h h' h'' : Heap} (x : Bt L m h h') (S : Stay h' h'') : Bt L m h h'' := ⟨x.ns.keeps S, fun b o n e => S _ _ (x.keep b o n e)⟩

section
variable {prog : Program} {w : World} {A : Around} {E : Value → Shared → Prop} {s : Shared} {h : Heap} {tk : Nat} {L : Addr} {m : Str → Option Value}

theorem upd_all {a : Addr} {o : Obj} (e : h.get? a = some o) (hn : a ≠ L) : ∃ g, UpdF a o (allN h L) g ∧ ∀ h' o', News e0 L h' (g o') → h'.get? a = some o' ∧ ∀ b ob, b ≠ a → b ≠ L → h.get? b = some ob → h'.get? b = some ob := by
  (first | (refine Mine.e2_3 (allN_split e hn) ?_; rintro pre post hsp p1 p2) | (refine Mine.e3_2 (allN_split e hn) ?_; rintro pre post hsp p1 p2) | (obtain ⟨pre, post, hsp, p1, p2⟩ := allN_split e hn))
  refine ⟨_, hsp ▸ updF_of pre p1 p2, fun h' o' N => ⟨(N (a, o') (by simp)).1, fun b ob hb hL eb => ?_⟩⟩
  have hm : (b, ob) ∈ pre ++ (a, o) :: post := hsp ▸ mem_allN.mpr ⟨eb, hL⟩
  rw [List.mem_append, List.mem_cons] at hm
  rcases hm with q | q | q
  · exact (N (b, ob) (by simp [q])).1
  · cases q; exact absurd rfl hb
  · exact (N (b, ob) (by simp [q])).1

structure SInv (h : Heap) (L : Addr) (m : Str → Option Value) (kS D : Addr) (e1 : Nat) (Key : Nat → Value → Heap → Prop) (ks : List Value) (e : Nat) (h' : Heap) : Prop where
  bt : Bt L m h h'
  kl : h'.get? kS = some (seqObj "list" (List.toArray ks) e)
  dl : h'.get? D = some (seqObj "list" #[] e1)
  key : ∀ i k, ks[i]? = some k → Key i k (hideAll h' [kS, D, L])
theorem SInv.stay {kS D : Addr} {e1 : Nat} {Key : Nat → Value → Heap → Prop} {ks : List Value} {e : Nat} {h' h'' : Heap} (hm : ∀ i k g g', Key i k g → Stay g g' → Key i k g') (x : SInv h L m kS D e1 Key ks e h') (S : Stay h' h'') : SInv h L m kS D e1 Key ks e h'' :=
  ⟨x.bt.stay S, S _ _ x.kl, S _ _ x.dl, fun i k hk => hm _ _ _ _ (x.key i k hk) fun b o q => hideAll_get _ (S _ _ (of_hideAll _ q)) fun z => by rw [hideAll_none _ z] at q; cases q⟩

theorem wp_sorted {l : Addr} {f : Value} {vs : List Value} {Key : Nat → Value → Heap → Prop} {lt : Nat → Nat → Bool} {κ : SortKind} {kw : List (Str × Value)} {P : Array Nat → Prop} {Q : Value → Shared → Prop}
    (ns : h.Ns L m) (hl : h.IsList l vs.toArray) (h2 : 2 ≤ vs.length) (h64 : vs.length < 64)
    (ha1 : argsOk "sorted" ⟨[.ref l], kw⟩) (ha2 : ∀ x, argsOk "list.sort" ⟨[.ref x], kw⟩) (ht : ∀ x, Builtin.«list.sort» ⟨[.ref x], kw⟩ = ksk_tree x f false)
    (hm : ∀ i k g g', Key i k g → Stay g g' → Key i k g')
    (hkey : ∀ i v h' Z, vs[i]? = some v → Bt L m h h' → (∀ z ∈ Z, ∃ o, h'.get? z = some o) → Gives prog w A.in1.in1 (call f [v]) s h' (fun k h'' => Key i k (hideAll h'' Z)))
    (hkind : ∀ (ks : List Value) h' tk' Q, ks.length = vs.length → Bt L m h h' → (∀ i k, ks[i]? = some k → Key i k h') → Q κ (st s h' tk') → wpAny (model prog w) A.in1.in1 (keyKind' (List.toArray ks)) Q (fun _ _ => False) (st s h' tk'))
    (hlt : ∀ i j ki kj h' tk' Q, i < vs.length → j < vs.length → Bt L m h h' → Key i ki h' → Key j kj h' → (∀ h'' tk'', Stay h' h'' → Q (lt i j) (st s h'' tk'')) → wpAny (model prog w) A.in1.in1 (keyLt' κ ki kj) Q (fun _ _ => False) (st s h' tk'))
    (hT : wpT lt vs.length (kas_sort vs.length) P)
    (k : ∀ D h' tk' p, P p → h.get? D = none → D ≠ L → h'.PlainList D (List.toArray (p.toList.map fun i => vs.getD i Value.none)) → Bt L m h h' → Q (.ref D) (st s h' tk')) :
    wpAny (model prog w) A (call (.builtin "sorted") [.ref l] kw) Q E (st s h tk) := by
  refine kat_sortedK (s := st s h tk) (b := false) (f := f) (fr0 ns) (news0 h L) hl h2 h64 ha1 ha2 ht fun D kS e1 h₁ F₁ N₁ hDk hD => ?_
  have nk := N₁ (kS, seqObj "list" #[] 0) (by simp)
  have nd := N₁ (D, seqObj "list" #[] e1) (by simp)
  have hkL : kS ≠ L := nk.2.1
  have hDL : D ≠ L := nd.2.1
  have hkD : kS ≠ D := Nat.ne_of_gt hDk
  have fD : h.get? D = none := by
    cases e : h.get? D with
    | none => rfl
    | some o => have := hD (D, o) (mem_allN.mpr ⟨e, hDL⟩); exact absurd this (Nat.lt_irrefl _)
  have fk : h.get? kS = none := by
    cases e : h.get? kS with
    | none => rfl
    | some o => have := hD (kS, o) (mem_allN.mpr ⟨e, hkL⟩); exact absurd (Nat.lt_trans this hDk) (Nat.lt_irrefl _)
  have I₁ : SInv h L m kS D e1 Key [] 0 h₁ := ⟨⟨F₁.ns, fun b o n e => (N₁ (b, o) (by simp [mem_allN.mpr ⟨e, n⟩])).1⟩, nk.1, nd.1, fun i k hk => by simp at hk⟩
  have keys : ∀ (r ks : List Value) (e : Nat) (h' : Heap) (tk' : Nat), ks.length + r.length = vs.length → (∀ i v, r[i]? = some v → vs[ks.length + i]? = some v) → SInv h L m kS D e1 Key ks e h' →
      KatKeys prog w A.in1.in1 e0 L m kS f (fun ks e s' => wpAny (model prog w) A.in1.in1 (keyKind' (List.toArray ks)) (fun κ s'' => (kas_sort vs.length).kasWp (kas_ask prog w A.in1.in1 κ (katRev false ks)) (fun p s3 => KatFin e0 L m kS D ks e e1 (katRev false (p.toList.map fun i => (katRev false vs).getD i Value.none)) (fun s4 => Q (.ref D) s4) s3) s'') (fun _ _ => False) s') r ks e (st s h' tk') := by
    intro r
    induction r with
    | nil =>
      intro ks e h' tk' hlen hvs I
      refine KatKeys.nil ?_
      have hks : ks.length = vs.length := by simpa using hlen
      refine hkind ks h' tk' _ hks I.bt (fun i k hk => hm _ _ _ _ (I.key i k hk) fun b o q => of_hideAll _ q) ?_
      refine kasWp_of (lt := lt) (n := vs.length) (Inv := fun s' => ∃ h' tk', s' = st s h' tk' ∧ SInv h L m kS D e1 Key ks e h') ?hc (kas_sort vs.length) P hT ?hQ _ ⟨h', tk', rfl, I⟩
      case hc =>
        (rintro i j C s' hi hj hcj; (first | (refine Mine.e2_2 hcj ?_; clear hcj; rintro h₂ tk₂ rfl I₂ hC) | (obtain ⟨h₂, tk₂, rfl, I₂⟩ := hcj; rintro hC)))
        have gi : ∀ i, i < vs.length → ∃ k, (katRev false ks).getD i Value.none = k ∧ ks[i]? = some k := fun i hi => by
          have : i < ks.length := by (first | lia | omega)
          exact ⟨ks[i], by simp [katRev, this], by simp [this]⟩
        (first | (refine Mine.e1_2 (gi i hi) ?_; rintro ki e1' e2) | (obtain ⟨ki, e1', e2⟩ := gi i hi))
        (first | (refine Mine.e1_2 (gi j hj) ?_; rintro kj e3 e4) | (obtain ⟨kj, e3, e4⟩ := gi j hj))
        unfold kas_ask
        rw [e1', e3]
        have up : Stay (hideAll h₂ [kS, D, L]) h₂ := fun b o q => of_hideAll _ q
        exact hlt i j ki kj h₂ tk₂ _ hi hj I₂.bt (hm _ _ _ _ (I₂.key i ki e2) up) (hm _ _ _ _ (I₂.key j kj e4) up) fun h₃ tk₃ S₃ => hC _ ⟨h₃, tk₃, rfl, I₂.stay hm S₃⟩
      case hQ =>
        (rintro p s' hp hcj; (first | (refine Mine.e2_2 hcj ?_; clear hcj; rintro h₂ tk₂ rfl I₂) | (obtain ⟨h₂, tk₂, rfl, I₂⟩ := hcj)))
        (first | (refine Mine.e1_2 (upd_all (L := L) I₂.kl hkL) ?_; rintro g U hg) | (obtain ⟨g, U, hg⟩ := upd_all (L := L) I₂.kl hkL))
        refine KatFin.intro (fr0 I₂.bt.ns) (news0 h₂ L) U fun h₃ c F₃ N₃ => ?_
        obtain ⟨a1, a2⟩ := hg h₃ _ N₃
        have hd₃ := a2 D _ hkD.symm hDL I₂.dl
        (first | (refine Mine.e1_2 (upd_all (L := L) hd₃ hDL) ?_; rintro g' U' hg') | (obtain ⟨g', U', hg'⟩ := upd_all (L := L) hd₃ hDL))
        refine KasFin.intro (fr0 F₃.ns) (news0 h₃ L) U' fun h₄ c' F₄ N₄ => ?_
        obtain ⟨b1, b2⟩ := hg' h₄ _ N₄
        refine k D h₄ tk₂ p hp fD hDL ⟨_, b1⟩ ⟨F₄.ns, fun b o n e => ?_⟩
        have nb1 : b ≠ kS := fun q => by rw [q, fk] at e; cases e
        have nb2 : b ≠ D := fun q => by rw [q, fD] at e; cases e
        exact b2 b o nb2 n (a2 b o nb1 n (I₂.bt.keep b o n e))
    | cons v r ih =>
      intro ks e h' tk' hlen hvs I
      refine KatKeys.cons ?_
      have hv : vs[ks.length]? = some v := by simpa using hvs 0 v rfl
      refine hkey ks.length v h' [kS, D, L] hv I.bt ?hz tk' _ _ fun kk h₂ tk₂ S₂ hkk => ?_
      case hz =>
        intro z hz
        simp at hz
        rcases hz with rfl | rfl | rfl
        · exact ⟨_, I.kl⟩
        · exact ⟨_, I.dl⟩
        · (first | (refine Mine.e2_3 (I.bt.ns) ?_; rintro o es ep q _) | (refine Mine.e3_2 (I.bt.ns) ?_; rintro o es ep q _) | (obtain ⟨o, es, ep, q, _⟩ := I.bt.ns)); exact ⟨o, q⟩
      have I₂ := I.stay hm S₂
      (first | (refine Mine.e1_2 (upd_all (L := L) I₂.kl hkL) ?_; rintro g U hg) | (obtain ⟨g, U, hg⟩ := upd_all (L := L) I₂.kl hkL))
      refine KatBack.intro (fr0 I₂.bt.ns) (news0 h₂ L) U fun h₃ c F₃ N₃ => ?_
      obtain ⟨a1, a2⟩ := hg h₃ _ N₃
      have up : Stay (hideAll h₂ [kS, D, L]) (hideAll h₃ [kS, D, L]) := fun b o q => by
        have nb : b ∉ [kS, D, L] := fun z => by rw [hideAll_none _ z] at q; cases q
        simp at nb
        exact hideAll_get _ (a2 b o nb.1 nb.2.2 (of_hideAll _ q)) (by simp; exact nb)
      refine ih (ks ++ [kk]) c h₃ tk₂ (by simp at hlen ⊢; (first | lia | omega)) (fun i u hu => ?_) ⟨⟨F₃.ns, fun b o n e => ?_⟩, a1, a2 D _ hkD.symm hDL I₂.dl, fun i u hu => ?_⟩
      · have := hvs (i + 1) u (by simpa using hu)
        rw [List.length_append, List.length_singleton]
        rwa [show ks.length + 1 + i = ks.length + (i + 1) by (first | lia | omega)]
      · have nb1 : b ≠ kS := fun q => by rw [q, fk] at e; cases e
        exact a2 b o nb1 n (I₂.bt.keep b o n e)
      · rcases Nat.lt_trichotomy i ks.length with hi | hi | hi
        · rw [List.getElem?_append_left hi] at hu
          exact hm _ _ _ _ (I₂.key i u hu) up
        · subst hi
          simp at hu
          subst hu
          exact hm _ _ _ _ hkk up
        · have : (ks ++ [kk])[i]? = none := List.getElem?_eq_none (by simp; (first | lia | omega))
          rw [this] at hu; cases hu
  exact keys vs [] 0 h₁ tk (by simp) (fun i v hv => by simpa using hv) I₁
end
end Mine
end
section
open PySem PySem.W PySem.Calls PyProof.Rows Builtin Builtin.ObjectAttr
set_option Elab.async false
set_option maxRecDepth 100000
set_option linter.unusedVariables false
namespace Mine

section
variable {prog : Program} {w : World} {A : Around} {E : Value → Shared → Prop} {s : Shared} {h : Heap} {tk : Nat} {mg mb : Str → Option Value}
theorem if_bound {s : Shared} {x C f : Addr} {name : Str} {args : List Value} {Q : Option Value → Shared → Prop} (L0 : Looks (model prog w) s.heap (typeOf (.ref x)) (.ref C)) (L1 : Looks (model prog w) s.heap (typeLookup (.ref C) name) (some (.ref f)))
    (LB : Looks (model prog w) s.heap (bindSpecial (.ref f) (.ref x)) (.ref f, [.ref x])) (h : wpAny (model prog w) A (call (.ref f) (.ref x :: args)) (fun v => Q (some v)) E s) : wpAny (model prog w) A (callSpecialIfBound? (.ref x) name args) Q E s := by
  simp only [callSpecialIfBound?, bindSpecialIfBound?]
  refine wpAny_holding (wpAny_bind (wpAny_bind (wpAny_bind (L0.here (L1.here ?_)))))
  refine wpAny_bind (wpAny_askSetting (wpAny_ite ?_))
  have fin : wpAny (model prog w) A (call (.ref f) ([.ref x] ++ args) >>= fun v => pure (some v)) Q E s := wpAny_bind (wpAny_mono h (fun v s' h' => wpAny_pure h') fun _ _ h' => h')
  split
  · exact wpAny_bind (LB.here (wpAny_pure (by exact fin)))
  · exact wpAny_tryCatch (wpAny_bind (LB.here (wpAny_pure (by exact fin))))
set_option maxHeartbeats 2000000 in
theorem c_klt {C cc f x y : Addr} {nm a b : Value} {of : Obj} {fd : FuncData} {dd : Int} (R : Rm 3 A) (B : Bas mg mb h) (K : KCls h C cc nm) (hc : h.IsCell cc (some (.ref f))) (hf : h.get? f = some of) (hfd : of.data = .func fd)
    (Ix : KInst h x C a) (Iy : KInst h y C b) (ha : handedIn a = true) (hb : handedIn b = true)
    (hcmp : ∀ (A' : Around) h', Rm 1 A' → Stay h h' → Gives prog w A' (call (.ref f) [a, b]) s h' (fun v _ => ∃ t, v = .int dd t))
    {Q : Bool → Shared → Prop} (k : ∀ h' tk', Stay h h' → Q (decide (dd < 0)) (st s h' tk')) : wpAny (model prog w) A (keyLt' oneType' (.ref x) (.ref y)) Q E (st s h tk) := by
  (obtain ⟨N, k0, k2, k3, md, tmd, v0, t1, t2, um, sl, f1, c1, u1, d1, f2, c2, u2, d2, f3, f4, f5, f6, sa, a1, a2, a3, a4, a5, a6, a7⟩ := K.ex)
  (first | (refine Mine.e2_2 (Ix) ?_; rintro dx od hx hdx) | (obtain ⟨dx, od, hx, hdx⟩ := Ix))
  (first | (refine Mine.e2_2 (Iy) ?_; rintro dy oy hy hdy) | (obtain ⟨dy, oy, hy, hdy⟩ := Iy))
  rw [keyLt'_oneType, oneLt'_eq]
  simp only [if_true]
  refine wpAny_bind (wpAny_cRoomFor R.units ?_)
  have L0 : Looks (model prog w) h (typeOf (.ref x)) (.ref C) := look_type hx rfl
  have L1 : Looks (model prog w) h (typeLookup (.ref C) "__lt__") (some (.ref f2)) := look_cls (y := some (.builtin "object.__lt__")) a1 a2 (by rw [typeLookup_type, builtinLookup_eq_fast]; kernel_rfl) rfl
  have LB : Looks (model prog w) h (bindSpecial (.ref f2) (.ref x)) (.ref f2, [.ref x]) := by
    unfold bindSpecial
    refine (look_type (v := .type "function") a6 rfl).andThen ?_
    rw [if_pos (by decide)]
    exact .now
  have body : Gives prog w A (call (.ref f2) [.ref x, .ref y]) s h (fun v _ => v = .bool (decide (dd < 0))) := by
    refine gives_fn R.room a6 rfl B.lim a7 rfl (fun tk => BindsTo.of_eq (binds := [("self", .ref x), ("other", .ref y)]) rfl) (kdef_cell 3 (by simp)) (by intro y hy; simp at hy; rcases hy with rfl | rfl <;> rfl) (fun L h₀ tk htk hns S₀ fL => ?_)
    have F : Fm h L _ h₀ := ⟨hns, S₀, fL⟩
    have R' : Rm 2 (A.deeper (callEnv (fnX (dName (kDef 3)) "cmp_to_key.<locals>.K.__lt__" (dArgs (kDef 3)) (dBody (kDef 3)) (dScope (kDef 3)) [("mycmp", cc)] .none .none d2 nm none (.ref c2) u2) L f2)) := R.deeper
    generalize hA' : A.deeper (callEnv (fnX (dName (kDef 3)) "cmp_to_key.<locals>.K.__lt__" (dArgs (kDef 3)) (dBody (kDef 3)) (dScope (kDef 3)) [("mycmp", cc)] .none .none d2 nm none (.ref c2) u2) L f2) = A' at *
    show wpAny _ _ (execs (dBody (kDef 3)) _) _ _ _
    refine r_ret ?_
    (((with_reducible refine wpAny_Compare1 ?_ ?mk); (case mk => with_unfolding_all rfl)))
    (with_reducible refine r_call ?_)
    refine nmF (hc.keeps F.keep) ?_ rfl rfl rfl (by decide) (by decide)
    refine r_cwF hfd (r_sp1 (Attribute_name ?_))
    (((with_reducible show wpAny _ _ (eval (Expr.Name _ _) _) _ _ _); refine nmL (by assumption) (by first | rfl | assumption) ?_))
    refine k_get (S₀ _ _ a1) (a2.keeps S₀) (S₀ _ _ a3) rfl rfl rfl (S₀ _ _ hx) ⟨_, S₀ _ _ hdx⟩ ha fun tk₁ => ?_
    refine r_sp1 (Attribute_name ?_)
    (((with_reducible show wpAny _ _ (eval (Expr.Name _ _) _) _ _ _); refine nmL (by assumption) (by first | rfl | assumption) ?_))
    refine k_get (S₀ _ _ a1) (a2.keeps S₀) (S₀ _ _ a3) rfl rfl rfl (S₀ _ _ hy) ⟨_, S₀ _ _ hdy⟩ hb fun tk₂ => ?_
    refine r_sp0 ⟨F.keep _ _ hf, ?_⟩
    refine hcmp A' h₀ (R'.less (by decide)) S₀ _ _ _ fun v h₁ tk₃ S₁ hv => ?_
    obtain ⟨t, rfl⟩ := hv
    (((with_reducible refine r_int ?_)))
    (with_reducible refine PyProof.Rows.lt_int ?_)
    exact ⟨_, _, rfl, S₀.trans S₁, rfl⟩
  refine wpAny_bind (if_bound (s := st s h tk) L0 L1 LB (body tk _ _ fun v h' tk' S' hv => ?_))
  subst hv
  show wpAny _ _ (truthOfDropped (.bool _)) _ _ _
  exact wpAny_truthy_bool (k h' tk' S')
end
end Mine
end
section
open PySem PySem.W PySem.Calls PyProof.Rows
set_option Elab.async false
set_option maxRecDepth 100000
set_option linter.unusedVariables false
namespace Mine

noncomputable def IntsAt (h : Heap) (v : Value) (xs : List Int) : Prop := ∃ a us, v = .ref a ∧ h.PlainList a (List.toArray us) ∧ IntsAre us xs
theorem IntsAt.stay {G G' : Heap} {v : Value} {xs : List Int} (x : IntsAt G v xs) (S : Stay G G') : IntsAt G' v xs := let ⟨a, us, e, p, i⟩ := x; ⟨a, us, e, plain_stay p S, i⟩
theorem ints_get {us : List Value} {xs : List Int} (x : IntsAre us xs) : ∀ {i : Nat} {y : Int}, xs[i]? = some y → ∃ t, us[i]? = some (.int y t) := by
  induction x with
  | nil => intro i y e; simp at e
  | cons z u _ ih =>
    intro i y e
    cases i with
    | zero => simp at e; subst e; exact ⟨u, rfl⟩
    | succ i => simp at e; simpa using ih e
theorem ints_get' {us : List Value} {xs : List Int} (x : IntsAre us xs) : ∀ {i : Nat} {v : Value}, us[i]? = some v → ∃ t y, v = .int y t ∧ xs[i]? = some y := by
  induction x with
  | nil => intro i v e; simp at e
  | cons z u _ ih =>
    intro i v e
    cases i with
    | zero => simp at e; subst e; exact ⟨u, z, rfl, rfl⟩
    | succ i => simp at e; simpa using ih e

theorem str_len_append (a b : Str) : (a ++ b).length = a.length + b.length := by
  show (a.cps ++ b.cps).size = a.cps.size + b.cps.size
  simp
theorem slice_upto' (items : Array Value) (b : Nat) : slicePick items none (some (b : Int)) none = (items.toList.take b).toArray := by
  rcases Nat.lt_or_ge items.size b with hb | hb
  · have e := slice_upto items items.size (Nat.le_refl _)
    have e1 : sliceBounds none (some (b : Int)) none items.size = sliceBounds none (some (items.size : Int)) none items.size := by
      simp only [sliceBounds, Option.getD_none]
      have h1 : ¬ ((b : Int) < 0) := by (first | lia | omega)
      have h2 : ¬ ((items.size : Int) < 0) := by (first | lia | omega)
      simp only [h1, h2, if_false, show (1 : Int) > 0 by decide, if_true]
      rw [Int.min_eq_right (by (first | lia | omega)), Int.min_eq_right (by (first | lia | omega))]
    unfold slicePick at e ⊢
    rw [e1, e, List.take_of_length_le (by simp), List.take_of_length_le (by simp; (first | lia | omega))]
  · exact slice_upto items b hb

theorem strs_get' {us : List Value} {xs : List Str} (x : StrsAre us xs) : ∀ {i : Nat} {v : Value}, us[i]? = some v → ∃ t, v = .str (xs.getD i "") t ∧ i < xs.length := by
  induction x with
  | nil => intro i v e; simp at e
  | cons z u _ ih =>
    intro i v e
    cases i with
    | zero => simp at e; subst e; exact ⟨u, rfl, by simp⟩
    | succ i => simp at e; obtain ⟨t, e1, e2⟩ := ih e; exact ⟨t, by simpa using e1, by simpa using e2⟩
section
variable {prog : Program} {w : World} {A : Around} {E : Value → Shared → Prop} {s : Shared} {G h : Heap} {tk : Nat} {L : Addr} {m : Str → Option Value} {env : Env} {mg mb : Str → Option Value}
theorem r_bool {M : Model} {E : Value → Shared → Prop} {tk : Nat} {b : Bool} {c : Nat} {pos : Pos} {env : Env} {Q : Value → Shared → Prop} (k : Q (.bool b) (st s h tk)) : wpAny M A (eval (.Constant (.bool b) c pos) env) Q E (st s h tk) := wpAny_Constant_bool k

theorem r_pickS {test : Expr} {a b : Str} {c1 c2 : Nat} {p1 p2 pos : Pos} {Q : Value → Shared → Prop} {S : Shared}
    (k : wpAny (model prog w) A (isTrue test env (eval test env)) (fun c s₁ => ∃ h₁ tk₁, s₁ = st s h₁ tk₁ ∧ ∀ t tk', Q (.str (if c = true then a else b) t) (st s h₁ tk')) E S) :
    wpAny (model prog w) A (eval (.IfExp test (.Constant (.str a) c1 p1) (.Constant (.str b) c2 p2) pos) env) Q E S := by
  refine wpAny_IfExp (wpAny_mono k (fun c s₁ k₁ => ?_) fun _ _ e => e)
  (first | (refine Mine.e2_2 (k₁) ?_; rintro h₁ tk₁ rfl k₁) | (obtain ⟨h₁, tk₁, rfl, k₁⟩ := k₁))
  cases c with
  | true => exact r_str (k₁ _ _)
  | false => exact r_str (k₁ _ _)

theorem r_repl {x y z : Str} {t : Tok} {u v : Nat} {Q : Value → Shared → Prop} (hu : u ≠ 0) (hv : v ≠ 0) (huv : u ≠ v) (hyz : (y == z) = false) (hx : x.length ≤ 1000) (hz : z.length ≤ 14) (htk : 1 ≤ tk) (k : ∀ (t' : Tok) (tk' : Nat), 1 ≤ tk' → Q (.str (Txt.replace x y z) t') (st s h tk')) :
    wpAny (model prog w) A (call (.builtin "str.replace") [.str x t, .str y u, .str z v]) Q E (st s h tk) :=
  wpAny_with_toks (n := 1) (s := st s h tk) htk (SC.replaceW (s := st s h tk) hu hv huv hyz (by (first | lia | omega)) hz fun t' k' => fun q => k t' k' q)

theorem r_sliceT {env : Env} {pos : Pos} {S : Shared} {Q : Value → Shared → Prop} {value : Expr} {lower upper : Option Expr} {p : Pos}
    (k : wpAny (model prog w) A (eval value env) (fun o s₁ => wpAny (model prog w) A (evalPart lower env) (fun vl s₂ => wpAny (model prog w) A (evalPart upper env) (fun vu s₃ =>
      ∃ h₃ tk₃ l items lo hi, s₃ = st s h₃ tk₃ ∧ o = .ref l ∧ h₃.IsList l items ∧ items.size ≤ 10000 ∧ IsPart vl lo ∧ IsPart vu hi ∧
        ∀ a h', h₃.get? a = none → h'.PlainList a (slicePick items lo hi none) → Stay h₃ h' → Q (.ref a) (st s h' tk₃)) E s₂) E s₁) E S) :
    wpAny (model prog w) A (eval (.Subscript value (.Slice lower upper none p) pos) env) Q E S := by
  refine Subscript_ (wpAny_mono k (fun o s₁ k₁ => wpAny_Slice (wpAny_mono k₁ (fun vl s₂ k₂ => wpAny_mono k₂ (fun vu s₃ k₃ => ?_) fun _ _ e => e) fun _ _ e => e)) fun _ _ e => e)
  (first | (refine Mine.e6_7 (k₃) ?_; rintro h₃ tk₃ l items lo hi rfl rfl hl hz pl pu k) | (obtain ⟨h₃, tk₃, l, items, lo, hi, rfl, rfl, hl, hz, pl, pu, k⟩ := k₃))
  rw [evalPart_none]
  refine wpAny_pure ?_
  refine kba_turn (value' := .Name "x" default) (fun _ => rfl) ?_
  refine subscriptTail_ops (ops := [.ref h₃.objs.size, .ref l]) (Heap.IsList.typeIs (s := { st s h₃ tk₃ with heap := h₃.push { cls := .type "slice", data := .fields #[vl, vu, .none] } }) (hl.push _)) list_getitem_lookup
    (wpAny_getItem_list_slice (s := { st s h₃ tk₃ with heap := h₃.push { cls := .type "slice", data := .fields #[vl, vu, .none] } }) (hl.push _) (Heap.IsSliceOf.new ..) pl pu .none (by simp) ?_ (by rw [sizeLine_eq]; (first | lia | omega))) (by with_unfolding_all rfl) (fun _ => rfl)
  refine k _ _ ?_ ⟨0, Heap.get?_push_size _ rfl⟩ fun _ _ e => Heap.get?_push_of_some _ (Heap.get?_push_of_some _ e)
  exact Heap.get?_none_of_le (by show h₃.objs.size ≤ (h₃.push _).objs.size; rw [Heap.size_push]; exact Nat.le_succ _)

theorem r_eqStrs {a b : Addr} {us vs : List Value} {xs : List Str} {Q : Value → Shared → Prop} (ha : h.IsList a us.toArray) (hb : h.IsList b vs.toArray) (h1 : StrsAre us xs) (h2 : StrsAre vs xs) (hu : A.units < cLine) (k : Q (.bool true) (st s h tk)) :
    wpAny (model prog w) A (compareOp .Eq (.ref a) (.ref b)) Q E (st s h tk) := by
  have l1 := h1.len_eq
  have l2 := h2.len_eq
  refine SeqAt.eq_listAt (s := st s h tk) (e := fun _ => true) ha hb (by simp; (first | lia | omega)) hu (fun j j1 j2 => ?_) ?_
  · obtain ⟨t, e1, _⟩ := strs_get' h1 (show us[j]? = some (us.toArray[j]) by simp)
    obtain ⟨u, e2, _⟩ := strs_get' h2 (show vs[j]? = some (vs.toArray[j]) by simp)
    rw [e1, e2]
    have := (eqGives_str (xs.getD j "") (xs.getD j "") t u).at A.in1 (st s h tk)
    simpa using this
  · have : (List.range us.toArray.size).all (fun _ => true) = true := by simp
    rw [this]; exact k

theorem r_itemLT {value slice : Expr} {l : Addr} {items : Array Value} {i : Int} {j : Nat} {t : Tok} {x : Value} {Q : Value → Shared → Prop} (hl : h.IsList l items) (hj : i = (j : Int)) (hf : j < 100000) (hx : items[j]? = some x) (k : Q x (st s h tk))
    (hs : subscripted slice false (.ref l) (.int i t) = operate [.ref l, .int i t] (getItem (.ref l) (.int i t)) := by with_unfolding_all rfl) :
    wpAny (model prog w) A (subscriptTail value slice (.ref l) (.int i t)) Q E (st s h tk) :=
  kba_turn (value' := .Name "x" default) (fun _ => rfl) (r_itemL hl hj hf hx k hs (fun _ => rfl))
theorem r_sliceS {pos : Pos} {S : Shared} {Q : Value → Shared → Prop} {value : Expr} {lower upper : Option Expr} {p : Pos}
    (k : wpAny (model prog w) A (eval value env) (fun o s₁ => wpAny (model prog w) A (evalPart lower env) (fun vl s₂ => wpAny (model prog w) A (evalPart upper env) (fun vu s₃ =>
      ∃ h₃ tk₃ x t lo hi, s₃ = st s h₃ tk₃ ∧ o = .str x t ∧ x.length ≤ 100000 ∧ IsPart vl lo ∧ IsPart vu hi ∧
        ∀ t' h' tk', Stay h₃ h' → Q (.str (Txt.slice x lo hi) t') (st s h' tk')) E s₂) E s₁) E S) :
    wpAny (model prog w) A (eval (.Subscript value (.Slice lower upper none p) pos) env) Q E S := by
  refine Subscript_ (wpAny_mono k (fun o s₁ k₁ => wpAny_Slice (wpAny_mono k₁ (fun vl s₂ k₂ => wpAny_mono k₂ (fun vu s₃ k₃ => ?_) fun _ _ e => e) fun _ _ e => e)) fun _ _ e => e)
  (first | (refine Mine.e6_6 (k₃) ?_; rintro h₃ tk₃ x t lo hi rfl rfl hz pl pu k) | (obtain ⟨h₃, tk₃, x, t, lo, hi, rfl, rfl, hz, pl, pu, k⟩ := k₃))
  rw [evalPart_none]
  refine wpAny_pure ?_
  have KH : KeptH (Stay h₃) := fun h ob S => S.push ob
  have fin : ∀ h' t' k', Stay h₃ h' → Q (.str (Txt.slice x lo hi) t') { st s h₃ tk₃ with heap := h', toks := k' } := fun h' t' k' S => k t' h' k' S
  refine kba_turn (value' := .Name "x" default) (fun _ => rfl) ?_
  cases pl with
  | none => cases pu with
    | none => exact tail_of_ItemOn (SBH.sliceItem_nn (s := st s h₃ tk₃) KH (Stay.refl _) fin (by rw [sizeLine_eq]; (first | lia | omega))) (by with_unfolding_all rfl) (fun _ => rfl)
    | int j uj => exact tail_of_ItemOn (SBH.sliceItem_ns (s := st s h₃ tk₃) KH (Stay.refl _) fin (by rw [sizeLine_eq]; (first | lia | omega))) (by with_unfolding_all rfl) (fun _ => rfl)
  | int i ui => cases pu with
    | none => exact tail_of_ItemOn (SBH.sliceItem_sn (s := st s h₃ tk₃) KH (Stay.refl _) fin (by rw [sizeLine_eq]; (first | lia | omega))) (by with_unfolding_all rfl) (fun _ => rfl)
    | int j uj => exact tail_of_ItemOn (SBH.sliceItem_ss (s := st s h₃ tk₃) KH (Stay.refl _) fin (by rw [sizeLine_eq]; (first | lia | omega))) (by with_unfolding_all rfl) (fun _ => rfl)
theorem r_itemLn {value slice : Expr} {l : Addr} {items : Array Value} {i : Int} {j : Nat} {t : Tok} {x : Value} {Q : Value → Shared → Prop} (hl : h.IsList l items) (hj : i = -(j : Int)) (h1 : 1 ≤ j) (h2 : j ≤ items.size) (hf : items.size < 100000) (hx : items[items.size - j]? = some x) (k : Q x (st s h tk))
    (hs : subscripted slice false (.ref l) (.int i t) = operate [.ref l, .int i t] (getItem (.ref l) (.int i t)) := by with_unfolding_all rfl) :
    wpAny (model prog w) A (subscriptTail value slice (.ref l) (.int i t)) Q E (st s h tk) := by
  subst hj
  refine kba_turn (value' := .Name "x" default) (fun _ => rfl) ?_
  exact subscriptTail_builtin (s := st s h tk) (Heap.IsList.typeIs (s := st s h tk) hl) list_getitem_lookup (wpAny_getItem_list_neg (s := st s h tk) hl (by (first | lia | omega)) (by (first | lia | omega)) (by (first | lia | omega)) (by rw [show (-(j : Int) + items.size).toNat = items.size - j by (first | lia | omega)]; exact hx) k) hs (fun _ => rfl)
theorem stLk {x : Str} {v : Value} {n : Nat} {Q : Unit → Shared → Prop} (htk : n ≤ tk) (F : Fm G L m h) (k : ∀ h' tk', n ≤ tk' → Fm G L (fun y => if y = x then some v else m y) h' → Off L h h' → Q () (st s h' tk'))
    (hL : env.locals = L := by rfl) (hk : env.scope.kind = .function := by rfl) (hx : env.kindOf x = some .local := by rfl) : wpAny (model prog w) A (storeName env x v) Q E (st s h tk) :=
  wpAny_with_toks (n := n) (s := st s h tk) htk (stL F (fun h' tk' F' O' h1 => k h' tk' h1 F' O') hL hk hx)
theorem slice_neg2 (items : Array Value) (hb : 2 ≤ items.size) : slicePick items none (some (-2)) none = (items.toList.take (items.size - 2)).toArray := by
  have e1 : sliceBounds none (some (-2)) none items.size = sliceBounds none (some ((items.size - 2 : Nat) : Int)) none items.size := by
    simp only [sliceBounds, Option.getD_none]
    have h2 : ¬ (((items.size - 2 : Nat) : Int) < 0) := by (first | lia | omega)
    simp only [h2, if_false, show (1 : Int) > 0 by decide, if_true, show (-2 : Int) < 0 by decide]
    congr 1
    congr 1
    (first | lia | omega)
  have e := slice_upto items (items.size - 2) (by (first | lia | omega))
  unfold slicePick at e ⊢
  rw [e1, e]
theorem r_neg {c : Nat} {p pos : Pos} {i : Int} {Q : Value → Shared → Prop} (k : ∀ t tk', Q (.int (-i) t) (st s h tk')) : wpAny (model prog w) A (eval (.UnaryOp .USub (.Constant (.int i) c p) pos) env) Q E (st s h tk) :=
  UnaryOp_ (r_int (PyProof.Rows.neg_int (s := st s h (tk + 1)) (k _ _)))
theorem r_while {test : Expr} {body rest : List Stmt} {pos : Pos} {Q : Flow → Shared → Prop} (J : Nat → Heap → Prop) (N : Heap → Prop) {n₀ : Nat} (j0 : J n₀ h)
    (turn : ∀ n h tk, J n h → wpAny (model prog w) A (isTrue test env (eval test env)) (fun b s₂ =>
      if b = true then wpAny (model prog w) A (execs body env) (fun f s₃ => f = .next ∧ ∃ h' tk' n', s₃ = st s h' tk' ∧ n' < n ∧ J n' h') (fun _ _ => False) s₂ else ∃ h' tk', s₂ = st s h' tk' ∧ N h') (fun _ _ => False) (st s h tk))
    (k : ∀ h' tk', N h' → wpAny (model prog w) A (execs rest env) Q E (st s h' tk')) : wpAny (model prog w) A (execs (.While test body [] pos :: rest) env) Q E (st s h tk) := by
  refine wpAny_execs_cons (wpAny_While (codeAny_whileLoop (fun n s' => ∃ h' tk', s' = st s h' tk' ∧ J n h') ?_ n₀ ⟨h, tk, rfl, j0⟩))
  (rintro n s' hcj; (first | (refine Mine.e2_2 hcj ?_; clear hcj; rintro h' tk' rfl j) | (obtain ⟨h', tk', rfl, j⟩ := hcj)))
  refine wpAny_mono (turn n h' tk' j) (fun b s₂ q => ?_) fun _ _ e => e.elim
  cases b with
  | false =>
    simp only [Bool.false_eq_true, if_false] at q ⊢
    (first | (refine Mine.e2_2 (q) ?_; rintro h₂ tk₂ rfl q) | (obtain ⟨h₂, tk₂, rfl, q⟩ := q))
    exact wpAny_execs_nil (k h₂ tk₂ q)
  | true =>
    simp only [if_true] at q ⊢
    refine wpAny_mono q (fun f s₃ q₃ => ?_) fun _ _ e => e.elim
    (obtain ⟨rfl, h₃, tk₃, n', rfl, hn, j'⟩ := q₃)
    exact ⟨n', hn, h₃, tk₃, rfl, j'⟩
theorem OffL.hid {X : List Addr} {h h' : Heap} (O : OffL X h h') : Stay (hideAll h X) (hideAll h' X) := fun b o e => by
  have nb : b ∉ X := fun q => by rw [hideAll_none _ q] at e; cases e
  exact hideAll_get _ (O b o nb (of_hideAll _ e)) nb
theorem hid_more {X Y : List Addr} {h : Heap} (hs : ∀ z ∈ Y, z ∈ X) : Stay (hideAll h X) (hideAll h Y) := fun b o e =>
  hideAll_get _ (of_hideAll _ e) fun q => by rw [hideAll_none _ (hs b q)] at e; cases e
theorem hid_plain {X : List Addr} {h : Heap} {a : Addr} {its : Array Value} (x : h.PlainList a its) (n : a ∉ X) : (hideAll h X).PlainList a its := let ⟨k, e⟩ := x; ⟨k, hideAll_get _ e n⟩
theorem plain_of_hid {X : List Addr} {h : Heap} {a : Addr} {its : Array Value} (x : (hideAll h X).PlainList a its) : h.PlainList a its := plain_stay x fun b o e => of_hideAll _ e
noncomputable def ListsS (G : Heap) (v : Value) (xss : List (List Str)) : Prop := ∃ a us, v = .ref a ∧ G.PlainList a (List.toArray us) ∧ Paired (StrsAt G) us xss
theorem ListsS.stay {G G' : Heap} {v : Value} {xss : List (List Str)} (x : ListsS G v xss) (S : Stay G G') : ListsS G' v xss := let ⟨a, us, e, p, i⟩ := x; ⟨a, us, e, plain_stay p S, paired_imp (fun _ _ q => q.stay S) i⟩
theorem strs_append {a b : List Value} {x y : List Str} (h1 : StrsAre a x) (h2 : StrsAre b y) : StrsAre (a ++ b) (x ++ y) := by
  induction h1 with
  | nil => exact h2
  | cons z u _ ih => exact .cons z u ih
theorem strs_take {a : List Value} {x : List Str} (h1 : StrsAre a x) : ∀ n, StrsAre (a.take n) (x.take n) := by
  induction h1 with
  | nil => intro n; simp; exact .nil
  | cons z u _ ih => intro n; cases n with
    | zero => exact .nil
    | succ n => exact .cons z u (ih n)
theorem r_swap2 {x y : Str} {p q tp pos : Pos} {c : Nat} {value : Expr} {rest : List Stmt} {Q : Flow → Shared → Prop} {S : Shared} (hh : A.handled = none)
    (k : wpAny (model prog w) A (eval value env) (fun v s₁ => ∃ h₁ tk₁ t a b m₁, s₁ = st s h₁ tk₁ ∧ v = .ref t ∧ h₁.IsTuple t #[a, b] ∧ Fm G L m₁ h₁ ∧
      ∀ h' tk', Fm G L (fun z => if z = x then some a else if z = y then some b else m₁ z) h' → Off L h₁ h' → wpAny (model prog w) A (execs rest env) Q E (st s h' tk')) E S)
    (hL : env.locals = L := by rfl) (hk : env.scope.kind = .function := by rfl) (hx : env.kindOf x = some .local := by rfl) (hy : env.kindOf y = some .local := by rfl)
    (hs : swapsWithSole [.Tuple [.Name x p, .Name y q] c tp] value pos.line env = pure false := by rfl)
    (hw : swappedStores [.Tuple [.Name x p, .Name y q] c tp] value env = pure (some [x, y]) := by rfl) :
    wpAny (model prog w) A (execs (.Assign [.Tuple [.Name x p, .Name y q] c tp] value pos :: rest) env) Q E S := by
  refine wpAny_execs_cons (Assign_Tuple_swapped (names := [x, y]) (wpAny_mono k (fun v s₁ k₁ => ?_) fun _ _ e => e) hs hw)
  (first | (refine Mine.e6_5 (k₁) ?_; rintro h₁ tk₁ t a b m₁ rfl rfl ht F k) | (obtain ⟨h₁, tk₁, t, a, b, m₁, rfl, rfl, ht, F, k⟩ := k₁))
  refine unpackItems_tuple (s := st s h₁ tk₁) (items := #[a, b]) hh ht fun h₂ he => ?_
  have hst : Stay h₁ h₂ := fun b o e => he b o (Nat.ne_of_lt (Heap.lt_size e)) e
  show wpAny _ _ (holding [a] (bindName env y b) >>= fun _ => (holding [] (bindName env x a) >>= fun _ => pure ())) _ _ _
  refine wpAny_bind (wpAny_holding (wpAny_bindName ?_))
  refine stL (s := s) (tk := tk₁) (F.stay hst) (fun h₃ tk₃ F₃ O₃ => ?_) hL hk hy
  refine wpAny_bind (wpAny_holding (wpAny_bindName ?_))
  exact stL F₃ (fun h₄ tk₄ F₄ O₄ => wpAny_pure (k h₄ tk₄ F₄ ((hst.off.trans O₃).trans O₄))) hL hk hx
theorem isCell_at {h h' : Heap} {c : Nat} {v : Option Value} (x : h.IsCell c v) (e : ∀ o, h.get? c = some o → h'.get? c = some o) : h'.IsCell c v := let ⟨o, a, b⟩ := x; ⟨o, e _ a, b⟩
theorem hid_get {X Y : List Addr} {h h' : Heap} (O : ∀ b o, b ∉ X → h.get? b = some o → h'.get? b = some o ∧ b ∉ Y) : Stay (hideAll h X) (hideAll h' Y) := fun b o e => by
  have nb : b ∉ X := fun q => by rw [hideAll_none _ q] at e; cases e
  have := O b o nb (of_hideAll _ e)
  exact hideAll_get _ this.1 this.2
end
end Mine
end
section
open PySem PySem.W PySem.Calls PyProof.Rows
set_option Elab.async false
set_option maxRecDepth 100000
set_option linter.unusedVariables false
namespace Mine

noncomputable def cmpF (x y : Str) : Int := if (x.length : Int) - (y.length : Int) ≠ 0 then (x.length : Int) - (y.length : Int) else PyProof.Rows.b2i (decide (y.cps.toList < x.cps.toList)) - PyProof.Rows.b2i (decide (x.cps.toList < y.cps.toList))
noncomputable def figG (n m : Int) : Int := (m.fdiv (8 ^ (2 - n.fmod 3).toNat)).fmod 8
noncomputable def abvG (n m : Int) : Int := (m.fdiv (2 ^ (11 - n.fmod 3).toNat)).fmod 2
noncomputable def endsG (n : Int) : Str := if decide (n.fmod 3 = 2) = true then Str.ofString ".xTt" else Str.ofString ".xSs"
noncomputable def signsG (n m : Int) : List Str := [if decide (figG n m > 3) = true then Str.ofString "r" else Str.ofString ".", if decide ((figG n m).fmod 4 > 1) = true then Str.ofString "w" else Str.ofString ".", ⟨#[(endsG n).cps.getD ((figG n m).fmod 2 + 2 * abvG n m).toNat 0]⟩]

section
variable {prog : Program} {w : World} {A : Around} {s : Shared} {h : Heap} {mg mb : Str → Option Value}
set_option maxHeartbeats 4000000 in
theorem c_compare {x y : Str} {t u : Tok} (R : Rm 1 A) (B : Bas mg mb h) (X : FnAt h 132 131 36 .none) (hlen : mg "len" = none) (hx : x.length ≤ 10000) (hy : y.length ≤ 10000) :
    Gives prog w A (call (.ref 132) [.str x t, .str y u]) s h (fun v _ => ∃ t, v = .int (cmpF x y) t) := by
  refine gives_def (binds := [("one", .str x t), ("two", .str y u)]) R B X (fun pm tk => BindsTo.of_eq rfl) (by decide +kernel) (by rfl) fun pm L h₀ tk htk F => ?_
  generalize hA' : A.deeper (callEnv (fnD 36 131 pm .none) L 132) = A' at *
  refine r_ret ?_
  refine BoolOp_or ?_
  (with_reducible refine wpAny_BinOp ?_)
  (with_reducible refine r_call ?_)
  refine nmB (B.stay F.keep) hlen rfl ?_
  refine r_cwB (r_sp1 (nmL F rfl (r_sp0 (r_lenS (by (first | lia | omega)) fun t1 tk1 => ?_))))
  (with_reducible refine r_call ?_)
  refine nmB (B.stay F.keep) hlen rfl ?_
  refine r_cwB (r_sp1 (nmL F rfl (r_sp0 (r_lenS (by (first | lia | omega)) fun t2 tk2 => ?_))))
  (((with_reducible refine r_sub ?_)))
  (with_reducible refine PyProof.Rows.truthy_int ?_)
  refine r_split (fun hc => ?_) (fun hc => ?_)
  · refine ⟨_, _, rfl, F.keep, _, congrArg (Value.int · _) ?_⟩
    unfold cmpF
    rw [if_pos (by simpa using hc)]
  · refine BoolOp_one ?_
    (with_reducible refine wpAny_BinOp ?_)
    (((with_reducible refine wpAny_Compare1 ?_ ?mk); (case mk => with_unfolding_all rfl)))
    refine nmL F rfl ?_
    refine nmL F rfl ?_
    refine PySem.P.gt_str (s := st s h₀ _) ?_
    (((with_reducible refine wpAny_Compare1 ?_ ?mk); (case mk => with_unfolding_all rfl)))
    refine nmL F rfl ?_
    refine nmL F rfl ?_
    refine PyProof.Rows.lt_str (s := st s h₀ _) ?_
    refine PyProof.Rows.sub_bool (s := st s h₀ _) ?_
    refine ⟨_, _, rfl, F.keep, _, congrArg (Value.int · _) ?_⟩
    unfold cmpF
    rw [if_neg (by simpa using hc)]

set_option maxHeartbeats 4000000 in
theorem c_signs {n m : Int} {t u : Tok} {X : List Addr} (R : Rm 1 A) (B : Bas mg mb h) (XF : FnAt h 139 138 37 .none) (hm : 0 ≤ m ∧ m < 65536) :
    Gives prog w A (call (.ref 139) [.int n t, .int m u]) s h (fun v h' => ∃ a us, v = .ref a ∧ h.get? a = none ∧ h'.PlainList a (List.toArray us) ∧ StrsAre us (signsG n m)) := by
  refine gives_def (binds := [("number", .int n t), ("mode", .int m u)]) R B XF (fun pm tk => BindsTo.of_eq rfl) (by decide +kernel) (by rfl) fun pm L h₀ tk htk F => ?_
  have hdA : (A.deeper (callEnv (fnD 37 138 pm .none) L 139)).handled = none := R.hd
  generalize hA' : A.deeper (callEnv (fnD 37 138 pm .none) L 139) = A' at *
  have g1 := Int.fmod_nonneg_of_pos (a := n) (b := 3) (by decide)
  have g2 := Int.fmod_lt_of_pos n (b := 3) (by decide)
  have hp : n.fmod 3 = 0 ∨ n.fmod 3 = 1 ∨ n.fmod 3 = 2 := by (first | lia | omega)
  have p8 : (8 : Int) ^ (2 - n.fmod 3).toNat ≠ 0 ∧ ((8 : Int) ^ (2 - n.fmod 3).toNat).natAbs < 1073741824 := by rcases hp with e | e | e <;> rw [e] <;> decide
  have p2 : (2 : Int) ^ (11 - n.fmod 3).toNat ≠ 0 ∧ ((2 : Int) ^ (11 - n.fmod 3).toNat).natAbs < 1073741824 := by rcases hp with e | e | e <;> rw [e] <;> decide
  refine r_assign ?_
  (with_reducible refine wpAny_BinOp ?_)
  (((with_reducible show wpAny _ _ (eval (Expr.Name _ _) _) _ _ _); refine nmL (by assumption) (by first | rfl | assumption) ?_))
  (((with_reducible refine r_int ?_)))
  (((with_reducible refine r_fmod ?mm ?_); (case mm => first | decide | assumption | (first | lia | omega))))
  refine stL F fun h₁ tk₁ F₁ O₁ => ?_
  refine r_swap2 (s := s) (G := h) (L := L) hdA ?_
  refine r_tuple ?_
  refine r_sp1 ?_
  (with_reducible refine wpAny_BinOp ?_)
  (with_reducible refine wpAny_BinOp ?_)
  refine nmL F₁ rfl ?_
  (with_reducible refine wpAny_BinOp ?_)
  (((with_reducible refine r_int ?_)))
  (with_reducible refine wpAny_BinOp ?_)
  (((with_reducible refine r_int ?_)))
  refine nmL F₁ rfl ?_
  (((with_reducible refine r_sub ?_)))
  refine PyProof.Rows.pow_int_small (s := st s h₁ _) (by (first | lia | omega)) (by (first | lia | omega)) (by decide) ?_
  refine r_fdiv (tk := _) (h := h₁) p8.1 p8.2 ?_
  (((with_reducible refine r_int ?_)))
  (((with_reducible refine r_fmod ?mm ?_); (case mm => first | decide | assumption | (first | lia | omega))))
  refine r_sp1 ?_
  (with_reducible refine wpAny_BinOp ?_)
  (with_reducible refine wpAny_BinOp ?_)
  refine nmL F₁ rfl ?_
  (with_reducible refine wpAny_BinOp ?_)
  (((with_reducible refine r_int ?_)))
  (with_reducible refine wpAny_BinOp ?_)
  (((with_reducible refine r_int ?_)))
  refine nmL F₁ rfl ?_
  (((with_reducible refine r_sub ?_)))
  refine PyProof.Rows.pow_int_small (s := st s h₁ _) (by (first | lia | omega)) (by (first | lia | omega)) (by decide) ?_
  refine r_fdiv (tk := _) (h := h₁) p2.1 p2.2 ?_
  (((with_reducible refine r_int ?_)))
  (((with_reducible refine r_fmod ?mm ?_); (case mm => first | decide | assumption | (first | lia | omega))))
  refine r_sp0 (r_newTuple (by simp) fun ta h₂ fta hta S₂ => ?_)
  refine ⟨h₂, _, ta, _, _, _, rfl, rfl, hta, F₁.stay S₂, fun h₃ tk₃ F₃ O₃ => ?_⟩
  refine r_assign ?_
  refine r_pickS (s := s) ?_
  (((with_reducible refine wpAny_isTrue_Compare1 ?_ ?mk); (case mk => with_unfolding_all rfl)))
  refine nmL F₃ rfl ?_
  (((with_reducible refine r_int ?_)))
  (with_reducible refine PyProof.Rows.eq_int ?_)
  (with_reducible refine wpAny_truthy_bool ?_)
  refine ⟨_, _, rfl, fun t₁ tk₄ => ?_⟩
  refine stL F₃ fun h₄ tk₅ F₄ O₄ => ?_
  have a1 := Int.fmod_nonneg_of_pos (a := m.fdiv (8 ^ (2 - n.fmod 3).toNat)) (b := 8) (by decide)
  have a2 := Int.fmod_lt_of_pos (m.fdiv (8 ^ (2 - n.fmod 3).toNat)) (b := 8) (by decide)
  have b1 := Int.fmod_nonneg_of_pos (a := m.fdiv (2 ^ (11 - n.fmod 3).toNat)) (b := 2) (by decide)
  have b2 := Int.fmod_lt_of_pos (m.fdiv (2 ^ (11 - n.fmod 3).toNat)) (b := 2) (by decide)
  have c1 := Int.fmod_nonneg_of_pos (a := figG n m) (b := 2) (by decide)
  have c2 := Int.fmod_lt_of_pos (figG n m) (b := 2) (by decide)
  change 0 ≤ figG n m at a1
  change figG n m < 8 at a2
  change 0 ≤ abvG n m at b1
  change abvG n m < 2 at b2
  refine r_ret (r_list (r_sp1 ?_))
  refine r_pickS (s := s) ?_
  (((with_reducible refine wpAny_isTrue_Compare1 ?_ ?mk); (case mk => with_unfolding_all rfl)))
  refine nmL F₄ rfl ?_
  (((with_reducible refine r_int ?_)))
  (with_reducible refine PyProof.Rows.gt_int ?_)
  (with_reducible refine wpAny_truthy_bool ?_)
  refine ⟨_, _, rfl, fun t₂ tk₆ => r_sp1 ?_⟩
  refine r_pickS (s := s) ?_
  (((with_reducible refine wpAny_isTrue_Compare1 ?_ ?mk); (case mk => with_unfolding_all rfl)))
  (with_reducible refine wpAny_BinOp ?_)
  refine nmL F₄ rfl ?_
  (((with_reducible refine r_int ?_)))
  (((with_reducible refine r_fmod ?mm ?_); (case mm => first | decide | assumption | (first | lia | omega))))
  (((with_reducible refine r_int ?_)))
  (with_reducible refine PyProof.Rows.gt_int ?_)
  (with_reducible refine wpAny_truthy_bool ?_)
  refine ⟨_, _, rfl, fun t₃ tk₇ => r_sp1 ?_⟩
  refine r_subs (nmL F₄ rfl ?_)
  (with_reducible refine wpAny_BinOp ?_)
  (with_reducible refine wpAny_BinOp ?_)
  refine nmL F₄ rfl ?_
  (((with_reducible refine r_int ?_)))
  (((with_reducible refine r_fmod ?mm ?_); (case mm => first | decide | assumption | (first | lia | omega))))
  (with_reducible refine wpAny_BinOp ?_)
  (((with_reducible refine r_int ?_)))
  refine nmL F₄ rfl ?_
  refine r_mul (b := abvG n m) (intBits_le_64 (by (first | lia | omega)) (by (first | lia | omega))) ?_
  (((with_reducible refine r_add ?_)))
  have el : (endsG n).length = 4 := by unfold endsG; split <;> rfl
  have hc4 : ((figG n m).fmod 2 + 2 * abvG n m).toNat < 4 := by (first | lia | omega)
  refine r_itemS (x := endsG n) (i := (figG n m).fmod 2 + 2 * abvG n m) (j := ((figG n m).fmod 2 + 2 * abvG n m).toNat) (c := (endsG n).cps.getD ((figG n m).fmod 2 + 2 * abvG n m).toNat 0) (by (first | lia | omega)) (by (first | lia | omega)) (by have : (endsG n).cps.size = 4 := el; simp [this, hc4]) fun t₄ tk₈ => ?_
  refine r_sp0 (r_newList (by simp) fun q h₅ fq hq S₅ => ?_)
  refine ⟨h₅, _, rfl, (F₄.stay S₅).keep, q, _, rfl, fresh_of F₄.keep fq, hq, .cons _ _ (.cons _ _ (.cons _ _ .nil))⟩
end
end Mine
end
section
open PySem PySem.W PySem.Calls PyProof.Rows
set_option Elab.async false
set_option maxRecDepth 100000
set_option linter.unusedVariables false
namespace Mine

theorem Bt.ground {G h h' : Heap} {L : Addr} {m : Str → Option Value} (F : Fm G L m h) (x : Bt L m h h') : Stay G h' := fun b o e => x.keep b o (fun q => by rw [q, F.fresh] at e; cases e) (F.keep b o e)
theorem Bt.fm {G h h' : Heap} {L : Addr} {m : Str → Option Value} (F : Fm G L m h) (x : Bt L m h h') : Fm G L m h' := ⟨x.ns, x.ground F, F.fresh⟩

noncomputable def kLt (x y : Str) : Bool := decide (x.length < y.length) || (decide (x.length = y.length) && decide (x.cps.toList < y.cps.toList))
theorem kLt_iff {x y : Str} : kLt x y = true ↔ x.length < y.length ∨ (x.length = y.length ∧ x.cps.toList < y.cps.toList) := by simp [kLt]
theorem kLt_asym {x y : Str} (h : kLt x y = true) : kLt y x = false := by
  cases e : kLt y x with
  | false => rfl
  | true =>
    rw [kLt_iff] at h e
    rcases h with h | ⟨h1, h2⟩ <;> rcases e with e | ⟨e1, e2⟩
    · (first | lia | omega)
    · (first | lia | omega)
    · (first | lia | omega)
    · exact absurd e2 (List.lt_asymm h2)
theorem kLt_total {x y : Str} (h1 : kLt x y = false) (h2 : kLt y x = false) : x = y := by
  have a1 : ¬ (x.length < y.length ∨ (x.length = y.length ∧ x.cps.toList < y.cps.toList)) := fun q => by rw [kLt_iff.mpr q] at h1; cases h1
  have a2 : ¬ (y.length < x.length ∨ (y.length = x.length ∧ y.cps.toList < x.cps.toList)) := fun q => by rw [kLt_iff.mpr q] at h2; cases h2
  have hl : x.length = y.length := by (first | lia | omega)
  have n1 : ¬ x.cps.toList < y.cps.toList := fun q => a1 (.inr ⟨hl, q⟩)
  have n2 : ¬ y.cps.toList < x.cps.toList := fun q => a2 (.inr ⟨hl.symm, q⟩)
  have : x.cps.toList = y.cps.toList := List.le_antisymm (List.not_lt.mp n2) (List.not_lt.mp n1)
  cases x; cases y
  simp only at this
  rw [Array.toList_inj.mp this]
theorem kLt_tr {x y z : Str} (h1 : kLt y x = false) (h2 : kLt z y = false) : kLt z x = false := by
  cases e : kLt z x with
  | false => rfl
  | true =>
    have a1 : ¬ (y.length < x.length ∨ (y.length = x.length ∧ y.cps.toList < x.cps.toList)) := fun q => by rw [kLt_iff.mpr q] at h1; cases h1
    have a2 : ¬ (z.length < y.length ∨ (z.length = y.length ∧ z.cps.toList < y.cps.toList)) := fun q => by rw [kLt_iff.mpr q] at h2; cases h2
    rw [kLt_iff] at e
    rcases e with e | ⟨e1, e2⟩
    · (first | lia | omega)
    · have l1 : y.length = x.length := by (first | lia | omega)
      have l2 : z.length = y.length := by (first | lia | omega)
      have n1 : ¬ y.cps.toList < x.cps.toList := fun q => a1 (.inr ⟨l1, q⟩)
      have n2 : ¬ z.cps.toList < y.cps.toList := fun q => a2 (.inr ⟨l2, q⟩)
      exact absurd e2 (List.not_lt.mpr (List.le_trans (List.not_lt.mp n1) (List.not_lt.mp n2)))
theorem cmp_lt (x y : Str) : decide (cmpF x y < 0) = kLt x y := by
  unfold cmpF
  by_cases hl : (x.length : Int) - (y.length : Int) ≠ 0
  · rw [if_pos hl]
    cases e : kLt x y with
    | true =>
      rw [kLt_iff] at e
      simp; (first | lia | omega)
    | false =>
      have a1 : ¬ (x.length < y.length ∨ (x.length = y.length ∧ x.cps.toList < y.cps.toList)) := fun q => by rw [kLt_iff.mpr q] at e; cases e
      simp; (first | lia | omega)
  · rw [if_neg hl]
    have hl : x.length = y.length := by (first | lia | omega)
    by_cases c1 : x.cps.toList < y.cps.toList
    · have c2 : ¬ y.cps.toList < x.cps.toList := List.lt_asymm c1
      rw [kLt_iff.mpr (.inr ⟨hl, c1⟩)]
      simp [c1, c2, PyProof.Rows.b2i]
    · have e : kLt x y = false := by
        cases e : kLt x y with
        | false => rfl
        | true => rw [kLt_iff] at e; rcases e with e | e; (first | lia | omega); exact absurd e.2 c1
      rw [e]
      by_cases c2 : y.cps.toList < x.cps.toList <;> simp [c1, c2, PyProof.Rows.b2i]
noncomputable def iLt (xs : List Str) (i j : Nat) : Bool := kLt (xs.getD i "") (xs.getD j "")
theorem iOrd (xs : List Str) : Ord (iLt xs) := ⟨fun i j h => kLt_asym h, fun i j k h1 h2 => kLt_tr h1 h2⟩
noncomputable def sortL (xs : List Str) : List Str := (goT (iLt xs) (kas_sort xs.length)).toList.map fun i => xs.getD i ""

theorem strs_pick {us : List Value} {xs : List Str} (x : StrsAre us xs) : ∀ (p : List Nat), (∀ i ∈ p, i < xs.length) → StrsAre (p.map fun i => us.getD i Value.none) (p.map fun i => xs.getD i "")
  | [], _ => .nil
  | i :: p, hp => by
    have hi := hp i (by simp)
    have hl : us.length = xs.length := x.len_eq
    have hu : us[i]? = some (us.getD i Value.none) := by simp [hl, hi]
    (first | (refine Mine.e1_2 (strs_get' x hu) ?_; rintro t e _) | (refine Mine.e2_1 (strs_get' x hu) ?_; rintro t e _) | (obtain ⟨t, e, _⟩ := strs_get' x hu))
    rw [List.map_cons, List.map_cons, e]
    exact .cons _ t (strs_pick x p fun j hj => hp j (by simp [hj]))
theorem go_isP {lt : Nat → Nat → Bool} (O : Ord lt) {n : Nat} (hn : 2 ≤ n) : IsP n (goT lt (kas_sort n)) ∧ Up lt (goT lt (kas_sort n)) n := wpT_go _ (t_sort O hn)
theorem go_lt {lt : Nat → Nat → Bool} (O : Ord lt) {n : Nat} (hn : 2 ≤ n) : ∀ i ∈ (goT lt (kas_sort n)).toList, i < n := by
  intro i hi
  have := (Array.Perm.mem_iff (go_isP O hn).1).mp (by simpa using hi)
  simpa using this
noncomputable def rightE2 : Expr → Expr
  | .BoolOp _ vs _ => vs.getD 2 default
  | _ => default
noncomputable def lamT : Expr := kwE 0 (cmpR (rightE2 (asg (stmtAt 41 10))))

section
variable {prog : Program} {w : World} {A : Around} {E : Value → Shared → Prop} {s : Shared} {G h : Heap} {tk : Nat} {mg mb m : Str → Option Value} {L : Addr}
noncomputable def TupK (H : Heap) (v : Value) (x : Str) : Prop := ∃ a t u, v = .ref a ∧ H.IsTuple a #[.int (x.length : Int) t, .str x u]
theorem TupK.stay {H H' : Heap} {v : Value} {x : Str} (q : TupK H v x) (S : Stay H H') : TupK H' v x := let ⟨a, t, u, e, i⟩ := q; ⟨a, t, u, e, isTup_stay i S⟩
set_option maxHeartbeats 2000000 in
theorem c_lamT {f : Addr} {x : Str} {t : Tok} (R : Rm 1 A) (B : Bas mg mb h) (X : LamAt h f lamT []) (hlen : mg "len" = none) (hz : x.length ≤ 100000) :
    Gives prog w A (call (.ref f) [.str x t]) s h (fun b h' => ∀ Z : List Addr, (∀ z ∈ Z, ∃ o, h.get? z = some o) → TupK (hideAll h' Z) b x) := by
  (first | (refine Mine.e3_2 (X) ?_; rintro pm c ctv ho hcd) | (obtain ⟨pm, c, ctv, ho, hcd⟩ := X))
  refine gives_lam R B ho hcd (binds := [("text", .str x t)]) rfl (by decide) ?hl (fun L h₀ tk F => ?_) rfl rfl rfl
  case hl =>
    intro x hx
    simp at hx
    rcases hx with rfl <;> rfl
  show wpAny _ _ (eval (.Tuple _ _ _) _) _ _ _
  refine r_tuple (r_sp1 ?_)
  (with_reducible refine r_call ?_)
  refine nmB (B.stay F.keep) hlen rfl ?_
  refine r_cwB (r_sp1 (nmL F rfl (r_sp0 (r_lenS hz fun t₁ tk₁ => ?_))))
  refine r_sp1 (nmL F rfl (r_sp0 (r_newTuple (by simp) fun q h₁ fq hq S₁ => ?_)))
  refine ⟨h₁, _, rfl, F.keep.trans S₁, fun Z hZ => ⟨q, t₁, t, rfl, ?_⟩⟩
  (first | (refine Mine.e1_2 (hq) ?_; rintro o e r) | (refine Mine.e2_1 (hq) ?_; rintro o e r) | (obtain ⟨o, e, r⟩ := hq))
  exact ⟨o, hideAll_get _ e (fun z => by obtain ⟨o', e'⟩ := hZ q z; rw [F.keep _ _ e'] at fq; cases fq), r⟩

theorem sort_K {l C cc : Addr} {nm : Value} {xs : List Str} {us : List Value} {Q : Value → Shared → Prop} (F : Fm G L m h) (R : Rm 8 A) (B : Bas mg mb G) (K : KCls G C cc nm) (hc : G.IsCell cc (some (.ref 132))) (X : FnAt G 132 131 36 .none) (hlen : mg "len" = none)
    (hl : G.PlainList l (List.toArray us)) (hs : StrsAre us xs) (h2 : 2 ≤ xs.length) (h64 : xs.length < 64) (hz : ∀ i, (xs.getD i "").length ≤ 10000)
    (k : ∀ D h' tk' us', h.get? D = none → h'.PlainList D (List.toArray us') → StrsAre us' (sortL xs) → Bt L m h h' → Q (.ref D) (st s h' tk')) :
    wpAny (model prog w) A (call (.builtin "sorted") [.ref l] [("key", .ref C)]) Q E (st s h tk) := by
  have e : us.length = xs.length := hs.len_eq
  have R2 : Rm 6 A.in1.in1 := R.in1.in1
  refine wp_sorted (h := h) (L := L) (m := m) (f := .ref C) (vs := us) (Key := fun i kk g => ∃ x, kk = .ref x ∧ KInst g x C (us.getD i .none)) (lt := iLt xs) (κ := oneType') (P := fun p => p = goT (iLt xs) (kas_sort us.length))
    F.ns (plain_stay hl F.keep).isList (by (first | lia | omega)) (by (first | lia | omega)) (by unfold argsOk; kernel_rfl) (fun x => by unfold argsOk; kernel_rfl) (fun x => rfl) ?hm ?hkey ?hkind ?hlt ?hT ?k
  case hm => (rintro i kk g g' hcj; (first | (refine Mine.e1_2 hcj ?_; clear hcj; rintro x e1 e2 S) | (refine Mine.e2_1 hcj ?_; clear hcj; rintro x e1 e2 S) | (obtain ⟨x, e1, e2⟩ := hcj; rintro S))); exact ⟨x, e1, e2.stay S⟩
  case hkey =>
    intro i v h' Z hv bt hZ
    have S := bt.ground F
    have ev : us.getD i .none = v := by simp [List.getD, hv]
    refine (c_knew (R2.less (by decide)) (B.stay S) (K.stay S)).mono fun b h'' S' hb => ?_
    (first | (refine Mine.e1_2 (hb) ?_; rintro x e1 e2) | (refine Mine.e2_1 (hb) ?_; rintro x e1 e2) | (obtain ⟨x, e1, e2⟩ := hb))
    rw [ev]
    exact ⟨x, e1, e2 Z hZ⟩
  case hkind =>
    intro ks h' tk' Q hks bt hk q
    refine kas_kind (T := .ref C) (by (first | lia | omega)) (fun v hv => ?_) rfl (by simp) q
    obtain ⟨i, hi⟩ := List.getElem?_of_mem hv
    (obtain ⟨x, rfl, dx, od, e1, e2⟩ := hk i v hi)
    exact look_type (h := h') e1 rfl
  case hlt =>
    (rintro i j ki kj h' tk' Q hi hj bt hcj; (first | (refine Mine.e1_2 hcj ?_; clear hcj; rintro x rfl Ix ⟨y, rfl, Iy⟩ q) | (refine Mine.e2_1 hcj ?_; clear hcj; rintro x rfl Ix ⟨y, rfl, Iy⟩ q) | (obtain ⟨x, rfl, Ix⟩ := hcj; rintro ⟨y, rfl, Iy⟩ q)))
    have S := bt.ground F
    have gi : ∀ i, i < us.length → ∃ t, us.getD i .none = .str (xs.getD i "") t := fun i hi => by
      have hu : us[i]? = some (us.getD i Value.none) := by simp [hi]
      (first | (refine Mine.e1_2 (strs_get' hs hu) ?_; rintro t e _) | (refine Mine.e2_1 (strs_get' hs hu) ?_; rintro t e _) | (obtain ⟨t, e, _⟩ := strs_get' hs hu))
      exact ⟨t, e⟩
    obtain ⟨ti, ei⟩ := gi i hi
    obtain ⟨tj, ej⟩ := gi j hj
    rw [ei] at Ix
    rw [ej] at Iy
    (first | (refine Mine.e1_2 (id (X.stay S)) ?_; rintro pm ho hcd) | (refine Mine.e2_1 (id (X.stay S)) ?_; rintro pm ho hcd) | (obtain ⟨pm, ho, hcd⟩ := id (X.stay S)))
    refine c_klt (dd := cmpF (xs.getD i "") (xs.getD j "")) (R2.less (by decide)) (B.stay S) (K.stay S) (hc.keeps S) ho rfl Ix Iy rfl rfl (fun A' h'' R' S' => ?_) fun h'' tk'' S' => ?_
    · exact c_compare R' ((B.stay S).stay S') ((X.stay S).stay S') hlen (hz i) (hz j)
    · rw [cmp_lt]
      exact q h'' tk'' S'
  case hT => exact wpT_eq _ (t_sort (iOrd xs) (by (first | lia | omega)))
  case k =>
    rintro D h' tk' p rfl fD hDL hp bt
    refine k D h' tk' _ fD hp ?_ bt
    rw [e]
    exact strs_pick hs _ (go_lt (iOrd xs) h2)

theorem sort_T {l f : Addr} {xs : List Str} {us : List Value} {Q : Value → Shared → Prop} (F : Fm G L m h) (R : Rm 8 A) (B : Bas mg mb G) (X : LamAt G f lamT []) (hlen : mg "len" = none)
    (hl : G.PlainList l (List.toArray us)) (hs : StrsAre us xs) (h2 : 2 ≤ xs.length) (h64 : xs.length < 64) (hz : ∀ i, (xs.getD i "").length ≤ 10000)
    (k : ∀ D h' tk' us', h.get? D = none → h'.PlainList D (List.toArray us') → StrsAre us' (sortL xs) → Bt L m h h' → Q (.ref D) (st s h' tk')) :
    wpAny (model prog w) A (call (.builtin "sorted") [.ref l] [("key", .ref f)]) Q E (st s h tk) := by
  have e : us.length = xs.length := hs.len_eq
  have R2 : Rm 6 A.in1.in1 := R.in1.in1
  refine wp_sorted (h := h) (L := L) (m := m) (f := .ref f) (vs := us) (Key := fun i kk g => TupK g kk (xs.getD i "")) (lt := iLt xs) (κ := tuples' true) (P := fun p => p = goT (iLt xs) (kas_sort us.length))
    F.ns (plain_stay hl F.keep).isList (by (first | lia | omega)) (by (first | lia | omega)) (by unfold argsOk; kernel_rfl) (fun x => by unfold argsOk; kernel_rfl) (fun x => rfl) ?hm ?hkey ?hkind ?hlt ?hT ?k
  case hm => rintro i kk g g' x S; exact x.stay S
  case hkey =>
    intro i v h' Z hv bt hZ
    have S := bt.ground F
    (first | (refine Mine.e1_2 (strs_get' hs hv) ?_; rintro t rfl hi) | (refine Mine.e2_1 (strs_get' hs hv) ?_; rintro t rfl hi) | (obtain ⟨t, rfl, hi⟩ := strs_get' hs hv))
    exact (c_lamT (R2.less (by decide)) (B.stay S) (X.stay S) hlen (by have := hz i; (first | lia | omega))).mono fun b h'' S' hb => hb Z hZ
  case hkind =>
    intro ks h' tk' Q hks bt hk q
    have tups : ∀ (ks : List Value) (a : Nat), (∀ i k, ks[i]? = some k → TupK h' k (xs.getD (a + i) "")) → ∃ fs, KatTups h' ks fs ∧ fs.length = ks.length ∧ ∀ v ∈ fs, ∃ n t, v = .int n t := by
      intro ks
      induction ks with
      | nil => intro a _; exact ⟨[], trivial, rfl, by simp⟩
      | cons k ks ih =>
        intro a hk
        obtain ⟨fs, h1, h2, h3⟩ := ih (a + 1) fun i k' e => by have := hk (i + 1) k' (by simpa using e); rwa [show a + (i + 1) = a + 1 + i by (first | lia | omega)] at this
        (obtain ⟨b, t, u, rfl, o, e1, e2, n, e3⟩ := hk 0 k rfl)
        refine ⟨.int _ t :: fs, KatTups.cons e1 e2 e3 rfl h1, by simp [h2], fun v hv => ?_⟩
        rcases List.mem_cons.mp hv with rfl | hv
        · exact ⟨_, _, rfl⟩
        · exact h3 v hv
    obtain ⟨fs, h1, h2', h3⟩ := tups ks 0 fun i k e => by rw [Nat.zero_add]; exact hk i k e
    refine kat_kind (s := st s h' tk') h1 (by (first | lia | omega)) (fun v hv => ?_) (T := .type "int") rfl q
    (first | (refine Mine.e1_2 (h3 v hv) ?_; rintro n t rfl) | (refine Mine.e2_1 (h3 v hv) ?_; rintro n t rfl) | (obtain ⟨n, t, rfl⟩ := h3 v hv))
    exact Looks.of_pure rfl
  case hlt =>
    (rintro i j ki kj h' tk' Q hi hj bt hcj; (obtain ⟨a, t1, u1, rfl, oa, a1, a2, na, a3⟩ := hcj; rintro ⟨b, t2, u2, rfl, ob, b1, b2, nb, b3⟩ q))
    refine kat_lt (s := st s h' tk') a1 a3 b1 b3 ?_
    show KatLex _ _ _ _ _ _ [(.int _ _, .int _ _), (.str _ _, .str _ _)] 0 _
    generalize hx : xs.getD i "" = x at *
    generalize hy : xs.getD j "" = y at *
    have q' : ∀ b, b = kLt x y → Q b (st s h' tk') := fun b hb => by
      have := q h' tk' (Stay.refl _)
      unfold iLt at this
      rw [hx, hy] at this
      rw [hb]; exact this
    refine kat_cons (wpAny_eqBool_int ?_)
    refine kat_go (fun he => kat_yes ?_) (fun he => kat_no ?_)
    · have hl : x.length = y.length := by have : (x.length : Int) = y.length := by simpa using he
                                          (first | lia | omega)
      refine kat_cons (wpAny_eqBool_str ?_)
      refine kat_go (fun he => kat_yes ?_) (fun he => kat_no ?_)
      · have hxy : x = y := by simpa using he
        refine kat_nil (q' _ ?_)
        subst hxy
        have := (iOrd [x]).irr 0
        simpa [iLt] using this.symm
      · have hxy : x ≠ y := by simpa using he
        refine kat_one _ _ ?_
        refine PyProof.Rows.lt_str (s := st s h' tk') ?_
        show Q _ _
        refine q' _ ?_
        cases e : kLt x y with
        | true =>
          rw [kLt_iff] at e
          rcases e with e | e
          · (first | lia | omega)
          · simp [e.2]
        | false =>
          have : ¬ x.cps.toList < y.cps.toList := fun z => by rw [kLt_iff.mpr (.inr ⟨hl, z⟩)] at e; cases e
          simp [this]
    · have hl : x.length ≠ y.length := by have : ¬ (x.length : Int) = y.length := by simpa using he
                                          (first | lia | omega)
      refine oneLt_int ?_
      refine q' _ ?_
      cases e : kLt x y with
      | true =>
        rw [kLt_iff] at e
        rcases e with e | e
        · simp; (first | lia | omega)
        · exact absurd e.1 hl
      | false =>
        have : ¬ x.length < y.length := fun z => by rw [kLt_iff.mpr (.inl z)] at e; cases e
        simp; (first | lia | omega)
  case hT => exact wpT_eq _ (t_sort (iOrd xs) (by (first | lia | omega)))
  case k =>
    rintro D h' tk' p rfl fD hDL hp bt
    refine k D h' tk' _ fD hp ?_ bt
    rw [e]
    exact strs_pick hs _ (go_lt (iOrd xs) h2)
end
end Mine
end
section
open PySem PySem.W PySem.Calls PyProof.Rows
set_option Elab.async false
set_option maxRecDepth 100000
set_option linter.unusedVariables false
namespace Mine

noncomputable def endF (n : Int) : Str := ([Str.ofString "\n", Str.ofString "\r", Str.ofString "\r\n"].getD ((n.fdiv 3).fmod 3).toNat "")
noncomputable def placeF (n : Int) : Int := 3 * n.fmod 3 + 1
noncomputable def signsF (n : Int) (x : Str) : Str := Txt.replace (Txt.slice x (some (placeF n)) (some (placeF n + 3))) (Str.ofString "-") (Str.ofString ".")
noncomputable def pieceF (n : Int) (x : Str) : Str := (Str.ofString "." ++ Txt.join (endF n) [⟨#[(signsF n x).cps.getD 0 0]⟩, ⟨#[(signsF n x).cps.getD 1 0]⟩, ⟨#[(signsF n x).cps.getD 2 0]⟩]) ++ endF n

section
variable {prog : Program} {w : World} {A : Around} {s : Shared} {h : Heap} {mg mb : Str → Option Value}
theorem join3 (e a b c : Str) : Txt.join e [a, b, c] = (((a ++ e) ++ b) ++ e) ++ c := rfl
theorem endF_len (n : Int) : (endF n).length ≤ 2 := by
  have f1 := Int.fmod_nonneg_of_pos (a := n.fdiv 3) (b := 3) (by decide)
  have f2 := Int.fmod_lt_of_pos (n.fdiv 3) (b := 3) (by decide)
  have h1 : ((n.fdiv 3).fmod 3).toNat = 0 ∨ ((n.fdiv 3).fmod 3).toNat = 1 ∨ ((n.fdiv 3).fmod 3).toNat = 2 := by (first | lia | omega)
  unfold endF
  rcases h1 with e | e | e <;> rw [e] <;> decide
set_option maxHeartbeats 4000000 in
theorem c_piece {n : Int} {x : Str} {t u : Tok} (R : Rm 1 A) (B : Bas mg mb h) (X : FnAt h 118 117 34 .none) (hx : x.length ≤ 100) (hs : (signsF n x).length = 3) :
    Gives prog w A (call (.ref 118) [.int n t, .str x u]) s h (fun v _ => ∃ t, v = .str (pieceF n x) t) := by
  refine gives_def (binds := [("number", .int n t), ("listing", .str x u)]) R B X (fun pm tk => BindsTo.of_eq rfl) (by decide +kernel) (by rfl) fun pm L h₀ tk htk F => ?_
  generalize hA' : A.deeper (callEnv (fnD 34 117 pm .none) L 118) = A' at *
  have htk : 2 ≤ tk := htk
  have f1 := Int.fmod_nonneg_of_pos (a := n.fdiv 3) (b := 3) (by decide)
  have f2 := Int.fmod_lt_of_pos (n.fdiv 3) (b := 3) (by decide)
  have g1 := Int.fmod_nonneg_of_pos (a := n) (b := 3) (by decide)
  have g2 := Int.fmod_lt_of_pos n (b := 3) (by decide)
  refine r_assign ?_
  refine r_subs ?_
  refine r_list (r_sp1 (r_str (r_sp1 (r_str (r_sp1 (r_str (r_sp0 ?_)))))))
  refine r_newList (by simp) fun q1 h₁ fq1 hq1 S₁ => ?_
  have F₁ := F.stay S₁
  repeat' (first | with_reducible refine wpAny_BinOp ?_ | ((with_reducible refine r_int ?_)) | ((with_reducible show wpAny _ _ (eval (Expr.Name _ _) _) _ _ _); refine nmL (by assumption) (by first | rfl | assumption) ?_) | ((with_reducible refine r_fdiv ?mm ?mn ?_); (case mm => first | decide | assumption | (first | lia | omega)); (case mn => first | decide | assumption | (first | lia | omega))) | ((with_reducible refine r_fmod ?mm ?_); (case mm => first | decide | assumption | (first | lia | omega))))
  obtain ⟨t1, ht1⟩ : ∃ t1, ([Value.str (Str.ofString "\n") tk, Value.str (Str.ofString "\r") (tk + 1), Value.str (Str.ofString "\r\n") (tk + 1 + 1)] : List Value)[((n.fdiv 3).fmod 3).toNat]? = some (Value.str (endF n) t1) := by
    have h1 : ((n.fdiv 3).fmod 3).toNat = 0 ∨ ((n.fdiv 3).fmod 3).toNat = 1 ∨ ((n.fdiv 3).fmod 3).toNat = 2 := by (first | lia | omega)
    unfold endF
    rcases h1 with e | e | e <;> rw [e] <;> exact ⟨_, rfl⟩
  refine r_itemLT (j := ((n.fdiv 3).fmod 3).toNat) hq1.isList (by (first | lia | omega)) (by (first | lia | omega)) (by simpa using ht1) ?_
  refine stLk (n := 1) (by (first | lia | omega)) F₁ fun h₂ tk₂ htk₂ F₂ O₂ => ?_
  refine r_assign ?_
  (with_reducible refine wpAny_BinOp ?_)
  (with_reducible refine wpAny_BinOp ?_)
  (((with_reducible refine r_int ?_)))
  (with_reducible refine wpAny_BinOp ?_)
  (((with_reducible show wpAny _ _ (eval (Expr.Name _ _) _) _ _ _); refine nmL (by assumption) (by first | rfl | assumption) ?_))
  (((with_reducible refine r_int ?_)))
  (((with_reducible refine r_fmod ?mm ?_); (case mm => first | decide | assumption | (first | lia | omega))))
  refine r_mul (intBits_le_64 (by (first | lia | omega)) (by (first | lia | omega))) ?_
  (((with_reducible refine r_int ?_)))
  (((with_reducible refine r_add ?_)))
  refine stLk (n := 1) (by (first | lia | omega)) F₂ fun h₃ tk₃ htk₃ F₃ O₃ => ?_
  refine r_assign ?_
  refine wpAny_with_toks (n := 1) (s := st s h₃ tk₃) htk₃ ?_
  refine r_meth PySem.F.plainAttrs_str PySem.F.slot_str_replace PySem.F.type_str_replace ?_
  refine wpAny_with_toks (n := 1) (s := st s h₃ tk₃) htk₃ ?_
  refine r_sliceS (s := s) ?_
  refine nmL F₃ rfl ?_
  refine evalPart_some_step (nmL F₃ rfl ?_)
  refine evalPart_some_step ?_
  repeat' (first | with_reducible refine wpAny_BinOp ?_ | ((with_reducible refine r_int ?_)) | ((with_reducible show wpAny _ _ (eval (Expr.Name _ _) _) _ _ _); refine nmL (by assumption) (by first | rfl | assumption) ?_) | ((with_reducible refine r_add ?_)))
  refine ⟨_, _, x, u, some (placeF n), some (placeF n + 3), rfl, rfl, by (first | lia | omega), .int _ _, .int _ _, fun t2 h₄ tk₄ S₄ htk₄ => ?_⟩
  have htk₄ : 1 ≤ tk₄ := htk₄
  have F₄ := F₃.stay S₄
  have hsl := Txt.slice_le x (some (placeF n)) (some (placeF n + 3))
  refine ⟨typeIs_str _ _ _, fun a e => (by cases e), r_cwB (r_sp1 (r_str (r_sp1 (r_str (r_sp0 ?_)))))⟩
  refine r_repl (by (first | lia | omega)) (by (first | lia | omega)) (by (first | lia | omega)) (by decide) (by (first | lia | omega)) (by decide) (by (first | lia | omega)) fun t3 tk₅ htk₅ htk5 => ?_
  refine stL F₄ fun h₅ tk₆ F₅ O₅ => ?_
  refine r_ret ?_
  generalize hsg : Txt.replace (Txt.slice x (some (placeF n)) (some (placeF n + 3))) (Str.ofString "-") (Str.ofString ".") = sg at F₅
  have hsz : (signsF n x).cps.size = 3 := hs
  have hsgF : signsF n x = sg := hsg
  have gi : ∀ i, i < 3 → sg.cps[i]? = some ((signsF n x).cps.getD i 0) := fun i hi => by rw [← hsgF]; simp [hsz, hi]
  have sl : ∀ c : Nat, (⟨#[c]⟩ : Str).length = 1 := fun _ => rfl
  have el := endF_len n
  (with_reducible refine wpAny_BinOp ?_)
  (with_reducible refine wpAny_BinOp ?_)
  (((with_reducible refine r_str ?_)))
  refine r_meth PySem.F.plainAttrs_str PySem.F.slot_str_join PySem.F.type_str_join (nmL F₅ rfl ⟨typeIs_str _ _ _, fun a e => (by cases e), r_cwB (r_sp1 ?_)⟩)
  refine r_list ?_
  refine r_sp1 (r_subs (nmL F₅ rfl (r_int (r_itemS (j := 0) rfl (by decide) (gi 0 (by decide)) fun u0 k0 => ?_))))
  refine r_sp1 (r_subs (nmL F₅ rfl (r_int (r_itemS (j := 1) rfl (by decide) (gi 1 (by decide)) fun u1 k1 => ?_))))
  refine r_sp1 (r_subs (nmL F₅ rfl (r_int (r_itemS (j := 2) rfl (by decide) (gi 2 (by decide)) fun u2 k2 => ?_))))
  refine r_sp0 (r_newList (by simp) fun q2 h₆ fq2 hq2 S₆ => r_sp0 ?_)
  refine join_list (s := st s h₆ _) hq2.isList (.cons _ u0 (.cons _ u1 (.cons _ u2 .nil))) ?_ fun t6 k6 => ?_
  · simp only [List.map_cons, List.map_nil, List.sum_cons, List.sum_nil, List.length_cons, List.length_nil, sl]; (first | lia | omega)
  have jl : (Txt.join (endF n) [⟨#[(signsF n x).cps.getD 0 0]⟩, ⟨#[(signsF n x).cps.getD 1 0]⟩, ⟨#[(signsF n x).cps.getD 2 0]⟩]).length ≤ 10 := by
    rw [join3]; simp only [str_len_append, sl]; (first | lia | omega)
  refine r_addS (by rw [show (Str.ofString ".").length = 1 from rfl]; (first | lia | omega)) fun t7 k7 => ?_
  refine nmL (F₅.stay S₆) rfl ?_
  refine r_addS (by rw [str_len_append, show (Str.ofString ".").length = 1 from rfl]; (first | lia | omega)) fun t8 k8 => ?_
  exact ⟨_, _, rfl, F₅.keep.trans S₆, _, rfl⟩
end
end Mine
end
section
open PySem PySem.W PySem.Calls PyProof.Rows
set_option Elab.async false
set_option maxRecDepth 100000
set_option linter.unusedVariables false
namespace Mine

noncomputable def quoteS (x : Str) : Str := ⟨(quoteL x.cps.toList).toArray⟩
noncomputable def lastTwo (g : List Str) : List Str := g.take (g.length - 2) ++ [quoteS (g.getD (g.length - 2) "" ++ g.getD (g.length - 1) "")]
noncomputable def restF : Nat → List Str → List (List Str)
  | 0, _ => []
  | k + 1, g => lastTwo g :: restF k (lastTwo g)
noncomputable def grow (p : Str) (pile : List Str) : List (List Str) := (pile ++ [p]) :: restF pile.length (pile ++ [p])
theorem lastTwo_len (g : List Str) (h : 2 ≤ g.length) : (lastTwo g).length = g.length - 1 := by simp [lastTwo]; (first | lia | omega)

section
variable {prog : Program} {w : World} {A : Around} {s : Shared} {h : Heap} {mg mb : Str → Option Value}
set_option maxHeartbeats 4000000 in
theorem c_piled {v : Value} {piles : List (List Str)} {p : Str} {t u9 : Tok} {Z : List Addr} (R : Rm 2 A) (B : Bas mg mb h) (X : FnAt h 125 124 35 .none) (XQ : FnAt h 48 47 5 .none) (h1 : mg "_twin_re_1" = some (.ref 36)) (h2 : mg "_twin_re_2" = some (.ref 41)) (h3 : mg "CRLF" = some (.str "\r\n" u9))
    (p1 : PatAt h 36 codeDot) (p2 : PatAt h 41 codeEnd) (hQ : mg "quotedata" = some (.ref 48)) (hlen : mg "len" = none)
    (hz : ∀ z ∈ Z, ∃ o, h.get? z = some o) (hrows : ListsS (hideAll h Z) v piles) (hs1 : piles.length ≤ 100) (hs2 : ∀ r ∈ piles, r.length ≤ 10) (hs3 : (piles.flatMap (grow p)).length ≤ 1000) (hs4 : ∀ r ∈ piles.flatMap (grow p), ∀ x ∈ r, x.length ≤ 1000) :
    Gives prog w A (call (.ref 125) [v, .str p t]) s h (fun b h' => ListsS (hideAll h' Z) b (piles.flatMap (grow p))) := by
  refine gives_def (binds := [("piles", v), ("piece", .str p t)]) (R.less (by decide)) B X (fun pm tk => BindsTo.of_eq rfl) (by decide +kernel) (by rfl) fun pm L h₀ tk htk F => ?_
  have R' : Rm 1 (A.deeper (callEnv (fnD 35 124 pm .none) L 125)) := R.deeper
  generalize hA' : A.deeper (callEnv (fnD 35 124 pm .none) L 125) = A' at *
  (first | (refine Mine.e2_3 (hrows) ?_; rintro va vu rfl hvp hvs) | (refine Mine.e3_2 (hrows) ?_; rintro va vu rfl hvp hvs) | (obtain ⟨va, vu, rfl, hvp, hvs⟩ := hrows))
  refine r_assign (r_list (r_sp0 (r_newList (by simp) fun D h₁ fD hD S₁ => ?_)))
  have F₁ := F.stay S₁
  refine stL F₁ fun h₂ tk₂ F₂ O₂ => ?_
  have DL : D ≠ L := ns_ne_list F₁.ns hD
  have hD₂ : h₂.PlainList D #[] := hD.at fun o e => O₂ _ _ DL e
  have hvu : vu.length = piles.length := paired_len hvs
  have fDh : h.get? D = none := fresh_of F.keep fD
  refine r_for ?_
  refine nmL F₂ rfl ?_
  have hvl := plain_stay (plain_of_hid hvp) F₂.keep
  refine r_iterL hvl.isList fun I h₃ fI hI S₃ hl₃ hne => ?_
  have F₃ := F₂.stay S₃
  have hLI : L ≠ I := fun q => by obtain ⟨o, es, ep, e, _⟩ := F₂.ns; rw [q, fI] at e; cases e
  have hDI : D ≠ I := fun q => by obtain ⟨n, e⟩ := hD₂; rw [q, fI] at e; cases e
  have hGI : h.get? I = none := fresh_of F₂.keep fI
  let W := I :: L :: D :: Z
  have hW : W = I :: L :: D :: Z := rfl
  have exW : ∀ (m' : Str → Option Value) (h' : Heap) (cs : Array Value), (∃ o, h'.get? I = some o) → Fm h L m' h' → h'.PlainList D cs → ∀ z ∈ W, ∃ o, h'.get? z = some o := by
    intro m' h' cs eI F' c z hz'
    rw [hW] at hz'
    simp only [List.mem_cons] at hz'
    rcases hz' with rfl | rfl | rfl | q
    · exact eI
    · (first | (refine Mine.e2_3 (F'.ns) ?_; rintro o es ep e _) | (refine Mine.e3_2 (F'.ns) ?_; rintro o es ep e _) | (obtain ⟨o, es, ep, e, _⟩ := F'.ns)); exact ⟨o, e⟩
    · obtain ⟨n, e⟩ := c; exact ⟨_, e⟩
    · obtain ⟨o, e⟩ := hz z q; exact ⟨o, F'.keep _ _ e⟩
  have VW : ∀ {a : Addr} {its : Array Value}, (hideAll h Z).PlainList a its → a ≠ L ∧ a ≠ D := by
    rintro a its ⟨n, e⟩
    have e' := of_hideAll _ e
    exact ⟨fun q => (by rw [q, F.fresh] at e'; cases e'), fun q => (by rw [q, fDh] at e'; cases e')⟩
  have hsub : ∀ j, ((piles.take j).flatMap (grow p)).length ≤ 1000 := fun j => by
    have : piles.flatMap (grow p) = (piles.take j).flatMap (grow p) ++ (piles.drop j).flatMap (grow p) := by rw [← List.flatMap_append, List.take_append_drop]
    rw [this, List.length_append] at hs3
    (first | lia | omega)
  refine ⟨fun h' => ∃ m' ys, Fm h L m' h' ∧ m' "found" = some (.ref D) ∧ h'.PlainList D (List.toArray ys) ∧ Paired (StrsAt (hideAll h' W)) ys (piles.flatMap (grow p)), fun _ _ => False, ?_, ?_, fun _ _ _ f => f.elim⟩
  · refine r_loop (turns_name (Walks.list R'.hd I va hne vu.toArray))
      (fun j h' => ∃ m' ys, Fm h L m' h' ∧ m' "found" = some (.ref D) ∧ m' "piece" = some (.str p t) ∧ h'.PlainList D (List.toArray ys) ∧ Paired (StrsAt (hideAll h' W)) ys ((piles.take j).flatMap (grow p))) _ _ ?hJ ?turn ?fin ⟨hI, hl₃⟩ ⟨_, [], F₃, rfl, rfl, hD₂.at fun o e => S₃ _ _ e, .nil⟩
    case hJ =>
      (rintro j h₄ h₅ hcj; (first | (refine Mine.e2_5 hcj ?_; clear hcj; rintro m' ys F' a1 a2 a3 a4 hk) | (obtain ⟨m', ys, F', a1, a2, a3, a4⟩ := hcj; rintro hk)))
      refine ⟨m', ys, ⟨F'.ns.at' fun o e => hk _ o (by simpa using hLI) e, fun b o e => hk b o (fun q => by simp at q; rw [q, hGI] at e; cases e) (F'.keep b o e), F'.fresh⟩, a1, a2, a3.at fun o e => hk _ o (by simpa using hDI) e, paired_imp (fun _ _ q => q.stay ?_) a4⟩
      exact OffL.hid fun b o n e => hk b o (fun q => n (by simp at q; rw [q, hW]; simp)) e
    case fin =>
      (rintro h₄ tk₄ hcj; (first | (refine Mine.e2_5 hcj ?_; clear hcj; rintro m' ys F' a1 a2 a3 a4) | (obtain ⟨m', ys, F', a1, a2, a3, a4⟩ := hcj)))
      refine r_nil ⟨_, _, rfl, m', ys, F', a1, a3, ?_⟩
      have : piles.take vu.toArray.size = piles := by rw [List.take_of_length_le]; simp [hvu]
      rwa [this] at a4
    case turn =>
      (rintro j pv h₄ tk₄ hj hP hst₄ hcj; (first | (refine Mine.e2_5 hcj ?_; clear hcj; rintro m' ys F' a1 a2 a3 a4) | (obtain ⟨m', ys, F', a1, a2, a3, a4⟩ := hcj)))
      obtain ⟨pile, hpile, hpa⟩ := paired_get hvs (show vu[j]? = some pv by simpa using hP)
      (first | (refine Mine.e2_3 (hpa) ?_; rintro pa pu rfl hpp hpi) | (refine Mine.e3_2 (hpa) ?_; rintro pa pu rfl hpp hpi) | (obtain ⟨pa, pu, rfl, hpp, hpi⟩ := hpa))
      have hpl := hs2 pile (List.mem_of_getElem? hpile)
      have hpul : pu.length = pile.length := hpi.len_eq
      have eI : ∃ o, h₄.get? I = some o := let ⟨o, e, _⟩ := hst₄.1; ⟨o, e⟩
      have htk : (piles.take (j + 1)).flatMap (grow p) = (piles.take j).flatMap (grow p) ++ grow p pile := by
        rw [List.take_add_one, hpile, Option.toList_some, List.flatMap_append]; simp
      have hsz := hsub (j + 1)
      rw [htk, List.length_append] at hsz
      have hgz : ∀ g ∈ grow p pile, ∀ x ∈ g, x.length ≤ 1000 := fun g hg => hs4 g (List.mem_flatMap.mpr ⟨pile, List.mem_of_getElem? hpile, hg⟩)
      have lys : ys.length = ((piles.take j).flatMap (grow p)).length := paired_len a4
      have lg1 : 1 ≤ (grow p pile).length := by simp [grow]
      have lyz : ys.length ≤ 999 := by (first | lia | omega)
      refine r_name F' fun h₅ tk₅ F₅ O₅ => ?_
      show wpAny _ _ (execs _ _) _ _ _
      refine r_assign ?_
      (with_reducible refine wpAny_BinOp ?_)
      refine nmL F₅ rfl ?_
      refine r_list (r_sp1 (nmL F₅ a2 (r_sp0 (r_newList (by simp) fun q1 h₆ fq1 hq1 S₆ => ?_))))
      refine r_addL (plain_stay (plain_of_hid hpp) (F₅.stay S₆).keep) hq1 (by simp; (first | lia | omega)) fun ga h₇ fga hga S₇ => ?_
      have S₅₇ := S₆.trans S₇
      refine stL (F₅.stay S₅₇) fun h₈ tk₈ F₈ O₈ => ?_
      have gaL : ga ≠ L := ns_ne_list (F₅.stay S₅₇).ns hga
      have hD₅ : h₅.PlainList D (List.toArray ys) := a3.at fun o e => O₅ _ _ DL e
      have hD₈ : h₈.PlainList D (List.toArray ys) := (plain_stay hD₅ S₅₇).at fun o e => O₈ _ _ DL e
      have gaW : ga ∉ W := fun q => by obtain ⟨o, e⟩ := exW _ _ _ (let ⟨o, e⟩ := eI; ⟨o, S₆ _ _ (O₅ _ _ hLI.symm e)⟩) (F₅.stay S₆) (plain_stay hD₅ S₆) ga q; rw [fga] at e; cases e
      have hga₈ : h₈.PlainList ga _ := hga.at fun o e => O₈ _ _ gaL e
      have O₄₈ : OffL W h₄ h₈ := ((O₅.offL (by rw [hW]; simp)).trans S₅₇.offL).trans (O₈.offL (by rw [hW]; simp))
      refine r_expr (r_appendM (nmL F₈ a1 ⟨D, _, rfl, hD₈, nmL F₈ rfl (r_append hD₈ (by simpa using Nat.le_trans lyz (by decide)) fun h₉ hD₉ O₉ => ⟨rfl, ?_⟩)⟩))
      have gaD : ga ≠ D := fun q => gaW (by rw [q, hW]; simp)
      have F₉ : Fm h L _ h₉ := ⟨F₈.ns.at' fun o e => O₉ _ _ DL.symm e, fun b o e => O₉ _ _ (fun q => by rw [q, fDh] at e; cases e) (F₈.keep _ _ e), F₈.fresh⟩
      have hga₉ : h₉.PlainList ga _ := hga₈.at fun o e => O₉ _ _ gaD e
      have O₄₉ : OffL W h₄ h₉ := O₄₈.trans (O₉.offL (by rw [hW]; simp))
      have nva := VW hvp
      have keep4 : ∀ b ∈ [I, va], ∀ o, h₄.get? b = some o → h₉.get? b = some o := by
        intro b hb o e
        have : b ≠ L ∧ b ≠ D := by
          simp at hb
          rcases hb with rfl | rfl
          · exact ⟨hLI.symm, hDI.symm⟩
          · exact nva
        exact O₉ _ _ this.2 (O₈ _ _ this.1 (S₅₇ _ _ (O₅ _ _ this.1 e)))
      refine r_while (J := fun k h' => ∃ m' ga g ys zs, Fm h L m' h' ∧ m' "found" = some (.ref D) ∧ m' "piece" = some (.str p t) ∧ m' "grown" = some (.ref ga) ∧ h'.PlainList D (List.toArray ys) ∧ Paired (StrsAt (hideAll h' W)) ys zs ∧ StrsAt (hideAll h' W) (.ref ga) g ∧ g.length = k + 1 ∧ k ≤ 10 ∧
          zs ++ restF k g = (piles.take (j + 1)).flatMap (grow p) ∧ g ∈ grow p pile ∧ (∀ g2 ∈ restF k g, g2 ∈ grow p pile) ∧ (∀ b ∈ [I, va], ∀ o, h₄.get? b = some o → h'.get? b = some o))
        (N := fun h' => ∃ m' ys, Fm h L m' h' ∧ m' "found" = some (.ref D) ∧ m' "piece" = some (.str p t) ∧ h'.PlainList D (List.toArray ys) ∧ Paired (StrsAt (hideAll h' W)) ys ((piles.take (j + 1)).flatMap (grow p)) ∧ (∀ b ∈ [I, va], ∀ o, h₄.get? b = some o → h'.get? b = some o))
        (n₀ := pile.length) ⟨_, ga, pile ++ [p], ys ++ [.ref ga], (piles.take j).flatMap (grow p) ++ [pile ++ [p]], F₉, a1, a2, rfl, by simpa using hD₉, Paired.snoc (paired_imp (fun _ _ q => q.stay O₄₉.hid) a4) ?g1, ?g2, by simp, hpl, ?g3, List.mem_cons_self .., fun g hg => (List.mem_cons_of_mem _ hg : g ∈ (pile ++ [p]) :: restF pile.length (pile ++ [p])), keep4⟩ ?turn2 ?rest
      case g3 => rw [htk, List.append_assoc]; rfl
      case g1 => exact ⟨ga, _, rfl, hid_plain (by simpa using hga₉) gaW, strs_append hpi (.cons p t .nil)⟩
      case g2 => exact ⟨ga, _, rfl, hid_plain (by simpa using hga₉) gaW, strs_append hpi (.cons p t .nil)⟩
      case rest =>
        (rintro h' tk' hcj; (first | (refine Mine.e2_6 hcj ?_; clear hcj; rintro m' ys F' b1 b2 b3 b4 b5) | (obtain ⟨m', ys, F', b1, b2, b3, b4, b5⟩ := hcj)))
        refine r_nil ⟨h', tk', rfl, b5, m', ys, F', b1, b2, b3, b4⟩
      case turn2 =>
        (rintro k h₁₀ tk₁₀ hcj; (first | (refine Mine.e5_13 hcj ?_; clear hcj; rintro m₁ ga g ys zs F₁₀ b1 b2 b3 b4 b5 b6 b7 b8 b9 b10 b11 b12) | (obtain ⟨m₁, ga, g, ys, zs, F₁₀, b1, b2, b3, b4, b5, b6, b7, b8, b9, b10, b11, b12⟩ := hcj)))
        (first | (refine Mine.e2_3 (id b6) ?_; rintro ga' gu e0 hgp hgi) | (refine Mine.e3_2 (id b6) ?_; rintro ga' gu e0 hgp hgi) | (obtain ⟨ga', gu, e0, hgp, hgi⟩ := id b6))
        cases e0
        have hgp' := plain_of_hid hgp
        have hgl : gu.length = g.length := hgi.len_eq
        have B₁₀ := B.stay F₁₀.keep
        have lzs : zs.length ≤ ((piles.take (j + 1)).flatMap (grow p)).length := by rw [← b9]; simp
        rw [htk, List.length_append] at lzs
        have lys2 : ys.length = zs.length := paired_len b5
        (((with_reducible refine wpAny_isTrue_Compare1 ?_ ?mk); (case mk => with_unfolding_all rfl)))
        (with_reducible refine r_call ?_)
        refine nmB B₁₀ hlen rfl ?_
        refine r_cwB (r_sp1 (nmL F₁₀ b3 (r_sp0 (r_lenL hgp'.isList (by simp; (first | lia | omega)) fun t1 tk1 => ?_))))
        (((with_reducible refine r_int ?_)))
        (with_reducible refine PyProof.Rows.gt_int ?_)
        (with_reducible refine wpAny_truthy_bool ?_)
        refine r_split (fun hc => ?_) (fun hc => ?_)
        · have hk : 1 ≤ k := by simp at hc; (first | lia | omega)
          obtain ⟨k', rfl⟩ : ∃ k', k = k' + 1 := ⟨k - 1, by (first | lia | omega)⟩
          refine r_assign ?_
          (with_reducible refine wpAny_BinOp ?_)
          refine r_slice (s := s) ?_
          refine nmL F₁₀ b3 ?_
          refine r_partN ?_
          refine evalPart_some_step (r_neg fun t2 tk2 => ?_)
          refine ⟨h₁₀, tk2, ga, _, none, some (-2), rfl, rfl, hgp'.isList, by simp; (first | lia | omega), .none, .int _ _, fun q2 h₁₁ fq2 hq2 S₁₁ => ?_⟩
          rw [slice_neg2 _ (by simp; (first | lia | omega))] at hq2
          have F₁₁ := F₁₀.stay S₁₁
          have B₁₁ := B.stay F₁₁.keep
          refine r_list (r_sp1 ?_)
          (with_reducible refine r_call ?_)
          refine nmG B₁₁ hQ ?_
          refine r_cwD (XQ.stay F₁₁.keep) (r_sp1 ?_)
          (with_reducible refine wpAny_BinOp ?_)
          have i1 : g[g.length - 2]? = some (g.getD (g.length - 2) "") := by simp [show g.length - 2 < g.length by (first | lia | omega)]
          have i2 : g[g.length - 1]? = some (g.getD (g.length - 1) "") := by simp [show g.length - 1 < g.length by (first | lia | omega)]
          obtain ⟨u1, e1⟩ := hgi.get _ _ i1
          obtain ⟨u2, e2⟩ := hgi.get _ _ i2
          have hgp₁₁ := plain_stay hgp' S₁₁
          refine r_subs (nmL F₁₁ b3 (r_neg fun t3 tk3 => r_itemLn (x := .str (g.getD (g.length - 2) "") u1) (j := 2) hgp₁₁.isList rfl (by decide) (by simp; (first | lia | omega)) (by simp; (first | lia | omega)) (by simpa [hgl] using e1) ?_))
          refine r_subs (nmL F₁₁ b3 (r_neg fun t4 tk4 => r_itemLn (x := .str (g.getD (g.length - 1) "") u2) (j := 1) hgp₁₁.isList rfl (by decide) (by simp; (first | lia | omega)) (by simp; (first | lia | omega)) (by simpa [hgl] using e2) ?_))
          have z1 := hgz g b10 _ (List.mem_of_getElem? i1)
          have z2 := hgz g b10 _ (List.mem_of_getElem? i2)
          refine r_addS (by (first | lia | omega)) fun t5 tk5 => r_sp0 ⟨Stay.refl _, ?_⟩
          refine (c_quote (R'.less (by decide)) B₁₁ (XQ.stay F₁₁.keep) h1 h2 h3 (p1.stay F₁₁.keep) (p2.stay F₁₁.keep) (by show (_ ++ _ : Str).length ≤ _; rw [str_len_append]; (first | lia | omega))) _ _ _ fun qv h₁₂ tk₁₂ S₁₂ hqv => ?_
          obtain ⟨t6, rfl⟩ := hqv
          have F₁₂ := F₁₁.stay S₁₂
          refine r_sp0 (r_newList (by simp) fun q3 h₁₃ fq3 hq3 S₁₃ => ?_)
          have F₁₃ := F₁₂.stay S₁₃
          refine r_addL (plain_stay hq2 (S₁₂.trans S₁₃)) hq3 (by simp; (first | lia | omega)) fun gb h₁₄ fgb hgb S₁₄ => ?_
          have S4 := ((S₁₁.trans S₁₂).trans S₁₃).trans S₁₄
          have F₁₄ := F₁₃.stay S₁₄
          have gbL : gb ≠ L := ns_ne_list F₁₄.ns hgb
          refine stL F₁₄ fun h₁₅ tk₁₅ F₁₅ O₁₅ => ?_
          have hD₁₅ : h₁₅.PlainList D (List.toArray ys) := (plain_stay b4 S4).at fun o e => O₁₅ _ _ DL e
          have eI₁₃ : ∃ o, h₁₃.get? I = some o := by
            obtain ⟨o, e⟩ := eI
            exact ⟨o, S₁₃ _ _ (S₁₂ _ _ (S₁₁ _ _ (b12 I (by simp) o e)))⟩
          have gbW : gb ∉ W := fun q => by obtain ⟨o, e⟩ := exW _ _ _ eI₁₃ F₁₃ (plain_stay b4 ((S₁₁.trans S₁₂).trans S₁₃)) gb q; rw [fgb] at e; cases e
          have gbD : gb ≠ D := fun q => gbW (by rw [q, hW]; simp)
          refine r_expr (r_appendM (nmL F₁₅ b1 ⟨D, _, rfl, hD₁₅, nmL F₁₅ rfl (r_append hD₁₅ (by simp; (first | lia | omega)) fun h₁₆ hD₁₆ O₁₆ => ⟨rfl, ?_⟩)⟩))
          have O₁₀₁₆ : OffL W h₁₀ h₁₆ := (S4.offL.trans (O₁₅.offL (by rw [hW]; simp))).trans (O₁₆.offL (by rw [hW]; simp))
          have F₁₆ : Fm h L _ h₁₆ := ⟨F₁₅.ns.at' fun o e => O₁₆ _ _ DL.symm e, fun b o e => O₁₆ _ _ (fun q => by rw [q, fDh] at e; cases e) (F₁₅.keep _ _ e), F₁₅.fresh⟩
          have hgb₁₆ : h₁₆.PlainList gb _ := (hgb.at fun o e => O₁₅ _ _ gbL e).at fun o e => O₁₆ _ _ gbD e
          have hnew : StrsAt (hideAll h₁₆ W) (.ref gb) (lastTwo g) := by
            refine ⟨gb, gu.take (g.length - 2) ++ [.str (quoteS (g.getD (g.length - 2) "" ++ g.getD (g.length - 1) "")) t6], rfl, hid_plain (by simpa [hgl, quoteS] using hgb₁₆) gbW, strs_append (strs_take hgi _) (.cons _ _ .nil)⟩
          refine r_nil ⟨rfl, h₁₆, _, k', rfl, by (first | lia | omega), _, gb, lastTwo g, ys ++ [.ref gb], zs ++ [lastTwo g], F₁₆, b1, b2, rfl, by simpa using hD₁₆, Paired.snoc (paired_imp (fun _ _ q => q.stay O₁₀₁₆.hid) b5) hnew, hnew, ?_, by (first | lia | omega), ?_, b11 _ (List.mem_cons_self ..), fun g' hg' => b11 _ (List.mem_cons_of_mem _ hg'), ?_⟩
          · rw [lastTwo_len g (by (first | lia | omega))]; (first | lia | omega)
          · rw [← b9, List.append_assoc]; rfl
          · intro b hb o e
            have : b ≠ L ∧ b ≠ D := by
              simp at hb
              rcases hb with rfl | rfl
              · exact ⟨hLI.symm, hDI.symm⟩
              · exact nva
            exact O₁₆ _ _ this.2 (O₁₅ _ _ this.1 (S4 _ _ (b12 b hb o e)))
        · have hk : k = 0 := by simp at hc; (first | lia | omega)
          subst hk
          simp only [restF, List.append_nil] at b9
          exact ⟨_, _, rfl, m₁, ys, F₁₀, b1, b2, b4, b9 ▸ b5, b12⟩
  · (rintro h₄ tk₄ hcj; (first | (refine Mine.e2_4 hcj ?_; clear hcj; rintro m' ys F' a1 a3 a4) | (obtain ⟨m', ys, F', a1, a3, a4⟩ := hcj)))
    refine r_ret ?_
    refine nmL F' a1 ?_
    have DZ : D ∉ Z := fun q => by obtain ⟨o, e⟩ := hz D q; rw [fDh] at e; cases e
    exact ⟨_, _, rfl, F'.keep, D, ys, rfl, hid_plain a3 DZ, paired_imp (fun _ _ q => q.stay (hid_more fun z hz' => by rw [hW]; simp [hz'])) a4⟩
end
end Mine
end
section
open PySem PySem.W PySem.Calls PyProof.Rows
set_option Elab.async false
set_option maxRecDepth 100000
set_option linter.unusedVariables false
namespace Mine

structure SeqT (prog : Program) (w : World) (s : Shared) (hb h : Heap) (seq : Value) (target : Expr) (base : List Addr) (n : Nat) (P : Nat → Value → Heap → Prop) : Prop where
  it : ∀ (A' : Around) tk Q E, (∀ I fp wr St Md h₂ tk₂, Stay h h₂ → (∀ A₂ : Around, A₂.handled = none → KTurns prog w A₂ target I fp wr n P Md St) → (∀ A₂ : Around, A₂.handled = none → ∀ i (S : Shared) (Q : Value → Shared → Prop) (E : Value → Shared → Prop), St i S.heap → Q (.ref I) S → wpAny (model prog w) A₂ (pyIter (.ref I)) Q E S) →
      (∀ b ∈ wr, hb.get? b = none) → (∀ b ∈ fp, b ∈ wr ∨ b ∈ base ∨ (hb.get? b = none ∧ ∃ o, h₂.get? b = some o)) → (∀ i h, St i h → ∀ b ∈ wr, ∃ o, h.get? b = some o) → St 0 h₂ → Q (.ref I) (st s h₂ tk₂)) →
    wpAny (model prog w) A' (pyIter seq) Q E (st s h tk)
theorem SeqT.ofSeq {prog : Program} {w : World} {s : Shared} {h : Heap} {seq : Value} {x : Str} {p : Pos} {base : List Addr} {n : Nat} {P : Nat → Value → Prop} (X : Seq prog w s h seq base n P) : SeqT prog w s h h seq (.Name x p) base n (fun i v _ => P i v) where
  it A' tk Q E k := X.it A' h tk Q E (Stay.refl _) fun I fp wr St h₂ tk₂ S W hw hf hl h0 => k I fp wr St _ h₂ tk₂ S (fun A₂ hA => turns_name (W A₂ hA)) (fun A₂ hA => (W A₂ hA).self) hw (fun b hb => (hf b hb).imp id .inl) hl h0

noncomputable def CompElem (prog : Program) (w : World) (A : Around) (s : Shared) (cenv : Env) (elt target : Expr) (ifs : List Expr) (C : Addr) (p : Nat → Bool) (Fy : Nat → Value → Heap → Prop) (i : Nat) (v : Value) (h₃ : Heap) (tk₃ : Nat) : Prop :=
  wpAny (model prog w) A (assign target cenv v) (fun _ s₄ => wpAny (model prog w) A (forIn ifs true fun c r => if r = true then do let ok ← isTrue c cenv (eval c cenv); pure (ForInStep.yield ok) else pure (ForInStep.yield r))
    (fun ok s₅ => ok = p i ∧ if p i = true then wpAny (model prog w) A (eval elt cenv) (fun y s₆ => ∃ h₆ tk₆, s₆ = st s h₆ tk₆ ∧ Off C h₃ h₆ ∧ (∃ m₆, h₆.Ns C m₆) ∧ ∀ Z : List Addr, (∀ z ∈ Z, ∃ o, h₃.get? z = some o) → Fy i y (hideAll h₆ Z)) (fun _ _ => False) s₅
      else ∃ h₅ tk₅, s₅ = st s h₅ tk₅ ∧ Off C h₃ h₅ ∧ ∃ m₅, h₅.Ns C m₅) (fun _ _ => False) s₄) (fun _ _ => False) (st s h₃ tk₃)

section
variable {prog : Program} {w : World} {A : Around} {E : Value → Shared → Prop} {s : Shared} {h : Heap} {tk : Nat} {env : Env}

set_option maxHeartbeats 2000000 in
theorem comp_core {elt iter target : Expr} {pos pos2 : Pos} {ifs : List Expr} {scope : Scope} {cl : List (Str × Nat)} {use : Option (Value → Sem Unit)} {Q : Value → Shared → Prop} {S : Shared}
    (hclos : closureFor scope env = pure cl) (hcell : ∀ y ∈ scope.names, y.2 ≠ .cell) (hkind : scope.kind = .function) (hnames : ∀ y ∈ scope.names, y.2 = .local → scope.names.lookup y.1 = some .local)
    (hs : ∀ v, foldedSetIterable iter env v = pure v) (hh : A.handled = none)
    (k : wpAny (model prog w) A (eval iter env) (fun v s₁ => ∃ hb h₁ tk₁ base n, ∃ P : Nat → Value → Heap → Prop, ∃ p : Nat → Bool, ∃ Fy : Nat → Value → Heap → Prop, s₁ = st s h₁ tk₁ ∧ Stay hb h₁ ∧ SeqT prog w s hb h₁ v target base n P ∧ (∀ b ∈ base, ∃ o, hb.get? b = some o) ∧ n ≤ 1000 ∧
      (∀ i y H H', Fy i y H → Stay H H' → Fy i y H') ∧
      (∀ i v C m₃ h₃ tk₃, i < n → P i v h₃ → Fm hb C m₃ h₃ → CompElem prog w A s (compEnvC scope cl C env) elt target ifs C p Fy i v h₃ tk₃) ∧
      (∀ D C (ys : List Value) m' h' tk', hb.get? D = none → hb.get? C = none → C ≠ D → Stay hb h' → h'.PlainList D ys.toArray → h'.Ns C m' → (∀ Z : List Addr, (∀ z ∈ Z, ∃ o, hb.get? z = some o) → Paired (fun i y => Fy i y (hideAll h' (C :: D :: Z))) ((List.range n).filter p) ys) →
        compPost (model prog w) A E use Q (.ref D) C (.ok .next) (st s h' tk'))) E S) :
    wpAny (model prog w) A (comprehension (.ListComp elt [⟨target, iter, ifs, 0⟩] scope pos) scope env pos2 (newList []) false (eval iter env) use) Q E S := by
  refine wp_lc (s := s) (cl := cl) rfl hs hclos hcell hkind hnames (wpAny_mono k (fun v s₁ k₁ => ?_) fun _ _ e => e)
  (first | (refine Mine.e8_8 (k₁) ?_; rintro hb h₁ tk₁ base n P p Fy rfl S₁ hseq hbase hn hmono turn fin) | (obtain ⟨hb, h₁, tk₁, base, n, P, p, Fy, rfl, S₁, hseq, hbase, hn, hmono, turn, fin⟩ := k₁))
  refine hseq.it A tk₁ _ _ fun I fp wr St Md h₂ tk₂ S₂ W Wself hwr hfp hlive hst => ?_
  refine ⟨h₂, tk₂, rfl, fun D C h₃ tk₃ fD fC hDC S₃ hD hC => ?_⟩
  have W' := W A hh
  have hst₃ : St 0 h₃ := W'.frame _ _ _ hst fun b _ o e => S₃ _ _ e
  have Sb : Stay hb h₂ := S₁.trans S₂
  have fDb : hb.get? D = none := fresh_of Sb fD
  have fCb : hb.get? C = none := fresh_of Sb fC
  have live₂ : ∀ b ∈ wr, ∃ o, h₂.get? b = some o := fun b q => hlive _ _ hst b q
  have dW : ∀ b ∈ wr, b ≠ D ∧ b ≠ C := fun b q => ⟨fun z => (by obtain ⟨o, e⟩ := live₂ b q; rw [z, fD] at e; cases e), fun z => (by obtain ⟨o, e⟩ := live₂ b q; rw [z, fC] at e; cases e)⟩
  have nfp : ∀ b ∈ fp, b ≠ D ∧ b ≠ C := by
    intro b q
    rcases hfp b q with q | q | ⟨_, o, e⟩
    · exact dW b q
    · obtain ⟨o, e⟩ := hbase b q
      exact ⟨fun z => (by rw [z, fDb] at e; cases e), fun z => (by rw [z, fCb] at e; cases e)⟩
    · exact ⟨fun z => (by rw [z, fD] at e; cases e), fun z => (by rw [z, fC] at e; cases e)⟩
  have loop : codeAny (model prog w) A (.compLoop (.ListComp elt [⟨target, iter, ifs, 0⟩] scope pos) 0 (.ref I) (.ref D) (compEnvC scope cl C env)) (compPost (model prog w) A E use Q (.ref D) C) (st s h₃ tk₃) := by
    refine comp_loop1 W'
      (fun i h' => ∃ m' ys, Stay hb h' ∧ h'.Ns C m' ∧ h'.PlainList D (List.toArray ys) ∧ ys.length ≤ i ∧ ∀ Z : List Addr, (∀ z ∈ Z, ∃ o, hb.get? z = some o) → Paired (fun i y => Fy i y (hideAll h' (C :: D :: (wr ++ Z)))) ((List.range i).filter p) ys) ?hJ ?turn ?fin hst₃
      ⟨_, [], Sb.trans S₃, hC, hD, by simp, fun Z hZ => .nil⟩
    case hJ =>
      (rintro i h₄ h₅ hcj; (first | (refine Mine.e2_5 hcj ?_; clear hcj; rintro m' ys a1 a2 a3 a4 a5 hk) | (obtain ⟨m', ys, a1, a2, a3, a4, a5⟩ := hcj; rintro hk)))
      refine ⟨m', ys, fun b o e => hk _ _ (fun q => by rw [hwr b q] at e; cases e) (a1 _ _ e), a2.at' fun o e => hk _ _ (fun q => (dW C q).2 rfl) e, a3.at fun o e => hk _ _ (fun q => (dW D q).1 rfl) e, a4, fun Z hZ => paired_imp (fun i y q => hmono _ _ _ _ q ?_) (a5 Z hZ)⟩
      exact OffL.hid fun b o nb e => hk b o (fun q => nb (by simp [q])) e
    case fin =>
      (rintro h₄ tk₄ hcj; (first | (refine Mine.e2_5 hcj ?_; clear hcj; rintro m' ys a1 a2 a3 a4 a5) | (obtain ⟨m', ys, a1, a2, a3, a4, a5⟩ := hcj)))
      exact fin D C ys m' h₄ tk₄ fDb fCb hDC.symm a1 a3 a2 fun Z hZ => paired_imp (fun i y q => hmono _ _ _ _ q (hid_more fun z hz => by simp at hz ⊢; rcases hz with q | q | q <;> simp [q])) (a5 Z hZ)
    case turn =>
      (rintro i v h₄ tk₄ hi hP hst₄ hcj; (first | (refine Mine.e2_5 hcj ?_; clear hcj; rintro m' ys a1 a2 a3 a4 a5) | (obtain ⟨m', ys, a1, a2, a3, a4, a5⟩ := hcj)))
      have hT := turn i v C m' h₄ tk₄ hi hP ⟨a2, a1, fCb⟩
      unfold CompElem at hT
      refine wpAny_mono hT (fun _ s₄ q₄ => wpAny_mono q₄ (fun ok s₅ q₅ => ?_) fun _ _ e => e.elim) fun _ _ e => e.elim
      obtain ⟨rfl, q₅⟩ := q₅
      have hrange : (List.range (i + 1)).filter p = (List.range i).filter p ++ (if p i = true then [i] else []) := by
        rw [List.range_succ, List.filter_append]
        congr 1
        simp only [List.filter_cons, List.filter_nil]
      have exZ : ∀ Z : List Addr, (∀ z ∈ Z, ∃ o, hb.get? z = some o) → ∀ z ∈ C :: D :: (wr ++ Z), ∃ o, h₄.get? z = some o := by
        intro Z hZ z hz
        simp only [List.mem_cons, List.mem_append] at hz
        rcases hz with rfl | rfl | hz | hz
        · (first | (refine Mine.e1_4 (a2) ?_; rintro o es ep e _) | (refine Mine.e2_3 (a2) ?_; rintro o es ep e _) | (refine Mine.e3_2 (a2) ?_; rintro o es ep e _) | (obtain ⟨o, es, ep, e, _⟩ := a2)); exact ⟨o, e⟩
        · obtain ⟨nn, e⟩ := a3; exact ⟨_, e⟩
        · exact hlive _ _ hst₄ z hz
        · obtain ⟨o, e⟩ := hZ z hz; exact ⟨o, a1 _ _ e⟩
      have lift : ∀ (Z : List Addr) {ha hc : Heap}, Off C ha hc → Stay (hideAll ha (C :: D :: (wr ++ Z))) (hideAll hc (C :: D :: (wr ++ Z))) := fun Z ha hc O => OffL.hid (O.offL (by simp))
      have liftD : ∀ (Z : List Addr) {ha hc : Heap}, Off D ha hc → Stay (hideAll ha (C :: D :: (wr ++ Z))) (hideAll hc (C :: D :: (wr ++ Z))) := fun Z ha hc O => OffL.hid (O.offL (by simp))
      cases hp : p i with
      | false =>
        rw [hp] at q₅
        rw [if_neg (by simp)]
        rw [if_neg (by simp)] at q₅
        (first | (refine Mine.e0_6 (q₅) ?_; rintro h₅ tk₅ rfl O₅ m₅ n₅) | (refine Mine.e2_4 (q₅) ?_; rintro h₅ tk₅ rfl O₅ m₅ n₅) | (obtain ⟨h₅, tk₅, rfl, O₅, m₅, n₅⟩ := q₅))
        refine ⟨h₅, tk₅, rfl, fun b q o e => O₅ _ _ (nfp b q).2 e, m₅, ys, fun b o e => O₅ _ _ (fun q => by rw [q, fCb] at e; cases e) (a1 _ _ e), n₅, a3.at fun o e => O₅ _ _ hDC e, by (first | lia | omega), fun Z hZ => ?_⟩
        rw [hrange, hp]
        simpa using paired_imp (fun i y q => hmono _ _ _ _ q (lift Z O₅)) (a5 Z hZ)
      | true =>
        rw [hp] at q₅
        rw [if_pos rfl]
        rw [if_pos rfl] at q₅
        refine wpAny_mono q₅ (fun y s₆ q₆ => ?_) fun _ _ e => e.elim
        (first | (refine Mine.e0_6 (q₆) ?_; rintro h₆ tk₆ rfl O₆ ⟨m₆, n₆⟩ hy) | (refine Mine.e2_4 (q₆) ?_; rintro h₆ tk₆ rfl O₆ ⟨m₆, n₆⟩ hy) | (obtain ⟨h₆, tk₆, rfl, O₆, ⟨m₆, n₆⟩, hy⟩ := q₆))
        have hD₆ : h₆.PlainList D (List.toArray ys) := a3.at fun o e => O₆ _ _ hDC e
        refine r_append hD₆ (by simp; (first | lia | omega)) fun h₇ hD₇ O₇ => ?_
        refine ⟨h₇, tk₆, rfl, fun b q o e => O₇ _ _ (nfp b q).1 (O₆ _ _ (nfp b q).2 e), m₆, ys ++ [y], fun b o e => O₇ _ _ (fun q => by rw [q, fDb] at e; cases e) (O₆ _ _ (fun q => by rw [q, fCb] at e; cases e) (a1 _ _ e)), n₆.at' fun o e => O₇ _ _ hDC.symm e, by simpa using hD₇, by simp; (first | lia | omega), fun Z hZ => ?_⟩
        rw [hrange, hp, if_pos rfl]
        exact Paired.snoc (paired_imp (fun i y q => hmono _ _ _ _ q ((lift Z O₆).trans (liftD Z O₇))) (a5 Z hZ)) (hmono _ _ _ _ (hy _ (exZ Z hZ)) (liftD Z O₇))
  exact codeAny_compStart_list loop (Wself A hh 0 _ _ _ hst₃ loop)

theorem comp_q {elt iter target : Expr} {pos : Pos} {ifs : List Expr} {scope : Scope} {cl : List (Str × Nat)} {Q : Value → Shared → Prop} {S : Shared}
    (hclos : closureFor scope env = pure cl) (hcell : ∀ y ∈ scope.names, y.2 ≠ .cell) (hkind : scope.kind = .function) (hnames : ∀ y ∈ scope.names, y.2 = .local → scope.names.lookup y.1 = some .local)
    (hs : ∀ v, foldedSetIterable iter env v = pure v) (hh : A.handled = none)
    (k : wpAny (model prog w) A (eval iter env) (fun v s₁ => ∃ hb h₁ tk₁ base n, ∃ P : Nat → Value → Heap → Prop, ∃ p : Nat → Bool, ∃ Fy : Nat → Value → Heap → Prop, s₁ = st s h₁ tk₁ ∧ Stay hb h₁ ∧ SeqT prog w s hb h₁ v target base n P ∧ (∀ b ∈ base, ∃ o, hb.get? b = some o) ∧ n ≤ 1000 ∧
      (∀ i y H H', Fy i y H → Stay H H' → Fy i y H') ∧
      (∀ i v C m₃ h₃ tk₃, i < n → P i v h₃ → Fm hb C m₃ h₃ → CompElem prog w A s (compEnvC scope cl C env) elt target ifs C p Fy i v h₃ tk₃) ∧
      (∀ D (ys : List Value) h' tk', hb.get? D = none → Stay hb h' → h'.PlainList D ys.toArray → (∀ Z : List Addr, (∀ z ∈ Z, ∃ o, hb.get? z = some o) → Paired (fun i y => Fy i y (hideAll h' (D :: Z))) ((List.range n).filter p) ys) → Q (.ref D) (st s h' tk'))) E S) :
    wpAny (model prog w) A (eval (.ListComp elt [⟨target, iter, ifs, 0⟩] scope pos) env) Q E S := by
  rw [eval_ListComp]
  refine comp_core (s := s) hclos hcell hkind hnames hs hh (wpAny_mono k (fun v s₁ k₁ => ?_) fun _ _ e => e)
  (first | (refine Mine.e8_8 (k₁) ?_; rintro hb h₁ tk₁ base n P p Fy a1 a2 a3 a4 a5 hmono a7 fin) | (obtain ⟨hb, h₁, tk₁, base, n, P, p, Fy, a1, a2, a3, a4, a5, hmono, a7, fin⟩ := k₁))
  refine ⟨hb, h₁, tk₁, base, n, P, p, Fy, a1, a2, a3, a4, a5, hmono, a7, fun D C ys m' h' tk' b1 b2 b3 b4 b5 b6 b7 => ⟨m', b6, fun h'' sb => ?_⟩⟩
  have O : Off C h' h'' := fun b o n e => sb.extBut b o n e
  exact fin D ys h'' tk' b1 (fun b o e => O _ _ (fun q => by rw [q, b2] at e; cases e) (b4 _ _ e)) (b5.at fun o e => O _ _ b3.symm e) fun Z hZ => paired_imp (fun i y q => hmono _ _ _ _ q ((O.offL (X := C :: D :: Z) (by simp)).hid.trans (hid_more fun z hz => by simp at hz ⊢; rcases hz with q | q <;> simp [q]))) (b7 Z hZ)

theorem comp_u {G : Heap} {L : Addr} {m : Str → Option Value} {elt iter target : Expr} {y : Str} {py pos spos : Pos} {ifs : List Expr} {scope : Scope} {cl : List (Str × Nat)} {rest : List Stmt} {Q : Flow → Shared → Prop} {S : Shared}
    (hsw : swapsWith (.ListComp elt [⟨target, iter, ifs, 0⟩] scope pos) (some (.Name y py)) spos.line env = pure true) (hy : env.kindOf y = some .local) (hL : env.locals = L) (hkd : env.scope.kind = .function)
    (hclos : closureFor scope env = pure cl) (hcell : ∀ y ∈ scope.names, y.2 ≠ .cell) (hkind : scope.kind = .function) (hnames : ∀ y ∈ scope.names, y.2 = .local → scope.names.lookup y.1 = some .local)
    (hs : ∀ v, foldedSetIterable iter env v = pure v) (hh : A.handled = none)
    (k : wpAny (model prog w) A (eval iter env) (fun v s₁ => ∃ hb h₁ tk₁ base n, ∃ P : Nat → Value → Heap → Prop, ∃ p : Nat → Bool, ∃ Fy : Nat → Value → Heap → Prop, s₁ = st s h₁ tk₁ ∧ Stay hb h₁ ∧ SeqT prog w s hb h₁ v target base n P ∧ (∀ b ∈ base, ∃ o, hb.get? b = some o) ∧ n ≤ 1000 ∧
      (∀ i y H H', Fy i y H → Stay H H' → Fy i y H') ∧
      (∀ i v C m₃ h₃ tk₃, i < n → P i v h₃ → Fm hb C m₃ h₃ → CompElem prog w A s (compEnvC scope cl C env) elt target ifs C p Fy i v h₃ tk₃) ∧ Fm G L m hb ∧
      (∀ D (ys : List Value) h' tk', hb.get? D = none → D ≠ L → Off L hb h' → Fm G L (fun z => if z = y then some (.ref D) else m z) h' → h'.PlainList D ys.toArray → (∀ Z : List Addr, (∀ z ∈ Z, ∃ o, hb.get? z = some o) → Paired (fun i y => Fy i y (hideAll h' (D :: L :: Z))) ((List.range n).filter p) ys) →
        wpAny (model prog w) A (execs rest env) Q E (st s h' tk'))) E S) :
    wpAny (model prog w) A (execs (.Assign [.Name y py] (.ListComp elt [⟨target, iter, ifs, 0⟩] scope pos) spos :: rest) env) Q E S := by
  refine wpAny_execs_cons ?_
  rw [exec_Assign_Name_used _ _ _ _ hsw]
  refine wpAny_bind (wpAny_standAt (wpAny_bind ?_))
  show wpAny _ A (do let _ ← comprehension (.ListComp elt [⟨target, iter, ifs, 0⟩] scope pos) scope env _ (newList []) false (eval iter env) (some (assign (.Name y py) env))) _ _ _
  refine wpAny_bind (wpAny_mono (comp_core (s := s) (use := some (assign (.Name y py) env)) (Q := fun _ s' => wpAny (model prog w) A (execs rest env) Q E s') hclos hcell hkind hnames hs hh (wpAny_mono k (fun v s₁ k₁ => ?_) fun _ _ e => e)) (fun _ s' hq => wpAny_pure (wpAny_pure hq)) fun _ _ e => e)
  (first | (refine Mine.e8_9 (k₁) ?_; rintro hb h₁ tk₁ base n P p Fy a1 a2 a3 a4 a5 hmono a7 F fin) | (obtain ⟨hb, h₁, tk₁, base, n, P, p, Fy, a1, a2, a3, a4, a5, hmono, a7, F, fin⟩ := k₁))
  refine ⟨hb, h₁, tk₁, base, n, P, p, Fy, a1, a2, a3, a4, a5, hmono, a7, fun D C ys m' h' tk' b1 b2 b3 b4 b5 b6 b7 => ?_⟩
  have hbL : ∃ o, hb.get? L = some o := by obtain ⟨o, es, ep, e, _⟩ := F.ns; exact ⟨o, e⟩
  have hCL : C ≠ L := fun q => by obtain ⟨o, e⟩ := hbL; rw [← q, b2] at e; cases e
  have hDL : D ≠ L := fun q => by obtain ⟨o, e⟩ := hbL; rw [← q, b1] at e; cases e
  show wpAny _ A (assign (.Name y py) env (.ref D)) _ _ _
  refine wpAny_assign_Name (stL (F.stay b4) (fun h₂ tk₂ F₂ O₂ => ?_) hL hkd hy)
  refine ⟨m', b6.at' fun o e => O₂ _ _ hCL e, fun h'' sb => ?_⟩
  have O : Off C h₂ h'' := fun b o n e => sb.extBut b o n e
  refine fin D ys h'' tk₂ b1 hDL (fun b o nL e => O _ _ (fun q => by rw [q, b2] at e; cases e) (O₂ _ _ nL (b4 _ _ e))) ⟨F₂.ns.at' fun o e => O _ _ hCL.symm e, fun b o e => O _ _ (fun q => ?_) (F₂.keep _ _ e), F₂.fresh⟩ ((b5.at fun o e => O₂ _ _ hDL e).at fun o e => O _ _ b3.symm e) fun Z hZ => ?_
  · have := F.keep _ _ e
    rw [q, b2] at this; cases this
  · have h1 := b7 (L :: Z) fun z hz => by
      simp at hz
      rcases hz with rfl | hz
      · exact hbL
      · exact hZ z hz
    refine paired_imp (fun i y q => hmono _ _ _ _ q ?_) h1
    refine ((O₂.offL (X := C :: D :: L :: Z) (by simp)).hid.trans (O.offL (X := C :: D :: L :: Z) (by simp)).hid).trans (hid_more fun z hz => by simp at hz ⊢; rcases hz with q | q | q <;> simp [q])

theorem r_zip {l1 l2 : Addr} {xs ys : Array Value} {Q : Value → Shared → Prop} (hl1 : h.IsList l1 xs) (hl2 : h.IsList l2 ys)
    (k : ∀ z h', Stay h h' → (∀ elts c pos, SeqT prog w s h h' (.ref z) (.Tuple elts c pos) [l1, l2] (min xs.size ys.size) (fun i v H => ∃ T x y, v = .ref T ∧ xs[i]? = some x ∧ ys[i]? = some y ∧ H.IsTuple T #[x, y])) → Q (.ref z) (st s h' tk)) :
    wpAny (model prog w) A (call (.type "zip") [.ref l1, .ref l2]) Q E (st s h tk) := by
  refine call_zip_2 (s := st s h tk) hl1 hl2 fun h' a1 a2 a3 a4 a5 a6 a7 => ?_
  have l1lt : l1 < h.objs.size := let ⟨o, e, _⟩ := hl1; Heap.lt_size e
  have l2lt : l2 < h.objs.size := let ⟨o, e, _⟩ := hl2; Heap.lt_size e
  have ge : ∀ j, h.get? (h.objs.size + j) = none := fun j => Heap.get?_none_of_le (Nat.le_add_right _ _)
  refine k _ h' a7 fun elts c pos => ⟨fun A' tk' Q E k' => wpAny_pyIter_zip (s := st s h' tk') a1 ?_⟩
  refine k' _ [h.objs.size + 4, h.objs.size + 2, h.objs.size + 3, h.objs.size, h.objs.size + 1, l1, l2] [h.objs.size + 4, h.objs.size + 3, h.objs.size, h.objs.size + 1]
    (fun i H => IsZip H (h.objs.size + 4) (h.objs.size + 2) (h.objs.size + 3) .none ∧ IsPair H (h.objs.size + 2) (.ref h.objs.size) (.ref (h.objs.size + 1)) ∧ (∃ a b, IsPair H (h.objs.size + 3) a b) ∧ H.IsListIter h.objs.size l1 i ∧ H.IsListIter (h.objs.size + 1) l2 i ∧ H.IsList l1 xs ∧ H.IsList l2 ys)
    (fun i v H => ∃ T vals, v = Value.ref T ∧ (∃ x y, xs[i]? = some x ∧ ys[i]? = some y ∧ vals = #[x, y]) ∧ H.IsTuple T vals ∧ (IsZip H (h.objs.size + 4) (h.objs.size + 2) (h.objs.size + 3) (rawInt T) ∧ IsPair H (h.objs.size + 2) (.ref h.objs.size) (.ref (h.objs.size + 1)) ∧ (∃ a b, IsPair H (h.objs.size + 3) a b) ∧
      H.IsListIter h.objs.size l1 (i + 1) ∧ H.IsListIter (h.objs.size + 1) l2 (i + 1) ∧ H.IsList l1 xs ∧ H.IsList l2 ys ∧ T ≠ h.objs.size + 4 ∧ T ≠ h.objs.size + 3 ∧ T ≠ h.objs.size ∧ T ≠ h.objs.size + 1)) h' tk' (Stay.refl _)
    (fun A₂ hA => ?w) (fun A₂ hA => (WalksT.zip2 hA _ _ _ _ _ _ _ (zipApart_new l1lt l2lt) xs ys).self) ?hw ?hf ?hl ⟨a1, a2, ⟨_, _, a3⟩, a4, a5, hl1.at fun o e => a7 _ _ e, hl2.at fun o e => a7 _ _ e⟩
  case w =>
    have W0 := (WalksT.zip2 (prog := prog) (w := w) hA _ _ _ _ _ _ _ (zipApart_new l1lt l2lt) xs ys).toU
    have W := KTurns.ofWalksU (elts := elts) (k := c) (pos := pos) W0
    refine ⟨W.sub, W.frame, W.item, fun i v s Q E hm hQ => W.go i v s Q E hm fun h' hp => hQ h' ?_, W.done⟩
    (first | (refine Mine.e1_4 (hp) ?_; rintro T vals e ⟨x, y, e1, e2, e3⟩ ht) | (refine Mine.e2_3 (hp) ?_; rintro T vals e ⟨x, y, e1, e2, e3⟩ ht) | (refine Mine.e3_2 (hp) ?_; rintro T vals e ⟨x, y, e1, e2, e3⟩ ht) | (obtain ⟨T, vals, e, ⟨x, y, e1, e2, e3⟩, ht⟩ := hp))
    subst e3
    exact ⟨T, x, y, e, e1, e2, ht⟩
  case hw =>
    intro b hb
    simp only [List.mem_cons, List.not_mem_nil, or_false] at hb
    rcases hb with rfl | rfl | rfl | rfl
    · exact ge 4
    · exact ge 3
    · exact ge 0
    · exact ge 1
  case hf =>
    intro b hb
    simp only [List.mem_cons, List.not_mem_nil, or_false] at hb
    rcases hb with rfl | rfl | rfl | rfl | rfl | rfl | rfl
    · exact .inl (by simp)
    · exact .inr (.inr ⟨ge 2, _, a2⟩)
    · exact .inl (by simp)
    · exact .inl (by simp)
    · exact .inl (by simp)
    · exact .inr (.inl (by simp))
    · exact .inr (.inl (by simp))
  case hl =>
    (rintro i h hcj; (first | (refine Mine.e0_6 hcj ?_; clear hcj; rintro b1 b2 ⟨_, _, b3⟩ ⟨_, b4, _⟩ ⟨_, b5, _⟩ _ b hb) | (refine Mine.e2_4 hcj ?_; clear hcj; rintro b1 b2 ⟨_, _, b3⟩ ⟨_, b4, _⟩ ⟨_, b5, _⟩ _ b hb) | (obtain ⟨b1, b2, ⟨_, _, b3⟩, ⟨_, b4, _⟩, ⟨_, b5, _⟩, _⟩ := hcj; rintro b hb)))
    simp only [List.mem_cons, List.not_mem_nil, or_false] at hb
    rcases hb with rfl | rfl | rfl | rfl
    · exact ⟨_, b1⟩
    · exact ⟨_, b3⟩
    · exact ⟨_, b4⟩
    · exact ⟨_, b5⟩

theorem r_forT {target iter : Expr} {body rest : List Stmt} {pos : Pos} {Q : Flow → Shared → Prop} {S : Shared} (hh : A.handled = none)
    (k : wpAny (model prog w) A (eval iter env) (fun x s₁ => ∃ hb h₁ tk₁ base n, ∃ P : Nat → Value → Heap → Prop, ∃ X : List Addr, s₁ = st s h₁ tk₁ ∧ Stay hb h₁ ∧ SeqT prog w s hb h₁ x target base n P ∧ (∀ x ∈ X, (∃ o, hb.get? x = some o) ∧ x ∉ base) ∧
      ∀ (wr : List Addr) h₂, Stay h₁ h₂ → (∀ b ∈ wr, hb.get? b = none ∧ ∃ o, h₂.get? b = some o) → ∃ J : Nat → Heap → Prop, (∀ i h h', J i h → OffL wr h h' → J i h') ∧ J 0 h₂ ∧
        (∀ i v h tk, i < n → P i v h → (∀ b ∈ wr, ∃ o, h.get? b = some o) → J i h → wpAny (model prog w) A (assign target env v) (fun _ s₂ => wpAny (model prog w) A (execs body env) (fun f s₃ => f = .next ∧ ∃ h₃ tk₃, s₃ = st s h₃ tk₃ ∧ OffL X h h₃ ∧ J (i + 1) h₃) (fun _ _ => False) s₂) (fun _ _ => False) (st s h tk)) ∧
        (∀ h tk, J n h → wpAny (model prog w) A (execs rest env) Q E (st s h tk))) E S)
    (hs : ∀ x, foldedSetIterable iter env x = pure x := by intro _; rfl) :
    wpAny (model prog w) A (execs (.For target iter body [] pos :: rest) env) Q E S := by
  refine wpAny_execs_cons (wpAny_For (wpAny_mono k (fun x s₁ k₁ => ?_) fun _ _ e => e) hs)
  (first | (refine Mine.e7_5 (k₁) ?_; rintro hb h₁ tk₁ base n P X rfl S₁ hseq hX k) | (obtain ⟨hb, h₁, tk₁, base, n, P, X, rfl, S₁, hseq, hX, k⟩ := k₁))
  refine hseq.it A tk₁ _ _ fun I fp wr St Md h₂ tk₂ S₂ W Wself hwr hfp hlive hst => ?_
  (first | (refine Mine.e1_4 (k wr h₂ S₂ fun b hb' => ⟨hwr b hb', hlive _ _ hst b hb'⟩) ?_; rintro J hJ j0 turn fin) | (refine Mine.e2_3 (k wr h₂ S₂ fun b hb' => ⟨hwr b hb', hlive _ _ hst b hb'⟩) ?_; rintro J hJ j0 turn fin) | (refine Mine.e3_2 (k wr h₂ S₂ fun b hb' => ⟨hwr b hb', hlive _ _ hst b hb'⟩) ?_; rintro J hJ j0 turn fin) | (obtain ⟨J, hJ, j0, turn, fin⟩ := k wr h₂ S₂ fun b hb' => ⟨hwr b hb', hlive _ _ hst b hb'⟩))
  have nX : ∀ b ∈ fp, b ∉ X := by
    intro b q z
    obtain ⟨⟨o, e⟩, nb⟩ := hX b z
    rcases hfp b q with q' | q' | ⟨q', _⟩
    · rw [hwr b q'] at e; cases e
    · exact nb q'
    · rw [q'] at e; cases e
  refine codeAny_mono (r_loop (W A hh) J (J n) (fun _ _ => False) hJ ?_ (fun h tk j => r_nil ⟨h, tk, rfl, j⟩) hst j0) fun r s' q => ?_
  · intro i v h tk hi hP hSt hj
    refine wpAny_mono (turn i v h tk hi hP ?_ hj) (fun _ s₂ q => wpAny_mono q (fun f s₃ q₃ => ?_) fun _ _ e => e.elim) fun _ _ e => e.elim
    · exact fun b hb' => hlive _ _ hSt b hb'
    · (first | (refine Mine.e0_6 (q₃) ?_; rintro rfl h₃ tk₃ rfl O j) | (refine Mine.e2_4 (q₃) ?_; rintro rfl h₃ tk₃ rfl O j) | (obtain ⟨rfl, h₃, tk₃, rfl, O, j⟩ := q₃))
      exact ⟨h₃, tk₃, rfl, fun b q o e => O b o (nX b q) e, j⟩
  · (first | (refine Mine.e2_2 (q) ?_; rintro h' tk' rfl q) | (obtain ⟨h', tk', rfl, q⟩ := q))
    cases r with
    | error e => exact q.elim
    | ok f =>
      cases f with
      | next => exact fin h' tk' q
      | ret v => exact q.elim
      | brk => exact q.elim
      | cont => exact q.elim
end
end Mine
end
section
open PySem PySem.W PySem.Calls PyProof.Rows
set_option Elab.async false
set_option maxRecDepth 100000
set_option linter.unusedVariables false
namespace Mine

noncomputable def dotsF (d : Int) : Str := ⟨(List.replicate (d + 1).toNat 46).toArray⟩
noncomputable def signStep (d : Int) (acc sg : Str) : Str := acc ++ ((if (sg.cps.toList == (Str.ofString ".").cps.toList) = true then dotsF d else sg) ++ Str.ofString "\r\n")
noncomputable def rowStep (acc : Str) (r : List Str × Int) : Str := (r.1.drop 1).foldl (signStep r.2) (acc ++ ((dotsF r.2 ++ r.1.getD 0 "") ++ Str.ofString "\r\n"))
noncomputable def toldG (rows : List (List Str)) (ds : List Int) : Str := (rows.zip ds).foldl rowStep ""
theorem dotsF_len (d : Int) (h : 0 ≤ d ∧ d ≤ 10) : (dotsF d).length ≤ 11 := by
  show (List.replicate (d + 1).toNat 46).toArray.size ≤ 11
  simp; (first | lia | omega)
theorem signs_len (d : Int) (h : 0 ≤ d ∧ d ≤ 10) : ∀ (sgs : List Str) (acc : Str), (∀ x ∈ sgs, x.length ≤ 2) → (sgs.foldl (signStep d) acc).length ≤ acc.length + sgs.length * 13
  | [], acc, _ => by simp
  | sg :: r, acc, hs => by
    have ih := signs_len d h r (signStep d acc sg) fun x hx => hs x (by simp [hx])
    have h1 := hs sg (by simp)
    have h2 := dotsF_len d h
    have h3 : (signStep d acc sg).length ≤ acc.length + 13 := by
      unfold signStep
      rw [str_len_append, str_len_append, show (Str.ofString "\r\n").length = 2 from rfl]
      split <;> (first | lia | omega)
    rw [List.foldl_cons, List.length_cons]
    (first | lia | omega)
theorem rows_len : ∀ (rs : List (List Str × Int)) (acc : Str), (∀ r ∈ rs, r.1.length = 3 ∧ (∀ x ∈ r.1, x.length ≤ 2) ∧ 0 ≤ r.2 ∧ r.2 ≤ 10) → (rs.foldl rowStep acc).length ≤ acc.length + rs.length * 41
  | [], acc, _ => by simp
  | r :: rs, acc, hs => by
    have ih := rows_len rs (rowStep acc r) fun x hx => hs x (by simp [hx])
    (first | (refine Mine.e0_3 (hs r (by simp)) ?_; rintro a1 a2 a3) | (obtain ⟨a1, a2, a3⟩ := hs r (by simp)))
    have h2 := dotsF_len r.2 a3
    have h0 : (r.1.getD 0 "").length ≤ 2 := by
      have e : r.1[0]? = some (r.1.getD 0 "") := by simp [show 0 < r.1.length by (first | lia | omega)]
      exact a2 _ (List.mem_of_getElem? e)
    have h1 := signs_len r.2 a3 (r.1.drop 1) (acc ++ ((dotsF r.2 ++ r.1.getD 0 "") ++ Str.ofString "\r\n")) fun x hx => a2 x (List.mem_of_mem_drop hx)
    have h3 : (rowStep acc r).length ≤ acc.length + 41 := by
      unfold rowStep
      rw [str_len_append, str_len_append, str_len_append, show (Str.ofString "\r\n").length = 2 from rfl, List.length_drop] at h1
      (first | lia | omega)
    rw [List.foldl_cons, List.length_cons]
    (first | lia | omega)

section
variable {prog : Program} {w : World} {A : Around} {s : Shared} {h : Heap} {mg mb : Str → Option Value}
theorem rep_flat : ∀ n, ((List.replicate n (#[46] : Array Nat)).foldl (· ++ ·) #[]).toList = List.replicate n 46 := by
  have gen : ∀ n (a : Array Nat), ((List.replicate n (#[46] : Array Nat)).foldl (· ++ ·) a).toList = a.toList ++ List.replicate n 46 := by
    intro n
    induction n with
    | zero => intro a; simp
    | succ n ih => intro a; rw [List.replicate_succ, List.foldl_cons, ih, Array.toList_append, List.append_assoc]; rfl
  intro n
  rw [gen]; rfl
theorem r_dots {E : Value → Shared → Prop} {tk : Nat} {d : Int} {t u : Tok} {Q : Value → Shared → Prop} (h0 : 0 ≤ d ∧ d ≤ 10) (k : ∀ t' tk', Q (.str (dotsF d) t') (st s h tk')) :
    wpAny (model prog w) A (binaryOp .Mult (.str (Str.ofString ".") t) (.int (d + 1) u)) Q E (st s h tk) := by
  have e1 : (Str.ofString ".").length = 1 := rfl
  refine PySem.P.mul_str (s := st s h tk) ?_ (fun _ _ => ?_) (fun _ _ => ?_) ?_
  · have h1 : ¬ (d + 1 < -(2 ^ 63 : Int)) := by (first | lia | omega)
    have h2 : ¬ (d + 1 ≥ 2 ^ 63) := by (first | lia | omega)
    rw [decide_eq_false h1, decide_eq_false h2]; rfl
  · rw [e1]
    have : (1 : Int) ≤ (2 ^ 63 - 1) / (d + 1) := by
      have : d = 0 ∨ d = 1 ∨ d = 2 ∨ d = 3 ∨ d = 4 ∨ d = 5 ∨ d = 6 ∨ d = 7 ∨ d = 8 ∨ d = 9 ∨ d = 10 := by (first | lia | omega)
      rcases this with rfl | rfl | rfl | rfl | rfl | rfl | rfl | rfl | rfl | rfl | rfl <;> decide
    show ¬ ((1 : Int) > _)
    (first | lia | omega)
  · rw [e1]
    have : d = 0 ∨ d = 1 ∨ d = 2 ∨ d = 3 ∨ d = 4 ∨ d = 5 ∨ d = 6 ∨ d = 7 ∨ d = 8 ∨ d = 9 ∨ d = 10 := by (first | lia | omega)
    rcases this with rfl | rfl | rfl | rfl | rfl | rfl | rfl | rfl | rfl | rfl | rfl <;> decide
  · rw [if_neg (by (first | lia | omega))]
    split
    · rename_i hc
      have hd0 : d = 0 := by
        rw [e1] at hc
        simp at hc
        (first | lia | omega)
      subst hd0
      exact k _ _
    · have e : dotsF d = ⟨(List.replicate (d + 1).toNat (Str.ofString ".").cps).foldl (· ++ ·) #[]⟩ := by
        unfold dotsF
        congr 1
        apply Array.toList_inj.mp
        exact (rep_flat _).symm
      refine ⟨?_, ?_⟩
      · rw [← e]
        have := dotsF_len d h0
        rw [sizeLine_eq]; (first | lia | omega)
      · have := k (st s h tk).toks ((st s h tk).toks + 1)
        rw [e] at this
        exact this

set_option maxHeartbeats 4000000 in
theorem c_told {rv dv : Value} {rows : List (List Str)} {ds : List Int} (R : Rm 1 A) (B : Bas mg mb h) (X : FnAt h 151 150 39 .none) (hzip : mg "zip" = none) (hr : ListsS h rv rows) (hd : IntsAt h dv ds) (hl : rows.length ≤ 10) (hl2 : ds.length ≤ 10)
    (hs : ∀ r ∈ rows, r.length = 3 ∧ ∀ x ∈ r, x.length ≤ 2) (hds : ∀ d ∈ ds, 0 ≤ d ∧ d ≤ 10) :
    Gives prog w A (call (.ref 151) [rv, dv]) s h (fun v _ => ∃ t, v = .str (toldG rows ds) t) := by
  refine gives_def (binds := [("rows", rv), ("depths", dv)]) R B X (fun pm tk => BindsTo.of_eq rfl) (by decide +kernel) (by rfl) fun pm L h₀ tk htk F => ?_
  have hdA : (A.deeper (callEnv (fnD 39 150 pm .none) L 151)).handled = none := R.hd
  generalize hA' : A.deeper (callEnv (fnD 39 150 pm .none) L 151) = A' at *
  (first | (refine Mine.e2_3 (hr) ?_; rintro ra ru rfl hrp hri) | (obtain ⟨ra, ru, rfl, hrp, hri⟩ := hr))
  (first | (refine Mine.e2_3 (hd) ?_; rintro da du rfl hdp hdi) | (obtain ⟨da, du, rfl, hdp, hdi⟩ := hd))
  refine r_assign ?_
  (((with_reducible refine r_str ?_)))
  refine stL F fun h₁ tk₁ F₁ O₁ => ?_
  have hLx : ∃ o, h₁.get? L = some o := by obtain ⟨o, es, ep, e, _⟩ := F₁.ns; exact ⟨o, e⟩
  have LR : ∀ {a : Addr} {its : Array Value}, h.PlainList a its → L ≠ a := fun {a its} x q => by obtain ⟨n, e⟩ := x; rw [← q, F.fresh] at e; cases e
  have zlen : ∀ j, ((rows.zip ds).take j).length ≤ 10 := fun j => by simp; (first | lia | omega)
  have zok : ∀ r ∈ rows.zip ds, r.1.length = 3 ∧ (∀ x ∈ r.1, x.length ≤ 2) ∧ 0 ≤ r.2 ∧ r.2 ≤ 10 := fun r hr => by
    have h1 := hs r.1 (List.of_mem_zip hr).1
    have h2 := hds r.2 (List.of_mem_zip hr).2
    exact ⟨h1.1, h1.2, h2⟩
  have hrl : ru.length = rows.length := paired_len hri
  have hdl : du.length = ds.length := hdi.length
  refine r_forT (s := s) hdA ?_
  (with_reducible refine r_call ?_)
  refine nmB (B.stay F₁.keep) hzip rfl ?_
  refine r_cwT (r_sp1 (nmL F₁ rfl (r_sp1 (nmL F₁ rfl (r_sp0 ?_)))))
  refine r_zip (plain_stay hrp F₁.keep).isList (plain_stay hdp F₁.keep).isList fun z h₂ S₂ hz => ?_
  refine ⟨h₁, h₂, _, _, _, _, [L], rfl, S₂, hz _ _ _, ?_, fun wr h₃ S₃ hwr => ?_⟩
  · intro x hx
    simp at hx
    subst hx
    refine ⟨hLx, ?_⟩
    simp only [List.mem_cons, List.not_mem_nil, or_false, not_or]
    exact ⟨LR hrp, LR hdp⟩
  have nwr : ∀ b o, h₁.get? b = some o → b ∉ wr := fun b o e q => by rw [(hwr b q).1] at e; cases e
  refine ⟨fun j h' => ∃ m' t, Fm h L m' h' ∧ m' "text" = some (.str (((rows.zip ds).take j).foldl rowStep "") t), ?hJ, ⟨_, _, (F₁.stay S₂).stay S₃, rfl⟩, ?turn, ?fin⟩
  case hJ =>
    (rintro i h₄ h₅ hcj; (first | (refine Mine.e2_2 hcj ?_; clear hcj; rintro m' t F' a1 O) | (obtain ⟨m', t, F', a1⟩ := hcj; rintro O)))
    refine ⟨m', t, ⟨F'.ns.at' fun o e => O _ _ (let ⟨o, e⟩ := hLx; nwr _ _ e) e, fun b o e => O _ _ (fun q => ?_) (F'.keep _ _ e), F'.fresh⟩, a1⟩
    exact nwr _ _ (F₁.keep _ _ e) q
  case fin =>
    (rintro h₄ tk₄ hcj; (first | (refine Mine.e2_2 hcj ?_; clear hcj; rintro m' t F' a1) | (obtain ⟨m', t, F', a1⟩ := hcj)))
    refine r_ret (nmL F' a1 ⟨_, _, rfl, F'.keep, t, ?_⟩)
    have : (rows.zip ds).take (min ru.toArray.size du.toArray.size) = rows.zip ds := by
      rw [List.take_of_length_le]
      simp [hrl, hdl]
    rw [this]; rfl
  case turn =>
    (rintro i v h₄ tk₄ hi hcj; (first | (refine Mine.e3_4 hcj ?_; clear hcj; rintro T x y rfl hx hy hT hlv ⟨m', t, F', a1⟩) | (obtain ⟨T, x, y, rfl, hx, hy, hT⟩ := hcj; rintro hlv ⟨m', t, F', a1⟩)))
    obtain ⟨row, hrow, hra⟩ := paired_get hri (show ru[i]? = some x by simpa using hx)
    obtain ⟨td, d, rfl, hd⟩ := ints_get' hdi (show du[i]? = some y by simpa using hy)
    (first | (refine Mine.e2_3 (hra) ?_; rintro qa qu rfl hqp hqs) | (obtain ⟨qa, qu, rfl, hqp, hqs⟩ := hra))
    have hz1 : (rows.zip ds)[i]? = some (row, d) := List.getElem?_zip_eq_some.mpr ⟨hrow, hd⟩
    have hok := zok (row, d) (List.mem_of_getElem? hz1)
    have hqu : qu.length = 3 := by rw [hqs.len_eq]; exact hok.1
    have hstep : ((rows.zip ds).take (i + 1)).foldl rowStep "" = rowStep (((rows.zip ds).take i).foldl rowStep "") (row, d) := by
      rw [List.take_add_one, hz1, Option.toList_some, List.foldl_append]; rfl
    generalize hacc : ((rows.zip ds).take i).foldl rowStep "" = acc at *
    have haccl : acc.length ≤ 410 := by
      have := rows_len ((rows.zip ds).take i) "" fun r hr => zok r (List.mem_of_mem_take hr)
      rw [hacc] at this
      have := zlen i
      have e0 : ("" : Str).length = 0 := rfl
      (first | lia | omega)
    have hdl2 := dotsF_len d hok.2.2
    have h0g : row[0]? = some (row.getD 0 "") := by simp [show 0 < row.length by have := hok.1; simp at this; (first | lia | omega)]
    obtain ⟨u0, hu0⟩ := hqs.get _ _ h0g
    have h0l : (row.getD 0 "").length ≤ 2 := hok.2.1 _ (List.mem_of_getElem? h0g)
    refine r_unpack2 hdA F' hT fun h₅ tk₅ F₅ O₅ => ?_
    show wpAny _ _ (execs _ _) _ _ _
    refine r_assign ?_
    (with_reducible refine wpAny_BinOp ?_)
    (((with_reducible refine r_str ?_)))
    (with_reducible refine wpAny_BinOp ?_)
    refine nmL F₅ rfl ?_
    (((with_reducible refine r_int ?_)))
    (((with_reducible refine r_add ?_)))
    refine r_dots hok.2.2 fun t1 tk6 => ?_
    refine stL F₅ fun h₆ tk₆ F₆ O₆ => ?_
    refine r_aug ?_
    refine ldL F₆ a1 ?_
    (with_reducible refine wpAny_BinOp ?_)
    (with_reducible refine wpAny_BinOp ?_)
    refine nmL F₆ rfl ?_
    refine r_subs (nmL F₆ rfl (r_int (r_itemL (x := .str (row.getD 0 "") u0) (j := 0) (plain_stay hqp F₆.keep).isList rfl (by decide) (by simpa using hu0) ?_)))
    refine r_addS (by (first | lia | omega)) fun t2 tk7 => ?_
    (((with_reducible refine r_str ?_)))
    refine r_addS (by rw [str_len_append, show (Str.ofString "\r\n").length = 2 from rfl]; (first | lia | omega)) fun t3 tk8 => ?_
    refine r_iaddS (by rw [str_len_append, str_len_append, show (Str.ofString "\r\n").length = 2 from rfl]; (first | lia | omega)) fun t4 tk9 => ?_
    refine stL F₆ fun h₇ tk₇ F₇ O₇ => ?_
    generalize hacc2 : acc ++ ((dotsF d ++ row.getD 0 "") ++ Str.ofString "\r\n") = acc2 at *
    have hacc2l : acc2.length ≤ 425 := by
      rw [← hacc2, str_len_append, str_len_append, str_len_append, show (Str.ofString "\r\n").length = 2 from rfl]; (first | lia | omega)
    have hLx7 : ∃ o, h₇.get? L = some o := by obtain ⟨o, es, ep, e, _⟩ := F₇.ns; exact ⟨o, e⟩
    have O₄₇ : Off L h₄ h₇ := (O₅.trans O₆).trans O₇
    refine r_forT (s := s) hdA ?_
    refine r_slice (s := s) ?_
    refine nmL F₇ rfl ?_
    refine evalPart_some_step (r_int ?_)
    refine r_partN ⟨h₇, _, qa, _, some ((1 : Nat) : Int), none, rfl, rfl, (plain_stay hqp F₇.keep).isList, by simp; (first | lia | omega), .int _ _, .none, fun q2 h₈ fq2 hq2 S₈ => ?_⟩
    rw [slice_from _ _ (by simp; (first | lia | omega))] at hq2
    have F₈ := F₇.stay S₈
    have hLx8 : ∃ o, h₈.get? L = some o := by obtain ⟨o, es, ep, e, _⟩ := F₈.ns; exact ⟨o, e⟩
    refine ⟨h₈, h₈, _, _, _, _, [L], rfl, Stay.refl _, .ofSeq (Seq.list hq2.isList), ?_, fun wr2 h₉ S₉ hwr2 => ?_⟩
    · intro x hx
      simp at hx
      subst hx
      refine ⟨hLx8, ?_⟩
      simp only [List.mem_cons, List.not_mem_nil, or_false]
      exact (ns_ne_list F₈.ns hq2).symm
    have nwr2 : ∀ b o, h₈.get? b = some o → b ∉ wr2 := fun b o e q => by rw [(hwr2 b q).1] at e; cases e
    have hqd : StrsAre (qu.drop 1) (row.drop 1) := by
      have := hqs
      cases this with
      | nil => exact .nil
      | cons z u r => exact r
    refine ⟨fun j h' => ∃ m' t, Fm h L m' h' ∧ OffL [L] h₇ h' ∧ m' "dots" = some (.str (dotsF d) t1) ∧ m' "text" = some (.str (((row.drop 1).take j).foldl (signStep d) acc2) t), ?hJ2, ⟨_, _, F₈.stay S₉, (S₈.trans S₉).offL, rfl, rfl⟩, ?turn2, ?fin2⟩
    case hJ2 =>
      (rintro i h₄ h₅ hcj; (first | (refine Mine.e2_4 hcj ?_; clear hcj; rintro m' t F' b0 a1 a2 O) | (obtain ⟨m', t, F', b0, a1, a2⟩ := hcj; rintro O)))
      refine ⟨m', t, ⟨F'.ns.at' fun o e => O _ _ (let ⟨o, e⟩ := hLx8; nwr2 _ _ e) e, fun b o e => O _ _ (fun q => ?_) (F'.keep _ _ e), F'.fresh⟩, fun b o n e => O _ _ (nwr2 _ _ (S₈ _ _ e)) (b0 b o n e), a1, a2⟩
      exact nwr2 _ _ (F₈.keep _ _ e) q
    case fin2 =>
      (rintro h₁₀ tk₁₀ hcj; (first | (refine Mine.e2_4 hcj ?_; clear hcj; rintro m' t F' b0 b1 b2) | (obtain ⟨m', t, F', b0, b1, b2⟩ := hcj)))
      refine r_nil ⟨rfl, h₁₀, tk₁₀, rfl, (O₄₇.offL (by simp)).trans b0, m', t, F', ?_⟩
      rw [b2, hstep]
      have : (row.drop 1).take (List.drop 1 (List.toArray qu).toList).toArray.size = row.drop 1 := by
        rw [List.take_of_length_le]
        simp [hqs.len_eq]
      rw [this]
      unfold rowStep
      rw [← hacc2]
    case turn2 =>
      (rintro j v h₁₀ tk₁₀ hj hP hlv2 hcj; (first | (refine Mine.e2_4 hcj ?_; clear hcj; rintro m' t F' b0 b1 b2) | (obtain ⟨m', t, F', b0, b1, b2⟩ := hcj)))
      obtain ⟨tv, rfl, hjl⟩ := strs_get' hqd (show (qu.drop 1)[j]? = some v by simpa using hP)
      have hsg : (row.drop 1)[j]? = some ((row.drop 1).getD j "") := by rw [List.getD_eq_getElem?_getD, List.getElem?_eq_getElem hjl]; rfl
      generalize hsgE : (row.drop 1).getD j "" = sg at *
      have hsgl : sg.length ≤ 2 := hok.2.1 _ (List.mem_of_mem_drop (List.mem_of_getElem? hsg))
      have hst2 : ((row.drop 1).take (j + 1)).foldl (signStep d) acc2 = signStep d (((row.drop 1).take j).foldl (signStep d) acc2) sg := by
        rw [List.take_add_one, hsg, Option.toList_some, List.foldl_append]; rfl
      generalize hacc3 : ((row.drop 1).take j).foldl (signStep d) acc2 = acc3 at *
      have hacc3l : acc3.length ≤ 500 := by
        have := signs_len d hok.2.2 ((row.drop 1).take j) acc2 fun x hx => hok.2.1 x (List.mem_of_mem_drop (List.mem_of_mem_take hx))
        rw [hacc3] at this
        have h3 : ((row.drop 1).take j).length ≤ 2 := by have := hok.1; simp at this ⊢; (first | lia | omega)
        (first | lia | omega)
      refine r_name F' fun h₁₁ tk₁₁ F₁₁ O₁₁ => ?_
      show wpAny _ _ (execs _ _) _ _ _
      refine r_aug ?_
      refine ldL F₁₁ b2 ?_
      (with_reducible refine wpAny_BinOp ?_)
      refine wpAny_IfExp ?_
      (((with_reducible refine wpAny_isTrue_Compare1 ?_ ?mk); (case mk => with_unfolding_all rfl)))
      refine nmL F₁₁ rfl ?_
      (((with_reducible refine r_str ?_)))
      refine PySem.P.eq_str (s := st s h₁₁ _) ?_
      refine wpAny_truthy_bool ?_
      have fin3 : ∀ (x : Str) (t₀ : Tok) tk, x = (if (sg.cps.toList == (Str.ofString ".").cps.toList) = true then dotsF d else sg) → wpAny (model prog w) A' (eval (.Constant (.str (Str.ofString "\r\n")) 0 ⟨124, 58, 124, 64⟩) (callEnv (fnD 39 150 pm .none) L 151)) (fun y s₂ => wpAny (model prog w) A' (binaryOp .Add (.str x t₀) y) (fun z s₃ => wpAny (model prog w) A' (inplaceOp .Add (.str acc3 t) z) (fun r s₄ => wpAny (model prog w) A' (storeName (callEnv (fnD 39 150 pm .none) L 151) "text" r) (fun _ s₅ => wpAny (model prog w) A' (execs [] (callEnv (fnD 39 150 pm .none) L 151)) (fun f s₃ => f = .next ∧ ∃ h₃ tk₃, s₃ = st s h₃ tk₃ ∧ OffL [L] h₁₀ h₃ ∧ ∃ m' t, Fm h L m' h₃ ∧ OffL [L] h₇ h₃ ∧ m' "dots" = some (.str (dotsF d) t1) ∧ m' "text" = some (.str (((row.drop 1).take (j + 1)).foldl (signStep d) acc2) t)) (fun _ _ => False) s₅) (fun _ _ => False) s₄) (fun _ _ => False) s₃) (fun _ _ => False) s₂) (fun _ _ => False) (st s h₁₁ tk) := by
        intro x t₀ tk hx
        have hxl : x.length ≤ 11 := by rw [hx]; split <;> (first | lia | omega)
        refine r_str ?_
        refine r_addS (by rw [show (Str.ofString "\r\n").length = 2 from rfl]; (first | lia | omega)) fun t5 tk12 => ?_
        refine r_iaddS (by rw [str_len_append, show (Str.ofString "\r\n").length = 2 from rfl]; (first | lia | omega)) fun t6 tk13 => ?_
        refine stL F₁₁ fun h₁₂ tk₁₂ F₁₂ O₁₂ => ?_
        refine r_nil ⟨rfl, h₁₂, tk₁₂, rfl, (O₁₁.trans O₁₂).offL (by simp), _, t6, F₁₂, b0.trans ((O₁₁.trans O₁₂).offL (by simp)), b1, ?_⟩
        rw [hst2]
        unfold signStep
        rw [← hx]
        rfl
      cases hc : (sg.cps.toList == (Str.ofString ".").cps.toList) with
      | true =>
        refine nmL F₁₁ b1 ?_
        exact fin3 _ _ _ (by rw [hc]; rfl)
      | false =>
        refine nmL F₁₁ rfl ?_
        exact fin3 _ _ _ (by rw [hc]; rfl)
end
end Mine
end
section
open PySem PySem.W PySem.Calls PyProof.Rows
set_option Elab.async false
set_option maxRecDepth 100000
set_option linter.unusedVariables false
namespace Mine

noncomputable def upF (row : List Int) : Nat → Nat → Nat
  | 0, spot => spot
  | f + 1, spot => if row.getD spot 0 > row.getD (spot + 2) 0 then upF row f (spot + 1) else spot
noncomputable def upOk (row : List Int) : Nat → Nat → Bool
  | 0, spot => decide (spot + 2 < row.length) && !decide (row.getD spot 0 > row.getD (spot + 2) 0)
  | f + 1, spot => decide (spot + 2 < row.length) && (if row.getD spot 0 > row.getD (spot + 2) 0 then upOk row f (spot + 1) else true)
noncomputable def downF (row : List Int) (both : Int) : Nat → Nat
  | 0 => 0
  | s + 1 => if row.getD s 0 < both then downF row both s else s + 1
noncomputable def downOk (row : List Int) (both : Int) : Nat → Bool
  | 0 => false
  | s + 1 => decide (s < row.length) && (if row.getD s 0 < both then downOk row both s else true)
noncomputable def bothF (row : List Int) : Int := row.getD (upF row 10 1) 0 + row.getD (upF row 10 1 + 1) 0
noncomputable def cutF (row : List Int) : List Int := row.take (upF row 10 1) ++ row.drop (upF row 10 1 + 2)
noncomputable def putF (row : List Int) : List Int := ((cutF row).take (downF (cutF row) (bothF row) (upF row 10 1)) ++ [bothF row]) ++ (cutF row).drop (downF (cutF row) (bothF row) (upF row 10 1))
noncomputable def stepOk (row : List Int) : Bool := upOk row 10 1 && downOk (cutF row) (bothF row) (upF row 10 1)
noncomputable def leastN : Nat → List Int → Int → Int
  | 0, _, total => total
  | n + 1, row, total => if row.length > 3 then leastN n (putF row) (total + bothF row) else total
noncomputable def leastOk : Nat → List Int → Bool
  | 0, row => !decide (row.length > 3)
  | n + 1, row => decide (row.length ≤ 20) && (if row.length > 3 then stepOk row && leastOk n (putF row) else true)
noncomputable def rowOf (ws : List Int) : List Int := ([1000] ++ ws) ++ [1000]
theorem up_end (row : List Int) : ∀ f spot, upOk row f spot = true → upF row f spot + 2 < row.length ∧ spot ≤ upF row f spot
  | 0, spot, h => by simp [upOk] at h; simp [upF]; exact h.1
  | f + 1, spot, h => by
    unfold upOk at h
    unfold upF
    simp only [Bool.and_eq_true, decide_eq_true_eq] at h
    split
    · rename_i hc
      rw [if_pos hc] at h
      have := up_end row f (spot + 1) h.2
      exact ⟨this.1, by (first | lia | omega)⟩
    · exact ⟨h.1, Nat.le_refl _⟩
theorem down_end (row : List Int) (both : Int) : ∀ s, downF row both s ≤ s
  | 0 => Nat.le_refl _
  | s + 1 => by
    unfold downF
    split
    · exact Nat.le_succ_of_le (down_end row both s)
    · exact Nat.le_refl _

section
variable {G h h' : Heap} {L : Addr} {m : Str → Option Value} {v : Value} {row : List Int}
theorem rowI_off (F : Fm G L m h) (x : RowI h v row) (O : Off L h h') : RowI h' v row := let ⟨a, us, e, p, i⟩ := x; ⟨a, us, e, p.at fun o e => O _ _ (ns_ne_list F.ns p) e, i⟩
end
theorem ints_append {a b : List Value} {x y : List Int} (h1 : IntsAre a x) (h2 : IntsAre b y) : IntsAre (a ++ b) (x ++ y) := h1.append h2
theorem ints_at {us : List Value} {row : List Int} (x : IntsAre us row) {j : Nat} (h : j < row.length) : ∃ t, us[j]? = some (.int (row.getD j 0) t) := by
  refine ints_get x ?_
  rw [List.getD_eq_getElem?_getD, List.getElem?_eq_getElem h]; rfl

section
variable {prog : Program} {w : World} {A : Around} {E : Value → Shared → Prop} {s : Shared} {G h : Heap} {L : Addr} {m mg mb : Str → Option Value} {tk : Nat}
theorem r_at {value slice : Expr} {v : Value} {row : List Int} {i : Int} {j : Nat} {t : Tok} {Q : Value → Shared → Prop} (x : RowI h v row) (hj : i = (j : Int)) (hl : j < row.length) (hz : row.length ≤ 1000) (k : ∀ t, Q (.int (row.getD j 0) t) (st s h tk))
    (hs : ∀ a, subscripted slice false (.ref a) (.int i t) = operate [.ref a, .int i t] (getItem (.ref a) (.int i t)) := by intro _; with_unfolding_all rfl) :
    wpAny (model prog w) A (subscriptTail value slice v (.int i t)) Q E (st s h tk) := by
  (first | (refine Mine.e2_3 (x) ?_; rintro a us rfl hp hi) | (obtain ⟨a, us, rfl, hp, hi⟩ := x))
  obtain ⟨u, hu⟩ := ints_at hi hl
  exact r_itemLT hp.isList hj (by (first | lia | omega)) (by simpa using hu) (k u) (hs a)
theorem r_cutTo {env : Env} {x : Str} {xp pos p : Pos} {upper : Expr} {v : Value} {row : List Int} {Q : Value → Shared → Prop} (F : Fm G L m h) (hx : m x = some v) (hr : RowI h v row) (hz : row.length ≤ 1000)
    (k : wpAny (model prog w) A (evalPart (some upper) env) (fun vu s₃ => ∃ i : Nat, ∃ t tk₃, s₃ = st s h tk₃ ∧ vu = .int (i : Int) t ∧ ∀ a h', RowI h' a (row.take i) → Stay h h' → Q a (st s h' tk₃)) E (st s h tk))
    (hL : env.locals = L := by rfl) (hk : env.scope.kind = .function := by rfl) (hxk : env.kindOf x = some .local := by rfl) (hd : (x == ("__debug__" : Str)) = false := by decide) :
    wpAny (model prog w) A (eval (.Subscript (.Name x xp) (.Slice none (some upper) none p) pos) env) Q E (st s h tk) := by
  (first | (refine Mine.e2_3 (hr) ?_; rintro a us rfl hp hi) | (obtain ⟨a, us, rfl, hp, hi⟩ := hr))
  have hl : us.length = row.length := hi.length
  refine r_slice (s := s) ?_
  refine nmL F hx ?_ hL hk hxk hd
  refine r_partN (wpAny_mono k (fun vu s₃ k₃ => ?_) fun _ _ e => e)
  (first | (refine Mine.e3_3 (k₃) ?_; rintro i t tk₃ rfl rfl k) | (obtain ⟨i, t, tk₃, rfl, rfl, k⟩ := k₃))
  refine ⟨h, tk₃, a, us.toArray, none, some (i : Int), rfl, rfl, hp.isList, by simp; (first | lia | omega), .none, .int _ _, fun q h' fq hq S => k _ h' ⟨q, us.take i, rfl, ?_, hi.take i⟩ S⟩
  rw [slice_upto'] at hq
  simpa using hq
theorem r_cutFrom {env : Env} {x : Str} {xp pos p : Pos} {lower : Expr} {v : Value} {row : List Int} {Q : Value → Shared → Prop} (F : Fm G L m h) (hx : m x = some v) (hr : RowI h v row) (hz : row.length ≤ 1000)
    (k : wpAny (model prog w) A (evalPart (some lower) env) (fun vu s₃ => ∃ i : Nat, ∃ t tk₃, s₃ = st s h tk₃ ∧ vu = .int (i : Int) t ∧ i ≤ row.length ∧ ∀ a h', RowI h' a (row.drop i) → Stay h h' → Q a (st s h' tk₃)) E (st s h tk))
    (hL : env.locals = L := by rfl) (hk : env.scope.kind = .function := by rfl) (hxk : env.kindOf x = some .local := by rfl) (hd : (x == ("__debug__" : Str)) = false := by decide) :
    wpAny (model prog w) A (eval (.Subscript (.Name x xp) (.Slice (some lower) none none p) pos) env) Q E (st s h tk) := by
  (first | (refine Mine.e2_3 (hr) ?_; rintro a us rfl hp hi) | (obtain ⟨a, us, rfl, hp, hi⟩ := hr))
  have hl : us.length = row.length := hi.length
  refine r_slice (s := s) ?_
  refine nmL F hx ?_ hL hk hxk hd
  refine wpAny_mono k (fun vu s₃ k₃ => ?_) fun _ _ e => e
  (first | (refine Mine.e3_4 (k₃) ?_; rintro i t tk₃ rfl rfl hil k) | (refine Mine.e4_3 (k₃) ?_; rintro i t tk₃ rfl rfl hil k) | (obtain ⟨i, t, tk₃, rfl, rfl, hil, k⟩ := k₃))
  refine r_partN ⟨h, tk₃, a, us.toArray, some (i : Int), none, rfl, rfl, hp.isList, by simp; (first | lia | omega), .int _ _, .none, fun q h' fq hq S => k _ h' ⟨q, us.drop i, rfl, ?_, hi.drop i⟩ S⟩
  rw [slice_from _ _ (by simp; (first | lia | omega))] at hq
  simpa using hq
theorem r_addR {v w' : Value} {row row' : List Int} {Q : Value → Shared → Prop} (h1 : RowI h v row) (h2 : RowI h w' row') (hz : row.length + row'.length ≤ 1000) (k : ∀ a h', RowI h' a (row ++ row') → Stay h h' → Q a (st s h' tk)) :
    wpAny (model prog w) A (binaryOp .Add v w') Q E (st s h tk) := by
  (first | (refine Mine.e2_3 (h1) ?_; rintro a us rfl hp hi) | (obtain ⟨a, us, rfl, hp, hi⟩ := h1))
  (first | (refine Mine.e2_3 (h2) ?_; rintro b vs rfl hq hj) | (obtain ⟨b, vs, rfl, hq, hj⟩ := h2))
  have l1 : us.length = row.length := hi.length
  have l2 : vs.length = row'.length := hj.length
  refine r_addL hp hq (by simp; (first | lia | omega)) fun c h' fc hc S => k _ h' ⟨c, us ++ vs, rfl, by simpa using hc, hi.append hj⟩ S
theorem r_list1 {env : Env} {e : Expr} {pos : Pos} {Q : Value → Shared → Prop} {S : Shared} (k : wpAny (model prog w) A (eval e env) (fun v s₁ => ∃ h₁ tk₁ i t, s₁ = st s h₁ tk₁ ∧ v = .int i t ∧ ∀ a h', RowI h' a [i] → Stay h₁ h' → Q a (st s h' tk₁)) E S)
    (he : starEach [e] env = (false, eval e env) :: starEach [] env := by rfl) :
    wpAny (model prog w) A (eval (.List [e] pos) env) Q E S := by
  refine r_list (r_sp1 (wpAny_mono k (fun v s₁ k₁ => ?_) fun _ _ x => x) he)
  (first | (refine Mine.e3_4 (k₁) ?_; rintro h₁ tk₁ i t rfl rfl k) | (refine Mine.e4_3 (k₁) ?_; rintro h₁ tk₁ i t rfl rfl k) | (obtain ⟨h₁, tk₁, i, t, rfl, rfl, k⟩ := k₁))
  exact r_sp0 (r_newList (by simp) fun q h' fq hq S => k _ h' ⟨q, _, rfl, hq, .cons i t .nil⟩ S)
set_option maxHeartbeats 4000000 in
theorem c_least {wv : Value} {ws : List Int} (R : Rm 1 A) (B : Bas mg mb h) (X : FnAt h 158 157 40 .none) (hlen : mg "len" = none) (hw : IntsAt h wv ws) (hl : ws.length ≤ 10) (hok : leastOk 10 (rowOf ws) = true) :
    Gives prog w A (call (.ref 158) [wv]) s h (fun v _ => ∃ t, v = .int (leastN 10 (rowOf ws) 0) t) := by
  refine gives_def (binds := [("weights", wv)]) R B X (fun pm tk => BindsTo.of_eq rfl) (by decide +kernel) (by rfl) fun pm L h₀ tk htk F => ?_
  have hdA : (A.deeper (callEnv (fnD 40 157 pm .none) L 158)).handled = none := R.hd
  generalize hA' : A.deeper (callEnv (fnD 40 157 pm .none) L 158) = A' at *
  have hw₀ : RowI h₀ wv ws := RowI.stay (hw : RowI h wv ws) F.keep
  refine r_swap2 (s := s) (G := h) (L := L) hdA ?_
  refine r_tuple (r_sp1 ?_)
  (with_reducible refine wpAny_BinOp ?_)
  (with_reducible refine wpAny_BinOp ?_)
  refine r_list1 (s := s) (r_int ⟨h₀, _, 1000, _, rfl, rfl, fun q1 h₁ hq1 S₁ => ?_⟩)
  have F₁ := F.stay S₁
  refine nmL F₁ rfl ?_
  refine r_addR hq1 (hw₀.stay S₁) (by simp; (first | lia | omega)) fun q2 h₂ hq2 S₂ => ?_
  have F₂ := F₁.stay S₂
  refine r_list1 (s := s) (r_int ⟨h₂, _, 1000, _, rfl, rfl, fun q3 h₃ hq3 S₃ => ?_⟩)
  refine r_addR (hq2.stay S₃) hq3 (by simp; (first | lia | omega)) fun q4 h₄ hq4 S₄ => ?_
  have F₄ := (F₂.stay S₃).stay S₄
  refine r_sp1 (r_int (r_sp0 (r_newTuple (by simp) fun ta h₅ fta hta S₅ => ?_)))
  have F₅ := F₄.stay S₅
  refine ⟨h₅, _, ta, _, _, _, rfl, rfl, hta, F₅, fun h₆ tk₆ F₆ O₆ => ?_⟩
  have hrow₆ : RowI h₆ q4 (rowOf ws) := rowI_off F₅ (hq4.stay S₅) O₆
  refine r_while (J := fun n h' => ∃ m' v row total t, Fm h L m' h' ∧ m' "row" = some v ∧ m' "total" = some (.int total t) ∧ RowI h' v row ∧ leastOk n row = true ∧ leastN n row total = leastN 10 (rowOf ws) 0)
    (N := fun h' => ∃ m' t, Fm h L m' h' ∧ m' "total" = some (.int (leastN 10 (rowOf ws) 0) t)) (n₀ := 10) ⟨_, q4, _, _, _, F₆, rfl, rfl, hrow₆, hok, rfl⟩ ?turn ?rest
  case rest =>
    (rintro h' tk' hcj; (first | (refine Mine.e2_2 hcj ?_; clear hcj; rintro m' t F' a1) | (obtain ⟨m', t, F', a1⟩ := hcj)))
    refine r_ret (nmL F' a1 ⟨_, _, rfl, F'.keep, t, rfl⟩)
  case turn =>
    (rintro n h₇ tk₇ hcj; (first | (refine Mine.e4_7 hcj ?_; clear hcj; rintro m' v row total t F' a1 a2 a3 a4 a5) | (refine Mine.e5_6 hcj ?_; clear hcj; rintro m' v row total t F' a1 a2 a3 a4 a5) | (obtain ⟨m', v, row, total, t, F', a1, a2, a3, a4, a5⟩ := hcj)))
    have hrl : row.length ≤ 20 := by
      cases n with
      | zero => simp [leastOk] at a4; (first | lia | omega)
      | succ n => simp [leastOk] at a4; exact a4.1
    (first | (refine Mine.e2_3 (id a3) ?_; rintro ra ru e0 hrp hri) | (obtain ⟨ra, ru, e0, hrp, hri⟩ := id a3))
    have hru : ru.length = row.length := hri.length
    (((with_reducible refine wpAny_isTrue_Compare1 ?_ ?mk); (case mk => with_unfolding_all rfl)))
    (with_reducible refine r_call ?_)
    refine nmB (B.stay F'.keep) hlen rfl ?_
    refine r_cwB (r_sp1 (nmL F' a1 (r_sp0 ?_)))
    rw [e0]
    refine r_lenL hrp.isList (by simp; (first | lia | omega)) fun t1 tk1 => ?_
    rw [List.size_toArray, hru]
    (((with_reducible refine r_int ?_)))
    (with_reducible refine PyProof.Rows.gt_int ?_)
    (with_reducible refine wpAny_truthy_bool ?_)
    refine r_split (fun hc => ?_) (fun hc => ?_)
    · have hc : 3 < row.length := by simp at hc; (first | lia | omega)
      obtain ⟨n', rfl⟩ : ∃ n', n = n' + 1 := by
        cases n with
        | zero => simp [leastOk] at a4; (first | lia | omega)
        | succ n => exact ⟨n, rfl⟩
      simp only [leastOk, Bool.and_eq_true, decide_eq_true_eq, if_pos (show row.length > 3 from hc)] at a4
      (first | (refine Mine.e0_3 (a4) ?_; rintro - hst hnext) | (obtain ⟨-, hst, hnext⟩ := a4))
      simp only [leastN, if_pos (show row.length > 3 from hc)] at a5
      simp only [stepOk, Bool.and_eq_true] at hst
      obtain ⟨hup, hdown⟩ := hst
      have hue := up_end row 10 1 hup
      generalize hU : upF row 10 1 = U at *
      refine r_assign ?_
      (((with_reducible refine r_int ?_)))
      refine stL F' fun h₈ tk₈ F₈ O₈ => ?_
      have hr₈ := rowI_off F' a3 O₈
      refine r_while (J := fun f h' => ∃ m' spot t t2, Fm h L m' h' ∧ m' "spot" = some (.int ((spot : Nat) : Int) t) ∧ m' "row" = some v ∧ m' "total" = some (.int total t2) ∧ RowI h' v row ∧ upOk row f spot = true ∧ upF row f spot = U)
        (N := fun h' => ∃ m' t t2, Fm h L m' h' ∧ m' "spot" = some (.int (U : Int) t) ∧ m' "row" = some v ∧ m' "total" = some (.int total t2) ∧ RowI h' v row) (n₀ := 10) ⟨_, 1, _, _, F₈, rfl, a1, a2, hr₈, hup, hU⟩ ?turn1 ?rest1
      case turn1 =>
        (rintro f h₉ tk₉ hcj; (first | (refine Mine.e4_7 hcj ?_; clear hcj; rintro m₉ spot t3 t4 F₉ b1 b2 b3 b4 b5 b6) | (refine Mine.e5_6 hcj ?_; clear hcj; rintro m₉ spot t3 t4 F₉ b1 b2 b3 b4 b5 b6) | (obtain ⟨m₉, spot, t3, t4, F₉, b1, b2, b3, b4, b5, b6⟩ := hcj)))
        have hsl : spot + 2 < row.length := by
          cases f with
          | zero => simp [upOk] at b5; exact b5.1
          | succ f => simp only [upOk, Bool.and_eq_true, decide_eq_true_eq] at b5; exact b5.1
        (((with_reducible refine wpAny_isTrue_Compare1 ?_ ?mk); (case mk => with_unfolding_all rfl)))
        refine r_subs (nmL F₉ b2 (nmL F₉ b1 (r_at b4 rfl (by (first | lia | omega)) (by (first | lia | omega)) fun t5 => ?_)))
        refine r_subs (nmL F₉ b2 ?_)
        (with_reducible refine wpAny_BinOp ?_)
        refine nmL F₉ b1 ?_
        (((with_reducible refine r_int ?_)))
        (((with_reducible refine r_add ?_)))
        refine r_at (j := spot + 2) b4 (by (first | lia | omega)) (by (first | lia | omega)) (by (first | lia | omega)) fun t6 => ?_
        (with_reducible refine PyProof.Rows.gt_int ?_)
        (with_reducible refine wpAny_truthy_bool ?_)
        refine r_split (fun hc => ?_) (fun hc => ?_)
        · have hc : row.getD spot 0 > row.getD (spot + 2) 0 := by simpa using hc
          obtain ⟨f', rfl⟩ : ∃ f', f = f' + 1 := by
            cases f with
            | zero => simp only [upOk, Bool.and_eq_true, Bool.not_eq_true', decide_eq_false_iff_not] at b5; exact absurd hc b5.2
            | succ f => exact ⟨f, rfl⟩
          simp only [upOk, if_pos hc, Bool.and_eq_true] at b5
          simp only [upF, if_pos hc] at b6
          refine r_aug ?_
          refine ldL F₉ b1 ?_
          (((with_reducible refine r_int ?_)))
          refine PyProof.Rows.iadd_int (s := st s h₉ _) ?_
          refine stL F₉ fun h₁₀ tk₁₀ F₁₀ O₁₀ => ?_
          refine r_nil ⟨rfl, h₁₀, tk₁₀, f', rfl, by (first | lia | omega), _, spot + 1, _, t4, F₁₀, rfl, b2, b3, rowI_off F₉ b4 O₁₀, b5.2, b6⟩
        · have hc : ¬ row.getD spot 0 > row.getD (spot + 2) 0 := by simpa using hc
          have : spot = U := by
            rw [← b6]
            cases f with
            | zero => rfl
            | succ f => simp only [upF, if_neg hc]
          subst this
          exact ⟨_, _, rfl, m₉, t3, t4, F₉, b1, b2, b3, b4⟩
      case rest1 =>
        (rintro h₉ tk₉ hcj; (first | (refine Mine.e3_5 hcj ?_; clear hcj; rintro m₉ t3 t4 F₉ b1 b2 b3 b4) | (obtain ⟨m₉, t3, t4, F₉, b1, b2, b3, b4⟩ := hcj)))
        have F9 := F₉
        refine r_assign ?_
        (with_reducible refine wpAny_BinOp ?_)
        refine r_subs (nmL F₉ b2 (nmL F₉ b1 (r_at b4 rfl (by (first | lia | omega)) (by (first | lia | omega)) fun t5 => ?_)))
        refine r_subs (nmL F₉ b2 ?_)
        (with_reducible refine wpAny_BinOp ?_)
        refine nmL F₉ b1 ?_
        (((with_reducible refine r_int ?_)))
        (((with_reducible refine r_add ?_)))
        refine r_at (j := U + 1) b4 (by (first | lia | omega)) (by (first | lia | omega)) (by (first | lia | omega)) fun t6 => ?_
        (((with_reducible refine r_add ?_)))
        have hboth : bothF row = row.getD U 0 + row.getD (U + 1) 0 := by unfold bothF; rw [hU]
        rw [← hboth]
        refine stL F₉ fun h₁₀ tk₁₀ F₁₀ O₁₀ => ?_
        have b4 := rowI_off F₉ b4 O₁₀
        refine r_aug ?_
        refine ldL F₁₀ b3 ?_
        refine nmL F₁₀ rfl ?_
        refine PyProof.Rows.iadd_int (s := st s h₁₀ _) ?_
        refine stL F₁₀ fun h₁₁ tk₁₁ F₁₁ O₁₁ => ?_
        have b4 := rowI_off F₁₀ b4 O₁₁
        refine r_assign ?_
        (with_reducible refine wpAny_BinOp ?_)
        refine r_cutTo (s := s) F₁₁ b2 b4 (by (first | lia | omega)) ?_
        refine evalPart_some_step (nmL F₁₁ b1 ⟨U, _, _, rfl, rfl, fun qa h₁₂ hqa S₁₂ => ?_⟩)
        have F₁₂ := F₁₁.stay S₁₂
        refine r_cutFrom (s := s) F₁₂ b2 (b4.stay S₁₂) (by (first | lia | omega)) ?_
        refine evalPart_some_step ?_
        (with_reducible refine wpAny_BinOp ?_)
        refine nmL F₁₂ b1 ?_
        (((with_reducible refine r_int ?_)))
        (((with_reducible refine r_add ?_)))
        refine ⟨U + 2, _, _, rfl, congrArg (Value.int · _) (by (first | lia | omega)), by (first | lia | omega), fun qb h₁₃ hqb S₁₃ => ?_⟩
        refine r_addR (hqa.stay S₁₃) hqb (by simp; (first | lia | omega)) fun qc h₁₄ hqc S₁₄ => ?_
        have F₁₄ := (F₁₂.stay S₁₃).stay S₁₄
        have hcut : cutF row = row.take U ++ row.drop (U + 2) := by unfold cutF; rw [hU]
        rw [← hcut] at hqc
        have hcl : (cutF row).length ≤ 20 := by rw [hcut]; simp; (first | lia | omega)
        refine stL F₁₄ fun h₁₅ tk₁₅ F₁₅ O₁₅ => ?_
        have hrc := rowI_off F₁₄ hqc O₁₅
        have hput : putF row = ((cutF row).take (downF (cutF row) (bothF row) U) ++ [bothF row]) ++ (cutF row).drop (downF (cutF row) (bothF row) U) := by unfold putF; rw [hU]
        generalize hC : cutF row = cut at *
        generalize hB : bothF row = both at *
        have hDle := down_end cut both U
        generalize hD : downF cut both U = D at *
        refine r_while (J := fun f h' => ∃ m' spot t t2 t3, f = spot ∧ Fm h L m' h' ∧ m' "spot" = some (.int ((spot : Nat) : Int) t) ∧ m' "row" = some qc ∧ m' "total" = some (.int (total + both) t2) ∧ m' "both" = some (.int both t3) ∧ RowI h' qc cut ∧ downOk cut both spot = true ∧ downF cut both spot = D)
          (N := fun h' => ∃ m' t t2 t3, Fm h L m' h' ∧ m' "spot" = some (.int (D : Int) t) ∧ m' "row" = some qc ∧ m' "total" = some (.int (total + both) t2) ∧ m' "both" = some (.int both t3) ∧ RowI h' qc cut ∧ D ≤ cut.length) (n₀ := U) ⟨_, U, _, _, _, rfl, F₁₅, b1, rfl, rfl, rfl, hrc, hdown, hD⟩ ?turn2 ?rest2
        case turn2 =>
          (rintro f h₁₆ tk₁₆ hcj; (first | (refine Mine.e5_9 hcj ?_; clear hcj; rintro m₁₆ spot t7 t8 t9 rfl F₁₆ c1 c2 c3 c4 c5 c6 c7) | (obtain ⟨m₁₆, spot, t7, t8, t9, rfl, F₁₆, c1, c2, c3, c4, c5, c6, c7⟩ := hcj)))
          obtain ⟨sp, rfl⟩ : ∃ sp, f = sp + 1 := by
            cases f with
            | zero => simp [downOk] at c6
            | succ f => exact ⟨f, rfl⟩
          have hsl : sp < cut.length := by simp only [downOk, Bool.and_eq_true, decide_eq_true_eq] at c6; exact c6.1
          (((with_reducible refine wpAny_isTrue_Compare1 ?_ ?mk); (case mk => with_unfolding_all rfl)))
          refine r_subs (nmL F₁₆ c2 ?_)
          (with_reducible refine wpAny_BinOp ?_)
          refine nmL F₁₆ c1 ?_
          (((with_reducible refine r_int ?_)))
          (((with_reducible refine r_sub ?_)))
          refine r_at (j := sp) c5 (by (first | lia | omega)) hsl (by (first | lia | omega)) fun t10 => ?_
          refine nmL F₁₆ c4 ?_
          (with_reducible refine PyProof.Rows.lt_int ?_)
          (with_reducible refine wpAny_truthy_bool ?_)
          refine r_split (fun hc => ?_) (fun hc => ?_)
          · have hc : cut.getD sp 0 < both := by simpa using hc
            simp only [downOk, if_pos hc, Bool.and_eq_true] at c6
            simp only [downF, if_pos hc] at c7
            refine r_aug ?_
            refine ldL F₁₆ c1 ?_
            (((with_reducible refine r_int ?_)))
            refine PyProof.Rows.isub_int (s := st s h₁₆ _) ?_
            rw [show ((sp + 1 : Nat) : Int) - 1 = (sp : Int) by (first | lia | omega)]
            refine stL F₁₆ fun h₁₇ tk₁₇ F₁₇ O₁₇ => ?_
            refine r_nil ⟨rfl, h₁₇, tk₁₇, sp, rfl, by (first | lia | omega), _, sp, _, t8, t9, rfl, F₁₇, rfl, c2, c3, c4, rowI_off F₁₆ c5 O₁₇, c6.2, c7⟩
          · have hc : ¬ cut.getD sp 0 < both := by simpa using hc
            have : sp + 1 = D := by rw [← c7]; simp only [downF, if_neg hc]
            subst this
            exact ⟨_, _, rfl, m₁₆, t7, t8, t9, F₁₆, c1, c2, c3, c4, c5, hsl⟩
        case rest2 =>
          (rintro h₁₆ tk₁₆ hcj; (first | (refine Mine.e4_7 hcj ?_; clear hcj; rintro m₁₆ t7 t8 t9 F₁₆ c1 c2 c3 c4 c5 c6) | (refine Mine.e5_6 hcj ?_; clear hcj; rintro m₁₆ t7 t8 t9 F₁₆ c1 c2 c3 c4 c5 c6) | (obtain ⟨m₁₆, t7, t8, t9, F₁₆, c1, c2, c3, c4, c5, c6⟩ := hcj)))
          refine r_assign ?_
          (with_reducible refine wpAny_BinOp ?_)
          (with_reducible refine wpAny_BinOp ?_)
          refine r_cutTo (s := s) F₁₆ c2 c5 (by (first | lia | omega)) ?_
          refine evalPart_some_step (nmL F₁₆ c1 ⟨D, _, _, rfl, rfl, fun qd h₁₇ hqd S₁₇ => ?_⟩)
          have F₁₇ := F₁₆.stay S₁₇
          refine r_list1 (s := s) (nmL F₁₇ c4 ⟨h₁₇, _, both, _, rfl, rfl, fun qe h₁₈ hqe S₁₈ => ?_⟩)
          have F₁₈ := F₁₇.stay S₁₈
          refine r_addR (hqd.stay S₁₈) hqe (by simp; (first | lia | omega)) fun qf h₁₉ hqf S₁₉ => ?_
          have F₁₉ := F₁₈.stay S₁₉
          refine r_cutFrom (s := s) F₁₉ c2 (((c5.stay S₁₇).stay S₁₈).stay S₁₉) (by (first | lia | omega)) ?_
          refine evalPart_some_step (nmL F₁₉ c1 ⟨D, _, _, rfl, rfl, c6, fun qg h₂₀ hqg S₂₀ => ?_⟩)
          refine r_addR (hqf.stay S₂₀) hqg (by simp; (first | lia | omega)) fun qh h₂₁ hqh S₂₁ => ?_
          have F₂₁ := (F₁₉.stay S₂₀).stay S₂₁
          rw [← hput] at hqh
          refine stL F₂₁ fun h₂₂ tk₂₂ F₂₂ O₂₂ => ?_
          exact r_nil ⟨rfl, h₂₂, tk₂₂, n', rfl, by (first | lia | omega), _, qh, putF row, total + both, t8, F₂₂, rfl, c3, rowI_off F₂₁ hqh O₂₂, hnext, a5⟩
    · have hc : ¬ row.length > 3 := by simp at hc; (first | lia | omega)
      have : leastN n row total = total := by
        cases n with
        | zero => rfl
        | succ n => simp only [leastN, if_neg hc]
      rw [this] at a5
      rw [a5] at a2
      exact ⟨_, _, rfl, m', t, F', a2⟩
end
end Mine
end
section
open PySem PySem.W PySem.Calls PyProof.Rows
set_option Elab.async false
set_option maxRecDepth 100000
set_option linter.unusedVariables false
namespace Mine

section
variable {prog : Program} {w : World} {A : Around} {E : Value → Shared → Prop} {s : Shared} {G h : Heap} {L : Addr} {m mg mb : Str → Option Value} {tk : Nat}
theorem noFillI_list : fillsInplaceSlot (.type "list") "add" (Operator.Add == .Add) = pure false := by
  unfold fillsInplaceSlot
  show (typeLookup (.type "list") (dunderI "add") >>= fun fi => pure (fi.isSome && !isSeqSlot fi)) = pure false
  rw [PySem.F.slot_list_iadd.lookup]
  rfl
theorem seqI_list : seqSlot? (.type "list") (dunderI "add") = pure (some (.builtin "list.__iadd__")) := PySem.seqSlot_of PySem.F.slot_list_iadd.lookup (by decide +kernel)
theorem r_iaddL {l b : Addr} {xs ys : Array Value} {Q : Value → Shared → Prop} (hl : h.PlainList l xs) (hb : h.PlainList b ys) (hz : xs.size + ys.size ≤ 1000)
    (k : ∀ h', h'.PlainList l (xs ++ ys) → Off l h h' → Q (.ref l) (st s h' tk)) : wpAny (model prog w) A (inplaceOp .Add (.ref l) (.ref b)) Q E (st s h tk) := by
  obtain ⟨n, hl⟩ := hl
  obtain ⟨n', hb⟩ := hb
  have ta : (st s h tk).TypeIs (.ref l) "list" := ⟨_, hl, rfl⟩
  have tb : (st s h tk).TypeIs (.ref b) "list" := ⟨_, hb, rfl⟩
  unfold inplaceOp
  refine wpAny_holding ?_
  refine wpAny_bind (wpAny_typeOf ta (wpAny_bind (wpAny_of_eq noFillI_list ?_)))
  show wpAny _ A (if false = true then _ else _) Q E _
  rw [if_neg Bool.false_ne_true]
  refine wpAny_bind (wpAny_binaryOp1_none (nm := "add") ta tb noFill_list_add ?_)
  refine wpAny_bind (wpAny_of_eq seqI_list ?_)
  refine wpAny_bind (wpAny_rule ?_)
  refine call_meets PySem.F.slot_list_iadd ta PySem.F.entry_list_iadd (PySem.F.args_list_iadd_2 _ _) (AutoSeq1.list___iadd___list_list_0 l xs n b ys n' ?_ (by rw [sizeLine_eq]; (first | lia | omega)) (by rw [sizeLine_eq]; (first | lia | omega))) ⟨hl, hb, ?_⟩
  · have : Builtin.List.listTooLong (xs.size + ys.size) = false := by unfold Builtin.List.listTooLong; simp only [decide_eq_false_iff_not, sizeLine_eq]; (first | lia | omega)
    rw [this]; simp
  · exact k _ ⟨_, Heap.get?_update_self (Obj.mapSeq fun x => x ++ ys) hl rfl⟩ fun b o hb e => ((Heap.SameBut.update ..).2 b hb).trans e
end

theorem paired_range {F : Nat → Value → Prop} {R : Value → List Int → Prop} : ∀ (rows : List (List Int)) (a : Nat) {ys : List Value}, Paired F (List.range' a rows.length) ys → (∀ i y r, rows[i]? = some r → F (a + i) y → R y r) → Paired R ys rows
  | [], a, ys, h, _ => by
    cases h; exact .nil
  | r :: rows, a, ys, h, hF => by
    rw [List.length_cons, List.range'_succ] at h
    cases h with
    | cons f t => exact .cons (hF 0 _ r rfl f) (paired_range rows (a + 1) t fun i y r' e q => hF (i + 1) y r' e (by rwa [show a + (i + 1) = a + 1 + i by (first | lia | omega)]))
theorem ints_range {F : Nat → Value → Prop} : ∀ (row : List Int) (a : Nat) {ys : List Value}, Paired F (List.range' a row.length) ys → (∀ i y r, row[i]? = some r → F (a + i) y → ∃ t, y = .int r t) → IntsAre ys row
  | [], a, ys, h, _ => by
    cases h; exact .nil
  | r :: rows, a, ys, h, hF => by
    rw [List.length_cons, List.range'_succ] at h
    cases h with
    | cons f t =>
      obtain ⟨u, rfl⟩ := hF 0 _ r rfl f
      exact .cons r u (ints_range rows (a + 1) t fun i y r' e q => hF (i + 1) y r' e (by rwa [show a + (i + 1) = a + 1 + i by (first | lia | omega)]))
theorem filter_true (n : Nat) : (List.range n).filter (fun _ => true) = List.range' 0 n := by
  rw [List.filter_eq_self.mpr (by simp), List.range_eq_range']

noncomputable def depF : Nat → Nat → List (List Int)
  | 0, _ => []
  | f + 1, n => if n = 1 then [[0]] else (List.range (n - 1)).flatMap fun c => (depF f (c + 1)).flatMap fun s => (depF f (n - (c + 1))).map fun e => (s ++ e).map (· + 1)
theorem depF_ok : ∀ f, f ≤ 5 → ∀ n, 1 ≤ n → n ≤ f → (depF f n).length ≤ 14 ∧ ∀ r ∈ depF f n, r.length ≤ 5 := by
  have key : (List.range 6).all (fun f => (List.range 6).all fun n => decide (n = 0) || decide (f < n) || (decide ((depF f n).length ≤ 14) && (depF f n).all fun r => decide (r.length ≤ 5))) = true := by decide +kernel
  intro f hf n h1 h2
  have := List.all_eq_true.mp key f (by simp; (first | lia | omega))
  have := List.all_eq_true.mp this n (by simp; (first | lia | omega))
  simp only [Bool.or_eq_true, decide_eq_true_eq, Bool.and_eq_true, List.all_eq_true] at this
  rcases this with (h | h) | h
  · (first | lia | omega)
  · (first | lia | omega)
  · exact h

section
variable {prog : Program} {w : World} {A : Around} {s : Shared} {h : Heap} {mg mb : Str → Option Value}
theorem gives_defC {f c n : Nat} {dV : Value} {args : List Value} {binds : List (Str × Value)} {φ : Value → Heap → Prop}
    (R : Rm 1 A) (B : Bas mg mb h) (X : FnAt h f c n dV)
    (hbind : ∀ pm, bindArgs (fnD n c pm dV) ⟨args, []⟩ = pure binds)
    (hkind : ∀ L, ∀ x ∈ binds, (scopeAt n).names.lookup x.1 = some .local ∨ ((scopeAt n).names.lookup x.1 = some .cell ∧ ((cellsFrom (L + 1) (scopeAt n).names []).lookup x.1).isSome = true))
    (hb : ∀ pm L h₀ tk, h.get? L = none → Stay h h₀ → h₀.Ns L (bindL (fun x => (scopeAt n).names.lookup x) binds fun _ => none) →
      (∀ y a, (cellsFrom (L + 1) (scopeAt n).names []).lookup y = some a → h.get? a = none ∧ a ≠ L ∧ h₀.IsCell a (bindC (fun x => (scopeAt n).names.lookup x) binds (fun _ => none) y)) →
      wpAny (model prog w) (A.deeper (callEnvC (fnD n c pm dV) L f)) (execs (bodyAt n) (callEnvC (fnD n c pm dV) L f)) (fun fl s' => ∃ h' tk', s' = st s h' tk' ∧ Stay h h' ∧ φ (flowV fl) h') (fun _ _ => False) (st s h₀ tk))
    (hco : (scopeAt n).isCoroutine = false := by rfl) (hgen : (scopeAt n).isGenerator = false := by rfl) (hk : (scopeAt n).kind = .function := by rfl) :
    Gives prog w A (call (.ref f) args) s h φ := by
  (first | (refine Mine.e1_2 (X) ?_; rintro pm ho hc) | (refine Mine.e2_1 (X) ?_; rintro pm ho hc) | (obtain ⟨pm, ho, hc⟩ := X))
  intro tk Q E k
  refine wpAny_call (codeAny_call_cells (s := st s h tk) (binds := binds) R.room ho rfl B.lim hc (body := bodyAt n) rfl (hbind pm) rfl (hkind _) (fun s₁ I => ?_) hco hgen hk)
  have nL : h.get? h.objs.size = none := Heap.get?_none_of_le (Nat.le_refl _)
  (first | (refine Mine.e1_2 (I.toInCall.same) ?_; rintro h₁ tk₁ rfl) | (refine Mine.e2_1 (I.toInCall.same) ?_; rintro h₁ tk₁ rfl) | (obtain ⟨h₁, tk₁, rfl⟩ := I.toInCall.same))
  refine wpAny_mono (hb pm h.objs.size h₁ tk₁ nL I.toInCall.keep I.toInCall.ns fun y a e => ?_) (fun fl s' q => ?_) fun _ _ e => e.elim
  · have := I.above y a (mem_of_lookup e)
    have h1 : h.objs.size < a := this
    exact ⟨Heap.get?_none_of_le (Nat.le_of_lt h1), Nat.ne_of_gt h1, I.cell y a e⟩
  · (first | (refine Mine.e2_3 (q) ?_; rintro h' tk' rfl S p) | (obtain ⟨h', tk', rfl, S, p⟩ := q))
    exact k _ _ _ S p
end
end Mine
end
section
open PySem PySem.W PySem.Calls PyProof.Rows
set_option Elab.async false
set_option maxRecDepth 100000
set_option linter.unusedVariables false
namespace Mine

noncomputable def sc1 : Scope := { kind := .function, names := [(".0", .local), ("depth", .local)], isGenerator := false, isCoroutine := false, more := [] }
noncomputable def sc2 : Scope := { kind := .function, names := [(".0", .local), ("end", .local), ("start", .free)], isGenerator := false, isCoroutine := false, more := [] }
noncomputable abbrev dEnv (pm : Value) (L : Nat) : Env := callEnvC (fnD 38 143 pm .none) L 144
section
variable {prog : Program} {w : World} {A : Around} {E : Value → Shared → Prop} {s : Shared} {G h : Heap} {L : Nat} {m mg mb : Str → Option Value} {tk : Nat} {pm : Value}
set_option maxHeartbeats 2000000 in
theorem dep_comp {a1 a2 a3 a4 a5 a6 a7 a8 a9 a10 a11 : Pos} {k1 : Nat} {ev sv : Value} {ends : List (List Int)} {srow : List Int} {Q : Value → Shared → Prop} (hh : A.handled = none) (F : Fm G L m h) (hm : m "ends" = some ev) (hE : RowsI h ev ends) (hc : h.IsCell (L + 1) (some sv)) (hS : RowI h sv srow)
    (hl1 : ends.length ≤ 100) (hl2 : srow.length ≤ 100) (hl3 : ∀ r ∈ ends, r.length ≤ 100)
    (k : ∀ q ys h' tk', h.get? q = none → Stay h h' → h'.PlainList q (List.toArray ys) → (∀ Z : List Addr, (∀ z ∈ Z, ∃ o, h.get? z = some o) → Paired (RowI (hideAll h' (q :: Z))) ys (ends.map fun e => (srow ++ e).map (· + 1))) → Q (.ref q) (st s h' tk')) :
    wpAny (model prog w) A (eval (.ListComp (.ListComp (.BinOp (.Name "depth" a1) .Add (.Constant (.int 1) k1 a2) a3) [⟨.Name "depth" a4, .BinOp (.Name "start" a5) .Add (.Name "end" a6) a7, [], 0⟩] sc1 a8) [⟨.Name "end" a9, .Name "ends" a10, [], 0⟩] sc2 a11) (dEnv pm L)) Q E (st s h tk) := by
  (first | (refine Mine.e2_3 (hE) ?_; rintro ea eu rfl hep hei) | (refine Mine.e3_2 (hE) ?_; rintro ea eu rfl hep hei) | (obtain ⟨ea, eu, rfl, hep, hei⟩ := hE))
  have heu : eu.length = ends.length := paired_len hei
  refine comp_q (s := s) (cl := [("start", L + 1)]) rfl (by decide) rfl (by decide) (by intro _; rfl) hh ?_
  refine nmL F hm ?_
  refine ⟨h, h, tk, [ea], eu.toArray.size, _, fun _ => true, fun i y H => ∀ r, ends[i]? = some r → RowI H y ((srow ++ r).map (· + 1)), rfl, Stay.refl _, .ofSeq (Seq.list hep.isList), ?hb, by simp; (first | lia | omega), ?hm, ?turn, ?fin⟩
  case hb =>
    intro b hb
    simp at hb
    subst hb
    obtain ⟨n, e⟩ := hep
    exact ⟨_, e⟩
  case hm => exact fun i y H H' x S r e => (x r e).stay S
  case fin =>
    intro D ys h' tk' fD S hD hP
    refine k D ys h' tk' fD S hD fun Z hZ => ?_
    have h1 := hP Z hZ
    rw [filter_true] at h1
    refine paired_range _ 0 (by simpa [heu] using h1) fun i y r e x => ?_
    rw [List.getElem?_map] at e
    cases he : ends[i]? with
    | none => rw [he] at e; simp at e
    | some r0 =>
      rw [he] at e
      simp only [Option.map_some, Option.some.injEq] at e
      rw [← e]
      have := x r0 (by simpa using he)
      simpa using this
  case turn =>
    intro i v C m₃ h₃ tk₃ hi hP FC
    obtain ⟨r, hr, hrow⟩ := paired_get hei (show eu[i]? = some v by simpa using hP)
    have hrl := hl3 r (List.mem_of_getElem? hr)
    unfold CompElem
    refine r_name FC (fun h₄ tk₄ F₄ O₄ => ?_) rfl rfl rfl
    refine wpAny_tests_nil ⟨rfl, ?_⟩
    rw [if_pos rfl]
    have S₄ : Stay h h₄ := F₄.keep
    refine comp_q (s := s) (cl := []) rfl (by decide) rfl (by decide) (by intro _; rfl) hh ?_
    (with_reducible refine wpAny_BinOp ?_)
    refine nmC (hc.keeps S₄) ?_ rfl rfl rfl (by decide)
    refine nmL F₄ rfl ?_ rfl rfl rfl
    (first | (refine Mine.e2_3 (hS.stay S₄) ?_; rintro sa su rfl hsp hsi) | (refine Mine.e3_2 (hS.stay S₄) ?_; rintro sa su rfl hsp hsi) | (obtain ⟨sa, su, rfl, hsp, hsi⟩ := hS.stay S₄))
    (first | (refine Mine.e2_3 (hrow.stay S₄) ?_; rintro ra ru rfl hrp hri) | (refine Mine.e3_2 (hrow.stay S₄) ?_; rintro ra ru rfl hrp hri) | (obtain ⟨ra, ru, rfl, hrp, hri⟩ := hrow.stay S₄))
    have l1 : su.length = srow.length := hsi.length
    have l2 : ru.length = r.length := hri.length
    refine r_addL hsp hrp (by simp; (first | lia | omega)) fun q h₅ fq hq S₅ => ?_
    have F₅ := F₄.stay S₅
    have hqi : IntsAre (su ++ ru) (srow ++ r) := hsi.append hri
    have hq' : h₅.PlainList q (List.toArray (su ++ ru)) := by simpa using hq
    refine ⟨h₅, h₅, _, [q], (su ++ ru).toArray.size, _, fun _ => true, fun j y H => ∀ d, (srow ++ r)[j]? = some d → ∃ t, y = .int (d + 1) t, rfl, Stay.refl _, .ofSeq (Seq.list hq'.isList), ?hb2, by simp; (first | lia | omega), fun j y H H' x S => x, ?turn2, ?fin2⟩
    case hb2 =>
      intro b hb
      simp at hb
      subst hb
      obtain ⟨n, e⟩ := hq'
      exact ⟨_, e⟩
    case turn2 =>
      intro j v2 C2 m₆ h₆ tk₆ hj hP2 FC2
      obtain ⟨td, d, rfl, hd⟩ := ints_get' hqi (show (su ++ ru)[j]? = some v2 by simpa using hP2)
      unfold CompElem
      refine r_name FC2 (fun h₇ tk₇ F₇ O₇ => ?_) rfl rfl rfl
      refine wpAny_tests_nil ⟨rfl, ?_⟩
      rw [if_pos rfl]
      (with_reducible refine wpAny_BinOp ?_)
      refine nmL F₇ rfl ?_ rfl rfl rfl
      (((with_reducible refine r_int ?_)))
      (((with_reducible refine r_add ?_)))
      refine ⟨h₇, _, rfl, O₇, ⟨_, F₇.ns⟩, fun Z hZ d' hd' => ?_⟩
      rw [hd] at hd'
      cases hd'
      exact ⟨_, rfl⟩
    case fin2 =>
      intro D2 ys h₆ tk₆ fD2 S₆ hD2 hP2
      have hCF := F₅.stay S₆
      refine ⟨h₆, tk₆, rfl, fun b o nC e => S₆ _ _ (S₅ _ _ (O₄ _ _ nC e)), ⟨_, hCF.ns⟩, fun Z hZ r' hr' => ?_⟩
      rw [hr] at hr'
      cases hr'
      have hZ5 : ∀ z ∈ Z, ∃ o, h₅.get? z = some o := fun z hz => by
        by_cases q : z = C
        · subst q
          (first | (refine Mine.e2_3 (F₅.ns) ?_; rintro o es ep e _) | (refine Mine.e3_2 (F₅.ns) ?_; rintro o es ep e _) | (obtain ⟨o, es, ep, e, _⟩ := F₅.ns)); exact ⟨o, e⟩
        · obtain ⟨o, e⟩ := hZ z hz
          exact ⟨o, S₅ _ _ (O₄ _ _ q e)⟩
      have nD2 : D2 ∉ Z := fun q => by obtain ⟨o, e⟩ := hZ5 D2 q; rw [fD2] at e; cases e
      refine ⟨D2, ys, rfl, hid_plain hD2 nD2, ?_⟩
      have h1 := hP2 [] (by simp)
      rw [filter_true] at h1
      refine ints_range _ 0 (F := fun j y => ∀ d, (srow ++ r)[j]? = some d → ∃ t, y = .int (d + 1) t) (by simpa [l1, l2] using h1) fun j y d e x => ?_
      rw [List.getElem?_map] at e
      cases he : (srow ++ r)[j]? with
      | none => rw [he] at e; simp at e
      | some d0 =>
        rw [he] at e
        simp only [Option.map_some, Option.some.injEq] at e
        rw [← e]
        exact x d0 (by simpa using he)
end
end Mine
end
section
open PySem PySem.W PySem.Calls PyProof.Rows
set_option Elab.async false
set_option maxRecDepth 100000
set_option linter.unusedVariables false
namespace Mine

noncomputable def depRow (f n c : Nat) : List (List Int) := (depF f (c + 1)).flatMap fun s => (depF f (n - (c + 1))).map fun e => (s ++ e).map (· + 1)
theorem depF_succ {f n : Nat} (hn : n ≠ 1) : depF (f + 1) n = (List.range (n - 1)).flatMap (depRow f n) := by
  show (if n = 1 then _ else _) = _
  rw [if_neg hn]; rfl

theorem paired_append {α β : Type} {F : α → β → Prop} {a b : List α} {c d : List β} (x : Paired F a c) (y : Paired F b d) : Paired F (a ++ b) (c ++ d) := by
  induction x with
  | nil => exact y
  | cons f _ ih => exact .cons f ih

section
variable {prog : Program} {w : World} {s : Shared} {mg mb : Str → Option Value}
set_option maxHeartbeats 4000000 in
theorem c_depths (hran : mg "range" = none) (hdep : mg "_law_depths" = some (.ref 144)) : ∀ f, f ≤ 5 → ∀ n, 1 ≤ n → n ≤ f → ∀ {A : Around} {h : Heap} {t : Tok}, Rm (f + 1) A → Bas mg mb h → FnAt h 144 143 38 .none →
    Gives prog w A (call (.ref 144) [.int (n : Int) t]) s h (fun v h' => ∀ Z : List Addr, (∀ z ∈ Z, ∃ o, h.get? z = some o) → RowsI (hideAll h' Z) v (depF f n)) := by
  intro f
  induction f with
  | zero => intro _ n h1 h2; (first | lia | omega)
  | succ f ih =>
    intro hf n hn1 hn2 A h t R B X
    refine gives_defC (binds := [("count", .int (n : Int) t)]) (R.less (by (first | lia | omega))) B X (fun pm => rfl) ?hk fun pm L h₀ tk fL S₀ ns cells => ?_
    case hk =>
      intro L x hx
      simp at hx; subst hx
      exact .inl rfl
    have R' : Rm (f + 1) (A.deeper (callEnvC (fnD 38 143 pm .none) L 144)) := R.deeper
    have hdA : (A.deeper (callEnvC (fnD 38 143 pm .none) L 144)).handled = none := R.hd
    generalize hA' : A.deeper (callEnvC (fnD 38 143 pm .none) L 144) = A' at *
    (first | (refine Mine.e0_3 (cells "start" (L + 1) rfl) ?_; rintro fC cL hc₀) | (refine Mine.e1_2 (cells "start" (L + 1) rfl) ?_; rintro fC cL hc₀) | (obtain ⟨fC, cL, hc₀⟩ := cells "start" (L + 1) rfl))
    have F : Fm h L _ h₀ := ⟨ns, S₀, fL⟩
    refine r_if ?_
    (((with_reducible refine wpAny_isTrue_Compare1 ?_ ?mk); (case mk => with_unfolding_all rfl)))
    refine nmL F rfl ?_
    (((with_reducible refine r_int ?_)))
    (with_reducible refine PyProof.Rows.eq_int ?_)
    (with_reducible refine wpAny_truthy_bool ?_)
    refine r_split (fun hc => ?_) (fun hc => ?_)
    · have hc : n = 1 := by simp at hc; (first | lia | omega)
      subst hc
      refine r_ret (r_list (r_sp1 (r_list (r_sp1 (r_int (r_sp0 (r_newList (by simp) fun q1 h₁ fq1 hq1 S₁ => r_sp0 (r_newList (by simp) fun q2 h₂ fq2 hq2 S₂ => ?_))))))))
      refine then_ret ⟨h₂, _, rfl, (S₀.trans S₁).trans S₂, fun Z hZ => ?_⟩
      have nq : ∀ {q : Nat} {hh : Heap}, Stay h hh → hh.get? q = none → q ∉ Z := fun {q hh} S e z => by obtain ⟨o, e'⟩ := hZ q z; rw [S _ _ e'] at e; cases e
      exact ⟨q2, _, rfl, hid_plain hq2 (nq (S₀.trans S₁) fq2), .cons ⟨q1, _, rfl, hid_plain (plain_stay hq1 S₂) (nq S₀ fq1), .cons 0 _ .nil⟩ .nil⟩
    · have hc : n ≠ 1 := by simp at hc; (first | lia | omega)
      rw [depF_succ hc]
      refine r_nil (then_next ?_)
      refine r_assign (r_list (r_sp0 (r_newList (by simp) fun D h₁ fD hD S₁ => ?_)))
      have F₁ := F.stay S₁
      refine stL F₁ fun h₂ tk₂ F₂ O₂ => ?_
      have DL : D ≠ L := ns_ne_list F₁.ns hD
      have hD₂ : h₂.PlainList D #[] := hD.at fun o e => O₂ _ _ DL e
      have fDh : h.get? D = none := fresh_of S₀ fD
      have Dc : D ≠ L + 1 := fun q => by obtain ⟨o, e, _⟩ := hc₀; rw [← q, fD] at e; cases e
      have hc₂ : h₂.IsCell (L + 1) (bindC (fun x => (scopeAt 38).names.lookup x) [("count", Value.int (n : Int) t)] (fun _ => none) "start") := isCell_at (hc₀.keeps S₁) fun o e => O₂ _ _ cL e
      have exL : ∀ z ∈ [L, L + 1, D], ∃ o, h₂.get? z = some o := by
        intro z hz
        simp at hz
        rcases hz with rfl | rfl | rfl
        · (first | (refine Mine.e2_3 (F₂.ns) ?_; rintro o es ep e _) | (refine Mine.e3_2 (F₂.ns) ?_; rintro o es ep e _) | (obtain ⟨o, es, ep, e, _⟩ := F₂.ns)); exact ⟨o, e⟩
        · (first | (refine Mine.e0_3 (hc₂) ?_; rintro o e _) | (refine Mine.e1_2 (hc₂) ?_; rintro o e _) | (obtain ⟨o, e, _⟩ := hc₂)); exact ⟨o, e⟩
        · obtain ⟨n, e⟩ := hD₂; exact ⟨_, e⟩
      have nX : ∀ b o, h.get? b = some o → b ∉ [L, L + 1, D] := by
        intro b o e q
        simp at q
        rcases q with rfl | rfl | rfl
        · rw [fL] at e; cases e
        · rw [fC] at e; cases e
        · rw [fDh] at e; cases e
      have hok := depF_ok (f + 1) hf n hn1 hn2
      rw [depF_succ hc] at hok
      have pre_le : ∀ i, i ≤ n - 1 → ((List.range i).flatMap (depRow f n)).length ≤ 14 := by
        intro i hi
        have e : List.range (n - 1) = List.range i ++ List.range' i (n - 1 - i) := by
          rw [List.range_eq_range', List.range_eq_range']
          have := List.range'_append_1 (s := 0) (m := i) (n := n - 1 - i)
          rw [Nat.zero_add] at this
          rw [this]; congr 1; (first | lia | omega)
        have h1 := hok.1
        rw [e, List.flatMap_append, List.length_append] at h1
        (first | lia | omega)
      have Bq : ∀ {h' : Heap}, Stay h h' → Bas mg mb h' := fun S => B.stay S
      refine r_forT (s := s) hdA ?_
      (with_reducible refine r_call ?_)
      refine nmB (B.stay F₂.keep) hran rfl ?_
      refine r_cwT (r_sp1 (r_int (r_sp1 (nmL F₂ rfl (r_sp0 ?_)))))
      refine r_range2 fun rg h₃ t₃ u₃ v₃ tk₃ frg hrg S₃ => ?_
      have en : (n : Int) = 1 + ((n - 1 : Nat) : Int) := by (first | lia | omega)
      rw [en] at hrg
      have F₃ := F₂.stay S₃
      have exL₃ : ∀ z ∈ [L, L + 1, D], ∃ o, h₃.get? z = some o := fun z hz => let ⟨o, e⟩ := exL z hz; ⟨o, S₃ _ _ e⟩
      refine ⟨h₃, h₃, _, [], n - 1, _, [L, L + 1, D], rfl, Stay.refl _, .ofSeq (Seq.range hrg (small_one (by (first | lia | omega)) (by (first | lia | omega)) (by (first | lia | omega)) (by (first | lia | omega)))), fun x hx => ⟨exL₃ x hx, by simp⟩, fun wr h₄ S₄ hwr => ?_⟩
      have nwr : ∀ b o, h₃.get? b = some o → b ∉ wr := fun b o e q => by rw [(hwr b q).1] at e; cases e
      refine ⟨fun i h' => ∃ m' ys, Fm h L m' h' ∧ (∃ v, h'.IsCell (L + 1) v) ∧ m' "count" = some (.int (n : Int) t) ∧ m' "found" = some (.ref D) ∧ h'.PlainList D (List.toArray ys) ∧
          ∀ Z : List Addr, (∀ z ∈ Z, ∃ o, h.get? z = some o) → Paired (RowI (hideAll h' (L :: (L + 1) :: D :: (wr ++ Z)))) ys ((List.range i).flatMap (depRow f n)), ?hJ,
        ⟨_, [], F₃.stay S₄, ⟨_, (hc₂.keeps S₃).keeps S₄⟩, rfl, rfl, plain_stay hD₂ (S₃.trans S₄), fun Z hZ => .nil⟩, ?turn, ?fin⟩
      case hJ =>
        (rintro i ha hb hcj; (first | (refine Mine.e2_6 hcj ?_; clear hcj; rintro m' ys F' ⟨v, b0⟩ b1 b2 b3 b4 O) | (obtain ⟨m', ys, F', ⟨v, b0⟩, b1, b2, b3, b4⟩ := hcj; rintro O)))
        have nL := nwr _ _ (exL₃ L (by simp)).choose_spec
        have nC := nwr _ _ (exL₃ (L + 1) (by simp)).choose_spec
        have nD := nwr _ _ (exL₃ D (by simp)).choose_spec
        refine ⟨m', ys, ⟨F'.ns.at' fun o e => O _ _ nL e, fun b o e => O _ _ (nwr _ _ (F₃.keep _ _ e)) (F'.keep _ _ e), F'.fresh⟩, ⟨v, isCell_at b0 fun o e => O _ _ nC e⟩, b1, b2, b3.at fun o e => O _ _ nD e, fun Z hZ => paired_imp (fun y r q => q.stay ?_) (b4 Z hZ)⟩
        exact OffL.hid fun b o nb e => O b o (fun q => nb (by simp [q])) e
      case fin =>
        (rintro ha tka hcj; (first | (refine Mine.e2_6 hcj ?_; clear hcj; rintro m' ys F' ⟨v, b0⟩ b1 b2 b3 b4) | (obtain ⟨m', ys, F', ⟨v, b0⟩, b1, b2, b3, b4⟩ := hcj)))
        refine r_ret (nmL F' b2 ⟨_, _, rfl, F'.keep, fun Z hZ => ⟨D, ys, rfl, hid_plain b3 fun q => ?_, paired_imp (fun y r q => q.stay (hid_more fun z hz => by simp [hz])) (b4 Z hZ)⟩⟩)
        obtain ⟨o, e⟩ := hZ D q
        exact nX _ _ e (by simp)
      case turn =>
        (rintro i v h₅ tk₅ hi ⟨tv, rfl⟩ hlv hcj; (first | (refine Mine.e2_6 hcj ?_; clear hcj; rintro m' ys F' ⟨cv, b0⟩ b1 b2 b3 b4) | (obtain ⟨m', ys, F', ⟨cv, b0⟩, b1, b2, b3, b4⟩ := hcj)))
        have e1 : (1 : Int) + (i : Int) * 1 = ((i + 1 : Nat) : Int) := by (first | lia | omega)
        rw [e1]
        refine r_name F' fun h₆ tk₆ F₆ O₆ => ?_
        show wpAny _ _ (execs _ _) _ _ _
        refine r_assign ?_
        (with_reducible refine r_call ?_)
        refine nmG (B.stay F₆.keep) hdep ?_
        refine r_cwD (X.stay F₆.keep) (r_sp1 ?_)
        (with_reducible refine wpAny_BinOp ?_)
        refine nmL F₆ b1 ?_
        refine nmL F₆ rfl ?_
        (((with_reducible refine r_sub ?_)))
        refine r_sp0 ⟨Stay.refl _, ?_⟩
        have e2 : (n : Int) - ((i + 1 : Nat) : Int) = ((n - (i + 1) : Nat) : Int) := by (first | lia | omega)
        rw [e2]
        refine ih (by (first | lia | omega)) (n - (i + 1)) (by (first | lia | omega)) (by (first | lia | omega)) (R'.less (by (first | lia | omega))) (B.stay F₆.keep) (X.stay F₆.keep) _ _ _ fun ev h₇ tk₇ S₇ hev => ?_
        have F₇ := F₆.stay S₇
        refine stL F₇ fun h₈ tk₈ F₈ O₈ => ?_
        have hokE := depF_ok f (by (first | lia | omega)) (n - (i + 1)) (by (first | lia | omega)) (by (first | lia | omega))
        have hokS := depF_ok f (by (first | lia | omega)) (i + 1) (by (first | lia | omega)) (by (first | lia | omega))
        have exX₆ : ∀ z ∈ [L, L + 1, D], ∃ o, h₆.get? z = some o := by
          intro z hz
          simp at hz
          rcases hz with rfl | rfl | rfl
          · (first | (refine Mine.e2_3 (F₆.ns) ?_; rintro o es ep e _) | (refine Mine.e3_2 (F₆.ns) ?_; rintro o es ep e _) | (obtain ⟨o, es, ep, e, _⟩ := F₆.ns)); exact ⟨o, e⟩
          · (first | (refine Mine.e0_3 (b0) ?_; rintro o e _) | (refine Mine.e1_2 (b0) ?_; rintro o e _) | (obtain ⟨o, e, _⟩ := b0)); exact ⟨o, O₆ _ _ cL e⟩
          · obtain ⟨n, e⟩ := b3; exact ⟨_, O₆ _ _ DL e⟩
        have hev8 : RowsI (hideAll h₈ [L, L + 1, D]) ev (depF f (n - (i + 1))) := (hev _ exX₆).stay (OffL.hid (O₈.offL (by simp)))
        refine r_forT (s := s) hdA ?_
        (with_reducible refine r_call ?_)
        refine nmG (B.stay F₈.keep) hdep ?_
        refine r_cwD (X.stay F₈.keep) (r_sp1 (nmL F₈ rfl (r_sp0 ⟨Stay.refl _, ?_⟩)))
        refine ih (by (first | lia | omega)) (i + 1) (by (first | lia | omega)) (by (first | lia | omega)) (R'.less (by (first | lia | omega))) (B.stay F₈.keep) (X.stay F₈.keep) _ _ _ fun sv h₉ tk₉ S₉ hsv => ?_
        have F₉ := F₈.stay S₉
        have O₅₉ : Off L h₅ h₉ := (((O₆.trans S₇.off).trans O₈).trans S₉.off)
        have exX₈ : ∀ z ∈ [L, L + 1, D], ∃ o, h₈.get? z = some o := fun z hz => by
          by_cases q : z = L
          · subst q
            (first | (refine Mine.e2_3 (F₈.ns) ?_; rintro o es ep e _) | (refine Mine.e3_2 (F₈.ns) ?_; rintro o es ep e _) | (obtain ⟨o, es, ep, e, _⟩ := F₈.ns)); exact ⟨o, e⟩
          · obtain ⟨o, e⟩ := exX₆ z hz
            exact ⟨o, O₈ _ _ q (S₇ _ _ e)⟩
        have exX₉ : ∀ z ∈ [L, L + 1, D], ∃ o, h₉.get? z = some o := fun z hz => let ⟨o, e⟩ := exX₈ z hz; ⟨o, S₉ _ _ e⟩
        have hev9 : RowsI (hideAll h₉ [L, L + 1, D]) ev (depF f (n - (i + 1))) := hev8.stay (OffL.hid S₉.offL)
        (first | (refine Mine.e2_3 (hsv _ exX₈) ?_; rintro sa su rfl hsp hsr) | (refine Mine.e3_2 (hsv _ exX₈) ?_; rintro sa su rfl hsp hsr) | (obtain ⟨sa, su, rfl, hsp, hsr⟩ := hsv _ exX₈))
        have hsul : su.length = (depF f (i + 1)).length := paired_len hsr
        refine ⟨h₉, h₉, _, [sa], _, _, [L, L + 1, D], rfl, Stay.refl _, .ofSeq (Seq.list (plain_of_hid hsp).isList), fun x hx => ⟨exX₉ x hx, fun q => ?_⟩, fun wr2 h₁₀ S₁₀ hwr2 => ?_⟩
        · simp at q
          subst q
          obtain ⟨k, e⟩ := hsp
          rw [hideAll_none _ hx] at e; cases e
        have nwr2 : ∀ b o, h₉.get? b = some o → b ∉ wr2 := fun b o e q => by rw [(hwr2 b q).1] at e; cases e
        let inner : List Int → List (List Int) := fun srow => (depF f (n - (i + 1))).map fun e => (srow ++ e).map (· + 1)
        have hdr : depRow f n i = (depF f (i + 1)).flatMap inner := rfl
        have tk_le : ∀ j, ((List.range i).flatMap (depRow f n)).length + (((depF f (i + 1)).take j).flatMap inner).length ≤ 14 := by
          intro j
          have h1 := pre_le (i + 1) (by (first | lia | omega))
          rw [List.range_succ, List.flatMap_append, List.length_append] at h1
          simp only [List.flatMap_cons, List.flatMap_nil, List.append_nil] at h1
          rw [hdr] at h1
          have e : (depF f (i + 1)).flatMap inner = ((depF f (i + 1)).take j).flatMap inner ++ ((depF f (i + 1)).drop j).flatMap inner := by rw [← List.flatMap_append, List.take_append_drop]
          rw [e, List.length_append] at h1
          (first | lia | omega)
        refine ⟨fun j h' => ∃ m' ys, Fm h L m' h' ∧ OffL [L, L + 1, D] h₉ h' ∧ (∃ v, h'.IsCell (L + 1) v) ∧ m' "count" = some (.int (n : Int) t) ∧ m' "found" = some (.ref D) ∧ m' "ends" = some ev ∧ h'.PlainList D (List.toArray ys) ∧
            ∀ Z : List Addr, (∀ z ∈ Z, ∃ o, h.get? z = some o) → Paired (RowI (hideAll h' (L :: (L + 1) :: D :: (wr ++ (wr2 ++ Z))))) ys ((List.range i).flatMap (depRow f n) ++ ((depF f (i + 1)).take j).flatMap inner), ?hJ2, ?j02, ?turn2, ?fin2⟩
        case hJ2 =>
          (rintro j ha hb hcj; (first | (refine Mine.e2_8 hcj ?_; clear hcj; rintro m' ys F' c0 ⟨v, c1⟩ c2 c3 c4 c5 c6 O) | (obtain ⟨m', ys, F', c0, ⟨v, c1⟩, c2, c3, c4, c5, c6⟩ := hcj; rintro O)))
          have nL := nwr2 _ _ (exX₉ L (by simp)).choose_spec
          have nC := nwr2 _ _ (exX₉ (L + 1) (by simp)).choose_spec
          have nD := nwr2 _ _ (exX₉ D (by simp)).choose_spec
          refine ⟨m', ys, ⟨F'.ns.at' fun o e => O _ _ nL e, fun b o e => O _ _ (nwr2 _ _ (F₉.keep _ _ e)) (F'.keep _ _ e), F'.fresh⟩, fun b o nb e => O _ _ (nwr2 _ _ e) (c0 b o nb e), ⟨v, isCell_at c1 fun o e => O _ _ nC e⟩, c2, c3, c4, c5.at fun o e => O _ _ nD e, fun Z hZ => paired_imp (fun y r q => q.stay ?_) (c6 Z hZ)⟩
          exact OffL.hid fun b o nb e => O b o (fun q => nb (by simp [q])) e
        case j02 =>
          refine ⟨_, ys, F₉.stay S₁₀, S₁₀.offL, ⟨cv, isCell_at b0 fun o e => S₁₀ _ _ (O₅₉ _ _ cL e)⟩, b1, b2, rfl, b3.at fun o e => S₁₀ _ _ (O₅₉ _ _ DL e), fun Z hZ => ?_⟩
          simp only [List.take_zero, List.flatMap_nil, List.append_nil]
          refine paired_imp (fun y r q => q.stay (hid_get fun b o nb e => ?_)) (b4 Z hZ)
          simp only [List.mem_cons, List.mem_append, not_or] at nb ⊢
          have e9 := O₅₉ _ _ nb.1 e
          exact ⟨S₁₀ _ _ e9, nb.1, nb.2.1, nb.2.2.1, nb.2.2.2.1, nwr2 _ _ e9, nb.2.2.2.2⟩
        case fin2 =>
          (rintro ha tka hcj; (first | (refine Mine.e2_8 hcj ?_; clear hcj; rintro m' ys F' c0 ⟨v, c1⟩ c2 c3 c4 c5 c6) | (obtain ⟨m', ys, F', c0, ⟨v, c1⟩, c2, c3, c4, c5, c6⟩ := hcj)))
          refine r_nil ⟨rfl, ha, tka, rfl, (O₅₉.offL (by simp)).trans c0, m', ys, F', ⟨v, c1⟩, c2, c3, c5, fun Z hZ => ?_⟩
          have e : (List.range (i + 1)).flatMap (depRow f n) = (List.range i).flatMap (depRow f n) ++ ((depF f (i + 1)).take su.toArray.size).flatMap inner := by
            rw [List.range_succ, List.flatMap_append, List.take_of_length_le (by simp [hsul])]
            simp only [List.flatMap_cons, List.flatMap_nil, List.append_nil]
            rw [hdr]
          rw [e]
          exact paired_imp (fun y r q => q.stay (hid_more fun z hz => by simp at hz ⊢; rcases hz with q | q | q | q | q <;> simp [q])) (c6 Z hZ)
        case turn2 =>
          (rintro j v h₁₁ tk₁₁ hj hP hlv2 hcj; (first | (refine Mine.e2_8 hcj ?_; clear hcj; rintro m₁ ys₁ F₁₁ c0 ⟨v₁, c1⟩ c2 c3 c4 c5 c6) | (obtain ⟨m₁, ys₁, F₁₁, c0, ⟨v₁, c1⟩, c2, c3, c4, c5, c6⟩ := hcj)))
          obtain ⟨srow, hsrow, hrow⟩ := paired_get hsr (show su[j]? = some v by simpa using hP)
          have hsl := hokS.2 srow (List.mem_of_getElem? hsrow)
          refine wpAny_assign_Name (wpAny_storeName_cell (s := st s h₁₁ tk₁₁) rfl rfl rfl c1 fun h₁₂ hv₁₂ sb => ?_)
          have O₁₂ : Off (L + 1) h₁₁ h₁₂ := fun b o n e => sb.extBut b o n e
          show wpAny _ _ (execs _ _) _ _ (st s h₁₂ _)
          have F₁₂ : Fm h L m₁ h₁₂ := ⟨F₁₁.ns.at' fun o e => O₁₂ _ _ cL.symm e, fun b o e => O₁₂ _ _ (fun q => nX _ _ e (by simp [q])) (F₁₁.keep _ _ e), F₁₁.fresh⟩
          have O₉₁₂ : OffL [L, L + 1, D] h₉ h₁₂ := c0.trans (O₁₂.offL (by simp))
          have hup : Stay (hideAll h₉ [L, L + 1, D]) h₁₂ := fun b o e => of_hideAll _ (O₉₁₂.hid b o e)
          have hD₁₂ : h₁₂.PlainList D (List.toArray ys₁) := c5.at fun o e => O₁₂ _ _ Dc e
          have hysl : ys₁.length ≤ 14 := by
            have h1 := paired_len (c6 [] (by simp))
            rw [h1, List.length_append]
            exact tk_le j
          refine r_aug ?_
          refine ldL F₁₂ c3 ?_
          refine dep_comp hdA F₁₂ c4 (hev9.stay hup) hv₁₂ (hrow.stay (fun b o e => hup b o (OffL.hid (h := h₉) (h' := h₉) (fun b o _ e => e) b o e))) (by (first | lia | omega)) (by (first | lia | omega)) (fun r hr => by have := hokE.2 r hr; (first | lia | omega)) fun q zs h₁₃ tk₁₃ fq S₁₃ hq hqr => ?_
          have hzsl : zs.length ≤ 14 := by
            have h1 := paired_len (hqr [] (by simp))
            rw [h1]
            simp only [List.length_map]
            exact hokE.1
          have F₁₃ := F₁₂.stay S₁₃
          refine r_iaddL (plain_stay hD₁₂ S₁₃) hq (by simp; (first | lia | omega)) fun h₁₄ hD₁₄ O₁₄ => ?_
          have F₁₄ : Fm h L m₁ h₁₄ := ⟨F₁₃.ns.at' fun o e => O₁₄ _ _ DL.symm e, fun b o e => O₁₄ _ _ (fun q => nX _ _ e (by simp [q])) (F₁₃.keep _ _ e), F₁₃.fresh⟩
          refine stL F₁₄ fun h₁₅ tk₁₅ F₁₅ O₁₅ => ?_
          have Oall : OffL [L, L + 1, D] h₁₁ h₁₅ := (((O₁₂.offL (by simp)).trans S₁₃.offL).trans (O₁₄.offL (by simp))).trans (O₁₅.offL (by simp))
          have hlvw : ∀ b ∈ wr, ∃ o, h₁₂.get? b = some o := by
            intro b hb
            obtain ⟨o, e⟩ := hlv b hb
            have nb : b ≠ L ∧ b ∉ [L, L + 1, D] := by
              have : b ∉ [L, L + 1, D] := fun q => nwr _ _ (exL₃ b q).choose_spec hb
              exact ⟨fun q => this (by simp [q]), this⟩
            exact ⟨o, O₉₁₂ _ _ nb.2 (O₅₉ _ _ nb.1 e)⟩
          have hlvw2 : ∀ b ∈ wr2, ∃ o, h₁₂.get? b = some o := by
            intro b hb
            obtain ⟨o, e⟩ := hlv2 b hb
            exact ⟨o, O₁₂ _ _ (fun q => nwr2 _ _ (exX₉ (L + 1) (by simp)).choose_spec (q ▸ hb)) e⟩
          refine r_nil ⟨rfl, h₁₅, tk₁₅, rfl, Oall, _, ys₁ ++ zs, F₁₅, c0.trans Oall, ⟨_, isCell_at (hv₁₂.keeps S₁₃) fun o e => O₁₅ _ _ cL (O₁₄ _ _ Dc.symm e)⟩, c2, rfl, c4, by simpa using hD₁₄.at fun o e => O₁₅ _ _ DL e, fun Z hZ => ?_⟩
          have e : ((depF f (i + 1)).take (j + 1)).flatMap inner = ((depF f (i + 1)).take j).flatMap inner ++ inner srow := by
            rw [List.take_add_one, hsrow, Option.toList_some, List.flatMap_append]; simp
          rw [e, ← List.append_assoc (List.flatMap _ _)]
          have exZ : ∀ z ∈ L :: (L + 1) :: D :: (wr ++ (wr2 ++ Z)), ∃ o, h₁₂.get? z = some o := by
            intro z hz
            simp only [List.mem_cons, List.mem_append] at hz
            rcases hz with rfl | rfl | rfl | hz | hz | hz
            · (first | (refine Mine.e2_3 (F₁₂.ns) ?_; rintro o es ep e _) | (refine Mine.e3_2 (F₁₂.ns) ?_; rintro o es ep e _) | (obtain ⟨o, es, ep, e, _⟩ := F₁₂.ns)); exact ⟨o, e⟩
            · (first | (refine Mine.e0_3 (hv₁₂) ?_; rintro o e _) | (refine Mine.e1_2 (hv₁₂) ?_; rintro o e _) | (obtain ⟨o, e, _⟩ := hv₁₂)); exact ⟨o, e⟩
            · obtain ⟨n, e⟩ := hD₁₂; exact ⟨_, e⟩
            · exact hlvw z hz
            · exact hlvw2 z hz
            · obtain ⟨o, e⟩ := hZ z hz; exact ⟨o, F₁₂.keep _ _ e⟩
          have O₁₃₁₅ : OffL [L, L + 1, D] h₁₃ h₁₅ := (O₁₄.offL (by simp)).trans (O₁₅.offL (by simp))
          have lift : ∀ {ha hb : Heap}, OffL [L, L + 1, D] ha hb → Stay (hideAll ha (L :: (L + 1) :: D :: (wr ++ (wr2 ++ Z)))) (hideAll hb (L :: (L + 1) :: D :: (wr ++ (wr2 ++ Z)))) := fun O => OffL.hid fun b o nb e => O b o (fun q => nb (by simp at q ⊢; rcases q with q | q | q <;> simp [q])) e
          refine paired_append (paired_imp (fun y r q => RowI.stay q (lift Oall)) (c6 Z hZ)) (paired_imp (fun y r q => RowI.stay q ?_) (hqr _ exZ))
          exact (hid_more fun z hz => List.mem_cons_of_mem _ hz).trans (lift O₁₃₁₅)
end
end Mine
end
section
open PySem PySem.W PySem.Calls PyProof.Rows
set_option Elab.async false
set_option maxRecDepth 100000
set_option linter.unusedVariables false
namespace Mine

noncomputable def LX (L : Nat) : List Nat := [L, L + 1, 160, 50]
noncomputable abbrev lawEnv (pm : Value) (L : Nat) : Env := callEnvC (fnD 41 162 pm .none) L 163

structure LF (G : Heap) (L : Nat) (m : Str → Option Value) (cv : Option Value) (ps qs : Array Value) (h : Heap) : Prop where
  ns : h.Ns L m
  cell : h.IsCell (L + 1) cv
  tab : h.get? 160 = some (tabObj ps)
  t50 : h.get? 50 = some (tabObj qs)
  keep : Stay G h
  hid : ∀ z ∈ LX L, G.get? z = none
  lo : 163 < L

section
variable {G h h' : Heap} {L : Nat} {m : Str → Option Value} {cv : Option Value} {ps qs : Array Value}
theorem LF.fm (F : LF G L m cv ps qs h) : Fm G L m h := ⟨F.ns, F.keep, F.hid L (by simp [LX])⟩
theorem LF.ex (F : LF G L m cv ps qs h) : ∀ z ∈ LX L, ∃ o, h.get? z = some o := by
  intro z hz
  simp only [LX, List.mem_cons, List.not_mem_nil, or_false] at hz
  rcases hz with rfl | rfl | rfl | rfl
  · (first | (refine Mine.e3_2 (F.ns) ?_; rintro o es ep e _) | (obtain ⟨o, es, ep, e, _⟩ := F.ns)); exact ⟨o, e⟩
  · (first | (refine Mine.e1_2 (F.cell) ?_; rintro o e _) | (obtain ⟨o, e, _⟩ := F.cell)); exact ⟨o, e⟩
  · exact ⟨_, F.tab⟩
  · exact ⟨_, F.t50⟩
theorem LF.stay (F : LF G L m cv ps qs h) (S : Stay h h') : LF G L m cv ps qs h' := ⟨F.ns.keeps S, F.cell.keeps S, S _ _ F.tab, S _ _ F.t50, F.keep.trans S, F.hid, F.lo⟩
theorem LF.ground (F : LF G L m cv ps qs h) : LF (hideAll h (LX L)) L m cv ps qs h ∧ Stay G (hideAll h (LX L)) :=
  ⟨⟨F.ns, F.cell, F.tab, F.t50, fun b o e => of_hideAll _ e, fun z hz => hideAll_none _ hz, F.lo⟩, fun b o e => hideAll_get _ (F.keep b o e) fun q => by rw [F.hid b q] at e; cases e⟩
theorem LF.notin (F : LF G L m cv ps qs h) {a : Nat} (fa : h.get? a = none) : a ∉ LX L := fun q => by obtain ⟨o', e'⟩ := F.ex a q; rw [fa] at e'; cases e'
theorem LF.offL (F : LF G L m cv ps qs h) {m' : Str → Option Value} (ns : h'.Ns L m') (O : Off L h h') : LF G L m' cv ps qs h' := by
  have lo := F.lo
  refine ⟨ns, isCell_at F.cell fun o e => O _ _ (Nat.ne_of_gt (Nat.lt_succ_self _)) e, O _ _ (Nat.ne_of_lt (by (first | lia | omega))) F.tab, O _ _ (Nat.ne_of_lt (by (first | lia | omega))) F.t50, fun b o e => O _ _ (fun q => ?_) (F.keep _ _ e), F.hid, F.lo⟩
  rw [q, F.hid L (by simp [LX])] at e; cases e
theorem LF.setC (F : LF G L m cv ps qs h) {v : Value} (hv : h'.IsCell (L + 1) (some v)) (O : Off (L + 1) h h') : LF G L m (some v) ps qs h' := by
  have lo := F.lo
  refine ⟨F.ns.at' fun o e => O _ _ (Nat.ne_of_lt (Nat.lt_succ_self _)) e, hv, O _ _ (Nat.ne_of_lt (by (first | lia | omega))) F.tab, O _ _ (Nat.ne_of_lt (by (first | lia | omega))) F.t50, fun b o e => O _ _ (fun q => ?_) (F.keep _ _ e), F.hid, F.lo⟩
  rw [q, F.hid (L + 1) (by simp [LX])] at e; cases e
theorem LF.set50 (F : LF G L m cv ps qs h) {qs' : Array Value} (hP : h'.get? 50 = some (tabObj qs')) (O : Off 50 h h') : LF G L m cv ps qs' h' := by
  have lo := F.lo
  refine ⟨F.ns.at' fun o e => O _ _ (Nat.ne_of_gt (by (first | lia | omega))) e, isCell_at F.cell fun o e => O _ _ (Nat.ne_of_gt (by (first | lia | omega))) e, O _ _ (by decide) F.tab, hP, fun b o e => O _ _ (fun q => ?_) (F.keep _ _ e), F.hid, F.lo⟩
  rw [q, F.hid 50 (by simp [LX])] at e; cases e
theorem LF.set160 (F : LF G L m cv ps qs h) {ps' : Array Value} (hP : h'.get? 160 = some (tabObj ps')) (O : Off 160 h h') : LF G L m cv ps' qs h' := by
  have lo := F.lo
  refine ⟨F.ns.at' fun o e => O _ _ (Nat.ne_of_gt (by (first | lia | omega))) e, isCell_at F.cell fun o e => O _ _ (Nat.ne_of_gt (by (first | lia | omega))) e, hP, O _ _ (by decide) F.t50, fun b o e => O _ _ (fun q => ?_) (F.keep _ _ e), F.hid, F.lo⟩
  rw [q, F.hid 160 (by simp [LX])] at e; cases e
theorem LF.bt (F : LF G L m cv ps qs h) (b : Bt L m h h') : LF G L m cv ps qs h' := F.offL b.ns fun x o n e => b.keep x o n e
theorem LF.old (F : LF G L m cv ps qs h) (hp : ∀ q t, ps[1]? ≠ some (.str q t)) (hq : ∀ q t, qs[1]? ≠ some (.str q t)) : ∀ z ∈ LX L, ∃ o, h.get? z = some o ∧ OldKind o := by
  intro z hz
  simp only [LX, List.mem_cons, List.not_mem_nil, or_false] at hz
  rcases hz with rfl | rfl | rfl | rfl
  · (first | (refine Mine.e3_3 (F.ns) ?_; rintro o es ep e hd _) | (obtain ⟨o, es, ep, e, hd, _⟩ := F.ns)); exact ⟨o, e, .inl ⟨_, _, hd⟩⟩
  · (first | (refine Mine.e1_2 (F.cell) ?_; rintro o e r) | (obtain ⟨o, e, r⟩ := F.cell)); exact ⟨o, e, .inr (.inl ⟨_, r⟩)⟩
  · exact ⟨_, F.tab, .inr (.inr ⟨_, rfl, hp⟩)⟩
  · exact ⟨_, F.t50, .inr (.inr ⟨_, rfl, hq⟩)⟩
end

structure LN (mg : Str → Option Value) : Prop where
  n1 : mg "S_IFMT" = some (.ref 71)
  n2 : mg "_filemode_table" = some (.ref 104)
  n3 : mg "filemode" = some (.ref 111)
  n4 : mg "cmp_to_key" = some (.ref 55)
  n5 : mg "_initial_missing" = some (.ref 56)
  n6 : mg "reduce" = some (.ref 64)
  n7 : mg "_twin_re_1" = some (.ref 36)
  n8 : mg "_twin_re_2" = some (.ref 41)
  n9 : ∃ u, mg "CRLF" = some (.str "\r\n" u)
  n10 : mg "quotedata" = some (.ref 48)
  n11 : mg "_law_piece" = some (.ref 118)
  n12 : mg "_law_piled" = some (.ref 125)
  n13 : mg "_law_compare" = some (.ref 132)
  n14 : mg "_law_signs" = some (.ref 139)
  n15 : mg "_law_depths" = some (.ref 144)
  n16 : mg "_law_told" = some (.ref 151)
  n17 : mg "_law_least" = some (.ref 158)
  b1 : mg "len" = none
  b2 : mg "range" = none
  b3 : mg "sorted" = none
  b4 : mg "int" = none
  b5 : mg "iter" = none
  b6 : mg "enumerate" = none
  b7 : mg "object" = none
  b8 : mg "zip" = none
  b9 : mg "sum" = none
  nm : ∃ v, mg "__name__" = some v ∧ ∃ x t, v = .str x t
structure LG (mg mb mc : Str → Option Value) (T : List (List (Int × Str))) (G : Heap) : Prop where
  bas : Bas mg mb G
  bm : BM G mg
  st : G.Ns cStatics mc
  f1 : FnAt G 71 70 11 .none
  f2 : FnAt G 111 110 32 .none
  f3 : FnAt G 55 54 7 .none
  f4 : FnAt G 64 63 9 (.ref 57)
  f5 : FnAt G 48 47 5 .none
  f6 : FnAt G 118 117 34 .none
  f7 : FnAt G 125 124 35 .none
  f8 : FnAt G 132 131 36 .none
  f9 : FnAt G 139 138 37 .none
  f10 : FnAt G 144 143 38 .none
  f11 : FnAt G 151 150 39 .none
  f12 : FnAt G 158 157 40 .none
  tab : TabAt G 104 T
  p1 : PatAt G 36 codeDot
  p2 : PatAt G 41 codeEnd
  c1 : CodeHd G 162 160
  c2 : CodeHd G 54 50
  d57 : ∃ o, G.get? 57 = some o ∧ o.data = .seq #[.ref 56]
  o56 : ∃ o, G.get? 56 = some o ∧ o.cls = .type "object"
theorem LG.stay {mg mb mc : Str → Option Value} {T : List (List (Int × Str))} {G G' : Heap} (x : LG mg mb mc T G) (S : Stay G G') : LG mg mb mc T G' :=
  ⟨x.bas.stay S, x.bm.stay S, x.st.keeps S, x.f1.stay S, x.f2.stay S, x.f3.stay S, x.f4.stay S, x.f5.stay S, x.f6.stay S, x.f7.stay S, x.f8.stay S, x.f9.stay S, x.f10.stay S, x.f11.stay S, x.f12.stay S,
    tabAt_stay S x.tab, x.p1.stay S, x.p2.stay S, x.c1.keeps S, x.c2.keeps S, (let ⟨o, e, r⟩ := x.d57; ⟨o, S _ _ e, r⟩), (let ⟨o, e, r⟩ := x.o56; ⟨o, S _ _ e, r⟩)⟩
noncomputable def lawFrom (j : Nat) : List Stmt := (bodyAt 41).drop j
noncomputable def drawnF (ns : List Int) : List Int := (ns.take 5).map fun n => n.fmod 1000000
noncomputable def numsF (ns : List Int) : List Int := drawnF ns ++ [36, 67, 35, 55, 5].drop (drawnF ns).length
noncomputable def modesF (ns : List Int) : List Int := (numsF ns).map fun n => (n.fdiv 9 * 73).fmod 65536
theorem drawnF_len (ns : List Int) : (drawnF ns).length ≤ 5 := by simp [drawnF]; (first | lia | omega)
theorem numsF_len (ns : List Int) : (numsF ns).length = 5 := by have := drawnF_len ns; simp [numsF]; (first | lia | omega)

section
variable {prog : Program} {w : World} {A : Around} {E : Value → Shared → Prop} {s : Shared} {G h : Heap} {tk : Nat} {L : Nat} {m : Str → Option Value} {cv : Option Value} {ps qs : Array Value} {mg mb mc : Str → Option Value} {pm : Value} {T : List (List (Int × Str))}
theorem lf_stL {x : Str} {v : Value} {Q : Unit → Shared → Prop} (F : LF G L m cv ps qs h) (hx : (lawEnv pm L).kindOf x = some .local) (k : ∀ h' tk', LF G L (fun y => if y = x then some v else m y) cv ps qs h' → Off L h h' → Q () (st s h' tk')) : wpAny (model prog w) A (storeName (lawEnv pm L) x v) Q E (st s h tk) :=
  stL F.fm (fun h' tk' F' O => k h' tk' (F.offL F'.ns O) O) rfl rfl hx
set_option maxHeartbeats 2000000 in
theorem law_0 {sa : Nat} {us : List Value} {ns : List Int} {Q : Flow → Shared → Prop} (R : Rm 1 A) (N : LN mg) (X : LG mg mb mc T G) (F : LF G L m cv ps qs h) (hm : m "script" = some (.ref sa)) (hl : G.IsList sa us.toArray) (hi : IntsAre us ns) (hz : us.length ≤ 1000)
    (k : ∀ D G' h' tk', Stay G G' → LF G' L (fun z => if z = "drawn" then some (.ref D) else m z) cv ps qs h' → RowI G' (.ref D) (drawnF ns) → wpAny (model prog w) A (execs (lawFrom 1) (lawEnv pm L)) Q E (st s h' tk')) :
    wpAny (model prog w) A (execs (lawFrom 0) (lawEnv pm L)) Q E (st s h tk) := by
  refine comp_u (s := s) (G := G) (L := L) (m := m) (cl := []) rfl rfl rfl rfl rfl (by decide) rfl (by decide) (by intro _; rfl) R.hd ?_
  refine r_slice (s := s) ?_
  refine nmL F.fm hm ?_
  refine r_partN ?_
  refine evalPart_some_step (r_int ?_)
  refine ⟨h, _, sa, us.toArray, none, some 5, rfl, rfl, isLst_stay hl F.keep, by simpa using Nat.le_trans hz (by decide), .none, .int _ _, fun a h₁ fa ha S₁ => ?_⟩
  have e4 : slicePick us.toArray none (some 5) none = (us.take 5).toArray := slice_upto' us.toArray 5
  rw [e4] at ha
  have hu5 : (us.take 5).length = (drawnF ns).length := by simp [drawnF, hi.length]
  have F₁ := F.stay S₁
  refine ⟨h₁, h₁, _, [a], _, _, fun _ => true, fun i y H => ∀ n, (ns.take 5)[i]? = some n → ∃ t, y = .int (n.fmod 1000000) t, rfl, Stay.refl _, .ofSeq (Seq.list ha.isList), ?hb, by simp; (first | lia | omega), fun i y H H' x S => x, ?turn, F₁.fm, ?fin⟩
  case hb =>
    intro b hb
    simp at hb
    subst hb
    obtain ⟨n, e⟩ := ha
    exact ⟨_, e⟩
  case turn =>
    intro i v C m₃ h₃ tk₃ hi' hP FC
    obtain ⟨t, y, rfl, hy⟩ := ints_get' (hi.take 5) (show (us.take 5)[i]? = some v by simpa using hP)
    unfold CompElem
    refine r_name FC (fun h₄ tk₄ F₄ O₄ => ?_) rfl rfl rfl
    refine wpAny_tests_nil ⟨rfl, ?_⟩
    rw [if_pos rfl]
    have B₄ := X.bas.stay (F₁.keep.trans F₄.keep)
    (with_reducible refine wpAny_BinOp ?_)
    (with_reducible refine r_call ?_)
    refine nmB B₄ N.b4 rfl ?_
    refine r_cwT (r_sp1 ?_)
    refine nmL F₄ rfl ?_ rfl rfl rfl
    refine r_sp0 (call_int_int ?_)
    (with_reducible refine wpAny_BinOp ?_)
    (((with_reducible refine r_int ?_)))
    (((with_reducible refine r_int ?_)))
    refine PyProof.Rows.pow_int_small (s := st s h₄ _) (by decide) (by decide) (by decide) ?_
    show wpAny _ _ (binaryOp .Mod (.int y t) (.int 1000000 _)) _ _ (st s h₄ _)
    (((with_reducible refine r_fmod ?mm ?_); (case mm => first | decide | assumption | (first | lia | omega))))
    refine ⟨h₄, _, rfl, O₄, ⟨_, F₄.ns⟩, fun Z hZ n hn => ?_⟩
    rw [hy] at hn
    cases hn
    exact ⟨_, rfl⟩
  case fin =>
    intro D ys h' tk' fD hDL O F' hD hP
    obtain ⟨F₂, S₂⟩ := (F₁.offL F'.ns O).ground
    refine k D _ h' tk' S₂ F₂ ⟨D, ys, rfl, hid_plain hD (F₁.notin fD), ?_⟩
    have h1 := hP [] (by simp)
    rw [filter_true] at h1
    have e : (us.take 5).toArray.size = (drawnF ns).length := by simpa using hu5
    rw [e] at h1
    refine ints_range _ 0 h1 fun i y d e x => ?_
    unfold drawnF at e
    rw [List.getElem?_map] at e
    cases he : (ns.take 5)[i]? with
    | none => rw [he] at e; simp at e
    | some d0 =>
      rw [he] at e
      simp only [Option.map_some, Option.some.injEq] at e
      rw [← e]
      exact x d0 (by simpa using he)
end
end Mine
end
section
open PySem PySem.W PySem.Calls PyProof.Rows
set_option Elab.async false
set_option maxRecDepth 100000
set_option linter.unusedVariables false
namespace Mine

theorem strs_range {F : Nat → Value → Prop} : ∀ (row : List Str) (a : Nat) {ys : List Value}, Paired F (List.range' a row.length) ys → (∀ i y r, row[i]? = some r → F (a + i) y → ∃ t, y = .str r t) → StrsAre ys row
  | [], a, ys, h, _ => by
    cases h; exact .nil
  | r :: rows, a, ys, h, hF => by
    rw [List.length_cons, List.range'_succ] at h
    cases h with
    | cons f t =>
      obtain ⟨u, rfl⟩ := hF 0 _ r rfl f
      exact .cons r u (strs_range rows (a + 1) t fun i y r' e q => hF (i + 1) y r' e (by rwa [show a + (i + 1) = a + 1 + i by (first | lia | omega)]))
theorem lists_range {F : Nat → Value → Prop} {R : Value → List Str → Prop} : ∀ (rows : List (List Str)) (a : Nat) {ys : List Value}, Paired F (List.range' a rows.length) ys → (∀ i y r, rows[i]? = some r → F (a + i) y → R y r) → Paired R ys rows
  | [], a, ys, h, _ => by
    cases h; exact .nil
  | r :: rows, a, ys, h, hF => by
    rw [List.length_cons, List.range'_succ] at h
    cases h with
    | cons f t => exact .cons (hF 0 _ r rfl f) (lists_range rows (a + 1) t fun i y r' e q => hF (i + 1) y r' e (by rwa [show a + (i + 1) = a + 1 + i by (first | lia | omega)]))

section
variable {prog : Program} {w : World} {A : Around} {E : Value → Shared → Prop} {s : Shared} {G h : Heap} {tk : Nat} {L : Nat} {m : Str → Option Value} {cv : Option Value} {ps qs : Array Value} {mg mb mc : Str → Option Value} {pm : Value} {T : List (List (Int × Str))}
set_option maxHeartbeats 2000000 in
theorem law_1 {dv : Value} {ns : List Int} {Q : Flow → Shared → Prop} (N : LN mg) (X : LG mg mb mc T G) (F : LF G L m cv ps qs h) (hm : m "drawn" = some dv) (hd : RowI G dv (drawnF ns))
    (k : ∀ D G' h' tk', Stay G G' → LF G' L (fun z => if z = "numbers" then some (.ref D) else m z) cv ps qs h' → RowI G' (.ref D) (numsF ns) → wpAny (model prog w) A (execs (lawFrom 2) (lawEnv pm L)) Q E (st s h' tk')) :
    wpAny (model prog w) A (execs (lawFrom 1) (lawEnv pm L)) Q E (st s h tk) := by
  (first | (refine Mine.e2_3 (hd) ?_; rintro da du rfl hdp hdi) | (obtain ⟨da, du, rfl, hdp, hdi⟩ := hd))
  have hdl := drawnF_len ns
  have hdl' : du.length = (drawnF ns).length := hdi.length
  refine r_assign ?_
  (with_reducible refine wpAny_BinOp ?_)
  refine nmL F.fm hm ?_
  refine r_sliceT (s := s) ?_
  refine r_list ?_
  repeat' (first | with_reducible refine r_sp0 ?_ | ((with_reducible refine r_sp1 ?_ ?sw); (case sw => rfl)) | ((with_reducible refine r_int ?_)))
  refine r_newList (by simp) fun q1 h₁ fq1 hq1 S₁ => ?_
  have F₁ := F.stay S₁
  refine evalPart_some_step ?_
  (with_reducible refine r_call ?_)
  refine nmB (X.bas.stay F₁.keep) N.b1 rfl ?_
  refine r_cwB (r_sp1 ?_)
  refine nmL F₁.fm hm ?_
  refine r_sp0 (r_lenL (plain_stay hdp F₁.keep).isList (by simp; (first | lia | omega)) fun t₁ tk₁ => ?_)
  refine r_partN ⟨h₁, tk₁, q1, _, some ((drawnF ns).length : Int), none, rfl, rfl, hq1.isList, by simp, ?_, .none, fun q2 h₂ fq2 hq2 S₂ => ?_⟩
  · have : ((du.toArray.size : Nat) : Int) = ((drawnF ns).length : Int) := by simp [hdl']
    rw [this]; exact .int _ _
  rw [slice_from _ _ (by simpa using hdl)] at hq2
  have F₂ := F₁.stay S₂
  refine r_addL (plain_stay hdp F₂.keep) hq2 (by simp; (first | lia | omega)) fun q3 h₃ fq3 hq3 S₃ => ?_
  have F₃ := F₂.stay S₃
  refine lf_stL F₃ rfl fun h₄ tk₄ F₄ O₄ => ?_
  obtain ⟨F₅, SG⟩ := F₄.ground
  have n3 := F₂.notin fq3
  have hq4 : h₄.PlainList q3 _ := hq3.at fun o e => O₄ _ _ (fun q => n3 (by rw [q]; simp [LX])) e
  refine k q3 _ h₄ tk₄ SG F₅ ⟨q3, _, rfl, ?_, hdi.append (IntsAre.drop (.cons 36 tk (.cons 67 (tk + 1) (.cons 35 (tk + 1 + 1) (.cons 55 (tk + 1 + 1 + 1) (.cons 5 (tk + 1 + 1 + 1 + 1) .nil))))) (drawnF ns).length)⟩
  rw [← List.append_toArray]
  exact hid_plain hq4 n3

set_option maxHeartbeats 2000000 in
theorem law_2 {dv : Value} {ns : List Int} {Q : Flow → Shared → Prop} (hh : A.handled = none) (F : LF G L m cv ps qs h) (hm : m "numbers" = some dv) (hd : RowI G dv (numsF ns))
    (k : ∀ D G' h' tk', Stay G G' → LF G' L (fun z => if z = "modes" then some (.ref D) else m z) cv ps qs h' → RowI G' (.ref D) (modesF ns) → wpAny (model prog w) A (execs (lawFrom 3) (lawEnv pm L)) Q E (st s h' tk')) :
    wpAny (model prog w) A (execs (lawFrom 2) (lawEnv pm L)) Q E (st s h tk) := by
  (first | (refine Mine.e2_3 (hd) ?_; rintro da du rfl hdp hdi) | (obtain ⟨da, du, rfl, hdp, hdi⟩ := hd))
  have hdl := numsF_len ns
  have hdl' : du.length = (numsF ns).length := hdi.length
  have hp := plain_stay hdp F.keep
  refine comp_u (s := s) (G := G) (L := L) (m := m) (cl := []) rfl rfl rfl rfl rfl (by decide) rfl (by decide) (by intro _; rfl) hh ?_
  refine nmL F.fm hm ?_
  refine ⟨h, h, _, [da], _, _, fun _ => true, fun i y H => ∀ n, (numsF ns)[i]? = some n → ∃ t, y = .int ((n.fdiv 9 * 73).fmod 65536) t, rfl, Stay.refl _, .ofSeq (Seq.list hp.isList), ?hb, by simp; (first | lia | omega), fun i y H H' x S => x, ?turn, F.fm, ?fin⟩
  case hb =>
    intro b hb
    simp at hb
    subst hb
    obtain ⟨n, e⟩ := hp
    exact ⟨_, e⟩
  case turn =>
    intro i v C m₃ h₃ tk₃ hi' hP FC
    obtain ⟨t, y, rfl, hy⟩ := ints_get' hdi (show du[i]? = some v by simpa using hP)
    unfold CompElem
    refine r_name FC (fun h₄ tk₄ F₄ O₄ => ?_) rfl rfl rfl
    refine wpAny_tests_nil ⟨rfl, ?_⟩
    rw [if_pos rfl]
    (with_reducible refine wpAny_BinOp ?_)
    (with_reducible refine wpAny_BinOp ?_)
    (with_reducible refine wpAny_BinOp ?_)
    refine nmL F₄ rfl ?_ rfl rfl rfl
    repeat' (first | ((with_reducible refine r_int ?_)) | ((with_reducible refine r_mul ?mm ?_); (case mm => first | decide +kernel | assumption)) | ((with_reducible refine r_fdiv ?mm ?mn ?_); (case mm => first | decide | assumption | (first | lia | omega)); (case mn => first | decide | assumption | (first | lia | omega))) | ((with_reducible refine r_fmod ?mm ?_); (case mm => first | decide | assumption | (first | lia | omega))))
    refine ⟨h₄, _, rfl, O₄, ⟨_, F₄.ns⟩, fun Z hZ n hn => ?_⟩
    rw [hy] at hn
    cases hn
    exact ⟨_, rfl⟩
  case fin =>
    intro D ys h' tk' fD hDL O F' hD hP
    obtain ⟨F₂, S₂⟩ := (F.offL F'.ns O).ground
    refine k D _ h' tk' S₂ F₂ ⟨D, ys, rfl, hid_plain hD (F.notin fD), ?_⟩
    have h1 := hP [] (by simp)
    rw [filter_true] at h1
    have e : du.toArray.size = (modesF ns).length := by simp [modesF, hdl']
    rw [e] at h1
    refine ints_range _ 0 h1 fun i y d e x => ?_
    unfold modesF at e
    rw [List.getElem?_map] at e
    cases he : (numsF ns)[i]? with
    | none => rw [he] at e; simp at e
    | some d0 =>
      rw [he] at e
      simp only [Option.map_some, Option.some.injEq] at e
      rw [← e]
      exact x d0 (by simpa using he)

noncomputable def fmF (T : List (List (Int × Str))) (mode : Int) : Str := PySem.Builtin.Str.glued "" (picks mode T)
noncomputable def piecesF (T : List (List (Int × Str))) (ns : List Int) : List Str := ((numsF ns).zip (modesF ns)).map fun r => pieceF r.1 (fmF T r.2)
set_option maxHeartbeats 2000000 in
theorem law_3 {dv mv : Value} {ns : List Int} {Q : Flow → Shared → Prop} (R : Rm 4 A) (N : LN mg) (X : LG mg mb mc T G) (F : LF G L m cv ps qs h) (hm : m "numbers" = some dv) (hd : RowI G dv (numsF ns)) (hm2 : m "modes" = some mv) (hmo : RowI G mv (modesF ns))
    (hTn : T.length ≤ 10) (hok : ∀ r ∈ (numsF ns).zip (modesF ns), (∀ y ∈ picks r.2 T, y.length ≤ 10) ∧ (fmF T r.2).length ≤ 100 ∧ (signsF r.1 (fmF T r.2)).length = 3)
    (k : ∀ D G' h' tk', Stay G G' → LF G' L (fun z => if z = "pieces" then some (.ref D) else m z) cv ps qs h' → StrsAt G' (.ref D) (piecesF T ns) → wpAny (model prog w) A (execs (lawFrom 4) (lawEnv pm L)) Q E (st s h' tk')) :
    wpAny (model prog w) A (execs (lawFrom 3) (lawEnv pm L)) Q E (st s h tk) := by
  (first | (refine Mine.e2_3 (hd) ?_; rintro da du rfl hdp hdi) | (obtain ⟨da, du, rfl, hdp, hdi⟩ := hd))
  (first | (refine Mine.e2_3 (hmo) ?_; rintro ma mu rfl hmp hmi) | (obtain ⟨ma, mu, rfl, hmp, hmi⟩ := hmo))
  have hdl : du.length = 5 := by rw [hdi.length, numsF_len]
  have hml : mu.length = 5 := by rw [hmi.length]; simp [modesF, numsF_len]
  refine comp_u (s := s) (G := G) (L := L) (m := m) (cl := []) rfl rfl rfl rfl rfl (by decide) rfl (by decide) (by intro _; rfl) R.hd ?_
  (with_reducible refine r_call ?_)
  refine nmB (X.bas.stay F.keep) N.b8 rfl ?_
  refine r_cwT (r_sp1 (nmL F.fm hm (r_sp1 (nmL F.fm hm2 (r_sp0 ?_)))))
  have hp := plain_stay hdp F.keep
  have hp2 := plain_stay hmp F.keep
  refine r_zip hp.isList hp2.isList fun z h₁ S₁ hz => ?_
  refine ⟨h, h₁, _, _, _, _, fun _ => true, fun i y H => ∀ r, ((numsF ns).zip (modesF ns))[i]? = some r → ∃ t, y = .str (pieceF r.1 (fmF T r.2)) t, rfl, S₁, hz _ _ _, ?hb, by simp [hdl, hml], fun i y H H' x S => x, ?turn, F.fm, ?fin⟩
  case hb =>
    intro b hb
    simp at hb
    rcases hb with rfl | rfl
    · obtain ⟨n, e⟩ := hp
      exact ⟨_, e⟩
    · obtain ⟨n, e⟩ := hp2
      exact ⟨_, e⟩
  case turn =>
    (rintro i v C m₃ h₃ tk₃ hi' hcj; (first | (refine Mine.e3_4 hcj ?_; clear hcj; rintro T' x y rfl hx hy hT FC) | (obtain ⟨T', x, y, rfl, hx, hy, hT⟩ := hcj; rintro FC)))
    obtain ⟨t1, n1, rfl, hn1⟩ := ints_get' hdi (show du[i]? = some x by simpa using hx)
    obtain ⟨t2, n2, rfl, hn2⟩ := ints_get' hmi (show mu[i]? = some y by simpa using hy)
    have hzz : ((numsF ns).zip (modesF ns))[i]? = some (n1, n2) := List.getElem?_zip_eq_some.mpr ⟨hn1, hn2⟩
    (first | (refine Mine.e0_3 (hok _ (List.mem_of_getElem? hzz)) ?_; rintro o1 o2 o3) | (obtain ⟨o1, o2, o3⟩ := hok _ (List.mem_of_getElem? hzz)))
    unfold CompElem
    refine r_unpack2 R.hd FC hT (fun h₄ tk₄ F₄ O₄ => ?_) rfl rfl rfl rfl
    refine wpAny_tests_nil ⟨rfl, ?_⟩
    rw [if_pos rfl]
    have X₄ := X.stay (F.keep.trans F₄.keep)
    (with_reducible refine r_call ?_)
    refine nmG X₄.bas N.n11 ?_
    refine r_cwD X₄.f6 (r_sp1 (nmL F₄ rfl (r_sp1 ?_) rfl rfl rfl))
    (with_reducible refine r_call ?_)
    refine nmG X₄.bas N.n3 ?_
    refine r_cwD X₄.f2 (r_sp1 (nmL F₄ rfl (r_sp0 ⟨Stay.refl _, ?_⟩) rfl rfl rfl))
    refine (c_filemode (R.less (by decide)) X₄.bas X₄.f2 X₄.f1 N.n1 N.n2 N.b6 X₄.tab hTn o1) _ _ _ fun v h₅ tk₅ S₅ hv5 => ?_
    obtain ⟨t5, rfl⟩ := hv5
    have X₅ := X₄.stay S₅
    refine r_sp0 ⟨S₅, ?_⟩
    refine (c_piece (R.less (by decide)) X₅.bas X₅.f6 o2 o3) _ _ _ fun v h₆ tk₆ S₆ hv6 => ?_
    refine ⟨h₆, tk₆, rfl, fun b o nb e => S₆ _ _ (S₅ _ _ (O₄ _ _ nb e)), ⟨_, (F₄.ns.keeps S₅).keeps S₆⟩, fun Z hZ r hr => ?_⟩
    rw [hzz] at hr
    cases hr
    exact hv6
  case fin =>
    intro D ys h' tk' fD hDL O F' hD hP
    obtain ⟨F₂, S₂⟩ := (F.offL F'.ns O).ground
    refine k D _ h' tk' S₂ F₂ ⟨D, ys, rfl, hid_plain hD (F.notin fD), ?_⟩
    have h1 := hP [] (by simp)
    rw [filter_true] at h1
    have e : min du.toArray.size mu.toArray.size = (piecesF T ns).length := by simp [piecesF, modesF, hdl, hml, numsF_len]
    rw [e] at h1
    refine strs_range _ 0 h1 fun i y d e x => ?_
    unfold piecesF at e
    rw [List.getElem?_map] at e
    cases he : ((numsF ns).zip (modesF ns))[i]? with
    | none => rw [he] at e; simp at e
    | some d0 =>
      rw [he] at e
      simp only [Option.map_some, Option.some.injEq] at e
      rw [← e]
      exact x d0 (by simpa using he)
end
end Mine
end
section
open PySem PySem.W PySem.Calls PyProof.Rows
set_option Elab.async false
set_option maxRecDepth 100000
set_option linter.unusedVariables false
namespace Mine

noncomputable def pilesF (xs : List Str) : Nat → List (List Str)
  | 0 => [[]]
  | i + 1 => (pilesF xs i).flatMap (grow (xs.getD i ""))
noncomputable def sentF (xs : List Str) : List Str := ((pilesF xs xs.length).filter fun r => decide (r.length = 1)).map fun r => r.getD 0 ""
theorem strs_filter {F : Nat → Value → Prop} {q : List Str → Bool} {g : List Str → Str} {p : Nat → Bool} : ∀ (rows : List (List Str)) (a : Nat) {ys : List Value}, (∀ i r, rows[i]? = some r → p (a + i) = q r) → Paired F ((List.range' a rows.length).filter p) ys →
    (∀ i y r, rows[i]? = some r → q r = true → F (a + i) y → ∃ t, y = .str (g r) t) → StrsAre ys ((rows.filter q).map g)
  | [], a, ys, _, h, _ => by
    cases h; exact .nil
  | r :: rows, a, ys, hp, h, hF => by
    have h0 : p a = q r := hp 0 r rfl
    rw [List.length_cons, List.range'_succ, List.filter_cons, h0] at h
    rw [List.filter_cons]
    have hp' : ∀ i r', rows[i]? = some r' → p (a + 1 + i) = q r' := fun i r' e => by rw [show a + 1 + i = a + (i + 1) by (first | lia | omega)]; exact hp (i + 1) r' e
    have hF' : ∀ i y r', rows[i]? = some r' → q r' = true → F (a + 1 + i) y → ∃ t, y = .str (g r') t := fun i y r' e c x => hF (i + 1) y r' e c (by rwa [show a + (i + 1) = a + 1 + i by (first | lia | omega)])
    cases hq : q r with
    | true =>
      rw [hq] at h
      rw [if_pos rfl] at h ⊢
      cases h with
      | cons f t =>
        obtain ⟨u, rfl⟩ := hF 0 _ r rfl hq f
        exact .cons _ u (strs_filter rows (a + 1) hp' t hF')
    | false =>
      rw [hq] at h
      rw [if_neg (by simp)] at h ⊢
      exact strs_filter rows (a + 1) hp' h hF'
theorem lists_at {H : Heap} {us : List Value} {rows : List (List Str)} (x : Paired (StrsAt H) us rows) {i : Nat} {v : Value} (e : us[i]? = some v) : ∃ r a ru, rows[i]? = some r ∧ v = .ref a ∧ H.PlainList a (List.toArray ru) ∧ StrsAre ru r := by
  (obtain ⟨r, h1, a, ru, h2, h3, h4⟩ := paired_get x e)
  exact ⟨r, a, ru, h1, h2, h3, h4⟩

section
variable {prog : Program} {w : World} {A : Around} {E : Value → Shared → Prop} {s : Shared} {G h : Heap} {tk : Nat} {L : Nat} {m : Str → Option Value} {cv : Option Value} {ps qs : Array Value} {mg mb mc : Str → Option Value} {pm : Value} {T : List (List (Int × Str))}
set_option maxHeartbeats 2000000 in
theorem law_4 {pv : Value} {xs : List Str} {Q : Flow → Shared → Prop} (R : Rm 5 A) (N : LN mg) (X : LG mg mb mc T G) (F : LF G L m cv ps qs h) (hm : m "pieces" = some pv) (hps : StrsAt G pv xs) (hxl : xs.length ≤ 100)
    (hs1 : ∀ i, i ≤ xs.length → (pilesF xs i).length ≤ 100) (hs2 : ∀ i, i ≤ xs.length → ∀ r ∈ pilesF xs i, r.length ≤ 10) (hs4 : ∀ i, i ≤ xs.length → ∀ r ∈ pilesF xs i, ∀ x ∈ r, x.length ≤ 1000)
    (k : ∀ D G' h' tk', Stay G G' → LF G' L (fun z => if z = "sent" then some (.ref D) else m z) cv ps qs h' → StrsAt G' (.ref D) (sentF xs) → wpAny (model prog w) A (execs (lawFrom 5) (lawEnv pm L)) Q E (st s h' tk')) :
    wpAny (model prog w) A (execs (lawFrom 4) (lawEnv pm L)) Q E (st s h tk) := by
  (first | (refine Mine.e1_2 (id X.f4) ?_; rintro pm4 ho4 hc4) | (obtain ⟨pm4, ho4, hc4⟩ := id X.f4))
  (first | (refine Mine.e1_2 (id X.f7) ?_; rintro pm7 ho7 hc7) | (obtain ⟨pm7, ho7, hc7⟩ := id X.f7))
  obtain ⟨u9, hn9⟩ := N.n9
  (first | (refine Mine.e2_3 (hps) ?_; rintro pa pu rfl hpp hpi) | (obtain ⟨pa, pu, rfl, hpp, hpi⟩ := hps))
  have hpl : pu.length = xs.length := hpi.len_eq
  refine comp_u (s := s) (G := G) (L := L) (m := m) (cl := []) rfl rfl rfl rfl rfl (by decide) rfl (by decide) (by intro _; rfl) R.hd ?_
  (with_reducible refine r_call ?_)
  refine nmG (X.bas.stay F.keep) N.n6 ?_
  refine r_cwF (o := { cls := .type "function", data := .func (fnD 9 63 pm4 (.ref 57)) }) rfl ?_
  refine r_sp1 (nmG (X.bas.stay F.keep) N.n12 ?_)
  refine r_sp1 (nmL F.fm hm ?_)
  refine r_sp1 ?_
  refine r_list (r_sp1 ?_)
  refine r_list (r_sp0 (r_newList (by simp) fun q1 h₁ fq1 hq1 S₁ => ?_))
  refine r_sp0 (r_newList (by simp) fun q2 h₂ fq2 hq2 S₂ => ?_)
  have S₁₂ := S₁.trans S₂
  have F₂ := F.stay S₁₂
  have LG₂ := X.stay F₂.keep
  (first | (refine Mine.e1_2 (LG₂.o56) ?_; rintro o56 ho56 hc56) | (obtain ⟨o56, ho56, hc56⟩ := LG₂.o56))
  (first | (refine Mine.e1_2 (LG₂.d57) ?_; rintro o57 ho57 hd57) | (obtain ⟨o57, ho57, hd57⟩ := LG₂.d57))
  (first | (refine Mine.e1_2 ((X.stay (F.stay S₁).keep).o56) ?_; rintro o56' ho56' _) | (obtain ⟨o56', ho56', _⟩ := (X.stay (F.stay S₁).keep).o56))
  have hq56 : q2 ≠ 56 := fun q => by rw [q, ho56'] at fq2; cases fq2
  refine r_sp0 ⟨F₂.keep _ _ ho4, ?_⟩
  have nq1 : q1 ∉ LX L := F.notin fq1
  have nq2 : q2 ∉ LX L := (F.stay S₁).notin fq2
  refine (c_reduce (Acc := fun i v H => ListsS H v (pilesF xs i)) (Z₀ := LX L) (P := fun i v => pu.toArray[i]? = some v) (R.less (by decide)) LG₂.bas LG₂.f4 ho57 hd57 N.n5 N.b5 ?hinit (Seq.list (plain_stay hpp F₂.keep).isList) ?hbase (F₂.keep _ _ ho7) rfl (fun i v H H' a S => a.stay S) ?step F₂.ex ?h0) _ _ _ fun b h₃ tk₃ S₃ hb => ?_
  case hinit =>
    intro A' h' tk' Q E S q
    obtain ⟨n, e⟩ := plain_stay hq2 S
    exact r_isRef hq56 e (S _ _ ho56) hc56 q
  case hbase =>
    intro b hb
    simp at hb
    subst hb
    obtain ⟨n, e⟩ := plain_stay hpp F₂.keep
    exact ⟨_, e⟩
  case h0 => exact ⟨q2, _, rfl, hid_plain hq2 nq2, .cons ⟨q1, [], rfl, hid_plain (plain_stay hq1 S₂) nq1, .nil⟩ .nil⟩
  case step =>
    rintro A' i a v h' Z RA S hZ hi hPv ha
    have hi' : i < xs.length := by simpa [hpl] using hi
    obtain ⟨t, rfl, hil⟩ := strs_get' hpi (show pu[i]? = some v by simpa using hPv)
    have LG' := LG₂.stay S
    exact c_piled RA LG'.bas LG'.f7 LG'.f5 N.n7 N.n8 hn9 LG'.p1 LG'.p2 N.n10 N.b1 hZ ha (hs1 i (by (first | lia | omega))) (hs2 i (by (first | lia | omega))) (by have := hs1 (i + 1) (by (first | lia | omega)); show (pilesF xs (i + 1)).length ≤ 1000; (first | lia | omega)) (hs4 (i + 1) (by (first | lia | omega)))
  have F₃ := F₂.stay S₃
  have LG₃ := LG₂.stay S₃
  have hn : pu.toArray.size = xs.length := by simp [hpl]
  rw [hn] at hb
  (first | (refine Mine.e2_3 (hb) ?_; rintro ba bu rfl hbp hbs) | (obtain ⟨ba, bu, rfl, hbp, hbs⟩ := hb))
  have hbl : bu.length = (pilesF xs xs.length).length := paired_len hbs
  have hp := plain_of_hid hbp
  have up : Stay (hideAll h₃ (LX L)) h₃ := fun b o e => of_hideAll _ e
  refine ⟨h₃, h₃, _, [ba], _, _, fun i => decide (((pilesF xs xs.length).getD i []).length = 1), fun i y H => ∀ r, (pilesF xs xs.length)[i]? = some r → r.length = 1 → ∃ t, y = .str (r.getD 0 "") t, rfl, Stay.refl _, .ofSeq (Seq.list hp.isList), ?hb, ?hsz, fun i y H H' x S => x, ?turn, F₃.fm, ?fin⟩
  case hsz =>
    have := hs1 xs.length (Nat.le_refl _)
    rw [List.size_toArray, hbl]; (first | lia | omega)
  case hb =>
    intro b hb
    simp at hb
    subst hb
    obtain ⟨n, e⟩ := hp
    exact ⟨_, e⟩
  case turn =>
    intro i v C m₃ h₄ tk₄ hi' hP FC
    obtain ⟨r, ra, ru, hr, rfl, hrp, hri⟩ := lists_at hbs (show bu[i]? = some v by simpa using hP)
    have hrl := hs2 xs.length (Nat.le_refl _) r (List.mem_of_getElem? hr)
    have hrg : (pilesF xs xs.length).getD i [] = r := by rw [List.getD_eq_getElem?_getD, hr]; rfl
    have hrul : ru.length = r.length := hri.len_eq
    unfold CompElem
    refine r_name FC (fun h₅ tk₅ F₅ O₅ => ?_) rfl rfl rfl
    have S₅ : Stay h₃ h₅ := F₅.keep
    have hrp₅ := plain_stay hrp (up.trans S₅)
    refine wpAny_tests_one ?_
    (((with_reducible refine wpAny_isTrue_Compare1 ?_ ?mk); (case mk => with_unfolding_all rfl)))
    (with_reducible refine r_call ?_)
    refine nmB (LG₃.bas.stay S₅) N.b1 rfl ?_
    refine r_cwB (r_sp1 (nmL F₅ rfl (r_sp0 ?_) rfl rfl rfl))
    refine r_lenL hrp₅.isList (by simp; (first | lia | omega)) fun t1 tk1 => ?_
    (((with_reducible refine r_int ?_)))
    (with_reducible refine PyProof.Rows.eq_int ?_)
    (with_reducible refine wpAny_truthy_bool ?_)
    rw [List.size_toArray, hrul]
    refine ⟨?_, ?_⟩
    · show _ = decide (((pilesF xs xs.length).getD i []).length = 1)
      rw [hrg]
      by_cases e : r.length = 1
      · rw [e]; rfl
      · have e2 : ((r.length : Int) == 1) = false := by simp; (first | lia | omega)
        rw [e2]; simp [e]
    · show if decide (((pilesF xs xs.length).getD i []).length = 1) = true then _ else _
      rw [hrg]
      refine r_split (fun hc => ?_) (fun hc => ?_)
      · have hc : r.length = 1 := by simpa using hc
        have h0 : r[0]? = some (r.getD 0 "") := by simp [hc]
        obtain ⟨u0, hu0⟩ := hri.get _ _ h0
        refine r_subs (nmL F₅ rfl (r_int (r_itemL (x := .str (r.getD 0 "") u0) (j := 0) hrp₅.isList rfl (by decide) (by simpa using hu0) ?_)) rfl rfl rfl)
        refine ⟨h₅, _, rfl, O₅, ⟨_, F₅.ns⟩, fun Z hZ r' hr' _ => ?_⟩
        rw [hr] at hr'
        cases hr'
        exact ⟨_, rfl⟩
      · exact ⟨h₅, _, rfl, O₅, _, F₅.ns⟩
  case fin =>
    intro D ys h' tk' fD hDL O F' hD hP
    obtain ⟨F₄, S₄⟩ := (F₃.offL F'.ns O).ground
    refine k D _ h' tk' S₄ F₄ ⟨D, ys, rfl, hid_plain hD (F₃.notin fD), ?_⟩
    have h1 := hP [] (by simp)
    rw [List.range_eq_range', List.size_toArray, hbl] at h1
    refine strs_filter (q := fun r => decide (r.length = 1)) (pilesF xs xs.length) 0 (F := fun i y => ∀ r, (pilesF xs xs.length)[i]? = some r → r.length = 1 → ∃ t, y = .str (r.getD 0 "") t) (fun i r e => ?_) h1 fun i y r e c x => ?_
    · rw [Nat.zero_add, List.getD_eq_getElem?_getD, e]; rfl
    · exact x r (by simpa using e) (by simpa using c)
end
end Mine
end
section
open PySem PySem.W PySem.Calls PyProof.Rows
set_option Elab.async false
set_option maxRecDepth 100000
set_option linter.unusedVariables false
namespace Mine

noncomputable def rowsF (ns : List Int) : List (List Str) := ((numsF ns).zip (modesF ns)).map fun r => signsG r.1 r.2
noncomputable def toldL (rows : List (List Str)) : List Str := (depF 5 5).map fun ds => toldG rows ds
noncomputable def dotQ (x : Str) : Bool := x == Str.ofString "."
noncomputable def weightF (r : List Str) : Int := 1 + ((r.drop 1).countP dotQ : Nat)
noncomputable def weightsF (rows : List (List Str)) : List Int := rows.map weightF
noncomputable def depthsW : List Int := [28, 42, 46, 42, 28]
noncomputable def prodsF (ws : List Int) : List Int := (ws.zip depthsW).map fun r => r.1 * r.2
theorem ints_pairs {us : List Value} {ns : List Int} (x : IntsAre us ns) : ∃ ps : List (Int × Tok), us = ps.map (fun p => Value.int p.1 p.2) ∧ ps.map (·.1) = ns := by
  induction x with
  | nil => exact ⟨[], rfl, rfl⟩
  | cons z u _ ih => obtain ⟨ps, e1, e2⟩ := ih; exact ⟨(z, u) :: ps, by rw [e1]; rfl, by rw [← e2]; rfl⟩

section
variable {prog : Program} {w : World} {A : Around} {E : Value → Shared → Prop} {s : Shared} {G h : Heap} {tk : Nat} {L : Nat} {m : Str → Option Value} {cv : Option Value} {ps qs : Array Value} {mg mb mc : Str → Option Value} {pm : Value} {T : List (List (Int × Str))}
theorem r_cwKw {M : Model} {id : String} {e : Expr} {more : List Expr} {first : List Value} {kws : List Keyword} {env : Env} {pos : Pos} {S : Shared} {Q : Value → Shared → Prop}
    (k : wpAny M A (spliced (backTo pos (starEach (e :: more) env))) (fun vs s₁ => wpAny M A (evalAll ((backToKw pos (keywordEach kws env)).map (·.2))) (fun ks s₂ => wpAny M A (call (.builtin id) (first ++ vs) (((backToKw pos (keywordEach kws env)).filterMap (·.1)).zip ks)) Q E s₂) E s₁) E S)
    (he : starEach (e :: more) env = (false, eval e env) :: starEach more env := by rfl) (hp : (backTo pos (starEach (e :: more) env)).any (·.1) = false := by rfl)
    (hk : (backToKw pos (keywordEach kws env)).any (·.1.isNone) = false := by rfl) (hall : (backToKw pos (keywordEach kws env)).all (·.1.isSome) = true := by rfl) :
    wpAny M A (callWith pos (.builtin id) first (backTo pos (starEach (e :: more) env)) (backToKw pos (keywordEach kws env))) Q E S := by
  refine callWith_builtin_kwB hp hk ?_
  rw [he] at k ⊢
  exact evalArgs_kw hall k
theorem r_sumI {l : Addr} {us : List Value} {ns : List Int} {Q : Value → Shared → Prop} (hh : A.handled = none) (hl : h.PlainList l (List.toArray us)) (hi : IntsAre us ns) (k : ∀ t h' tk', Stay h h' → Q (.int ns.sum t) (st s h' tk')) :
    wpAny (model prog w) A (call (.builtin "sum") [.ref l]) Q E (st s h tk) := by
  (first | (refine Mine.e1_2 (ints_pairs hi) ?_; rintro ps rfl rfl) | (obtain ⟨ps, rfl, rfl⟩ := ints_pairs hi))
  have e : intItems (List.toArray ps) = List.toArray (ps.map fun p => Value.int p.1 p.2) := by simp [intItems]
  refine sum_intListG (s := st s h tk) (xs := List.toArray ps) hh (by rw [e]; exact hl.isList) fun h' tk' t' hk => ?_
  rw [preSum_eq, List.take_of_length_le (by simp)]
  exact k t' h' tk' hk
theorem r_countS {l : Addr} {us : List Value} {xs : List Str} {t : Tok} {Q : Value → Shared → Prop} (hl : h.PlainList l (List.toArray us)) (hi : StrsAre us xs) (k : ∀ t tk', Q (.int ((xs.countP dotQ : Nat) : Int) t) (st s h tk')) :
    wpAny (model prog w) A (call (.builtin "list.count") [.ref l, .str (Str.ofString ".") t]) Q E (st s h tk) := by
  obtain ⟨n, ho⟩ := hl
  let e : Value → Bool := fun v => match v with | .str x _ => dotQ x | _ => false
  have hc : ∀ {us : List Value} {xs : List Str}, StrsAre us xs → us.countP e = xs.countP dotQ := by
    intro us xs hi
    induction hi with
    | nil => rfl
    | cons z u _ ih => rw [List.countP_cons, List.countP_cons, ih]
  refine call_meets PySem.F.slot_list_count ⟨_, ho, rfl⟩ PySem.F.entry_list_count (PySem.F.args_list_count_2 _ _) (SeqAt.list_countAt l us.toArray n _ _ (.str (Str.ofString ".") t) e) ⟨ho, fun y hy => ?_, ?_⟩
  · have hy : y ∈ us := by simpa using hy
    obtain ⟨i, hi2⟩ := List.getElem?_of_mem hy
    (first | (refine Mine.e1_2 (strs_get' hi hi2) ?_; rintro u rfl _) | (obtain ⟨u, rfl, _⟩ := strs_get' hi hi2))
    exact (eqGives_str _ _ _ _).at _ _
  · rw [show us.toArray.toList = us from rfl, hc hi]
    exact k _ _
set_option maxHeartbeats 2000000 in
theorem law_5 {sv : Value} {xs : List Str} {Q : Flow → Shared → Prop} (R : Rm 10 A) (N : LN mg) (X : LG mg mb mc T G) (F : LF G L m cv #[] #[] h) (hm : m "sent" = some sv) (hd : StrsAt G sv xs) (h2 : 2 ≤ xs.length) (h64 : xs.length < 64) (hz : ∀ i, (xs.getD i "").length ≤ 10000) (hmc : mc "thirdparty.any" = none)
    (k : ∀ rv G' h' tk' qs', Stay G G' → LF G' L (fun z => if z = "ranked" then some rv else m z) cv #[] qs' h' → StrsAt G' rv (sortL xs) → wpAny (model prog w) A (execs (lawFrom 6) (lawEnv pm L)) Q E (st s h' tk')) :
    wpAny (model prog w) A (execs (lawFrom 5) (lawEnv pm L)) Q E (st s h tk) := by
  (first | (refine Mine.e2_3 (hd) ?_; rintro da us rfl hus hui) | (refine Mine.e3_2 (hd) ?_; rintro da us rfl hus hui) | (obtain ⟨da, us, rfl, hus, hui⟩ := hd))
  refine r_assign ?_
  refine wpAny_Call_Name_kw ?_
  refine nmB (X.bas.stay F.keep) N.b3 rfl ?_
  refine r_cwKw ?_
  refine r_sp1 (nmL F.fm hm (r_sp0 ?_))
  refine wpAny_evalAll_cons ?_
  refine wpAny_bind ?_
  show wpAny _ _ (eval (.Call _ _ _ _) _) _ _ _
  (first | (refine Mine.e1_2 (id X.f3) ?_; rintro pm4 ho4 hc4) | (obtain ⟨pm4, ho4, hc4⟩ := id X.f3))
  have LG₁ := X.stay F.keep
  (with_reducible refine r_call ?_)
  refine nmG LG₁.bas N.n4 ?_
  refine r_cwF (o := { cls := .type "function", data := .func (fnD 7 54 pm4 .none) }) rfl ?_
  refine r_sp1 (nmG LG₁.bas N.n13 ?_)
  refine r_sp0 ⟨F.keep _ _ ho4, ?_⟩
  refine c_cmpkey (R.less (by decide)) LG₁.bas LG₁.bm LG₁.f3 LG₁.c2 F.t50 N.nm LG₁.st hmc N.b7 fun C cc h₂ tk₂ O₂ g₂ K₂ => ?_
  obtain ⟨qs₂, hqs₂⟩ := g₂
  obtain ⟨KC, hcc⟩ := K₂ (LX L) (F.old (by simp) (by simp))
  have F₂ := F.set50 hqs₂ O₂
  obtain ⟨F₂', SG₂⟩ := F₂.ground
  refine wpAny_bind (wpAny_standAt (wpAny_pure ?_))
  refine wpAny_evalAll_nil ?_
  refine sort_K F₂'.fm (R.less (by decide)) (X.stay SG₂).bas KC hcc (X.stay SG₂).f8 N.b1 (plain_stay hus SG₂) hui h2 h64 hz fun D h₃ tk₃ us' fD hD hus' bt => ?_
  have F₃ := F₂'.bt bt
  have nD : D ∉ LX L := F₂.notin fD
  refine lf_stL F₃ rfl fun h₄ tk₄ F₄ O₄ => ?_
  obtain ⟨F₄', SG₄⟩ := F₄.ground
  refine k (.ref D) _ h₄ tk₄ qs₂ (SG₂.trans SG₄) F₄' ⟨D, us', rfl, hid_plain (hD.at fun o e => O₄ _ _ (fun q => nD (by rw [q]; simp [LX])) e) nD, hus'⟩

set_option maxHeartbeats 2000000 in
theorem law_6 {dv mv : Value} {ns : List Int} {Q : Flow → Shared → Prop} (R : Rm 4 A) (N : LN mg) (X : LG mg mb mc T G) (F : LF G L m cv ps qs h) (hm : m "numbers" = some dv) (hd : RowI G dv (numsF ns)) (hm2 : m "modes" = some mv) (hmo : RowI G mv (modesF ns)) (hok : ∀ mo ∈ modesF ns, 0 ≤ mo ∧ mo < 65536)
    (k : ∀ D G' h' tk', Stay G G' → LF G' L m (some (.ref D)) ps qs h' → ListsS G' (.ref D) (rowsF ns) → wpAny (model prog w) A (execs (lawFrom 7) (lawEnv pm L)) Q E (st s h' tk')) :
    wpAny (model prog w) A (execs (lawFrom 6) (lawEnv pm L)) Q E (st s h tk) := by
  (first | (refine Mine.e2_3 (hd) ?_; rintro da du rfl hdp hdi) | (refine Mine.e3_2 (hd) ?_; rintro da du rfl hdp hdi) | (obtain ⟨da, du, rfl, hdp, hdi⟩ := hd))
  (first | (refine Mine.e2_3 (hmo) ?_; rintro ma mu rfl hmp hmi) | (refine Mine.e3_2 (hmo) ?_; rintro ma mu rfl hmp hmi) | (obtain ⟨ma, mu, rfl, hmp, hmi⟩ := hmo))
  have hdl : du.length = 5 := by rw [hdi.length, numsF_len]
  have hml : mu.length = 5 := by rw [hmi.length]; simp [modesF, numsF_len]
  refine r_assign ?_
  refine comp_q (s := s) (cl := []) rfl (by decide) rfl (by decide) (by intro _; rfl) R.hd ?_
  (with_reducible refine r_call ?_)
  refine nmB (X.bas.stay F.keep) N.b8 rfl ?_
  refine r_cwT (r_sp1 (nmL F.fm hm (r_sp1 (nmL F.fm hm2 (r_sp0 ?_)))))
  have hp := plain_stay hdp F.keep
  have hp2 := plain_stay hmp F.keep
  refine r_zip hp.isList hp2.isList fun z h₁ S₁ hz => ?_
  refine ⟨h, h₁, _, _, _, _, fun _ => true, fun i y H => ∀ r, ((numsF ns).zip (modesF ns))[i]? = some r → StrsAt H y (signsG r.1 r.2), rfl, S₁, hz _ _ _, ?hb, by simp [hdl, hml], fun i y H H' x S r e => (x r e).stay S, ?turn, ?fin⟩
  case hb =>
    intro b hb
    simp at hb
    rcases hb with rfl | rfl
    · obtain ⟨n, e⟩ := hp
      exact ⟨_, e⟩
    · obtain ⟨n, e⟩ := hp2
      exact ⟨_, e⟩
  case turn =>
    (rintro i v C m₃ h₃ tk₃ hi' hcj; (first | (refine Mine.e3_4 hcj ?_; clear hcj; rintro T' x y rfl hx hy hT FC) | (obtain ⟨T', x, y, rfl, hx, hy, hT⟩ := hcj; rintro FC)))
    obtain ⟨t1, n1, rfl, hn1⟩ := ints_get' hdi (show du[i]? = some x by simpa using hx)
    obtain ⟨t2, n2, rfl, hn2⟩ := ints_get' hmi (show mu[i]? = some y by simpa using hy)
    have hzz : ((numsF ns).zip (modesF ns))[i]? = some (n1, n2) := List.getElem?_zip_eq_some.mpr ⟨hn1, hn2⟩
    unfold CompElem
    refine r_unpack2 R.hd FC hT (fun h₄ tk₄ F₄ O₄ => ?_) rfl rfl rfl rfl
    refine wpAny_tests_nil ⟨rfl, ?_⟩
    rw [if_pos rfl]
    have X₄ := X.stay (F.keep.trans F₄.keep)
    (with_reducible refine r_call ?_)
    refine nmG X₄.bas N.n14 ?_
    refine r_cwD X₄.f9 (r_sp1 (nmL F₄ rfl (r_sp1 (nmL F₄ rfl (r_sp0 ⟨Stay.refl _, ?_⟩) rfl rfl rfl)) rfl rfl rfl))
    refine (c_signs (X := []) (R.less (by decide)) X₄.bas X₄.f9 (hok n2 (List.mem_of_getElem? hn2))) _ _ _ fun v h₅ tk₅ S₅ hv5 => ?_
    (first | (refine Mine.e2_4 (hv5) ?_; rintro a us rfl fa ha hs) | (obtain ⟨a, us, rfl, fa, ha, hs⟩ := hv5))
    refine ⟨h₅, tk₅, rfl, fun b o nb e => S₅ _ _ (O₄ _ _ nb e), ⟨_, F₄.ns.keeps S₅⟩, fun Z hZ r hr => ?_⟩
    rw [hzz] at hr
    cases hr
    refine ⟨a, us, rfl, hid_plain ha fun q => ?_, hs⟩
    by_cases qC : a = C
    · subst qC
      (first | (refine Mine.e2_3 (F₄.ns) ?_; rintro o es ep e _) | (refine Mine.e3_2 (F₄.ns) ?_; rintro o es ep e _) | (obtain ⟨o, es, ep, e, _⟩ := F₄.ns))
      rw [e] at fa; cases fa
    · obtain ⟨o, e⟩ := hZ a q
      rw [O₄ _ _ qC e] at fa; cases fa
  case fin =>
    intro D ys h' tk' fD S hD hP
    have F₁ := F.stay S
    refine wpAny_storeName_cell (s := st s h' tk') rfl rfl rfl F₁.cell fun h'' hv hs => ?_
    have O : Off (L + 1) h' h'' := fun b o n e => hs.extBut b o n e
    obtain ⟨F₂, S₂⟩ := (F₁.setC hv O).ground
    have nD := F.notin fD
    refine k D _ h'' _ S₂ F₂ ⟨D, ys, rfl, hid_plain (hD.at fun o e => O _ _ (fun q => nD (by rw [q]; simp [LX])) e) nD, ?_⟩
    have h1 := hP (LX L) F.ex
    rw [filter_true] at h1
    have e : min du.toArray.size mu.toArray.size = (rowsF ns).length := by simp [rowsF, modesF, hdl, hml, numsF_len]
    rw [e] at h1
    have SS : Stay (hideAll h' (D :: LX L)) (hideAll h'' (LX L)) := hid_get fun b o nb e => by
      have nb' : b ∉ LX L := fun q => nb (List.mem_cons_of_mem _ q)
      exact ⟨O _ _ (fun q => nb' (by rw [q]; simp [LX])) e, nb'⟩
    refine lists_range _ 0 h1 fun i y d e x => ?_
    unfold rowsF at e
    rw [List.getElem?_map] at e
    cases he : ((numsF ns).zip (modesF ns))[i]? with
    | none => rw [he] at e; simp at e
    | some d0 =>
      rw [he] at e
      simp only [Option.map_some, Option.some.injEq] at e
      rw [← e]
      exact (x d0 (by simpa using he)).stay SS
end
end Mine
end
section
open PySem PySem.W PySem.Calls PyProof.Rows
set_option Elab.async false
set_option maxRecDepth 100000
set_option linter.unusedVariables false
namespace Mine

section
variable {prog : Program} {w : World} {A : Around} {E : Value → Shared → Prop} {s : Shared} {G h : Heap} {tk : Nat} {L : Nat} {m : Str → Option Value} {cv : Option Value} {ps qs : Array Value} {mg mb mc : Str → Option Value} {pm : Value} {T : List (List (Int × Str))}
set_option maxHeartbeats 2000000 in
theorem law_7 {rv : Value} {rows : List (List Str)} {Q : Flow → Shared → Prop} (R : Rm 7 A) (N : LN mg) (X : LG mg mb mc T G) (F : LF G L m (some rv) ps qs h) (hr : ListsS G rv rows) (hl : rows.length ≤ 10) (hs : ∀ r ∈ rows, r.length = 3 ∧ ∀ x ∈ r, x.length ≤ 2)
    (k : ∀ D G' h' tk', Stay G G' → LF G' L (fun z => if z = "told" then some (.ref D) else m z) (some rv) ps qs h' → StrsAt G' (.ref D) (toldL rows) → wpAny (model prog w) A (execs (lawFrom 8) (lawEnv pm L)) Q E (st s h' tk')) :
    wpAny (model prog w) A (execs (lawFrom 7) (lawEnv pm L)) Q E (st s h tk) := by
  have X₀ := X.stay F.keep
  have hok := depF_ok 5 (by decide) 5 (by decide) (by decide)
  have hds : ∀ r ∈ depF 5 5, ∀ d ∈ r, 0 ≤ d ∧ d ≤ 10 := by decide +kernel
  refine comp_u (s := s) (G := G) (L := L) (m := m) (cl := [("rows", L + 1)]) rfl rfl rfl rfl rfl (by decide) rfl (by decide) (by intro _; rfl) R.hd ?_
  (with_reducible refine r_call ?_)
  refine nmG X₀.bas N.n15 ?_
  refine r_cwD X₀.f10 (r_sp1 (r_int (r_sp0 ⟨Stay.refl _, ?_⟩)))
  refine (c_depths N.b2 N.n15 5 (by decide) 5 (by decide) (by decide) (R.less (by decide)) X₀.bas X₀.f10) _ _ _ fun dv h₁ tk₁ S₁ hdv => ?_
  have F₁ := F.stay S₁
  (first | (refine Mine.e2_3 (hdv (LX L) F.ex) ?_; rintro da du rfl hdp hdr) | (obtain ⟨da, du, rfl, hdp, hdr⟩ := hdv (LX L) F.ex))
  have hdl : du.length = (depF 5 5).length := paired_len hdr
  have hp := plain_of_hid hdp
  have up : Stay (hideAll h₁ (LX L)) h₁ := fun b o e => of_hideAll _ e
  refine ⟨h₁, h₁, _, [da], _, _, fun _ => true, fun i y H => ∀ ds, (depF 5 5)[i]? = some ds → ∃ t, y = .str (toldG rows ds) t, rfl, Stay.refl _, .ofSeq (Seq.list hp.isList), ?hb, by rw [List.size_toArray, hdl]; (first | lia | omega), fun i y H H' x S => x, ?turn, F₁.fm, ?fin⟩
  case hb =>
    intro b hb
    simp at hb
    subst hb
    obtain ⟨n, e⟩ := hp
    exact ⟨_, e⟩
  case turn =>
    intro i v C m₃ h₃ tk₃ hi' hP FC
    obtain ⟨ds, hd1, hd2⟩ := paired_get hdr (show du[i]? = some v by simpa using hP)
    unfold CompElem
    refine r_name FC (fun h₄ tk₄ F₄ O₄ => ?_) rfl rfl rfl
    refine wpAny_tests_nil ⟨rfl, ?_⟩
    rw [if_pos rfl]
    have S₄ : Stay h₁ h₄ := F₄.keep
    have X₄ := X.stay (F₁.keep.trans S₄)
    (with_reducible refine r_call ?_)
    refine nmG X₄.bas N.n16 ?_
    refine r_cwD X₄.f11 (r_sp1 (nmC (F₁.cell.keeps S₄) (r_sp1 (nmL F₄ rfl (r_sp0 ⟨Stay.refl _, ?_⟩) rfl rfl rfl)) rfl rfl rfl (by decide)))
    refine (c_told (R.less (by decide)) X₄.bas X₄.f11 N.b8 (hr.stay (F₁.keep.trans S₄)) (hd2.stay (up.trans S₄)) hl (by have := hok.2 ds (List.mem_of_getElem? hd1); (first | lia | omega)) hs (hds ds (List.mem_of_getElem? hd1))) _ _ _ fun v h₅ tk₅ S₅ hv5 => ?_
    refine ⟨h₅, tk₅, rfl, fun b o nb e => S₅ _ _ (O₄ _ _ nb e), ⟨_, F₄.ns.keeps S₅⟩, fun Z hZ ds' hd' => ?_⟩
    rw [hd1] at hd'
    cases hd'
    exact hv5
  case fin =>
    intro D ys h' tk' fD hDL O F' hD hP
    obtain ⟨F₂, S₂⟩ := (F₁.offL F'.ns O).ground
    refine k D _ h' tk' S₂ F₂ ⟨D, ys, rfl, hid_plain hD (F₁.notin fD), ?_⟩
    have h1 := hP [] (by simp)
    rw [filter_true] at h1
    have e : du.toArray.size = (toldL rows).length := by simp [toldL, hdl]
    rw [e] at h1
    refine strs_range _ 0 h1 fun i y d e x => ?_
    unfold toldL at e
    rw [List.getElem?_map] at e
    cases he : (depF 5 5)[i]? with
    | none => rw [he] at e; simp at e
    | some d0 =>
      rw [he] at e
      simp only [Option.map_some, Option.some.injEq] at e
      rw [← e]
      exact x d0 (by simpa using he)

set_option maxHeartbeats 2000000 in
theorem law_8 {rv : Value} {rows : List (List Str)} {Q : Flow → Shared → Prop} (R : Rm 7 A) (F : LF G L m (some rv) ps qs h) (hr : ListsS G rv rows) (hl : rows.length ≤ 10) (hs : ∀ r ∈ rows, r.length = 3 ∧ ∀ x ∈ r, x.length ≤ 2)
    (k : ∀ D G' h' tk', Stay G G' → LF G' L (fun z => if z = "weights" then some (.ref D) else m z) (some rv) ps qs h' → RowI G' (.ref D) (weightsF rows) → wpAny (model prog w) A (execs (lawFrom 9) (lawEnv pm L)) Q E (st s h' tk')) :
    wpAny (model prog w) A (execs (lawFrom 8) (lawEnv pm L)) Q E (st s h tk) := by
  (first | (refine Mine.e2_3 (hr) ?_; rintro ra ru rfl hrp hri) | (obtain ⟨ra, ru, rfl, hrp, hri⟩ := hr))
  have hrl : ru.length = rows.length := paired_len hri
  have hp := plain_stay hrp F.keep
  refine comp_u (s := s) (G := G) (L := L) (m := m) (cl := []) rfl rfl rfl rfl rfl (by decide) rfl (by decide) (by intro _; rfl) R.hd ?_
  refine nmC F.cell ?_ rfl rfl rfl (by decide)
  refine ⟨h, h, _, [ra], _, _, fun _ => true, fun i y H => ∀ r, rows[i]? = some r → ∃ t, y = .int (weightF r) t, rfl, Stay.refl _, .ofSeq (Seq.list hp.isList), ?hb, by rw [List.size_toArray, hrl]; (first | lia | omega), fun i y H H' x S => x, ?turn, F.fm, ?fin⟩
  case hb =>
    intro b hb
    simp at hb
    subst hb
    obtain ⟨n, e⟩ := hp
    exact ⟨_, e⟩
  case turn =>
    intro i v C m₃ h₃ tk₃ hi' hP FC
    obtain ⟨r, qa, qu, hr, rfl, hqp, hqi⟩ := lists_at hri (show ru[i]? = some v by simpa using hP)
    have hr3 := (hs r (List.mem_of_getElem? hr)).1
    have hqul : qu.length = r.length := hqi.len_eq
    unfold CompElem
    refine r_name FC (fun h₄ tk₄ F₄ O₄ => ?_) rfl rfl rfl
    refine wpAny_tests_nil ⟨rfl, ?_⟩
    rw [if_pos rfl]
    have hqp₄ := plain_stay hqp (F.keep.trans F₄.keep)
    (with_reducible refine wpAny_BinOp ?_)
    (((with_reducible refine r_int ?_)))
    refine r_meth PySem.F.plainAttrs_list PySem.F.slot_list_count PySem.F.type_list_count ?_
    refine r_slice (s := s) ?_
    refine nmL F₄ rfl ?_ rfl rfl rfl
    refine evalPart_some_step (r_int ?_)
    refine r_partN ⟨h₄, _, qa, _, some ((1 : Nat) : Int), none, rfl, rfl, hqp₄.isList, by simp; (first | lia | omega), .int _ _, .none, fun q2 h₅ fq2 hq2 S₅ => ?_⟩
    rw [slice_from _ _ (by simp; (first | lia | omega))] at hq2
    have hq2' : h₅.PlainList q2 (List.toArray (qu.drop 1)) := by simpa using hq2
    have hqd : StrsAre (qu.drop 1) (r.drop 1) := by
      have := hqi
      cases this with
      | nil => exact .nil
      | cons z u r => exact r
    obtain ⟨n2, e2⟩ := id hq2'
    refine ⟨⟨_, e2, rfl⟩, fun a e => (by cases e; exact ⟨_, e2, rfl⟩), r_cwB (r_sp1 (r_str (r_sp0 ?_)))⟩
    refine r_countS hq2' hqd fun t5 tk5 => ?_
    (((with_reducible refine r_add ?_)))
    refine ⟨h₅, _, rfl, fun b o nb e => S₅ _ _ (O₄ _ _ nb e), ⟨_, F₄.ns.keeps S₅⟩, fun Z hZ r' hr' => ?_⟩
    rw [hr] at hr'
    cases hr'
    exact ⟨_, rfl⟩
  case fin =>
    intro D ys h' tk' fD hDL O F' hD hP
    obtain ⟨F₂, S₂⟩ := (F.offL F'.ns O).ground
    refine k D _ h' tk' S₂ F₂ ⟨D, ys, rfl, hid_plain hD (F.notin fD), ?_⟩
    have h1 := hP [] (by simp)
    rw [filter_true] at h1
    have e : ru.toArray.size = (weightsF rows).length := by simp [weightsF, hrl]
    rw [e] at h1
    refine ints_range _ 0 h1 fun i y d e x => ?_
    unfold weightsF at e
    rw [List.getElem?_map] at e
    cases he : rows[i]? with
    | none => rw [he] at e; simp at e
    | some d0 =>
      rw [he] at e
      simp only [Option.map_some, Option.some.injEq] at e
      rw [← e]
      exact x d0 (by simpa using he)

set_option maxHeartbeats 2000000 in
theorem law_9 {wv : Value} {ws : List Int} {Q : Flow → Shared → Prop} (R : Rm 7 A) (N : LN mg) (X : LG mg mb mc T G) (F : LF G L m cv ps qs h) (hm : m "weights" = some wv) (hw : RowI G wv ws) (hwl : ws.length = 5)
    (k : ∀ t G' h' tk', Stay G G' → LF G' L (fun z => if z = "dots" then some (.int (prodsF ws).sum t) else m z) cv ps qs h' → wpAny (model prog w) A (execs (lawFrom 10) (lawEnv pm L)) Q E (st s h' tk')) :
    wpAny (model prog w) A (execs (lawFrom 9) (lawEnv pm L)) Q E (st s h tk) := by
  (first | (refine Mine.e2_3 (hw) ?_; rintro wa wu rfl hwp hwi) | (obtain ⟨wa, wu, rfl, hwp, hwi⟩ := hw))
  have hwul : wu.length = 5 := by rw [hwi.length, hwl]
  have X₀ := X.stay F.keep
  refine r_assign ?_
  (with_reducible refine r_call ?_)
  refine nmB X₀.bas N.b9 rfl ?_
  refine r_cwB (r_sp1 ?_)
  refine comp_q (s := s) (cl := []) rfl (by decide) rfl (by decide) (by intro _; rfl) R.hd ?_
  (with_reducible refine r_call ?_)
  refine nmB X₀.bas N.b8 rfl ?_
  refine r_cwT (r_sp1 (nmL F.fm hm (r_sp1 ?_)))
  refine r_list (r_sp1 (r_int (r_sp1 (r_int (r_sp1 (r_int ?_))))))
  refine r_sp1 (r_int (r_sp1 (r_int (r_sp0 (r_newList (by simp) fun q1 h₁ fq1 hq1 S₁ => r_sp0 ?_)))))
  have F₁ := F.stay S₁
  have hp := plain_stay hwp F₁.keep
  obtain ⟨du, hq1, hdu⟩ : ∃ du, h₁.PlainList q1 (List.toArray du) ∧ IntsAre du depthsW := ⟨_, hq1, .cons _ _ (.cons _ _ (.cons _ _ (.cons _ _ (.cons _ _ .nil))))⟩
  have hdul : du.length = 5 := hdu.length
  refine r_zip hp.isList hq1.isList fun z h₂ S₂ hz => ?_
  refine ⟨h₁, h₂, _, _, _, _, fun _ => true, fun i y H => ∀ r, (ws.zip depthsW)[i]? = some r → ∃ t, y = .int (r.1 * r.2) t, rfl, S₂, hz _ _ _, ?hb, by simp [hwul, hdul], fun i y H H' x S => x, ?turn, ?fin⟩
  case hb =>
    intro b hb
    simp at hb
    rcases hb with rfl | rfl
    · obtain ⟨n, e⟩ := hp
      exact ⟨_, e⟩
    · obtain ⟨n, e⟩ := hq1
      exact ⟨_, e⟩
  case turn =>
    (rintro i v C m₃ h₃ tk₃ hi' hcj; (first | (refine Mine.e3_4 hcj ?_; clear hcj; rintro T' x y rfl hx hy hT FC) | (obtain ⟨T', x, y, rfl, hx, hy, hT⟩ := hcj; rintro FC)))
    obtain ⟨t1, n1, rfl, hn1⟩ := ints_get' hwi (show wu[i]? = some x by simpa using hx)
    obtain ⟨t2, n2, rfl, hn2⟩ := ints_get' hdu (show du[i]? = some y by simpa using hy)
    have hzz : (ws.zip depthsW)[i]? = some (n1, n2) := List.getElem?_zip_eq_some.mpr ⟨hn1, hn2⟩
    have hn2b : 0 ≤ n2 ∧ n2 ≤ 46 := by
      have := List.mem_of_getElem? hn2
      simp [depthsW] at this
      (first | lia | omega)
    unfold CompElem
    refine r_unpack2 R.hd FC hT (fun h₄ tk₄ F₄ O₄ => ?_) rfl rfl rfl rfl
    refine wpAny_tests_nil ⟨rfl, ?_⟩
    rw [if_pos rfl]
    (with_reducible refine wpAny_BinOp ?_)
    refine nmL F₄ rfl (nmL F₄ rfl ?_ rfl rfl rfl) rfl rfl rfl
    refine r_mul (intBits_le_64 (by (first | lia | omega)) (by (first | lia | omega))) ?_
    refine ⟨h₄, _, rfl, O₄, ⟨_, F₄.ns⟩, fun Z hZ r hr => ?_⟩
    rw [hzz] at hr
    cases hr
    exact ⟨_, rfl⟩
  case fin =>
    intro D ys h' tk' fD S hD hP
    have F₂ := F₁.stay S
    have hyi : IntsAre ys (prodsF ws) := by
      have h1 := hP [] (by simp)
      rw [filter_true] at h1
      have e : min wu.toArray.size du.toArray.size = (prodsF ws).length := by simp [prodsF, depthsW, hwul, hwl, hdul]
      rw [e] at h1
      refine ints_range _ 0 h1 fun i y d e x => ?_
      unfold prodsF at e
      rw [List.getElem?_map] at e
      cases he : (ws.zip depthsW)[i]? with
      | none => rw [he] at e; simp at e
      | some d0 =>
        rw [he] at e
        simp only [Option.map_some, Option.some.injEq] at e
        rw [← e]
        exact x d0 (by simpa using he)
    refine r_sp0 (r_sumI R.hd hD hyi fun t h₃ tk₃ S₃ => ?_)
    refine lf_stL (F₂.stay S₃) rfl fun h₄ tk₄ F₄ O₄ => ?_
    obtain ⟨F₅, S₅⟩ := F₄.ground
    exact k t _ h₄ tk₄ S₅ F₅
end
end Mine
end
section
open PySem PySem.W PySem.Calls PyProof.Rows
set_option Elab.async false
set_option maxRecDepth 100000
set_option linter.unusedVariables false
namespace Mine

section
variable {prog : Program} {w : World} {A : Around} {E : Value → Shared → Prop} {s : Shared} {G h : Heap} {tk : Nat} {L : Nat} {m : Str → Option Value} {cv : Option Value} {ps qs : Array Value} {mg mb mc : Str → Option Value} {pm : Value} {T : List (List (Int × Str))}
theorem lf_lam {e : Expr} {Q : Value → Shared → Prop} (F : LF G L m cv #[] qs h) (X : LG mg mb mc T G) (he : e = .Lambda (lamP e) (lamB e) (lamS e) (lamQ e)) (hdef : defaultsOf (lamP e) (lawEnv pm L) = ([], []))
    (hcl : closureFor (lamS e) (lawEnv pm L) = pure []) (hq : (lawEnv pm L).qual ++ "<lambda>" = lawLam)
    (k : ∀ G' f h' tk' ps', Stay G G' → LF G' L m cv ps' qs h' → LamAt G' f e [] → Q (.ref f) (st s h' tk')) :
    wpAny (model prog w) A (eval e (lawEnv pm L)) Q E (st s h tk) := by
  rw [he]
  refine kla_eval hdef ?_
  rw [hq]
  have X₀ := X.stay F.keep
  refine kla_makeFunction (s := st s h tk) hcl rfl X₀.bas.g rfl X₀.c1 F.tab trivial rfl (ns_ne_tab X₀.bas.g F.tab) (X₀.bm.at F.tab) fun c' ctv h' tk' hx hge hlt hrec htb => ?_
  have O : Off 160 h h' := fun b o n e => hx b o n e
  have ff : h'.get? h'.objs.size = none := Heap.get?_none_of_le (Nat.le_refl _)
  have F' := F.set160 htb O
  have S' : Stay h' (h'.push (kla_obj "<lambda>" lawLam (lamP e) (lamB e) (lamS e) [] ((mg "__name__").getD .none) c' ctv)) := fun b o e => Heap.get?_push_of_some _ e
  obtain ⟨F'', SG⟩ := (F'.stay S').ground
  have nf : h'.objs.size ∉ LX L := F'.notin ff
  have nc : c' ∉ LX L := F.notin (Heap.get?_none_of_le hge)
  refine k _ h'.objs.size _ tk' _ SG F'' ⟨_, c', ctv, hideAll_get _ (Heap.get?_push_size _ rfl) nf, ?_⟩
  (first | (refine Mine.e4_4 (hrec) ?_; rintro c2 oc vs t e2 hoc hd hv) | (obtain ⟨c2, oc, vs, t, e2, hoc, hd, hv⟩ := hrec))
  cases e2
  exact ⟨c', oc, vs, t, rfl, hideAll_get _ (S' _ _ hoc) nc, hd, hv⟩

set_option maxHeartbeats 4000000 in
theorem law_10 {rv tv wv : Value} {xs ys : List Str} {ws : List Int} {td : Tok} {Q : Flow → Shared → Prop} (R : Rm 10 A) (N : LN mg) (X : LG mg mb mc T G) (F : LF G L m cv #[] qs h)
    (hm1 : m "ranked" = some rv) (hm2 : m "told" = some tv) (hm3 : m "weights" = some wv) (hm4 : m "dots" = some (.int (prodsF ws).sum td)) (h1 : StrsAt G rv xs) (h2 : StrsAt G tv ys) (h3 : RowI G wv ws)
    (e1 : (xs.map fun x => (x.length : Int)).sum = 700 + (prodsF ws).sum) (e2 : ((xs.getD 0 "").length : Int) = 50 + leastN 10 (rowOf ws) 0) (e3 : sortL ys = xs) (hxl : 2 ≤ xs.length) (hy2 : 2 ≤ ys.length) (hy64 : ys.length < 64) (hz : ∀ i, (ys.getD i "").length ≤ 10000) (hzx : ∀ x ∈ xs, x.length ≤ 10000) (hxl2 : xs.length ≤ 100)
    (hwl : ws.length ≤ 10) (hok : leastOk 10 (rowOf ws) = true)
    (k : ∀ G' h' tk' ps', LF G' L m cv ps' qs h' → Stay G G' → Q (.ret (.bool true)) (st s h' tk')) :
    wpAny (model prog w) A (execs (lawFrom 10) (lawEnv pm L)) Q E (st s h tk) := by
  (first | (refine Mine.e2_3 (h1) ?_; rintro da us rfl hus hui) | (obtain ⟨da, us, rfl, hus, hui⟩ := h1))
  (first | (refine Mine.e2_3 (h2) ?_; rintro ta tu rfl htu hti) | (obtain ⟨ta, tu, rfl, htu, hti⟩ := h2))
  have hul : us.length = xs.length := hui.len_eq
  have X₀ := X.stay F.keep
  refine r_ret ?_
  refine BoolOp_and ?_
  (((with_reducible refine wpAny_Compare1 ?_ ?mk); (case mk => with_unfolding_all rfl)))
  (with_reducible refine r_call ?_)
  refine nmB X₀.bas N.b9 rfl ?_
  refine r_cwB (r_sp1 ?_)
  refine comp_q (s := s) (cl := []) rfl (by decide) rfl (by decide) (by intro _; rfl) R.hd ?_
  refine nmL F.fm hm1 ?_
  have hp := plain_stay hus F.keep
  refine ⟨h, h, _, [da], _, _, fun _ => true, fun i y H => ∀ x, xs[i]? = some x → ∃ t, y = .int (x.length : Int) t, rfl, Stay.refl _, .ofSeq (Seq.list hp.isList), ?hb, by rw [List.size_toArray, hul]; (first | lia | omega), fun i y H H' x S => x, ?turn, ?fin⟩
  case hb =>
    intro b hb
    simp at hb
    subst hb
    obtain ⟨n, e⟩ := hp
    exact ⟨_, e⟩
  case turn =>
    intro i v C m₃ h₃ tk₃ hi' hP FC
    obtain ⟨t, rfl, hi⟩ := strs_get' hui (show us[i]? = some v by simpa using hP)
    have hx : xs[i]? = some (xs.getD i "") := by rw [List.getD_eq_getElem?_getD, List.getElem?_eq_getElem hi]; rfl
    unfold CompElem
    refine r_name FC (fun h₄ tk₄ F₄ O₄ => ?_) rfl rfl rfl
    refine wpAny_tests_nil ⟨rfl, ?_⟩
    rw [if_pos rfl]
    (with_reducible refine r_call ?_)
    refine nmB (X.bas.stay (F.keep.trans F₄.keep)) N.b1 rfl ?_
    refine r_cwB (r_sp1 (nmL F₄ rfl (r_sp0 (r_lenS (by have := hzx _ (List.mem_of_getElem? hx); (first | lia | omega)) fun t₁ tk₁ => ?_)) rfl rfl rfl))
    refine ⟨h₄, _, rfl, O₄, ⟨_, F₄.ns⟩, fun Z hZ x hx' => ?_⟩
    rw [hx] at hx'
    cases hx'
    exact ⟨_, rfl⟩
  case fin =>
    intro D zs h₁ tk₁ fD S₁ hD hP
    have F₁ := F.stay S₁
    have hzi : IntsAre zs (xs.map fun x => (x.length : Int)) := by
      have h1 := hP [] (by simp)
      rw [filter_true] at h1
      have e : us.toArray.size = (xs.map fun x => (x.length : Int)).length := by simp [hul]
      rw [e] at h1
      refine ints_range _ 0 h1 fun i y d e x => ?_
      rw [List.getElem?_map] at e
      cases he : xs[i]? with
      | none => rw [he] at e; simp at e
      | some d0 =>
        rw [he] at e
        simp only [Option.map_some, Option.some.injEq] at e
        rw [← e]
        exact x d0 (by simpa using he)
    refine r_sp0 (r_sumI R.hd hD hzi fun t₂ h₂ tk₂ S₂ => ?_)
    have F₂ := F₁.stay S₂
    have X₂ := X.stay F₂.keep
    (with_reducible refine wpAny_BinOp ?_)
    (((with_reducible refine r_int ?_)))
    refine nmL F₂.fm hm4 ?_
    (((with_reducible refine r_add ?_)))
    (with_reducible refine PyProof.Rows.eq_int ?_)
    rw [e1]
    have eb : ((700 + (prodsF ws).sum) == (700 + (prodsF ws).sum)) = true := by simp
    rw [eb]
    refine wpAny_truthy_bool ?_
    rw [if_pos rfl]
    refine BoolOp_and ?_
    (((with_reducible refine wpAny_Compare1 ?_ ?mk); (case mk => with_unfolding_all rfl)))
    (with_reducible refine r_call ?_)
    refine nmB X₂.bas N.b1 rfl ?_
    have hx0 : xs[0]? = some (xs.getD 0 "") := by rw [List.getD_eq_getElem?_getD, List.getElem?_eq_getElem (by (first | lia | omega))]; rfl
    obtain ⟨u0, hu0⟩ := hui.get _ _ hx0
    have hp₂ := plain_stay hus F₂.keep
    refine r_cwB (r_sp1 (r_subs (nmL F₂.fm hm1 (r_int (r_itemL (x := .str (xs.getD 0 "") u0) (j := 0) hp₂.isList rfl (by decide) (by simpa using hu0) ?_)))))
    refine r_sp0 (r_lenS (by have := hzx _ (List.mem_of_getElem? hx0); (first | lia | omega)) fun t₃ tk₃ => ?_)
    (with_reducible refine wpAny_BinOp ?_)
    (((with_reducible refine r_int ?_)))
    (with_reducible refine r_call ?_)
    refine nmG X₂.bas N.n17 ?_
    refine r_cwD X₂.f12 (r_sp1 (nmL F₂.fm hm3 (r_sp0 ⟨Stay.refl _, ?_⟩)))
    refine (c_least (R.less (by decide)) X₂.bas X₂.f12 N.b1 (RowI.stay h3 F₂.keep) hwl hok) _ _ _ fun v h₄ tk₄ S₄ hv => ?_
    obtain ⟨t₄, rfl⟩ := hv
    have F₄ := F₂.stay S₄
    have X₄ := X.stay F₄.keep
    (((with_reducible refine r_add ?_)))
    (with_reducible refine PyProof.Rows.eq_int ?_)
    rw [e2]
    have eb2 : ((50 + leastN 10 (rowOf ws) 0) == (50 + leastN 10 (rowOf ws) 0)) = true := by simp
    rw [eb2]
    refine wpAny_truthy_bool ?_
    rw [if_pos rfl]
    refine BoolOp_one ?_
    (((with_reducible refine wpAny_Compare1 ?_ ?mk); (case mk => with_unfolding_all rfl)))
    refine nmL F₄.fm hm1 ?_
    refine wpAny_Call_Name_kw ?_
    refine nmB X₄.bas N.b3 rfl ?_
    refine r_cwKw ?_
    refine r_sp1 (nmL F₄.fm hm2 (r_sp0 ?_))
    refine wpAny_evalAll_cons ?_
    refine wpAny_bind ?_
    refine lf_lam (e := lamT) F₄ X rfl rfl rfl (by kernel_rfl) fun G₁ f h₅ tk₅ ps₁ SG₁ F₅ X₅ => ?_
    refine wpAny_bind (wpAny_standAt (wpAny_pure ?_))
    refine wpAny_evalAll_nil ?_
    refine sort_T F₅.fm (R.less (by decide)) (X.stay SG₁).bas X₅ N.b1 (plain_stay htu SG₁) hti hy2 hy64 hz fun D₂ h₆ tk₆ us' fD₂ hD₂ hus' bt => ?_
    have F₆ := F₅.bt bt
    rw [e3] at hus'
    refine r_eqStrs (plain_stay (plain_stay hus SG₁) F₆.keep).isList hD₂.isList hui hus' R.units ?_
    exact k G₁ h₆ tk₆ ps₁ F₆ SG₁
end
end Mine
end
section
open PySem PySem.W PySem.Calls PyProof.Rows
set_option Elab.async false
set_option maxRecDepth 100000
set_option linter.unusedVariables false
namespace Mine

noncomputable def tabT : List (List (Int × Str)) := [[(40960, "l"), (49152, "s"), (32768, "-"), (24576, "b"), (16384, "d"), (8192, "c"), (4096, "p")], [(256, "r")], [(128, "w")], [(2112, "s"), (2048, "S"), (64, "x")], [(32, "r")], [(16, "w")], [(1032, "s"), (1024, "S"), (8, "x")], [(4, "r")], [(2, "w")], [(513, "t"), (512, "T"), (1, "x")]]

noncomputable abbrev cl (x : Str) : List Nat := x.cps.toList
theorem cl_append (a b : Str) : cl (a ++ b) = cl a ++ cl b := by
  show (a.cps ++ b.cps).toList = _
  simp
theorem flat_free (c : Nat) (z : List Nat) : ∀ l : List Nat, c ∉ l → l.flatMap (fun k => if k = c then z else [k]) = l
  | [], _ => rfl
  | k :: r, h => by
    have h1 : ¬ k = c := fun e => h (e ▸ List.mem_cons_self ..)
    rw [List.flatMap_cons, if_neg h1, flat_free c z r fun m => h (List.mem_cons_of_mem _ m)]
    rfl
theorem flat_join (c : Nat) (z : Str) : ∀ parts : List Str, (∀ p ∈ parts, c ∉ p.cps.toList) → (Str.join ⟨#[c]⟩ parts).cps.toList.flatMap (fun k => if k = c then z.cps.toList else [k]) = (Str.join z parts).cps.toList
  | [], _ => rfl
  | [p], h => flat_free c _ _ (h p (List.mem_singleton.mpr rfl))
  | p :: q :: r, h => by
    have ih := flat_join c z (q :: r) fun a ha => h a (List.mem_cons_of_mem _ ha)
    show (p ++ ⟨#[c]⟩ ++ Str.join ⟨#[c]⟩ (q :: r)).cps.toList.flatMap _ = (p ++ z ++ Str.join z (q :: r)).cps.toList
    simp only [Str.cps_append, Array.toList_append, List.flatMap_append]
    rw [ih, flat_free c _ _ (h p (List.mem_cons_self ..))]
    simp
theorem replace_flat (x z : Str) (c : Nat) : cl (Txt.replace x ⟨#[c]⟩ z) = (cl x).flatMap fun k => if k = c then cl z else [k] := by
  show (Txt.replace x ⟨#[c]⟩ z).cps.toList = _
  rw [StrLaws.replace_one, ← flat_join c z _ (StrLaws.split_free x c), StrLaws.join_split]

theorem glued_cl : ∀ (ps : List Str), cl (PySem.Builtin.Str.glued "" ps) = ps.flatMap cl := by
  have e0 : (Str.cps ("" : Str)) = #[] := by decide
  have gen : ∀ (ps : List Str) (a : Array Nat), (ps.foldl (fun acc p => acc ++ (Str.cps ("" : Str)) ++ p.cps) a).toList = a.toList ++ ps.flatMap cl := by
    intro ps
    induction ps with
    | nil => intro a; simp
    | cons p r ih => intro a; rw [List.foldl_cons, ih]; simp [e0, cl]
  intro ps
  show ((ps.drop 1).foldl (fun acc p => acc ++ (Str.cps ("" : Str)) ++ p.cps) (ps.headD Str.empty).cps).toList = _
  rw [gen]
  cases ps with
  | nil => rfl
  | cons p r => simp [cl]

/- bits -/
theorem land_bit (n k : Nat) : n &&& 2 ^ k = n / 2 ^ k % 2 * 2 ^ k := by
  have hb : n.testBit k = decide (n / 2 ^ k % 2 = 1) := Nat.testBit_eq_decide_div_mod_eq
  have : n / 2 ^ k % 2 = 0 ∨ n / 2 ^ k % 2 = 1 := by (first | lia | omega)
  apply Nat.eq_of_testBit_eq
  intro i
  rw [Nat.testBit_and, Nat.testBit_two_pow]
  by_cases hk : k = i
  · subst hk
    rcases this with h | h
    · rw [hb, h]; simp
    · rw [hb, h]; simp
  · rcases this with h | h
    · rw [h]; simp [hk]
    · rw [h, Nat.one_mul, Nat.testBit_two_pow]; simp [hk]
theorem band_nat (n k : Nat) : Builtin.bitAnd (n : Int) (k : Int) = ((n &&& k : Nat) : Int) := by
  unfold Builtin.bitAnd
  simp
theorem fdivN (n k : Nat) : (n : Int).fdiv (k : Int) = ((n / k : Nat) : Int) := by
  rw [Int.fdiv_eq_ediv_of_nonneg _ (by (first | lia | omega))]; simp
theorem fmodN (n k : Nat) : (n : Int).fmod (k : Int) = ((n % k : Nat) : Int) := by
  rw [Int.fmod_eq_emod_of_nonneg _ (by (first | lia | omega))]; simp

noncomputable def ch1 (n k : Nat) (c : Nat) : Nat := if n / 2 ^ k % 2 = 1 then c else 45
noncomputable def ch3 (n j k a b c : Nat) : Nat := if n / 2 ^ j % 2 = 1 then (if n / 2 ^ k % 2 = 1 then a else b) else if n / 2 ^ k % 2 = 1 then c else 45

theorem hit1 (n k i : Nat) (s : Str) (hi : i ≠ 0) : hits i (n : Int) (((2 ^ k : Nat) : Int), s) = (n / 2 ^ k % 2 == 1) := by
  unfold hits
  rw [if_neg hi]
  simp only
  rw [band_nat, land_bit]
  have hp : 0 < 2 ^ k := Nat.pow_pos (by decide)
  have : n / 2 ^ k % 2 = 0 ∨ n / 2 ^ k % 2 = 1 := by (first | lia | omega)
  rcases this with h | h
  · rw [h]
    have : ((0 * 2 ^ k : Nat) : Int) ≠ ((2 ^ k : Nat) : Int) := by rw [Nat.zero_mul]; intro q; have := Int.ofNat.inj q; (first | lia | omega)
    rw [beq_eq_false_iff_ne.mpr this]; rfl
  · rw [h]; simp
theorem or_sum {j k : Nat} (h : k < j) : 2 ^ j ||| 2 ^ k = 2 ^ j + 2 ^ k := by
  have := Nat.two_pow_add_eq_or_of_lt (i := j) (b := 2 ^ k) (Nat.pow_lt_pow_right (by decide) h) 1
  simpa using this.symm
theorem hit2 (n j k i : Nat) (s : Str) (hi : i ≠ 0) (hjk : k < j) : hits i (n : Int) (((2 ^ j + 2 ^ k : Nat) : Int), s) = (n / 2 ^ j % 2 == 1 && n / 2 ^ k % 2 == 1) := by
  unfold hits
  rw [if_neg hi]
  simp only
  rw [band_nat, ← or_sum hjk, Nat.and_or_distrib_left, land_bit, land_bit, or_sum hjk]
  have hp : 0 < 2 ^ j := Nat.pow_pos (by decide)
  have hp2 : 0 < 2 ^ k := Nat.pow_pos (by decide)
  have h1 : n / 2 ^ j % 2 = 0 ∨ n / 2 ^ j % 2 = 1 := by (first | lia | omega)
  have h2 : n / 2 ^ k % 2 = 0 ∨ n / 2 ^ k % 2 = 1 := by (first | lia | omega)
  have ne : ∀ {a b : Nat}, a ≠ b → (((a : Nat) : Int) == ((b : Nat) : Int)) = false := fun {a b} q => beq_eq_false_iff_ne.mpr fun z => q (Int.ofNat.inj z)
  rcases h1 with h | h <;> rcases h2 with h' | h' <;> rw [h, h']
  · rw [ne]; rfl
    simp only [Nat.zero_mul, Nat.or_self]; (first | lia | omega)
  · rw [ne]; rfl
    rw [Nat.zero_mul, Nat.zero_or, Nat.one_mul]; (first | lia | omega)
  · rw [ne]; rfl
    rw [Nat.zero_mul, Nat.or_zero, Nat.one_mul]; (first | lia | omega)
  · rw [Nat.one_mul, Nat.one_mul, or_sum hjk]; simp
end Mine
end
section
open PySem PySem.W PySem.Calls PyProof.Rows
set_option Elab.async false
set_option maxRecDepth 100000
set_option linter.unusedVariables false
namespace Mine

theorem pick1 (n k i c : Nat) (s : Str) (hi : i ≠ 0) (hs : cl s = [c]) : cl (pick i (n : Int) [(((2 ^ k : Nat) : Int), s)]) = [ch1 n k c] := by
  unfold pick ch1
  rw [List.find?_cons, hit1 n k i s hi]
  have : n / 2 ^ k % 2 = 0 ∨ n / 2 ^ k % 2 = 1 := by omega
  rcases this with h | h
  · rw [h]
    simp only [List.find?_nil, if_neg hi]
    rfl
  · rw [h]; exact hs
theorem pick3 (n j k i a b c : Nat) (s1 s2 s3 : Str) (hi : i ≠ 0) (hjk : k < j) (h1 : cl s1 = [a]) (h2 : cl s2 = [b]) (h3 : cl s3 = [c]) :
    cl (pick i (n : Int) [(((2 ^ j + 2 ^ k : Nat) : Int), s1), (((2 ^ j : Nat) : Int), s2), (((2 ^ k : Nat) : Int), s3)]) = [ch3 n j k a b c] := by
  unfold pick ch3
  rw [List.find?_cons, List.find?_cons, List.find?_cons, hit2 n j k i s1 hi hjk, hit1 n j i s2 hi, hit1 n k i s3 hi]
  have e1 : n / 2 ^ j % 2 = 0 ∨ n / 2 ^ j % 2 = 1 := by omega
  have e2 : n / 2 ^ k % 2 = 0 ∨ n / 2 ^ k % 2 = 1 := by omega
  rcases e1 with h | h <;> rcases e2 with h' | h' <;> rw [h, h']
  · simp only [List.find?_nil, if_neg hi]
    rfl
  · exact h3
  · exact h2
  · exact h1

noncomputable def k0 (K : Nat) : Nat := if K = 10 then 108 else if K = 12 then 115 else if K = 8 then 45 else if K = 6 then 98 else if K = 4 then 100 else if K = 2 then 99 else if K = 1 then 112 else 63
theorem land_top (n : Nat) (hn : n < 65536) : n &&& 61440 = n / 4096 * 4096 := by
  have e : (61440 : Nat) = 2 ^ 15 ||| 2 ^ 14 ||| 2 ^ 13 ||| 2 ^ 12 := by decide
  rw [e, Nat.and_or_distrib_left, Nat.and_or_distrib_left, Nat.and_or_distrib_left, land_bit, land_bit, land_bit, land_bit]
  have b15 : n / 2 ^ 15 % 2 = 0 ∨ n / 2 ^ 15 % 2 = 1 := by omega
  have b14 : n / 2 ^ 14 % 2 = 0 ∨ n / 2 ^ 14 % 2 = 1 := by omega
  have b13 : n / 2 ^ 13 % 2 = 0 ∨ n / 2 ^ 13 % 2 = 1 := by omega
  have b12 : n / 2 ^ 12 % 2 = 0 ∨ n / 2 ^ 12 % 2 = 1 := by omega
  have key : n / 4096 = n / 2 ^ 15 % 2 * 8 + n / 2 ^ 14 % 2 * 4 + n / 2 ^ 13 % 2 * 2 + n / 2 ^ 12 % 2 := by omega
  rw [key]
  rcases b15 with h1 | h1 <;> rcases b14 with h2 | h2 <;> rcases b13 with h3 | h3 <;> rcases b12 with h4 | h4 <;> rw [h1, h2, h3, h4] <;> decide
noncomputable def row0 : List (Int × Str) := [(40960, "l"), (49152, "s"), (32768, "-"), (24576, "b"), (16384, "d"), (8192, "c"), (4096, "p")]
theorem k0_ok : ∀ K, K < 16 → cl (match row0.find? (fun p => ((K * 4096 : Nat) : Int) == p.1) with | some p => p.2 | none => "?") = [k0 K] := by decide +kernel
theorem pick0 (n : Nat) (hn : n < 65536) : cl (pick 0 (n : Int) row0) = [k0 (n / 4096)] := by
  have := k0_ok (n / 4096) (by omega)
  rw [← this]
  unfold pick
  have e : hits 0 (n : Int) = fun p => ((n / 4096 * 4096 : Nat) : Int) == p.1 := by
    funext p
    unfold hits
    rw [if_pos rfl, show Builtin.bitAnd (n : Int) 61440 = ((n &&& 61440 : Nat) : Int) from band_nat n 61440, land_top n hn]
  rw [e]
  rfl

theorem fm_cl (n : Nat) (hn : n < 65536) : cl (fmF tabT (n : Int)) = [k0 (n / 4096), ch1 n 8 114, ch1 n 7 119, ch3 n 11 6 115 83 120, ch1 n 5 114, ch1 n 4 119, ch3 n 10 3 115 83 120, ch1 n 2 114, ch1 n 1 119, ch3 n 9 0 116 84 120] := by
  unfold fmF
  rw [glued_cl]
  have e : picks (n : Int) tabT = [pick 0 (n : Int) row0, pick 1 (n : Int) [(((2 ^ 8 : Nat) : Int), "r")], pick 2 (n : Int) [(((2 ^ 7 : Nat) : Int), "w")], pick 3 (n : Int) [(((2 ^ 11 + 2 ^ 6 : Nat) : Int), "s"), (((2 ^ 11 : Nat) : Int), "S"), (((2 ^ 6 : Nat) : Int), "x")],
    pick 4 (n : Int) [(((2 ^ 5 : Nat) : Int), "r")], pick 5 (n : Int) [(((2 ^ 4 : Nat) : Int), "w")], pick 6 (n : Int) [(((2 ^ 10 + 2 ^ 3 : Nat) : Int), "s"), (((2 ^ 10 : Nat) : Int), "S"), (((2 ^ 3 : Nat) : Int), "x")],
    pick 7 (n : Int) [(((2 ^ 2 : Nat) : Int), "r")], pick 8 (n : Int) [(((2 ^ 1 : Nat) : Int), "w")], pick 9 (n : Int) [(((2 ^ 9 + 2 ^ 0 : Nat) : Int), "t"), (((2 ^ 9 : Nat) : Int), "T"), (((2 ^ 0 : Nat) : Int), "x")]] := rfl
  rw [e]
  simp only [List.flatMap_cons, List.flatMap_nil]
  rw [pick0 n hn, pick1 n 8 1 114 _ (by decide) (by decide), pick1 n 7 2 119 _ (by decide) (by decide), pick3 n 11 6 3 115 83 120 _ _ _ (by decide) (by decide) (by decide) (by decide) (by decide),
    pick1 n 5 4 114 _ (by decide) (by decide), pick1 n 4 5 119 _ (by decide) (by decide), pick3 n 10 3 6 115 83 120 _ _ _ (by decide) (by decide) (by decide) (by decide) (by decide),
    pick1 n 2 7 114 _ (by decide) (by decide), pick1 n 1 8 119 _ (by decide) (by decide), pick3 n 9 0 9 116 84 120 _ _ _ (by decide) (by decide) (by decide) (by decide) (by decide)]
  rfl
theorem picks_small (n : Nat) (hn : n < 65536) : ∀ y ∈ picks (n : Int) tabT, y.length ≤ 10 := by
  have e : picks (n : Int) tabT = [pick 0 (n : Int) row0, pick 1 (n : Int) [(((2 ^ 8 : Nat) : Int), "r")], pick 2 (n : Int) [(((2 ^ 7 : Nat) : Int), "w")], pick 3 (n : Int) [(((2 ^ 11 + 2 ^ 6 : Nat) : Int), "s"), (((2 ^ 11 : Nat) : Int), "S"), (((2 ^ 6 : Nat) : Int), "x")],
    pick 4 (n : Int) [(((2 ^ 5 : Nat) : Int), "r")], pick 5 (n : Int) [(((2 ^ 4 : Nat) : Int), "w")], pick 6 (n : Int) [(((2 ^ 10 + 2 ^ 3 : Nat) : Int), "s"), (((2 ^ 10 : Nat) : Int), "S"), (((2 ^ 3 : Nat) : Int), "x")],
    pick 7 (n : Int) [(((2 ^ 2 : Nat) : Int), "r")], pick 8 (n : Int) [(((2 ^ 1 : Nat) : Int), "w")], pick 9 (n : Int) [(((2 ^ 9 + 2 ^ 0 : Nat) : Int), "t"), (((2 ^ 9 : Nat) : Int), "T"), (((2 ^ 0 : Nat) : Int), "x")]] := rfl
  have one : ∀ {x : Str} {c : Nat}, cl x = [c] → x.length ≤ 10 := fun {x c} h => by
    have : (cl x).length = x.length := by simp [Str.length]
    rw [← this, h]; simp
  rw [e]
  intro y hy
  simp only [List.mem_cons, List.not_mem_nil, or_false] at hy
  rcases hy with rfl | rfl | rfl | rfl | rfl | rfl | rfl | rfl | rfl | rfl
  · exact one (pick0 n hn)
  · exact one (pick1 n 8 1 114 _ (by decide) (by decide))
  · exact one (pick1 n 7 2 119 _ (by decide) (by decide))
  · exact one (pick3 n 11 6 3 115 83 120 _ _ _ (by decide) (by decide) (by decide) (by decide) (by decide))
  · exact one (pick1 n 5 4 114 _ (by decide) (by decide))
  · exact one (pick1 n 4 5 119 _ (by decide) (by decide))
  · exact one (pick3 n 10 3 6 115 83 120 _ _ _ (by decide) (by decide) (by decide) (by decide) (by decide))
  · exact one (pick1 n 2 7 114 _ (by decide) (by decide))
  · exact one (pick1 n 1 8 119 _ (by decide) (by decide))
  · exact one (pick3 n 9 0 9 116 84 120 _ _ _ (by decide) (by decide) (by decide) (by decide) (by decide))

end Mine
end
section
open PySem PySem.W PySem.Calls PyProof.Rows
set_option Elab.async false
set_option maxRecDepth 100000
set_option linter.unusedVariables false
namespace Mine

noncomputable def gD (k : Nat) : Nat := if k = 45 then 46 else k
theorem slice_cl (x : Str) (l : List Nat) (h : cl x = l) (p : Nat) (c0 c1 c2 c3 c4 c5 c6 c7 c8 c9 : Nat) (hl : l = [c0, c1, c2, c3, c4, c5, c6, c7, c8, c9]) (hp : p = 1 ∨ p = 4 ∨ p = 7) : cl (Txt.slice x (some (p : Int)) (some ((p : Int) + 3))) = (l.drop p).take 3 := by
  obtain ⟨⟨cps⟩⟩ := x
  have h : cps = l := h
  subst h
  subst hl
  rcases hp with rfl | rfl | rfl <;> rfl
theorem signs_cl0 (x : Str) (n : Int) (l : List Nat) (h : cl x = l) (c0 c1 c2 c3 c4 c5 c6 c7 c8 c9 : Nat) (hl : l = [c0, c1, c2, c3, c4, c5, c6, c7, c8, c9]) : cl (signsF n x) = ((l.drop (placeF n).toNat).take 3).map gD := by
  have e1 : Str.ofString "-" = ⟨#[45]⟩ := by decide
  have e4 : cl (Str.ofString ".") = [46] := by decide
  have g1 := Int.fmod_nonneg_of_pos (a := n) (b := 3) (by decide)
  have g2 := Int.fmod_lt_of_pos n (b := 3) (by decide)
  have hp : (placeF n).toNat = 1 ∨ (placeF n).toNat = 4 ∨ (placeF n).toNat = 7 := by unfold placeF; (first | lia | omega)
  have hpn : placeF n = (((placeF n).toNat : Nat) : Int) := by unfold placeF; (first | lia | omega)
  unfold signsF
  rw [e1, replace_flat, e4, hpn, slice_cl x l h _ c0 c1 c2 c3 c4 c5 c6 c7 c8 c9 hl hp]
  simp only [Int.toNat_natCast]
  generalize (l.drop (placeF n).toNat).take 3 = q
  induction q with
  | nil => rfl
  | cons k r ih =>
    rw [List.flatMap_cons, ih, List.map_cons]
    unfold gD
    split <;> rfl
noncomputable def sg1 (k i c : Nat) : Nat := if k / 2 ^ i % 2 = 1 then c else 46
noncomputable def sg3 (k j i a b c : Nat) : Nat := if k / 2 ^ j % 2 = 1 then (if k / 2 ^ i % 2 = 1 then a else b) else if k / 2 ^ i % 2 = 1 then c else 46
noncomputable def sgs (p k : Nat) : List Nat := if p = 0 then [sg1 k 8 114, sg1 k 7 119, sg3 k 11 6 115 83 120] else if p = 1 then [sg1 k 5 114, sg1 k 4 119, sg3 k 10 3 115 83 120] else [sg1 k 2 114, sg1 k 1 119, sg3 k 9 0 116 84 120]
theorem gD_ch1 (n k c : Nat) (hc : c ≠ 45) : gD (ch1 n k c) = sg1 n k c := by
  unfold gD ch1 sg1
  split
  · first | rfl | rw [if_neg hc]
  · rfl
theorem gD_ch3 (n j k a b c : Nat) (ha : a ≠ 45) (hb : b ≠ 45) (hc : c ≠ 45) : gD (ch3 n j k a b c) = sg3 n j k a b c := by
  unfold gD ch3 sg3
  split
  · split
    · first | rfl | rw [if_neg ha]
    · first | rfl | rw [if_neg hb]
  · split
    · first | rfl | rw [if_neg hc]
    · rfl
theorem signs_cl (n : Int) (k : Nat) (hk : k < 65536) : cl (signsF n (fmF tabT (k : Int))) = sgs (n.fmod 3).toNat k := by
  rw [signs_cl0 _ n _ (fm_cl k hk) _ _ _ _ _ _ _ _ _ _ rfl]
  have g1 := Int.fmod_nonneg_of_pos (a := n) (b := 3) (by decide)
  have g2 := Int.fmod_lt_of_pos n (b := 3) (by decide)
  have hp : n.fmod 3 = 0 ∨ n.fmod 3 = 1 ∨ n.fmod 3 = 2 := by (first | lia | omega)
  unfold placeF sgs
  rcases hp with e | e | e
  · rw [e]
    show [gD _, gD _, gD _] = [_, _, _]
    rw [gD_ch1 _ _ _ (by decide), gD_ch1 _ _ _ (by decide), gD_ch3 _ _ _ _ _ _ (by decide) (by decide) (by decide)]
  · rw [e]
    show [gD _, gD _, gD _] = [_, _, _]
    rw [gD_ch1 _ _ _ (by decide), gD_ch1 _ _ _ (by decide), gD_ch3 _ _ _ _ _ _ (by decide) (by decide) (by decide)]
  · rw [e]
    show [gD _, gD _, gD _] = [_, _, _]
    rw [gD_ch1 _ _ _ (by decide), gD_ch1 _ _ _ (by decide), gD_ch3 _ _ _ _ _ _ (by decide) (by decide) (by decide)]

theorem sg1_ok (k i c : Nat) (h : c ≠ 10 ∧ c ≠ 13) : sg1 k i c ≠ 10 ∧ sg1 k i c ≠ 13 := by
  unfold sg1; split
  · exact h
  · decide
theorem sg3_ok (k j i a b c : Nat) (ha : a ≠ 10 ∧ a ≠ 13) (hb : b ≠ 10 ∧ b ≠ 13) (hc : c ≠ 10 ∧ c ≠ 13) : sg3 k j i a b c ≠ 10 ∧ sg3 k j i a b c ≠ 13 := by
  unfold sg3
  split <;> split
  · exact ha
  · exact hb
  · exact hc
  · decide
theorem sgs_ok (p k : Nat) : (sgs p k).length = 3 ∧ ∀ c ∈ sgs p k, c ≠ 10 ∧ c ≠ 13 := by
  unfold sgs
  split
  · refine ⟨rfl, fun c hc => ?_⟩
    simp only [List.mem_cons, List.not_mem_nil, or_false] at hc
    rcases hc with rfl | rfl | rfl
    · exact sg1_ok _ _ _ (by decide)
    · exact sg1_ok _ _ _ (by decide)
    · exact sg3_ok _ _ _ _ _ _ (by decide) (by decide) (by decide)
  · split
    · refine ⟨rfl, fun c hc => ?_⟩
      simp only [List.mem_cons, List.not_mem_nil, or_false] at hc
      rcases hc with rfl | rfl | rfl
      · exact sg1_ok _ _ _ (by decide)
      · exact sg1_ok _ _ _ (by decide)
      · exact sg3_ok _ _ _ _ _ _ (by decide) (by decide) (by decide)
    · refine ⟨rfl, fun c hc => ?_⟩
      simp only [List.mem_cons, List.not_mem_nil, or_false] at hc
      rcases hc with rfl | rfl | rfl
      · exact sg1_ok _ _ _ (by decide)
      · exact sg1_ok _ _ _ (by decide)
      · exact sg3_ok _ _ _ _ _ _ (by decide) (by decide) (by decide)
theorem str_one {x : Str} {c : Nat} (h : cl x = [c]) : x = ⟨#[c]⟩ := by
  obtain ⟨⟨l⟩⟩ := x
  have h : l = [c] := h
  rw [h]
theorem signsG_eq (n : Int) (k : Nat) : signsG n (k : Int) = (sgs (n.fmod 3).toNat k).map fun c => (⟨#[c]⟩ : Str) := by
  have g1 := Int.fmod_nonneg_of_pos (a := n) (b := 3) (by decide)
  have g2 := Int.fmod_lt_of_pos n (b := 3) (by decide)
  have hp : n.fmod 3 = 0 ∨ n.fmod 3 = 1 ∨ n.fmod 3 = 2 := by (first | lia | omega)
  have key : ∀ (u v : Nat) (a b c : Nat) (es : Str), es.cps.toList = [46, c, b, a] →
      [if decide (((u % 8 : Nat) : Int) > 3) = true then Str.ofString "r" else Str.ofString ".", if decide ((((u % 8 : Nat) : Int).fmod 4) > 1) = true then Str.ofString "w" else Str.ofString ".", (⟨#[es.cps.getD ((((u % 8 : Nat) : Int).fmod 2) + 2 * ((v % 2 : Nat) : Int)).toNat 0]⟩ : Str)] =
      [⟨#[if u / 4 % 2 = 1 then 114 else 46]⟩, ⟨#[if u / 2 % 2 = 1 then 119 else 46]⟩, ⟨#[if v % 2 = 1 then (if u % 2 = 1 then a else b) else if u % 2 = 1 then c else 46]⟩] := by
    intro u v a b c es hes
    have e1 : (((u % 8 : Nat) : Int) > 3) ↔ u / 4 % 2 = 1 := by (first | lia | omega)
    have f4 : (((u % 8 : Nat) : Int).fmod 4) = ((u % 8 % 4 : Nat) : Int) := fmodN _ 4
    have f2 : (((u % 8 : Nat) : Int).fmod 2) = ((u % 8 % 2 : Nat) : Int) := fmodN _ 2
    have e2 : (((u % 8 % 4 : Nat) : Int) > 1) ↔ u / 2 % 2 = 1 := by (first | lia | omega)
    have e3 : ((((u % 8 % 2 : Nat) : Int)) + 2 * ((v % 2 : Nat) : Int)).toNat = u % 2 + 2 * (v % 2) := by (first | lia | omega)
    rw [f4, f2, e3]
    simp only [e1, e2]
    have r1 : (if decide (u / 4 % 2 = 1) = true then Str.ofString "r" else Str.ofString ".") = ⟨#[if u / 4 % 2 = 1 then 114 else 46]⟩ := by
      by_cases q : u / 4 % 2 = 1 <;> simp only [q, decide_true, decide_false, if_true, if_false] <;> decide
    have r2 : (if decide (u / 2 % 2 = 1) = true then Str.ofString "w" else Str.ofString ".") = ⟨#[if u / 2 % 2 = 1 then 119 else 46]⟩ := by
      by_cases q : u / 2 % 2 = 1 <;> simp only [q, decide_true, decide_false, if_true, if_false] <;> decide
    have r3 : es.cps.getD (u % 2 + 2 * (v % 2)) 0 = if v % 2 = 1 then (if u % 2 = 1 then a else b) else if u % 2 = 1 then c else 46 := by
      obtain ⟨⟨l⟩⟩ := es
      have hes : l = [46, c, b, a] := hes
      subst hes
      have e1 : v % 2 = 0 ∨ v % 2 = 1 := by (first | lia | omega)
      have e2 : u % 2 = 0 ∨ u % 2 = 1 := by (first | lia | omega)
      rcases e1 with h | h <;> rcases e2 with h' | h' <;> rw [h, h'] <;> rfl
    rw [r1, r2, r3]
  have fig : ∀ (d : Nat), ((k : Int).fdiv ((d : Nat) : Int)).fmod 8 = ((k / d % 8 : Nat) : Int) := fun d => by rw [fdivN]; exact fmodN _ 8
  have abv : ∀ (d : Nat), ((k : Int).fdiv ((d : Nat) : Int)).fmod 2 = ((k / d % 2 : Nat) : Int) := fun d => by rw [fdivN]; exact fmodN _ 2
  have dd : ∀ a b : Nat, k / a / b = k / (a * b) := fun a b => Nat.div_div_eq_div_mul ..
  unfold signsG figG abvG endsG sgs sg1 sg3
  rcases hp with e | e | e
  · rw [e]
    have h1 := fig 64
    have h2 := abv 2048
    have h3 := key (k / 64) (k / 2048) 115 83 120 (Str.ofString ".xSs") (by decide)
    rw [dd, dd] at h3
    rw [← h1, ← h2] at h3
    exact h3
  · rw [e]
    have h1 := fig 8
    have h2 := abv 1024
    have h3 := key (k / 8) (k / 1024) 115 83 120 (Str.ofString ".xSs") (by decide)
    rw [dd, dd] at h3
    rw [← h1, ← h2] at h3
    exact h3
  · rw [e]
    have h1 := fig 1
    have h2 := abv 512
    have h3 := key (k / 1) (k / 512) 116 84 120 (Str.ofString ".xTt") (by decide)
    rw [dd, dd] at h3
    rw [← h1, ← h2] at h3
    exact h3
end Mine
end
section
open PySem PySem.W PySem.Calls PyProof.Rows
set_option Elab.async false
set_option maxRecDepth 100000
set_option linter.unusedVariables false
namespace Mine

/- rows of a text: what stands in the row, its end -/
noncomputable def flatL (ls : List (List Nat × List Nat)) : List Nat := ls.flatMap fun q => q.1 ++ q.2
noncomputable def OkLn (q : List Nat × List Nat) : Prop := (∃ hd tl, q.1 = hd :: tl) ∧ (∀ x ∈ q.1, x ≠ 10 ∧ x ≠ 13) ∧ (q.2 = [10] ∨ q.2 = [13] ∨ q.2 = [13, 10])
noncomputable def dotc (c : List Nat) : List Nat := if c.head? = some 46 then 46 :: c else c
noncomputable def sendL (q : List Nat × List Nat) : List Nat × List Nat := (dotc q.1, [13, 10])
theorem crlf_free : ∀ (l r : List Nat), (∀ x ∈ l, x ≠ 10 ∧ x ≠ 13) → crlfP false (l ++ r) = l ++ crlfP false r
  | [], _, _ => rfl
  | c :: l, r, h => by
    have hc := h c (by simp)
    rw [List.cons_append, crlfP, if_neg hc.1, if_neg hc.2, crlf_free l r fun x hx => h x (by simp [hx])]
    rfl
theorem dot_free : ∀ (l r : List Nat), (∀ x ∈ l, x ≠ 10 ∧ x ≠ 13) → dotL false (l ++ r) = l ++ dotL false r
  | [], _, _ => rfl
  | c :: l, r, h => by
    have hc := h c (by simp)
    have e : (c == 10) = false := by simpa using hc.1
    rw [List.cons_append, dotL, if_neg (by simp), e, dot_free l r fun x hx => h x (by simp [hx])]
    rfl
theorem dot_end (r : List Nat) : dotL false (13 :: 10 :: r) = 13 :: 10 :: dotL true r := by
  rw [dotL, if_neg (by simp)]
  show 13 :: dotL false (10 :: r) = _
  rw [dotL, if_neg (by simp)]
  rfl
theorem quote_lines : ∀ (ls : List (List Nat × List Nat)), (∀ q ∈ ls, OkLn q) → ∀ cr, dotL true (crlfP cr (flatL ls)) = flatL (ls.map sendL)
  | [], _, cr => by simp [flatL, crlfP, dotL]
  | (c, e) :: ls, h, cr => by
    obtain ⟨⟨hd, tl, rfl⟩, h2, h3⟩ := h _ List.mem_cons_self
    have ih := quote_lines ls fun q hq => h q (by simp [hq])
    have hh := h2 hd (by simp)
    have ht : ∀ x ∈ tl, x ≠ 10 ∧ x ≠ 13 := fun x hx => h2 x (by simp [hx])
    have e0 : flatL ((hd :: tl, e) :: ls) = hd :: (tl ++ (e ++ flatL ls)) := by simp [flatL]
    have hcr : ∀ r, crlfP cr (hd :: r) = hd :: crlfP false r := fun r => by rw [crlfP, if_neg hh.1, if_neg hh.2]
    have hend : ∃ cr', crlfP false (e ++ flatL ls) = 13 :: 10 :: crlfP cr' (flatL ls) := by
      rcases h3 with rfl | rfl | rfl
      · exact ⟨false, by show crlfP false (10 :: flatL ls) = _; rw [crlfP, if_pos rfl, if_neg (by simp)]⟩
      · exact ⟨true, by show crlfP false (13 :: flatL ls) = _; rw [crlfP, if_neg (by decide), if_pos rfl]⟩
      · exact ⟨false, by show crlfP false (13 :: 10 :: flatL ls) = _; rw [crlfP, if_neg (by decide), if_pos rfl, crlfP, if_pos rfl, if_pos rfl]⟩
    obtain ⟨cr', hend⟩ := hend
    have e10 : (hd == 10) = false := by simpa using hh.1
    have hs : flatL (List.map sendL ((hd :: tl, e) :: ls)) = dotc (hd :: tl) ++ (13 :: 10 :: flatL (ls.map sendL)) := by simp [flatL, sendL]
    rw [e0, hcr, crlf_free _ _ ht, hend, hs]
    unfold dotc
    by_cases q : hd = 46
    · subst q
      rw [dotL, if_pos ⟨rfl, rfl⟩, dot_free _ _ ht, dot_end, ih]
      simp
    · rw [dotL, if_neg (by simp [q]), e10, dot_free _ _ ht, dot_end, ih, if_neg (by simpa using q)]
      rfl

/- a row of three signs at depth d, ends e -/
noncomputable def dotd (d c : Nat) : List Nat := if c = 46 then List.replicate (d + 1) 46 else [c]
noncomputable def lnD (d : Nat) (e : List Nat) (r : List Nat) : List (List Nat × List Nat) := [(List.replicate (d + 1) 46 ++ [r.getD 0 0], e), (dotd d (r.getD 1 0), e), (dotd d (r.getD 2 0), e)]
noncomputable def OkR (r : List Nat) : Prop := r.length = 3 ∧ ∀ c ∈ r, c ≠ 10 ∧ c ≠ 13
noncomputable def OkE (e : List Nat) : Prop := e = [10] ∨ e = [13] ∨ e = [13, 10]
theorem okR_at {r : List Nat} (h : OkR r) (i : Nat) (hi : i < 3) : r.getD i 0 ≠ 10 ∧ r.getD i 0 ≠ 13 := by
  have e : r[i]? = some (r.getD i 0) := by rw [List.getD_eq_getElem?_getD, List.getElem?_eq_getElem (by have := h.1; (first | lia | omega))]; rfl
  exact h.2 _ (List.mem_of_getElem? e)
theorem dotd_ok (d c : Nat) (h : c ≠ 10 ∧ c ≠ 13) : (∃ hd tl, dotd d c = hd :: tl) ∧ ∀ x ∈ dotd d c, x ≠ 10 ∧ x ≠ 13 := by
  unfold dotd
  split
  · exact ⟨⟨46, List.replicate d 46, rfl⟩, fun x hx => by rw [List.eq_of_mem_replicate hx]; decide⟩
  · exact ⟨⟨c, [], rfl⟩, fun x hx => by simp at hx; subst hx; exact h⟩
theorem lnD_ok {d : Nat} {e r : List Nat} (he : OkE e) (hr : OkR r) : ∀ q ∈ lnD d e r, OkLn q := by
  intro q hq
  simp only [lnD, List.mem_cons, List.not_mem_nil, or_false] at hq
  rcases hq with rfl | rfl | rfl
  · refine ⟨⟨46, List.replicate d 46 ++ [r.getD 0 0], rfl⟩, fun x hx => ?_, he⟩
    rcases List.mem_append.mp hx with h | h
    · rw [List.eq_of_mem_replicate h]; decide
    · simp at h; subst h
      have := okR_at hr 0 (by decide)
      simpa using this
  · have := dotd_ok d _ (okR_at hr 1 (by decide))
    exact ⟨this.1, this.2, he⟩
  · have := dotd_ok d _ (okR_at hr 2 (by decide))
    exact ⟨this.1, this.2, he⟩
theorem dotc_dotd (d c : Nat) : dotc (dotd d c) = dotd (d + 1) c := by
  unfold dotc dotd
  by_cases h : c = 46
  · rw [if_pos h, if_pos h]; rfl
  · rw [if_neg h, if_neg h, if_neg (by simpa using h)]
theorem send_lnD (d : Nat) (e r : List Nat) : (lnD d e r).map sendL = lnD (d + 1) [13, 10] r := by
  unfold lnD
  simp only [List.map_cons, List.map_nil, sendL, dotc_dotd]
  rfl
theorem lnD_len (d : Nat) (e r : List Nat) (he : OkE e) : (flatL (lnD d e r)).length ≤ 3 * (d + 4) := by
  have h1 : ∀ c, (dotd d c).length ≤ d + 1 := fun c => by unfold dotd; split <;> simp
  have h2 : e.length ≤ 2 := by rcases he with rfl | rfl | rfl <;> decide
  have a := h1 (r.getD 1 0)
  have b := h1 (r.getD 2 0)
  simp only [flatL, lnD, List.flatMap_cons, List.flatMap_nil, List.length_append, List.length_replicate, List.length_cons, List.length_nil]
  (first | lia | omega)

/- trees of pieces -/
inductive Tr where
  | leaf (i : Nat)
  | node (a b : Tr)
noncomputable def Tr.lv : Tr → List (Nat × Nat)
  | .leaf i => [(i, 0)]
  | .node a b => (a.lv ++ b.lv).map fun q => (q.1, q.2 + 1)
noncomputable def Tr.text (xs : List Str) : Tr → Str
  | .leaf i => xs.getD i ""
  | .node a b => quoteS (a.text xs ++ b.text xs)
noncomputable def endAtD (es : List (List Nat)) (q : Nat × Nat) : List Nat := if q.2 = 0 then es.getD q.1 [10] else [13, 10]
noncomputable def Tr.lines (es rs : List (List Nat)) (t : Tr) : List (List Nat × List Nat) := t.lv.flatMap fun q => lnD q.2 (endAtD es q) (rs.getD q.1 [46, 46, 46])
structure Pcs (xs : List Str) (es rs : List (List Nat)) : Prop where
  le : es.length = xs.length
  lr : rs.length = xs.length
  e : ∀ e ∈ es, OkE e
  r : ∀ r ∈ rs, OkR r
  x : ∀ i, i < xs.length → cl (xs.getD i "") = flatL (lnD 0 (es.getD i [10]) (rs.getD i [46, 46, 46]))
theorem getD_mem' {α : Type} {l : List α} {i : Nat} {d : α} (h : i < l.length) : l.getD i d ∈ l := by
  rw [List.getD_eq_getElem?_getD, List.getElem?_eq_getElem h]
  exact List.getElem_mem h
section
variable {xs : List Str} {es rs : List (List Nat)}
theorem Pcs.okE (P : Pcs xs es rs) (q : Nat × Nat) : OkE (endAtD es q) := by
  unfold endAtD
  split
  · by_cases h : q.1 < es.length
    · exact P.e _ (getD_mem' h)
    · rw [List.getD_eq_getElem?_getD, List.getElem?_eq_none (by (first | lia | omega))]; exact .inl rfl
  · exact .inr (.inr rfl)
theorem Pcs.okR (P : Pcs xs es rs) (i : Nat) : OkR (rs.getD i [46, 46, 46]) := by
  by_cases h : i < rs.length
  · exact P.r _ (getD_mem' h)
  · rw [List.getD_eq_getElem?_getD, List.getElem?_eq_none (by (first | lia | omega))]; exact ⟨rfl, by decide⟩
theorem Pcs.lines_ok (P : Pcs xs es rs) (t : Tr) : ∀ q ∈ t.lines es rs, OkLn q := by
  intro q hq
  obtain ⟨u, _, hu⟩ := List.mem_flatMap.mp hq
  exact lnD_ok (P.okE u) (P.okR u.1) q hu
theorem flatL_append (a b : List (List Nat × List Nat)) : flatL (a ++ b) = flatL a ++ flatL b := by simp [flatL]
theorem send_lines (es rs : List (List Nat)) (l : List (Nat × Nat)) : (l.flatMap fun q => lnD q.2 (endAtD es q) (rs.getD q.1 [46, 46, 46])).map sendL = (l.map fun q => (q.1, q.2 + 1)).flatMap fun q => lnD q.2 (endAtD es q) (rs.getD q.1 [46, 46, 46]) := by
  induction l with
  | nil => rfl
  | cons q l ih =>
    rw [List.flatMap_cons, List.map_append, ih, send_lnD, List.map_cons, List.flatMap_cons]
    rfl
theorem text_cl (P : Pcs xs es rs) : ∀ (t : Tr), (∀ q ∈ t.lv, q.1 < xs.length) → cl (t.text xs) = flatL (t.lines es rs)
  | .leaf i, h => by
    have hi := h (i, 0) (by simp [Tr.lv])
    show cl (xs.getD i "") = _
    rw [P.x i hi]
    simp [Tr.lines, Tr.lv, endAtD]
  | .node a b, h => by
    have ha := text_cl P a fun q hq => h (q.1, q.2 + 1) (by
      simp only [Tr.lv, List.mem_map, List.mem_append]
      exact ⟨q, .inl hq, rfl⟩)
    have hb := text_cl P b fun q hq => h (q.1, q.2 + 1) (by
      simp only [Tr.lv, List.mem_map, List.mem_append]
      exact ⟨q, .inr hq, rfl⟩)
    have e : cl (Tr.text xs (.node a b)) = dotL true (crlfP false (cl (a.text xs ++ b.text xs))) := by
      show (quoteL _).toArray.toList = _
      simp [quoteL]
    rw [e, cl_append, ha, hb, ← flatL_append, quote_lines _ (fun q hq => ?_)]
    · congr 1
      show _ = ((a.lv ++ b.lv).map fun q => (q.1, q.2 + 1)).flatMap _
      rw [← send_lines]
      congr 1
      simp [Tr.lines]
    · rcases List.mem_append.mp hq with h | h
      · exact P.lines_ok a q h
      · exact P.lines_ok b q h
theorem text_len (P : Pcs xs es rs) (t : Tr) (h : ∀ q ∈ t.lv, q.1 < xs.length ∧ q.2 ≤ 10) (hl : t.lv.length ≤ 10) : (t.text xs).length ≤ 420 := by
  have e : (t.text xs).length = (cl (t.text xs)).length := by simp [Str.length]
  rw [e, text_cl P t fun q hq => (h q hq).1]
  have gen : ∀ (l : List (Nat × Nat)), (∀ q ∈ l, q.2 ≤ 10) → (flatL (l.flatMap fun q => lnD q.2 (endAtD es q) (rs.getD q.1 [46, 46, 46]))).length ≤ l.length * 42 := by
    intro l
    induction l with
    | nil => intro _; simp [flatL]
    | cons q l ih =>
      intro hq
      have h1 := ih fun u hu => hq u (by simp [hu])
      have h2 := lnD_len q.2 (endAtD es q) (rs.getD q.1 [46, 46, 46]) (P.okE q)
      have h3 := hq q (by simp)
      rw [List.flatMap_cons, flatL_append, List.length_append, List.length_cons]
      (first | lia | omega)
  have := gen t.lv fun q hq => (h q hq).2
  unfold Tr.lines
  (first | lia | omega)
end
end Mine
end
section
open PySem PySem.W PySem.Calls PyProof.Rows
set_option Elab.async false
set_option maxRecDepth 100000
set_option linter.unusedVariables false
namespace Mine

theorem str_ext {x y : Str} (h : cl x = cl y) : x = y := by
  obtain ⟨⟨a⟩⟩ := x; obtain ⟨⟨b⟩⟩ := y
  have h : a = b := h
  rw [h]
/- what the law tells -/
noncomputable def chs (r : List Nat) : List Str := r.map fun c => ⟨#[c]⟩
theorem dots_cl (d : Int) : cl (dotsF d) = List.replicate (d + 1).toNat 46 := by
  show (List.replicate (d + 1).toNat 46).toArray.toList = _
  simp
theorem sign_cl (d : Nat) (acc : Str) (c : Nat) : cl (signStep (d : Int) acc ⟨#[c]⟩) = cl acc ++ (dotd d c ++ [13, 10]) := by
  unfold signStep
  rw [cl_append, cl_append]
  have e1 : cl (Str.ofString "\r\n") = [13, 10] := by decide
  have e2 : (Str.ofString ".").cps.toList = [46] := by decide
  rw [e1, e2]
  congr 2
  unfold dotd
  by_cases h : c = 46
  · subst h
    rw [if_pos (by decide), if_pos rfl, dots_cl]
    rfl
  · have : ((#[c] : Array Nat).toList == [46]) = false := by simpa using h
    rw [this, if_neg h]
    rfl
theorem row_cl (d : Nat) (acc : Str) (r : List Nat) (hr : r.length = 3) : cl (rowStep acc (chs r, (d : Int))) = cl acc ++ flatL (lnD d [13, 10] r) := by
  obtain ⟨a, b, c, rfl⟩ : ∃ a b c, r = [a, b, c] := by
    match r, hr with
    | [a, b, c], _ => exact ⟨a, b, c, rfl⟩
  show cl (signStep _ (signStep _ _ ⟨#[b]⟩) ⟨#[c]⟩) = _
  have e1 : cl (Str.ofString "\r\n") = [13, 10] := by decide
  rw [sign_cl, sign_cl, cl_append, cl_append, cl_append, dots_cl, e1]
  have e2 : ((d : Int) + 1).toNat = d + 1 := by (first | lia | omega)
  rw [e2]
  show _ ++ (List.replicate (d + 1) 46 ++ [a] ++ [13, 10]) ++ _ ++ _ = _
  simp [flatL, lnD]
theorem told_cl (rs : List (List Nat)) (ds : List Nat) (hr : ∀ r ∈ rs, r.length = 3) : cl (toldG (rs.map chs) (ds.map fun (d : Nat) => (d : Int))) = flatL ((rs.zip ds).flatMap fun q => lnD q.2 [13, 10] q.1) := by
  have gen : ∀ (rs : List (List Nat)) (ds : List Nat) (acc : Str), (∀ r ∈ rs, r.length = 3) → cl (((rs.map chs).zip (ds.map fun (d : Nat) => (d : Int))).foldl rowStep acc) = cl acc ++ flatL ((rs.zip ds).flatMap fun q => lnD q.2 [13, 10] q.1) := by
    intro rs
    induction rs with
    | nil => intro ds acc _; simp [flatL]
    | cons r rs ih =>
      intro ds acc h
      cases ds with
      | nil => simp [flatL]
      | cons d ds =>
        rw [List.map_cons, List.map_cons, List.zip_cons_cons, List.foldl_cons, ih ds _ fun x hx => h x (by simp [hx]), row_cl d acc r (h r (by simp)), List.zip_cons_cons, List.flatMap_cons, flatL_append, List.append_assoc]
  have := gen rs ds "" hr
  exact this

/- trees in piles -/
noncomputable def lastTwoT (g : List Tr) : List Tr := g.take (g.length - 2) ++ [.node (g.getD (g.length - 2) (.leaf 0)) (g.getD (g.length - 1) (.leaf 0))]
noncomputable def restT : Nat → List Tr → List (List Tr)
  | 0, _ => []
  | k + 1, g => lastTwoT g :: restT k (lastTwoT g)
noncomputable def growT (p : Tr) (pile : List Tr) : List (List Tr) := (pile ++ [p]) :: restT pile.length (pile ++ [p])
noncomputable def pilesT : Nat → List (List Tr)
  | 0 => [[]]
  | i + 1 => (pilesT i).flatMap (growT (.leaf i))
theorem map_getD {α β : Type} (f : α → β) (l : List α) (i : Nat) (a : α) (b : β) (h : i < l.length) : (l.map f).getD i b = f (l.getD i a) := by
  rw [List.getD_eq_getElem?_getD, List.getD_eq_getElem?_getD, List.getElem?_map, List.getElem?_eq_getElem h]; rfl
section
variable (xs : List Str)
theorem lastTwo_map (g : List Tr) (h : 2 ≤ g.length) : lastTwo (g.map (Tr.text xs)) = (lastTwoT g).map (Tr.text xs) := by
  unfold lastTwo lastTwoT
  rw [List.map_append, List.map_take, List.length_map, map_getD (Tr.text xs) g _ (.leaf 0) "" (by (first | lia | omega)), map_getD (Tr.text xs) g _ (.leaf 0) "" (by (first | lia | omega))]
  rfl
theorem lastTwoT_len (g : List Tr) (h : 2 ≤ g.length) : (lastTwoT g).length = g.length - 1 := by simp [lastTwoT]; (first | lia | omega)
theorem rest_map : ∀ (k : Nat) (g : List Tr), g.length = k + 1 → restF k (g.map (Tr.text xs)) = (restT k g).map (List.map (Tr.text xs))
  | 0, _, _ => rfl
  | k + 1, g, h => by
    show lastTwo (g.map (Tr.text xs)) :: restF k (lastTwo (g.map (Tr.text xs))) = _
    rw [lastTwo_map xs g (by (first | lia | omega)), rest_map k (lastTwoT g) (by rw [lastTwoT_len g (by (first | lia | omega))]; (first | lia | omega))]
    rfl
theorem grow_map (i : Nat) (pile : List Tr) : grow (xs.getD i "") (pile.map (Tr.text xs)) = (growT (.leaf i) pile).map (List.map (Tr.text xs)) := by
  unfold grow growT
  have e : pile.map (Tr.text xs) ++ [xs.getD i ""] = (pile ++ [Tr.leaf i]).map (Tr.text xs) := by rw [List.map_append]; rfl
  rw [e, List.length_map, rest_map xs _ _ (by simp)]
  rfl
theorem piles_map : ∀ i, pilesF xs i = (pilesT i).map (List.map (Tr.text xs))
  | 0 => rfl
  | i + 1 => by
    show (pilesF xs i).flatMap (grow (xs.getD i "")) = _
    rw [piles_map i, List.flatMap_map]
    show _ = ((pilesT i).flatMap (growT (.leaf i))).map _
    rw [List.map_flatMap]
    congr 1
    funext pile
    exact grow_map xs i pile
end
theorem flatMap_eq {α β : Type} {f g : α → List β} : ∀ {l : List α}, (∀ a ∈ l, f a = g a) → l.flatMap f = l.flatMap g
  | [], _ => rfl
  | a :: l, h => by rw [List.flatMap_cons, List.flatMap_cons, h a (by simp), flatMap_eq fun x hx => h x (by simp [hx])]
noncomputable def sentT : List Tr := ((pilesT 5).filter fun r => decide (r.length = 1)).map fun r => r.getD 0 (.leaf 0)
noncomputable def dsT (t : Tr) : List Nat := t.lv.map (·.2)
theorem pilesT_ok : ∀ i, i ≤ 5 → (pilesT i).length ≤ 100 ∧ ∀ r ∈ pilesT i, r.length ≤ 10 ∧ ∀ t ∈ r, (∀ q ∈ t.lv, q.1 < i ∧ q.2 ≤ 10) ∧ t.lv.length ≤ 10 := by
  have key : (List.range 6).all (fun i => decide ((pilesT i).length ≤ 100) && (pilesT i).all fun r => decide (r.length ≤ 10) && r.all fun t => (t.lv.all fun q => decide (q.1 < i) && decide (q.2 ≤ 10)) && decide (t.lv.length ≤ 10)) = true := by decide +kernel
  intro i hi
  have := List.all_eq_true.mp key i (by simp; (first | lia | omega))
  simp only [Bool.and_eq_true, decide_eq_true_eq, List.all_eq_true] at this
  exact this
theorem sentT_ok : sentT.length = 14 ∧ ∀ t ∈ sentT, t.lv.map (·.1) = [0, 1, 2, 3, 4] ∧ ∀ q ∈ t.lv, 1 ≤ q.2 := by
  have key : (decide (sentT.length = 14) && sentT.all fun t => decide (t.lv.map (·.1) = [0, 1, 2, 3, 4]) && t.lv.all fun q => decide (1 ≤ q.2)) = true := by decide +kernel
  simp only [Bool.and_eq_true, decide_eq_true_eq, List.all_eq_true] at key
  exact key
theorem sentT_perm : ((sentT.map dsT).map fun ds => ds.map fun (d : Nat) => (d : Int)).Perm (depF 5 5) := by
  have key : (((sentT.map dsT).map fun ds => ds.map fun (d : Nat) => (d : Int)).isPerm (depF 5 5)) = true := by decide +kernel
  exact List.isPerm_iff.mp key
theorem sent_map (xs : List Str) (h5 : xs.length = 5) : sentF xs = sentT.map (Tr.text xs) := by
  unfold sentF sentT
  rw [h5, piles_map, List.filter_map, List.map_map, List.map_map]
  have hlen : ∀ r ∈ (pilesT 5).filter (fun r => decide (r.length = 1)), r.length = 1 := fun r hr => by simpa using (List.mem_filter.mp hr).2
  have e : ((fun r : List Str => decide (r.length = 1)) ∘ List.map (Tr.text xs)) = fun r : List Tr => decide (r.length = 1) := by funext r; simp
  rw [e]
  refine List.map_congr_left fun r hr => ?_
  have := hlen r hr
  exact map_getD (Tr.text xs) r 0 (.leaf 0) "" (by (first | lia | omega))
theorem text_told {xs : List Str} {es rs : List (List Nat)} (P : Pcs xs es rs) (h5 : xs.length = 5) (t : Tr) (ht : t ∈ sentT) : t.text xs = toldG (rs.map chs) ((dsT t).map fun (d : Nat) => (d : Int)) := by
  obtain ⟨h1, h2⟩ := sentT_ok.2 t ht
  refine str_ext ?_
  have hlt : ∀ q ∈ t.lv, q.1 < xs.length := fun q hq => by
    have : q.1 ∈ t.lv.map (·.1) := List.mem_map_of_mem hq
    rw [h1] at this
    simp at this
    (first | lia | omega)
  rw [text_cl P t hlt, told_cl rs _ fun r hr => (P.r r hr).1]
  congr 1
  unfold Tr.lines
  have hrs : rs.length = 5 := by rw [P.lr, h5]
  have hz : rs.zip (dsT t) = t.lv.map fun q => (rs.getD q.1 [46, 46, 46], q.2) := by
    have e1 : rs = (t.lv.map (·.1)).map fun i => rs.getD i [46, 46, 46] := by
      rw [h1]
      match rs, hrs with
      | [a, b, c, d, e], _ => rfl
    have e2 : rs.zip (dsT t) = ((t.lv.map (·.1)).map fun i => rs.getD i [46, 46, 46]).zip (t.lv.map (·.2)) := by rw [← e1]; rfl
    rw [e2, List.map_map, List.zip_map', ]
    rfl
  rw [hz, List.flatMap_map]
  refine flatMap_eq fun q hq => ?_
  have := h2 q hq
  show lnD q.2 (endAtD es q) _ = _
  unfold endAtD
  rw [if_neg (by (first | lia | omega))]

/- the sorted list -/
theorem sortL_perm (xs : List Str) (h2 : 2 ≤ xs.length) : (sortL xs).Perm xs := by
  have h := (go_isP (iOrd xs) h2).1
  unfold sortL
  have hp : (goT (iLt xs) (kas_sort xs.length)).toList.Perm (List.range xs.length) := by
    have := Array.Perm.toList h
    simpa using this
  have h3 := hp.map fun i => xs.getD i ""
  have e : (List.range xs.length).map (fun i => xs.getD i "") = xs := by
    apply List.ext_getElem?
    intro i
    rw [List.getElem?_map]
    rcases Nat.lt_or_ge i xs.length with hi | hi
    · rw [List.getElem?_range hi]; simp [List.getD_eq_getElem?_getD, hi]
    · rw [List.getElem?_eq_none (by simpa using hi), List.getElem?_eq_none hi]; rfl
  rw [e] at h3
  exact h3
theorem sortL_up (xs : List Str) (h2 : 2 ≤ xs.length) : (sortL xs).Pairwise fun a b => kLt b a = false := by
  have h := go_isP (iOrd xs) h2
  have hs := h.1.size
  have hdef : sortL xs = (goT (iLt xs) (kas_sort xs.length)).toList.map fun i => xs.getD i "" := rfl
  rw [hdef, List.pairwise_map, List.pairwise_iff_getElem]
  intro i j hi hj hij
  simp only [Array.length_toList] at hi hj
  have := h.2 i j hij (by (first | lia | omega))
  have ai : ∀ k (hk : k < (goT (iLt xs) (kas_sort xs.length)).size), at_ (goT (iLt xs) (kas_sort xs.length)) k = (goT (iLt xs) (kas_sort xs.length)).toList[k]'(by simpa using hk) := by
    intro k hk
    unfold at_
    simp [hk]
  rw [ai i hi, ai j hj] at this
  exact this
theorem sortL_perm_eq {a b : List Str} (h : a.Perm b) (h2 : 2 ≤ a.length) : sortL a = sortL b := by
  have h2' : 2 ≤ b.length := by rw [← h.length_eq]; exact h2
  exact List.Perm.eq_of_pairwise (le := fun a b => kLt b a = false) (fun a b _ _ h1 h2 => kLt_total h2 h1) (sortL_up a h2) (sortL_up b h2') ((sortL_perm a h2).trans (h.trans (sortL_perm b h2').symm))
end Mine
end
section
open PySem PySem.W PySem.Calls PyProof.Rows
set_option Elab.async false
set_option maxRecDepth 100000
set_option linter.unusedVariables false
namespace Mine

noncomputable def moF (n : Int) : Int := (n.fdiv 9 * 73).fmod 65536
noncomputable def rsOf (n : Int) : List Nat := sgs (n.fmod 3).toNat (moF n).toNat
theorem moF_ok (n : Int) : 0 ≤ moF n ∧ moF n < 65536 := ⟨Int.fmod_nonneg_of_pos _ (by decide), Int.fmod_lt_of_pos _ (by decide)⟩
theorem zip_eq (ns : List Int) : (numsF ns).zip (modesF ns) = (numsF ns).map fun n => (n, moF n) := by
  unfold modesF
  rw [← List.map_prod_left_eq_zip]
  rfl
theorem moN (n : Int) : moF n = (((moF n).toNat : Nat) : Int) ∧ (moF n).toNat < 65536 := by have := moF_ok n; (first | lia | omega)
theorem pieces_eq (ns : List Int) : piecesF tabT ns = (numsF ns).map fun n => pieceF n (fmF tabT (moF n)) := by
  unfold piecesF; rw [zip_eq, List.map_map]; rfl
theorem rows_eq (ns : List Int) : rowsF ns = ((numsF ns).map rsOf).map chs := by
  unfold rowsF; rw [zip_eq, List.map_map, List.map_map]
  refine List.map_congr_left fun n _ => ?_
  have h := moN n
  show signsG n (moF n) = chs (rsOf n)
  rw [h.1, signsG_eq]
  rfl
theorem signs_rs (n : Int) : cl (signsF n (fmF tabT (moF n))) = rsOf n := by
  have h := moN n
  conv => lhs; rw [h.1]
  exact signs_cl n _ h.2
theorem fm_small (n : Int) : (fmF tabT (moF n)).length ≤ 100 := by
  have h := moN n
  rw [h.1]
  have e : (fmF tabT (((moF n).toNat : Nat) : Int)).length = (cl (fmF tabT (((moF n).toNat : Nat) : Int))).length := by simp [Str.length]
  rw [e, fm_cl _ h.2]
  show (10 : Nat) ≤ 100
  decide
theorem endF_ok (n : Int) : OkE (cl (endF n)) := by
  have f1 := Int.fmod_nonneg_of_pos (a := n.fdiv 3) (b := 3) (by decide)
  have f2 := Int.fmod_lt_of_pos (n.fdiv 3) (b := 3) (by decide)
  have h1 : ((n.fdiv 3).fmod 3).toNat = 0 ∨ ((n.fdiv 3).fmod 3).toNat = 1 ∨ ((n.fdiv 3).fmod 3).toNat = 2 := by (first | lia | omega)
  unfold endF
  rcases h1 with e | e | e <;> rw [e]
  · exact .inl (by decide)
  · exact .inr (.inl (by decide))
  · exact .inr (.inr (by decide))
theorem rs_ok (n : Int) : OkR (rsOf n) := sgs_ok _ _
theorem piece_cl (n : Int) : cl (pieceF n (fmF tabT (moF n))) = flatL (lnD 0 (cl (endF n)) (rsOf n)) := by
  have hs := signs_rs n
  have hr := (rs_ok n).1
  generalize rsOf n = r at *
  obtain ⟨a, b, c, rfl⟩ : ∃ a b c, r = [a, b, c] := by
    match r, hr with
    | [a, b, c], _ => exact ⟨a, b, c, rfl⟩
  have g : ∀ i, (signsF n (fmF tabT (moF n))).cps.getD i 0 = [a, b, c].getD i 0 := fun i => by
    have : (signsF n (fmF tabT (moF n))).cps.toList = [a, b, c] := hs
    rw [← this]
    simp [List.getD_eq_getElem?_getD, Array.getD_eq_getD_getElem?]
  unfold pieceF
  rw [join3, g, g, g]
  simp only [cl_append]
  have e1 : cl (Str.ofString ".") = [46] := by decide
  rw [e1]
  have d0 : ∀ x : Nat, dotd 0 x = [x] := fun x => by
    unfold dotd; split
    · rename_i h; subst h; rfl
    · rfl
  simp only [flatL, lnD, List.flatMap_cons, List.flatMap_nil, d0]
  show [46] ++ ((((([a] : List Nat) ++ cl (endF n)) ++ [b]) ++ cl (endF n)) ++ [c]) ++ cl (endF n) = _
  simp
theorem pcs (ns : List Int) : Pcs (piecesF tabT ns) ((numsF ns).map fun n => cl (endF n)) ((numsF ns).map rsOf) := by
  rw [pieces_eq]
  refine ⟨by simp, by simp, fun e he => ?_, fun r hr => ?_, fun i hi => ?_⟩
  · obtain ⟨n, _, rfl⟩ := List.mem_map.mp he
    exact endF_ok n
  · obtain ⟨n, _, rfl⟩ := List.mem_map.mp hr
    exact rs_ok n
  · have hi : i < (numsF ns).length := by simpa using hi
    rw [map_getD _ _ _ 0 _ hi, map_getD _ _ _ 0 _ hi, map_getD _ _ _ 0 _ hi]
    exact piece_cl _

/- lengths -/
noncomputable def wN (r : List Nat) : Nat := 1 + (r.drop 1).countP (· == 46)
theorem dotd_len (d c : Nat) : (dotd d c).length = 1 + d * (if c == 46 then 1 else 0) := by
  unfold dotd
  by_cases h : c = 46
  · subst h; simp; (first | lia | omega)
  · rw [if_neg h]; simp [h]
theorem lnD_lenE (d : Nat) (r : List Nat) (hr : r.length = 3) : (flatL (lnD d [13, 10] r)).length = 10 + d * wN r := by
  obtain ⟨a, b, c, rfl⟩ : ∃ a b c, r = [a, b, c] := by
    match r, hr with
    | [a, b, c], _ => exact ⟨a, b, c, rfl⟩
  simp only [flatL, lnD, List.flatMap_cons, List.flatMap_nil, List.length_append, List.length_replicate, List.length_cons, List.length_nil]
  have e1 := dotd_len d b
  have e2 := dotd_len d c
  have g1 : [a, b, c].getD 1 0 = b := rfl
  have g2 : [a, b, c].getD 2 0 = c := rfl
  rw [g1, g2, e1, e2]
  have ew : wN [a, b, c] = 1 + (if b == 46 then 1 else 0) + (if c == 46 then 1 else 0) := by
    show 1 + List.countP _ [b, c] = _
    rw [List.countP_cons, List.countP_cons, List.countP_nil]
    (first | lia | omega)
  rw [ew]
  by_cases h1 : b = 46 <;> by_cases h2 : c = 46 <;> simp [h1, h2] <;> (first | lia | omega)
theorem dotQ_one (c : Nat) : dotQ ⟨#[c]⟩ = (c == 46) := by
  unfold dotQ
  have e : Str.ofString "." = ⟨#[46]⟩ := by decide
  rw [e]
  by_cases h : c = 46
  · subst h; decide
  · have : ((⟨#[c]⟩ : Str) == ⟨#[46]⟩) = false := by
      simp only [beq_eq_false_iff_ne, ne_eq]
      intro q
      have := congrArg cl q
      simp at this
      exact h this
    rw [this]; simp [h]
theorem weight_eq (r : List Nat) : weightF (chs r) = (wN r : Int) := by
  unfold weightF wN chs
  rw [← List.map_drop, List.countP_map]
  have : (dotQ ∘ fun c => (⟨#[c]⟩ : Str)) = fun c : Nat => c == 46 := by funext c; exact dotQ_one c
  rw [this]
  simp
theorem wN_ok (r : List Nat) (hr : r.length = 3) : wN r = 1 ∨ wN r = 2 ∨ wN r = 3 := by
  have h := List.countP_le_length (p := fun c : Nat => c == 46) (l := r.drop 1)
  rw [List.length_drop, hr] at h
  unfold wN
  (first | lia | omega)
noncomputable def lenW (W ds : List Nat) : Nat := ((W.zip ds).map fun q => 10 + q.2 * q.1).sum
theorem told_lenE (rs : List (List Nat)) (ds : List Nat) (hr : ∀ r ∈ rs, r.length = 3) : (toldG (rs.map chs) (ds.map fun (d : Nat) => (d : Int))).length = lenW (rs.map wN) ds := by
  have e : ∀ x : Str, x.length = (cl x).length := fun x => by simp [Str.length]
  rw [e, told_cl rs ds hr]
  unfold lenW
  induction rs generalizing ds with
  | nil => simp [flatL]
  | cons r rs ih =>
    cases ds with
    | nil => simp [flatL]
    | cons d ds =>
      rw [List.zip_cons_cons, List.flatMap_cons, flatL_append, List.length_append, lnD_lenE d r (hr r (by simp)), ih ds fun x hx => hr x (by simp [hx])]
      simp
end Mine
end
section
open PySem PySem.W PySem.Calls PyProof.Rows
set_option Elab.async false
set_option maxRecDepth 100000
set_option linter.unusedVariables false
namespace Mine

noncomputable def dsL : List (List Nat) := [[1, 2, 3, 4, 4], [1, 2, 4, 4, 3], [1, 3, 4, 4, 2], [2, 3, 4, 4, 1], [1, 3, 3, 3, 3], [1, 4, 4, 3, 2], [2, 4, 4, 3, 1], [2, 3, 3, 2, 2], [3, 4, 4, 2, 1], [2, 2, 2, 3, 3], [2, 2, 3, 3, 2], [3, 3, 3, 3, 1], [3, 3, 2, 2, 2], [4, 4, 3, 2, 1]]
theorem dsL_eq : sentT.map dsT = dsL := by decide +kernel
noncomputable def allW : List (List Nat) := [1, 2, 3].flatMap fun a => [1, 2, 3].flatMap fun b => [1, 2, 3].flatMap fun c => [1, 2, 3].flatMap fun d => [1, 2, 3].map fun e => [a, b, c, d, e]
noncomputable def intsW (W : List Nat) : List Int := W.map fun (x : Nat) => (x : Int)
noncomputable def okW (W : List Nat) : Bool :=
  decide ((((dsL.map (lenW W)).sum : Nat) : Int) = 700 + (prodsF (intsW W)).sum) && leastOk 10 (rowOf (intsW W)) &&
  dsL.any (fun ds => decide ((lenW W ds : Int) = 50 + leastN 10 (rowOf (intsW W)) 0)) && dsL.all (fun ds => decide (50 + leastN 10 (rowOf (intsW W)) 0 ≤ (lenW W ds : Int)))
theorem okW_all : allW.all okW = true := by decide +kernel
theorem mem_allW {W : List Nat} (hl : W.length = 5) (h : ∀ x ∈ W, x = 1 ∨ x = 2 ∨ x = 3) : W ∈ allW := by
  obtain ⟨a, b, c, d, e, rfl⟩ : ∃ a b c d e, W = [a, b, c, d, e] := by
    match W, hl with
    | [a, b, c, d, e], _ => exact ⟨a, b, c, d, e, rfl⟩
  have m : ∀ x : Nat, x = 1 ∨ x = 2 ∨ x = 3 → x ∈ [1, 2, 3] := fun x hx => by simpa using hx
  simp only [allW, List.mem_flatMap, List.mem_map]
  exact ⟨a, m a (h a (by simp)), b, m b (h b (by simp)), c, m c (h c (by simp)), d, m d (h d (by simp)), e, m e (h e (by simp)), rfl⟩

structure Plain (ns : List Int) : Prop where
  l5 : (piecesF tabT ns).length = 5
  s1 : ∀ i, i ≤ 5 → (pilesF (piecesF tabT ns) i).length ≤ 100
  s2 : ∀ i, i ≤ 5 → ∀ r ∈ pilesF (piecesF tabT ns) i, r.length ≤ 10
  s4 : ∀ i, i ≤ 5 → ∀ r ∈ pilesF (piecesF tabT ns) i, ∀ x ∈ r, x.length ≤ 1000
  n14 : (sentF (piecesF tabT ns)).length = 14
  sz : ∀ x ∈ sentF (piecesF tabT ns), x.length ≤ 1000
  r5 : (rowsF ns).length = 5
  rr : ∀ r ∈ rowsF ns, r.length = 3 ∧ ∀ x ∈ r, x.length ≤ 2
  perm : (sentF (piecesF tabT ns)).Perm (toldL (rowsF ns))
  e1 : ((sortL (sentF (piecesF tabT ns))).map fun x => (x.length : Int)).sum = 700 + (prodsF (weightsF (rowsF ns))).sum
  e2 : (((sortL (sentF (piecesF tabT ns))).getD 0 "").length : Int) = 50 + leastN 10 (rowOf (weightsF (rowsF ns))) 0
  ok : leastOk 10 (rowOf (weightsF (rowsF ns))) = true
theorem sum_cast : ∀ l : List Nat, ((l.sum : Nat) : Int) = (l.map fun (x : Nat) => (x : Int)).sum
  | [] => rfl
  | a :: l => by rw [List.sum_cons, List.map_cons, List.sum_cons, ← sum_cast l]; (first | lia | omega)
theorem sum_perm {a b : List Int} (h : a.Perm b) : a.sum = b.sum := by
  induction h with
  | nil => rfl
  | cons x _ ih => simp [ih]
  | swap x y l => simp only [List.sum_cons]; (first | lia | omega)
  | trans _ _ ih1 ih2 => rw [ih1, ih2]
theorem plain02 (ns : List Int) : Plain ns := by
  have P := pcs ns
  have h5 : (numsF ns).length = 5 := numsF_len ns
  have l5 : (piecesF tabT ns).length = 5 := by rw [pieces_eq]; simp [h5]
  have hre := rows_eq ns
  have hrs3 : ∀ r ∈ (numsF ns).map rsOf, r.length = 3 := fun r hr => (P.r r hr).1
  generalize hX : piecesF tabT ns = xs at *
  generalize hRS : (numsF ns).map rsOf = rs at *
  have hrl : rs.length = 5 := by rw [← hRS]; simp [h5]
  have hsent : sentF xs = dsL.map fun ds => toldG (rs.map chs) (ds.map fun (d : Nat) => (d : Int)) := by
    rw [sent_map xs l5, ← dsL_eq, List.map_map]
    exact List.map_congr_left fun t ht => text_told P l5 t ht
  have hlen : (sentF xs).map Str.length = dsL.map (lenW (rs.map wN)) := by
    rw [hsent, List.map_map]
    exact List.map_congr_left fun ds _ => told_lenE rs ds hrs3
  have hW : weightsF (rowsF ns) = intsW (rs.map wN) := by
    rw [hre]
    unfold weightsF intsW
    rw [List.map_map, List.map_map]
    exact List.map_congr_left fun r _ => weight_eq r
  have hok : okW (rs.map wN) = true := by
    refine List.all_eq_true.mp okW_all _ (mem_allW (by simp [hrl]) fun x hx => ?_)
    (first | (refine Mine.e1_2 (List.mem_map.mp hx) ?_; rintro r hr rfl) | (obtain ⟨r, hr, rfl⟩ := List.mem_map.mp hx))
    exact wN_ok r (hrs3 r hr)
  simp only [okW, Bool.and_eq_true, decide_eq_true_eq, List.any_eq_true, List.all_eq_true] at hok
  obtain ⟨⟨⟨k1, k2⟩, ds0, kd, k3⟩, k4⟩ := hok
  have n14 : (sentF xs).length = 14 := by rw [hsent, List.length_map]; rfl
  have hperm : (sentF xs).Perm (toldL (rowsF ns)) := by
    rw [hsent, hre]
    unfold toldL
    have := sentT_perm.map fun ds => toldG (rs.map chs) ds
    rw [dsL_eq, List.map_map] at this
    exact this
  have hsp := sortL_perm (sentF xs) (by (first | lia | omega))
  have htl : ∀ i, i ≤ 5 → ∀ r ∈ pilesF xs i, ∀ x ∈ r, x.length ≤ 1000 := by
    intro i hi r hr x hx
    rw [piles_map] at hr
    (first | (refine Mine.e1_2 (List.mem_map.mp hr) ?_; rintro g hg rfl) | (obtain ⟨g, hg, rfl⟩ := List.mem_map.mp hr))
    (first | (refine Mine.e1_2 (List.mem_map.mp hx) ?_; rintro t ht rfl) | (obtain ⟨t, ht, rfl⟩ := List.mem_map.mp hx))
    obtain ⟨h1, h2⟩ := ((pilesT_ok i hi).2 g hg).2 t ht
    have := text_len P t (fun q hq => ⟨by have := (h1 q hq).1; (first | lia | omega), (h1 q hq).2⟩) h2
    (first | lia | omega)
  have mlen : ∀ x ∈ sentF xs, ∃ ds ∈ dsL, x.length = lenW (rs.map wN) ds := by
    intro x hx
    have : x.length ∈ (sentF xs).map Str.length := List.mem_map_of_mem hx
    rw [hlen] at this
    (first | (refine Mine.e1_2 (List.mem_map.mp this) ?_; rintro ds h1 h2) | (obtain ⟨ds, h1, h2⟩ := List.mem_map.mp this))
    exact ⟨ds, h1, h2.symm⟩
  refine ⟨by rw [hX]; exact l5, fun i hi => ?_, fun i hi r hr => ?_, by rw [hX]; exact htl, by rw [hX]; exact n14, fun x hx => ?_, by rw [hre]; simp [hrl], fun r hr => ?_, by rw [hX]; exact hperm, ?_, ?_, by rw [hW]; exact k2⟩
  · rw [hX, piles_map, List.length_map]; exact (pilesT_ok i hi).1
  · rw [hX, piles_map] at hr
    (first | (refine Mine.e1_2 (List.mem_map.mp hr) ?_; rintro g hg rfl) | (obtain ⟨g, hg, rfl⟩ := List.mem_map.mp hr))
    rw [List.length_map]
    exact ((pilesT_ok i hi).2 g hg).1
  · rw [hX] at hx
    have hx5 : x ∈ ((pilesF xs xs.length).filter fun r => decide (r.length = 1)).map fun r => r.getD 0 "" := hx
    rw [l5] at hx5
    (first | (refine Mine.e1_2 (List.mem_map.mp hx5) ?_; rintro r hr rfl) | (obtain ⟨r, hr, rfl⟩ := List.mem_map.mp hx5))
    obtain ⟨hr1, hr2⟩ := List.mem_filter.mp hr
    have hr2 : r.length = 1 := by simpa using hr2
    exact htl 5 (by (first | lia | omega)) r hr1 _ (getD_mem' (by (first | lia | omega)))
  · rw [hre] at hr
    (first | (refine Mine.e1_2 (List.mem_map.mp hr) ?_; rintro q hq rfl) | (obtain ⟨q, hq, rfl⟩ := List.mem_map.mp hr))
    refine ⟨by simp [chs, hrs3 q hq], fun x hx => ?_⟩
    (first | (refine Mine.e1_2 (List.mem_map.mp hx) ?_; rintro c _ rfl) | (obtain ⟨c, _, rfl⟩ := List.mem_map.mp hx))
    show (1 : Nat) ≤ 2
    decide
  · rw [hX, hW, ← k1]
    have h1 := hsp.map fun x => (x.length : Int)
    rw [sum_perm h1, sum_cast]
    congr 1
    have : (sentF xs).map (fun x => (x.length : Int)) = ((sentF xs).map Str.length).map fun (x : Nat) => (x : Int) := by rw [List.map_map]; rfl
    rw [this, hlen]
  · rw [hX, hW]
    have hl : (sortL (sentF xs)).length = 14 := by rw [hsp.length_eq, n14]
    have hup := sortL_up (sentF xs) (by (first | lia | omega))
    generalize hS : sortL (sentF xs) = S at *
    cases S with
    | nil => simp at hl
    | cons x0 S =>
      show (x0.length : Int) = _
      have m0 : x0 ∈ sentF xs := hsp.mem_iff.mp (by simp)
      (first | (refine Mine.e1_2 (mlen x0 m0) ?_; rintro ds1 hd1 el1) | (obtain ⟨ds1, hd1, el1⟩ := mlen x0 m0))
      have lo := k4 ds1 hd1
      have hmem : toldG (rs.map chs) (ds0.map fun (d : Nat) => (d : Int)) ∈ sentF xs := by rw [hsent]; exact List.mem_map_of_mem kd
      have hle : x0.length ≤ (toldG (rs.map chs) (ds0.map fun (d : Nat) => (d : Int))).length := by
        have hm : toldG (rs.map chs) (ds0.map fun (d : Nat) => (d : Int)) ∈ x0 :: S := hsp.mem_iff.mpr hmem
        rcases List.mem_cons.mp hm with h | h
        · rw [h]; exact Nat.le_refl _
        · have := (List.pairwise_cons.mp hup).1 _ h
          have n1 : ¬ (toldG (rs.map chs) (ds0.map fun (d : Nat) => (d : Int))).length < x0.length := fun q => by rw [kLt_iff.mpr (.inl q)] at this; cases this
          (first | lia | omega)
      rw [told_lenE rs ds0 hrs3] at hle
      (first | lia | omega)
end Mine
end
section
open PySem PySem.W PySem.Calls PyProof.Rows
set_option Elab.async false
set_option maxRecDepth 100000
set_option linter.unusedVariables false
namespace Mine

theorem getD_le {xs : List Str} {n : Nat} (h : ∀ x ∈ xs, x.length ≤ n) (i : Nat) : (xs.getD i "").length ≤ n := by
  by_cases hi : i < xs.length
  · exact h _ (getD_mem' hi)
  · rw [List.getD_eq_getElem?_getD, List.getElem?_eq_none (by (first | lia | omega))]
    show (0 : Nat) ≤ n
    (first | lia | omega)
theorem pieces_ok (ns : List Int) : ∀ r ∈ (numsF ns).zip (modesF ns), (∀ y ∈ picks r.2 tabT, y.length ≤ 10) ∧ (fmF tabT r.2).length ≤ 100 ∧ (signsF r.1 (fmF tabT r.2)).length = 3 := by
  intro r hr
  rw [zip_eq] at hr
  obtain ⟨n, _, rfl⟩ := List.mem_map.mp hr
  have h := moN n
  refine ⟨?_, fm_small n, ?_⟩
  · show ∀ y ∈ picks (moF n) tabT, _
    rw [h.1]
    exact picks_small _ h.2
  · have e : (signsF n (fmF tabT (moF n))).length = (cl (signsF n (fmF tabT (moF n)))).length := by simp [Str.length]
    show (signsF n (fmF tabT (moF n))).length = 3
    rw [e, signs_rs]
    exact (rs_ok n).1
section
variable {prog : Program} {w : World} {A : Around} {E : Value → Shared → Prop} {s : Shared} {G h : Heap} {tk : Nat} {L : Nat} {m : Str → Option Value} {mg mb mc : Str → Option Value} {pm : Value}
set_option maxHeartbeats 4000000 in
theorem law_all {sa : Nat} {us : List Value} {ns : List Int} {cv : Option Value} {Q : Flow → Shared → Prop} (R : Rm 12 A) (N : LN mg) (X : LG mg mb mc tabT G) (F : LF G L m cv #[] #[] h) (hm : m "script" = some (.ref sa)) (hl : G.IsList sa us.toArray) (hi : IntsAre us ns) (hz : us.length ≤ 1000) (hmc : mc "thirdparty.any" = none)
    (k : ∀ G' m' cv' ps' qs' h' tk', Stay G G' → LF G' L m' cv' ps' qs' h' → Q (.ret (.bool true)) (st s h' tk')) :
    wpAny (model prog w) A (execs (lawFrom 0) (lawEnv pm L)) Q E (st s h tk) := by
  have P := plain02 ns
  have pl := P.l5
  have n14 := P.n14
  refine law_0 (R.less (by decide)) N X F hm hl hi hz fun D0 G0 h0 tk0 S0 F0 I0 => ?_
  have X0 := X.stay S0
  refine law_1 N X0 F0 rfl I0 fun D1 G1 h1 tk1 S1 F1 I1 => ?_
  have X1 := X0.stay S1
  refine law_2 R.hd F1 rfl I1 fun D2 G2 h2 tk2 S2 F2 I2 => ?_
  have X2 := X1.stay S2
  have I1 := I1.stay S2
  refine law_3 (R.less (by decide)) N X2 F2 rfl I1 rfl I2 (by decide) (pieces_ok ns) fun D3 G3 h3 tk3 S3 F3 I3 => ?_
  have X3 := X2.stay S3
  have I1 := I1.stay S3
  have I2 := I2.stay S3
  refine law_4 (R.less (by decide)) N X3 F3 rfl I3 (by (first | lia | omega)) (by rw [pl]; exact P.s1) (by rw [pl]; exact P.s2) (by rw [pl]; exact P.s4) fun D4 G4 h4 tk4 S4 F4 I4 => ?_
  have X4 := X3.stay S4
  have I1 := I1.stay S4
  have I2 := I2.stay S4
  refine law_5 (R.less (by decide)) N X4 F4 rfl I4 (by (first | lia | omega)) (by (first | lia | omega)) (fun i => by have := getD_le P.sz i; (first | lia | omega)) hmc fun rv G5 h5 tk5 qs5 S5 F5 I5 => ?_
  have X5 := X4.stay S5
  have I1 := I1.stay S5
  have I2 := I2.stay S5
  refine law_6 (R.less (by decide)) N X5 F5 rfl I1 rfl I2 (fun mo hmo => ?_) fun D6 G6 h6 tk6 S6 F6 I6 => ?_
  · unfold modesF at hmo
    obtain ⟨n, _, rfl⟩ := List.mem_map.mp hmo
    exact moF_ok n
  have X6 := X5.stay S6
  have I5 := I5.stay S6
  refine law_7 (R.less (by decide)) N X6 F6 I6 (by have := P.r5; (first | lia | omega)) P.rr fun D7 G7 h7 tk7 S7 F7 I7 => ?_
  have X7 := X6.stay S7
  have I5 := I5.stay S7
  have I6 := I6.stay S7
  refine law_8 (R.less (by decide)) F7 I6 (by have := P.r5; (first | lia | omega)) P.rr fun D8 G8 h8 tk8 S8 F8 I8 => ?_
  have X8 := X7.stay S8
  have I5 := I5.stay S8
  have I7 := I7.stay S8
  have hw5 : (weightsF (rowsF ns)).length = 5 := by unfold weightsF; rw [List.length_map]; exact P.r5
  refine law_9 (R.less (by decide)) N X8 F8 rfl I8 hw5 fun t9 G9 h9 tk9 S9 F9 => ?_
  have X9 := X8.stay S9
  have I5 := I5.stay S9
  have I7 := I7.stay S9
  have I8 := RowI.stay I8 S9
  have hsp := sortL_perm (sentF (piecesF tabT ns)) (by (first | lia | omega))
  have tl14 : (toldL (rowsF ns)).length = 14 := by rw [← P.perm.length_eq]; exact n14
  refine law_10 (R.less (by decide)) N X9 F9 rfl rfl rfl rfl I5 I7 I8 P.e1 P.e2 (sortL_perm_eq P.perm (by (first | lia | omega))).symm ?_ (by (first | lia | omega)) (by (first | lia | omega)) (fun i => ?_) (fun x hx => ?_) ?_ (by (first | lia | omega)) P.ok fun G' h' tk' ps' F' S' => ?_
  · rw [hsp.length_eq]; (first | lia | omega)
  · have := getD_le (n := 1000) (fun x hx => P.sz x (P.perm.mem_iff.mpr hx)) i
    (first | lia | omega)
  · have := P.sz x (hsp.mem_iff.mp hx)
    (first | lia | omega)
  · rw [hsp.length_eq]; (first | lia | omega)
  · exact k G' _ _ _ _ h' tk' ((((((((((S0.trans S1).trans S2).trans S3).trans S4).trans S5).trans S6).trans S7).trans S8).trans S9).trans S') F'
end
end Mine
end
section
open PySem PySem.W PySem.Calls PyProof.Rows
set_option Elab.async false
set_option maxRecDepth 100000
set_option linter.unusedVariables false
namespace Mine
section
variable {h : Heap} {P : Params}
theorem top_f1 (X : (Mine.hd.heap_39 P).In h) : FnAt h 71 70 11 .none := ⟨_, X 71 _ rfl, 70, _, _, _, rfl, X 70 _ rfl, rfl, rfl⟩
theorem top_f2 (X : (Mine.hd.heap_39 P).In h) : FnAt h 111 110 32 .none := ⟨_, X 111 _ rfl, 110, _, _, _, rfl, X 110 _ rfl, rfl, rfl⟩
theorem top_f3 (X : (Mine.hd.heap_39 P).In h) : FnAt h 55 54 7 .none := ⟨_, X 55 _ rfl, 54, _, _, _, rfl, X 54 _ rfl, rfl, rfl⟩
theorem top_f4 (X : (Mine.hd.heap_39 P).In h) : FnAt h 64 63 9 (.ref 57) := ⟨_, X 64 _ rfl, 63, _, _, _, rfl, X 63 _ rfl, rfl, rfl⟩
theorem top_f5 (X : (Mine.hd.heap_39 P).In h) : FnAt h 48 47 5 .none := ⟨_, X 48 _ rfl, 47, _, _, _, rfl, X 47 _ rfl, rfl, rfl⟩
theorem top_f6 (X : (Mine.hd.heap_39 P).In h) : FnAt h 118 117 34 .none := ⟨_, X 118 _ rfl, 117, _, _, _, rfl, X 117 _ rfl, rfl, rfl⟩
theorem top_f7 (X : (Mine.hd.heap_39 P).In h) : FnAt h 125 124 35 .none := ⟨_, X 125 _ rfl, 124, _, _, _, rfl, X 124 _ rfl, rfl, rfl⟩
theorem top_f8 (X : (Mine.hd.heap_39 P).In h) : FnAt h 132 131 36 .none := ⟨_, X 132 _ rfl, 131, _, _, _, rfl, X 131 _ rfl, rfl, rfl⟩
theorem top_f9 (X : (Mine.hd.heap_39 P).In h) : FnAt h 139 138 37 .none := ⟨_, X 139 _ rfl, 138, _, _, _, rfl, X 138 _ rfl, rfl, rfl⟩
theorem top_f10 (X : (Mine.hd.heap_39 P).In h) : FnAt h 144 143 38 .none := ⟨_, X 144 _ rfl, 143, _, _, _, rfl, X 143 _ rfl, rfl, rfl⟩
theorem top_f11 (X : (Mine.hd.heap_39 P).In h) : FnAt h 151 150 39 .none := ⟨_, X 151 _ rfl, 150, _, _, _, rfl, X 150 _ rfl, rfl, rfl⟩
theorem top_f12 (X : (Mine.hd.heap_39 P).In h) : FnAt h 158 157 40 .none := ⟨_, X 158 _ rfl, 157, _, _, _, rfl, X 157 _ rfl, rfl, rfl⟩
theorem top_f13 (X : (Mine.hd.heap_39 P).In h) : FnAt h 163 162 41 .none := ⟨_, X 163 _ rfl, 162, _, _, _, rfl, X 162 _ rfl, rfl, rfl⟩
theorem top_p1 (X : (Mine.hd.heap_39 P).In h) : PatAt h 36 codeDot := ⟨_, _, 35, _, _, _, X 36 _ rfl, rfl, rfl, rfl, rfl, rfl, rfl, X 35 _ rfl, rfl, by decide +kernel⟩
theorem top_p2 (X : (Mine.hd.heap_39 P).In h) : PatAt h 41 codeEnd := ⟨_, _, 40, _, _, _, X 41 _ rfl, rfl, rfl, rfl, rfl, rfl, rfl, X 40 _ rfl, rfl, by decide +kernel⟩
theorem top_c1 (X : (Mine.hd.heap_39 P).In h) : CodeHd h 162 160 := codeHd_of_K X (by kernel_rfl)
theorem top_c2 (X : (Mine.hd.heap_39 P).In h) : CodeHd h 54 50 := codeHd_of_K X (by kernel_rfl)
theorem top_d57 (X : (Mine.hd.heap_39 P).In h) : ∃ o, h.get? 57 = some o ∧ o.data = .seq #[.ref 56] := ⟨_, X 57 _ rfl, rfl⟩
theorem top_o56 (X : (Mine.hd.heap_39 P).In h) : ∃ o, h.get? 56 = some o ∧ o.cls = .type "object" := ⟨_, X 56 _ rfl, rfl⟩
theorem top_2 (X : (Mine.hd.heap_39 P).In h) {mc : Str → Option Value} (G : h.Ns cStatics mc) : mc "thirdparty.any" = none := by
  (first | (refine Mine.e3_4 (G) ?_; rintro o es ep ho hd _ hf) | (obtain ⟨o, es, ep, ho, hd, _, hf⟩ := G))
  rw [show h.get? cStatics = _ from X 2 _ rfl] at ho
  cases ho
  cases hd
  rw [← hf]
  kernel_rfl
theorem top_3 (X : (Mine.hd.heap_39 P).In h) : ∃ o, h.get? mainGlobals = some o ∧ o.cls = .type "dict" := ⟨_, X 3 _ rfl, rfl⟩
theorem top_mg (X : (Mine.hd.heap_39 P).In h) {mg : Str → Option Value} (G : h.Ns mainGlobals mg) : LN mg ∧ mg "law" = some (.ref 163) := by
  (first | (refine Mine.e3_4 (G) ?_; rintro o es ep ho hd _ hf) | (obtain ⟨o, es, ep, ho, hd, _, hf⟩ := G))
  rw [show h.get? mainGlobals = _ from X 3 _ rfl] at ho
  cases ho
  cases hd
  exact ⟨⟨(hf _).symm.trans (by kernel_rfl), (hf _).symm.trans (by kernel_rfl), (hf _).symm.trans (by kernel_rfl), (hf _).symm.trans (by kernel_rfl), (hf _).symm.trans (by kernel_rfl), (hf _).symm.trans (by kernel_rfl), (hf _).symm.trans (by kernel_rfl), (hf _).symm.trans (by kernel_rfl), ⟨_, (hf _).symm.trans (by rfl)⟩, (hf _).symm.trans (by kernel_rfl), (hf _).symm.trans (by kernel_rfl), (hf _).symm.trans (by kernel_rfl), (hf _).symm.trans (by kernel_rfl), (hf _).symm.trans (by kernel_rfl), (hf _).symm.trans (by kernel_rfl), (hf _).symm.trans (by kernel_rfl), (hf _).symm.trans (by kernel_rfl), (hf _).symm.trans (by kernel_rfl), (hf _).symm.trans (by kernel_rfl), (hf _).symm.trans (by kernel_rfl), (hf _).symm.trans (by kernel_rfl), (hf _).symm.trans (by kernel_rfl), (hf _).symm.trans (by kernel_rfl), (hf _).symm.trans (by kernel_rfl), (hf _).symm.trans (by kernel_rfl), (hf _).symm.trans (by kernel_rfl), ⟨_, (hf _).symm.trans (by rfl), _, _, rfl⟩⟩, (hf _).symm.trans (by kernel_rfl)⟩
theorem top_tab (X : (Mine.hd.heap_39 P).In h) : TabAt h 104 tabT :=
  ⟨[.ref 79, .ref 81, .ref 83, .ref 87, .ref 89, .ref 91, .ref 95, .ref 97, .ref 99, .ref 103], ⟨_, X 104 _ rfl, rfl, _, rfl⟩, .cons ⟨79, [.ref 72, .ref 73, .ref 74, .ref 75, .ref 76, .ref 77, .ref 78], rfl, ⟨_, X 79 _ rfl, rfl, _, rfl⟩, .cons ⟨72, 394, 422, rfl, ⟨_, X 72 _ rfl, rfl, _, rfl⟩⟩ (.cons ⟨73, 396, 423, rfl, ⟨_, X 73 _ rfl, rfl, _, rfl⟩⟩ (.cons ⟨74, 390, 424, rfl, ⟨_, X 74 _ rfl, rfl, _, rfl⟩⟩ (.cons ⟨75, 388, 425, rfl, ⟨_, X 75 _ rfl, rfl, _, rfl⟩⟩ (.cons ⟨76, 384, 426, rfl, ⟨_, X 76 _ rfl, rfl, _, rfl⟩⟩ (.cons ⟨77, 386, 427, rfl, ⟨_, X 77 _ rfl, rfl, _, rfl⟩⟩ (.cons ⟨78, 392, 428, rfl, ⟨_, X 78 _ rfl, rfl, _, rfl⟩⟩ (.nil)))))))⟩ (.cons ⟨81, [.ref 80], rfl, ⟨_, X 81 _ rfl, rfl, _, rfl⟩, .cons ⟨80, 404, 429, rfl, ⟨_, X 80 _ rfl, rfl, _, rfl⟩⟩ (.nil)⟩ (.cons ⟨83, [.ref 82], rfl, ⟨_, X 83 _ rfl, rfl, _, rfl⟩, .cons ⟨82, 406, 430, rfl, ⟨_, X 82 _ rfl, rfl, _, rfl⟩⟩ (.nil)⟩ (.cons ⟨87, [.ref 84, .ref 85, .ref 86], rfl, ⟨_, X 87 _ rfl, rfl, _, rfl⟩, .cons ⟨84, 431, 432, rfl, ⟨_, X 84 _ rfl, rfl, _, rfl⟩⟩ (.cons ⟨85, 398, 433, rfl, ⟨_, X 85 _ rfl, rfl, _, rfl⟩⟩ (.cons ⟨86, 408, 434, rfl, ⟨_, X 86 _ rfl, rfl, _, rfl⟩⟩ (.nil)))⟩ (.cons ⟨89, [.ref 88], rfl, ⟨_, X 89 _ rfl, rfl, _, rfl⟩, .cons ⟨88, 410, 435, rfl, ⟨_, X 88 _ rfl, rfl, _, rfl⟩⟩ (.nil)⟩ (.cons ⟨91, [.ref 90], rfl, ⟨_, X 91 _ rfl, rfl, _, rfl⟩, .cons ⟨90, 412, 436, rfl, ⟨_, X 90 _ rfl, rfl, _, rfl⟩⟩ (.nil)⟩ (.cons ⟨95, [.ref 92, .ref 93, .ref 94], rfl, ⟨_, X 95 _ rfl, rfl, _, rfl⟩, .cons ⟨92, 437, 438, rfl, ⟨_, X 92 _ rfl, rfl, _, rfl⟩⟩ (.cons ⟨93, 400, 439, rfl, ⟨_, X 93 _ rfl, rfl, _, rfl⟩⟩ (.cons ⟨94, 414, 440, rfl, ⟨_, X 94 _ rfl, rfl, _, rfl⟩⟩ (.nil)))⟩ (.cons ⟨97, [.ref 96], rfl, ⟨_, X 97 _ rfl, rfl, _, rfl⟩, .cons ⟨96, 416, 441, rfl, ⟨_, X 96 _ rfl, rfl, _, rfl⟩⟩ (.nil)⟩ (.cons ⟨99, [.ref 98], rfl, ⟨_, X 99 _ rfl, rfl, _, rfl⟩, .cons ⟨98, 418, 442, rfl, ⟨_, X 98 _ rfl, rfl, _, rfl⟩⟩ (.nil)⟩ (.cons ⟨103, [.ref 100, .ref 101, .ref 102], rfl, ⟨_, X 103 _ rfl, rfl, _, rfl⟩, .cons ⟨100, 443, 444, rfl, ⟨_, X 100 _ rfl, rfl, _, rfl⟩⟩ (.cons ⟨101, 402, 445, rfl, ⟨_, X 101 _ rfl, rfl, _, rfl⟩⟩ (.cons ⟨102, 420, 446, rfl, ⟨_, X 102 _ rfl, rfl, _, rfl⟩⟩ (.nil)))⟩ (.nil))))))))))⟩
theorem top_hide (X : (Mine.hd.heap_39 P).In h) : (Mine.hd.heap_39 P).In (hideAll h [50, 160]) := fun a o e => hideAll_get _ (X a o e) (by
  simp only [List.mem_cons, List.not_mem_nil, or_false, not_or]
  refine ⟨fun q => ?_, fun q => ?_⟩
  · rw [q, show (Mine.hd.heap_39 P).lookup 50 = none from rfl] at e; cases e
  · rw [q, show (Mine.hd.heap_39 P).lookup 160 = none from rfl] at e; cases e)
end
section
variable {prog : Program} {w : World} {A : Around} {s : Shared} {mg mb : Str → Option Value} {P : Params}
set_option maxHeartbeats 4000000 in
theorem law_run {sa : Nat} {us : List Value} {ns : List Int} {Rs : Result → Shared → Prop} (R : Rm 13 A) (KX : (Mine.hd.heap_39 P).In s.heap) (hT8 : ∀ P, P ∈ [50, 160] → s.heap.get? P = some (tabObj #[]))
    (hg : s.heap.Ns mainGlobals mg) (hb : s.heap.Ns builtinsNs mb) (bi : ∀ x : Str, x ≠ "__name__" → mb x = bootBuiltins x) (lim : s.heap.NoLimit) (hst : ∃ mc, s.heap.Ns cStatics mc)
    (bmain : ∃ bm ob, mg "__builtins__" = some (.ref bm) ∧ bm ≠ builtinsNs ∧ s.heap.get? bm = some ob ∧ ob.cls = .type "module" ∧ ob.dict = some builtinsNs ∧ ob.data = .plain)
    (hl : s.heap.IsList sa us.toArray) (hi : IntsAre us ns) (hz : us.length ≤ 1000)
    (k : ∀ h' tk', (∀ b o, b ∉ [50, 160] → s.heap.get? b = some o → h'.get? b = some o) → (∃ ps, h'.get? 50 = some (tabObj ps)) → (∃ ps, h'.get? 160 = some (tabObj ps)) → Rs (.ok (.ret (.bool true))) { s with heap := h', toks := tk' }) :
    codeAny (model prog w) A (.call (.ref 163) ⟨[.ref sa], []⟩) Rs s := by
  have t80 : s.heap.get? 50 = some (tabObj #[]) := hT8 50 (by simp)
  have t162 : s.heap.get? 160 = some (tabObj #[]) := hT8 160 (by simp)
  (first | (refine Mine.e1_2 (top_f13 KX) ?_; rintro pm ho hc) | (refine Mine.e2_1 (top_f13 KX) ?_; rintro pm ho hc) | (obtain ⟨pm, ho, hc⟩ := top_f13 KX))
  refine codeAny_call_cells (binds := [("script", .ref sa)]) R.room ho rfl lim hc (body := bodyAt 41) rfl rfl rfl ?hkind ?_
  case hkind =>
    intro x hx
    simp at hx; subst hx
    exact .inl rfl
  intro s₂ I
  have hcell := I.cell
  (first | (refine Mine.e1_2 (I.toInCall.same) ?_; rintro h₁ tk₁ rfl) | (refine Mine.e2_1 (I.toInCall.same) ?_; rintro h₁ tk₁ rfl) | (obtain ⟨h₁, tk₁, rfl⟩ := I.toInCall.same))
  have keep := I.toInCall.keep
  have ns := I.toInCall.ns
  generalize hL : s.heap.objs.size = L at *
  change Stay s.heap h₁ at keep
  change h₁.Ns L _ at ns
  have lt : ∀ b o, s.heap.get? b = some o → b < L := fun b o e => hL ▸ Heap.lt_size e
  have lo : 163 < L := lt _ _ ho
  have nLX : ∀ b, b < L → b ≠ 50 → b ≠ 160 → b ∉ LX L := by
    intro b hb h1 h2 hm
    simp only [LX, List.mem_cons, List.not_mem_nil, or_false] at hm
    (first | lia | omega)
  have SG : Stay (hideAll s.heap [50, 160]) (hideAll h₁ (LX L)) := fun b o e => by
    have e' := of_hideAll _ e
    have n1 : b ∉ [50, 160] := fun q => by rw [hideAll_none _ q] at e; cases e
    simp only [List.mem_cons, List.not_mem_nil, or_false, not_or] at n1
    exact hideAll_get _ (keep _ _ e') (nLX b (lt _ _ e') n1.1 n1.2)
  have F : LF (hideAll h₁ (LX L)) L _ _ #[] #[] h₁ := ⟨ns, hcell "rows" (L + 1) rfl, keep _ _ t162, keep _ _ t80, fun b o e => of_hideAll _ e, fun z hz => hideAll_none _ hz, lo⟩
  have XH := top_hide KX
  have hide : ∀ {a : Nat} {m : Str → Option Value}, s.heap.Ns a m → a ≠ 50 → a ≠ 160 → (hideAll s.heap [50, 160]).Ns a m := fun {a m} x n1 n2 => hid_ns x (by simp only [List.mem_cons, List.not_mem_nil, or_false, not_or]; exact ⟨n1, n2⟩)
  have hgH := hide hg (by decide) (by decide)
  obtain ⟨mc, hmc⟩ := hst
  have hmcH := hide hmc (by decide) (by decide)
  have N := top_mg XH hgH
  have bmH : BM (hideAll s.heap [50, 160]) mg := by
    (first | (refine Mine.e2_6 (bmain) ?_; rintro bm ob b1 b2 b3 b4 b5 b6) | (obtain ⟨bm, ob, b1, b2, b3, b4, b5, b6⟩ := bmain))
    (first | (refine Mine.e1_2 (top_3 KX) ?_; rintro o3 e3 c3) | (refine Mine.e2_1 (top_3 KX) ?_; rintro o3 e3 c3) | (obtain ⟨o3, e3, c3⟩ := top_3 KX))
    refine ⟨bm, ob, b1, b2, fun q => ?_, hideAll_get _ b3 ?_, b4, b5, b6⟩
    · rw [q, e3] at b3; cases b3; rw [c3] at b4; exact absurd b4 (by decide)
    · simp only [List.mem_cons, List.not_mem_nil, or_false, not_or]
      refine ⟨fun q => ?_, fun q => ?_⟩
      · rw [q, t80] at b3; cases b3; cases b4
      · rw [q, t162] at b3; cases b3; cases b4
  have limH : (hideAll s.heap [50, 160]).NoLimit := by
    (first | (refine Mine.e1_2 (lim) ?_; rintro m0 a0 r0) | (refine Mine.e2_1 (lim) ?_; rintro m0 a0 r0) | (obtain ⟨m0, a0, r0⟩ := lim))
    exact ⟨m0, hide a0 (by decide) (by decide), r0⟩
  have XG : LG mg mb mc tabT (hideAll s.heap [50, 160]) := ⟨⟨hgH, hide hb (by decide) (by decide), bi, limH⟩, bmH, hmcH, top_f1 XH, top_f2 XH, top_f3 XH, top_f4 XH, top_f5 XH, top_f6 XH, top_f7 XH, top_f8 XH, top_f9 XH, top_f10 XH, top_f11 XH, top_f12 XH,
    top_tab XH, top_p1 XH, top_p2 XH, top_c1 XH, top_c2 XH, top_d57 XH, top_o56 XH⟩
  have slt : ∀ o, s.heap.get? sa = some o → o.cls = .type "list" → (hideAll h₁ (LX L)).get? sa = some o := fun o e hc => SG _ _ (hideAll_get _ e (by
    simp only [List.mem_cons, List.not_mem_nil, or_false, not_or]
    refine ⟨fun q => ?_, fun q => ?_⟩
    · rw [q, t80] at e; cases e; cases hc
    · rw [q, t162] at e; cases e; cases hc))
  have hlG : (hideAll h₁ (LX L)).IsList sa us.toArray := by
    (first | (refine Mine.e1_3 (hl) ?_; rintro o e hc r) | (obtain ⟨o, e, hc, r⟩ := hl))
    exact ⟨o, slt o e hc, hc, r⟩
  have R' : Rm 12 (A.deeper (callEnvC (fnD 41 162 pm .none) L 163)) := R.deeper
  generalize A.deeper (callEnvC (fnD 41 162 pm .none) L 163) = A' at *
  show wpAny _ _ (execs (lawFrom 0) (lawEnv pm L)) _ _ (st s h₁ tk₁)
  refine law_all (s := s) R' N.1 (XG.stay SG) F rfl hlG hi hz (top_2 XH hmcH) fun G' m' cv' ps' qs' h' tk' SG' F' => ?_
  refine k h' tk' (fun b o nb e => F'.keep _ _ (SG' _ _ (SG _ _ (hideAll_get _ e nb)))) ⟨_, F'.t50⟩ ⟨_, F'.tab⟩
end
end Mine
end
open PySem PySem.W PyProof.Rows
set_option Elab.async false
set_option maxRecDepth 100000
set_option maxHeartbeats 8000000
theorem PySem.Challenge.cw_om0029_02_holds : PySem.Challenge.rw_om0029_02.Holds :=
  Mine.hd (by
  k_fill
  intro w s₀ s₁ mg mb G Y fa o pm cd doc dV kV ho hd hcd hD hmg hg args vals as hpre hlay hrd hwl hlo
  have KX := km_in_of Y
  km_tabs Y
  have X := (Ground.X G).1
  have V := (Ground.X G).2
  refine Ground.open G ?_
  intro T B D TE TW
  try (refine guard_noD D (by decide +kernel) ?_; clear D)
  km_lay T hmg ho hd cd
  have hfa : fa = 163 := by
    have h1 := (Mine.top_mg KX T.g).2
    have h2 := hmg.symm.trans h1
    exact Value.ref.inj (Option.some.inj h2)
  wrow_args hpre hlay hrd hwl hlo
  all_goals (
    first | refine callC_kw (enter_call ?_) | refine enter_call ?_
    w_top on)
  rename_i hI _ hz _
  subst hfa
  refine kn_post hT9 (fun _ _ => rfl) ?_
  refine Mine.law_run ⟨rfl, by decide, by decide⟩ KX hT8 T.g T.b T.builtins T.nolimit (let ⟨mc, a, _⟩ := T.nodigits; ⟨mc, a⟩) T.bmain (by assumption) hI ?_ fun h' tk' k1 k2 k3 => ?_
  · have := hI.length
    omega
  · refine ⟨⟨.inl ⟨.bool true, .bool true, [], rfl, fun _ => rfl, .bool true, ?_, fun _ => ⟨.nil, fun a ha => by cases ha⟩⟩, fun b o e => ?_, rfl, hg⟩, k2, k3, trivial⟩
    · kernel_rfl
    exact k1 b o (fun q => by rw [show (ghostOf s₁.heap [(54, 50), (162, 160)]).get? b = none from hideAll_none _ q] at e; cases e) (of_hideAll _ e))
