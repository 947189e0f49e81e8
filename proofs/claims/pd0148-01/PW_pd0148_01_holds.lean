import PyProof.Rows.All
import Wide.All
import OpenK.AllK
import Wide.FinOn
import Lean
import PySem.Challenge.RW_pd0148_01
open PySem PySem.W PySem.Calls PyProof.Rows
set_option Elab.async false
set_option maxRecDepth 100000
set_option maxHeartbeats 8000000
set_option rowWalk.seconds 0
set_option compiler.extract_closed false
namespace Mine
/-- the law is well said: looked at part by part -/
theorem said : PySem.Challenge.rw_pd0148_01.wellSaid = true := by
  unfold OpenLaw.wellSaid OpenRow.wellSaid OpenRow.partSaid looksOpen
  repeat' with_reducible refine look_both ?_ ?_
  all_goals decide +kernel
section
local macro_rules | `(tactic| o_law) => `(tactic| refine holds_law said fun _ => ?_)
set_option synthInstance.maxSize 1 in
open_top hd for PySem.Challenge.rw_pd0148_01
end
/-- the walk goes without the lines of the top -/
theorem topOff : True := by
  w_top off
  trivial
end Mine
section O1Part
namespace Mine
universe u1 u2 u3 u4 u5 u6 u7 u8
theorem an1 {A1 G : Prop} (h : A1) (k : A1 → G) : G := k h
theorem an13 {A1 A2 A3 A4 A5 A6 A7 A8 A9 A10 A11 A12 A13 G : Prop} (h : A1 ∧ A2 ∧ A3 ∧ A4 ∧ A5 ∧ A6 ∧ A7 ∧ A8 ∧ A9 ∧ A10 ∧ A11 ∧ A12 ∧ A13) (k : A1 → A2 → A3 → A4 → A5 → A6 → A7 → A8 → A9 → A10 → A11 → A12 → A13 → G) : G := k h.1 h.2.1 h.2.2.1 h.2.2.2.1 h.2.2.2.2.1 h.2.2.2.2.2.1 h.2.2.2.2.2.2.1 h.2.2.2.2.2.2.2.1 h.2.2.2.2.2.2.2.2.1 h.2.2.2.2.2.2.2.2.2.1 h.2.2.2.2.2.2.2.2.2.2.1 h.2.2.2.2.2.2.2.2.2.2.2.1 h.2.2.2.2.2.2.2.2.2.2.2.2
theorem an14 {A1 A2 A3 A4 A5 A6 A7 A8 A9 A10 A11 A12 A13 A14 G : Prop} (h : A1 ∧ A2 ∧ A3 ∧ A4 ∧ A5 ∧ A6 ∧ A7 ∧ A8 ∧ A9 ∧ A10 ∧ A11 ∧ A12 ∧ A13 ∧ A14) (k : A1 → A2 → A3 → A4 → A5 → A6 → A7 → A8 → A9 → A10 → A11 → A12 → A13 → A14 → G) : G := k h.1 h.2.1 h.2.2.1 h.2.2.2.1 h.2.2.2.2.1 h.2.2.2.2.2.1 h.2.2.2.2.2.2.1 h.2.2.2.2.2.2.2.1 h.2.2.2.2.2.2.2.2.1 h.2.2.2.2.2.2.2.2.2.1 h.2.2.2.2.2.2.2.2.2.2.1 h.2.2.2.2.2.2.2.2.2.2.2.1 h.2.2.2.2.2.2.2.2.2.2.2.2.1 h.2.2.2.2.2.2.2.2.2.2.2.2.2
theorem an2 {A1 A2 G : Prop} (h : A1 ∧ A2) (k : A1 → A2 → G) : G := k h.1 h.2
theorem an3 {A1 A2 A3 G : Prop} (h : A1 ∧ A2 ∧ A3) (k : A1 → A2 → A3 → G) : G := k h.1 h.2.1 h.2.2
theorem an4 {A1 A2 A3 A4 G : Prop} (h : A1 ∧ A2 ∧ A3 ∧ A4) (k : A1 → A2 → A3 → A4 → G) : G := k h.1 h.2.1 h.2.2.1 h.2.2.2
theorem an5 {A1 A2 A3 A4 A5 G : Prop} (h : A1 ∧ A2 ∧ A3 ∧ A4 ∧ A5) (k : A1 → A2 → A3 → A4 → A5 → G) : G := k h.1 h.2.1 h.2.2.1 h.2.2.2.1 h.2.2.2.2
theorem an6 {A1 A2 A3 A4 A5 A6 G : Prop} (h : A1 ∧ A2 ∧ A3 ∧ A4 ∧ A5 ∧ A6) (k : A1 → A2 → A3 → A4 → A5 → A6 → G) : G := k h.1 h.2.1 h.2.2.1 h.2.2.2.1 h.2.2.2.2.1 h.2.2.2.2.2
theorem an7 {A1 A2 A3 A4 A5 A6 A7 G : Prop} (h : A1 ∧ A2 ∧ A3 ∧ A4 ∧ A5 ∧ A6 ∧ A7) (k : A1 → A2 → A3 → A4 → A5 → A6 → A7 → G) : G := k h.1 h.2.1 h.2.2.1 h.2.2.2.1 h.2.2.2.2.1 h.2.2.2.2.2.1 h.2.2.2.2.2.2
theorem an8 {A1 A2 A3 A4 A5 A6 A7 A8 G : Prop} (h : A1 ∧ A2 ∧ A3 ∧ A4 ∧ A5 ∧ A6 ∧ A7 ∧ A8) (k : A1 → A2 → A3 → A4 → A5 → A6 → A7 → A8 → G) : G := k h.1 h.2.1 h.2.2.1 h.2.2.2.1 h.2.2.2.2.1 h.2.2.2.2.2.1 h.2.2.2.2.2.2.1 h.2.2.2.2.2.2.2
theorem an9 {A1 A2 A3 A4 A5 A6 A7 A8 A9 G : Prop} (h : A1 ∧ A2 ∧ A3 ∧ A4 ∧ A5 ∧ A6 ∧ A7 ∧ A8 ∧ A9) (k : A1 → A2 → A3 → A4 → A5 → A6 → A7 → A8 → A9 → G) : G := k h.1 h.2.1 h.2.2.1 h.2.2.2.1 h.2.2.2.2.1 h.2.2.2.2.2.1 h.2.2.2.2.2.2.1 h.2.2.2.2.2.2.2.1 h.2.2.2.2.2.2.2.2
theorem xe1 {α1 : Sort u1} {P : α1 → Prop} {G : Prop} (h : ∃ x1, P x1) (k : ∀ x1, P x1 → G) : G :=
  Exists.elim h fun x1 h => k x1 h
theorem xe2 {α1 : Sort u1} {α2 : Sort u2} {P : α1 → α2 → Prop} {G : Prop} (h : ∃ x1, ∃ x2, P x1 x2) (k : ∀ x1 x2, P x1 x2 → G) : G :=
  Exists.elim h fun x1 h => Exists.elim h fun x2 h => k x1 x2 h
theorem xe3 {α1 : Sort u1} {α2 : Sort u2} {α3 : Sort u3} {P : α1 → α2 → α3 → Prop} {G : Prop} (h : ∃ x1, ∃ x2, ∃ x3, P x1 x2 x3) (k : ∀ x1 x2 x3, P x1 x2 x3 → G) : G :=
  Exists.elim h fun x1 h => Exists.elim h fun x2 h => Exists.elim h fun x3 h => k x1 x2 x3 h
theorem xe4 {α1 : Sort u1} {α2 : Sort u2} {α3 : Sort u3} {α4 : Sort u4} {P : α1 → α2 → α3 → α4 → Prop} {G : Prop} (h : ∃ x1, ∃ x2, ∃ x3, ∃ x4, P x1 x2 x3 x4) (k : ∀ x1 x2 x3 x4, P x1 x2 x3 x4 → G) : G :=
  Exists.elim h fun x1 h => Exists.elim h fun x2 h => Exists.elim h fun x3 h => Exists.elim h fun x4 h => k x1 x2 x3 x4 h
theorem xe5 {α1 : Sort u1} {α2 : Sort u2} {α3 : Sort u3} {α4 : Sort u4} {α5 : Sort u5} {P : α1 → α2 → α3 → α4 → α5 → Prop} {G : Prop} (h : ∃ x1, ∃ x2, ∃ x3, ∃ x4, ∃ x5, P x1 x2 x3 x4 x5) (k : ∀ x1 x2 x3 x4 x5, P x1 x2 x3 x4 x5 → G) : G :=
  Exists.elim h fun x1 h => Exists.elim h fun x2 h => Exists.elim h fun x3 h => Exists.elim h fun x4 h => Exists.elim h fun x5 h => k x1 x2 x3 x4 x5 h
theorem xe6 {α1 : Sort u1} {α2 : Sort u2} {α3 : Sort u3} {α4 : Sort u4} {α5 : Sort u5} {α6 : Sort u6} {P : α1 → α2 → α3 → α4 → α5 → α6 → Prop} {G : Prop} (h : ∃ x1, ∃ x2, ∃ x3, ∃ x4, ∃ x5, ∃ x6, P x1 x2 x3 x4 x5 x6) (k : ∀ x1 x2 x3 x4 x5 x6, P x1 x2 x3 x4 x5 x6 → G) : G :=
  Exists.elim h fun x1 h => Exists.elim h fun x2 h => Exists.elim h fun x3 h => Exists.elim h fun x4 h => Exists.elim h fun x5 h => Exists.elim h fun x6 h => k x1 x2 x3 x4 x5 x6 h
theorem xe7 {α1 : Sort u1} {α2 : Sort u2} {α3 : Sort u3} {α4 : Sort u4} {α5 : Sort u5} {α6 : Sort u6} {α7 : Sort u7} {P : α1 → α2 → α3 → α4 → α5 → α6 → α7 → Prop} {G : Prop} (h : ∃ x1, ∃ x2, ∃ x3, ∃ x4, ∃ x5, ∃ x6, ∃ x7, P x1 x2 x3 x4 x5 x6 x7) (k : ∀ x1 x2 x3 x4 x5 x6 x7, P x1 x2 x3 x4 x5 x6 x7 → G) : G :=
  Exists.elim h fun x1 h => Exists.elim h fun x2 h => Exists.elim h fun x3 h => Exists.elim h fun x4 h => Exists.elim h fun x5 h => Exists.elim h fun x6 h => Exists.elim h fun x7 h => k x1 x2 x3 x4 x5 x6 x7 h
theorem ex1a2 {α1 : Sort u1} {A1 A2 : α1 → Prop} {G : Prop} (h : ∃ x1, A1 x1 ∧ A2 x1) (k : ∀ (x1 : α1), A1 x1 → A2 x1 → G) : G :=
  xe1 h fun x1 h => an2 h (k x1)
theorem ex1a4 {α1 : Sort u1} {A1 A2 A3 A4 : α1 → Prop} {G : Prop} (h : ∃ x1, A1 x1 ∧ A2 x1 ∧ A3 x1 ∧ A4 x1) (k : ∀ (x1 : α1), A1 x1 → A2 x1 → A3 x1 → A4 x1 → G) : G :=
  xe1 h fun x1 h => an4 h (k x1)
theorem ex1a5 {α1 : Sort u1} {A1 A2 A3 A4 A5 : α1 → Prop} {G : Prop} (h : ∃ x1, A1 x1 ∧ A2 x1 ∧ A3 x1 ∧ A4 x1 ∧ A5 x1) (k : ∀ (x1 : α1), A1 x1 → A2 x1 → A3 x1 → A4 x1 → A5 x1 → G) : G :=
  xe1 h fun x1 h => an5 h (k x1)
theorem ex2a1 {α1 : Sort u1} {α2 : Sort u2} {A1 : α1 → α2 → Prop} {G : Prop} (h : ∃ x1, ∃ x2, A1 x1 x2) (k : ∀ (x1 : α1) (x2 : α2), A1 x1 x2 → G) : G :=
  xe2 h fun x1 x2 h => an1 h (k x1 x2)
theorem ex2a2 {α1 : Sort u1} {α2 : Sort u2} {A1 A2 : α1 → α2 → Prop} {G : Prop} (h : ∃ x1, ∃ x2, A1 x1 x2 ∧ A2 x1 x2) (k : ∀ (x1 : α1) (x2 : α2), A1 x1 x2 → A2 x1 x2 → G) : G :=
  xe2 h fun x1 x2 h => an2 h (k x1 x2)
theorem ex2a3 {α1 : Sort u1} {α2 : Sort u2} {A1 A2 A3 : α1 → α2 → Prop} {G : Prop} (h : ∃ x1, ∃ x2, A1 x1 x2 ∧ A2 x1 x2 ∧ A3 x1 x2) (k : ∀ (x1 : α1) (x2 : α2), A1 x1 x2 → A2 x1 x2 → A3 x1 x2 → G) : G :=
  xe2 h fun x1 x2 h => an3 h (k x1 x2)
theorem ex2a4 {α1 : Sort u1} {α2 : Sort u2} {A1 A2 A3 A4 : α1 → α2 → Prop} {G : Prop} (h : ∃ x1, ∃ x2, A1 x1 x2 ∧ A2 x1 x2 ∧ A3 x1 x2 ∧ A4 x1 x2) (k : ∀ (x1 : α1) (x2 : α2), A1 x1 x2 → A2 x1 x2 → A3 x1 x2 → A4 x1 x2 → G) : G :=
  xe2 h fun x1 x2 h => an4 h (k x1 x2)
theorem ex2a5 {α1 : Sort u1} {α2 : Sort u2} {A1 A2 A3 A4 A5 : α1 → α2 → Prop} {G : Prop} (h : ∃ x1, ∃ x2, A1 x1 x2 ∧ A2 x1 x2 ∧ A3 x1 x2 ∧ A4 x1 x2 ∧ A5 x1 x2) (k : ∀ (x1 : α1) (x2 : α2), A1 x1 x2 → A2 x1 x2 → A3 x1 x2 → A4 x1 x2 → A5 x1 x2 → G) : G :=
  xe2 h fun x1 x2 h => an5 h (k x1 x2)
theorem ex3a1 {α1 : Sort u1} {α2 : Sort u2} {α3 : Sort u3} {A1 : α1 → α2 → α3 → Prop} {G : Prop} (h : ∃ x1, ∃ x2, ∃ x3, A1 x1 x2 x3) (k : ∀ (x1 : α1) (x2 : α2) (x3 : α3), A1 x1 x2 x3 → G) : G :=
  xe3 h fun x1 x2 x3 h => an1 h (k x1 x2 x3)
theorem ex3a3 {α1 : Sort u1} {α2 : Sort u2} {α3 : Sort u3} {A1 A2 A3 : α1 → α2 → α3 → Prop} {G : Prop} (h : ∃ x1, ∃ x2, ∃ x3, A1 x1 x2 x3 ∧ A2 x1 x2 x3 ∧ A3 x1 x2 x3) (k : ∀ (x1 : α1) (x2 : α2) (x3 : α3), A1 x1 x2 x3 → A2 x1 x2 x3 → A3 x1 x2 x3 → G) : G :=
  xe3 h fun x1 x2 x3 h => an3 h (k x1 x2 x3)
theorem ex3a4 {α1 : Sort u1} {α2 : Sort u2} {α3 : Sort u3} {A1 A2 A3 A4 : α1 → α2 → α3 → Prop} {G : Prop} (h : ∃ x1, ∃ x2, ∃ x3, A1 x1 x2 x3 ∧ A2 x1 x2 x3 ∧ A3 x1 x2 x3 ∧ A4 x1 x2 x3) (k : ∀ (x1 : α1) (x2 : α2) (x3 : α3), A1 x1 x2 x3 → A2 x1 x2 x3 → A3 x1 x2 x3 → A4 x1 x2 x3 → G) : G :=
  xe3 h fun x1 x2 x3 h => an4 h (k x1 x2 x3)
theorem ex3a5 {α1 : Sort u1} {α2 : Sort u2} {α3 : Sort u3} {A1 A2 A3 A4 A5 : α1 → α2 → α3 → Prop} {G : Prop} (h : ∃ x1, ∃ x2, ∃ x3, A1 x1 x2 x3 ∧ A2 x1 x2 x3 ∧ A3 x1 x2 x3 ∧ A4 x1 x2 x3 ∧ A5 x1 x2 x3) (k : ∀ (x1 : α1) (x2 : α2) (x3 : α3), A1 x1 x2 x3 → A2 x1 x2 x3 → A3 x1 x2 x3 → A4 x1 x2 x3 → A5 x1 x2 x3 → G) : G :=
  xe3 h fun x1 x2 x3 h => an5 h (k x1 x2 x3)
theorem ex3a7 {α1 : Sort u1} {α2 : Sort u2} {α3 : Sort u3} {A1 A2 A3 A4 A5 A6 A7 : α1 → α2 → α3 → Prop} {G : Prop} (h : ∃ x1, ∃ x2, ∃ x3, A1 x1 x2 x3 ∧ A2 x1 x2 x3 ∧ A3 x1 x2 x3 ∧ A4 x1 x2 x3 ∧ A5 x1 x2 x3 ∧ A6 x1 x2 x3 ∧ A7 x1 x2 x3) (k : ∀ (x1 : α1) (x2 : α2) (x3 : α3), A1 x1 x2 x3 → A2 x1 x2 x3 → A3 x1 x2 x3 → A4 x1 x2 x3 → A5 x1 x2 x3 → A6 x1 x2 x3 → A7 x1 x2 x3 → G) : G :=
  xe3 h fun x1 x2 x3 h => an7 h (k x1 x2 x3)
theorem ex4a6 {α1 : Sort u1} {α2 : Sort u2} {α3 : Sort u3} {α4 : Sort u4} {A1 A2 A3 A4 A5 A6 : α1 → α2 → α3 → α4 → Prop} {G : Prop} (h : ∃ x1, ∃ x2, ∃ x3, ∃ x4, A1 x1 x2 x3 x4 ∧ A2 x1 x2 x3 x4 ∧ A3 x1 x2 x3 x4 ∧ A4 x1 x2 x3 x4 ∧ A5 x1 x2 x3 x4 ∧ A6 x1 x2 x3 x4) (k : ∀ (x1 : α1) (x2 : α2) (x3 : α3) (x4 : α4), A1 x1 x2 x3 x4 → A2 x1 x2 x3 x4 → A3 x1 x2 x3 x4 → A4 x1 x2 x3 x4 → A5 x1 x2 x3 x4 → A6 x1 x2 x3 x4 → G) : G :=
  xe4 h fun x1 x2 x3 x4 h => an6 h (k x1 x2 x3 x4)
theorem ex4a7 {α1 : Sort u1} {α2 : Sort u2} {α3 : Sort u3} {α4 : Sort u4} {A1 A2 A3 A4 A5 A6 A7 : α1 → α2 → α3 → α4 → Prop} {G : Prop} (h : ∃ x1, ∃ x2, ∃ x3, ∃ x4, A1 x1 x2 x3 x4 ∧ A2 x1 x2 x3 x4 ∧ A3 x1 x2 x3 x4 ∧ A4 x1 x2 x3 x4 ∧ A5 x1 x2 x3 x4 ∧ A6 x1 x2 x3 x4 ∧ A7 x1 x2 x3 x4) (k : ∀ (x1 : α1) (x2 : α2) (x3 : α3) (x4 : α4), A1 x1 x2 x3 x4 → A2 x1 x2 x3 x4 → A3 x1 x2 x3 x4 → A4 x1 x2 x3 x4 → A5 x1 x2 x3 x4 → A6 x1 x2 x3 x4 → A7 x1 x2 x3 x4 → G) : G :=
  xe4 h fun x1 x2 x3 x4 h => an7 h (k x1 x2 x3 x4)
theorem ex5a7 {α1 : Sort u1} {α2 : Sort u2} {α3 : Sort u3} {α4 : Sort u4} {α5 : Sort u5} {A1 A2 A3 A4 A5 A6 A7 : α1 → α2 → α3 → α4 → α5 → Prop} {G : Prop} (h : ∃ x1, ∃ x2, ∃ x3, ∃ x4, ∃ x5, A1 x1 x2 x3 x4 x5 ∧ A2 x1 x2 x3 x4 x5 ∧ A3 x1 x2 x3 x4 x5 ∧ A4 x1 x2 x3 x4 x5 ∧ A5 x1 x2 x3 x4 x5 ∧ A6 x1 x2 x3 x4 x5 ∧ A7 x1 x2 x3 x4 x5) (k : ∀ (x1 : α1) (x2 : α2) (x3 : α3) (x4 : α4) (x5 : α5), A1 x1 x2 x3 x4 x5 → A2 x1 x2 x3 x4 x5 → A3 x1 x2 x3 x4 x5 → A4 x1 x2 x3 x4 x5 → A5 x1 x2 x3 x4 x5 → A6 x1 x2 x3 x4 x5 → A7 x1 x2 x3 x4 x5 → G) : G :=
  xe5 h fun x1 x2 x3 x4 x5 h => an7 h (k x1 x2 x3 x4 x5)
theorem ex5a9 {α1 : Sort u1} {α2 : Sort u2} {α3 : Sort u3} {α4 : Sort u4} {α5 : Sort u5} {A1 A2 A3 A4 A5 A6 A7 A8 A9 : α1 → α2 → α3 → α4 → α5 → Prop} {G : Prop} (h : ∃ x1, ∃ x2, ∃ x3, ∃ x4, ∃ x5, A1 x1 x2 x3 x4 x5 ∧ A2 x1 x2 x3 x4 x5 ∧ A3 x1 x2 x3 x4 x5 ∧ A4 x1 x2 x3 x4 x5 ∧ A5 x1 x2 x3 x4 x5 ∧ A6 x1 x2 x3 x4 x5 ∧ A7 x1 x2 x3 x4 x5 ∧ A8 x1 x2 x3 x4 x5 ∧ A9 x1 x2 x3 x4 x5) (k : ∀ (x1 : α1) (x2 : α2) (x3 : α3) (x4 : α4) (x5 : α5), A1 x1 x2 x3 x4 x5 → A2 x1 x2 x3 x4 x5 → A3 x1 x2 x3 x4 x5 → A4 x1 x2 x3 x4 x5 → A5 x1 x2 x3 x4 x5 → A6 x1 x2 x3 x4 x5 → A7 x1 x2 x3 x4 x5 → A8 x1 x2 x3 x4 x5 → A9 x1 x2 x3 x4 x5 → G) : G :=
  xe5 h fun x1 x2 x3 x4 x5 h => an9 h (k x1 x2 x3 x4 x5)
theorem ex6a7 {α1 : Sort u1} {α2 : Sort u2} {α3 : Sort u3} {α4 : Sort u4} {α5 : Sort u5} {α6 : Sort u6} {A1 A2 A3 A4 A5 A6 A7 : α1 → α2 → α3 → α4 → α5 → α6 → Prop} {G : Prop} (h : ∃ x1, ∃ x2, ∃ x3, ∃ x4, ∃ x5, ∃ x6, A1 x1 x2 x3 x4 x5 x6 ∧ A2 x1 x2 x3 x4 x5 x6 ∧ A3 x1 x2 x3 x4 x5 x6 ∧ A4 x1 x2 x3 x4 x5 x6 ∧ A5 x1 x2 x3 x4 x5 x6 ∧ A6 x1 x2 x3 x4 x5 x6 ∧ A7 x1 x2 x3 x4 x5 x6) (k : ∀ (x1 : α1) (x2 : α2) (x3 : α3) (x4 : α4) (x5 : α5) (x6 : α6), A1 x1 x2 x3 x4 x5 x6 → A2 x1 x2 x3 x4 x5 x6 → A3 x1 x2 x3 x4 x5 x6 → A4 x1 x2 x3 x4 x5 x6 → A5 x1 x2 x3 x4 x5 x6 → A6 x1 x2 x3 x4 x5 x6 → A7 x1 x2 x3 x4 x5 x6 → G) : G :=
  xe6 h fun x1 x2 x3 x4 x5 x6 h => an7 h (k x1 x2 x3 x4 x5 x6)
theorem ex7a13 {α1 : Sort u1} {α2 : Sort u2} {α3 : Sort u3} {α4 : Sort u4} {α5 : Sort u5} {α6 : Sort u6} {α7 : Sort u7} {A1 A2 A3 A4 A5 A6 A7 A8 A9 A10 A11 A12 A13 : α1 → α2 → α3 → α4 → α5 → α6 → α7 → Prop} {G : Prop} (h : ∃ x1, ∃ x2, ∃ x3, ∃ x4, ∃ x5, ∃ x6, ∃ x7, A1 x1 x2 x3 x4 x5 x6 x7 ∧ A2 x1 x2 x3 x4 x5 x6 x7 ∧ A3 x1 x2 x3 x4 x5 x6 x7 ∧ A4 x1 x2 x3 x4 x5 x6 x7 ∧ A5 x1 x2 x3 x4 x5 x6 x7 ∧ A6 x1 x2 x3 x4 x5 x6 x7 ∧ A7 x1 x2 x3 x4 x5 x6 x7 ∧ A8 x1 x2 x3 x4 x5 x6 x7 ∧ A9 x1 x2 x3 x4 x5 x6 x7 ∧ A10 x1 x2 x3 x4 x5 x6 x7 ∧ A11 x1 x2 x3 x4 x5 x6 x7 ∧ A12 x1 x2 x3 x4 x5 x6 x7 ∧ A13 x1 x2 x3 x4 x5 x6 x7) (k : ∀ (x1 : α1) (x2 : α2) (x3 : α3) (x4 : α4) (x5 : α5) (x6 : α6) (x7 : α7), A1 x1 x2 x3 x4 x5 x6 x7 → A2 x1 x2 x3 x4 x5 x6 x7 → A3 x1 x2 x3 x4 x5 x6 x7 → A4 x1 x2 x3 x4 x5 x6 x7 → A5 x1 x2 x3 x4 x5 x6 x7 → A6 x1 x2 x3 x4 x5 x6 x7 → A7 x1 x2 x3 x4 x5 x6 x7 → A8 x1 x2 x3 x4 x5 x6 x7 → A9 x1 x2 x3 x4 x5 x6 x7 → A10 x1 x2 x3 x4 x5 x6 x7 → A11 x1 x2 x3 x4 x5 x6 x7 → A12 x1 x2 x3 x4 x5 x6 x7 → A13 x1 x2 x3 x4 x5 x6 x7 → G) : G :=
  xe7 h fun x1 x2 x3 x4 x5 x6 x7 h => an13 h (k x1 x2 x3 x4 x5 x6 x7)
theorem ex7a14 {α1 : Sort u1} {α2 : Sort u2} {α3 : Sort u3} {α4 : Sort u4} {α5 : Sort u5} {α6 : Sort u6} {α7 : Sort u7} {A1 A2 A3 A4 A5 A6 A7 A8 A9 A10 A11 A12 A13 A14 : α1 → α2 → α3 → α4 → α5 → α6 → α7 → Prop} {G : Prop} (h : ∃ x1, ∃ x2, ∃ x3, ∃ x4, ∃ x5, ∃ x6, ∃ x7, A1 x1 x2 x3 x4 x5 x6 x7 ∧ A2 x1 x2 x3 x4 x5 x6 x7 ∧ A3 x1 x2 x3 x4 x5 x6 x7 ∧ A4 x1 x2 x3 x4 x5 x6 x7 ∧ A5 x1 x2 x3 x4 x5 x6 x7 ∧ A6 x1 x2 x3 x4 x5 x6 x7 ∧ A7 x1 x2 x3 x4 x5 x6 x7 ∧ A8 x1 x2 x3 x4 x5 x6 x7 ∧ A9 x1 x2 x3 x4 x5 x6 x7 ∧ A10 x1 x2 x3 x4 x5 x6 x7 ∧ A11 x1 x2 x3 x4 x5 x6 x7 ∧ A12 x1 x2 x3 x4 x5 x6 x7 ∧ A13 x1 x2 x3 x4 x5 x6 x7 ∧ A14 x1 x2 x3 x4 x5 x6 x7) (k : ∀ (x1 : α1) (x2 : α2) (x3 : α3) (x4 : α4) (x5 : α5) (x6 : α6) (x7 : α7), A1 x1 x2 x3 x4 x5 x6 x7 → A2 x1 x2 x3 x4 x5 x6 x7 → A3 x1 x2 x3 x4 x5 x6 x7 → A4 x1 x2 x3 x4 x5 x6 x7 → A5 x1 x2 x3 x4 x5 x6 x7 → A6 x1 x2 x3 x4 x5 x6 x7 → A7 x1 x2 x3 x4 x5 x6 x7 → A8 x1 x2 x3 x4 x5 x6 x7 → A9 x1 x2 x3 x4 x5 x6 x7 → A10 x1 x2 x3 x4 x5 x6 x7 → A11 x1 x2 x3 x4 x5 x6 x7 → A12 x1 x2 x3 x4 x5 x6 x7 → A13 x1 x2 x3 x4 x5 x6 x7 → A14 x1 x2 x3 x4 x5 x6 x7 → G) : G :=
  xe7 h fun x1 x2 x3 x4 x5 x6 x7 h => an14 h (k x1 x2 x3 x4 x5 x6 x7)
theorem tp4 {α1 : Type u1} {α2 : Type u2} {α3 : Type u3} {α4 : Type u4} {P : α1 × α2 × α3 × α4 → Prop} (k : ∀ x1 x2 x3 x4, P (x1, x2, x3, x4)) : ∀ x, P x := fun (x1, x2, x3, x4) => k x1 x2 x3 x4
theorem tp6 {α1 : Type u1} {α2 : Type u2} {α3 : Type u3} {α4 : Type u4} {α5 : Type u5} {α6 : Type u6} {P : α1 × α2 × α3 × α4 × α5 × α6 → Prop} (k : ∀ x1 x2 x3 x4 x5 x6, P (x1, x2, x3, x4, x5, x6)) : ∀ x, P x := fun (x1, x2, x3, x4, x5, x6) => k x1 x2 x3 x4 x5 x6
theorem tp8 {α1 : Type u1} {α2 : Type u2} {α3 : Type u3} {α4 : Type u4} {α5 : Type u5} {α6 : Type u6} {α7 : Type u7} {α8 : Type u8} {P : α1 × α2 × α3 × α4 × α5 × α6 × α7 × α8 → Prop} (k : ∀ x1 x2 x3 x4 x5 x6 x7 x8, P (x1, x2, x3, x4, x5, x6, x7, x8)) : ∀ x, P x := fun (x1, x2, x3, x4, x5, x6, x7, x8) => k x1 x2 x3 x4 x5 x6 x7 x8
theorem dn1 {n : Nat} : n + 1 ≠ n := Nat.ne_of_gt (Nat.lt_add_of_pos_right (k := 1) (by decide))
theorem dm1 {n : Nat} : n ≠ n + 1 := dn1.symm
theorem dn2 {n : Nat} : n + 1 + 1 ≠ n := Nat.ne_of_gt (Nat.lt_add_of_pos_right (k := 2) (by decide))
theorem dm2 {n : Nat} : n ≠ n + 1 + 1 := dn2.symm
theorem dn3 {n : Nat} : n + 1 + 1 + 1 ≠ n := Nat.ne_of_gt (Nat.lt_add_of_pos_right (k := 3) (by decide))
theorem dm3 {n : Nat} : n ≠ n + 1 + 1 + 1 := dn3.symm
theorem dn4 {n : Nat} : n + 1 + 1 + 1 + 1 ≠ n := Nat.ne_of_gt (Nat.lt_add_of_pos_right (k := 4) (by decide))
theorem dm4 {n : Nat} : n ≠ n + 1 + 1 + 1 + 1 := dn4.symm
theorem dn5 {n : Nat} : n + 1 + 1 + 1 + 1 + 1 ≠ n := Nat.ne_of_gt (Nat.lt_add_of_pos_right (k := 5) (by decide))
theorem dm5 {n : Nat} : n ≠ n + 1 + 1 + 1 + 1 + 1 := dn5.symm
theorem lp0 {m n : Nat} (h : m < n) : m ≠ n := Nat.ne_of_lt h
theorem lq0 {m n : Nat} (h : m < n) : n ≠ m := (lp0 h).symm
theorem lp1 {m n : Nat} (h : m < n) : m ≠ n + 1 := Nat.ne_of_lt (Nat.lt_add_right 1 h)
theorem lq1 {m n : Nat} (h : m < n) : n + 1 ≠ m := (lp1 h).symm
theorem lp2 {m n : Nat} (h : m < n) : m ≠ n + 1 + 1 := Nat.ne_of_lt (Nat.lt_add_right 2 h)
theorem lq2 {m n : Nat} (h : m < n) : n + 1 + 1 ≠ m := (lp2 h).symm
theorem lp3 {m n : Nat} (h : m < n) : m ≠ n + 1 + 1 + 1 := Nat.ne_of_lt (Nat.lt_add_right 3 h)
theorem lq3 {m n : Nat} (h : m < n) : n + 1 + 1 + 1 ≠ m := (lp3 h).symm
theorem lp4 {m n : Nat} (h : m < n) : m ≠ n + 1 + 1 + 1 + 1 := Nat.ne_of_lt (Nat.lt_add_right 4 h)
theorem lq4 {m n : Nat} (h : m < n) : n + 1 + 1 + 1 + 1 ≠ m := (lp4 h).symm
theorem lp5 {m n : Nat} (h : m < n) : m ≠ n + 1 + 1 + 1 + 1 + 1 := Nat.ne_of_lt (Nat.lt_add_right 5 h)
theorem lq5 {m n : Nat} (h : m < n) : n + 1 + 1 + 1 + 1 + 1 ≠ m := (lp5 h).symm
theorem ltcA {u a n c : Nat} (h : u + n < c) (e : a.ble n = true) : u + a < c := Nat.lt_of_le_of_lt (Nat.add_le_add_left (Nat.le_of_ble_eq_true e) u) h
theorem ltcB {u a b n c : Nat} (h : u + n < c) (e : (a + b).ble n = true) : u + a + b < c := by rw [Nat.add_assoc]; exact ltcA h e
theorem ltcC {u a b d n c : Nat} (h : u + n < c) (e : (a + (b + d)).ble n = true) : u + a + b + d < c := by rw [Nat.add_assoc, Nat.add_assoc]; exact ltcA h e
theorem ltc0 {u n c : Nat} (h : u + n < c) : u < c := Nat.lt_of_le_of_lt (Nat.le_add_right u n) h
theorem subS {n i k : Nat} (h : n - i = k + 1) : n - (i + 1) = k := by rw [← Nat.sub_sub, h]; rfl
theorem subL {n i k : Nat} (h : n - i = k + 1) : i < n := Nat.lt_of_sub_eq_succ h
theorem sub0 {n i : Nat} (h : n - i = 0) : n ≤ i := Nat.le_of_sub_eq_zero h
theorem subE {n i : Nat} (h : i < n) : n - i = n - i - 1 + 1 := (Nat.succ_pred_eq_of_pos (Nat.sub_pos_of_lt h)).symm
theorem subD {n i : Nat} (h : i < n) : n + 1 - (i + 1) < n + 1 - i := Nat.sub_succ_lt_self _ _ (Nat.lt_succ_of_lt h)
theorem addA {i k n : Nat} (h : i + (k + 1) = n) : i + 1 + k = n := (Nat.succ_add_eq_add_succ i k).trans h
theorem addS {i k n : Nat} (h : i + (k + 1) = n) : n - (i + 1) = k := by rw [← addA h]; exact Nat.add_sub_cancel_left _ _
theorem addL {i k n : Nat} (h : i + (k + 1) = n) : i < n := h ▸ Nat.lt_add_of_pos_right (Nat.succ_pos k)
theorem minL1 {a b i k : Nat} (h : min a b - i = k + 1) : i < a := Nat.lt_of_lt_of_le (subL h) (Nat.min_le_left _ _)
theorem minL2 {a b i k : Nat} (h : min a b - i = k + 1) : i < b := Nat.lt_of_lt_of_le (subL h) (Nat.min_le_right _ _)
theorem lt63 {a n : Nat} (h : a < n) (k : n ≤ 1000) : (a : Int) < 2 ^ 63 := Int.lt_of_lt_of_le (Int.ofNat_lt.mpr (Nat.lt_of_lt_of_le h k)) (by decide)
theorem nn {a : Nat} : (0 : Int) ≤ (a : Int) := Int.natCast_nonneg a
theorem half_le {p : Nat} : (p - 1) / 2 ≤ p := Nat.le_trans (Nat.div_le_self _ _) (Nat.sub_le _ _)
theorem half_lt {p : Nat} (h : 0 < p) : (p - 1) / 2 < p := Nat.lt_of_le_of_lt (Nat.div_le_self _ _) (Nat.sub_lt h Nat.one_pos)
theorem predE {p : Nat} (h : 0 < p) : p = p - 1 + 1 := (Nat.succ_pred_eq_of_pos h).symm
theorem suA {n p f : Nat} (h : n ≤ f + 1 + p) : n ≤ f + (2 * p + 1) ∧ n ≤ f + (2 * p + 1 + 1) := by omega
theorem suB {q p : Nat} (h : q ≤ p) : q ≤ 2 * p + 1 ∧ q ≤ 2 * p + 1 + 1 := by omega
theorem i21 {p : Nat} : 2 * (p : Int) + 1 = ((2 * p + 1 : Nat) : Int) := rfl
theorem i22 {p : Nat} : 2 * (p : Int) + 1 + 1 = ((2 * p + 1 + 1 : Nat) : Int) := rfl
theorem posI {a b : Nat} (h : (a : Int) < (b : Int)) : 0 < b := Nat.lt_of_le_of_lt (Nat.zero_le _) (Int.ofNat_lt.mp h)
theorem dbl_lt {p : Nat} : p < 2 * p + 1 ∧ p < 2 * p + 1 + 1 := by omega
theorem minOr {a b i : Nat} (h : min a b - i = 0) : a ≤ i ∨ b ≤ i := (Nat.le_total a b).imp (fun e => Nat.le_trans (Nat.le_of_eq (Nat.min_eq_left e).symm) (sub0 h)) (fun e => Nat.le_trans (Nat.le_of_eq (Nat.min_eq_right e).symm) (sub0 h))
end Mine
end O1Part
section C0Part
namespace Mine
noncomputable abbrev Ar (dp un : Nat) (gd : Option (List Code)) (fr : List Env) : Around := { handled := none, depth := dp, frames := some fr, guards := gd, units := un }
/-- what stands at a heap that a call starts from -/
structure St (w : World) (mean : ExcName → Option Value) (mg mb : Str → Option Value) (h : Heap) : Prop where
  X : (hd.heap_1 w.params).In h
  T : Top hd.view_1 (looseW hd.view_1 []) mean mg mb h
section
variable {w : World} {mean : ExcName → Option Value} {mg mb : Str → Option Value} {dp un : Nat} {gd : Option (List Code)} {base : Heap} {fr : List Env} {s : Shared}
  {R : Result → Shared → Prop} {name qual : Str} {params : Arguments} {body : List Stmt} {scope : Scope} {dV kV doc pm cdv ct oc : Value} {an od : Option Addr} {osl : Array (Option Value)} {f : Addr} {args : Args} {binds : List (Str × Value)}
  {muts : List (Addr × Obj)}
theorem enter (S : St w mean mg mb (hideAll s.heap (muts.map (·.1))))
    (ho : (hd.heap_1 w.params).lookup f = some ⟨oc, od, .func (fnOf name qual params body scope dV kV doc pm an cdv ct), osl⟩) (hcd : codeIn (hd.heap_1 w.params) cdv qual = true) (hroom : dp < recursionLimit)
    (hbind : BindsTo s (fnOf name qual params body scope dV kV doc pm an cdv ct) args binds) (hloc : ∀ y ∈ binds, scope.names.lookup y.1 = some .local)
    (hm : ∀ p ∈ muts, s.heap.get? p.1 = some p.2)
    (h : ∀ L' h₁, Fr (hideAll s.heap (muts.map (·.1))) L' h₁ (fun y => binds.reverse.lookup y) → News (hideAll s.heap (muts.map (·.1))) L' h₁ muts →
      wpAny (model PySem.Challenge.rw_pd0148_01.row.prog w) ((Ar dp un gd fr).deeper (envOf qual scope L' f cdv)) (execs body (envOf qual scope L' f cdv))
        (fun fl s' => R (.ok (.ret (match fl with | .ret v => v | _ => .none))) s')
        (fun e s' => wpAny (model PySem.Challenge.rw_pd0148_01.row.prog w) ((Ar dp un gd fr).deeper (envOf qual scope L' f cdv)) (leaving (envOf qual scope L' f cdv) e) (fun _ s'' => R (.error e) s'') (fun e' s'' => R (.error e') s'') s')
        { s with heap := h₁, toks := s.toks + binds.length })
    (hco : scope.isCoroutine = false) (hgen : scope.isGenerator = false) (hk : scope.kind = .function)
    (hcell : ∀ x ∈ scope.names, x.2 ≠ .cell) : codeAny (model PySem.Challenge.rw_pd0148_01.row.prog w) (Ar dp un gd fr) (.call (.ref f) args) R s := by
  have k : ∀ b o, (hideAll s.heap (muts.map (·.1))).get? b = some o → s.heap.get? b = some o := fun b o e => of_hideAll _ e
  have T' := S.T.keeps k
  have X' := S.X.keeps k
  refine codeAny_call_def (fd := fnOf name qual params body scope dV kV doc pm an cdv ct) (body := body) (binds := binds) hroom (X' _ _ ho) rfl T'.nolimit (codeRec_of X' hcd) rfl hbind hcell hloc (fun h₁ hns hk₁ => ?_) hco hgen hk
  exact h s.heap.objs.size h₁ ⟨hns, fun b o e => hk₁ b o (of_hideAll _ e), Nat.le_of_eq (hideAll_size _ _)⟩
    (fun p hp => ⟨hk₁ _ _ (hm p hp), Nat.ne_of_lt (Heap.lt_size (hm p hp)), hideAll_none _ (List.mem_map_of_mem hp)⟩)
/-- a def with *rest: the rest's tuple is one new object -/
theorem enter_rest {bindsD : Addr → List (Str × Value)} {vs : List Value} (S : St w mean mg mb s.heap)
    (ho : (hd.heap_1 w.params).lookup f = some ⟨oc, od, .func (fnOf name qual params body scope dV kV doc pm an cdv ct), osl⟩) (hcd : codeIn (hd.heap_1 w.params) cdv qual = true) (hroom : dp < recursionLimit)
    (hbind : ∀ (M : Model) (A : Around) (E : Value → Shared → Prop) (Q : List (Str × Value) → Shared → Prop),
      Q (bindsD s.heap.objs.size) { s with heap := s.heap.push { cls := .type "tuple", data := .seq vs.toArray } } → wpAny M A (bindArgs (fnOf name qual params body scope dV kV doc pm an cdv ct) args) Q E s)
    (hloc : ∀ D, ∀ y ∈ bindsD D, scope.names.lookup y.1 = some .local)
    (h : ∀ D L' h₁, Fr s.heap L' h₁ (fun y => (bindsD D).reverse.lookup y) → News s.heap L' h₁ [(D, { cls := .type "tuple", data := .seq vs.toArray })] →
      wpAny (model PySem.Challenge.rw_pd0148_01.row.prog w) ((Ar dp un gd fr).deeper (envOf qual scope L' f cdv)) (execs body (envOf qual scope L' f cdv))
        (fun fl s' => R (.ok (.ret (match fl with | .ret v => v | _ => .none))) s')
        (fun e s' => wpAny (model PySem.Challenge.rw_pd0148_01.row.prog w) ((Ar dp un gd fr).deeper (envOf qual scope L' f cdv)) (leaving (envOf qual scope L' f cdv) e) (fun _ s'' => R (.error e) s'') (fun e' s'' => R (.error e') s'') s')
        { s with heap := h₁, toks := s.toks + (bindsD D).length })
    (hco : scope.isCoroutine = false) (hgen : scope.isGenerator = false) (hk : scope.kind = .function)
    (hcell : ∀ x ∈ scope.names, x.2 ≠ .cell) : codeAny (model PySem.Challenge.rw_pd0148_01.row.prog w) (Ar dp un gd fr) (.call (.ref f) args) R s := by
  refine codeAny_call_function (fd := fnOf name qual params body scope dV kV doc pm an cdv ct) (body := body) hroom (S.X _ _ ho) rfl hco hgen rfl (codeRec_of S.X hcd) (hbind _ _ _ _ ?_)
  have kp : ∀ b o, s.heap.get? b = some o → (s.heap.push { cls := .type "tuple", data := .seq vs.toArray }).get? b = some o := fun b o e => Heap.get?_push_of_some _ e
  refine wpAny_newFunctionEnv hcell (hloc _) (fun h₁ hns hsb => ⟨(S.T.nolimit.keeps kp).fresh _ hsb, codeAny_func ?_⟩) hk
  have hk₁ : ∀ b o, (s.heap.push { cls := .type "tuple", data := .seq vs.toArray }).get? b = some o → h₁.get? b = some o := fun b o e => hsb.extBut b o (Nat.ne_of_lt (Heap.lt_size e)) (Heap.get?_push_of_some _ e)
  refine h s.heap.objs.size _ h₁ ⟨hns, fun b o e => hk₁ b o (kp b o e), ?_⟩ fun p hp => ?_
  · show s.heap.objs.size ≤ (s.heap.push _).objs.size
    rw [Heap.size_push]; exact Nat.le_succ _
  · cases hp with
    | head =>
      refine ⟨hk₁ _ _ (Heap.get?_push_size _ rfl), ?_, Heap.get?_none_of_le (Nat.le_refl _)⟩
      show s.heap.objs.size ≠ (s.heap.push _).objs.size
      rw [Heap.size_push]; exact Nat.ne_of_lt (Nat.lt_succ_self _)
    | tail _ hp => cases hp
/-- a def with cells -/
theorem enterC (S : St w mean mg mb (hideAll s.heap (muts.map (·.1))))
    (ho : (hd.heap_1 w.params).lookup f = some ⟨oc, od, .func (fnOf name qual params body scope dV kV doc pm an cdv ct), osl⟩) (hcd : codeIn (hd.heap_1 w.params) cdv qual = true) (hroom : dp < recursionLimit)
    (hbind : BindsTo s (fnOf name qual params body scope dV kV doc pm an cdv ct) args binds)
    (hkind : (binds.all fun y => scope.names.lookup y.1 == some .local || scope.names.lookup y.1 == some .cell) = true)
    (hnd : ((cellsFrom 0 scope.names []).map (·.1)).Nodup)
    (hm : ∀ p ∈ muts, s.heap.get? p.1 = some p.2)
    (h : ∀ L' h₁ tk cells, Fr (hideAll s.heap (muts.map (·.1))) L' h₁ (bindL (envOfC qual scope L' f cdv).kindOf binds fun _ => none) → News (hideAll s.heap (muts.map (·.1))) L' h₁ (cells ++ muts) →
      CellsAre (bindC (envOfC qual scope L' f cdv).kindOf binds fun _ => none) (cellsFrom (L' + 1) scope.names []) cells → (∀ p ∈ muts, p.1 < L') →
      wpAny (model PySem.Challenge.rw_pd0148_01.row.prog w) ((Ar dp un gd fr).deeper (envOfC qual scope L' f cdv)) (execs body (envOfC qual scope L' f cdv))
        (fun fl s' => R (.ok (.ret (match fl with | .ret v => v | _ => .none))) s')
        (fun e s' => wpAny (model PySem.Challenge.rw_pd0148_01.row.prog w) ((Ar dp un gd fr).deeper (envOfC qual scope L' f cdv)) (leaving (envOfC qual scope L' f cdv) e) (fun _ s'' => R (.error e) s'') (fun e' s'' => R (.error e') s'') s')
        { s with heap := h₁, toks := tk })
    (hco : scope.isCoroutine = false) (hgen : scope.isGenerator = false) (hk : scope.kind = .function) : codeAny (model PySem.Challenge.rw_pd0148_01.row.prog w) (Ar dp un gd fr) (.call (.ref f) args) R s := by
  have k : ∀ b o, (hideAll s.heap (muts.map (·.1))).get? b = some o → s.heap.get? b = some o := fun b o e => of_hideAll _ e
  have T' := S.T.keeps k
  have X' := S.X.keeps k
  refine codeAny_call_function (fd := fnOf name qual params body scope dV kV doc pm an cdv ct) (body := body) hroom (X' _ _ ho) rfl hco hgen rfl (codeRec_of X' hcd) (hbind _ _ _ _ ?_)
  refine wpAny_newFunctionEnv_cells hk (kindsX hkind _) fun env' he s' x => ?_
  subst he
  refine ⟨T'.nolimit.keeps x.toInCall.keep, codeAny_func ?_⟩
  obtain ⟨h₁, tk, rfl, _⟩ := x.done
  have hk₁ := x.toInCall.keep
  obtain ⟨cells, NC, Y⟩ := Cl.news (h₀ := s.heap) (Nat.le_refl _) fun n c hm => ⟨x.cell n c (lookup_of_mem_nodup (cellsFrom_names scope.names 0 (s.heap.objs.size + 1) [] [] rfl ▸ hnd) hm), x.above n c hm⟩
  refine h s.heap.objs.size h₁ tk cells ⟨x.toInCall.ns, fun b o e => hk₁ b o (k b o e), Nat.le_of_eq (hideAll_size _ _)⟩ (fun p hp => ?_) Y (fun p hp => Heap.lt_size (hm p hp))
  rcases List.mem_append.mp hp with hp | hp
  · refine ⟨(NC p hp).1, (NC p hp).2.1, ?_⟩
    cases q : (hideAll s.heap (muts.map (·.1))).get? p.1 with
    | none => rfl
    | some o => have := k _ _ q; rw [(NC p hp).2.2] at this; cases this
  · exact ⟨hk₁ _ _ (hm p hp), Nat.ne_of_lt (Heap.lt_size (hm p hp)), hideAll_none _ (List.mem_map_of_mem hp)⟩
theorem St.keeps {w : World} {mean : ExcName → Option Value} {mg mb : Str → Option Value} {h h' : Heap}
    (S : St w mean mg mb h) (k : ∀ b o, h.get? b = some o → h'.get? b = some o) : St w mean mg mb h' :=
  ⟨S.X.keeps k, S.T.keeps k⟩
theorem St.push {w : World} {mean : ExcName → Option Value} {mg mb : Str → Option Value} {h₀ h : Heap} {L : Addr} {m : Str → Option Value}
    (X : (hd.heap_1 w.params).In h₀) (T : Top hd.view_1 (looseW hd.view_1 []) mean mg mb h₀) (F : Fr h₀ L h m) : St w mean mg mb h :=
  ⟨X.keeps F.keep, T.keeps F.keep⟩
theorem News.sub {h₀ h : Heap} {L : Addr} {news news' : List (Addr × Obj)} (N : News h₀ L h news) (k : ∀ p ∈ news', p ∈ news) : News h₀ L h news' := fun p hp => N p (k p hp)
/-- the same, for a call that may change some made objects -/
theorem St.pushHide {w : World} {mean : ExcName → Option Value} {mg mb : Str → Option Value} {h₀ h : Heap} {L : Addr} {m : Str → Option Value} {muts : List (Addr × Obj)}
    (X : (hd.heap_1 w.params).In h₀) (T : Top hd.view_1 (looseW hd.view_1 []) mean mg mb h₀) (F : Fr h₀ L h m) (N : News h₀ L h muts) :
    St w mean mg mb (hideAll h (muts.map (·.1))) := by
  have st : ∀ b o, h₀.get? b = some o → (hideAll h (muts.map (·.1))).get? b = some o := fun b o e => hideAll_get _ (F.keep b o e) fun q => by
    obtain ⟨p, hp, rfl⟩ := List.mem_map.mp q
    rw [(N p hp).2.2] at e; cases e
  exact ⟨X.keeps st, T.keeps st⟩
/-- a place where the walk shall stop -/
noncomputable def Halt (P : Prop) : Prop := P
theorem Halt.mk {P : Prop} (h : Halt P) : P := h
theorem Fr.afterHide {h₀ h h' : Heap} {L : Addr} {m : Str → Option Value} {muts : List (Addr × Obj)} (F : Fr h₀ L h m) (N : News h₀ L h muts)
    (k : ∀ c o, (hideAll h (muts.map (·.1))).get? c = some o → h'.get? c = some o) : Fr h₀ L h' m := by
  obtain ⟨oL, es, ep, hL, hLd, hLk, hLf⟩ := F.ns
  refine ⟨⟨oL, es, ep, k _ _ (hideAll_get _ hL fun q => ?_), hLd, hLk, hLf⟩, fun c o e => k _ _ (hideAll_get _ (F.keep c o e) fun q => ?_), F.above⟩
  · obtain ⟨p, hp, e⟩ := List.mem_map.mp q
    exact (N p hp).2.1 e
  · obtain ⟨p, hp, e'⟩ := List.mem_map.mp q
    have := (N p hp).2.2
    rw [e', e] at this; cases this
theorem News.afterHide {h₀ h h' : Heap} {L : Addr} {muts rest : List (Addr × Obj)} (N : News h₀ L h rest) (ap : ∀ p ∈ rest, ∀ q ∈ muts, p.1 ≠ q.1)
    (k : ∀ c o, (hideAll h (muts.map (·.1))).get? c = some o → h'.get? c = some o) : News h₀ L h' rest := fun p hp =>
  ⟨k _ _ (hideAll_get _ (N p hp).1 fun q => by
    obtain ⟨r, hr, e⟩ := List.mem_map.mp q
    exact ap p hp r hr e.symm), (N p hp).2⟩
theorem Fr.ne_size {h₀ h : Heap} {L : Addr} {m : Str → Option Value} (F : Fr h₀ L h m) : L ≠ h.objs.size :=
  let ⟨_, _, _, hL, _⟩ := F.ns; Nat.ne_of_lt (Heap.lt_size hL)
theorem Fr.none_size {h₀ h : Heap} {L : Addr} {m : Str → Option Value} (F : Fr h₀ L h m) : h₀.get? h.objs.size = none := by
  cases q : h₀.get? h.objs.size with
  | none => rfl
  | some o => exact absurd (Heap.lt_size (F.keep _ _ q)) (Nat.lt_irrefl _)
theorem News.pushed {h₀ h : Heap} {L : Addr} {m : Str → Option Value} {news : List (Addr × Obj)} (F : Fr h₀ L h m) (N : News h₀ L h news) (o : Obj) (hf : o.isFreed = false := by rfl) : News h₀ L (h.push o) news :=
  fun p hp => News.push F N o hf p (.tail _ hp)
end
/-- the turn's end held behind a name: the walk's terms carry the name alone -/
theorem genK {M : Model} {A : Around} {E : Value → Shared → Prop} {s s₀ : Shared} {env : Env} {h₀ : Heap} {L : Addr} {σ : Type} {body : List Stmt} {m₀ : Str → Option Value} {Led : σ → List (Addr × Obj)} {ps : σ → List (Str × Value)}
    {Facts : σ → Prop} {stored : List Str} {P : σ → Prop} {μ : σ → Nat} {Q : Flow → Shared → Prop} {c : σ}
    (h : ∀ Q' : Flow → Shared → Prop, (∀ f s', KswPost h₀ L s₀ Led ps Facts stored m₀ P μ Q c f s' → Q' f s') → wpAny M A (execs body env) Q' E s) :
    wpAny M A (execs body env) (KswPost h₀ L s₀ Led ps Facts stored m₀ P μ Q c) E s := h _ fun _ _ x => x
noncomputable def Held (P : Prop) : Prop := P
theorem genH {α : Type} {M : Model} {A : Around} {p : Sem α} {Q : α → Shared → Prop} {E : Value → Shared → Prop} {s : Shared} (h : ∀ Q' : α → Shared → Prop, Held (∀ v s', Q v s' → Q' v s') → wpAny M A p Q' E s) : wpAny M A p Q E s := h Q fun _ _ x => x
theorem Held.out {α : Type} {Q Q' : α → Shared → Prop} (h : Held (∀ v s', Q v s' → Q' v s')) : ∀ v s', Q v s' → Q' v s' := h
noncomputable def HeldE (P : Prop) : Prop := P
theorem genT {M : Model} {A : Around} {body : List Stmt} {env : Env} {hs : List ExceptHandler} {Q Q' : Flow → Shared → Prop} {E : Value → Shared → Prop} {s : Shared}
    (p : PassesOwn M A env (fun e s₁ => wpAny M A (noteFrame e env) (fun _ s₂ => wpAny M A (setFlight e none) (fun _ s₃ => wpAny M A (handleBy e env hs) Q' E s₃) E s₂) E s₁))
    (h : ∀ E' : Value → Shared → Prop, PassesOwn M A env E' → HeldE (∀ e s', wpAny M A (noteFrame e env) (fun _ s₂ => wpAny M A (setFlight e none) (fun _ s₃ => wpAny M A (handleBy e env hs) Q' E s₃) E s₂) E s' → E' e s') → wpAny M A (execs body env) Q E' s) :
    wpAny M A (execs body env) Q (fun e s₁ => wpAny M A (noteFrame e env) (fun _ s₂ => wpAny M A (setFlight e none) (fun _ s₃ => wpAny M A (handleBy e env hs) Q' E s₃) E s₂) E s₁) s := h _ p fun _ _ x => x
theorem HeldE.out {R E' : Value → Shared → Prop} (h : HeldE (∀ e s', R e s' → E' e s')) : ∀ e s', R e s' → E' e s' := h
theorem Fr.rebase {h₀ h : Heap} {L : Addr} {m : Str → Option Value} (F : Fr h₀ L h m) (ps : List (Str × Value)) (hp : ∀ p ∈ ps, m p.1 = some p.2) : ∃ u, Fr h₀ L h (kstB u ps) :=
  ⟨m, by rw [show kstB m ps = m from funext fun z => kstB_eq hp fun _ => rfl]; exact F⟩
end Mine
end C0Part
section B1Part
namespace Mine
section
variable {prog : Program} {w : World} {A : Around} {E : Value → Shared → Prop} {s : Shared}
theorem ty_str : typeOf (.type "str") = pure (.type "type") := by kernel_rfl
theorem sub_str : isSubtype (.type "str") (.type "str") = pure true := by rw [isSubtype_type]; kernel_rfl
theorem kind_isn : builtinKind "issubclass.nested" = none := by decide +kernel
theorem plain_isn : plainId "issubclass.nested" = true := by decide +kernel
theorem args_isn (a b c : Value) : argsOk "issubclass.nested" ⟨[a, b, c], []⟩ := by unfold argsOk; kernel_rfl
theorem isn_str (dep : Int) (tk : Tok) : Meets (Builtin.«issubclass.nested» ⟨[.type "str", .type "str", .int dep tk], []⟩) (fun _ R s => R (.ok (.ret (.bool true))) s) := by
  intro prog w A R s hs
  have f1 := ty_str
  have f2 := sub_str
  repeat (any_goals (first | assumption | wp_step))
theorem code_function_meets {id : String} {B : Builtin} {args : List Value} {S : PySem.Spec} {R : Result → Shared → Prop} (kind : builtinKind id = none) (plain : plainId id = true)
    (entry : entryFor table id = some B) (ok : argsOk id ⟨args, []⟩) (g : Meets (B ⟨args, []⟩) S) (h : S A R s) : codeAny (model prog w) A (.call (.builtin id) ⟨args, []⟩) R s := by
  refine codeAny_call_builtin plain entry ?_
  have hfin := g prog w A R s h
  simp only [checkBuiltinCall, kind]
  cases hsig : Manifest.signature? id with
  | none => exact wpAny_pure hfin
  | some sig =>
    simp only [argsOk, hsig] at ok
    have h2 : PySem.Bind.checkArgs id sig ⟨args, []⟩ = pure () := ok
    show wpAny _ _ (PySem.Bind.checkArgs id sig ⟨args, []⟩) _ _ s
    rw [h2]; exact wpAny_pure hfin
theorem isn_tuple {tp : Addr} {c : Value} {tk : Tok} {Q : PySem.Fin → Shared → Prop}
    (htp : s.heap.get? tp = some { cls := .type "tuple", data := .seq #[.type "str", c] })
    (hq : Q (.done (.ret (.bool true))) s) :
    wpAny (model prog w) A (Builtin.«issubclass.nested» ⟨[.type "str", .ref tp, .int 0 tk], []⟩) Q E s := by
  obtain ⟨h, g, d, t, os⟩ := s
  have hT2 : (⟨h, g, d, t, os⟩ : Shared).TypeIs (.ref tp) "tuple" := ⟨_, htp, rfl⟩
  have f1 := F.isi_sub_tuple
  repeat (any_goals (first | assumption | wp_step))
  refine code_function_meets kind_isn plain_isn F.entry_issubclass_nested (args_isn _ _ _) (isn_str _ _) ?_
  dsimp only
  repeat (any_goals (first | assumption | wp_step))
theorem issub_str {tp : Addr} {c : Value} {Q : Value → Shared → Prop}
    (htp : s.heap.get? tp = some { cls := .type "tuple", data := .seq #[.type "str", c] })
    (hq : Q (.bool true) s) :
    wpAny (model prog w) A (call (.builtin "issubclass") [.type "str", .ref tp]) Q E s :=
  call_issubclass (S := fun _ R s => s.heap.get? tp = some { cls := .type "tuple", data := .seq #[.type "str", c] } ∧ R (.ok (.ret (.bool true))) s)
    (fun _ _ _ _ _ hs => issubclass_outer (isn_tuple hs.1 hs.2)) ⟨htp, hq⟩
end
end Mine
end B1Part
section B2Part
namespace Mine
set_option linter.unusedVariables false
/-- list < list from place i on: e j: the items at j are equal; l j: the first is less -/
noncomputable def lexAt (e l : Nat → Bool) (m n : Nat) : Nat → Nat → Bool
  | 0, _ => decide (m < n)
  | k + 1, i => if e i then lexAt e l m n k (i + 1) else l i
section
open AutoSeq1 (wpAny_loadPart')
open MeetsSeq3 (plain_eq_loop entry_eq_loop)
open SeqAt (EqAt)
theorem lt_loopAt (l b : Addr) (items items2 : Array Value) (n n2 : Nat) (e lt : Nat → Bool) (k : Nat) :
    ∀ i : Nat, min items.size items2.size - i = k → Meets (Builtin.«list.__eq__.loop» ⟨[.ref l, .ref b, rawInt i, rawInt 0], []⟩)
      (fun A R s => s.heap.get? l = some { cls := .type "list", data := .seq items n } ∧ s.heap.get? b = some { cls := .type "list", data := .seq items2 n2 } ∧
        (∀ j (h1 : j < items.size) (h2 : j < items2.size), EqAt A.in1 s items[j] items2[j] (e j)) ∧
        (∀ j (h1 : j < items.size) (h2 : j < items2.size), e j = false → ∀ (prog : Program) (w : World) (E : Value → Shared → Prop) (Q : Value → Shared → Prop), Q (.bool (lt j)) s → wpAny (model prog w) A.in1 (richCompare .Lt items[j] items2[j]) Q E s) ∧
        R (.ok (.ret (.bool (lexAt e lt items.size items2.size k i)))) s) := by
  induction k with
  | zero =>
    intro i hk prog w A R s h
    obtain ⟨hp, g, d, tk, os⟩ := s; obtain ⟨hl, hb, he, hlt', h⟩ := h
    wp_walk using wpAny_loadPart' hl, wpAny_loadPart' hb
    have hi : items[((i : Nat) : Int).toNat]? = none ∨ items2[((i : Nat) : Int).toNat]? = none := by
      simp only [Int.toNat_natCast, Array.getElem?_eq_none_iff]
      exact minOr hk
    have fin : wpAny (model prog w) A.in1 (do let a ← Builtin.List.listItems (Value.ref l); let c ← Builtin.List.listItems (Value.ref b); ret (.bool (decide (a.size < c.size)))) (fun fin s' => match fin with | .done f => R (.ok f) s' | .again c' => c'.quiet = true ∧ codeAny (model prog w) A c' R s') (fun e s' => R (.error e) s') ⟨hp, g, d, tk, os⟩ := by
      wp_walk using wpAny_loadPart' hl, wpAny_loadPart' hb
      exact h
    rcases hi with hi | hi
    · rw [hi]
      exact fin
    · rw [hi]
      cases items[((i : Nat) : Int).toNat]? <;> exact fin
  | succ k ih =>
    intro i hk prog w A R s h
    obtain ⟨hp, g, d, tk, os⟩ := s; obtain ⟨hl, hb, he, hlt', h⟩ := h
    wp_walk using wpAny_loadPart' hl, wpAny_loadPart' hb
    have hlt : i < items.size := minL1 hk
    have hlt2 : i < items2.size := minL2 hk
    have hi1 : items[((i : Nat) : Int).toNat]? = some items[i] := by simp [hlt]
    have hi2 : items2[((i : Nat) : Int).toNat]? = some items2[i] := by simp [hlt2]
    have hc : ((i : Int) + 1) = ((i + 1 : Nat) : Int) := by push_cast; rfl
    unfold lexAt at h
    rw [hi1, hi2]
    refine wpAny_bind (he i hlt hlt2 prog w _ _ ?_)
    cases hb' : e i with
    | true =>
      rw [hb'] at h
      wp_walk
      rw [hc]
      exact ⟨plainId_quiet plain_eq_loop _, codeAny_builtin entry_eq_loop (by
        rw [Around.under_plainId plain_eq_loop _]
        exact ih (i + 1) (subS hk) prog w A R _ ⟨hl, hb, he, hlt', by simpa using h⟩)⟩
    | false =>
      rw [hb'] at h
      wp_walk using wpAny_loadPart' hl, wpAny_loadPart' hb
      rw [hi1, hi2]
      refine wpAny_bind (hlt' i hlt hlt2 hb' prog w _ _ ?_)
      exact wpAny_pure (by simpa using h)
theorem list_ltAt (l b : Addr) (items items2 : Array Value) (n n2 : Nat) (e lt : Nat → Bool) :
    Meets (Builtin.«list.__lt__» ⟨[.ref l, .ref b], []⟩)
      (fun A R s => s.heap.get? l = some { cls := .type "list", data := .seq items n } ∧ s.heap.get? b = some { cls := .type "list", data := .seq items2 n2 } ∧
        (∀ j (h1 : j < items.size) (h2 : j < items2.size), EqAt A.in1 s items[j] items2[j] (e j)) ∧
        (∀ j (h1 : j < items.size) (h2 : j < items2.size), e j = false → ∀ (prog : Program) (w : World) (E : Value → Shared → Prop) (Q : Value → Shared → Prop), Q (.bool (lt j)) s → wpAny (model prog w) A.in1 (richCompare .Lt items[j] items2[j]) Q E s) ∧
        R (.ok (.ret (.bool (lexAt e lt items.size items2.size (min items.size items2.size) 0)))) s) := by
  intro prog w A R s h
  obtain ⟨hp, g, d, tk, os⟩ := s; obtain ⟨hl, hb, he, hlt, h⟩ := h
  have f3 := AutoSeq1.sub_list_list
  wp_walk using wpAny_loadPart' hl, wpAny_loadPart' hb
  exact ⟨plainId_quiet plain_eq_loop _, codeAny_builtin entry_eq_loop (by
    rw [Around.under_plainId plain_eq_loop _]
    exact lt_loopAt l b items items2 n n2 e lt _ 0 rfl prog w A R _ ⟨hl, hb, he, hlt, by simpa using h⟩)⟩
end
end Mine
end B2Part
section P1Part
namespace Mine
set_option linter.unusedVariables false
/-- the order of the heap's items: by text, of like ones by number -/
noncomputable def keyLt (a b : Str × Int) : Bool := if a.1 = b.1 then decide (a.2 < b.2) else decide (a.1.cps.toList < b.1.cps.toList)
section
variable {α : Type}
/-- _siftdown's loop, new the item that goes up -/
noncomputable def sdF (lt : α → α → Bool) (new : α) (start : Nat) : Nat → List α → Nat → List α
  | 0, hs, pos => hs.set pos new
  | f + 1, hs, pos => if start < pos then (match hs[(pos - 1) / 2]? with
      | some par => if lt new par then sdF lt new start f (hs.set pos par) ((pos - 1) / 2) else hs.set pos new
      | none => hs.set pos new) else hs.set pos new
noncomputable def siftdown (lt : α → α → Bool) (hs : List α) (start pos : Nat) : List α := match hs[pos]? with
  | some new => sdF lt new start pos hs pos
  | none => hs
/-- the child that goes up -/
noncomputable def childF (lt : α → α → Bool) (hs : List α) (c : Nat) : Nat := match hs[c]?, hs[c + 1]? with
  | some x, some y => if lt x y then c else c + 1
  | _, _ => c
noncomputable def suF (lt : α → α → Bool) : Nat → List α → Nat → List α × Nat
  | 0, hs, pos => (hs, pos)
  | f + 1, hs, pos => if 2 * pos + 1 < hs.length then
      let c := childF lt hs (2 * pos + 1)
      (match hs[c]? with
        | some x => suF lt f (hs.set pos x) c
        | none => (hs, pos)) else (hs, pos)
noncomputable def siftup (lt : α → α → Bool) (hs : List α) (pos : Nat) : List α := match hs[pos]? with
  | some new => let r := suF lt hs.length hs pos; siftdown lt (r.1.set r.2 new) pos r.2
  | none => hs
noncomputable def heapifyF (lt : α → α → Bool) (hs : List α) : List α := (List.range (hs.length / 2)).reverse.foldl (fun h i => siftup lt h i) hs
noncomputable def heappopF (lt : α → α → Bool) (hs : List α) : Option (α × List α) := match hs.getLast? with
  | none => none
  | some last => match hs.dropLast with
    | [] => some (last, [])
    | x :: r => some (x, siftup lt (last :: r) 0)
noncomputable def popAll (lt : α → α → Bool) : Nat → List α → List α
  | 0, _ => []
  | n + 1, hs => match heappopF lt hs with
    | none => []
    | some (x, r) => x :: popAll lt n r
theorem sdF_up {lt : α → α → Bool} {new par : α} {start f pos : Nat} {hs : List α} (h : start < pos) (hp : hs[(pos - 1) / 2]? = some par) (hl : lt new par = true) :
    sdF lt new start (f + 1) hs pos = sdF lt new start f (hs.set pos par) ((pos - 1) / 2) := by
  rw [sdF, if_pos h, hp]
  dsimp only
  rw [if_pos hl]
theorem sdF_not {lt : α → α → Bool} {new par : α} {start f pos : Nat} {hs : List α} (hp : hs[(pos - 1) / 2]? = some par) (hl : lt new par = false) :
    sdF lt new start f hs pos = hs.set pos new := by
  cases f with
  | zero => rfl
  | succ f =>
    rw [sdF, hp]
    dsimp only
    simp [hl]
theorem sdF_end {lt : α → α → Bool} {new : α} {start f pos : Nat} {hs : List α} (h : ¬ start < pos) :
    sdF lt new start f hs pos = hs.set pos new := by
  cases f with
  | zero => rfl
  | succ f => rw [sdF, if_neg h]
theorem sdF_len (lt : α → α → Bool) (new : α) (start : Nat) : ∀ (f : Nat) (hs : List α) (pos : Nat), (sdF lt new start f hs pos).length = hs.length
  | 0, hs, pos => by simp [sdF]
  | f + 1, hs, pos => by
    unfold sdF
    split
    · split
      · split
        · rw [sdF_len lt new start f]; simp
        · simp
      · simp
    · simp
theorem siftdown_len (lt : α → α → Bool) (hs : List α) (start pos : Nat) : (siftdown lt hs start pos).length = hs.length := by
  unfold siftdown
  split
  · exact sdF_len ..
  · rfl
theorem suF_up {lt : α → α → Bool} {f pos : Nat} {hs : List α} {x : α} (h : 2 * pos + 1 < hs.length) (hx : hs[childF lt hs (2 * pos + 1)]? = some x) :
    suF lt (f + 1) hs pos = suF lt f (hs.set pos x) (childF lt hs (2 * pos + 1)) := by
  rw [suF, if_pos h]
  dsimp only
  rw [hx]
theorem suF_end {lt : α → α → Bool} {f pos : Nat} {hs : List α} (h : ¬ 2 * pos + 1 < hs.length) : suF lt f hs pos = (hs, pos) := by
  cases f with
  | zero => rfl
  | succ f => rw [suF, if_neg h]
theorem childF_right {lt : α → α → Bool} {hs : List α} {c : Nat} {x y : α} (hx : hs[c]? = some x) (hy : hs[c + 1]? = some y) (hl : lt x y = false) : childF lt hs c = c + 1 := by
  simp [childF, hx, hy, hl]
theorem childF_left {lt : α → α → Bool} {hs : List α} {c : Nat} {x y : α} (hx : hs[c]? = some x) (hy : hs[c + 1]? = some y) (hl : lt x y = true) : childF lt hs c = c := by
  simp [childF, hx, hy, hl]
theorem childF_lone {lt : α → α → Bool} {hs : List α} {c : Nat} (hy : hs[c + 1]? = none) : childF lt hs c = c := by
  unfold childF
  rw [hy]
  cases hs[c]? <;> rfl
theorem suF_len (lt : α → α → Bool) : ∀ (f : Nat) (hs : List α) (pos : Nat), (suF lt f hs pos).1.length = hs.length
  | 0, hs, pos => rfl
  | f + 1, hs, pos => by
    unfold suF
    split
    · dsimp only
      split
      · rw [suF_len lt f]; simp
      · rfl
    · rfl
theorem siftup_len (lt : α → α → Bool) (hs : List α) (pos : Nat) : (siftup lt hs pos).length = hs.length := by
  unfold siftup
  split
  · dsimp only
    rw [siftdown_len]; simp [suF_len]
  · rfl
theorem sdF_mem {lt : α → α → Bool} {new a : α} {start : Nat} : ∀ (f : Nat) (hs : List α) (pos : Nat), a ∈ sdF lt new start f hs pos → a ∈ hs ∨ a = new
  | 0, hs, pos, h => List.mem_or_eq_of_mem_set h
  | f + 1, hs, pos, h => by
    unfold sdF at h
    split at h
    · split at h
      · rename_i par hp
        split at h
        · rcases sdF_mem f _ _ h with h | h
          · rcases List.mem_or_eq_of_mem_set h with h | h
            · exact .inl h
            · exact .inl (h ▸ List.mem_of_getElem? hp)
          · exact .inr h
        · exact List.mem_or_eq_of_mem_set h
      · exact List.mem_or_eq_of_mem_set h
    · exact List.mem_or_eq_of_mem_set h
theorem siftdown_mem {lt : α → α → Bool} {hs : List α} {start pos : Nat} {a : α} (h : a ∈ siftdown lt hs start pos) : a ∈ hs := by
  unfold siftdown at h
  split at h
  · rename_i new hn
    rcases sdF_mem _ _ _ h with h | h
    · exact h
    · exact h ▸ List.mem_of_getElem? hn
  · exact h
theorem suF_mem {lt : α → α → Bool} {a : α} : ∀ (f : Nat) (hs : List α) (pos : Nat), a ∈ (suF lt f hs pos).1 → a ∈ hs
  | 0, hs, pos, h => h
  | f + 1, hs, pos, h => by
    unfold suF at h
    split at h
    · dsimp only at h
      split at h
      · rename_i x hx
        rcases List.mem_or_eq_of_mem_set (suF_mem f _ _ h) with h | h
        · exact h
        · exact h ▸ List.mem_of_getElem? hx
      · exact h
    · exact h
theorem siftup_mem {lt : α → α → Bool} {hs : List α} {pos : Nat} {a : α} (h : a ∈ siftup lt hs pos) : a ∈ hs := by
  unfold siftup at h
  split at h
  · rename_i new hn
    dsimp only at h
    rcases List.mem_or_eq_of_mem_set (siftdown_mem h) with h | h
    · exact suF_mem _ _ _ h
    · exact h ▸ List.mem_of_getElem? hn
  · exact h
end
end Mine
end P1Part
section B3Part
namespace Mine
set_option linter.unusedVariables false
set_option maxHeartbeats 400000
noncomputable def rv (hs : List Addr) : List Value := hs.map Value.ref
theorem rv_len (hs : List Addr) : (rv hs).length = hs.length := List.length_map ..
theorem rv_get {hs : List Addr} {k : Nat} {a : Addr} (h : hs[k]? = some a) : (rv hs)[k]? = some (.ref a) := by
  unfold rv; rw [List.getElem?_map, h]; rfl
theorem rv_set (hs : List Addr) (k : Nat) (a : Addr) : (rv hs).set k (.ref a) = rv (hs.set k a) := by
  unfold rv; rw [List.map_set]
theorem setL_of : ∀ (l : List Value) (k : Nat) (v : Value), k < l.length → ki_setL l k v = some (l.set k v)
  | [], _, _, h => absurd h (Nat.not_lt_zero _)
  | _ :: _, 0, _, _ => rfl
  | x :: r, k + 1, v, h => by
    unfold ki_setL
    rw [setL_of r k v (Nat.lt_of_succ_lt_succ h)]
    rfl
/-- a heap's item: the list [text, number] -/
noncomputable def IsKey (h : Heap) (a : Addr) (k : Str × Int) : Prop := ∃ t u n, h.get? a = some { cls := .type "list", data := .seq #[.str k.1 t, .int k.2 u] n }
theorem IsKey.keeps {h h' : Heap} {a : Addr} {k : Str × Int} (x : IsKey h a k) (hk : ∀ b o, h.get? b = some o → h'.get? b = some o) : IsKey h' a k :=
  let ⟨t, u, n, e⟩ := x; ⟨t, u, n, hk _ _ e⟩
section
variable {prog : Program} {w : World} {A : Around} {E : Value → Shared → Prop} {s : Shared} {h₀ : Heap} {L : Addr} {m : Str → Option Value} {news news' : List (Addr × Obj)} {b : Addr} {hs : List Addr} {n : Nat} {k : Int} {u : Tok} {a : Addr}
theorem get_refs {value slice : Expr} {Q : Value → Shared → Prop} (N : News h₀ L s.heap news) (hm : (b, listOf (rv hs).toArray n) ∈ news) (h0 : 0 ≤ k) (hfit : k < 2 ^ 63) (hx : hs[k.toNat]? = some a) (h : Q (.ref a) s)
    (hs' : subscripted slice false (.ref b) (.int k u) = operate [.ref b, .int k u] (getItem (.ref b) (.int k u)) := by with_unfolding_all rfl) (hg : ∀ r, letTemporaryGo value (.ref b) r = pure () := by intro _; with_unfolding_all rfl) :
    wpAny (model prog w) A (subscriptTail value slice (.ref b) (.int k u)) Q E s :=
  kim_list N hm rfl rfl h0 hfit (rv_get hx) h hs' hg
theorem set_refs {Q : Unit → Shared → Prop} (F : Fr h₀ L s.heap m) (N : News h₀ L s.heap news) (h0 : 0 ≤ k) (hfit : k < 2 ^ 63) (hlt : k < hs.length) (U : Upd b (listOf (rv hs).toArray n) (listOf (rv (hs.set k.toNat a)).toArray n) news news')
    (h : ∀ h', Fr h₀ L h' m → News h₀ L h' news' → Q () { s with heap := h' }) : wpAny (model prog w) A (setItem (.ref b) (.int k u) (.ref a)) Q E s :=
  ki_set F N h0 hfit (by rw [List.toList_toArray, setL_of _ _ _ (by rw [rv_len]; omega), rv_set]) U h
theorem key_eq0 {x y : Str} {t u : Tok} {A : Around} {s : Shared} : SeqAt.EqAt A s (.str x t) (.str y u) (x == y) := fun _ _ _ _ hq => eqBool_str hq
theorem key_eq1 {x y : Int} {t u : Tok} {A : Around} {s : Shared} : SeqAt.EqAt A s (.int x t) (.int y u) (x == y) := fun _ _ _ _ hq => wpAny_eqBool_int hq
theorem lt_key {p q : Str × Int} {a b : Addr} {Q : Value → Shared → Prop} (ha : IsKey s.heap a p) (hb : IsKey s.heap b q) (hu : A.units < cLine) (h : Q (.bool (keyLt p q)) s) :
    wpAny (model prog w) A (compareOp .Lt (.ref a) (.ref b)) Q E s := by
  obtain ⟨x, i⟩ := p
  obtain ⟨y, j⟩ := q
  obtain ⟨t, u, n, ea⟩ := ha
  obtain ⟨t', u', n', eb⟩ := hb
  show wpAny (model prog w) A (richCompare .Lt (.ref a) (.ref b)) Q E s
  refine richCompare_meets_room (T := "list") (op := .Lt) ⟨_, ea, rfl⟩ ⟨_, eb, rfl⟩ F.slot_list_lt F.entry_list_lt (F.args_list_lt_2 _ _)
    (list_ltAt a b _ _ n n' (fun k => if k = 0 then x == y else i == j) (fun k => if k = 0 then decide (x.cps.toList < y.cps.toList) else decide (i < j))) ⟨ea, eb, ?_, ?_, ?_⟩ hu
  · intro k h1 h2
    match k, h1 with
    | 0, _ => exact key_eq0
    | 1, _ => exact key_eq1
    | k + 2, h1 => exact absurd h1 (by show ¬ k + 2 < 2; omega)
  · intro k h1 h2 _ prog w E Q hq
    match k, h1 with
    | 0, _ => exact lt_str hq
    | 1, _ => exact PyProof.Rows.lt_int hq
    | k + 2, h1 => exact absurd h1 (by show ¬ k + 2 < 2; omega)
  · refine ⟨(by intro q; cases q), ?_⟩
    have e : lexAt (fun k => if k = 0 then x == y else i == j) (fun k => if k = 0 then decide (x.cps.toList < y.cps.toList) else decide (i < j)) 2 2 2 0 = keyLt (x, i) (y, j) := by
      unfold keyLt
      by_cases hxy : x = y
      · subst hxy
        simp only [lexAt, beq_self_eq_true, if_true]
        by_cases hij : i = j
        · subst hij; simp
        · simp [hij]
      · simp [lexAt, hxy]
    show Q (.bool (lexAt _ _ 2 2 2 0)) s
    rw [e]; exact h
theorem len_refs {Q : Value → Shared → Prop} (N : News h₀ L s.heap news) (hm : (b, listOf (rv hs).toArray n) ∈ news) (hfit : hs.length < 2 ^ 62)
    (h : Q (.int hs.length (s.toks + 1)) { s with toks := s.toks + 1 + 1 }) : wpAny (model prog w) A (call (.builtin "len") [.ref b]) Q E s := by
  have e : (rv hs).toArray.size = hs.length := by rw [List.size_toArray, rv_len]
  refine len_list ⟨_, (N _ hm).1, rfl, n, rfl⟩ (by rw [e]; omega) ?_
  rw [e]; exact h
theorem rshift_half {p : Nat} {t u : Tok} {Q : Value → Shared → Prop} (hp : 0 < p) (h : Q (.int (((p - 1) / 2 : Nat) : Int) s.toks) { s with toks := s.toks + 1 }) :
    wpAny (model prog w) A (binaryOp .RShift (.int ((p : Int) - 1) t) (.int 1 u)) Q E s := by
  refine rshift_int (by decide) ?_
  have e : ((p : Int) - 1).fdiv (2 ^ Int.toNat 1) = (((p - 1) / 2 : Nat) : Int) := by
    rw [show (2 : Int) ^ Int.toNat 1 = 2 from rfl, Int.fdiv_eq_ediv_of_nonneg _ (by decide)]
    omega
  rw [e]; exact h
end
end Mine
end B3Part
namespace Mine
local macro_rules | `(tactic| walk_at "NUM") => `(tactic| first | with_reducible assumption | omega)
local macro_rules | `(tactic| walk_at "SUBT") => `(tactic| first | assumption | (refine List.Mem.tail _ ?_; walk_at "SUBT"))
local macro_rules | `(tactic| walk_at "SUBS") => `(tactic| first
  | exact List.forall_mem_nil _
  | (refine List.forall_mem_cons.mpr ⟨?sa, ?sb⟩; (case sa => k_mem); (case sb => walk_at "SUBS"))
  | (refine List.forall_mem_append.mpr ⟨?sa, ?sb⟩; (case sa => walk_at "SUBS"); (case sb => walk_at "SUBS"))
  | (intro p hp; walk_at "SUBT"))
local macro_rules | `(tactic| k_ne) => `(tactic| (refine neN ?_; (try dsimp only); first | with_reducible (first | assumption | (refine Ne.symm ?_; assumption) | exact dn1 | exact dm1 | exact dn2 | exact dm2 | exact dn3 | exact dm3 | exact dn4 | exact dm4 | exact dn5 | exact dm5 | (refine lp0 ?_; assumption) | (refine lq0 ?_; assumption) | (refine lp1 ?_; assumption) | (refine lq1 ?_; assumption) | (refine lp2 ?_; assumption) | (refine lq2 ?_; assumption) | (refine lp3 ?_; assumption) | (refine lq3 ?_; assumption) | (refine lp4 ?_; assumption) | (refine lq4 ?_; assumption) | (refine lp5 ?_; assumption) | (refine lq5 ?_; assumption)) | omega))
local macro_rules | `(tactic| walk_at "call builtin:issubclass") => `(tactic| (
  refine' issub_str ?k1 ?_
  (case k1 => exact News.get (by assumption) (by k_mem))))
local macro_rules | `(tactic| walk_at "S") => `(tactic| exact St.push (by assumption) (by assumption) (by assumption))
local macro_rules | `(tactic| walk_at "KEPT") => `(tactic| (
  (with_reducible rename Fr _ _ _ _ => kF)
  (with_reducible rename News _ _ _ _ => kN)
  (with_reducible rename (∀ b o, Heap.get? _ b = some o → Heap.get? _ b = some o) => hk')
  (have kF' := Fr.grownK kF hk')
  (have kN' := News.grown kN hk')
  (clear kF kN hk')
  (try dsimp only)))
local macro_rules | `(tactic| walk_at "exec While Compare cons nil") => `(tactic| (k_here; refine Halt.mk ?_))
local macro_rules | `(tactic| walk_at "exec While Name cons nil") => `(tactic| (k_here; refine Halt.mk ?_))
local macro_rules | `(tactic| walk_at "exec While Constant cons nil") => `(tactic| (k_here; refine Halt.mk ?_))
local macro_rules | `(tactic| walk_at "KswEnd") => `(tactic| refine Halt.mk ?_)
local macro_rules | `(tactic| walk_at "LoopStepU") => `(tactic| refine Halt.mk ?_)
local macro_rules | `(tactic| walk_at "execs cons") => `(tactic| (with_reducible refine genK ?_; intro hQb hKQ))
section D1Part
set_option linter.unusedVariables false
section
variable {w : World} {mean : ExcName → Option Value} {mg mb : Str → Option Value} {dp un : Nat} {gd : Option (List Code)} {base : Heap} {fr : List Env} {s : Shared} {Q E : Value → Shared → Prop}
theorem get_sep_spec {x : Str} {t : Tok} (S : St w mean mg mb s.heap) (hd : dp < recursionLimit)
    (h : ∀ h' tk' t', (∀ b o, s.heap.get? b = some o → h'.get? b = some o) → Q (.str (Str.ofString "/") t') { s with heap := h', toks := tk' }) :
    wpAny (model PySem.Challenge.rw_pd0148_01.row.prog w) (Ar dp un gd fr) (call (.ref 143) [.str x t]) Q E s := by
  ((have kfX := (‹St _ _ _ _ _›).X; revert kfX; k_fill; intro _); refine wpAny_call ?_; refine' enter (muts := []) ?k1 ?k6 ?k7 ?k8 ?k9 ?kB ?kM ?_ ?c2 ?c3 ?c4 ?c5; ((case k1 => assumption); (case k6 => k_is); (case k7 => k_is); (case k8 => first | exact ltc0 (by assumption) | omega); (case k9 => exact BindsTo.of_eq rfl); (case kB => exact locs rfl)); (case kM => exact fun _ h => nomatch h); ((case c2 => exact rfl); (case c3 => exact rfl); (case c4 => exact rfl); (case c5 => decide); (try dsimp only)))
  (intro L' h₁ F N; ((obtain ⟨g0, _, _, _, _⟩ := s); obtain ⟨X, T⟩ := (‹St _ _ _ _ _›); dsimp only [List.map, hideAll] at *; (try k_fold)); k_steps)
  exact h _ _ _ (Fr.keep (by assumption))
theorem fspath_spec {x : Str} {t : Tok} (S : St w mean mg mb s.heap) (hd : dp < recursionLimit)
    (h : ∀ h' tk', (∀ b o, s.heap.get? b = some o → h'.get? b = some o) → Q (.str x t) { s with heap := h', toks := tk' }) :
    wpAny (model PySem.Challenge.rw_pd0148_01.row.prog w) (Ar dp un gd fr) (call (.ref 129) [.str x t]) Q E s := by
  ((have kfX := (‹St _ _ _ _ _›).X; revert kfX; k_fill; intro _); refine wpAny_call ?_; refine' enter (muts := []) ?k1 ?k6 ?k7 ?k8 ?k9 ?kB ?kM ?_ ?c2 ?c3 ?c4 ?c5; ((case k1 => assumption); (case k6 => k_is); (case k7 => k_is); (case k8 => first | exact ltc0 (by assumption) | omega); (case k9 => exact BindsTo.of_eq rfl); (case kB => exact locs rfl)); (case kM => exact fun _ h => nomatch h); ((case c2 => exact rfl); (case c3 => exact rfl); (case c4 => exact rfl); (case c5 => decide); (try dsimp only)))
  (intro L' h₁ F N; ((obtain ⟨g0, _, _, _, _⟩ := s); obtain ⟨X, T⟩ := (‹St _ _ _ _ _›); dsimp only [List.map, hideAll] at *; (try k_fold)); k_steps)
  exact h _ _ (Fr.keep (by assumption))
end
end D1Part
section D2Part
set_option linter.unusedVariables false
noncomputable def sl : Str := Str.ofString "/"
/-- what dirname gives -/
noncomputable def dirF (x : Str) : Str :=
  let hd := Txt.slice x none (some (Txt.rfind x (Str.ofString "/") + 1))
  if (hd.length : Int) = 0 then hd else if (hd != Txt.mul (Str.ofString "/") (hd.length : Int)) = true then Txt.rstripChars hd (Str.ofString "/") else hd
section
variable {w : World} {mean : ExcName → Option Value} {mg mb : Str → Option Value} {dp un : Nat} {gd : Option (List Code)} {base : Heap} {fr : List Env} {s : Shared} {Q E : Value → Shared → Prop}
local macro_rules | `(tactic| walk_at "call ref") => `(tactic| (
  (with_reducible show wpAny _ _ (call (Value.ref 129) [Value.str _ _]) _ _ _)
  k_dflt (refine' fspath_spec ?S ?d ?_)
  (case S => walk_at "S")
  (case d => omega)
  intro _ _ _
  walk_at "KEPT"))
local macro_rules | `(tactic| walk_at "call ref") => `(tactic| (
  (with_reducible show wpAny _ _ (call (Value.ref 143) [Value.str _ _]) _ _ _)
  k_dflt (refine' get_sep_spec ?S ?d ?_)
  (case S => walk_at "S")
  (case d => omega)
  intro _ _ _ _
  walk_at "KEPT"))
theorem dirname_spec {x : Str} {t : Tok} (hx : x.length ≤ 1000) (S : St w mean mg mb s.heap) (hd : dp + 1 < recursionLimit)
    (h : ∀ y h' tk' t', y = dirF x → (∀ b o, s.heap.get? b = some o → h'.get? b = some o) → Q (.str y t') { s with heap := h', toks := tk' }) :
    wpAny (model PySem.Challenge.rw_pd0148_01.row.prog w) (Ar dp un gd fr) (call (.ref 157) [.str x t]) Q E s := by
  ((have kfX := (‹St _ _ _ _ _›).X; revert kfX; k_fill; intro _); refine wpAny_call ?_; refine' enter (muts := []) ?k1 ?k6 ?k7 ?k8 ?k9 ?kB ?kM ?_ ?c2 ?c3 ?c4 ?c5; ((case k1 => assumption); (case k6 => k_is); (case k7 => k_is); (case k8 => first | exact ltc0 (by assumption) | omega); (case k9 => exact BindsTo.of_eq rfl); (case kB => exact locs rfl)); (case kM => exact fun _ h => nomatch h); ((case c2 => exact rfl); (case c3 => exact rfl); (case c4 => exact rfl); (case c5 => decide); (try dsimp only)))
  (intro L' h₁ F N; ((obtain ⟨g0, _, _, _, _⟩ := s); obtain ⟨X, T⟩ := (‹St _ _ _ _ _›); dsimp only [List.map, hideAll] at *; (try k_fold)); k_steps)
  all_goals dsimp only
  all_goals k_unfold
  · exact h _ _ _ _ (by unfold dirF; dsimp only; rw [if_neg (by assumption), if_pos (by assumption)]) (Fr.keep (by assumption))
  · exact h _ _ _ _ (by unfold dirF; dsimp only; rw [if_neg (by assumption), if_neg (by rw [Bool.not_eq_true]; assumption)]) (Fr.keep (by assumption))
  · exact h _ _ _ _ (by unfold dirF; dsimp only; rw [if_pos (by assumption)]) (Fr.keep (by assumption))
end
end D2Part
section E1Part
set_option linter.unusedVariables false
open LCg LCt
section
variable {prog : Program} {w : World} {A : Around} {E : Value → Shared → Prop} {s : Shared} {h₀ : Heap} {L : Addr} {m : Str → Option Value} {env : Env} {elt ct : Expr} {x : Str} {scope : Scope} {cl : List (Str × Addr)} {S : List (Addr × Obj) → Prop} {P : Nat → Value → Prop}
  {Fin : List Value → List (Addr × Obj) → Prop}
theorem CompEnd.mono {s₁ s₂ : Shared} {I C D : Addr} {oI oC oD : Obj} {rest rest' : Value → List (Addr × Obj) → Prop} {y : Value} (h : CompEnd h₀ L m s₁ I oI C oC D oD S rest y s₂) (k : ∀ v n, rest v n → rest' v n) :
    CompEnd h₀ L m s₁ I oI C oC D oD S rest' y s₂ :=
  let ⟨h', tk, n', e, F, N, o, hs, r⟩ := h; ⟨h', tk, n', e, F, N, o, hs, k _ _ r⟩
theorem CompEnd.same {s₁ : Shared} {I C D : Addr} {oI oC oD : Obj} {rest : Value → List (Addr × Obj) → Prop} {y : Value} {h' : Heap} {tk : Nat} {news : List (Addr × Obj)}
    (F : Fr h₀ L h' m) (N : News h₀ L h' ((I, oI) :: (C, oC) :: (D, oD) :: news)) (off : Off3 I C D news) (hS : S news) (r : rest y news) :
    CompEnd h₀ L m s₁ I oI C oC D oD S rest y { s₁ with heap := h', toks := tk } := CompEnd.intro F N news (fun _ hp => hp) off hS r
/-- the element has made one list -/
theorem CompEnd.one {s₁ : Shared} {I C D A : Addr} {oI oC oD oA : Obj} {rest : Value → List (Addr × Obj) → Prop} {y : Value} {h' : Heap} {tk : Nat} {news : List (Addr × Obj)}
    (F : Fr h₀ L h' m) (N : News h₀ L h' ((A, oA) :: (I, oI) :: (C, oC) :: (D, oD) :: news)) (o : Off1 A ((I, oI) :: (C, oC) :: (D, oD) :: news)) (off : Off3 I C D news) (hS : S ((A, oA) :: news)) (r : rest y ((A, oA) :: news)) :
    CompEnd h₀ L m s₁ I oI C oC D oD S rest y { s₁ with heap := h', toks := tk } := CompEnd.intro F N ((A, oA) :: news) (fun p hp => by
      simp only [List.mem_cons] at hp ⊢
      rcases hp with h | h | h | h | h
      · exact .inr (.inl h)
      · exact .inr (.inr (.inl h))
      · exact .inr (.inr (.inr (.inl h)))
      · exact .inl h
      · exact .inr (.inr (.inr (.inr h)))) ⟨⟨Ne.symm o.1, Ne.symm o.2.1, Ne.symm o.2.2.1⟩, off⟩ hS r
theorem SrcAt.led {ax : Addr} {vs : List Value} {n : Nat} {news : List (Addr × Obj)} (hm : (ax, listOf vs.toArray n) ∈ news) : SrcAt h₀ ax vs.toArray news := .inr ⟨_, hm, rfl, _, rfl⟩
/-- a comprehension without a test, by an invariant -/
theorem comp_inv {n : Nat} (Inv : Nat → List Value → List (Addr × Obj) → Prop)
    (turn : ∀ i ys news, i < n → Inv i ys news → ∀ v I oI C oC D m₂ h tk (E' : Value → Shared → Prop), P i v → NsObj oC m₂ → m₂ x = some v → Fr h₀ L h m → News h₀ L h ((I, oI) :: (C, oC) :: (D, lst ys) :: news) → Off3 I C D news → ((@Ne Nat I C) ∧ (@Ne Nat I D) ∧ (@Ne Nat C D)) →
      wpAny (model prog w) A (eval elt (compEnvC scope cl C env)) (CompEnd h₀ L m { s with heap := h, toks := tk } I oI C oC D (lst ys) S (fun y news' => Inv (i + 1) (ys ++ [y]) news')) E' { s with heap := h, toks := tk })
    (fin : ∀ ys news, Inv n ys news → Fin ys news) : ∀ (k i : Nat) (ys : List Value) (news : List (Addr × Obj)), i + k = n → Inv i ys news → CompRest prog w A h₀ L m env elt x scope cl s S P Fin k i ys news
  | 0, i, ys, news, e, hi => CompRest.zero (fin _ _ (by rw [← e]; exact hi))
  | k + 1, i, ys, news, e, hi => CompRest.succ fun v I oI C oC D m₂ h tk E' hp hC hx F N off ne =>
      wpAny_mono (turn i ys news (addL e) hi v I oI C oC D m₂ h tk E' hp hC hx F N off ne) (fun _ _ h' => CompEnd.mono h' fun v n' r => comp_inv Inv turn fin k (i + 1) _ _ (addA e) r) fun _ _ z => z
/-- with one test -/
theorem compT_inv {n : Nat} (Inv : Nat → List Value → List (Addr × Obj) → Prop)
    (turn : ∀ i ys news, i < n → Inv i ys news → ∀ v I oI C oC D m₂ h tk (E' : Value → Shared → Prop), P i v → NsObj oC m₂ → m₂ x = some v → Fr h₀ L h m → News h₀ L h ((I, oI) :: (C, oC) :: (D, lst ys) :: news) → Off3 I C D news → ((@Ne Nat I C) ∧ (@Ne Nat I D) ∧ (@Ne Nat C D)) →
      wpAny (model prog w) A (isTrue ct (compEnvC scope cl C env) (eval ct (compEnvC scope cl C env))) (fun ok s' => if ok = true then
        wpAny (model prog w) A (eval elt (compEnvC scope cl C env)) (CompEnd h₀ L m { s with heap := h, toks := tk } I oI C oC D (lst ys) S (fun y news' => Inv (i + 1) (ys ++ [y]) news')) E' s'
        else CompEnd h₀ L m { s with heap := h, toks := tk } I oI C oC D (lst ys) S (fun _ news' => Inv (i + 1) ys news') Value.none s') E' { s with heap := h, toks := tk })
    (fin : ∀ ys news, Inv n ys news → Fin ys news) : ∀ (k i : Nat) (ys : List Value) (news : List (Addr × Obj)), i + k = n → Inv i ys news → CompRestT prog w A h₀ L m env ct elt x scope cl s S P Fin k i ys news
  | 0, i, ys, news, e, hi => CompRestT.zero (fin _ _ (by rw [← e]; exact hi))
  | k + 1, i, ys, news, e, hi => CompRestT.succ fun v I oI C oC D m₂ h tk E' hp hC hx F N off ne =>
      wpAny_mono (turn i ys news (addL e) hi v I oI C oC D m₂ h tk E' hp hC hx F N off ne) (fun ok s' h' => by
        cases ok with
        | true =>
          simp only [if_true] at h' ⊢
          exact wpAny_mono h' (fun _ _ h'' => CompEnd.mono h'' fun v n' r => compT_inv Inv turn fin k (i + 1) _ _ (addA e) r) fun _ _ e => e
        | false =>
          simp only [Bool.false_eq_true, if_false] at h' ⊢
          exact CompEnd.mono h' fun v n' r => compT_inv Inv turn fin k (i + 1) _ _ (addA e) r) fun _ _ e => e
/-- both, where the ledger stays as it was -/
theorem comp_invK {n : Nat} {news : List (Addr × Obj)} (Inv : Nat → List Value → Prop)
    (turn : ∀ i ys, i < n → Inv i ys → ∀ v I oI C oC D m₂ h tk (E' : Value → Shared → Prop), P i v → NsObj oC m₂ → m₂ x = some v → Fr h₀ L h m → News h₀ L h ((I, oI) :: (C, oC) :: (D, lst ys) :: news) → Off3 I C D news → ((@Ne Nat I C) ∧ (@Ne Nat I D) ∧ (@Ne Nat C D)) →
      wpAny (model prog w) A (eval elt (compEnvC scope cl C env)) (CompEnd h₀ L m { s with heap := h, toks := tk } I oI C oC D (lst ys) S (fun y news' => Halt (news' = news ∧ Inv (i + 1) (ys ++ [y])))) E' { s with heap := h, toks := tk })
    (fin : ∀ ys, Inv n ys → Fin ys news) (h0 : Inv 0 []) : CompRest prog w A h₀ L m env elt x scope cl s S P Fin n 0 [] news :=
  comp_inv (n := n) (fun i ys nw => nw = news ∧ Inv i ys) (fun i ys nw hi ⟨e, hI⟩ => by subst e; exact turn i ys hi hI) (fun ys nw ⟨e, h⟩ => by subst e; exact fin ys h) n 0 [] news (Nat.zero_add n) ⟨rfl, h0⟩
theorem compT_invK {n : Nat} {news : List (Addr × Obj)} (Inv : Nat → List Value → Prop)
    (turn : ∀ i ys, i < n → Inv i ys → ∀ v I oI C oC D m₂ h tk (E' : Value → Shared → Prop), P i v → NsObj oC m₂ → m₂ x = some v → Fr h₀ L h m → News h₀ L h ((I, oI) :: (C, oC) :: (D, lst ys) :: news) → Off3 I C D news → ((@Ne Nat I C) ∧ (@Ne Nat I D) ∧ (@Ne Nat C D)) →
      wpAny (model prog w) A (isTrue ct (compEnvC scope cl C env) (eval ct (compEnvC scope cl C env))) (fun ok s' => if ok = true then
        wpAny (model prog w) A (eval elt (compEnvC scope cl C env)) (CompEnd h₀ L m { s with heap := h, toks := tk } I oI C oC D (lst ys) S (fun y news' => Halt (news' = news ∧ Inv (i + 1) (ys ++ [y])))) E' s'
        else CompEnd h₀ L m { s with heap := h, toks := tk } I oI C oC D (lst ys) S (fun _ news' => Halt (news' = news ∧ Inv (i + 1) ys)) Value.none s') E' { s with heap := h, toks := tk })
    (fin : ∀ ys, Inv n ys → Fin ys news) (h0 : Inv 0 []) : CompRestT prog w A h₀ L m env ct elt x scope cl s S P Fin n 0 [] news :=
  compT_inv (n := n) (fun i ys nw => nw = news ∧ Inv i ys) (fun i ys nw hi ⟨e, hI⟩ => by subst e; exact turn i ys hi hI) (fun ys nw ⟨e, h⟩ => by subst e; exact fin ys h) n 0 [] news (Nat.zero_add n) ⟨rfl, h0⟩
/-- a pair's comprehension -/
theorem compP_inv {x₂ : Str} {n : Nat} (Inv : Nat → List Value → List (Addr × Obj) → Prop)
    (step : ∀ i ys news, i < n → Inv i ys news → (∀ ys' news', Inv (i + 1) ys' news' → LCp.CompRestP prog w A h₀ L m env elt x x₂ scope cl s S P Fin (n - (i + 1)) (i + 1) ys' news') → LCp.CompRestP prog w A h₀ L m env elt x x₂ scope cl s S P Fin (n - (i + 1) + 1) i ys news)
    (fin : ∀ ys news, Inv n ys news → LCp.CompRestP prog w A h₀ L m env elt x x₂ scope cl s S P Fin 0 n ys news) : ∀ (k i : Nat) (ys : List Value) (news : List (Addr × Obj)), i + k = n → Inv i ys news → LCp.CompRestP prog w A h₀ L m env elt x x₂ scope cl s S P Fin k i ys news
  | 0, i, ys, news, e, hi => by
    obtain rfl : i = n := e
    exact fin _ _ hi
  | k + 1, i, ys, news, e, hi => by
    have h := step i ys news (addL e) hi (fun ys' news' hi' => by
      have := compP_inv (x₂ := x₂) Inv step fin k (i + 1) ys' news' (addA e) hi'
      rw [addS e]
      exact this)
    rw [addS e] at h
    exact h
/-- the source: anything that walks -/
noncomputable def SrcW (prog : Program) (w : World) (A : Around) (h₀ : Heap) (L : Addr) (m : Str → Option Value) (env : Env) (elt : Expr) (x : Str) (scope : Scope) (cl : List (Str × Addr)) (Fin : Shared → List Value → List (Addr × Obj) → Prop) (E : Value → Shared → Prop) (xv : Value) (s₁ : Shared) : Prop :=
  wpAny (model prog w) A (pyIter xv) (fun it s₂ => ∃ (I : Addr) (fp : List Addr) (n : Nat) (P : Nat → Value → Prop) (Stt : Nat → Heap → Prop) (S : List (Addr × Obj) → Prop) (news : List (Addr × Obj)), it = .ref I ∧ Walks prog w A I fp [I] n P Stt ∧ n ≤ sizeLine ∧
    (∀ i h, Stt i h → ∃ o, h.get? I = some o) ∧ (∀ i h h' o nw, Stt i h → h.get? I = some o → h'.get? I = some o → (∀ b o, h₀.get? b = some o → h'.get? b = some o) → News h₀ L h' nw → S nw → Stt i h') ∧
    Stt 0 s₂.heap ∧ (∀ b ∈ fp, b < s₂.heap.objs.size) ∧ Fr h₀ L s₂.heap m ∧ News h₀ L s₂.heap news ∧ L ≠ I ∧ h₀.get? I = none ∧ (∀ p ∈ news, p.1 ≠ I) ∧ S news ∧
    CompRest prog w A h₀ L m env elt x scope cl s₂ S P (Fin s₂) n 0 [] news) E s₁
noncomputable def SrcWT (prog : Program) (w : World) (A : Around) (h₀ : Heap) (L : Addr) (m : Str → Option Value) (env : Env) (ct elt : Expr) (x : Str) (scope : Scope) (cl : List (Str × Addr)) (Fin : Shared → List Value → List (Addr × Obj) → Prop) (E : Value → Shared → Prop) (xv : Value) (s₁ : Shared) : Prop :=
  wpAny (model prog w) A (pyIter xv) (fun it s₂ => ∃ (I : Addr) (fp : List Addr) (n : Nat) (P : Nat → Value → Prop) (Stt : Nat → Heap → Prop) (S : List (Addr × Obj) → Prop) (news : List (Addr × Obj)), it = .ref I ∧ Walks prog w A I fp [I] n P Stt ∧ n ≤ sizeLine ∧
    (∀ i h, Stt i h → ∃ o, h.get? I = some o) ∧ (∀ i h h' o nw, Stt i h → h.get? I = some o → h'.get? I = some o → (∀ b o, h₀.get? b = some o → h'.get? b = some o) → News h₀ L h' nw → S nw → Stt i h') ∧
    Stt 0 s₂.heap ∧ (∀ b ∈ fp, b < s₂.heap.objs.size) ∧ Fr h₀ L s₂.heap m ∧ News h₀ L s₂.heap news ∧ L ≠ I ∧ h₀.get? I = none ∧ (∀ p ∈ news, p.1 ≠ I) ∧ S news ∧
    CompRestT prog w A h₀ L m env ct elt x scope cl s₂ S P (Fin s₂) n 0 [] news) E s₁
theorem ListComp_W {iter : Expr} {px : Pos} {pos : Pos} {Q : Value → Shared → Prop} (F₀ : Fr h₀ L s.heap m)
    (hclos : closureFor scope env = pure cl) (hcell : ∀ y ∈ scope.names, y.2 ≠ .cell) (hkind : scope.kind = .function)
    (hnames : ∀ y ∈ scope.names, y.2 = .local → scope.names.lookup y.1 = some .local) (hx : scope.names.lookup x = some .local)
    (h : wpAny (model prog w) A (eval iter env) (SrcW prog w A h₀ L m env elt x scope cl (fun s₂ => FinE h₀ L m s₂ Q) E) E s)
    (hs : ∀ x, foldedSetIterable iter env x = pure x := by intro _; rfl) :
    wpAny (model prog w) A (eval (.ListComp elt [⟨.Name x px, iter, [], 0⟩] scope pos) env) Q E s := by
  rw [eval_ListComp]
  refine wpAny_comprehension_free (use := none) rfl hs hclos hkind hnames (wpAny_mono h (fun xv s₁ h₁ => ?_) fun _ _ e => e)
  refine wpAny_mono h₁ (fun it s₂ h₂ => ?_) fun _ _ e => e
  refine ex7a14 (h₂) fun I fp n P Stt S news eqa W hsz hIo hSt hst hfp F N hIL hI₀ off hS R => ?_
  clear h₂
  subst eqa
  refine block_U W hsz hIo hSt hcell hkind hx hst hfp F N hIL hI₀ off hS R ?_
  intro D C h tk m' ys news' F' N' o1 hn hC₀ hD₀ hCL hDL hCD offC fin
  refine ⟨m', hn, fun h'' hs'' => fin D h'' tk (F'.change hs'' hCL hC₀) (fun p hp => ?_) o1⟩
  refine ⟨hs''.extBut _ _ ?_ (N' p hp).1, (N' p hp).2⟩
  rcases List.mem_cons.mp hp with rfl | hp
  · exact Ne.symm hCD
  · exact offC p hp
theorem ListComp_WT {iter : Expr} {px : Pos} {pos : Pos} {Q : Value → Shared → Prop} (F₀ : Fr h₀ L s.heap m)
    (hclos : closureFor scope env = pure cl) (hcell : ∀ y ∈ scope.names, y.2 ≠ .cell) (hkind : scope.kind = .function)
    (hnames : ∀ y ∈ scope.names, y.2 = .local → scope.names.lookup y.1 = some .local) (hx : scope.names.lookup x = some .local)
    (h : wpAny (model prog w) A (eval iter env) (SrcWT prog w A h₀ L m env ct elt x scope cl (fun s₂ => FinE h₀ L m s₂ Q) E) E s)
    (hs : ∀ x, foldedSetIterable iter env x = pure x := by intro _; rfl) :
    wpAny (model prog w) A (eval (.ListComp elt [⟨.Name x px, iter, [ct], 0⟩] scope pos) env) Q E s := by
  rw [eval_ListComp]
  refine wpAny_comprehension_free (use := none) rfl hs hclos hkind hnames (wpAny_mono h (fun xv s₁ h₁ => ?_) fun _ _ e => e)
  refine wpAny_mono h₁ (fun it s₂ h₂ => ?_) fun _ _ e => e
  refine ex7a14 (h₂) fun I fp n P Stt S news eqb W hsz hIo hSt hst hfp F N hIL hI₀ off hS R => ?_
  clear h₂
  subst eqb
  refine block_T W hsz hIo hSt hcell hkind hx hst hfp F N hIL hI₀ off hS R ?_
  intro D C h tk m' ys news' F' N' o1 hn hC₀ hD₀ hCL hDL hCD offC fin
  refine ⟨m', hn, fun h'' hs'' => fin D h'' tk (F'.change hs'' hCL hC₀) (fun p hp => ?_) o1⟩
  refine ⟨hs''.extBut _ _ ?_ (N' p hp).1, (N' p hp).2⟩
  rcases List.mem_cons.mp hp with rfl | hp
  · exact Ne.symm hCD
  · exact offC p hp
theorem fin_assign {y : Str} {py : Pos} {Q : Flow → Shared → Prop} {s₂ : Shared} {D C : Addr} {h' : Heap} {tk : Nat} {m' : Str → Option Value} {ys : List Value} {news' : List (Addr × Obj)} (hy : env.kindOf y = some .local) (hp : (env.scope.kind == .class || (env.scope.kind == .module && env.locals != env.globals)) = false)
    (F' : Fr h₀ env.locals h' m) (N' : News h₀ env.locals h' ((D, lst ys) :: news')) (o1 : Off1 D news') (hn : h'.Ns C m') (hC₀ : h₀.get? C = none) (hCL : C ≠ env.locals) (hCD : C ≠ D) (offC : ∀ p ∈ news', p.1 ≠ C) (fin : FinA h₀ env.locals m s₂ y Q ys news') :
    wpAny (model prog w) A (assign (.Name y py) env (.ref D)) (fun _ s'' => ∃ m, s''.heap.Ns C m ∧ ∀ h', Heap.SameBut C s''.heap h' → Q .next { s'' with heap := h' }) E { s₂ with heap := h', toks := tk } := by
  refine wpAny_assign_Name (wpAny_storeName_local hy F'.ns (fun h₂ hn₂ hs₂ => ?_) hp)
  have hL₀ : h₀.get? env.locals = none := Heap.get?_none_of_le F'.above
  have F₂ : Fr h₀ env.locals h₂ (fun z => if z = y then some (.ref D) else m z) := ⟨hn₂, fun b o e => hs₂.extBut b o (fun q => by rw [q, hL₀] at e; cases e) (F'.keep b o e), F'.above⟩
  refine ⟨m', hn.sameBut hs₂ hCL, fun h'' hs'' => fin D h'' _ (F₂.change hs'' hCL hC₀) (fun p hp => ?_) o1⟩
  have z : h₂.get? p.1 = some p.2 := hs₂.extBut _ _ (N' p hp).2.1 (N' p hp).1
  refine ⟨hs''.extBut _ _ ?_ z, (N' p hp).2⟩
  rcases List.mem_cons.mp hp with rfl | hp
  · exact Ne.symm hCD
  · exact offC p hp
theorem Assign_ListComp_W {iter : Expr} {y : Str} {px py : Pos} {pos spos : Pos} {Q : Flow → Shared → Prop} (F₀ : Fr h₀ L s.heap m) (hLe : env.locals = L)
    (hsw : swapsWith (.ListComp elt [⟨.Name x px, iter, [], 0⟩] scope pos) (some (.Name y py)) spos.line env = pure true)
    (hclos : closureFor scope env = pure cl) (hcell : ∀ z ∈ scope.names, z.2 ≠ .cell) (hkind : scope.kind = .function)
    (hnames : ∀ z ∈ scope.names, z.2 = .local → scope.names.lookup z.1 = some .local) (hx : scope.names.lookup x = some .local)
    (hy : env.kindOf y = some .local) (hp : (env.scope.kind == .class || (env.scope.kind == .module && env.locals != env.globals)) = false)
    (h : wpAny (model prog w) A (eval iter env) (SrcW prog w A h₀ L m env elt x scope cl (fun s₂ => FinA h₀ L m s₂ y Q) E) E s)
    (hs : ∀ x, foldedSetIterable iter env x = pure x := by intro _; rfl) :
    wpAny (model prog w) A (exec (.Assign [.Name y py] (.ListComp elt [⟨.Name x px, iter, [], 0⟩] scope pos) spos) env) Q E s := by
  subst hLe
  rw [exec_Assign_Name_used _ _ _ _ hsw]
  refine wpAny_bind (wpAny_standAt (wpAny_bind ?_))
  show wpAny _ A (do let _ ← comprehension (.ListComp elt [⟨.Name x px, iter, [], 0⟩] scope pos) scope env _ (newList []) false (eval iter env) (some (assign (.Name y py) env))) _ _ s
  refine wpAny_bind (wpAny_mono (wpAny_comprehension_free (use := some (assign (.Name y py) env)) (Q := fun _ s' => Q .next s') rfl hs hclos hkind hnames
    (wpAny_mono h (fun xv s₁ h₁ => ?_) fun _ _ e => e)) (fun _ s' hq => wpAny_pure (wpAny_pure hq)) fun _ _ e => e)
  refine wpAny_mono h₁ (fun it s₂ h₂ => ?_) fun _ _ e => e
  refine ex7a14 (h₂) fun I fp n P Stt S news eqc W hsz hIo hSt hst hfp F N hIL hI₀ off hS R => ?_
  clear h₂
  subst eqc
  refine block_U W hsz hIo hSt hcell hkind hx hst hfp F N hIL hI₀ off hS R ?_
  intro D C h' tk m' ys news' F' N' o1 hn hC₀ hD₀ hCL hDL hCD offC fin
  exact fin_assign hy hp F' N' o1 hn hC₀ hCL hCD offC fin
theorem Assign_ListComp_WT {iter : Expr} {y : Str} {px py : Pos} {pos spos : Pos} {Q : Flow → Shared → Prop} (F₀ : Fr h₀ L s.heap m) (hLe : env.locals = L)
    (hsw : swapsWith (.ListComp elt [⟨.Name x px, iter, [ct], 0⟩] scope pos) (some (.Name y py)) spos.line env = pure true)
    (hclos : closureFor scope env = pure cl) (hcell : ∀ z ∈ scope.names, z.2 ≠ .cell) (hkind : scope.kind = .function)
    (hnames : ∀ z ∈ scope.names, z.2 = .local → scope.names.lookup z.1 = some .local) (hx : scope.names.lookup x = some .local)
    (hy : env.kindOf y = some .local) (hp : (env.scope.kind == .class || (env.scope.kind == .module && env.locals != env.globals)) = false)
    (h : wpAny (model prog w) A (eval iter env) (SrcWT prog w A h₀ L m env ct elt x scope cl (fun s₂ => FinA h₀ L m s₂ y Q) E) E s)
    (hs : ∀ x, foldedSetIterable iter env x = pure x := by intro _; rfl) :
    wpAny (model prog w) A (exec (.Assign [.Name y py] (.ListComp elt [⟨.Name x px, iter, [ct], 0⟩] scope pos) spos) env) Q E s := by
  subst hLe
  rw [exec_Assign_Name_used _ _ _ _ hsw]
  refine wpAny_bind (wpAny_standAt (wpAny_bind ?_))
  show wpAny _ A (do let _ ← comprehension (.ListComp elt [⟨.Name x px, iter, [ct], 0⟩] scope pos) scope env _ (newList []) false (eval iter env) (some (assign (.Name y py) env))) _ _ s
  refine wpAny_bind (wpAny_mono (wpAny_comprehension_free (use := some (assign (.Name y py) env)) (Q := fun _ s' => Q .next s') rfl hs hclos hkind hnames
    (wpAny_mono h (fun xv s₁ h₁ => ?_) fun _ _ e => e)) (fun _ s' hq => wpAny_pure (wpAny_pure hq)) fun _ _ e => e)
  refine wpAny_mono h₁ (fun it s₂ h₂ => ?_) fun _ _ e => e
  refine ex7a14 (h₂) fun I fp n P Stt S news eqd W hsz hIo hSt hst hfp F N hIL hI₀ off hS R => ?_
  clear h₂
  subst eqd
  refine block_T W hsz hIo hSt hcell hkind hx hst hfp F N hIL hI₀ off hS R ?_
  intro D C h' tk m' ys news' F' N' o1 hn hC₀ hD₀ hCL hDL hCD offC fin
  exact fin_assign hy hp F' N' o1 hn hC₀ hCL hCD offC fin
/-- a tuple that is in the ledger or in the base -/
noncomputable def TupAt (h₀ : Heap) (ax : Addr) (its : Array Value) (news : List (Addr × Obj)) : Prop := h₀.IsTuple ax its ∨ ∃ n, (ax, ({ cls := .type "tuple", data := .seq its n } : Obj)) ∈ news
theorem TupAt.at {ax : Addr} {its : Array Value} {news : List (Addr × Obj)} {h : Heap} (T : TupAt h₀ ax its news) (k : ∀ b o, h₀.get? b = some o → h.get? b = some o) (N : News h₀ L h news) : h.IsTuple ax its := by
  rcases T with ⟨o, e, r⟩ | ⟨n, hm⟩
  · exact ⟨o, k _ _ e, r⟩
  · exact ⟨_, (N _ hm).1, rfl, n, rfl⟩
/-- what stands when a source has been opened -/
structure SrcOk (prog : Program) (w : World) (A : Around) (h₀ : Heap) (L : Addr) (m : Str → Option Value) (I : Addr) (fp : List Addr) (n : Nat) (P : Nat → Value → Prop) (Stt : Nat → Heap → Prop) (S : List (Addr × Obj) → Prop) (news : List (Addr × Obj)) (h : Heap) : Prop where
  W : Walks prog w A I fp [I] n P Stt
  hIo : ∀ i h, Stt i h → ∃ o, h.get? I = some o
  hSt : ∀ i h h' o nw, Stt i h → h.get? I = some o → h'.get? I = some o → (∀ b o, h₀.get? b = some o → h'.get? b = some o) → News h₀ L h' nw → S nw → Stt i h'
  st : Stt 0 h
  hfp : ∀ b ∈ fp, b < h.objs.size
  F : Fr h₀ L h m
  N : News h₀ L h news
  LI : L ≠ I
  I0 : h₀.get? I = none
  off : ∀ p ∈ news, p.1 ≠ I
  S : S news
/-- a source that may be opened -/
noncomputable def Drawn (prog : Program) (w : World) (A : Around) (h₀ : Heap) (L : Addr) (m : Str → Option Value) (n : Nat) (P : Nat → Value → Prop) (S : List (Addr × Obj) → Prop) (news : List (Addr × Obj)) (xv : Value) (s₁ : Shared) : Prop :=
  ∀ (K E : Value → Shared → Prop), (∀ I fp Stt g, SrcOk prog w A h₀ L m I fp n P Stt S news g → K (.ref I) { s₁ with heap := g }) → wpAny (model prog w) A (pyIter xv) K E s₁
theorem SrcW.of {Fin : Shared → List Value → List (Addr × Obj) → Prop} {n : Nat} {xv : Value} {news : List (Addr × Obj)} {s₁ : Shared} (D : Drawn prog w A h₀ L m n P S news xv s₁) (hsz : n ≤ sizeLine)
    (h : ∀ g, CompRest prog w A h₀ L m env elt x scope cl { s₁ with heap := g } S P (Fin { s₁ with heap := g }) n 0 [] news) :
    SrcW prog w A h₀ L m env elt x scope cl Fin E xv s₁ :=
  D _ _ fun I fp Stt g o => ⟨I, fp, n, P, Stt, S, news, rfl, o.W, hsz, o.hIo, o.hSt, o.st, o.hfp, o.F, o.N, o.LI, o.I0, o.off, o.S, h g⟩
theorem SrcWT.of {Fin : Shared → List Value → List (Addr × Obj) → Prop} {n : Nat} {xv : Value} {news : List (Addr × Obj)} {s₁ : Shared} (D : Drawn prog w A h₀ L m n P S news xv s₁) (hsz : n ≤ sizeLine)
    (h : ∀ g, CompRestT prog w A h₀ L m env ct elt x scope cl { s₁ with heap := g } S P (Fin { s₁ with heap := g }) n 0 [] news) :
    SrcWT prog w A h₀ L m env ct elt x scope cl Fin E xv s₁ :=
  D _ _ fun I fp Stt g o => ⟨I, fp, n, P, Stt, S, news, rfl, o.W, hsz, o.hIo, o.hSt, o.st, o.hfp, o.F, o.N, o.LI, o.I0, o.off, o.S, h g⟩
theorem Drawn.tuple {ax : Addr} {its : Array Value} {news : List (Addr × Obj)} {s₁ : Shared}
    (hh : A.handled = none) (F : Fr h₀ L s₁.heap m) (N : News h₀ L s₁.heap news) (T : TupAt h₀ ax its news) :
    Drawn prog w A h₀ L m its.size (fun i v => its[i]? = some v) (TupAt h₀ ax its) news (.ref ax) s₁ := by
  intro K E h
  have ht := T.at F.keep N
  have hlt : ax < s₁.heap.objs.size := by obtain ⟨_, e, _⟩ := ht; exact Heap.lt_size e
  refine wpAny_pyIter_tuple ht ?_
  have up : ∀ b o, s₁.heap.get? b = some o → (s₁.heap.push { cls := .type "tuple_iterator", data := .fields #[.ref ax, .int 0 0] }).get? b = some o := fun b o e => Heap.get?_push_of_some _ e
  refine h _ _ _ _ ⟨Walks.tuple hh s₁.heap.objs.size ax (Nat.ne_of_lt hlt) its, fun i h st => by obtain ⟨o, e, _⟩ := st.1; exact ⟨o, e⟩, ?_, ⟨⟨_, Heap.get?_push_size _ rfl, rfl, rfl⟩, ht.push _⟩, fun b hb => ?_,
    F.keeps up, N.grown up, Nat.ne_of_lt F.ns.lt, next_is_new F, fun p hp => Nat.ne_of_lt (Heap.lt_size (N p hp).1), T⟩
  · rintro i h h' o nw st e e' k N' T'
    exact ⟨by obtain ⟨o', q, r⟩ := st.1; rw [e] at q; cases q; exact ⟨o, e', r⟩, T'.at k N'⟩
  · show b < (s₁.heap.push _).objs.size
    rw [Heap.size_push]
    rcases List.mem_cons.mp hb with rfl | hb
    · exact Nat.lt_succ_self _
    · rw [List.mem_singleton.mp hb]; exact Nat.lt_succ_of_lt hlt
theorem Drawn.list {ax : Addr} {its : Array Value} {news : List (Addr × Obj)} {s₁ : Shared}
    (hh : A.handled = none) (F : Fr h₀ L s₁.heap m) (N : News h₀ L s₁.heap news) (T : SrcAt h₀ ax its news) :
    Drawn prog w A h₀ L m its.size (fun i v => its[i]? = some v) (SrcAt h₀ ax its) news (.ref ax) s₁ := by
  intro K E h
  have ht := T.list F.keep N
  have hlt : ax < s₁.heap.objs.size := by obtain ⟨_, e, _⟩ := ht; exact Heap.lt_size e
  refine wpAny_pyIter_list ht ?_
  have up : ∀ b o, s₁.heap.get? b = some o → (s₁.heap.push { cls := .type "list_iterator", data := .fields #[.ref ax, .int 0 0] }).get? b = some o := fun b o e => Heap.get?_push_of_some _ e
  refine h _ _ _ _ ⟨Walks.list hh s₁.heap.objs.size ax (Nat.ne_of_lt hlt) its, fun i h st => by obtain ⟨o, e, _⟩ := st.1; exact ⟨o, e⟩, list_st, ⟨⟨_, Heap.get?_push_size _ rfl, rfl, rfl⟩, ht.push _⟩, fun b hb => ?_,
    F.keeps up, N.grown up, Nat.ne_of_lt F.ns.lt, next_is_new F, fun p hp => Nat.ne_of_lt (Heap.lt_size (N p hp).1), T⟩
  show b < (s₁.heap.push _).objs.size
  rw [Heap.size_push]
  rcases List.mem_cons.mp hb with rfl | hb
  · exact Nat.lt_succ_self _
  · rw [List.mem_singleton.mp hb]; exact Nat.lt_succ_of_lt hlt
/-- a list of the ledger -/
theorem Drawn.led {ax : Addr} {vs : List Value} {n : Nat} {news : List (Addr × Obj)} {s₁ : Shared}
    (hh : A.handled = none) (F : Fr h₀ L s₁.heap m) (N : News h₀ L s₁.heap news) (hm : (ax, listOf vs.toArray n) ∈ news) :
    Drawn prog w A h₀ L m vs.toArray.size (fun i v => vs.toArray[i]? = some v) (SrcAt h₀ ax vs.toArray) news (.ref ax) s₁ := Drawn.list hh F N (.inr ⟨_, hm, rfl, _, rfl⟩)
theorem Drawn.range {r : Addr} {a b : Int} {t u v : Tok} {n : Nat} {news : List (Addr × Obj)} {s₁ : Shared}
    (hh : A.handled = none) (F : Fr h₀ L s₁.heap m) (N : News h₀ L s₁.heap news) (hr : IsRange s₁.heap r a b 1 t u v) (hsm : Builtin.Range.small a b 1 = true) (hn : Builtin.Range.rangeSize a b 1 = ((n : Nat) : Int)) :
    Drawn prog w A h₀ L m n (fun i v => ∃ t, v = .int (a + (i : Int)) t) (fun _ => True) news (.ref r) s₁ := by
  intro K E h
  refine wpAny_pyIter_range hr hsm ?_
  refine h _ _ _ _ ⟨range_walks hh a n, fun i h st => ⟨_, st⟩, range_st, (by show IsRangeIter _ _ _ _ _; rw [hn]; simpa using Heap.get?_push_size _ rfl), fun b hb => ?_,
    F.keeps fun _ _ e => Heap.get?_push_of_some _ e, N.grown fun _ _ e => Heap.get?_push_of_some _ e, Nat.ne_of_lt F.ns.lt, next_is_new F, fun p hp => Nat.ne_of_lt (Heap.lt_size (N p hp).1), trivial⟩
  rw [List.mem_singleton.mp hb]
  show s₁.heap.objs.size < (s₁.heap.push _).objs.size
  rw [Heap.size_push]; exact Nat.lt_succ_self _
end
end E1Part
section E2Part
set_option linter.unusedVariables false
open PySem.F
open AutoSeq1 (wpAny_loadPart')
theorem entry_map_iter : entryFor table "map.__iter__" = some Builtin.«dict_keyiterator.__iter__» :=
  entryFor_alias (id' := "dict_keyiterator.__iter__") (by kernel_rfl) (by first | rfl | decide +kernel | (unfold String.splitOn; simp +decide [String.splitOnAux])) (by decide +kernel) (by kernel_rfl)
theorem slot_map_init : Slot "map" "__init__" "object.__init__" :=
  .of (owner := "object") (n := "__init__") (by rw [typeLookup_type, builtinLookup_eq_fast]; kernel_rfl) (by decide +kernel) (by decide +kernel) (by decide +kernel)
    (by first | exact .inl (by decide +kernel) | exact .inr (by decide +kernel)) (by rw [isSubtype_type]; kernel_rfl)
theorem slot_map_iter : Slot "map" "__iter__" "map.__iter__" :=
  .of (owner := "map") (n := "__iter__") (by rw [typeLookup_type, builtinLookup_eq_fast]; kernel_rfl) (by decide +kernel) (by decide +kernel) (by decide +kernel)
    (by first | exact .inl (by decide +kernel) | exact .inr (by decide +kernel)) (by rw [isSubtype_type]; kernel_rfl)
theorem slot_map_next : Slot "map" "__next__" "map.__next__" :=
  .of (owner := "map") (n := "__next__") (by rw [typeLookup_type, builtinLookup_eq_fast]; kernel_rfl) (by decide +kernel) (by decide +kernel) (by decide +kernel)
    (by first | exact .inl (by decide +kernel) | exact .inr (by decide +kernel)) (by rw [isSubtype_type]; kernel_rfl)
theorem entry_map_next : entryFor table "map.__next__" = some Builtin.«map.__next__» := entryFor_of_tree (by kernel_rfl)
theorem entry_map_new : entryFor table "map.__new__" = some Builtin.«map.__new__» := entryFor_of_tree (by kernel_rfl)
theorem args_map_next_1 (a : Value) : argsOk "map.__next__" ⟨[a], []⟩ := by
  unfold argsOk; kernel_rfl
theorem args_map_iter_1 (a : Value) : argsOk "map.__iter__" ⟨[a], []⟩ := by
  unfold argsOk; kernel_rfl
theorem mro_map : mroOf (.type "map") = pure [.type "map", .type "object"] := by rw [mroOf_type]; kernel_rfl
theorem lookup_map_new : typeLookup (.type "map") "__new__" = pure (some (.builtin "map.__new__")) := by rw [typeLookup_type, builtinLookup_eq_fast]; kernel_rfl
theorem called_map : TypeCalled "map" "map.__new__" "object.__init__" :=
  ⟨by decide +kernel, by decide +kernel, ⟨_, _, mro_map⟩, madeBy_type mro_map lookup_map_new (by decide +kernel), by decide +kernel, by rw [isSubtype_type]; kernel_rfl, slot_map_init⟩
theorem typeCall_map_2 (a b : Value) : checkTypeCall "map" ⟨[a, b], []⟩ = pure () := by kernel_rfl
theorem newCall_map_2 (a b : Value) : checkBuiltinCall "map.__new__" ⟨[.type "map", a, b], []⟩ = pure () := by kernel_rfl
theorem sub_map : isSubtype (.type "map") (.type "map") = pure true := by rw [isSubtype_type]; kernel_rfl
theorem map_no_len : typeLookup (.type "map") "__len__" = pure none := by rw [typeLookup_type, builtinLookup_eq_fast]; kernel_rfl
theorem map_no_hint : typeLookup (.type "map") "__length_hint__" = pure none := by rw [typeLookup_type, builtinLookup_eq_fast]; kernel_rfl
noncomputable abbrev mapObj (T : Addr) (f : Value) : Obj := { cls := .type "map", data := .fields #[.ref T, f] }
noncomputable abbrev oneTup (I : Addr) : Obj := { cls := .type "tuple", data := .seq #[.ref I] }
noncomputable abbrev litObj (l : Addr) : Obj := { cls := .type "list_iterator", data := .fields #[.ref l, .int 0 0] }
theorem meets_map_new (f : Value) (l : Addr) (xs : Array Value) :
    Meets (Builtin.«map.__new__» ⟨[.type "map", f, .ref l], []⟩) (fun _ R s => s.heap.IsList l xs ∧
      R (.ok (.ret (.ref ((s.heap.push (litObj l)).push (oneTup s.heap.objs.size)).objs.size))) { s with heap := ((s.heap.push (litObj l)).push (oneTup s.heap.objs.size)).push (mapObj (s.heap.push (litObj l)).objs.size f) }) :=
  .of_wp fun prog w A R s h => by
    obtain ⟨hp, g, d, tk, os⟩ := s; obtain ⟨hl, h⟩ := h
    have hsub := sub_map
    have hL : Heap.IsList (Shared.heap ⟨hp, g, d, tk, os⟩) l xs := hl
    wp_walk using wpAny_pyIter_list hL
    exact ⟨_, rfl, h⟩
/-- the map's state between two draws -/
structure MapSt (g : Heap) (M T I l : Addr) (f : Value) (xs : Array Value) (i : Nat) (h : Heap) : Prop where
  base : ∀ b o, g.get? b = some o → h.get? b = some o
  M : h.get? M = some (mapObj T f)
  T : h.get? T = some (oneTup I)
  I : h.IsListIter I l i
section
variable {prog : Program} {w : World} {A : Around} {E : Value → Shared → Prop} {s : Shared}
/-- what is asked of the function: it gives its argument back -/
noncomputable def Hands (prog : Program) (w : World) (A : Around) (g : Heap) (f : Value) (xs : Array Value) : Prop :=
  ∀ (i : Nat) (x : Value) (s' : Shared) (Q E : Value → Shared → Prop), xs[i]? = some x → (∀ b o, g.get? b = some o → s'.heap.get? b = some o) →
    (∀ h' tk, (∀ b o, s'.heap.get? b = some o → h'.get? b = some o) → Q x { s' with heap := h', toks := tk }) → wpAny (model prog w) A (call f [x]) Q E s'
theorem map_next_item {g : Heap} {M T I l : Addr} {f : Value} {xs : Array Value} {i : Nat} {x : Value} {Q : Value → Shared → Prop} (hf : Hands prog w A g f xs) (hl : g.IsList l xs)
    (nM : M ≠ I) (nT : T ≠ I) (nI : g.get? I = none) (st : MapSt g M T I l f xs i s.heap) (hx : xs[i]? = some x)
    (hQ : ∀ h' tk, MapSt g M T I l f xs (i + 1) h' → (∀ b o, b ≠ I → s.heap.get? b = some o → h'.get? b = some o) → Q x { s with heap := h', toks := tk }) :
    wpAny (model prog w) A (Builtin.«map.__next__» ⟨[.ref M], []⟩) (fun fin s' => ∃ v, fin = .done (.ret v) ∧ Q v s') E s := by
  have hlh : s.heap.IsList l xs := let ⟨o, e, r⟩ := hl; ⟨o, st.base _ _ e, r⟩
  show wpAny _ _ (field (.ref M) 0 >>= _) _ _ _
  refine wpAny_bind (wpAny_field st.M rfl (x := .ref T) rfl ?_)
  refine wpAny_bind (wpAny_seqItems st.T rfl ?_)
  dsimp only
  refine wpAny_bind ?_
  rw [← Array.forIn_toList]
  simp only [List.forIn_cons, List.forIn_nil]
  refine wpAny_bind (wpAny_bind (wpAny_holding ?_))
  refine wpAny_nextOf_list_item st.I hlh hx fun h₁ hit hs => ?_
  refine wpAny_pure (wpAny_pure ?_)
  have up : ∀ b o, b ≠ I → s.heap.get? b = some o → h₁.get? b = some o := fun b o hb e => hs.extBut b o hb e
  have st₁ : MapSt g M T I l f xs (i + 1) h₁ := ⟨fun b o e => up b o (by rintro rfl; rw [nI] at e; cases e) (st.base b o e), up _ _ nM st.M, up _ _ nT st.T, hit⟩
  refine wpAny_bind (wpAny_field st₁.M rfl (x := f) rfl ?_)
  show wpAny _ _ (holding [x] (call f [x]) >>= _) _ _ _
  refine wpAny_bind (wpAny_holding (hf i x _ _ _ hx st₁.base fun h₂ tk hk => ?_))
  refine wpAny_bind (wpAny_letGo (wpAny_pure ⟨_, rfl, ?_⟩))
  exact hQ h₂ tk ⟨fun b o e => hk _ _ (st₁.base b o e), hk _ _ st₁.M, hk _ _ st₁.T, hit.at fun o e => hk _ o e⟩ fun b o hb e => hk _ _ (up b o hb e)
theorem map_next_end {g : Heap} {M T I l : Addr} {f : Value} {xs : Array Value} {i : Nat} {Q : Fin → Shared → Prop} (hh : A.handled = none) (hl : g.IsList l xs)
    (st : MapSt g M T I l f xs i s.heap) (hx : xs[i]? = none)
    (hE : ∀ h' e, (∀ b o, b ≠ I → s.heap.get? b = some o → h'.get? b = some o) → (∃ o, h'.get? e = some o ∧ o.cls = .type "StopIteration") → E (.ref e) { s with heap := h' }) :
    wpAny (model prog w) A (Builtin.«map.__next__» ⟨[.ref M], []⟩) Q E s := by
  have hlh : s.heap.IsList l xs := let ⟨o, e, r⟩ := hl; ⟨o, st.base _ _ e, r⟩
  show wpAny _ _ (field (.ref M) 0 >>= _) _ _ _
  refine wpAny_bind (wpAny_field st.M rfl (x := .ref T) rfl ?_)
  refine wpAny_bind (wpAny_seqItems st.T rfl ?_)
  dsimp only
  refine wpAny_bind ?_
  rw [← Array.forIn_toList]
  simp only [List.forIn_cons, List.forIn_nil]
  refine wpAny_bind (wpAny_bind (wpAny_holding ?_))
  exact wpAny_nextOf_list_end hh st.I hlh hx fun h' e he hs => hE h' e (fun b o hb x => he b o hb x) hs
theorem map_walks {g : Heap} {M T I l : Addr} {f : Value} {xs : Array Value} (hh : A.handled = none) (hf : Hands prog w A.in1 g f xs) (hl : g.IsList l xs)
    (nM : M ≠ I) (nT : T ≠ I) (nI : g.get? I = none) :
    Walks prog w A M (M :: T :: I :: List.range g.objs.size) [I] xs.size (fun i v => xs[i]? = some v) (fun i h => MapSt g M T I l f xs i h) where
  sub := fun b hb => by simp at hb; simp [hb]
  frame := fun i h h' st hk => ⟨fun b o e => hk b (.tail _ (.tail _ (.tail _ (List.mem_range.mpr (Heap.lt_size e))))) o (st.base b o e), hk M (by simp) _ st.M, hk T (by simp) _ st.T, st.I.at fun o e => hk I (by simp) o e⟩
  item := fun i s Q E hi st hQ => by
    have hT : s.TypeIs (.ref M) "map" := ⟨_, st.M, rfl⟩
    unfold pyNext
    exact wpAny_bind (wpAny_attempt (wpAny_callSpecial?_slot (name := Str.ofString "__next__") hT slot_map_next
      (wpAny_call_entry slot_map_next hT entry_map_next
        (map_next_item hf hl nM nT nI st (Array.getElem?_eq_getElem hi) fun h' tk st' hk => wpAny_pure (hQ _ h' tk (Array.getElem?_eq_getElem hi) st' fun b o hb e => hk b o (by simpa using hb) e)) (args_map_next_1 _))))
  done := fun s Q E st hQ => by
    have hT : s.TypeIs (.ref M) "map" := ⟨_, st.M, rfl⟩
    unfold pyNext
    refine wpAny_bind (wpAny_attempt (wpAny_callSpecial?_slot (name := Str.ofString "__next__") hT slot_map_next
      (wpAny_call_entry slot_map_next hT entry_map_next (map_next_end hh hl st (by simp) fun h' e hk he => ?_) (args_map_next_1 _))))
    obtain ⟨o, ho, hc⟩ := he
    refine wpAny_bind (wpAny_isInstance (T := "StopIteration") (b := true) ⟨o, ho, hc⟩ isSubtype_stop ?_)
    exact wpAny_pure (hQ _ s.toks fun b o hb e => hk b o (by simpa using hb) e)
  self := fun i s Q E st hQ => by
    have hT : s.TypeIs (.ref M) "map" := ⟨_, st.M, rfl⟩
    refine wpAny_pyIter_slot hT slot_map_iter (wpAny_call_entry slot_map_iter hT entry_map_iter ?_ (args_map_iter_1 _))
    show wpAny _ _ (ret (.ref M)) _ _ s
    exact wpAny_pure ⟨_, rfl, "map", _, hT, slot_map_next.lookup, hQ⟩
variable {I : Addr} {fp wr : List Addr} {G : Array GenState → Array GenState → Prop} {n : Nat} {P : Nat → Value → Prop} {Stt : Nat → Shared → Prop}
theorem collect_map {Q : List Value → Shared → Prop} (W : WalksS prog w A.in1 I fp wr G n P Stt) (hT : ∀ i s, Stt i s → s.TypeIs (.ref I) "map") (hst : Stt 0 s) (hfp : ∀ b ∈ fp, b < s.heap.objs.size) (hI : I ∈ fp)
    (hQ : ∀ s' acc, Moved wr G s s' → ItemsOf P acc n → Q acc.toList s') (hn : n ≤ sizeLine := by size_fits) : wpAny (model prog w) A (collect (.ref I)) Q E s := by
  have hSf : s.heap.objs.size ∉ fp := fun hm => Nat.lt_irrefl _ (hfp _ hm)
  have hSI : s.heap.objs.size ≠ I := fun e => hSf (e ▸ hI)
  unfold collect
  refine wpAny_bind (wpAny_runValue (codeAny_builtin F.entry_proto_collect ?_))
  rw [Around.under_plainId F.plain_proto_collect _]
  show wpAny _ A.in1 (newList [] >>= fun l => again (.builtin "list.__iadd__" ⟨[l, .ref I], []⟩)) _ _ s
  refine wpAny_bind (wpAny_newObj_type ?_)
  refine wpAny_pure ⟨plainId_quiet F.plain_list_iadd _, codeAny_builtin F.entry_list_iadd ?_⟩
  rw [Around.under_plainId F.plain_list_iadd _]
  have up : ∀ b o, s.heap.get? b = some o → (s.heap.push { cls := .type "list", data := .seq ([] : List Value).toArray }).get? b = some o := fun b o e => Heap.get?_push_of_some _ e
  have hst₁ := W.frame 0 s (s.heap.push { cls := .type "list", data := .seq ([] : List Value).toArray }) s.toks hst (Nat.le_refl _) fun b _ o e => up b o e
  show wpAny _ A.in1 (Builtin.List.listExtendWith (.ref s.heap.objs.size) (.ref I) (.ref s.heap.objs.size)) _ _ _
  unfold Builtin.List.listExtendWith
  refine wpAny_bind (wpAny_typeOf (hT 0 _ hst₁) ?_)
  have h1 : Builtin.List.listSameRef (.ref s.heap.objs.size) (.ref I) = false := by simp [Builtin.List.listSameRef, hSI]
  have h2 : (Value.type "map" == Value.type "list") = false := by decide
  have h3 : (Value.type "map" == Value.type "tuple") = false := by decide
  simp only [h1, h2, h3, Bool.or_false, Bool.false_eq_true, if_false]
  refine wpAny_bind (W.self 0 _ _ _ hst₁ ?_)
  refine wpAny_bind (wpAny_holding ?_)
  unfold Builtin.List.listLengthHint
  refine wpAny_bind (wpAny_specialOf (hT 0 _ hst₁) map_no_len ?_)
  show wpAny _ A.in1 (specialOf (Value.ref I) (Str.ofString "__length_hint__") >>= _) _ _ _
  refine wpAny_bind (wpAny_specialOf (hT 0 _ hst₁) map_no_hint ?_)
  refine wpAny_pure ?_
  show wpAny _ A.in1 (rule "list.extend.makes-room" >>= fun _ => Builtin.List.listTouch (.ref s.heap.objs.size) >>= fun _ =>
    again (.builtin "list.extend.loop" ⟨[.ref s.heap.objs.size, .ref I, .ref s.heap.objs.size], []⟩)) _ _ _
  refine wpAny_bind (wpAny_rule ?_)
  have hS₁ : (s.heap.push { cls := .type "list", data := .seq ([] : List Value).toArray }).get? s.heap.objs.size = some { cls := .type "list", data := .seq ([] : List Value).toArray } := Heap.get?_push_size _ rfl
  refine wpAny_bind ?_
  show wpAny _ A.in1 (updateSeq s.heap.objs.size (·.push .none) >>= fun _ => updateSeq s.heap.objs.size (·.pop)) _ _ _
  refine wpAny_bind (wpAny_updateSeq hS₁ rfl ?_)
  have hS₂ := Heap.get?_update_self (Obj.mapSeq (·.push Value.none)) hS₁ rfl
  refine wpAny_updateSeq hS₂ rfl ?_
  have hS₃ := Heap.get?_update_self (Obj.mapSeq (·.pop)) hS₂ rfl
  generalize hH : ((s.heap.push { cls := .type "list", data := .seq ([] : List Value).toArray }).update s.heap.objs.size (Obj.mapSeq (·.push Value.none))).update s.heap.objs.size (Obj.mapSeq (·.pop)) = H at hS₃ ⊢
  have oth : ∀ b o, b ≠ s.heap.objs.size → (s.heap.push { cls := .type "list", data := .seq ([] : List Value).toArray }).get? b = some o → H.get? b = some o :=
    fun b o hb e => hH ▸ (Heap.get?_update_other _ _ (Ne.symm hb)).trans ((Heap.get?_update_other _ _ (Ne.symm hb)).trans e)
  refine wpAny_pure ⟨plainId_quiet F.plain_extend_loop _, codeAny_extend_loopS W hn _ hSf _ n 0 _ _ _ rfl (Nat.zero_le _)
    (W.frame 0 ({ s with heap := s.heap.push { cls := .type "list", data := .seq ([] : List Value).toArray } } : Shared) _ s.toks hst₁ (Nat.le_refl _) fun b hb o e => oth b o (fun h => hSf (h ▸ hb)) e) hS₃ (ItemsOf.nil P) fun s' acc' c' hm hS' hacc => ?_⟩
  show wpAny _ A (load s.heap.objs.size >>= _) _ _ s'
  refine wpAny_bind (wpAny_load hS' ?_)
  refine wpAny_pure (hQ s' acc' (Moved.drop_new (o := { cls := .type "list", data := .seq ([] : List Value).toArray }) (tk := s.toks) (Moved.trans W.gtrans ((Moved.refl W.grefl).then_heap (by first | exact Nat.le_refl _ | exact Nat.le_succ _ | omega) fun b o hb e => ?_) hm) (Nat.le_refl _)) hacc)
  exact oth b o (fun h => hb (h ▸ List.mem_cons_self)) e
theorem code_tuple_map {Q₁ : Value → Shared → Prop} (W : WalksS prog w A.in1.in1 I fp wr G n P Stt) (hT : ∀ i s, Stt i s → s.TypeIs (.ref I) "map") (hst : Stt 0 s) (hfp : ∀ b ∈ fp, b < s.heap.objs.size) (hI : I ∈ fp)
    (h : ∀ s' acc, Moved wr G s s' → ItemsOf P acc n → Q₁ (.ref s'.heap.objs.size) { s' with heap := s'.heap.push { cls := .type "tuple", data := .seq acc } }) (hsz : n ≤ sizeLine) :
    codeAny (model prog w) A (.call (.builtin "tuple.__new__") ⟨[.type "tuple", .ref I], []⟩) (wants Q₁ E) s := by
  refine codeAny_of_tree ?_
  show wpAny _ A.in1 (do checkBuiltinCall "tuple.__new__" ⟨[.type "tuple", .ref I], []⟩; again (.builtin "tuple.__new__" ⟨[.type "tuple", .ref I], []⟩)) _ _ s
  refine wpAny_bind (wpAny_of_eq (F.newCall_tuple_1 _) (wpAny_pure ⟨plainId_quiet F.plain_tuple_new _, codeAny_builtin F.entry_tuple_new ?_⟩))
  rw [Around.under_plainId F.plain_tuple_new _]
  have hsub := sub_tuple_self
  have hinit := init_tuple_lookup
  have hmh := madeHere_tuple
  have hTI := hT 0 s hst
  wp_walk using wpAny_typeOf hTI, collect_map (hn := hsz) W hT hst hfp hI
  intro s' acc hm hacc
  show wpAny _ _ (Builtin.Tuple.tupleExact acc.toList.toArray >>= fun v => ret v) _ _ _
  unfold Builtin.Tuple.tupleExact
  refine wpAny_bind (wpAny_newObj_type ?_ (by show acc.toList.toArray.size ≤ sizeLine; simp only [Array.toArray_toList]; rw [hacc.1]; exact hsz))
  refine wpAny_pure ?_
  have e : acc.toList.toArray = acc := by simp
  rw [e]
  exact h s' acc hm hacc
theorem call_tuple_map {Q : Value → Shared → Prop} (W : WalksS prog w A.in1.in1.in1 I fp wr G n P Stt) (hT : ∀ i s, Stt i s → s.TypeIs (.ref I) "map") (hst : Stt 0 s) (hfp : ∀ b ∈ fp, b < s.heap.objs.size) (hI : I ∈ fp)
    (hQ : ∀ s' acc, Moved wr G s s' → ItemsOf P acc n → Q (.ref s'.heap.objs.size) { s' with heap := s'.heap.push { cls := .type "tuple", data := .seq acc } }) (hsz : n ≤ sizeLine) :
    wpAny (model prog w) A (call (.type "tuple") [.ref I]) Q E s := by
  refine callType_codes (Q₁ := fun obj s₁ => s₁.TypeIs obj "tuple" ∧ Q obj s₁) F.called_tuple (F.typeCall_tuple_1 _) F.entry_object_init
    (code_tuple_map (hsz := hsz) W hT hst hfp hI fun s' acc hm hacc => ⟨⟨_, Heap.get?_push_size _ rfl, rfl⟩, hQ s' acc hm hacc⟩) fun obj s₁ h₁ => ?_
  exact ⟨h₁.1, F.args_object_init_2 obj _, object_init_meets F.called_tuple.init.lookup F.called_tuple.made (by decide) prog w A.in1 _ s₁ ⟨h₁.1, rfl, h₁.2⟩⟩
/-- map(f, xs) -/
theorem call_map {f : Value} {l : Addr} {xs : Array Value} {Q : Value → Shared → Prop} (hl : s.heap.IsList l xs)
    (h : ∀ h' M T I, MapSt s.heap M T I l f xs 0 h' → M ≠ I → T ≠ I → s.heap.get? I = none → (∀ b ∈ M :: T :: I :: List.range s.heap.objs.size, b < h'.objs.size) → Q (.ref M) { s with heap := h' }) :
    wpAny (model prog w) A (call (.type "map") [f, .ref l]) Q E s := by
  refine callType_new called_map (by decide) (typeCall_map_2 _ _) (newCall_map_2 _ _) (fun obj => F.args_object_init_3 obj _ _) entry_map_new
    (meets_map_new f l xs) ⟨hl, ?_⟩
  have z1 : (s.heap.push (litObj l)).objs.size = s.heap.objs.size + 1 := Heap.size_push ..
  have z2 : ((s.heap.push (litObj l)).push (oneTup s.heap.objs.size)).objs.size = s.heap.objs.size + 2 := by rw [Heap.size_push, z1]
  have hI : (((s.heap.push (litObj l)).push (oneTup s.heap.objs.size)).push (mapObj (s.heap.push (litObj l)).objs.size f)).get? s.heap.objs.size = some (litObj l) := Heap.get?_push_of_some _ (Heap.get?_push_of_some _ (Heap.get?_push_size _ rfl))
  refine ⟨⟨_, Heap.get?_push_size _ rfl, rfl⟩, h _ _ _ _ ⟨fun b o e => Heap.get?_push_of_some _ (Heap.get?_push_of_some _ (Heap.get?_push_of_some _ e)), Heap.get?_push_size _ rfl, Heap.get?_push_of_some _ (Heap.get?_push_size _ rfl), ⟨_, hI, rfl, rfl⟩⟩ ?_ ?_ ?_ ?_⟩
  · rw [z2]; exact Nat.ne_of_gt (Nat.lt_add_of_pos_right (by decide))
  · rw [z1]; exact Nat.ne_of_gt (Nat.lt_add_of_pos_right (by decide))
  · exact Heap.get?_none_of_le (Nat.le_refl _)
  · intro b hb
    rw [Heap.size_push, z2]
    simp only [List.mem_cons, List.mem_range] at hb
    rw [z2, z1] at hb
    show (b : Nat) < s.heap.objs.size + 2 + 1
    rcases hb with hb | hb | hb | hb
    · exact Nat.lt_of_le_of_lt (Nat.le_of_eq hb) (Nat.lt_succ_self _)
    · exact Nat.lt_of_le_of_lt (Nat.le_of_eq hb) (Nat.lt_succ_of_lt (Nat.lt_succ_self _))
    · exact Nat.lt_of_le_of_lt (Nat.le_of_eq hb) (Nat.lt_succ_of_lt (Nat.lt_succ_of_lt (Nat.lt_succ_self _)))
    · exact Nat.lt_trans hb (Nat.lt_succ_of_lt (Nat.lt_succ_of_lt (Nat.lt_succ_self _)))
end
end E2Part
section E3Part
set_option linter.unusedVariables false
open PySem.F
open LCg
noncomputable def byText (w : World) : Bool := w.params.followText "set-order"
/-- the set that a comprehension makes, empty; with True -/
noncomputable def setO (w : World) : Obj := { cls := .type "set", dict := none, data := .set #[] 0 (.fresh 0 0 (!byText w)) }
section
variable {prog : Program} {w : World} {A : Around} {E : Value → Shared → Prop} {s : Shared}
theorem setsByText_wp {Q : Bool → Shared → Prop} (h : Q (byText w) s) : wpAny (model prog w) A setsByText Q E s := by
  unfold setsByText
  exact wpAny_bind (wpAny_askSetting (wpAny_pure h))
theorem hash_true {Q : Int → Shared → Prop} (h : ∀ tk, Q 1 { s with toks := tk }) : wpAny (model prog w) A (pyHash (.bool true)) Q E s := by
  unfold pyHash
  show wpAny _ _ (pyHashByItsType (.bool true)) _ _ _
  unfold pyHashByItsType
  have hT : s.TypeIs (.bool true) "bool" := rfl
  have hv : [Value.bool true].any Value.onHeap = false := rfl
  refine wpAny_bind ?_
  rw [cRoomFor, if_neg (by rw [hv]; exact Bool.false_ne_true)]; refine wpAny_pure ?_
  refine wpAny_bind (wpAny_specialOf hT F.slot_bool_hash.lookup ?_)
  show wpAny _ _ (if (some (Value.builtin "int.__hash__") == some Value.none) = true then _ else _) Q E s
  rw [if_neg (by rw [beq_builtin_none]; exact Bool.false_ne_true)]
  refine wpAny_bind (wpAny_specialOf hT F.slot_bool_hash.lookup ?_)
  show wpAny _ _ (callSpecialIfBoundUnlessNone? (.bool true) "__hash__" _ >>= _) Q E s
  refine wpAny_bind (wpAny_callSpecialIfBoundUnlessNone?_slot hT F.slot_bool_hash
    (wpAny_call_entry F.slot_bool_hash hT PySem.entry_int_hash
      (show wpAny _ _ (do ret (← mkInt (rawHash 1))) _ _ s from wpAny_ret_mkInt ?_) (PySem.args_int_hash _)))
  have hr := rawHash_range 1
  show wpAny _ _ (if (decide (-(2 : Int) ^ 63 ≤ rawHash 1) && decide (rawHash 1 < 2 ^ 63)) = true then _ else _) Q E _
  rw [if_pos (by rw [decide_eq_true hr.1, decide_eq_true hr.2]; rfl)]
  exact wpAny_pure (h _)
theorem newSet_wp {Q : Value → Shared → Prop} (h : Q (.ref s.heap.objs.size) { s with heap := s.heap.push (setO w) }) : wpAny (model prog w) A (newSet (.type "set")) Q E s := by
  unfold newSet
  refine wpAny_bind (setsByText_wp ?_)
  exact wpAny_newObj_type h
noncomputable def tT (b : Bool) : SetTable := { mask := 7, place := #[1], dummies := #[], finger := 0, led := b, moves := 0, plain := true }
theorem layNew_true (b : Bool) : layNew (.fresh 0 0 b) #[] 1 (.bool true) = (#[(1, .bool true)], tT b, false, false) := by
  cases b <;> decide +kernel
theorem add_true0 {a : Addr} {Q : Value → Shared → Prop} (ho : s.heap.get? a = some (setO w)) (h : ∀ h' tk, Heap.SameBut a s.heap h' → h'.get? a = some ((setO w).putSet #[(1, .bool true)] (tT (!byText w))) → Q .none { s with heap := h', toks := tk }) :
    wpAny (model prog w) A (call (.builtin "set.add") [.ref a, .bool true]) Q E s := by
  have hT : s.TypeIs (.ref a) "set" := ⟨_, ho, rfl⟩
  refine wpAny_call_entry F.slot_set_add hT F.entry_set_add ?_ (F.args_set_add_2 _ _)
  unfold Builtin.«set.add» Builtin.Frozenset.oneOther
  simp only [List.isEmpty_nil, bind_assoc]
  unfold Builtin.Frozenset.addrOf setAdd
  refine wpAny_bind (wpAny_pure ?_)
  try dsimp only
  refine wpAny_bind (wpAny_pure ?_)
  try dsimp only
  refine wpAny_bind ?_
  refine wpAny_holding ?_
  refine wpAny_bind (hash_true fun tk => ?_)
  unfold setAddHashed setAddHashedIn
  refine wpAny_holding (wpAny_bind (wpAny_setState_of (s := { s with toks := tk }) ho rfl (by cases byText w <;> rfl) ?_))
  dsimp only
  rw [show byScan (Value.bool true) #[] = true by decide +kernel]
  simp only [↓reduceIte]
  unfold setAddByScan
  refine wpAny_bind ?_
  refine wpAny_bind (wpAny_rule ?_)
  unfold setScan
  dsimp only
  show wpAny _ _ (setScanFrom a (.bool true) 1 true [] 0 >>= _) _ _ _
  refine wpAny_bind (show wpAny _ _ (pure ScanMet.absent) _ _ _ from wpAny_pure ?_)
  dsimp only
  rw [layNew_true]
  dsimp only
  refine wpAny_bind (show wpAny _ _ (pure ()) _ _ _ from wpAny_pure ?_)
  have hp : (tT (!byText w)).plain = true := rfl
  have hf : (tT (!byText w)).tooFull = false := by cases byText w <;> decide +kernel
  rw [if_pos hp]
  refine wpAny_bind ?_
  rw [hashByValue_scannable 8 (show (Value.bool true).scannable = true from rfl)]
  refine wpAny_pure ?_
  have pk : plainKind (Value.bool true) = true := rfl
  simp only [pk, if_true, hf, Bool.and_false, Bool.false_eq_true, if_false]
  refine wpAny_bind (wpAny_storeSet_of ho rfl ?_ (Nat.le_of_ble_eq_true rfl))
  refine wpAny_pure ?_
  dsimp only
  refine wpAny_pure (wpAny_pure ⟨_, rfl, h _ _ (Heap.SameBut.update ..) (Heap.get?_update_self _ ho rfl)⟩)
noncomputable def setT (w : World) : Obj := (setO w).putSet #[(1, .bool true)] (tT (!byText w))
theorem setT_data (w : World) : (setT w).data = .set #[(1, .bool true)] 1 (tT (!byText w)) := rfl
theorem add_true1 {a : Addr} {Q : Value → Shared → Prop} (ho : s.heap.get? a = some (setT w)) (h : ∀ tk, Q .none { s with toks := tk }) :
    wpAny (model prog w) A (call (.builtin "set.add") [.ref a, .bool true]) Q E s := by
  have hT : s.TypeIs (.ref a) "set" := ⟨_, ho, rfl⟩
  refine wpAny_call_entry F.slot_set_add hT F.entry_set_add ?_ (F.args_set_add_2 _ _)
  unfold Builtin.«set.add» Builtin.Frozenset.oneOther
  simp only [List.isEmpty_nil, bind_assoc]
  unfold Builtin.Frozenset.addrOf setAdd
  refine wpAny_bind (wpAny_pure ?_)
  try dsimp only
  refine wpAny_bind (wpAny_pure ?_)
  try dsimp only
  refine wpAny_bind ?_
  refine wpAny_holding ?_
  refine wpAny_bind (hash_true fun tk => ?_)
  unfold setAddHashed setAddHashedIn
  refine wpAny_holding (wpAny_bind (wpAny_setState_of (s := { s with toks := tk }) ho (setT_data w) (by cases byText w <;> rfl) ?_))
  dsimp only
  rw [show byScan (Value.bool true) #[(1, .bool true)] = true by decide +kernel]
  simp only [↓reduceIte]
  unfold setAddByScan
  refine wpAny_bind ?_
  refine wpAny_bind (wpAny_rule ?_)
  unfold setScan
  dsimp only
  show wpAny _ _ (setScanFrom a (.bool true) 1 true [(1, .bool true)] 0 >>= _) _ _ _
  unfold setScanFrom
  rw [if_pos (by decide)]
  refine wpAny_bind ?_
  refine wpAny_bind (wpAny_setEpoch_of (s := { s with toks := tk }) ho (setT_data w) (by cases byText w <;> rfl) ?_)
  refine wpAny_bind (show wpAny _ _ (eqBool (.bool true) (.bool true)) _ _ _ from ?_)
  unfold eqBool
  rw [if_pos (by decide +kernel)]
  refine wpAny_holding (wpAny_bind (wpAny_rule (wpAny_pure ?_)))
  rw [if_pos rfl]
  refine wpAny_pure ?_
  refine wpAny_pure (wpAny_pure (wpAny_pure ⟨_, rfl, h _⟩))
theorem entry_set_iter : entryFor table "set.__iter__" = some Builtin.«frozenset.__iter__» :=
  entryFor_alias (id' := "frozenset.__iter__") (by kernel_rfl) rfl (by decide +kernel) (by kernel_rfl)
theorem slot_setit_next : Slot "set_iterator" "__next__" "set_iterator.__next__" :=
  .of (owner := "set_iterator") (n := "__next__") (by rw [typeLookup_type, builtinLookup_eq_fast]; kernel_rfl) (by decide +kernel) (by decide +kernel) (by decide +kernel)
    (by first | exact .inl (by decide +kernel) | exact .inr (by decide +kernel)) (by rw [isSubtype_type]; kernel_rfl)
theorem entry_setit_next : entryFor table "set_iterator.__next__" = some Builtin.«set_iterator.__next__» := entryFor_of_tree (by kernel_rfl)
theorem args_setit_next_1 (a : Value) : argsOk "set_iterator.__next__" ⟨[a], []⟩ := by unfold argsOk; kernel_rfl
noncomputable def sitO (a : Addr) (slot i : Int) : Obj := { cls := .type "set_iterator", data := .fields #[rawInt slot, rawInt i, .ref a, rawInt 1, rawInt 1] }
theorem pyIter_setT {a : Addr} {Q : Value → Shared → Prop} (ho : s.heap.get? a = some (setT w)) (h : Q (.ref s.heap.objs.size) { s with heap := s.heap.push (sitO a 0 0) }) :
    wpAny (model prog w) A (pyIter (.ref a)) Q E s := by
  have hT : s.TypeIs (.ref a) "set" := ⟨_, ho, rfl⟩
  refine wpAny_pyIter_slot hT F.slot_set_iter (wpAny_call_entry F.slot_set_iter hT entry_set_iter ?_ (F.args_set_iter_1 _))
  unfold Builtin.«frozenset.__iter__» Builtin.Frozenset.slot0 slotArgs
  simp only [List.isEmpty_nil, Bool.not_true, Bool.false_eq_true, ↓reduceIte, bind_assoc, List.length_nil, bne_self_eq_false]
  have hst : ∀ {A : Around} {E : Value → Shared → Prop} {Q}, Q (#[(1, .bool true)], 1, tT (!byText w)) s → wpAny (model prog w) A (setState a) Q E s := fun h => wpAny_setState_of ho (setT_data w) (by cases byText w <;> rfl) h
  refine wpAny_bind (wpAny_pure ?_)
  refine wpAny_bind (wpAny_pure ?_)
  unfold Builtin.Frozenset.sizeOf setEntries
  refine wpAny_bind (wpAny_bind (wpAny_bind (hst (wpAny_pure (wpAny_pure ?_)))))
  refine wpAny_bind ?_
  unfold setDrawn
  refine wpAny_bind (hst ?_)
  dsimp only
  refine wpAny_bind (setsByText_wp ?_)
  refine wpAny_pure ?_
  rw [if_neg (by rw [Bool.not_eq_true]; cases byText w <;> rfl)]
  refine wpAny_bind (wpAny_pure ?_)
  unfold setEpoch
  refine wpAny_bind (wpAny_bind (hst (wpAny_pure ?_)))
  refine wpAny_bind (wpAny_newObj_type (wpAny_pure ⟨_, rfl, "set_iterator", _, ⟨_, Heap.get?_push_size _ rfl, rfl⟩, slot_setit_next.lookup, h⟩))
noncomputable def slot1 (w : World) : Int := if byText w then 0 else 2
theorem setNext0 {a : Addr} {Q : Option (Value × Nat) → Shared → Prop} (ho : s.heap.get? a = some (setT w)) (h : ∀ k : Nat, (k : Int) = slot1 w → Q (some (.bool true, k)) s) : wpAny (model prog w) A (setNext a 0 0 1) Q E s := by
  have hst : ∀ {A : Around} {E : Value → Shared → Prop} {Q}, Q (#[(1, .bool true)], 1, tT (!byText w)) s → wpAny (model prog w) A (setState a) Q E s := fun h => wpAny_setState_of ho (setT_data w) (by cases byText w <;> rfl) h
  unfold setNext
  refine wpAny_bind (hst ?_)
  dsimp only
  refine wpAny_bind (setsByText_wp ?_)
  cases hb : byText w with
  | true =>
    rw [hb] at hst
    simp only [if_true]
    rw [if_neg (by decide)]
    unfold setWalk
    refine wpAny_bind (wpAny_bind (hst ?_))
    dsimp only
    refine wpAny_bind (setsByText_wp ?_)
    rw [hb]
    simp only [if_true]
    refine wpAny_bind (wpAny_askSetting (wpAny_pure (wpAny_pure ?_)))
    have e : ∀ f : Nat → Nat, pickOrder f #[((1 : Int), Value.bool true)] = #[(1, Value.bool true)] := by
      intro f
      simp [pickOrder, pickOrder.go, Nat.mod_one]
    rw [e]
    exact h 0 (by simp [slot1, hb])
  | false =>
    simp only [Bool.false_eq_true, if_false, Bool.not_false]
    rw [if_neg (by decide +kernel)]
    refine wpAny_bind (show wpAny _ _ (pure ()) _ _ _ from wpAny_pure ?_)
    refine wpAny_pure ?_
    exact h 2 (by simp [slot1, hb])
theorem setNext1 {a : Addr} {k : Nat} {Q : Option (Value × Nat) → Shared → Prop} (hk : (k : Int) = slot1 w) (ho : s.heap.get? a = some (setT w)) (h : Q none s) : wpAny (model prog w) A (setNext a k 1 1) Q E s := by
  have hst : ∀ {A : Around} {E : Value → Shared → Prop} {Q}, Q (#[(1, .bool true)], 1, tT (!byText w)) s → wpAny (model prog w) A (setState a) Q E s := fun h => wpAny_setState_of ho (setT_data w) (by cases byText w <;> rfl) h
  unfold setNext
  refine wpAny_bind (hst ?_)
  dsimp only
  refine wpAny_bind (setsByText_wp ?_)
  cases hb : byText w with
  | true =>
    rw [hb] at hst
    simp only [if_true]
    rw [if_neg (by decide)]
    unfold setWalk
    refine wpAny_bind (wpAny_bind (hst ?_))
    dsimp only
    refine wpAny_bind (setsByText_wp ?_)
    rw [hb]
    simp only [if_true]
    refine wpAny_bind (wpAny_askSetting (wpAny_pure (wpAny_pure ?_)))
    have e : ∀ f : Nat → Nat, pickOrder f #[((1 : Int), Value.bool true)] = #[(1, Value.bool true)] := by
      intro f
      simp [pickOrder, pickOrder.go, Nat.mod_one]
    rw [e]
    exact h
  | false =>
    obtain rfl : k = 2 := by simp [slot1, hb] at hk; omega
    simp only [Bool.false_eq_true, if_false, Bool.not_false]
    rw [if_neg (by decide +kernel)]
    refine wpAny_bind (show wpAny _ _ (pure ()) _ _ _ from wpAny_pure ?_)
    exact wpAny_pure h
theorem pyNext_set0 {a I : Addr} {Q : Option Value → Shared → Prop} (hI : s.heap.get? I = some (sitO a 0 0)) (ho : s.heap.get? a = some (setT w))
    (h : ∀ h', h'.get? I = some (sitO a (slot1 w) 1) → Heap.SameBut I s.heap h' → Q (some (.bool true)) { s with heap := h' }) : wpAny (model prog w) A (pyNext (.ref I)) Q E s := by
  have hT : s.TypeIs (.ref I) "set_iterator" := ⟨_, hI, rfl⟩
  unfold pyNext
  refine wpAny_bind (wpAny_attempt (wpAny_callSpecial?_slot (name := Str.ofString "__next__") hT slot_setit_next
    (wpAny_call_entry slot_setit_next hT entry_setit_next ?_ (args_setit_next_1 _))))
  unfold Builtin.«set_iterator.__next__»
  refine wpAny_bind (wpAny_of_eq (a := (Value.ref I, [])) rfl ?_)
  dsimp only
  refine wpAny_bind (wpAny_fieldsOf hI rfl ?_)
  simp only [rawInt]
  unfold setEntries
  refine wpAny_bind (wpAny_bind (wpAny_setState_of ho (setT_data w) (by cases byText w <;> rfl) (wpAny_pure ?_)))
  rw [if_neg (by simp)]
  refine wpAny_bind (setNext0 ho fun k hk => ?_)
  dsimp only
  refine wpAny_bind (wpAny_setField_rec hI (by simp) fun h₁ hI₁ hs₁ => ?_)
  refine wpAny_bind (wpAny_setField_rec hI₁ (by simp) fun h₂ hI₂ hs₂ => ?_)
  refine wpAny_pure ⟨_, rfl, ?_⟩
  dsimp only
  refine wpAny_pure (h h₂ ?_ (hs₁.trans hs₂))
  rw [hI₂, ← hk]
  rfl
theorem pyNext_set1 {a I : Addr} {Q : Option Value → Shared → Prop} (hh : A.handled = none) (hI : s.heap.get? I = some (sitO a (slot1 w) 1)) (ho : s.heap.get? a = some (setT w))
    (h : ∀ h', Heap.ExtBut I s.heap h' → Q none { s with heap := h' }) : wpAny (model prog w) A (pyNext (.ref I)) Q E s := by
  have hT : s.TypeIs (.ref I) "set_iterator" := ⟨_, hI, rfl⟩
  unfold pyNext
  refine wpAny_bind (wpAny_attempt (wpAny_callSpecial?_slot (name := Str.ofString "__next__") hT slot_setit_next
    (wpAny_call_entry slot_setit_next hT entry_setit_next ?_ (args_setit_next_1 _))))
  unfold Builtin.«set_iterator.__next__»
  refine wpAny_bind (wpAny_of_eq (a := (Value.ref I, [])) rfl ?_)
  dsimp only
  refine wpAny_bind (wpAny_fieldsOf hI rfl ?_)
  simp only [rawInt]
  unfold setEntries
  refine wpAny_bind (wpAny_bind (wpAny_setState_of ho (setT_data w) (by cases byText w <;> rfl) (wpAny_pure ?_)))
  rw [if_neg (by simp)]
  have hk : (((slot1 w).toNat : Nat) : Int) = slot1 w := by unfold slot1; split <;> rfl
  refine wpAny_bind (setNext1 (k := (slot1 w).toNat) hk ho ?_)
  dsimp only
  refine wpAny_bind (wpAny_setField_rec hI (by simp) fun h₁ hI₁ hs₁ => ?_)
  show wpAny _ _ (newExc (.type "StopIteration") [] >>= _) _ _ _
  refine wpAny_bind ?_
  simp only [newExc, newTuple]
  refine wpAny_bind (wpAny_newObj_type ?_ (by size_fits))
  refine wpAny_bind (m := firstArgMember _ _) (wpAny_of_eq (a := Value.none) (by first | rfl | (simp only [firstArgMember]; rfl)) ?_)
  refine wpAny_newObj_type ?_ (by size_fits)
  simp only [raiseNew]
  refine wpAny_bind (wpAny_handled ?_)
  first | rw [show A.in1.handled = none from hh] | rw [hh]
  refine wpAny_bind (wpAny_pure (wpAny_throw ?_))
  refine wpAny_bind (wpAny_isInstance (T := "StopIteration") (b := true) ⟨_, Heap.get?_push_size _ rfl, rfl⟩ isSubtype_stop ?_)
  exact wpAny_pure (h _ ((hs₁.extBut.push _).push _))
theorem unpackItems_set {a : Addr} {Q : List Value → Shared → Prop} (hh : A.handled = none) (ho : s.heap.get? a = some (setT w))
    (hQ : ∀ h', Heap.ExtBut s.heap.objs.size s.heap h' → Q [.bool true] { s with heap := h' }) : wpAny (model prog w) A (unpackItems (.ref a) 1 none) Q E s := by
  have hT : s.TypeIs (.ref a) "set" := ⟨_, ho, rfl⟩
  have hne : a ≠ s.heap.objs.size := Nat.ne_of_lt (Heap.lt_size ho)
  unfold unpackItems
  refine wpAny_bind ?_
  unfold notIterableAtAll
  refine wpAny_bind (wpAny_specialOf hT F.slot_set_iter.lookup ?_)
  refine wpAny_pure ?_
  simp only [Bool.false_eq_true, if_false]
  refine wpAny_bind (wpAny_holding (pyIter_setT ho ?_))
  refine wpAny_bind (wpAny_holding ?_)
  show wpAny _ _ (pyNext (.ref s.heap.objs.size) >>= _) _ _ _
  refine wpAny_bind (pyNext_set0 (Heap.get?_push_size _ rfl) (Heap.get?_push_of_some _ ho) fun h₁ hI₁ hs₁ => ?_)
  have ho₁ : h₁.get? a = some (setT w) := hs₁.extBut _ _ hne (Heap.get?_push_of_some _ ho)
  refine wpAny_bind (wpAny_holding (show wpAny _ _ (pure []) _ _ _ from wpAny_pure (wpAny_pure ?_)))
  rw [if_neg (by simp)]
  refine wpAny_bind (wpAny_holding (pyNext_set1 hh hI₁ ho₁ fun h₂ he₂ => ?_))
  simp only [Option.isSome_none, Bool.false_eq_true, if_false]
  exact wpAny_pure (hQ h₂ fun b o hb e => he₂ b o hb (hs₁.extBut b o hb (Heap.get?_push_of_some _ e)))
end
end E3Part
section E4Part
set_option linter.unusedVariables false
open LCg
theorem compTurn_set (elt target iter : Expr) (ifs : List Expr) (scope : Scope) (pos : Pos) (it acc : Value) (env : Env) :
    compTurn (.SetComp elt [⟨target, iter, ifs, 0⟩] scope pos) 0 it acc env = (do
      standAt iter.pos
      match ← pyNext it with
      | none => pure (.done .next)
      | some v =>
        letOwnedTupleGo target it v
        assign target env v
        let mut ok := true
        for c in ifs do
          if ok then ok ← isTrue c env (eval c env)
        if ok then
          (do let v ← eval elt env; standAt elt.pos; let _ ← call (.builtin "set.add") [acc, v])
        again (.compLoop (.SetComp elt [⟨target, iter, ifs, 0⟩] scope pos) 0 it acc env)) := by rfl
section
variable {prog : Program} {w : World} {A : Around} {E : Value → Shared → Prop} {R : Result → Shared → Prop} {s : Shared}
theorem compStart_set {elt target iter ifs rest scope pos it acc env}
    (h0 : codeAny (model prog w) A (.compLoop (.SetComp elt (⟨target, iter, ifs, 0⟩ :: rest) scope pos) 0 it acc env) R s)
    (h : wpAny (model prog w) A (pyIter it) (fun it' s' => codeAny (model prog w) A (.compLoop (.SetComp elt (⟨target, iter, ifs, 0⟩ :: rest) scope pos) 0 it' acc env) R s')
      (notedBy (model prog w) A env fun x s' => R (.error x) s') s) :
    codeAny (model prog w) A (.compStart (.SetComp elt (⟨target, iter, ifs, 0⟩ :: rest) scope pos) 0 it acc env) R s := by
  refine codeAny_of_tree ?_
  show wpAny _ _ ((compStart (.SetComp elt (⟨target, iter, ifs, 0⟩ :: rest) scope pos) 0 it acc env).onRaise (fun x => do noteFrame x env; standAt theWindowsPlace)) _ _ s
  refine wpAny_notedAt ?_
  unfold compStart
  show wpAny _ _ (ask >>= _) _ _ s
  refine wpAny_bind (wpAny_askSetting (wpAny_ite ?_))
  split
  · first
      | exact wpAny_bind (wpAny_pure (wpAny_pure (And.intro rfl h0)))
      | exact wpAny_pure (And.intro rfl h0)
  · first
      | exact wpAny_bind (wpAny_rule (wpAny_bind (wpAny_standAt (wpAny_bind (wpAny_mono h (fun it' s' h' => wpAny_pure (And.intro rfl h')) fun _ _ x => x)))))
      | (refine wpAny_bind (wpAny_rule ?_); show wpAny _ _ (standAt iter.pos >>= _) _ _ s; exact wpAny_bind (wpAny_standAt (wpAny_bind (wpAny_mono h (fun it' s' h' => wpAny_pure (And.intro rfl h')) fun _ _ x => x))))
theorem compLoop_set {elt target iter : Expr} {scope : Scope} {pos : Pos} {it acc : Value} {env : Env} (I : Nat → Shared → Prop)
    (turn : ∀ n s, I n s → wpAny (model prog w) A (pyNext it) (fun r s₁ => match r with
      | none => R (.ok .next) s₁
      | some v => wpAny (model prog w) A (assign target env v) (fun _ s₂ =>
          wpAny (model prog w) A (eval elt env) (fun x s₄ =>
              wpAny (model prog w) A (call (.builtin "set.add") [acc, x]) (fun _ s₅ => ∃ m, m < n ∧ I m s₅) (notedBy (model prog w) A env fun e s' => R (.error e) s') s₄) (notedBy (model prog w) A env fun e s' => R (.error e) s') s₂) (notedBy (model prog w) A env fun e s' => R (.error e) s') s₁) (notedBy (model prog w) A env fun e s' => R (.error e) s') s)
    (n : Nat) (h : I n s) (ht : ∀ v, letOwnedTupleGo target it v = pure () := by intro _; rfl) :
    codeAny (model prog w) A (.compLoop (.SetComp elt [⟨target, iter, [], 0⟩] scope pos) 0 it acc env) R s := by
  refine codeAny_loop rfl I (fun n s hI => ?_) n h
  show wpAny _ A ((compTurn (.SetComp elt [⟨target, iter, [], 0⟩] scope pos) 0 it acc env).onRaise (fun x => do noteFrame x env; theTreesLotGoes x)) _ _ s
  refine wpAny_noted ?_
  rw [compTurn_set]
  refine wpAny_bind (wpAny_standAt (wpAny_bind (wpAny_mono (turn n s hI) (fun r s₁ h₁ => ?_) fun _ _ h' => h')))
  cases r with
  | none => exact wpAny_pure h₁
  | some v =>
    refine wpAny_bind (wpAny_of_eq (ht v) ?_)
    refine wpAny_bind (wpAny_mono h₁ (fun _ s₂ h₂ => wpAny_bind (wpAny_tests_nil ?_)) fun _ _ h' => h')
    simp only [if_true]
    exact wpAny_bind (wpAny_bind (wpAny_mono h₂ (fun x s₄ h₄ => wpAny_bind (wpAny_standAt (wpAny_bind (wpAny_mono h₄ (fun _ s₅ h₅ => wpAny_pure (wpAny_pure ⟨rfl, h₅⟩)) fun _ _ h' => h')))) fun _ _ h' => h'))
variable {h₀ : Heap} {L : Addr} {m : Str → Option Value} {env : Env}
/-- a comprehension of a set whose elements are all True -/
theorem SetComp_true {elt iter : Expr} {x : Str} {px : Pos} {scope : Scope} {cl : List (Str × Addr)} {pos : Pos} {n : Nat} {P : Nat → Value → Prop} {S : List (Addr × Obj) → Prop} {news : List (Addr × Obj)} {Q : Value → Shared → Prop} (F₀ : Fr h₀ L s.heap m)
    (hclos : closureFor scope env = pure cl) (hcell : ∀ y ∈ scope.names, y.2 ≠ .cell) (hkind : scope.kind = .function)
    (hnames : ∀ y ∈ scope.names, y.2 = .local → scope.names.lookup y.1 = some .local) (hx : scope.names.lookup x = some .local) (hn : n ≠ 0)
    (h : wpAny (model prog w) A (eval iter env) (fun xv s₁ => Drawn prog w A h₀ L m n P S news xv s₁ ∧
      (∀ i v I oI C oC D oD m₂ h tk (E' : Value → Shared → Prop), i < n → P i v → NsObj oC m₂ → m₂ x = some v → Fr h₀ L h m → News h₀ L h ((I, oI) :: (C, oC) :: (D, oD) :: news) →
        wpAny (model prog w) A (eval elt (compEnvC scope cl C env)) (fun y s' => Halt (y = .bool true ∧ ∃ h' tk', s' = { s₁ with heap := h', toks := tk' } ∧ ∀ b o, h.get? b = some o → h'.get? b = some o)) E' { s₁ with heap := h, toks := tk }) ∧
      (∀ D h tk, Fr h₀ L h m → News h₀ L h ((D, setT w) :: news) → Off1 D news → Q (.ref D) { s₁ with heap := h, toks := tk })) E s)
    (hs : ∀ x, foldedSetIterable iter env x = pure x := by intro _; rfl) :
    wpAny (model prog w) A (eval (.SetComp elt [⟨.Name x px, iter, [], 0⟩] scope pos) env) Q E s := by
  rw [arm_eval_SetComp]
  refine wpAny_comprehension_free (use := none) rfl hs hclos hkind hnames (wpAny_mono h (fun xv s₁ h₁ => ?_) fun _ _ e => e)
  obtain ⟨hd, turn, fin⟩ := h₁
  refine hd _ _ fun I fp Stt g o => ?_
  obtain ⟨W, hIo, hSt, hst, hfp, F, N, hIL, hI₀, off, hS⟩ := o
  refine newSet_wp (wpAny_newFunctionEnv hcell (by intro y hy; simp at hy) (fun h₁ hns₁ hsb₁ => ?_) hkind)
  dsimp only at hns₁ hsb₁ ⊢
  generalize hH2 : g.push (setO w) = H2 at hns₁ hsb₁ ⊢
  have hC : H2.objs.size = g.objs.size + 1 := by rw [← hH2, Heap.size_push]
  have hDC : g.objs.size ≠ H2.objs.size := by rw [hC]; exact Nat.ne_of_lt (Nat.lt_succ_self _)
  have below : ∀ b, b < g.objs.size → b ≠ H2.objs.size ∧ b ≠ g.objs.size := fun b hb => ⟨by rw [hC]; exact Nat.ne_of_lt (Nat.lt_succ_of_lt hb), Nat.ne_of_lt hb⟩
  have hDf : g.objs.size ∉ fp := fun hm => Nat.lt_irrefl _ (hfp _ hm)
  have hCf : H2.objs.size ∉ fp := fun hm => by have := hfp _ hm; rw [hC] at this; exact Nat.lt_irrefl _ (Nat.lt_of_succ_lt this)
  have hIlt : I < g.objs.size := hfp I (W.sub I (List.mem_singleton.mpr rfl))
  have old : ∀ b o, g.get? b = some o → h₁.get? b = some o := fun b o e => hsb₁.extBut b o (below b (Heap.lt_size e)).1 (Heap.get?_push_of_some _ (hH2 ▸ Heap.get?_push_of_some _ e))
  have hacc : h₁.get? g.objs.size = some (setO w) := hsb₁.extBut _ _ hDC (Heap.get?_push_of_some _ (hH2 ▸ Heap.get?_push_size _ rfl))
  have hst₁ : Stt 0 h₁ := W.frame _ _ _ hst fun b _ o e => old b o e
  have fresh₀ : ∀ a, g.objs.size ≤ a → h₀.get? a = none := fun a ha => by
    cases e : h₀.get? a with
    | none => rfl
    | some o' => exact absurd (Heap.lt_size (F.keep a o' e)) (Nat.not_lt.mpr ha)
  have hD₀ : h₀.get? g.objs.size = none := fresh₀ _ (Nat.le_refl _)
  have hC₀ : h₀.get? H2.objs.size = none := fresh₀ _ (by rw [hC]; exact Nat.le_succ _)
  have hLlt : L < g.objs.size := F.ns.lt
  have hDL : g.objs.size ≠ L := Ne.symm (below L hLlt).2
  have hCL : H2.objs.size ≠ L := Ne.symm (below L hLlt).1
  have hCI : I ≠ H2.objs.size := (below I hIlt).1
  have hDI : I ≠ g.objs.size := (below I hIlt).2
  have offs : ∀ p ∈ news, p.1 ≠ I ∧ p.1 ≠ H2.objs.size ∧ p.1 ≠ g.objs.size := fun p hp => ⟨off p hp, (below _ (Heap.lt_size (N p hp).1)).1, (below _ (Heap.lt_size (N p hp).1)).2⟩
  have loop : ∀ s₃ : Shared, s₃ = { s₁ with heap := h₁, toks := s₁.toks + ([] : List (Str × Value)).length } →
      codeAny (model prog w) A (.compLoop (.SetComp elt [⟨.Name x px, iter, [], 0⟩] scope pos) 0 (.ref I) (.ref g.objs.size) (compEnvC scope cl H2.objs.size env))
        (compPost (model prog w) A E none Q (.ref g.objs.size) H2.objs.size) s₃ := by
    rintro s₃ rfl
    refine compLoop_set
      (fun k s' => ∃ h' tk i m', s' = { s₁ with heap := h', toks := tk } ∧ i ≤ n ∧ k = n + 1 - i ∧ Stt i h' ∧ Fr h₀ L h' m ∧ h'.Ns H2.objs.size m' ∧ News h₀ L h' ((g.objs.size, if i = 0 then setO w else setT w) :: news)) ?_ (n + 1)
      ⟨h₁, _, 0, _, rfl, Nat.zero_le _, rfl, hst₁, F.keeps old, hns₁, fun p hp => ?_⟩
    · rintro k s' hz
      refine ex4a7 hz fun h' tk i m' es' hi ek hst' F' hn' N' => ?_
      clear hz
      subst es' ek
      by_cases hlt : i < n
      · refine W.item i _ _ _ hlt hst' fun v h₂ tk₂ hPv hst₂ hk₂ => ?_
        refine wpAny_assign_Name (wpAny_storeName_local (lookup_relabel_local hx) (hn'.at' fun o e => hk₂ _ o (by simpa using Ne.symm hCI) e) (fun h₃ hn₃ hs₃ => ?_) (by simp [compEnvC, relabel, hkind]))
        have hst₃ : Stt (i + 1) h₃ := W.frame _ _ _ hst₂ fun b hb o e => hs₃.extBut b o (fun q => hCf (by have q' : b = H2.objs.size := q; rw [← q']; exact hb)) e
        refine Exists.elim (hIo _ _ hst₃) fun oI heI => ?_
        refine ex1a2 (ns_obj hn₃) fun oC heC hoC => ?_
        have F₃ : Fr h₀ L h₃ m := (fr_but F' hk₂ hIL hI₀).change hs₃ hCL hC₀
        have N₂ : News h₀ L h₂ ((g.objs.size, if i = 0 then setO w else setT w) :: news) := news_but N' hk₂ fun p hp => by
          rcases List.mem_cons.mp hp with rfl | hp
          · exact Ne.symm hDI
          · exact (offs p hp).1
        have N₃ : News h₀ L h₃ ((I, oI) :: (H2.objs.size, oC) :: (g.objs.size, if i = 0 then setO w else setT w) :: news) := fun p hp => by
          rcases List.mem_cons.mp hp with rfl | hp
          · exact ⟨heI, Ne.symm hIL, hI₀⟩
          · rcases List.mem_cons.mp hp with rfl | hp
            · exact ⟨heC, hCL, hC₀⟩
            · have z := N₂ p hp
              refine ⟨hs₃.extBut _ _ ?_ z.1, z.2⟩
              rcases List.mem_cons.mp hp with rfl | hp
              · exact hDC
              · exact (offs p hp).2.1
        refine wpAny_mono (turn i v I oI H2.objs.size oC g.objs.size _ _ h₃ _ _ hlt hPv hoC (by simp) F₃ N₃) (fun y s₄ h₄ => ?_) fun _ _ e => e
        obtain ⟨rfl, h₄, tk₄, rfl, k₄⟩ := h₄
        have N₄ := N₃.grown k₄
        have F₄ := F₃.keeps k₄
        have hst₄ : Stt (i + 1) h₄ := W.frame _ _ _ hst₃ fun b hb o e => k₄ b o e
        have zD := (N₄ (g.objs.size, if i = 0 then setO w else setT w) (.tail _ (.tail _ (.head _)))).1
        have zC := (N₄ (H2.objs.size, oC) (.tail _ (.head _))).1
        by_cases h0 : i = 0
        · simp only [h0, if_true] at zD
          refine add_true0 zD fun h₅ tk₅ hs₅ hD₅ => ?_
          refine ⟨n + 1 - (i + 1), subD hlt, h₅, tk₅, i + 1, _, rfl, hlt, rfl, W.frame _ _ _ hst₄ fun b hb o e => hs₅.extBut b o (fun q => hDf (q ▸ hb)) e, F₄.change hs₅ hDL hD₀, (hoC.ns zC).sameBut hs₅ (Ne.symm hDC), fun p hp => ?_⟩
          rcases List.mem_cons.mp hp with rfl | hp
          · exact ⟨by rw [if_neg (Nat.succ_ne_zero i)]; exact hD₅, hDL, hD₀⟩
          · have z := N₄ p (.tail _ (.tail _ (.tail _ hp)))
            exact ⟨hs₅.extBut _ _ (offs p hp).2.2 z.1, z.2⟩
        · simp only [h0, if_false] at zD
          refine add_true1 zD fun tk₅ => ?_
          refine ⟨n + 1 - (i + 1), subD hlt, h₄, tk₅, i + 1, _, rfl, hlt, rfl, hst₄, F₄, hoC.ns zC, fun p hp => ?_⟩
          rcases List.mem_cons.mp hp with rfl | hp
          · exact ⟨by rw [if_neg (Nat.succ_ne_zero i)]; exact zD, hDL, hD₀⟩
          · exact N₄ p (.tail _ (.tail _ (.tail _ hp)))
      · obtain rfl : i = n := Nat.le_antisymm hi (Nat.not_lt.mp hlt)
        refine W.done _ _ _ hst' fun h₂ tk₂ hk₂ => ?_
        have N₂ : News h₀ L h₂ ((g.objs.size, setT w) :: news) := news_but (by rw [if_neg hn] at N'; exact N') hk₂ fun p hp => by
          rcases List.mem_cons.mp hp with rfl | hp
          · exact Ne.symm hDI
          · exact (offs p hp).1
        have F₂ := fr_but F' hk₂ hIL hI₀
        refine ⟨m', hn'.at' fun o e => hk₂ _ o (by simpa using Ne.symm hCI) e, fun h'' hs'' => fin _ h'' tk₂ (F₂.change hs'' hCL hC₀) (fun p hp => ?_) (Off3.one (Off3.of offs))⟩
        refine ⟨hs''.extBut _ _ ?_ (N₂ p hp).1, (N₂ p hp).2⟩
        rcases List.mem_cons.mp hp with rfl | hp
        · exact hDC
        · exact (offs p hp).2.1
    · rcases List.mem_cons.mp hp with rfl | hp
      · exact ⟨by rw [if_pos rfl]; exact hacc, hDL, hD₀⟩
      · exact ⟨old _ _ (N p hp).1, (N p hp).2⟩
  exact compStart_set (loop _ rfl) (W.self 0 _ _ _ hst₁ (loop _ rfl))
theorem SetComp_tup {elt iter : Expr} {x : Str} {px : Pos} {scope : Scope} {cl : List (Str × Addr)} {pos : Pos} {ax : Addr} {its : Array Value} {news : List (Addr × Obj)} {Q : Value → Shared → Prop} (F₀ : Fr h₀ L s.heap m) (N₀ : News h₀ L s.heap news) (T₀ : TupAt h₀ ax its news) (hh : A.handled = none) (hn : its.size ≠ 0)
    (hclos : closureFor scope env = pure cl) (hcell : ∀ y ∈ scope.names, y.2 ≠ .cell) (hkind : scope.kind = .function)
    (hnames : ∀ y ∈ scope.names, y.2 = .local → scope.names.lookup y.1 = some .local) (hx : scope.names.lookup x = some .local)
    (h : wpAny (model prog w) A (eval iter env) (fun xv s₁ => Halt (xv = .ref ax ∧ s₁.heap = s.heap ∧
      (∀ i v I oI C oC D oD m₂ h tk (E' : Value → Shared → Prop), i < its.size → its[i]? = some v → NsObj oC m₂ → m₂ x = some v → Fr h₀ L h m → News h₀ L h ((I, oI) :: (C, oC) :: (D, oD) :: news) →
        wpAny (model prog w) A (eval elt (compEnvC scope cl C env)) (fun y s' => Halt (y = .bool true ∧ ∃ h' tk', s' = { s₁ with heap := h', toks := tk' } ∧ ∀ b o, h.get? b = some o → h'.get? b = some o)) E' { s₁ with heap := h, toks := tk }) ∧
      (∀ D h tk, Fr h₀ L h m → News h₀ L h ((D, setT w) :: news) → Off1 D news → Q (.ref D) { s₁ with heap := h, toks := tk }))) E s)
    (hs : ∀ x, foldedSetIterable iter env x = pure x := by intro _; rfl) :
    wpAny (model prog w) A (eval (.SetComp elt [⟨.Name x px, iter, [], 0⟩] scope pos) env) Q E s := by
  refine SetComp_true (n := its.size) (P := fun i v => its[i]? = some v) (S := TupAt h₀ ax its) (news := news) F₀ hclos hcell hkind hnames hx hn (wpAny_mono h (fun xv s₁ h₁ => ?_) fun _ _ e => e) hs
  obtain ⟨rfl, hs₁, turn, fin⟩ := h₁
  exact ⟨Drawn.tuple hh (hs₁ ▸ F₀) (hs₁ ▸ N₀) T₀, turn, fin⟩
/-- «x, = {True}» -/
theorem assign_set1 {y : Expr} {k} {pos : Pos} {a : Addr} {news : List (Addr × Obj)} {Q : Unit → Shared → Prop} (hh : A.handled = none) (F : Fr h₀ L s.heap m) (N : News h₀ L s.heap news) (hm : (a, setT w) ∈ news) (h1 : (assignEach [y] env).length = 1) (hstar : (assignEach [y] env).findIdx? (·.1) = none)
    (h : ∀ h', Fr h₀ L h' m → News h₀ L h' news → wpAny (model prog w) A (assignInOrder ((assignEach [y] env).map (·.2)) [.bool true]) Q E { s with heap := h' }) :
    wpAny (model prog w) A (assign (.Tuple [y] k pos) env (.ref a)) Q E s := by
  rw [arm_assign_Tuple]
  refine wpAny_bind (wpAny_standAt ?_)
  unfold unpack
  rw [h1, hstar]
  refine wpAny_bind (wpAny_holding (unpackItems_set hh (N _ hm).1 fun h' he => ?_))
  have kp : ∀ b o, s.heap.get? b = some o → h'.get? b = some o := fun b o e => he b o (Nat.ne_of_lt (Heap.lt_size e)) e
  exact h h' (F.keeps kp) (N.grown kp)
end
end E4Part
section E5Part
set_option linter.unusedVariables false
/-- list > list from place i on -/
noncomputable def lexGt (e l : Nat → Bool) (m n : Nat) : Nat → Nat → Bool
  | 0, _ => decide (m > n)
  | k + 1, i => if e i then lexGt e l m n k (i + 1) else l i
section
open AutoSeq1 (wpAny_loadPart')
open MeetsSeq3 (plain_eq_loop entry_eq_loop)
open SeqAt (EqAt)
theorem gt_loopAt (l b : Addr) (items items2 : Array Value) (n n2 : Nat) (e lt : Nat → Bool) (k : Nat) :
    ∀ i : Nat, min items.size items2.size - i = k → Meets (Builtin.«list.__eq__.loop» ⟨[.ref l, .ref b, rawInt i, rawInt 4], []⟩)
      (fun A R s => s.heap.get? l = some { cls := .type "list", data := .seq items n } ∧ s.heap.get? b = some { cls := .type "list", data := .seq items2 n2 } ∧
        (∀ j (h1 : j < items.size) (h2 : j < items2.size), EqAt A.in1 s items[j] items2[j] (e j)) ∧
        (∀ j (h1 : j < items.size) (h2 : j < items2.size), e j = false → ∀ (prog : Program) (w : World) (E : Value → Shared → Prop) (Q : Value → Shared → Prop), Q (.bool (lt j)) s → wpAny (model prog w) A.in1 (richCompare .Gt items[j] items2[j]) Q E s) ∧
        R (.ok (.ret (.bool (lexGt e lt items.size items2.size k i)))) s) := by
  induction k with
  | zero =>
    intro i hk prog w A R s h
    obtain ⟨hp, g, d, tk, os⟩ := s; obtain ⟨hl, hb, he, hlt', h⟩ := h
    wp_walk using wpAny_loadPart' hl, wpAny_loadPart' hb
    have hi : items[((i : Nat) : Int).toNat]? = none ∨ items2[((i : Nat) : Int).toNat]? = none := by
      simp only [Int.toNat_natCast, Array.getElem?_eq_none_iff]
      exact minOr hk
    have fin : wpAny (model prog w) A.in1 (do let a ← Builtin.List.listItems (Value.ref l); let c ← Builtin.List.listItems (Value.ref b); ret (.bool (decide (a.size > c.size)))) (fun fin s' => match fin with | .done f => R (.ok f) s' | .again c' => c'.quiet = true ∧ codeAny (model prog w) A c' R s') (fun e s' => R (.error e) s') ⟨hp, g, d, tk, os⟩ := by
      wp_walk using wpAny_loadPart' hl, wpAny_loadPart' hb
      exact h
    rcases hi with hi | hi
    · rw [hi]
      exact fin
    · rw [hi]
      cases items[((i : Nat) : Int).toNat]? <;> exact fin
  | succ k ih =>
    intro i hk prog w A R s h
    obtain ⟨hp, g, d, tk, os⟩ := s; obtain ⟨hl, hb, he, hlt', h⟩ := h
    wp_walk using wpAny_loadPart' hl, wpAny_loadPart' hb
    have hlt : i < items.size := minL1 hk
    have hlt2 : i < items2.size := minL2 hk
    have hi1 : items[((i : Nat) : Int).toNat]? = some items[i] := by simp [hlt]
    have hi2 : items2[((i : Nat) : Int).toNat]? = some items2[i] := by simp [hlt2]
    have hc : ((i : Int) + 1) = ((i + 1 : Nat) : Int) := by push_cast; rfl
    unfold lexGt at h
    rw [hi1, hi2]
    refine wpAny_bind (he i hlt hlt2 prog w _ _ ?_)
    cases hb' : e i with
    | true =>
      rw [hb'] at h
      wp_walk
      rw [hc]
      exact ⟨plainId_quiet plain_eq_loop _, codeAny_builtin entry_eq_loop (by
        rw [Around.under_plainId plain_eq_loop _]
        exact ih (i + 1) (subS hk) prog w A R _ ⟨hl, hb, he, hlt', by simpa using h⟩)⟩
    | false =>
      rw [hb'] at h
      wp_walk using wpAny_loadPart' hl, wpAny_loadPart' hb
      rw [hi1, hi2]
      refine wpAny_bind (hlt' i hlt hlt2 hb' prog w _ _ ?_)
      exact wpAny_pure (by simpa using h)
theorem list_gtAt (l b : Addr) (items items2 : Array Value) (n n2 : Nat) (e lt : Nat → Bool) :
    Meets (Builtin.«list.__gt__» ⟨[.ref l, .ref b], []⟩)
      (fun A R s => s.heap.get? l = some { cls := .type "list", data := .seq items n } ∧ s.heap.get? b = some { cls := .type "list", data := .seq items2 n2 } ∧
        (∀ j (h1 : j < items.size) (h2 : j < items2.size), EqAt A.in1 s items[j] items2[j] (e j)) ∧
        (∀ j (h1 : j < items.size) (h2 : j < items2.size), e j = false → ∀ (prog : Program) (w : World) (E : Value → Shared → Prop) (Q : Value → Shared → Prop), Q (.bool (lt j)) s → wpAny (model prog w) A.in1 (richCompare .Gt items[j] items2[j]) Q E s) ∧
        R (.ok (.ret (.bool (lexGt e lt items.size items2.size (min items.size items2.size) 0)))) s) := by
  intro prog w A R s h
  obtain ⟨hp, g, d, tk, os⟩ := s; obtain ⟨hl, hb, he, hlt, h⟩ := h
  have f3 := AutoSeq1.sub_list_list
  wp_walk using wpAny_loadPart' hl, wpAny_loadPart' hb
  exact ⟨plainId_quiet plain_eq_loop _, codeAny_builtin entry_eq_loop (by
    rw [Around.under_plainId plain_eq_loop _]
    exact gt_loopAt l b items items2 n n2 e lt _ 0 rfl prog w A R _ ⟨hl, hb, he, hlt, by simpa using h⟩)⟩
end
/-- text < text -/
noncomputable def strLt (x y : Str) : Bool := decide (x.cps.toList < y.cps.toList)
/-- list of texts < list of texts -/
noncomputable def ltL : List Str → List Str → Bool
  | [], [] => false
  | [], _ :: _ => true
  | _ :: _, [] => false
  | a :: xs, b :: ys => if a == b then ltL xs ys else strLt a b
theorem ltL_nil : ∀ l : List Str, ltL l [] = false
  | [] => rfl
  | _ :: _ => rfl
theorem lexAt_eq (xs ys : List Str) : ∀ (k i : Nat), min xs.length ys.length - i = k → lexAt (fun j => xs.getD j default == ys.getD j default) (fun j => strLt (xs.getD j default) (ys.getD j default)) xs.length ys.length k i = (if i ≤ min xs.length ys.length then ltL (xs.drop i) (ys.drop i) else decide (xs.length < ys.length))
  | 0, i, h => by
    unfold lexAt
    by_cases hi : i ≤ min xs.length ys.length
    · rw [if_pos hi]
      have e := Nat.le_antisymm hi (sub0 h)
      by_cases hx : xs.length < ys.length
      · have ei : i = xs.length := e.trans (Nat.min_eq_left (Nat.le_of_lt hx))
        rw [decide_eq_true hx, List.drop_of_length_le (Nat.le_of_eq ei.symm), List.drop_eq_getElem_cons (show i < ys.length from ei ▸ hx)]
        rfl
      · have ei : i = ys.length := e.trans (Nat.min_eq_right (Nat.not_lt.mp hx))
        rw [decide_eq_false hx, List.drop_of_length_le (l := ys) (Nat.le_of_eq ei.symm), ltL_nil]
    · rw [if_neg hi]
  | k + 1, i, h => by
    have h1 : i < xs.length := minL1 h
    have h2 : i < ys.length := minL2 h
    rw [if_pos (Nat.le_of_lt (subL h))]
    unfold lexAt
    rw [List.drop_eq_getElem_cons h1, List.drop_eq_getElem_cons h2]
    unfold ltL
    rw [show xs.getD i default = xs[i] by simp [h1], show ys.getD i default = ys[i] by simp [h2]]
    have e := lexAt_eq xs ys k (i + 1) (subS h)
    rw [if_pos (show i + 1 ≤ min xs.length ys.length from subL h)] at e
    rw [e]
theorem lexGt_eq (xs ys : List Str) (k i : Nat) : lexGt (fun j => xs.getD j default == ys.getD j default) (fun j => strLt (ys.getD j default) (xs.getD j default)) xs.length ys.length k i = lexAt (fun j => ys.getD j default == xs.getD j default) (fun j => strLt (ys.getD j default) (xs.getD j default)) ys.length xs.length k i := by
  induction k generalizing i with
  | zero => rfl
  | succ k ih =>
    unfold lexGt lexAt
    rw [ih, Bool.beq_comm]
section
variable {prog : Program} {w : World} {A : Around} {E : Value → Shared → Prop} {s : Shared}
theorem strs_getD {vs : List Value} {xs : List Str} (h : StrsAre vs xs) {k : Nat} (hk : k < vs.toArray.size) : ∃ t, vs.toArray[k] = .str (xs.getD k default) t := by
  rw [List.size_toArray] at hk
  have hx : xs[k]? = some (xs.getD k default) := by
    have : k < xs.length := by rw [← h.len_eq]; exact hk
    simp [this]
  obtain ⟨t, ht⟩ := h.at hx
  exact ⟨t, by rw [List.getElem_toArray]; exact Option.some.inj ((List.getElem?_eq_getElem hk).symm.trans ht)⟩
theorem lt_strsL {a b : Addr} {vs ws : List Value} {n n2 : Nat} {xs ys : List Str} {Q : Value → Shared → Prop} (ha : s.heap.get? a = some (listOf vs.toArray n)) (hb : s.heap.get? b = some (listOf ws.toArray n2)) (hx : StrsAre vs xs) (hy : StrsAre ws ys)
    (hu : A.units < cLine) (h : Q (.bool (ltL xs ys)) s) : wpAny (model prog w) A (richCompare .Lt (.ref a) (.ref b)) Q E s := by
  refine richCompare_meets_room (T := "list") (op := .Lt) ⟨_, ha, rfl⟩ ⟨_, hb, rfl⟩ F.slot_list_lt F.entry_list_lt (F.args_list_lt_2 _ _)
    (list_ltAt a b _ _ n n2 (fun j => xs.getD j default == ys.getD j default) (fun j => strLt (xs.getD j default) (ys.getD j default))) ⟨ha, hb, ?_, ?_, ?_⟩ hu
  · intro k h1 h2
    obtain ⟨t, e1⟩ := strs_getD hx h1
    obtain ⟨u, e2⟩ := strs_getD hy h2
    rw [e1, e2]
    exact fun _ _ _ _ hq => eqBool_str hq
  · intro k h1 h2 _ prog w E Q hq
    obtain ⟨t, e1⟩ := strs_getD hx h1
    obtain ⟨u, e2⟩ := strs_getD hy h2
    rw [e1, e2]
    exact PyProof.Rows.lt_str hq
  · refine ⟨(by intro q; cases q), ?_⟩
    have e := lexAt_eq xs ys (min xs.length ys.length) 0 rfl
    rw [if_pos (Nat.zero_le _)] at e
    rw [List.size_toArray, List.size_toArray, hx.len_eq, hy.len_eq]
    rw [e]; exact h
theorem gt_strsL {a b : Addr} {vs ws : List Value} {n n2 : Nat} {xs ys : List Str} {Q : Value → Shared → Prop} (ha : s.heap.get? a = some (listOf vs.toArray n)) (hb : s.heap.get? b = some (listOf ws.toArray n2)) (hx : StrsAre vs xs) (hy : StrsAre ws ys)
    (hu : A.units < cLine) (h : Q (.bool (ltL ys xs)) s) : wpAny (model prog w) A (richCompare .Gt (.ref a) (.ref b)) Q E s := by
  refine richCompare_meets_room (T := "list") (op := .Gt) ⟨_, ha, rfl⟩ ⟨_, hb, rfl⟩ F.slot_list_gt F.entry_list_gt (F.args_list_gt_2 _ _)
    (list_gtAt a b _ _ n n2 (fun j => xs.getD j default == ys.getD j default) (fun j => strLt (ys.getD j default) (xs.getD j default))) ⟨ha, hb, ?_, ?_, ?_⟩ hu
  · intro k h1 h2
    obtain ⟨t, e1⟩ := strs_getD hx h1
    obtain ⟨u, e2⟩ := strs_getD hy h2
    rw [e1, e2]
    exact fun _ _ _ _ hq => eqBool_str hq
  · intro k h1 h2 _ prog w E Q hq
    obtain ⟨t, e1⟩ := strs_getD hx h1
    obtain ⟨u, e2⟩ := strs_getD hy h2
    rw [e1, e2]
    exact PySem.P.gt_str hq
  · refine ⟨(by intro q; cases q), ?_⟩
    have e := lexAt_eq ys xs (min xs.length ys.length) 0 (by rw [Nat.min_comm]; rfl)
    rw [if_pos (Nat.zero_le _)] at e
    rw [List.size_toArray, List.size_toArray, hx.len_eq, hy.len_eq]
    rw [lexGt_eq, e]; exact h
theorem min_two {l : Addr} {v0 v1 : Value} {Q : Value → Shared → Prop} {b : Bool} (hl : s.heap.IsList l #[v0, v1])
    (hcmp : ∀ (s' : Shared) (Q' : Value → Shared → Prop) (E' : Value → Shared → Prop), (∀ b o, s.heap.get? b = some o → s'.heap.get? b = some o) → Q' (.bool b) s' → wpAny (model prog w) A.in1.in1 (richCompare .Lt v1 v0) Q' E' s')
    (hh : A.handled = none) (hQ : ∀ h', (∀ b o, s.heap.get? b = some o → h'.get? b = some o) → Q (if b then v1 else v0) { s with heap := h' }) :
    wpAny (model prog w) A (call (.builtin "min") [.ref l]) Q E s := by
  have hname : (toString "min" ++ toString ".loop" : String) = "min.loop" := by decide
  refine call_function_tree F.kind_min F.plain_min F.entry_min (F.args_min1 _) ?_
  show wpAny _ A.in1 (Builtin.Builtins.bindParams "min" ["key", "default"] 0 ⟨[], []⟩ >>= _) _ _ s
  refine wpAny_bind (wpAny_of_eq (show Builtin.Builtins.bindParams "min" ["key", "default"] 0 ⟨[], []⟩ = pure [none, none] from rfl) ?_)
  refine wpAny_bind (wpAny_pure ?_)
  refine wpAny_bind (wpAny_pyIter_list hl ?_)
  refine wpAny_bind (wpAny_newObj_type ?_)
  rw [hname]
  have hlt : l < s.heap.objs.size := let ⟨_, e, _⟩ := hl; Heap.lt_size e
  generalize hI : s.heap.objs.size = I at *
  have g0 : ∀ b o, s.heap.get? b = some o → (s.heap.push { cls := .type "list_iterator", data := .fields #[.ref l, .int 0 0] }).get? b = some o := fun b o e => Heap.get?_push_of_some _ e
  have hz : (s.heap.push { cls := .type "list_iterator", data := .fields #[.ref l, .int 0 0] }).objs.size = I + 1 := by rw [Heap.size_push, hI]
  dsimp only
  rw [hz]
  generalize hG : (s.heap.push { cls := .type "list_iterator", data := .fields #[.ref l, .int 0 0] }).push { cls := .type "list", dict := none, data := .seq ([] : List Value).toArray, slots := #[] } = G
  have kG : ∀ b o, s.heap.get? b = some o → G.get? b = some o := fun b o e => hG ▸ Heap.get?_push_of_some _ (g0 b o e)
  have itG : G.IsListIter I l 0 := ⟨_, hG ▸ hI ▸ Heap.get?_push_of_some _ (Heap.get?_push_size _ rfl), rfl, rfl⟩
  have sG : G.get? (I + 1) = some { cls := .type "list", dict := none, data := .seq #[] 0, slots := #[] } := hG ▸ hz ▸ Heap.get?_push_size _ rfl
  have lG : G.IsList l #[v0, v1] := hl.at fun o e => kG _ o e
  have nIS : I ≠ I + 1 := Nat.ne_of_lt (Nat.lt_succ_self _)
  have nlI : l ≠ I := Nat.ne_of_lt hlt
  have nlS : l ≠ I + 1 := Nat.ne_of_lt (Nat.lt_succ_of_lt hlt)
  have low : ∀ b o, s.heap.get? b = some o → b ≠ I ∧ b ≠ I + 1 := fun b o e => by
    have := Heap.lt_size e
    rw [hI] at this
    exact ⟨Nat.ne_of_lt this, Nat.ne_of_lt (Nat.lt_succ_of_lt this)⟩
  refine wpAny_pure ⟨plainId_quiet F.plain_min_loop _, codeAny_builtin F.entry_min_loop ?_⟩
  rw [Around.under_plainId F.plain_min_loop _]
  show wpAny _ A.in1 (seqItems? (.ref (I + 1)) >>= _) _ _ _
  refine wpAny_bind (wpAny_seqItems sG rfl ?_)
  show wpAny _ A.in1 (tryCatch (pyNext (.ref I)) _ >>= _) _ _ _
  refine wpAny_bind (wpAny_tryCatch (wpAny_pyNext_list_item itG lG (x := v0) rfl fun h₁ it₁ s₁ => ?_))
  have S₁ : h₁.get? (I + 1) = some _ := s₁.extBut _ _ (Ne.symm nIS) sG
  show wpAny _ A.in1 (updateSeq (I + 1) (fun _ => #[v0, v0]) >>= _) _ _ _
  refine wpAny_bind ?_
  refine wpAny_updateSeq S₁ rfl ?_
  rw [hname]
  generalize hH : h₁.update (I + 1) (Obj.mapSeq fun _ => #[v0, v0]) = h₂
  have S₂ : h₂.get? (I + 1) = some { cls := .type "list", dict := none, data := .seq #[v0, v0] 1, slots := #[] } := hH ▸ Heap.get?_update_self _ S₁ rfl
  have u₂ : ∀ b o, b ≠ I + 1 → h₁.get? b = some o → h₂.get? b = some o := fun b o hb e => hH ▸ (Heap.get?_update_other _ _ (Ne.symm hb)).trans e
  have it₂ : h₂.IsListIter I l 1 := it₁.at fun o e => u₂ _ o nIS e
  have l₂ : h₂.IsList l #[v0, v1] := (lG.extBut s₁.extBut nlI).at fun o e => u₂ _ o nlS e
  have k₂ : ∀ b o, s.heap.get? b = some o → h₂.get? b = some o := fun b o e => u₂ _ _ (low b o e).2 (s₁.extBut _ _ (low b o e).1 (kG b o e))
  refine wpAny_pure ⟨plainId_quiet F.plain_min_loop _, codeAny_builtin F.entry_min_loop ?_⟩
  rw [Around.under_plainId F.plain_min_loop _]
  show wpAny _ A.in1 (seqItems? (.ref (I + 1)) >>= _) _ _ _
  refine wpAny_bind (wpAny_seqItems S₂ rfl ?_)
  show wpAny _ A.in1 (tryCatch (pyNext (.ref I)) _ >>= _) _ _ _
  refine wpAny_bind (wpAny_tryCatch (wpAny_pyNext_list_item it₂ l₂ (x := v1) rfl fun h₃ it₃ s₃ => ?_))
  have S₃ : h₃.get? (I + 1) = some _ := s₃.extBut _ _ (Ne.symm nIS) S₂
  have k₃ : ∀ b o, s.heap.get? b = some o → h₃.get? b = some o := fun b o e => s₃.extBut _ _ (low b o e).1 (k₂ b o e)
  show wpAny _ A.in1 (tryCatch (holding [v1, v1] (richCompare .Lt v1 v0 >>= _)) _ >>= _) _ _ _
  refine wpAny_bind (wpAny_tryCatch (wpAny_holding (wpAny_bind (wpAny_of_in1 (hcmp _ _ _ k₃ ?_)))))
  refine wpAny_bind (wpAny_holding (wpAny_truthy_bool ?_))
  refine wpAny_bind (wpAny_letGo (wpAny_pure ?_))
  have fin : ∀ (h₄ : Heap) (v : Value) (c : Nat), h₄.IsListIter I l 2 → h₄.IsList l #[v0, v1] → h₄.get? (I + 1) = some { cls := .type "list", dict := none, data := .seq #[v, v] c, slots := #[] } → v = (if b then v1 else v0) → (∀ b o, s.heap.get? b = some o → h₄.get? b = some o) →
      codeAny (model prog w) A (.builtin "min.loop" ⟨[.ref I, .none, .ref (I + 1)], []⟩) (wants Q E) { s with heap := h₄ } := by
    intro h₄ v c it₄ l₄ S₄ hv k₄
    refine codeAny_builtin F.entry_min_loop ?_
    rw [Around.under_plainId F.plain_min_loop _]
    show wpAny _ A.in1 (seqItems? (.ref (I + 1)) >>= _) _ _ _
    refine wpAny_bind (wpAny_seqItems S₄ rfl ?_)
    show wpAny _ A.in1 (tryCatch (pyNext (.ref I)) _ >>= _) _ _ _
    refine wpAny_bind (wpAny_tryCatch (wpAny_pyNext_list_end hh it₄ l₄ rfl fun h₅ e₅ => ?_))
    have S₅ : h₅.get? (I + 1) = some _ := e₅ _ _ (Ne.symm nIS) S₄
    show wpAny _ A.in1 (updateSeq (I + 1) (fun _ => #[]) >>= _) _ _ _
    refine wpAny_bind ?_
    refine wpAny_updateSeq S₅ rfl (wpAny_bind (wpAny_letGo (wpAny_pure ?_)))
    show Q v _
    rw [hv]
    exact hQ _ fun b o e => (Heap.get?_update_other _ _ (Ne.symm (low b o e).2)).trans (e₅ _ _ (low b o e).1 (k₄ b o e))
  have l₃ : h₃.IsList l #[v0, v1] := l₂.extBut s₃.extBut nlI
  cases hb : b with
  | true =>
    simp only [if_true]
    have S₄ : (h₃.update (I + 1) (Obj.mapSeq fun _ => #[v1, v1])).get? (I + 1) = some { cls := .type "list", dict := none, data := .seq #[v1, v1] 1, slots := #[] } := (Heap.get?_update_self (Obj.mapSeq fun _ => #[v1, v1]) S₃ rfl).trans rfl
    refine wpAny_bind ?_
    refine wpAny_updateSeq S₃ rfl (wpAny_bind (wpAny_letGo ?_))
    rw [hname]
    refine wpAny_pure ⟨plainId_quiet F.plain_min_loop _, fin _ v1 1 ?_ ?_ S₄ (by rw [hb]; rfl) fun b o e => (Heap.get?_update_other _ _ (Ne.symm (low b o e).2)).trans (k₃ b o e)⟩
    · exact it₃.at fun o e => (Heap.get?_update_other _ _ (Ne.symm nIS)).trans e
    · exact l₃.at fun o e => (Heap.get?_update_other _ _ (Ne.symm nlS)).trans e
  | false =>
    simp only [Bool.false_eq_true, if_false]
    refine wpAny_bind (wpAny_letGo ?_)
    rw [hname]
    exact wpAny_pure ⟨plainId_quiet F.plain_min_loop _, fin _ v0 1 it₃ l₃ S₃ (by rw [hb]; rfl) k₃⟩
theorem max_two {l : Addr} {v0 v1 : Value} {Q : Value → Shared → Prop} {b : Bool} (hl : s.heap.IsList l #[v0, v1])
    (hcmp : ∀ (s' : Shared) (Q' : Value → Shared → Prop) (E' : Value → Shared → Prop), (∀ b o, s.heap.get? b = some o → s'.heap.get? b = some o) → Q' (.bool b) s' → wpAny (model prog w) A.in1.in1 (richCompare .Gt v1 v0) Q' E' s')
    (hh : A.handled = none) (hQ : ∀ h', (∀ b o, s.heap.get? b = some o → h'.get? b = some o) → Q (if b then v1 else v0) { s with heap := h' }) :
    wpAny (model prog w) A (call (.builtin "max") [.ref l]) Q E s := by
  have hname : (toString "max" ++ toString ".loop" : String) = "max.loop" := by decide
  refine call_function_tree F.kind_max F.plain_max F.entry_max (F.args_max1 _) ?_
  show wpAny _ A.in1 (Builtin.Builtins.bindParams "max" ["key", "default"] 0 ⟨[], []⟩ >>= _) _ _ s
  refine wpAny_bind (wpAny_of_eq (show Builtin.Builtins.bindParams "max" ["key", "default"] 0 ⟨[], []⟩ = pure [none, none] from rfl) ?_)
  refine wpAny_bind (wpAny_pure ?_)
  refine wpAny_bind (wpAny_pyIter_list hl ?_)
  refine wpAny_bind (wpAny_newObj_type ?_)
  rw [hname]
  have hlt : l < s.heap.objs.size := let ⟨_, e, _⟩ := hl; Heap.lt_size e
  generalize hI : s.heap.objs.size = I at *
  have g0 : ∀ b o, s.heap.get? b = some o → (s.heap.push { cls := .type "list_iterator", data := .fields #[.ref l, .int 0 0] }).get? b = some o := fun b o e => Heap.get?_push_of_some _ e
  have hz : (s.heap.push { cls := .type "list_iterator", data := .fields #[.ref l, .int 0 0] }).objs.size = I + 1 := by rw [Heap.size_push, hI]
  dsimp only
  rw [hz]
  generalize hG : (s.heap.push { cls := .type "list_iterator", data := .fields #[.ref l, .int 0 0] }).push { cls := .type "list", dict := none, data := .seq ([] : List Value).toArray, slots := #[] } = G
  have kG : ∀ b o, s.heap.get? b = some o → G.get? b = some o := fun b o e => hG ▸ Heap.get?_push_of_some _ (g0 b o e)
  have itG : G.IsListIter I l 0 := ⟨_, hG ▸ hI ▸ Heap.get?_push_of_some _ (Heap.get?_push_size _ rfl), rfl, rfl⟩
  have sG : G.get? (I + 1) = some { cls := .type "list", dict := none, data := .seq #[] 0, slots := #[] } := hG ▸ hz ▸ Heap.get?_push_size _ rfl
  have lG : G.IsList l #[v0, v1] := hl.at fun o e => kG _ o e
  have nIS : I ≠ I + 1 := Nat.ne_of_lt (Nat.lt_succ_self _)
  have nlI : l ≠ I := Nat.ne_of_lt hlt
  have nlS : l ≠ I + 1 := Nat.ne_of_lt (Nat.lt_succ_of_lt hlt)
  have low : ∀ b o, s.heap.get? b = some o → b ≠ I ∧ b ≠ I + 1 := fun b o e => by
    have := Heap.lt_size e
    rw [hI] at this
    exact ⟨Nat.ne_of_lt this, Nat.ne_of_lt (Nat.lt_succ_of_lt this)⟩
  refine wpAny_pure ⟨plainId_quiet F.plain_max_loop _, codeAny_builtin F.entry_max_loop ?_⟩
  rw [Around.under_plainId F.plain_max_loop _]
  show wpAny _ A.in1 (seqItems? (.ref (I + 1)) >>= _) _ _ _
  refine wpAny_bind (wpAny_seqItems sG rfl ?_)
  show wpAny _ A.in1 (tryCatch (pyNext (.ref I)) _ >>= _) _ _ _
  refine wpAny_bind (wpAny_tryCatch (wpAny_pyNext_list_item itG lG (x := v0) rfl fun h₁ it₁ s₁ => ?_))
  have S₁ : h₁.get? (I + 1) = some _ := s₁.extBut _ _ (Ne.symm nIS) sG
  show wpAny _ A.in1 (updateSeq (I + 1) (fun _ => #[v0, v0]) >>= _) _ _ _
  refine wpAny_bind ?_
  refine wpAny_updateSeq S₁ rfl ?_
  rw [hname]
  generalize hH : h₁.update (I + 1) (Obj.mapSeq fun _ => #[v0, v0]) = h₂
  have S₂ : h₂.get? (I + 1) = some { cls := .type "list", dict := none, data := .seq #[v0, v0] 1, slots := #[] } := hH ▸ Heap.get?_update_self _ S₁ rfl
  have u₂ : ∀ b o, b ≠ I + 1 → h₁.get? b = some o → h₂.get? b = some o := fun b o hb e => hH ▸ (Heap.get?_update_other _ _ (Ne.symm hb)).trans e
  have it₂ : h₂.IsListIter I l 1 := it₁.at fun o e => u₂ _ o nIS e
  have l₂ : h₂.IsList l #[v0, v1] := (lG.extBut s₁.extBut nlI).at fun o e => u₂ _ o nlS e
  have k₂ : ∀ b o, s.heap.get? b = some o → h₂.get? b = some o := fun b o e => u₂ _ _ (low b o e).2 (s₁.extBut _ _ (low b o e).1 (kG b o e))
  refine wpAny_pure ⟨plainId_quiet F.plain_max_loop _, codeAny_builtin F.entry_max_loop ?_⟩
  rw [Around.under_plainId F.plain_max_loop _]
  show wpAny _ A.in1 (seqItems? (.ref (I + 1)) >>= _) _ _ _
  refine wpAny_bind (wpAny_seqItems S₂ rfl ?_)
  show wpAny _ A.in1 (tryCatch (pyNext (.ref I)) _ >>= _) _ _ _
  refine wpAny_bind (wpAny_tryCatch (wpAny_pyNext_list_item it₂ l₂ (x := v1) rfl fun h₃ it₃ s₃ => ?_))
  have S₃ : h₃.get? (I + 1) = some _ := s₃.extBut _ _ (Ne.symm nIS) S₂
  have k₃ : ∀ b o, s.heap.get? b = some o → h₃.get? b = some o := fun b o e => s₃.extBut _ _ (low b o e).1 (k₂ b o e)
  show wpAny _ A.in1 (tryCatch (holding [v1, v1] (richCompare .Gt v1 v0 >>= _)) _ >>= _) _ _ _
  refine wpAny_bind (wpAny_tryCatch (wpAny_holding (wpAny_bind (wpAny_of_in1 (hcmp _ _ _ k₃ ?_)))))
  refine wpAny_bind (wpAny_holding (wpAny_truthy_bool ?_))
  refine wpAny_bind (wpAny_letGo (wpAny_pure ?_))
  have fin : ∀ (h₄ : Heap) (v : Value) (c : Nat), h₄.IsListIter I l 2 → h₄.IsList l #[v0, v1] → h₄.get? (I + 1) = some { cls := .type "list", dict := none, data := .seq #[v, v] c, slots := #[] } → v = (if b then v1 else v0) → (∀ b o, s.heap.get? b = some o → h₄.get? b = some o) →
      codeAny (model prog w) A (.builtin "max.loop" ⟨[.ref I, .none, .ref (I + 1)], []⟩) (wants Q E) { s with heap := h₄ } := by
    intro h₄ v c it₄ l₄ S₄ hv k₄
    refine codeAny_builtin F.entry_max_loop ?_
    rw [Around.under_plainId F.plain_max_loop _]
    show wpAny _ A.in1 (seqItems? (.ref (I + 1)) >>= _) _ _ _
    refine wpAny_bind (wpAny_seqItems S₄ rfl ?_)
    show wpAny _ A.in1 (tryCatch (pyNext (.ref I)) _ >>= _) _ _ _
    refine wpAny_bind (wpAny_tryCatch (wpAny_pyNext_list_end hh it₄ l₄ rfl fun h₅ e₅ => ?_))
    have S₅ : h₅.get? (I + 1) = some _ := e₅ _ _ (Ne.symm nIS) S₄
    show wpAny _ A.in1 (updateSeq (I + 1) (fun _ => #[]) >>= _) _ _ _
    refine wpAny_bind ?_
    refine wpAny_updateSeq S₅ rfl (wpAny_bind (wpAny_letGo (wpAny_pure ?_)))
    show Q v _
    rw [hv]
    exact hQ _ fun b o e => (Heap.get?_update_other _ _ (Ne.symm (low b o e).2)).trans (e₅ _ _ (low b o e).1 (k₄ b o e))
  have l₃ : h₃.IsList l #[v0, v1] := l₂.extBut s₃.extBut nlI
  cases hb : b with
  | true =>
    simp only [if_true]
    have S₄ : (h₃.update (I + 1) (Obj.mapSeq fun _ => #[v1, v1])).get? (I + 1) = some { cls := .type "list", dict := none, data := .seq #[v1, v1] 1, slots := #[] } := (Heap.get?_update_self (Obj.mapSeq fun _ => #[v1, v1]) S₃ rfl).trans rfl
    refine wpAny_bind ?_
    refine wpAny_updateSeq S₃ rfl (wpAny_bind (wpAny_letGo ?_))
    rw [hname]
    refine wpAny_pure ⟨plainId_quiet F.plain_max_loop _, fin _ v1 1 ?_ ?_ S₄ (by rw [hb]; rfl) fun b o e => (Heap.get?_update_other _ _ (Ne.symm (low b o e).2)).trans (k₃ b o e)⟩
    · exact it₃.at fun o e => (Heap.get?_update_other _ _ (Ne.symm nIS)).trans e
    · exact l₃.at fun o e => (Heap.get?_update_other _ _ (Ne.symm nlS)).trans e
  | false =>
    simp only [Bool.false_eq_true, if_false]
    refine wpAny_bind (wpAny_letGo ?_)
    rw [hname]
    exact wpAny_pure ⟨plainId_quiet F.plain_max_loop _, fin _ v0 1 it₃ l₃ S₃ (by rw [hb]; rfl) k₃⟩
end
end E5Part
section E6Part
set_option linter.unusedVariables false
/-- between the turns of «for i, c in enumerate(l)» that changes nothing -/
noncomputable def EJ (xi xc : Str) (m : Str → Option Value) (news : List (Addr × Obj)) (P : Nat → Prop) (i : Nat) (m' : Str → Option Value) (nw : List (Addr × Obj)) : Prop :=
  nw = news ∧ (∀ z, z ≠ xi → z ≠ xc → m' z = m z) ∧ P i
section
variable {prog : Program} {w : World} {A : Around} {E : Value → Shared → Prop} {s : Shared} {env : Env} {h₀ : Heap} {xi xc : Str} {body : List Stmt} {Q : Flow → Shared → Prop} {m : Str → Option Value} {news : List (Addr × Obj)}
theorem enum_for {ax : Addr} {vs : List Value} {n : Nat} (P : Nat → Prop) (hh : A.handled = none) (F : Fr h₀ env.locals s.heap m) (N : News h₀ env.locals s.heap news) (hm : (ax, listOf vs.toArray n) ∈ news) (h0 : P 0)
    (turn : ∀ (i : Nat) v t h tk own, vs[i]? = some v → P i → Fr h₀ env.locals h (fun y => if y = xc then some v else if y = xi then some (.int i t) else m y) → News h₀ env.locals h (own ++ news) →
      wpAny (model prog w) A (execs body env) (LoopStep3 h₀ env.locals own news (EJ xi xc m news P (i + 1)) { s with heap := h, toks := tk } (fun v s' => Q (.ret v) s') fun s' => Q .next s') E { s with heap := h, toks := tk })
    (fin : ∀ h tk u1 u2, P vs.length → Fr h₀ env.locals h (fun y => if y = xc then u1 else if y = xi then u2 else m y) → News h₀ env.locals h news → Q .next { s with heap := h, toks := tk }) :
    wpAny (model prog w) A (call (.type "enumerate") [.ref ax]) (fun xv s₁ => wpAny (model prog w) A (pyIter xv) (fun it s₂ => PairAt3 prog w A h₀ env xi xc body Q E it s₂) E s₁) E s := by
  have hl : s.heap.IsList ax vs.toArray := ⟨_, (N _ hm).1, rfl, _, rfl⟩
  have hax : ax < s.heap.objs.size := Heap.lt_size (N _ hm).1
  have hLs : env.locals < s.heap.objs.size := F.ns.lt
  refine call_enumerate_list hl fun h' he hit hsz hk => ?_
  have F' := F.keeps hk
  have N' := N.grown hk
  refine wpAny_pyIter_enum he ?_
  have z0 : ∀ b, s.heap.objs.size ≤ b → h₀.get? b = none := fun b hb => Heap.get?_none_of_le (Nat.le_trans F.above (Nat.le_trans (Nat.le_of_lt hLs) hb))
  refine ⟨s.heap.objs.size + 1, [s.heap.objs.size + 1, s.heap.objs.size, ax], [s.heap.objs.size + 1, s.heap.objs.size], vs.toArray.size, _, _, _, (fun i v0 v1 => ∃ t, v0 = .int i t ∧ vs.toArray[i]? = some v1), m, news, EJ xi xc m news P, rfl,
    WalksT.enumerate hh (s.heap.objs.size + 1) s.heap.objs.size ax (Nat.succ_ne_self _) (Nat.ne_of_lt (Nat.lt_succ_of_lt hax)) (Nat.ne_of_lt hax) vs.toArray, ?_, ?_, ?_, ?_, ⟨⟨_, by simpa using he⟩, hit, hl.at fun o e => hk _ o e⟩, F', N', ⟨rfl, fun _ _ _ => rfl, h0⟩, ?_, ?_⟩
  · rintro i vals ⟨t, x, hx, rfl⟩
    exact ⟨_, _, rfl, t, rfl, hx⟩
  · intro q
    rcases List.mem_cons.mp q with e | q
    · exact Nat.ne_of_lt (Nat.lt_succ_of_lt hLs) e
    · rcases List.mem_cons.mp q with e | q
      · exact Nat.ne_of_lt hLs e
      · exact (N _ hm).2.1 (List.mem_singleton.mp q).symm
  · intro b hb
    rcases List.mem_cons.mp hb with rfl | hb
    · exact z0 _ (Nat.le_succ _)
    · rw [List.mem_singleton.mp hb]; exact z0 _ (Nat.le_refl _)
  · intro p hp q
    have hq : p.1 < s.heap.objs.size := Heap.lt_size (N p hp).1
    rcases List.mem_cons.mp q with e | q
    · exact Nat.ne_of_lt (Nat.lt_succ_of_lt hq) e
    · exact Nat.ne_of_lt hq (List.mem_singleton.mp q)
  · rintro i v0 v1 m₁ news₁ s₁ own ⟨h₁, tk₁, rfl⟩ hi ⟨t, rfl, hv⟩ ⟨rfl, h2, hP⟩ _ _ F₁ N₁
    have em : (fun y => if y = xc then some v1 else if y = xi then some (Value.int (i : Int) t) else m₁ y) = fun y => if y = xc then some v1 else if y = xi then some (Value.int (i : Int) t) else m y := by
      funext y
      by_cases e1 : y = xc
      · simp [e1]
      · by_cases e2 : y = xi
        · simp [e2]
        · simp [e1, e2, h2 y e2 e1]
    rw [em] at F₁
    exact turn i v1 t h₁ tk₁ own (by simpa using hv) hP F₁ N₁
  · rintro h₁ tk₁ m' news' F₁ N₁ _ ⟨rfl, h2, hP⟩
    refine fin h₁ tk₁ (m' xc) (m' xi) (by simpa using hP) ?_ N₁
    have em : (fun y => if y = xc then m' xc else if y = xi then m' xi else m y) = m' := by
      funext y
      by_cases e1 : y = xc
      · simp [e1]
      · by_cases e2 : y = xi
        · subst e2; simp [e1]
        · simp [e1, e2, h2 y e2 e1]
    rw [em]; exact F₁
/-- an item of a list of texts of the ledger -/
theorem get_strs {value slice : Expr} {b : Addr} {vs : List Value} {xs : List Str} {n : Nat} {L : Addr} {k : Int} {u : Tok} {x : Str} {Q : Value → Shared → Prop} (N : News h₀ L s.heap news) (hm : (b, listOf vs.toArray n) ∈ news) (hv : StrsAre vs xs) (h0 : 0 ≤ k) (hfit : k < 2 ^ 63) (hx : xs[k.toNat]? = some x) (h : ∀ t, Q (.str x t) s)
    (hs' : subscripted slice false (.ref b) (.int k u) = operate [.ref b, .int k u] (getItem (.ref b) (.int k u)) := by with_unfolding_all rfl) (hg : ∀ r, letTemporaryGo value (.ref b) r = pure () := by intro _; with_unfolding_all rfl) :
    wpAny (model prog w) A (subscriptTail value slice (.ref b) (.int k u)) Q E s := by
  obtain ⟨t, ht⟩ := hv.at hx
  exact kim_list N hm rfl rfl h0 hfit ht (h t) hs' hg
theorem pick_upto (vs : List Value) (i : Nat) : slicePick vs.toArray none (some (i : Int)) none = (vs.take i).toArray := by
  rw [kms_pick_eq]
  show ((vs.drop 0).take ((if (i : Int) < 0 then vs.length - (-(i : Int)).toNat else min (i : Int).toNat vs.length) - 0)).toArray = _
  rw [if_neg (Int.not_lt.mpr (Int.natCast_nonneg i)), List.drop_zero, Nat.sub_zero, kmk_take_min]
  rfl
/-- l[:i] of a list of the ledger -/
theorem upto_led {value slice : PySem.Expr} {l : Addr} {vs : List Value} {n i : Nat} {t : Tok} {L : Addr} {Q : Value → Shared → Prop} (F : Fr h₀ L s.heap m) (N : News h₀ L s.heap news) (hm : (l, listOf vs.toArray n) ∈ news) (hz : vs.length ≤ 1000)
    (h : ∀ D h', Fr h₀ L h' m → News h₀ L h' ((D, listOf (vs.take i).toArray 0) :: news) → (∀ p ∈ news, p.1 < D) → Q (.ref D) { s with heap := h' })
    (hs : subscripted slice false (.ref l) (.ref s.heap.objs.size) = operate [.ref s.heap.objs.size, .ref l] (getItem (.ref l) (.ref s.heap.objs.size)) := by with_unfolding_all rfl) (ht : ∀ r, letTemporaryGo value (.ref l) r = pure () := by intro _; with_unfolding_all rfl) :
    wpAny (model prog w) A (subscriptTail value slice (.ref l) (.ref s.heap.objs.size)) Q E { s with heap := s.heap.push { cls := .type "slice", data := .fields #[.none, .int (i : Int) t, .none] } } := by
  refine kmk_slice F N ⟨_, (N _ hm).1, rfl, n, rfl⟩ .none (.int (i : Int) t) (fun D h' F' N' l1 => h D h' F' ?_ l1) hs ht (by rw [List.size_toArray, sizeLine_eq]; omega)
  rw [pick_upto] at N'
  exact N'
theorem sum_le {c : Nat} : ∀ {l : List Str}, (∀ x ∈ l, x.length ≤ c) → (l.map (·.length)).sum ≤ c * l.length
  | [], _ => Nat.zero_le _
  | x :: l, h => by
    rw [List.map_cons, List.sum_cons, List.length_cons, Nat.mul_succ]
    have h1 := h x (.head _)
    have h2 := sum_le fun y hy => h y (.tail _ hy)
    omega
end
end E6Part
section P3Part
set_option linter.unusedVariables false
/-- a part of a path that counts -/
noncomputable def okc (c : Str) : Bool := decide (¬ (c.length : Int) = 0) && (c != Str.ofString ".")
theorem filt_step {px : List Str} {i : Nat} {c : Str} (hc : px[i]? = some c) : (px.take (i + 1)).filter okc = (px.take i).filter okc ++ (if okc c = true then [c] else []) := by
  rw [List.take_add_one, hc, List.filter_append]
  cases h : okc c <;> simp [h]
/-- the common start -/
noncomputable def lcp : List Str → List Str → List Str
  | a :: xs, b :: ys => if a = b then a :: lcp xs ys else []
  | _, _ => []
theorem pref_lt : ∀ {m1 m2 : List Str} {i : Nat}, ltL m2 m1 = false → m1.take i = m2.take i → i < m1.length → i < m2.length
  | _ :: _, [], _, h, _, _ => by simp [ltL] at h
  | _ :: _, _ :: _, 0, _, _, _ => Nat.zero_lt_succ _
  | a :: m1, b :: m2, i + 1, h, e, hi => by
    simp only [List.take_succ_cons, List.cons.injEq] at e
    obtain ⟨rfl, e⟩ := e
    simp only [ltL, beq_self_eq_true, if_true] at h
    exact Nat.succ_lt_succ (pref_lt h e (Nat.lt_of_succ_lt_succ hi))
  | [], _, _, _, _, hi => absurd hi (Nat.not_lt_zero _)
theorem lcp_at : ∀ {m1 m2 : List Str} {i : Nat}, m1.take i = m2.take i → i < m1.length → i < m2.length → m1[i]? ≠ m2[i]? → m1.take i = lcp m1 m2
  | [], _, _, _, hi, _, _ => absurd hi (Nat.not_lt_zero _)
  | _ :: _, [], _, _, _, hi, _ => absurd hi (Nat.not_lt_zero _)
  | a :: m1, b :: m2, 0, _, _, _, hne => by
    have : a ≠ b := fun e => hne (by rw [e]; rfl)
    simp [lcp, this]
  | a :: m1, b :: m2, i + 1, e, h1, h2, hne => by
    simp only [List.take_succ_cons, List.cons.injEq] at e
    obtain ⟨rfl, e⟩ := e
    simp only [lcp, if_true, List.take_succ_cons, List.cons.injEq, true_and]
    exact lcp_at e (Nat.lt_of_succ_lt_succ h1) (Nat.lt_of_succ_lt_succ h2) (by simpa using hne)
theorem lcp_whole : ∀ {m1 m2 : List Str}, m1.take m1.length = m2.take m1.length → m1 = lcp m1 m2
  | [], _, _ => by simp [lcp]
  | a :: m1, [], e => by simp at e
  | a :: m1, b :: m2, e => by
    simp only [List.length_cons, List.take_succ_cons, List.cons.injEq] at e
    obtain ⟨rfl, e⟩ := e
    simp only [lcp, if_true, List.cons.injEq, true_and]
    exact lcp_whole e
theorem strLt_irrefl (x : Str) : strLt x x = false := by
  unfold strLt
  exact decide_eq_false (List.lt_irrefl _)
theorem strLt_asymm {x y : Str} (h : strLt x y = true) : strLt y x = false := by
  unfold strLt at *
  exact decide_eq_false (List.lt_asymm (of_decide_eq_true h))
theorem strLt_conn {x y : Str} (h : strLt x y = false) (h' : strLt y x = false) : x = y := by
  unfold strLt at *
  have e : x.cps.toList = y.cps.toList := List.le_antisymm (List.not_lt.mp (of_decide_eq_false h')) (List.not_lt.mp (of_decide_eq_false h))
  cases x; cases y
  simp only at e
  congr
  exact Array.toList_inj.mp e
theorem ltL_irrefl : ∀ a : List Str, ltL a a = false
  | [] => rfl
  | a :: r => by simp [ltL, ltL_irrefl r]
theorem ltL_asymm : ∀ {a b : List Str}, ltL a b = true → ltL b a = false
  | [], [], h => by simp [ltL] at h
  | [], _ :: _, _ => rfl
  | _ :: _, [], h => by simp [ltL] at h
  | a :: xs, b :: ys, h => by
    by_cases e : a = b
    · subst e
      simp only [ltL, beq_self_eq_true, if_true] at h ⊢
      exact ltL_asymm h
    · have e' : ¬ b = a := fun q => e q.symm
      simp only [ltL, beq_iff_eq, e, e', if_false] at h ⊢
      exact strLt_asymm h
theorem ltL_conn : ∀ {a b : List Str}, ltL a b = false → ltL b a = false → a = b
  | [], [], _, _ => rfl
  | [], _ :: _, h, _ => by simp [ltL] at h
  | _ :: _, [], _, h => by simp [ltL] at h
  | a :: xs, b :: ys, h, h' => by
    by_cases e : a = b
    · subst e
      simp only [ltL, beq_self_eq_true, if_true] at h h'
      rw [ltL_conn h h']
    · have e' : ¬ b = a := fun q => e q.symm
      simp only [ltL, beq_iff_eq, e, e', if_false] at h h'
      exact absurd (strLt_conn h h') e
theorem lcp_comm : ∀ a b : List Str, lcp a b = lcp b a
  | [], [] => rfl
  | [], _ :: _ => rfl
  | _ :: _, [] => rfl
  | a :: xs, b :: ys => by
    by_cases e : a = b
    · subst e; simp [lcp, lcp_comm xs ys]
    · have e' : ¬ b = a := fun q => e q.symm
      simp [lcp, e, e']
theorem mm_facts (fx fy : List Str) : ltL (if ltL fx fy = true then fy else fx) (if ltL fy fx = true then fy else fx) = false ∧ lcp (if ltL fy fx = true then fy else fx) (if ltL fx fy = true then fy else fx) = lcp fx fy := by
  cases h1 : ltL fy fx <;> cases h2 : ltL fx fy <;> simp only [Bool.false_eq_true, if_true, if_false]
  · exact ⟨ltL_irrefl _, by rw [ltL_conn h2 h1]⟩
  · exact ⟨h1, trivial⟩
  · exact ⟨h2, lcp_comm _ _⟩
  · rw [ltL_asymm h1] at h2; cases h2
theorem pick_all {P : Str → Prop} {fx fy : List Str} {b : Bool} (hx : ∀ c ∈ fx, P c) (hy : ∀ c ∈ fy, P c) : ∀ c ∈ (if b = true then fy else fx), P c := by
  cases b
  · exact hx
  · exact hy
theorem pick_len {fx fy : List Str} {b : Bool} {n : Nat} (hx : fx.length ≤ n) (hy : fy.length ≤ n) : (if b = true then fy else fx).length ≤ n := by
  cases b
  · exact hx
  · exact hy
theorem join_len {c : Nat} (sep : Str) : ∀ l : List Str, (∀ x ∈ l, x.length ≤ c) → (Txt.join sep l).length ≤ (c + sep.length) * l.length
  | l, h => by
    show (PySem.Builtin.Str.glued sep l).length ≤ _
    rw [size_glued]
    have h2 : (l.map (·.length)).sum ≤ c * l.length := by
      induction l with
      | nil => exact Nat.zero_le _
      | cons x l ih =>
        rw [List.map_cons, List.sum_cons, List.length_cons, Nat.mul_succ]
        have h1 := h x (.head _)
        have h2 := ih fun y hy => h y (.tail _ hy)
        omega
    have h3 : (l.length - 1) * sep.length ≤ sep.length * l.length := by rw [Nat.mul_comm]; exact Nat.mul_le_mul_left _ (Nat.sub_le _ _)
    rw [Nat.add_mul]
    omega
/-- what commonpath gives for two texts of these parts -/
noncomputable def cpathF (px py : List Str) : Str := Str.ofString "/" ++ Txt.join (Str.ofString "/") (lcp (px.filter okc) (py.filter okc))
end P3Part
section D9Part
set_option linter.unusedVariables false
section
variable {w : World} {mean : ExcName → Option Value} {mg mb : Str → Option Value} {dp un : Nat} {gd : Option (List Code)} {base : Heap} {fr : List Env} {s : Shared} {Q E : Value → Shared → Prop}
theorem hands_fspath {g : Heap} {xs : Array Value} (S : St w mean mg mb g) (hd : dp < recursionLimit) (hx : ∀ (i : Nat) (x : Value), xs[i]? = some x → ∃ y t, x = Value.str y t) : Hands PySem.Challenge.rw_pd0148_01.row.prog w (Ar dp un gd fr) g (.ref 129) xs := fun i x s' Q E e hk hQ => by
  obtain ⟨y, t, rfl⟩ := hx i x e
  exact fspath_spec (S.keeps hk) hd fun h' tk hk' => hQ h' tk hk'
theorem items_two {acc : Array Value} {a b : Value} (h : ItemsOf (fun i v => (#[a, b] : Array Value)[i]? = some v) acc 2) : acc = #[a, b] := by
  obtain ⟨hs, hv⟩ := h
  obtain ⟨l⟩ := acc
  obtain ⟨x, y, rfl⟩ : ∃ x y, l = [x, y] := by
    match l, hs with
    | [x, y], _ => exact ⟨x, y, rfl⟩
  have h0 := hv 0 x rfl
  have h1 := hv 1 y rfl
  cases h0; cases h1; rfl
theorem two_items {a b v : Value} : ∀ i : Nat, (#[a, b] : Array Value)[i]? = some v → v = a ∨ v = b
  | 0, h => .inl (Option.some.inj h).symm
  | 1, h => .inr (Option.some.inj h).symm
  | i + 2, h => by simp at h
theorem pick2 {h₀ h : Heap} {L A₃ A₄ : Addr} {ys zs : List Value} {fx fy : List Str} {led : List (Addr × Obj)} (b : Bool) (N : News h₀ L h led) (h3 : (A₃, LCg.lst ys) ∈ led) (h4 : (A₄, LCg.lst zs) ∈ led) (hy : StrsAre ys fx) (hz : StrsAre zs fy) :
    ∃ a v, (if b = true then Value.ref A₄ else Value.ref A₃) = .ref a ∧ (a, listOf (List.toArray v) v.length) ∈ led ∧ StrsAre v (if b then fy else fx) := by
  cases b
  · exact ⟨A₃, ys, rfl, h3, hy⟩
  · exact ⟨A₄, zs, rfl, h4, hz⟩
theorem tuple_map_two {h₀ h₁ : Heap} {L : Addr} {m : Str → Option Value} {news : List (Addr × Obj)} {M T I l : Addr} {x y : Str} {t u : Tok}
    (FN : Fr h₀ L h₁ m ∧ News h₀ L h₁ news) (S : St w mean mg mb h₁) (hd : dp < recursionLimit) (hl : h₁.IsList l #[.str x t, .str y u])
    (st : MapSt h₁ M T I l (.ref 129) #[.str x t, .str y u] 0 s.heap) (nM : M ≠ I) (nT : T ≠ I) (nI : h₁.get? I = none) (hlt : ∀ b ∈ M :: T :: I :: List.range h₁.objs.size, b < s.heap.objs.size)
    (h : ∀ D h' tk, Fr h₀ L h' m → News h₀ L h' ((D, { cls := .type "tuple", data := .seq #[.str x t, .str y u] }) :: news) → (∀ p ∈ news, p.1 < D) → Q (.ref D) { s with heap := h', toks := tk }) :
    wpAny (model PySem.Challenge.rw_pd0148_01.row.prog w) (Ar dp un gd fr) (call (.type "tuple") [.ref M]) Q E s := by
  obtain ⟨F, N⟩ := FN
  refine call_tuple_map (n := 2) (Walks.toS (map_walks (g := h₁) rfl (hands_fspath S hd (fun i v e => ?_)) hl nM nT nI)) (fun i s' st' => ⟨_, st'.M, rfl⟩) st hlt (.head _) (fun s₃ acc hm hacc => ?_) (by decide)
  · match i, e with
    | 0, e => cases e; exact ⟨_, _, rfl⟩
    | 1, e => cases e; exact ⟨_, _, rfl⟩
    | i + 2, e => simp at e
  · obtain ⟨h₃, g₃, d₃, tk₃, os₃⟩ := s₃
    obtain ⟨hh, rfl, rfl, rfl, _⟩ := hm
    obtain rfl := items_two hacc
    have k : ∀ b o, h₁.get? b = some o → h₃.get? b = some o := fun b o e => hh b o (by rintro q; rw [List.mem_singleton.mp q, nI] at e; cases e) (st.base b o e)
    have F₃ := F.keeps k
    have N₃ := N.grown k
    exact h _ _ _ (F₃.push _) (News.push F₃ N₃ _) (fun p hp => Heap.lt_size (N₃ p hp).1)
local macro_rules | `(tactic| walk_at "call ref") => `(tactic| (
  (with_reducible show wpAny _ _ (call (Value.ref 129) [Value.str _ _]) _ _ _)
  k_dflt (refine' fspath_spec ?S ?d ?_)
  (case S => walk_at "S")
  (case d => omega)
  intro _ _ _
  walk_at "KEPT"))
local macro_rules | `(tactic| walk_at "call ref") => `(tactic| (
  (with_reducible show wpAny _ _ (call (Value.ref 143) [Value.str _ _]) _ _ _)
  k_dflt (refine' get_sep_spec ?S ?d ?_)
  (case S => walk_at "S")
  (case d => omega)
  intro _ _ _ _
  walk_at "KEPT"))
local macro_rules | `(tactic| walk_at "exec Try") => `(tactic| ((with_reducible show wpAny _ _ (exec (Stmt.Try _ (_ :: _) _ [] _) (envOfC _ _ _ _ _)) _ _ _); refine wpAny_Try_except ?_))
local macro_rules | `(tactic| walk_at "exec Assign cons ListComp") => `(tactic| (k_here; k_dflt (refine Assign_ListComp_W (F₀ := by k_asm) (by rfl) (by with_unfolding_all rfl) (by with_unfolding_all rfl) (by decide) (by rfl) (by decide) (by rfl) (by rfl) (by rfl) ?_)))
local macro_rules | `(tactic| walk_at "exec Assign cons ListComp") => `(tactic| (k_here; lct_look; k_dflt (refine Assign_ListComp_WT (F₀ := by k_asm) (by rfl) (by with_unfolding_all rfl) (by with_unfolding_all rfl) (by decide) (by rfl) (by decide) (by rfl) (by rfl) (by rfl) ?_)))
local macro_rules | `(tactic| walk_at "eval ListComp") => `(tactic| (k_here; k_dflt (refine ListComp_W (F₀ := by k_asm) (by with_unfolding_all rfl) (by decide) (by rfl) (by decide) (by rfl) ?_)))
local macro_rules | `(tactic| walk_at "eval ListComp") => `(tactic| (k_here; lct_look; k_dflt (refine ListComp_WT (F₀ := by k_asm) (by with_unfolding_all rfl) (by decide) (by rfl) (by decide) (by rfl) ?_)))
local macro_rules | `(tactic| lcg_src) => `(tactic| ((with_reducible show TupAt _ _ _ _); exact Or.inr ⟨_, by k_mem⟩))
local macro_rules | `(tactic| walk_at "execs cons") => `(tactic| ((with_reducible refine genT ?hp ?_); (case hp => passes_own); intro E₁ hP₁ hE₁))
local macro_rules | `(tactic| walk_at "call type:map") => `(tactic| (k_here; refine Halt.mk ?_))
local macro_rules | `(tactic| walk_at "call type:tuple") => `(tactic| (k_here; refine Halt.mk ?_))
local macro_rules | `(tactic| walk_at "call builtin:str.split") => `(tactic| (k_here; refine Halt.mk ?_))
local macro_rules | `(tactic| walk_at "CompRest") => `(tactic| refine Halt.mk ?_)
local macro_rules | `(tactic| walk_at "CompRestT") => `(tactic| refine Halt.mk ?_)
local macro_rules | `(tactic| walk_at "CompEnd") => `(tactic| refine Halt.mk ?_)
local macro_rules | `(tactic| walk_at "call builtin:min") => `(tactic| refine Halt.mk ?_)
local macro_rules | `(tactic| walk_at "call builtin:max") => `(tactic| refine Halt.mk ?_)
local macro_rules | `(tactic| walk_at "call type:enumerate") => `(tactic| refine Halt.mk ?_)
local macro_rules | `(tactic| walk_at "LoopStep3") => `(tactic| refine Halt.mk ?_)
local macro_rules | `(tactic| walk_at "subscriptTail Name Slice ref ref") => `(tactic| refine Halt.mk ?_)
local macro_rules | `(tactic| walk_at "subscriptTail Name Name ref int") => `(tactic| refine Halt.mk ?_)
local macro_rules | `(tactic| walk_at "call builtin:str.join") => `(tactic| refine Halt.mk ?_)
local macro_rules | `(tactic| walk_at "FinA") => `(tactic| refine Halt.mk ?_)
theorem commonpath_spec {pl : Addr} {x y : Str} {t u : Tok} {np : Nat} (hx : x.length ≤ 1000) (hy : y.length ≤ 1000) {px py : List Str} (hpx : Txt.split x (Str.ofString "/") = px) (hpy : Txt.split y (Str.ofString "/") = py) (hlx : px.length ≤ 100) (hly : py.length ≤ 100) (hcx : ∀ c ∈ px, c.length ≤ 1000) (hcy : ∀ c ∈ py, c.length ≤ 1000) (hsx : Txt.startswith x (Str.ofString "/") = true) (hsy : Txt.startswith y (Str.ofString "/") = true) (S : St w mean mg mb s.heap) (hd : dp + 3 < recursionLimit) (hu : un + 30 < cLine)
    (hpl : s.heap.IsList pl #[.str x t, .str y u])
    (h : ∀ h' tk' t', (∀ b o, s.heap.get? b = some o → h'.get? b = some o) → Q (.str (cpathF px py) t') { s with heap := h', toks := tk' }) :
    wpAny (model PySem.Challenge.rw_pd0148_01.row.prog w) (Ar dp un gd fr) (call (.ref 162) [.ref pl]) Q E s := by
  (have kfX := (‹St _ _ _ _ _›).X; revert kfX; k_fill; intro _)
  refine wpAny_call ?_
  refine' enterC (muts := []) ?k1 ?k6 ?k7 ?k8 ?k9 ?kB ?kD ?kM ?_ ?c2 ?c3 ?c4
  (case k1 => assumption)
  (case k6 => k_is)
  (case k7 => k_is)
  (case k8 => omega)
  (case k9 => exact BindsTo.of_eq rfl)
  (case kB => exact rfl)
  (case kD => decide +kernel)
  (case kM => exact fun _ h => nomatch h)
  (case c2 => exact rfl)
  (case c3 => exact rfl)
  (case c4 => exact rfl)
  intro L' h₁ tk cells F N Y _
  k_cells Y
  simp only [List.cons_append, List.nil_append] at N
  dsimp only
  obtain ⟨X, T⟩ := S
  (rename_i dc1 dc2)
  (obtain ⟨g0, _, _, _, _⟩ := s)
  dsimp only [List.map, hideAll] at *
  replace F : Fr g0 L' h₁ (fun y => if y = Str.ofString "paths" then some (.ref pl) else none) := by with_unfolding_all exact F
  (with_unfolding_all change _ = Data.cell none at dc1)
  (with_unfolding_all change _ = Data.cell none at dc2)
  (try k_fold)
  k_steps
  unfold Halt
  have hpl₁ : h₁.IsList pl #[.str x t, .str y u] := hpl.at fun o e => F.keep _ o e
  refine call_map hpl₁ fun h₂ M T₂ I st nM nT nI hlt => ?_
  have S₁ : St w mean mg mb h₁ := St.push X T F
  have F₂ := F.keeps st.base
  have N₂ := N.grown st.base
  have FN : _ ∧ _ := ⟨F, N⟩
  clear F N
  k_steps
  unfold Halt
  refine tuple_map_two FN S₁ (show dp + 1 < recursionLimit from ltcA (by assumption) rfl) hpl₁ st nM nT nI hlt fun D h₃ tk₃ F₃ N₃ l1 => ?_
  clear FN F₂ N₂ hlt nI nT nM st S₁
  k_lt l1
  k_steps
  (rename Fr _ _ _ _ => Fa)
  (rename News _ _ _ _ => Na)
  refine SrcW.of (Drawn.tuple rfl Fa Na (.inr ⟨_, .head _⟩)) (Nat.le_of_ble_eq_true rfl) fun ga => ?_
  clear Fa Na
  refine LCg.CompRest.succ fun v I₁ oI₁ C₁ oC₁ A₁ m₁ g₁ k₁ E₁ hv₁ hC₁ hx₁ F₁ N₁ off₁ ne₁ => ?_
  obtain rfl : Value.str x t = v := Option.some.inj hv₁
  simp only [LCg.Off3, and_true] at off₁
  have f1 := off₁.1.1
  have f2 := off₁.1.2.1
  have f3 := off₁.1.2.2
  have f4 := off₁.2.1.1
  have f5 := off₁.2.1.2.1
  have f6 := off₁.2.1.2.2
  have f7 := off₁.2.2.1
  have f8 := off₁.2.2.2.1
  have f9 := off₁.2.2.2.2
  k_steps
  unfold Halt
  refine KSpl.split1 F₁ N₁ (by decide) (fun S₁ l₁ g₂ k₂ e₁ a₁ F₂ N₂ lt₁ => ?_) (by rw [sizeLine_eq]; omega)
  rw [hpx] at e₁
  rw [e₁] at a₁
  clear F₁ N₁ e₁
  k_lt lt₁
  k_steps
  unfold Halt
  lcg_end
  clear off₁ ne₁ lt₁ F₂ N₂ hC₁ hx₁ hv₁ f1 f2 f3 f4 f5 f6 f7 f8 f9
  refine LCg.CompRest.succ fun v I₁ oI₁ C₁ oC₁ A₁ m₁ g₁ k₁ E₁ hv₁ hC₁ hx₁ F₁ N₁ off₁ ne₁ => ?_
  obtain rfl : Value.str y u = v := Option.some.inj hv₁
  simp only [LCg.Off3, and_true] at off₁
  have f1 := off₁.1.1
  have f2 := off₁.1.2.1
  have f3 := off₁.1.2.2
  have f4 := off₁.2.1.1
  have f5 := off₁.2.1.2.1
  have f6 := off₁.2.1.2.2
  have f7 := off₁.2.2.1.1
  have f8 := off₁.2.2.1.2.1
  have f9 := off₁.2.2.1.2.2
  have f10 := off₁.2.2.2.1
  have f11 := off₁.2.2.2.2.1
  have f12 := off₁.2.2.2.2.2
  k_steps
  unfold Halt
  refine KSpl.split1 F₁ N₁ (by decide) (fun S₂ l₂ g₂ k₂ e₂ a₂ F₂ N₂ lt₁ => ?_) (by rw [sizeLine_eq]; omega)
  rw [hpy] at e₂
  rw [e₂] at a₂
  clear F₁ N₁ e₂
  k_lt lt₁
  k_steps
  unfold Halt
  lcg_end
  clear off₁ ne₁ lt₁ F₂ N₂ hC₁ hx₁ hv₁ f1 f2 f3 f4 f5 f6 f7 f8 f9 f10 f11 f12
  refine LCg.CompRest.zero fun B₁ g₃ k₃ F₃ N₃ o₃ => ?_
  dsimp only [List.nil_append, List.cons_append] at N₃
  simp only [LCg.Off1, and_true] at o₃
  k_steps
  refine' SetComp_tup (ax := D) F₃ N₃ (.inr ⟨_, by k_mem⟩) rfl ?hn ?c1 ?c2 ?c3 ?c4 ?c5 ?_
  (case hn => exact Nat.succ_ne_zero _)
  (case c1 => with_unfolding_all rfl)
  (case c2 => decide)
  (case c3 => rfl)
  (case c4 => decide)
  (case c5 => rfl)
  k_steps
  refine ⟨rfl, rfl, ?_, ?_⟩
  · intro i v I oI C oC D oD m₂ h₅ tk₅ E' hlt hv hC hx₂ F₅ N₅
    clear F₃ N₃
    rcases two_items i hv with rfl | rfl
    · clear hv hlt
      k_steps
      unfold Halt
      exact ⟨by rw [hsx], _, _, rfl, fun _ _ e => e⟩
    · clear hv hlt
      k_steps
      unfold Halt
      exact ⟨by rw [hsy], _, _, rfl, fun _ _ e => e⟩
  intro D₅ h₅ tk₅ F₅ N₅ o₅
  clear F₃ N₃
  k_steps
  refine assign_set1 rfl F₅ N₅ (.head _) rfl rfl fun h₆ F₆ N₆ => ?_
  clear F₅ N₅ o₅ o₃
  have hRb := Fr.rebase F₆ [(Str.ofString "split_paths", .ref B₁)] (List.forall_mem_cons.mpr ⟨by with_unfolding_all rfl, List.forall_mem_nil _⟩)
  clear F₆
  refine Exists.elim hRb fun u₁ F₆ => ?_
  clear hRb
  k_steps
  (rename Fr _ _ _ _ => F₇)
  (rename News _ _ _ _ => N₇)
  refine SrcW.of (Drawn.led rfl F₇ N₇ (.tail _ (.head _))) (Nat.le_of_ble_eq_true rfl) fun gb => ?_
  clear F₇ N₇
  refine LCg.CompRest.succ fun v I₁ oI₁ C₁ oC₁ A₁ m₁ g₁ k₁ E₁ hv₁ hC₁ hx₁ F₁ N₁ off₁ ne₁ => ?_
  obtain rfl : Value.ref S₁ = v := Option.some.inj hv₁
  k_steps
  (rename Fr _ _ _ _ => F₂)
  (rename News _ _ _ _ => N₂)
  refine SrcWT.of (Drawn.led (vs := strValues l₁) rfl F₂ N₂ (by k_mem)) ?hsz fun gc => ?_
  (case hsz => have := a₁.len_eq; rw [List.size_toArray, sizeLine_eq]; omega)
  refine compT_invK (fun i ys => StrsAre ys ((px.take i).filter okc)) (fun i ys hi hys v I₂ oI₂ C₂ oC₂ A₂ m₂ g₂ k₂ E₂ hv₂ hC₂ hx₂ F₃ N₃ off₂ ne₂ => ?_) (fun ys hys => ?_) .nil
  · refine genH fun Q₂ hQ₂ => ?_
    have hi' := hi
    refine ex2a2 (a₁.item i v (by simpa using hv₂)) fun c t' eqa hc => ?_
    subst eqa
    have hcl := hcx c (List.mem_of_getElem? hc)
    clear F₂ N₂ hv₂ hi hi' off₁ ne₁ hv₁ hx₁
    (k_steps; all_goals (try ((first | ((with_reducible rename Held _ => hKQ); refine Held.out hKQ _ _ ?_; clear hKQ; (try dsimp only)) | ((with_reducible rename (∀ f s, KswPost _ _ _ _ _ _ _ _ _ _ _ _ f s → _) => hKQ); refine hKQ _ _ ?_; clear hKQ)); k_steps)); all_goals (try ((first | ((with_reducible rename Held _ => hKQ); refine Held.out hKQ _ _ ?_; clear hKQ; (try dsimp only)) | ((with_reducible rename (∀ f s, KswPost _ _ _ _ _ _ _ _ _ _ _ _ f s → _) => hKQ); refine hKQ _ _ ?_; clear hKQ)); k_steps)))
    · unfold Halt
      refine CompEnd.same F₃ N₃ off₂ (SrcAt.led (n := 0) (by k_mem)) ⟨rfl, ?_⟩
      rw [filt_step hc, if_pos (by unfold okc; rw [decide_eq_true (by assumption)]; assumption)]
      exact hys.append' (.cons _ _ .nil)
    · unfold Halt
      refine CompEnd.same F₃ N₃ off₂ (SrcAt.led (n := 0) (by k_mem)) ⟨rfl, ?_⟩
      rw [filt_step hc, if_neg (by unfold okc; rw [Bool.and_eq_true]; rintro ⟨_, q⟩; simp_all), List.append_nil]
      exact hys
    · unfold Halt
      refine CompEnd.same F₃ N₃ off₂ (SrcAt.led (n := 0) (by k_mem)) ⟨rfl, ?_⟩
      rw [filt_step hc, if_neg (by unfold okc; rw [Bool.and_eq_true, decide_eq_true_eq]; rintro ⟨q, _⟩; exact q (by assumption)), List.append_nil]
      exact hys
  have ht₁ : px.take (strValues l₁).toArray.size = px := List.take_of_length_le (by rw [List.size_toArray]; exact Nat.le_of_eq a₁.len_eq.symm)
  rw [ht₁] at hys
  intro A₃ g₄ k₄ F₄ N₄ o₄
  clear F₂ N₂
  k_steps
  unfold Halt
  refine CompEnd.one F₄ N₄ o₄ off₁ (SrcAt.led (vs := [.ref S₁, .ref S₂]) (n := 2) (by k_mem)) ?_
  clear F₄ N₄ o₄ off₁ ne₁ hC₁ hx₁ hv₁ ht₁
  refine LCg.CompRest.succ fun v I₁ oI₁ C₁ oC₁ A₁ m₁ g₁ k₁ E₁ hv₁ hC₁ hx₁ F₁ N₁ off₁ ne₁ => ?_
  obtain rfl : Value.ref S₂ = v := Option.some.inj hv₁
  k_steps
  (rename Fr _ _ _ _ => F₂)
  (rename News _ _ _ _ => N₂)
  refine SrcWT.of (Drawn.led (vs := strValues l₂) rfl F₂ N₂ (by k_mem)) ?hsz fun gc => ?_
  (case hsz => have := a₂.len_eq; rw [List.size_toArray, sizeLine_eq]; omega)
  refine compT_invK (fun i zs => StrsAre zs ((py.take i).filter okc)) (fun i zs hi hzs v I₂ oI₂ C₂ oC₂ A₂ m₂ g₂ k₂ E₂ hv₂ hC₂ hx₂ F₃ N₃ off₂ ne₂ => ?_) (fun zs hzs => ?_) .nil
  · refine genH fun Q₂ hQ₂ => ?_
    have hi' := hi
    refine ex2a2 (a₂.item i v (by simpa using hv₂)) fun c t' eqb hc => ?_
    subst eqb
    have hcl := hcy c (List.mem_of_getElem? hc)
    clear F₂ N₂ hv₂ hi hi' off₁ ne₁ hv₁ hx₁
    (k_steps; all_goals (try ((first | ((with_reducible rename Held _ => hKQ); refine Held.out hKQ _ _ ?_; clear hKQ; (try dsimp only)) | ((with_reducible rename (∀ f s, KswPost _ _ _ _ _ _ _ _ _ _ _ _ f s → _) => hKQ); refine hKQ _ _ ?_; clear hKQ)); k_steps)); all_goals (try ((first | ((with_reducible rename Held _ => hKQ); refine Held.out hKQ _ _ ?_; clear hKQ; (try dsimp only)) | ((with_reducible rename (∀ f s, KswPost _ _ _ _ _ _ _ _ _ _ _ _ f s → _) => hKQ); refine hKQ _ _ ?_; clear hKQ)); k_steps)))
    · unfold Halt
      refine CompEnd.same F₃ N₃ off₂ (SrcAt.led (n := 0) (by k_mem)) ⟨rfl, ?_⟩
      rw [filt_step hc, if_pos (by unfold okc; rw [decide_eq_true (by assumption)]; assumption)]
      exact hzs.append' (.cons _ _ .nil)
    · unfold Halt
      refine CompEnd.same F₃ N₃ off₂ (SrcAt.led (n := 0) (by k_mem)) ⟨rfl, ?_⟩
      rw [filt_step hc, if_neg (by unfold okc; rw [Bool.and_eq_true]; rintro ⟨_, q⟩; simp_all), List.append_nil]
      exact hzs
    · unfold Halt
      refine CompEnd.same F₃ N₃ off₂ (SrcAt.led (n := 0) (by k_mem)) ⟨rfl, ?_⟩
      rw [filt_step hc, if_neg (by unfold okc; rw [Bool.and_eq_true, decide_eq_true_eq]; rintro ⟨q, _⟩; exact q (by assumption)), List.append_nil]
      exact hzs
  have ht₂ : py.take (strValues l₂).toArray.size = py := List.take_of_length_le (by rw [List.size_toArray]; exact Nat.le_of_eq a₂.len_eq.symm)
  rw [ht₂] at hzs
  intro A₄ g₄ k₄ F₄ N₄ o₄
  clear F₂ N₂
  k_steps
  unfold Halt
  refine CompEnd.one F₄ N₄ o₄ off₁ (SrcAt.led (vs := [.ref S₁, .ref S₂]) (n := 2) (by k_mem)) ?_
  clear F₄ N₄ o₄ off₁ ne₁ hC₁ hx₁ hv₁ ht₂
  refine LCg.CompRest.zero fun B₂ g₅ k₅ F₅ N₅ o₅ => ?_
  dsimp only [List.nil_append, List.cons_append] at N₅
  clear o₅
  k_steps
  unfold Halt
  refine min_two (v0 := .ref A₃) (v1 := .ref A₄) (b := ltL (py.filter okc) (px.filter okc)) ⟨_, (N₅ _ (.head _)).1, rfl, _, rfl⟩ (fun s' Q' E' k hq => lt_strsL (n := zs.length) (n2 := ys.length) (k _ _ (N₅ (A₄, LCg.lst zs) (.tail _ (.head _))).1) (k _ _ (N₅ (A₃, LCg.lst ys) (.tail _ (.tail _ (.head _)))).1) hzs hys (by (show _ + 3 + 1 + 1 < cLine); (dsimp only [Ar]); omega) hq) rfl fun h₇ k₇ => ?_
  have F₆ := F₅.keeps k₇
  have N₆ := N₅.grown k₇
  clear F₅ N₅ k₇
  have hRb := Fr.rebase F₆ [(Str.ofString "split_paths", .ref B₂), (Str.ofString "isabs", .bool true)] (List.forall_mem_cons.mpr ⟨by with_unfolding_all rfl, List.forall_mem_cons.mpr ⟨by with_unfolding_all rfl, List.forall_mem_nil _⟩⟩)
  clear F₆
  refine Exists.elim hRb fun u₂ F₆ => ?_
  clear hRb
  refine ex2a3 (pick2 (ltL (py.filter okc) (px.filter okc)) N₆ (.tail _ (.tail _ (.head _))) (.tail _ (.head _)) hys hzs) fun a1 v1 ea1 hm1 hv1 => ?_
  rw [ea1]
  k_steps
  unfold Halt
  (rename Fr _ _ _ _ => F₅)
  (rename News _ _ _ _ => N₅)
  refine max_two (v0 := .ref A₃) (v1 := .ref A₄) (b := ltL (px.filter okc) (py.filter okc)) ⟨_, (N₅ _ (.head _)).1, rfl, _, rfl⟩ (fun s' Q' E' k hq => gt_strsL (n := zs.length) (n2 := ys.length) (k _ _ (N₅ (A₄, LCg.lst zs) (.tail _ (.head _))).1) (k _ _ (N₅ (A₃, LCg.lst ys) (.tail _ (.tail _ (.head _)))).1) hzs hys (by (show _ + 3 + 1 + 1 < cLine); (dsimp only [Ar]); omega) hq) rfl fun h₇ k₇ => ?_
  have F₆ := F₅.keeps k₇
  have N₆ := N₅.grown k₇
  clear F₅ N₅ k₇
  have hRb := Fr.rebase F₆ [(Str.ofString "s1", .ref a1), (Str.ofString "isabs", .bool true)] (List.forall_mem_cons.mpr ⟨by with_unfolding_all rfl, List.forall_mem_cons.mpr ⟨by with_unfolding_all rfl, List.forall_mem_nil _⟩⟩)
  clear F₆
  refine Exists.elim hRb fun u₃ F₆ => ?_
  clear hRb
  refine ex2a3 (pick2 (ltL (px.filter okc) (py.filter okc)) N₆ (.tail _ (.tail _ (.head _))) (.tail _ (.head _)) hys hzs) fun a2 v2 ea2 hm2 hv2 => ?_
  rw [ea2]
  clear ea1 ea2
  have hfl : ∀ (l : List Str), l.length ≤ 100 → (l.filter okc).length ≤ 100 := fun l h => Nat.le_trans (List.length_filter_le _ _) h
  have hlt := (mm_facts (px.filter okc) (py.filter okc)).1
  have hlcp := (mm_facts (px.filter okc) (py.filter okc)).2
  have hl1 : (if ltL (py.filter okc) (px.filter okc) = true then py.filter okc else px.filter okc).length ≤ 100 := pick_len (hfl _ hlx) (hfl _ hly)
  have hs1 : ∀ c ∈ (if ltL (py.filter okc) (px.filter okc) = true then py.filter okc else px.filter okc), c.length ≤ 1000 := pick_all (fun c h => hcx c (List.mem_filter.mp h).1) (fun c h => hcy c (List.mem_filter.mp h).1)
  have hz1 : ∀ z, z = Str.ofString "/" ++ Txt.join (Str.ofString "/") (lcp (if ltL (py.filter okc) (px.filter okc) = true then py.filter okc else px.filter okc) (if ltL (px.filter okc) (py.filter okc) = true then py.filter okc else px.filter okc)) → z = cpathF px py := fun z e => by rw [e, hlcp]; rfl
  clear hlcp hfl
  generalize hm1' : (if ltL (py.filter okc) (px.filter okc) = true then py.filter okc else px.filter okc) = m1 at *
  generalize hm2' : (if ltL (px.filter okc) (py.filter okc) = true then py.filter okc else px.filter okc) = m2 at *
  clear hm1' hm2'
  k_steps
  unfold Halt
  (rename Fr _ _ _ _ => F₅)
  (rename News _ _ _ _ => N₅)
  refine enum_for (fun i => m1.take i = m2.take i) rfl F₅ N₅ hm1 rfl ?_ ?_
  · intro i v t' h₈ tk₈ own hi hp F₇ N₇
    clear F₅ N₅
    change Fr g0 L' _ _ at F₇
    change News g0 L' _ _ at N₇
    refine ex2a2 (hv1.item i v hi) fun c t'' eqc hc => ?_
    subst eqc
    have hi1 : i < m1.length := (List.getElem?_eq_some_iff.mp hc).1
    have hi2 := pref_lt hlt hp hi1
    have hc2 : m2[i]? = some m2[i] := List.getElem?_eq_getElem hi2
    k_steps
    unfold Halt
    refine get_strs N₇ (List.mem_append_right _ hm2) hv2 (by omega) (by omega) (x := m2[i]) (by simpa using hc2) fun t3 => ?_
    k_steps
    · unfold Halt
      refine upto_led F₇ N₇ (List.mem_append_right _ hm1) (by have := hv1.len_eq; omega) fun D₉ h₉ F₈ N₈ l9 => ?_
      have N₈' := News.sub N₈ (news' := (D₉, listOf (List.take i v1).toArray 0) :: _) fun p hp => (List.mem_cons.mp hp).elim (fun e => e ▸ .head _) fun hp => .tail _ (List.mem_append_right _ hp)
      clear F₇ N₇ l9 N₈
      k_steps
      unfold Halt
      dsimp only
      unfold LoopStep3
      dsimp only
      k_steps
      unfold Halt
      (rename Fr _ _ _ _ => F₉)
      (rename News _ _ _ _ => N₉)
      have hne : c ≠ m2[i] := by simpa using (show (c != m2[i]) = true by assumption)
      have elc : m1.take i = lcp m1 m2 := lcp_at hp hi1 hi2 (by rw [hc, hc2]; exact fun q => hne (Option.some.inj q))
      refine join_listC (ys := m1.take i) ⟨_, (N₉ _ (.head _)).1, rfl, _, rfl⟩ (by simpa using hv1.take' i) (by decide +kernel) (by have := sum_le (fun c hc => hs1 c (List.mem_of_mem_take hc) : ∀ c ∈ m1.take i, c.length ≤ 1000); have := List.length_take_le i m1; omega) fun t4 k4 => ?_
      have hzl := join_len (c := 1000) (Str.ofString "/") (m1.take i) (fun c hc => hs1 c (List.mem_of_mem_take hc))
      have hzl : (Txt.join (Str.ofString "/") (m1.take i)).length ≤ 1000000 := by
        have h1 : (Str.ofString "/").length = 1 := rfl
        have h2 := List.length_take_le i m1
        rw [h1] at hzl
        omega
      have hzz := hz1 (Str.ofString "/" ++ Txt.join (Str.ofString "/") (m1.take i)) (by rw [elc])
      generalize Txt.join (Str.ofString "/") (m1.take i) = z at hzl hzz ⊢
      k_steps
      dsimp only
      rw [hzz]
      exact h _ _ _ F₉.keep
    · unfold Halt
      refine ⟨rfl, h₈, tk₈, _, _, rfl, F₇, N₇, rfl, rfl, ?_, ?_⟩
      · intro z hz1 hz2
        simp [hz1, hz2]
      · dsimp only
        have e : c = m2[i] := by simpa using (show (c != m2[i]) = false by assumption)
        rw [List.take_add_one, List.take_add_one, hp, hc, hc2, e]
  · intro h₈ tk₈ u1 u2 hp F₇ N₇
    clear F₅ N₅
    k_steps
    unfold Halt
    (rename News _ _ _ _ => N₈)
    refine join_listC (ys := m1) ⟨_, (N₈ _ hm1).1, rfl, _, rfl⟩ (by simpa using hv1) (by decide +kernel) (by have := sum_le hs1; omega) fun t4 k4 => ?_
    have elc : m1 = lcp m1 m2 := lcp_whole (by rw [hv1.len_eq] at hp; exact hp)
    have hzl := join_len (c := 1000) (Str.ofString "/") m1 hs1
    have hzl : (Txt.join (Str.ofString "/") m1).length ≤ 1000000 := by
      have h1 : (Str.ofString "/").length = 1 := rfl
      rw [h1] at hzl
      omega
    have hzz := hz1 (Str.ofString "/" ++ Txt.join (Str.ofString "/") m1) (by rw [← elc])
    generalize Txt.join (Str.ofString "/") m1 = z at hzl hzz ⊢
    k_steps
    dsimp only
    rw [hzz]
    exact h _ _ _ (Fr.keep (by assumption))
end
end D9Part
section D10Part
set_option linter.unusedVariables false
/-- the texts from x up to, not with, top -/
inductive Climb (top : Str) : Str → List Str → Prop
  | here : Climb top top []
  | up {x : Str} {l : List Str} : x ≠ top → x.length ≤ 1000 → Climb top (dirF x) l → Climb top x (x :: l)
theorem Climb.inv {top x : Str} {l : List Str} (h : Climb top x l) : (x = top ∧ l = []) ∨ (x ≠ top ∧ x.length ≤ 1000 ∧ ∃ l', l = x :: l' ∧ Climb top (dirF x) l') := by
  cases h with
  | here => exact .inl ⟨rfl, rfl⟩
  | up a b c => exact .inr ⟨a, b, _, rfl, c⟩
section
variable {w : World} {mean : ExcName → Option Value} {mg mb : Str → Option Value} {dp un : Nat} {gd : Option (List Code)} {base : Heap} {fr : List Env} {s : Shared} {Q E : Value → Shared → Prop}
local macro_rules | `(tactic| walk_at "call ref") => `(tactic| (
  (with_reducible show wpAny _ _ (call (Value.ref 162) _) _ _ _)
  refine Halt.mk ?_))
local macro_rules | `(tactic| walk_at "call ref") => `(tactic| (
  (with_reducible show wpAny _ _ (call (Value.ref 157) _) _ _ _)
  refine Halt.mk ?_))
theorem way_spec {x y : Str} {t u : Tok} {px py cx cy : List Str} (hx : x.length ≤ 1000) (hy : y.length ≤ 1000) (hpx : Txt.split x (Str.ofString "/") = px) (hpy : Txt.split y (Str.ofString "/") = py) (hlx : px.length ≤ 100) (hly : py.length ≤ 100) (hpcx : ∀ c ∈ px, c.length ≤ 1000) (hpcy : ∀ c ∈ py, c.length ≤ 1000) (hsx : Txt.startswith x (Str.ofString "/") = true) (hsy : Txt.startswith y (Str.ofString "/") = true)
    (hcx : Climb (cpathF px py) x cx) (hcy : Climb (cpathF px py) y cy) (hlcx : cx.length ≤ 100) (hlcy : cy.length ≤ 100)
    (S : St w mean mg mb s.heap) (hd : dp + 4 < recursionLimit) (hu : un + 40 < cLine)
    (h : ∀ D vs n h' tk', (∀ b o, s.heap.get? b = some o → h'.get? b = some o) → s.heap.get? D = none → h'.get? D = some (listOf (List.toArray vs) n) → StrsAre vs (cpathF px py :: (cx ++ cy)) → Q (.ref D) { s with heap := h', toks := tk' }) :
    wpAny (model PySem.Challenge.rw_pd0148_01.row.prog w) (Ar dp un gd fr) (call (.ref 183) [.str x t, .str y u]) Q E s := by
  ((have kfX := (‹St _ _ _ _ _›).X; revert kfX; k_fill; intro _); refine wpAny_call ?_; refine' enter (muts := []) ?k1 ?k6 ?k7 ?k8 ?k9 ?kB ?kM ?_ ?c2 ?c3 ?c4 ?c5; ((case k1 => assumption); (case k6 => k_is); (case k7 => k_is); (case k8 => first | exact ltc0 (by assumption) | omega); (case k9 => exact BindsTo.of_eq rfl); (case kB => exact locs rfl)); (case kM => exact fun _ h => nomatch h); ((case c2 => exact rfl); (case c3 => exact rfl); (case c4 => exact rfl); (case c5 => decide); (try dsimp only)))
  intro L' h₁ F N
  ((obtain ⟨g0, _, _, _, _⟩ := s); obtain ⟨X, T⟩ := (‹St _ _ _ _ _›); dsimp only [List.map, hideAll] at *; (try k_fold))
  k_steps
  unfold Halt
  (rename News _ _ _ _ => N1)
  refine commonpath_spec (np := 0) hx hy hpx hpy hlx hly hpcx hpcy hsx hsy (by walk_at "S") (show dp + 1 + 3 < recursionLimit from ltcB (by assumption) rfl) (show un + 3 + 30 < cLine from ltcB (by assumption) rfl) ⟨_, (N1 _ (.head _)).1, rfl, _, rfl⟩ fun h2 tk2 t2 hk2 => ?_
  walk_at "KEPT"
  generalize hz : cpathF px py = z at *
  k_steps
  unfold Halt
  rename_i ln _ _ _ _ Dt _ lt1 it lt2 _ _ _ ot hot _ _ F2 N2
  refine ksw_while (σ := Str × Tok × List Value × List Str × Nat × List Str) (fun c => [(it, ot), (Dt, { cls := .type "tuple", data := .seq #[.str x t, .str y u] }), (ln, listOf c.2.2.1.toArray c.2.2.2.2.1)]) (fun c => [(Str.ofString "spot", .str c.1 c.2.1)]) (fun _ => True)
    [] (fun c => Climb z c.1 c.2.2.2.1 ∧ StrsAre c.2.2.1 (z :: c.2.2.2.2.2) ∧ c.2.2.2.2.2 ++ c.2.2.2.1 = cx) (fun c => c.2.2.2.1.length)
    (x, _, [.str z t2], cx, 0, []) F2 (News.sub N2 fun p hp => by simp only [List.mem_cons, List.not_mem_nil, or_false] at hp ⊢; rcases hp with h | h | h <;> simp [h]) trivial (by kst_all) ⟨hcx, .cons _ _ .nil, rfl⟩ ?_
  clear F2 N2
  refine tp6 fun cur tc vs rest ver done => ?_
  rintro u₁ h₃ tk₃ _ hcc F3 N3
  refine an3 hcc fun hcl hvs hdr => ?_
  clear hcc
  dsimp only at *
  k_fold
  obtain ⟨t0, vs, rfl, hvs⟩ := hvs.cons_inv
  have hvl := hvs.len_eq
  rw [List.length_cons, List.length_cons] at hvl
  have hdl : done.length + rest.length ≤ 100 := by rw [← List.length_append, hdr]; exact hlcx
  refine Or.elim hcl.inv (fun hh => ?_) (fun hh => ?_)
  · have hb : (cur != z) = false := by rw [hh.1]; simp
    rw [hh.2, List.append_nil] at hdr
    have hdr0 := hdr
    have hdone : done.length ≤ 100 := by rw [hdr]; exact hlcx
    clear hdl hvl hh hcl hdr
    k_steps
    unfold Halt
    rename_i ot hot _ _ F2 N2
    refine ksw_while (σ := Str × Tok × List Value × List Str × Nat × List Str) (fun c => [(it, ot), (Dt, { cls := .type "tuple", data := .seq #[.str x t, .str y u] }), (ln, listOf c.2.2.1.toArray c.2.2.2.2.1)]) (fun c => [(Str.ofString "spot", .str c.1 c.2.1)]) (fun _ => True)
      [] (fun c => Climb z c.1 c.2.2.2.1 ∧ StrsAre c.2.2.1 (z :: (done ++ c.2.2.2.2.2)) ∧ c.2.2.2.2.2 ++ c.2.2.2.1 = cy) (fun c => c.2.2.2.1.length)
      (y, _, .str z t0 :: vs, cy, ver, []) F2 N2 trivial (by kst_all) ⟨hcy, by rw [List.append_nil]; exact hvs, rfl⟩ ?_
    clear F2 N2
    clear hvs
    rename StrsAre vs done => hvs0
    clear hvs0
    refine tp6 fun cur tc vs rest ver done2 => ?_
    rintro u₁ h₃ tk₃ _ hcc F3 N3
    refine an3 hcc fun hcl hvs hdr => ?_
    clear hcc
    dsimp only at *
    k_fold
    obtain ⟨t0, vs, rfl, hvs⟩ := hvs.cons_inv
    have hvl := hvs.len_eq
    rw [List.length_cons, List.length_cons, List.length_append] at hvl
    have hdl : done2.length + rest.length ≤ 100 := by rw [← List.length_append, hdr]; exact hlcy
    refine Or.elim hcl.inv (fun hh => ?_) (fun hh => ?_)
    · have hb : (cur != z) = false := by rw [hh.1]; simp
      rw [hh.2, List.append_nil] at hdr
      clear hh hcl
      k_steps
      dsimp only
      (rename Fr _ _ _ _ => F9)
      (rename News _ _ _ _ => N9)
      have hm9 := N9 (ln, listOf (Value.str z t0 :: vs).toArray ver) (by k_mem)
      refine h _ (.str z t0 :: vs) ver _ _ F9.keep hm9.2.2 hm9.1 ?_
      rename StrsAre vs _ => hvs1
      rw [hdr0, hdr] at hvs1
      exact .cons _ _ hvs1
    · refine an3 hh fun hne hlen hh2 => ?_
      refine ex1a2 hh2 fun lr hrest hcl2 => ?_
      clear hh hh2 hcl
      have hb : (cur != z) = true := bne_iff_ne.mpr hne
      k_steps
      unfold Halt
      refine dirname_spec hlen (by walk_at "S") (show dp + 1 + 1 < recursionLimit from ltcB (by assumption) rfl) fun y' h2 tk2 t2 hy' hk2 => ?_
      walk_at "KEPT"
      k_steps
      (first | ((with_reducible rename Held _ => hKQ); refine Held.out hKQ _ _ ?_; clear hKQ; (try dsimp only)) | ((with_reducible rename (∀ f s, KswPost _ _ _ _ _ _ _ _ _ _ _ _ f s → _) => hKQ); refine hKQ _ _ ?_; clear hKQ))
      k_steps
      unfold Halt
      (rename News _ _ _ _ => N9)
      simp only [List.push_toArray] at N9
      refine ksw_end (_, _, .str z t0 :: vs ++ [.str cur tc], _, ver + 1, done2 ++ [cur]) (by assumption) N9 (fun p hp => hp) trivial (by kst_all) (by (intro z h2 h3; (simp only [List.forall_mem_cons, List.not_mem_nil, false_implies, implies_true, and_true, ne_eq] at h2); (simp only [List.contains_cons, List.contains_nil, Bool.or_false, Bool.or_eq_false_iff, beq_eq_false_iff_ne, ne_eq] at h3); (simp [kstB, h2, h3]; done))) ⟨by rw [hy']; exact hcl2, ?_, by rw [hrest] at hdr; simpa using hdr⟩ (by dsimp only; rw [hrest]; simp)
      rename StrsAre vs _ => hvs1
      rw [← List.append_assoc]
      exact (StrsAre.cons _ _ hvs1).append' (.cons _ _ .nil)
  · refine an3 hh fun hne hlen hh2 => ?_
    refine ex1a2 hh2 fun lr hrest hcl2 => ?_
    clear hh hh2 hcl
    have hb : (cur != z) = true := bne_iff_ne.mpr hne
    k_steps
    unfold Halt
    refine dirname_spec hlen (by walk_at "S") (show dp + 1 + 1 < recursionLimit from ltcB (by assumption) rfl) fun y' h2 tk2 t2 hy' hk2 => ?_
    walk_at "KEPT"
    k_steps
    (first | ((with_reducible rename Held _ => hKQ); refine Held.out hKQ _ _ ?_; clear hKQ; (try dsimp only)) | ((with_reducible rename (∀ f s, KswPost _ _ _ _ _ _ _ _ _ _ _ _ f s → _) => hKQ); refine hKQ _ _ ?_; clear hKQ))
    k_steps
    unfold Halt
    (rename News _ _ _ _ => N9)
    simp only [List.push_toArray] at N9
    refine ksw_end (_, _, .str z t0 :: vs ++ [.str cur tc], _, ver + 1, done ++ [cur]) (by assumption) N9 (fun p hp => hp) trivial (by kst_all) (by (intro z h2 h3; (simp only [List.forall_mem_cons, List.not_mem_nil, false_implies, implies_true, and_true, ne_eq] at h2); (simp only [List.contains_cons, List.contains_nil, Bool.or_false, Bool.or_eq_false_iff, beq_eq_false_iff_ne, ne_eq] at h3); (simp [kstB, h2, h3]; done))) ⟨by rw [hy']; exact hcl2, ?_, by rw [hrest] at hdr; simpa using hdr⟩ (by dsimp only; rw [hrest]; simp)
    rename StrsAre vs _ => hvs1
    exact (StrsAre.cons _ _ hvs1).append' (.cons _ _ .nil)
end
end D10Part
section B4Part
set_option linter.unusedVariables false
/-- what holds between a for's turns -/
noncomputable def FJ {σ : Type} (Led : σ → List (Addr × Obj)) (ps : σ → List (Str × Value)) (stored : List Str) (x : Str) (m₀ : Str → Option Value) (P : Nat → σ → Prop) (i : Nat) (m : Str → Option Value) (news : List (Addr × Obj)) : Prop :=
  ∃ c : σ, news = Led c ∧ (∀ p ∈ ps c, m p.1 = some p.2) ∧ (∀ z, z ≠ x → (∀ p ∈ ps c, z ≠ p.1) → stored.contains z = false → m z = m₀ z) ∧ P i c
section
variable {prog : Program} {w : World} {A : Around} {E : Value → Shared → Prop} {s : Shared} {env : Env} {h₀ : Heap} {x : Str} {body : List Stmt} {Q : Flow → Shared → Prop}
/-- a for over anything that walks -/
theorem for_walk {σ : Type} {I : Addr} {fp wr : List Addr} {n : Nat} {P₀ : Nat → Value → Prop} {Stt : Nat → Heap → Prop} {m₀ : Str → Option Value}
    (Led : σ → List (Addr × Obj)) (ps : σ → List (Str × Value)) (stored : List Str) (P : Nat → σ → Prop) (c₀ : σ)
    (W : Walks prog w A I fp wr n P₀ Stt) (hL : env.locals ∉ fp) (hwr : ∀ b ∈ wr, h₀.get? b = none) (hst : Stt 0 s.heap) (F : Fr h₀ env.locals s.heap m₀) (N : News h₀ env.locals s.heap (Led c₀))
    (hap : ∀ i c, P i c → ∀ p ∈ Led c, p.1 ∉ wr) (hk : ∀ p ∈ ps c₀, m₀ p.1 = some p.2) (hp : P 0 c₀)
    (turn : ∀ i c v (u : Str → Option Value) h tk own, i < n → P₀ i v → P i c → (∀ p ∈ own, p.1 ∈ fp) → (∀ p ∈ own, h.get? p.1 = some p.2) →
      Fr h₀ env.locals h (fun y => if y = x then some v else kstB (fun z => if stored.contains z then u z else m₀ z) (ps c) y) → News h₀ env.locals h (own ++ Led c) →
      wpAny (model prog w) A (execs body env) (LoopStepV h₀ env.locals wr own (FJ Led ps stored x m₀ P (i + 1)) { s with heap := h, toks := tk } (fun v s' => Q (.ret v) s') fun s' => Q .next s') E { s with heap := h, toks := tk })
    (fin : ∀ c (u : Str → Option Value) h tk, P n c → Fr h₀ env.locals h (fun y => if y = x then u y else kstB (fun z => if stored.contains z then u z else m₀ z) (ps c) y) → News h₀ env.locals h (Led c) → Q .next { s with heap := h, toks := tk }) :
    LoopAtV prog w A h₀ env x body Q E (.ref I) s := by
  refine ⟨I, fp, wr, n, P₀, Stt, m₀, Led c₀, FJ Led ps stored x m₀ P, rfl, W, hL, hwr, hap 0 c₀ hp, hst, F, N, ⟨c₀, rfl, hk, fun _ _ _ _ => rfl, hp⟩, ?_, ?_⟩
  · rintro i v m₁ news₁ s₁ own ⟨h, tk, rfl⟩ hi hv ⟨c, rfl, h1, h2, hpc⟩ _ hown hown' _ _ F₁ N₁
    exact turn i c v m₁ h tk own hi hv hpc hown hown' (kst_fr h1 h2 F₁) N₁
  · rintro h' tk m' news' F' N' _ ⟨c, rfl, h1, h2, hpc⟩
    exact fin c m' h' tk hpc (kst_frOut h1 h2 F') N'
/-- the end of a turn -/
theorem for_end {σ : Type} {Led : σ → List (Addr × Obj)} {ps : σ → List (Str × Value)} {stored : List Str} {m₀ m' : Str → Option Value} {P : Nat → σ → Prop} {i : Nat} {L : Addr} {wr : List Addr} {own : List (Addr × Obj)} {h' : Heap} {tk : Nat}
    (c' : σ) (F : Fr h₀ L h' m') (N : News h₀ L h' (own ++ Led c')) (hap : ∀ p ∈ Led c', p.1 ∉ wr) (hk : ∀ p ∈ ps c', m' p.1 = some p.2) (hr : ∀ z, z ≠ x → (∀ p ∈ ps c', z ≠ p.1) → stored.contains z = false → m' z = m₀ z) (hp : P i c') :
    LoopStepU h₀ L wr own (FJ Led ps stored x m₀ P i) s .next { s with heap := h', toks := tk } :=
  .intro F N hap ⟨c', rfl, hk, hr, hp⟩
end
section
variable {prog : Program} {w : World} {A : Around} {E : Value → Shared → Prop} {s : Shared}
open PySem.F
theorem slot_range_reversed : Slot "range" "__reversed__" "range.__reversed__" :=
  .of (owner := "range") (n := "__reversed__") (by rw [typeLookup_type, builtinLookup_eq_fast]; kernel_rfl) (by decide +kernel) (by decide +kernel) (by decide +kernel)
    (by first | exact .inl (by decide +kernel) | exact .inr (by decide +kernel)) (by rw [isSubtype_type]; kernel_rfl)
theorem entry_range_reversed : entryFor table "range.__reversed__" = some Builtin.«range.__reversed__» := entryFor_of_tree (by kernel_rfl)
theorem args_range_reversed_1 (a : Value) : argsOk "range.__reversed__" ⟨[a], []⟩ := by unfold argsOk; kernel_rfl
theorem sub_ri_reversed : isSubtype (.type "range_iterator") (.type "reversed") = pure false := by rw [isSubtype_type]; kernel_rfl
noncomputable def ri3 : Obj := { cls := .type "range_iterator", data := .fields #[rawInt 2, rawInt 3, rawInt (-1)] }
theorem call_range_reversed {r : Addr} {t u v : Tok} {Q : Value → Shared → Prop} (hr : IsRange s.heap r 0 3 1 t u v)
    (h : Q (.ref s.heap.objs.size) { s with heap := s.heap.push ri3 }) : wpAny (model prog w) A (call (.builtin "range.__reversed__") [.ref r]) Q E s := by
  refine wpAny_call_entry slot_range_reversed ⟨_, hr, rfl⟩ entry_range_reversed ?_ (args_range_reversed_1 _)
  unfold Builtin.«range.__reversed__»
  obtain ⟨hp, g, d, tk, os⟩ := s
  have hr' : hp.get? r = some { cls := .type "range", data := .fields #[.int 0 t, .int 3 u, .int 1 v] } := hr
  repeat (any_goals (first | assumption | wp_step))
  have e : ∀ o, o = ri3 → Q (.ref hp.objs.size) ⟨hp.push o, g, d, tk, os⟩ := fun o e => by rw [e]; exact h
  exact ⟨_, rfl, e _ (by kernel_rfl)⟩
theorem code_reversed_range {r : Addr} {t u v : Tok} {Q₁ : Value → Shared → Prop} (hr : IsRange s.heap r 0 3 1 t u v)
    (h : Q₁ (.ref s.heap.objs.size) { s with heap := s.heap.push ri3 }) :
    codeAny (model prog w) A (.call (.builtin "reversed.__new__") ⟨[.type "reversed", .ref r], []⟩) (wants Q₁ E) s := by
  have hT : s.TypeIs (.ref r) "range" := ⟨_, hr, rfl⟩
  refine codeAny_of_tree ?_
  show wpAny _ A.in1 (do checkBuiltinCall "reversed.__new__" ⟨[.type "reversed", .ref r], []⟩; again (.builtin "reversed.__new__" ⟨[.type "reversed", .ref r], []⟩)) _ _ s
  refine wpAny_bind (wpAny_of_eq (PySem.F.newCall_reversed_1 _) (wpAny_pure ⟨plainId_quiet PySem.F.plain_reversed_new _, codeAny_builtin PySem.F.entry_reversed_new ?_⟩))
  rw [Around.under_plainId PySem.F.plain_reversed_new _]
  unfold Builtin.«reversed.__new__»
  refine wpAny_bind (wpAny_of_eq (newClass_reversed _) ?_)
  try dsimp only
  refine wpAny_bind (wpAny_of_eq (a := ()) (by first | rfl | kernel_rfl) ?_)
  refine wpAny_bind (wpAny_of_eq (a := ()) (by first | rfl | kernel_rfl) ?_)
  try dsimp only
  refine wpAny_bind (wpAny_specialOf hT slot_range_reversed.lookup ?_)
  try dsimp only
  refine wpAny_bind (wpAny_of_eq (slot_range_reversed.bind _) ?_)
  try dsimp only
  rw [if_neg (show ¬ ((Value.builtin "range.__reversed__" == Value.none) = true) from Bool.false_ne_true)]
  refine wpAny_bind (wpAny_rule ?_)
  refine wpAny_bind (m := runValue (.call (.builtin "range.__reversed__") ⟨[.ref r], []⟩)) (show wpAny _ _ (call (.builtin "range.__reversed__") [.ref r]) _ _ _ from call_range_reversed hr ?_)
  first
  | exact wpAny_pure h
  | exact wpAny_bind (wpAny_pure (wpAny_pure h))
theorem call_reversed_range {r : Addr} {t u v : Tok} {Q : Value → Shared → Prop} (hr : IsRange s.heap r 0 3 1 t u v)
    (h : Q (.ref s.heap.objs.size) { s with heap := s.heap.push ri3 }) : wpAny (model prog w) A (call (.type "reversed") [.ref r]) Q E s := by
  refine callType_other (U := "range_iterator") (Q₁ := fun obj s₁ => obj = .ref s.heap.objs.size ∧ s₁ = { s with heap := s.heap.push ri3 }) (by decide +kernel) PySem.F.create_reversed ⟨_, _, PySem.F.mro_reversed⟩ PySem.F.made_reversed sub_ri_reversed (PySem.F.typeCall_reversed_1 _) (code_reversed_range hr ⟨rfl, rfl⟩) ?_
  rintro obj s₁ ⟨rfl, rfl⟩
  exact ⟨⟨_, Heap.get?_push_size _ rfl, rfl⟩, h⟩
end
end B4Part
section B6Part
set_option linter.unusedVariables false
section
variable {prog : Program} {w : World} {A : Around} {E : Value → Shared → Prop} {s : Shared} {h₀ : Heap} {L : Addr} {m : Str → Option Value} {news news' : List (Addr × Obj)}
theorem ints_get : ∀ {vs : List Value} {ns : List Int} {k : Nat} {x : Int}, IntsAre vs ns → ns[k]? = some x → ∃ t, vs[k]? = some (.int x t)
  | _, _, _, _, .nil, h => by cases h
  | _, _, 0, x, .cons n t r, h => by
    cases h
    exact ⟨t, rfl⟩
  | _, _, k + 1, x, .cons n t r, h => by
    have := ints_get (k := k) r (by simpa using h)
    simpa using this
/-- an item of a list of ints that the base holds -/
theorem at_ints {value slice : Expr} {l : Addr} {vs : List Value} {ns : List Int} {k x : Int} {u : Tok} {Q : Value → Shared → Prop} (hl : h₀.IsList l vs.toArray) (F : Fr h₀ L s.heap m) (hi : IntsAre vs ns)
    (hx : ns[k.toNat]? = some x) (h0 : 0 ≤ k) (hfit : k < 2 ^ 63) (h : ∀ t, Q (.int x t) s)
    (hs : subscripted slice false (.ref l) (.int k u) = operate [.ref l, .int k u] (getItem (.ref l) (.int k u)) := by with_unfolding_all rfl) (hg : ∀ r, letTemporaryGo value (.ref l) r = pure () := by intro _; with_unfolding_all rfl) :
    wpAny (model prog w) A (subscriptTail value slice (.ref l) (.int k u)) Q E s := by
  obtain ⟨o, ho, hc, n, hd⟩ := hl
  obtain ⟨t, ht⟩ := ints_get hi hx
  exact item_listL ⟨o, F.keep _ _ ho, hc, n, hd⟩ h0 hfit ht (h t) hs hg
/-- a place behind the list's end -/
theorem out_ints {value slice : Expr} {l : Addr} {vs : List Value} {ns : List Int} {k : Int} {u : Tok} {Q : Value → Shared → Prop} (hA : A.handled = none) (hl : h₀.IsList l vs.toArray) (F : Fr h₀ L s.heap m) (hi : IntsAre vs ns)
    (hout : (ns.length : Int) ≤ k) (hfit : k < 2 ^ 63) (hE : ∀ h' tk e, Heap.NewExc s.heap h' e "IndexError" → E (.ref e) { s with heap := h', toks := tk })
    (hs : subscripted slice false (.ref l) (.int k u) = operate [.ref l, .int k u] (getItem (.ref l) (.int k u)) := by with_unfolding_all rfl) :
    wpAny (model prog w) A (subscriptTail value slice (.ref l) (.int k u)) Q E s := by
  obtain ⟨o, ho, hc, n, hd⟩ := hl
  have := hi.length
  exact item_outK hA ⟨o, F.keep _ _ ho, hc, n, hd⟩ (.inr (by rw [List.size_toArray]; omega)) (by omega) hfit hE hs
end
end B6Part
section D3Part
local macro_rules | `(tactic| walk_at "none0") => `(tactic| fail)
set_option linter.unusedVariables false
/-- what join gives for a text that is not empty and a second that does not open with a slash -/
noncomputable def joinF (x y : Str) : Str := if Txt.endswith x (Str.ofString "/") = true then x ++ y else x ++ (Str.ofString "/" ++ y)
section
variable {w : World} {mean : ExcName → Option Value} {mg mb : Str → Option Value} {dp un : Nat} {gd : Option (List Code)} {base : Heap} {fr : List Env} {s : Shared} {Q E : Value → Shared → Prop}
local macro_rules | `(tactic| walk_at "call ref") => `(tactic| (
  (with_reducible show wpAny _ _ (call (Value.ref 129) [Value.str _ _]) _ _ _)
  k_dflt (refine' fspath_spec ?S ?d ?_)
  (case S => walk_at "S")
  (case d => omega)
  intro _ _ _
  walk_at "KEPT"))
local macro_rules | `(tactic| walk_at "call ref") => `(tactic| (
  (with_reducible show wpAny _ _ (call (Value.ref 143) [Value.str _ _]) _ _ _)
  k_dflt (refine' get_sep_spec ?S ?d ?_)
  (case S => walk_at "S")
  (case d => omega)
  intro _ _ _ _
  walk_at "KEPT"))
theorem join_spec {x y : Str} {t u : Tok} (hx : x.length ≤ 1000) (hy : y.length ≤ 1000) (hx0 : x.length ≠ 0) (hy0 : Txt.startswith y (Str.ofString "/") = false) (S : St w mean mg mb s.heap) (hd : dp + 1 < recursionLimit)
    (h : ∀ z h' tk' t', z = joinF x y → (∀ b o, s.heap.get? b = some o → h'.get? b = some o) → Q (.str z t') { s with heap := h', toks := tk' }) :
    wpAny (model PySem.Challenge.rw_pd0148_01.row.prog w) (Ar dp un gd fr) (call (.ref 150) [.str x t, .str y u]) Q E s := by
  (have kfX := (‹St _ _ _ _ _›).X; revert kfX; k_fill; intro _)
  refine wpAny_call ?_
  refine' enter_rest (vs := [.str y u]) (bindsD := fun D => [(Str.ofString "a", .str x t), (Str.ofString "p", .ref D)]) ?k1 ?k6 ?k7 ?k8 ?k9 ?kB ?_ ?c2 ?c3 ?c4 ?c5
  (case k1 => assumption)
  (case k6 => k_is)
  (case k7 => k_is)
  (case k8 => omega)
  (case k9 =>
    intro M A E Q hQ
    exact fun _ _ _ => hQ)
  (case kB => exact fun _ => locs rfl)
  (case c2 => exact rfl)
  (case c3 => exact rfl)
  (case c4 => exact rfl)
  (case c5 => decide)
  intro D L' h₁ F N
  ((obtain ⟨g0, _, _, _, _⟩ := s); obtain ⟨X, T⟩ := (‹St _ _ _ _ _›); dsimp only [List.map, hideAll] at *; (try k_fold))
  k_steps
  all_goals dsimp only
  all_goals k_unfold
  all_goals first
    | exact absurd (hy0.symm.trans (by assumption)) Bool.false_ne_true
    | exact absurd (by assumption) (show ¬ (x.length : Int) = 0 by omega)
    | exact h _ _ _ _ (by unfold joinF; rw [if_pos (by assumption)]) (Fr.keep (by assumption))
    | exact h _ _ _ _ (by unfold joinF; rw [if_neg (by rw [Bool.not_eq_true]; assumption)]) (Fr.keep (by assumption))
end
end D3Part
section E7Part
set_option linter.unusedVariables false
section
variable {prog : Program} {w : World} {A : Around} {E : Value → Shared → Prop} {s : Shared} {env : Env} {h₀ : Heap} {x : Str} {body : List Stmt} {Q : Flow → Shared → Prop}
/-- «for x in range(n)» by an invariant; the ledger's addresses stay -/
theorem range_for {σ : Type} {m₀ : Str → Option Value} {r : Addr} {n : Nat} {t u v : Tok} (Led : σ → List (Addr × Obj)) (ps : σ → List (Str × Value)) (stored : List Str) (P : Nat → σ → Prop) (c₀ : σ)
    (hh : A.handled = none) (F : Fr h₀ env.locals s.heap m₀) (N : News h₀ env.locals s.heap (Led c₀)) (hr : IsRange s.heap r 0 (n : Int) 1 t u v) (hsm : Builtin.Range.small 0 (n : Int) 1 = true) (hn : Builtin.Range.rangeSize 0 (n : Int) 1 = ((n : Nat) : Int))
    (had : ∀ c, (Led c).map (·.1) = (Led c₀).map (·.1)) (hk : ∀ p ∈ ps c₀, m₀ p.1 = some p.2) (hp : P 0 c₀)
    (turn : ∀ (I : Addr) (i : Nat) c t (u : Str → Option Value) h tk own, i < n → P i c → (∀ p ∈ own, ∀ q ∈ Led c, p.1 ≠ q.1) → (∀ p ∈ Led c, p.1 ∉ [I]) →
      Fr h₀ env.locals h (fun y => if y = x then some (.int (i : Int) t) else kstB (fun z => if stored.contains z then u z else m₀ z) (ps c) y) → News h₀ env.locals h (own ++ Led c) →
      wpAny (model prog w) A (execs body env) (LoopStepV h₀ env.locals [I] own (FJ Led ps stored x m₀ P (i + 1)) { s with heap := h, toks := tk } (fun v s' => Q (.ret v) s') fun s' => Q .next s') E { s with heap := h, toks := tk })
    (fin : ∀ c (u : Str → Option Value) h tk, P n c → Fr h₀ env.locals h (fun y => if y = x then u y else kstB (fun z => if stored.contains z then u z else m₀ z) (ps c) y) → News h₀ env.locals h (Led c) → Q .next { s with heap := h, toks := tk }) :
    wpAny (model prog w) A (pyIter (.ref r)) (fun it s₂ => LoopAtV prog w A h₀ env x body Q E it s₂) E s := by
  refine wpAny_pyIter_range hr hsm ?_
  have lt : ∀ p ∈ Led c₀, p.1 < s.heap.objs.size := fun p hp => Heap.lt_size (N p hp).1
  have lt' : ∀ c, ∀ p ∈ Led c, p.1 < s.heap.objs.size := fun c p hp => by
    have hm : p.1 ∈ (Led c₀).map (·.1) := had c ▸ List.mem_map_of_mem hp
    obtain ⟨q, hq, e⟩ := List.mem_map.mp hm
    exact e ▸ lt q hq
  have F' := F.keeps (h' := s.heap.push { cls := .type "range_iterator", data := .fields #[rawInt 0, rawInt (Builtin.Range.rangeSize 0 (n : Int) 1), rawInt 1] }) fun _ _ e => Heap.get?_push_of_some _ e
  have N' := N.grown (h' := s.heap.push { cls := .type "range_iterator", data := .fields #[rawInt 0, rawInt (Builtin.Range.rangeSize 0 (n : Int) 1), rawInt 1] }) fun _ _ e => Heap.get?_push_of_some _ e
  refine for_walk (P₀ := fun i v => ∃ t, v = .int (i : Int) t) (I := s.heap.objs.size) (fp := [s.heap.objs.size]) (wr := [s.heap.objs.size]) (n := n) (Stt := fun i h => IsRangeIter h s.heap.objs.size (0 + (i : Nat) * 1) ((n : Int) - (i : Nat)) 1) Led ps stored P c₀ ?_ ?_ ?_ (by show IsRangeIter _ _ _ _ _; rw [hn]; simpa using Heap.get?_push_size _ rfl) F' N' ?_ hk hp ?_ ?_
  · have W := LCg.range_walks (prog := prog) (w := w) (I := s.heap.objs.size) hh 0 n
    simpa only [Int.zero_add] using W
  · exact fun hm => Nat.ne_of_lt F.ns.lt (List.mem_singleton.mp hm)
  · exact fun b hb => by rw [List.mem_singleton.mp hb]; exact next_is_new F
  · exact fun i c _ p hp hm => Nat.ne_of_lt (lt' c p hp) (List.mem_singleton.mp hm)
  · rintro i c v u' h tk own hi ⟨t', rfl⟩ hpc hown hown' F₁ N₁
    exact turn _ i c t' u' h tk own hi hpc (fun p hp q hq e => Nat.ne_of_lt (lt' c q hq) (e.symm.trans (List.mem_singleton.mp (hown p hp)))) (fun p hp hm => Nat.ne_of_lt (lt' c p hp) (List.mem_singleton.mp hm)) F₁ N₁
  · exact fin
theorem for_next {σ : Type} {Led : σ → List (Addr × Obj)} {ps : σ → List (Str × Value)} {stored : List Str} {m₀ m' : Str → Option Value} {P : Nat → σ → Prop} {i : Nat} {L : Addr} {I : List Addr} {own : List (Addr × Obj)} {h' : Heap} {tk : Nat}
    (c' : σ) (F : Fr h₀ L h' m') (N : News h₀ L h' (own ++ Led c')) (hap : ∀ p ∈ Led c', p.1 ∉ I) (hk : ∀ p ∈ ps c', m' p.1 = some p.2) (hr : ∀ z, z ≠ x → (∀ p ∈ ps c', z ≠ p.1) → stored.contains z = false → m' z = m₀ z) (hp : P i c') :
    LoopStepU h₀ L I own (FJ Led ps stored x m₀ P i) s .next { s with heap := h', toks := tk } :=
  .intro F N hap ⟨c', rfl, hk, hr, hp⟩
theorem pick_from (vs : List Value) (i : Nat) : slicePick vs.toArray (some (i : Int)) none none = (vs.drop i).toArray := by
  rw [kms_pick_eq]
  show ((vs.drop (if (i : Int) < 0 then vs.length - (-(i : Int)).toNat else min (i : Int).toNat vs.length)).take (vs.length - (if (i : Int) < 0 then vs.length - (-(i : Int)).toNat else min (i : Int).toNat vs.length))).toArray = _
  rw [if_neg (Int.not_lt.mpr (Int.natCast_nonneg i)), List.take_of_length_le (by rw [List.length_drop]; exact Nat.le_refl _), kmk_drop_min]
  rfl
/-- l[i:] of a list of the ledger -/
theorem from_led {value slice : PySem.Expr} {l : Addr} {vs : List Value} {n i : Nat} {t : Tok} {L : Addr} {m : Str → Option Value} {news : List (Addr × Obj)} {Q : Value → Shared → Prop} (F : Fr h₀ L s.heap m) (N : News h₀ L s.heap news) (hm : (l, listOf vs.toArray n) ∈ news) (hz : vs.length ≤ 1000)
    (h : ∀ D h', Fr h₀ L h' m → News h₀ L h' ((D, listOf (vs.drop i).toArray 0) :: news) → (∀ p ∈ news, p.1 < D) → Q (.ref D) { s with heap := h' })
    (hs : subscripted slice false (.ref l) (.ref s.heap.objs.size) = operate [.ref s.heap.objs.size, .ref l] (getItem (.ref l) (.ref s.heap.objs.size)) := by with_unfolding_all rfl) (ht : ∀ r, letTemporaryGo value (.ref l) r = pure () := by intro _; with_unfolding_all rfl) :
    wpAny (model prog w) A (subscriptTail value slice (.ref l) (.ref s.heap.objs.size)) Q E { s with heap := s.heap.push { cls := .type "slice", data := .fields #[.int (i : Int) t, .none, .none] } } := by
  refine kmk_slice F N ⟨_, (N _ hm).1, rfl, n, rfl⟩ (.int (i : Int) t) .none (fun D h' F' N' l1 => h D h' F' ?_ l1) hs ht (by rw [List.size_toArray, sizeLine_eq]; omega)
  rw [pick_from] at N'
  exact N'
/-- the sum of two lists of the ledger -/
theorem add_led {l b : Addr} {vs ws : List Value} {n n2 : Nat} {L : Addr} {m : Str → Option Value} {news : List (Addr × Obj)} {Q : Value → Shared → Prop} (F : Fr h₀ L s.heap m) (N : News h₀ L s.heap news) (hl : (l, listOf vs.toArray n) ∈ news) (hb : (b, listOf ws.toArray n2) ∈ news) (hz : vs.length + ws.length ≤ 1000)
    (h : ∀ D h', Fr h₀ L h' m → News h₀ L h' ((D, listOf (vs ++ ws).toArray 0) :: news) → (∀ p ∈ news, p.1 < D) → Q (.ref D) { s with heap := h' }) :
    wpAny (model prog w) A (binaryOp .Add (.ref l) (.ref b)) Q E s :=
  add_lists (hsz := by rw [sizeLine_eq]; omega) F N ⟨_, (N _ hl).1, rfl, n, rfl⟩ ⟨_, (N _ hb).1, rfl, n2, rfl⟩ fun h' F' N' => h _ h' F' N' fun p hp => Heap.lt_size (N p hp).1
theorem News.addOf {h h' : Heap} {L D : Addr} {o : Obj} {m : Str → Option Value} {news : List (Addr × Obj)} (F : Fr h₀ L h m) (N : News h₀ L h news) (k : ∀ b o, h.get? b = some o → h'.get? b = some o) (hf : h.get? D = none) (hD : h'.get? D = some o) : News h₀ L h' ((D, o) :: news) := by
  intro p hp
  rcases List.mem_cons.mp hp with rfl | hp
  · refine ⟨hD, fun e => ?_, ?_⟩
    · obtain ⟨oL, _, _, hL, _⟩ := F.ns
      have e' : D = L := e
      rw [e', hL] at hf
      cases hf
    · cases q : h₀.get? D with
      | none => rfl
      | some o' => rw [F.keep _ _ q] at hf; cases hf
  · exact N.grown k p hp
theorem News.neOf {h : Heap} {L D : Addr} {news : List (Addr × Obj)} (N : News h₀ L h news) (hf : h.get? D = none) : ∀ p ∈ news, @Ne Nat p.1 D := fun p hp e => by
  have := (N p hp).1
  rw [show p.1 = D from e, hf] at this
  cases this
/-- append to a list of the ledger, behind the loop's own objects -/
theorem append_own {L D : Addr} {m : Str → Option Value} {own rest : List (Addr × Obj)} {vs : List Value} {n : Nat} {y : Value} {Q : Value → Shared → Prop} (F : Fr h₀ L s.heap m) (N : News h₀ L s.heap (own ++ (D, listOf vs.toArray n) :: rest)) (hown : ∀ p ∈ own, p.1 ≠ D) (hrest : ∀ p ∈ rest, p.1 ≠ D) (hz : vs.length ≤ 1000)
    (h : ∀ h', Fr h₀ L h' m → News h₀ L h' (own ++ (D, listOf (vs ++ [y]).toArray (n + 1)) :: rest) → Q .none { s with heap := h' }) : wpAny (model prog w) A (call (.builtin "list.append") [.ref D, y]) Q E s := by
  have hm := N _ (List.mem_append_right _ (.head _))
  refine append_at hm.1 (fun h' hs hD => ?_) (by rw [List.size_toArray, sizeLine_eq]; omega)
  refine h h' (F.change hs hm.2.1 hm.2.2) (News.setIn N hown hrest hs ?_)
  rw [hD]
  simp [W.listOf]
end
end E7Part
section D11Part
set_option linter.unusedVariables false
/-- the names -/
noncomputable def letters : List Str := [Str.ofString "f", Str.ofString "b", Str.ofString "d", Str.ofString "a", Str.ofString "c", Str.ofString "e"]
noncomputable def nm (k : Nat) : Str := letters.getD (k % 6) default
/-- what _law_joined has made after k turns -/
noncomputable def joinedF (us : List Nat) (turn : Nat) : Nat → List Str
  | 0 => [Str.ofString "/"]
  | k + 1 => joinedF us turn k ++ [joinF ((joinedF us turn k).getD (us.getD k 0) default) (nm (k + turn))]
theorem nm_item (i turn : Nat) : Txt.item (Str.ofString "fbdace") (((i : Int) + (turn : Int)).fmod 6) = nm (i + turn) := by
  have e : ((i : Int) + (turn : Int)).fmod 6 = (((i + turn) % 6 : Nat) : Int) := by
    rw [Int.fmod_eq_emod_of_nonneg _ (by decide)]
    omega
  rw [e]
  unfold nm
  have h6 : (i + turn) % 6 < 6 := Nat.mod_lt _ (by decide)
  generalize (i + turn) % 6 = k at h6 ⊢
  revert k
  decide +kernel
theorem nm_all {P : Str → Prop} (h : ∀ x ∈ letters, P x) (k : Nat) : P (nm k) := by
  unfold nm
  have h6 : k % 6 < 6 := Nat.mod_lt _ (by decide)
  have e : letters.getD (k % 6) default = letters[k % 6] := by
    rw [List.getD_eq_getElem?_getD, List.getElem?_eq_getElem (show k % 6 < letters.length from h6)]
    rfl
  rw [e]
  exact h _ (List.getElem_mem _)
theorem nm_len (k : Nat) : (nm k).length = 1 := nm_all (P := fun x => x.length = 1) (by decide +kernel) k
theorem nm_slash (k : Nat) : Txt.startswith (nm k) (Str.ofString "/") = false := nm_all (P := fun x => Txt.startswith x (Str.ofString "/") = false) (by decide +kernel) k
theorem str_len_append (x y : Str) : (x ++ y).length = x.length + y.length := Array.size_append ..
theorem joinF_len (x y : Str) : (joinF x y).length = x.length + y.length ∨ (joinF x y).length = x.length + y.length + 1 := by
  unfold joinF
  split
  · exact .inl (str_len_append _ _)
  · refine .inr ?_
    rw [str_len_append, str_len_append]
    have : (Str.ofString "/").length = 1 := rfl
    omega
theorem joinedF_len (us : List Nat) (turn : Nat) : ∀ k, (joinedF us turn k).length = k + 1
  | 0 => rfl
  | k + 1 => by rw [joinedF, List.length_append, joinedF_len us turn k]; rfl
theorem joinedF_size {us : List Nat} {turn : Nat} (hus : us.length = 6) (hle : ∀ (k u : Nat), us[k]? = some u → u ≤ k) : ∀ k, k ≤ 6 → ∀ x ∈ joinedF us turn k, 1 ≤ x.length ∧ x.length ≤ 1 + 2 * k
  | 0, _, x, h => by
    rw [joinedF, List.mem_singleton] at h
    subst h
    exact ⟨Nat.le_refl _, Nat.le_refl _⟩
  | k + 1, hk, x, h => by
    rw [joinedF] at h
    rcases List.mem_append.mp h with h | h
    · have := joinedF_size hus hle k (by omega) x h
      omega
    · rw [List.mem_singleton] at h
      have hu := hle k us[k] (List.getElem?_eq_getElem (by omega))
      have e : us.getD k 0 = us[k] := by simp [show k < us.length by omega]
      rw [e] at h
      have hlt : us[k] < (joinedF us turn k).length := by rw [joinedF_len]; omega
      have e2 : (joinedF us turn k).getD us[k] default = (joinedF us turn k)[us[k]] := by
        rw [List.getD_eq_getElem?_getD, List.getElem?_eq_getElem hlt]; rfl
      rw [e2] at h
      have := joinedF_size (turn := turn) hus hle k (by omega) _ (List.getElem_mem hlt)
      have h3 := joinF_len (joinedF us turn k)[us[k]] (nm (k + turn))
      rw [nm_len] at h3
      subst h
      omega
section
variable {w : World} {mean : ExcName → Option Value} {mg mb : Str → Option Value} {dp un : Nat} {gd : Option (List Code)} {base : Heap} {fr : List Env} {s : Shared} {Q E : Value → Shared → Prop}
local macro_rules | `(tactic| walk_at "call ref") => `(tactic| (
  (with_reducible show wpAny _ _ (call (Value.ref 150) _) _ _ _)
  refine Halt.mk ?_))
local macro_rules | `(tactic| walk_at "pyIter ref") => `(tactic| refine Halt.mk ?_)
local macro_rules | `(tactic| walk_at "call builtin:list.append") => `(tactic| refine Halt.mk ?_)
local macro_rules | `(tactic| walk_at "subscriptTail Name Subscript ref int") => `(tactic| refine Halt.mk ?_)
theorem joined_spec {ua : Addr} {uv : List Value} {us : List Nat} {turn : Nat} {t : Tok} (hus : us.length = 6) (hle : ∀ (k u : Nat), us[k]? = some u → u ≤ k) (hturn : turn < 6)
    (hua : s.heap.IsList ua uv.toArray) (hui : IntsAre uv (us.map fun (n : Nat) => (n : Int)))
    (S : St w mean mg mb s.heap) (hd : dp + 4 < recursionLimit) (hu : un + 40 < cLine)
    (h : ∀ D vs n h' tk', (∀ b o, s.heap.get? b = some o → h'.get? b = some o) → s.heap.get? D = none → h'.get? D = some (listOf (List.toArray vs) n) → StrsAre vs (joinedF us turn 6) → Q (.ref D) { s with heap := h', toks := tk' }) :
    wpAny (model PySem.Challenge.rw_pd0148_01.row.prog w) (Ar dp un gd fr) (call (.ref 169) [.ref ua, .int turn t]) Q E s := by
  ((have kfX := (‹St _ _ _ _ _›).X; revert kfX; k_fill; intro _); refine wpAny_call ?_; refine' enter (muts := []) ?k1 ?k6 ?k7 ?k8 ?k9 ?kB ?kM ?_ ?c2 ?c3 ?c4 ?c5; ((case k1 => assumption); (case k6 => k_is); (case k7 => k_is); (case k8 => first | exact ltc0 (by assumption) | omega); (case k9 => exact BindsTo.of_eq rfl); (case kB => exact locs rfl)); (case kM => exact fun _ h => nomatch h); ((case c2 => exact rfl); (case c3 => exact rfl); (case c4 => exact rfl); (case c5 => decide); (try dsimp only)))
  intro L' h₁ F N
  ((obtain ⟨g0, _, _, _, _⟩ := s); obtain ⟨X, T⟩ := (‹St _ _ _ _ _›); dsimp only [List.map, hideAll] at *; (try k_fold))
  k_steps
  unfold Halt
  (rename Fr _ _ _ _ => F2)
  (rename News _ _ _ _ => N2)
  (rename IsRange _ _ _ _ _ _ _ _ => R2)
  rename_i ln _ _ _ _ _ _ _ _ _ _ _
  refine range_for (σ := List Value × Nat) (fun c => [(ln, listOf c.1.toArray c.2)]) (fun _ => []) [] (fun i c => StrsAre c.1 (joinedF us turn i)) ([.str (Str.ofString "/") _], 0) rfl F2 N2 R2 rfl rfl (fun _ => rfl) (by simp) (.cons _ _ .nil) ?_ ?_
  · rintro I i ⟨vs, ver⟩ tp u₁ h₃ tk₃ own hi hvs hown hI F3 N3
    dsimp only at *
    change Fr g0 L' _ _ at F3
    change News g0 L' _ _ at N3
    k_fold
    have hvl := hvs.len_eq
    rw [joinedF_len] at hvl
    obtain ⟨u0, hu0⟩ : ∃ u0, us[i]? = some u0 := ⟨_, List.getElem?_eq_getElem (by omega)⟩
    have hu0i := hle i u0 hu0
    have hu1 : (us.map fun (n : Nat) => (n : Int)).getD ((i : Nat) : Int).toNat 0 = (u0 : Int) := by simp [List.getD, hu0]
    obtain ⟨x, hx⟩ : ∃ x, (joinedF us turn i)[u0]? = some x := ⟨_, List.getElem?_eq_getElem (by rw [joinedF_len]; omega)⟩
    k_steps
    unfold Halt
    rw [hu1]
    refine get_strs N3 (List.mem_append_right _ (.head _)) hvs (by omega) (by omega) (x := x) (by simpa using hx) fun t3 => ?_
    k_steps
    unfold Halt
    rw [nm_item]
    have hsz := joinedF_size (turn := turn) hus hle i (by omega) x (List.mem_of_getElem? hx)
    refine join_spec (by omega) (by rw [nm_len]; decide) (by omega) (nm_slash _) (by walk_at "S") (show dp + 1 + 1 < recursionLimit from ltcB (by assumption) rfl) fun z h2 tk2 t2 hz hk2 => ?_
    have F4 := F3.keeps hk2
    have N4 := N3.grown hk2
    clear F3 N3
    k_steps
    unfold Halt
    refine append_own F4 N4 (fun p hp => hown p hp _ (.head _)) (fun p hp => by cases hp) (by omega) fun h5 F5 N5 => ?_
    clear F4 N4
    k_steps
    unfold Halt
    refine for_next (vs ++ [Value.str z t2], ver + 1) F5 N5 (fun p hp => by cases List.mem_singleton.mp hp; exact hI (ln, listOf vs.toArray ver) (.head _)) (by simp) (by (intro z h1 h2 h3; (simp only [List.forall_mem_cons, List.not_mem_nil, false_implies, implies_true, and_true, ne_eq] at h2); (simp only [List.contains_cons, List.contains_nil, Bool.or_false, Bool.or_eq_false_iff, beq_eq_false_iff_ne, ne_eq] at h3); (simp [kstB, h1, h2, h3]; done))) ?_
    dsimp only
    rw [joinedF]
    have e1 : us.getD i 0 = u0 := by simp [List.getD, hu0]
    have e2 : (joinedF us turn i).getD u0 default = x := by simp [List.getD, hx]
    rw [e1, e2, ← hz]
    exact hvs.append' (.cons _ _ .nil)
  · rintro ⟨vs, ver⟩ u₁ h₃ tk₃ hvs F3 N3
    dsimp only at *
    change Fr g0 L' _ _ at F3
    change News g0 L' _ _ at N3
    k_steps
    dsimp only
    k_unfold
    have hm9 := N3 _ (.head _)
    exact h _ _ _ _ _ F3.keep hm9.2.2 hm9.1 hvs
end
end D11Part
section D12Part
set_option linter.unusedVariables false
/-- what _law_spelled's texts are after k turns -/
noncomputable def textsF (us : List Nat) (turn : Nat) : Nat → List Str
  | 0 => [Str.ofString ""]
  | k + 1 => textsF us turn k ++ [(textsF us turn k).getD (us.getD k 0) default ++ Str.ofString "/" ++ nm (k + turn)]
theorem textsF_len (us : List Nat) (turn : Nat) : ∀ k, (textsF us turn k).length = k + 1
  | 0 => rfl
  | k + 1 => by rw [textsF, List.length_append, textsF_len us turn k]; rfl
theorem textsF_size {us : List Nat} {turn : Nat} (hus : us.length = 6) (hle : ∀ (k u : Nat), us[k]? = some u → u ≤ k) : ∀ k, k ≤ 6 → ∀ x ∈ textsF us turn k, x.length ≤ 2 * k
  | 0, _, x, h => by
    rw [textsF, List.mem_singleton] at h
    subst h
    exact Nat.le_refl _
  | k + 1, hk, x, h => by
    rw [textsF] at h
    rcases List.mem_append.mp h with h | h
    · have := textsF_size hus hle k (by omega) x h
      omega
    · rw [List.mem_singleton] at h
      have hu := hle k us[k] (List.getElem?_eq_getElem (by omega))
      have e : us.getD k 0 = us[k] := by simp [show k < us.length by omega]
      rw [e] at h
      have hlt : us[k] < (textsF us turn k).length := by rw [textsF_len]; omega
      have e2 : (textsF us turn k).getD us[k] default = (textsF us turn k)[us[k]] := by
        rw [List.getD_eq_getElem?_getD, List.getElem?_eq_getElem hlt]; rfl
      rw [e2] at h
      have := textsF_size (turn := turn) hus hle k (by omega) _ (List.getElem_mem hlt)
      subst h
      rw [str_len_append, str_len_append, nm_len]
      have : (Str.ofString "/").length = 1 := rfl
      omega
section
variable {w : World} {mean : ExcName → Option Value} {mg mb : Str → Option Value} {dp un : Nat} {gd : Option (List Code)} {base : Heap} {fr : List Env} {s : Shared} {Q E : Value → Shared → Prop}
local macro_rules | `(tactic| walk_at "pyIter ref") => `(tactic| refine Halt.mk ?_)
local macro_rules | `(tactic| walk_at "call builtin:list.append") => `(tactic| refine Halt.mk ?_)
local macro_rules | `(tactic| walk_at "subscriptTail Name Subscript ref int") => `(tactic| refine Halt.mk ?_)
local macro_rules | `(tactic| walk_at "subscriptTail Name Slice ref ref") => `(tactic| refine Halt.mk ?_)
local macro_rules | `(tactic| walk_at "binaryOp Add ref ref") => `(tactic| refine Halt.mk ?_)
theorem spelled_spec {ua : Addr} {uv : List Value} {us : List Nat} {turn : Nat} {t : Tok} (hus : us.length = 6) (hle : ∀ (k u : Nat), us[k]? = some u → u ≤ k) (hturn : turn < 6)
    (hua : s.heap.IsList ua uv.toArray) (hui : IntsAre uv (us.map fun (n : Nat) => (n : Int)))
    (S : St w mean mg mb s.heap) (hd : dp + 4 < recursionLimit) (hu : un + 40 < cLine)
    (h : ∀ D vs n h' tk', (∀ b o, s.heap.get? b = some o → h'.get? b = some o) → s.heap.get? D = none → h'.get? D = some (listOf (List.toArray vs) n) → StrsAre vs (Str.ofString "/" :: (textsF us turn 6).drop 1) → Q (.ref D) { s with heap := h', toks := tk' }) :
    wpAny (model PySem.Challenge.rw_pd0148_01.row.prog w) (Ar dp un gd fr) (call (.ref 176) [.ref ua, .int turn t]) Q E s := by
  ((have kfX := (‹St _ _ _ _ _›).X; revert kfX; k_fill; intro _); refine wpAny_call ?_; refine' enter (muts := []) ?k1 ?k6 ?k7 ?k8 ?k9 ?kB ?kM ?_ ?c2 ?c3 ?c4 ?c5; ((case k1 => assumption); (case k6 => k_is); (case k7 => k_is); (case k8 => first | exact ltc0 (by assumption) | omega); (case k9 => exact BindsTo.of_eq rfl); (case kB => exact locs rfl)); (case kM => exact fun _ h => nomatch h); ((case c2 => exact rfl); (case c3 => exact rfl); (case c4 => exact rfl); (case c5 => decide); (try dsimp only)))
  intro L' h₁ F N
  ((obtain ⟨g0, _, _, _, _⟩ := s); obtain ⟨X, T⟩ := (‹St _ _ _ _ _›); dsimp only [List.map, hideAll] at *; (try k_fold))
  k_steps
  unfold Halt
  (rename Fr _ _ _ _ => F2)
  (rename News _ _ _ _ => N2)
  (rename IsRange _ _ _ _ _ _ _ _ => R2)
  rename_i ln _ _ _ _ _ _ _ _ _ _ _
  refine range_for (σ := List Value × Nat) (fun c => [(ln, listOf c.1.toArray c.2)]) (fun _ => []) [] (fun i c => StrsAre c.1 (textsF us turn i)) ([.str (Str.ofString "") _], 0) rfl F2 N2 R2 rfl rfl (fun _ => rfl) (by simp) (.cons _ _ .nil) ?_ ?_
  · rintro I i ⟨vs, ver⟩ tp u₁ h₃ tk₃ own hi hvs hown hI F3 N3
    dsimp only at *
    change Fr g0 L' _ _ at F3
    change News g0 L' _ _ at N3
    k_fold
    have hvl := hvs.len_eq
    rw [textsF_len] at hvl
    obtain ⟨u0, hu0⟩ : ∃ u0, us[i]? = some u0 := ⟨_, List.getElem?_eq_getElem (by omega)⟩
    have hu0i := hle i u0 hu0
    have hu1 : (us.map fun (n : Nat) => (n : Int)).getD ((i : Nat) : Int).toNat 0 = (u0 : Int) := by simp [List.getD, hu0]
    obtain ⟨x, hx⟩ : ∃ x, (textsF us turn i)[u0]? = some x := ⟨_, List.getElem?_eq_getElem (by rw [textsF_len]; omega)⟩
    k_steps
    unfold Halt
    rw [hu1]
    refine get_strs N3 (List.mem_append_right _ (.head _)) hvs (by omega) (by omega) (x := x) (by simpa using hx) fun t3 => ?_
    have hsz := textsF_size (turn := turn) hus hle i (by omega) x (List.mem_of_getElem? hx)
    k_steps
    unfold Halt
    rename_i t2 _ _
    rw [nm_item]
    refine append_own F3 N3 (fun p hp => hown p hp _ (.head _)) (fun p hp => by cases hp) (by omega) fun h5 F5 N5 => ?_
    clear F3 N3
    k_steps
    unfold Halt
    refine for_next (vs ++ [Value.str (x ++ Str.ofString "/" ++ nm (i + turn)) t2], ver + 1) F5 N5 (fun p hp => by cases List.mem_singleton.mp hp; exact hI (ln, listOf vs.toArray ver) (.head _)) (by simp) (by (intro z h1 h2 h3; (simp only [List.forall_mem_cons, List.not_mem_nil, false_implies, implies_true, and_true, ne_eq] at h2); (simp only [List.contains_cons, List.contains_nil, Bool.or_false, Bool.or_eq_false_iff, beq_eq_false_iff_ne, ne_eq] at h3); (simp [kstB, h1, h2, h3]; done))) ?_
    dsimp only
    rw [textsF]
    have e1 : us.getD i 0 = u0 := by simp [List.getD, hu0]
    have e2 : (textsF us turn i).getD u0 default = x := by simp [List.getD, hx]
    rw [e1, e2]
    exact hvs.append' (.cons _ _ .nil)
  · rintro ⟨vs, ver⟩ u₁ h₃ tk₃ hvs F3 N3
    dsimp only at *
    change Fr g0 L' _ _ at F3
    change News g0 L' _ _ at N3
    have hvl := hvs.len_eq
    rw [textsF_len] at hvl
    k_steps
    unfold Halt
    (rename Fr _ _ _ _ => F4)
    (rename News _ _ _ _ => N4)
    refine from_led (i := 1) F4 N4 (.tail _ (.head _)) (by omega) fun D5 h5 F5 N5 l5 => ?_
    clear F4 N4
    k_lt l5
    k_steps
    unfold Halt
    refine add_led F5 N5 (.tail _ (.head _)) (.head _) (by rw [List.length_drop]; simp only [List.length_cons, List.length_nil]; omega) fun D6 h6 F6 N6 l6 => ?_
    clear F5 N5
    (try k_steps)
    (try dsimp only)
    (try k_unfold)
    have hm9 := N6 _ (.head _)
    exact h _ _ _ _ _ F6.keep hm9.2.2 hm9.1 (.cons _ _ (hvs.drop' 1))
end
end D12Part
section D13Part
set_option linter.unusedVariables false
/-- the folders above, from v on to the top -/
inductive Above (us : List Nat) : Nat → List Nat → Prop
  | zero : Above us 0 [0]
  | up {v u : Nat} {l : List Nat} : us[v]? = some u → u ≤ v → Above us u l → Above us (v + 1) ((v + 1) :: l)
noncomputable def zs (l : List Nat) : List Int := l.map fun (n : Nat) => (n : Int)
section
variable {w : World} {mean : ExcName → Option Value} {mg mb : Str → Option Value} {dp un : Nat} {gd : Option (List Code)} {base : Heap} {fr : List Env} {s : Shared} {Q E : Value → Shared → Prop}
local macro_rules | `(tactic| walk_at "subscriptTail Name BinOp ref int") => `(tactic| refine Halt.mk ?_)
local macro_rules | `(tactic| walk_at "call builtin:list.append") => `(tactic| refine Halt.mk ?_)
theorem zs_get {us : List Nat} {v u : Nat} (h : us[v]? = some u) : (zs us)[v]? = some (u : Int) := by
  unfold zs; rw [List.getElem?_map, h]; rfl
theorem above_spec {ua : Addr} {uv : List Value} {us l : List Nat} {v : Nat} {t : Tok} (hus : us.length = 6) (hv : v ≤ 6) (hl : Above us v l) (hll : l.length ≤ 10)
    (hua : s.heap.IsList ua uv.toArray) (hui : IntsAre uv (zs us))
    (S : St w mean mg mb s.heap) (hd : dp + 4 < recursionLimit) (hu : un + 40 < cLine)
    (h : ∀ D vs n h' tk', (∀ b o, s.heap.get? b = some o → h'.get? b = some o) → s.heap.get? D = none → h'.get? D = some (listOf (List.toArray vs) n) → IntsAre vs (zs l) → Q (.ref D) { s with heap := h', toks := tk' }) :
    wpAny (model PySem.Challenge.rw_pd0148_01.row.prog w) (Ar dp un gd fr) (call (.ref 195) [.int v t, .ref ua]) Q E s := by
  ((have kfX := (‹St _ _ _ _ _›).X; revert kfX; k_fill; intro _); refine wpAny_call ?_; refine' enter (muts := []) ?k1 ?k6 ?k7 ?k8 ?k9 ?kB ?kM ?_ ?c2 ?c3 ?c4 ?c5; ((case k1 => assumption); (case k6 => k_is); (case k7 => k_is); (case k8 => first | exact ltc0 (by assumption) | omega); (case k9 => exact BindsTo.of_eq rfl); (case kB => exact locs rfl)); (case kM => exact fun _ h => nomatch h); ((case c2 => exact rfl); (case c3 => exact rfl); (case c4 => exact rfl); (case c5 => decide); (try dsimp only)))
  intro L' h₁ F N
  ((obtain ⟨g0, _, _, _, _⟩ := s); obtain ⟨X, T⟩ := (‹St _ _ _ _ _›); dsimp only [List.map, hideAll] at *; (try k_fold))
  k_steps
  unfold Halt
  (rename Fr _ _ _ _ => F2)
  (rename News _ _ _ _ => N2)
  rename_i tk1 ln _ _ _
  refine ksw_while (σ := Nat × List Value × Tok × List Nat × List Nat × Nat) (fun c => [(ln, listOf (c.2.1 ++ [Value.int (c.1 : Int) c.2.2.1]).toArray c.2.2.2.2.2)]) (fun _ => []) (fun _ => True)
    [] (fun c => ∃ rest, c.2.2.2.2.1 = c.1 :: rest ∧ Above us c.1 c.2.2.2.2.1 ∧ IntsAre c.2.1 (zs c.2.2.2.1) ∧ c.2.2.2.1 ++ c.2.2.2.2.1 = l) (fun c => c.2.2.2.2.1.length)
    (v, [], t, [], l, 0) F2 N2 trivial (by kst_all) ⟨_, (by cases hl <;> rfl : l = v :: l.tail), hl, .nil, rfl⟩ ?_
  clear F2 N2
  rintro ⟨cur, vs, tc, done, lst, ver⟩ u₁ h₃ tk₃ _ ⟨rest, e1, hab, hvs, hdr⟩ F3 N3
  dsimp only at *
  k_fold
  have hvl := hvs.length
  have hdl : done.length + lst.length ≤ 10 := by rw [← List.length_append, hdr]; exact hll
  have hzl : (zs done).length = done.length := List.length_map ..
  cases hab with
  | zero =>
    (k_steps; all_goals (try ((first | ((with_reducible rename Held _ => hKQ); refine Held.out hKQ _ _ ?_; clear hKQ; (try dsimp only)) | ((with_reducible rename (∀ f s, KswPost _ _ _ _ _ _ _ _ _ _ _ _ f s → _) => hKQ); refine hKQ _ _ ?_; clear hKQ)); k_steps)); all_goals (try ((first | ((with_reducible rename Held _ => hKQ); refine Held.out hKQ _ _ ?_; clear hKQ; (try dsimp only)) | ((with_reducible rename (∀ f s, KswPost _ _ _ _ _ _ _ _ _ _ _ _ f s → _) => hKQ); refine hKQ _ _ ?_; clear hKQ)); k_steps)))
    dsimp only
    k_unfold
    have hm9 := N3 _ (.head _)
    refine h _ _ _ _ _ F3.keep hm9.2.2 hm9.1 ?_
    rw [← hdr, zs, List.map_append]
    exact hvs.append (.cons _ _ .nil)
  | @up v0 u0 l0 hu0 hle hab =>
    have hv0 : v0 < us.length := (List.getElem?_eq_some_iff.mp hu0).1
    (k_steps; all_goals (try ((first | ((with_reducible rename Held _ => hKQ); refine Held.out hKQ _ _ ?_; clear hKQ; (try dsimp only)) | ((with_reducible rename (∀ f s, KswPost _ _ _ _ _ _ _ _ _ _ _ _ f s → _) => hKQ); refine hKQ _ _ ?_; clear hKQ)); k_steps)); all_goals (try ((first | ((with_reducible rename Held _ => hKQ); refine Held.out hKQ _ _ ?_; clear hKQ; (try dsimp only)) | ((with_reducible rename (∀ f s, KswPost _ _ _ _ _ _ _ _ _ _ _ _ f s → _) => hKQ); refine hKQ _ _ ?_; clear hKQ)); k_steps)))
    unfold Halt
    refine at_ints (x := (u0 : Int)) hua F3 hui (by rw [show (((v0 + 1 : Nat) : Int) - 1).toNat = v0 from by omega]; exact zs_get hu0) (by omega) (by omega) fun t3 => ?_
    (k_steps; all_goals (try ((first | ((with_reducible rename Held _ => hKQ); refine Held.out hKQ _ _ ?_; clear hKQ; (try dsimp only)) | ((with_reducible rename (∀ f s, KswPost _ _ _ _ _ _ _ _ _ _ _ _ f s → _) => hKQ); refine hKQ _ _ ?_; clear hKQ)); k_steps)); all_goals (try ((first | ((with_reducible rename Held _ => hKQ); refine Held.out hKQ _ _ ?_; clear hKQ; (try dsimp only)) | ((with_reducible rename (∀ f s, KswPost _ _ _ _ _ _ _ _ _ _ _ _ f s → _) => hKQ); refine hKQ _ _ ?_; clear hKQ)); k_steps)))
    unfold Halt
    refine append_own (own := []) F3 N3 (fun p hp => by cases hp) (fun p hp => by cases hp) (by rw [List.length_append, List.length_singleton]; omega) fun h5 F5 N5 => ?_
    clear F3 N3
    (k_steps; all_goals (try ((first | ((with_reducible rename Held _ => hKQ); refine Held.out hKQ _ _ ?_; clear hKQ; (try dsimp only)) | ((with_reducible rename (∀ f s, KswPost _ _ _ _ _ _ _ _ _ _ _ _ f s → _) => hKQ); refine hKQ _ _ ?_; clear hKQ)); k_steps)); all_goals (try ((first | ((with_reducible rename Held _ => hKQ); refine Held.out hKQ _ _ ?_; clear hKQ; (try dsimp only)) | ((with_reducible rename (∀ f s, KswPost _ _ _ _ _ _ _ _ _ _ _ _ f s → _) => hKQ); refine hKQ _ _ ?_; clear hKQ)); k_steps)))
    unfold Halt
    refine ksw_end (u0, vs ++ [Value.int ((v0 + 1 : Nat) : Int) tc], t3, done ++ [v0 + 1], l0, ver + 1) F5 N5 (fun p hp => hp) trivial (by kst_all) (by (intro z h2 h3; (simp only [List.forall_mem_cons, List.not_mem_nil, false_implies, implies_true, and_true, ne_eq] at h2); (simp only [List.contains_cons, List.contains_nil, Bool.or_false, Bool.or_eq_false_iff, beq_eq_false_iff_ne, ne_eq] at h3); (simp [kstB, h2, h3]; done))) ⟨l0.tail, ?_, hab, ?_, by simpa using hdr⟩ (by simp)
    · cases hab <;> rfl
    · dsimp only
      rw [zs, List.map_append]
      exact hvs.append (.cons _ _ .nil)
end
end D13Part
section D14Part
set_option linter.unusedVariables false
/-- what _law_nodes gives -/
noncomputable def sharedF (la lb : List Nat) : List Nat := la.filter fun x => lb.contains x
noncomputable def nodesF (la lb : List Nat) : List Nat := (sharedF la lb).take 1 ++ (la ++ lb).filter fun x => !(sharedF la lb).contains x
section
variable {w : World} {mean : ExcName → Option Value} {mg mb : Str → Option Value} {dp un : Nat} {gd : Option (List Code)} {base : Heap} {fr : List Env} {s : Shared} {Q E : Value → Shared → Prop}
local macro_rules | `(tactic| walk_at "exec Assign cons ListComp") => `(tactic| (k_here; k_dflt (refine Assign_ListComp_W (F₀ := by k_asm) (by rfl) (by with_unfolding_all rfl) (by with_unfolding_all rfl) (by decide) (by rfl) (by decide) (by rfl) (by rfl) (by rfl) ?_)))
local macro_rules | `(tactic| walk_at "exec Assign cons ListComp") => `(tactic| (k_here; lct_look; k_dflt (refine Assign_ListComp_WT (F₀ := by k_asm) (by rfl) (by with_unfolding_all rfl) (by with_unfolding_all rfl) (by decide) (by rfl) (by decide) (by rfl) (by rfl) (by rfl) ?_)))
local macro_rules | `(tactic| walk_at "eval ListComp") => `(tactic| (k_here; k_dflt (refine ListComp_W (F₀ := by k_asm) (by with_unfolding_all rfl) (by decide) (by rfl) (by decide) (by rfl) ?_)))
local macro_rules | `(tactic| walk_at "eval ListComp") => `(tactic| (k_here; lct_look; k_dflt (refine ListComp_WT (F₀ := by k_asm) (by with_unfolding_all rfl) (by decide) (by rfl) (by decide) (by rfl) ?_)))
local macro_rules | `(tactic| lcg_src) => `(tactic| ((with_reducible show TupAt _ _ _ _); exact Or.inr ⟨_, by k_mem⟩))
local macro_rules | `(tactic| walk_at "CompRest") => `(tactic| refine Halt.mk ?_)
local macro_rules | `(tactic| walk_at "CompRestT") => `(tactic| refine Halt.mk ?_)
local macro_rules | `(tactic| walk_at "CompEnd") => `(tactic| refine Halt.mk ?_)
local macro_rules | `(tactic| walk_at "FinA") => `(tactic| refine Halt.mk ?_)
local macro_rules | `(tactic| walk_at "call ref") => `(tactic| (
  (with_reducible show wpAny _ _ (call (Value.ref 195) _) _ _ _)
  refine Halt.mk ?_))
local macro_rules | `(tactic| walk_at "exec Assign cons ListComp") => `(tactic| refine Halt.mk ?_)
local macro_rules | `(tactic| walk_at "compareOp In int ref") => `(tactic| refine Halt.mk ?_)
local macro_rules | `(tactic| walk_at "compareOp NotIn int ref") => `(tactic| refine Halt.mk ?_)
local macro_rules | `(tactic| walk_at "subscriptTail Name Slice ref ref") => `(tactic| refine Halt.mk ?_)
local macro_rules | `(tactic| walk_at "binaryOp Add ref ref") => `(tactic| refine Halt.mk ?_)
theorem zs_any (l : List Nat) (x : Nat) : (zs l).any (· == (x : Int)) = l.contains x := by
  induction l with
  | nil => rfl
  | cons a l ih =>
    rw [List.contains_cons, ← ih]
    show (((a : Int) == (x : Int)) || (zs l).any (· == (x : Int))) = _
    have e0 : ((a : Int) == (x : Int)) = (x == a) := by
      by_cases e : a = x
      · rw [e, beq_self_eq_true, beq_self_eq_true]
      · rw [beq_eq_false_iff_ne.mpr (fun q => e (Int.ofNat_inj.mp q)), beq_eq_false_iff_ne.mpr (fun q => e q.symm)]
    rw [e0]
theorem zs_item {l : List Nat} {vs : List Value} (h : IntsAre vs (zs l)) {i : Nat} {v : Value} (hv : vs.toArray[i]? = some v) : ∃ x t, v = .int ((x : Nat) : Int) t ∧ l[i]? = some x := by
  obtain ⟨n, t, rfl, hn⟩ := h.at i v (by simpa using hv)
  unfold zs at hn
  rw [List.getElem?_map] at hn
  cases hl : l[i]? with
  | none => rw [hl] at hn; cases hn
  | some x =>
    rw [hl] at hn
    cases hn
    exact ⟨x, t, rfl, rfl⟩
theorem filt_nat {p : Nat → Bool} {l : List Nat} {i x : Nat} (hx : l[i]? = some x) : (l.take (i + 1)).filter p = (l.take i).filter p ++ (if p x = true then [x] else []) := by
  rw [List.take_add_one, hx, List.filter_append]
  cases h : p x <;> simp [h]
theorem zs_append (a b : List Nat) : zs (a ++ b) = zs a ++ zs b := List.map_append
theorem nodes_spec {ua : Addr} {uv : List Value} {us la lb : List Nat} {a b : Nat} {t u : Tok} (hus : us.length = 6) (ha : a ≤ 6) (hb : b ≤ 6) (hla : Above us a la) (hlb : Above us b lb) (hlla : la.length ≤ 10) (hllb : lb.length ≤ 10)
    (hua : s.heap.IsList ua uv.toArray) (hui : IntsAre uv (zs us))
    (S : St w mean mg mb s.heap) (hd : dp + 5 < recursionLimit) (hu : un + 50 < cLine)
    (h : ∀ D vs n h' tk', (∀ b o, s.heap.get? b = some o → h'.get? b = some o) → s.heap.get? D = none → h'.get? D = some (listOf (List.toArray vs) n) → IntsAre vs (zs (nodesF la lb)) → Q (.ref D) { s with heap := h', toks := tk' }) :
    wpAny (model PySem.Challenge.rw_pd0148_01.row.prog w) (Ar dp un gd fr) (call (.ref 200) [.int a t, .int b u, .ref ua]) Q E s := by
  (have kfX := (‹St _ _ _ _ _›).X; revert kfX; k_fill; intro _)
  refine wpAny_call ?_
  refine' enterC (muts := []) ?k1 ?k6 ?k7 ?k8 ?k9 ?kB ?kD ?kM ?_ ?c2 ?c3 ?c4
  (case k1 => assumption)
  (case k6 => k_is)
  (case k7 => k_is)
  (case k8 => omega)
  (case k9 => exact BindsTo.of_eq rfl)
  (case kB => exact rfl)
  (case kD => decide +kernel)
  (case kM => exact fun _ h => nomatch h)
  (case c2 => exact rfl)
  (case c3 => exact rfl)
  (case c4 => exact rfl)
  intro L' h₁ tk cells F N Y _
  k_cells Y
  simp only [List.cons_append, List.nil_append] at N
  dsimp only
  obtain ⟨X, T⟩ := S
  (rename_i dc1 dc2)
  (obtain ⟨g0, _, _, _, _⟩ := s)
  dsimp only [List.map, hideAll] at *
  replace F : Fr g0 L' h₁ (fun y => if y = Str.ofString "ups" then some (.ref ua) else if y = Str.ofString "goal" then some (.int b u) else if y = Str.ofString "start" then some (.int a t) else none) := by with_unfolding_all exact F
  (with_unfolding_all change _ = Data.cell none at dc1)
  (with_unfolding_all change _ = Data.cell none at dc2)
  (try k_fold)
  k_steps
  unfold Halt
  refine above_spec hus ha hla hlla (hua.at fun o e => F.keep _ o e) hui (by walk_at "S") (show dp + 1 + 4 < recursionLimit from ltcB (by assumption) rfl) (show un + 3 + 40 < cLine from ltcB (by assumption) rfl) fun D1 v1 n1 h2 tk2 hk2 hf2 hD2 hi2 => ?_
  have F1 := F.keeps hk2
  have N1 := News.addOf F N hk2 hf2 hD2
  have ne1 := News.neOf N hf2
  simp only [List.forall_mem_cons, List.not_mem_nil, false_implies, implies_true, and_true] at ne1
  have ne1a := ne1.1
  have ne1b := ne1.2
  clear F N hk2 hf2 hD2
  k_steps
  unfold Halt
  refine above_spec hus hb hlb hllb (hua.at fun o e => F1.keep _ o e) hui (by walk_at "S") (show dp + 1 + 4 < recursionLimit from ltcB (by assumption) rfl) (show un + 3 + 40 < cLine from ltcB (by assumption) rfl) fun D2 v2 n2 h3 tk3 hk3 hf3 hD3 hi3 => ?_
  have F2 := F1.keeps hk3
  have N2 := News.addOf F1 N1 hk3 hf3 hD3
  have ne2 := News.neOf N1 hf3
  simp only [List.forall_mem_cons, List.not_mem_nil, false_implies, implies_true, and_true] at ne2
  have ne2b := ne2.2.1
  have ne2c := ne2.2.2
  clear F1 N1 hk3 hf3 hD3
  k_steps
  unfold Halt
  (rename Fr _ _ _ _ => F3)
  (rename News _ _ _ _ => N3)
  refine wpAny_Assign_Name ?_ (by with_unfolding_all rfl)
  k_steps
  refine SrcWT.of (Drawn.led (vs := v1) rfl F3 N3 (by k_mem)) ?hsz fun gc => ?_
  (case hsz => have := hi2.length; have : (zs la).length = la.length := List.length_map ..; rw [List.size_toArray, sizeLine_eq]; omega)
  refine compT_invK (fun i ys => IntsAre ys (zs ((la.take i).filter fun x => lb.contains x))) (fun i ys hi hys v I₂ oI₂ C₂ oC₂ A₂ m₂ g₂ k₂ E₂ hv₂ hC₂ hx₂ F4 N4 off₂ ne₂ => ?_) (fun ys hys => ?_) .nil
  · refine genH fun Q₂ hQ₂ => ?_
    refine ex2a2 (zs_item hi2 hv₂) fun xn t' eqa hx => ?_
    subst eqa
    clear F3 N3
    (k_steps; all_goals (try ((first | ((with_reducible rename Held _ => hKQ); refine Held.out hKQ _ _ ?_; clear hKQ; (try dsimp only)) | ((with_reducible rename (∀ f s, KswPost _ _ _ _ _ _ _ _ _ _ _ _ f s → _) => hKQ); refine hKQ _ _ ?_; clear hKQ)); k_steps)); all_goals (try ((first | ((with_reducible rename Held _ => hKQ); refine Held.out hKQ _ _ ?_; clear hKQ; (try dsimp only)) | ((with_reducible rename (∀ f s, KswPost _ _ _ _ _ _ _ _ _ _ _ _ f s → _) => hKQ); refine hKQ _ _ ?_; clear hKQ)); k_steps)))
    unfold Halt
    refine in_list_ints ⟨_, (N4 (D2, listOf v2.toArray n2) (by k_mem)).1, rfl, _, rfl⟩ hi3 ?_
    rw [zs_any]
    generalize hq : lb.contains xn = q
    cases q
    · (k_steps; all_goals (try ((first | ((with_reducible rename Held _ => hKQ); refine Held.out hKQ _ _ ?_; clear hKQ; (try dsimp only)) | ((with_reducible rename (∀ f s, KswPost _ _ _ _ _ _ _ _ _ _ _ _ f s → _) => hKQ); refine hKQ _ _ ?_; clear hKQ)); k_steps)); all_goals (try ((first | ((with_reducible rename Held _ => hKQ); refine Held.out hKQ _ _ ?_; clear hKQ; (try dsimp only)) | ((with_reducible rename (∀ f s, KswPost _ _ _ _ _ _ _ _ _ _ _ _ f s → _) => hKQ); refine hKQ _ _ ?_; clear hKQ)); k_steps)))
      unfold Halt
      refine CompEnd.same F4 N4 off₂ (SrcAt.led (n := n1) (by k_mem)) ⟨rfl, ?_⟩
      rw [filt_nat hx, if_neg (by rw [hq]; exact Bool.false_ne_true), List.append_nil]
      exact hys
    · (k_steps; all_goals (try ((first | ((with_reducible rename Held _ => hKQ); refine Held.out hKQ _ _ ?_; clear hKQ; (try dsimp only)) | ((with_reducible rename (∀ f s, KswPost _ _ _ _ _ _ _ _ _ _ _ _ f s → _) => hKQ); refine hKQ _ _ ?_; clear hKQ)); k_steps)); all_goals (try ((first | ((with_reducible rename Held _ => hKQ); refine Held.out hKQ _ _ ?_; clear hKQ; (try dsimp only)) | ((with_reducible rename (∀ f s, KswPost _ _ _ _ _ _ _ _ _ _ _ _ f s → _) => hKQ); refine hKQ _ _ ?_; clear hKQ)); k_steps)))
      unfold Halt
      refine CompEnd.same F4 N4 off₂ (SrcAt.led (n := n1) (by k_mem)) ⟨rfl, ?_⟩
      rw [filt_nat hx, if_pos hq, zs_append]
      exact hys.append (.cons _ _ .nil)
  · have hsh : (la.take v1.toArray.size).filter (fun x => lb.contains x) = sharedF la lb := by
      have := hi2.length
      have : (zs la).length = la.length := List.length_map ..
      rw [List.take_of_length_le (by rw [List.size_toArray]; omega)]
      rfl
    rw [hsh] at hys
    k_steps
    unfold Halt
    (rename Fr _ _ _ _ => F5)
    (rename News _ _ _ _ => N5)
    rename_i Ds _ _ _ _ oS dS
    have hysl := hys.length
    have hsl : (zs (sharedF la lb)).length ≤ 10 := by
      have e1 : (zs (sharedF la lb)).length = (sharedF la lb).length := List.length_map ..
      have e2 := List.length_filter_le (fun x => lb.contains x) la
      unfold sharedF at e1
      unfold sharedF
      omega
    have hl2 := hi2.length
    have hl2' : (zs la).length = la.length := List.length_map ..
    have hl3 := hi3.length
    have hl3' : (zs lb).length = lb.length := List.length_map ..
    refine upto_led (i := 1) (n := ys.length) F5 N5 (.head _) (by omega) fun E1 h6 F6 N6 l6 => ?_
    clear F5 N5
    k_lt l6
    refine' ListComp_WT (F₀ := F6) ?a2 ?a3 ?a4 ?a5 ?a6 ?_
    (case a2 => with_unfolding_all rfl)
    (case a3 => decide)
    (case a4 => rfl)
    (case a5 => decide)
    (case a6 => rfl)
    k_steps
    unfold Halt
    refine add_led (vs := v1) (ws := v2) (n := n1) (n2 := n2) F6 N6 (by k_mem) (by k_mem) (by omega) fun E2 h7 F7 N7 l7 => ?_
    clear F6 N6
    k_lt l7
    k_steps
    refine SrcWT.of (Drawn.led (vs := v1 ++ v2) rfl F7 N7 (.head _)) ?hsz fun gd => ?_
    (case hsz => rw [List.size_toArray, List.length_append, sizeLine_eq]; omega)
    have hi4 : IntsAre (v1 ++ v2) (zs (la ++ lb)) := by rw [zs_append]; exact hi2.append hi3
    refine compT_invK (fun i ws => IntsAre ws (zs (((la ++ lb).take i).filter fun x => !(sharedF la lb).contains x))) (fun i ws hi hws v I₂ oI₂ C₂ oC₂ A₂ m₂ g₂ k₂ E₂ hv₂ hC₂ hx₂ F4 N4 off₂ ne₂ => ?_) (fun ws hws => ?_) .nil
    · refine genH fun Q₂ hQ₂ => ?_
      refine ex2a2 (zs_item hi4 hv₂) fun xn t' eqb hx => ?_
      subst eqb
      clear F7 N7
      (k_steps; all_goals (try ((first | ((with_reducible rename Held _ => hKQ); refine Held.out hKQ _ _ ?_; clear hKQ; (try dsimp only)) | ((with_reducible rename (∀ f s, KswPost _ _ _ _ _ _ _ _ _ _ _ _ f s → _) => hKQ); refine hKQ _ _ ?_; clear hKQ)); k_steps)); all_goals (try ((first | ((with_reducible rename Held _ => hKQ); refine Held.out hKQ _ _ ?_; clear hKQ; (try dsimp only)) | ((with_reducible rename (∀ f s, KswPost _ _ _ _ _ _ _ _ _ _ _ _ f s → _) => hKQ); refine hKQ _ _ ?_; clear hKQ)); k_steps)))
      unfold Halt
      refine notin_list_ints ⟨_, (N4 (Ds, listOf ys.toArray ys.length) (by k_mem)).1, rfl, _, rfl⟩ hys ?_
      rw [zs_any]
      generalize hq : (!(sharedF la lb).contains xn) = q
      cases q
      · (k_steps; all_goals (try ((first | ((with_reducible rename Held _ => hKQ); refine Held.out hKQ _ _ ?_; clear hKQ; (try dsimp only)) | ((with_reducible rename (∀ f s, KswPost _ _ _ _ _ _ _ _ _ _ _ _ f s → _) => hKQ); refine hKQ _ _ ?_; clear hKQ)); k_steps)); all_goals (try ((first | ((with_reducible rename Held _ => hKQ); refine Held.out hKQ _ _ ?_; clear hKQ; (try dsimp only)) | ((with_reducible rename (∀ f s, KswPost _ _ _ _ _ _ _ _ _ _ _ _ f s → _) => hKQ); refine hKQ _ _ ?_; clear hKQ)); k_steps)))
        unfold Halt
        refine CompEnd.same F4 N4 off₂ (SrcAt.led (n := 0) (by k_mem)) ⟨rfl, ?_⟩
        rw [filt_nat hx, if_neg (by rw [hq]; exact Bool.false_ne_true), List.append_nil]
        exact hws
      · (k_steps; all_goals (try ((first | ((with_reducible rename Held _ => hKQ); refine Held.out hKQ _ _ ?_; clear hKQ; (try dsimp only)) | ((with_reducible rename (∀ f s, KswPost _ _ _ _ _ _ _ _ _ _ _ _ f s → _) => hKQ); refine hKQ _ _ ?_; clear hKQ)); k_steps)); all_goals (try ((first | ((with_reducible rename Held _ => hKQ); refine Held.out hKQ _ _ ?_; clear hKQ; (try dsimp only)) | ((with_reducible rename (∀ f s, KswPost _ _ _ _ _ _ _ _ _ _ _ _ f s → _) => hKQ); refine hKQ _ _ ?_; clear hKQ)); k_steps)))
        unfold Halt
        refine CompEnd.same F4 N4 off₂ (SrcAt.led (n := 0) (by k_mem)) ⟨rfl, ?_⟩
        rw [filt_nat hx, if_pos hq, zs_append]
        exact hws.append (.cons _ _ .nil)
    · have hall : (la ++ lb).take (v1 ++ v2).toArray.size = la ++ lb := List.take_of_length_le (by rw [List.size_toArray, List.length_append, List.length_append]; omega)
      rw [hall] at hws
      intro E3 h8 tk8 F8 N8 o8
      clear F7 N7
      k_steps
      unfold Halt
      have hwl := hws.length
      have hwl2 : (zs ((la ++ lb).filter fun x => !(sharedF la lb).contains x)).length ≤ 20 := by
        have e1 := List.length_filter_le (fun x => !(sharedF la lb).contains x) (la ++ lb)
        rw [List.length_append] at e1
        unfold zs
        rw [List.length_map]
        omega
      have htl := List.length_take_le 1 ys
      refine add_led (vs := ys.take 1) (ws := ws) (n := 0) (n2 := ws.length) F8 N8 (by k_mem) (.head _) (by omega) fun E4 h9 F9 N9 l9 => ?_
      clear F8 N8
      (try k_steps)
      (try dsimp only)
      (try k_unfold)
      have hm9 := N9 _ (.head _)
      refine h _ _ _ _ _ F9.keep hm9.2.2 hm9.1 ?_
      unfold nodesF
      rw [zs_append]
      refine IntsAre.append ?_ hws
      have := hys.take 1
      unfold zs at this ⊢
      rw [List.map_take]
      exact this
end
end D14Part
section P2Part
set_option linter.unusedVariables false
/-- the numbers below i that are not in us -/
noncomputable def dif (us : List Int) (i : Nat) : List Int := ((List.range i).map fun (k : Nat) => (k : Int)).filter fun x => !us.contains x
theorem dif_zero (us : List Int) : dif us 0 = [] := rfl
theorem dif_succ (us : List Int) (i : Nat) : dif us (i + 1) = dif us i ++ (if us.contains (i : Int) then [] else [(i : Int)]) := by
  unfold dif
  rw [List.range_succ, List.map_append, List.filter_append]
  congr 1
  rw [List.map_singleton, List.filter_cons, List.filter_nil]
  cases us.contains (i : Int) <;> rfl
theorem dif_len (us : List Int) (i : Nat) : (dif us i).length ≤ i := by
  unfold dif
  refine Nat.le_trans (List.length_filter_le _ _) ?_
  simp
theorem dif_step {us : List Int} {i : Nat} (h : (i : Int) ∉ us) : dif us (i + 1) = dif us i ++ [(i : Int)] := by
  rw [dif_succ, if_neg (by simpa using h)]
theorem dif_skip {us : List Int} {i : Nat} (h : (i : Int) ∈ us) : dif us (i + 1) = dif us i := by
  rw [dif_succ, if_pos (by simpa using h), List.append_nil]
theorem dif_rest {us : List Int} : ∀ {i : Nat}, i ≤ 6 → (∀ k : Nat, i ≤ k → k < 6 → (k : Int) ∉ us) → dif us 6 = dif us i ++ [0, 1, 2, 3, 4, (5 : Int)].drop i
  | 6, _, _ => by simp
  | 5, _, h => by rw [dif_step (h 5 (by omega) (by omega))]; rfl
  | 4, _, h => by rw [dif_step (h 5 (by omega) (by omega)), dif_step (h 4 (by omega) (by omega)), List.append_assoc]; rfl
  | 3, _, h => by rw [dif_step (h 5 (by omega) (by omega)), dif_step (h 4 (by omega) (by omega)), dif_step (h 3 (by omega) (by omega)), List.append_assoc, List.append_assoc]; rfl
  | 2, _, h => by rw [dif_step (h 5 (by omega) (by omega)), dif_step (h 4 (by omega) (by omega)), dif_step (h 3 (by omega) (by omega)), dif_step (h 2 (by omega) (by omega)), List.append_assoc, List.append_assoc, List.append_assoc]; rfl
  | 1, _, h => by rw [dif_step (h 5 (by omega) (by omega)), dif_step (h 4 (by omega) (by omega)), dif_step (h 3 (by omega) (by omega)), dif_step (h 2 (by omega) (by omega)), dif_step (h 1 (by omega) (by omega)), List.append_assoc, List.append_assoc, List.append_assoc, List.append_assoc]; rfl
  | 0, _, h => by rw [dif_step (h 5 (by omega) (by omega)), dif_step (h 4 (by omega) (by omega)), dif_step (h 3 (by omega) (by omega)), dif_step (h 2 (by omega) (by omega)), dif_step (h 1 (by omega) (by omega)), dif_step (h 0 (by omega) (by omega)), List.append_assoc, List.append_assoc, List.append_assoc, List.append_assoc, List.append_assoc]; rfl
end P2Part
section P4Part
set_option linter.unusedVariables false
/-- a way's topmost folder -/
noncomputable def topOf (W : List (List Str)) (p : Nat) : Str := (W.getD p []).headD default
/-- the order in which the heap gives the ways -/
noncomputable def lw (W : List (List Str)) (i j : Nat) : Bool := keyLt (topOf W i, (i : Int)) (topOf W j, (j : Int))
/-- the colours of the ways before that pass t -/
noncomputable def usedF (W : List (List Str)) (t : Str) (cs : List (Nat × Nat)) : List Nat := (cs.filter fun q => (W.getD q.1 []).contains t).map (·.2)
noncomputable def freeF (us : List Nat) : List Nat := (List.range 6).filter fun c => !us.contains c
noncomputable def paint (W : List (List Str)) : List Nat → List (Nat × Nat) → Option (List (Nat × Nat))
  | [], cs => some cs
  | p :: r, cs => if (usedF W (topOf W p) cs).Nodup ∧ (usedF W (topOf W p) cs).length ≤ 5 ∧ (∀ u ∈ usedF W (topOf W p) cs, u ≤ 4) ∧ (∀ q ∈ cs, q.1 ≠ p) then
      paint W r (cs ++ [(p, (freeF (usedF W (topOf W p) cs)).headD 0)]) else none
noncomputable def colOf (cs : List (Nat × Nat)) (k : Nat) : Option Nat := (cs.find? fun q => q.1 == k).map (·.2)
noncomputable def lw6 (W : List (List Str)) (i j : Fin 6) : Bool := lw W i.val j.val
/-- the ways' order off the heap -/
noncomputable def ordF (W : List (List Str)) : List (Fin 6) := popAll (lw6 W) 6 (heapifyF (lw6 W) (List.finRange 6))
section
variable {α β : Type}
theorem sdF_map (f : β → α) {lt : α → α → Bool} {lt' : β → β → Bool} (h : ∀ a b, lt (f a) (f b) = lt' a b) (new : β) (start : Nat) : ∀ (n : Nat) (hs : List β) (pos : Nat), sdF lt (f new) start n (hs.map f) pos = (sdF lt' new start n hs pos).map f
  | 0, hs, pos => by simp [sdF]
  | n + 1, hs, pos => by
    unfold sdF
    split
    · rw [List.getElem?_map]
      cases hs[(pos - 1) / 2]? with
      | none => simp
      | some par =>
        simp only [Option.map_some, h]
        split
        · rw [← List.map_set]; exact sdF_map f h new start n _ _
        · simp
    · simp
theorem siftdown_map (f : β → α) {lt : α → α → Bool} {lt' : β → β → Bool} (h : ∀ a b, lt (f a) (f b) = lt' a b) (hs : List β) (start pos : Nat) : siftdown lt (hs.map f) start pos = (siftdown lt' hs start pos).map f := by
  unfold siftdown
  rw [List.getElem?_map]
  cases hs[pos]? with
  | none => rfl
  | some new => exact sdF_map f h new start _ _ _
theorem childF_map (f : β → α) {lt : α → α → Bool} {lt' : β → β → Bool} (h : ∀ a b, lt (f a) (f b) = lt' a b) (hs : List β) (c : Nat) : childF lt (hs.map f) c = childF lt' hs c := by
  unfold childF
  rw [List.getElem?_map, List.getElem?_map]
  cases hs[c]? <;> cases hs[c + 1]? <;> simp [h]
theorem suF_map (f : β → α) {lt : α → α → Bool} {lt' : β → β → Bool} (h : ∀ a b, lt (f a) (f b) = lt' a b) : ∀ (n : Nat) (hs : List β) (pos : Nat), suF lt n (hs.map f) pos = ((suF lt' n hs pos).1.map f, (suF lt' n hs pos).2)
  | 0, _, _ => rfl
  | n + 1, hs, pos => by
    unfold suF
    rw [List.length_map]
    split
    · simp only [childF_map f h, List.getElem?_map]
      cases hs[childF lt' hs (2 * pos + 1)]? with
      | none => rfl
      | some x =>
        simp only [Option.map_some]
        rw [← List.map_set]; exact suF_map f h n _ _
    · rfl
theorem siftup_map (f : β → α) {lt : α → α → Bool} {lt' : β → β → Bool} (h : ∀ a b, lt (f a) (f b) = lt' a b) (hs : List β) (pos : Nat) : siftup lt (hs.map f) pos = (siftup lt' hs pos).map f := by
  unfold siftup
  rw [List.getElem?_map]
  cases hs[pos]? with
  | none => rfl
  | some new =>
    simp only [Option.map_some, List.length_map, suF_map f h]
    rw [← List.map_set]
    exact siftdown_map f h _ _ _
theorem foldl_siftup_map (f : β → α) {lt : α → α → Bool} {lt' : β → β → Bool} (h : ∀ a b, lt (f a) (f b) = lt' a b) : ∀ (is : List Nat) (hs : List β), is.foldl (fun h i => siftup lt h i) (hs.map f) = (is.foldl (fun h i => siftup lt' h i) hs).map f
  | [], _ => rfl
  | i :: is, hs => by
    rw [List.foldl_cons, List.foldl_cons, siftup_map f h]
    exact foldl_siftup_map f h is _
theorem heapifyF_map (f : β → α) {lt : α → α → Bool} {lt' : β → β → Bool} (h : ∀ a b, lt (f a) (f b) = lt' a b) (hs : List β) : heapifyF lt (hs.map f) = (heapifyF lt' hs).map f := by
  unfold heapifyF
  rw [List.length_map]
  exact foldl_siftup_map f h _ _
theorem heappopF_map (f : β → α) {lt : α → α → Bool} {lt' : β → β → Bool} (h : ∀ a b, lt (f a) (f b) = lt' a b) (hs : List β) : heappopF lt (hs.map f) = (heappopF lt' hs).map fun p => (f p.1, p.2.map f) := by
  unfold heappopF
  rw [List.getLast?_map]
  cases hs.getLast? with
  | none => rfl
  | some last =>
    simp only [Option.map_some]
    rw [show (hs.map f).dropLast = hs.dropLast.map f by rw [List.map_dropLast]]
    cases hs.dropLast with
    | nil => rfl
    | cons x r =>
      simp only [List.map_cons, Option.map_some]
      congr 2
      exact siftup_map f h (last :: r) 0
theorem heapifyF_len (lt : α → α → Bool) (hs : List α) : (heapifyF lt hs).length = hs.length := by
  unfold heapifyF
  generalize (List.range (hs.length / 2)).reverse = is
  induction is generalizing hs with
  | nil => rfl
  | cons i is ih => rw [List.foldl_cons, ih, siftup_len]
theorem heapifyF_mem {lt : α → α → Bool} {a : α} {hs : List α} (h : a ∈ heapifyF lt hs) : a ∈ hs := by
  unfold heapifyF at h
  generalize (List.range (hs.length / 2)).reverse = is at h
  induction is generalizing hs with
  | nil => exact h
  | cons i is ih => exact siftup_mem (ih h)
theorem heappopF_some {lt : α → α → Bool} {hs : List α} (h : hs ≠ []) : ∃ x r, heappopF lt hs = some (x, r) ∧ x ∈ hs ∧ (∀ a ∈ r, a ∈ hs) ∧ r.length + 1 = hs.length := by
  obtain ⟨l, a, rfl⟩ : ∃ l a, hs = l ++ [a] := by
    rcases List.eq_nil_or_concat hs with e | ⟨l, a, e⟩
    · exact absurd e h
    · exact ⟨l, a, by rw [e, List.concat_eq_append]⟩
  unfold heappopF
  rw [List.getLast?_concat, List.dropLast_concat]
  cases l with
  | nil => exact ⟨a, [], rfl, by simp, by simp, rfl⟩
  | cons x r =>
    refine ⟨x, siftup lt (a :: r) 0, rfl, by simp, fun b hb => ?_, ?_⟩
    · have := siftup_mem hb
      simp only [List.mem_cons, List.mem_append, List.not_mem_nil, or_false, List.cons_append] at this ⊢
      rcases this with e | e
      · exact .inr (.inr e)
      · exact .inr (.inl e)
    · rw [siftup_len]; simp
end
end P4Part
section E14Part
set_option linter.unusedVariables false
section
variable {prog : Program} {w : World} {A : Around} {E : Value → Shared → Prop} {s : Shared}
theorem call_key {p q : Str × Int} {a b : Addr} {Q : Value → Shared → Prop} (ha : IsKey s.heap a p) (hb : IsKey s.heap b q) (h : Q (.bool (keyLt p q)) s) :
    wpAny (model prog w) A (call (.builtin "list.__lt__") [.ref a, .ref b]) Q E s := by
  obtain ⟨x, i⟩ := p
  obtain ⟨y, j⟩ := q
  obtain ⟨t, u, n, ea⟩ := ha
  obtain ⟨t', u', n', eb⟩ := hb
  refine call_meets F.slot_list_lt ⟨_, ea, rfl⟩ F.entry_list_lt (F.args_list_lt_2 _ _)
    (list_ltAt a b _ _ n n' (fun k => if k = 0 then x == y else i == j) (fun k => if k = 0 then decide (x.cps.toList < y.cps.toList) else decide (i < j))) ⟨ea, eb, ?_, ?_, ?_⟩
  · intro k h1 h2
    match k, h1 with
    | 0, _ => exact key_eq0
    | 1, _ => exact key_eq1
    | k + 2, h1 => exact absurd h1 (by show ¬ k + 2 < 2; omega)
  · intro k h1 h2 _ prog w E Q hq
    match k, h1 with
    | 0, _ => exact lt_str hq
    | 1, _ => exact PyProof.Rows.lt_int hq
    | k + 2, h1 => exact absurd h1 (by show ¬ k + 2 < 2; omega)
  · have e : lexAt (fun k => if k = 0 then x == y else i == j) (fun k => if k = 0 then decide (x.cps.toList < y.cps.toList) else decide (i < j)) 2 2 2 0 = keyLt (x, i) (y, j) := by
      unfold keyLt
      by_cases hxy : x = y
      · subst hxy
        simp only [lexAt, beq_self_eq_true, if_true]
        by_cases hij : i = j
        · subst hij; simp
        · simp [hij]
      · simp [lexAt, hxy]
    show wants Q E (.ok (.ret (.bool (lexAt _ _ 2 2 2 0)))) s
    rw [e]; exact h
/-- the question that sorted asks of two of the items -/
theorem sortlt_key {p q : Str × Int} {a b : Addr} {Q : Bool → Shared → Prop} (hu : A.units < cLine) (ha : IsKey s.heap a p) (hb : IsKey s.heap b q) (h : Q (keyLt p q) s) :
    wpAny (model prog w) A (keyLt' oneType' (.ref a) (.ref b)) Q E s := by
  rw [keyLt'_oneType, oneLt'_eq]
  simp only [if_true]
  refine wpAny_bind (wpAny_cRoomFor hu ?_)
  obtain ⟨t, u, n, ea⟩ := id ha
  refine wpAny_bind (wpAny_callSpecialIfBound?_slot (T := "list") ⟨_, ea, rfl⟩ F.slot_list_lt (call_key ha hb ?_))
  exact wpAny_truthy_bool h
end
/-- the tree of questions, answered -/
noncomputable def runT {α : Type} (lt : Nat → Nat → Bool) : KasT α → α
  | .ret a => a
  | .ask i j k => runT lt (k (lt i j))
theorem runT_wp {α : Type} {cmp : Nat → Nat → (Bool → Shared → Prop) → Shared → Prop} {Q : α → Shared → Prop} {lt : Nat → Nat → Bool} (hc : ∀ i j C s, C (lt i j) s → cmp i j C s) : ∀ (t : KasT α) (s : Shared), Q (runT lt t) s → t.kasWp cmp Q s
  | .ret _, _, h => h
  | .ask i j k, s, h => hc i j _ s (runT_wp hc (k (lt i j)) s h)
end E14Part
section P5Part
set_option linter.unusedVariables false
noncomputable def permsOf : Nat → List Nat → List (List Nat)
  | 0, _ => [[]]
  | n + 1, av => av.flatMap fun x => (permsOf n (av.erase x)).map (x :: ·)
theorem mem_permsOf : ∀ (n : Nat) (av l : List Nat), l.length = n → l.Nodup → (∀ x ∈ l, x ∈ av) → l ∈ permsOf n av
  | 0, _, l, hl, _, _ => by rw [List.length_eq_zero_iff.mp hl]; exact .head _
  | n + 1, av, [], hl, _, _ => by simp at hl
  | n + 1, av, x :: r, hl, hn, hm => by
    rw [List.nodup_cons] at hn
    refine List.mem_flatMap.mpr ⟨x, hm x (.head _), List.mem_map.mpr ⟨r, mem_permsOf n _ r (by simpa using hl) hn.2 (fun y hy => ?_), rfl⟩⟩
    exact (List.mem_erase_of_ne (fun e : y = x => hn.1 (by rw [← e]; exact hy))).mpr (hm y (.tail _ hy))
theorem countP_lt {α : Type} {p q : α → Bool} : ∀ {l : List α}, (∀ x ∈ l, p x = true → q x = true) → (∃ a ∈ l, q a = true ∧ p a = false) → l.countP p < l.countP q
  | [], _, ⟨a, ha, _⟩ => nomatch ha
  | b :: l, h, ⟨a, ha, hq, hp⟩ => by
    rw [List.countP_cons, List.countP_cons]
    have hle : l.countP p ≤ l.countP q := List.countP_mono_left fun x hx => h x (.tail _ hx)
    rcases List.mem_cons.mp ha with rfl | ha
    · rw [hq, hp]; simp; omega
    · have := countP_lt (fun x hx => h x (.tail _ hx)) ⟨a, ha, hq, hp⟩
      have h1 := h b (.head _)
      cases hpb : p b with
      | false => simp; omega
      | true => rw [h1 hpb]; simp; exact this
/-- an order of six things is that of six ranks -/
theorem rank_exists (lt : Fin 6 → Fin 6 → Bool) (irr : ∀ i, lt i i = false) (tr : ∀ i j k, lt i j = true → lt j k = true → lt i k = true) (tot : ∀ i j, i ≠ j → lt i j = true ∨ lt j i = true) :
    ∃ rk ∈ permsOf 6 (List.range 6), ∀ i j : Fin 6, lt i j = decide (rk.getD i.val 0 < rk.getD j.val 0) := by
  let f : Fin 6 → Nat := fun i => (List.finRange 6).countP fun j => lt j i
  have hmono : ∀ i j, lt i j = true → f i < f j := fun i j h => countP_lt (fun k _ hk => tr k i j hk h) ⟨i, List.mem_finRange i, h, irr i⟩
  have hinj : ∀ i j, i ≠ j → f i ≠ f j := fun i j h e => by
    rcases tot i j h with q | q
    · have := hmono i j q; omega
    · have := hmono j i q; omega
  have h6 : ∀ i, f i < 6 := fun i => by
    have : f i < (List.finRange 6).countP fun _ => true := countP_lt (fun _ _ _ => rfl) ⟨i, List.mem_finRange i, rfl, irr i⟩
    simpa using this
  have hget : ∀ i : Fin 6, ((List.finRange 6).map f).getD i.val 0 = f i := fun i => by
    rw [List.getD_eq_getElem?_getD, List.getElem?_map]
    have : (List.finRange 6)[i.val]? = some i := by
      rw [List.getElem?_eq_getElem (by simp)]
      simp
    rw [this]; rfl
  refine ⟨(List.finRange 6).map f, mem_permsOf _ _ _ (by simp) ?_ ?_, fun i j => ?_⟩
  · rw [List.Nodup, List.pairwise_map]
    have : (List.finRange 6).Nodup := List.nodup_finRange 6
    exact this.imp fun h => hinj _ _ h
  · intro x hx
    obtain ⟨i, _, rfl⟩ := List.mem_map.mp hx
    exact List.mem_range.mpr (h6 i)
  · rw [hget, hget]
    cases h : lt i j with
    | true => have := hmono i j h; simp [this]
    | false =>
      by_cases e : i = j
      · subst e; simp
      · rcases tot i j e with q | q
        · rw [q] at h; cases h
        · have := hmono j i q; simp; omega
noncomputable def ltR (rk : List Nat) (i j : Fin 6) : Bool := decide (rk.getD i.val 0 < rk.getD j.val 0)
noncomputable def ltN (rk : List Nat) (i j : Nat) : Bool := decide (rk.getD i 0 < rk.getD j 0)
/-- those that begin with one of the six; the looks go through them one sixth at a time -/
noncomputable def permsAt (x : Nat) : List (List Nat) := (permsOf 5 ((List.range 6).erase x)).map (x :: ·)
theorem perms_all {P : List Nat → Bool} (h0 : (permsAt 0).all P = true) (h1 : (permsAt 1).all P = true) (h2 : (permsAt 2).all P = true) (h3 : (permsAt 3).all P = true) (h4 : (permsAt 4).all P = true) (h5 : (permsAt 5).all P = true) : (permsOf 6 (List.range 6)).all P = true := by
  show ((List.range 6).flatMap permsAt).all P = true
  rw [List.all_flatMap]
  show ([0, 1, 2, 3, 4, 5].all fun x => (permsAt x).all P) = true
  rw [List.all_cons, h0, List.all_cons, h1, List.all_cons, h2, List.all_cons, h3, List.all_cons, h4, List.all_cons, h5]
  rfl
noncomputable def heapOk (rk : List Nat) : Bool := (popAll (ltR rk) 6 (heapifyF (ltR rk) (List.finRange 6))).map (fun i => rk.getD i.val 0) == List.range 6
theorem heap_a : (permsAt 0).all heapOk = true := by decide +kernel
theorem heap_b : (permsAt 1).all heapOk = true := by decide +kernel
theorem heap_c : (permsAt 2).all heapOk = true := by decide +kernel
theorem heap_d : (permsAt 3).all heapOk = true := by decide +kernel
theorem heap_e : (permsAt 4).all heapOk = true := by decide +kernel
theorem heap_f : (permsAt 5).all heapOk = true := by decide +kernel
/-- the heap gives the six in order -/
theorem heap_all : (permsOf 6 (List.range 6)).all (fun rk => (popAll (ltR rk) 6 (heapifyF (ltR rk) (List.finRange 6))).map (fun i => rk.getD i.val 0) == List.range 6) = true := perms_all heap_a heap_b heap_c heap_d heap_e heap_f
/-- sorted gives the six in order -/
theorem sort_all : (permsOf 6 (List.range 6)).all (fun rk => (runT (ltN rk) (kas_sort 6)).toList.map (fun i => rk.getD i 0) == List.range 6) = true := by decide +kernel
noncomputable def okT : KasT (Array Nat) → Bool
  | .ret _ => true
  | .ask i j k => decide (i < 6) && decide (j < 6) && okT (k true) && okT (k false)
theorem sort_ok : okT (kas_sort 6) = true := by decide +kernel
end P5Part
section P6Part
set_option linter.unusedVariables false
/-- a row's topmost folder -/
noncomputable def rowTop (R : List (List Nat)) (p : Nat) : Nat := (R.getD p []).headD 0
noncomputable def dueKey (R : List (List Nat)) (X : List Str) (p : Nat) : Str × Int := (X.getD (rowTop R p) default, (p : Int))
noncomputable def meets (R : List (List Nat)) (p q : Nat) : Bool := (R.getD p []).any fun x => (R.getD q []).contains x
noncomputable def metF (R : List (List Nat)) (p : Nat) (cs : List (Nat × Nat)) : List Nat := (cs.filter fun q => meets R p q.1).map (·.2)
noncomputable def dueP (R : List (List Nat)) : List Nat → List (Nat × Nat) → List (Nat × Nat)
  | [], cs => cs
  | p :: r, cs => dueP R r (cs ++ [(p, (freeF (metF R p cs)).headD 0)])
/-- the order in which sorted gives the rows -/
noncomputable def dueOrd (R : List (List Nat)) (X : List Str) : List Nat := (runT (fun i j => keyLt (dueKey R X i) (dueKey R X j)) (kas_sort 6)).toList
theorem metF_step (R : List (List Nat)) (p : Nat) {cs : List (Nat × Nat)} {i : Nat} {q : Nat × Nat} (h : cs[i]? = some q) : metF R p (cs.take (i + 1)) = metF R p (cs.take i) ++ (if meets R p q.1 then [q.2] else []) := by
  unfold metF
  rw [List.take_add_one, h, Option.toList_some, List.filter_append, List.map_append, List.filter_cons, List.filter_nil]
  split <;> rfl
end P6Part
section E17Part
set_option linter.unusedVariables false
/-- the numbers below six that a list has, in order -/
noncomputable def dsort (us : List Nat) : List Nat := (List.range 6).filter fun c => us.contains c
theorem strs_canLay : ∀ xs : List Str, (∀ x ∈ xs, PyData.strOk x = true) → PyData.canLayAll0 (xs.map PyData.str) = true
  | [], _ => rfl
  | x :: r, h => by simp [PyData.canLayAll0, PyData.canLay0, strs_canLay r (fun y hy => h y (.tail _ hy)), h x (.head _)]
theorem strs_depth : ∀ xs : List Str, PyData.depthAll (xs.map PyData.str) = 0
  | [] => rfl
  | _ :: r => by simp [PyData.depthAll, PyData.depth, strs_depth r]
theorem strs_shaped (xs : List Str) (h : ∀ x ∈ xs, PyData.strOk x = true) : SeqAt.shaped (.list (xs.map PyData.str)) = true := by
  simp [SeqAt.shaped, PyData.canLay0, PyData.depth, strs_canLay xs h, strs_depth]
theorem strs_sameAll : ∀ xs : List Str, PySem.Spec.sameAll (xs.map PyData.str) (xs.map PyData.str) = true
  | [] => by simp [PySem.Spec.sameAll]
  | a :: r => by simp [PySem.Spec.sameAll, PySem.Spec.same, strs_sameAll r]
theorem strs_carried : ∀ {vs : List Value} {xs : List Str}, StrsAre vs xs → CarriedAll vs (xs.map PyData.str)
  | _, _, .nil => .nil
  | _, _, .cons x t r => .cons (.str x t) (strs_carried r)
section
variable {prog : Program} {w : World} {A : Around} {E : Value → Shared → Prop} {s : Shared}
/-- != of two lists of the same texts -/
theorem ne_strs {a b : Addr} {xs ys : List Value} {us : List Str} {Q : Value → Shared → Prop} (ha : s.heap.IsList a xs.toArray) (hb : s.heap.IsList b ys.toArray) (hx : StrsAre xs us) (hy : StrsAre ys us) (hok : ∀ x ∈ us, PyData.strOk x = true) (hu : A.units + 64 < cLine) (h : Q (.bool false) s) :
    wpAny (model prog w) A (compareOp .NotEq (.ref a) (.ref b)) Q E s :=
  ne_dataH_same (reads_newData ha (strs_carried hx)) (reads_newData hb (strs_carried hy)) (strs_shaped _ hok) (strs_shaped _ hok) hu (SeqAt.noMix_of_shape (.list .str) rfl _ _ (list_map_has fun _ => rfl) (list_map_has fun _ => rfl)) (by
    have e : PySem.Spec.same (.list (us.map PyData.str)) (.list (us.map PyData.str)) = true := by simp only [PySem.Spec.same]; exact strs_sameAll us
    rw [e]; exact h)
end
/-- objects in the order of a list of addresses -/
noncomputable def Its (P : Nat → Obj → Prop) (hs : List Addr) (its : List (Addr × Obj)) : Prop := its.map (·.1) = hs ∧ ∀ (k : Nat) (p : Addr × Obj), its[k]? = some p → P k p.2
theorem Its.nil (P : Nat → Obj → Prop) : Its P [] [] := ⟨rfl, fun _ _ h => by simp at h⟩
theorem Its.snoc {P : Nat → Obj → Prop} {hs : List Addr} {its : List (Addr × Obj)} {A : Addr} {o : Obj} (h : Its P hs its) (ho : P hs.length o) : Its P (hs ++ [A]) (its ++ [(A, o)]) := by
  obtain ⟨h1, h2⟩ := h
  have hl : its.length = hs.length := by rw [← h1, List.length_map]
  refine ⟨by rw [List.map_append, h1]; rfl, fun k p hp => ?_⟩
  by_cases hk : k < its.length
  · rw [List.getElem?_append_left hk] at hp
    exact h2 k p hp
  · rw [List.getElem?_append_right (by omega)] at hp
    have hk2 : k = its.length := by
      have := (List.getElem?_eq_some_iff.mp hp).1
      simp at this
      omega
    subst hk2
    simp at hp
    subst hp
    rw [hl]
    exact ho
theorem Its.at {P : Nat → Obj → Prop} {hs : List Addr} {its : List (Addr × Obj)} (h : Its P hs its) {k : Nat} {a : Addr} (hk : hs[k]? = some a) : ∃ o, (a, o) ∈ its ∧ P k o := by
  obtain ⟨h1, h2⟩ := h
  rw [← h1, List.getElem?_map] at hk
  cases hp : its[k]? with
  | none => rw [hp] at hk; cases hk
  | some p =>
    rw [hp] at hk
    cases hk
    exact ⟨p.2, List.mem_of_getElem? hp, h2 k p hp⟩
end E17Part
section P7Part
set_option linter.unusedVariables false
/-- the six numbers -/
noncomputable def numsF (ns : List Int) : List Nat := ((ns.take 6).map (fun n => (Int.fmod n 1000000).toNat) ++ [186, 78, 235, 289, 97, 21]).take 6
noncomputable def upsF (nums : List Nat) : List Nat := (List.range 6).map fun k => nums.getD k 0 % (k + 1)
noncomputable def turnF (nums : List Nat) : Nat := nums.sum % 6
noncomputable def startN (nums : List Nat) (k : Nat) : Nat := nums.getD k 0 / 6 % 7
noncomputable def goalN (nums : List Nat) (k : Nat) : Nat := nums.getD k 0 / 42 % 7
/-- the folders above, with fuel -/
noncomputable def aboveL (us : List Nat) : Nat → Nat → List Nat
  | 0, v => [v]
  | _ + 1, 0 => [0]
  | n + 1, v + 1 => (v + 1) :: aboveL us n (us.getD v 0)
noncomputable def abv (us : List Nat) (v : Nat) : List Nat := aboveL us 7 v
noncomputable def pathsF (nums : List Nat) : List Str := joinedF (upsF nums) (turnF nums) 6
noncomputable def rowsF (nums : List Nat) : List (List Nat) := (List.range 6).map fun k => nodesF (abv (upsF nums) (startN nums k)) (abv (upsF nums) (goalN nums k))
noncomputable def waysF (nums : List Nat) : List (List Str) := (rowsF nums).map fun r => r.map fun v => (pathsF nums).getD v default
noncomputable def loadsF (nums : List Nat) : List Nat := (List.range 7).map fun v => ((rowsF nums).filter fun r => r.contains v).length
noncomputable def colsF (cs : List (Nat × Nat)) : List Nat := (List.range 6).map fun k => (colOf cs k).getD 0
noncomputable def partsF (x : Str) : List Str := Txt.split x (Str.ofString "/")
/-- all that the walk asks of the plain side -/
structure Plan (nums : List Nat) : Prop where
  texts : Str.ofString "/" :: (textsF (upsF nums) (turnF nums) 6).drop 1 = pathsF nums
  ok : ∀ x ∈ pathsF nums, PyData.strOk x = true
  len : ∀ x ∈ pathsF nums, x.length ≤ 1000 ∧ Txt.startswith x (Str.ofString "/") = true ∧ (partsF x).length ≤ 100 ∧ ∀ c ∈ partsF x, c.length ≤ 1000
  way : ∀ k < 6, ∀ x y, (pathsF nums)[startN nums k]? = some x → (pathsF nums)[goalN nums k]? = some y → ∃ cx cy, Climb (cpathF (partsF x) (partsF y)) x cx ∧ Climb (cpathF (partsF x) (partsF y)) y cy ∧ cx.length ≤ 100 ∧ cy.length ≤ 100 ∧ (waysF nums)[k]? = some (cpathF (partsF x) (partsF y) :: (cx ++ cy))
  above : ∀ v ≤ 6, Above (upsF nums) v (abv (upsF nums) v) ∧ (abv (upsF nums) v).length ≤ 10
  rows : ∀ l ∈ rowsF nums, (∃ x r, l = x :: r ∧ x < 7) ∧ l.length ≤ 20
  perm : (dueOrd (rowsF nums) (pathsF nums)).Perm (List.range 6)
  paint : ∃ cs, paint (waysF nums) ((ordF (waysF nums)).map Fin.val) [] = some cs ∧ (∀ k < 6, (colOf cs k).isSome = true) ∧ (∀ c ∈ colsF cs, c < 6) ∧
    (∀ M, M ∈ loadsF nums → (∀ a ∈ loadsF nums, a ≤ M) → dsort (colsF cs) = List.range M) ∧ colsF cs = colsF (dueP (rowsF nums) (dueOrd (rowsF nums) (pathsF nums)) [])
end P7Part
section M0Part
set_option linter.unusedVariables false
/-- a folder's text from its names -/
noncomputable def pathT (cs : List Str) : Str := if cs.isEmpty then Str.ofString "/" else Txt.join (Str.ofString "") (cs.map fun c => Str.ofString "/" ++ c)
/-- the same, with nothing for the top -/
noncomputable def nakedT (cs : List Str) : Str := if cs.isEmpty then Str.ofString "" else pathT cs
/-- the rising lists of places below k -/
noncomputable def allSubs : Nat → List (List Nat)
  | 0 => [[]]
  | k + 1 => allSubs k ++ (allSubs k).map (· ++ [k])
noncomputable def namesOf (turn : Nat) (ps : List Nat) : List Str := ps.map fun k => nm (k + turn)
noncomputable def okLast (cs : List Str) : Bool := match cs.getLast? with
  | none => true
  | some c => (joinF (pathT cs.dropLast) c == pathT cs) && (dirF (pathT cs) == pathT cs.dropLast) && strLt (pathT cs.dropLast) (pathT cs) && (nakedT cs.dropLast ++ Str.ofString "/" ++ c == pathT cs)
noncomputable def okPath (cs : List Str) : Bool :=
  let x := pathT cs
  let px := partsF x
  PyData.strOk x && decide (x.length ≤ 1000) && Txt.startswith x (Str.ofString "/") && decide (px.length ≤ 100) && px.all (fun c => decide (c.length ≤ 1000)) && (px.filter okc == cs) && (Str.ofString "/" ++ Txt.join (Str.ofString "/") cs == x) && okLast cs
noncomputable def okTurn (turn : Nat) : Bool := (allSubs 6).all fun ps => okPath (namesOf turn ps)
set_option maxRecDepth 1000000
theorem ok0 : okTurn 0 = true := by decide +kernel
theorem ok1 : okTurn 1 = true := by decide +kernel
theorem ok2 : okTurn 2 = true := by decide +kernel
theorem ok3 : okTurn 3 = true := by decide +kernel
theorem ok4 : okTurn 4 = true := by decide +kernel
theorem ok5 : okTurn 5 = true := by decide +kernel
theorem okTurn_all {turn : Nat} (h : turn < 6) : okTurn turn = true := by
  match turn, h with
  | 0, _ => exact ok0
  | 1, _ => exact ok1
  | 2, _ => exact ok2
  | 3, _ => exact ok3
  | 4, _ => exact ok4
  | 5, _ => exact ok5
theorem okPath_of {turn : Nat} (h : turn < 6) {ps : List Nat} (hp : ps ∈ allSubs 6) : okPath (namesOf turn ps) = true := List.all_eq_true.mp (okTurn_all h) ps hp
theorem okPath_facts {cs : List Str} (h : okPath cs = true) : PyData.strOk (pathT cs) = true ∧ (pathT cs).length ≤ 1000 ∧ Txt.startswith (pathT cs) (Str.ofString "/") = true ∧ (partsF (pathT cs)).length ≤ 100 ∧ (∀ c ∈ partsF (pathT cs), c.length ≤ 1000) ∧ (partsF (pathT cs)).filter okc = cs ∧ Str.ofString "/" ++ Txt.join (Str.ofString "/") cs = pathT cs ∧ okLast cs = true := by
  unfold okPath at h
  simp only [Bool.and_eq_true, decide_eq_true_eq, beq_iff_eq, List.all_eq_true] at h
  obtain ⟨⟨⟨⟨⟨⟨⟨h1, h2⟩, h3⟩, h4⟩, h5⟩, h6⟩, h7⟩, h8⟩ := h
  exact ⟨h1, h2, h3, h4, h5, h6, h7, h8⟩
theorem okLast_facts {cs : List Str} {c : Str} (h : okLast (cs ++ [c]) = true) : joinF (pathT cs) c = pathT (cs ++ [c]) ∧ dirF (pathT (cs ++ [c])) = pathT cs ∧ strLt (pathT cs) (pathT (cs ++ [c])) = true ∧ nakedT cs ++ Str.ofString "/" ++ c = pathT (cs ++ [c]) := by
  unfold okLast at h
  rw [List.getLast?_concat, List.dropLast_concat] at h
  simp only [Bool.and_eq_true, beq_iff_eq] at h
  obtain ⟨⟨⟨h1, h2⟩, h3⟩, h4⟩ := h
  exact ⟨h1, h2, h3, h4⟩
end M0Part
section M1Part
set_option linter.unusedVariables false
/-- each folder's parent is an earlier one -/
structure Tree (us : List Nat) : Prop where
  len : us.length = 6
  le : ∀ k u : Nat, us[k]? = some u → u ≤ k
noncomputable def upT (us : List Nat) (v : Nat) : Nat := us.getD (v - 1) 0
section
variable {us : List Nat}
theorem Tree.up_lt (T : Tree us) {v : Nat} (h0 : 0 < v) (h6 : v ≤ 6) : upT us v < v ∧ us[v - 1]? = some (upT us v) := by
  have hl := T.len
  have h1 : us[v - 1]? = some us[v - 1] := List.getElem?_eq_getElem (by omega)
  have h2 : upT us v = us[v - 1] := by unfold upT; rw [List.getD_eq_getElem?_getD, h1]; rfl
  rw [h2]
  have := T.le _ _ h1
  exact ⟨by omega, h1⟩
theorem aboveL_fuel (T : Tree us) : ∀ (n m v : Nat), v ≤ n → v ≤ m → v ≤ 6 → aboveL us n v = aboveL us m v
  | 0, 0, _, _, _, _ => rfl
  | 0, _ + 1, 0, _, _, _ => rfl
  | 0, _ + 1, v + 1, h, _, _ => absurd h (by omega)
  | _ + 1, 0, 0, _, _, _ => rfl
  | _ + 1, 0, v + 1, _, h, _ => absurd h (by omega)
  | _ + 1, _ + 1, 0, _, _, _ => rfl
  | n + 1, m + 1, v + 1, hn, hm, h6 => by
    unfold aboveL
    have := (T.up_lt (v := v + 1) (by omega) h6).1
    unfold upT at this
    simp only [Nat.add_sub_cancel] at this
    rw [aboveL_fuel T n m _ (by omega) (by omega) (by omega)]
theorem abv_zero : abv us 0 = [0] := rfl
theorem abv_up (T : Tree us) {v : Nat} (h0 : 0 < v) (h6 : v ≤ 6) : abv us v = v :: abv us (upT us v) := by
  obtain ⟨v, rfl⟩ : ∃ k, v = k + 1 := ⟨v - 1, by omega⟩
  have := (T.up_lt h0 h6).1
  unfold abv
  rw [show aboveL us 7 (v + 1) = (v + 1) :: aboveL us 6 (us.getD v 0) from rfl]
  rw [aboveL_fuel T 6 7 _ (by unfold upT at this; simp only [Nat.add_sub_cancel] at this; omega) (by unfold upT at this; simp only [Nat.add_sub_cancel] at this; omega) (by unfold upT at this; simp only [Nat.add_sub_cancel] at this; omega)]
  rfl
theorem Tree.ind (T : Tree us) {P : Nat → Prop} (h0 : P 0) (hs : ∀ v, 0 < v → v ≤ 6 → P (upT us v) → P v) : ∀ v, v ≤ 6 → P v := by
  intro v
  induction v using Nat.strongRecOn with
  | ind v ih =>
    intro h6
    by_cases hv : v = 0
    · rw [hv]; exact h0
    · have := (T.up_lt (by omega) h6).1
      exact hs v (by omega) h6 (ih _ this (by omega))
theorem abv_above (T : Tree us) : ∀ v, v ≤ 6 → Above us v (abv us v) :=
  T.ind .zero fun v h0 h6 ih => by
    obtain ⟨h1, h2⟩ := T.up_lt h0 h6
    rw [abv_up T h0 h6]
    obtain ⟨v, rfl⟩ : ∃ k, v = k + 1 := ⟨v - 1, by omega⟩
    exact .up h2 (by omega) ih
theorem abv_head (T : Tree us) {v : Nat} (h6 : v ≤ 6) : ∃ r, abv us v = v :: r := by
  by_cases hv : v = 0
  · subst hv; exact ⟨_, rfl⟩
  · exact ⟨_, abv_up T (by omega) h6⟩
theorem abv_self (T : Tree us) {v : Nat} (h6 : v ≤ 6) : v ∈ abv us v := by
  obtain ⟨r, e⟩ := abv_head T h6
  rw [e]; exact .head _
theorem abv_le (T : Tree us) : ∀ v, v ≤ 6 → ∀ x ∈ abv us v, x ≤ v :=
  T.ind (fun x hx => by rw [abv_zero] at hx; simp at hx; omega) fun v h0 h6 ih x hx => by
    rw [abv_up T h0 h6] at hx
    have := (T.up_lt h0 h6).1
    rcases List.mem_cons.mp hx with rfl | hx
    · exact Nat.le_refl _
    · have := ih x hx; omega
theorem abv_len (T : Tree us) : ∀ v, v ≤ 6 → (abv us v).length ≤ v + 1 :=
  T.ind (by simp [abv_zero]) fun v h0 h6 ih => by
    rw [abv_up T h0 h6, List.length_cons]
    have := (T.up_lt h0 h6).1
    omega
theorem abv_zero_mem (T : Tree us) : ∀ v, v ≤ 6 → 0 ∈ abv us v :=
  T.ind (.head _) fun v h0 h6 ih => by rw [abv_up T h0 h6]; exact .tail _ ih
theorem abv_nodup (T : Tree us) : ∀ v, v ≤ 6 → (abv us v).Nodup :=
  T.ind (by simp [abv_zero]) fun v h0 h6 ih => by
    rw [abv_up T h0 h6, List.nodup_cons]
    refine ⟨fun h => ?_, ih⟩
    have h1 := (T.up_lt h0 h6).1
    have := abv_le T _ (by omega) v h
    omega
theorem abv_suffix (T : Tree us) : ∀ v, v ≤ 6 → ∀ x ∈ abv us v, ∃ pre, abv us v = pre ++ abv us x :=
  T.ind (fun x hx => by rw [abv_zero] at hx; simp at hx; subst hx; exact ⟨[], rfl⟩) fun v h0 h6 ih x hx => by
    rw [abv_up T h0 h6] at hx
    rcases List.mem_cons.mp hx with rfl | hx
    · exact ⟨[], rfl⟩
    · obtain ⟨pre, e⟩ := ih x hx
      exact ⟨v :: pre, by rw [abv_up T h0 h6, e]; rfl⟩
theorem abv_sub (T : Tree us) {v x y : Nat} (h6 : v ≤ 6) (hx : x ∈ abv us v) (hy : y ∈ abv us x) : y ∈ abv us v := by
  obtain ⟨pre, e⟩ := abv_suffix T v h6 x hx
  rw [e]; exact List.mem_append_right _ hy
theorem abv_chain (T : Tree us) : ∀ v, v ≤ 6 → ∀ x ∈ abv us v, ∀ y ∈ abv us v, x ∈ abv us y ∨ y ∈ abv us x :=
  T.ind (fun x hx y hy => by rw [abv_zero] at hx hy; simp at hx hy; subst hx hy; exact .inl (.head _)) fun v h0 h6 ih x hx y hy => by
    rcases List.mem_cons.mp (by rw [abv_up T h0 h6] at hx; exact hx) with e | hx'
    · subst e; exact .inr hy
    · rcases List.mem_cons.mp (by rw [abv_up T h0 h6] at hy; exact hy) with e | hy'
      · subst e; exact .inl hx
      · exact ih x hx' y hy'
theorem abv_antisymm (T : Tree us) {x y : Nat} (hx : x ≤ 6) (hy : y ≤ 6) (h1 : x ∈ abv us y) (h2 : y ∈ abv us x) : x = y := by
  have := abv_le T y hy x h1
  have := abv_le T x hx y h2
  omega
/-- where two ways up meet -/
theorem meet_ex (T : Tree us) {b : Nat} (hb : b ≤ 6) : ∀ a, a ≤ 6 → ∃ z ua ub, z ≤ 6 ∧ abv us a = ua ++ abv us z ∧ abv us b = ub ++ abv us z ∧ (∀ u ∈ ua, u ∉ abv us b) ∧ (∀ u ∈ ub, u ∉ abv us a) := by
  have base : ∀ a, a ≤ 6 → a ∈ abv us b → ∃ z ua ub, z ≤ 6 ∧ abv us a = ua ++ abv us z ∧ abv us b = ub ++ abv us z ∧ (∀ u ∈ ua, u ∉ abv us b) ∧ (∀ u ∈ ub, u ∉ abv us a) := by
    intro a ha hm
    obtain ⟨pre, e⟩ := abv_suffix T b hb a hm
    refine ⟨a, [], pre, ha, rfl, e, (fun _ h => nomatch h), fun u hu h => ?_⟩
    have hn := abv_nodup T b hb
    rw [e, List.nodup_append] at hn
    exact hn.2.2 u hu u h rfl
  refine T.ind (base 0 (by omega) (abv_zero_mem T b hb)) fun a h0 h6 ih => ?_
  by_cases hm : a ∈ abv us b
  · exact base a h6 hm
  · obtain ⟨z, ua, ub, hz, e1, e2, d1, d2⟩ := ih
    refine ⟨z, a :: ua, ub, hz, by rw [abv_up T h0 h6, e1]; rfl, e2, fun u hu => ?_, fun u hu h => ?_⟩
    · rcases List.mem_cons.mp hu with rfl | hu
      · exact hm
      · exact d1 u hu
    · rw [abv_up T h0 h6] at h
      rcases List.mem_cons.mp h with rfl | h
      · exact hm (by rw [e2]; exact List.mem_append_left _ hu)
      · exact d2 u hu h
theorem filter_none {α : Type} {p : α → Bool} {l : List α} (h : ∀ x ∈ l, p x = false) : l.filter p = [] := List.filter_eq_nil_iff.mpr fun x hx => by rw [h x hx]; exact Bool.false_ne_true
theorem filter_full {α : Type} {p : α → Bool} {l : List α} (h : ∀ x ∈ l, p x = true) : l.filter p = l := List.filter_eq_self.mpr h
/-- the row of two ends -/
theorem nodes_eq (T : Tree us) {a b z : Nat} {ua ub : List Nat} (ha : a ≤ 6) (hb : b ≤ 6) (hz : z ≤ 6) (e1 : abv us a = ua ++ abv us z) (e2 : abv us b = ub ++ abv us z) (d1 : ∀ u ∈ ua, u ∉ abv us b) (d2 : ∀ u ∈ ub, u ∉ abv us a) :
    nodesF (abv us a) (abv us b) = z :: (ua ++ ub) := by
  have hs : sharedF (abv us a) (abv us b) = abv us z := by
    unfold sharedF
    rw [e1, List.filter_append, filter_none, List.nil_append, filter_full]
    · intro x hx
      rw [List.contains_iff_mem, e2]
      exact List.mem_append_right _ hx
    · intro x hx
      have := d1 x hx
      simpa using this
  obtain ⟨r, hr⟩ := abv_head T hz
  unfold nodesF
  rw [hs]
  have f1 : (abv us a).filter (fun x => !(abv us z).contains x) = ua := by
    rw [e1, List.filter_append, filter_full, filter_none, List.append_nil]
    · intro x hx
      simpa using hx
    · intro x hx
      have h : x ∉ abv us z := fun h => d1 x hx (by rw [e2]; exact List.mem_append_right _ h)
      simpa using h
  have f2 : (abv us b).filter (fun x => !(abv us z).contains x) = ub := by
    rw [e2, List.filter_append, filter_full, filter_none, List.append_nil]
    · intro x hx
      simpa using hx
    · intro x hx
      have h : x ∉ abv us z := fun h => d2 x hx (by rw [e1]; exact List.mem_append_right _ h)
      simpa using h
  rw [List.filter_append, f1, f2, hr]
  rfl
/-- what a row is -/
structure RowOk (us : List Nat) (z : Nat) (row : List Nat) : Prop where
  z6 : z ≤ 6
  head : ∃ r, row = z :: r
  len : row.length ≤ 20
  top : ∀ x ∈ row, x ≤ 6 ∧ z ∈ abv us x
  down : ∀ x ∈ row, ∀ y ∈ abv us x, z ∈ abv us y → y ∈ row
theorem row_ok (T : Tree us) {a b : Nat} (ha : a ≤ 6) (hb : b ≤ 6) : ∃ z, RowOk us z (nodesF (abv us a) (abv us b)) := by
  obtain ⟨z, ua, ub, hz, e1, e2, d1, d2⟩ := meet_ex T hb a ha
  rw [nodes_eq T ha hb hz e1 e2 d1 d2]
  have hzz := abv_self T hz
  have side : ∀ (a b : Nat) (ua : List Nat), a ≤ 6 → abv us a = ua ++ abv us z → (∀ u ∈ ua, u ∉ abv us z) → ∀ x ∈ ua, (x ≤ 6 ∧ z ∈ abv us x) ∧ ∀ y ∈ abv us x, z ∈ abv us y → y = z ∨ y ∈ ua := by
    intro a b ua ha e d x hx
    have hxa : x ∈ abv us a := by rw [e]; exact List.mem_append_left _ hx
    have hza : z ∈ abv us a := by rw [e]; exact List.mem_append_right _ hzz
    have hx6 : x ≤ 6 := Nat.le_trans (abv_le T a ha x hxa) ha
    refine ⟨⟨hx6, ?_⟩, fun y hy hzy => ?_⟩
    · rcases abv_chain T a ha z hza x hxa with h | h
      · exact h
      · exact absurd h (d x hx)
    · have hya := abv_sub T ha hxa hy
      have hy6 : y ≤ 6 := Nat.le_trans (abv_le T a ha y hya) ha
      rw [e] at hya
      rcases List.mem_append.mp hya with h | h
      · exact .inr h
      · exact .inl (abv_antisymm T hy6 hz h hzy)
  have da : ∀ u ∈ ua, u ∉ abv us z := fun u hu h => d1 u hu (by rw [e2]; exact List.mem_append_right _ h)
  have db : ∀ u ∈ ub, u ∉ abv us z := fun u hu h => d2 u hu (by rw [e1]; exact List.mem_append_right _ h)
  have la := abv_len T a ha
  have lb := abv_len T b hb
  rw [e1, List.length_append] at la
  rw [e2, List.length_append] at lb
  refine ⟨z, hz, ⟨_, rfl⟩, by rw [List.length_cons, List.length_append]; omega, fun x hx => ?_, fun x hx y hy hzy => ?_⟩
  · rcases List.mem_cons.mp hx with rfl | hx
    · exact ⟨hz, hzz⟩
    · rcases List.mem_append.mp hx with hx | hx
      · exact (side a b ua ha e1 da x hx).1
      · exact (side b a ub hb e2 db x hx).1
  · rcases List.mem_cons.mp hx with rfl | hx
    · have hy6 := abv_le T x hz y hy
      rw [abv_antisymm T (by omega) hz hy hzy]
      exact .head _
    · rcases List.mem_append.mp hx with hx | hx
      · rcases (side a b ua ha e1 da x hx).2 y hy hzy with rfl | h
        · exact .head _
        · exact .tail _ (List.mem_append_left _ h)
      · rcases (side b a ub hb e2 db x hx).2 y hy hzy with rfl | h
        · exact .head _
        · exact .tail _ (List.mem_append_right _ h)
/-- two rows that meet: the lower top lies on both -/
theorem rows_meet (T : Tree us) {z z' : Nat} {row row' : List Nat} (h : RowOk us z row) (h' : RowOk us z' row') {x : Nat} (hx : x ∈ row) (hx' : x ∈ row') : z ∈ row' ∨ (z' ∈ row ∧ z ∈ abv us z' ∧ z ≠ z') := by
  obtain ⟨h6, hz⟩ := h.top x hx
  obtain ⟨_, hz'⟩ := h'.top x hx'
  by_cases e : z = z'
  · subst e
    obtain ⟨r, er⟩ := h'.head
    exact .inl (by rw [er]; exact .head _)
  · rcases abv_chain T x h6 z hz z' hz' with q | q
    · exact .inr ⟨h.down x hx z' hz' q, q, e⟩
    · exact .inl (h'.down x hx' z hz q)
end
end M1Part
section M2Part
set_option linter.unusedVariables false
noncomputable def pl (us : List Nat) (v : Nat) : List Nat := (abv us v).dropLast.reverse.map (· - 1)
noncomputable def compsV (us : List Nat) (turn v : Nat) : List Str := namesOf turn (pl us v)
noncomputable def pathV (us : List Nat) (turn v : Nat) : Str := pathT (compsV us turn v)
theorem allSubs_mono {l : List Nat} {k : Nat} (h : l ∈ allSubs k) : ∀ {m : Nat}, k ≤ m → l ∈ allSubs m
  | 0, hm => by obtain rfl : k = 0 := by omega
                exact h
  | m + 1, hm => by
    by_cases e : k = m + 1
    · subst e; exact h
    · exact List.mem_append_left _ (allSubs_mono h (by omega))
section
variable {us : List Nat} {turn : Nat}
theorem abv_ne_nil (T : Tree us) {v : Nat} (h : v ≤ 6) : abv us v ≠ [] := by
  obtain ⟨r, e⟩ := abv_head T h
  rw [e]; exact List.cons_ne_nil _ _
theorem pl_append (T : Tree us) {a z : Nat} {ua : List Nat} (hz : z ≤ 6) (e : abv us a = ua ++ abv us z) : pl us a = pl us z ++ ua.reverse.map (· - 1) := by
  unfold pl
  rw [e, List.dropLast_append_of_ne_nil (abv_ne_nil T hz), List.reverse_append, List.map_append]
theorem pl_up (T : Tree us) {v : Nat} (h0 : 0 < v) (h6 : v ≤ 6) : pl us v = pl us (upT us v) ++ [v - 1] := by
  have := (T.up_lt h0 h6).1
  have e := pl_append T (a := v) (z := upT us v) (ua := [v]) (by omega) (by rw [abv_up T h0 h6]; rfl)
  rw [e]; rfl
theorem pl_subs (T : Tree us) : ∀ v, v ≤ 6 → pl us v ∈ allSubs v :=
  T.ind (.head _) fun v h0 h6 ih => by
    have h1 := (T.up_lt h0 h6).1
    rw [pl_up T h0 h6]
    obtain ⟨v, rfl⟩ : ∃ k, v = k + 1 := ⟨v - 1, by omega⟩
    exact List.mem_append_right _ (List.mem_map.mpr ⟨_, allSubs_mono ih (by omega), rfl⟩)
theorem comps_up (T : Tree us) {v : Nat} (h0 : 0 < v) (h6 : v ≤ 6) : compsV us turn v = compsV us turn (upT us v) ++ [nm (v - 1 + turn)] := by
  unfold compsV namesOf
  rw [pl_up T h0 h6, List.map_append]; rfl
theorem okV (T : Tree us) (ht : turn < 6) {v : Nat} (h6 : v ≤ 6) : okPath (compsV us turn v) = true := okPath_of ht (allSubs_mono (pl_subs T v h6) h6)
theorem okL (T : Tree us) (ht : turn < 6) {v : Nat} (h0 : 0 < v) (h6 : v ≤ 6) : joinF (pathV us turn (upT us v)) (nm (v - 1 + turn)) = pathV us turn v ∧ dirF (pathV us turn v) = pathV us turn (upT us v) ∧ strLt (pathV us turn (upT us v)) (pathV us turn v) = true ∧ nakedT (compsV us turn (upT us v)) ++ Str.ofString "/" ++ nm (v - 1 + turn) = pathV us turn v := by
  have h := (okPath_facts (okV T ht h6)).2.2.2.2.2.2.2
  unfold pathV
  rw [comps_up T h0 h6] at h ⊢
  exact okLast_facts h
theorem map_range_getD {α : Type} {f : Nat → α} {d : α} {k v : Nat} (h : v < k) : ((List.range k).map f).getD v d = f v := by
  rw [List.getD_eq_getElem?_getD, List.getElem?_map, List.getElem?_range h]; rfl
theorem joined_eq (T : Tree us) (ht : turn < 6) : ∀ k, k ≤ 6 → joinedF us turn k = (List.range (k + 1)).map (pathV us turn)
  | 0, _ => by
    show [Str.ofString "/"] = [pathV us turn 0]
    rfl
  | k + 1, hk => by
    have h1 := (T.up_lt (v := k + 1) (by omega) hk).1
    have h2 := (okL T ht (v := k + 1) (by omega) hk).1
    have e : us.getD k 0 = upT us (k + 1) := rfl
    rw [joinedF, joined_eq T ht k (by omega), e, map_range_getD h1, List.range_succ (n := k + 1), List.map_append]
    simp only [Nat.add_sub_cancel] at h2
    rw [h2]; rfl
theorem texts_eq (T : Tree us) (ht : turn < 6) : ∀ k, k ≤ 6 → textsF us turn k = (List.range (k + 1)).map fun v => nakedT (compsV us turn v)
  | 0, _ => by
    show [Str.ofString ""] = [nakedT (compsV us turn 0)]
    rfl
  | k + 1, hk => by
    have h1 := (T.up_lt (v := k + 1) (by omega) hk).1
    have h2 := (okL T ht (v := k + 1) (by omega) hk).2.2.2
    have e : us.getD k 0 = upT us (k + 1) := rfl
    rw [textsF, texts_eq T ht k (by omega), e, map_range_getD h1, List.range_succ (n := k + 1), List.map_append]
    simp only [Nat.add_sub_cancel] at h2
    rw [h2]
    have h3 : (compsV us turn (k + 1)).isEmpty = false := by
      rw [comps_up T (by omega) hk]
      cases compsV us turn (upT us (k + 1)) <;> rfl
    show _ = _ ++ [nakedT (compsV us turn (k + 1))]
    unfold nakedT
    rw [h3]; rfl
theorem spelled_eq (T : Tree us) (ht : turn < 6) : Str.ofString "/" :: (textsF us turn 6).drop 1 = joinedF us turn 6 := by
  rw [texts_eq T ht 6 (by omega), joined_eq T ht 6 (by omega)]
  have h : ∀ v, 0 < v → v ≤ 6 → nakedT (compsV us turn v) = pathV us turn v := by
    intro v h0 h6
    have h3 : (compsV us turn v).isEmpty = false := by
      rw [comps_up T h0 h6]
      cases compsV us turn (upT us v) <;> rfl
    unfold nakedT
    rw [h3]; rfl
  show Str.ofString "/" :: [nakedT (compsV us turn 1), nakedT (compsV us turn 2), nakedT (compsV us turn 3), nakedT (compsV us turn 4), nakedT (compsV us turn 5), nakedT (compsV us turn 6)] = [pathV us turn 0, pathV us turn 1, pathV us turn 2, pathV us turn 3, pathV us turn 4, pathV us turn 5, pathV us turn 6]
  rw [h 1 (by omega) (by omega), h 2 (by omega) (by omega), h 3 (by omega) (by omega), h 4 (by omega) (by omega), h 5 (by omega) (by omega), h 6 (by omega) (by omega)]
  rfl
theorem letters_inj : ∀ i < 6, ∀ j < 6, letters.getD i default = letters.getD j default → i = j := by decide +kernel
theorem nm_inj {i j : Nat} (hi : i < 6) (hj : j < 6) (h : nm (i + turn) = nm (j + turn)) : i = j := by
  unfold nm at h
  have := letters_inj _ (Nat.mod_lt _ (by decide)) _ (Nat.mod_lt _ (by decide)) h
  omega
theorem lcp_append : ∀ (p a b : List Str), lcp (p ++ a) (p ++ b) = p ++ lcp a b
  | [], _, _ => rfl
  | x :: p, a, b => by
    rw [List.cons_append, List.cons_append, lcp, if_pos rfl, lcp_append p a b]; rfl
/-- commonpath of two folders' texts -/
theorem cpath_eq (T : Tree us) (ht : turn < 6) {a b z : Nat} {ua ub : List Nat} (ha : a ≤ 6) (hb : b ≤ 6) (hz : z ≤ 6) (e1 : abv us a = ua ++ abv us z) (e2 : abv us b = ub ++ abv us z) (d1 : ∀ u ∈ ua, u ∉ abv us b) (d2 : ∀ u ∈ ub, u ∉ abv us a) :
    cpathF (partsF (pathV us turn a)) (partsF (pathV us turn b)) = pathV us turn z := by
  have fa := (okPath_facts (okV T ht ha)).2.2.2.2.2.1
  have fb := (okPath_facts (okV T ht hb)).2.2.2.2.2.1
  have fz := (okPath_facts (okV T ht hz)).2.2.2.2.2.2.1
  unfold cpathF pathV
  rw [fa, fb]
  have hl : lcp (compsV us turn a) (compsV us turn b) = compsV us turn z := by
    unfold compsV namesOf
    rw [pl_append T hz e1, pl_append T hz e2, List.map_append, List.map_append, lcp_append]
    suffices h : lcp ((ua.reverse.map (· - 1)).map fun k => nm (k + turn)) ((ub.reverse.map (· - 1)).map fun k => nm (k + turn)) = [] by rw [h, List.append_nil]
    cases hu : ua.reverse with
    | nil => rfl
    | cons x r =>
      cases hv : ub.reverse with
      | nil => rfl
      | cons y r' =>
        have hx : x ∈ ua := List.mem_reverse.mp (by rw [hu]; exact .head _)
        have hy : y ∈ ub := List.mem_reverse.mp (by rw [hv]; exact .head _)
        have hxa : x ∈ abv us a := by rw [e1]; exact List.mem_append_left _ hx
        have hyb : y ∈ abv us b := by rw [e2]; exact List.mem_append_left _ hy
        have x6 := abv_le T a ha x hxa
        have y6 := abv_le T b hb y hyb
        have x0 : x ≠ 0 := fun e => d1 x hx (by rw [e]; exact abv_zero_mem T b hb)
        have y0 : y ≠ 0 := fun e => d2 y hy (by rw [e]; exact abv_zero_mem T a ha)
        have hne : nm (x - 1 + turn) ≠ nm (y - 1 + turn) := fun e => by
          have h1 := nm_inj (by omega) (by omega) e
          have h2 : x = y := by omega
          exact d1 x hx (by rw [h2]; exact hyb)
        show lcp (nm (x - 1 + turn) :: _) (nm (y - 1 + turn) :: _) = []
        rw [lcp, if_neg hne]
  rw [hl]
  exact fz
theorem comps_inj (T : Tree us) {a b : Nat} (ha : a ≤ 6) (hb : b ≤ 6) (h : compsV us turn a = compsV us turn b) : a = b := by
  by_cases a0 : a = 0
  · by_cases b0 : b = 0
    · omega
    · rw [comps_up T (by omega) hb, a0] at h
      have := congrArg List.length h
      simp [compsV, pl, abv_zero, namesOf] at this
  · by_cases b0 : b = 0
    · rw [comps_up T (by omega) ha, b0] at h
      have := congrArg List.length h
      simp [compsV, pl, abv_zero, namesOf] at this
    · rw [comps_up T (by omega) ha, comps_up T (by omega) hb] at h
      have h1 := congrArg List.getLast? h
      rw [List.getLast?_concat, List.getLast?_concat] at h1
      have := nm_inj (by omega) (by omega) (Option.some.inj h1)
      omega
theorem pathV_inj (T : Tree us) (ht : turn < 6) {a b : Nat} (ha : a ≤ 6) (hb : b ≤ 6) (h : pathV us turn a = pathV us turn b) : a = b := by
  have fa := (okPath_facts (okV T ht ha)).2.2.2.2.2.1
  have fb := (okPath_facts (okV T ht hb)).2.2.2.2.2.1
  unfold pathV at h
  rw [h, fb] at fa
  exact (comps_inj T ha hb fa.symm)
theorem strLt_trans {x y z : Str} (h1 : strLt x y = true) (h2 : strLt y z = true) : strLt x z = true := by
  unfold strLt at *
  exact decide_eq_true (List.lt_trans (of_decide_eq_true h1) (of_decide_eq_true h2))
/-- a folder's text stands ahead of those below it -/
theorem pathV_lt (T : Tree us) (ht : turn < 6) : ∀ v, v ≤ 6 → ∀ z ∈ abv us v, z ≠ v → strLt (pathV us turn z) (pathV us turn v) = true :=
  T.ind (fun z hz hne => by rw [abv_zero] at hz; simp at hz; exact absurd hz hne) fun v h0 h6 ih z hz hne => by
    have hl := (okL T ht h0 h6).2.2.1
    rw [abv_up T h0 h6] at hz
    rcases List.mem_cons.mp hz with e | hz
    · exact absurd e hne
    · by_cases e : z = upT us v
      · rw [e]; exact hl
      · exact strLt_trans (ih z hz e) hl
theorem climb_eq (T : Tree us) (ht : turn < 6) {z : Nat} (hz : z ≤ 6) : ∀ (ua : List Nat) (a : Nat), a ≤ 6 → abv us a = ua ++ abv us z → Climb (pathV us turn z) (pathV us turn a) (ua.map (pathV us turn))
  | [], a, ha, e => by
    obtain ⟨r, e1⟩ := abv_head T ha
    obtain ⟨r', e2⟩ := abv_head T hz
    rw [List.nil_append, e1, e2] at e
    have : a = z := (List.cons.inj e).1
    subst this
    exact .here
  | u :: ua, a, ha, e => by
    have a0 : a ≠ 0 := by
      rintro rfl
      rw [abv_zero] at e
      have h1 := congrArg List.length e
      have h2 := List.length_pos_of_mem (abv_self T hz)
      rw [List.length_append, List.length_cons] at h1
      simp at h1
      omega
    have hup := (T.up_lt (by omega) ha).1
    obtain ⟨_, hd, _, _⟩ := okL T ht (v := a) (by omega) ha
    have hz' : z ∈ abv us a := by rw [e]; exact List.mem_append_right _ (abv_self T hz)
    have hn := abv_nodup T a ha
    rw [e] at hn
    rw [abv_up T (by omega) ha, List.cons_append] at e
    obtain ⟨e1, e2⟩ := List.cons.inj e
    subst e1
    have hne : a ≠ z := by
      rintro rfl
      rw [List.cons_append, List.nodup_cons] at hn
      exact hn.1 (List.mem_append_right _ (abv_self T hz))
    have ih := climb_eq T ht hz ua (upT us a) (by omega) e2
    refine .up (fun q => hne (pathV_inj T ht ha hz q)) (okPath_facts (okV T ht ha)).2.1 ?_
    rw [hd]
    exact ih
end
end M2Part
section E10Part
set_option linter.unusedVariables false
section
variable {h₀ h h' : Heap} {L Lf : Addr} {m : Str → Option Value}
theorem keep_hide2 (F : Fr h₀ L h m) (hf : h₀.get? Lf = none) : ∀ b o, h₀.get? b = some o → (hideAll h [L, Lf]).get? b = some o := fun b o e => hideAll_get _ (F.keep b o e) fun q => by
  simp only [List.mem_cons, List.not_mem_nil, or_false] at q
  rcases q with q | q
  · subst q; rw [Heap.get?_none_of_le F.above] at e; cases e
  · subst q; rw [hf] at e; cases e
theorem Fr.back2 (F : Fr h₀ L h m) (hf : h₀.get? Lf = none) {o1 : Obj} (e1 : h.get? L = some o1) (k : ∀ c o, (hideAll h [L, Lf]).get? c = some o → h'.get? c = some o) (e1' : ∃ sl, h'.get? L = some { o1 with slots := sl }) : Fr h₀ L h' m := by
  obtain ⟨oL, es, ep, hL, hd, hk, hn⟩ := F.ns
  rw [e1] at hL
  cases hL
  obtain ⟨sl, e⟩ := e1'
  exact ⟨⟨_, es, ep, e, hd, hk, hn⟩, fun c o q => k _ _ (keep_hide2 F hf c o q), F.above⟩
theorem News.back2 {rest : List (Addr × Obj)} (N : News h₀ L h rest) (ap : ∀ p ∈ rest, p.1 ≠ Lf) (k : ∀ c o, (hideAll h [L, Lf]).get? c = some o → h'.get? c = some o) : News h₀ L h' rest := fun p hp =>
  ⟨k _ _ (hideAll_get _ (N p hp).1 fun q => by
    simp only [List.mem_cons, List.not_mem_nil, or_false] at q
    rcases q with q | q
    · exact (N p hp).2.1 q
    · exact ap p hp q), (N p hp).2⟩
theorem St.hide2 {w : World} {mean : ExcName → Option Value} {mg mb : Str → Option Value} (X : (hd.heap_1 w.params).In h₀) (T : Top hd.view_1 (looseW hd.view_1 []) mean mg mb h₀) (F : Fr h₀ L h m) (hf : h₀.get? Lf = none) : St w mean mg mb (hideAll h [L, Lf]) :=
  ⟨X.keeps (keep_hide2 F hf), T.keeps (keep_hide2 F hf)⟩
end
/-- a dict's pairs: numbers to numbers -/
noncomputable def KvsAre (kvs : List (Int × Value)) (cs : List (Nat × Nat)) : Prop := kvs.length = cs.length ∧ ∀ (i : Nat) (q : Nat × Nat), cs[i]? = some q → ∃ t, kvs[i]? = some ((q.1 : Int), Value.int (q.2 : Int) t)
theorem KvsAre.nil : KvsAre [] [] := ⟨rfl, fun i q h => by simp at h⟩
theorem KvsAre.cons_inv {kvs : List (Int × Value)} {q : Nat × Nat} {cs : List (Nat × Nat)} (h : KvsAre kvs (q :: cs)) : ∃ t r, kvs = ((q.1 : Int), Value.int (q.2 : Int) t) :: r ∧ KvsAre r cs := by
  obtain ⟨h1, h2⟩ := h
  cases kvs with
  | nil => simp at h1
  | cons p r =>
    obtain ⟨t, e⟩ := h2 0 q rfl
    simp only [List.getElem?_cons_zero, Option.some.injEq] at e
    exact ⟨t, r, by rw [e], by simpa using h1, fun i q' hq => by simpa using h2 (i + 1) q' (by simpa using hq)⟩
theorem KvsAre.value {k v : Nat} : ∀ {cs : List (Nat × Nat)} {kvs : List (Int × Value)}, KvsAre kvs cs → colOf cs k = some v → ∃ t, valueAt kvs (k : Int) = some (.int (v : Int) t)
  | [], _, _, h => by simp [colOf] at h
  | q :: cs, kvs, hk, h => by
    obtain ⟨t, r, rfl, hr⟩ := hk.cons_inv
    by_cases e : q.1 = k
    · have hv : q.2 = v := by simpa [colOf, e] using h
      exact ⟨t, by simp [valueAt, e, hv]⟩
    · have h' : colOf cs k = some v := by
        unfold colOf at h ⊢
        rw [List.find?_cons_of_neg (by simpa using e)] at h
        exact h
      obtain ⟨t', e'⟩ := KvsAre.value hr h'
      refine ⟨t', ?_⟩
      unfold valueAt at e' ⊢
      rw [List.find?_cons_of_neg (by simpa using fun q' : ((q.1 : Nat) : Int) = (k : Int) => e (by omega))]
      exact e'
theorem KvsAre.absent {k : Nat} : ∀ {cs : List (Nat × Nat)} {kvs : List (Int × Value)}, KvsAre kvs cs → (∀ q ∈ cs, q.1 ≠ k) → valueAt kvs (k : Int) = none
  | [], kvs, hk, _ => by
    have : kvs = [] := List.length_eq_zero_iff.mp hk.1
    subst this; rfl
  | q :: cs, kvs, hk, h => by
    obtain ⟨t, r, rfl, hr⟩ := hk.cons_inv
    have e' := KvsAre.absent hr fun q' hq => h q' (.tail _ hq)
    unfold valueAt at e' ⊢
    rw [List.find?_cons_of_neg (by simpa using fun q' : ((q.1 : Nat) : Int) = (k : Int) => h q (.head _) (by omega))]
    exact e'
theorem KvsAre.snoc {kvs : List (Int × Value)} {cs : List (Nat × Nat)} (h : KvsAre kvs cs) (k v : Nat) (t : Tok) : KvsAre (kvs ++ [((k : Int), .int (v : Int) t)]) (cs ++ [(k, v)]) := by
  obtain ⟨h1, h2⟩ := h
  refine ⟨by simp [h1], fun i q hq => ?_⟩
  by_cases hi : i < cs.length
  · rw [List.getElem?_append_left hi] at hq
    rw [List.getElem?_append_left (by omega)]
    exact h2 i q hq
  · rw [List.getElem?_append_right (by omega)] at hq
    rw [List.getElem?_append_right (by omega), h1]
    have : i - cs.length = 0 := by
      have := (List.getElem?_eq_some_iff.mp hq).1
      simp at this; omega
    rw [this] at hq ⊢
    simp at hq
    subst hq
    exact ⟨t, rfl⟩
/-- the key that a walk over the dict gives -/
theorem KvsAre.key {prog : Program} {w : World} {kvs : List (Int × Value)} {cs : List (Nat × Nat)} (h : KvsAre kvs cs) {i : Nat} (hi : i < kvs.length) {v : Value} (hv : ∃ k x, kvs[i]? = some (k, x) ∧ (intKind prog w).is k v = true) : ∃ q t, cs[i]? = some q ∧ v = .int (q.1 : Int) t := by
  obtain ⟨h1, h2⟩ := h
  obtain ⟨q, hq⟩ : ∃ q, cs[i]? = some q := ⟨_, List.getElem?_eq_getElem (by omega)⟩
  obtain ⟨t, e⟩ := h2 i q hq
  obtain ⟨k, x, e', hk⟩ := hv
  rw [e] at e'
  cases e'
  obtain ⟨t', rfl⟩ : ∃ t', v = .int (q.1 : Int) t' := by
    have hk' : Value.isInt (q.1 : Int) v = true := hk
    cases v <;> simp [Value.isInt] at hk'
    rename_i n t0
    exact ⟨t0, by rw [hk']⟩
  exact ⟨q, t', hq, rfl⟩
/-- the colours of keys that differ -/
theorem colOf_at {cs : List (Nat × Nat)} (hn : cs.Pairwise fun a b => a.1 ≠ b.1) {i : Nat} {q : Nat × Nat} (h : cs[i]? = some q) : colOf cs q.1 = some q.2 := by
  induction cs generalizing i with
  | nil => simp at h
  | cons p r ih =>
    rw [List.pairwise_cons] at hn
    cases i with
    | zero => simp at h; subst h; simp [colOf]
    | succ i =>
      have hr := ih hn.2 (by simpa using h)
      unfold colOf at hr ⊢
      rw [List.find?_cons_of_neg (by simpa using hn.1 q (List.mem_of_getElem? (by simpa using h)))]
      exact hr
theorem usedF_step (W : List (List Str)) (t : Str) {cs : List (Nat × Nat)} {i : Nat} {q : Nat × Nat} (h : cs[i]? = some q) : usedF W t (cs.take (i + 1)) = usedF W t (cs.take i) ++ (if (W.getD q.1 []).contains t then [q.2] else []) := by
  unfold usedF
  rw [List.take_add_one, h, Option.toList_some, List.filter_append, List.map_append, List.filter_cons, List.filter_nil]
  split <;> rfl
end E10Part
section E11Part
set_option linter.unusedVariables false
section
variable {h₀ h h' : Heap} {L Lf : Addr} {m : Str → Option Value}
theorem News.ne2 {rest : List (Addr × Obj)} (N : News h₀ L h rest) (ap : ∀ p ∈ rest, p.1 ≠ Lf) {X : Addr} (hX : (hideAll h [L, Lf]).get? X = none) : ∀ p ∈ rest, @Ne Nat X p.1 := fun p hp e => by
  have e' : X = p.1 := e
  have := hideAll_get (l := [L, Lf]) (N p hp).1 (fun q => by
    simp only [List.mem_cons, List.not_mem_nil, or_false] at q
    rcases q with q | q
    · exact (N p hp).2.1 q
    · exact ap p hp q)
  rw [← e', hX] at this
  cases this
theorem News.add2 {rest : List (Addr × Obj)} (F : Fr h₀ L h m) (hf : h₀.get? Lf = none) (N : News h₀ L h' rest) {X : Addr} {o : Obj} (hX : (hideAll h [L, Lf]).get? X = none) (hL : X ≠ L) (e : h'.get? X = some o) : News h₀ L h' ((X, o) :: rest) := by
  intro p hp
  rcases List.mem_cons.mp hp with rfl | hp
  · refine ⟨e, hL, ?_⟩
    cases q : h₀.get? X with
    | none => rfl
    | some o' => rw [keep_hide2 F hf _ _ q] at hX; cases hX
  · exact N p hp
end
theorem dif_free {ns : List Int} {us : List Nat} (hp : ns.Perm (zs us)) : dif ns 6 = zs (freeF us) := by
  unfold dif freeF zs
  rw [List.filter_map]
  congr 1
  refine List.filter_congr fun x _ => ?_
  have : ns.contains ((x : Nat) : Int) = us.contains x := by
    rw [Bool.eq_iff_iff]
    simp only [List.contains_iff_mem]
    rw [hp.mem_iff]
    unfold zs
    rw [List.mem_map]
    exact ⟨fun ⟨a, ha, e⟩ => by rw [← show a = x by omega]; exact ha, fun h => ⟨x, h, rfl⟩⟩
  simp only [Function.comp, this]
theorem perm_any {ns : List Int} {us : List Nat} (hp : ns.Perm (zs us)) (x : Nat) : (ns.any fun y => y == ((x : Nat) : Int)) = us.contains x := by
  rw [← zs_any, Bool.eq_iff_iff]
  simp only [List.any_eq_true]
  exact ⟨fun ⟨y, h, e⟩ => ⟨y, hp.mem_iff.mp h, e⟩, fun ⟨y, h, e⟩ => ⟨y, hp.mem_iff.mpr h, e⟩⟩
theorem strict_of {ns : List Int} (hs : ns.Pairwise (· ≤ ·)) (hn : ns.Nodup) : ns.Pairwise (· < ·) := by
  have := hs.and hn
  exact this.imp fun ⟨a, b⟩ => by omega
theorem zs_nodup {us : List Nat} (h : us.Nodup) : (zs us).Nodup := by
  unfold zs
  rw [List.Nodup, List.pairwise_map]
  exact h.imp fun q e => q (by omega)
theorem zs_len (us : List Nat) : (zs us).length = us.length := List.length_map ..
theorem zs_mem {us : List Nat} {x : Int} (h : x ∈ zs us) : ∃ u ∈ us, x = (u : Int) := by
  unfold zs at h
  obtain ⟨u, hu, rfl⟩ := List.mem_map.mp h
  exact ⟨u, hu, rfl⟩
theorem nodup_len : ∀ (l us : List Nat), l.Nodup → (∀ x ∈ l, x ∈ us) → l.length ≤ us.length
  | [], _, _, _ => Nat.zero_le _
  | a :: l, us, hn, h => by
    rw [List.nodup_cons] at hn
    have := nodup_len l (us.erase a) hn.2 fun x hx => (List.mem_erase_of_ne (fun e : x = a => hn.1 (by rw [← e]; exact hx))).mpr (h x (.tail _ hx))
    have h2 := List.length_erase_of_mem (h a (.head _))
    have h3 := List.length_pos_of_mem (h a (.head _))
    rw [List.length_cons]
    omega
theorem free_ne {us : List Nat} (h : us.length ≤ 5) : ∃ x r, freeF us = x :: r := by
  cases hq : freeF us with
  | cons x r => exact ⟨x, r, rfl⟩
  | nil =>
    exfalso
    have hall : ∀ c ∈ List.range 6, c ∈ us := by
      intro c hc
      unfold freeF at hq
      have := (List.filter_eq_nil_iff.mp hq) c hc
      simpa using this
    have hlen := nodup_len _ us List.nodup_range hall
    simp at hlen
    omega
theorem paint_step {W : List (List Str)} {p : Nat} {r : List Nat} {cc cs : List (Nat × Nat)} (h : paint W (p :: r) cc = some cs) :
    ((usedF W (topOf W p) cc).Nodup ∧ (usedF W (topOf W p) cc).length ≤ 5 ∧ (∀ u ∈ usedF W (topOf W p) cc, u ≤ 4) ∧ (∀ q ∈ cc, q.1 ≠ p)) ∧ paint W r (cc ++ [(p, (freeF (usedF W (topOf W p) cc)).headD 0)]) = some cs := by
  unfold paint at h
  split at h
  · exact ⟨by assumption, h⟩
  · cases h
end E11Part
section M3Part
set_option linter.unusedVariables false
theorem kl_irr (a : Str × Int) : keyLt a a = false := by simp [keyLt]
theorem kl_eq (a b : Str × Int) : keyLt a b = if a.1 = b.1 then decide (a.2 < b.2) else strLt a.1 b.1 := rfl
theorem strLt_tr {x y z : Str} (h1 : strLt x y = true) (h2 : strLt y z = true) : strLt x z = true := by
  unfold strLt at *
  exact decide_eq_true (List.lt_trans (of_decide_eq_true h1) (of_decide_eq_true h2))
theorem kl_trans {a b c : Str × Int} (h1 : keyLt a b = true) (h2 : keyLt b c = true) : keyLt a c = true := by
  rw [kl_eq] at *
  by_cases e1 : a.1 = b.1
  · rw [if_pos e1] at h1
    by_cases e2 : b.1 = c.1
    · rw [if_pos e2] at h2
      rw [if_pos (e1.trans e2)]
      simp only [decide_eq_true_eq] at *
      omega
    · rw [if_neg e2] at h2
      rw [if_neg (fun e => e2 (e1.symm.trans e)), e1]
      exact h2
  · rw [if_neg e1] at h1
    by_cases e2 : b.1 = c.1
    · rw [if_neg (fun e => e1 (e.trans e2.symm)), ← e2]
      exact h1
    · rw [if_neg e2] at h2
      have hne : a.1 ≠ c.1 := by
        intro e
        rw [e] at h1
        rw [strLt_asymm h1] at h2
        cases h2
      rw [if_neg hne]
      exact strLt_tr h1 h2
theorem kl_tot {a b : Str × Int} (h : a.2 ≠ b.2) : keyLt a b = true ∨ keyLt b a = true := by
  rw [kl_eq, kl_eq]
  by_cases e : a.1 = b.1
  · rw [if_pos e, if_pos e.symm]
    simp only [decide_eq_true_eq]
    omega
  · rw [if_neg e, if_neg (fun q => e q.symm)]
    cases h1 : strLt a.1 b.1 with
    | true => exact .inl rfl
    | false =>
      cases h2 : strLt b.1 a.1 with
      | true => exact .inr rfl
      | false => exact absurd (strLt_conn h1 h2) e
theorem kl_asymm {a b : Str × Int} (h : keyLt a b = true) : keyLt b a = false := by
  cases h2 : keyLt b a with
  | false => rfl
  | true =>
    have := kl_trans h h2
    rw [kl_irr] at this
    cases this
theorem runT_congr {lt lt' : Nat → Nat → Bool} (h : ∀ i j, i < 6 → j < 6 → lt i j = lt' i j) : ∀ t : KasT (Array Nat), okT t = true → runT lt t = runT lt' t
  | .ret _, _ => rfl
  | .ask i j k, ho => by
    unfold okT at ho
    simp only [Bool.and_eq_true, decide_eq_true_eq] at ho
    have hk : okT (k (lt i j)) = true := by
      cases lt i j
      · exact ho.2
      · exact ho.1.2
    show runT lt (k (lt i j)) = runT lt' (k (lt' i j))
    rw [← h i j ho.1.1.1 ho.1.1.2]
    exact runT_congr h _ hk
noncomputable def leafOk : KasT (Array Nat) → Bool
  | .ret a => a.toList.all fun x => decide (x < 6)
  | .ask _ _ k => leafOk (k true) && leafOk (k false)
theorem leaf_ok : leafOk (kas_sort 6) = true := by decide +kernel
theorem runT_lt6 {lt : Nat → Nat → Bool} : ∀ t : KasT (Array Nat), leafOk t = true → ∀ x ∈ (runT lt t).toList, x < 6
  | .ret a, h, x, hx => by
    unfold leafOk at h
    have := List.all_eq_true.mp h x hx
    simpa using this
  | .ask i j k, h, x, hx => by
    unfold leafOk at h
    simp only [Bool.and_eq_true] at h
    have hk : leafOk (k (lt i j)) = true := by
      cases lt i j
      · exact h.2
      · exact h.1
    exact runT_lt6 _ hk x hx
theorem map_inj_on {f : Nat → Nat} : ∀ {l l' : List Nat}, (∀ x ∈ l, ∀ y ∈ l', f x = f y → x = y) → l.map f = l'.map f → l = l'
  | [], [], _, _ => rfl
  | [], _ :: _, _, h => by cases h
  | _ :: _, [], _, h => by cases h
  | x :: l, y :: l', hi, h => by
    rw [List.map_cons, List.map_cons] at h
    obtain ⟨h1, h2⟩ := List.cons.inj h
    rw [hi x (.head _) y (.head _) h1, map_inj_on (fun a ha b hb => hi a (.tail _ ha) b (.tail _ hb)) h2]
theorem full_perm {l : List Nat} (hn : l.Nodup) (h6 : ∀ x ∈ l, x < 6) (hl : l.length = 6) : l.Perm (List.range 6) := by
  rw [List.perm_ext_iff_of_nodup hn List.nodup_range]
  intro a
  rw [List.mem_range]
  refine ⟨h6 a, fun ha => ?_⟩
  by_cases hm : a ∈ l
  · exact hm
  · exfalso
    have h1 := nodup_len l ((List.range 6).erase a) hn fun x hx => (List.mem_erase_of_ne (fun e : x = a => hm (by rw [← e]; exact hx))).mpr (List.mem_range.mpr (h6 x hx))
    have h2 := List.length_erase_of_mem (List.mem_range.mpr ha)
    rw [List.length_range] at h2
    omega
/-- the heap and sorted give the six in one order -/
theorem order_eq (κ : Nat → Str × Int) (hκ : ∀ i, (κ i).2 = (i : Int)) :
    (popAll (fun i j : Fin 6 => keyLt (κ i.val) (κ j.val)) 6 (heapifyF (fun i j : Fin 6 => keyLt (κ i.val) (κ j.val)) (List.finRange 6))).map Fin.val = (runT (fun i j => keyLt (κ i) (κ j)) (kas_sort 6)).toList ∧
    (runT (fun i j => keyLt (κ i) (κ j)) (kas_sort 6)).toList.Perm (List.range 6) ∧ (runT (fun i j => keyLt (κ i) (κ j)) (kas_sort 6)).toList.Pairwise fun a b => keyLt (κ a) (κ b) = true := by
  have hne : ∀ i j : Nat, i ≠ j → (κ i).2 ≠ (κ j).2 := fun i j h e => by rw [hκ, hκ] at e; exact h (Int.ofNat_inj.mp e)
  obtain ⟨rk, hrk, hlt⟩ := rank_exists (fun i j => keyLt (κ i.val) (κ j.val)) (fun i => kl_irr _) (fun i j k => kl_trans) (fun i j h => kl_tot (hne _ _ (fun e => h (Fin.ext e))))
  have hltN : ∀ i j, i < 6 → j < 6 → keyLt (κ i) (κ j) = ltN rk i j := fun i j hi hj => hlt ⟨i, hi⟩ ⟨j, hj⟩
  have hinj : ∀ i, i < 6 → ∀ j, j < 6 → rk.getD i 0 = rk.getD j 0 → i = j := fun i hi j hj e => by
    by_cases q : i = j
    · exact q
    · rcases kl_tot (hne i j q) with h | h
      · rw [hltN i j hi hj] at h
        unfold ltN at h
        simp only [decide_eq_true_eq] at h
        omega
      · rw [hltN j i hj hi] at h
        unfold ltN at h
        simp only [decide_eq_true_eq] at h
        omega
  have e1 : (fun i j : Fin 6 => keyLt (κ i.val) (κ j.val)) = ltR rk := by funext i j; exact hlt i j
  have e2 := runT_congr (lt := fun i j => keyLt (κ i) (κ j)) hltN (kas_sort 6) sort_ok
  have h1 := List.all_eq_true.mp heap_all rk hrk
  have h2 := List.all_eq_true.mp sort_all rk hrk
  simp only [beq_iff_eq] at h1 h2
  have h6 := runT_lt6 (lt := fun i j => keyLt (κ i) (κ j)) (kas_sort 6) leaf_ok
  rw [e1, e2]
  rw [e2] at h6
  generalize (runT (ltN rk) (kas_sort 6)).toList = L2 at *
  generalize popAll (ltR rk) 6 (heapifyF (ltR rk) (List.finRange 6)) = L1 at *
  have hnd : L2.Nodup := by
    have : (L2.map fun i => rk.getD i 0).Nodup := by rw [h2]; exact List.nodup_range
    rw [List.Nodup, List.pairwise_map] at this
    exact this.imp fun q e => q (by rw [e])
  have hll : L2.length = 6 := by
    have := congrArg List.length h2
    rw [List.length_map, List.length_range] at this
    exact this
  refine ⟨map_inj_on (f := fun i => rk.getD i 0) (fun x hx y hy e => ?_) ?_, full_perm hnd h6 hll, ?_⟩
  · obtain ⟨i, _, rfl⟩ := List.mem_map.mp hx
    exact hinj _ i.isLt _ (h6 y hy) e
  · rw [List.map_map, h2]
    exact h1
  · have : (L2.map fun i => rk.getD i 0).Pairwise (· < ·) := by rw [h2]; exact List.pairwise_lt_range
    rw [List.pairwise_map] at this
    refine this.imp_of_mem fun ha hb q => ?_
    rw [hltN _ _ (h6 _ ha) (h6 _ hb)]
    unfold ltN
    exact decide_eq_true q
end M3Part
section M4Part
set_option linter.unusedVariables false
/-- what the greedy colouring needs to know of the rows -/
structure Geo (W : List (List Str)) (R : List (List Nat)) : Prop where
  wlen : R.length = 6
  top : ∀ p < 6, rowTop R p < 7 ∧ rowTop R p ∈ R.getD p []
  same : ∀ p < 6, ∀ q < 6, (W.getD q []).contains (topOf W p) = (R.getD q []).contains (rowTop R p)
  met : ∀ p < 6, ∀ q < 6, lw W q p = true → meets R p q = true → rowTop R p ∈ R.getD q []
theorem meets_of {R : List (List Nat)} {p q x : Nat} (h1 : x ∈ R.getD p []) (h2 : x ∈ R.getD q []) : meets R p q = true := by
  unfold meets
  exact List.any_eq_true.mpr ⟨x, h1, List.contains_iff_mem.mpr h2⟩
theorem meets_symm {R : List (List Nat)} {p q : Nat} (h : meets R p q = true) : meets R q p = true := by
  unfold meets at h
  obtain ⟨x, h1, h2⟩ := List.any_eq_true.mp h
  exact meets_of (List.contains_iff_mem.mp h2) h1
noncomputable def loadR (R : List (List Nat)) (v : Nat) : Nat := ((List.range 6).filter fun k => (R.getD k []).contains v).length
structure Inv (R : List (List Nat)) (M : Nat) (cs : List (Nat × Nat)) (pre : List Nat) : Prop where
  keys : cs.map (·.1) = pre
  apart : cs.Pairwise fun a b => meets R b.1 a.1 = true → a.2 ≠ b.2
  low : ∀ (i : Nat) (q : Nat × Nat), cs[i]? = some q → q.2 ≤ i
  most : ∀ q ∈ cs, q.2 < M
section
variable {W : List (List Str)} {R : List (List Nat)} {M : Nat}
theorem met_eq (G : Geo W R) {p : Nat} (hp : p < 6) {cs : List (Nat × Nat)} (h : ∀ q ∈ cs, q.1 < 6 ∧ lw W q.1 p = true) : usedF W (topOf W p) cs = metF R p cs := by
  unfold usedF metF
  congr 1
  refine List.filter_congr fun q hq => ?_
  obtain ⟨h6, hl⟩ := h q hq
  rw [G.same p hp q.1 h6, Bool.eq_iff_iff, List.contains_iff_mem]
  exact ⟨fun h => meets_of (G.top p hp).2 h, fun h => G.met p hp q.1 h6 hl h⟩
theorem free_le {us : List Nat} {c : Nat} {r : List Nat} (h : freeF us = c :: r) : c ∉ us ∧ c < 6 ∧ c ≤ us.length := by
  have hm : c ∈ freeF us := by rw [h]; exact .head _
  unfold freeF at hm
  rw [List.mem_filter] at hm
  obtain ⟨h1, h2⟩ := hm
  have hc6 := List.mem_range.mp h1
  have hnu : c ∉ us := by simpa using h2
  refine ⟨hnu, hc6, ?_⟩
  have hs : (freeF us).Pairwise (· < ·) := by
    unfold freeF
    exact List.pairwise_lt_range.filter _
  rw [h] at hs
  have hall : ∀ d ∈ List.range c, d ∈ us := by
    intro d hd
    have hdc := List.mem_range.mp hd
    by_cases hdu : d ∈ us
    · exact hdu
    · exfalso
      have hdf : d ∈ freeF us := by
        unfold freeF
        rw [List.mem_filter]
        exact ⟨List.mem_range.mpr (by omega), by simpa using hdu⟩
      rw [h] at hdf
      rcases List.mem_cons.mp hdf with e | e
      · omega
      · have := (List.pairwise_cons.mp hs).1 d e
        omega
  have := nodup_len _ us List.nodup_range hall
  rw [List.length_range] at this
  exact this
theorem greedy_step (G : Geo W R) (hM : ∀ v < 7, loadR R v ≤ M) {p : Nat} {pre : List Nat} {cs : List (Nat × Nat)} (hp : p < 6) (h6 : ∀ q ∈ pre, q < 6) (hlt : ∀ q ∈ pre, lw W q p = true) (hnd : (pre ++ [p]).Nodup) (hl : pre.length ≤ 5) (I : Inv R M cs pre) :
    usedF W (topOf W p) cs = metF R p cs ∧ ((metF R p cs).Nodup ∧ (metF R p cs).length ≤ 5 ∧ (∀ u ∈ metF R p cs, u ≤ 4) ∧ (∀ q ∈ cs, q.1 ≠ p)) ∧ Inv R M (cs ++ [(p, (freeF (metF R p cs)).headD 0)]) (pre ++ [p]) := by
  have hmem : ∀ q ∈ cs, q.1 ∈ pre := fun q hq => by rw [← I.keys]; exact List.mem_map_of_mem hq
  have hcl : cs.length = pre.length := by rw [← I.keys, List.length_map]
  have hpre : ∀ q ∈ cs, q.1 < 6 ∧ lw W q.1 p = true := fun q hq => ⟨h6 _ (hmem q hq), hlt _ (hmem q hq)⟩
  have hnp : ∀ q ∈ cs, q.1 ≠ p := fun q hq e => by
    rw [List.nodup_append] at hnd
    exact hnd.2.2 q.1 (hmem q hq) p (.head _) e
  have hpass : ∀ q ∈ cs.filter (fun q => meets R p q.1), rowTop R p ∈ R.getD q.1 [] := fun q hq => by
    obtain ⟨h1, h2⟩ := List.mem_filter.mp hq
    exact G.met p hp q.1 (hpre q h1).1 (hpre q h1).2 h2
  have hun : (metF R p cs).Nodup := by
    unfold metF
    rw [List.Nodup, List.pairwise_map]
    exact (I.apart.filter _).imp_of_mem fun ha hb q => q (meets_of (hpass _ hb) (hpass _ ha))
  have hule : (metF R p cs).length ≤ cs.length := by
    unfold metF
    rw [List.length_map]
    exact List.length_filter_le _ _
  have hu5 : (metF R p cs).length ≤ 5 := by omega
  have hu4 : ∀ u ∈ metF R p cs, u ≤ 4 := fun u hu => by
    unfold metF at hu
    obtain ⟨q, hq, rfl⟩ := List.mem_map.mp hu
    obtain ⟨h1, _⟩ := List.mem_filter.mp hq
    obtain ⟨i, hi⟩ := List.mem_iff_getElem?.mp h1
    have := I.low i q hi
    have := (List.getElem?_eq_some_iff.mp hi).1
    omega
  obtain ⟨c, r, hf⟩ := free_ne hu5
  obtain ⟨c1, c2, c3⟩ := free_le hf
  have hload : (metF R p cs).length + 1 ≤ M := by
    have hv := G.top p hp
    refine Nat.le_trans ?_ (hM _ hv.1)
    unfold loadR
    have h1 := nodup_len ((cs.filter (fun q => meets R p q.1)).map (·.1) ++ [p]) ((List.range 6).filter fun k => (R.getD k []).contains (rowTop R p)) ?nd ?sub
    · rw [List.length_append, List.length_map, List.length_singleton] at h1
      unfold metF
      rw [List.length_map]
      exact h1
    case nd =>
      have hsub : ((cs.filter (fun q => meets R p q.1)).map (·.1) ++ [p]).Sublist (pre ++ [p]) := by
        rw [← I.keys]
        exact (List.filter_sublist.map _).append (List.Sublist.refl _)
      exact hnd.sublist hsub
    case sub =>
      intro x hx
      rw [List.mem_filter, List.mem_range, List.contains_iff_mem]
      rcases List.mem_append.mp hx with hx | hx
      · obtain ⟨q, hq, rfl⟩ := List.mem_map.mp hx
        exact ⟨(hpre q (List.mem_filter.mp hq).1).1, hpass q hq⟩
      · rw [List.mem_singleton.mp hx]
        exact ⟨hp, hv.2⟩
  refine ⟨met_eq G hp hpre, ⟨hun, hu5, hu4, hnp⟩, ?_, ?_, ?_, ?_⟩
  · rw [List.map_append, I.keys]; rfl
  · rw [hf, List.headD_cons, List.pairwise_append]
    refine ⟨I.apart, List.pairwise_singleton _ _, fun a ha b hb hm e => ?_⟩
    rw [List.mem_singleton.mp hb] at hm e
    refine c1 ?_
    unfold metF
    rw [List.mem_map]
    exact ⟨a, List.mem_filter.mpr ⟨ha, hm⟩, e⟩
  · intro i q hq
    rw [hf, List.headD_cons] at hq
    by_cases hi : i < cs.length
    · rw [List.getElem?_append_left hi] at hq
      exact I.low i q hq
    · rw [List.getElem?_append_right (by omega)] at hq
      have hi2 : i - cs.length = 0 := by
        have := (List.getElem?_eq_some_iff.mp hq).1
        simp at this
        omega
      rw [hi2] at hq
      simp at hq
      subst hq
      show c ≤ i
      omega
  · intro q hq
    rw [hf, List.headD_cons] at hq
    rcases List.mem_append.mp hq with hq | hq
    · exact I.most q hq
    · rw [List.mem_singleton.mp hq]
      show c < M
      omega
theorem greedy (G : Geo W R) (hM : ∀ v < 7, loadR R v ≤ M) : ∀ (rest pre : List Nat) (cs : List (Nat × Nat)), (∀ q ∈ pre ++ rest, q < 6) → (pre ++ rest).Pairwise (fun a b => lw W a b = true) → (pre ++ rest).Nodup → (pre ++ rest).length ≤ 6 → Inv R M cs pre →
    paint W rest cs = some (dueP R rest cs) ∧ Inv R M (dueP R rest cs) (pre ++ rest)
  | [], pre, cs, _, _, _, _, I => ⟨rfl, by rw [List.append_nil]; exact I⟩
  | p :: rest, pre, cs, h6, hpw, hnd, hl, I => by
    have e : pre ++ p :: rest = (pre ++ [p]) ++ rest := by rw [List.append_assoc]; rfl
    have hl' : pre.length ≤ 5 := by rw [List.length_append, List.length_cons] at hl; omega
    have hnd' : (pre ++ [p]).Nodup := by rw [e, List.nodup_append] at hnd; exact hnd.1
    have hlt : ∀ q ∈ pre, lw W q p = true := fun q hq => by
      rw [List.pairwise_append] at hpw
      exact hpw.2.2 q hq p (.head _)
    obtain ⟨e1, ⟨s1, s2, s3, s4⟩, I'⟩ := greedy_step G hM (h6 p (List.mem_append_right _ (.head _))) (fun q hq => h6 q (List.mem_append_left _ hq)) hlt hnd' hl' I
    have ih := greedy G hM rest (pre ++ [p]) _ (by rw [← e]; exact h6) (by rw [← e]; exact hpw) (by rw [← e]; exact hnd) (by rw [← e]; exact hl) I'
    rw [e]
    refine ⟨?_, ih.2⟩
    unfold paint
    rw [e1, if_pos ⟨s1, s2, s3, s4⟩]
    exact ih.1
/-- the colours of the six are 0 and on, as many as the fullest folder has ways -/
theorem cols_most {cs : List (Nat × Nat)} {ord : List Nat} (hp : ord.Perm (List.range 6)) (I : Inv R M cs ord) {v : Nat} (hv : loadR R v = M) :
    (∀ k < 6, ∃ c, colOf cs k = some c ∧ (k, c) ∈ cs) ∧ (∀ c ∈ colsF cs, c < 6 ∧ c < M) ∧ ∀ c < M, c ∈ colsF cs := by
  have hnd : (cs.map (·.1)).Nodup := by rw [I.keys]; exact hp.nodup_iff.mpr List.nodup_range
  have hpw : cs.Pairwise fun a b => a.1 ≠ b.1 := by
    rw [List.Nodup, List.pairwise_map] at hnd
    exact hnd
  have hex : ∀ k < 6, ∃ c, colOf cs k = some c ∧ (k, c) ∈ cs := fun k hk => by
    have h1 : k ∈ cs.map (·.1) := by rw [I.keys]; exact hp.mem_iff.mpr (List.mem_range.mpr hk)
    obtain ⟨q, hq, rfl⟩ := List.mem_map.mp h1
    obtain ⟨j, hj⟩ := List.mem_iff_getElem?.mp hq
    exact ⟨_, colOf_at hpw hj, hq⟩
  have hcl : cs.length = 6 := by
    have := congrArg List.length I.keys
    rw [List.length_map, hp.length_eq, List.length_range] at this
    exact this
  have hcol : ∀ c ∈ colsF cs, ∃ k < 6, (k, c) ∈ cs := fun c hc => by
    unfold colsF at hc
    obtain ⟨k, hk, rfl⟩ := List.mem_map.mp hc
    obtain ⟨c, h1, h2⟩ := hex k (List.mem_range.mp hk)
    refine ⟨k, List.mem_range.mp hk, ?_⟩
    rw [h1]; exact h2
  refine ⟨hex, fun c hc => ?_, fun c hcM => ?_⟩
  · obtain ⟨k, _, hm⟩ := hcol c hc
    obtain ⟨i, hi⟩ := List.mem_iff_getElem?.mp hm
    have h1 := I.low i _ hi
    have h2 := (List.getElem?_eq_some_iff.mp hi).1
    exact ⟨by omega, I.most _ hm⟩
  · let K := (List.range 6).filter fun k => (R.getD k []).contains v
    have hK : K.length = M := hv
    have hKm : ∀ k ∈ K, k < 6 ∧ v ∈ R.getD k [] := fun k hk => by
      obtain ⟨h1, h2⟩ := List.mem_filter.mp hk
      exact ⟨List.mem_range.mp h1, List.contains_iff_mem.mp h2⟩
    have hsym : ∀ a ∈ cs, ∀ b ∈ cs, a.1 ≠ b.1 → meets R b.1 a.1 = true → a.2 ≠ b.2 := fun a ha b hb hne hm => by
      obtain ⟨i, hi⟩ := List.mem_iff_getElem?.mp ha
      obtain ⟨j, hj⟩ := List.mem_iff_getElem?.mp hb
      obtain ⟨hi1, hi2⟩ := List.getElem?_eq_some_iff.mp hi
      obtain ⟨hj1, hj2⟩ := List.getElem?_eq_some_iff.mp hj
      have hpa := List.pairwise_iff_getElem.mp I.apart
      rcases Nat.lt_trichotomy i j with q | q | q
      · have := hpa i j hi1 hj1 q
        rw [hi2, hj2] at this
        exact this hm
      · subst q
        rw [hi] at hj
        cases hj
        exact absurd rfl hne
      · have := hpa j i hj1 hi1 q
        rw [hi2, hj2] at this
        exact Ne.symm (this (meets_symm hm))
    have hcg : ∀ k < 6, (k, (colOf cs k).getD 0) ∈ cs := fun k hk => by
      obtain ⟨c, h1, h2⟩ := hex k hk
      rw [h1]; exact h2
    by_cases hm : c ∈ colsF cs
    · exact hm
    · exfalso
      have hn : (K.map fun k => (colOf cs k).getD 0).Nodup := by
        rw [List.Nodup, List.pairwise_map]
        have hKn : K.Nodup := List.nodup_range.sublist List.filter_sublist
        refine List.Pairwise.imp_of_mem (fun {a b} ha hb q => ?_) hKn
        obtain ⟨a6, av⟩ := hKm a ha
        obtain ⟨b6, bv⟩ := hKm b hb
        exact hsym _ (hcg a a6) _ (hcg b b6) q (meets_of bv av)
      have h1 := nodup_len _ ((List.range M).erase c) hn fun x hx => by
        obtain ⟨k, hk, rfl⟩ := List.mem_map.mp hx
        have hk6 := (hKm k hk).1
        have hxc : (colOf cs k).getD 0 ∈ colsF cs := by
          unfold colsF
          exact List.mem_map.mpr ⟨k, List.mem_range.mpr hk6, rfl⟩
        exact (List.mem_erase_of_ne (fun e => hm (by rw [← e]; exact hxc))).mpr (List.mem_range.mpr (I.most _ (hcg k hk6)))
      have h2 := List.length_erase_of_mem (List.mem_range.mpr hcM)
      rw [List.length_range] at h2
      rw [List.length_map, hK] at h1
      omega
theorem dsort_range : ∀ M < 7, ∀ us : List Nat, (∀ c ∈ us, c < M) → (∀ c < M, c ∈ us) → dsort us = List.range M := by
  intro M hM us h1 h2
  have e : ∀ c ∈ List.range 6, us.contains c = decide (c < M) := fun c _ => by
    rw [Bool.eq_iff_iff, List.contains_iff_mem, decide_eq_true_eq]
    exact ⟨h1 c, h2 c⟩
  unfold dsort
  rw [List.filter_congr e]
  exact (by decide : ∀ M < 7, (List.range 6).filter (fun c => decide (c < M)) = List.range M) M hM
end
end M4Part
section M5Part
set_option linter.unusedVariables false
theorem max_ex : ∀ {l : List Nat}, l ≠ [] → ∃ m ∈ l, ∀ a ∈ l, a ≤ m
  | [], h => absurd rfl h
  | [x], _ => ⟨x, .head _, fun a ha => by rw [List.mem_singleton.mp ha]; exact Nat.le_refl _⟩
  | x :: y :: l, _ => by
    obtain ⟨m, hm, h⟩ := max_ex (l := y :: l) (List.cons_ne_nil _ _)
    by_cases e : x ≤ m
    · exact ⟨m, .tail _ hm, fun a ha => by
        rcases List.mem_cons.mp ha with rfl | ha
        · exact e
        · exact h a ha⟩
    · exact ⟨x, .head _, fun a ha => by
        rcases List.mem_cons.mp ha with rfl | ha
        · exact Nat.le_refl _
        · have := h a ha; omega⟩
section
variable (nums : List Nat)
theorem tree_ups : Tree (upsF nums) := by
  refine ⟨by unfold upsF; simp, fun k u h => ?_⟩
  unfold upsF at h
  rw [List.getElem?_map] at h
  cases hk : (List.range 6)[k]? with
  | none => rw [hk] at h; cases h
  | some p =>
    rw [hk] at h
    obtain ⟨h1, h2⟩ := List.getElem?_eq_some_iff.mp hk
    rw [List.getElem_range] at h2
    subst h2
    have := (Option.some.inj h)
    rw [← this]
    exact Nat.lt_succ_iff.mp (Nat.mod_lt _ (Nat.succ_pos _))
theorem turn_lt : turnF nums < 6 := Nat.mod_lt _ (by decide)
theorem start_le (k : Nat) : startN nums k ≤ 6 := Nat.le_of_lt_succ (Nat.mod_lt _ (by decide))
theorem goal_le (k : Nat) : goalN nums k ≤ 6 := Nat.le_of_lt_succ (Nat.mod_lt _ (by decide))
theorem paths_eq : pathsF nums = (List.range 7).map (pathV (upsF nums) (turnF nums)) := joined_eq (tree_ups nums) (turn_lt nums) 6 (by omega)
theorem paths_get {v : Nat} (h : v ≤ 6) : (pathsF nums)[v]? = some (pathV (upsF nums) (turnF nums) v) := by
  rw [paths_eq, List.getElem?_map, List.getElem?_range (by omega)]; rfl
theorem paths_getD {v : Nat} (h : v ≤ 6) : (pathsF nums).getD v default = pathV (upsF nums) (turnF nums) v := by
  rw [List.getD_eq_getElem?_getD, paths_get nums h]; rfl
theorem paths_mem {x : Str} (h : x ∈ pathsF nums) : ∃ v ≤ 6, x = pathV (upsF nums) (turnF nums) v := by
  rw [paths_eq] at h
  obtain ⟨v, hv, rfl⟩ := List.mem_map.mp h
  exact ⟨v, by have := List.mem_range.mp hv; omega, rfl⟩
noncomputable def rowAt (k : Nat) : List Nat := nodesF (abv (upsF nums) (startN nums k)) (abv (upsF nums) (goalN nums k))
theorem rows_get {k : Nat} (h : k < 6) : (rowsF nums).getD k [] = rowAt nums k := map_range_getD h
theorem rows_len : (rowsF nums).length = 6 := by unfold rowsF; simp
theorem rows_get? {k : Nat} (h : k < 6) : (rowsF nums)[k]? = some (rowAt nums k) := by
  unfold rowsF
  rw [List.getElem?_map, List.getElem?_range h]; rfl
theorem ways_get {k : Nat} (h : k < 6) : (waysF nums)[k]? = some ((rowAt nums k).map fun v => (pathsF nums).getD v default) := by
  unfold waysF
  rw [List.getElem?_map, rows_get? nums h]; rfl
theorem row_at {k : Nat} : ∃ z, RowOk (upsF nums) z (rowAt nums k) := row_ok (tree_ups nums) (start_le nums k) (goal_le nums k)
theorem row_map {z : Nat} {k : Nat} (h : RowOk (upsF nums) z (rowAt nums k)) : ((rowAt nums k).map fun v => (pathsF nums).getD v default) = (rowAt nums k).map (pathV (upsF nums) (turnF nums)) :=
  List.map_congr_left fun v hv => paths_getD nums (h.top v hv).1
theorem rowTop_eq {z k : Nat} (hk : k < 6) (h : RowOk (upsF nums) z (rowAt nums k)) : rowTop (rowsF nums) k = z := by
  unfold rowTop
  obtain ⟨r, e⟩ := h.head
  rw [rows_get nums hk, e]; rfl
theorem topOf_eq {z k : Nat} (hk : k < 6) (h : RowOk (upsF nums) z (rowAt nums k)) : topOf (waysF nums) k = pathV (upsF nums) (turnF nums) z := by
  unfold topOf
  obtain ⟨r, e⟩ := h.head
  rw [List.getD_eq_getElem?_getD, ways_get nums hk, row_map nums h, e]; rfl
theorem dueKey_eq {k : Nat} (hk : k < 6) : dueKey (rowsF nums) (pathsF nums) k = (topOf (waysF nums) k, (k : Int)) := by
  obtain ⟨z, h⟩ := row_at nums (k := k)
  unfold dueKey
  rw [rowTop_eq nums hk h, topOf_eq nums hk h, paths_getD nums h.z6]
theorem lw_eq {i j : Nat} (hi : i < 6) (hj : j < 6) : lw (waysF nums) i j = keyLt (dueKey (rowsF nums) (pathsF nums) i) (dueKey (rowsF nums) (pathsF nums) j) := by
  rw [dueKey_eq nums hi, dueKey_eq nums hj]; rfl
theorem geo : Geo (waysF nums) (rowsF nums) := by
  have T := tree_ups nums
  have ht := turn_lt nums
  refine ⟨rows_len nums, fun p hp => ?_, fun p hp q hq => ?_, fun p hp q hq hl hm => ?_⟩
  · obtain ⟨z, h⟩ := row_at nums (k := p)
    rw [rowTop_eq nums hp h, rows_get nums hp]
    obtain ⟨r, e⟩ := h.head
    exact ⟨by have := h.z6; omega, by rw [e]; exact .head _⟩
  · obtain ⟨z, h⟩ := row_at nums (k := p)
    obtain ⟨z', h'⟩ := row_at nums (k := q)
    rw [rowTop_eq nums hp h, topOf_eq nums hp h, rows_get nums hq, List.getD_eq_getElem?_getD, ways_get nums hq, row_map nums h', Option.getD_some, Bool.eq_iff_iff, List.contains_iff_mem, List.contains_iff_mem, List.mem_map]
    constructor
    · rintro ⟨v, hv, e⟩
      rw [← pathV_inj T ht (h'.top v hv).1 h.z6 e]
      exact hv
    · exact fun hz => ⟨z, hz, rfl⟩
  · obtain ⟨z, h⟩ := row_at nums (k := p)
    obtain ⟨z', h'⟩ := row_at nums (k := q)
    unfold meets at hm
    rw [rows_get nums hp, rows_get nums hq] at hm
    obtain ⟨x, hx, hx'⟩ := List.any_eq_true.mp hm
    rw [List.contains_iff_mem] at hx'
    rw [rowTop_eq nums hp h, rows_get nums hq]
    rcases rows_meet T h h' hx hx' with q' | ⟨_, h2, h3⟩
    · exact q'
    · exfalso
      have h4 := pathV_lt T ht z' h'.z6 z h2 h3
      have h5 : lw (waysF nums) p q = true := by
        unfold lw
        rw [topOf_eq nums hp h, topOf_eq nums hq h', kl_eq]
        show (if pathV (upsF nums) (turnF nums) z = pathV (upsF nums) (turnF nums) z' then _ else strLt _ _) = true
        rw [if_neg (fun e => h3 (pathV_inj T ht h.z6 h'.z6 e))]
        exact h4
      have h6 : lw (waysF nums) q p = false := kl_asymm h5
      rw [h6] at hl
      cases hl
theorem load_eq (v : Nat) : ((rowsF nums).filter fun r => r.contains v).length = loadR (rowsF nums) v := by
  unfold loadR
  have e : (rowsF nums).filter (fun r => r.contains v) = ((List.range 6).filter fun k => ((rowsF nums).getD k []).contains v).map (rowAt nums) := by
    have e1 : (List.range 6).filter (fun k => ((rowsF nums).getD k []).contains v) = (List.range 6).filter ((fun r => r.contains v) ∘ rowAt nums) :=
      List.filter_congr fun k hk => by rw [rows_get nums (List.mem_range.mp hk)]; rfl
    rw [e1, ← List.filter_map]
    rfl
  rw [e, List.length_map]
theorem loads_mem {a : Nat} : a ∈ loadsF nums ↔ ∃ v < 7, loadR (rowsF nums) v = a := by
  unfold loadsF
  rw [List.mem_map]
  constructor
  · rintro ⟨v, hv, rfl⟩
    exact ⟨v, List.mem_range.mp hv, (load_eq nums v).symm⟩
  · rintro ⟨v, hv, rfl⟩
    exact ⟨v, List.mem_range.mpr hv, load_eq nums v⟩
theorem plan_way {k : Nat} (hk : k < 6) {x y : Str} (hx : (pathsF nums)[startN nums k]? = some x) (hy : (pathsF nums)[goalN nums k]? = some y) : ∃ cx cy, Climb (cpathF (partsF x) (partsF y)) x cx ∧ Climb (cpathF (partsF x) (partsF y)) y cy ∧ cx.length ≤ 100 ∧ cy.length ≤ 100 ∧ (waysF nums)[k]? = some (cpathF (partsF x) (partsF y) :: (cx ++ cy)) := by
  have T := tree_ups nums
  have ht := turn_lt nums
  have ha := start_le nums k
  have hb := goal_le nums k
  rw [paths_get nums ha] at hx
  rw [paths_get nums hb] at hy
  cases hx
  cases hy
  obtain ⟨z, ua, ub, hz, e1, e2, d1, d2⟩ := meet_ex T hb _ ha
  rw [cpath_eq T ht ha hb hz e1 e2 d1 d2]
  have l1 := abv_len T _ ha
  have l2 := abv_len T _ hb
  rw [e1, List.length_append] at l1
  rw [e2, List.length_append] at l2
  refine ⟨ua.map (pathV (upsF nums) (turnF nums)), ub.map (pathV (upsF nums) (turnF nums)), climb_eq T ht hz ua _ ha e1, climb_eq T ht hz ub _ hb e2, by rw [List.length_map]; omega, by rw [List.length_map]; omega, ?_⟩
  obtain ⟨z', h⟩ := row_at nums (k := k)
  rw [ways_get nums hk, row_map nums h]
  unfold rowAt
  rw [nodes_eq T ha hb hz e1 e2 d1 d2, List.map_cons, List.map_append]
theorem plan : Plan nums := by
  have T := tree_ups nums
  have ht := turn_lt nums
  have hO := order_eq (dueKey (rowsF nums) (pathsF nums)) fun i => rfl
  have e6 : (fun i j : Fin 6 => keyLt (dueKey (rowsF nums) (pathsF nums) i.val) (dueKey (rowsF nums) (pathsF nums) j.val)) = lw6 (waysF nums) := by
    funext i j
    exact (lw_eq nums i.isLt j.isLt).symm
  rw [e6] at hO
  obtain ⟨o1, o2, o3⟩ := hO
  replace o1 : (ordF (waysF nums)).map Fin.val = dueOrd (rowsF nums) (pathsF nums) := o1
  replace o2 : (dueOrd (rowsF nums) (pathsF nums)).Perm (List.range 6) := o2
  replace o3 : (dueOrd (rowsF nums) (pathsF nums)).Pairwise fun a b => keyLt (dueKey (rowsF nums) (pathsF nums) a) (dueKey (rowsF nums) (pathsF nums) b) = true := o3
  refine ⟨spelled_eq T ht, fun x hx => ?_, fun x hx => ?_, fun k hk x y hx hy => plan_way nums hk hx hy, fun v hv => ?_, fun l hl => ?_, o2, ?_⟩
  · obtain ⟨v, hv, rfl⟩ := paths_mem nums hx
    exact (okPath_facts (okV T ht hv)).1
  · obtain ⟨v, hv, rfl⟩ := paths_mem nums hx
    have h := okPath_facts (okV T ht hv)
    exact ⟨h.2.1, h.2.2.1, h.2.2.2.1, h.2.2.2.2.1⟩
  · have := abv_len T v hv
    exact ⟨abv_above T v hv, by omega⟩
  · unfold rowsF at hl
    obtain ⟨k, hk, rfl⟩ := List.mem_map.mp hl
    obtain ⟨z, h⟩ := row_at nums (k := k)
    obtain ⟨r, e⟩ := h.head
    exact ⟨⟨z, r, e, by have := h.z6; omega⟩, h.len⟩
  · rw [o1]
    generalize dueOrd (rowsF nums) (pathsF nums) = ord at *
    have h6 : ∀ q ∈ ord, q < 6 := fun q hq => List.mem_range.mp (o2.mem_iff.mp hq)
    have hnd : ord.Nodup := o2.nodup_iff.mpr List.nodup_range
    have hol : ord.length ≤ 6 := by rw [o2.length_eq]; exact Nat.le_refl _
    have hpw : ord.Pairwise fun a b => lw (waysF nums) a b = true := o3.imp_of_mem fun ha hb q => by rw [lw_eq nums (h6 _ ha) (h6 _ hb)]; exact q
    have run : ∀ M, (∀ v < 7, loadR (rowsF nums) v ≤ M) → paint (waysF nums) ord [] = some (dueP (rowsF nums) ord []) ∧ Inv (rowsF nums) M (dueP (rowsF nums) ord []) ord := fun M hM =>
      greedy (geo nums) hM ord [] [] h6 hpw hnd hol ⟨rfl, .nil, (fun i q h => by simp at h), (fun _ h => nomatch h)⟩
    have fin : ∀ M, M ∈ loadsF nums → (∀ a ∈ loadsF nums, a ≤ M) → paint (waysF nums) ord [] = some (dueP (rowsF nums) ord []) ∧ (∀ k < 6, (colOf (dueP (rowsF nums) ord []) k).isSome = true) ∧ (∀ c ∈ colsF (dueP (rowsF nums) ord []), c < 6) ∧ dsort (colsF (dueP (rowsF nums) ord [])) = List.range M := fun M hm hM => by
      obtain ⟨v, hv, hvM⟩ := (loads_mem nums).mp hm
      obtain ⟨r1, r2⟩ := run M fun u hu => hM _ ((loads_mem nums).mpr ⟨u, hu, rfl⟩)
      obtain ⟨c1, c2, c3⟩ := cols_most o2 r2 hvM
      have hM7 : M < 7 := by
        rw [← hvM]
        unfold loadR
        exact Nat.lt_succ_of_le (Nat.le_trans (List.length_filter_le _ _) (by rw [List.length_range]; exact Nat.le_refl _))
      refine ⟨r1, fun k hk => ?_, fun c hc => (c2 c hc).1, dsort_range M hM7 _ (fun c hc => (c2 c hc).2) c3⟩
      obtain ⟨c, h1, _⟩ := c1 k hk
      rw [h1]; rfl
    obtain ⟨M, hm, hM⟩ := max_ex (l := loadsF nums) (by unfold loadsF; simp)
    obtain ⟨f1, f2, f3, _⟩ := fin M hm hM
    exact ⟨_, f1, f2, f3, fun M hm hM => (fin M hm hM).2.2.2, rfl⟩
end
end M5Part
section B5Part
set_option linter.unusedVariables false
section
variable {prog : Program} {w : World} {A : Around} {E : Value → Shared → Prop} {s : Shared} {h₀ : Heap} {L : Addr} {m : Str → Option Value} {news news' : List (Addr × Obj)} {b : Addr} {hs : List Addr} {n : Nat} {a : Addr}
theorem pop_refs {Q : Value → Shared → Prop} (F : Fr h₀ L s.heap m) (N : News h₀ L s.heap news) (U : Upd b (listOf (rv (hs ++ [a])).toArray n) (listOf (rv hs).toArray (n + 1)) news news') (hz : hs.length ≤ 1000)
    (h : ∀ h', Fr h₀ L h' m → News h₀ L h' news' → Q (.ref a) { s with heap := h' }) : wpAny (model prog w) A (call (.builtin "list.pop") [.ref b]) Q E s :=
  kl_pop F N (by rw [List.toList_toArray]; unfold rv; rw [List.map_append]; exact kpa_last _ _) U (by rw [List.toList_toArray, rv_len, List.length_append, List.length_singleton, sizeLine_eq]; omega) h
theorem truthy_refs {Q : Bool → Shared → Prop} (N : News h₀ L s.heap news) (hm : (b, listOf (rv hs).toArray n) ∈ news) (hfit : hs.length < 2 ^ 62) (h : ∀ tk, Q (!hs.isEmpty) { s with toks := tk }) : wpAny (model prog w) A (truthy (.ref b)) Q E s := by
  have e : (rv hs).toArray.size = hs.length := by rw [List.size_toArray, rv_len]
  refine wpAny_truthy_list ⟨_, (N _ hm).1, rfl, n, rfl⟩ (by rw [e]; omega) ?_
  have e2 : (rv hs).toArray.isEmpty = hs.isEmpty := by
    cases hs <;> rfl
  rw [e2]; exact h _
end
end B5Part
section E8Part
set_option linter.unusedVariables false
open LCg in
theorem off3_append {I C D : Addr} : ∀ {l l' : List (Addr × Obj)}, Off3 I C D l → Off3 I C D l' → Off3 I C D (l ++ l')
  | [], _, _, h => h
  | _ :: _, _, h, h' => ⟨h.1, off3_append h.2 h'⟩
open LCg in
/-- the element has made one object; it goes to the ledger's end -/
theorem CompEnd.grow {h₀ : Heap} {L : Addr} {m : Str → Option Value} {S : List (Addr × Obj) → Prop} {s₁ : Shared} {I C D A : Addr} {oI oC oD oA : Obj} {rest : Value → List (Addr × Obj) → Prop} {y : Value} {h' : Heap} {tk : Nat} {news : List (Addr × Obj)}
    (F : Fr h₀ L h' m) (N : News h₀ L h' ((A, oA) :: (I, oI) :: (C, oC) :: (D, oD) :: news)) (aI : @Ne Nat A I) (aC : @Ne Nat A C) (aD : @Ne Nat A D) (off : Off3 I C D news) (hS : S (news ++ [(A, oA)])) (r : rest y (news ++ [(A, oA)])) :
    CompEnd h₀ L m s₁ I oI C oC D oD S rest y { s₁ with heap := h', toks := tk } := CompEnd.intro F N (news ++ [(A, oA)]) (fun p hp => by
      simp only [List.mem_cons, List.mem_append, List.not_mem_nil, or_false] at hp ⊢
      rcases hp with h | h | h | h | h
      · exact .inr (.inl h)
      · exact .inr (.inr (.inl h))
      · exact .inr (.inr (.inr (.inl h)))
      · exact .inr (.inr (.inr (.inr h)))
      · exact .inl h) (off3_append off ⟨⟨aI, aC, aD⟩, trivial⟩) hS r
section
variable {prog : Program} {w : World} {A : Around} {E : Value → Shared → Prop} {s : Shared} {h₀ : Heap} {L : Addr} {m : Str → Option Value} {news : List (Addr × Obj)}
/-- list(range(n)) -/
theorem list_range_led {r : Addr} {t u v : Tok} {n : Nat} {Q : Value → Shared → Prop} (hh : A.handled = none) (F : Fr h₀ L s.heap m) (N : News h₀ L s.heap news)
    (hr : IsRange s.heap r 0 (n : Int) 1 t u v) (hsm : Builtin.Range.small 0 (n : Int) 1 = true) (hn : Builtin.Range.rangeSize 0 (n : Int) 1 = (n : Int)) (hlen : n ≤ 1000)
    (h : ∀ D vs k h' tk, Fr h₀ L h' m → News h₀ L h' ((D, listOf (List.toArray vs) k) :: news) → (∀ p ∈ news, p.1 < D) → IntsAre vs (zs (List.range n)) → Q (.ref D) { s with heap := h', toks := tk }) :
    wpAny (model prog w) A (call (.type "list") [.ref r]) Q E s := by
  refine list_rangeD hh F N hr hsm hn (by omega) fun h' tk ys F' N' hk hf _ hp hc => ?_
  obtain ⟨⟨k, e⟩, hne⟩ := hp
  refine h _ ys k h' tk F' (fun p hp => ?_) (fun p hp => Heap.lt_size (N p hp).1) ?_
  · rcases List.mem_cons.mp hp with rfl | hp
    · exact ⟨e, Nat.ne_of_gt F.ns.lt, hf⟩
    · exact N' p hp
  · have := IntsAre.ofCarried hc
    have e2 : rangeInts 0 1 n = zs (List.range n) := by simp [rangeInts, zs]
    rwa [e2] at this
/-- an item of a list that the base holds -/
theorem item_base {value slice : PySem.Expr} {l : Addr} {its : List Value} {k : Nat} {u : Tok} {v : Value} {Q : Value → Shared → Prop} (F : Fr h₀ L s.heap m) (hl : h₀.IsList l its.toArray) (hk : k < 2 ^ 62) (hx : its[k]? = some v) (h : Q v s)
    (hs : subscripted slice false (.ref l) (.int (k : Int) u) = operate [.ref l, .int (k : Int) u] (getItem (.ref l) (.int (k : Int) u)) := by with_unfolding_all rfl) (hg : ∀ r, letTemporaryGo value (.ref l) r = pure () := by intro _; with_unfolding_all rfl) :
    wpAny (model prog w) A (subscriptTail value slice (.ref l) (.int (k : Int) u)) Q E s :=
  item_listL (hl.at fun o e => F.keep _ o e) (by omega) (by omega) (by simpa using hx) h hs hg
end
end E8Part
section E9Part
set_option linter.unusedVariables false
open LCg in
/-- a dict of the ledger -/
theorem Drawn.dict {prog : Program} {w : World} {A : Around} {h₀ : Heap} {L : Addr} {m : Str → Option Value} {K : Type} [DecidableEq K] {knd : KeyKind prog w K} {d : Addr} {od : Obj} {kvs : List (K × Value)} {news : List (Addr × Obj)} {s₁ : Shared}
    (hh : A.handled = none) (F : Fr h₀ L s₁.heap m) (N : News h₀ L s₁.heap news) (lo : (d == sysModules) = false) (hm : (d, od) ∈ news) (hod : od.IsDictOf knd kvs) :
    Drawn prog w A h₀ L m kvs.length (fun i v => ∃ k x, kvs[i]? = some (k, x) ∧ knd.is k v = true) (fun nw => (d, od) ∈ nw) news (.ref d) s₁ := by
  intro K' E h
  obtain ⟨ep, ha⟩ := KdkAt.of hod
  have hat := ha.dictAt (N _ hm).1
  have hlt : d < s₁.heap.objs.size := hat.lt_size
  refine wpAny_pyIter_dict lo hat ?_
  have up : ∀ b o, s₁.heap.get? b = some o → (s₁.heap.push { cls := .type "dict_keyiterator", data := .fields #[.ref d, .int 0 0, .int kvs.length 0, .int ep 0] }).get? b = some o := fun b o e => Heap.get?_push_of_some _ e
  refine h _ _ _ _ ⟨Walks.dictKeys (knd := knd) hh s₁.heap.objs.size d (Nat.ne_of_lt hlt) kvs ep, fun i h st => by obtain ⟨o, e, _⟩ := st.1; exact ⟨o, e⟩, ?_, ⟨⟨_, Heap.get?_push_size _ rfl, rfl, rfl⟩, hat.push _⟩, fun b hb => ?_,
    F.keeps up, N.grown up, Nat.ne_of_lt F.ns.lt, next_is_new F, fun p hp => Nat.ne_of_lt (Heap.lt_size (N p hp).1), hm⟩
  · rintro i h h' o nw st e e' k N' hS
    refine ⟨st.1.at fun o' q => ?_, ha.dictAt (N' _ hS).1⟩
    rw [e] at q; cases q; exact e'
  · show b < (s₁.heap.push _).objs.size
    rw [Heap.size_push]
    rcases List.mem_cons.mp hb with rfl | hb
    · exact Nat.lt_succ_self _
    · rw [List.mem_singleton.mp hb]; exact Nat.lt_succ_of_lt hlt
end E9Part
section E12Part
set_option linter.unusedVariables false
open LCg LCt
section
variable {prog : Program} {w : World} {A : Around} {E : Value → Shared → Prop} {s : Shared} {h₀ : Heap} {L : Addr} {m : Str → Option Value} {env : Env}
theorem newEnvX {scope : Scope} {globals : Addr} {cl : List (Str × Addr)} {qual : Str} {x : Str} {Q : Env → Shared → Prop} (hcells : ∀ n, cellsFrom n scope.names cl = (x, n) :: cl) (hpush : ∀ h, pushCells h scope.names = h.push { cls := .type "cell", data := .cell none })
    (hQ : Q { scope := scope, locals := s.heap.objs.size, globals := globals, cells := (x, s.heap.objs.size + 1) :: cl, qual := qual, func := none, code := env.code, frame := env.frame, builtins := env.builtins } { s with heap := (s.heap.push { cls := .type "dict", data := .dict #[] }).push { cls := .type "cell", data := .cell none } }) :
    wpAny (model prog w) A (newFunctionEnv scope globals cl [] qual none .none (some env)) Q E s := by
  simp only [newFunctionEnv, Option.isSome_some, if_true]
  refine wpAny_bind (wpAny_alloc ?_)
  refine wpAny_bind (wpAny_layCells _ (fun name kind cells => by cases hkc : kind == NameKind.cell <;> simp [hkc]) _ _ _ _ ?_)
  rw [hcells, hpush]
  rw [show ({ s with heap := s.heap.push { cls := .type "dict", data := .dict #[] } } : Shared).heap.objs.size = s.heap.objs.size + 1 from Heap.size_push ..]
  rw [List.forIn_nil]
  exact wpAny_bind (wpAny_pure (wpAny_pure hQ))
noncomputable def CompRestXT (prog : Program) (w : World) (A : Around) (h₀ : Heap) (L : Addr) (m : Str → Option Value) (env : Env) (ct elt : Expr) (x : Str) (scope : Scope) (cl : List (Str × Addr)) (s : Shared) (S : List (Addr × Obj) → Prop) (P : Nat → Value → Prop)
    (Fin : List Value → List (Addr × Obj) → Prop) : Nat → Nat → List Value → List (Addr × Obj) → Prop
  | 0, _, ys, news => Fin ys news
  | k + 1, i, ys, news => ∀ v I oI C oC CA oX D m₂ h tk (E' : Value → Shared → Prop), P i v → NsObj oC m₂ → oX.data = .cell (some v) → Fr h₀ L h m → News h₀ L h ((I, oI) :: (C, oC) :: (D, lst ys) :: (CA, oX) :: news) → Off3 I C D ((CA, oX) :: news) → (∀ p ∈ news, p.1 ≠ CA) → ((@Ne Nat I C) ∧ (@Ne Nat I D) ∧ (@Ne Nat C D)) →
      wpAny (model prog w) A (isTrue ct (compEnvC scope ((x, CA) :: cl) C env) (eval ct (compEnvC scope ((x, CA) :: cl) C env))) (fun ok s' => if ok = true then
        wpAny (model prog w) A (eval elt (compEnvC scope ((x, CA) :: cl) C env)) (CompEnd h₀ L m { s with heap := h, toks := tk } I oI C oC D (lst ys) (fun _ => True) (fun y nw => ∃ nw', nw = (CA, oX) :: nw' ∧ (∀ p ∈ nw', p.1 ≠ CA) ∧ S nw' ∧ CompRestXT prog w A h₀ L m env ct elt x scope cl s S P Fin k (i + 1) (ys ++ [y]) nw')) E' s'
        else (CompEnd h₀ L m { s with heap := h, toks := tk } I oI C oC D (lst ys) (fun _ => True) (fun _ nw => ∃ nw', nw = (CA, oX) :: nw' ∧ (∀ p ∈ nw', p.1 ≠ CA) ∧ S nw' ∧ CompRestXT prog w A h₀ L m env ct elt x scope cl s S P Fin k (i + 1) (ys) nw') Value.none s')) E' { s with heap := h, toks := tk }
theorem block_XT {ct elt iter : Expr} {x : Str} {px : Pos} {scope : Scope} {cl : List (Str × Addr)} {pos : Pos} {s₂ : Shared} {I : Addr} {fp : List Addr} {n : Nat} {P : Nat → Value → Prop} {St : Nat → Heap → Prop} {S : List (Addr × Obj) → Prop} {news : List (Addr × Obj)}
    {Fin : List Value → List (Addr × Obj) → Prop} {RR : Value → Addr → Result → Shared → Prop}
    (W : Walks prog w A I fp [I] n P St) (hsz : n ≤ sizeLine) (hIo : ∀ i h, St i h → ∃ o, h.get? I = some o)
    (hSt : ∀ i h h' o nw, St i h → h.get? I = some o → h'.get? I = some o → (∀ b o, h₀.get? b = some o → h'.get? b = some o) → News h₀ L h' nw → S nw → St i h')
    (hcells : ∀ n, cellsFrom n scope.names cl = (x, n) :: cl) (hpush : ∀ h, pushCells h scope.names = h.push { cls := .type "cell", data := .cell none }) (hkind : scope.kind = .function) (hx : ∀ cs C, (compEnvC scope cs C env).kindOf x = some .cell) (hst : St 0 s₂.heap) (hfp : ∀ b ∈ fp, b < s₂.heap.objs.size)
    (F : Fr h₀ L s₂.heap m) (N : News h₀ L s₂.heap news) (hIL : L ≠ I) (hI₀ : h₀.get? I = none) (off : ∀ p ∈ news, p.1 ≠ I) (hS : S news)
    (R : CompRestXT prog w A h₀ L m env ct elt x scope cl s₂ S P Fin n 0 [] news)
    (hRR : ∀ D C h tk m' ys news', Fr h₀ L h m → News h₀ L h ((D, lst ys) :: news') → Off1 D news' → h.Ns C m' → h₀.get? C = none → h₀.get? D = none → C ≠ L → D ≠ L → C ≠ D → (∀ p ∈ news', p.1 ≠ C) → Fin ys news' → RR (.ref D) C (.ok .next) { s₂ with heap := h, toks := tk }) :
    wpAny (model prog w) A (newList []) (fun acc s₃ => wpAny (model prog w) A (newFunctionEnv scope env.globals cl [] env.qual none .none (some env)) (fun cenv s₄ =>
      codeAny (model prog w) A (.compStart (.ListComp elt [⟨.Name x px, iter, [ct], 0⟩] scope pos) 0 (.ref I) acc { cenv with scope := relabel scope env }) (RR acc cenv.locals) s₄) E s₃) E s₂ := by
  refine wpAny_newObj_type (newEnvX hcells hpush ?_)
  dsimp only
  generalize hH2 : s₂.heap.push { cls := .type "list", dict := none, data := .seq ([] : List Value).toArray } = H2
  have hC : H2.objs.size = s₂.heap.objs.size + 1 := by rw [← hH2, Heap.size_push]
  generalize hH3 : H2.push { cls := .type "dict", data := .dict #[] } = H3
  have hX : H3.objs.size = H2.objs.size + 1 := by rw [← hH3, Heap.size_push]
  generalize hH4 : H3.push { cls := .type "cell", data := .cell none } = h₁
  have up2 : ∀ b o, s₂.heap.get? b = some o → H2.get? b = some o := fun b o e => hH2 ▸ Heap.get?_push_of_some _ e
  have up3 : ∀ b o, H2.get? b = some o → H3.get? b = some o := fun b o e => hH3 ▸ Heap.get?_push_of_some _ e
  have up4 : ∀ b o, H3.get? b = some o → h₁.get? b = some o := fun b o e => hH4 ▸ Heap.get?_push_of_some _ e
  have hXs : H2.objs.size + 1 = H3.objs.size := hX.symm
  rw [hXs]
  have hDC : s₂.heap.objs.size ≠ H2.objs.size := by rw [hC]; exact Nat.ne_of_lt (Nat.lt_succ_self _)
  have below : ∀ b, b < s₂.heap.objs.size → b ≠ H2.objs.size ∧ b ≠ s₂.heap.objs.size := fun b hb => ⟨by rw [hC]; exact Nat.ne_of_lt (Nat.lt_succ_of_lt hb), Nat.ne_of_lt hb⟩
  have belowX : ∀ b, b < s₂.heap.objs.size → b ≠ H3.objs.size := fun b hb => by rw [hX, hC]; exact Nat.ne_of_lt (Nat.lt_succ_of_lt (Nat.lt_succ_of_lt hb))
  have hDf : s₂.heap.objs.size ∉ fp := fun hm => Nat.lt_irrefl _ (hfp _ hm)
  have hCf : H2.objs.size ∉ fp := fun hm => by have := hfp _ hm; rw [hC] at this; exact Nat.lt_irrefl _ (Nat.lt_of_succ_lt this)
  have hXf : H3.objs.size ∉ fp := fun hm => belowX _ (hfp _ hm) rfl
  have hIf : I ∈ fp := W.sub I (List.mem_singleton.mpr rfl)
  have hIlt : I < s₂.heap.objs.size := hfp I hIf
  have old : ∀ b o, s₂.heap.get? b = some o → h₁.get? b = some o := fun b o e => up4 _ _ (up3 _ _ (up2 _ _ e))
  have hacc : h₁.get? s₂.heap.objs.size = some (lst []) := up4 _ _ (up3 _ _ (hH2 ▸ Heap.get?_push_size _ rfl))
  have hns₁ : h₁.Ns H2.objs.size (fun _ => none) := (Heap.Ns.new H2 (.type "dict")).keeps fun b o e => up4 _ _ (hH3 ▸ e)
  have hcl₁ : h₁.get? H3.objs.size = some { cls := .type "cell", data := .cell none } := hH4 ▸ Heap.get?_push_size _ rfl
  have hst₁ : St 0 h₁ := W.frame _ _ _ hst fun b _ o e => old b o e
  have fresh : ∀ a, s₂.heap.objs.size ≤ a → s₂.heap.get? a = none := fun a ha => by
    cases e : s₂.heap.get? a with
    | none => rfl
    | some o' => exact absurd (Heap.lt_size e) (Nat.not_lt.mpr ha)
  have fresh₀ : ∀ a, s₂.heap.objs.size ≤ a → h₀.get? a = none := fun a ha => by
    cases e : h₀.get? a with
    | none => rfl
    | some o' => have := F.keep a o' e; rw [fresh a ha] at this; cases this
  have hD₀ : h₀.get? s₂.heap.objs.size = none := fresh₀ _ (Nat.le_refl _)
  have hC₀ : h₀.get? H2.objs.size = none := fresh₀ _ (by rw [hC]; exact Nat.le_succ _)
  have hX₀ : h₀.get? H3.objs.size = none := fresh₀ _ (by rw [hX, hC]; exact Nat.le_succ_of_le (Nat.le_succ _))
  have hLlt : L < s₂.heap.objs.size := F.ns.lt
  have hDL : s₂.heap.objs.size ≠ L := Ne.symm (below L hLlt).2
  have hCL : H2.objs.size ≠ L := Ne.symm (below L hLlt).1
  have hXL : H3.objs.size ≠ L := Ne.symm (belowX L hLlt)
  have hCI : I ≠ H2.objs.size := (below I hIlt).1
  have hDI : I ≠ s₂.heap.objs.size := (below I hIlt).2
  have hXI : H3.objs.size ≠ I := Ne.symm (belowX I hIlt)
  have hXC : H3.objs.size ≠ H2.objs.size := by rw [hX]; exact Nat.ne_of_gt (Nat.lt_succ_self _)
  have hXD : H3.objs.size ≠ s₂.heap.objs.size := by rw [hX, hC]; exact Nat.ne_of_gt (Nat.lt_succ_of_lt (Nat.lt_succ_self _))
  have off₀ : ∀ oX : Obj, Off3 I H2.objs.size s₂.heap.objs.size ((H3.objs.size, oX) :: news) := fun oX => Off3.of fun p hp => by
    rcases List.mem_cons.mp hp with rfl | hp
    · exact ⟨hXI, hXC, hXD⟩
    · exact ⟨off p hp, (below _ (Heap.lt_size (N p hp).1)).1, (below _ (Heap.lt_size (N p hp).1)).2⟩
  have loop : ∀ s₃ : Shared, s₃ = { s₂ with heap := h₁ } →
      codeAny (model prog w) A (.compLoop (.ListComp elt [⟨.Name x px, iter, [ct], 0⟩] scope pos) 0 (.ref I) (.ref s₂.heap.objs.size) (compEnvC scope ((x, H3.objs.size) :: cl) H2.objs.size env))
        (RR (.ref s₂.heap.objs.size) H2.objs.size) s₃ := by
    rintro s₃ rfl
    refine codeAny_compLoop_tests
      (fun k s' => ∃ h' tk i ys m' news' oX, s' = { s₂ with heap := h', toks := tk } ∧ i ≤ n ∧ k = n + 1 - i ∧ ys.length ≤ i ∧ St i h' ∧ Fr h₀ L h' m ∧ h'.Ns H2.objs.size m' ∧ News h₀ L h' ((s₂.heap.objs.size, lst ys) :: (H3.objs.size, oX) :: news') ∧
        Off3 I H2.objs.size s₂.heap.objs.size ((H3.objs.size, oX) :: news') ∧ (∃ v, oX.data = .cell v) ∧ (∀ p ∈ news', p.1 ≠ H3.objs.size) ∧ S news' ∧ CompRestXT prog w A h₀ L m env ct elt x scope cl s₂ S P Fin (n - i) i ys news') ?_ (n + 1)
      ⟨h₁, _, 0, [], _, news, _, rfl, Nat.zero_le _, rfl, Nat.le_refl _, hst₁, F.keeps old, hns₁, fun p hp => ?_, off₀ { cls := .type "cell", data := .cell none }, ⟨_, rfl⟩, fun p hp => belowX _ (Heap.lt_size (N p hp).1), hS, R⟩
    · rintro k s' hz
      refine ex7a13 hz fun h' tk i ys m' news' oX es' hi ek hyl hst' F' hn' N' off' hvx' apX hS' R' => ?_
      clear hz
      refine Exists.elim hvx' fun vx hvx => ?_
      subst es' ek
      by_cases hlt : i < n
      · obtain ⟨j, hj⟩ : ∃ j, n - i = j + 1 := ⟨n - i - 1, subE hlt⟩
        rw [hj] at R'
        refine W.item i _ _ _ hlt hst' fun v h₂ tk₂ hPv hst₂ hk₂ => ?_
        have off3 := off'.mem
        have N₂ : News h₀ L h₂ ((s₂.heap.objs.size, lst ys) :: (H3.objs.size, oX) :: news') := news_but N' hk₂ fun p hp => by
          rcases List.mem_cons.mp hp with rfl | hp
          · exact Ne.symm hDI
          · exact (off3 p hp).1
        refine wpAny_assign_Name (wpAny_storeName_cell (show scope.kind = .function from hkind) (hx _ _) (show List.lookup x ((x, H3.objs.size) :: cl) = some H3.objs.size by simp) ⟨oX, (N₂ _ (.tail _ (.head _))).1, hvx⟩ fun h₃ hc₃ hs₃ => ?_)
        refine ex1a2 (hc₃) fun oX₃ eX₃ dX₃ => ?_
        clear hc₃
        refine wpAny_tests_one ?_
        have hst₃ : St (i + 1) h₃ := W.frame _ _ _ hst₂ fun b hb o e => hs₃.extBut b o (fun q => hXf (by have q' : b = H3.objs.size := q; rw [← q']; exact hb)) e
        refine Exists.elim (hIo _ _ hst₃) fun oI heI => ?_
        have hn₃ : h₃.Ns H2.objs.size m' := (hn'.at' fun o e => hk₂ _ o (by simpa using Ne.symm hCI) e).sameBut hs₃ (Ne.symm hXC)
        refine ex1a2 (ns_obj hn₃) fun oC heC hoC => ?_
        have F₃ : Fr h₀ L h₃ m := (fr_but F' hk₂ hIL hI₀).change hs₃ hXL hX₀
        have N₃ : News h₀ L h₃ ((I, oI) :: (H2.objs.size, oC) :: (s₂.heap.objs.size, lst ys) :: (H3.objs.size, oX₃) :: news') := fun p hp => by
          rcases List.mem_cons.mp hp with rfl | hp
          · exact ⟨heI, Ne.symm hIL, hI₀⟩
          rcases List.mem_cons.mp hp with rfl | hp
          · exact ⟨heC, hCL, hC₀⟩
          rcases List.mem_cons.mp hp with rfl | hp
          · have z := N₂ _ (.head _)
            exact ⟨hs₃.extBut _ _ (Ne.symm hXD) z.1, z.2⟩
          rcases List.mem_cons.mp hp with rfl | hp
          · exact ⟨eX₃, hXL, hX₀⟩
          · have z := N₂ p (.tail _ (.tail _ hp))
            exact ⟨hs₃.extBut _ _ (apX p hp) z.1, z.2⟩
        have off'₃ : Off3 I H2.objs.size s₂.heap.objs.size ((H3.objs.size, oX₃) :: news') := ⟨⟨hXI, hXC, hXD⟩, off'.2⟩
        refine wpAny_mono (R' v I oI H2.objs.size oC H3.objs.size oX₃ s₂.heap.objs.size _ h₃ _ _ hPv hoC dX₃ F₃ N₃ off'₃ apX ⟨hCI, hDI, Ne.symm hDC⟩) (fun ok s₄ h₄ => ?_) fun _ _ e => e
        cases ok with
        | true =>
          simp only [if_true] at h₄ ⊢
          refine wpAny_mono h₄ (fun y s₅ h₅ => ?_) fun _ _ e => e
          refine ex3a5 h₅ fun h₄ tk₄ news₄ es4 F₄ N₄ off₄ hrest => ?_
          refine ex1a4 hrest.2 fun nw' en4 apX' hS₄ R₄ => ?_
          clear hrest
          subst es4 en4
          have zI := (N₄ (I, oI) List.mem_cons_self).1
          have zC := (N₄ (H2.objs.size, oC) (List.mem_cons_of_mem _ List.mem_cons_self)).1
          have zD := (N₄ (s₂.heap.objs.size, lst ys) (List.mem_cons_of_mem _ (List.mem_cons_of_mem _ List.mem_cons_self))).1
          have N₄' : News h₀ L h₄ ((H3.objs.size, oX₃) :: nw') := fun p hp => N₄ p (List.mem_cons_of_mem _ (List.mem_cons_of_mem _ (List.mem_cons_of_mem _ hp)))
          have hst₄ : St (i + 1) h₄ := hSt _ _ _ _ _ hst₃ heI zI F₄.keep (fun p hp => N₄' p (.tail _ hp)) hS₄
          refine append_at (hsz := by show ys.toArray.size ≤ sizeLine; rw [List.size_toArray]; exact Nat.le_trans (Nat.le_trans hyl hi) hsz) zD fun h₅ hs₅ hD₅ => ?_
          have off4 := off₄.mem
          refine ⟨n + 1 - (i + 1), subD hlt, h₅, tk₄, i + 1, ys ++ [y], _, nw', oX₃, rfl, hlt, rfl, by rw [List.length_append, List.length_singleton]; exact Nat.succ_le_succ hyl, W.frame _ _ _ hst₄ fun b hb o e => hs₅.extBut b o (fun q => hDf (q ▸ hb)) e, F₄.change hs₅ hDL hD₀,
            (hoC.ns zC).sameBut hs₅ (Ne.symm hDC), fun p hp => ?_, off₄, ⟨_, dX₃⟩, apX', hS₄, ?_⟩
          · rcases List.mem_cons.mp hp with rfl | hp
            · exact ⟨hD₅.trans (congrArg some (lst_snoc ys y)), hDL, hD₀⟩
            · exact ⟨hs₅.extBut _ _ (off4 p hp).2.2 (N₄' p hp).1, (N₄' p hp).2⟩
          · rw [subS hj]
            exact R₄
        | false =>
          simp only [Bool.false_eq_true, if_false] at h₄ ⊢
          refine ex3a5 h₄ fun h₅ tk₄ news₄ es4 F₄ N₄ off₄ hrest => ?_
          refine ex1a4 hrest.2 fun nw' en4 apX' hS₄ R₄ => ?_
          clear hrest
          subst es4 en4
          have zI := (N₄ (I, oI) List.mem_cons_self).1
          have zC := (N₄ (H2.objs.size, oC) (List.mem_cons_of_mem _ List.mem_cons_self)).1
          have N₄' : News h₀ L h₅ ((H3.objs.size, oX₃) :: nw') := fun p hp => N₄ p (List.mem_cons_of_mem _ (List.mem_cons_of_mem _ (List.mem_cons_of_mem _ hp)))
          have hst₄ : St (i + 1) h₅ := hSt _ _ _ _ _ hst₃ heI zI F₄.keep (fun p hp => N₄' p (.tail _ hp)) hS₄
          refine ⟨n + 1 - (i + 1), subD hlt, h₅, tk₄, i + 1, ys, _, nw', oX₃, rfl, hlt, rfl, Nat.le_succ_of_le hyl, hst₄, F₄, hoC.ns zC, fun p hp => ?_, off₄, ⟨_, dX₃⟩, apX', hS₄, ?_⟩
          · rcases List.mem_cons.mp hp with rfl | hp
            · exact N₄ _ (List.mem_cons_of_mem _ (List.mem_cons_of_mem _ List.mem_cons_self))
            · exact N₄' p hp
          · rw [subS hj]
            exact R₄
      · obtain rfl : i = n := Nat.le_antisymm hi (Nat.not_lt.mp hlt)
        rw [Nat.sub_self] at R'
        refine W.done _ _ _ hst' fun h₂ tk₂ hk₂ => ?_
        have off3 := off'.mem
        exact hRR _ _ h₂ tk₂ _ ys news' (fr_but F' hk₂ hIL hI₀) (fun p hp => news_but N' hk₂ (fun p hp => by
          rcases List.mem_cons.mp hp with rfl | hp
          · exact Ne.symm hDI
          · exact (off3 p hp).1) p (by
          rcases List.mem_cons.mp hp with rfl | hp
          · exact .head _
          · exact .tail _ (.tail _ hp))) off'.2.one (hn'.at' fun o e => hk₂ _ o (by simpa using Ne.symm hCI) e) hC₀ hD₀ hCL hDL (Ne.symm hDC) (fun p hp => (off3 p (.tail _ hp)).2.1) R'
    · rcases List.mem_cons.mp hp with rfl | hp
      · exact ⟨hacc, hDL, hD₀⟩
      rcases List.mem_cons.mp hp with rfl | hp
      · exact ⟨hcl₁, hXL, hX₀⟩
      · exact ⟨old _ _ (N p hp).1, (N p hp).2⟩
  exact codeAny_compStart_list (loop _ rfl) (W.self 0 _ _ _ hst₁ (loop _ rfl))
noncomputable def SrcXT (prog : Program) (w : World) (A : Around) (h₀ : Heap) (L : Addr) (m : Str → Option Value) (env : Env) (ct elt : Expr) (x : Str) (scope : Scope) (cl : List (Str × Addr)) (Fin : Shared → List Value → List (Addr × Obj) → Prop) (E : Value → Shared → Prop) (xv : Value) (s₁ : Shared) : Prop :=
  wpAny (model prog w) A (pyIter xv) (fun it s₂ => ∃ I fp n P Stt S news, it = .ref I ∧ Walks prog w A I fp [I] n P Stt ∧ n ≤ sizeLine ∧ (∀ i h, Stt i h → ∃ o, h.get? I = some o) ∧
    (∀ i h h' o nw, Stt i h → h.get? I = some o → h'.get? I = some o → (∀ b o, h₀.get? b = some o → h'.get? b = some o) → News h₀ L h' nw → S nw → Stt i h') ∧
    Stt 0 s₂.heap ∧ (∀ b ∈ fp, b < s₂.heap.objs.size) ∧ Fr h₀ L s₂.heap m ∧ News h₀ L s₂.heap news ∧ L ≠ I ∧ h₀.get? I = none ∧ (∀ p ∈ news, p.1 ≠ I) ∧ S news ∧
    CompRestXT prog w A h₀ L m env ct elt x scope cl s₂ S P (Fin s₂) n 0 [] news) E s₁
theorem SrcXT.of {ct elt : Expr} {x : Str} {scope : Scope} {cl : List (Str × Addr)} {S : List (Addr × Obj) → Prop} {P : Nat → Value → Prop} {Fin : Shared → List Value → List (Addr × Obj) → Prop} {n : Nat} {xv : Value} {news : List (Addr × Obj)} {s₁ : Shared} (D : Drawn prog w A h₀ L m n P S news xv s₁) (hsz : n ≤ sizeLine)
    (h : ∀ g, CompRestXT prog w A h₀ L m env ct elt x scope cl { s₁ with heap := g } S P (Fin { s₁ with heap := g }) n 0 [] news) :
    SrcXT prog w A h₀ L m env ct elt x scope cl Fin E xv s₁ :=
  D _ _ fun I fp Stt g o => ⟨I, fp, n, P, Stt, S, news, rfl, o.W, hsz, o.hIo, o.hSt, o.st, o.hfp, o.F, o.N, o.LI, o.I0, o.off, o.S, h g⟩
theorem ListComp_XT {ct elt : Expr} {x : Str} {scope : Scope} {cl : List (Str × Addr)} {iter : Expr} {px : Pos} {pos : Pos} {Q : Value → Shared → Prop} (F₀ : Fr h₀ L s.heap m)
    (hclos : closureFor scope env = pure cl) (hcells : ∀ n, cellsFrom n scope.names cl = (x, n) :: cl) (hpush : ∀ h, pushCells h scope.names = h.push { cls := .type "cell", data := .cell none }) (hkind : scope.kind = .function)
    (hnames : ∀ y ∈ scope.names, y.2 = .local → scope.names.lookup y.1 = some .local) (hx : ∀ cs C, (compEnvC scope cs C env).kindOf x = some .cell)
    (h : wpAny (model prog w) A (eval iter env) (SrcXT prog w A h₀ L m env ct elt x scope cl (fun s₂ => FinE h₀ L m s₂ Q) E) E s)
    (hs : ∀ x, foldedSetIterable iter env x = pure x := by intro _; rfl) :
    wpAny (model prog w) A (eval (.ListComp elt [⟨.Name x px, iter, [ct], 0⟩] scope pos) env) Q E s := by
  rw [eval_ListComp]
  refine wpAny_comprehension_free (use := none) rfl hs hclos hkind hnames (wpAny_mono h (fun xv s₁ h₁ => ?_) fun _ _ e => e)
  refine wpAny_mono h₁ (fun it s₂ h₂ => ?_) fun _ _ e => e
  refine ex7a14 (h₂) fun I fp n P Stt S news eqa W hsz hIo hSt hst hfp F N hIL hI₀ off hS R => ?_
  clear h₂
  subst eqa
  refine block_XT W hsz hIo hSt hcells hpush hkind hx hst hfp F N hIL hI₀ off hS R ?_
  intro D C h tk m' ys news' F' N' o1 hn hC₀ hD₀ hCL hDL hCD offC fin
  refine ⟨m', hn, fun h'' hs'' => fin D h'' tk (F'.change hs'' hCL hC₀) (fun p hp => ?_) o1⟩
  refine ⟨hs''.extBut _ _ ?_ (N' p hp).1, (N' p hp).2⟩
  rcases List.mem_cons.mp hp with rfl | hp
  · exact Ne.symm hCD
  · exact offC p hp
noncomputable def CompRestXU (prog : Program) (w : World) (A : Around) (h₀ : Heap) (L : Addr) (m : Str → Option Value) (env : Env) (elt : Expr) (x : Str) (scope : Scope) (cl : List (Str × Addr)) (s : Shared) (S : List (Addr × Obj) → Prop) (P : Nat → Value → Prop)
    (Fin : List Value → List (Addr × Obj) → Prop) : Nat → Nat → List Value → List (Addr × Obj) → Prop
  | 0, _, ys, news => Fin ys news
  | k + 1, i, ys, news => ∀ v I oI C oC CA oX D m₂ h tk (E' : Value → Shared → Prop), P i v → NsObj oC m₂ → oX.data = .cell (some v) → Fr h₀ L h m → News h₀ L h ((I, oI) :: (C, oC) :: (D, lst ys) :: (CA, oX) :: news) → Off3 I C D ((CA, oX) :: news) → (∀ p ∈ news, p.1 ≠ CA) → ((@Ne Nat I C) ∧ (@Ne Nat I D) ∧ (@Ne Nat C D)) →
      wpAny (model prog w) A (eval elt (compEnvC scope ((x, CA) :: cl) C env)) (CompEnd h₀ L m { s with heap := h, toks := tk } I oI C oC D (lst ys) (fun _ => True) (fun y nw => ∃ nw', nw = (CA, oX) :: nw' ∧ (∀ p ∈ nw', p.1 ≠ CA) ∧ S nw' ∧ CompRestXU prog w A h₀ L m env elt x scope cl s S P Fin k (i + 1) (ys ++ [y]) nw')) E' { s with heap := h, toks := tk }
theorem block_XU {elt iter : Expr} {x : Str} {px : Pos} {scope : Scope} {cl : List (Str × Addr)} {pos : Pos} {s₂ : Shared} {I : Addr} {fp : List Addr} {n : Nat} {P : Nat → Value → Prop} {St : Nat → Heap → Prop} {S : List (Addr × Obj) → Prop} {news : List (Addr × Obj)}
    {Fin : List Value → List (Addr × Obj) → Prop} {RR : Value → Addr → Result → Shared → Prop}
    (W : Walks prog w A I fp [I] n P St) (hsz : n ≤ sizeLine) (hIo : ∀ i h, St i h → ∃ o, h.get? I = some o)
    (hSt : ∀ i h h' o nw, St i h → h.get? I = some o → h'.get? I = some o → (∀ b o, h₀.get? b = some o → h'.get? b = some o) → News h₀ L h' nw → S nw → St i h')
    (hcells : ∀ n, cellsFrom n scope.names cl = (x, n) :: cl) (hpush : ∀ h, pushCells h scope.names = h.push { cls := .type "cell", data := .cell none }) (hkind : scope.kind = .function) (hx : ∀ cs C, (compEnvC scope cs C env).kindOf x = some .cell) (hst : St 0 s₂.heap) (hfp : ∀ b ∈ fp, b < s₂.heap.objs.size)
    (F : Fr h₀ L s₂.heap m) (N : News h₀ L s₂.heap news) (hIL : L ≠ I) (hI₀ : h₀.get? I = none) (off : ∀ p ∈ news, p.1 ≠ I) (hS : S news)
    (R : CompRestXU prog w A h₀ L m env elt x scope cl s₂ S P Fin n 0 [] news)
    (hRR : ∀ D C h tk m' ys news', Fr h₀ L h m → News h₀ L h ((D, lst ys) :: news') → Off1 D news' → h.Ns C m' → h₀.get? C = none → h₀.get? D = none → C ≠ L → D ≠ L → C ≠ D → (∀ p ∈ news', p.1 ≠ C) → Fin ys news' → RR (.ref D) C (.ok .next) { s₂ with heap := h, toks := tk }) :
    wpAny (model prog w) A (newList []) (fun acc s₃ => wpAny (model prog w) A (newFunctionEnv scope env.globals cl [] env.qual none .none (some env)) (fun cenv s₄ =>
      codeAny (model prog w) A (.compStart (.ListComp elt [⟨.Name x px, iter, [], 0⟩] scope pos) 0 (.ref I) acc { cenv with scope := relabel scope env }) (RR acc cenv.locals) s₄) E s₃) E s₂ := by
  refine wpAny_newObj_type (newEnvX hcells hpush ?_)
  dsimp only
  generalize hH2 : s₂.heap.push { cls := .type "list", dict := none, data := .seq ([] : List Value).toArray } = H2
  have hC : H2.objs.size = s₂.heap.objs.size + 1 := by rw [← hH2, Heap.size_push]
  generalize hH3 : H2.push { cls := .type "dict", data := .dict #[] } = H3
  have hX : H3.objs.size = H2.objs.size + 1 := by rw [← hH3, Heap.size_push]
  generalize hH4 : H3.push { cls := .type "cell", data := .cell none } = h₁
  have up2 : ∀ b o, s₂.heap.get? b = some o → H2.get? b = some o := fun b o e => hH2 ▸ Heap.get?_push_of_some _ e
  have up3 : ∀ b o, H2.get? b = some o → H3.get? b = some o := fun b o e => hH3 ▸ Heap.get?_push_of_some _ e
  have up4 : ∀ b o, H3.get? b = some o → h₁.get? b = some o := fun b o e => hH4 ▸ Heap.get?_push_of_some _ e
  have hXs : H2.objs.size + 1 = H3.objs.size := hX.symm
  rw [hXs]
  have hDC : s₂.heap.objs.size ≠ H2.objs.size := by rw [hC]; exact Nat.ne_of_lt (Nat.lt_succ_self _)
  have below : ∀ b, b < s₂.heap.objs.size → b ≠ H2.objs.size ∧ b ≠ s₂.heap.objs.size := fun b hb => ⟨by rw [hC]; exact Nat.ne_of_lt (Nat.lt_succ_of_lt hb), Nat.ne_of_lt hb⟩
  have belowX : ∀ b, b < s₂.heap.objs.size → b ≠ H3.objs.size := fun b hb => by rw [hX, hC]; exact Nat.ne_of_lt (Nat.lt_succ_of_lt (Nat.lt_succ_of_lt hb))
  have hDf : s₂.heap.objs.size ∉ fp := fun hm => Nat.lt_irrefl _ (hfp _ hm)
  have hCf : H2.objs.size ∉ fp := fun hm => by have := hfp _ hm; rw [hC] at this; exact Nat.lt_irrefl _ (Nat.lt_of_succ_lt this)
  have hXf : H3.objs.size ∉ fp := fun hm => belowX _ (hfp _ hm) rfl
  have hIf : I ∈ fp := W.sub I (List.mem_singleton.mpr rfl)
  have hIlt : I < s₂.heap.objs.size := hfp I hIf
  have old : ∀ b o, s₂.heap.get? b = some o → h₁.get? b = some o := fun b o e => up4 _ _ (up3 _ _ (up2 _ _ e))
  have hacc : h₁.get? s₂.heap.objs.size = some (lst []) := up4 _ _ (up3 _ _ (hH2 ▸ Heap.get?_push_size _ rfl))
  have hns₁ : h₁.Ns H2.objs.size (fun _ => none) := (Heap.Ns.new H2 (.type "dict")).keeps fun b o e => up4 _ _ (hH3 ▸ e)
  have hcl₁ : h₁.get? H3.objs.size = some { cls := .type "cell", data := .cell none } := hH4 ▸ Heap.get?_push_size _ rfl
  have hst₁ : St 0 h₁ := W.frame _ _ _ hst fun b _ o e => old b o e
  have fresh : ∀ a, s₂.heap.objs.size ≤ a → s₂.heap.get? a = none := fun a ha => by
    cases e : s₂.heap.get? a with
    | none => rfl
    | some o' => exact absurd (Heap.lt_size e) (Nat.not_lt.mpr ha)
  have fresh₀ : ∀ a, s₂.heap.objs.size ≤ a → h₀.get? a = none := fun a ha => by
    cases e : h₀.get? a with
    | none => rfl
    | some o' => have := F.keep a o' e; rw [fresh a ha] at this; cases this
  have hD₀ : h₀.get? s₂.heap.objs.size = none := fresh₀ _ (Nat.le_refl _)
  have hC₀ : h₀.get? H2.objs.size = none := fresh₀ _ (by rw [hC]; exact Nat.le_succ _)
  have hX₀ : h₀.get? H3.objs.size = none := fresh₀ _ (by rw [hX, hC]; exact Nat.le_succ_of_le (Nat.le_succ _))
  have hLlt : L < s₂.heap.objs.size := F.ns.lt
  have hDL : s₂.heap.objs.size ≠ L := Ne.symm (below L hLlt).2
  have hCL : H2.objs.size ≠ L := Ne.symm (below L hLlt).1
  have hXL : H3.objs.size ≠ L := Ne.symm (belowX L hLlt)
  have hCI : I ≠ H2.objs.size := (below I hIlt).1
  have hDI : I ≠ s₂.heap.objs.size := (below I hIlt).2
  have hXI : H3.objs.size ≠ I := Ne.symm (belowX I hIlt)
  have hXC : H3.objs.size ≠ H2.objs.size := by rw [hX]; exact Nat.ne_of_gt (Nat.lt_succ_self _)
  have hXD : H3.objs.size ≠ s₂.heap.objs.size := by rw [hX, hC]; exact Nat.ne_of_gt (Nat.lt_succ_of_lt (Nat.lt_succ_self _))
  have off₀ : ∀ oX : Obj, Off3 I H2.objs.size s₂.heap.objs.size ((H3.objs.size, oX) :: news) := fun oX => Off3.of fun p hp => by
    rcases List.mem_cons.mp hp with rfl | hp
    · exact ⟨hXI, hXC, hXD⟩
    · exact ⟨off p hp, (below _ (Heap.lt_size (N p hp).1)).1, (below _ (Heap.lt_size (N p hp).1)).2⟩
  have loop : ∀ s₃ : Shared, s₃ = { s₂ with heap := h₁ } →
      codeAny (model prog w) A (.compLoop (.ListComp elt [⟨.Name x px, iter, [], 0⟩] scope pos) 0 (.ref I) (.ref s₂.heap.objs.size) (compEnvC scope ((x, H3.objs.size) :: cl) H2.objs.size env))
        (RR (.ref s₂.heap.objs.size) H2.objs.size) s₃ := by
    rintro s₃ rfl
    refine codeAny_compLoop_tests
      (fun k s' => ∃ h' tk i ys m' news' oX, s' = { s₂ with heap := h', toks := tk } ∧ i ≤ n ∧ k = n + 1 - i ∧ ys.length ≤ i ∧ St i h' ∧ Fr h₀ L h' m ∧ h'.Ns H2.objs.size m' ∧ News h₀ L h' ((s₂.heap.objs.size, lst ys) :: (H3.objs.size, oX) :: news') ∧
        Off3 I H2.objs.size s₂.heap.objs.size ((H3.objs.size, oX) :: news') ∧ (∃ v, oX.data = .cell v) ∧ (∀ p ∈ news', p.1 ≠ H3.objs.size) ∧ S news' ∧ CompRestXU prog w A h₀ L m env elt x scope cl s₂ S P Fin (n - i) i ys news') ?_ (n + 1)
      ⟨h₁, _, 0, [], _, news, _, rfl, Nat.zero_le _, rfl, Nat.le_refl _, hst₁, F.keeps old, hns₁, fun p hp => ?_, off₀ { cls := .type "cell", data := .cell none }, ⟨_, rfl⟩, fun p hp => belowX _ (Heap.lt_size (N p hp).1), hS, R⟩
    · rintro k s' hz
      refine ex7a13 hz fun h' tk i ys m' news' oX es' hi ek hyl hst' F' hn' N' off' hvx' apX hS' R' => ?_
      clear hz
      refine Exists.elim hvx' fun vx hvx => ?_
      subst es' ek
      by_cases hlt : i < n
      · obtain ⟨j, hj⟩ : ∃ j, n - i = j + 1 := ⟨n - i - 1, subE hlt⟩
        rw [hj] at R'
        refine W.item i _ _ _ hlt hst' fun v h₂ tk₂ hPv hst₂ hk₂ => ?_
        have off3 := off'.mem
        have N₂ : News h₀ L h₂ ((s₂.heap.objs.size, lst ys) :: (H3.objs.size, oX) :: news') := news_but N' hk₂ fun p hp => by
          rcases List.mem_cons.mp hp with rfl | hp
          · exact Ne.symm hDI
          · exact (off3 p hp).1
        refine wpAny_assign_Name (wpAny_storeName_cell (show scope.kind = .function from hkind) (hx _ _) (show List.lookup x ((x, H3.objs.size) :: cl) = some H3.objs.size by simp) ⟨oX, (N₂ _ (.tail _ (.head _))).1, hvx⟩ fun h₃ hc₃ hs₃ => ?_)
        refine ex1a2 (hc₃) fun oX₃ eX₃ dX₃ => ?_
        clear hc₃
        refine wpAny_tests_nil ?_
        simp only [if_true]
        have hst₃ : St (i + 1) h₃ := W.frame _ _ _ hst₂ fun b hb o e => hs₃.extBut b o (fun q => hXf (by have q' : b = H3.objs.size := q; rw [← q']; exact hb)) e
        refine Exists.elim (hIo _ _ hst₃) fun oI heI => ?_
        have hn₃ : h₃.Ns H2.objs.size m' := (hn'.at' fun o e => hk₂ _ o (by simpa using Ne.symm hCI) e).sameBut hs₃ (Ne.symm hXC)
        refine ex1a2 (ns_obj hn₃) fun oC heC hoC => ?_
        have F₃ : Fr h₀ L h₃ m := (fr_but F' hk₂ hIL hI₀).change hs₃ hXL hX₀
        have N₃ : News h₀ L h₃ ((I, oI) :: (H2.objs.size, oC) :: (s₂.heap.objs.size, lst ys) :: (H3.objs.size, oX₃) :: news') := fun p hp => by
          rcases List.mem_cons.mp hp with rfl | hp
          · exact ⟨heI, Ne.symm hIL, hI₀⟩
          rcases List.mem_cons.mp hp with rfl | hp
          · exact ⟨heC, hCL, hC₀⟩
          rcases List.mem_cons.mp hp with rfl | hp
          · have z := N₂ _ (.head _)
            exact ⟨hs₃.extBut _ _ (Ne.symm hXD) z.1, z.2⟩
          rcases List.mem_cons.mp hp with rfl | hp
          · exact ⟨eX₃, hXL, hX₀⟩
          · have z := N₂ p (.tail _ (.tail _ hp))
            exact ⟨hs₃.extBut _ _ (apX p hp) z.1, z.2⟩
        have off'₃ : Off3 I H2.objs.size s₂.heap.objs.size ((H3.objs.size, oX₃) :: news') := ⟨⟨hXI, hXC, hXD⟩, off'.2⟩
        refine wpAny_mono (R' v I oI H2.objs.size oC H3.objs.size oX₃ s₂.heap.objs.size _ h₃ _ _ hPv hoC dX₃ F₃ N₃ off'₃ apX ⟨hCI, hDI, Ne.symm hDC⟩) (fun y s₄ h₄ => ?_) fun _ _ e => e
        have hz4 := h₄
        clear h₄
        refine ex3a5 hz4 fun h₄ tk₄ news₄ es4 F₄ N₄ off₄ hrest => ?_
        refine ex1a4 hrest.2 fun nw' en4 apX' hS₄ R₄ => ?_
        clear hrest hz4
        subst es4 en4
        have zI := (N₄ (I, oI) List.mem_cons_self).1
        have zC := (N₄ (H2.objs.size, oC) (List.mem_cons_of_mem _ List.mem_cons_self)).1
        have zD := (N₄ (s₂.heap.objs.size, lst ys) (List.mem_cons_of_mem _ (List.mem_cons_of_mem _ List.mem_cons_self))).1
        have N₄' : News h₀ L h₄ ((H3.objs.size, oX₃) :: nw') := fun p hp => N₄ p (List.mem_cons_of_mem _ (List.mem_cons_of_mem _ (List.mem_cons_of_mem _ hp)))
        have hst₄ : St (i + 1) h₄ := hSt _ _ _ _ _ hst₃ heI zI F₄.keep (fun p hp => N₄' p (.tail _ hp)) hS₄
        refine append_at (hsz := by show ys.toArray.size ≤ sizeLine; rw [List.size_toArray]; exact Nat.le_trans (Nat.le_trans hyl hi) hsz) zD fun h₅ hs₅ hD₅ => ?_
        have off4 := off₄.mem
        refine ⟨n + 1 - (i + 1), subD hlt, h₅, tk₄, i + 1, ys ++ [y], _, nw', oX₃, rfl, hlt, rfl, by rw [List.length_append, List.length_singleton]; exact Nat.succ_le_succ hyl, W.frame _ _ _ hst₄ fun b hb o e => hs₅.extBut b o (fun q => hDf (q ▸ hb)) e, F₄.change hs₅ hDL hD₀,
          (hoC.ns zC).sameBut hs₅ (Ne.symm hDC), fun p hp => ?_, off₄, ⟨_, dX₃⟩, apX', hS₄, ?_⟩
        · rcases List.mem_cons.mp hp with rfl | hp
          · exact ⟨hD₅.trans (congrArg some (lst_snoc ys y)), hDL, hD₀⟩
          · exact ⟨hs₅.extBut _ _ (off4 p hp).2.2 (N₄' p hp).1, (N₄' p hp).2⟩
        · rw [subS hj]
          exact R₄
      · obtain rfl : i = n := Nat.le_antisymm hi (Nat.not_lt.mp hlt)
        rw [Nat.sub_self] at R'
        refine W.done _ _ _ hst' fun h₂ tk₂ hk₂ => ?_
        have off3 := off'.mem
        exact hRR _ _ h₂ tk₂ _ ys news' (fr_but F' hk₂ hIL hI₀) (fun p hp => news_but N' hk₂ (fun p hp => by
          rcases List.mem_cons.mp hp with rfl | hp
          · exact Ne.symm hDI
          · exact (off3 p hp).1) p (by
          rcases List.mem_cons.mp hp with rfl | hp
          · exact .head _
          · exact .tail _ (.tail _ hp))) off'.2.one (hn'.at' fun o e => hk₂ _ o (by simpa using Ne.symm hCI) e) hC₀ hD₀ hCL hDL (Ne.symm hDC) (fun p hp => (off3 p (.tail _ hp)).2.1) R'
    · rcases List.mem_cons.mp hp with rfl | hp
      · exact ⟨hacc, hDL, hD₀⟩
      rcases List.mem_cons.mp hp with rfl | hp
      · exact ⟨hcl₁, hXL, hX₀⟩
      · exact ⟨old _ _ (N p hp).1, (N p hp).2⟩
  exact codeAny_compStart_list (loop _ rfl) (W.self 0 _ _ _ hst₁ (loop _ rfl))
noncomputable def SrcXU (prog : Program) (w : World) (A : Around) (h₀ : Heap) (L : Addr) (m : Str → Option Value) (env : Env) (elt : Expr) (x : Str) (scope : Scope) (cl : List (Str × Addr)) (Fin : Shared → List Value → List (Addr × Obj) → Prop) (E : Value → Shared → Prop) (xv : Value) (s₁ : Shared) : Prop :=
  wpAny (model prog w) A (pyIter xv) (fun it s₂ => ∃ I fp n P Stt S news, it = .ref I ∧ Walks prog w A I fp [I] n P Stt ∧ n ≤ sizeLine ∧ (∀ i h, Stt i h → ∃ o, h.get? I = some o) ∧
    (∀ i h h' o nw, Stt i h → h.get? I = some o → h'.get? I = some o → (∀ b o, h₀.get? b = some o → h'.get? b = some o) → News h₀ L h' nw → S nw → Stt i h') ∧
    Stt 0 s₂.heap ∧ (∀ b ∈ fp, b < s₂.heap.objs.size) ∧ Fr h₀ L s₂.heap m ∧ News h₀ L s₂.heap news ∧ L ≠ I ∧ h₀.get? I = none ∧ (∀ p ∈ news, p.1 ≠ I) ∧ S news ∧
    CompRestXU prog w A h₀ L m env elt x scope cl s₂ S P (Fin s₂) n 0 [] news) E s₁
theorem SrcXU.of {elt : Expr} {x : Str} {scope : Scope} {cl : List (Str × Addr)} {S : List (Addr × Obj) → Prop} {P : Nat → Value → Prop} {Fin : Shared → List Value → List (Addr × Obj) → Prop} {n : Nat} {xv : Value} {news : List (Addr × Obj)} {s₁ : Shared} (D : Drawn prog w A h₀ L m n P S news xv s₁) (hsz : n ≤ sizeLine)
    (h : ∀ g, CompRestXU prog w A h₀ L m env elt x scope cl { s₁ with heap := g } S P (Fin { s₁ with heap := g }) n 0 [] news) :
    SrcXU prog w A h₀ L m env elt x scope cl Fin E xv s₁ :=
  D _ _ fun I fp Stt g o => ⟨I, fp, n, P, Stt, S, news, rfl, o.W, hsz, o.hIo, o.hSt, o.st, o.hfp, o.F, o.N, o.LI, o.I0, o.off, o.S, h g⟩
theorem ListComp_XU {elt : Expr} {x : Str} {scope : Scope} {cl : List (Str × Addr)} {iter : Expr} {px : Pos} {pos : Pos} {Q : Value → Shared → Prop} (F₀ : Fr h₀ L s.heap m)
    (hclos : closureFor scope env = pure cl) (hcells : ∀ n, cellsFrom n scope.names cl = (x, n) :: cl) (hpush : ∀ h, pushCells h scope.names = h.push { cls := .type "cell", data := .cell none }) (hkind : scope.kind = .function)
    (hnames : ∀ y ∈ scope.names, y.2 = .local → scope.names.lookup y.1 = some .local) (hx : ∀ cs C, (compEnvC scope cs C env).kindOf x = some .cell)
    (h : wpAny (model prog w) A (eval iter env) (SrcXU prog w A h₀ L m env elt x scope cl (fun s₂ => FinE h₀ L m s₂ Q) E) E s)
    (hs : ∀ x, foldedSetIterable iter env x = pure x := by intro _; rfl) :
    wpAny (model prog w) A (eval (.ListComp elt [⟨.Name x px, iter, [], 0⟩] scope pos) env) Q E s := by
  rw [eval_ListComp]
  refine wpAny_comprehension_free (use := none) rfl hs hclos hkind hnames (wpAny_mono h (fun xv s₁ h₁ => ?_) fun _ _ e => e)
  refine wpAny_mono h₁ (fun it s₂ h₂ => ?_) fun _ _ e => e
  refine ex7a14 (h₂) fun I fp n P Stt S news eqb W hsz hIo hSt hst hfp F N hIL hI₀ off hS R => ?_
  clear h₂
  subst eqb
  refine block_XU W hsz hIo hSt hcells hpush hkind hx hst hfp F N hIL hI₀ off hS R ?_
  intro D C h tk m' ys news' F' N' o1 hn hC₀ hD₀ hCL hDL hCD offC fin
  refine ⟨m', hn, fun h'' hs'' => fin D h'' tk (F'.change hs'' hCL hC₀) (fun p hp => ?_) o1⟩
  refine ⟨hs''.extBut _ _ ?_ (N' p hp).1, (N' p hp).2⟩
  rcases List.mem_cons.mp hp with rfl | hp
  · exact Ne.symm hCD
  · exact offC p hp
end
end E12Part
section E13Part
set_option linter.unusedVariables false
open LCg LCt
section
variable {prog : Program} {w : World} {A : Around} {E : Value → Shared → Prop} {s : Shared} {h₀ : Heap} {L : Addr} {m : Str → Option Value} {env : Env} {elt ct : Expr} {x : Str} {scope : Scope} {cl : List (Str × Addr)} {S : List (Addr × Obj) → Prop} {P : Nat → Value → Prop}
  {Fin : List Value → List (Addr × Obj) → Prop}
/-- the ledger stays: with a test -/
theorem compXT_invK {n : Nat} {news : List (Addr × Obj)} (Inv : Nat → List Value → Prop) (hS : S news)
    (turn : ∀ i ys, i < n → Inv i ys → ∀ v I oI C oC CA oX D m₂ h tk (E' : Value → Shared → Prop), P i v → NsObj oC m₂ → oX.data = .cell (some v) → Fr h₀ L h m → News h₀ L h ((I, oI) :: (C, oC) :: (D, lst ys) :: (CA, oX) :: news) → Off3 I C D ((CA, oX) :: news) → (∀ p ∈ news, p.1 ≠ CA) → ((@Ne Nat I C) ∧ (@Ne Nat I D) ∧ (@Ne Nat C D)) →
      wpAny (model prog w) A (isTrue ct (compEnvC scope ((x, CA) :: cl) C env) (eval ct (compEnvC scope ((x, CA) :: cl) C env))) (fun ok s' => if ok = true then
        wpAny (model prog w) A (eval elt (compEnvC scope ((x, CA) :: cl) C env)) (CompEnd h₀ L m { s with heap := h, toks := tk } I oI C oC D (lst ys) (fun _ => True) (fun y news' => Halt (news' = (CA, oX) :: news ∧ Inv (i + 1) (ys ++ [y])))) E' s'
        else CompEnd h₀ L m { s with heap := h, toks := tk } I oI C oC D (lst ys) (fun _ => True) (fun _ news' => Halt (news' = (CA, oX) :: news ∧ Inv (i + 1) ys)) Value.none s') E' { s with heap := h, toks := tk })
    (fin : ∀ ys, Inv n ys → Fin ys news) : ∀ k i ys, i + k = n → Inv i ys → CompRestXT prog w A h₀ L m env ct elt x scope cl s S P Fin k i ys news
  | 0, i, ys, e, hI => fin ys (by rw [Nat.add_zero] at e; rw [← e]; exact hI)
  | k + 1, i, ys, e, hI => by
    intro v I oI C oC CA oX D m₂ h tk E' hv hC hX F N off ap ne
    refine wpAny_mono (turn i ys (addL e) hI v I oI C oC CA oX D m₂ h tk E' hv hC hX F N off ap ne) (fun ok s' q => ?_) fun _ _ z => z
    cases ok with
    | true =>
      simp only [if_true] at q ⊢
      exact wpAny_mono q (fun y s'' q' => by
        obtain ⟨h', tk', n', e', F', N', o, hs, r1, r2⟩ := q'
        exact ⟨h', tk', n', e', F', N', o, trivial, news, r1, ap, hS, compXT_invK Inv hS turn fin k (i + 1) _ (addA e) r2⟩) fun _ _ z => z
    | false =>
      simp only [Bool.false_eq_true, if_false] at q ⊢
      obtain ⟨h', tk', n', e', F', N', o, hs, r1, r2⟩ := q
      exact ⟨h', tk', n', e', F', N', o, trivial, news, r1, ap, hS, compXT_invK Inv hS turn fin k (i + 1) _ (addA e) r2⟩
/-- the ledger stays: without a test -/
theorem compXU_invK {n : Nat} {news : List (Addr × Obj)} (Inv : Nat → List Value → Prop) (hS : S news)
    (turn : ∀ i ys, i < n → Inv i ys → ∀ v I oI C oC CA oX D m₂ h tk (E' : Value → Shared → Prop), P i v → NsObj oC m₂ → oX.data = .cell (some v) → Fr h₀ L h m → News h₀ L h ((I, oI) :: (C, oC) :: (D, lst ys) :: (CA, oX) :: news) → Off3 I C D ((CA, oX) :: news) → (∀ p ∈ news, p.1 ≠ CA) → ((@Ne Nat I C) ∧ (@Ne Nat I D) ∧ (@Ne Nat C D)) →
      wpAny (model prog w) A (eval elt (compEnvC scope ((x, CA) :: cl) C env)) (CompEnd h₀ L m { s with heap := h, toks := tk } I oI C oC D (lst ys) (fun _ => True) (fun y news' => Halt (news' = (CA, oX) :: news ∧ Inv (i + 1) (ys ++ [y])))) E' { s with heap := h, toks := tk })
    (fin : ∀ ys, Inv n ys → Fin ys news) : ∀ k i ys, i + k = n → Inv i ys → CompRestXU prog w A h₀ L m env elt x scope cl s S P Fin k i ys news
  | 0, i, ys, e, hI => fin ys (by rw [Nat.add_zero] at e; rw [← e]; exact hI)
  | k + 1, i, ys, e, hI => by
    intro v I oI C oC CA oX D m₂ h tk E' hv hC hX F N off ap ne
    exact wpAny_mono (turn i ys (addL e) hI v I oI C oC CA oX D m₂ h tk E' hv hC hX F N off ap ne) (fun y s'' q' => by
        obtain ⟨h', tk', n', e', F', N', o, hs, r1, r2⟩ := q'
        exact ⟨h', tk', n', e', F', N', o, trivial, news, r1, ap, hS, compXU_invK Inv hS turn fin k (i + 1) _ (addA e) r2⟩) fun _ _ z => z
end
end E13Part
section E15Part
set_option linter.unusedVariables false
open LCg in
/-- the end of a turn of a for over a list of the ledger -/
noncomputable def LedEnd (h₀ : Heap) (L I : Addr) (oI : Obj) (ax : Addr) (oA : Obj) (Inv : (Str → Option Value) → List (Addr × Obj) → Prop) (s : Shared) (Q : Flow → Shared → Prop) (f : Flow) (s' : Shared) : Prop :=
  match f with
  | .next => ∃ h' tk' m' news', s' = { s with heap := h', toks := tk' } ∧ Fr h₀ L h' m' ∧ News h₀ L h' ((I, oI) :: news') ∧ (∀ p ∈ news', p.1 ≠ I) ∧ (ax, oA) ∈ news' ∧ Inv m' news'
  | .cont => False
  | .brk => Q .next s'
  | .ret v => Q (.ret v) s'
theorem LedEnd.next {h₀ : Heap} {L I : Addr} {oI : Obj} {ax : Addr} {oA : Obj} {Inv : (Str → Option Value) → List (Addr × Obj) → Prop} {s : Shared} {Q : Flow → Shared → Prop} {h' : Heap} {tk' : Nat} {m' : Str → Option Value} {all : List (Addr × Obj)}
    (F : Fr h₀ L h' m') (N : News h₀ L h' all) (news' : List (Addr × Obj)) (sub : ∀ p ∈ (I, oI) :: news', p ∈ all) (off : ∀ p ∈ news', p.1 ≠ I) (hm : (ax, oA) ∈ news') (hI : Inv m' news') :
    LedEnd h₀ L I oI ax oA Inv s Q .next { s with heap := h', toks := tk' } := ⟨h', tk', m', news', rfl, F, News.sub N sub, off, hm, hI⟩
section
open LCg
variable {prog : Program} {w : World} {A : Around} {E : Value → Shared → Prop} {s : Shared} {env : Env} {h₀ : Heap} {body : List Stmt} {Q : Flow → Shared → Prop} {target iter : Expr} {pos : Pos}
/-- what stands when the list is there -/
noncomputable def LedFor (prog : Program) (w : World) (A : Around) (h₀ : Heap) (env : Env) (target : Expr) (body : List Stmt) (Q : Flow → Shared → Prop) (E : Value → Shared → Prop) (xv : Value) (s₁ : Shared) : Prop :=
  ∃ ax vs k m news, ∃ Inv : Nat → (Str → Option Value) → List (Addr × Obj) → Prop, xv = .ref ax ∧ Fr h₀ env.locals s₁.heap m ∧ News h₀ env.locals s₁.heap news ∧ (ax, listOf (List.toArray vs) k) ∈ news ∧ Inv 0 m news ∧
    (∀ i v I oI m₁ news₁ h tk, vs[i]? = some v → Inv i m₁ news₁ → Fr h₀ env.locals h m₁ → News h₀ env.locals h ((I, oI) :: news₁) → (∀ p ∈ news₁, p.1 ≠ I) → (ax, listOf (List.toArray vs) k) ∈ news₁ →
      wpAny (model prog w) A (assign target env v) (fun _ s₂ => wpAny (model prog w) A (execs body env) (LedEnd h₀ env.locals I oI ax (listOf (List.toArray vs) k) (Inv (i + 1)) { s₁ with heap := h, toks := tk } Q) E s₂) E { s₁ with heap := h, toks := tk }) ∧
    ∀ m' news' h tk, Inv vs.length m' news' → Fr h₀ env.locals h m' → News h₀ env.locals h news' → Q .next { s₁ with heap := h, toks := tk }
theorem LedFor.of {ax : Addr} {vs : List Value} {k : Nat} {m : Str → Option Value} {news : List (Addr × Obj)} {s₁ : Shared} (Inv : Nat → (Str → Option Value) → List (Addr × Obj) → Prop) (F : Fr h₀ env.locals s₁.heap m) (N : News h₀ env.locals s₁.heap news) (hm : (ax, listOf vs.toArray k) ∈ news) (h0 : Inv 0 m news)
    (turn : ∀ i v I oI m₁ news₁ h tk, vs[i]? = some v → Inv i m₁ news₁ → Fr h₀ env.locals h m₁ → News h₀ env.locals h ((I, oI) :: news₁) → (∀ p ∈ news₁, p.1 ≠ I) → (ax, listOf vs.toArray k) ∈ news₁ →
      wpAny (model prog w) A (assign target env v) (fun _ s₂ => wpAny (model prog w) A (execs body env) (LedEnd h₀ env.locals I oI ax (listOf vs.toArray k) (Inv (i + 1)) { s₁ with heap := h, toks := tk } Q) E s₂) E { s₁ with heap := h, toks := tk })
    (fin : ∀ m' news' h tk, Inv vs.length m' news' → Fr h₀ env.locals h m' → News h₀ env.locals h news' → Q .next { s₁ with heap := h, toks := tk }) : LedFor prog w A h₀ env target body Q E (.ref ax) s₁ :=
  ⟨ax, vs, k, m, news, Inv, rfl, F, N, hm, h0, turn, fin⟩
theorem For_led (hh : A.handled = none) (h : wpAny (model prog w) A (eval iter env) (LedFor prog w A h₀ env target body Q E) E s)
    (hs : ∀ x, foldedSetIterable iter env x = pure x := by intro _; rfl)
    (hE : PassesOwn (model prog w) A env E := by passes_own) :
    wpAny (model prog w) A (exec (.For target iter body [] pos) env) Q E s := by
  refine wpAny_For (wpAny_mono h (fun xv s₁ h₁ => ?_) fun _ _ e => e) hs
  refine ex6a7 (h₁) fun ax vs k m news Inv eqa F N hm h0 turn fin => ?_
  clear h₁
  subst eqa
  have hl : s₁.heap.IsList ax vs.toArray := ⟨_, (N _ hm).1, rfl, _, rfl⟩
  have hlt : ax < s₁.heap.objs.size := Heap.lt_size (N _ hm).1
  refine wpAny_pyIter_list hl ?_
  generalize hI : s₁.heap.objs.size = I at *
  have hh2 : s₁.heap.objs.size = I := hI
  have up : ∀ b o, s₁.heap.get? b = some o → (s₁.heap.push { cls := .type "list_iterator", data := .fields #[.ref ax, .int 0 0] }).get? b = some o := fun b o e => Heap.get?_push_of_some _ e
  have eI : (s₁.heap.push { cls := .type "list_iterator", data := .fields #[.ref ax, .int 0 0] }).get? I = some { cls := .type "list_iterator", data := .fields #[.ref ax, .int 0 0] } := by rw [← hI]; exact Heap.get?_push_size _ rfl
  have hLI : env.locals ≠ I := by rw [← hI]; exact Nat.ne_of_lt F.ns.lt
  have hI₀ : h₀.get? I = none := by rw [← hI]; exact next_is_new F
  have W := Walks.list (prog := prog) (w := w) hh I ax (Nat.ne_of_lt hlt) vs.toArray
  have haI : ax ≠ I := Nat.ne_of_lt hlt
  refine codeAny_forLoop_any (fun n' s' => ∃ i h' tk m' news', s' = { s₁ with heap := h', toks := tk } ∧ i ≤ vs.length ∧ n' = vs.length + 1 - i ∧ (h'.IsListIter I ax i ∧ h'.IsList ax vs.toArray) ∧ Fr h₀ env.locals h' m' ∧ News h₀ env.locals h' news' ∧ (∀ p ∈ news', p.1 ≠ I) ∧ (ax, listOf vs.toArray k) ∈ news' ∧ Inv i m' news') ?_ (vs.length + 1)
    ⟨0, _, _, m, news, rfl, Nat.zero_le _, rfl, ⟨⟨_, eI, rfl, rfl⟩, hl.push _⟩, F.keeps up, N.grown up, fun p hp => by rw [← hI]; exact Nat.ne_of_lt (Heap.lt_size (N p hp).1), hm, h0⟩
  rintro n' s' hz
  refine ex5a9 hz fun i h' tk m' news' es' hi ek hst F' N' off hm' hJ => ?_
  clear hz
  subst es' ek
  by_cases hlt' : i < vs.length
  · refine W.item i _ _ _ (by simpa using hlt') hst fun v h₁ tk₁ hP hst₁ hk₁ => ?_
    refine letGo_listiter hst₁.1 ?_
    have F₁ := fr_but F' hk₁ hLI hI₀
    have N₁ := news_but N' hk₁ off
    obtain ⟨oI, eI₁, cI, dI⟩ := id hst₁.1
    refine wpAny_passesOwn hE (wpAny_mono (turn i v I oI m' news' h₁ tk₁ (by simpa using hP) hJ F₁ (fun p hp => ?_) off hm') (fun _ s₂ h₂ => wpAny_passesOwn hE (wpAny_mono h₂ (fun f s₃ h₃ => ?_) fun _ _ e => e)) fun _ _ e => e)
    · rcases List.mem_cons.mp hp with rfl | hp
      · exact ⟨eI₁, Ne.symm hLI, hI₀⟩
      · exact N₁ p hp
    · cases f with
      | ret v => exact h₃
      | brk => exact h₃
      | cont => exact h₃.elim
      | next =>
        refine ex4a6 (h₃) fun h₃' tk₃ m₂ news₂ eqb F₃ N₃ off₃ hm₃ hJ₃ => ?_
        clear h₃
        subst eqb
        refine ⟨vs.length + 1 - (i + 1), subD hlt', i + 1, h₃', tk₃, m₂, news₂, rfl, hlt', rfl, ⟨⟨oI, (N₃ _ (.head _)).1, cI, dI⟩, ⟨_, (N₃ _ (.tail _ hm₃)).1, rfl, _, rfl⟩⟩, F₃, fun p hp => N₃ p (.tail _ hp), off₃, hm₃, hJ₃⟩
  · have hin : i = vs.length := by omega
    subst hin
    refine W.done _ _ _ (by simpa using hst) fun h₁ tk₁ hk₁ => wpAny_execs_nil ?_
    exact fin m' news' h₁ tk₁ hJ (fr_but F' hk₁ hLI hI₀) (news_but N' hk₁ off)
end
end E15Part
section D4Part
set_option linter.unusedVariables false
section
variable {w : World} {mean : ExcName → Option Value} {mg mb : Str → Option Value} {dp un : Nat} {gd : Option (List Code)} {base : Heap} {fr : List Env} {s : Shared} {Q E : Value → Shared → Prop}
local macro_rules | `(tactic| walk_at "subscriptTail Name Name ref int") => `(tactic| (k_here; k_dflt (refine' get_refs ?N ?hm ?h0 ?hf ?hx ?_); (case N => k_asm); (case hm => k_mem); (case h0 => walk_at "NUM"); (case hf => walk_at "NUM"); (case hx => first | assumption | (simp only [Int.toNat_natCast]; assumption))))
local macro_rules | `(tactic| walk_at "binaryOp RShift int int") => `(tactic| (k_here; k_dflt (refine' rshift_half ?hp ?_); (case hp => exact posI (by assumption))))
local macro_rules | `(tactic| walk_at "setItem ref int") => `(tactic| (k_here; k_dflt (refine' set_refs ?F ?N ?h0 ?hf ?hl ?U ?_); (case F => k_asm); (case N => k_asm); (case U => k_upd); (case h0 => walk_at "NUM"); (case hf => walk_at "NUM"); (case hl => walk_at "NUM"); intro h' F' N'; (try k_sweep)))
local macro_rules | `(tactic| walk_at "compareOp Lt ref ref") => `(tactic| (k_here; k_dflt (refine' lt_key ?ha ?hb ?hu ?_); (case ha => exact IsKey.keeps (by assumption) (Fr.keep (by assumption))); (case hb => exact IsKey.keeps (by assumption) (Fr.keep (by assumption))); (case hu => ((show _ + 3 < cLine); (dsimp only [Ar]); walk_at "NUM"))))
local macro_rules | `(tactic| walk_at "call builtin:len") => `(tactic| (k_here; k_dflt (refine' len_refs ?N ?hm ?hf ?_); (case N => k_asm); (case hm => k_mem); (case hf => walk_at "NUM")))
theorem siftdown_spec {b : Addr} {hs : List Addr} {n : Nat} {κ : Addr → Str × Int} {sp pos : Nat} {t1 t2 : Tok}
    (S : St w mean mg mb (hideAll s.heap ([(b, listOf (rv hs).toArray n)].map (·.1)))) (hd : dp + 1 < recursionLimit) (hu : un + 10 < cLine)
    (hm : ∀ p ∈ [(b, listOf (rv hs).toArray n)], s.heap.get? p.1 = some p.2)
    (hk : ∀ a ∈ hs, IsKey (hideAll s.heap ([(b, listOf (rv hs).toArray n)].map (·.1))) a (κ a)) (hsp : sp ≤ pos) (hpos : pos < hs.length) (hlen : hs.length ≤ 1000)
    (h : ∀ h' tk', (∀ c o, (hideAll s.heap ([(b, listOf (rv hs).toArray n)].map (·.1))).get? c = some o → h'.get? c = some o) →
      h'.get? b = some (listOf (rv (siftdown (fun x y => keyLt (κ x) (κ y)) hs sp pos)).toArray n) → Q .none { s with heap := h', toks := tk' }) :
    wpAny (model PySem.Challenge.rw_pd0148_01.row.prog w) (Ar dp un gd fr) (call (.ref 49) [.ref b, .int sp t1, .int pos t2]) Q E s := by
  (have kfX := (‹St _ _ _ _ _›).X; revert kfX; k_fill; intro _)
  (refine wpAny_call ?_; (with_reducible rename (∀ p ∈ _, Heap.get? _ _ = some _) => hmuts); refine' enter ?k1 ?k6 ?k7 ?k8 ?k9 ?kB hmuts ?_ ?c2 ?c3 ?c4 ?c5; ((case k1 => assumption); (case k6 => k_is); (case k7 => k_is); (case k8 => first | exact ltc0 (by assumption) | omega); (case k9 => exact BindsTo.of_eq rfl); (case kB => exact locs rfl)); ((case c2 => exact rfl); (case c3 => exact rfl); (case c4 => exact rfl); (case c5 => decide); (try dsimp only)))
  intro L' h₁ F N
  obtain ⟨X, T⟩ := S
  generalize hideAll s.heap ([(b, listOf (rv hs).toArray n)].map (·.1)) = g at *
  (obtain ⟨g0, _, _, _, _⟩ := s)
  dsimp only at *
  k_fold
  obtain ⟨new, hnew⟩ : ∃ a, hs[pos]? = some a := ⟨hs[pos], List.getElem?_eq_getElem hpos⟩
  have n0 : (0 : Int) ≤ (pos : Int) := nn
  have n1 : (pos : Int) < 2 ^ 63 := lt63 hpos hlen
  k_steps
  unfold Halt
  (rename Fr _ _ _ _ => F2)
  (rename News _ _ _ _ => N2)
  refine ksw_while (σ := List Addr × Nat × Tok) (fun c => [(b, listOf (rv c.1).toArray n)]) (fun c => [(Str.ofString "pos", .int c.2.1 c.2.2)]) (fun c => c.1.length = hs.length ∧ ∀ a ∈ c.1, a ∈ hs)
    [Str.ofString "parentpos", Str.ofString "parent"]
    (fun c => c.2.1 < hs.length ∧ ∃ f, c.2.1 ≤ f ∧ sdF (fun x y => keyLt (κ x) (κ y)) new sp f c.1 c.2.1 = siftdown (fun x y => keyLt (κ x) (κ y)) hs sp pos) (fun c => c.2.1)
    (hs, pos, t2) F2 N2 ⟨rfl, fun _ h => h⟩ (by kst_all) ⟨hpos, pos, Nat.le_refl _, by unfold siftdown; rw [hnew]⟩ ?_
  clear F2 N2
  rintro ⟨hs', p', t'⟩ u h₂ tk₂ ⟨hl', hin'⟩ ⟨hp', f, hf, hres⟩ F3 N3
  dsimp only at *
  k_fold
  have kn := hk new (List.mem_of_getElem? hnew)
  have hh : (p' - 1) / 2 < hs.length := Nat.lt_of_le_of_lt half_le hp'
  obtain ⟨par, hpar⟩ : ∃ a, hs'[(p' - 1) / 2]? = some a := ⟨_, List.getElem?_eq_getElem (show (p' - 1) / 2 < hs'.length from hl'.symm ▸ hh)⟩
  have z0 : (0 : Int) ≤ (p' : Int) := nn
  have z1 : (p' : Int) < 2 ^ 63 := lt63 hp' hlen
  have z2 : (p' : Int) < (hs'.length : Int) := Int.ofNat_lt.mpr (hl'.symm ▸ hp')
  have q0 : (0 : Int) ≤ (((p' - 1) / 2 : Nat) : Int) := nn
  have q1 : (((p' - 1) / 2 : Nat) : Int) < 2 ^ 63 := lt63 hh hlen
  have u3 : un + 3 < cLine := ltcA hu rfl
  have kp := hk par (hin' _ (List.mem_of_getElem? hpar))
  (k_steps; all_goals (try ((first | ((with_reducible rename Held _ => hKQ); refine Held.out hKQ _ _ ?_; clear hKQ; (try dsimp only)) | ((with_reducible rename (∀ f s, KswPost _ _ _ _ _ _ _ _ _ _ _ _ f s → _) => hKQ); refine hKQ _ _ ?_; clear hKQ)); k_steps)); all_goals (try ((first | ((with_reducible rename Held _ => hKQ); refine Held.out hKQ _ _ ?_; clear hKQ; (try dsimp only)) | ((with_reducible rename (∀ f s, KswPost _ _ _ _ _ _ _ _ _ _ _ _ f s → _) => hKQ); refine hKQ _ _ ?_; clear hKQ)); k_steps)))
  · unfold Halt
    have hsp' : sp < p' := Int.ofNat_lt.mp (by assumption)
    have h0' : 0 < p' := Nat.lt_of_le_of_lt (Nat.zero_le _) hsp'
    obtain ⟨f', rfl⟩ : ∃ f', f = f' + 1 := ⟨f - 1, predE (Nat.lt_of_lt_of_le h0' hf)⟩
    refine ksw_end (hs'.set p' par, (p' - 1) / 2, _) (by assumption) (by assumption) (fun p hp => hp) ⟨by rw [List.length_set]; exact hl', fun a ha => ?_⟩ (by kst_all) (by (intro z h2 h3; (simp only [List.forall_mem_cons, List.not_mem_nil, false_implies, implies_true, and_true, ne_eq] at h2); (simp only [List.contains_cons, List.contains_nil, Bool.or_false, Bool.or_eq_false_iff, beq_eq_false_iff_ne, ne_eq] at h3); (simp [kstB, h2, h3]; done))) ⟨hh, f', Nat.le_of_lt_succ (Nat.lt_of_lt_of_le (half_lt h0') hf), ?_⟩ (half_lt h0')
    · rcases List.mem_or_eq_of_mem_set ha with ha | ha
      · exact hin' a ha
      · exact ha ▸ hin' _ (List.mem_of_getElem? hpar)
    · rw [← hres]
      exact (sdF_up hsp' hpar (by assumption)).symm
  · refine h _ _ (Fr.keep (by assumption)) ((News.get (by assumption) (List.Mem.head _)).trans ?_)
    rw [← hres, sdF_not hpar (by assumption)]
    rfl
  · refine h _ _ (Fr.keep (by assumption)) ((News.get (by assumption) (List.Mem.head _)).trans ?_)
    rw [← hres, sdF_end (by omega)]
    rfl
end
end D4Part
section D5Part
set_option linter.unusedVariables false
section
variable {w : World} {mean : ExcName → Option Value} {mg mb : Str → Option Value} {dp un : Nat} {gd : Option (List Code)} {base : Heap} {fr : List Env} {s : Shared} {Q E : Value → Shared → Prop}
local macro_rules | `(tactic| walk_at "subscriptTail Name Name ref int") => `(tactic| (k_here; k_dflt (refine' get_refs ?N ?hm ?h0 ?hf ?hx ?_); (case N => k_asm); (case hm => k_mem); (case h0 => walk_at "NUM"); (case hf => walk_at "NUM"); (case hx => first | assumption | (simp only [Int.toNat_natCast]; assumption))))
local macro_rules | `(tactic| walk_at "binaryOp RShift int int") => `(tactic| (k_here; k_dflt (refine' rshift_half ?hp ?_); (case hp => exact posI (by assumption))))
local macro_rules | `(tactic| walk_at "setItem ref int") => `(tactic| (k_here; k_dflt (refine' set_refs ?F ?N ?h0 ?hf ?hl ?U ?_); (case F => k_asm); (case N => k_asm); (case U => k_upd); (case h0 => walk_at "NUM"); (case hf => walk_at "NUM"); (case hl => walk_at "NUM"); intro h' F' N'; (try k_sweep)))
local macro_rules | `(tactic| walk_at "compareOp Lt ref ref") => `(tactic| (k_here; k_dflt (refine' lt_key ?ha ?hb ?hu ?_); (case ha => exact IsKey.keeps (by assumption) (Fr.keep (by assumption))); (case hb => exact IsKey.keeps (by assumption) (Fr.keep (by assumption))); (case hu => ((show _ + 3 < cLine); (dsimp only [Ar]); walk_at "NUM"))))
local macro_rules | `(tactic| walk_at "call builtin:len") => `(tactic| (k_here; k_dflt (refine' len_refs ?N ?hm ?hf ?_); (case N => k_asm); (case hm => k_mem); (case hf => walk_at "NUM")))
local macro_rules | `(tactic| walk_at "call ref") => `(tactic| (k_here; (with_reducible show wpAny _ _ (call (Value.ref 49) _) _ _ _); refine Halt.mk ?_))
theorem su_meas {n p : Nat} (hp : p < n) : n - (2 * (p : Int) + 1).toNat < n - ((p : Nat) : Int).toNat := by
  show n - (2 * p + 1) < n - p
  exact Nat.sub_lt_sub_left hp dbl_lt.1
theorem su_meas2 {n p : Nat} (hp : p < n) : n - (2 * (p : Int) + 1 + 1).toNat < n - ((p : Nat) : Int).toNat := by
  show n - (2 * p + 1 + 1) < n - p
  exact Nat.sub_lt_sub_left hp dbl_lt.2
theorem siftup_spec {b : Addr} {hs : List Addr} {n : Nat} {κ : Addr → Str × Int} {pos : Nat} {t1 : Tok}
    (S : St w mean mg mb (hideAll s.heap ([(b, listOf (rv hs).toArray n)].map (·.1)))) (hd : dp + 2 < recursionLimit) (hu : un + 20 < cLine)
    (hm : ∀ p ∈ [(b, listOf (rv hs).toArray n)], s.heap.get? p.1 = some p.2)
    (hk : ∀ a ∈ hs, IsKey (hideAll s.heap ([(b, listOf (rv hs).toArray n)].map (·.1))) a (κ a)) (hpos : pos < hs.length) (hlen : hs.length ≤ 1000)
    (h : ∀ h' tk', (∀ c o, (hideAll s.heap ([(b, listOf (rv hs).toArray n)].map (·.1))).get? c = some o → h'.get? c = some o) →
      h'.get? b = some (listOf (rv (siftup (fun x y => keyLt (κ x) (κ y)) hs pos)).toArray n) → Q .none { s with heap := h', toks := tk' }) :
    wpAny (model PySem.Challenge.rw_pd0148_01.row.prog w) (Ar dp un gd fr) (call (.ref 56) [.ref b, .int pos t1]) Q E s := by
  (have kfX := (‹St _ _ _ _ _›).X; revert kfX; k_fill; intro _)
  (refine wpAny_call ?_; (with_reducible rename (∀ p ∈ _, Heap.get? _ _ = some _) => hmuts); refine' enter ?k1 ?k6 ?k7 ?k8 ?k9 ?kB hmuts ?_ ?c2 ?c3 ?c4 ?c5; ((case k1 => assumption); (case k6 => k_is); (case k7 => k_is); (case k8 => first | exact ltc0 (by assumption) | omega); (case k9 => exact BindsTo.of_eq rfl); (case kB => exact locs rfl)); ((case c2 => exact rfl); (case c3 => exact rfl); (case c4 => exact rfl); (case c5 => decide); (try dsimp only)))
  intro L' h₁ F N
  obtain ⟨X, T⟩ := S
  generalize hideAll s.heap ([(b, listOf (rv hs).toArray n)].map (·.1)) = g at *
  (obtain ⟨g0, _, _, _, _⟩ := s)
  dsimp only at *
  k_fold
  obtain ⟨new, hnew⟩ : ∃ a, hs[pos]? = some a := ⟨_, List.getElem?_eq_getElem hpos⟩
  have kn := hk new (List.mem_of_getElem? hnew)
  have n0 : (0 : Int) ≤ (pos : Int) := nn
  have n1 : (pos : Int) < 2 ^ 63 := lt63 hpos hlen
  have n2 : hs.length < 2 ^ 62 := Nat.lt_of_le_of_lt hlen (by decide)
  k_steps
  unfold Halt
  (rename Fr _ _ _ _ => F2)
  (rename News _ _ _ _ => N2)
  refine ksw_while (σ := List Addr × Int × Tok × Tok) (fun c => [(b, listOf (rv c.1).toArray n)]) (fun c => [(Str.ofString "pos", .int c.2.1 c.2.2.1), (Str.ofString "childpos", .int (2 * c.2.1 + 1) c.2.2.2)]) (fun c => c.1.length = hs.length ∧ ∀ a ∈ c.1, a ∈ hs)
    [Str.ofString "rightpos"]
    (fun c => ∃ p : Nat, c.2.1 = (p : Int) ∧ pos ≤ p ∧ p < hs.length ∧ ∃ f, hs.length ≤ f + p ∧ suF (fun x y => keyLt (κ x) (κ y)) f c.1 p = suF (fun x y => keyLt (κ x) (κ y)) hs.length hs pos) (fun c => hs.length - c.2.1.toNat)
    (hs, (pos : Int), _, _) F2 N2 ⟨rfl, fun _ h => h⟩ (by kst_all) ⟨pos, rfl, Nat.le_refl _, hpos, hs.length, Nat.le_add_right _ _, rfl⟩ ?_
  clear F2 N2
  refine tp4 fun hs' pi t' t'' => ?_
  rintro u h₂ tk₂ hSt hcc
  dsimp only at hSt hcc
  refine an2 hSt fun hl' hin' => ?_
  refine ex1a4 hcc fun p epi hpp hp' hfx => ?_
  refine ex1a2 hfx fun f hf hres => ?_
  clear hSt hcc hfx
  subst epi
  rintro F3 N3
  dsimp only at *
  k_fold
  obtain ⟨f', rfl⟩ : ∃ f', f = f' + 1 := by
    cases f with
    | zero => exact absurd (Nat.zero_add p ▸ hf) (Nat.not_le.mpr hp')
    | succ f' => exact ⟨f', rfl⟩
  have z0 : (0 : Int) ≤ (p : Int) := nn
  have z1 : (p : Int) < 2 ^ 63 := lt63 hp' hlen
  have z2 : (p : Int) < (hs'.length : Int) := Int.ofNat_lt.mpr (hl'.symm ▸ hp')
  have c0 : (0 : Int) ≤ 2 * (p : Int) + 1 := nn (a := 2 * p + 1)
  have u3 : un + 3 < cLine := ltcA hu rfl
  by_cases hc : 2 * p + 1 < hs.length
  · obtain ⟨x, hx⟩ : ∃ a, hs'[2 * p + 1]? = some a := ⟨_, List.getElem?_eq_getElem (show 2 * p + 1 < hs'.length from hl'.symm ▸ hc)⟩
    have c1 : 2 * (p : Int) + 1 < 2 ^ 63 := lt63 hc hlen
    have c2 : 2 * (p : Int) + 1 < (hs.length : Int) := Int.ofNat_lt.mpr hc
    have kx := hk x (hin' _ (List.mem_of_getElem? hx))
    have hx' : hs'[(2 * (p : Int) + 1).toNat]? = some x := hx
    by_cases hr : 2 * p + 2 < hs.length
    · obtain ⟨y, hy⟩ : ∃ a, hs'[2 * p + 1 + 1]? = some a := ⟨_, List.getElem?_eq_getElem (show 2 * p + 1 + 1 < hs'.length from hl'.symm ▸ hr)⟩
      have r0 : (0 : Int) ≤ 2 * (p : Int) + 1 + 1 := nn (a := 2 * p + 1 + 1)
      have r1 : 2 * (p : Int) + 1 + 1 < 2 ^ 63 := lt63 (a := 2 * p + 1 + 1) hr hlen
      have r2 : 2 * (p : Int) + 1 + 1 < (hs.length : Int) := (Int.ofNat_lt.mpr hr : ((2 * p + 1 + 1 : Nat) : Int) < _)
      have ky := hk y (hin' _ (List.mem_of_getElem? hy))
      have hy' : hs'[(2 * (p : Int) + 1 + 1).toNat]? = some y := hy
      (k_steps; all_goals (try ((first | ((with_reducible rename Held _ => hKQ); refine Held.out hKQ _ _ ?_; clear hKQ; (try dsimp only)) | ((with_reducible rename (∀ f s, KswPost _ _ _ _ _ _ _ _ _ _ _ _ f s → _) => hKQ); refine hKQ _ _ ?_; clear hKQ)); k_steps)); all_goals (try ((first | ((with_reducible rename Held _ => hKQ); refine Held.out hKQ _ _ ?_; clear hKQ; (try dsimp only)) | ((with_reducible rename (∀ f s, KswPost _ _ _ _ _ _ _ _ _ _ _ _ f s → _) => hKQ); refine hKQ _ _ ?_; clear hKQ)); k_steps)))
      · unfold Halt
        have hch := childF_left (lt := fun x y => keyLt (κ x) (κ y)) hx hy (by first | assumption | simpa using ‹_›)
        refine ksw_end (hs'.set p x, 2 * (p : Int) + 1, _, _) (by assumption) (by assumption) (fun p hp => hp) ⟨by rw [List.length_set]; exact hl', fun a ha => ?_⟩ (by kst_all) (by (intro z h2 h3; (simp only [List.forall_mem_cons, List.not_mem_nil, false_implies, implies_true, and_true, ne_eq] at h2); (simp only [List.contains_cons, List.contains_nil, Bool.or_false, Bool.or_eq_false_iff, beq_eq_false_iff_ne, ne_eq] at h3); (simp [kstB, h2, h3]; done))) ⟨2 * p + 1, i21, (suB hpp).1, hc, f', (suA hf).1, ?_⟩ (by dsimp only; exact su_meas hp')
        · rcases List.mem_or_eq_of_mem_set ha with ha | ha
          · exact hin' a ha
          · exact ha ▸ hin' _ (List.mem_of_getElem? hx)
        · rw [← hres, suF_up (hl'.symm ▸ hc) (hch.symm ▸ hx), hch]
      · unfold Halt
        have hch := childF_right (lt := fun x y => keyLt (κ x) (κ y)) hx hy (by first | assumption | simpa using ‹_›)
        refine ksw_end (hs'.set p y, 2 * (p : Int) + 1 + 1, _, _) (by assumption) (by assumption) (fun p hp => hp) ⟨by rw [List.length_set]; exact hl', fun a ha => ?_⟩ (by kst_all) (by (intro z h2 h3; (simp only [List.forall_mem_cons, List.not_mem_nil, false_implies, implies_true, and_true, ne_eq] at h2); (simp only [List.contains_cons, List.contains_nil, Bool.or_false, Bool.or_eq_false_iff, beq_eq_false_iff_ne, ne_eq] at h3); (simp [kstB, h2, h3]; done))) ⟨2 * p + 1 + 1, i22, (suB hpp).2, hr, f', (suA hf).2, ?_⟩ (by dsimp only; exact su_meas2 hp')
        · rcases List.mem_or_eq_of_mem_set ha with ha | ha
          · exact hin' a ha
          · exact ha ▸ hin' _ (List.mem_of_getElem? hy)
        · rw [← hres, suF_up (hl'.symm ▸ hc) (hch.symm ▸ hy), hch]
    · have r2 : ¬ (2 * (p : Int) + 1 + 1 < (hs.length : Int)) := fun e => hr (Int.ofNat_lt.mp (show ((2 * p + 1 + 1 : Nat) : Int) < _ from e))
      (k_steps; all_goals (try ((first | ((with_reducible rename Held _ => hKQ); refine Held.out hKQ _ _ ?_; clear hKQ; (try dsimp only)) | ((with_reducible rename (∀ f s, KswPost _ _ _ _ _ _ _ _ _ _ _ _ f s → _) => hKQ); refine hKQ _ _ ?_; clear hKQ)); k_steps)); all_goals (try ((first | ((with_reducible rename Held _ => hKQ); refine Held.out hKQ _ _ ?_; clear hKQ; (try dsimp only)) | ((with_reducible rename (∀ f s, KswPost _ _ _ _ _ _ _ _ _ _ _ _ f s → _) => hKQ); refine hKQ _ _ ?_; clear hKQ)); k_steps)))
      unfold Halt
      have hch := childF_lone (lt := fun x y => keyLt (κ x) (κ y)) (hs := hs') (c := 2 * p + 1) (List.getElem?_eq_none (hl'.symm ▸ Nat.not_lt.mp hr))
      refine ksw_end (hs'.set p x, 2 * (p : Int) + 1, _, _) (by assumption) (by assumption) (fun p hp => hp) ⟨by rw [List.length_set]; exact hl', fun a ha => ?_⟩ (by kst_all) (by (intro z h2 h3; (simp only [List.forall_mem_cons, List.not_mem_nil, false_implies, implies_true, and_true, ne_eq] at h2); (simp only [List.contains_cons, List.contains_nil, Bool.or_false, Bool.or_eq_false_iff, beq_eq_false_iff_ne, ne_eq] at h3); (simp [kstB, h2, h3]; done))) ⟨2 * p + 1, i21, (suB hpp).1, hc, f', (suA hf).1, ?_⟩ (by dsimp only; exact su_meas hp')
      · rcases List.mem_or_eq_of_mem_set ha with ha | ha
        · exact hin' a ha
        · exact ha ▸ hin' _ (List.mem_of_getElem? hx)
      · rw [← hres, suF_up (hl'.symm ▸ hc) (hch.symm ▸ hx), hch]
  · (k_steps; all_goals (try ((first | ((with_reducible rename Held _ => hKQ); refine Held.out hKQ _ _ ?_; clear hKQ; (try dsimp only)) | ((with_reducible rename (∀ f s, KswPost _ _ _ _ _ _ _ _ _ _ _ _ f s → _) => hKQ); refine hKQ _ _ ?_; clear hKQ)); k_steps)); all_goals (try ((first | ((with_reducible rename Held _ => hKQ); refine Held.out hKQ _ _ ?_; clear hKQ; (try dsimp only)) | ((with_reducible rename (∀ f s, KswPost _ _ _ _ _ _ _ _ _ _ _ _ f s → _) => hKQ); refine hKQ _ _ ?_; clear hKQ)); k_steps)))
    unfold Halt
    (rename Fr _ _ _ _ => F4)
    (rename News _ _ _ _ => N4)
    rw [suF_end (hl'.symm ▸ hc)] at hres
    refine siftdown_spec (κ := κ) (hs := hs'.set p new) (n := n) (St.pushHide X T F4 N4) (show dp + 1 + 1 < recursionLimit from ltcB (by assumption) rfl) (show un + 3 + 10 < cLine from ltcB hu rfl) (fun q hq => (N4 q hq).1) (fun a ha => ?_) hpp (by rw [List.length_set, hl']; exact hp') (by rw [List.length_set, hl']; exact hlen) fun h' tk' hkeep hb' => ?_
    · refine (hk a ?_).keeps fun c o e => hideAll_get _ (F4.keep c o e) fun q => ?_
      · rcases List.mem_or_eq_of_mem_set ha with ha | ha
        · exact hin' a ha
        · exact ha ▸ List.mem_of_getElem? hnew
      · rw [List.mem_map] at q
        obtain ⟨r, hr, e'⟩ := q
        rw [← e', (N4 r hr).2.2] at e; cases e
    · have F5 := Fr.afterHide F4 N4 hkeep
      dsimp only
      (k_steps; all_goals (try ((first | ((with_reducible rename Held _ => hKQ); refine Held.out hKQ _ _ ?_; clear hKQ; (try dsimp only)) | ((with_reducible rename (∀ f s, KswPost _ _ _ _ _ _ _ _ _ _ _ _ f s → _) => hKQ); refine hKQ _ _ ?_; clear hKQ)); k_steps)); all_goals (try ((first | ((with_reducible rename Held _ => hKQ); refine Held.out hKQ _ _ ?_; clear hKQ; (try dsimp only)) | ((with_reducible rename (∀ f s, KswPost _ _ _ _ _ _ _ _ _ _ _ _ f s → _) => hKQ); refine hKQ _ _ ?_; clear hKQ)); k_steps)))
      refine h _ _ F5.keep (hb'.trans ?_)
      unfold siftup
      rw [hnew]
      dsimp only
      rw [← hres]
end
end D5Part
section D6Part
set_option linter.unusedVariables false
theorem len_six {prog : Program} {w : World} {A : Around} {E : Value → Shared → Prop} {s : Shared} {h₀ : Heap} {L : Addr} {news : List (Addr × Obj)} {b : Addr} {hs : List Addr} {n : Nat} {Q : Value → Shared → Prop} (N : News h₀ L s.heap news) (hm : (b, listOf (rv hs).toArray n) ∈ news) (h6 : hs.length = 6)
    (h : Q (.int 6 (s.toks + 1)) { s with toks := s.toks + 1 + 1 }) : wpAny (model prog w) A (call (.builtin "len") [.ref b]) Q E s :=
  len_refs N hm (by omega) (by rw [h6]; exact h)
section
variable {w : World} {mean : ExcName → Option Value} {mg mb : Str → Option Value} {dp un : Nat} {gd : Option (List Code)} {base : Heap} {fr : List Env} {s : Shared} {Q E : Value → Shared → Prop}
local macro_rules | `(tactic| walk_at "call ref") => `(tactic| (k_here; (with_reducible show wpAny _ _ (call (Value.ref 56) _) _ _ _); refine Halt.mk ?_))
local macro_rules | `(tactic| walk_at "call builtin:len") => `(tactic| (k_here; k_dflt (refine' len_six ?N ?hm ?h6 ?_); (case N => k_asm); (case hm => k_mem); (case h6 => assumption)))
theorem heapify_spec {b : Addr} {hs : List Addr} {n : Nat} {κ : Addr → Str × Int}
    (S : St w mean mg mb (hideAll s.heap ([(b, listOf (rv hs).toArray n)].map (·.1)))) (hd : dp + 3 < recursionLimit) (hu : un + 30 < cLine)
    (hm : ∀ p ∈ [(b, listOf (rv hs).toArray n)], s.heap.get? p.1 = some p.2)
    (hk : ∀ a ∈ hs, IsKey (hideAll s.heap ([(b, listOf (rv hs).toArray n)].map (·.1))) a (κ a)) (hlen : hs.length = 6)
    (h : ∀ h' tk', (∀ c o, (hideAll s.heap ([(b, listOf (rv hs).toArray n)].map (·.1))).get? c = some o → h'.get? c = some o) →
      h'.get? b = some (listOf (rv (heapifyF (fun x y => keyLt (κ x) (κ y)) hs)).toArray n) → Q .none { s with heap := h', toks := tk' }) :
    wpAny (model PySem.Challenge.rw_pd0148_01.row.prog w) (Ar dp un gd fr) (call (.ref 42) [.ref b]) Q E s := by
  (have kfX := (‹St _ _ _ _ _›).X; revert kfX; k_fill; intro _)
  (refine wpAny_call ?_; (with_reducible rename (∀ p ∈ _, Heap.get? _ _ = some _) => hmuts); refine' enter ?k1 ?k6 ?k7 ?k8 ?k9 ?kB hmuts ?_ ?c2 ?c3 ?c4 ?c5; ((case k1 => assumption); (case k6 => k_is); (case k7 => k_is); (case k8 => first | exact ltc0 (by assumption) | omega); (case k9 => exact BindsTo.of_eq rfl); (case kB => exact locs rfl)); ((case c2 => exact rfl); (case c3 => exact rfl); (case c4 => exact rfl); (case c5 => decide); (try dsimp only)))
  intro L' h₁ F N
  obtain ⟨X, T⟩ := S
  generalize hideAll s.heap ([(b, listOf (rv hs).toArray n)].map (·.1)) = g at *
  (obtain ⟨g0, _, _, _, _⟩ := s)
  dsimp only at *
  k_fold
  k_steps
  (rename Fr _ _ _ _ => F2)
  (rename News _ _ _ _ => N2)
  (rename IsRange _ _ _ _ _ _ _ _ => R2)
  refine call_reversed_range (show IsRange _ _ 0 3 1 _ _ _ from R2) ?_
  refine wpAny_pyIter_rangeiter (x := 2) (left := 3) (step := -1) (Heap.get?_push_size _ rfl) ?_
  have F3 := F2.push ri3
  have N3 : News g L' _ [(b, listOf (rv hs).toArray n)] := News.pushed F2 N2 ri3
  have hLI := Fr.ne_size F2
  have hgI := Fr.none_size F2
  have hbI := Heap.lt_size (N2 _ (List.Mem.head _)).1
  refine for_walk (σ := List Addr) (fun c => [(b, listOf (rv c).toArray n)]) (fun _ => []) [] (fun i c => c.length = 6 ∧ (∀ a ∈ c, a ∈ hs) ∧ c = ([2, 1, 0].take i).foldl (fun h i => siftup (fun x y => keyLt (κ x) (κ y)) h i) hs) hs
    (Walks.range rfl _ 2 (-1) 3) (fun q => hLI (List.mem_singleton.mp q)) (by simpa using hgI) (Heap.get?_push_size _ rfl) F3 N3 ?_ (by simp) ⟨hlen, fun _ h => h, rfl⟩ ?_ ?_
  · intro i c _ p hp
    cases hp with
    | head => simpa using Nat.ne_of_lt hbI
    | tail _ hp => cases hp
  · rintro i c v u h₂ tk₂ own hi ⟨t, rfl⟩ ⟨hc6, hcin, hc⟩ hown hown' F4 N4
    have ei : (2 + (i : Int) * (-1)) = ((2 - i : Nat) : Int) := by omega
    rw [ei] at F4
    replace F4 : Fr g L' _ _ := F4
    replace N4 : News g L' _ _ := N4
    k_steps
    unfold Halt
    have N5 : News g L' h₂ [(b, listOf (rv c).toArray n)] := News.sub N4 fun p hp => List.mem_append_right _ hp
    have hap : ∀ p ∈ own, ∀ q ∈ [(b, listOf (rv c).toArray n)], p.1 ≠ q.1 := by
      intro p hp q hq e
      have h1 := List.mem_singleton.mp (hown p hp)
      cases List.mem_singleton.mp hq
      have h2 : b = _ := e.symm.trans h1
      exact absurd h2 (Nat.ne_of_lt hbI)
    refine siftup_spec (κ := κ) (hs := c) (n := n) (St.pushHide X T F4 N5) (show dp + 1 + 2 < recursionLimit from ltcB (by assumption) rfl) (show un + 3 + 20 < cLine from ltcB (by assumption) rfl) (fun q hq => (N5 q hq).1) (fun a ha => ?_) (by omega) (by omega) fun h' tk' hkeep hb' => ?_
    · refine (hk a (hcin a ha)).keeps fun d o e => hideAll_get _ (F4.keep d o e) fun q => ?_
      rw [List.mem_map] at q
      obtain ⟨r, hr, e'⟩ := q
      rw [← e', (N5 r hr).2.2] at e; cases e
    · have F5 := Fr.afterHide F4 N5 hkeep
      have N6 := News.afterHide (News.sub N4 fun p hp => List.mem_append_left _ hp) hap hkeep
      have N7 : News g L' h' (own ++ [(b, listOf (rv (siftup (fun x y => keyLt (κ x) (κ y)) c (2 - i))).toArray n)]) := by
        intro p hp
        rcases List.mem_append.mp hp with hp | hp
        · exact N6 p hp
        · cases List.mem_singleton.mp hp
          exact ⟨hb', (N5 _ (List.Mem.head _)).2⟩
      clear F4 N4 N5 N6
      dsimp only
      k_steps
      unfold Halt
      refine for_end (siftup (fun x y => keyLt (κ x) (κ y)) c (2 - i)) F5 N7 ?_ (by simp) (by (intro z h1 h2 h3; (simp only [List.forall_mem_cons, List.not_mem_nil, false_implies, implies_true, and_true, ne_eq] at h2); (simp only [List.contains_cons, List.contains_nil, Bool.or_false, Bool.or_eq_false_iff, beq_eq_false_iff_ne, ne_eq] at h3); (simp [kstB, h1, h2, h3]; done))) ⟨by rw [siftup_len]; exact hc6, fun a ha => hcin a (siftup_mem ha), ?_⟩
      · intro p hp
        cases List.mem_singleton.mp hp
        simpa using Nat.ne_of_lt hbI
      · rw [hc]
        match i, hi with
        | 0, _ => rfl
        | 1, _ => rfl
        | 2, _ => rfl
  · rintro c u h₂ tk₂ ⟨hc6, hcin, hc⟩ F4 N4
    dsimp only at *
    k_steps
    refine h _ _ F4.keep ((N4 _ (List.Mem.head _)).1.trans ?_)
    rw [hc]
    unfold heapifyF
    rw [hlen]
    rfl
end
end D6Part
section D7Part
set_option linter.unusedVariables false
section
variable {w : World} {mean : ExcName → Option Value} {mg mb : Str → Option Value} {dp un : Nat} {gd : Option (List Code)} {base : Heap} {fr : List Env} {s : Shared} {Q E : Value → Shared → Prop}
local macro_rules | `(tactic| walk_at "subscriptTail Name Name ref int") => `(tactic| (k_here; k_dflt (refine' get_refs ?N ?hm ?h0 ?hf ?hx ?_); (case N => k_asm); (case hm => k_mem); (case h0 => walk_at "NUM"); (case hf => walk_at "NUM"); (case hx => first | assumption | (simp only [Int.toNat_natCast]; assumption))))
local macro_rules | `(tactic| walk_at "binaryOp RShift int int") => `(tactic| (k_here; k_dflt (refine' rshift_half ?hp ?_); (case hp => exact posI (by assumption))))
local macro_rules | `(tactic| walk_at "setItem ref int") => `(tactic| (k_here; k_dflt (refine' set_refs ?F ?N ?h0 ?hf ?hl ?U ?_); (case F => k_asm); (case N => k_asm); (case U => k_upd); (case h0 => walk_at "NUM"); (case hf => walk_at "NUM"); (case hl => walk_at "NUM"); intro h' F' N'; (try k_sweep)))
local macro_rules | `(tactic| walk_at "compareOp Lt ref ref") => `(tactic| (k_here; k_dflt (refine' lt_key ?ha ?hb ?hu ?_); (case ha => exact IsKey.keeps (by assumption) (Fr.keep (by assumption))); (case hb => exact IsKey.keeps (by assumption) (Fr.keep (by assumption))); (case hu => ((show _ + 3 < cLine); (dsimp only [Ar]); walk_at "NUM"))))
local macro_rules | `(tactic| walk_at "call builtin:len") => `(tactic| (k_here; k_dflt (refine' len_refs ?N ?hm ?hf ?_); (case N => k_asm); (case hm => k_mem); (case hf => walk_at "NUM")))
local macro_rules | `(tactic| walk_at "call ref") => `(tactic| (k_here; (with_reducible show wpAny _ _ (call (Value.ref 56) _) _ _ _); refine Halt.mk ?_))
local macro_rules | `(tactic| walk_at "call builtin:list.pop") => `(tactic| (k_here; k_dflt (refine' pop_refs ?F ?N ?U ?hz ?_); (case F => k_asm); (case N => k_asm); (case U => k_upd); (case hz => omega); intro h' F' N'; (try k_sweep)))
local macro_rules | `(tactic| walk_at "truthy ref") => `(tactic| (k_here; k_dflt (refine' truthy_refs ?N ?hm ?hf ?_); (case N => k_asm); (case hm => k_mem); (case hf => omega); intro tk'))
theorem heappop_spec {b : Addr} {hs : List Addr} {n : Nat} {κ : Addr → Str × Int} {x : Addr} {r : List Addr}
    (S : St w mean mg mb (hideAll s.heap ([(b, listOf (rv hs).toArray n)].map (·.1)))) (hd : dp + 3 < recursionLimit) (hu : un + 30 < cLine)
    (hm : ∀ p ∈ [(b, listOf (rv hs).toArray n)], s.heap.get? p.1 = some p.2)
    (hk : ∀ a ∈ hs, IsKey (hideAll s.heap ([(b, listOf (rv hs).toArray n)].map (·.1))) a (κ a)) (hlen : hs.length ≤ 100)
    (hpop : heappopF (fun x y => keyLt (κ x) (κ y)) hs = some (x, r))
    (h : ∀ h' tk', (∀ c o, (hideAll s.heap ([(b, listOf (rv hs).toArray n)].map (·.1))).get? c = some o → h'.get? c = some o) →
      h'.get? b = some (listOf (rv r).toArray (n + 1)) → Q (.ref x) { s with heap := h', toks := tk' }) :
    wpAny (model PySem.Challenge.rw_pd0148_01.row.prog w) (Ar dp un gd fr) (call (.ref 35) [.ref b]) Q E s := by
  (have kfX := (‹St _ _ _ _ _›).X; revert kfX; k_fill; intro _)
  obtain ⟨hs', last, rfl⟩ : ∃ l a, hs = l ++ [a] := by
    rcases List.eq_nil_or_concat hs with e | ⟨l, a, e⟩
    · rw [e] at hpop; cases hpop
    · exact ⟨l, a, by rw [e, List.concat_eq_append]⟩
  rw [List.length_append, List.length_singleton] at hlen
  (refine wpAny_call ?_; (with_reducible rename (∀ p ∈ _, Heap.get? _ _ = some _) => hmuts); refine' enter ?k1 ?k6 ?k7 ?k8 ?k9 ?kB hmuts ?_ ?c2 ?c3 ?c4 ?c5; ((case k1 => assumption); (case k6 => k_is); (case k7 => k_is); (case k8 => first | exact ltc0 (by assumption) | omega); (case k9 => exact BindsTo.of_eq rfl); (case kB => exact locs rfl)); ((case c2 => exact rfl); (case c3 => exact rfl); (case c4 => exact rfl); (case c5 => decide); (try dsimp only)))
  intro L' h₁ F N
  obtain ⟨X, T⟩ := S
  generalize hideAll s.heap ([(b, listOf (rv (hs' ++ [last])).toArray n)].map (·.1)) = g at *
  (obtain ⟨g0, _, _, _, _⟩ := s)
  dsimp only at *
  k_fold
  unfold heappopF at hpop
  rw [List.getLast?_concat] at hpop
  dsimp only at hpop
  rw [List.dropLast_concat] at hpop
  cases hs' with
  | nil =>
    dsimp only at hpop
    cases hpop
    k_steps
    dsimp only
    k_unfold
    exact h _ _ (Fr.keep (by assumption)) (News.get (by assumption) (List.Mem.head _))
  | cons y q =>
    dsimp only at hpop
    cases hpop
    have hx : (x :: q)[(0 : Int).toNat]? = some x := rfl
    k_steps
    · exact absurd (by assumption) (show ¬ (x :: q).isEmpty = true from Bool.false_ne_true)
    unfold Halt
    (rename Fr _ _ _ _ => F4)
    (rename News _ _ _ _ => N4)
    replace N4 : News g L' _ [(b, listOf (rv (last :: q)).toArray (n + 1))] := N4
    refine siftup_spec (κ := κ) (hs := last :: q) (n := n + 1) (pos := 0) (St.pushHide X T F4 N4) (show dp + 1 + 2 < recursionLimit from ltcB (by assumption) rfl) (show un + 3 + 20 < cLine from ltcB (by assumption) rfl) (fun q hq => (N4 q hq).1) (fun a ha => ?_) (Nat.zero_lt_succ _) (by rw [List.length_cons] at hlen ⊢; omega) fun h' tk' hkeep hb' => ?_
    · refine (hk a ?_).keeps fun d o e => hideAll_get _ (F4.keep d o e) fun q => ?_
      · rcases List.mem_cons.mp ha with ha | ha
        · exact List.mem_append_right _ (List.mem_singleton.mpr ha)
        · exact List.mem_append_left _ (.tail _ ha)
      · rw [List.mem_map] at q
        obtain ⟨r, hr, e'⟩ := q
        rw [← e', (N4 r hr).2.2] at e; cases e
    · have F5 := Fr.afterHide F4 N4 hkeep
      have N5 : News g L' h' [(b, listOf (rv (siftup (fun x y => keyLt (κ x) (κ y)) (last :: q) 0)).toArray (n + 1))] := by
        intro p hp
        cases List.mem_singleton.mp hp
        exact ⟨hb', (N4 _ (List.Mem.head _)).2⟩
      clear F4 N4
      dsimp only
      k_steps
      dsimp only
      k_unfold
      exact h _ _ F5.keep hb'
end
end D7Part
section B7Part
set_option linter.unusedVariables false
section
variable {prog : Program} {w : World} {A : Around} {E : Value → Shared → Prop} {Q : Flow → Shared → Prop} {s : Shared} {env : Env}
/-- a while whose test is false at once (or raises) -/
theorem while_false {test : Expr} {body : List Stmt} {pos : Pos}
    (h : wpAny (model prog w) A (isTrue test env (eval test env)) (fun b s₂ => if b = true then False else Q .next s₂) E s)
    (hE : PassesOwn (model prog w) A env E := by passes_own) :
    wpAny (model prog w) A (exec (.While test body [] pos) env) Q E s := by
  refine wpAny_While (codeAny_whileLoop (fun _ s' => s' = s) ?_ 0 rfl)
  rintro n s' rfl
  refine wpAny_mono h (fun b s₂ h₂ => ?_) hE
  cases b with
  | false =>
    simp only [Bool.false_eq_true, if_false] at h₂ ⊢
    exact wpAny_execs_nil h₂
  | true =>
    simp only [if_true] at h₂
end
end B7Part
section B8Part
set_option linter.unusedVariables false
section
variable {prog : Program} {w : World} {A : Around} {E : Value → Shared → Prop} {s : Shared} {h₀ : Heap} {L D b : Addr} {m : Str → Option Value} {news news' : List (Addr × Obj)} {vs ws : List Value} {n n2 : Nat}
theorem ext_some {ns : List Int} {Q : Value → Shared → Prop} (F : Fr h₀ L s.heap m) (N : News h₀ L s.heap news) (hb : (b, listOf ws.toArray n2) ∈ news) (hi : IntsAre ws ns) (hne : ns.length ≠ 0) (hz1 : vs.length ≤ 1000) (hz2 : ns.length ≤ 1000)
    (U : Upd D (listOf vs.toArray n) (listOf (vs ++ ws).toArray (n + 1)) news news')
    (h : ∀ h', Fr h₀ L h' m → News h₀ L h' news' → Q .none { s with heap := h' }) : wpAny (model prog w) A (call (.builtin "list.extend") [.ref D, .ref b]) Q E s := by
  have hl := hi.length
  refine kl_extend F N hb (l := vs ++ ws) (by simp) (by simpa [hl] using hne) U (extend_door ?_) ?_ ?_ h
  · rw [List.size_toArray, List.size_toArray, sizeLine_eq]; omega
  · rw [List.toList_toArray, sizeLine_eq]; omega
  · rw [List.size_toArray, List.size_toArray, sizeLine_eq]; omega
theorem ext_none {ns : List Int} {Q : Value → Shared → Prop} (F : Fr h₀ L s.heap m) (N : News h₀ L s.heap news) (hb : (b, listOf ws.toArray n2) ∈ news) (hi : IntsAre ws ns) (hne : ns.length = 0) (hz1 : vs.length ≤ 1000)
    (U : Upd D (listOf vs.toArray n) (listOf vs.toArray n) news news')
    (h : ∀ h', Fr h₀ L h' m → News h₀ L h' news' → Q .none { s with heap := h' }) : wpAny (model prog w) A (call (.builtin "list.extend") [.ref D, .ref b]) Q E s := by
  have hl := hi.length
  have e : ws = [] := List.eq_nil_of_length_eq_zero (by omega)
  subst e
  refine kxn_extend F N hb rfl U (extend_door ?_) ?_ ?_ h
  · rw [List.size_toArray, List.size_toArray, sizeLine_eq]; simp; omega
  · rw [List.toList_toArray, sizeLine_eq]; omega
  · rw [List.size_toArray, List.size_toArray, sizeLine_eq]; simp; omega
/-- l[x:] of a list of ints that the base holds -/
theorem from_ints {value slice : PySem.Expr} {l : Addr} {ns : List Int} {x : Int} {t : Tok} {Q : Value → Shared → Prop} (F : Fr h₀ L s.heap m) (N : News h₀ L s.heap news) (hl : h₀.IsList l vs.toArray) (hi : IntsAre vs ns) (h0 : 0 ≤ x) (hz : ns.length ≤ 1000)
    (h : ∀ D ws h', Fr h₀ L h' m → News h₀ L h' ((D, listOf (List.toArray ws) 0) :: news) → (∀ p ∈ news, p.1 < D) → IntsAre ws (ns.drop x.toNat) → Q (.ref D) { s with heap := h' })
    (hs : subscripted slice false (.ref l) (.ref s.heap.objs.size) = operate [.ref s.heap.objs.size, .ref l] (getItem (.ref l) (.ref s.heap.objs.size)) := by with_unfolding_all rfl) (ht : ∀ r, letTemporaryGo value (.ref l) r = pure () := by intro _; with_unfolding_all rfl) :
    wpAny (model prog w) A (subscriptTail value slice (.ref l) (.ref s.heap.objs.size)) Q E { s with heap := s.heap.push { cls := .type "slice", data := .fields #[.int x t, .none, .none] } } := by
  obtain ⟨o, ho, hc, n', hd⟩ := hl
  refine kmk_slice_ints F N ⟨o, F.keep _ _ ho, hc, n', hd⟩ (.int x t) .none hi (kmk_from hi h0) rfl (fun D ws h' F' N' l1 hI _ _ => h D ws h' F' N' l1 hI) hs ht ?_
  have := hi.length
  rw [List.size_toArray, sizeLine_eq]; omega
end
end B8Part
section D8Part
set_option linter.unusedVariables false
theorem sameUp_two {p q : Addr × Obj} {l : List (Addr × Obj)} (h : TI.SameUp [p, q] l) : ∃ o1 o2, l = [(p.1, o1), (q.1, o2)] ∧ (∃ sl, o1 = { p.2 with slots := sl }) ∧ (∃ sl, o2 = { q.2 with slots := sl }) := by
  match l, h with
  | [], h => exact h.elim
  | [_], h => exact h.2.2.elim
  | [⟨a, oa⟩, ⟨b, ob⟩], ⟨e1, ⟨s1, e2⟩, e3, ⟨s2, e4⟩, _⟩ =>
    dsimp only at e1 e2 e3 e4
    subst e1 e2 e3 e4
    exact ⟨_, _, rfl, ⟨s1, rfl⟩, ⟨s2, rfl⟩⟩
  | _ :: _ :: _ :: _, h => exact h.2.2.2.2.elim
theorem exp_at : ∀ i : Nat, i ≤ 5 → [0, 1, 2, 3, 4, (5 : Int)][((i : Nat) : Int).toNat]? = some (i : Int)
  | 0, _ => rfl
  | 1, _ => rfl
  | 2, _ => rfl
  | 3, _ => rfl
  | 4, _ => rfl
  | 5, _ => rfl
  | i + 6, h => by omega
/-- what sorted_list_difference leaves: a tuple of a list of the lacking numbers and an empty list, all new -/
structure SldRes (g h' : Heap) (us : List Int) (L1 L2 : Addr) (o1 o2 : Obj) (D : Addr) : Prop where
  res : ∃ mis unx ws n1 n2, h'.get? D = some { cls := .type "tuple", data := .seq #[.ref mis, .ref unx] } ∧ h'.get? mis = some (listOf ws.toArray n1) ∧ IntsAre ws (dif us 6) ∧ h'.get? unx = some (listOf #[] n2) ∧
    (g.get? D = none ∧ D ≠ L1 ∧ D ≠ L2) ∧ (g.get? mis = none ∧ mis ≠ L1 ∧ mis ≠ L2) ∧ (g.get? unx = none ∧ unx ≠ L1 ∧ unx ≠ L2)
  fr1 : ∃ sl, h'.get? L1 = some { o1 with slots := sl }
  fr2 : ∃ sl, h'.get? L2 = some { o2 with slots := sl }
section
variable {w : World} {mean : ExcName → Option Value} {mg mb : Str → Option Value} {dp un : Nat} {gd : Option (List Code)} {base : Heap} {fr : List Env} {s : Shared} {Q E : Value → Shared → Prop}
local macro_rules | `(tactic| walk_at "last subscriptTail") => `(tactic| (refine Halt.mk ?_))
local macro_rules | `(tactic| walk_at "subscriptTail Name Name ref int") => `(tactic| (refine Halt.mk ?_))
local macro_rules | `(tactic| walk_at "subscriptTail Name Name ref int") => `(tactic| (k_here; (k_dflt (refine' at_ints ?hl ?F ?hi ?hx ?h0 ?hf ?_); (case hl => assumption); (case F => k_asm); (case hi => assumption); (case hx => assumption); (case h0 => walk_at "NUM"); (case hf => walk_at "NUM"); intro t')))
local macro_rules | `(tactic| walk_at "exec While Compare cons nil") => `(tactic| (k_here; with_unfolding_all refine while_false ?_))
local macro_rules | `(tactic| walk_at "noteFrame ref") => `(tactic| (refine Halt.mk ?_))
local macro_rules | `(tactic| walk_at "call builtin:list.extend") => `(tactic| (refine Halt.mk ?_))
local macro_rules | `(tactic| walk_at "subscriptTail Name Slice ref ref") => `(tactic| (refine Halt.mk ?_))
theorem six_lt {i : Nat} (h : i ≤ 4) : 6 - (i + 1) < 6 - i := Nat.sub_succ_lt_self _ _ (Nat.lt_of_le_of_lt h (by decide))
theorem sld_spec {ea aa : Addr} {ev av : List Value} {us : List Int} {env1 env2 : Env} {L1 L2 : Addr} {o1 o2 : Obj}
    (S : St w mean mg mb (hideAll s.heap ([(L1, o1), (L2, o2)].map (·.1)))) (hd : dp + 3 < recursionLimit) (hu : un + 30 < cLine)
    (Fs : TI.Frs [env1, env2] [(L1, o1), (L2, o2)]) (hm : ∀ p ∈ [(L1, o1), (L2, o2)], s.heap.get? p.1 = some p.2)
    (he : (hideAll s.heap ([(L1, o1), (L2, o2)].map (·.1))).IsList ea ev.toArray) (hev : IntsAre ev [0, 1, 2, 3, 4, 5]) (ha : (hideAll s.heap ([(L1, o1), (L2, o2)].map (·.1))).IsList aa av.toArray) (hav : IntsAre av us)
    (hlen : us.length ≤ 5) (hus : us.Pairwise (· < ·)) (h04 : ∀ x ∈ us, 0 ≤ x ∧ x ≤ 4)
    (h : ∀ D h' tk', (∀ c o, (hideAll s.heap ([(L1, o1), (L2, o2)].map (·.1))).get? c = some o → h'.get? c = some o) → SldRes (hideAll s.heap ([(L1, o1), (L2, o2)].map (·.1))) h' us L1 L2 o1 o2 D → Q (.ref D) { s with heap := h', toks := tk' }) :
    wpAny (model PySem.Challenge.rw_pd0148_01.row.prog w) (Ar dp un gd [env1, env2]) (call (.ref 28) [.ref ea, .ref aa]) Q E s := by
  (have kfX := (‹St _ _ _ _ _›).X; revert kfX; k_fill; intro _)
  (refine wpAny_call ?_; (with_reducible rename (∀ p ∈ _, Heap.get? _ _ = some _) => hmuts); refine' enter ?k1 ?k6 ?k7 ?k8 ?k9 ?kB hmuts ?_ ?c2 ?c3 ?c4 ?c5; ((case k1 => assumption); (case k6 => k_is); (case k7 => k_is); (case k8 => first | exact ltc0 (by assumption) | omega); (case k9 => exact BindsTo.of_eq rfl); (case kB => exact locs rfl)); ((case c2 => exact rfl); (case c3 => exact rfl); (case c4 => exact rfl); (case c5 => decide); (try dsimp only)))
  intro L' h₁ F N
  obtain ⟨X, T⟩ := S
  generalize hideAll s.heap ([(L1, o1), (L2, o2)].map (·.1)) = g at *
  (obtain ⟨g0, _, _, _, _⟩ := s)
  dsimp only at *
  k_fold
  k_steps
  unfold Halt
  (rename Fr _ _ _ _ => F2)
  (rename News _ _ _ _ => N2)
  rename_i mis _ lm _ _ unx _ lmu _
  have v1 := lm.1
  have v2 := lm.2
  have v3 := lmu.1
  have v4 := lmu.2.1
  have v5 := lmu.2.2
  refine ksw_while (σ := Nat × Nat × Tok × Tok × List Value × Nat) (fun c => [(unx, listOf #[] 0), (mis, listOf c.2.2.2.2.1.toArray c.2.2.2.2.2), (L1, o1), (L2, o2)]) (fun c => [(Str.ofString "i", .int c.1 c.2.2.1), (Str.ofString "j", .int c.2.1 c.2.2.2.1)]) (fun c => True)
    [Str.ofString "e", Str.ofString "a"]
    (fun c => c.1 ≤ 4 ∧ (IntsAre c.2.2.2.2.1 (dif us c.1)) ∧ ((us = [] ∧ c.1 = 0 ∧ c.2.1 = 0) ∨ ∃ pre a post, us = pre ++ a :: post ∧ pre.length = c.2.1 ∧ (c.1 : Int) ≤ a ∧ ∀ x ∈ pre, x < (c.1 : Int))) (fun c => 6 - c.1)
    (0, 0, _, _, [], 0) F2 N2 trivial (by kst_all) ⟨Nat.zero_le _, .nil, ?_⟩ ?_
  · cases us with
    | nil => exact .inl ⟨rfl, rfl, rfl⟩
    | cons a r => exact .inr ⟨[], a, r, rfl, rfl, (h04 a (.head _)).1, fun _ h => nomatch h⟩
  clear F2 N2
  refine tp6 fun i j ti tj mv ver => ?_
  rintro u h₂ tk₂ _ hcc F3 N3
  refine an3 hcc fun hi hmv hcase => ?_
  clear hcc
  dsimp only at *
  k_fold
  have mv1 : mv.length ≤ 1000 := Nat.le_trans (Nat.le_of_eq hmv.length) (Nat.le_trans (dif_len us i) (Nat.le_trans hi (by decide)))
  have mv2 : mv.length ≤ 16777216 := Nat.le_trans mv1 (by decide)
  have i0 : (0 : Int) ≤ (i : Int) := nn
  have i1 : (i : Int) < 2 ^ 63 := lt63 (Nat.lt_succ_of_le hi) (by decide)
  have u1 : us.length ≤ 1000 := Nat.le_trans hlen (by decide)
  have hexp := exp_at i (Nat.le_trans hi (by decide))
  rcases hcase with ⟨rfl, rfl, rfl⟩ | ⟨pre, a, post, hsplit, hpre, hia, hpx⟩
  · (k_steps; all_goals (try ((first | ((with_reducible rename Held _ => hKQ); refine Held.out hKQ _ _ ?_; clear hKQ; (try dsimp only)) | ((with_reducible rename (∀ f s, KswPost _ _ _ _ _ _ _ _ _ _ _ _ f s → _) => hKQ); refine hKQ _ _ ?_; clear hKQ)); k_steps)); all_goals (try ((first | ((with_reducible rename Held _ => hKQ); refine Held.out hKQ _ _ ?_; clear hKQ; (try dsimp only)) | ((with_reducible rename (∀ f s, KswPost _ _ _ _ _ _ _ _ _ _ _ _ f s → _) => hKQ); refine hKQ _ _ ?_; clear hKQ)); k_steps)))
    unfold Halt
    k_dflt (refine' out_ints ?hA ?hl ?F ?hi ?ho ?hf ?_)
    (case hA => exact rfl)
    (case hl => assumption)
    (case F => k_asm)
    (case hi => exact hav)
    (case ho => exact Int.le_refl _)
    (case hf => decide)
    intro h' tk' e' hx'
    (rename Fr _ _ _ _ => F5)
    (rename News _ _ _ _ => N5)
    refine TLg.noted_newA (new := [(unx, listOf #[] 0), (mis, listOf mv.toArray ver)]) rfl Fs hx' F5 N5 ?_ fun h6 frs6 SU6 Fs6 H6 => ?_
    · intro p hp q
      have hne := (N5 p (List.mem_append_left _ hp)).2.1
      simp only [List.map, List.mem_cons, List.not_mem_nil, or_false] at hp q
      rcases hp with rfl | rfl <;> rcases q with q | q | q <;> (dsimp only at q hne) <;> first | exact hne q | exact absurd q (Nat.ne_of_gt (by (first | assumption | (with_reducible rename (_ < _ ∧ _) => lz; first | exact lz.1 | exact lz.2.1 | exact lz.2.2.1 | exact lz.2.2.2.1 | exact lz.2.2.2.2.1 | exact lz.2.2.2.2.2 | exact lz.2.2.2.2.2.1 | exact lz.2.2.2.2.2.2 | exact lz.2.2.2.2.2.2.1 | exact lz.2.2.2.2.2.2.2) | omega)))
    refine TT.HeldNA.land H6 fun h7 H7 => ?_
    clear F5 N5 H6
    refine TT.clause_hitTN H7 T (k := fun h8 F8 N8 => ?_)
    obtain ⟨o1', o2', rfl, ho1', ho2'⟩ := sameUp_two SU6
    replace N8 : News g L' h8 [(unx, listOf #[] 0), (mis, listOf mv.toArray ver), (L1, o1'), (L2, o2')] := N8
    clear H7
    (k_steps; all_goals (try ((first | ((with_reducible rename Held _ => hKQ); refine Held.out hKQ _ _ ?_; clear hKQ; (try dsimp only)) | ((with_reducible rename (∀ f s, KswPost _ _ _ _ _ _ _ _ _ _ _ _ f s → _) => hKQ); refine hKQ _ _ ?_; clear hKQ)); k_steps)); all_goals (try ((first | ((with_reducible rename Held _ => hKQ); refine Held.out hKQ _ _ ?_; clear hKQ; (try dsimp only)) | ((with_reducible rename (∀ f s, KswPost _ _ _ _ _ _ _ _ _ _ _ _ f s → _) => hKQ); refine hKQ _ _ ?_; clear hKQ)); k_steps)))
    unfold Halt
    (k_dflt (refine from_ints (s := ⟨_, _, _, _, _⟩) (by k_asm) (by k_asm) (by assumption) (by assumption) ?h0 ?hz ?_; (case h0 => walk_at "NUM"); (case hz => first | with_reducible assumption | decide)); intro D' ws' h' F' N' l1 hI'; (try k_lt l1); (try k_sweep))
    (k_steps; all_goals (try ((first | ((with_reducible rename Held _ => hKQ); refine Held.out hKQ _ _ ?_; clear hKQ; (try dsimp only)) | ((with_reducible rename (∀ f s, KswPost _ _ _ _ _ _ _ _ _ _ _ _ f s → _) => hKQ); refine hKQ _ _ ?_; clear hKQ)); k_steps)); all_goals (try ((first | ((with_reducible rename Held _ => hKQ); refine Held.out hKQ _ _ ?_; clear hKQ; (try dsimp only)) | ((with_reducible rename (∀ f s, KswPost _ _ _ _ _ _ _ _ _ _ _ _ f s → _) => hKQ); refine hKQ _ _ ?_; clear hKQ)); k_steps)))
    unfold Halt
    k_dflt (refine' ext_some ?F ?N ?b ?hi ?e ?z1 ?z2 ?U ?_)
    (case F => k_asm)
    (case N => k_asm)
    (case b => k_mem)
    (case U => k_upd)
    (case hi => assumption)
    (case e => decide)
    (case z1 => exact mv1)
    (case z2 => decide)
    intro h' F' N'
    (try k_sweep)
    (k_steps; all_goals (try ((first | ((with_reducible rename Held _ => hKQ); refine Held.out hKQ _ _ ?_; clear hKQ; (try dsimp only)) | ((with_reducible rename (∀ f s, KswPost _ _ _ _ _ _ _ _ _ _ _ _ f s → _) => hKQ); refine hKQ _ _ ?_; clear hKQ)); k_steps)); all_goals (try ((first | ((with_reducible rename Held _ => hKQ); refine Held.out hKQ _ _ ?_; clear hKQ; (try dsimp only)) | ((with_reducible rename (∀ f s, KswPost _ _ _ _ _ _ _ _ _ _ _ _ f s → _) => hKQ); refine hKQ _ _ ?_; clear hKQ)); k_steps)))
    unfold Halt
    (k_dflt (refine from_ints (s := ⟨_, _, _, _, _⟩) (by k_asm) (by k_asm) (by assumption) (by assumption) ?h0 ?hz ?_; (case h0 => walk_at "NUM"); (case hz => first | with_reducible assumption | decide)); intro D' ws' h' F' N' l1 hI'; (try k_lt l1); (try k_sweep))
    (k_steps; all_goals (try ((first | ((with_reducible rename Held _ => hKQ); refine Held.out hKQ _ _ ?_; clear hKQ; (try dsimp only)) | ((with_reducible rename (∀ f s, KswPost _ _ _ _ _ _ _ _ _ _ _ _ f s → _) => hKQ); refine hKQ _ _ ?_; clear hKQ)); k_steps)); all_goals (try ((first | ((with_reducible rename Held _ => hKQ); refine Held.out hKQ _ _ ?_; clear hKQ; (try dsimp only)) | ((with_reducible rename (∀ f s, KswPost _ _ _ _ _ _ _ _ _ _ _ _ f s → _) => hKQ); refine hKQ _ _ ?_; clear hKQ)); k_steps)))
    unfold Halt
    k_dflt (refine' ext_none ?F ?N ?b ?hi ?e ?z1 ?U ?_)
    (case F => k_asm)
    (case N => k_asm)
    (case b => k_mem)
    (case U => k_upd)
    (case hi => assumption)
    (case e => (rw [List.drop_nil]; rfl))
    (case z1 => exact Nat.zero_le _)
    intro h' F' N'
    (try k_sweep)
    (k_steps; all_goals (try ((first | ((with_reducible rename Held _ => hKQ); refine Held.out hKQ _ _ ?_; clear hKQ; (try dsimp only)) | ((with_reducible rename (∀ f s, KswPost _ _ _ _ _ _ _ _ _ _ _ _ f s → _) => hKQ); refine hKQ _ _ ?_; clear hKQ)); k_steps)); all_goals (try ((first | ((with_reducible rename Held _ => hKQ); refine Held.out hKQ _ _ ?_; clear hKQ; (try dsimp only)) | ((with_reducible rename (∀ f s, KswPost _ _ _ _ _ _ _ _ _ _ _ _ f s → _) => hKQ); refine hKQ _ _ ?_; clear hKQ)); k_steps)))
    (try k_unfold)
    (try dsimp only)
    (rename Fr _ _ _ _ => F9)
    (rename News _ _ _ _ => N9)
    (rename IntsAre _ (List.drop _ [0, 1, 2, 3, 4, (5 : Int)]) => I9)
    refine h _ _ _ F9.keep ⟨⟨mis, unx, _, _, _, N9.get (by k_mem), N9.get (by k_mem), ?_, N9.get (by k_mem), ⟨N9.fresh (by k_mem), Nat.ne_of_gt (by (first | assumption | (with_reducible rename (_ < _ ∧ _) => lz; first | exact lz.1 | exact lz.2.1 | exact lz.2.2.1 | exact lz.2.2.2.1 | exact lz.2.2.2.2.1 | exact lz.2.2.2.2.2 | exact lz.2.2.2.2.2.1 | exact lz.2.2.2.2.2.2 | exact lz.2.2.2.2.2.2.1 | exact lz.2.2.2.2.2.2.2) | omega)), Nat.ne_of_gt (by (first | assumption | (with_reducible rename (_ < _ ∧ _) => lz; first | exact lz.1 | exact lz.2.1 | exact lz.2.2.1 | exact lz.2.2.2.1 | exact lz.2.2.2.2.1 | exact lz.2.2.2.2.2 | exact lz.2.2.2.2.2.1 | exact lz.2.2.2.2.2.2 | exact lz.2.2.2.2.2.2.1 | exact lz.2.2.2.2.2.2.2) | omega))⟩, ⟨N9.fresh (by k_mem), Nat.ne_of_gt (by (first | assumption | (with_reducible rename (_ < _ ∧ _) => lz; first | exact lz.1 | exact lz.2.1 | exact lz.2.2.1 | exact lz.2.2.2.1 | exact lz.2.2.2.2.1 | exact lz.2.2.2.2.2 | exact lz.2.2.2.2.2.1 | exact lz.2.2.2.2.2.2 | exact lz.2.2.2.2.2.2.1 | exact lz.2.2.2.2.2.2.2) | omega)), Nat.ne_of_gt (by (first | assumption | (with_reducible rename (_ < _ ∧ _) => lz; first | exact lz.1 | exact lz.2.1 | exact lz.2.2.1 | exact lz.2.2.2.1 | exact lz.2.2.2.2.1 | exact lz.2.2.2.2.2 | exact lz.2.2.2.2.2.1 | exact lz.2.2.2.2.2.2 | exact lz.2.2.2.2.2.2.1 | exact lz.2.2.2.2.2.2.2) | omega))⟩, ⟨N9.fresh (by k_mem), Nat.ne_of_gt (by (first | assumption | (with_reducible rename (_ < _ ∧ _) => lz; first | exact lz.1 | exact lz.2.1 | exact lz.2.2.1 | exact lz.2.2.2.1 | exact lz.2.2.2.2.1 | exact lz.2.2.2.2.2 | exact lz.2.2.2.2.2.1 | exact lz.2.2.2.2.2.2 | exact lz.2.2.2.2.2.2.1 | exact lz.2.2.2.2.2.2.2) | omega)), Nat.ne_of_gt (by (first | assumption | (with_reducible rename (_ < _ ∧ _) => lz; first | exact lz.1 | exact lz.2.1 | exact lz.2.2.1 | exact lz.2.2.2.1 | exact lz.2.2.2.2.1 | exact lz.2.2.2.2.2 | exact lz.2.2.2.2.2.1 | exact lz.2.2.2.2.2.2 | exact lz.2.2.2.2.2.2.1 | exact lz.2.2.2.2.2.2.2) | omega))⟩⟩, ?_, ?_⟩
    · rw [dif_rest (us := []) (i := 0) (by omega) (fun _ _ _ h => nomatch h)]
      exact hmv.append I9
    · obtain ⟨sl, e⟩ := ho1'
      exact ⟨sl, (N9.get (by k_mem)).trans (congrArg some e)⟩
    · obtain ⟨sl, e⟩ := ho2'
      exact ⟨sl, (N9.get (by k_mem)).trans (congrArg some e)⟩
  · have ha4 := (h04 a (by rw [hsplit]; exact List.mem_append_right _ (.head _))).2
    have hat : us[((j : Nat) : Int).toNat]? = some a := by
      rw [hsplit, ← hpre]
      simp
    have hlj : j < us.length := by rw [hsplit, ← hpre]; simp
    have hexp1 : [0, 1, 2, 3, 4, (5 : Int)][((i : Int) + 1).toNat]? = some ((i : Int) + 1) := exp_at (i + 1) (Nat.succ_le_succ hi)
    have i2 : (0 : Int) ≤ (i : Int) + 1 := nn (a := i + 1)
    have i3 : (i : Int) + 1 < 2 ^ 63 := lt63 (a := i + 1) (Nat.succ_lt_succ (Nat.lt_succ_of_le hi)) (by decide)
    have j0 : (0 : Int) ≤ (j : Int) := nn
    have j1 : (j : Int) < 2 ^ 63 := lt63 hlj u1
    have j2 : (0 : Int) ≤ (j : Int) + 1 := nn (a := j + 1)
    have j3 : (j : Int) + 1 < 2 ^ 63 := lt63 (a := j + 1) (Nat.lt_of_le_of_lt hlj (Nat.lt_succ_of_le hlen)) (by decide)
    by_cases hea : (i : Int) = a
    · cases post with
      | nil =>
        have houtN : us.length ≤ j + 1 := by rw [hsplit, ← hpre, List.length_append]; exact Nat.le_refl _
        have hout : (us.length : Int) ≤ (j : Int) + 1 := Int.ofNat_le.mpr houtN
        (k_steps; all_goals (try ((first | ((with_reducible rename Held _ => hKQ); refine Held.out hKQ _ _ ?_; clear hKQ; (try dsimp only)) | ((with_reducible rename (∀ f s, KswPost _ _ _ _ _ _ _ _ _ _ _ _ f s → _) => hKQ); refine hKQ _ _ ?_; clear hKQ)); k_steps)); all_goals (try ((first | ((with_reducible rename Held _ => hKQ); refine Held.out hKQ _ _ ?_; clear hKQ; (try dsimp only)) | ((with_reducible rename (∀ f s, KswPost _ _ _ _ _ _ _ _ _ _ _ _ f s → _) => hKQ); refine hKQ _ _ ?_; clear hKQ)); k_steps)))
        unfold Halt
        k_dflt (refine' out_ints ?hA ?hl ?F ?hi ?ho ?hf ?_)
        (case hA => exact rfl)
        (case hl => assumption)
        (case F => k_asm)
        (case hi => assumption)
        (case ho => exact hout)
        (case hf => exact j3)
        intro h' tk' e' hx'
        refine PassesOwn.looking _ _ ?_
        (rename Fr _ _ _ _ => F5)
        (rename News _ _ _ _ => N5)
        refine TLg.noted_newA (new := [(unx, listOf #[] 0), (mis, listOf mv.toArray ver)]) rfl Fs hx' F5 N5 ?_ fun h6 frs6 SU6 Fs6 H6 => ?_
        · intro p hp q
          have hne := (N5 p (List.mem_append_left _ hp)).2.1
          simp only [List.map, List.mem_cons, List.not_mem_nil, or_false] at hp q
          rcases hp with rfl | rfl <;> rcases q with q | q | q <;> (dsimp only at q hne) <;> first | exact hne q | exact absurd q (Nat.ne_of_gt (by (first | assumption | (with_reducible rename (_ < _ ∧ _) => lz; first | exact lz.1 | exact lz.2.1 | exact lz.2.2.1 | exact lz.2.2.2.1 | exact lz.2.2.2.2.1 | exact lz.2.2.2.2.2 | exact lz.2.2.2.2.2.1 | exact lz.2.2.2.2.2.2 | exact lz.2.2.2.2.2.2.1 | exact lz.2.2.2.2.2.2.2) | omega)))
        refine TT.HeldNA.land H6 fun h7 H7 => ?_
        clear F5 N5 H6
        refine TT.clause_hitTN H7 T (k := fun h8 F8 N8 => ?_)
        obtain ⟨o1', o2', rfl, ho1', ho2'⟩ := sameUp_two SU6
        replace N8 : News g L' h8 [(unx, listOf #[] 0), (mis, listOf mv.toArray ver), (L1, o1'), (L2, o2')] := N8
        clear H7
        (k_steps; all_goals (try ((first | ((with_reducible rename Held _ => hKQ); refine Held.out hKQ _ _ ?_; clear hKQ; (try dsimp only)) | ((with_reducible rename (∀ f s, KswPost _ _ _ _ _ _ _ _ _ _ _ _ f s → _) => hKQ); refine hKQ _ _ ?_; clear hKQ)); k_steps)); all_goals (try ((first | ((with_reducible rename Held _ => hKQ); refine Held.out hKQ _ _ ?_; clear hKQ; (try dsimp only)) | ((with_reducible rename (∀ f s, KswPost _ _ _ _ _ _ _ _ _ _ _ _ f s → _) => hKQ); refine hKQ _ _ ?_; clear hKQ)); k_steps)))
        unfold Halt
        (k_dflt (refine from_ints (s := ⟨_, _, _, _, _⟩) (by k_asm) (by k_asm) (by assumption) (by assumption) ?h0 ?hz ?_; (case h0 => walk_at "NUM"); (case hz => first | with_reducible assumption | decide)); intro D' ws' h' F' N' l1 hI'; (try k_lt l1); (try k_sweep))
        (k_steps; all_goals (try ((first | ((with_reducible rename Held _ => hKQ); refine Held.out hKQ _ _ ?_; clear hKQ; (try dsimp only)) | ((with_reducible rename (∀ f s, KswPost _ _ _ _ _ _ _ _ _ _ _ _ f s → _) => hKQ); refine hKQ _ _ ?_; clear hKQ)); k_steps)); all_goals (try ((first | ((with_reducible rename Held _ => hKQ); refine Held.out hKQ _ _ ?_; clear hKQ; (try dsimp only)) | ((with_reducible rename (∀ f s, KswPost _ _ _ _ _ _ _ _ _ _ _ _ f s → _) => hKQ); refine hKQ _ _ ?_; clear hKQ)); k_steps)))
        unfold Halt
        k_dflt (refine' ext_some ?F ?N ?b ?hi ?e ?z1 ?z2 ?U ?_)
        (case F => k_asm)
        (case N => k_asm)
        (case b => k_mem)
        (case U => k_upd)
        (case hi => assumption)
        (case e => (rw [List.length_drop]; exact Nat.sub_ne_zero_of_lt (show i + 1 < 6 from Nat.succ_lt_succ (Nat.lt_succ_of_le hi))))
        (case z1 => exact mv1)
        (case z2 => (rw [List.length_drop]; exact Nat.le_trans (Nat.sub_le _ _) (by decide)))
        intro h' F' N'
        (try k_sweep)
        (k_steps; all_goals (try ((first | ((with_reducible rename Held _ => hKQ); refine Held.out hKQ _ _ ?_; clear hKQ; (try dsimp only)) | ((with_reducible rename (∀ f s, KswPost _ _ _ _ _ _ _ _ _ _ _ _ f s → _) => hKQ); refine hKQ _ _ ?_; clear hKQ)); k_steps)); all_goals (try ((first | ((with_reducible rename Held _ => hKQ); refine Held.out hKQ _ _ ?_; clear hKQ; (try dsimp only)) | ((with_reducible rename (∀ f s, KswPost _ _ _ _ _ _ _ _ _ _ _ _ f s → _) => hKQ); refine hKQ _ _ ?_; clear hKQ)); k_steps)))
        unfold Halt
        (k_dflt (refine from_ints (s := ⟨_, _, _, _, _⟩) (by k_asm) (by k_asm) (by assumption) (by assumption) ?h0 ?hz ?_; (case h0 => walk_at "NUM"); (case hz => first | with_reducible assumption | decide)); intro D' ws' h' F' N' l1 hI'; (try k_lt l1); (try k_sweep))
        (k_steps; all_goals (try ((first | ((with_reducible rename Held _ => hKQ); refine Held.out hKQ _ _ ?_; clear hKQ; (try dsimp only)) | ((with_reducible rename (∀ f s, KswPost _ _ _ _ _ _ _ _ _ _ _ _ f s → _) => hKQ); refine hKQ _ _ ?_; clear hKQ)); k_steps)); all_goals (try ((first | ((with_reducible rename Held _ => hKQ); refine Held.out hKQ _ _ ?_; clear hKQ; (try dsimp only)) | ((with_reducible rename (∀ f s, KswPost _ _ _ _ _ _ _ _ _ _ _ _ f s → _) => hKQ); refine hKQ _ _ ?_; clear hKQ)); k_steps)))
        unfold Halt
        k_dflt (refine' ext_none ?F ?N ?b ?hi ?e ?z1 ?U ?_)
        (case F => k_asm)
        (case N => k_asm)
        (case b => k_mem)
        (case U => k_upd)
        (case hi => assumption)
        (case e => (rw [List.length_drop]; exact Nat.sub_eq_zero_of_le (show us.length ≤ j + 1 from houtN)))
        (case z1 => exact Nat.zero_le _)
        intro h' F' N'
        (try k_sweep)
        (k_steps; all_goals (try ((first | ((with_reducible rename Held _ => hKQ); refine Held.out hKQ _ _ ?_; clear hKQ; (try dsimp only)) | ((with_reducible rename (∀ f s, KswPost _ _ _ _ _ _ _ _ _ _ _ _ f s → _) => hKQ); refine hKQ _ _ ?_; clear hKQ)); k_steps)); all_goals (try ((first | ((with_reducible rename Held _ => hKQ); refine Held.out hKQ _ _ ?_; clear hKQ; (try dsimp only)) | ((with_reducible rename (∀ f s, KswPost _ _ _ _ _ _ _ _ _ _ _ _ f s → _) => hKQ); refine hKQ _ _ ?_; clear hKQ)); k_steps)))
        (try k_unfold)
        (try dsimp only)
        (rename Fr _ _ _ _ => F9)
        (rename News _ _ _ _ => N9)
        (rename IntsAre _ (List.drop ((i : Int) + 1).toNat _) => I9)
        refine h _ _ _ F9.keep ⟨⟨mis, unx, _, _, _, N9.get (by k_mem), N9.get (by k_mem), ?_, N9.get (by k_mem), ⟨N9.fresh (by k_mem), Nat.ne_of_gt (by (first | assumption | (with_reducible rename (_ < _ ∧ _) => lz; first | exact lz.1 | exact lz.2.1 | exact lz.2.2.1 | exact lz.2.2.2.1 | exact lz.2.2.2.2.1 | exact lz.2.2.2.2.2 | exact lz.2.2.2.2.2.1 | exact lz.2.2.2.2.2.2 | exact lz.2.2.2.2.2.2.1 | exact lz.2.2.2.2.2.2.2) | omega)), Nat.ne_of_gt (by (first | assumption | (with_reducible rename (_ < _ ∧ _) => lz; first | exact lz.1 | exact lz.2.1 | exact lz.2.2.1 | exact lz.2.2.2.1 | exact lz.2.2.2.2.1 | exact lz.2.2.2.2.2 | exact lz.2.2.2.2.2.1 | exact lz.2.2.2.2.2.2 | exact lz.2.2.2.2.2.2.1 | exact lz.2.2.2.2.2.2.2) | omega))⟩, ⟨N9.fresh (by k_mem), Nat.ne_of_gt (by (first | assumption | (with_reducible rename (_ < _ ∧ _) => lz; first | exact lz.1 | exact lz.2.1 | exact lz.2.2.1 | exact lz.2.2.2.1 | exact lz.2.2.2.2.1 | exact lz.2.2.2.2.2 | exact lz.2.2.2.2.2.1 | exact lz.2.2.2.2.2.2 | exact lz.2.2.2.2.2.2.1 | exact lz.2.2.2.2.2.2.2) | omega)), Nat.ne_of_gt (by (first | assumption | (with_reducible rename (_ < _ ∧ _) => lz; first | exact lz.1 | exact lz.2.1 | exact lz.2.2.1 | exact lz.2.2.2.1 | exact lz.2.2.2.2.1 | exact lz.2.2.2.2.2 | exact lz.2.2.2.2.2.1 | exact lz.2.2.2.2.2.2 | exact lz.2.2.2.2.2.2.1 | exact lz.2.2.2.2.2.2.2) | omega))⟩, ⟨N9.fresh (by k_mem), Nat.ne_of_gt (by (first | assumption | (with_reducible rename (_ < _ ∧ _) => lz; first | exact lz.1 | exact lz.2.1 | exact lz.2.2.1 | exact lz.2.2.2.1 | exact lz.2.2.2.2.1 | exact lz.2.2.2.2.2 | exact lz.2.2.2.2.2.1 | exact lz.2.2.2.2.2.2 | exact lz.2.2.2.2.2.2.1 | exact lz.2.2.2.2.2.2.2) | omega)), Nat.ne_of_gt (by (first | assumption | (with_reducible rename (_ < _ ∧ _) => lz; first | exact lz.1 | exact lz.2.1 | exact lz.2.2.1 | exact lz.2.2.2.1 | exact lz.2.2.2.2.1 | exact lz.2.2.2.2.2 | exact lz.2.2.2.2.2.1 | exact lz.2.2.2.2.2.2 | exact lz.2.2.2.2.2.2.1 | exact lz.2.2.2.2.2.2.2) | omega))⟩⟩, ?_, ?_⟩
        · have hin : ((i : Nat) : Int) ∈ us := by rw [hsplit, hea]; exact List.mem_append_right _ (.head _)
          have hrest : ∀ k : Nat, i + 1 ≤ k → k < 6 → (k : Int) ∉ us := by
            intro k hk1 _ hkm
            rw [hsplit] at hkm
            rcases List.mem_append.mp hkm with hkm | hkm
            · exact absurd (Int.ofNat_lt.mp (hpx _ hkm)) (Nat.not_lt.mpr (Nat.le_of_succ_le hk1))
            · exact absurd (Int.ofNat_inj.mp ((List.mem_singleton.mp hkm).trans hea.symm)) (Nat.ne_of_gt hk1)
          rw [dif_rest (i := i + 1) (Nat.le_trans (Nat.succ_le_succ hi) (by decide)) hrest, dif_skip hin]
          exact hmv.append I9
        · obtain ⟨sl, e⟩ := ho1'
          exact ⟨sl, (N9.get (by k_mem)).trans (congrArg some e)⟩
        · obtain ⟨sl, e⟩ := ho2'
          exact ⟨sl, (N9.get (by k_mem)).trans (congrArg some e)⟩
      | cons b post =>
        have hab : a < b := by
          have hp := hus
          rw [hsplit] at hp
          exact (List.pairwise_cons.mp (List.pairwise_append.mp hp).2.1).1 b (.head _)
        have hat1 : us[((j : Int) + 1).toNat]? = some b := by
          rw [hsplit, ← hpre]
          simp [show ((pre.length : Int) + 1).toNat = pre.length + 1 from rfl]
        (k_steps; all_goals (try ((first | ((with_reducible rename Held _ => hKQ); refine Held.out hKQ _ _ ?_; clear hKQ; (try dsimp only)) | ((with_reducible rename (∀ f s, KswPost _ _ _ _ _ _ _ _ _ _ _ _ f s → _) => hKQ); refine hKQ _ _ ?_; clear hKQ)); k_steps)); all_goals (try ((first | ((with_reducible rename Held _ => hKQ); refine Held.out hKQ _ _ ?_; clear hKQ; (try dsimp only)) | ((with_reducible rename (∀ f s, KswPost _ _ _ _ _ _ _ _ _ _ _ _ f s → _) => hKQ); refine hKQ _ _ ?_; clear hKQ)); k_steps)))
        unfold Halt
        have hib : (((i + 1 : Nat)) : Int) ≤ b := Int.add_one_le_of_lt (hea ▸ hab)
        have hin : ((i : Nat) : Int) ∈ us := by rw [hsplit, hea]; exact List.mem_append_right _ (.head _)
        refine ksw_end (i + 1, j + 1, _, _, mv, ver) (by assumption) (by assumption) (fun p hp => hp) trivial (by kst_all) (by (intro z h2 h3; (simp only [List.forall_mem_cons, List.not_mem_nil, false_implies, implies_true, and_true, ne_eq] at h2); (simp only [List.contains_cons, List.contains_nil, Bool.or_false, Bool.or_eq_false_iff, beq_eq_false_iff_ne, ne_eq] at h3); (simp [kstB, h2, h3]; done))) ⟨Int.ofNat_le.mp (Int.le_trans hib (h04 b (by rw [hsplit]; exact List.mem_append_right _ (.tail _ (.head _)))).2), by dsimp only; rw [dif_skip hin]; exact hmv, .inr ⟨pre ++ [a], b, post, by rw [hsplit, List.append_assoc]; rfl, by rw [List.length_append, hpre]; rfl, hib, ?_⟩⟩ (by dsimp only; exact six_lt (by assumption))
        intro x hx
        rcases List.mem_append.mp hx with hx | hx
        · exact Int.lt_trans (hpx x hx) (Int.lt_succ _)
        · exact (List.mem_singleton.mp hx).trans hea.symm ▸ Int.lt_succ _
    · (k_steps; all_goals (try ((first | ((with_reducible rename Held _ => hKQ); refine Held.out hKQ _ _ ?_; clear hKQ; (try dsimp only)) | ((with_reducible rename (∀ f s, KswPost _ _ _ _ _ _ _ _ _ _ _ _ f s → _) => hKQ); refine hKQ _ _ ?_; clear hKQ)); k_steps)); all_goals (try ((first | ((with_reducible rename Held _ => hKQ); refine Held.out hKQ _ _ ?_; clear hKQ; (try dsimp only)) | ((with_reducible rename (∀ f s, KswPost _ _ _ _ _ _ _ _ _ _ _ _ f s → _) => hKQ); refine hKQ _ _ ?_; clear hKQ)); k_steps)))
      unfold Halt
      (rename News _ _ _ _ => N9)
      simp only [List.push_toArray] at N9
      have hlt : (i : Int) < a := Int.lt_iff_le_and_ne.mpr ⟨hia, hea⟩
      have hib : (((i + 1 : Nat)) : Int) ≤ a := Int.add_one_le_of_lt hlt
      have hnin : ((i : Nat) : Int) ∉ us := by
        intro hm'
        rw [hsplit] at hm'
        have hp := hus
        rw [hsplit] at hp
        rcases List.mem_append.mp hm' with hm' | hm'
        · exact Int.lt_irrefl _ (hpx _ hm')
        · rcases List.mem_cons.mp hm' with hm' | hm'
          · exact hea hm'
          · exact Int.lt_irrefl _ (Int.lt_trans hlt ((List.pairwise_cons.mp (List.pairwise_append.mp hp).2.1).1 _ hm'))
      refine ksw_end (i + 1, j, _, _, mv ++ [_], ver + 1) (by assumption) N9 (fun p hp => hp) trivial (by kst_all) (by (intro z h2 h3; (simp only [List.forall_mem_cons, List.not_mem_nil, false_implies, implies_true, and_true, ne_eq] at h2); (simp only [List.contains_cons, List.contains_nil, Bool.or_false, Bool.or_eq_false_iff, beq_eq_false_iff_ne, ne_eq] at h3); (simp [kstB, h2, h3]; done))) ⟨Int.ofNat_le.mp (Int.le_trans hib ha4), by dsimp only; rw [dif_step hnin]; exact hmv.append (.cons _ _ .nil), .inr ⟨pre, a, post, hsplit, hpre, hib, fun x hx => Int.lt_trans (hpx x hx) (Int.lt_succ _)⟩⟩ (by dsimp only; exact six_lt (by assumption))
end
end D8Part
section D15Part
set_option linter.unusedVariables false
/-- the heap's items, in the order of the ways -/
noncomputable def KeyObj (x : Str) (k : Nat) (o : Obj) : Prop := ∃ t u n, o = { cls := .type "list", data := .seq #[.str x t, .int (k : Int) u] n }
noncomputable def HeapIts (W : List (List Str)) (hs : List Addr) (its : List (Addr × Obj)) : Prop := its.map (·.1) = hs ∧ hs.Nodup ∧ ∀ (k : Nat) (p : Addr × Obj), its[k]? = some p → ∃ x r, W[k]? = some (x :: r) ∧ KeyObj x k p.2
theorem HeapIts.nil (W : List (List Str)) : HeapIts W [] [] := ⟨rfl, .nil, fun _ _ h => by simp at h⟩
theorem HeapIts.snoc {W : List (List Str)} {hs : List Addr} {its : List (Addr × Obj)} {A : Addr} {o : Obj} {x : Str} {r : List Str} (h : HeapIts W hs its) (hA : ∀ p ∈ its, p.1 ≠ A) (hx : W[hs.length]? = some (x :: r)) (ho : KeyObj x hs.length o) : HeapIts W (hs ++ [A]) (its ++ [(A, o)]) := by
  obtain ⟨h1, h2, h3⟩ := h
  have hl : its.length = hs.length := by rw [← h1, List.length_map]
  refine ⟨by rw [List.map_append, h1]; rfl, ?_, fun k p hp => ?_⟩
  · rw [List.nodup_append]
    refine ⟨h2, by simp, ?_⟩
    intro a ha b hb
    rw [List.mem_singleton.mp hb]
    rw [← h1] at ha
    obtain ⟨p, hp, rfl⟩ := List.mem_map.mp ha
    exact hA p hp
  · by_cases hk : k < its.length
    · rw [List.getElem?_append_left hk] at hp
      exact h3 k p hp
    · rw [List.getElem?_append_right (Nat.not_lt.mp hk)] at hp
      have hk2 : k = its.length := by
        exact Nat.le_antisymm (Nat.le_of_sub_eq_zero (Nat.lt_one_iff.mp (List.getElem?_eq_some_iff.mp hp).1)) (Nat.not_lt.mp hk)
      subst hk2
      simp at hp
      subst hp
      rw [hl]
      exact ⟨x, r, hx, ho⟩
theorem allLt_mem {d : Addr} : ∀ {l : List (Addr × Obj)}, AllLt d l → ∀ p ∈ l, @LT.lt Nat _ p.1 d
  | [], _, p, hp => nomatch hp
  | q :: l, h, p, hp => by
    rcases List.mem_cons.mp hp with rfl | hp
    · exact h.1
    · exact allLt_mem h.2 p hp
theorem News.addOf' {h₀ h : Heap} {L D : Addr} {o : Obj} {m : Str → Option Value} {news : List (Addr × Obj)} (F : Fr h₀ L h m) (N : News h₀ L h news) (hf : D ≠ L ∧ h₀.get? D = none) (hD : h.get? D = some o) : News h₀ L h ((D, o) :: news) := by
  intro p hp
  rcases List.mem_cons.mp hp with rfl | hp
  · exact ⟨hD, hf⟩
  · exact N p hp
theorem off1_mem {D : Addr} : ∀ {l : List (Addr × Obj)}, LCg.Off1 D l → ∀ p ∈ l, p.1 ≠ D
  | [], _, p, hp => nomatch hp
  | q :: l, h, p, hp => by
    rcases List.mem_cons.mp hp with rfl | hp
    · exact h.1
    · exact off1_mem h.2 p hp
theorem HeapIts.keys {W : List (List Str)} {hs : List Addr} {its : List (Addr × Obj)} (hI : HeapIts W hs its) (h6 : hs.length = 6) :
    ∃ (A : Fin 6 → Addr) (κ : Addr → Str × Int), hs = (List.finRange 6).map A ∧ (∀ i j, keyLt (κ (A i)) (κ (A j)) = lw6 W i j) ∧ (∀ i, κ (A i) = (topOf W i.val, (i.val : Int))) ∧
      ∀ i : Fin 6, ∃ t u n, (A i, ({ cls := .type "list", data := .seq #[.str (topOf W i.val) t, .int ((i.val : Nat) : Int) u] n } : Obj)) ∈ its := by
  obtain ⟨h1, h2, h3⟩ := hI
  have lt : ∀ i : Fin 6, i.val < hs.length := fun i => Nat.lt_of_lt_of_eq i.isLt h6.symm
  have inj : ∀ i j : Fin 6, hs[i.val]'(lt i) = hs[j.val]'(lt j) → i = j := by
    intro i j e
    rw [List.Nodup, List.pairwise_iff_getElem] at h2
    rcases Nat.lt_trichotomy i.val j.val with q | q | q
    · exact absurd e (h2 _ _ (lt i) (lt j) q)
    · exact Fin.ext q
    · exact absurd e.symm (h2 _ _ (lt j) (lt i) q)
  classical
  let A : Fin 6 → Addr := fun i => hs[i.val]'(lt i)
  let κ : Addr → Str × Int := fun a => if h : ∃ i, A i = a then (topOf W h.choose.val, (h.choose.val : Int)) else (default, 0)
  have hκ : ∀ i, κ (A i) = (topOf W i.val, (i.val : Int)) := by
    intro i
    have h : ∃ j, A j = A i := ⟨i, rfl⟩
    show (if h : ∃ j, A j = A i then (topOf W h.choose.val, (h.choose.val : Int)) else (default, 0)) = _
    rw [dif_pos h, inj _ _ h.choose_spec]
  refine ⟨A, κ, ?_, fun i j => by rw [hκ, hκ]; rfl, hκ, fun i => ?_⟩
  · refine List.ext_getElem (by simp [h6]) fun k h h' => by simp [A]
  · have hl : its.length = 6 := by rw [← h6, ← h1, List.length_map]
    obtain ⟨p, hp⟩ : ∃ p, its[i.val]? = some p := ⟨_, List.getElem?_eq_getElem (Nat.lt_of_lt_of_eq i.isLt hl.symm)⟩
    obtain ⟨x, r, hx, t, u, n, ho⟩ := h3 _ p hp
    have e1 : p.1 = A i := by
      show p.1 = hs[i.val]'(lt i)
      have : (its.map (·.1))[i.val]? = some p.1 := by rw [List.getElem?_map, hp]; rfl
      rw [h1, List.getElem?_eq_getElem (lt i)] at this
      exact (Option.some.inj this).symm
    refine ⟨t, u, n, ?_⟩
    have e2 : topOf W i.val = x := by unfold topOf; rw [List.getD_eq_getElem?_getD, hx]; rfl
    rw [e2, ← ho, ← e1]
    exact List.mem_of_getElem? hp
/-- a list of lists of texts -/
noncomputable def WaysAt (g : Heap) (wrefs : List Addr) (W : List (List Str)) : Prop := wrefs.length = W.length ∧ ∀ (k : Nat) (a : Addr) (l : List Str), wrefs[k]? = some a → W[k]? = some l → ∃ vs, g.IsList a (List.toArray vs) ∧ StrsAre vs l
section
variable {w : World} {mean : ExcName → Option Value} {mg mb : Str → Option Value} {dp un : Nat} {gd : Option (List Code)} {base : Heap} {fr : List Env} {s : Shared} {Q E : Value → Shared → Prop}
local macro_rules | `(tactic| walk_at "exec Assign cons ListComp") => `(tactic| (k_here; k_dflt (refine Assign_ListComp_W (F₀ := by k_asm) (by rfl) (by with_unfolding_all rfl) (by with_unfolding_all rfl) (by decide) (by rfl) (by decide) (by rfl) (by rfl) (by rfl) ?_)))
local macro_rules | `(tactic| walk_at "exec Assign cons ListComp") => `(tactic| (k_here; lct_look; k_dflt (refine Assign_ListComp_WT (F₀ := by k_asm) (by rfl) (by with_unfolding_all rfl) (by with_unfolding_all rfl) (by decide) (by rfl) (by decide) (by rfl) (by rfl) (by rfl) ?_)))
local macro_rules | `(tactic| walk_at "eval ListComp") => `(tactic| (k_here; k_dflt (refine ListComp_W (F₀ := by k_asm) (by with_unfolding_all rfl) (by decide) (by rfl) (by decide) (by rfl) ?_)))
local macro_rules | `(tactic| walk_at "eval ListComp") => `(tactic| (k_here; lct_look; k_dflt (refine ListComp_WT (F₀ := by k_asm) (by with_unfolding_all rfl) (by decide) (by rfl) (by decide) (by rfl) ?_)))
local macro_rules | `(tactic| lcg_src) => `(tactic| ((with_reducible show TupAt _ _ _ _); exact Or.inr ⟨_, by k_mem⟩))
local macro_rules | `(tactic| walk_at "CompRest") => `(tactic| refine Halt.mk ?_)
local macro_rules | `(tactic| walk_at "CompRestT") => `(tactic| refine Halt.mk ?_)
local macro_rules | `(tactic| walk_at "CompEnd") => `(tactic| refine Halt.mk ?_)
local macro_rules | `(tactic| walk_at "FinA") => `(tactic| refine Halt.mk ?_)
local macro_rules | `(tactic| walk_at "exec Assign cons ListComp") => `(tactic| refine Halt.mk ?_)
local macro_rules | `(tactic| walk_at "eval ListComp") => `(tactic| refine Halt.mk ?_)
local macro_rules | `(tactic| walk_at "call ref") => `(tactic| refine Halt.mk ?_)
local macro_rules | `(tactic| walk_at "truthy ref") => `(tactic| (k_here; k_dflt (refine' truthy_refs ?N ?hm ?hf ?_); (case N => k_asm); (case hm => k_mem); (case hf => (rw [List.length_map]; assumption)); intro tk'))
local macro_rules | `(tactic| walk_at "call builtin:len") => `(tactic| refine Halt.mk ?_)
local macro_rules | `(tactic| walk_at "call type:list") => `(tactic| refine Halt.mk ?_)
local macro_rules | `(tactic| walk_at "subscriptTail Name Name ref int") => `(tactic| refine Halt.mk ?_)
local macro_rules | `(tactic| walk_at "subscriptTail Subscript Constant ref int") => `(tactic| refine Halt.mk ?_)
theorem len_base {prog : Program} {w : World} {A : Around} {E : Value → Shared → Prop} {s : Shared} {h₀ : Heap} {L l : Addr} {m : Str → Option Value} {its : Array Value} {Q : Value → Shared → Prop} (F : Fr h₀ L s.heap m) (hl : h₀.IsList l its) {n : Nat} (hn : its.size = n) (hs : n ≤ 1000)
    (h : Q (.int n (s.toks + 1)) { s with toks := s.toks + 1 + 1 }) : wpAny (model prog w) A (call (.builtin "len") [.ref l]) Q E s := by
  subst hn
  exact len_list (hl.at fun o e => F.keep _ o e) (Int.lt_of_le_of_lt (Int.ofNat_le.mpr hs) (by decide)) h
local macro_rules | `(tactic| k_all) => `(tactic| assumption)
local macro_rules | `(tactic| walk_at "compareOp In str ref") => `(tactic| refine Halt.mk ?_)
local macro_rules | `(tactic| walk_at "call builtin:sorted") => `(tactic| refine Halt.mk ?_)
local macro_rules | `(tactic| walk_at "compareOp NotIn int ref") => `(tactic| refine Halt.mk ?_)
local macro_rules | `(tactic| walk_at "compareOp NotEq ref ref") => `(tactic| refine Halt.mk ?_)
local macro_rules | `(tactic| walk_at "setItem ref int") => `(tactic| refine Halt.mk ?_)
theorem News.sub3 {h₀ h : Heap} {L : Addr} {p q : Addr × Obj} {r : List (Addr × Obj)} (N : News h₀ L h (p :: q :: r)) (_ _ : Unit) : News h₀ L h r := News.sub N fun _ hp => .tail _ (.tail _ hp)
local macro_rules | `(tactic| walk_at "subscriptTail Name Constant ref int") => `(tactic| refine Halt.mk ?_)
theorem painted_spec {wa : Addr} {wrefs : List Addr} {W : List (List Str)} {envL : Env} {Lf : Addr} {oL : Obj}
    (S : St w mean mg mb (hideAll s.heap ([(Lf, oL)].map (·.1)))) (hd : dp + 5 < recursionLimit) (hu : un + 120 < cLine)
    (Fs : TI.Frs [envL] [(Lf, oL)]) (hm : ∀ p ∈ [(Lf, oL)], s.heap.get? p.1 = some p.2)
    (hwa : (hideAll s.heap ([(Lf, oL)].map (·.1))).IsList wa (rv wrefs).toArray) (hW : W.length = 6) (hwW : WaysAt (hideAll s.heap ([(Lf, oL)].map (·.1))) wrefs W) (hne : ∀ l ∈ W, l ≠ []) {cs : List (Nat × Nat)} (hcs : paint W ((ordF W).map Fin.val) [] = some cs) (hfull : ∀ k < 6, (colOf cs k).isSome = true)
    (h : ∀ D vs n sl h' tk', (∀ b o, (hideAll s.heap ([(Lf, oL)].map (·.1))).get? b = some o → h'.get? b = some o) → h'.get? Lf = some { oL with slots := sl } → D ≠ Lf → (hideAll s.heap ([(Lf, oL)].map (·.1))).get? D = none → h'.get? D = some (listOf (List.toArray vs) n) → IntsAre vs (zs ((List.range 6).map fun k => (colOf cs k).getD 0)) → Q (.ref D) { s with heap := h', toks := tk' }) :
    wpAny (model PySem.Challenge.rw_pd0148_01.row.prog w) (Ar dp un gd [envL]) (call (.ref 188) [.ref wa]) Q E s := by
  (have kfX := (‹St _ _ _ _ _›).X; revert kfX; k_fill; intro _)
  refine wpAny_call ?_
  refine' enterC (muts := [(Lf, oL)]) ?k1 ?k6 ?k7 ?k8 ?k9 ?kB ?kD hm ?_ ?c2 ?c3 ?c4
  (case k1 => assumption)
  (case k6 => k_is)
  (case k7 => k_is)
  (case k8 => exact ltc0 hd)
  (case k9 => exact BindsTo.of_eq rfl)
  (case kB => exact rfl)
  (case kD => decide +kernel)
  (case c2 => exact rfl)
  (case c3 => exact rfl)
  (case c4 => exact rfl)
  intro L' h₁ tk cells F N Y hlt
  k_cells Y
  rename_i oU oT oC oW dU dT dC dW
  simp only [List.cons_append, List.nil_append] at N
  (with_unfolding_all change oU.data = Data.cell none at dU)
  (with_unfolding_all change oT.data = Data.cell none at dT)
  (with_unfolding_all change oC.data = Data.cell none at dC)
  (with_unfolding_all change oW.data = Data.cell (some (.ref wa)) at dW)
  have hLf : @LT.lt Nat _ Lf L' := hlt _ (.head _)
  clear hlt
  dsimp only
  obtain ⟨X, T⟩ := S
  generalize hideAll s.heap ([(Lf, oL)].map (·.1)) = g at *
  (obtain ⟨g0, _, _, _, _⟩ := s)
  dsimp only at *
  replace F : Fr g L' h₁ (fun _ => none) := by with_unfolding_all exact F
  k_steps
  unfold Halt
  (rename Fr _ _ _ _ => F2)
  refine len_base (n := 6) F2 hwa (by rw [List.size_toArray, rv_len, hwW.1, hW]) (by decide) ?_
  k_steps
  unfold Halt
  (rename Fr _ _ _ _ => F3)
  (rename News _ _ _ _ => N3)
  (rename IsRange _ _ _ _ _ _ _ _ => R3)
  refine list_range_led (n := 6) rfl F3 N3 R3 rfl rfl (by decide) fun De ve ke h4 tk4 F4 N4 l4 he => ?_
  clear F3 N3 R3
  k_lt l4
  k_steps
  unfold Halt
  (rename Fr _ _ _ _ => F3)
  (rename News _ _ _ _ => N3)
  rename_i dc _ oD ldc hsD fsD hiD fiD l1 _ oC2 dC2 _ _ _ _ _ _ _
  have ldcU : @LT.lt Nat _ (L' + 1 + 1 + 1 + 1) dc := by first | exact l1.1 | exact ldc.1 | omega
  have ldcT : @LT.lt Nat _ (L' + 1 + 1 + 1) dc := by first | exact l1.2.1 | exact ldc.2.1 | omega
  have ldcC : @LT.lt Nat _ (L' + 1 + 1) dc := by first | exact l1.2.2.1 | exact ldc.2.2.1 | omega
  have ldcW : @LT.lt Nat _ (L' + 1) dc := by first | exact l1.2.2.2.1 | exact ldc.2.2.2.1 | omega
  have ldcF : @LT.lt Nat _ Lf dc := by first | exact l1.2.2.2.2 | exact ldc.2.2.2.2 | omega
  have ldcD := l4.1
  have lUD := l4.2.1
  have lTD := l4.2.2.1
  refine' Assign_ListComp_W (F₀ := F3) ?b0 ?b1 ?b2 ?b3 ?b4 ?b5 ?b6 ?b7 ?b8 ?_
  (case b0 => rfl)
  (case b1 => with_unfolding_all rfl)
  (case b2 => with_unfolding_all rfl)
  (case b3 => decide)
  (case b4 => rfl)
  (case b5 => decide)
  (case b6 => rfl)
  (case b7 => rfl)
  (case b8 => rfl)
  k_steps
  have hel : ve.length = 6 := he.length
  refine SrcW.of (Drawn.led (vs := ve) rfl F3 N3 (.head _)) ?hsz fun gc => ?_
  (case hsz => rw [List.size_toArray, sizeLine_eq, hel]; decide)
  generalize hN0 : [(De, listOf ve.toArray ke), (dc, oD), (L' + 1 + 1 + 1 + 1, oU), (L' + 1 + 1 + 1, oT), (L' + 1 + 1, oC2), (L' + 1, oW), (Lf, oL)] = N0 at N3
  refine comp_inv (n := ve.toArray.size) (fun i ys nw => ∃ hs its, nw = N0 ++ its ∧ ys = rv hs ∧ hs.length = i ∧ HeapIts W hs its ∧ ∀ p ∈ its, @LT.lt Nat _ De p.1) (fun i ys nw hi hinv v I₂ oI₂ C₂ oC₂ A₂ m₂ g₂ k₂ E₂ hv₂ hC₂ hx₂ F4 N4 off₂ ne₂ => ?_) (fun ys nw hinv => ?_) _ 0 [] _ (Nat.zero_add _) ⟨[], [], by simp [hN0], rfl, rfl, HeapIts.nil W, fun _ h => nomatch h⟩
  · refine genH fun Q₂ hQ₂ => ?_
    refine ex2a2 (zs_item he hv₂) fun xn t' eqa hx => ?_
    subst eqa
    refine ex2a5 hinv fun hs its e1 e2 e3 hI hDe => ?_
    clear hinv
    subst e1 e2
    clear F3 N3
    subst hN0
    simp only [List.cons_append, List.nil_append] at N4
    have hi6 : i < 6 := by rw [List.size_toArray, hel] at hi; exact hi
    obtain rfl : xn = i := by
      rw [List.getElem?_range hi6] at hx
      exact (Option.some.inj hx).symm
    refine Exists.elim (show ∃ l, W[xn]? = some l from ⟨_, List.getElem?_eq_getElem (Nat.lt_of_lt_of_eq hi6 hW.symm)⟩) fun l hl => ?_
    refine Exists.elim (show ∃ a, wrefs[xn]? = some a from ⟨_, List.getElem?_eq_getElem (Nat.lt_of_lt_of_eq hi6 (hwW.1.trans hW).symm)⟩) fun a ha => ?_
    have hxr : ∃ x r, l = x :: r := by
      cases l with
      | nil => exact absurd rfl (hne _ (List.mem_of_getElem? hl))
      | cons x r => exact ⟨x, r, rfl⟩
    refine ex2a1 hxr fun x r ehx => ?_
    clear hxr
    subst ehx
    refine ex1a2 (hwW.2 xn a _ ha hl) fun vs hvs hst => ?_
    refine ex2a2 (hst.cons_inv) fun t0 vs eqb hst' => ?_
    subst eqb
    (k_steps; all_goals (try ((first | ((with_reducible rename Held _ => hKQ); refine Held.out hKQ _ _ ?_; clear hKQ; (try dsimp only)) | ((with_reducible rename (∀ f s, KswPost _ _ _ _ _ _ _ _ _ _ _ _ f s → _) => hKQ); refine hKQ _ _ ?_; clear hKQ)); k_steps)); all_goals (try ((first | ((with_reducible rename Held _ => hKQ); refine Held.out hKQ _ _ ?_; clear hKQ; (try dsimp only)) | ((with_reducible rename (∀ f s, KswPost _ _ _ _ _ _ _ _ _ _ _ _ f s → _) => hKQ); refine hKQ _ _ ?_; clear hKQ)); k_steps)))
    unfold Halt
    refine item_base F4 hwa (Nat.lt_trans hi6 (by decide)) (rv_get ha) ?_
    (k_steps; all_goals (try ((first | ((with_reducible rename Held _ => hKQ); refine Held.out hKQ _ _ ?_; clear hKQ; (try dsimp only)) | ((with_reducible rename (∀ f s, KswPost _ _ _ _ _ _ _ _ _ _ _ _ f s → _) => hKQ); refine hKQ _ _ ?_; clear hKQ)); k_steps)); all_goals (try ((first | ((with_reducible rename Held _ => hKQ); refine Held.out hKQ _ _ ?_; clear hKQ; (try dsimp only)) | ((with_reducible rename (∀ f s, KswPost _ _ _ _ _ _ _ _ _ _ _ _ f s → _) => hKQ); refine hKQ _ _ ?_; clear hKQ)); k_steps)))
    unfold Halt
    (rename Fr _ _ _ _ => F5)
    (rename News _ _ _ _ => N5)
    rename_i A5 _ lt5
    have hnA : ∀ p ∈ its, p.1 ≠ A5 := fun p hp => Nat.ne_of_lt (allLt_mem lt5.2.2.2.2.2.2.2.2.2.2 p hp)
    refine CompEnd.grow (news := [(De, listOf ve.toArray ke), (dc, oD), (L' + 1 + 1 + 1 + 1, oU), (L' + 1 + 1 + 1, oT), (L' + 1 + 1, oC2), (L' + 1, oW), (Lf, oL)] ++ its) F5 N5 (Nat.ne_of_gt lt5.1) (Nat.ne_of_gt lt5.2.1) (Nat.ne_of_gt lt5.2.2.1) off₂ (SrcAt.led (n := ke) (.head _)) ⟨hs ++ [A5], its ++ [(A5, listOf #[Value.str x t0, Value.int (xn : Int) t'] 0)], List.append_assoc _ _ _, ?_, by rw [List.length_append, e3]; rfl, HeapIts.snoc hI hnA (by rw [e3]; exact hl) (by rw [e3]; exact ⟨_, _, _, rfl⟩), fun p hp => ?_⟩
    · simp [rv]
    · rcases List.mem_append.mp hp with hp | hp
      · exact hDe p hp
      · rw [List.mem_singleton.mp hp]
        exact lt5.2.2.2.1
  · refine ex2a5 hinv fun hs its e1 e2 e3 hI hDe => ?_
    clear hinv
    subst e1 e2
    subst hN0
    intro D h5 tk5 F4 N4 o4
    have oits : ∀ p ∈ its, p.1 ≠ D := fun p hp => off1_mem o4 p (List.mem_append_right _ hp)
    simp only [List.cons_append, List.nil_append] at N4 o4
    have iT : ∀ p ∈ its, p.1 ≠ L' + 1 + 1 + 1 := fun p hp => Nat.ne_of_gt (Nat.lt_trans l4.2.2.1 (hDe p hp))
    have iU : ∀ p ∈ its, p.1 ≠ L' + 1 + 1 + 1 + 1 := fun p hp => Nat.ne_of_gt (Nat.lt_trans l4.2.1 (hDe p hp))
    have iC : ∀ p ∈ its, p.1 ≠ dc := fun p hp => Nat.ne_of_gt (Nat.lt_trans l4.1 (hDe p hp))
    have iF : ∀ p ∈ its, p.1 ≠ Lf := fun p hp => Nat.ne_of_gt (Nat.lt_trans l4.2.2.2.2.2 (hDe p hp))
    clear F3 N3
    have h6 : hs.length = 6 := by rw [e3, List.size_toArray, hel]
    refine ex2a4 (hI.keys h6) fun A κ eqc hlt hκ hits => ?_
    subst eqc
    replace N4 : News g L' h5 ((D, listOf (rv ((List.finRange 6).map A)).toArray 6) :: (De, listOf ve.toArray ke) :: (dc, oD) :: (L' + 1 + 1 + 1 + 1, oU) :: (L' + 1 + 1 + 1, oT) :: (L' + 1 + 1, oC2) :: (L' + 1, oW) :: (Lf, oL) :: its) := N4
    clear hI e3 h6
    k_steps
    unfold Halt
    have N5 := News.sub (news' := [(D, listOf (rv ((List.finRange 6).map A)).toArray 6)]) N4 (fun p hp => by cases List.mem_singleton.mp hp; exact .head _)
    refine heapify_spec (κ := κ) (hs := (List.finRange 6).map A) (n := 6) (St.pushHide X T F4 N5) (show dp + 1 + 3 < recursionLimit from ltcB (by assumption) rfl) (show un + 3 + 30 < cLine from ltcB (by assumption) rfl) (fun q hq => (N5 q hq).1) (fun a ha => ?_) (by simp) fun h6 tk6 hkeep hb' => ?_
    · obtain ⟨i, _, rfl⟩ := List.mem_map.mp ha
      obtain ⟨t, u, n, hi⟩ := hits i
      rw [hκ]
      refine ⟨t, u, n, hideAll_get _ (N4 _ (List.mem_append_right [_, _, _, _, _, _, _, _] hi)).1 fun q => ?_⟩
      exact oits _ hi (List.mem_singleton.mp q)
    have F6 := Fr.afterHide F4 N5 hkeep
    have N6 := News.afterHide (News.sub (news' := (De, listOf ve.toArray ke) :: (dc, oD) :: (L' + 1 + 1 + 1 + 1, oU) :: (L' + 1 + 1 + 1, oT) :: (L' + 1 + 1, oC2) :: (L' + 1, oW) :: (Lf, oL) :: its) N4 fun p hp => .tail _ hp) (fun p hp q hq => by cases List.mem_singleton.mp hq; exact off1_mem o4 p hp) hkeep
    replace N6 : News g L' h6 ((D, listOf (rv ((heapifyF (lw6 W) (List.finRange 6)).map A)).toArray 6) :: (De, listOf ve.toArray ke) :: (dc, oD) :: (L' + 1 + 1 + 1 + 1, oU) :: (L' + 1 + 1 + 1, oT) :: (L' + 1 + 1, oC2) :: (L' + 1, oW) :: (Lf, oL) :: its) := by
      intro p hp
      rcases List.mem_cons.mp hp with rfl | hp
      · rw [heapifyF_map A hlt] at hb'
        exact ⟨hb', (N4 _ (.head _)).2⟩
      · exact N6 p hp
    clear F4 N4 N5 hkeep hb'
    dsimp only
    k_steps
    unfold Halt
    (rename Fr _ _ _ _ => F7)
    (rename News _ _ _ _ => N7)
    refine ksw_while (σ := List (Fin 6) × Nat × List (Nat × Nat) × List (Int × Value) × Obj × Obj × Obj × Array (Option Value))
      (fun c => (D, listOf (rv (c.1.map A)).toArray c.2.1) :: (De, listOf ve.toArray ke) :: (dc, c.2.2.2.2.1) :: (L' + 1 + 1 + 1 + 1, c.2.2.2.2.2.1) :: (L' + 1 + 1 + 1, c.2.2.2.2.2.2.1) :: (L' + 1 + 1, oC2) :: (L' + 1, oW) :: (Lf, { oL with slots := c.2.2.2.2.2.2.2 }) :: its)
      (fun c => []) (fun c => True) [Str.ofString "place", Str.ofString "free", Str.ofString "strange"]
      (fun c => c.1.length + c.2.2.1.length = 6 ∧ paint W ((popAll (lw6 W) c.1.length c.1).map Fin.val) c.2.2.1 = some cs ∧ KvsAre c.2.2.2.1 c.2.2.1 ∧ c.2.2.1.Pairwise (fun a b => a.1 ≠ b.1) ∧ (∀ q ∈ c.2.2.1, q.1 < 6) ∧ Obj.IsDictOf (intKind PySem.Challenge.rw_pd0148_01.row.prog w) c.2.2.2.2.1 c.2.2.2.1 ∧ (∃ x, c.2.2.2.2.2.1.data = .cell x) ∧ (∃ x, c.2.2.2.2.2.2.1.data = .cell x)) (fun c => c.1.length)
      (heapifyF (lw6 W) (List.finRange 6), 6, [], [], oD, oU, oT, oL.slots) F7 N7 trivial (by simp) ⟨by rw [heapifyF_len]; simp, ?_, KvsAre.nil, .nil, (fun _ h => nomatch h), hiD, ⟨_, dU⟩, ⟨_, dT⟩⟩ ?_
    · dsimp only
      rw [heapifyF_len, List.length_finRange]
      exact hcs
    have o4' : ∀ (od oU3 oT3 : Obj) (sl : Array (Option Value)), LCg.Off1 D ((De, listOf ve.toArray ke) :: (dc, od) :: (L' + 1 + 1 + 1 + 1, oU3) :: (L' + 1 + 1 + 1, oT3) :: (L' + 1 + 1, oC2) :: (L' + 1, oW) :: (Lf, { oL with slots := sl }) :: its) := fun _ _ _ _ => o4
    have dlt : @Ne Nat De D ∧ @Ne Nat dc D ∧ @Ne Nat (L' + 1 + 1 + 1 + 1) D ∧ @Ne Nat (L' + 1 + 1 + 1) D ∧ @Ne Nat (L' + 1 + 1) D ∧ @Ne Nat (L' + 1) D ∧ @Ne Nat Lf D := ⟨o4.1, o4.2.1, o4.2.2.1, o4.2.2.2.1, o4.2.2.2.2.1, o4.2.2.2.2.2.1, o4.2.2.2.2.2.2.1⟩
    have dl1 := Ne.symm dlt.1
    have dl2 := Ne.symm dlt.2.1
    have dl3 := Ne.symm dlt.2.2.1
    have dl4 := Ne.symm dlt.2.2.2.1
    clear F7 N7 hsD fsD hiD fiD dU dT o4
    refine tp8 fun c n cc kvs od oU3 oT3 sl => ?_
    rintro u h7 tk7 _ hcc F8 N8
    refine an8 hcc fun hlen hp hkv hpw hk6 hod hxU hxT => ?_
    clear hcc
    refine Exists.elim hxU fun xU dU => ?_
    refine Exists.elim hxT fun xT dT => ?_
    clear hxU hxT
    dsimp only at *
    have hc6 : c.length ≤ 6 := Nat.le_trans (Nat.le_add_right _ _) (Nat.le_of_eq hlen)
    have hc62 : c.length < 2 ^ 62 := Nat.lt_of_le_of_lt hc6 (by decide)
    have hcc16 : cc.length ≤ 16777216 := Nat.le_trans (Nat.le_trans (Nat.le_add_left _ _) (Nat.le_of_eq hlen)) (by decide)
    (k_steps; all_goals (try ((first | ((with_reducible rename Held _ => hKQ); refine Held.out hKQ _ _ ?_; clear hKQ; (try dsimp only)) | ((with_reducible rename (∀ f s, KswPost _ _ _ _ _ _ _ _ _ _ _ _ f s → _) => hKQ); refine hKQ _ _ ?_; clear hKQ)); k_steps)); all_goals (try ((first | ((with_reducible rename Held _ => hKQ); refine Held.out hKQ _ _ ?_; clear hKQ; (try dsimp only)) | ((with_reducible rename (∀ f s, KswPost _ _ _ _ _ _ _ _ _ _ _ _ f s → _) => hKQ); refine hKQ _ _ ?_; clear hKQ)); k_steps)))
    · rename_i hce
      have hc0 : c = [] := by
        cases c with
        | nil => rfl
        | cons => cases hce
      subst hc0
      obtain rfl : cc = cs := Option.some.inj hp
      unfold Halt
      (rename Fr _ _ _ _ => F9)
      (rename News _ _ _ _ => N9)
      refine' ListComp_W (F₀ := F9) ?a2 ?a3 ?a4 ?a5 ?a6 ?_
      (case a2 => with_unfolding_all rfl)
      (case a3 => decide)
      (case a4 => rfl)
      (case a5 => decide)
      (case a6 => rfl)
      (k_steps; all_goals (try ((first | ((with_reducible rename Held _ => hKQ); refine Held.out hKQ _ _ ?_; clear hKQ; (try dsimp only)) | ((with_reducible rename (∀ f s, KswPost _ _ _ _ _ _ _ _ _ _ _ _ f s → _) => hKQ); refine hKQ _ _ ?_; clear hKQ)); k_steps)); all_goals (try ((first | ((with_reducible rename Held _ => hKQ); refine Held.out hKQ _ _ ?_; clear hKQ; (try dsimp only)) | ((with_reducible rename (∀ f s, KswPost _ _ _ _ _ _ _ _ _ _ _ _ f s → _) => hKQ); refine hKQ _ _ ?_; clear hKQ)); k_steps)))
      refine SrcW.of (Drawn.led (vs := ve) rfl F9 N9 (by k_mem)) ?hsz fun gx => ?_
      (case hsz => rw [List.size_toArray, sizeLine_eq, hel]; decide)
      refine comp_invK (fun i ys => IntsAre ys (zs ((List.range i).map fun k => (colOf cc k).getD 0))) (fun i ys hi hys v I₂ oI₂ C₂ oC₂ A₂ m₂ g₂ k₂ E₂ hv₂ hC₂ hx₂ F4 N4 off₂ ne₂ => ?_) (fun ys hys => ?_) .nil
      · refine genH fun Q₂ hQ₂ => ?_
        refine ex2a2 (zs_item he hv₂) fun xn t' eqd hx => ?_
        subst eqd
        (try clear F8)
        (try clear N8)
        clear F9 N9
        have hi6 : i < 6 := by rw [List.size_toArray, hel] at hi; exact hi
        obtain rfl : xn = i := by
          rw [List.getElem?_range hi6] at hx
          exact (Option.some.inj hx).symm
        refine Exists.elim (Option.isSome_iff_exists.mp (hfull xn hi6)) fun v hv => ?_
        refine Exists.elim (hkv.value hv) fun t2 hval => ?_
        (k_steps; all_goals (try ((first | ((with_reducible rename Held _ => hKQ); refine Held.out hKQ _ _ ?_; clear hKQ; (try dsimp only)) | ((with_reducible rename (∀ f s, KswPost _ _ _ _ _ _ _ _ _ _ _ _ f s → _) => hKQ); refine hKQ _ _ ?_; clear hKQ)); k_steps)); all_goals (try ((first | ((with_reducible rename Held _ => hKQ); refine Held.out hKQ _ _ ?_; clear hKQ; (try dsimp only)) | ((with_reducible rename (∀ f s, KswPost _ _ _ _ _ _ _ _ _ _ _ _ f s → _) => hKQ); refine hKQ _ _ ?_; clear hKQ)); k_steps)))
        unfold Halt
        refine kda_item N4 (show (dc, od) ∈ _ by k_mem) hod (by simp [intKind, Value.isInt]) hval ?_
        (k_steps; all_goals (try ((first | ((with_reducible rename Held _ => hKQ); refine Held.out hKQ _ _ ?_; clear hKQ; (try dsimp only)) | ((with_reducible rename (∀ f s, KswPost _ _ _ _ _ _ _ _ _ _ _ _ f s → _) => hKQ); refine hKQ _ _ ?_; clear hKQ)); k_steps)); all_goals (try ((first | ((with_reducible rename Held _ => hKQ); refine Held.out hKQ _ _ ?_; clear hKQ; (try dsimp only)) | ((with_reducible rename (∀ f s, KswPost _ _ _ _ _ _ _ _ _ _ _ _ f s → _) => hKQ); refine hKQ _ _ ?_; clear hKQ)); k_steps)))
        unfold Halt
        refine CompEnd.same F4 N4 off₂ (SrcAt.led (n := ke) (by k_mem)) ⟨rfl, ?_⟩
        rw [List.range_succ, List.map_append, zs_append]
        refine hys.append ?_
        rw [List.map_singleton, hv]
        exact .cons _ _ .nil
      · intro E3 h12 tk12 F12 N12 o12
        have hm12 := N12 _ (.head _)
        (try k_steps)
        (try dsimp only)
        (try k_unfold)
        refine h _ _ _ _ _ _ F12.keep (N12 (Lf, { oL with slots := sl }) (by k_mem)).1 (fun q => ?_) hm12.2.2 hm12.1 ?_
        · exact off1_mem o12 (Lf, { oL with slots := sl }) (by k_mem) q.symm
        · rw [List.size_toArray, hel] at hys
          exact hys
    rename_i hce _ _
    have hcn : c ≠ [] := by rintro rfl; cases hce
    clear hce
    unfold Halt
    refine ex2a4 (heappopF_some (lt := lw6 W) hcn) fun q r hpop hq hr hrl => ?_
    (rename Fr _ _ _ _ => F9)
    (rename News _ _ _ _ => N9)
    have N10 := News.sub (news' := [(D, listOf (rv (c.map A)).toArray n)]) N9 (fun p hp => by cases List.mem_singleton.mp hp; exact .head _)
    refine heappop_spec (κ := κ) (hs := c.map A) (n := n) (x := A q) (r := r.map A) (St.pushHide X T F9 N10) (show dp + 1 + 3 < recursionLimit from ltcB (by assumption) rfl) (show un + 3 + 30 < cLine from ltcB (by assumption) rfl) (fun q hq => (N10 q hq).1) (fun a ha => ?_) (by rw [List.length_map]; exact Nat.le_trans hc6 (by decide)) (by rw [heappopF_map A hlt, hpop]; rfl) fun h11 tk11 hkeep hb' => ?_
    · obtain ⟨i, _, rfl⟩ := List.mem_map.mp ha
      obtain ⟨t, u, n, hi⟩ := hits i
      rw [hκ]
      refine ⟨t, u, n, hideAll_get _ (N9 _ (List.mem_append_right [_, _, _, _, _, _, _, _] hi)).1 fun q => ?_⟩
      exact oits _ hi (List.mem_singleton.mp q)
    have F11 := Fr.afterHide F9 N10 hkeep
    refine ex3a1 (hits q) fun tq uq nq hiq => ?_
    have N11 := News.afterHide (News.sub (news' := (A q, ({ cls := .type "list", data := .seq #[.str (topOf W q.val) tq, .int ((q.val : Nat) : Int) uq] nq } : Obj)) :: (De, listOf ve.toArray ke) :: (dc, od) :: (L' + 1 + 1 + 1 + 1, oU3) :: (L' + 1 + 1 + 1, oT3) :: (L' + 1 + 1, oC2) :: (L' + 1, oW) :: (Lf, { oL with slots := sl }) :: its) N9 fun p hp => by
      rcases List.mem_cons.mp hp with rfl | hp
      · exact List.mem_append_right [_, _, _, _, _, _, _, _] hiq
      · exact .tail _ hp) (fun p hp q' hq' => by
        cases List.mem_singleton.mp hq'
        rcases List.mem_cons.mp hp with rfl | hp
        · exact oits _ hiq
        · exact off1_mem (o4' od oU3 oT3 sl) p hp) hkeep
    replace N11 := News.addOf' F11 N11 (N9 _ (.head _)).2 hb'
    have qD : @Ne Nat (A q) D := oits _ hiq
    have qT : @Ne Nat (A q) (L' + 1 + 1 + 1) := iT _ hiq
    have qU : @Ne Nat (A q) (L' + 1 + 1 + 1 + 1) := iU _ hiq
    have qC : @Ne Nat (A q) dc := iC _ hiq
    have qF : @Ne Nat (A q) Lf := iF _ hiq
    clear F9 N9 N10 hkeep hb' hlt hκ
    dsimp only
    (k_steps; all_goals (try ((first | ((with_reducible rename Held _ => hKQ); refine Held.out hKQ _ _ ?_; clear hKQ; (try dsimp only)) | ((with_reducible rename (∀ f s, KswPost _ _ _ _ _ _ _ _ _ _ _ _ f s → _) => hKQ); refine hKQ _ _ ?_; clear hKQ)); k_steps)); all_goals (try ((first | ((with_reducible rename Held _ => hKQ); refine Held.out hKQ _ _ ?_; clear hKQ; (try dsimp only)) | ((with_reducible rename (∀ f s, KswPost _ _ _ _ _ _ _ _ _ _ _ _ f s → _) => hKQ); refine hKQ _ _ ?_; clear hKQ)); k_steps)))
    unfold Halt
    (try clear F11)
    (try clear N11)
    (rename Fr _ _ _ _ => F13)
    (rename News _ _ _ _ => N13)
    rename_i h12 oT4 dT4 h13
    refine' ListComp_WT (F₀ := F13) ?a2 ?a3 ?a4 ?a5 ?a6 ?_
    (case a2 => with_unfolding_all rfl)
    (case a3 => decide)
    (case a4 => rfl)
    (case a5 => decide)
    (case a6 => rfl)
    (k_steps; all_goals (try ((first | ((with_reducible rename Held _ => hKQ); refine Held.out hKQ _ _ ?_; clear hKQ; (try dsimp only)) | ((with_reducible rename (∀ f s, KswPost _ _ _ _ _ _ _ _ _ _ _ _ f s → _) => hKQ); refine hKQ _ _ ?_; clear hKQ)); k_steps)); all_goals (try ((first | ((with_reducible rename Held _ => hKQ); refine Held.out hKQ _ _ ?_; clear hKQ; (try dsimp only)) | ((with_reducible rename (∀ f s, KswPost _ _ _ _ _ _ _ _ _ _ _ _ f s → _) => hKQ); refine hKQ _ _ ?_; clear hKQ)); k_steps)))
    refine SrcWT.of (Drawn.dict (knd := intKind PySem.Challenge.rw_pd0148_01.row.prog w) (kvs := kvs) rfl F13 N13 ldc (by k_mem) hod) ?hsz fun gx => ?_
    (case hsz => rw [hkv.1, sizeLine_eq]; exact hcc16)
    refine compT_invK (fun i ys => IntsAre ys (zs (usedF W (topOf W q.val) (cc.take i)))) (fun i ys hi hys v I₂ oI₂ C₂ oC₂ A₂ m₂ g₂ k₂ E₂ hv₂ hC₂ hx₂ F4 N4 off₂ ne₂ => ?_) (fun ys hys => ?_) .nil
    · refine genH fun Q₂ hQ₂ => ?_
      refine ex2a2 (hkv.key hi hv₂) fun p t' hx eqe => ?_
      subst eqe
      (try clear F8)
      (try clear N8)
      clear F13 N13
      have hp6 := hk6 p (List.mem_of_getElem? hx)
      refine Exists.elim (show ∃ l, W[p.1]? = some l from ⟨_, List.getElem?_eq_getElem (Nat.lt_of_lt_of_eq hp6 hW.symm)⟩) fun l hl => ?_
      refine Exists.elim (show ∃ a, wrefs[p.1]? = some a from ⟨_, List.getElem?_eq_getElem (Nat.lt_of_lt_of_eq hp6 (hwW.1.trans hW).symm)⟩) fun a ha => ?_
      refine ex1a2 (hwW.2 p.1 a _ ha hl) fun vs hvs hst => ?_
      (k_steps; all_goals (try ((first | ((with_reducible rename Held _ => hKQ); refine Held.out hKQ _ _ ?_; clear hKQ; (try dsimp only)) | ((with_reducible rename (∀ f s, KswPost _ _ _ _ _ _ _ _ _ _ _ _ f s → _) => hKQ); refine hKQ _ _ ?_; clear hKQ)); k_steps)); all_goals (try ((first | ((with_reducible rename Held _ => hKQ); refine Held.out hKQ _ _ ?_; clear hKQ; (try dsimp only)) | ((with_reducible rename (∀ f s, KswPost _ _ _ _ _ _ _ _ _ _ _ _ f s → _) => hKQ); refine hKQ _ _ ?_; clear hKQ)); k_steps)))
      unfold Halt
      refine item_base F4 hwa (Nat.lt_trans hp6 (by decide)) (rv_get ha) ?_
      (k_steps; all_goals (try ((first | ((with_reducible rename Held _ => hKQ); refine Held.out hKQ _ _ ?_; clear hKQ; (try dsimp only)) | ((with_reducible rename (∀ f s, KswPost _ _ _ _ _ _ _ _ _ _ _ _ f s → _) => hKQ); refine hKQ _ _ ?_; clear hKQ)); k_steps)); all_goals (try ((first | ((with_reducible rename Held _ => hKQ); refine Held.out hKQ _ _ ?_; clear hKQ; (try dsimp only)) | ((with_reducible rename (∀ f s, KswPost _ _ _ _ _ _ _ _ _ _ _ _ f s → _) => hKQ); refine hKQ _ _ ?_; clear hKQ)); k_steps)))
      unfold Halt
      refine in_list_strs (hvs.at fun o e => F4.keep _ o e) hst ?_
      have hun := usedF_step W (topOf W q.val) hx
      have hW2 : W.getD p.1 [] = l := by rw [List.getD_eq_getElem?_getD, hl]; rfl
      have hin : (l.any fun y => y == topOf W q.val) = l.contains (topOf W q.val) := by
        rw [List.contains_eq_any_beq]
        congr 1
        funext y
        exact Bool.beq_comm ..
      rw [hW2] at hun
      rw [hin]
      generalize hb : l.contains (topOf W q.val) = b at *
      cases b
      · (k_steps; all_goals (try ((first | ((with_reducible rename Held _ => hKQ); refine Held.out hKQ _ _ ?_; clear hKQ; (try dsimp only)) | ((with_reducible rename (∀ f s, KswPost _ _ _ _ _ _ _ _ _ _ _ _ f s → _) => hKQ); refine hKQ _ _ ?_; clear hKQ)); k_steps)); all_goals (try ((first | ((with_reducible rename Held _ => hKQ); refine Held.out hKQ _ _ ?_; clear hKQ; (try dsimp only)) | ((with_reducible rename (∀ f s, KswPost _ _ _ _ _ _ _ _ _ _ _ _ f s → _) => hKQ); refine hKQ _ _ ?_; clear hKQ)); k_steps)))
        unfold Halt
        refine CompEnd.same F4 N4 off₂ (show (dc, od) ∈ _ by k_mem) ⟨rfl, ?_⟩
        rw [hun, if_neg Bool.false_ne_true, List.append_nil]
        exact hys
      · refine Exists.elim (hkv.value (colOf_at hpw hx)) fun t2 hval => ?_
        (k_steps; all_goals (try ((first | ((with_reducible rename Held _ => hKQ); refine Held.out hKQ _ _ ?_; clear hKQ; (try dsimp only)) | ((with_reducible rename (∀ f s, KswPost _ _ _ _ _ _ _ _ _ _ _ _ f s → _) => hKQ); refine hKQ _ _ ?_; clear hKQ)); k_steps)); all_goals (try ((first | ((with_reducible rename Held _ => hKQ); refine Held.out hKQ _ _ ?_; clear hKQ; (try dsimp only)) | ((with_reducible rename (∀ f s, KswPost _ _ _ _ _ _ _ _ _ _ _ _ f s → _) => hKQ); refine hKQ _ _ ?_; clear hKQ)); k_steps)))
        unfold Halt
        refine kda_item N4 (show (dc, od) ∈ _ by k_mem) hod (by simp [intKind, Value.isInt]) hval ?_
        (k_steps; all_goals (try ((first | ((with_reducible rename Held _ => hKQ); refine Held.out hKQ _ _ ?_; clear hKQ; (try dsimp only)) | ((with_reducible rename (∀ f s, KswPost _ _ _ _ _ _ _ _ _ _ _ _ f s → _) => hKQ); refine hKQ _ _ ?_; clear hKQ)); k_steps)); all_goals (try ((first | ((with_reducible rename Held _ => hKQ); refine Held.out hKQ _ _ ?_; clear hKQ; (try dsimp only)) | ((with_reducible rename (∀ f s, KswPost _ _ _ _ _ _ _ _ _ _ _ _ f s → _) => hKQ); refine hKQ _ _ ?_; clear hKQ)); k_steps)))
        unfold Halt
        refine CompEnd.same F4 N4 off₂ (show (dc, od) ∈ _ by k_mem) ⟨rfl, ?_⟩
        rw [hun, if_pos rfl, zs_append]
        exact hys.append (.cons _ _ .nil)
    · rw [hkv.1, List.take_length] at hys
      clear F13 N13
      (k_steps; all_goals (try ((first | ((with_reducible rename Held _ => hKQ); refine Held.out hKQ _ _ ?_; clear hKQ; (try dsimp only)) | ((with_reducible rename (∀ f s, KswPost _ _ _ _ _ _ _ _ _ _ _ _ f s → _) => hKQ); refine hKQ _ _ ?_; clear hKQ)); k_steps)); all_goals (try ((first | ((with_reducible rename Held _ => hKQ); refine Held.out hKQ _ _ ?_; clear hKQ; (try dsimp only)) | ((with_reducible rename (∀ f s, KswPost _ _ _ _ _ _ _ _ _ _ _ _ f s → _) => hKQ); refine hKQ _ _ ?_; clear hKQ)); k_steps)))
      unfold Halt
      (rename Fr _ _ _ _ => F14)
      (rename News _ _ _ _ => N14)
      have hps := paint_step (p := q.val) (r := (popAll (lw6 W) r.length r).map Fin.val) (by
        rw [← hrl] at hp
        unfold popAll at hp
        rw [hpop] at hp
        exact hp)
      refine an2 hps fun hps1 hp' => ?_
      refine an4 hps1 fun hnd hl5 hl4 hcq => ?_
      clear hps hps1
      generalize hus : usedF W (topOf W q.val) cc = us at *
      have hys5 := hys.length
      rw [zs_len] at hys5
      refine kso_sorted F14 N14 ⟨_, (N14 _ (.head _)).1, rfl, _, rfl⟩ hys (by rw [zs_len]; exact Nat.lt_of_le_of_lt hl5 (by decide)) fun Ds vu nu ku h15 F15 N15 l15 hiu elu hpu hsu hzz => ?_
      clear F14 N14 hzz
      k_lt l15
      have l15U := l15.2.2.2.2.2.1
      have l15d := l15.2.2.2.2.1
      (rename (_ ≠ _ ∧ _ ≠ _ ∧ _ ≠ _ ∧ _ ≠ _ ∧ _ ≠ _ ∧ _) => cD)
      have cD5 := cD.2.2.2.2.1
      (k_steps; all_goals (try ((first | ((with_reducible rename Held _ => hKQ); refine Held.out hKQ _ _ ?_; clear hKQ; (try dsimp only)) | ((with_reducible rename (∀ f s, KswPost _ _ _ _ _ _ _ _ _ _ _ _ f s → _) => hKQ); refine hKQ _ _ ?_; clear hKQ)); k_steps)); all_goals (try ((first | ((with_reducible rename Held _ => hKQ); refine Held.out hKQ _ _ ?_; clear hKQ; (try dsimp only)) | ((with_reducible rename (∀ f s, KswPost _ _ _ _ _ _ _ _ _ _ _ _ f s → _) => hKQ); refine hKQ _ _ ?_; clear hKQ)); k_steps)))
      unfold Halt
      (rename Fr _ _ _ _ => F16)
      (rename News _ _ _ _ => N16)
      rename_i h16 oU4 dU4
      have hfg : g.get? Lf = none := (N16 (Lf, { oL with slots := sl }) (by k_mem)).2.2
      have hfl : ∀ {X o}, (X, o) ∈ [(Ds, listOf vu.toArray ku), (D, listOf (rv (r.map A)).toArray (n + 1)), (A q, ({ cls := .type "list", data := .seq #[.str (topOf W q.val) tq, .int ((q.val : Nat) : Int) uq] nq } : Obj)), (De, listOf ve.toArray ke), (dc, od), (L' + 1 + 1 + 1 + 1, oU4), (L' + 1 + 1 + 1, oT4), (L' + 1 + 1, oC2), (L' + 1, oW)] ++ its → X ≠ Lf := by
        intro X o hm
        refine (List.forall_mem_append (p := fun p : Addr × Obj => p.1 ≠ Lf)).mpr ⟨?_, iF⟩ (X, o) hm
        refine List.forall_mem_cons.mpr ⟨Nat.ne_of_gt l15.2.2.2.2.2.2.2.2.2.1, ?_⟩
        refine List.forall_mem_cons.mpr ⟨Ne.symm dlt.2.2.2.2.2.2, ?_⟩
        refine List.forall_mem_cons.mpr ⟨qF, ?_⟩
        refine List.forall_mem_cons.mpr ⟨Nat.ne_of_gt l4.2.2.2.2.2, ?_⟩
        refine List.forall_mem_cons.mpr ⟨Nat.ne_of_gt ldcF, ?_⟩
        refine List.forall_mem_cons.mpr ⟨lq4 hLf, ?_⟩
        refine List.forall_mem_cons.mpr ⟨lq3 hLf, ?_⟩
        refine List.forall_mem_cons.mpr ⟨lq2 hLf, ?_⟩
        refine List.forall_mem_cons.mpr ⟨lq1 hLf, ?_⟩
        exact fun _ h => nomatch h
      refine ex3a4 (id F16.ns) fun oM esM epM heM hdM hkM hnM => ?_
      refine sld_spec (ea := De) (aa := Ds) (ev := ve) (av := vu) (us := nu) (env2 := envL) (L1 := L') (L2 := Lf) (o1 := oM) (o2 := { oL with slots := sl }) (St.hide2 X T F16 hfg) (show dp + 1 + 3 < recursionLimit from ltcB (by assumption) rfl) (show un + 3 + 30 < cLine from ltcB (by assumption) rfl) ⟨?e1, ?e2, ⟨esM, epM, hdM⟩, Fs.1, Fs.2.1, Fs.2.2.1, trivial⟩ ?hm ⟨_, hideAll_get _ (N16 (De, listOf ve.toArray ke) (by k_mem)).1 ?n1, rfl, _, rfl⟩ ?hev ⟨_, hideAll_get _ (N16 (Ds, listOf vu.toArray ku) (by k_mem)).1 ?n2, rfl, _, rfl⟩ hiu ?l5 ?st ?h04 fun Dt h17 tk17 hk17 R17 => ?_
      case e1 => exact fun e => nomatch e
      case e2 => rfl
      case hm =>
        intro p hp
        simp only [List.mem_cons, List.not_mem_nil, or_false] at hp
        rcases hp with rfl | rfl
        · exact heM
        · exact (N16 (Lf, { oL with slots := sl }) (by k_mem)).1
      case n1 =>
        intro e
        simp only [List.map, List.mem_cons, List.not_mem_nil, or_false] at e
        rcases e with e | e
        · exact (N16 (De, listOf ve.toArray ke) (by k_mem)).2.1 e
        · exact hfl (X := De) (o := listOf ve.toArray ke) (by simp) e
      case n2 =>
        intro e
        simp only [List.map, List.mem_cons, List.not_mem_nil, or_false] at e
        rcases e with e | e
        · exact (N16 (Ds, listOf vu.toArray ku) (by k_mem)).2.1 e
        · exact hfl (X := Ds) (o := listOf vu.toArray ku) (by simp) e
      case hev => exact he
      case l5 => rw [elu, zs_len]; exact hl5
      case st => exact strict_of hsu (hpu.nodup_iff.mpr (zs_nodup hnd))
      case h04 =>
        intro x hx
        obtain ⟨u, hu, rfl⟩ := zs_mem (hpu.mem_iff.mp hx)
        exact ⟨nn, Int.ofNat_le.mpr (hl4 u hu)⟩
      obtain ⟨R17a, r1, R17b⟩ := R17
      refine ex5a7 R17a fun mis unx ws n1 n2 eDt eMis hws eUnx fD3 fM3 fU3 => ?_
      refine Exists.elim R17b fun sl2 r2 => ?_
      have fDt := fD3.1
      have a1 := fD3.2.1
      have fMis := fM3.1
      have a3 := fM3.2.1
      have fUnx := fU3.1
      have a5 := fU3.2.1
      clear R17a R17b fD3 fM3 fU3
      rw [dif_free hpu] at hws
      have F17 := Fr.back2 F16 hfg heM hk17 r1
      have N16' := News.sub (news' := [(Ds, listOf vu.toArray ku), (D, listOf (rv (r.map A)).toArray (n + 1)), (A q, ({ cls := .type "list", data := .seq #[.str (topOf W q.val) tq, .int ((q.val : Nat) : Int) uq] nq } : Obj)), (De, listOf ve.toArray ke), (dc, od), (L' + 1 + 1 + 1 + 1, oU4), (L' + 1 + 1 + 1, oT4), (L' + 1 + 1, oC2), (L' + 1, oW)] ++ its) N16 (by walk_at "SUBS")
      have N17 := News.back2 N16' (fun p hp => hfl hp) hk17
      have yDt : @Ne Nat Dt dc := (News.ne2 N16' (fun p hp => hfl hp) fDt (dc, od) (by simp))
      have yMis : @Ne Nat mis dc := (News.ne2 N16' (fun p hp => hfl hp) fMis (dc, od) (by simp))
      have yUnx : @Ne Nat unx dc := (News.ne2 N16' (fun p hp => hfl hp) fUnx (dc, od) (by simp))
      have N18 := News.add2 F16 hfg (News.add2 F16 hfg (News.add2 F16 hfg (News.addOf' F17 N17 ⟨(N16 (Lf, { oL with slots := sl }) (by k_mem)).2.1, hfg⟩ r2) fUnx a5 eUnx) fMis a3 eMis) fDt a1 eDt
      replace N18 : News g L' h17 ((Dt, { cls := .type "tuple", data := .seq #[.ref mis, .ref unx] }) :: (mis, listOf ws.toArray n1) :: (unx, listOf #[] n2) :: (Ds, listOf vu.toArray ku) :: (D, listOf (rv (r.map A)).toArray (n + 1)) :: (De, listOf ve.toArray ke) :: (dc, od) :: (L' + 1 + 1 + 1 + 1, oU4) :: (L' + 1 + 1 + 1, oT4) :: (L' + 1 + 1, oC2) :: (L' + 1, oW) :: (Lf, { oL with slots := sl2 }) :: its) := by
        exact News.sub N18 (by walk_at "SUBS")
      clear hfl N16 N16' N17 F16 hk17 fDt fMis fUnx r1 r2 eDt eMis eUnx a1 a3 a5 heM hdM hkM hnM hnd hsu
      dsimp only
      (k_steps; all_goals (try ((first | ((with_reducible rename Held _ => hKQ); refine Held.out hKQ _ _ ?_; clear hKQ; (try dsimp only)) | ((with_reducible rename (∀ f s, KswPost _ _ _ _ _ _ _ _ _ _ _ _ f s → _) => hKQ); refine hKQ _ _ ?_; clear hKQ)); k_steps)); all_goals (try ((first | ((with_reducible rename Held _ => hKQ); refine Held.out hKQ _ _ ?_; clear hKQ; (try dsimp only)) | ((with_reducible rename (∀ f s, KswPost _ _ _ _ _ _ _ _ _ _ _ _ f s → _) => hKQ); refine hKQ _ _ ?_; clear hKQ)); k_steps)))
      unfold Halt
      (rename Fr _ _ _ _ => F19)
      (rename News _ _ _ _ => N19)
      refine' ListComp_WT (F₀ := F19) ?a2 ?a3 ?a4 ?a5 ?a6 ?_
      (case a2 => with_unfolding_all rfl)
      (case a3 => decide)
      (case a4 => rfl)
      (case a5 => decide)
      (case a6 => rfl)
      (k_steps; all_goals (try ((first | ((with_reducible rename Held _ => hKQ); refine Held.out hKQ _ _ ?_; clear hKQ; (try dsimp only)) | ((with_reducible rename (∀ f s, KswPost _ _ _ _ _ _ _ _ _ _ _ _ f s → _) => hKQ); refine hKQ _ _ ?_; clear hKQ)); k_steps)); all_goals (try ((first | ((with_reducible rename Held _ => hKQ); refine Held.out hKQ _ _ ?_; clear hKQ; (try dsimp only)) | ((with_reducible rename (∀ f s, KswPost _ _ _ _ _ _ _ _ _ _ _ _ f s → _) => hKQ); refine hKQ _ _ ?_; clear hKQ)); k_steps)))
      refine SrcWT.of (Drawn.led (vs := ve) rfl F19 N19 (by k_mem)) ?hsz fun gy => ?_
      (case hsz => rw [List.size_toArray, sizeLine_eq, hel]; decide)
      refine compT_invK (fun i ys => IntsAre ys (zs (((List.range 6).take i).filter fun x => !us.contains x))) (fun i ys hi hys v I₂ oI₂ C₂ oC₂ A₂ m₂ g₂ k₂ E₂ hv₂ hC₂ hx₂ F4 N4 off₂ ne₂ => ?_) (fun ys hys => ?_) .nil
      · refine genH fun Q₂ hQ₂ => ?_
        refine ex2a2 (zs_item he hv₂) fun xn t' eqf hx => ?_
        subst eqf
        clear F19 N19
        (k_steps; all_goals (try ((first | ((with_reducible rename Held _ => hKQ); refine Held.out hKQ _ _ ?_; clear hKQ; (try dsimp only)) | ((with_reducible rename (∀ f s, KswPost _ _ _ _ _ _ _ _ _ _ _ _ f s → _) => hKQ); refine hKQ _ _ ?_; clear hKQ)); k_steps)); all_goals (try ((first | ((with_reducible rename Held _ => hKQ); refine Held.out hKQ _ _ ?_; clear hKQ; (try dsimp only)) | ((with_reducible rename (∀ f s, KswPost _ _ _ _ _ _ _ _ _ _ _ _ f s → _) => hKQ); refine hKQ _ _ ?_; clear hKQ)); k_steps)))
        unfold Halt
        refine notin_list_ints ⟨_, (N4 (Ds, listOf vu.toArray ku) (by k_mem)).1, rfl, _, rfl⟩ hiu ?_
        rw [perm_any hpu]
        generalize hq : (!us.contains xn) = b
        cases b
        · (k_steps; all_goals (try ((first | ((with_reducible rename Held _ => hKQ); refine Held.out hKQ _ _ ?_; clear hKQ; (try dsimp only)) | ((with_reducible rename (∀ f s, KswPost _ _ _ _ _ _ _ _ _ _ _ _ f s → _) => hKQ); refine hKQ _ _ ?_; clear hKQ)); k_steps)); all_goals (try ((first | ((with_reducible rename Held _ => hKQ); refine Held.out hKQ _ _ ?_; clear hKQ; (try dsimp only)) | ((with_reducible rename (∀ f s, KswPost _ _ _ _ _ _ _ _ _ _ _ _ f s → _) => hKQ); refine hKQ _ _ ?_; clear hKQ)); k_steps)))
          unfold Halt
          refine CompEnd.same F4 N4 off₂ (SrcAt.led (n := ke) (by k_mem)) ⟨rfl, ?_⟩
          rw [filt_nat hx, if_neg (by rw [hq]; exact Bool.false_ne_true), List.append_nil]
          exact hys
        · (k_steps; all_goals (try ((first | ((with_reducible rename Held _ => hKQ); refine Held.out hKQ _ _ ?_; clear hKQ; (try dsimp only)) | ((with_reducible rename (∀ f s, KswPost _ _ _ _ _ _ _ _ _ _ _ _ f s → _) => hKQ); refine hKQ _ _ ?_; clear hKQ)); k_steps)); all_goals (try ((first | ((with_reducible rename Held _ => hKQ); refine Held.out hKQ _ _ ?_; clear hKQ; (try dsimp only)) | ((with_reducible rename (∀ f s, KswPost _ _ _ _ _ _ _ _ _ _ _ _ f s → _) => hKQ); refine hKQ _ _ ?_; clear hKQ)); k_steps)))
          unfold Halt
          refine CompEnd.same F4 N4 off₂ (SrcAt.led (n := ke) (by k_mem)) ⟨rfl, ?_⟩
          rw [filt_nat hx, if_pos hq, zs_append]
          exact hys.append (.cons _ _ .nil)
      · have hall : (List.range 6).take ve.toArray.size = List.range 6 := List.take_of_length_le (by rw [List.size_toArray, hel]; simp)
        rw [hall] at hys
        replace hys : IntsAre ys (zs (freeF us)) := hys
        intro D5 h20 tk20 F20 N20 o20
        clear F19 N19
        (k_steps; all_goals (try ((first | ((with_reducible rename Held _ => hKQ); refine Held.out hKQ _ _ ?_; clear hKQ; (try dsimp only)) | ((with_reducible rename (∀ f s, KswPost _ _ _ _ _ _ _ _ _ _ _ _ f s → _) => hKQ); refine hKQ _ _ ?_; clear hKQ)); k_steps)); all_goals (try ((first | ((with_reducible rename Held _ => hKQ); refine Held.out hKQ _ _ ?_; clear hKQ; (try dsimp only)) | ((with_reducible rename (∀ f s, KswPost _ _ _ _ _ _ _ _ _ _ _ _ f s → _) => hKQ); refine hKQ _ _ ?_; clear hKQ)); k_steps)))
        unfold Halt
        have hdec : (!decide (zs (freeF us) = zs (freeF us))) = false := by simp
        refine ke_ne_ints ⟨_, (N20 (mis, listOf ws.toArray n1) (by k_mem)).1, rfl, _, rfl⟩ ⟨_, (N20 _ (.head _)).1, rfl, _, rfl⟩ hws hys (show un + 3 + 64 < cLine from ltcB (by assumption) rfl) ?_
        rw [hdec]
        clear hdec
        (k_steps; all_goals (try ((first | ((with_reducible rename Held _ => hKQ); refine Held.out hKQ _ _ ?_; clear hKQ; (try dsimp only)) | ((with_reducible rename (∀ f s, KswPost _ _ _ _ _ _ _ _ _ _ _ _ f s → _) => hKQ); refine hKQ _ _ ?_; clear hKQ)); k_steps)); all_goals (try ((first | ((with_reducible rename Held _ => hKQ); refine Held.out hKQ _ _ ?_; clear hKQ; (try dsimp only)) | ((with_reducible rename (∀ f s, KswPost _ _ _ _ _ _ _ _ _ _ _ _ f s → _) => hKQ); refine hKQ _ _ ?_; clear hKQ)); k_steps)))
        unfold Halt
        (rename Fr _ _ _ _ => F21)
        (rename News _ _ _ _ => N21)
        refine ke_ne_ints (xs := []) (ys := []) ⟨_, (N21 (unx, listOf #[] n2) (by k_mem)).1, rfl, _, rfl⟩ ⟨_, (N21 _ (.head _)).1, rfl, _, rfl⟩ .nil .nil (show un + 3 + 64 < cLine from ltcB (by assumption) rfl) ?_
        refine ex2a1 (free_ne hl5) fun x0 r0 hfree => ?_
        rw [hfree] at hws
        have hwe : ∃ t0 ws', ws = Value.int (x0 : Int) t0 :: ws' := by
          cases hws
          exact ⟨_, _, rfl⟩
        refine ex2a1 hwe fun t0 ws' ehw => ?_
        clear hwe
        subst ehw
        rw [show (!decide (([] : List Int) = [])) = false from rfl]
        replace N21 := News.sub3 N21 () ()
        (k_steps; all_goals (try ((first | ((with_reducible rename Held _ => hKQ); refine Held.out hKQ _ _ ?_; clear hKQ; (try dsimp only)) | ((with_reducible rename (∀ f s, KswPost _ _ _ _ _ _ _ _ _ _ _ _ f s → _) => hKQ); refine hKQ _ _ ?_; clear hKQ)); k_steps)); all_goals (try ((first | ((with_reducible rename Held _ => hKQ); refine Held.out hKQ _ _ ?_; clear hKQ; (try dsimp only)) | ((with_reducible rename (∀ f s, KswPost _ _ _ _ _ _ _ _ _ _ _ _ f s → _) => hKQ); refine hKQ _ _ ?_; clear hKQ)); k_steps)))
        unfold Halt
        (rename News _ _ _ _ => N22)
        refine item_listL (k := 0) ⟨_, (N22 (mis, listOf (Value.int (x0 : Int) t0 :: ws').toArray n1) (by k_mem)).1, rfl, _, rfl⟩ (by decide) (by decide) rfl ?_ (by with_unfolding_all rfl) (by intro _; with_unfolding_all rfl)
        (k_steps; all_goals (try ((first | ((with_reducible rename Held _ => hKQ); refine Held.out hKQ _ _ ?_; clear hKQ; (try dsimp only)) | ((with_reducible rename (∀ f s, KswPost _ _ _ _ _ _ _ _ _ _ _ _ f s → _) => hKQ); refine hKQ _ _ ?_; clear hKQ)); k_steps)); all_goals (try ((first | ((with_reducible rename Held _ => hKQ); refine Held.out hKQ _ _ ?_; clear hKQ; (try dsimp only)) | ((with_reducible rename (∀ f s, KswPost _ _ _ _ _ _ _ _ _ _ _ _ f s → _) => hKQ); refine hKQ _ _ ?_; clear hKQ)); k_steps)))
        unfold Halt
        (rename Fr _ _ _ _ => F22)
        (rename News _ _ _ _ => N22)
        refine' kda_set (k := (q.val : Int)) F22 N22 ?U hod ?ka ?kb ?_
        (case U => k_updF)
        (case ka => simp [intKind, Value.isInt])
        (case kb => rw [hkv.1, sizeLine_eq]; exact hcc16)
        intro h23 od2 F23 N23 hod2
        clear F22 N22
        rw [stored_absent (hkv.absent hcq)] at hod2
        dsimp only
        (k_steps; all_goals (try ((first | ((with_reducible rename Held _ => hKQ); refine Held.out hKQ _ _ ?_; clear hKQ; (try dsimp only)) | ((with_reducible rename (∀ f s, KswPost _ _ _ _ _ _ _ _ _ _ _ _ f s → _) => hKQ); refine hKQ _ _ ?_; clear hKQ)); k_steps)); all_goals (try ((first | ((with_reducible rename Held _ => hKQ); refine Held.out hKQ _ _ ?_; clear hKQ; (try dsimp only)) | ((with_reducible rename (∀ f s, KswPost _ _ _ _ _ _ _ _ _ _ _ _ f s → _) => hKQ); refine hKQ _ _ ?_; clear hKQ)); k_steps)))
        unfold Halt
        (rename Fr _ _ _ _ => F24)
        (rename News _ _ _ _ => N24)
        refine ksw_end (r, n + 1, cc ++ [(q.val, x0)], kvs ++ [((q.val : Int), .int (x0 : Int) t0)], od2, oU4, oT4, sl2) F24 N24 ?sub trivial (by simp) (by (intro z h2 h3; (simp only [List.forall_mem_cons, List.not_mem_nil, false_implies, implies_true, and_true, ne_eq] at h2); (simp only [List.contains_cons, List.contains_nil, Bool.or_false, Bool.or_eq_false_iff, beq_eq_false_iff_ne, ne_eq] at h3); (simp [kstB, h2, h3]; done))) ⟨?p1, ?p2, hkv.snoc _ _ _, ?p4, ?p5, hod2, ⟨_, dU4⟩, ⟨_, dT4⟩⟩ (by dsimp only; rw [← hrl]; exact Nat.lt_succ_self _)
        case sub =>
          walk_at "SUBS"
        case p1 => dsimp only; rw [List.length_append, List.length_singleton, ← Nat.add_assoc, Nat.add_right_comm, hrl]; exact hlen
        case p2 => dsimp only; rw [hfree] at hp'; exact hp'
        case p4 =>
          dsimp only
          rw [List.pairwise_append]
          refine ⟨hpw, List.pairwise_singleton _ _, fun a ha b hb => ?_⟩
          rw [List.mem_singleton.mp hb]
          exact hcq a ha
        case p5 =>
          dsimp only
          intro p hp
          rcases List.mem_append.mp hp with hp | hp
          · exact hk6 p hp
          · rw [List.mem_singleton.mp hp]; exact q.isLt
end
end D15Part
section E16Part
set_option linter.unusedVariables false
theorem runT_wp6 {α : Type} {cmp : Nat → Nat → (Bool → Shared → Prop) → Shared → Prop} {Q : Array Nat → Shared → Prop} {lt : Nat → Nat → Bool} {s : Shared} (hc : ∀ i j, i < 6 → j < 6 → ∀ C : Bool → Shared → Prop, C (lt i j) s → cmp i j C s) : ∀ t : KasT (Array Nat), okT t = true → Q (runT lt t) s → t.kasWp cmp Q s
  | .ret _, _, h => h
  | .ask i j k, ho, h => by
    unfold okT at ho
    simp only [Bool.and_eq_true, decide_eq_true_eq] at ho
    refine hc i j ho.1.1.1 ho.1.1.2 _ ?_
    have hk : okT (k (lt i j)) = true := by
      cases lt i j
      · exact ho.2
      · exact ho.1.2
    exact runT_wp6 (α := α) hc (k (lt i j)) hk h
theorem looks_list {M : Model} {h : Heap} {a : Addr} {o : Obj} (e : h.get? a = some o) (hc : o.cls = .type "list") : Looks M h (typeOf (.ref a)) (.type "list") := hc ▸ (Looks.ld e).andThen .now
section
variable {prog : Program} {w : World} {A : Around} {E : Value → Shared → Prop} {s : Shared} {h₀ : Heap} {L : Addr} {m : Str → Option Value} {news : List (Addr × Obj)}
/-- sorted of a list of six lists [text, number] -/
theorem sorted_keys {l : Addr} {hs : List Addr} {n : Nat} {κ : Nat → Str × Int} {Q : Value → Shared → Prop} (F : Fr h₀ L s.heap m) (N : News h₀ L s.heap news) (hl : (l, listOf (rv hs).toArray n) ∈ news) (h6 : hs.length = 6)
    (hk : ∀ (h : Heap), News h₀ L h news → ∀ (i : Nat) (a : Addr), hs[i]? = some a → IsKey h a (κ i)) (hu : A.in1.in1.units < cLine)
    (h : ∀ D c h', Fr h₀ L h' m → News h₀ L h' ((D, listOf (((runT (fun i j => keyLt (κ i) (κ j)) (kas_sort 6)).toList.map fun i => (rv hs).getD i Value.none)).toArray c) :: news) → (∀ q ∈ news, q.1 < D) → Q (.ref D) { s with heap := h' }) :
    wpAny (model prog w) A (call (.builtin "sorted") [.ref l]) Q E s := by
  have hl6 : (rv hs).length = 6 := by rw [rv_len, h6]
  refine kas_sorted (T := .type "list") F N ⟨_, (N _ hl).1, rfl, _, rfl⟩ (by omega) (by omega) (fun h' F' N' v hv => ?_) rfl fun D e1 h' F' N' lt => ?_
  · obtain ⟨a, ha, rfl⟩ := List.mem_map.mp hv
    obtain ⟨i, hi⟩ := List.mem_iff_getElem?.mp ha
    obtain ⟨t, u, k, e⟩ := hk h' N' i a hi
    exact looks_list e rfl
  · rw [hl6]
    have N0 : News h₀ L h' news := fun p hp => N' p (.tail _ hp)
    refine runT_wp6 (α := Unit) (lt := fun i j => keyLt (κ i) (κ j)) (fun i j hi hj C hC => ?_) _ sort_ok ?_
    · obtain ⟨a, ha⟩ : ∃ a, hs[i]? = some a := ⟨_, List.getElem?_eq_getElem (by omega)⟩
      obtain ⟨b, hb⟩ : ∃ b, hs[j]? = some b := ⟨_, List.getElem?_eq_getElem (by omega)⟩
      unfold kas_ask
      rw [List.getD_eq_getElem?_getD, List.getD_eq_getElem?_getD, rv_get ha, rv_get hb]
      exact sortlt_key hu (hk h' N0 i a ha) (hk h' N0 j b hb) hC
    · exact KasFin.intro F' N' (.head fun p hp => Nat.ne_of_lt (lt p hp)) fun h2 c F2 N2 => h D c h2 F2 N2 lt
end
end E16Part
section D16Part
set_option linter.unusedVariables false
/-- the rows' keys, as ways of one folder -/
noncomputable def keyW (R : List (List Nat)) (X : List Str) : List (List Str) := R.map fun l => [X.getD (l.headD 0) default]
theorem keyW_get {R : List (List Nat)} {X : List Str} {p : Nat} {l : List Nat} (h : R[p]? = some l) : (keyW R X)[p]? = some [X.getD (l.headD 0) default] := by
  unfold keyW; rw [List.getElem?_map, h]; rfl
theorem HeapIts.isKey {R : List (List Nat)} {X : List Str} {hs : List Addr} {its : List (Addr × Obj)} (hI : HeapIts (keyW R X) hs its) {h₀ h : Heap} {L : Addr} {news : List (Addr × Obj)} (N : News h₀ L h news) (hsub : ∀ p ∈ its, p ∈ news) {i : Nat} {a : Addr} (ha : hs[i]? = some a) : IsKey h a (dueKey R X i) := by
  obtain ⟨h1, h2, h3⟩ := hI
  rw [← h1, List.getElem?_map] at ha
  cases hp : its[i]? with
  | none => rw [hp] at ha; cases ha
  | some p =>
    rw [hp] at ha
    cases ha
    obtain ⟨x, r, hx, t, u, n, ho⟩ := h3 i p hp
    refine ⟨t, u, n, ?_⟩
    have e := (N _ (hsub p (List.mem_of_getElem? hp))).1
    rw [ho] at e
    unfold keyW at hx
    rw [List.getElem?_map] at hx
    cases hR : R[i]? with
    | none => rw [hR] at hx; cases hx
    | some l =>
      rw [hR] at hx
      simp only [Option.map_some, Option.some.injEq, List.cons.injEq] at hx
      have e2 : dueKey R X i = (x, (i : Int)) := by
        unfold dueKey rowTop
        rw [List.getD_eq_getElem?_getD (l := R), hR, ← hx.1]; rfl
      rw [e2]; exact e
theorem meets_eq {R : List (List Nat)} {p q : Nat} {l lq : List Nat} (hl : R[p]? = some l) (hlq : R[q]? = some lq) : meets R p q = !(l.filter fun x => lq.contains x).isEmpty := by
  unfold meets
  rw [List.getD_eq_getElem?_getD, hl, List.getD_eq_getElem?_getD, hlq]
  simp only [Option.getD_some]
  rw [Bool.eq_iff_iff]
  simp [List.filter_eq_nil_iff]
theorem free_min {us : List Nat} {x0 : Nat} {r0 : List Nat} (h : freeF us = x0 :: r0) (M : Int) (h1 : M ∈ zs (freeF us)) (h2 : ∀ a, a ∈ zs (freeF us) → M ≤ a) : M = (x0 : Int) := by
  have hs : (freeF us).Pairwise (· < ·) := by
    unfold freeF
    exact List.pairwise_lt_range.filter _
  rw [h] at hs h1 h2
  have a1 : M ≤ (x0 : Int) := h2 _ (List.mem_map.mpr ⟨x0, .head _, rfl⟩)
  obtain ⟨u, hu, rfl⟩ := zs_mem h1
  rcases List.mem_cons.mp hu with rfl | hu
  · rfl
  · have := (List.pairwise_cons.mp hs).1 u hu
    omega
theorem drop_at {α : Type} {l : List α} {i : Nat} {p : α} (h : l[i]? = some p) : l.drop i = p :: l.drop (i + 1) := by
  obtain ⟨hi, e⟩ := List.getElem?_eq_some_iff.mp h
  rw [List.drop_eq_getElem_cons hi, e]
theorem ints_empty {us : List Value} {L : List Nat} (h : IntsAre us (zs L)) : us.isEmpty = L.isEmpty := by
  have := h.length
  rw [zs_len] at this
  cases us <;> cases L <;> simp_all
theorem truthy_vals {prog : Program} {w : World} {A : Around} {E : Value → Shared → Prop} {s : Shared} {h₀ : Heap} {L b : Addr} {news : List (Addr × Obj)} {us : List Value} {n : Nat} {Q : Bool → Shared → Prop} (N : News h₀ L s.heap news) (hm : (b, listOf us.toArray n) ∈ news) (hfit : us.length < 2 ^ 62) (h : ∀ tk, Q (!us.isEmpty) { s with toks := tk }) : wpAny (model prog w) A (truthy (.ref b)) Q E s := by
  refine wpAny_truthy_list ⟨_, (N _ hm).1, rfl, n, rfl⟩ (by rw [List.size_toArray]; omega) ?_
  have e2 : us.toArray.isEmpty = us.isEmpty := by
    cases us <;> rfl
  rw [e2]; exact h _
theorem map_at {α β : Type} {f : α → β} {l : List α} {i : Nat} {v : β} (h : (l.map f)[i]? = some v) : ∃ p, l[i]? = some p ∧ v = f p := by
  rw [List.getElem?_map] at h
  cases hq : l[i]? with
  | none => rw [hq] at h; cases h
  | some p => rw [hq] at h; exact ⟨p, rfl, (Option.some.inj h).symm⟩
theorem mem8 {α : Type} {a b c d e f g x : α} {l : List α} (h : x ∈ l) : x ∈ a :: b :: c :: d :: e :: f :: g :: l := .tail _ (.tail _ (.tail _ (.tail _ (.tail _ (.tail _ (.tail _ h))))))
theorem HeapIts.item {R : List (List Nat)} {X : List Str} {hs : List Addr} {its : List (Addr × Obj)} (hI : HeapIts (keyW R X) hs its) {p : Nat} {l : List Nat} (hp : p < hs.length) (hl : R[p]? = some l) : ∃ a, hs[p]? = some a ∧ ∃ o, (a, o) ∈ its ∧ KeyObj (X.getD (l.headD 0) default) p o := by
  obtain ⟨h1, h2, h3⟩ := hI
  have hlen : its.length = hs.length := by rw [← h1, List.length_map]
  obtain ⟨q, hq⟩ : ∃ q, its[p]? = some q := ⟨_, List.getElem?_eq_getElem (by omega)⟩
  obtain ⟨x, r, hx, ho⟩ := h3 p q hq
  rw [keyW_get hl] at hx
  cases hx
  refine ⟨q.1, ?_, q.2, List.mem_of_getElem? hq, ho⟩
  rw [← h1, List.getElem?_map, hq]; rfl
/-- a list of lists of numbers -/
noncomputable def RowsAt (g : Heap) (rrefs : List Addr) (R : List (List Nat)) : Prop := rrefs.length = R.length ∧ ∀ (k : Nat) (a : Addr) (l : List Nat), rrefs[k]? = some a → R[k]? = some l → ∃ vs, g.IsList a (List.toArray vs) ∧ IntsAre vs (zs l)
section
variable {w : World} {mean : ExcName → Option Value} {mg mb : Str → Option Value} {dp un : Nat} {gd : Option (List Code)} {base : Heap} {fr : List Env} {s : Shared} {Q E : Value → Shared → Prop}
local macro_rules | `(tactic| walk_at "exec Assign cons ListComp") => `(tactic| (k_here; k_dflt (refine Assign_ListComp_W (F₀ := by k_asm) (by rfl) (by with_unfolding_all rfl) (by with_unfolding_all rfl) (by decide) (by rfl) (by decide) (by rfl) (by rfl) (by rfl) ?_)))
local macro_rules | `(tactic| walk_at "exec Assign cons ListComp") => `(tactic| (k_here; lct_look; k_dflt (refine Assign_ListComp_WT (F₀ := by k_asm) (by rfl) (by with_unfolding_all rfl) (by with_unfolding_all rfl) (by decide) (by rfl) (by decide) (by rfl) (by rfl) (by rfl) ?_)))
local macro_rules | `(tactic| walk_at "eval ListComp") => `(tactic| (k_here; k_dflt (refine ListComp_W (F₀ := by k_asm) (by with_unfolding_all rfl) (by decide) (by rfl) (by decide) (by rfl) ?_)))
local macro_rules | `(tactic| walk_at "eval ListComp") => `(tactic| (k_here; lct_look; k_dflt (refine ListComp_WT (F₀ := by k_asm) (by with_unfolding_all rfl) (by decide) (by rfl) (by decide) (by rfl) ?_)))
local macro_rules | `(tactic| lcg_src) => `(tactic| ((with_reducible show TupAt _ _ _ _); exact Or.inr ⟨_, by k_mem⟩))
local macro_rules | `(tactic| walk_at "CompRest") => `(tactic| refine Halt.mk ?_)
local macro_rules | `(tactic| walk_at "CompRestT") => `(tactic| refine Halt.mk ?_)
local macro_rules | `(tactic| walk_at "CompEnd") => `(tactic| refine Halt.mk ?_)
local macro_rules | `(tactic| walk_at "FinA") => `(tactic| refine Halt.mk ?_)
local macro_rules | `(tactic| walk_at "exec Assign cons ListComp") => `(tactic| refine Halt.mk ?_)
local macro_rules | `(tactic| walk_at "eval ListComp") => `(tactic| refine Halt.mk ?_)
local macro_rules | `(tactic| walk_at "call ref") => `(tactic| refine Halt.mk ?_)
local macro_rules | `(tactic| walk_at "compareOp In int ref") => `(tactic| refine Halt.mk ?_)
local macro_rules | `(tactic| walk_at "compareOp NotIn int ref") => `(tactic| refine Halt.mk ?_)
local macro_rules | `(tactic| walk_at "setItem ref int") => `(tactic| refine Halt.mk ?_)
local macro_rules | `(tactic| walk_at "call builtin:len") => `(tactic| refine Halt.mk ?_)
local macro_rules | `(tactic| walk_at "call builtin:sorted") => `(tactic| refine Halt.mk ?_)
local macro_rules | `(tactic| walk_at "call builtin:min") => `(tactic| refine Halt.mk ?_)
local macro_rules | `(tactic| walk_at "exec For Tuple Call cons nil") => `(tactic| refine Halt.mk ?_)
local macro_rules | `(tactic| walk_at "subscriptTail Name Name ref int") => `(tactic| refine Halt.mk ?_)
local macro_rules | `(tactic| walk_at "subscriptTail Name Subscript ref int") => `(tactic| refine Halt.mk ?_)
local macro_rules | `(tactic| walk_at "subscriptTail Subscript Constant ref int") => `(tactic| refine Halt.mk ?_)
local macro_rules | `(tactic| k_all) => `(tactic| assumption)
theorem due_spec {ra ta : Addr} {rrefs : List Addr} {R : List (List Nat)} {X : List Str} {tv : List Value}
    (S : St w mean mg mb s.heap) (hd : dp + 5 < recursionLimit) (hu : un + 120 < cLine)
    (hra : s.heap.IsList ra (rv rrefs).toArray) (hR : R.length = 6) (hrR : RowsAt s.heap rrefs R) (hne : ∀ l ∈ R, ∃ x r, l = x :: r ∧ x < 7) (hle6 : ∀ l ∈ R, l.length ≤ 20) (hta : s.heap.IsList ta tv.toArray) (htv : StrsAre tv X) (hX : X.length = 7)
    (hperm : (dueOrd R X).Perm (List.range 6))
    (h : ∀ D vs n h' tk', (∀ b o, s.heap.get? b = some o → h'.get? b = some o) → s.heap.get? D = none → h'.get? D = some (listOf (List.toArray vs) n) → IntsAre vs (zs ((List.range 6).map fun k => (colOf (dueP R (dueOrd R X) []) k).getD 0)) → Q (.ref D) { s with heap := h', toks := tk' }) :
    wpAny (model PySem.Challenge.rw_pd0148_01.row.prog w) (Ar dp un gd fr) (call (.ref 205) [.ref ra, .ref ta]) Q E s := by
  (have kfX := (‹St _ _ _ _ _›).X; revert kfX; k_fill; intro _)
  refine wpAny_call ?_
  refine' enterC (muts := []) ?k1 ?k6 ?k7 ?k8 ?k9 ?kB ?kD ?km ?_ ?c2 ?c3 ?c4
  (case k1 => assumption)
  (case k6 => k_is)
  (case k7 => k_is)
  (case k8 => exact ltc0 hd)
  (case k9 => exact BindsTo.of_eq rfl)
  (case kB => exact rfl)
  (case kD => decide +kernel)
  (case km => exact fun _ h => nomatch h)
  (case c2 => exact rfl)
  (case c3 => exact rfl)
  (case c4 => exact rfl)
  intro L' h₁ tk cells F N Y hlt
  k_cells Y
  clear hlt
  rename_i oM oP oC oT oR dM dP dC dT dR
  simp only [List.cons_append, List.nil_append, List.append_nil] at N
  (with_unfolding_all change oM.data = Data.cell none at dM)
  (with_unfolding_all change oP.data = Data.cell none at dP)
  (with_unfolding_all change oC.data = Data.cell none at dC)
  (with_unfolding_all change oT.data = Data.cell (some (.ref ta)) at dT)
  (with_unfolding_all change oR.data = Data.cell (some (.ref ra)) at dR)
  dsimp only
  obtain ⟨X0, T0⟩ := S
  obtain ⟨g, _, _, _, _⟩ := s
  dsimp only at *
  replace F : Fr g L' h₁ (fun _ => none) := by with_unfolding_all exact F
  replace N : News g L' h₁ [(L' + 1 + 1 + 1 + 1 + 1, oM), (L' + 1 + 1 + 1 + 1, oP), (L' + 1 + 1 + 1, oC), (L' + 1 + 1, oT), (L' + 1, oR)] := N
  k_steps
  unfold Halt
  (rename Fr _ _ _ _ => F2)
  (rename News _ _ _ _ => N2)
  rename_i dc _ oD ldc hsD fsD hiD fiD l1 h2 oC2 dC2
  clear hsD fsD fiD
  have lM : @LT.lt Nat _ (L' + 1 + 1 + 1 + 1 + 1) dc := by first | exact l1.1 | exact ldc.1 | omega
  have lP : @LT.lt Nat _ (L' + 1 + 1 + 1 + 1) dc := by first | exact l1.2.1 | exact ldc.2.1 | omega
  have lC : @LT.lt Nat _ (L' + 1 + 1 + 1) dc := by first | exact l1.2.2.1 | exact ldc.2.2.1 | omega
  have lT : @LT.lt Nat _ (L' + 1 + 1) dc := by first | exact l1.2.2.2.1 | exact ldc.2.2.2.1 | omega
  have lR : @LT.lt Nat _ (L' + 1) dc := by first | exact l1.2.2.2.2 | exact ldc.2.2.2.2 | omega
  refine For_led (h₀ := g) rfl ?_
  k_steps
  unfold Halt
  refine' ListComp_W (F₀ := F2) ?a2 ?a3 ?a4 ?a5 ?a6 ?_
  (case a2 => with_unfolding_all rfl)
  (case a3 => decide)
  (case a4 => rfl)
  (case a5 => decide)
  (case a6 => rfl)
  k_steps
  unfold Halt
  (rename Fr _ _ _ _ => F3)
  refine len_base (n := 6) F3 hra (by rw [List.size_toArray, rv_len, hrR.1, hR]) (by decide) ?_
  k_steps
  (rename Fr _ _ _ _ => F4)
  (rename News _ _ _ _ => N4)
  (rename IsRange _ _ _ _ _ _ _ _ => R4)
  refine SrcW.of (Drawn.range (n := 6) rfl F4 N4 R4 rfl rfl) ?hsz fun gc => ?_
  (case hsz => decide)
  clear R4
  generalize hN0 : [(dc, oD), (L' + 1 + 1 + 1 + 1 + 1, oM), (L' + 1 + 1 + 1 + 1, oP), (L' + 1 + 1 + 1, oC2), (L' + 1 + 1, oT), (L' + 1, oR)] = N0 at N4
  refine comp_inv (n := 6) (fun i ys nw => ∃ hs its, nw = N0 ++ its ∧ ys = rv hs ∧ hs.length = i ∧ HeapIts (keyW R X) hs its ∧ ∀ p ∈ its, @LT.lt Nat _ dc p.1) (fun i ys nw hi hinv v I₂ oI₂ C₂ oC₂ A₂ m₂ g₂ k₂ E₂ hv₂ hC₂ hx₂ F5 N5 off₂ ne₂ => ?_) (fun ys nw hinv => ?_) _ 0 [] _ (Nat.zero_add _) ⟨[], [], by simp [hN0], rfl, rfl, HeapIts.nil _, fun _ h => nomatch h⟩
  · refine genH fun Q₂ hQ₂ => ?_
    refine Exists.elim (hv₂) fun t' eqa => ?_
    clear hv₂
    subst eqa
    refine ex2a5 hinv fun hs its e1 e2 e3 hI hDe => ?_
    clear hinv
    subst e1 e2
    clear F4 N4
    (try clear F2 N2)
    subst hN0
    simp only [List.cons_append, List.nil_append] at N5
    rw [Int.zero_add] at *
    refine Exists.elim (show ∃ l, R[i]? = some l from ⟨_, List.getElem?_eq_getElem (Nat.lt_of_lt_of_eq hi hR.symm)⟩) fun l hl => ?_
    refine Exists.elim (show ∃ a, rrefs[i]? = some a from ⟨_, List.getElem?_eq_getElem (Nat.lt_of_lt_of_eq hi (hrR.1.trans hR).symm)⟩) fun a ha => ?_
    refine ex2a2 (hne _ (List.mem_of_getElem? hl)) fun x r eqb hx7 => ?_
    subst eqb
    refine ex1a2 (hrR.2 i a _ ha hl) fun vs hvs hst => ?_
    refine Exists.elim (show ∃ y, X[x]? = some y from ⟨_, List.getElem?_eq_getElem (Nat.lt_of_lt_of_eq hx7 hX.symm)⟩) fun y hy => ?_
    refine Exists.elim (htv.at hy) fun ty hty => ?_
    have hwe : ∃ t0 vs', vs = Value.int (x : Int) t0 :: vs' := by
      cases hst
      exact ⟨_, _, rfl⟩
    refine ex2a1 hwe fun t0 vs' ehw => ?_
    clear hwe
    subst ehw
    (k_steps; all_goals (try ((first | ((with_reducible rename Held _ => hKQ); refine Held.out hKQ _ _ ?_; clear hKQ; (try dsimp only)) | ((with_reducible rename (∀ f s, KswPost _ _ _ _ _ _ _ _ _ _ _ _ f s → _) => hKQ); refine hKQ _ _ ?_; clear hKQ)); k_steps)); all_goals (try ((first | ((with_reducible rename Held _ => hKQ); refine Held.out hKQ _ _ ?_; clear hKQ; (try dsimp only)) | ((with_reducible rename (∀ f s, KswPost _ _ _ _ _ _ _ _ _ _ _ _ f s → _) => hKQ); refine hKQ _ _ ?_; clear hKQ)); k_steps)))
    unfold Halt
    refine item_base F5 hra (Nat.lt_trans hi (by decide)) (rv_get ha) ?_
    (k_steps; all_goals (try ((first | ((with_reducible rename Held _ => hKQ); refine Held.out hKQ _ _ ?_; clear hKQ; (try dsimp only)) | ((with_reducible rename (∀ f s, KswPost _ _ _ _ _ _ _ _ _ _ _ _ f s → _) => hKQ); refine hKQ _ _ ?_; clear hKQ)); k_steps)); all_goals (try ((first | ((with_reducible rename Held _ => hKQ); refine Held.out hKQ _ _ ?_; clear hKQ; (try dsimp only)) | ((with_reducible rename (∀ f s, KswPost _ _ _ _ _ _ _ _ _ _ _ _ f s → _) => hKQ); refine hKQ _ _ ?_; clear hKQ)); k_steps)))
    unfold Halt
    refine item_base F5 hta (Nat.lt_trans hx7 (by decide)) hty ?_
    (k_steps; all_goals (try ((first | ((with_reducible rename Held _ => hKQ); refine Held.out hKQ _ _ ?_; clear hKQ; (try dsimp only)) | ((with_reducible rename (∀ f s, KswPost _ _ _ _ _ _ _ _ _ _ _ _ f s → _) => hKQ); refine hKQ _ _ ?_; clear hKQ)); k_steps)); all_goals (try ((first | ((with_reducible rename Held _ => hKQ); refine Held.out hKQ _ _ ?_; clear hKQ; (try dsimp only)) | ((with_reducible rename (∀ f s, KswPost _ _ _ _ _ _ _ _ _ _ _ _ f s → _) => hKQ); refine hKQ _ _ ?_; clear hKQ)); k_steps)))
    unfold Halt
    (rename Fr _ _ _ _ => F7)
    (rename News _ _ _ _ => N7)
    rename_i A7 _ lt7
    have hnA : ∀ p ∈ its, p.1 ≠ A7 := fun p hp => Nat.ne_of_lt (allLt_mem lt7.2.2.2.2.2.2.2.2.2 p hp)
    have e9 : X.getD ((x :: r).headD 0) default = y := by rw [List.headD_cons, List.getD_eq_getElem?_getD, hy]; rfl
    refine CompEnd.grow (news := [(dc, oD), (L' + 1 + 1 + 1 + 1 + 1, oM), (L' + 1 + 1 + 1 + 1, oP), (L' + 1 + 1 + 1, oC2), (L' + 1 + 1, oT), (L' + 1, oR)] ++ its) F7 N7 (Nat.ne_of_gt lt7.1) (Nat.ne_of_gt lt7.2.1) (Nat.ne_of_gt lt7.2.2.1) off₂ trivial ⟨hs ++ [A7], its ++ [(A7, listOf #[Value.str y ty, Value.int (i : Int) t'] 0)], List.append_assoc _ _ _, ?_, by rw [List.length_append, e3]; rfl, HeapIts.snoc hI hnA (by rw [e3]; exact keyW_get hl) (by rw [e3, e9]; exact ⟨_, _, _, rfl⟩), fun p hp => ?_⟩
    · simp [rv]
    · rcases List.mem_append.mp hp with hp | hp
      · exact hDe p hp
      · rw [List.mem_singleton.mp hp]
        exact lt7.2.2.2.1
  · refine ex2a5 hinv fun hs its e1 e2 e3 hI hDe => ?_
    clear hinv
    subst e1 e2
    subst hN0
    intro D h5 tk5 F6 N6 o6
    have oits : ∀ p ∈ its, p.1 ≠ D := fun p hp => off1_mem o6 p (List.mem_append_right _ hp)
    have hsub : ∀ p ∈ its, p ∈ (D, LCg.lst (rv hs)) :: ([(dc, oD), (L' + 1 + 1 + 1 + 1 + 1, oM), (L' + 1 + 1 + 1 + 1, oP), (L' + 1 + 1 + 1, oC2), (L' + 1 + 1, oT), (L' + 1, oR)] ++ its) := fun p hp => .tail _ (List.mem_append_right _ hp)
    simp only [List.cons_append, List.nil_append] at N6 o6 hsub
    have iM : ∀ p ∈ its, p.1 ≠ L' + 1 + 1 + 1 + 1 + 1 := fun p hp => Nat.ne_of_gt (Nat.lt_trans lM (hDe p hp))
    have iP : ∀ p ∈ its, p.1 ≠ L' + 1 + 1 + 1 + 1 := fun p hp => Nat.ne_of_gt (Nat.lt_trans lP (hDe p hp))
    have iC : ∀ p ∈ its, p.1 ≠ dc := fun p hp => Nat.ne_of_gt (hDe p hp)
    clear F4 N4
    (try clear F2 N2)
    k_steps
    unfold Halt
    refine sorted_keys (hs := hs) (n := (rv hs).length) (κ := dueKey R X) F6 N6 (.head _) e3 (fun h N i a ha => hI.isKey N hsub ha) (show un + 3 + 1 + 1 < cLine from ltcC (by assumption) rfl) fun Ds cd h8 F8 N8 l8 => ?_
    have hord : (runT (fun i j => keyLt (dueKey R X i) (dueKey R X j)) (kas_sort 6)).toList = dueOrd R X := rfl
    rw [hord] at N8
    clear hord
    k_lt l8
    clear F6 N6
    generalize ho : dueOrd R X = ord at *
    have iD : ∀ p ∈ its, p.1 ≠ Ds := fun p hp => Nat.ne_of_lt (allLt_mem l8.2.2.2.2.2.2.2 p hp)
    refine LedFor.of (fun i m₁ nw => ∃ (cc : List (Nat × Nat)) (kvs : List (Int × Value)) (od oM oP : Obj), nw = (Ds, listOf ((ord.map fun i => (rv hs).getD i Value.none)).toArray cd) :: (dc, od) :: (L' + 1 + 1 + 1 + 1 + 1, oM) :: (L' + 1 + 1 + 1 + 1, oP) :: (L' + 1 + 1 + 1, oC2) :: (L' + 1 + 1, oT) :: (L' + 1, oR) :: its ∧
      KvsAre kvs cc ∧ Obj.IsDictOf (intKind PySem.Challenge.rw_pd0148_01.row.prog w) od kvs ∧ (∃ x, oM.data = .cell x) ∧ (∃ x, oP.data = .cell x) ∧ cc.map (·.1) = ord.take i ∧ dueP R ord [] = dueP R (ord.drop i) cc)
      F8 (News.sub (news' := (Ds, listOf ((ord.map fun i => (rv hs).getD i Value.none)).toArray cd) :: (dc, oD) :: (L' + 1 + 1 + 1 + 1 + 1, oM) :: (L' + 1 + 1 + 1 + 1, oP) :: (L' + 1 + 1 + 1, oC2) :: (L' + 1 + 1, oT) :: (L' + 1, oR) :: its) N8 fun p hp => ?sub) (.head _) ⟨[], [], oD, oM, oP, rfl, KvsAre.nil, hiD, ⟨_, dM⟩, ⟨_, dP⟩, rfl, rfl⟩ ?turn ?fin
    case sub =>
      rcases List.mem_cons.mp hp with rfl | hp
      · exact .head _
      · exact .tail _ (.tail _ hp)
    case turn =>
      clear F8 N8 hiD dM dP
      rintro i v I oI m₁ nw h9 tk9 hv hinv
      refine ex5a7 hinv fun cc kvs od oM oP enw hkv hod hxM hxP hkeys hdue => ?_
      clear hinv
      refine Exists.elim hxM fun xM dM => ?_
      refine Exists.elim hxP fun xP dP => ?_
      clear hxM hxP
      subst enw
      rintro F9 N9 offI hmA
      have hol : ord.length = 6 := by rw [hperm.length_eq]; rfl
      refine ex1a2 (map_at hv) fun p hp hpv => ?_
      have hp6 : p < 6 := List.mem_range.mp (hperm.mem_iff.mp (List.mem_of_getElem? hp))
      refine Exists.elim (show ∃ l, R[p]? = some l from ⟨_, List.getElem?_eq_getElem (Nat.lt_of_lt_of_eq hp6 hR.symm)⟩) fun l hl => ?_
      refine ex1a2 (hI.item (p := p) (Nat.lt_of_lt_of_eq hp6 e3.symm) hl) fun a ha hao => ?_
      refine ex1a2 hao fun o hmo hoo3 => ?_
      refine ex3a1 hoo3 fun tx tp np hoo => ?_
      clear hao hoo3
      rw [hoo] at hmo
      obtain rfl : v = .ref a := by rw [hpv, List.getD_eq_getElem?_getD, rv_get ha]; rfl
      refine Exists.elim (show ∃ a, rrefs[p]? = some a from ⟨_, List.getElem?_eq_getElem (Nat.lt_of_lt_of_eq hp6 (hrR.1.trans hR).symm)⟩) fun ra' hra' => ?_
      refine ex1a2 (hrR.2 p ra' _ hra' hl) fun vp hvp hsp => ?_
      clear hv hpv hoo ha
      have jI : (@Ne Nat Ds I) ∧ (@Ne Nat dc I) ∧ (@Ne Nat (L' + 1 + 1 + 1 + 1 + 1) I) ∧ (@Ne Nat (L' + 1 + 1 + 1 + 1) I) ∧ (@Ne Nat (L' + 1 + 1 + 1) I) ∧ (@Ne Nat (L' + 1 + 1) I) ∧ (@Ne Nat (L' + 1) I) :=
        ⟨offI _ (.head _), offI _ (.tail _ (.head _)), offI _ (.tail _ (.tail _ (.head _))), offI _ (.tail _ (.tail _ (.tail _ (.head _)))), offI _ (.tail _ (.tail _ (.tail _ (.tail _ (.head _))))), offI _ (.tail _ (.tail _ (.tail _ (.tail _ (.tail _ (.head _)))))), offI _ (.tail _ (.tail _ (.tail _ (.tail _ (.tail _ (.tail _ (.head _))))))) ⟩
      have j2 := jI.2.1
      have j3 := jI.2.2.1
      have j4 := jI.2.2.2.1
      have iI : ∀ p ∈ its, p.1 ≠ I := fun p hp => offI _ (mem8 hp)
      have aI : @Ne Nat a I := offI _ (mem8 hmo)
      have aD : @Ne Nat a Ds := iD _ hmo
      have aM : @Ne Nat a (L' + 1 + 1 + 1 + 1 + 1) := iM _ hmo
      have aP : @Ne Nat a (L' + 1 + 1 + 1 + 1) := iP _ hmo
      have aC : @Ne Nat a dc := iC _ hmo
      have N10 := News.sub (news' := (a, ({ cls := .type "list", data := .seq #[.str (X.getD (l.headD 0) default) tx, .int (p : Int) tp] np } : Obj)) :: (I, oI) :: (Ds, listOf ((ord.map fun i => (rv hs).getD i Value.none)).toArray cd) :: (dc, od) :: (L' + 1 + 1 + 1 + 1 + 1, oM) :: (L' + 1 + 1 + 1 + 1, oP) :: (L' + 1 + 1 + 1, oC2) :: (L' + 1 + 1, oT) :: (L' + 1, oR) :: its) N9 (by
        intro q hq
        rcases List.mem_cons.mp hq with rfl | hq
        · exact .tail _ (mem8 hmo)
        · exact hq)
      clear N9
      k_steps
      unfold Halt
      (try clear F9)
      (try clear N10)
      (rename Fr _ _ _ _ => F11)
      (rename News _ _ _ _ => N11)
      rename_i _ Fq Nq _ oP2 dP2
      clear Fq Nq
      have hi6 : i < 6 := Nat.lt_of_lt_of_eq (List.getElem?_eq_some_iff.mp hp).1 hol
      have hcl : cc.length = i := by
        have := congrArg List.length hkeys
        rw [List.length_map, List.length_take, hol] at this
        exact this.trans (Nat.min_eq_left (Nat.le_of_lt hi6))
      have hc16 : cc.length ≤ 16777216 := Nat.le_trans (Nat.le_of_eq hcl) (Nat.le_trans (Nat.le_of_lt hi6) (by decide))
      have hk6 : ∀ q ∈ cc, q.1 < 6 := fun q hq => by
        have : q.1 ∈ ord.take i := by rw [← hkeys]; exact List.mem_map_of_mem hq
        exact List.mem_range.mp (hperm.mem_iff.mp (List.mem_of_mem_take this))
      have hnod : ord.Nodup := hperm.nodup_iff.mpr List.nodup_range
      have hpw : cc.Pairwise fun a b => a.1 ≠ b.1 := by
        have h1 : (cc.map (·.1)).Nodup := by rw [hkeys]; exact hnod.sublist (List.take_sublist _ _)
        rw [List.Nodup, List.pairwise_map] at h1
        exact h1
      have hnew : ∀ q ∈ cc, q.1 ≠ p := fun q hq e => by
        have h1 : q.1 ∈ ord.take i := by rw [← hkeys]; exact List.mem_map_of_mem hq
        obtain ⟨j, hj⟩ := List.mem_iff_getElem?.mp h1
        have hji : j < i := Nat.lt_of_lt_of_le (List.getElem?_eq_some_iff.mp hj).1 (List.length_take_le _ _)
        rw [List.getElem?_take_of_lt hji] at hj
        rw [e] at hj
        exact absurd ((List.getElem?_inj (Nat.lt_trans hji (Nat.lt_of_lt_of_eq hi6 hol.symm)) hnod).mp (hj.trans hp.symm)) (Nat.ne_of_lt hji)
      refine wpAny_Assign_Name ?_ (by with_unfolding_all rfl)
      refine' ListComp_XT (F₀ := F11) ?a2 ?a3 ?a4 ?a5 ?a6 ?a7 ?_
      (case a2 => with_unfolding_all rfl)
      (case a3 => intro n; with_unfolding_all rfl)
      (case a4 => intro h; with_unfolding_all rfl)
      (case a5 => rfl)
      (case a6 => decide)
      (case a7 => intro cs C; with_unfolding_all rfl)
      k_steps
      refine SrcXT.of (Drawn.dict (knd := intKind PySem.Challenge.rw_pd0148_01.row.prog w) (kvs := kvs) rfl F11 N11 ldc (by k_mem) hod) ?hsz fun gx => ?_
      (case hsz => rw [hkv.1, sizeLine_eq]; exact hc16)
      refine compXT_invK (n := kvs.length) (fun i ys => IntsAre ys (zs (metF R p (cc.take i)))) (show (dc, od) ∈ _ by k_mem) (fun j ys hj hys v I₂ oI₂ C₂ oC₂ CA₂ oX₂ A₂ m₂ g₂ k₂ E₂ hv₂ hC₂ hx₂ F4 N4 off₂ ap₂ ne₂ => ?_) (fun ys hys => ?_) _ 0 [] (Nat.zero_add _) .nil
      · refine genH fun Q₂ hQ₂ => ?_
        refine ex2a2 (hkv.key hj hv₂) fun q t' hx eqc => ?_
        subst eqc
        clear F11 N11
        have hq6 := hk6 q (List.mem_of_getElem? hx)
        refine Exists.elim (show ∃ l, R[q.1]? = some l from ⟨_, List.getElem?_eq_getElem (Nat.lt_of_lt_of_eq hq6 hR.symm)⟩) fun lq hlq => ?_
        refine Exists.elim (show ∃ a, rrefs[q.1]? = some a from ⟨_, List.getElem?_eq_getElem (Nat.lt_of_lt_of_eq hq6 (hrR.1.trans hR).symm)⟩) fun aq haq => ?_
        refine ex1a2 (hrR.2 q.1 aq _ haq hlq) fun vq hvq hsq => ?_
        (k_steps; all_goals (try ((first | ((with_reducible rename Held _ => hKQ); refine Held.out hKQ _ _ ?_; clear hKQ; (try dsimp only)) | ((with_reducible rename (∀ f s, KswPost _ _ _ _ _ _ _ _ _ _ _ _ f s → _) => hKQ); refine hKQ _ _ ?_; clear hKQ)); k_steps)); all_goals (try ((first | ((with_reducible rename Held _ => hKQ); refine Held.out hKQ _ _ ?_; clear hKQ; (try dsimp only)) | ((with_reducible rename (∀ f s, KswPost _ _ _ _ _ _ _ _ _ _ _ _ f s → _) => hKQ); refine hKQ _ _ ?_; clear hKQ)); k_steps)))
        unfold Halt
        refine' ListComp_WT (F₀ := F4) ?a2 ?a3 ?a4 ?a5 ?a6 ?_
        (case a2 => with_unfolding_all rfl)
        (case a3 => decide)
        (case a4 => rfl)
        (case a5 => decide)
        (case a6 => rfl)
        (k_steps; all_goals (try ((first | ((with_reducible rename Held _ => hKQ); refine Held.out hKQ _ _ ?_; clear hKQ; (try dsimp only)) | ((with_reducible rename (∀ f s, KswPost _ _ _ _ _ _ _ _ _ _ _ _ f s → _) => hKQ); refine hKQ _ _ ?_; clear hKQ)); k_steps)); all_goals (try ((first | ((with_reducible rename Held _ => hKQ); refine Held.out hKQ _ _ ?_; clear hKQ; (try dsimp only)) | ((with_reducible rename (∀ f s, KswPost _ _ _ _ _ _ _ _ _ _ _ _ f s → _) => hKQ); refine hKQ _ _ ?_; clear hKQ)); k_steps)))
        unfold Halt
        refine item_base F4 hra (Nat.lt_trans hp6 (by decide)) (rv_get hra') ?_
        (k_steps; all_goals (try ((first | ((with_reducible rename Held _ => hKQ); refine Held.out hKQ _ _ ?_; clear hKQ; (try dsimp only)) | ((with_reducible rename (∀ f s, KswPost _ _ _ _ _ _ _ _ _ _ _ _ f s → _) => hKQ); refine hKQ _ _ ?_; clear hKQ)); k_steps)); all_goals (try ((first | ((with_reducible rename Held _ => hKQ); refine Held.out hKQ _ _ ?_; clear hKQ; (try dsimp only)) | ((with_reducible rename (∀ f s, KswPost _ _ _ _ _ _ _ _ _ _ _ _ f s → _) => hKQ); refine hKQ _ _ ?_; clear hKQ)); k_steps)))
        (rename Fr _ _ _ _ => F5)
        (rename News _ _ _ _ => N5)
        refine SrcWT.of (Drawn.list rfl F5 N5 (.inl hvp)) ?hsz fun gy => ?_
        (case hsz => rw [List.size_toArray, sizeLine_eq, hsp.length, zs_len]; exact Nat.le_trans (hle6 l (List.mem_of_getElem? hl)) (by decide))
        refine compT_invK (fun k us => IntsAre us (zs ((l.take k).filter fun x => lq.contains x))) (fun k us hk hus v I₃ oI₃ C₃ oC₃ A₃ m₃ g₃ k₃ E₃ hv₃ hC₃ hx₃ F6 N6 off₃ ne₃ => ?_) (fun us hus => ?_) .nil
        · refine genH fun Q₂ hQ₂ => ?_
          refine ex2a2 (zs_item hsp hv₃) fun xn t3 eqd hxn => ?_
          subst eqd
          clear F5 N5
          (try clear F4)
          (try clear N4)
          (k_steps; all_goals (try ((first | ((with_reducible rename Held _ => hKQ); refine Held.out hKQ _ _ ?_; clear hKQ; (try dsimp only)) | ((with_reducible rename (∀ f s, KswPost _ _ _ _ _ _ _ _ _ _ _ _ f s → _) => hKQ); refine hKQ _ _ ?_; clear hKQ)); k_steps)); all_goals (try ((first | ((with_reducible rename Held _ => hKQ); refine Held.out hKQ _ _ ?_; clear hKQ; (try dsimp only)) | ((with_reducible rename (∀ f s, KswPost _ _ _ _ _ _ _ _ _ _ _ _ f s → _) => hKQ); refine hKQ _ _ ?_; clear hKQ)); k_steps)))
          unfold Halt
          refine item_base F6 hra (Nat.lt_trans hq6 (by decide)) (rv_get haq) ?_
          (k_steps; all_goals (try ((first | ((with_reducible rename Held _ => hKQ); refine Held.out hKQ _ _ ?_; clear hKQ; (try dsimp only)) | ((with_reducible rename (∀ f s, KswPost _ _ _ _ _ _ _ _ _ _ _ _ f s → _) => hKQ); refine hKQ _ _ ?_; clear hKQ)); k_steps)); all_goals (try ((first | ((with_reducible rename Held _ => hKQ); refine Held.out hKQ _ _ ?_; clear hKQ; (try dsimp only)) | ((with_reducible rename (∀ f s, KswPost _ _ _ _ _ _ _ _ _ _ _ _ f s → _) => hKQ); refine hKQ _ _ ?_; clear hKQ)); k_steps)))
          unfold Halt
          refine in_list_ints ?hl hsq ?_
          (case hl => exact hvq.at fun o e => F6.keep _ o e)
          rw [zs_any]
          generalize hb : lq.contains xn = b
          cases b
          · (k_steps; all_goals (try ((first | ((with_reducible rename Held _ => hKQ); refine Held.out hKQ _ _ ?_; clear hKQ; (try dsimp only)) | ((with_reducible rename (∀ f s, KswPost _ _ _ _ _ _ _ _ _ _ _ _ f s → _) => hKQ); refine hKQ _ _ ?_; clear hKQ)); k_steps)); all_goals (try ((first | ((with_reducible rename Held _ => hKQ); refine Held.out hKQ _ _ ?_; clear hKQ; (try dsimp only)) | ((with_reducible rename (∀ f s, KswPost _ _ _ _ _ _ _ _ _ _ _ _ f s → _) => hKQ); refine hKQ _ _ ?_; clear hKQ)); k_steps)))
            unfold Halt
            refine CompEnd.same F6 N6 off₃ (.inl hvp) ⟨rfl, ?_⟩
            rw [filt_nat hxn, if_neg (by rw [hb]; exact Bool.false_ne_true), List.append_nil]
            exact hus
          · (k_steps; all_goals (try ((first | ((with_reducible rename Held _ => hKQ); refine Held.out hKQ _ _ ?_; clear hKQ; (try dsimp only)) | ((with_reducible rename (∀ f s, KswPost _ _ _ _ _ _ _ _ _ _ _ _ f s → _) => hKQ); refine hKQ _ _ ?_; clear hKQ)); k_steps)); all_goals (try ((first | ((with_reducible rename Held _ => hKQ); refine Held.out hKQ _ _ ?_; clear hKQ; (try dsimp only)) | ((with_reducible rename (∀ f s, KswPost _ _ _ _ _ _ _ _ _ _ _ _ f s → _) => hKQ); refine hKQ _ _ ?_; clear hKQ)); k_steps)))
            unfold Halt
            refine CompEnd.same F6 N6 off₃ (.inl hvp) ⟨rfl, ?_⟩
            rw [filt_nat hxn, if_pos hb, zs_append]
            exact hus.append (.cons _ _ .nil)
        · have hull : l.take vp.toArray.size = l := List.take_of_length_le (by rw [List.size_toArray, hsp.length, zs_len]; exact Nat.le_refl _)
          rw [hull] at hus
          intro D6 h21 tk21 F7 N7 o7
          clear F5 N5
          (try clear F4)
          (try clear N4)
          have hmt := meets_eq hl hlq
          refine truthy_vals N7 (.head _) (by rw [hus.length, zs_len]; exact Nat.lt_of_le_of_lt (Nat.le_trans (List.length_filter_le _ _) (hle6 l (List.mem_of_getElem? hl))) (by decide)) fun tk22 => ?_
          have e5 := ints_empty hus
          rw [e5, ← hmt]
          have hms := metF_step R p hx
          generalize hb : meets R p q.1 = b at *
          cases b
          · (k_steps; all_goals (try ((first | ((with_reducible rename Held _ => hKQ); refine Held.out hKQ _ _ ?_; clear hKQ; (try dsimp only)) | ((with_reducible rename (∀ f s, KswPost _ _ _ _ _ _ _ _ _ _ _ _ f s → _) => hKQ); refine hKQ _ _ ?_; clear hKQ)); k_steps)); all_goals (try ((first | ((with_reducible rename Held _ => hKQ); refine Held.out hKQ _ _ ?_; clear hKQ; (try dsimp only)) | ((with_reducible rename (∀ f s, KswPost _ _ _ _ _ _ _ _ _ _ _ _ f s → _) => hKQ); refine hKQ _ _ ?_; clear hKQ)); k_steps)))
            unfold Halt
            refine LCg.CompEnd.intro F7 N7 _ (fun _ hp => .tail _ hp) off₂ trivial ⟨rfl, ?_⟩
            rw [hms, if_neg Bool.false_ne_true, List.append_nil]
            exact hys
          · refine Exists.elim (hkv.value (colOf_at hpw hx)) fun t2 hval => ?_
            (k_steps; all_goals (try ((first | ((with_reducible rename Held _ => hKQ); refine Held.out hKQ _ _ ?_; clear hKQ; (try dsimp only)) | ((with_reducible rename (∀ f s, KswPost _ _ _ _ _ _ _ _ _ _ _ _ f s → _) => hKQ); refine hKQ _ _ ?_; clear hKQ)); k_steps)); all_goals (try ((first | ((with_reducible rename Held _ => hKQ); refine Held.out hKQ _ _ ?_; clear hKQ; (try dsimp only)) | ((with_reducible rename (∀ f s, KswPost _ _ _ _ _ _ _ _ _ _ _ _ f s → _) => hKQ); refine hKQ _ _ ?_; clear hKQ)); k_steps)))
            unfold Halt
            refine kda_item N7 (show (dc, od) ∈ _ by k_mem) hod (by simp [intKind, Value.isInt]) hval ?_
            (k_steps; all_goals (try ((first | ((with_reducible rename Held _ => hKQ); refine Held.out hKQ _ _ ?_; clear hKQ; (try dsimp only)) | ((with_reducible rename (∀ f s, KswPost _ _ _ _ _ _ _ _ _ _ _ _ f s → _) => hKQ); refine hKQ _ _ ?_; clear hKQ)); k_steps)); all_goals (try ((first | ((with_reducible rename Held _ => hKQ); refine Held.out hKQ _ _ ?_; clear hKQ; (try dsimp only)) | ((with_reducible rename (∀ f s, KswPost _ _ _ _ _ _ _ _ _ _ _ _ f s → _) => hKQ); refine hKQ _ _ ?_; clear hKQ)); k_steps)))
            unfold Halt
            refine LCg.CompEnd.intro F7 N7 _ (fun _ hp => .tail _ hp) off₂ trivial ⟨rfl, ?_⟩
            rw [hms, if_pos rfl, zs_append]
            exact hys.append (.cons _ _ .nil)
      · intro D5 h20 tk20 F20 N20 o20
        clear F11 N11
        have nD5 : (@Ne Nat a D5) ∧ (@Ne Nat I D5) ∧ (@Ne Nat Ds D5) ∧ (@Ne Nat dc D5) ∧ (@Ne Nat (L' + 1 + 1 + 1 + 1 + 1) D5) ∧ (@Ne Nat (L' + 1 + 1 + 1 + 1) D5) ∧ (@Ne Nat (L' + 1 + 1 + 1) D5) ∧ (@Ne Nat (L' + 1 + 1) D5) ∧ (@Ne Nat (L' + 1) D5) :=
          ⟨o20.1, o20.2.1, o20.2.2.1, o20.2.2.2.1, o20.2.2.2.2.1, o20.2.2.2.2.2.1, o20.2.2.2.2.2.2.1, o20.2.2.2.2.2.2.2.1, o20.2.2.2.2.2.2.2.2.1⟩
        have n5 := nD5.2.2.2.2.1
        have iD5 : ∀ p ∈ its, p.1 ≠ D5 := fun p hp => off1_mem o20 p (.tail _ (.tail _ (mem8 hp)))
        clear o20
        have hmf : metF R p (cc.take kvs.length) = metF R p cc := by rw [hkv.1, List.take_length]
        rw [hmf] at hys
        have hml : (metF R p cc).length ≤ 5 := by
          unfold metF
          rw [List.length_map]
          exact Nat.le_trans (List.length_filter_le _ _) (hcl ▸ Nat.le_of_lt_succ hi6)
        refine ex2a1 (free_ne hml) fun x0 r0 hfree => ?_
        have hmin := free_min hfree
        k_steps
        unfold Halt
        (try clear F20)
        (try clear N20)
        (rename Fr _ _ _ _ => F21)
        (rename News _ _ _ _ => N21)
        rename_i _ oM2 dM2
        refine' ListComp_WT (F₀ := F21) ?a2 ?a3 ?a4 ?a5 ?a6 ?_
        (case a2 => with_unfolding_all rfl)
        (case a3 => decide)
        (case a4 => rfl)
        (case a5 => decide)
        (case a6 => rfl)
        k_steps
        unfold Halt
        refine len_base (n := 6) F21 hra (by rw [List.size_toArray, rv_len, hrR.1, hR]) (by decide) ?_
        k_steps
        (rename Fr _ _ _ _ => F22)
        (rename News _ _ _ _ => N22)
        (rename IsRange _ _ _ _ _ _ _ _ => R22)
        refine SrcWT.of (Drawn.range (n := 6) rfl F22 N22 R22 rfl rfl) ?hsz fun gz => ?_
        (case hsz => decide)
        clear R22
        refine compT_invK (fun k us => IntsAre us (zs (((List.range 6).take k).filter fun x => !(metF R p cc).contains x))) (fun k us hk hus v I₃ oI₃ C₃ oC₃ A₃ m₃ g₃ k₃ E₃ hv₃ hC₃ hx₃ F6 N6 off₃ ne₃ => ?_) (fun us hus => ?_) .nil
        · refine genH fun Q₂ hQ₂ => ?_
          refine Exists.elim (hv₃) fun t3 eqe => ?_
          clear hv₃
          subst eqe
          clear F22 N22
          (try clear F21)
          (try clear N21)
          rw [Int.zero_add] at *
          have hxk : (List.range 6)[k]? = some k := List.getElem?_range hk
          (k_steps; all_goals (try ((first | ((with_reducible rename Held _ => hKQ); refine Held.out hKQ _ _ ?_; clear hKQ; (try dsimp only)) | ((with_reducible rename (∀ f s, KswPost _ _ _ _ _ _ _ _ _ _ _ _ f s → _) => hKQ); refine hKQ _ _ ?_; clear hKQ)); k_steps)); all_goals (try ((first | ((with_reducible rename Held _ => hKQ); refine Held.out hKQ _ _ ?_; clear hKQ; (try dsimp only)) | ((with_reducible rename (∀ f s, KswPost _ _ _ _ _ _ _ _ _ _ _ _ f s → _) => hKQ); refine hKQ _ _ ?_; clear hKQ)); k_steps)))
          unfold Halt
          refine notin_list_ints (vs := ys) ⟨_, (N6 (D5, listOf ys.toArray ys.length) (by k_mem)).1, rfl, _, rfl⟩ hys ?_
          rw [zs_any]
          generalize hb : (!(metF R p cc).contains k) = b
          cases b
          · (k_steps; all_goals (try ((first | ((with_reducible rename Held _ => hKQ); refine Held.out hKQ _ _ ?_; clear hKQ; (try dsimp only)) | ((with_reducible rename (∀ f s, KswPost _ _ _ _ _ _ _ _ _ _ _ _ f s → _) => hKQ); refine hKQ _ _ ?_; clear hKQ)); k_steps)); all_goals (try ((first | ((with_reducible rename Held _ => hKQ); refine Held.out hKQ _ _ ?_; clear hKQ; (try dsimp only)) | ((with_reducible rename (∀ f s, KswPost _ _ _ _ _ _ _ _ _ _ _ _ f s → _) => hKQ); refine hKQ _ _ ?_; clear hKQ)); k_steps)))
            unfold Halt
            refine CompEnd.same F6 N6 off₃ trivial ⟨rfl, ?_⟩
            rw [filt_nat hxk, if_neg (by rw [hb]; exact Bool.false_ne_true), List.append_nil]
            exact hus
          · (k_steps; all_goals (try ((first | ((with_reducible rename Held _ => hKQ); refine Held.out hKQ _ _ ?_; clear hKQ; (try dsimp only)) | ((with_reducible rename (∀ f s, KswPost _ _ _ _ _ _ _ _ _ _ _ _ f s → _) => hKQ); refine hKQ _ _ ?_; clear hKQ)); k_steps)); all_goals (try ((first | ((with_reducible rename Held _ => hKQ); refine Held.out hKQ _ _ ?_; clear hKQ; (try dsimp only)) | ((with_reducible rename (∀ f s, KswPost _ _ _ _ _ _ _ _ _ _ _ _ f s → _) => hKQ); refine hKQ _ _ ?_; clear hKQ)); k_steps)))
            unfold Halt
            refine CompEnd.same F6 N6 off₃ trivial ⟨rfl, ?_⟩
            rw [filt_nat hxk, if_pos hb, zs_append]
            exact hus.append (.cons _ _ .nil)
        · replace hus : IntsAre us (zs (freeF (metF R p cc))) := hus
          intro D7 h23 tk23 F23 N23 o23
          clear F22 N22
          (try clear F21)
          (try clear N21)
          k_steps
          unfold Halt
          refine kso_min F23 N23 ⟨_, (N23 _ (.head _)).1, rfl, _, rfl⟩ hus ?hne rfl fun h24 M t24 tk24 F24 N24 hM1 hM2 => ?_
          case hne => rw [zs_len, hfree]; exact Nat.zero_lt_succ _
          obtain rfl := hmin M hM1 hM2
          clear F23 N23 hM1 hM2
          k_steps
          unfold Halt
          (rename Fr _ _ _ _ => F26)
          (rename News _ _ _ _ => N26)
          replace N26 := News.sub3 N26 () ()
          refine' kda_set (k := (p : Int)) F26 N26 ?U hod ?ka ?kb ?_
          (case U => k_updF)
          (case ka => simp [intKind, Value.isInt])
          (case kb => rw [hkv.1, sizeLine_eq]; exact hc16)
          intro h25 od2 F27 N27 hod2
          clear F26 N26
          rw [stored_absent (hkv.absent hnew)] at hod2
          dsimp only
          k_steps
          (rename Fr _ _ _ _ => F28)
          (rename News _ _ _ _ => N28)
          refine LedEnd.next F28 N28 ((Ds, listOf ((ord.map fun i => (rv hs).getD i Value.none)).toArray cd) :: (dc, od2) :: (L' + 1 + 1 + 1 + 1 + 1, oM2) :: (L' + 1 + 1 + 1 + 1, oP2) :: (L' + 1 + 1 + 1, oC2) :: (L' + 1 + 1, oT) :: (L' + 1, oR) :: its) (fun q hq => .tail _ hq) ?off (.head _) ⟨cc ++ [(p, x0)], kvs ++ [((p : Int), .int (x0 : Int) t24)], od2, oM2, oP2, rfl, hkv.snoc _ _ _, hod2, ⟨_, dM2⟩, ⟨_, dP2⟩, ?keys, ?due⟩
          case off =>
            intro q hq
            simp only [List.mem_cons] at hq
            rcases hq with rfl | rfl | rfl | rfl | rfl | rfl | rfl | hq
            · exact jI.1
            · exact jI.2.1
            · exact jI.2.2.1
            · exact jI.2.2.2.1
            · exact jI.2.2.2.2.1
            · exact jI.2.2.2.2.2.1
            · exact jI.2.2.2.2.2.2
            · exact iI q hq
          case keys => rw [List.map_append, hkeys, List.take_add_one, hp]; rfl
          case due => rw [hdue, drop_at hp, dueP, hfree]; rfl
    case fin =>
      clear F8 N8 hiD dM dP
      rintro m' nw h9 tk9 hinv
      refine ex5a7 hinv fun cc kvs od oM oP enw hkv hod hxM hxP hkeys hdue => ?_
      clear hinv
      refine Exists.elim hxM fun xM dM => ?_
      refine Exists.elim hxP fun xP dP => ?_
      clear hxM hxP
      subst enw
      rintro F9 N9
      have hol : ord.length = 6 := by rw [hperm.length_eq]; rfl
      rw [List.length_map, hol] at hkeys hdue
      rw [List.take_of_length_le (Nat.le_of_eq hol)] at hkeys
      rw [List.drop_eq_nil_of_le (Nat.le_of_eq hol)] at hdue
      obtain rfl : dueP R ord [] = cc := hdue
      generalize hcc : dueP R ord [] = cc at *
      have hcl : cc.length = 6 := by
        have := congrArg List.length hkeys
        rw [List.length_map, hol] at this
        exact this
      have hpw : cc.Pairwise fun a b => a.1 ≠ b.1 := by
        have h1 : (cc.map (·.1)).Nodup := by rw [hkeys]; exact hperm.nodup_iff.mpr List.nodup_range
        rw [List.Nodup, List.pairwise_map] at h1
        exact h1
      k_steps
      unfold Halt
      refine' ListComp_W (F₀ := F9) ?a2 ?a3 ?a4 ?a5 ?a6 ?_
      (case a2 => with_unfolding_all rfl)
      (case a3 => decide)
      (case a4 => rfl)
      (case a5 => decide)
      (case a6 => rfl)
      k_steps
      unfold Halt
      refine len_base (n := 6) F9 hra (by rw [List.size_toArray, rv_len, hrR.1, hR]) (by decide) ?_
      k_steps
      (rename Fr _ _ _ _ => F22)
      (rename News _ _ _ _ => N22)
      (rename IsRange _ _ _ _ _ _ _ _ => R22)
      refine SrcW.of (Drawn.range (n := 6) rfl F22 N22 R22 rfl rfl) ?hsz fun gz => ?_
      (case hsz => decide)
      clear R22
      refine comp_invK (fun i ys => IntsAre ys (zs ((List.range i).map fun k => (colOf cc k).getD 0))) (fun i ys hi hys v I₂ oI₂ C₂ oC₂ A₂ m₂ g₂ k₂ E₂ hv₂ hC₂ hx₂ F4 N4 off₂ ne₂ => ?_) (fun ys hys => ?_) .nil
      · refine genH fun Q₂ hQ₂ => ?_
        refine Exists.elim (hv₂) fun t3 eqf => ?_
        clear hv₂
        subst eqf
        clear F22 N22
        (try clear F9)
        (try clear N9)
        rw [Int.zero_add] at *
        have hcv : ∃ v, colOf cc i = some v := by
          have : i ∈ cc.map (·.1) := by rw [hkeys]; exact hperm.mem_iff.mpr (List.mem_range.mpr hi)
          obtain ⟨q, hq, rfl⟩ := List.mem_map.mp this
          obtain ⟨j, hj⟩ := List.mem_iff_getElem?.mp hq
          exact ⟨_, colOf_at hpw hj⟩
        refine Exists.elim hcv fun v hv => ?_
        clear hcv
        refine Exists.elim (hkv.value hv) fun t2 hval => ?_
        (k_steps; all_goals (try ((first | ((with_reducible rename Held _ => hKQ); refine Held.out hKQ _ _ ?_; clear hKQ; (try dsimp only)) | ((with_reducible rename (∀ f s, KswPost _ _ _ _ _ _ _ _ _ _ _ _ f s → _) => hKQ); refine hKQ _ _ ?_; clear hKQ)); k_steps)); all_goals (try ((first | ((with_reducible rename Held _ => hKQ); refine Held.out hKQ _ _ ?_; clear hKQ; (try dsimp only)) | ((with_reducible rename (∀ f s, KswPost _ _ _ _ _ _ _ _ _ _ _ _ f s → _) => hKQ); refine hKQ _ _ ?_; clear hKQ)); k_steps)))
        unfold Halt
        refine kda_item N4 (show (dc, od) ∈ _ by k_mem) hod (by simp [intKind, Value.isInt]) hval ?_
        (k_steps; all_goals (try ((first | ((with_reducible rename Held _ => hKQ); refine Held.out hKQ _ _ ?_; clear hKQ; (try dsimp only)) | ((with_reducible rename (∀ f s, KswPost _ _ _ _ _ _ _ _ _ _ _ _ f s → _) => hKQ); refine hKQ _ _ ?_; clear hKQ)); k_steps)); all_goals (try ((first | ((with_reducible rename Held _ => hKQ); refine Held.out hKQ _ _ ?_; clear hKQ; (try dsimp only)) | ((with_reducible rename (∀ f s, KswPost _ _ _ _ _ _ _ _ _ _ _ _ f s → _) => hKQ); refine hKQ _ _ ?_; clear hKQ)); k_steps)))
        unfold Halt
        refine CompEnd.same F4 N4 off₂ trivial ⟨rfl, ?_⟩
        rw [List.range_succ, List.map_append, zs_append]
        refine hys.append ?_
        rw [List.map_singleton, hv]
        exact .cons _ _ .nil
      · intro E3 h12 tk12 F12 N12 o12
        have hm12 := N12 _ (.head _)
        (try k_steps)
        (try dsimp only)
        (try k_unfold)
        exact h _ _ _ _ _ F12.keep hm12.2.2 hm12.1 hys
end
end D16Part
section E18Part
set_option linter.unusedVariables false
section
variable {h₀ h h' : Heap} {L : Addr} {m : Str → Option Value}
theorem keep_hide1 (F : Fr h₀ L h m) : ∀ b o, h₀.get? b = some o → (hideAll h [L]).get? b = some o := fun b o e => hideAll_get _ (F.keep b o e) fun q => by
  simp only [List.mem_cons, List.not_mem_nil, or_false] at q
  subst q; rw [Heap.get?_none_of_le F.above] at e; cases e
theorem get_hide1 {rest : List (Addr × Obj)} (N : News h₀ L h rest) : ∀ p ∈ rest, (hideAll h [L]).get? p.1 = some p.2 := fun p hp => hideAll_get _ (N p hp).1 fun q => (N p hp).2.1 (List.mem_singleton.mp q)
theorem Fr.back1 (F : Fr h₀ L h m) {o1 : Obj} (e1 : h.get? L = some o1) (k : ∀ c o, (hideAll h [L]).get? c = some o → h'.get? c = some o) (e1' : ∃ sl, h'.get? L = some { o1 with slots := sl }) : Fr h₀ L h' m := by
  obtain ⟨oL, es, ep, hL, hd, hk, hn⟩ := F.ns
  rw [e1] at hL
  cases hL
  obtain ⟨sl, e⟩ := e1'
  exact ⟨⟨_, es, ep, e, hd, hk, hn⟩, fun c o q => k _ _ (keep_hide1 F c o q), F.above⟩
theorem News.back1 {rest : List (Addr × Obj)} (N : News h₀ L h rest) (k : ∀ c o, (hideAll h [L]).get? c = some o → h'.get? c = some o) : News h₀ L h' rest := fun p hp => ⟨k _ _ (get_hide1 N p hp), (N p hp).2⟩
theorem St.hide1 {w : World} {mean : ExcName → Option Value} {mg mb : Str → Option Value} (X : (hd.heap_1 w.params).In h₀) (T : Top hd.view_1 (looseW hd.view_1 []) mean mg mb h₀) (F : Fr h₀ L h m) : St w mean mg mb (hideAll h [L]) :=
  ⟨X.keeps (keep_hide1 F), T.keeps (keep_hide1 F)⟩
theorem News.add1 {rest : List (Addr × Obj)} (F : Fr h₀ L h m) (N : News h₀ L h' rest) {X : Addr} {o : Obj} (hX : (hideAll h [L]).get? X = none) (hL : X ≠ L) (e : h'.get? X = some o) : News h₀ L h' ((X, o) :: rest) := by
  intro p hp
  rcases List.mem_cons.mp hp with rfl | hp
  · refine ⟨e, hL, ?_⟩
    cases q : h₀.get? X with
    | none => rfl
    | some o' => rw [keep_hide1 F _ _ q] at hX; cases hX
  · exact N p hp
theorem News.ne1 {rest : List (Addr × Obj)} (N : News h₀ L h rest) {X : Addr} (hX : (hideAll h [L]).get? X = none) : ∀ p ∈ rest, @Ne Nat p.1 X := fun p hp e => by
  have := get_hide1 N p hp
  rw [e, hX] at this
  cases this
end
end E18Part
section E19Part
set_option linter.unusedVariables false
/-- the table of a set of numbers below six -/
noncomputable def tabN (b : Bool) (l : List Nat) : SetTable := { mask := if 5 ≤ l.length then 31 else 7, place := l.toArray, dummies := #[], finger := 0, led := b, moves := if 5 ≤ l.length then 1 else 0, plain := true }
noncomputable def entN (l : List Nat) (vs : List Value) : List (Int × Value) := (l.map fun (n : Nat) => (n : Int)).zip vs
noncomputable def setN (w : World) (l : List Nat) (ep : Nat) (vs : List Value) : Obj := { cls := .type "set", dict := none, data := .set (entN l vs).toArray ep (tabN (!byText w) l) }
noncomputable def SetN (w : World) (o : Obj) (us : List Nat) : Prop := ∃ vs ep, IntsAre vs (zs (dsort us)) ∧ o = setN w (dsort us) ep vs
/-- with one more number -/
noncomputable def insN (l : List Nat) (u : Nat) : List Nat := (List.range 6).filter fun c => l.contains c || c == u
noncomputable def posN (l : List Nat) (u : Nat) : Nat := (l.filter fun c => decide (c < u)).length
noncomputable def tabA (b : Bool) (l : List Nat) (u : Nat) : SetTable := { tabN b l with place := (insN l u).toArray }
noncomputable def okAdd (b : Bool) (l : List Nat) (u : Nat) : Bool :=
  (l.contains u && (insN l u == l)) || (!l.contains u &&
    ((tabN b l).freeSlot (u : Int) == some (u, false)) && decide ((tabN b l).put u = (tabA b l u, posN l u)) && (tabA b l u).fits (l.length + 1) &&
    (l.take (posN l u) ++ u :: l.drop (posN l u) == insN l u) && ((tabA b l u).tooFull == (l.length == 4)) &&
    (if l.length == 4 then decide ((tabA b l u).relaid ((insN l u).map fun (n : Nat) => (n : Int)).toArray (SetTable.grown 5) = some (tabN b (insN l u), #[0, 1, 2, 3, 4])) && coversAll #[0, 1, 2, 3, 4] 5 && (tabN b (insN l u)).fits 5 else decide (tabA b l u = tabN b (insN l u))))
set_option maxRecDepth 1000000
theorem okAdd_all : ([true, false].all fun b => (allSubs 6).all fun l => (List.range 6).all fun u => okAdd b l u) = true := by decide +kernel
theorem okTab_all : ([true, false].all fun b => (allSubs 6).all fun l => (tabN b l).fits l.length) = true := by decide +kernel
theorem okAdd_of {b : Bool} {l : List Nat} {u : Nat} (hl : l ∈ allSubs 6) (hu : u < 6) : okAdd b l u = true := by
  have h := List.all_eq_true.mp okAdd_all b (by cases b <;> simp)
  exact List.all_eq_true.mp (List.all_eq_true.mp h l hl) u (List.mem_range.mpr hu)
theorem okTab_of {b : Bool} {l : List Nat} (hl : l ∈ allSubs 6) : (tabN b l).fits l.length = true := by
  have h := List.all_eq_true.mp okTab_all b (by cases b <;> simp)
  exact List.all_eq_true.mp h l hl
theorem filter_subs (f : Nat → Bool) : ∀ k, (List.range k).filter f ∈ allSubs k
  | 0 => .head _
  | k + 1 => by
    rw [List.range_succ, List.filter_append]
    cases h : f k with
    | true =>
      have e : [k].filter f = [k] := by simp [h]
      rw [e]
      exact List.mem_append_right _ (List.mem_map.mpr ⟨_, filter_subs f k, rfl⟩)
    | false =>
      have e : [k].filter f = [] := by simp [h]
      rw [e, List.append_nil]
      exact List.mem_append_left _ (filter_subs f k)
theorem dsort_subs (us : List Nat) : dsort us ∈ allSubs 6 := filter_subs _ 6
theorem insN_subs (l : List Nat) (u : Nat) : insN l u ∈ allSubs 6 := filter_subs _ 6
theorem dsort_snoc (us : List Nat) (u : Nat) : dsort (us ++ [u]) = insN (dsort us) u := by
  unfold insN
  show (List.range 6).filter _ = _
  refine List.filter_congr fun c hc => ?_
  have h1 : (dsort us).contains c = us.contains c := by
    unfold dsort
    rw [Bool.eq_iff_iff, List.contains_iff_mem, List.contains_iff_mem, List.mem_filter, List.contains_iff_mem]
    exact ⟨fun h => h.2, fun h => ⟨hc, h⟩⟩
  rw [h1, Bool.eq_iff_iff]
  simp [List.contains_iff_mem]
theorem insertAt_eq {α : Type} (xs : List α) (p : Nat) (x : α) : SetTable.insertAt xs.toArray p x = (xs.take p ++ x :: xs.drop p).toArray := by
  unfold SetTable.insertAt
  apply Array.toList_inj.mp
  simp [List.take_of_length_le]
theorem ent_len {l : List Nat} {vs : List Value} (h : IntsAre vs (zs l)) : (entN l vs).length = l.length := by
  have := h.length
  rw [zs_len] at this
  unfold entN
  rw [List.length_zip, List.length_map]
  omega
theorem ent_ins {l : List Nat} {vs : List Value} (h : IntsAre vs (zs l)) {u : Nat} {x : Value} (p : Nat) : (entN l vs).take p ++ ((u : Int), x) :: (entN l vs).drop p = entN (l.take p ++ u :: l.drop p) (vs.take p ++ x :: vs.drop p) := by
  have hl := h.length
  rw [zs_len] at hl
  unfold entN
  rw [List.map_append, List.zip_append (by rw [List.length_map, List.length_take, List.length_take, hl]), List.map_cons, List.zip_cons_cons]
  simp only [List.zip_eq_zipWith, List.take_zipWith, List.drop_zipWith, List.map_take, List.map_drop]
theorem ints_ins {l : List Nat} {vs : List Value} (h : IntsAre vs (zs l)) {u : Nat} {t : Tok} (p : Nat) : IntsAre (vs.take p ++ Value.int (u : Int) t :: vs.drop p) (zs (l.take p ++ u :: l.drop p)) := by
  rw [zs_append]
  refine IntsAre.append ?_ ?_
  · have := h.take p
    unfold zs at this ⊢
    rw [List.map_take]; exact this
  · refine .cons _ _ ?_
    have := h.drop p
    unfold zs at this
    rw [List.map_drop]; exact this
theorem layN {b : Bool} {l : List Nat} {vs : List Value} {u : Nat} {t : Tok} (hl : l ∈ allSubs 6) (hu : u < 6) (hn : u ∉ l) (h : IntsAre vs (zs l)) :
    layNew (tabN b l) (entN l vs).toArray (u : Int) (.int (u : Int) t) = ((entN (insN l u) (vs.take (posN l u) ++ Value.int (u : Int) t :: vs.drop (posN l u))).toArray, tabA b l u, false, false) := by
  have ok := okAdd_of (b := b) hl hu
  have hc : l.contains u = false := by simpa using hn
  unfold okAdd at ok
  simp only [hc, Bool.false_and, Bool.false_or, Bool.not_false, Bool.true_and, Bool.and_eq_true, beq_iff_eq, decide_eq_true_eq] at ok
  obtain ⟨⟨⟨⟨⟨o1, o2⟩, o3⟩, o4⟩, o5⟩, o6⟩ := ok
  have e1 : SetTable.insertAt (entN l vs).toArray (posN l u) ((u : Int), Value.int (u : Int) t) = (entN (insN l u) (vs.take (posN l u) ++ Value.int (u : Int) t :: vs.drop (posN l u))).toArray := by
    rw [insertAt_eq, ent_ins h, o4]
  have hsz : (entN (insN l u) (vs.take (posN l u) ++ Value.int (u : Int) t :: vs.drop (posN l u))).toArray.size = l.length + 1 := by
    have := ints_ins (u := u) (t := t) h (posN l u)
    rw [o4] at this
    rw [List.size_toArray, ent_len this, ← o4, List.length_append, List.length_cons, List.length_take, List.length_drop]
    omega
  unfold layNew
  rw [o1]
  dsimp only
  rw [o2]
  dsimp only
  rw [e1]
  unfold SetTable.orStandIn
  rw [hsz, o3]
  rfl
end E19Part
section E20Part
set_option linter.unusedVariables false
theorem subs_lt : ((allSubs 6).all fun l => l.all fun n => decide (n < 6)) = true := by decide +kernel
theorem subs_len : ((allSubs 6).all fun l => decide (l.length ≤ 6)) = true := by decide +kernel
theorem hash6 {n : Nat} (h : n < 6) : hashInt (n : Int) = (n : Int) := by
  match n, h with
  | 0, _ => rfl
  | 1, _ => rfl
  | 2, _ => rfl
  | 3, _ => rfl
  | 4, _ => rfl
  | 5, _ => rfl
section
variable {prog : Program} {w : World} {A : Around} {E : Value → Shared → Prop} {s : Shared}
theorem ent_mem {l : List Nat} {vs : List Value} (h : IntsAre vs (zs l)) {e : Int × Value} (he : e ∈ entN l vs) : ∃ n ∈ l, ∃ t, e = ((n : Int), .int (n : Int) t) := by
  obtain ⟨i, hi⟩ := List.mem_iff_getElem?.mp he
  unfold entN at hi
  rw [List.getElem?_zip_eq_some] at hi
  obtain ⟨h1, h2⟩ := hi
  rw [List.getElem?_map] at h1
  cases hl : l[i]? with
  | none => rw [hl] at h1; cases h1
  | some n =>
    rw [hl] at h1
    obtain ⟨x, t, hv, hx⟩ := zs_item h (i := i) (v := e.2) (by simpa using h2)
    rw [hl] at hx
    cases hx
    refine ⟨n, List.mem_of_getElem? hl, t, ?_⟩
    have h3 : e.1 = (n : Int) := (Option.some.inj h1).symm
    obtain ⟨e1, e2⟩ := e
    simp only at h3 hv
    rw [h3, hv]
theorem ent_elems {l : List Nat} {vs : List Value} (hl : l ∈ allSubs 6) (h : IntsAre vs (zs l)) : ElemsOf (intKind prog w) (entN l vs).toArray.toList := by
  intro e he
  rw [List.toList_toArray] at he
  obtain ⟨n, hn, t, rfl⟩ := ent_mem h he
  have h6 : n < 6 := by
    have := List.all_eq_true.mp (List.all_eq_true.mp subs_lt l hl) n hn
    simpa using this
  refine ⟨⟨(n : Int), ?_, ?_⟩, rfl⟩
  · simp [intKind, Value.isInt]
  · show (n : Int) = hashInt (n : Int)
    rw [hash6 h6]
theorem ent_find {l : List Nat} {vs : List Value} (h : IntsAre vs (zs l)) (u : Nat) : (((entN l vs).toArray.toList.findIdx? fun e => (intKind prog w).is (u : Int) e.2).isSome = true) ↔ u ∈ l := by
  rw [List.toList_toArray, List.findIdx?_isSome, List.any_eq_true]
  constructor
  · rintro ⟨e, he, hk⟩
    obtain ⟨n, hn, t, rfl⟩ := ent_mem h he
    have : (n : Int) = (u : Int) := by simpa [intKind, Value.isInt] using hk
    have : n = u := by omega
    rw [← this]; exact hn
  · intro hu
    obtain ⟨i, hi⟩ := List.mem_iff_getElem?.mp hu
    have hl := h.length
    rw [zs_len] at hl
    obtain ⟨v, hv⟩ : ∃ v, vs[i]? = some v := ⟨_, List.getElem?_eq_getElem (by have := (List.getElem?_eq_some_iff.mp hi).1; omega)⟩
    obtain ⟨x, t, rfl, hx⟩ := zs_item h (i := i) (v := v) (by simpa using hv)
    rw [hi] at hx
    cases hx
    refine ⟨((u : Int), .int (u : Int) t), ?_, by simp [intKind, Value.isInt]⟩
    unfold entN
    refine List.mem_iff_getElem?.mpr ⟨i, ?_⟩
    rw [List.getElem?_zip_eq_some]
    exact ⟨by rw [List.getElem?_map, hi]; rfl, hv⟩
theorem setN_fits {l : List Nat} {vs : List Value} (hl : l ∈ allSubs 6) (h : IntsAre vs (zs l)) : (tabN (!byText w) l).fits (entN l vs).toArray.size = true := by
  rw [List.size_toArray, ent_len h]
  exact okTab_of hl
theorem ent_bound {l : List Nat} {vs : List Value} (hl : l ∈ allSubs 6) (h : IntsAre vs (zs l)) : (entN l vs).toArray.size < scanBound := by
  rw [List.size_toArray, ent_len h]
  have := List.all_eq_true.mp subs_len l hl
  have h6 : l.length ≤ 6 := by simpa using this
  exact Nat.lt_of_le_of_lt h6 (by decide)
theorem five {α : Type} (xs : Array α) (h : xs.size = 5) : #[0, 1, 2, 3, 4].filterMap (fun i => xs[i]?) = xs := by
  obtain ⟨l⟩ := xs
  match l, h with
  | [a, b, c, d, e], _ => rfl
theorem scan_nat {a : Addr} {o : Obj} {es : Array (Int × Value)} {ep : Nat} {tb : SetTable} {u : Nat} {t : Tok} {Q : ScanMet → Shared → Prop} (hu : u < 6) (ho : s.heap.get? a = some o) (hd : o.data = .set es ep tb) (hf : tb.fits es.size = true) (hel : ElemsOf (intKind prog w) es.toList)
    (h : Q (match es.toList.findIdx? (fun e => (intKind prog w).is (u : Int) e.2) with | some j => .found (0 + j) | none => .absent) s) : wpAny (model prog w) A (setScan a (.int (u : Int) t) (u : Int) true es) Q E s := by
  have hkey : (intKind prog w).is (u : Int) (.int (u : Int) t) = true := by simp [intKind, Value.isInt]
  have := wpAny_setScan_of (A := A) (E := E) (knd := intKind prog w) (adding := true) (k := (u : Int)) hkey ho hd hf hel h
  rw [show (intKind prog w).hash (u : Int) = (u : Int) from hash6 hu] at this
  exact this
/-- one number more -/
theorem add_nat {S : Addr} {l : List Nat} {vs : List Value} {ep u : Nat} {t : Tok} {Q : Bool → Shared → Prop} (hl : l ∈ allSubs 6) (hu : u < 6) (hv : IntsAre vs (zs l)) (ho : s.heap.get? S = some (setN w l ep vs))
    (h : ∀ b h' vs' ep', Heap.SameBut S s.heap h' → IntsAre vs' (zs (insN l u)) → h'.get? S = some (setN w (insN l u) ep' vs') → Q b { s with heap := h' }) :
    wpAny (model prog w) A (setAddHashed S (.int (u : Int) t) (u : Int)) Q E s := by
  have hd : (setN w l ep vs).data = .set (entN l vs).toArray ep (tabN (!byText w) l) := rfl
  have hf := setN_fits (w := w) hl hv
  have hel : ElemsOf (intKind prog w) (entN l vs).toArray.toList := ent_elems hl hv
  have hb := ent_bound hl hv
  have hsc : (Value.int (u : Int) t).scannable = true := rfl
  have hkey : (intKind prog w).is (u : Int) (.int (u : Int) t) = true := by simp [intKind, Value.isInt]
  unfold setAddHashed setAddHashedIn
  refine wpAny_holding (wpAny_bind (wpAny_setState_of ho hd hf ?_))
  dsimp only
  rw [byScan_of hsc hb hel]
  simp only [↓reduceIte]
  unfold setAddByScan
  refine wpAny_bind ?_
  refine wpAny_bind (wpAny_rule ?_)
  refine wpAny_bind (scan_nat hu ho hd hf hel ?_)
  have hfi := ent_find (prog := prog) (w := w) hv u
  have ok := okAdd_of (b := !byText w) hl hu
  cases hr : (entN l vs).toArray.toList.findIdx? (fun e => (intKind prog w).is (u : Int) e.2) with
  | some j =>
    have hm : u ∈ l := hfi.mp (by rw [hr]; rfl)
    have hc : l.contains u = true := List.contains_iff_mem.mpr hm
    unfold okAdd at ok
    simp only [hc, Bool.true_and, Bool.not_true, Bool.false_and, Bool.or_false, beq_iff_eq] at ok
    dsimp only
    refine wpAny_pure (wpAny_pure ?_)
    have e : s = { s with heap := s.heap } := by cases s; rfl
    rw [e]
    exact h _ _ vs ep (Heap.SameBut.refl S s.heap) (by rw [ok]; exact hv) (by rw [ok]; exact ho)
  | none =>
    have hm : u ∉ l := fun q => by have := hfi.mpr q; rw [hr] at this; cases this
    have hc : l.contains u = false := by simpa using hm
    dsimp only
    rw [layN hl hu hm hv]
    unfold okAdd at ok
    simp only [hc, Bool.false_and, Bool.false_or, Bool.not_false, Bool.true_and, Bool.and_eq_true, beq_iff_eq, decide_eq_true_eq] at ok
    obtain ⟨⟨⟨⟨⟨o1, o2⟩, o3⟩, o4⟩, o5⟩, o6⟩ := ok
    have hvn : IntsAre (vs.take (posN l u) ++ Value.int (u : Int) t :: vs.drop (posN l u)) (zs (insN l u)) := by
      have := ints_ins (u := u) (t := t) hv (posN l u)
      rw [o4] at this
      exact this
    generalize vs.take (posN l u) ++ Value.int (u : Int) t :: vs.drop (posN l u) = vn at *
    have hln : (insN l u).length = l.length + 1 := by
      rw [← o4, List.length_append, List.length_cons, List.length_take, List.length_drop]
      omega
    have hbn := ent_bound (insN_subs l u) hvn
    dsimp only
    refine wpAny_bind (show wpAny _ _ (pure ()) _ _ _ from wpAny_pure ?_)
    have hp : (tabA (!byText w) l u).plain = true := rfl
    rw [if_pos hp]
    refine wpAny_bind ?_
    rw [hashByValue_scannable 8 hsc]
    refine wpAny_pure ?_
    have pk : plainKind (Value.int (u : Int) t) = true := rfl
    simp only [pk, if_true, Bool.not_false, Bool.true_and]
    refine wpAny_bind (wpAny_storeSet_of ho hd ?_ (fits_of_scanBound hbn))
    have hg1 : (s.heap.update S (Obj.putSet (entN (insN l u) vn).toArray (tabA (!byText w) l u))).get? S = some (Obj.putSet (entN (insN l u) vn).toArray (tabA (!byText w) l u) (setN w l ep vs)) := Heap.get?_update_self _ ho rfl
    have hsb1 := Heap.SameBut.update s.heap S (Obj.putSet (entN (insN l u) vn).toArray (tabA (!byText w) l u))
    rw [o5]
    by_cases h4 : l.length = 4
    · rw [if_pos h4] at o6
      rw [show (l.length == 4) = true from by simp [h4]]
      simp only [if_true, Bool.and_eq_true, decide_eq_true_eq] at o6 ⊢
      obtain ⟨⟨r1, r2⟩, r3⟩ := o6
      have hsz : (entN (insN l u) vn).toArray.size = 5 := by rw [List.size_toArray, ent_len hvn, hln, h4]
      have hrel : relayAll (tabA (!byText w) l u) (entN (insN l u) vn).toArray (SetTable.grown (entN (insN l u) vn).toArray.size) = ((entN (insN l u) vn).toArray, tabN (!byText w) (insN l u), false) := by
        have hmap : ((entN (insN l u) vn).toArray.map (·.1)) = ((insN l u).map fun (n : Nat) => (n : Int)).toArray := by
          have hvl := hvn.length
          rw [zs_len] at hvl
          rw [List.map_toArray]
          unfold entN
          rw [List.map_fst_zip (by rw [List.length_map]; omega)]
        unfold relayAll
        rw [hmap, hsz, r1]
        dsimp only
        have hord : #[0, 1, 2, 3, 4].filterMap (fun i => (entN (insN l u) vn).toArray[i]?) = (entN (insN l u) vn).toArray := five _ hsz
        rw [hord, hsz, r2, r3]
        rfl
      rw [hrel]
      dsimp only
      refine wpAny_bind (show wpAny _ _ (pure ()) _ _ _ from wpAny_pure ?_)
      refine wpAny_bind (wpAny_storeSet_of hg1 rfl ?_ (fits_of_scanBound hbn))
      refine wpAny_pure ?_
      dsimp only
      exact wpAny_pure (h _ _ vn _ (hsb1.trans (Heap.SameBut.update _ S _)) hvn (Heap.get?_update_self _ hg1 rfl))
    · rw [if_neg h4] at o6
      rw [show (l.length == 4) = false from by simp [h4]]
      simp only [Bool.false_eq_true, if_false, decide_eq_true_eq] at o6 ⊢
      refine wpAny_pure ?_
      dsimp only
      refine wpAny_pure (h _ _ vn (ep + 1) hsb1 hvn ?_)
      rw [hg1, o6]
      rfl
end
end E20Part
section E21Part
set_option linter.unusedVariables false
theorem insN_dsort (us : List Nat) {i u : Nat} (h : us[i]? = some u) : insN (dsort (us.take i)) u = dsort (us.take (i + 1)) := by
  rw [← dsort_snoc, List.take_add_one, h]; rfl
section
variable {prog : Program} {w : World} {A : Around} {E : Value → Shared → Prop} {s : Shared}
/-- a list's numbers go into the set -/
theorem loop_nat {S I l : Addr} {vs : List Value} {us : List Nat} {R : Result → Shared → Prop} (hh : A.in1.handled = none) (hi : IntsAre vs (zs us)) (h6 : ∀ u ∈ us, u < 6) (hlI : l ≠ I) (hSI : S ≠ I) (hSl : S ≠ l) :
    ∀ (k i : Nat) (s : Shared), us.length - i = k → i ≤ us.length → (s.heap.IsListIter I l i ∧ s.heap.IsList l vs.toArray) → (∃ ws ep, IntsAre ws (zs (dsort (us.take i))) ∧ s.heap.get? S = some (setN w (dsort (us.take i)) ep ws)) →
      (∀ h' tk ws ep, (∀ b o, b ≠ S → b ≠ I → s.heap.get? b = some o → h'.get? b = some o) → IntsAre ws (zs (dsort us)) → h'.get? S = some (setN w (dsort us) ep ws) → R (.ok (.ret .none)) { s with heap := h', toks := tk }) →
      codeAny (model prog w) A (.builtin "set.update.loop" ⟨[.ref S, .ref I], []⟩) R s := by
  have hvl := hi.length
  rw [zs_len] at hvl
  have W := Walks.list (prog := prog) (w := w) (A := A.in1) hh I l hlI vs.toArray
  have hsz : vs.toArray.size = us.length := by rw [List.size_toArray, hvl]
  intro k
  induction k with
  | zero =>
    intro i s hk hle hst ⟨ws, ep, hws, hS⟩ hR
    obtain rfl : i = us.length := Nat.le_antisymm hle (sub0 hk)
    rw [List.take_length] at hws hS
    refine codeAny_builtin PyProof.Rows.F.entry_set_update_loop ?_
    rw [Around.under_plainId PyProof.Rows.F.plain_set_update_loop _]
    show wpAny _ A.in1 (pyNext (.ref I) >>= _) _ _ s
    refine wpAny_bind (W.done s _ _ (by rw [hsz]; exact hst) fun h' tk hk' => ?_)
    show wpAny _ A.in1 (ret Value.none) _ _ _
    exact wpAny_pure (hR h' tk ws ep (fun b o _ hb e => hk' b o (by simpa using hb) e) hws (hk' S _ (by simpa using hSI) hS))
  | succ k ih =>
    intro i s hk hle hst ⟨ws, ep, hws, hS⟩ hR
    have hlt : i < us.length := subL hk
    refine codeAny_builtin PyProof.Rows.F.entry_set_update_loop ?_
    rw [Around.under_plainId PyProof.Rows.F.plain_set_update_loop _]
    show wpAny _ A.in1 (pyNext (.ref I) >>= _) _ _ s
    refine wpAny_bind (W.item i s _ _ (by rw [hsz]; exact hlt) hst fun v h₁ tk hP hst₁ hk₁ => ?_)
    obtain ⟨u, t, rfl, hu⟩ := zs_item hi hP
    have hu6 : u < 6 := h6 u (List.mem_of_getElem? hu)
    have hS₁ : h₁.get? S = some (setN w (dsort (us.take i)) ep ws) := hk₁ S _ (by simpa using hSI) hS
    show wpAny _ A.in1 (holding [Value.int (u : Int) t] (setAdd S (.int (u : Int) t)) >>= _) _ _ _
    refine wpAny_bind (wpAny_holding ?_)
    unfold setAdd
    refine wpAny_holding ?_
    refine wpAny_bind ((intKind prog w).pyHash (k := (u : Int)) (intKind_is _ _ _ _) ?_)
    rw [show (intKind prog w).hash (u : Int) = (u : Int) from hash6 hu6]
    refine add_nat (dsort_subs _) hu6 hws hS₁ fun b h₂ ws' ep' hsb hws' hS₂ => ?_
    rw [insN_dsort us hu] at hws' hS₂
    refine wpAny_pure ⟨plainId_quiet PyProof.Rows.F.plain_set_update_loop _, ih (i + 1) _ (subS hk) hlt (W.frame _ _ _ hst₁ fun b hb o e => ?_) ⟨ws', ep', hws', hS₂⟩ fun h' tk' ws'' ep'' hk' hw'' hS' => ?_⟩
    · refine hsb.extBut b o (fun q => ?_) e
      subst q
      simp only [List.mem_cons, List.not_mem_nil, or_false] at hb
      rcases hb with h | h
      · exact hSI h
      · exact hSl h
    · exact hR h' tk' ws'' ep'' (fun b o h1 h2 e => hk' b o h1 h2 (hsb.extBut b o h1 (hk₁ b o (by simpa using h2) e))) hw'' hS'
theorem code_set_new (a : Value) {Q₁ : Value → Shared → Prop} (h : Q₁ (.ref s.heap.objs.size) { s with heap := s.heap.push (setO w) }) :
    codeAny (model prog w) A (.call (.builtin "set.__new__") ⟨[.type "set", a], []⟩) (wants Q₁ E) s := by
  refine codeAny_of_tree ?_
  show wpAny _ A.in1 (do checkBuiltinCall "set.__new__" ⟨[.type "set", a], []⟩; again (.builtin "set.__new__" ⟨[.type "set", a], []⟩)) _ _ s
  refine wpAny_bind (wpAny_of_eq (F.newCall_set_1 a) (wpAny_pure ⟨plainId_quiet F.plain_set_new _, codeAny_builtin F.entry_set_new ?_⟩))
  rw [Around.under_plainId F.plain_set_new _]
  unfold Builtin.«set.__new__» Builtin.Frozenset.newClass
  have hsub := sub_set_self
  obtain ⟨hp, g, d, tk, os⟩ := s
  dsimp only
  wp_walk
  refine wpAny_askSetting (wpAny_pure ?_)
  dsimp only
  simp only [newObj]
  refine wpAny_bind (wpAny_alloc (wpAny_pure ?_))
  exact wpAny_pure h
set_option maxRecDepth 100000 in
set_option maxHeartbeats 3200000 in
theorem call_set_raw {l : Addr} {vs : List Value} {us : List Nat} {Q : Value → Shared → Prop} (hh : A.handled = none) (hl : s.heap.IsList l vs.toArray) (hi : IntsAre vs (zs us)) (h6 : ∀ u ∈ us, u < 6)
    (h : ∀ h' tk ws ep, (∀ b o, s.heap.get? b = some o → h'.get? b = some o) → IntsAre ws (zs (dsort us)) → h'.get? s.heap.objs.size = some (setN w (dsort us) ep ws) → Q (.ref s.heap.objs.size) { s with heap := h', toks := tk }) :
    wpAny (model prog w) A (call (.type "set") [.ref l]) Q E s := by
  obtain ⟨c, tl, hmro⟩ := F.called_set.mro
  have hmade := F.called_set.made
  have hsub := F.called_set.sub
  refine wpAny_call (codeAny_of_tree ?_)
  show wpAny _ _ (callAny (.type "set") _) _ _ _
  refine wpAny_pure ⟨Code.quiet_builtin _ (by decide +kernel), codeAny_builtin F.entry_type_call ?_⟩
  rw [Around.under_plain (weight_type_call_type "set" [.ref l] []) rfl]
  have h1 := F.called_set.notType
  have h2 := F.called_set.canCreate
  have hct := F.typeCall_set_1 (.ref l)
  repeat (any_goals (first | assumption | wp_step))
  refine codeAny_mono (code_set_new (.ref l) (E := E) (Q₁ := fun obj s₁ => obj = .ref s.heap.objs.size ∧ s₁ = { s with heap := s.heap.push (setO w) }) ⟨rfl, rfl⟩) fun r s₁ hr => ?_
  cases r with
  | error e => exact hr
  | ok fl =>
    cases fl with
    | ret obj =>
      obtain ⟨rfl, rfl⟩ := hr
      have hS : (s.heap.push (setO w)).get? s.heap.objs.size = some (setO w) := Heap.get?_push_size _ rfl
      have hT : Shared.TypeIs { s with heap := s.heap.push (setO w) } (.ref s.heap.objs.size) "set" := ⟨_, hS, rfl⟩
      have hli := F.called_set.init.lookup
      have hbi := F.called_set.init.bind (.ref s.heap.objs.size)
      repeat (any_goals (first | assumption | wp_step))
      refine codeAny_mono (codeAny_call_builtin (R := wants (fun r s₂ => r = .none ∧ ∃ h' tk ws ep, s₂ = { s with heap := h', toks := tk } ∧ (∀ b o, s.heap.get? b = some o → h'.get? b = some o) ∧ IntsAre ws (zs (dsort us)) ∧ h'.get? s.heap.objs.size = some (setN w (dsort us) ep ws)) E) F.called_set.init.plain F.entry_set_init (check_set_init_1 hT ?_)) fun r₂ s₂ hr₂ => ?_
      · obtain ⟨ol, hol, hcl, nl, hdl⟩ := hl
        obtain ⟨ocls, odict, odata, oslots⟩ := ol
        simp only at hcl hdl
        subst hcl; subst hdl
        have hlS : l < s.heap.objs.size := Heap.lt_size hol
        have hol' : (s.heap.push (setO w)).get? l = some { cls := .type "list", dict := odict, data := .seq vs.toArray nl, slots := oslots } := Heap.get?_push_of_some _ hol
        have hsls := F.sub_list_set
        have hslf := F.sub_list_frozenset
        have hne : (Value.type "list" == Value.type "dict") = false := by decide
        have hl1 : (s.heap.push (setO w)).IsList l vs.toArray := ⟨_, hol', rfl, nl, rfl⟩
        have hS' : (s.heap.push (setO w)).get? s.heap.objs.size = some { cls := .type "set", dict := none, data := .set #[] 0 (.fresh 0 0 (!byText w)) } := hS
        unfold Builtin.«set.__init__» noKeywords Builtin.Frozenset.updateFrom
        generalize hPI : pyIter = PI
        wp_walk
        subst hPI
        refine wpAny_pyIter_list hl1 ?_
        refine wpAny_bind (wpAny_runValue ?_)
        have hneI : l ≠ (s.heap.push (setO w)).objs.size := by rw [Heap.size_push]; exact Nat.ne_of_lt (Nat.lt_succ_of_lt hlS)
        have hneS : s.heap.objs.size ≠ (s.heap.push (setO w)).objs.size := by rw [Heap.size_push]; exact Nat.ne_of_lt (Nat.lt_succ_self _)
        refine loop_nat (by simp [hh]) hi h6 hneI hneS (Nat.ne_of_gt hlS) us.length 0 _ (Nat.sub_zero _) (Nat.zero_le _) ⟨⟨_, Heap.get?_push_size _ rfl, rfl, rfl⟩, hl1.push _⟩ ⟨[], 0, .nil, Heap.get?_push_of_some _ hS⟩ fun h' tk ws ep hk hws hSn => ?_
        show wpAny _ _ _ _ _ _
        refine wpAny_pure ?_
        show wpAny _ _ (ret Value.none) _ _ _
        refine wpAny_pure ⟨rfl, h', tk, ws, ep, rfl, fun b o e => ?_, hws, hSn⟩
        have hb := Heap.lt_size e
        exact hk b o (Nat.ne_of_lt hb) (by rw [Heap.size_push]; exact Nat.ne_of_lt (Nat.lt_succ_of_lt hb)) (Heap.get?_push_of_some _ (Heap.get?_push_of_some _ e))
      · cases r₂ with
        | error e => exact hr₂
        | ok fl₂ =>
          cases fl₂ with
          | ret r =>
            obtain ⟨rfl, h', tk, ws, ep, rfl, hk', hws, hS'⟩ := hr₂
            repeat (any_goals (first | assumption | wp_step))
            exact h _ _ _ _ hk' hws hS'
          | _ => exact hr₂.elim
    | _ => exact hr.elim
end
section
variable {prog : Program} {w : World} {A : Around} {E : Value → Shared → Prop} {s : Shared} {h₀ : Heap} {L : Addr} {m : Str → Option Value} {news : List (Addr × Obj)}
/-- set of the list -/
theorem call_set_nat {l : Addr} {vs : List Value} {us : List Nat} {Q : Value → Shared → Prop} (hh : A.handled = none) (F : Fr h₀ L s.heap m) (N : News h₀ L s.heap news) (hl : s.heap.IsList l vs.toArray) (hi : IntsAre vs (zs us)) (h6 : ∀ u ∈ us, u < 6)
    (h : ∀ D o h' tk', Fr h₀ L h' m → News h₀ L h' ((D, o) :: news) → (∀ p ∈ news, p.1 < D) → SetN w o us → Q (.ref D) { s with heap := h', toks := tk' }) :
    wpAny (model prog w) A (call (.type "set") [.ref l]) Q E s := by
  refine call_set_raw hh hl hi h6 fun h' tk ws ep hk hws hS => ?_
  refine h _ _ h' tk (F.keeps hk) (fun p hp => ?_) (fun p hp => Heap.lt_size (N p hp).1) ⟨ws, ep, hws, rfl⟩
  rcases List.mem_cons.mp hp with rfl | hp
  · exact ⟨hS, Nat.ne_of_gt F.ns.lt, next_is_new F⟩
  · exact N.grown hk p hp
end
end E21Part
section E22Part
set_option linter.unusedVariables false
theorem pick_go_perm {α : Type} (f : Nat → Nat) : ∀ (n k : Nat) (left : List α) (out : Array α), left.length = n → (pickOrder.go f n k left out).toList.Perm (out.toList ++ left)
  | 0, k, left, out, h => by
    rw [List.length_eq_zero_iff.mp h, List.append_nil]
    exact List.Perm.refl _
  | n + 1, k, left, out, h => by
    unfold pickOrder.go
    have hi : f k % left.length < left.length := Nat.mod_lt _ (by omega)
    rw [List.getElem?_eq_getElem hi]
    dsimp only
    refine (pick_go_perm f n (k + 1) (left.eraseIdx (f k % left.length)) (out.push left[f k % left.length]) (by rw [List.length_eraseIdx_of_lt hi]; omega)).trans ?_
    rw [Array.toList_push, List.append_assoc]
    refine List.Perm.append_left _ ?_
    rw [List.eraseIdx_eq_take_drop_succ]
    have e : left = left.take (f k % left.length) ++ left[f k % left.length] :: left.drop (f k % left.length + 1) := by
      rw [← List.drop_eq_getElem_cons hi, List.take_append_drop]
    have p := (List.perm_middle (a := left[f k % left.length]) (l₁ := left.take (f k % left.length)) (l₂ := left.drop (f k % left.length + 1))).symm
    refine List.Perm.trans ?_ (List.Perm.of_eq e.symm)
    exact p
theorem pick_perm {α : Type} (f : Nat → Nat) (xs : Array α) : (pickOrder f xs).toList.Perm xs.toList := by
  unfold pickOrder
  have := pick_go_perm f xs.size 0 xs.toList #[] (by rw [Array.length_toList])
  simpa using this
/-- the order in which a set is walked -/
noncomputable def seqN (w : World) (D : Addr) (ep : Nat) (es : List (Int × Value)) : List (Int × Value) := if byText w = true then (pickOrder (w.params.setOrder D ep) es.toArray).toList else es
theorem seqN_perm (w : World) (D : Addr) (ep : Nat) (es : List (Int × Value)) : (seqN w D ep es).Perm es := by
  unfold seqN
  split
  · exact pick_perm _ _
  · exact List.Perm.refl _
noncomputable def slotN (w : World) (l : List Nat) (i : Nat) : Nat := if byText w = true then 0 else if i = 0 then 0 else l.getD (i - 1) 0 + 1
noncomputable def itO (w : World) (l : List Nat) (D : Addr) (ep i : Nat) : Obj := { cls := .type "set_iterator", data := .fields #[rawInt (slotN w l i : Nat), rawInt (i : Nat), .ref D, rawInt (l.length : Nat), rawInt (ep : Nat)] }
set_option maxRecDepth 1000000
theorem below_all : ((allSubs 6).all fun l => (List.range 7).all fun i => decide (l.length < i) || (SetTable.below l.toArray (if i = 0 then 0 else l.getD (i - 1) 0 + 1) == i)) = true := by decide +kernel
theorem below_of {l : List Nat} (hl : l ∈ allSubs 6) {i : Nat} (hi : i ≤ l.length) : SetTable.below l.toArray (if i = 0 then 0 else l.getD (i - 1) 0 + 1) = i := by
  have h6 : l.length ≤ 6 := by simpa using List.all_eq_true.mp subs_len l hl
  have h := List.all_eq_true.mp (List.all_eq_true.mp below_all l hl) i (List.mem_range.mpr (by omega))
  rw [show decide (l.length < i) = false from decide_eq_false (by omega), Bool.false_or, beq_iff_eq] at h
  exact h
theorem slot_setiter_iter : Slot "set_iterator" "__iter__" "set_iterator.__iter__" :=
  .of (owner := "set_iterator") (n := "__iter__") (by rw [typeLookup_type, builtinLookup_eq_fast]; kernel_rfl) (by decide +kernel) (by decide +kernel) (by decide +kernel)
    (by first | exact .inl (by decide +kernel) | exact .inr (by decide +kernel)) (by rw [isSubtype_type]; kernel_rfl)
section
variable {prog : Program} {w : World} {A : Around} {E : Value → Shared → Prop} {s : Shared}
theorem setState_nat {D : Addr} {l : List Nat} {vs : List Value} {ep : Nat} {Q : (Array (Int × Value) × Nat × SetTable) → Shared → Prop} (hl : l ∈ allSubs 6) (hv : IntsAre vs (zs l)) (ho : s.heap.get? D = some (setN w l ep vs)) (h : Q ((entN l vs).toArray, ep, tabN (!byText w) l) s) : wpAny (model prog w) A (setState D) Q E s :=
  wpAny_setState_of ho rfl (setN_fits hl hv) h
/-- the next one -/
theorem setNext_nat {D : Addr} {l : List Nat} {vs : List Value} {ep i : Nat} {Q : Option (Value × Nat) → Shared → Prop} (hl : l ∈ allSubs 6) (hv : IntsAre vs (zs l)) (ho : s.heap.get? D = some (setN w l ep vs)) (hi : i ≤ l.length)
    (h : Q (((seqN w D ep (entN l vs))[i]?).map fun e => (e.2, slotN w l (i + 1))) s) : wpAny (model prog w) A (setNext D (slotN w l i) i ep) Q E s := by
  unfold setNext
  refine wpAny_bind (setState_nat hl hv ho ?_)
  dsimp only
  refine wpAny_bind (setsByText_wp ?_)
  unfold seqN slotN at h
  cases hb : byText w with
  | true =>
    rw [hb] at h
    simp only [if_true] at h ⊢
    rw [if_neg (by simp)]
    unfold setWalk
    refine wpAny_bind (wpAny_bind (setState_nat hl hv ho ?_))
    dsimp only
    refine wpAny_bind (setsByText_wp ?_)
    rw [hb]
    simp only [if_true]
    refine wpAny_bind (wpAny_askSetting (wpAny_pure (wpAny_pure ?_)))
    rw [← Array.getElem?_toList]
    unfold slotN
    rw [hb]
    exact h
  | false =>
    rw [hb] at h
    simp only [Bool.false_eq_true, if_false] at h ⊢
    have hsl : slotN w l i = if i = 0 then 0 else l.getD (i - 1) 0 + 1 := by unfold slotN; rw [hb]; rfl
    rw [if_neg (by rw [Bool.not_eq_true]; rfl)]
    refine wpAny_bind (show wpAny _ _ (pure ()) _ _ _ from wpAny_pure ?_)
    rw [hsl]
    show wpAny _ _ (pure (match (entN l vs).toArray[SetTable.below l.toArray (if i = 0 then 0 else l.getD (i - 1) 0 + 1)]?, l.toArray[SetTable.below l.toArray (if i = 0 then 0 else l.getD (i - 1) 0 + 1)]? with | some (_, x), some j => some (x, j + 1) | _, _ => none)) _ _ _
    rw [below_of hl hi]
    refine wpAny_pure ?_
    rw [List.getElem?_toArray, List.getElem?_toArray]
    have hen := ent_len hv
    cases he : (entN l vs)[i]? with
    | none => rw [he] at h; exact h
    | some e =>
      rw [he] at h
      have hil : i < l.length := by
        have := (List.getElem?_eq_some_iff.mp he).1
        omega
      rw [List.getElem?_eq_getElem hil]
      have e2 : l.getD (i + 1 - 1) 0 = l[i] := by rw [Nat.add_sub_cancel, List.getD_eq_getElem?_getD, List.getElem?_eq_getElem hil]; rfl
      rw [e2] at h
      exact h
end
end E22Part
section E23Part
set_option linter.unusedVariables false
theorem entry_setiter_iter : entryFor table "set_iterator.__iter__" = some Builtin.«dict_keyiterator.__iter__» :=
  entryFor_alias (id' := "dict_keyiterator.__iter__") (by kernel_rfl) rfl (by decide +kernel) (by kernel_rfl)
theorem args_setiter_iter_1 (a : Value) : argsOk "set_iterator.__iter__" ⟨[a], []⟩ := by unfold argsOk; kernel_rfl
theorem len_set_look : typeLookup (.type "set") "__len__" = pure (some (.builtin "set.__len__")) := by rw [typeLookup_type, builtinLookup_eq_fast]; kernel_rfl
section
variable {prog : Program} {w : World} {A : Around} {E : Value → Shared → Prop} {s : Shared}
theorem hint_set {r : Addr} {Q : Bool → Shared → Prop} (hT : s.TypeIs (.ref r) "set") (h : Q false s) : wpAny (model prog w) A (Builtin.List.listLengthHint (.ref r)) Q E s := by
  unfold Builtin.List.listLengthHint
  refine wpAny_bind (wpAny_specialOf hT len_set_look ?_)
  generalize hid : ("set.__len__" : String) = id0
  wp_delta
  rw [show splitId id0 = some ("set", "__len__") from by subst hid; decide +kernel]
  subst hid
  refine wpAny_bind (wpAny_isInstance (T := "set") (b := true) hT (by rw [isSubtype_type]; kernel_rfl) ?_)
  refine wpAny_ite_split (fun hab => absurd hab (by decide)) (fun _ => ?_)
  refine wpAny_ite_split (fun _ => ?_) (fun hab => absurd (by decide +kernel) hab)
  refine wpAny_bind (wpAny_typeOf hT ?_)
  exact wpAny_pure h
theorem pyIter_nat {D : Addr} {l : List Nat} {vs : List Value} {ep : Nat} {Q : Value → Shared → Prop} (hl : l ∈ allSubs 6) (hv : IntsAre vs (zs l)) (ho : s.heap.get? D = some (setN w l ep vs)) (h : Q (.ref s.heap.objs.size) { s with heap := s.heap.push (itO w l D ep 0) }) :
    wpAny (model prog w) A (pyIter (.ref D)) Q E s := by
  have hT : s.TypeIs (.ref D) "set" := ⟨_, ho, rfl⟩
  refine wpAny_pyIter_slot hT F.slot_set_iter (wpAny_call_entry F.slot_set_iter hT entry_set_iter ?_ (F.args_set_iter_1 _))
  unfold Builtin.«frozenset.__iter__» Builtin.Frozenset.slot0 slotArgs
  simp only [List.isEmpty_nil, Bool.not_true, Bool.false_eq_true, ↓reduceIte, bind_assoc, List.length_nil, bne_self_eq_false]
  refine wpAny_bind (wpAny_pure ?_)
  refine wpAny_bind (wpAny_pure ?_)
  unfold Builtin.Frozenset.sizeOf setEntries
  refine wpAny_bind (wpAny_bind (wpAny_bind (setState_nat hl hv ho (wpAny_pure (wpAny_pure ?_)))))
  refine wpAny_bind ?_
  unfold setDrawn
  refine wpAny_bind (setState_nat hl hv ho ?_)
  dsimp only
  refine wpAny_bind (setsByText_wp ?_)
  refine wpAny_pure ?_
  rw [if_neg (by rw [Bool.not_eq_true]; cases byText w <;> rfl)]
  refine wpAny_bind (wpAny_pure ?_)
  unfold setEpoch
  refine wpAny_bind (wpAny_bind (setState_nat hl hv ho (wpAny_pure ?_)))
  have hsz : (entN l vs).toArray.size = l.length := by rw [List.size_toArray, ent_len hv]
  have hs0 : slotN w l 0 = 0 := by unfold slotN; split <;> rfl
  dsimp only
  rw [hsz]
  unfold itO at h
  rw [hs0] at h
  exact wpAny_bind (wpAny_newObj_type (wpAny_pure ⟨_, rfl, "set_iterator", _, ⟨_, Heap.get?_push_size _ rfl, rfl⟩, slot_setit_next.lookup, h⟩))
theorem pyNext_nat {D I : Addr} {l : List Nat} {vs : List Value} {ep i : Nat} {e : Int × Value} {Q : Option Value → Shared → Prop} (hl : l ∈ allSubs 6) (hv : IntsAre vs (zs l)) (ho : s.heap.get? D = some (setN w l ep vs)) (hI : s.heap.get? I = some (itO w l D ep i)) (he : (seqN w D ep (entN l vs))[i]? = some e)
    (h : ∀ h', h'.get? I = some (itO w l D ep (i + 1)) → Heap.SameBut I s.heap h' → Q (some e.2) { s with heap := h' }) : wpAny (model prog w) A (pyNext (.ref I)) Q E s := by
  have hT : s.TypeIs (.ref I) "set_iterator" := ⟨_, hI, rfl⟩
  have hi : i ≤ l.length := by
    have h1 := (List.getElem?_eq_some_iff.mp he).1
    rw [(seqN_perm w D ep (entN l vs)).length_eq, ent_len hv] at h1
    omega
  unfold pyNext
  refine wpAny_bind (wpAny_attempt (wpAny_callSpecial?_slot (name := Str.ofString "__next__") hT slot_setit_next
    (wpAny_call_entry slot_setit_next hT entry_setit_next ?_ (args_setit_next_1 _))))
  unfold Builtin.«set_iterator.__next__»
  refine wpAny_bind (wpAny_of_eq (a := (Value.ref I, [])) rfl ?_)
  dsimp only
  refine wpAny_bind (wpAny_fieldsOf hI rfl ?_)
  simp only [rawInt]
  unfold setEntries
  refine wpAny_bind (wpAny_bind (setState_nat hl hv ho (wpAny_pure ?_)))
  have hsz : (entN l vs).toArray.size = l.length := by rw [List.size_toArray, ent_len hv]
  dsimp only
  rw [hsz, if_neg (by simp)]
  simp only [Int.toNat_natCast]
  refine wpAny_bind (setNext_nat hl hv ho hi ?_)
  rw [he]
  dsimp only [Option.map]
  refine wpAny_bind (wpAny_setField_rec hI (by simp) fun h₁ hI₁ hs₁ => ?_)
  refine wpAny_bind (wpAny_setField_rec hI₁ (by simp) fun h₂ hI₂ hs₂ => ?_)
  refine wpAny_pure ⟨_, rfl, ?_⟩
  dsimp only
  refine wpAny_pure (h h₂ ?_ (hs₁.trans hs₂))
  rw [hI₂]
  rfl
theorem pyEnd_nat {D I : Addr} {l : List Nat} {vs : List Value} {ep : Nat} {Q : Option Value → Shared → Prop} (hh : A.handled = none) (hl : l ∈ allSubs 6) (hv : IntsAre vs (zs l)) (ho : s.heap.get? D = some (setN w l ep vs)) (hI : s.heap.get? I = some (itO w l D ep l.length))
    (h : ∀ h', Heap.ExtBut I s.heap h' → Q none { s with heap := h' }) : wpAny (model prog w) A (pyNext (.ref I)) Q E s := by
  have hT : s.TypeIs (.ref I) "set_iterator" := ⟨_, hI, rfl⟩
  have he : (seqN w D ep (entN l vs))[l.length]? = none := List.getElem?_eq_none (by rw [(seqN_perm w D ep (entN l vs)).length_eq, ent_len hv]; exact Nat.le_refl _)
  unfold pyNext
  refine wpAny_bind (wpAny_attempt (wpAny_callSpecial?_slot (name := Str.ofString "__next__") hT slot_setit_next
    (wpAny_call_entry slot_setit_next hT entry_setit_next ?_ (args_setit_next_1 _))))
  unfold Builtin.«set_iterator.__next__»
  refine wpAny_bind (wpAny_of_eq (a := (Value.ref I, [])) rfl ?_)
  dsimp only
  refine wpAny_bind (wpAny_fieldsOf hI rfl ?_)
  simp only [rawInt]
  unfold setEntries
  refine wpAny_bind (wpAny_bind (setState_nat hl hv ho (wpAny_pure ?_)))
  have hsz : (entN l vs).toArray.size = l.length := by rw [List.size_toArray, ent_len hv]
  dsimp only
  rw [hsz, if_neg (by simp)]
  simp only [Int.toNat_natCast]
  refine wpAny_bind (setNext_nat hl hv ho (Nat.le_refl _) ?_)
  rw [he]
  dsimp only [Option.map]
  refine wpAny_bind (wpAny_setField_rec hI (by simp) fun h₁ hI₁ hs₁ => ?_)
  show wpAny _ _ (newExc (.type "StopIteration") [] >>= _) _ _ _
  refine wpAny_bind ?_
  simp only [newExc, newTuple]
  refine wpAny_bind (wpAny_newObj_type ?_ (by size_fits))
  refine wpAny_bind (m := firstArgMember _ _) (wpAny_of_eq (a := Value.none) (by first | rfl | (simp only [firstArgMember]; rfl)) ?_)
  refine wpAny_newObj_type ?_ (by size_fits)
  simp only [raiseNew]
  refine wpAny_bind (wpAny_handled ?_)
  first | rw [show A.in1.handled = none from hh] | rw [hh]
  refine wpAny_bind (wpAny_pure (wpAny_throw ?_))
  refine wpAny_bind (wpAny_isInstance (T := "StopIteration") (b := true) ⟨_, Heap.get?_push_size _ rfl, rfl⟩ isSubtype_stop ?_)
  exact wpAny_pure (h _ ((hs₁.extBut.push _).push _))
theorem walks_nat {D I : Addr} {l : List Nat} {vs : List Value} {ep : Nat} (hh : A.handled = none) (hl : l ∈ allSubs 6) (hv : IntsAre vs (zs l)) (hne : D ≠ I) :
    Walks prog w A I [I, D] [I] l.length (fun i v => ∃ e, (seqN w D ep (entN l vs))[i]? = some e ∧ v = e.2) (fun i h => h.get? I = some (itO w l D ep i) ∧ h.get? D = some (setN w l ep vs)) where
  sub := fun b hb => by simp at hb; simp [hb]
  frame := fun i h h' st hk => ⟨hk I (by simp) _ st.1, hk D (by simp) _ st.2⟩
  item := fun i s Q E hi st hQ => by
    obtain ⟨e, he⟩ : ∃ e, (seqN w D ep (entN l vs))[i]? = some e := ⟨_, List.getElem?_eq_getElem (by rw [(seqN_perm w D ep (entN l vs)).length_eq, ent_len hv]; exact hi)⟩
    exact pyNext_nat hl hv st.2 st.1 he fun h' hI' hs' => hQ _ h' s.toks ⟨e, he, rfl⟩ ⟨hI', hs'.extBut D _ hne st.2⟩ fun b o hb x => hs'.extBut b o (by simpa using hb) x
  done := fun s Q E st hQ => pyEnd_nat hh hl hv st.2 st.1 fun h' hx => hQ h' s.toks fun b o hb e => hx b o (by simpa using hb) e
  self := fun i s Q E st hQ => by
    have hT : s.TypeIs (.ref I) "set_iterator" := ⟨_, st.1, rfl⟩
    refine wpAny_pyIter_slot hT slot_setiter_iter (wpAny_call_entry slot_setiter_iter hT entry_setiter_iter ?_ (args_setiter_iter_1 _))
    show wpAny _ _ (ret (.ref I)) _ _ s
    exact wpAny_pure ⟨_, rfl, "set_iterator", _, hT, slot_setit_next.lookup, hQ⟩
theorem src_nat {D : Addr} {l : List Nat} {vs : List Value} {ep : Nat} (hl : l ∈ allSubs 6) (hv : IntsAre vs (zs l)) : KdlSrc prog w "set" D D l.length (fun i v => ∃ e, (seqN w D ep (entN l vs))[i]? = some e ∧ v = e.2) (fun h => h.get? D = some (setN w l ep vs)) where
  type := fun _ hm => ⟨_, hm, rfl⟩
  there := fun _ hm => ⟨Heap.lt_size hm, Heap.lt_size hm⟩
  keep := fun _ _ hm hk => hk D (.inl rfl) _ hm
  notList := by decide
  notTuple := by decide
  hint := fun _ _ _ _ hm hq => hint_set ⟨_, hm, rfl⟩ hq
  iter := fun _ _ hh hm => ⟨itO w l D ep 0, _, (fun _ _ hq => pyIter_nat hl hv hm hq), walks_nat hh hl hv (Nat.ne_of_lt (Heap.lt_size hm)), Heap.get?_push_size _ rfl, Heap.get?_push_of_some _ hm⟩
end
end E23Part
section E24Part
set_option linter.unusedVariables false
noncomputable def valI : Value → Int
  | .int n _ => n
  | _ => 0
theorem ints_val : ∀ {vs : List Value} {ns : List Int}, IntsAre vs ns → ns = vs.map valI ∧ ∀ v ∈ vs, ∃ n t, v = .int n t
  | _, _, .nil => ⟨rfl, fun _ h => nomatch h⟩
  | _, _, .cons n t r => by
    obtain ⟨h1, h2⟩ := ints_val r
    refine ⟨by rw [h1]; rfl, fun v hv => ?_⟩
    rcases List.mem_cons.mp hv with rfl | hv
    · exact ⟨n, t, rfl⟩
    · exact h2 v hv
theorem val_ints : ∀ {vs : List Value}, (∀ v ∈ vs, ∃ n t, v = Value.int n t) → IntsAre vs (vs.map valI)
  | [], _ => .nil
  | v :: vs, h => by
    obtain ⟨n, t, rfl⟩ := h v (.head _)
    exact .cons n t (val_ints fun x hx => h x (.tail _ hx))
theorem ints_perm {vs ws : List Value} {ns : List Int} (h : IntsAre vs ns) (p : ws.Perm vs) : ∃ ms, IntsAre ws ms ∧ ms.Perm ns := by
  obtain ⟨h1, h2⟩ := ints_val h
  refine ⟨_, val_ints fun v hv => h2 v (p.mem_iff.mp hv), ?_⟩
  rw [h1]
  exact p.map _
theorem ent_snd {l : List Nat} {vs : List Value} (h : IntsAre vs (zs l)) : (entN l vs).map (·.2) = vs := by
  have := h.length
  rw [zs_len] at this
  unfold entN
  exact List.map_snd_zip (by rw [List.length_map]; omega)
theorem dsort_sorted (us : List Nat) : (zs (dsort us)).Pairwise (· ≤ ·) := by
  have : (dsort us).Pairwise (· < ·) := List.pairwise_lt_range.filter _
  unfold zs
  rw [List.pairwise_map]
  exact this.imp fun h => by omega
section
variable {prog : Program} {w : World} {A : Around} {E : Value → Shared → Prop} {s : Shared} {h₀ : Heap} {L : Addr} {m : Str → Option Value} {news : List (Addr × Obj)}
theorem sorted_set {D : Addr} {o : Obj} {us : List Nat} {Q : Value → Shared → Prop} (hh : A.handled = none) (F : Fr h₀ L s.heap m) (N : News h₀ L s.heap news) (hm : (D, o) ∈ news) (ho : SetN w o us)
    (h : ∀ D' vs c h' tk', Fr h₀ L h' m → News h₀ L h' ((D', listOf (List.toArray vs) c) :: news) → (∀ p ∈ news, p.1 < D') → IntsAre vs (zs (dsort us)) → Q (.ref D') { s with heap := h', toks := tk' }) :
    wpAny (model prog w) A (call (.builtin "sorted") [.ref D]) Q E s := by
  obtain ⟨vs, ep, hv, rfl⟩ := ho
  have hl6 : (dsort us).length ≤ 6 := by simpa using List.all_eq_true.mp subs_len _ (dsort_subs us)
  refine kdu_sorted (src_nat (dsort_subs us) hv) hh F N (N _ hm).1 (Nat.le_trans hl6 (by rw [sizeLine_eq]; decide)) fun B h' tk ws F' N' lt hl hP => ?_
  have hws : ws = (seqN w D ep (entN (dsort us) vs)).map (·.2) := by
    refine List.ext_getElem? fun j => ?_
    rw [List.getElem?_map]
    cases hj : ws[j]? with
    | some v =>
      obtain ⟨e, he, rfl⟩ := hP j v hj
      rw [he]; rfl
    | none =>
      have h1 := List.getElem?_eq_none_iff.mp hj
      rw [List.getElem?_eq_none (by rw [(seqN_perm w D ep (entN (dsort us) vs)).length_eq, ent_len hv]; omega)]
      rfl
  have hp : ws.Perm vs := by
    have := (seqN_perm w D ep (entN (dsort us) vs)).map (·.2)
    rw [← hws, ent_snd hv] at this
    exact this
  obtain ⟨ms, hI, hms⟩ := ints_perm hv hp
  have z := N' _ (.head _)
  refine wpAny_call_entry PyProof.Rows.slot_list_sort ⟨_, z.1, rfl⟩ PyProof.Rows.entry_list_sort (list_sort_tree (n := 0) (vs := ws) z.1 hI (by omega) fun out ns' a1 a2 a3 => ⟨.none, rfl, ?_⟩) (PyProof.Rows.args_list_sort _)
  have hns : ns' = zs (dsort us) := lks_uniq (a2.trans hms) a3 (dsort_sorted us)
  subst hns
  obtain ⟨e, he⟩ := sortedHeap_at (vs := ws) (out := out) z.1
  have old : ∀ b ob, b ≠ B → h'.get? b = some ob → (sortedHeap h' B ws out).get? b = some ob := fun b ob hb x => (sortedHeap_old hb (Heap.lt_size x)).trans x
  refine h B out.toList e _ tk ⟨F'.ns.at' fun ob x => old _ _ (Ne.symm z.2.1) x, fun b ob x => old _ _ (fun q => by have := z.2.2; rw [← q, x] at this; cases this) (F'.keep b ob x), F'.above⟩ (fun p hpm => ?_) lt a1
  rcases List.mem_cons.mp hpm with rfl | hpm
  · exact ⟨he, z.2⟩
  · have zp := N' p (.tail _ hpm)
    exact ⟨old _ _ (Nat.ne_of_lt (lt p hpm)) zp.1, zp.2⟩
end
end E24Part
section D17Part
set_option linter.unusedVariables false
section
variable {w : World} {mean : ExcName → Option Value} {mg mb : Str → Option Value} {dp un : Nat} {gd : Option (List Code)} {base : Heap} {fr : List Env} {s : Shared} {Q E : Value → Shared → Prop}
local macro_rules | `(tactic| walk_at "exec Assign cons ListComp") => `(tactic| (k_here; k_dflt (refine Assign_ListComp_W (F₀ := by k_asm) (by rfl) (by with_unfolding_all rfl) (by with_unfolding_all rfl) (by decide) (by rfl) (by decide) (by rfl) (by rfl) (by rfl) ?_)))
local macro_rules | `(tactic| walk_at "exec Assign cons ListComp") => `(tactic| (k_here; lct_look; k_dflt (refine Assign_ListComp_WT (F₀ := by k_asm) (by rfl) (by with_unfolding_all rfl) (by with_unfolding_all rfl) (by decide) (by rfl) (by decide) (by rfl) (by rfl) (by rfl) ?_)))
local macro_rules | `(tactic| walk_at "eval ListComp") => `(tactic| (k_here; k_dflt (refine ListComp_W (F₀ := by k_asm) (by with_unfolding_all rfl) (by decide) (by rfl) (by decide) (by rfl) ?_)))
local macro_rules | `(tactic| walk_at "eval ListComp") => `(tactic| (k_here; lct_look; k_dflt (refine ListComp_WT (F₀ := by k_asm) (by with_unfolding_all rfl) (by decide) (by rfl) (by decide) (by rfl) ?_)))
local macro_rules | `(tactic| lcg_src) => `(tactic| ((with_reducible show TupAt _ _ _ _); exact Or.inr ⟨_, by k_mem⟩))
local macro_rules | `(tactic| walk_at "CompRest") => `(tactic| refine Halt.mk ?_)
local macro_rules | `(tactic| walk_at "CompRestT") => `(tactic| refine Halt.mk ?_)
local macro_rules | `(tactic| walk_at "CompEnd") => `(tactic| refine Halt.mk ?_)
local macro_rules | `(tactic| walk_at "FinA") => `(tactic| refine Halt.mk ?_)
local macro_rules | `(tactic| walk_at "exec Assign cons ListComp") => `(tactic| refine Halt.mk ?_)
local macro_rules | `(tactic| walk_at "eval ListComp") => `(tactic| refine Halt.mk ?_)
local macro_rules | `(tactic| walk_at "SrcLP") => `(tactic| refine Halt.mk ?_)
local macro_rules | `(tactic| walk_at "CompRestP") => `(tactic| refine Halt.mk ?_)
local macro_rules | `(tactic| walk_at "call ref") => `(tactic| refine Halt.mk ?_)
local macro_rules | `(tactic| walk_at "call builtin:len") => `(tactic| refine Halt.mk ?_)
local macro_rules | `(tactic| walk_at "call builtin:sorted") => `(tactic| refine Halt.mk ?_)
local macro_rules | `(tactic| walk_at "call builtin:max") => `(tactic| refine Halt.mk ?_)
local macro_rules | `(tactic| walk_at "call builtin:sum") => `(tactic| refine Halt.mk ?_)
local macro_rules | `(tactic| walk_at "call type:set") => `(tactic| refine Halt.mk ?_)
local macro_rules | `(tactic| walk_at "call type:list") => `(tactic| refine Halt.mk ?_)
local macro_rules | `(tactic| walk_at "subscriptTail Name Name ref int") => `(tactic| refine Halt.mk ?_)
local macro_rules | `(tactic| walk_at "subscriptTail Name Slice ref ref") => `(tactic| refine Halt.mk ?_)
local macro_rules | `(tactic| walk_at "subscriptTail BinOp Slice ref ref") => `(tactic| refine Halt.mk ?_)
local macro_rules | `(tactic| walk_at "binaryOp Add ref ref") => `(tactic| refine Halt.mk ?_)
local macro_rules | `(tactic| walk_at "compareOp NotEq ref ref") => `(tactic| refine Halt.mk ?_)
local macro_rules | `(tactic| walk_at "compareOp Eq ref ref") => `(tactic| refine Halt.mk ?_)
local macro_rules | `(tactic| walk_at "compareOp In int ref") => `(tactic| refine Halt.mk ?_)
local macro_rules | `(tactic| k_all) => `(tactic| assumption)
theorem numsF_len (ns : List Int) : (numsF ns).length = 6 := by
  unfold numsF
  rw [List.length_take, List.length_append]
  simp only [List.length_cons, List.length_nil]
  omega
theorem numsF_zs (ns : List Int) : zs (numsF ns) = (((ns.take 6).map fun n => Int.fmod n 1000000) ++ [186, 78, 235, 289, 97, 21]).take 6 := by
  unfold numsF zs
  rw [List.map_take, List.map_append, List.map_map]
  congr 2
  refine List.map_congr_left fun n _ => ?_
  show ((Int.fmod n 1000000).toNat : Int) = _
  exact Int.toNat_of_nonneg (Int.fmod_nonneg_of_pos n (by decide))
theorem numsF_ints {ns : List Int} {ys : List Value} (h : IntsAre ys ((ns.take 6).map fun n => Int.fmod n 1000000)) (tk : Nat) : IntsAre ((ys ++ [Value.int 186 tk, Value.int 78 (tk + 1), Value.int 235 (tk + 1 + 1), Value.int 289 (tk + 1 + 1 + 1), Value.int 97 (tk + 1 + 1 + 1 + 1), Value.int 21 (tk + 1 + 1 + 1 + 1 + 1)]).take 6) (zs (numsF ns)) := by
  rw [numsF_zs]
  exact (h.append (.cons _ _ (.cons _ _ (.cons _ _ (.cons _ _ (.cons _ _ (.cons _ _ .nil))))))).take 6
theorem nat_at {nv : List Value} {nums : List Nat} (h : IntsAre nv (zs nums)) {i : Nat} (hi : i < nums.length) : ∃ v t, nv[i]? = some v ∧ v = .int ((nums.getD i 0 : Nat) : Int) t := by
  have hl := h.length
  rw [zs_len] at hl
  obtain ⟨v, hv⟩ : ∃ v, nv[i]? = some v := ⟨_, List.getElem?_eq_getElem (by omega)⟩
  obtain ⟨x, t, rfl, hx⟩ := zs_item h (i := i) (v := v) (by simpa using hv)
  refine ⟨_, t, hv, ?_⟩
  rw [List.getD_eq_getElem?_getD, hx]; rfl
theorem upsF_len (nums : List Nat) : (upsF nums).length = 6 := by unfold upsF; simp
theorem upsF_step (nums : List Nat) {i : Nat} (hi : i < 6) : (upsF nums).take (i + 1) = (upsF nums).take i ++ [nums.getD i 0 % (i + 1)] := by
  rw [List.take_add_one]
  unfold upsF
  rw [List.getElem?_map, List.getElem?_range hi]
  rfl
theorem zs_sum : ∀ l : List Nat, (zs l).sum = ((l.sum : Nat) : Int)
  | [] => rfl
  | a :: l => by
    show (a : Int) + (zs l).sum = _
    rw [zs_sum l, List.sum_cons]; omega
theorem upsF_le (nums : List Nat) (k u : Nat) (h : (upsF nums)[k]? = some u) : u ≤ k := by
  unfold upsF at h
  obtain ⟨p, hp, rfl⟩ := map_at h
  obtain ⟨h1, h2⟩ := List.getElem?_eq_some_iff.mp hp
  rw [List.getElem_range] at h2
  subst h2
  exact Nat.lt_succ_iff.mp (Nat.mod_lt _ (Nat.succ_pos _))
theorem fdm (x d : Nat) : ((x : Int).fdiv (d : Int)).fmod 7 = ((x / d % 7 : Nat) : Int) := by
  rw [Int.fdiv_eq_ediv_of_nonneg _ (by omega), Int.fmod_eq_emod_of_nonneg _ (by decide)]
  rfl
noncomputable def WayObj (W : List (List Str)) (k : Nat) (o : Obj) : Prop := ∃ vs n l, o = listOf (List.toArray vs) n ∧ W[k]? = some l ∧ StrsAre vs l
theorem startN_lt (nums : List Nat) (k : Nat) : startN nums k < 7 := Nat.mod_lt _ (by decide)
theorem goalN_lt (nums : List Nat) (k : Nat) : goalN nums k < 7 := Nat.mod_lt _ (by decide)
noncomputable def RowObj (R : List (List Nat)) (k : Nat) (o : Obj) : Prop := ∃ vs n l, o = listOf (List.toArray vs) n ∧ R[k]? = some l ∧ IntsAre vs (zs l)
theorem rowsF_at {nums us : List Nat} (h : upsF nums = us) {i : Nat} (hi : i < 6) : (rowsF nums)[i]? = some (nodesF (abv us (startN nums i)) (abv us (goalN nums i))) := by
  unfold rowsF
  rw [List.getElem?_map, List.getElem?_range hi, h]; rfl
theorem filt_rows {R : List (List Nat)} {k : Nat} {l : List Nat} (j : Nat) (h : R[k]? = some l) : ((R.take (k + 1)).filter fun r => r.contains j) = ((R.take k).filter fun r => r.contains j) ++ (if l.contains j = true then [l] else []) := by
  rw [List.take_add_one, h, Option.toList_some, List.filter_append, List.filter_cons, List.filter_nil]
theorem loadsF_step (nums : List Nat) {j : Nat} (hj : j < 7) : (loadsF nums).take (j + 1) = (loadsF nums).take j ++ [((rowsF nums).filter fun r => r.contains j).length] := by
  rw [List.take_add_one]
  unfold loadsF
  rw [List.getElem?_map, List.getElem?_range hj]
  rfl
theorem loadsF_le (nums : List Nat) {m : Nat} (h : m ∈ loadsF nums) : m < 7 := by
  unfold loadsF at h
  obtain ⟨v, _, rfl⟩ := List.mem_map.mp h
  have h1 : (rowsF nums).length = 6 := by unfold rowsF; simp
  exact Nat.lt_succ_of_le (h1 ▸ List.length_filter_le _ _)
theorem range_small {m : Nat} (h : m < 7) : Builtin.Range.small 0 (m : Int) 1 = true := by
  exact (by decide +kernel : ∀ m < 7, Builtin.Range.small 0 ((m : Nat) : Int) 1 = true) m h
theorem range_size {m : Nat} (h : m < 7) : Builtin.Range.rangeSize 0 (m : Int) 1 = (m : Int) := by
  match m, h with
  | 0, _ => rfl
  | 1, _ => rfl
  | 2, _ => rfl
  | 3, _ => rfl
  | 4, _ => rfl
  | 5, _ => rfl
  | 6, _ => rfl
theorem mem8' {α : Type} {a b c d e f g x : α} {l : List α} (h : x ∈ l) : x ∈ a :: b :: c :: d :: e :: f :: g :: l := .tail _ (.tail _ (.tail _ (.tail _ (.tail _ (.tail _ (.tail _ h))))))
theorem off1_front {D : Addr} : ∀ {l l' : List (Addr × Obj)}, LCg.Off1 D (l ++ l') → LCg.Off1 D l
  | [], _, _ => trivial
  | _ :: _, _, h => ⟨h.1, off1_front h.2⟩
/-- an end of a way-/
noncomputable def EndObj (nums : List Nat) (k : Nat) (o : Obj) : Prop := ∃ t u n, o = { cls := .type "tuple", data := .seq #[.int ((startN nums k : Nat) : Int) t, .int ((goalN nums k : Nat) : Int) u] n }
theorem upto_base {prog : Program} {w : World} {A : Around} {E : Value → Shared → Prop} {s : Shared} {h₀ : Heap} {m : Str → Option Value} {news : List (Addr × Obj)} {value slice : PySem.Expr} {l : Addr} {vs : List Value} {i : Nat} {t : Tok} {L : Addr} {Q : Value → Shared → Prop} (F : Fr h₀ L s.heap m) (N : News h₀ L s.heap news) (hm : h₀.IsList l vs.toArray) (hz : vs.length ≤ 1000)
    (h : ∀ D h', Fr h₀ L h' m → News h₀ L h' ((D, listOf (vs.take i).toArray 0) :: news) → (∀ p ∈ news, p.1 < D) → Q (.ref D) { s with heap := h' })
    (hs : subscripted slice false (.ref l) (.ref s.heap.objs.size) = operate [.ref s.heap.objs.size, .ref l] (getItem (.ref l) (.ref s.heap.objs.size)) := by with_unfolding_all rfl) (ht : ∀ r, letTemporaryGo value (.ref l) r = pure () := by intro _; with_unfolding_all rfl) :
    wpAny (model prog w) A (subscriptTail value slice (.ref l) (.ref s.heap.objs.size)) Q E { s with heap := s.heap.push { cls := .type "slice", data := .fields #[.none, .int (i : Int) t, .none] } } := by
  refine kmk_slice F N (hm.at fun o e => F.keep _ o e) .none (.int (i : Int) t) (fun D h' F' N' l1 => h D h' F' ?_ l1) hs ht (by rw [List.size_toArray, sizeLine_eq]; omega)
  rw [pick_upto] at N'
  exact N'
theorem law_spec {la : Addr} {vs : List Value} {ns : List Int} (S : St w mean mg mb s.heap) (hla : s.heap.IsList la vs.toArray) (hi : IntsAre vs ns) (hl : ns.length ≤ 63)
    (P : ∀ nums : List Nat, nums.length = 6 → Plan nums) (hd : dp + 8 < recursionLimit) (hu : un + 200 < cLine)
    (h : ∀ h' tk', (∀ b o, s.heap.get? b = some o → h'.get? b = some o) → Q (.bool true) { s with heap := h', toks := tk' }) :
    wpAny (model PySem.Challenge.rw_pd0148_01.row.prog w) (Ar dp un gd []) (call (.ref 210) [.ref la]) Q E s := by
  have d4 : dp + 1 + 4 < recursionLimit := by omega
  have d5 : dp + 1 + 5 < recursionLimit := by omega
  have u40 : un + 3 + 40 < cLine := by omega
  have u50 : un + 3 + 50 < cLine := by omega
  have u64 : un + 3 + 64 < cLine := by omega
  have u120 : un + 3 + 120 < cLine := by omega
  (have kfX := (‹St _ _ _ _ _›).X; revert kfX; k_fill; intro _)
  refine wpAny_call ?_
  refine' enterC (muts := []) ?k1 ?k6 ?k7 ?k8 ?k9 ?kB ?kD ?km ?_ ?c2 ?c3 ?c4
  (case k1 => assumption)
  (case k6 => k_is)
  (case k7 => k_is)
  (case k8 => omega)
  (case k9 => exact BindsTo.of_eq rfl)
  (case kB => exact rfl)
  (case kD => decide +kernel)
  (case km => exact fun _ h => nomatch h)
  (case c2 => exact rfl)
  (case c3 => exact rfl)
  (case c4 => exact rfl)
  intro L' h₁ tk cells F N Y hlt
  k_cells Y
  clear hlt
  rename_i oR oP oU oN dR dP dU dN
  simp only [List.cons_append, List.nil_append, List.append_nil] at N
  (with_unfolding_all change oR.data = Data.cell none at dR)
  (with_unfolding_all change oP.data = Data.cell none at dP)
  (with_unfolding_all change oU.data = Data.cell none at dU)
  (with_unfolding_all change oN.data = Data.cell none at dN)
  dsimp only
  obtain ⟨X0, T0⟩ := S
  obtain ⟨g, _, _, _, _⟩ := s
  dsimp only at *
  replace F : Fr g L' h₁ (fun y => if y = Str.ofString "script" then some (.ref la) else none) := by with_unfolding_all exact F
  replace N : News g L' h₁ [(L' + 1 + 1 + 1 + 1, oR), (L' + 1 + 1 + 1, oP), (L' + 1 + 1, oU), (L' + 1, oN)] := N
  k_steps
  unfold Halt
  refine' ListComp_W (F₀ := F) ?a2 ?a3 ?a4 ?a5 ?a6 ?_
  (case a2 => with_unfolding_all rfl)
  (case a3 => decide)
  (case a4 => rfl)
  (case a5 => decide)
  (case a6 => rfl)
  k_steps
  unfold Halt
  refine upto_base (i := 6) F N hla (by rw [IntsAre.length hi]; omega) fun D1 h2 F2 N2 l2 => ?_
  clear F N
  k_lt l2
  have hi6 := hi.take 6
  have h6l := hi6.length
  have h6l' : (ns.take 6).length ≤ 6 := by rw [List.length_take]; omega
  refine SrcW.of (Drawn.led (vs := vs.take 6) rfl F2 N2 (.head _)) ?hsz fun gc => ?_
  (case hsz => rw [List.size_toArray, sizeLine_eq, List.length_take]; omega)
  refine comp_invK (fun i ys => IntsAre ys (((ns.take 6).map fun n => Int.fmod n 1000000).take i)) (fun i ys hi hys v I₂ oI₂ C₂ oC₂ A₂ m₂ g₂ k₂ E₂ hv₂ hC₂ hx₂ F4 N4 off₂ ne₂ => ?_) (fun ys hys => ?_) .nil
  · refine genH fun Q₂ hQ₂ => ?_
    refine ex2a2 (hi6.at i v (by simpa using hv₂)) fun n t' eqa hx => ?_
    subst eqa
    clear F2 N2
    (k_steps; all_goals (try ((first | ((with_reducible rename Held _ => hKQ); refine Held.out hKQ _ _ ?_; clear hKQ; (try dsimp only)) | ((with_reducible rename (∀ f s, KswPost _ _ _ _ _ _ _ _ _ _ _ _ f s → _) => hKQ); refine hKQ _ _ ?_; clear hKQ)); k_steps)); all_goals (try ((first | ((with_reducible rename Held _ => hKQ); refine Held.out hKQ _ _ ?_; clear hKQ; (try dsimp only)) | ((with_reducible rename (∀ f s, KswPost _ _ _ _ _ _ _ _ _ _ _ _ f s → _) => hKQ); refine hKQ _ _ ?_; clear hKQ)); k_steps)))
    unfold Halt
    refine CompEnd.same F4 N4 off₂ (SrcAt.led (n := 0) (.head _)) ⟨rfl, ?_⟩
    rw [List.take_add_one, List.getElem?_map, hx]
    exact hys.append (.cons _ _ .nil)
  · have hys' : IntsAre ys ((ns.take 6).map fun n => Int.fmod n 1000000) := by
      rw [List.take_of_length_le (by rw [List.size_toArray, List.length_map]; omega)] at hys
      exact hys
    have hyl := hys'.length
    rw [List.length_map] at hyl
    intro D2 h3 tk3 F3 N3 o3
    clear F2 N2 hys
    k_steps
    unfold Halt
    (rename Fr _ _ _ _ => F4)
    (rename News _ _ _ _ => N4)
    rename_i D3 _ l4
    refine add_led (vs := ys) (ws := [Value.int 186 tk3, Value.int 78 (tk3 + 1), Value.int 235 (tk3 + 1 + 1), Value.int 289 (tk3 + 1 + 1 + 1), Value.int 97 (tk3 + 1 + 1 + 1 + 1), Value.int 21 (tk3 + 1 + 1 + 1 + 1 + 1)]) (n := ys.length) (n2 := 0) F4 N4 (by k_mem) (by k_mem) (by rw [hyl]; simp only [List.length_cons, List.length_nil]; omega) fun D4 h5 F5 N5 l5 => ?_
    clear F4 N4
    k_lt l5
    k_steps
    unfold Halt
    refine upto_led (i := 6) F5 N5 (.head _) ?hz fun D5 h6 F6 N6 l6 => ?_
    case hz => rw [List.length_append, hyl]; simp only [List.length_cons, List.length_nil]; omega
    clear F5 N5
    k_lt l6
    have hnums := numsF_ints hys' tk3
    generalize hnv : ((ys ++ [Value.int 186 tk3, Value.int 78 (tk3 + 1), Value.int 235 (tk3 + 1 + 1), Value.int 289 (tk3 + 1 + 1 + 1), Value.int 97 (tk3 + 1 + 1 + 1 + 1), Value.int 21 (tk3 + 1 + 1 + 1 + 1 + 1)]).take 6) = nv at *
    replace N6 := News.sub (news' := [(D5, listOf nv.toArray 0), (L' + 1 + 1 + 1 + 1, oR), (L' + 1 + 1 + 1, oP), (L' + 1 + 1, oU), (L' + 1, oN)]) N6 (by walk_at "SUBS")
    generalize hnu : numsF ns = nums at *
    have hnl : nums.length = 6 := by rw [← hnu]; exact numsF_len ns
    clear hys' hyl o3 l4 l5 hnv
    k_steps
    unfold Halt
    (rename Fr _ _ _ _ => F7)
    (rename News _ _ _ _ => N7)
    rename_i _ oN2 dN2
    refine wpAny_Assign_Name ?_ (by with_unfolding_all rfl)
    refine' ListComp_W (F₀ := F7) ?a2 ?a3 ?a4 ?a5 ?a6 ?_
    (case a2 => with_unfolding_all rfl)
    (case a3 => decide)
    (case a4 => rfl)
    (case a5 => decide)
    (case a6 => rfl)
    k_steps
    (rename Fr _ _ _ _ => F8)
    (rename News _ _ _ _ => N8)
    (rename IsRange _ _ _ _ _ _ _ _ => R8)
    refine SrcW.of (Drawn.range (n := 6) rfl F8 N8 R8 rfl rfl) ?hsz fun g1 => ?_
    (case hsz => decide)
    clear R8
    refine comp_invK (fun i ys => IntsAre ys (zs ((upsF nums).take i))) (fun i ys hi hys v I₂ oI₂ C₂ oC₂ A₂ m₂ g₂ k₂ E₂ hv₂ hC₂ hx₂ F4 N4 off₂ ne₂ => ?_) (fun ys hys => ?_) .nil
    · refine genH fun Q₂ hQ₂ => ?_
      refine Exists.elim (hv₂) fun t3 eqb => ?_
      clear hv₂
      subst eqb
      (try clear F7)
      (try clear N7)
      clear F8 N8
      rw [Int.zero_add] at *
      refine ex2a2 (nat_at hnums (show i < nums.length by omega)) fun v t4 hv eqc => ?_
      subst eqc
      (k_steps; all_goals (try ((first | ((with_reducible rename Held _ => hKQ); refine Held.out hKQ _ _ ?_; clear hKQ; (try dsimp only)) | ((with_reducible rename (∀ f s, KswPost _ _ _ _ _ _ _ _ _ _ _ _ f s → _) => hKQ); refine hKQ _ _ ?_; clear hKQ)); k_steps)); all_goals (try ((first | ((with_reducible rename Held _ => hKQ); refine Held.out hKQ _ _ ?_; clear hKQ; (try dsimp only)) | ((with_reducible rename (∀ f s, KswPost _ _ _ _ _ _ _ _ _ _ _ _ f s → _) => hKQ); refine hKQ _ _ ?_; clear hKQ)); k_steps)))
      unfold Halt
      refine item_listL (k := (i : Int)) ⟨_, (N4 (D5, listOf nv.toArray 0) (by k_mem)).1, rfl, _, rfl⟩ (by omega) (by omega) (by simpa using hv) ?_ (by with_unfolding_all rfl) (by intro _; with_unfolding_all rfl)
      (k_steps; all_goals (try ((first | ((with_reducible rename Held _ => hKQ); refine Held.out hKQ _ _ ?_; clear hKQ; (try dsimp only)) | ((with_reducible rename (∀ f s, KswPost _ _ _ _ _ _ _ _ _ _ _ _ f s → _) => hKQ); refine hKQ _ _ ?_; clear hKQ)); k_steps)); all_goals (try ((first | ((with_reducible rename Held _ => hKQ); refine Held.out hKQ _ _ ?_; clear hKQ; (try dsimp only)) | ((with_reducible rename (∀ f s, KswPost _ _ _ _ _ _ _ _ _ _ _ _ f s → _) => hKQ); refine hKQ _ _ ?_; clear hKQ)); k_steps)))
      unfold Halt
      refine CompEnd.same F4 N4 off₂ trivial ⟨rfl, ?_⟩
      rw [upsF_step nums hi, zs_append]
      refine hys.append ?_
      have e : Int.fmod ((nums.getD i 0 : Nat) : Int) ((i : Int) + 1) = ((nums.getD i 0 % (i + 1) : Nat) : Int) := by
        rw [Int.fmod_eq_emod_of_nonneg _ (by omega)]
        rfl
      show IntsAre [Value.int (Int.fmod ((nums.getD i 0 : Nat) : Int) ((i : Int) + 1)) _] [((nums.getD i 0 % (i + 1) : Nat) : Int)]
      rw [e]
      exact .cons _ _ .nil
    · rw [List.take_of_length_le (by rw [upsF_len]; omega)] at hys
      intro D6 h7 tk7 F9 N9 o9
      (try clear F7)
      (try clear N7)
      clear F8 N8
      generalize hup : upsF nums = us at *
      simp only [LCg.Off1, and_true] at o9
      have o9b := o9.2.1
      have o9c := o9.2.2.1
      have o9d := o9.2.2.2.1
      k_steps
      unfold Halt
      (try clear F9)
      (try clear N9)
      (rename Fr _ _ _ _ => F10)
      (rename News _ _ _ _ => N10)
      rename_i _ oU2 dU2
      refine LSm.sum_ints F10 N10 rfl ⟨_, (N10 (D5, listOf nv.toArray 0) (by k_mem)).1, rfl, _, rfl⟩ hnums fun h8 tk8 t8 F11 N11 => ?_
      clear F10 N10
      rw [zs_sum]
      have hus : us.length = 6 := by rw [← hup]; exact upsF_len nums
      have hle : ∀ (k u : Nat), us[k]? = some u → u ≤ k := by rw [← hup]; exact upsF_le nums
      have hturn : turnF nums < 6 := Nat.mod_lt _ (by decide)
      have hts : ((nums.sum : Nat) : Int).fmod 6 = ((turnF nums : Nat) : Int) := by rw [Int.fmod_eq_emod_of_nonneg _ (by decide)]; rfl
      have hP := P nums hnl
      k_steps
      unfold Halt
      (try clear F11)
      (try clear N11)
      (rename Fr _ _ _ _ => F12)
      (rename News _ _ _ _ => N12)
      rw [hts] at F12 ⊢
      generalize htu : turnF nums = turn at *
      refine joined_spec hus hle hturn ⟨_, (N12 (D6, listOf ys.toArray ys.length) (by k_mem)).1, rfl, _, rfl⟩ hys (by walk_at "S") d4 u40 fun D7 xv n7 h9 tk9 hk9 hf9 hD9 hx9 => ?_
      have F13 := F12.keeps hk9
      have N13 := News.addOf F12 N12 hk9 hf9 hD9
      have ne13 := News.neOf N12 hf9
      simp only [List.forall_mem_cons, List.not_mem_nil, false_implies, implies_true, and_true] at ne13
      have ne13c := ne13.2.2.1
      have ne13d := ne13.2.2.2.1
      clear F12 N12 hk9 hf9 hD9
      k_steps
      unfold Halt
      (rename Fr _ _ _ _ => F14)
      (rename News _ _ _ _ => N14)
      rename_i _ oP2 dP2
      refine spelled_spec hus hle hturn ⟨_, (N14 (D6, listOf ys.toArray ys.length) (by k_mem)).1, rfl, _, rfl⟩ hys (by walk_at "S") d4 u40 fun D8 sv n8 h10 tk10 hk10 hf10 hD10 hx10 => ?_
      have F15 := F14.keeps hk10
      have N15 := News.addOf F14 N14 hk10 hf10 hD10
      clear F14 N14 hk10 hf10 hD10
      have htx := hP.texts
      rw [hup, htu] at htx
      rw [htx] at hx10
      have hX : joinedF us turn 6 = pathsF nums := by rw [pathsF, hup, htu]
      rw [hX] at hx9
      clear hX htx
      k_steps
      unfold Halt
      refine ne_strs ⟨_, (N15 (D7, listOf xv.toArray n7) (by k_mem)).1, rfl, _, rfl⟩ ⟨_, (N15 _ (.head _)).1, rfl, _, rfl⟩ hx9 hx10 hP.ok u64 ?_
      replace N15 := News.sub (news' := [(D7, listOf xv.toArray n7), (D6, listOf ys.toArray ys.length), (D5, listOf nv.toArray 0), (L' + 1 + 1 + 1 + 1, oR), (L' + 1 + 1 + 1, oP2), (L' + 1 + 1, oU2), (L' + 1, oN2)]) N15 (fun p hp => .tail _ hp)
      clear hx10
      k_steps
      unfold Halt
      (rename Fr _ _ _ _ => F16)
      (rename News _ _ _ _ => N16)
      refine' Assign_ListComp_W (F₀ := F16) ?b0 ?b1 ?b2 ?b3 ?b4 ?b5 ?b6 ?b7 ?b8 ?_
      (case b0 => rfl)
      (case b1 => with_unfolding_all rfl)
      (case b2 => with_unfolding_all rfl)
      (case b3 => decide)
      (case b4 => rfl)
      (case b5 => decide)
      (case b6 => rfl)
      (case b7 => rfl)
      (case b8 => rfl)
      k_steps
      have hnvl : nv.length = 6 := by have := hnums.length; rw [zs_len] at this; omega
      refine SrcW.of (Drawn.led (vs := nv) rfl F16 N16 (by k_mem)) ?hsz fun g2 => ?_
      (case hsz => rw [List.size_toArray, sizeLine_eq]; omega)
      generalize hN0 : [(D7, listOf xv.toArray n7), (D6, listOf ys.toArray ys.length), (D5, listOf nv.toArray 0), (L' + 1 + 1 + 1 + 1, oR), (L' + 1 + 1 + 1, oP2), (L' + 1 + 1, oU2), (L' + 1, oN2)] = N0 at N16
      refine comp_inv (n := nv.toArray.size) (fun i ys nw => ∃ hs its, nw = N0 ++ its ∧ ys = rv hs ∧ hs.length = i ∧ Its (EndObj nums) hs its ∧ ∀ p ∈ its, @Ne Nat p.1 (L' + 1 + 1 + 1 + 1)) (fun i ys' nw hi hnw v I₂ oI₂ C₂ oC₂ A₂ m₂ g₂ k₂ E₂ hv₂ hC₂ hx₂ F4 N4 off₂ ne₂ => ?_) (fun ys' nw hnw => ?_) _ 0 [] _ (Nat.zero_add _) ⟨[], [], by simp [hN0], rfl, rfl, Its.nil _, fun _ h => nomatch h⟩
      · refine genH fun Q₂ hQ₂ => ?_
        refine ex2a5 (hnw) fun hs its e1 e2 e3 hI hDe => ?_
        clear hnw
        refine ex2a2 (zs_item hnums hv₂) fun x t3 eqd hx => ?_
        subst eqd
        subst e1 e2
        clear F16 N16
        subst hN0
        simp only [List.cons_append, List.nil_append] at N4
        (k_steps; all_goals (try ((first | ((with_reducible rename Held _ => hKQ); refine Held.out hKQ _ _ ?_; clear hKQ; (try dsimp only)) | ((with_reducible rename (∀ f s, KswPost _ _ _ _ _ _ _ _ _ _ _ _ f s → _) => hKQ); refine hKQ _ _ ?_; clear hKQ)); k_steps)); all_goals (try ((first | ((with_reducible rename Held _ => hKQ); refine Held.out hKQ _ _ ?_; clear hKQ; (try dsimp only)) | ((with_reducible rename (∀ f s, KswPost _ _ _ _ _ _ _ _ _ _ _ _ f s → _) => hKQ); refine hKQ _ _ ?_; clear hKQ)); k_steps)))
        unfold Halt
        (rename Fr _ _ _ _ => F17)
        (rename News _ _ _ _ => N17)
        rename_i A7 _ lt7
        have hxe : x = nums.getD i 0 := by rw [List.getD_eq_getElem?_getD, hx]; rfl
        have e5 : ((x : Int).fdiv 6).fmod 7 = ((startN nums i : Nat) : Int) := by have := fdm x 6; unfold startN; rw [← hxe]; exact this
        have e6 : ((x : Int).fdiv 42).fmod 7 = ((goalN nums i : Nat) : Int) := by have := fdm x 42; unfold goalN; rw [← hxe]; exact this
        rw [e5, e6] at N17
        refine CompEnd.grow (news := [(D7, listOf xv.toArray n7), (D6, listOf ys.toArray ys.length), (D5, listOf nv.toArray 0), (L' + 1 + 1 + 1 + 1, oR), (L' + 1 + 1 + 1, oP2), (L' + 1 + 1, oU2), (L' + 1, oN2)] ++ its) F17 N17 (Nat.ne_of_gt lt7.1) (Nat.ne_of_gt lt7.2.1) (Nat.ne_of_gt lt7.2.2.1) off₂ (SrcAt.led (n := 0) (by k_mem)) ⟨hs ++ [A7], its ++ [(A7, _)], List.append_assoc _ _ _, by simp [rv], by rw [List.length_append, e3]; rfl, Its.snoc hI (by rw [e3]; exact ⟨_, _, _, rfl⟩), fun p hp => ?_⟩
        rcases List.mem_append.mp hp with hp | hp
        · exact hDe p hp
        · rw [List.mem_singleton.mp hp]
          exact Nat.ne_of_gt lt7.2.2.2.2.2.2.1
      · refine ex2a5 (hnw) fun hs its e1 e2 e3 hI hDe => ?_
        clear hnw
        subst e1 e2
        rw [List.size_toArray, hnvl] at e3
        intro D9 h11 tk11 F18 N18 o18
        have oits : ∀ p ∈ its, p.1 ≠ D9 := fun p hp => off1_mem o18 p (List.mem_append_right _ hp)
        clear F16 N16
        subst hN0
        have o19 := off1_front o18
        clear o18
        simp only [List.cons_append, List.nil_append] at N18
        simp only [LCg.Off1, and_true] at o19
        k_steps
        unfold Halt
        replace F18 : Fr g L' h11 (fun y => if y = Str.ofString "ends" then some (.ref D9) else if y = Str.ofString "turn" then some (.int turn (tk8 + 1)) else if y = Str.ofString "script" then some (.ref la) else none) := F18
        refine' LCp.ListComp_P (F₀ := F18) ?a2 ?a3 ?a4 ?a5 ?a6 ?a7 ?a8 ?_
        (case a2 => with_unfolding_all rfl)
        (case a3 => decide)
        (case a4 => rfl)
        (case a5 => decide)
        (case a6 => rfl)
        (case a7 => rfl)
        (case a8 => decide)
        k_steps
        unfold Halt
        have hrs : (rv hs).toArray.size = 6 := by rw [List.size_toArray, rv_len, e3]
        refine LCp.SrcLP.ledger rfl F18 N18 (.head _) (by rw [hrs, sizeLine_eq]; decide) fun g3 => ?_
        have hXl : (pathsF nums).length = 7 := joinedF_len _ _ _
        refine compP_inv (n := (rv hs).toArray.size) (fun i ys' nw => ∃ ws wits tl, nw = (D9, LCg.lst (rv hs)) :: (D7, listOf xv.toArray n7) :: (D6, listOf ys.toArray ys.length) :: (D5, listOf nv.toArray 0) :: (L' + 1 + 1 + 1 + 1, oR) :: (L' + 1 + 1 + 1, oP2) :: (L' + 1 + 1, oU2) :: (L' + 1, oN2) :: tl ∧
          ys' = rv ws ∧ ws.length = i ∧ Its (WayObj (waysF nums)) ws wits ∧ (∀ p ∈ its, p ∈ tl) ∧ (∀ p ∈ wits, p ∈ tl) ∧ ∀ p ∈ tl, @Ne Nat p.1 (L' + 1 + 1 + 1 + 1)) (fun i ys' nw hi hnw kont => LCp.CompRestP.succ fun v hv => ?_) (fun ys' nw hnw => LCp.CompRestP.zero ?_) _ 0 [] _ (Nat.zero_add _) ⟨[], [], its, rfl, rfl, rfl, Its.nil _, (fun _ h => h), (fun _ h => nomatch h), hDe⟩
        · refine ex3a7 (hnw) fun ws wits tl e1 e2 e4 hJ s1 s2 hT => ?_
          clear hnw
          subst e1 e2
          rw [hrs] at hi
          refine Exists.elim (show ∃ a, hs[i]? = some a from ⟨_, List.getElem?_eq_getElem (Nat.lt_of_lt_of_eq hi e3.symm)⟩) fun a ha => ?_
          obtain rfl : v = .ref a := by
            have h1 := rv_get ha
            have h2 : (rv hs)[i]? = some v := by simpa using hv
            rw [h1] at h2
            exact (Option.some.inj h2).symm
          refine ex1a2 (hI.at ha) fun o ho hot => ?_
          refine ex3a1 hot fun t1 t2 n1 eho => ?_
          clear hot
          subst eho
          refine ⟨a, _, _, _, _, rfl, .tail _ (mem8 (s1 _ ho)), rfl, rfl, ?_⟩
          intro I₂ oI₂ C₂ oC₂ A₂ m₂ g₂ k₂ E₂ hC₂ hx₂ hy₂ F4 N4 off₂ ne₂
          clear F18 N18 hv
          refine Exists.elim (show ∃ x, (pathsF nums)[startN nums i]? = some x from ⟨_, List.getElem?_eq_getElem (Nat.lt_of_lt_of_eq (startN_lt nums i) hXl.symm)⟩) fun x hx => ?_
          refine Exists.elim (show ∃ y, (pathsF nums)[goalN nums i]? = some y from ⟨_, List.getElem?_eq_getElem (Nat.lt_of_lt_of_eq (goalN_lt nums i) hXl.symm)⟩) fun y hy => ?_
          have hs7 := startN_lt nums i
          have hg7 := goalN_lt nums i
          refine ex2a5 (hP.way i hi x y hx hy) fun cx cy hcx hcy hlcx hlcy hway => ?_
          refine an4 (hP.len x (List.mem_of_getElem? hx)) fun lx1 lx2 lx3 lx4 => ?_
          refine an4 (hP.len y (List.mem_of_getElem? hy)) fun ly1 ly2 ly3 ly4 => ?_
          refine genH fun Q₂ hQ₂ => ?_
          (k_steps; all_goals (try ((first | ((with_reducible rename Held _ => hKQ); refine Held.out hKQ _ _ ?_; clear hKQ; (try dsimp only)) | ((with_reducible rename (∀ f s, KswPost _ _ _ _ _ _ _ _ _ _ _ _ f s → _) => hKQ); refine hKQ _ _ ?_; clear hKQ)); k_steps)); all_goals (try ((first | ((with_reducible rename Held _ => hKQ); refine Held.out hKQ _ _ ?_; clear hKQ; (try dsimp only)) | ((with_reducible rename (∀ f s, KswPost _ _ _ _ _ _ _ _ _ _ _ _ f s → _) => hKQ); refine hKQ _ _ ?_; clear hKQ)); k_steps)))
          unfold Halt
          refine get_strs N4 (show (D7, listOf xv.toArray n7) ∈ _ by k_mem) hx9 (Int.natCast_nonneg _) (Int.lt_trans (Int.ofNat_lt.mpr hs7) (by decide)) (by simpa using hx) fun tx => ?_
          (k_steps; all_goals (try ((first | ((with_reducible rename Held _ => hKQ); refine Held.out hKQ _ _ ?_; clear hKQ; (try dsimp only)) | ((with_reducible rename (∀ f s, KswPost _ _ _ _ _ _ _ _ _ _ _ _ f s → _) => hKQ); refine hKQ _ _ ?_; clear hKQ)); k_steps)); all_goals (try ((first | ((with_reducible rename Held _ => hKQ); refine Held.out hKQ _ _ ?_; clear hKQ; (try dsimp only)) | ((with_reducible rename (∀ f s, KswPost _ _ _ _ _ _ _ _ _ _ _ _ f s → _) => hKQ); refine hKQ _ _ ?_; clear hKQ)); k_steps)))
          unfold Halt
          refine get_strs N4 (show (D7, listOf xv.toArray n7) ∈ _ by k_mem) hx9 (Int.natCast_nonneg _) (Int.lt_trans (Int.ofNat_lt.mpr hg7) (by decide)) (by simpa using hy) fun ty => ?_
          (k_steps; all_goals (try ((first | ((with_reducible rename Held _ => hKQ); refine Held.out hKQ _ _ ?_; clear hKQ; (try dsimp only)) | ((with_reducible rename (∀ f s, KswPost _ _ _ _ _ _ _ _ _ _ _ _ f s → _) => hKQ); refine hKQ _ _ ?_; clear hKQ)); k_steps)); all_goals (try ((first | ((with_reducible rename Held _ => hKQ); refine Held.out hKQ _ _ ?_; clear hKQ; (try dsimp only)) | ((with_reducible rename (∀ f s, KswPost _ _ _ _ _ _ _ _ _ _ _ _ f s → _) => hKQ); refine hKQ _ _ ?_; clear hKQ)); k_steps)))
          unfold Halt
          refine way_spec lx1 ly1 rfl rfl lx3 ly3 lx4 ly4 lx2 ly2 hcx hcy hlcx hlcy (by walk_at "S") d4 u40 fun A7 wv nw7 h12 tk12 hk12 hf12 hD12 hx12 => ?_
          have F5 := F4.keeps hk12
          have N5 := News.addOf F4 N4 hk12 hf12 hD12
          have ne5 := News.neOf N4 hf12
          clear F4 N4 hk12 hf12 hD12
          (k_steps; all_goals (try ((first | ((with_reducible rename Held _ => hKQ); refine Held.out hKQ _ _ ?_; clear hKQ; (try dsimp only)) | ((with_reducible rename (∀ f s, KswPost _ _ _ _ _ _ _ _ _ _ _ _ f s → _) => hKQ); refine hKQ _ _ ?_; clear hKQ)); k_steps)); all_goals (try ((first | ((with_reducible rename Held _ => hKQ); refine Held.out hKQ _ _ ?_; clear hKQ; (try dsimp only)) | ((with_reducible rename (∀ f s, KswPost _ _ _ _ _ _ _ _ _ _ _ _ f s → _) => hKQ); refine hKQ _ _ ?_; clear hKQ)); k_steps)))
          unfold Halt
          refine CompEnd.grow (news := (D9, LCg.lst (rv hs)) :: (D7, listOf xv.toArray n7) :: (D6, listOf ys.toArray ys.length) :: (D5, listOf nv.toArray 0) :: (L' + 1 + 1 + 1 + 1, oR) :: (L' + 1 + 1 + 1, oP2) :: (L' + 1 + 1, oU2) :: (L' + 1, oN2) :: tl) F5 N5 (Ne.symm (ne5 _ (.head _))) (Ne.symm (ne5 _ (.tail _ (.head _)))) (Ne.symm (ne5 _ (.tail _ (.tail _ (.head _))))) off₂ (SrcAt.led (n := (rv hs).length) (.head _)) (kont _ _ ⟨ws ++ [A7], wits ++ [(A7, listOf wv.toArray nw7)], tl ++ [(A7, listOf wv.toArray nw7)], rfl, by simp [rv], by rw [List.length_append, e4]; rfl, Its.snoc hJ (by rw [e4]; exact ⟨wv, nw7, _, rfl, hway, hx12⟩), fun p hp => List.mem_append_left _ (s1 p hp), fun p hp => ?_, fun p hp => ?_⟩)
          · rcases List.mem_append.mp hp with hp | hp
            · exact List.mem_append_left _ (s2 p hp)
            · exact List.mem_append_right _ hp
          · rcases List.mem_append.mp hp with hp | hp
            · exact hT p hp
            · rw [List.mem_singleton.mp hp]
              exact Ne.symm (ne5 _ (.tail _ (.tail _ (.tail _ (.tail _ (.tail _ (.tail _ (.tail _ (.head _)))))))))
        · refine ex3a7 (hnw) fun ws wits tl e1 e2 e4 hJ s1 s2 hT => ?_
          clear hnw
          subst e1 e2
          rw [hrs] at e4
          intro D10 h13 tk13 F20 N20 o20
          clear F18 N18
          have o21 : LCg.Off1 D10 [(D9, LCg.lst (rv hs)), (D7, listOf xv.toArray n7), (D6, listOf ys.toArray ys.length), (D5, listOf nv.toArray 0), (L' + 1 + 1 + 1 + 1, oR), (L' + 1 + 1 + 1, oP2), (L' + 1 + 1, oU2), (L' + 1, oN2)] := off1_front (l' := tl) o20
          have t10 : ∀ p ∈ tl, p.1 ≠ D10 := fun p hp => off1_mem o20 p (.tail _ (mem8 hp))
          clear o20
          simp only [LCg.Off1, and_true] at o21
          k_steps
          unfold Halt
          refine ex1a5 (hP.paint) fun cs hcs hfull hc6 hmost hsame => ?_
          refine ex3a4 (id F20.ns) fun oM esM epM heM hdM hkM hnM => ?_
          refine painted_spec (envL := _) (Lf := L') (oL := oM) (wa := D10) (wrefs := ws) (W := waysF nums) (St.hide1 X0 T0 F20) d5 u120 ⟨(fun e => nomatch e), rfl, ⟨esM, epM, hdM⟩, trivial⟩ ?hm ⟨_, get_hide1 N20 _ (.head _), rfl, _, rfl⟩ (by unfold waysF rowsF; simp) ⟨?wl, ?wk⟩ ?wne hcs hfull fun D12 pv n12 sl h14 tk14 hk14 hL14 hne14 hf14 hD14 hp14 => ?_
          case hm =>
            intro p hp
            rw [List.mem_singleton.mp hp]
            exact heM
          case wl => rw [e4]; unfold waysF rowsF; simp
          case wk =>
            intro k a l ha hl
            obtain ⟨o, ho, vs', n', l', rfl, hl', hv'⟩ := hJ.at ha
            rw [hl] at hl'
            cases hl'
            exact ⟨vs', ⟨_, get_hide1 N20 _ (.tail _ (.tail _ (mem8 (s2 _ ho)))), rfl, _, rfl⟩, hv'⟩
          case wne =>
            intro l hl e
            subst e
            unfold waysF at hl
            obtain ⟨r, hr, hr2⟩ := List.mem_map.mp hl
            obtain ⟨⟨x, r', e, _⟩, _⟩ := hP.rows r hr
            rw [e] at hr2
            cases hr2
          have F21 := Fr.back1 F20 heM hk14 ⟨sl, hL14⟩
          have N21 := News.add1 F20 (News.back1 N20 hk14) hf14 hne14 hD14
          have ne21 := News.ne1 N20 hf14
          have t12 : ∀ p ∈ tl, p.1 ≠ D12 := fun p hp => ne21 p (.tail _ (.tail _ (mem8 hp)))
          have o22 : (@Ne Nat D10 D12) ∧ (@Ne Nat D9 D12) ∧ (@Ne Nat D7 D12) ∧ (@Ne Nat D6 D12) ∧ (@Ne Nat D5 D12) ∧ (@Ne Nat (L' + 1 + 1 + 1 + 1) D12) ∧ (@Ne Nat (L' + 1 + 1 + 1) D12) ∧ (@Ne Nat (L' + 1 + 1) D12) ∧ (@Ne Nat (L' + 1) D12) := ⟨ne21 _ (.head _), ne21 _ (.tail _ (.head _)), ne21 _ (.tail _ (.tail _ (.head _))), ne21 _ (.tail _ (.tail _ (.tail _ (.head _)))), ne21 _ (.tail _ (.tail _ (.tail _ (.tail _ (.head _))))), ne21 _ (.tail _ (.tail _ (.tail _ (.tail _ (.tail _ (.head _)))))), ne21 _ (.tail _ (.tail _ (.tail _ (.tail _ (.tail _ (.tail _ (.head _))))))), ne21 _ (.tail _ (.tail _ (.tail _ (.tail _ (.tail _ (.tail _ (.tail _ (.head _)))))))), ne21 _ (.tail _ (.tail _ (.tail _ (.tail _ (.tail _ (.tail _ (.tail _ (.tail _ (.head _)))))))))⟩
          clear F20 N20 hk14 hL14 hne14 hf14 hD14 ne21 heM hdM hkM hnM
          replace N21 := News.sub (news' := (D12, listOf pv.toArray n12) :: (D9, LCg.lst (rv hs)) :: (D7, listOf xv.toArray n7) :: (D6, listOf ys.toArray ys.length) :: (D5, listOf nv.toArray 0) :: (L' + 1 + 1 + 1 + 1, oR) :: (L' + 1 + 1 + 1, oP2) :: (L' + 1 + 1, oU2) :: (L' + 1, oN2) :: tl) N21 (fun p hp => by
            rcases List.mem_cons.mp hp with rfl | hp
            · exact .head _
            · exact .tail _ (.tail _ hp))
          k_steps
          unfold Halt
          (try clear F21)
          (try clear N21)
          (rename Fr _ _ _ _ => F22)
          (rename News _ _ _ _ => N22)
          refine wpAny_Assign_Name ?_ (by with_unfolding_all rfl)
          refine' LCp.ListComp_P (F₀ := F22) ?a2 ?a3 ?a4 ?a5 ?a6 ?a7 ?a8 ?_
          (case a2 => with_unfolding_all rfl)
          (case a3 => decide)
          (case a4 => rfl)
          (case a5 => decide)
          (case a6 => rfl)
          (case a7 => rfl)
          (case a8 => decide)
          k_steps
          unfold Halt
          refine LCp.SrcLP.ledger rfl F22 N22 (.tail _ (.head _)) (by rw [hrs, sizeLine_eq]; decide) fun g4 => ?_
          refine compP_inv (n := (rv hs).toArray.size) (fun i ys' nw => ∃ rs rits tr, nw = (D12, listOf pv.toArray n12) :: (D9, LCg.lst (rv hs)) :: (D7, listOf xv.toArray n7) :: (D6, listOf ys.toArray ys.length) :: (D5, listOf nv.toArray 0) :: (L' + 1 + 1 + 1 + 1, oR) :: (L' + 1 + 1 + 1, oP2) :: (L' + 1 + 1, oU2) :: (L' + 1, oN2) :: tr ∧
            ys' = rv rs ∧ rs.length = i ∧ Its (RowObj (rowsF nums)) rs rits ∧ (∀ p ∈ its, p ∈ tr) ∧ (∀ p ∈ rits, p ∈ tr) ∧ ∀ p ∈ tr, @Ne Nat p.1 (L' + 1 + 1 + 1 + 1)) (fun i ys' nw hi hnw kont => LCp.CompRestP.succ fun v hv => ?_) (fun ys' nw hnw => LCp.CompRestP.zero ?_) _ 0 [] _ (Nat.zero_add _) ⟨[], [], tl, rfl, rfl, rfl, Its.nil _, s1, (fun _ h => nomatch h), hT⟩
          · refine ex3a7 (hnw) fun rs rits tr e1 e2 e4 hK s1 s2 hT => ?_
            clear hnw
            subst e1 e2
            rw [hrs] at hi
            refine Exists.elim (show ∃ a, hs[i]? = some a from ⟨_, List.getElem?_eq_getElem (Nat.lt_of_lt_of_eq hi e3.symm)⟩) fun a ha => ?_
            obtain rfl : v = .ref a := by
              have h1 := rv_get ha
              have h2 : (rv hs)[i]? = some v := by simpa using hv
              rw [h1] at h2
              exact (Option.some.inj h2).symm
            refine ex1a2 (hI.at ha) fun o ho hot => ?_
            refine ex3a1 hot fun t1 t2 n1 eho => ?_
            clear hot
            subst eho
            refine ⟨a, _, _, _, _, rfl, .tail _ (.tail _ (mem8 (s1 _ ho))), rfl, rfl, ?_⟩
            intro I₂ oI₂ C₂ oC₂ A₂ m₂ g₂ k₂ E₂ hC₂ hx₂ hy₂ F4 N4 off₂ ne₂
            clear F22 N22 hv
            have hs7 := startN_lt nums i
            have hg7 := goalN_lt nums i
            refine an2 (hP.above (startN nums i) (Nat.le_of_lt_succ hs7)) fun ha1 ha2 => ?_
            refine an2 (hP.above (goalN nums i) (Nat.le_of_lt_succ hg7)) fun hb1 hb2 => ?_
            rw [hup] at ha1 ha2 hb1 hb2
            refine genH fun Q₂ hQ₂ => ?_
            (k_steps; all_goals (try ((first | ((with_reducible rename Held _ => hKQ); refine Held.out hKQ _ _ ?_; clear hKQ; (try dsimp only)) | ((with_reducible rename (∀ f s, KswPost _ _ _ _ _ _ _ _ _ _ _ _ f s → _) => hKQ); refine hKQ _ _ ?_; clear hKQ)); k_steps)); all_goals (try ((first | ((with_reducible rename Held _ => hKQ); refine Held.out hKQ _ _ ?_; clear hKQ; (try dsimp only)) | ((with_reducible rename (∀ f s, KswPost _ _ _ _ _ _ _ _ _ _ _ _ f s → _) => hKQ); refine hKQ _ _ ?_; clear hKQ)); k_steps)))
            unfold Halt
            refine nodes_spec hus (Nat.le_of_lt_succ hs7) (Nat.le_of_lt_succ hg7) ha1 hb1 ha2 hb2 ⟨_, (N4 (D6, listOf ys.toArray ys.length) (by k_mem)).1, rfl, _, rfl⟩ hys (by walk_at "S") d5 u50 fun A7 wv nw7 h12 tk12 hk12 hf12 hD12 hx12 => ?_
            have F5 := F4.keeps hk12
            have N5 := News.addOf F4 N4 hk12 hf12 hD12
            have ne5 := News.neOf N4 hf12
            clear F4 N4 hk12 hf12 hD12
            (k_steps; all_goals (try ((first | ((with_reducible rename Held _ => hKQ); refine Held.out hKQ _ _ ?_; clear hKQ; (try dsimp only)) | ((with_reducible rename (∀ f s, KswPost _ _ _ _ _ _ _ _ _ _ _ _ f s → _) => hKQ); refine hKQ _ _ ?_; clear hKQ)); k_steps)); all_goals (try ((first | ((with_reducible rename Held _ => hKQ); refine Held.out hKQ _ _ ?_; clear hKQ; (try dsimp only)) | ((with_reducible rename (∀ f s, KswPost _ _ _ _ _ _ _ _ _ _ _ _ f s → _) => hKQ); refine hKQ _ _ ?_; clear hKQ)); k_steps)))
            unfold Halt
            refine CompEnd.grow (news := (D12, listOf pv.toArray n12) :: (D9, LCg.lst (rv hs)) :: (D7, listOf xv.toArray n7) :: (D6, listOf ys.toArray ys.length) :: (D5, listOf nv.toArray 0) :: (L' + 1 + 1 + 1 + 1, oR) :: (L' + 1 + 1 + 1, oP2) :: (L' + 1 + 1, oU2) :: (L' + 1, oN2) :: tr) F5 N5 (Ne.symm (ne5 _ (.head _))) (Ne.symm (ne5 _ (.tail _ (.head _)))) (Ne.symm (ne5 _ (.tail _ (.tail _ (.head _))))) off₂ (SrcAt.led (n := (rv hs).length) (.tail _ (.head _))) (kont _ _ ⟨rs ++ [A7], rits ++ [(A7, listOf wv.toArray nw7)], tr ++ [(A7, listOf wv.toArray nw7)], rfl, by simp [rv], by rw [List.length_append, e4]; rfl, Its.snoc hK (by rw [e4]; exact ⟨wv, nw7, _, rfl, rowsF_at hup hi, hx12⟩), fun p hp => List.mem_append_left _ (s1 p hp), fun p hp => ?_, fun p hp => ?_⟩)
            · rcases List.mem_append.mp hp with hp | hp
              · exact List.mem_append_left _ (s2 p hp)
              · exact List.mem_append_right _ hp
            · rcases List.mem_append.mp hp with hp | hp
              · exact hT p hp
              · rw [List.mem_singleton.mp hp]
                exact Ne.symm (ne5 _ (.tail _ (.tail _ (.tail _ (.tail _ (.tail _ (.tail _ (.tail _ (.tail _ (.head _))))))))))
          · refine ex3a7 (hnw) fun rs rits tr e1 e2 e5 hK s3 s4 hT2 => ?_
            clear hnw
            subst e1 e2
            rw [hrs] at e5
            intro D14 h15 tk15 F23 N23 o23
            have o24 : LCg.Off1 D14 [(D12, listOf pv.toArray n12), (D9, LCg.lst (rv hs)), (D7, listOf xv.toArray n7), (D6, listOf ys.toArray ys.length), (D5, listOf nv.toArray 0), (L' + 1 + 1 + 1 + 1, oR), (L' + 1 + 1 + 1, oP2), (L' + 1 + 1, oU2), (L' + 1, oN2)] := off1_front (l' := tr) o23
            have t14 : ∀ p ∈ tr, p.1 ≠ D14 := fun p hp => off1_mem o23 p (.tail _ (.tail _ (mem8 hp)))
            clear o23 hI hJ s1 s2 s3 hT t10 t12 F22 N22
            simp only [LCg.Off1, and_true] at o24
            have z1 : (@Ne Nat D14 D12) ∧ (@Ne Nat D14 D7) ∧ (@Ne Nat D14 (L' + 1 + 1 + 1 + 1)) ∧ (@Ne Nat D12 (L' + 1 + 1 + 1 + 1)) ∧ (@Ne Nat D7 (L' + 1 + 1 + 1 + 1)) := ⟨Ne.symm o24.1, Ne.symm o24.2.2.1, Ne.symm o24.2.2.2.2.2.1, Ne.symm o22.2.2.2.2.2.1, Ne.symm ne13.2.2.1⟩
            have z1a := z1.2.2.1
            have z1b := z1.2.2.2.1
            have z1c := z1.2.2.2.2
            clear o24 o22 o21 o19 ne13 l6 oits hDe
            (try clear o9b)
            (try clear o9c)
            (try clear o9d)
            (try clear ne13c)
            (try clear ne13d)
            (try clear o9)
            replace N23 := News.sub (news' := (D14, LCg.lst (rv rs)) :: (D12, listOf pv.toArray n12) :: (D7, listOf xv.toArray n7) :: (L' + 1 + 1 + 1 + 1, oR) :: (L' + 1 + 1 + 1, oP2) :: (L' + 1 + 1, oU2) :: (L' + 1, oN2) :: tr) N23 (by walk_at "SUBS")
            k_steps
            unfold Halt
            (try clear F23)
            (try clear N23)
            (rename Fr _ _ _ _ => F24)
            (rename News _ _ _ _ => N24)
            rename_i _ oR2 dR2
            refine' ListComp_XU (F₀ := F24) ?a2 ?a3 ?a4 ?a5 ?a6 ?a7 ?_
            (case a2 => with_unfolding_all rfl)
            (case a3 => intro n; with_unfolding_all rfl)
            (case a4 => intro h; with_unfolding_all rfl)
            (case a5 => rfl)
            (case a6 => decide)
            (case a7 => intro cs C; with_unfolding_all rfl)
            k_steps
            (rename Fr _ _ _ _ => F25)
            (rename News _ _ _ _ => N25)
            (rename IsRange _ _ _ _ _ _ _ _ => R25)
            refine SrcXU.of (Drawn.range (n := 7) rfl F25 N25 R25 rfl rfl) ?hsz fun g5 => ?_
            (case hsz => decide)
            clear R25
            refine compXU_invK (n := 7) (fun i ys => IntsAre ys (zs ((loadsF nums).take i))) trivial (fun j ys' hj hys' v I₂ oI₂ C₂ oC₂ CA₂ oX₂ A₂ m₂ g₂ k₂ E₂ hv₂ hC₂ hx₂ F4 N4 off₂ ap₂ ne₂ => ?_) (fun ys' hys' => ?_) _ 0 [] (Nat.zero_add _) .nil
            · refine genH fun Q₂ hQ₂ => ?_
              refine Exists.elim (hv₂) fun t' eqe => ?_
              clear hv₂
              subst eqe
              rw [Int.zero_add] at *
              (try clear F24)
              (try clear N24)
              clear F25 N25
              (k_steps; all_goals (try ((first | ((with_reducible rename Held _ => hKQ); refine Held.out hKQ _ _ ?_; clear hKQ; (try dsimp only)) | ((with_reducible rename (∀ f s, KswPost _ _ _ _ _ _ _ _ _ _ _ _ f s → _) => hKQ); refine hKQ _ _ ?_; clear hKQ)); k_steps)); all_goals (try ((first | ((with_reducible rename Held _ => hKQ); refine Held.out hKQ _ _ ?_; clear hKQ; (try dsimp only)) | ((with_reducible rename (∀ f s, KswPost _ _ _ _ _ _ _ _ _ _ _ _ f s → _) => hKQ); refine hKQ _ _ ?_; clear hKQ)); k_steps)))
              unfold Halt
              refine' ListComp_WT (F₀ := F4) ?a2 ?a3 ?a4 ?a5 ?a6 ?_
              (case a2 => with_unfolding_all rfl)
              (case a3 => decide)
              (case a4 => rfl)
              (case a5 => decide)
              (case a6 => rfl)
              (k_steps; all_goals (try ((first | ((with_reducible rename Held _ => hKQ); refine Held.out hKQ _ _ ?_; clear hKQ; (try dsimp only)) | ((with_reducible rename (∀ f s, KswPost _ _ _ _ _ _ _ _ _ _ _ _ f s → _) => hKQ); refine hKQ _ _ ?_; clear hKQ)); k_steps)); all_goals (try ((first | ((with_reducible rename Held _ => hKQ); refine Held.out hKQ _ _ ?_; clear hKQ; (try dsimp only)) | ((with_reducible rename (∀ f s, KswPost _ _ _ _ _ _ _ _ _ _ _ _ f s → _) => hKQ); refine hKQ _ _ ?_; clear hKQ)); k_steps)))
              refine SrcWT.of (Drawn.led (vs := rv rs) rfl F4 N4 (show (D14, listOf (rv rs).toArray (rv rs).length) ∈ _ by k_mem)) ?hsz fun g6 => ?_
              (case hsz => rw [List.size_toArray, rv_len, e5, sizeLine_eq]; decide)
              refine compT_invK (fun k us' => us'.length = (((rowsF nums).take k).filter fun r => r.contains j).length) (fun k us' hk hus' v I₃ oI₃ C₃ oC₃ A₃ m₃ g₃ k₃ E₃ hv₃ hC₃ hx₃ F6 N6 off₃ ne₃ => ?_) (fun us' hus' => ?_) rfl
              · refine genH fun Q₂ hQ₂ => ?_
                have hk6 : k < 6 := by rw [List.size_toArray, rv_len, e5] at hk; exact hk
                refine Exists.elim (show ∃ a, rs[k]? = some a from ⟨_, List.getElem?_eq_getElem (Nat.lt_of_lt_of_eq hk6 e5.symm)⟩) fun a ha => ?_
                obtain rfl : v = .ref a := by
                  have h1 := rv_get ha
                  have h2 : (rv rs)[k]? = some v := by simpa using hv₃
                  rw [h1] at h2
                  exact (Option.some.inj h2).symm
                refine ex1a2 (hK.at ha) fun o ho hot => ?_
                refine ex3a3 hot fun wv wn l eho hl hwv => ?_
                clear hot
                subst eho
                clear F4 N4 hv₃
                (k_steps; all_goals (try ((first | ((with_reducible rename Held _ => hKQ); refine Held.out hKQ _ _ ?_; clear hKQ; (try dsimp only)) | ((with_reducible rename (∀ f s, KswPost _ _ _ _ _ _ _ _ _ _ _ _ f s → _) => hKQ); refine hKQ _ _ ?_; clear hKQ)); k_steps)); all_goals (try ((first | ((with_reducible rename Held _ => hKQ); refine Held.out hKQ _ _ ?_; clear hKQ; (try dsimp only)) | ((with_reducible rename (∀ f s, KswPost _ _ _ _ _ _ _ _ _ _ _ _ f s → _) => hKQ); refine hKQ _ _ ?_; clear hKQ)); k_steps)))
                unfold Halt
                refine in_list_ints (vs := wv) ⟨_, (N6 (a, listOf wv.toArray wn) ?mem).1, rfl, _, rfl⟩ hwv ?_
                case mem => exact List.mem_append_right [_, _, _, _, _, _, _, _, _, _, _, _, _, _] (s4 _ ho)
                rw [zs_any]
                have hfl := filt_rows j hl
                generalize hb : l.contains j = b at *
                cases b
                · (k_steps; all_goals (try ((first | ((with_reducible rename Held _ => hKQ); refine Held.out hKQ _ _ ?_; clear hKQ; (try dsimp only)) | ((with_reducible rename (∀ f s, KswPost _ _ _ _ _ _ _ _ _ _ _ _ f s → _) => hKQ); refine hKQ _ _ ?_; clear hKQ)); k_steps)); all_goals (try ((first | ((with_reducible rename Held _ => hKQ); refine Held.out hKQ _ _ ?_; clear hKQ; (try dsimp only)) | ((with_reducible rename (∀ f s, KswPost _ _ _ _ _ _ _ _ _ _ _ _ f s → _) => hKQ); refine hKQ _ _ ?_; clear hKQ)); k_steps)))
                  unfold Halt
                  refine CompEnd.same F6 N6 off₃ (SrcAt.led (n := (rv rs).length) (by k_mem)) ⟨rfl, ?_⟩
                  rw [hfl, if_neg Bool.false_ne_true, List.append_nil]
                  exact hus'
                · (k_steps; all_goals (try ((first | ((with_reducible rename Held _ => hKQ); refine Held.out hKQ _ _ ?_; clear hKQ; (try dsimp only)) | ((with_reducible rename (∀ f s, KswPost _ _ _ _ _ _ _ _ _ _ _ _ f s → _) => hKQ); refine hKQ _ _ ?_; clear hKQ)); k_steps)); all_goals (try ((first | ((with_reducible rename Held _ => hKQ); refine Held.out hKQ _ _ ?_; clear hKQ; (try dsimp only)) | ((with_reducible rename (∀ f s, KswPost _ _ _ _ _ _ _ _ _ _ _ _ f s → _) => hKQ); refine hKQ _ _ ?_; clear hKQ)); k_steps)))
                  unfold Halt
                  refine CompEnd.same F6 N6 off₃ (SrcAt.led (n := (rv rs).length) (by k_mem)) ⟨rfl, ?_⟩
                  rw [hfl, if_pos rfl, List.length_append, List.length_append, hus']; rfl
              · have hrl : (rowsF nums).length = 6 := by unfold rowsF; simp
                have hul : (rowsF nums).take (rv rs).toArray.size = rowsF nums := List.take_of_length_le (by rw [List.size_toArray, rv_len, e5, hrl]; exact Nat.le_refl _)
                rw [hul] at hus'
                have hle6 : us'.length ≤ 6 := by rw [hus', ← hrl]; exact List.length_filter_le _ _
                intro D16 h16 tk16 F7 N7 o7
                clear F4 N4
                (k_steps; all_goals (try ((first | ((with_reducible rename Held _ => hKQ); refine Held.out hKQ _ _ ?_; clear hKQ; (try dsimp only)) | ((with_reducible rename (∀ f s, KswPost _ _ _ _ _ _ _ _ _ _ _ _ f s → _) => hKQ); refine hKQ _ _ ?_; clear hKQ)); k_steps)); all_goals (try ((first | ((with_reducible rename Held _ => hKQ); refine Held.out hKQ _ _ ?_; clear hKQ; (try dsimp only)) | ((with_reducible rename (∀ f s, KswPost _ _ _ _ _ _ _ _ _ _ _ _ f s → _) => hKQ); refine hKQ _ _ ?_; clear hKQ)); k_steps)))
                unfold Halt
                refine len_list (items := us'.toArray) ⟨_, (N7 _ (.head _)).1, rfl, _, rfl⟩ (by rw [List.size_toArray]; exact Int.lt_of_le_of_lt (Int.ofNat_le.mpr hle6) (by decide)) ?_
                (k_steps; all_goals (try ((first | ((with_reducible rename Held _ => hKQ); refine Held.out hKQ _ _ ?_; clear hKQ; (try dsimp only)) | ((with_reducible rename (∀ f s, KswPost _ _ _ _ _ _ _ _ _ _ _ _ f s → _) => hKQ); refine hKQ _ _ ?_; clear hKQ)); k_steps)); all_goals (try ((first | ((with_reducible rename Held _ => hKQ); refine Held.out hKQ _ _ ?_; clear hKQ; (try dsimp only)) | ((with_reducible rename (∀ f s, KswPost _ _ _ _ _ _ _ _ _ _ _ _ f s → _) => hKQ); refine hKQ _ _ ?_; clear hKQ)); k_steps)))
                unfold Halt
                refine LCg.CompEnd.intro F7 N7 _ (fun _ hp => .tail _ hp) off₂ trivial ⟨rfl, ?_⟩
                rw [loadsF_step nums hj, zs_append]
                refine hys'.append ?_
                rw [List.size_toArray, hus']
                exact .cons _ _ .nil
            · have hll : (loadsF nums).take 7 = loadsF nums := List.take_of_length_le (by unfold loadsF; simp)
              rw [hll] at hys'
              intro D17 h17 tk17 F26 N26 o26
              (try clear F24)
              (try clear N24)
              clear F25 N25 o26
              k_steps
              unfold Halt
              refine kso_max F26 N26 ⟨_, (N26 _ (.head _)).1, rfl, _, rfl⟩ hys' ?hne rfl fun h18 M t18 tk18 F27 N27 hM1 hM2 => ?_
              case hne => rw [zs_len]; unfold loadsF; simp
              refine ex1a2 (zs_mem hM1) fun mm hmm eqf => ?_
              subst eqf
              have hm7 := loadsF_le nums hmm
              have hds := hmost mm hmm fun a ha => by
                have := hM2 _ (List.mem_map.mpr ⟨a, ha, rfl⟩)
                exact Int.ofNat_le.mp this
              replace N27 := News.sub (news' := (D14, LCg.lst (rv rs)) :: (D12, listOf pv.toArray n12) :: (D7, listOf xv.toArray n7) :: (L' + 1 + 1 + 1 + 1, oR2) :: (L' + 1 + 1 + 1, oP2) :: (L' + 1 + 1, oU2) :: (L' + 1, oN2) :: tr) N27 (fun p hp => .tail _ hp)
              clear F26 N26 hM1 hM2
              k_steps
              unfold Halt
              (rename Fr _ _ _ _ => F28)
              (rename News _ _ _ _ => N28)
              replace hp14 : IntsAre pv (zs (colsF cs)) := hp14
              refine call_set_nat rfl F28 N28 ⟨_, (N28 (D12, listOf pv.toArray n12) (by k_mem)).1, rfl, _, rfl⟩ hp14 hc6 fun D18 oS h19 tk19 F29 N29 l29 hSN => ?_
              clear F28 N28
              k_lt l29
              k_steps
              unfold Halt
              refine sorted_set rfl F29 N29 (.head _) hSN fun D19 sv2 c19 h20 tk20 F30 N30 l30 hsv => ?_
              clear F29 N29
              k_lt l30
              rw [hds] at hsv
              k_steps
              unfold Halt
              (rename Fr _ _ _ _ => F31)
              (rename News _ _ _ _ => N31)
              (rename IsRange _ _ _ _ _ _ _ _ => R31)
              refine list_range_led (n := mm) rfl F31 N31 R31 (range_small hm7) (range_size hm7) (Nat.le_trans (Nat.le_of_lt hm7) (by decide)) fun D20 rvv k20 h21 tk21 F32 N32 l32 hrv => ?_
              clear F31 N31 R31
              k_lt l32
              k_steps
              unfold Halt
              refine ke_ne_ints (xs := sv2) (ys := rvv) ⟨_, (N32 (D19, listOf sv2.toArray c19) (by k_mem)).1, rfl, _, rfl⟩ ⟨_, (N32 _ (.head _)).1, rfl, _, rfl⟩ hsv hrv u64 ?_
              rw [show (!decide (zs (List.range mm) = zs (List.range mm))) = false by simp]
              replace N32 := News.sub (news' := (D14, LCg.lst (rv rs)) :: (D12, listOf pv.toArray n12) :: (D7, listOf xv.toArray n7) :: (L' + 1 + 1 + 1 + 1, oR2) :: (L' + 1 + 1 + 1, oP2) :: (L' + 1 + 1, oU2) :: (L' + 1, oN2) :: tr) N32 (fun p hp => .tail _ (.tail _ (.tail _ hp)))
              clear l29 l30 l32 hsv hrv hSN
              k_steps
              unfold Halt
              (rename Fr _ _ _ _ => F33)
              (rename News _ _ _ _ => N33)
              refine due_spec (ra := D14) (ta := D7) (rrefs := rs) (R := rowsF nums) (X := pathsF nums) (tv := xv) (by walk_at "S") d5 u120 ⟨_, (N33 _ (.head _)).1, rfl, _, rfl⟩ (by unfold rowsF; simp) ⟨by rw [e5]; unfold rowsF; simp, ?rk⟩ (fun l hl => (hP.rows l hl).1) (fun l hl => (hP.rows l hl).2) ⟨_, (N33 (D7, listOf xv.toArray n7) (by k_mem)).1, rfl, _, rfl⟩ hx9 hXl hP.perm fun D21 dv n21 h22 tk22 hk22 hf22 hD22 hdv => ?_
              case rk =>
                intro k a l ha hl
                obtain ⟨o, ho, wv, wn, l', rfl, hl', hwv⟩ := hK.at ha
                rw [hl] at hl'
                cases hl'
                exact ⟨wv, ⟨_, (N33 (a, listOf wv.toArray wn) (mem8' (s4 _ ho))).1, rfl, _, rfl⟩, hwv⟩
              replace hdv : IntsAre dv (zs (colsF cs)) := by rw [hsame]; exact hdv
              have F34 := F33.keeps hk22
              have N34 := News.addOf F33 N33 hk22 hf22 hD22
              clear F33 N33 hk22 hf22 hD22
              k_steps
              unfold Halt
              refine ke_eq_ints (xs := pv) (ys := dv) ⟨_, (N34 (D12, listOf pv.toArray n12) (by k_mem)).1, rfl, _, rfl⟩ ⟨_, (N34 _ (.head _)).1, rfl, _, rfl⟩ hp14 hdv u64 ?_
              rw [show decide (zs (colsF cs) = zs (colsF cs)) = true by simp]
              (try k_steps)
              (try dsimp only)
              (try k_unfold)
              exact h _ _ F34.keep
end
end D17Part
end Mine
theorem PySem.Challenge.cw_pd0148_01_holds : PySem.Challenge.rw_pd0148_01.Holds := by
  refine Mine.hd ?_
  k_fill
  intro w s₀ s₁ mg mb G Y fa o pm cd doc dV kV ho hd hcd hD hmg hg args vals as hpre hlay hrd hwl hlo
  have KX := kIn_of Y
  have X := (Ground.X G).1
  refine Ground.open G ?_
  intro T B D TE TW
  try (refine guard_noD D (by decide +kernel) ?_; clear D)
  have hfa := mg_of (n := Str.ofString "law") (v := .ref 210) KX (Top.g T) (by kernel_rfl)
  obtain rfl : fa = 210 := by
    have e : some (Value.ref fa) = some (Value.ref 210) := hmg.symm.trans hfa
    cases e
    rfl
  clear hcd hD ho hd hmg hfa
  wrow_args hpre hlay hrd hwl hlo
  rename_i ns _ _ _ _ _ _ _ la vs _ hL _ _ _ hI _ hlen _
  refine Mine.law_spec ⟨KX, T⟩ hL hI (by omega) (fun nums _ => Mine.plan nums) (by decide +kernel) (by decide +kernel) fun h' tk' hk => GoodW.toG ⟨.inl ⟨_, .bool true, [], rfl, fun cls => ?hr, .bool true, ?hp, unshared_nil⟩, hk, rfl, hg⟩
  case hr => with_unfolding_all rfl
  case hp => with_unfolding_all rfl
